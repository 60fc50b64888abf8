import JvmDerived
import JvmDerived.Pilot.@@N@@Statement
import JvmDerived.Pilot.@@N@@Code
set_option linter.unusedVariables false
set_option linter.unusedSimpArgs false
namespace Jvm.Pilot.@@N@@
open Jvm Jvm.ClassFile Sem Op Lib Jvm.Free Jvm.Stand Jvm.LawKit Jvm.RoadKit Bundle Jvm.Pilot.@@N@@.Jvm.D
theorem pd_0 : parseMethodDescriptor "(JJ)J" = some ⟨[.long, .long], some .long⟩ := by decide +kernel
theorem pd_1 : parseMethodDescriptor "(II)J" = some ⟨[.int, .int], some .long⟩ := by decide +kernel
theorem pd_2 : parseMethodDescriptor "()V" = some ⟨[], none⟩ := by decide +kernel
theorem pd_3 : parseMethodDescriptor "(JI)J" = some ⟨[.long, .int], some .long⟩ := by decide +kernel
theorem pd_4 : parseMethodDescriptor "(III)V" = some ⟨[.int, .int, .int], none⟩ := by decide +kernel
theorem pd_5 : parseMethodDescriptor "()I" = some ⟨[], some .int⟩ := by decide +kernel
theorem own_ext_refl (h : Heap) : Ext h h := ⟨Nat.le_refl _, fun _ _ q => q⟩
theorem own_ext_trans {h h' h'' : Heap} (E : Ext h h') (F : Ext h' h'') : Ext h h'' := ⟨Nat.le_trans E.1 F.1, fun a c q => F.2 a c (E.2 a c q)⟩
theorem own_ext_keep {h h' h'' : Heap} {ws : List Addr} (E : Ext h h') (K : Keep h' h'' ws) (q : ∀ x ∈ ws, h.size ≤ x) : Ext h h'' := ⟨Nat.le_trans E.1 K.1, fun a c r => K.2.1 a c (E.2 a c r) fun z => absurd (Array.getElem?_eq_some_iff.mp r).1 (Nat.not_lt.mpr (q a z))⟩
theorem own_ext_wr {h h' h'' : Heap} {a : Addr} {sl : Nat} {v : Value} (E : Ext h h') (W : Wr h' h'' a sl v) (q : h.size ≤ a) : Ext h h'' := own_ext_keep E (Keep.of_wr W) (allS q all0)
theorem d1_0 : decode method_3_code 0 = .ok (.lload_n 0, 1) := by decide +kernel
theorem d1_1 : decode method_3_code 1 = .ok (.lstore_n 3, 1) := by decide +kernel
theorem d1_2 : decode method_3_code 2 = .ok (.lload_n 3, 1) := by decide +kernel
theorem d1_3 : decode method_3_code 3 = .ok (.lload_n 3, 1) := by decide +kernel
theorem d1_4 : decode method_3_code 4 = .ok (.invokestatic 9, 3) := by decide +kernel
theorem d1_7 : decode method_3_code 7 = .ok (.lstore 5, 2) := by decide +kernel
theorem d1_9 : decode method_3_code 9 = .ok (.lload 5, 2) := by decide +kernel
theorem d1_11 : decode method_3_code 11 = .ok (.lload 5, 2) := by decide +kernel
theorem d1_13 : decode method_3_code 13 = .ok (.invokestatic 9, 3) := by decide +kernel
theorem d1_16 : decode method_3_code 16 = .ok (.lstore 7, 2) := by decide +kernel
theorem d1_18 : decode method_3_code 18 = .ok (.lload 7, 2) := by decide +kernel
theorem d1_20 : decode method_3_code 20 = .ok (.lload 7, 2) := by decide +kernel
theorem d1_22 : decode method_3_code 22 = .ok (.invokestatic 9, 3) := by decide +kernel
theorem d1_25 : decode method_3_code 25 = .ok (.lstore 9, 2) := by decide +kernel
theorem d1_27 : decode method_3_code 27 = .ok (.lload 9, 2) := by decide +kernel
theorem d1_29 : decode method_3_code 29 = .ok (.lload 9, 2) := by decide +kernel
theorem d1_31 : decode method_3_code 31 = .ok (.invokestatic 9, 3) := by decide +kernel
theorem d1_34 : decode method_3_code 34 = .ok (.lstore 11, 2) := by decide +kernel
theorem d1_36 : decode method_3_code 36 = .ok (.lconst 1, 1) := by decide +kernel
theorem d1_37 : decode method_3_code 37 = .ok (.lstore 13, 2) := by decide +kernel
theorem d1_39 : decode method_3_code 39 = .ok (.iload_n 2, 1) := by decide +kernel
theorem d1_40 : decode method_3_code 40 = .ok (.iconst 1, 1) := by decide +kernel
theorem d1_41 : decode method_3_code 41 = .ok (.iand, 1) := by decide +kernel
theorem d1_42 : decode method_3_code 42 = .ok (.ifCond .eq 11, 3) := by decide +kernel
theorem d1_45 : decode method_3_code 45 = .ok (.lload 13, 2) := by decide +kernel
theorem d1_47 : decode method_3_code 47 = .ok (.lload_n 3, 1) := by decide +kernel
theorem d1_48 : decode method_3_code 48 = .ok (.invokestatic 9, 3) := by decide +kernel
theorem d1_51 : decode method_3_code 51 = .ok (.lstore 13, 2) := by decide +kernel
theorem d1_53 : decode method_3_code 53 = .ok (.iload_n 2, 1) := by decide +kernel
theorem d1_54 : decode method_3_code 54 = .ok (.iconst 2, 1) := by decide +kernel
theorem d1_55 : decode method_3_code 55 = .ok (.iand, 1) := by decide +kernel
theorem d1_56 : decode method_3_code 56 = .ok (.ifCond .eq 12, 3) := by decide +kernel
theorem d1_59 : decode method_3_code 59 = .ok (.lload 13, 2) := by decide +kernel
theorem d1_61 : decode method_3_code 61 = .ok (.lload 5, 2) := by decide +kernel
theorem d1_63 : decode method_3_code 63 = .ok (.invokestatic 9, 3) := by decide +kernel
theorem d1_66 : decode method_3_code 66 = .ok (.lstore 13, 2) := by decide +kernel
theorem d1_68 : decode method_3_code 68 = .ok (.iload_n 2, 1) := by decide +kernel
theorem d1_69 : decode method_3_code 69 = .ok (.iconst 4, 1) := by decide +kernel
theorem d1_70 : decode method_3_code 70 = .ok (.iand, 1) := by decide +kernel
theorem d1_71 : decode method_3_code 71 = .ok (.ifCond .eq 12, 3) := by decide +kernel
theorem d1_74 : decode method_3_code 74 = .ok (.lload 13, 2) := by decide +kernel
theorem d1_76 : decode method_3_code 76 = .ok (.lload 7, 2) := by decide +kernel
theorem d1_78 : decode method_3_code 78 = .ok (.invokestatic 9, 3) := by decide +kernel
theorem d1_81 : decode method_3_code 81 = .ok (.lstore 13, 2) := by decide +kernel
theorem d1_83 : decode method_3_code 83 = .ok (.iload_n 2, 1) := by decide +kernel
theorem d1_84 : decode method_3_code 84 = .ok (.bipush 8, 2) := by decide +kernel
theorem d1_86 : decode method_3_code 86 = .ok (.iand, 1) := by decide +kernel
theorem d1_87 : decode method_3_code 87 = .ok (.ifCond .eq 12, 3) := by decide +kernel
theorem d1_90 : decode method_3_code 90 = .ok (.lload 13, 2) := by decide +kernel
theorem d1_92 : decode method_3_code 92 = .ok (.lload 9, 2) := by decide +kernel
theorem d1_94 : decode method_3_code 94 = .ok (.invokestatic 9, 3) := by decide +kernel
theorem d1_97 : decode method_3_code 97 = .ok (.lstore 13, 2) := by decide +kernel
theorem d1_99 : decode method_3_code 99 = .ok (.iload_n 2, 1) := by decide +kernel
theorem d1_100 : decode method_3_code 100 = .ok (.bipush 16, 2) := by decide +kernel
theorem d1_102 : decode method_3_code 102 = .ok (.iand, 1) := by decide +kernel
theorem d1_103 : decode method_3_code 103 = .ok (.ifCond .eq 12, 3) := by decide +kernel
theorem d1_106 : decode method_3_code 106 = .ok (.lload 13, 2) := by decide +kernel
theorem d1_108 : decode method_3_code 108 = .ok (.lload 11, 2) := by decide +kernel
theorem d1_110 : decode method_3_code 110 = .ok (.invokestatic 9, 3) := by decide +kernel
theorem d1_113 : decode method_3_code 113 = .ok (.lstore 13, 2) := by decide +kernel
theorem d1_115 : decode method_3_code 115 = .ok (.lload 13, 2) := by decide +kernel
theorem d1_117 : decode method_3_code 117 = .ok (.lreturn, 1) := by decide +kernel
theorem d2_0 : decode method_2_code 0 = .ok (.lload_n 0, 1) := by decide +kernel
theorem d2_1 : decode method_2_code 1 = .ok (.lload_n 2, 1) := by decide +kernel
theorem d2_2 : decode method_2_code 2 = .ok (.lmul, 1) := by decide +kernel
theorem d2_3 : decode method_2_code 3 = .ok (.lstore 4, 2) := by decide +kernel
theorem d2_5 : decode method_2_code 5 = .ok (.lload 4, 2) := by decide +kernel
theorem d2_7 : decode method_2_code 7 = .ok (.ldc2_w 7, 3) := by decide +kernel
theorem d2_10 : decode method_2_code 10 = .ok (.lcmp, 1) := by decide +kernel
theorem d2_11 : decode method_2_code 11 = .ok (.ifCond .le 9, 3) := by decide +kernel
theorem d2_14 : decode method_2_code 14 = .ok (.ldc2_w 7, 3) := by decide +kernel
theorem d2_17 : decode method_2_code 17 = .ok (.goto 5, 3) := by decide +kernel
theorem d2_20 : decode method_2_code 20 = .ok (.lload 4, 2) := by decide +kernel
theorem d2_22 : decode method_2_code 22 = .ok (.lreturn, 1) := by decide +kernel
theorem d3_0 : decode prog_19_method_1_code 0 = .ok (.aload_n 0, 1) := by decide +kernel
theorem d3_1 : decode prog_19_method_1_code 1 = .ok (.invokespecial 1, 3) := by decide +kernel
theorem d3_4 : decode prog_19_method_1_code 4 = .ok (.aload_n 0, 1) := by decide +kernel
theorem d3_5 : decode prog_19_method_1_code 5 = .ok (.iload_n 1, 1) := by decide +kernel
theorem d3_6 : decode prog_19_method_1_code 6 = .ok (.putfield 7, 3) := by decide +kernel
theorem d3_9 : decode prog_19_method_1_code 9 = .ok (.aload_n 0, 1) := by decide +kernel
theorem d3_10 : decode prog_19_method_1_code 10 = .ok (.iload_n 2, 1) := by decide +kernel
theorem d3_11 : decode prog_19_method_1_code 11 = .ok (.putfield 13, 3) := by decide +kernel
theorem d3_14 : decode prog_19_method_1_code 14 = .ok (.aload_n 0, 1) := by decide +kernel
theorem d3_15 : decode prog_19_method_1_code 15 = .ok (.iload_n 3, 1) := by decide +kernel
theorem d3_16 : decode prog_19_method_1_code 16 = .ok (.putfield 16, 3) := by decide +kernel
theorem d3_19 : decode prog_19_method_1_code 19 = .ok (.return_, 1) := by decide +kernel
theorem d4_0 : decode jdk_30_method_1_code 0 = .ok (.aload_n 0, 1) := by decide +kernel
theorem d4_1 : decode jdk_30_method_1_code 1 = .ok (.invokespecial 1, 3) := by decide +kernel
theorem d4_4 : decode jdk_30_method_1_code 4 = .ok (.return_, 1) := by decide +kernel
theorem d6_0 : decode prog_19_method_3_code 0 = .ok (.aload_n 0, 1) := by decide +kernel
theorem d6_1 : decode prog_19_method_3_code 1 = .ok (.getfield 13, 3) := by decide +kernel
theorem d6_4 : decode prog_19_method_3_code 4 = .ok (.aload_n 0, 1) := by decide +kernel
theorem d6_5 : decode prog_19_method_3_code 5 = .ok (.getfield 16, 3) := by decide +kernel
theorem d6_8 : decode prog_19_method_3_code 8 = .ok (.invokestatic 37, 3) := by decide +kernel
theorem d6_11 : decode prog_19_method_3_code 11 = .ok (.l2i, 1) := by decide +kernel
theorem d6_12 : decode prog_19_method_3_code 12 = .ok (.iconst 1, 1) := by decide +kernel
theorem d6_13 : decode prog_19_method_3_code 13 = .ok (.iadd, 1) := by decide +kernel
theorem d6_14 : decode prog_19_method_3_code 14 = .ok (.ireturn, 1) := by decide +kernel
theorem d7_0 : decode prog_19_method_4_code 0 = .ok (.lconst 1, 1) := by decide +kernel
theorem d7_1 : decode prog_19_method_4_code 1 = .ok (.lstore_n 2, 1) := by decide +kernel
theorem d7_2 : decode prog_19_method_4_code 2 = .ok (.iconst 0, 1) := by decide +kernel
theorem d7_3 : decode prog_19_method_4_code 3 = .ok (.istore 4, 2) := by decide +kernel
theorem d7_5 : decode prog_19_method_4_code 5 = .ok (.iload 4, 2) := by decide +kernel
theorem d7_7 : decode prog_19_method_4_code 7 = .ok (.iload_n 1, 1) := by decide +kernel
theorem d7_8 : decode prog_19_method_4_code 8 = .ok (.if_icmp .ge 22, 3) := by decide +kernel
theorem d7_11 : decode prog_19_method_4_code 11 = .ok (.lload_n 2, 1) := by decide +kernel
theorem d7_12 : decode prog_19_method_4_code 12 = .ok (.ldc2_w 41, 3) := by decide +kernel
theorem d7_15 : decode prog_19_method_4_code 15 = .ok (.lcmp, 1) := by decide +kernel
theorem d7_16 : decode prog_19_method_4_code 16 = .ok (.ifCond .gt 14, 3) := by decide +kernel
theorem d7_19 : decode prog_19_method_4_code 19 = .ok (.lload_n 2, 1) := by decide +kernel
theorem d7_20 : decode prog_19_method_4_code 20 = .ok (.iload_n 0, 1) := by decide +kernel
theorem d7_21 : decode prog_19_method_4_code 21 = .ok (.i2l, 1) := by decide +kernel
theorem d7_22 : decode prog_19_method_4_code 22 = .ok (.lmul, 1) := by decide +kernel
theorem d7_23 : decode prog_19_method_4_code 23 = .ok (.lstore_n 2, 1) := by decide +kernel
theorem d7_24 : decode prog_19_method_4_code 24 = .ok (.iinc 4 1, 3) := by decide +kernel
theorem d7_27 : decode prog_19_method_4_code 27 = .ok (.goto (-22), 3) := by decide +kernel
theorem d7_30 : decode prog_19_method_4_code 30 = .ok (.lload_n 2, 1) := by decide +kernel
theorem d7_31 : decode prog_19_method_4_code 31 = .ok (.lreturn, 1) := by decide +kernel
def own_mul (a b : Int64) : Int64 := if (1000000000 : Int64) < (a * b) then (1000000000 : Int64) else (a * b)
def Qmul (Z : State) (q1 : Int64) (q2 : Int64) (res : Int64) (h0 : Heap) (n0 : Nat) (v : Option Value) (h : Heap) (L : List Loc) : Prop := v = some (.long res) ∧ Fr n0 L ∧ h = h0
theorem pn_2 : plainName "com/example/tidegauge/tidegauge/MacroClusterSettingsSnapshotsPerOrderPinLaw" = true := by first | (simp [plainName, overriddenIn]; done) | decide +kernel
theorem ef_rm_mul (m : MethodId) (x0 : Int64) (x1 : Int64) : entryFrame m #[(.long x0), (.long x1)] 6 = mkF m 0 #[.val (.long x0), .second, .val (.long x1), .second, .unset, .unset] [] := by first | (simp [entryFrame, mkF, argsToLocals, Value.category]; done) | rfl
set_option maxRecDepth 65536 in
set_option maxHeartbeats 40000000 in
theorem rm_mul (l : Launch) (Z : State) (a0 : Array Value) (hw : ∀ d ∈ tables_1, d.before a0 Z = true) (ws : List Jvm.Cond) (q1 : Int64) (q2 : Int64) (h0 : Heap) (n0 : Nat) (Z0 : n0 ≤ h0.size) (res : Int64) (hres : own_mul q1 q2 = res) :
    MetFree l (⟨"com/example/tidegauge/tidegauge/MacroClusterSettingsSnapshotsPerOrderPinLaw", "mul", "(JJ)J"⟩ : MethodName) (head1 (Jvm.Cond.code (⟨"com/example/tidegauge/tidegauge/MacroClusterSettingsSnapshotsPerOrderPinLaw", "mul", "(JJ)J"⟩ : MethodName) method_2_code 6 (some .long) :: ws) ({ frames := 0, cells := 0, slots := 0, locals := 0 } : Room)) (fun a U => a = #[(.long q1), (.long q2)] ∧ Z.Warmed39 U.vm ∧ U.heap = h0) (fun _ _ _ _ _ => True) (fun _ U o U' => ∃ v L, o = .returned v ∧ Qmul Z q1 q2 res h0 n0 v U'.heap L ∧ FrameEnd U o U' L ({ frames := 0, cells := 0, slots := 0, locals := 0 } : Room).cells ({ frames := 0, cells := 0, slots := 0, locals := 0 } : Room).slots) := by
  refine MetFree.of_bodySF (plainFor_of_name pn_2) hisR ?_
  intro p e s m args below meth c s₁ Bd hml0 hP hK
  obtain ⟨rfl, hZ, hh⟩ := hP
  have hx := Bd.exec
  have hby := Bd.bytes
  have hml : c.maxLocals = 6 := hml0
  have hown : s.vm.findClass "com/example/tidegauge/tidegauge/MacroClusterSettingsSnapshotsPerOrderPinLaw" = some m.cls := findClass_of_methodNamed Bd.named
  have hnm := (name_of_methodNamed Bd.named Bd.method).1
  have X0 : Stand p l e ({ frames := 0, cells := 0, slots := 0, locals := 0 } : Room) s m #[(.long q1), (.long q2)] below meth c s₁ [] 0 0 := Stand.of_body Bd
  have e0 : s₁.heap = h0 := by rw [← hh, Bd.state]; rfl
  have N0 := Fr.nil n0
  have pre0 : ∀ t, Steps p.tables e below (s₁.setTop (mkF m 0 #[.val (.long q1), .second, .val (.long q2), .second, .unset, .unset] [])) t → Steps p.tables e below (s₁.setTop (entryFrame m #[(.long q1), (.long q2)] 6)) t := fun t k => castTop (ef_rm_mul m q1 q2) k
  have pre1 : ∀ t, Steps p.tables e below (s₁.setTop (mkF m 11 #[.val (.long q1), .second, .val (.long q2), .second, .val (.long (q1 * q2)), .second] [(.int (lcmpW (q1 * q2) (1000000000 : Int64)))])) t → Steps p.tables e below (s₁.setTop (entryFrame m #[(.long q1), (.long q2)] 6)) t := fun t k => pre0 t (by
    show Steps p.tables e below (s₁.setTop (mkF m 0 #[.val (.long q1), .second, .val (.long q2), .second, .unset, .unset] [])) _
    refine XS.lloadN X0.here hx rfl (hb hby d2_0) rfl ?_
    show Steps p.tables e below (s₁.setTop (mkF m 1 #[.val (.long q1), .second, .val (.long q2), .second, .unset, .unset] [(.long q1)])) _
    refine XS.lloadN X0.here hx rfl (hb hby d2_1) rfl ?_
    show Steps p.tables e below (s₁.setTop (mkF m 2 #[.val (.long q1), .second, .val (.long q2), .second, .unset, .unset] [(.long q2), (.long q1)])) _
    refine XS.lmul X0.here hx rfl (hb hby d2_2) rfl ?_
    show Steps p.tables e below (s₁.setTop (mkF m 3 #[.val (.long q1), .second, .val (.long q2), .second, .unset, .unset] [(.long (q1 * q2))])) _
    refine XS.lstore X0.here hx rfl (hb hby d2_3) rfl (l' := #[.val (.long q1), .second, .val (.long q2), .second, .val (.long (q1 * q2)), .second]) rfl ?_
    show Steps p.tables e below (s₁.setTop (mkF m 5 #[.val (.long q1), .second, .val (.long q2), .second, .val (.long (q1 * q2)), .second] [])) _
    refine XS.lload X0.here hx rfl (hb hby d2_5) rfl ?_
    show Steps p.tables e below (s₁.setTop (mkF m 7 #[.val (.long q1), .second, .val (.long q2), .second, .val (.long (q1 * q2)), .second] [(.long (q1 * q2))])) _
    refine X0.ldc2Long hx hown (mvT hZ (hw _ (List.mem_of_getElem? (i := 10) rfl))) (g := (mkF m 7 #[.val (.long q1), .second, .val (.long q2), .second, .val (.long (q1 * q2)), .second] [(.long (q1 * q2))])) rfl (hb hby d2_7) _ ?_
    show Steps p.tables e below (s₁.setTop (mkF m 10 #[.val (.long q1), .second, .val (.long q2), .second, .val (.long (q1 * q2)), .second] [(.long (1000000000 : Int64)), (.long (q1 * q2))])) _
    refine XS.lcmp X0.here hx rfl (hb hby d2_10) rfl ?_
    exact k)
  by_cases hc11_2 : (1000000000 : Int64) < (q1 * q2)
  · have _ := 0
    have pre3 : ∀ t, Steps p.tables e below (s₁.setTop (mkF m 22 #[.val (.long q1), .second, .val (.long q2), .second, .val (.long (q1 * q2)), .second] [(.long (1000000000 : Int64))])) t → Steps p.tables e below (s₁.setTop (entryFrame m #[(.long q1), (.long q2)] 6)) t := fun t k => pre1 t (by
      show Steps p.tables e below (s₁.setTop (mkF m 11 #[.val (.long q1), .second, .val (.long q2), .second, .val (.long (q1 * q2)), .second] [(.int (lcmpW (q1 * q2) (1000000000 : Int64)))])) _
      refine XS.ifNo X0.here hx rfl (hb hby d2_11) rfl ((if0 _ _).trans (tlt ((lw_gt (q1 * q2) (1000000000 : Int64)).mpr hc11_2)).2.2.2) ?_
      show Steps p.tables e below (s₁.setTop (mkF m 14 #[.val (.long q1), .second, .val (.long q2), .second, .val (.long (q1 * q2)), .second] [])) _
      refine X0.ldc2Long hx hown (mvT hZ (hw _ (List.mem_of_getElem? (i := 10) rfl))) (g := (mkF m 14 #[.val (.long q1), .second, .val (.long q2), .second, .val (.long (q1 * q2)), .second] [])) rfl (hb hby d2_14) _ ?_
      show Steps p.tables e below (s₁.setTop (mkF m 17 #[.val (.long q1), .second, .val (.long q2), .second, .val (.long (q1 * q2)), .second] [(.long (1000000000 : Int64))])) _
      refine XS.goto X0.here hx rfl (pc0 := 17) (pc' := 22) rfl (hb hby d2_17) (by decide) (by decide) ?_
      exact k)
    obtain ⟨fs, hr, hrun, hended, hW, hsame⟩ := X0.leave (v := some (.long (1000000000 : Int64))) (fun h => by rw [Bd.returns] at h; cases h)
    refine ⟨_, _, pre3 _ ?_, hrun, hended, _, _, rfl, ?_, ⟨_, rfl⟩, hW, hsame.mono (by decide) (by decide)⟩
    · show Steps p.tables e below (s₁.setTop (mkF m 22 #[.val (.long q1), .second, .val (.long q2), .second, .val (.long (q1 * q2)), .second] [(.long (1000000000 : Int64))])) _
      exact retOut X0 hx Bd.returns rfl (Or.inr (Or.inl ⟨rfl, rfl, _, rfl⟩)) (hb hby d2_22) hr
    · show Qmul Z q1 q2 res h0 n0 _ s₁.heap _
      rw [e0]
      exact ⟨by rw [← hres]; simp only [own_mul, if_pos hc11_2], N0, rfl⟩
  · have _ := 0
    have pre4 : ∀ t, Steps p.tables e below (s₁.setTop (mkF m 22 #[.val (.long q1), .second, .val (.long q2), .second, .val (.long (q1 * q2)), .second] [(.long (q1 * q2))])) t → Steps p.tables e below (s₁.setTop (entryFrame m #[(.long q1), (.long q2)] 6)) t := fun t k => pre1 t (by
      show Steps p.tables e below (s₁.setTop (mkF m 11 #[.val (.long q1), .second, .val (.long q2), .second, .val (.long (q1 * q2)), .second] [(.int (lcmpW (q1 * q2) (1000000000 : Int64)))])) _
      refine XS.ifYes X0.here hx rfl (pc0 := 11) (pc' := 20) rfl (hb hby d2_11) rfl ((if0 _ _).trans (flt (fun qh_ => hc11_2 ((lw_gt (q1 * q2) (1000000000 : Int64)).mp qh_))).2.2.2) (by decide) (by decide) ?_
      show Steps p.tables e below (s₁.setTop (mkF m 20 #[.val (.long q1), .second, .val (.long q2), .second, .val (.long (q1 * q2)), .second] [])) _
      refine XS.lload X0.here hx rfl (hb hby d2_20) rfl ?_
      exact k)
    obtain ⟨fs, hr, hrun, hended, hW, hsame⟩ := X0.leave (v := some (.long (q1 * q2))) (fun h => by rw [Bd.returns] at h; cases h)
    refine ⟨_, _, pre4 _ ?_, hrun, hended, _, _, rfl, ?_, ⟨_, rfl⟩, hW, hsame.mono (by decide) (by decide)⟩
    · show Steps p.tables e below (s₁.setTop (mkF m 22 #[.val (.long q1), .second, .val (.long q2), .second, .val (.long (q1 * q2)), .second] [(.long (q1 * q2))])) _
      exact retOut X0 hx Bd.returns rfl (Or.inr (Or.inl ⟨rfl, rfl, _, rfl⟩)) (hb hby d2_22) hr
    · show Qmul Z q1 q2 res h0 n0 _ s₁.heap _
      rw [e0]
      exact ⟨by rw [← hres]; simp only [own_mul, if_neg hc11_2], N0, rfl⟩
def own_r1 (a : Int64) (l : Int32) : Int64 := if (l &&& (1 : Int32)) = (0 : Int32) then (1 : Int64) else own_mul (1 : Int64) a
def own_r2 (a : Int64) (l : Int32) : Int64 := if (l &&& (2 : Int32)) = (0 : Int32) then own_r1 a l else own_mul (own_r1 a l) (own_mul a a)
def own_p4 (a : Int64) : Int64 := own_mul (own_mul a a) (own_mul a a)
def own_p8 (a : Int64) : Int64 := own_mul (own_p4 a) (own_p4 a)
def own_p16 (a : Int64) : Int64 := own_mul (own_p8 a) (own_p8 a)
def own_r3 (a : Int64) (l : Int32) : Int64 := if (l &&& (4 : Int32)) = (0 : Int32) then own_r2 a l else own_mul (own_r2 a l) (own_p4 a)
def own_r4 (a : Int64) (l : Int32) : Int64 := if (l &&& (8 : Int32)) = (0 : Int32) then own_r3 a l else own_mul (own_r3 a l) (own_p8 a)
def own_r5 (a : Int64) (l : Int32) : Int64 := if (l &&& (16 : Int32)) = (0 : Int32) then own_r4 a l else own_mul (own_r4 a l) (own_p16 a)
def Qpow (Z : State) (q1 : Int64) (p2 : Int32) (res : Int64) (h0 : Heap) (n0 : Nat) (v : Option Value) (h : Heap) (L : List Loc) : Prop := v = some (.long res) ∧ Fr n0 L ∧ h = h0
theorem pn_1 : plainName "com/example/tidegauge/tidegauge/MacroClusterSettingsSnapshotsPerOrderPinLaw" = true := by first | (simp [plainName, overriddenIn]; done) | decide +kernel
theorem ef_rm_pow (m : MethodId) (x0 : Int64) (x1 : Int32) : entryFrame m #[(.long x0), (.int x1)] 15 = mkF m 0 #[.val (.long x0), .second, .val (.int x1), .unset, .unset, .unset, .unset, .unset, .unset, .unset, .unset, .unset, .unset, .unset, .unset] [] := by first | (simp [entryFrame, mkF, argsToLocals, Value.category]; done) | rfl
set_option maxRecDepth 65536 in
set_option maxHeartbeats 40000000 in
theorem rm_pow (l : Launch) (Z : State) (a0 : Array Value) (hw : ∀ d ∈ tables_1, d.before a0 Z = true) (ws : List Jvm.Cond) (q1 : Int64) (p2 : Int32) (h0 : Heap) (n0 : Nat) (Z0 : n0 ≤ h0.size) (res : Int64) (hres : own_r5 q1 p2 = res) :
    MetFree l (⟨"com/example/tidegauge/tidegauge/MacroClusterSettingsSnapshotsPerOrderPinLaw", "pow", "(JI)J"⟩ : MethodName) (head1 (Jvm.Cond.code (⟨"com/example/tidegauge/tidegauge/MacroClusterSettingsSnapshotsPerOrderPinLaw", "pow", "(JI)J"⟩ : MethodName) method_3_code 15 (some .long) :: ws) ({ frames := 1, cells := 0, slots := 0, locals := 17 } : Room)) (fun a U => a = #[(.long q1), (.int p2)] ∧ Z.Warmed39 U.vm ∧ U.heap = h0) (fun _ _ _ _ _ => True) (fun _ U o U' => ∃ v L, o = .returned v ∧ Qpow Z q1 p2 res h0 n0 v U'.heap L ∧ FrameEnd U o U' L ({ frames := 1, cells := 0, slots := 0, locals := 17 } : Room).cells ({ frames := 1, cells := 0, slots := 0, locals := 17 } : Room).slots) := by
  refine MetFree.of_bodySF (plainFor_of_name pn_1) hisR ?_
  intro p e s m args below meth c s₁ Bd hml0 hP hK
  obtain ⟨rfl, hZ, hh⟩ := hP
  have hx := Bd.exec
  have hby := Bd.bytes
  have hml : c.maxLocals = 15 := hml0
  have hown : s.vm.findClass "com/example/tidegauge/tidegauge/MacroClusterSettingsSnapshotsPerOrderPinLaw" = some m.cls := findClass_of_methodNamed Bd.named
  have hnm := (name_of_methodNamed Bd.named Bd.method).1
  have X0 : Stand p l e ({ frames := 1, cells := 0, slots := 0, locals := 17 } : Room) s m #[(.long q1), (.int p2)] below meth c s₁ [] 0 0 := Stand.of_body Bd
  have e0 : s₁.heap = h0 := by rw [← hh, Bd.state]; rfl
  have N0 := Fr.nil n0
  have pre0 : ∀ t, Steps p.tables e below (s₁.setTop (mkF m 0 #[.val (.long q1), .second, .val (.int p2), .unset, .unset, .unset, .unset, .unset, .unset, .unset, .unset, .unset, .unset, .unset, .unset] [])) t → Steps p.tables e below (s₁.setTop (entryFrame m #[(.long q1), (.int p2)] 15)) t := fun t k => castTop (ef_rm_pow m q1 p2) k
  obtain ⟨P2, hP2⟩ : ∃ z, own_mul q1 q1 = z := ⟨_, rfl⟩
  obtain ⟨_, _, ⟨T1, L1, k1, n1⟩, -, X1, ⟨Lc1, hQ1, l1, y1, z1⟩, st1⟩ := Jvm.LawKit.callS X0 hx (y := (⟨"com/example/tidegauge/tidegauge/MacroClusterSettingsSnapshotsPerOrderPinLaw", "mul", "(JJ)J"⟩ : MethodName)) hown (mvT hZ (hw _ (List.mem_of_getElem? (i := 7) rfl))) (mvT hZ (hw _ (List.mem_of_getElem? (i := 8) rfl))) (mvT hZ (hw _ (List.mem_of_getElem? (i := 5) rfl))) (mvT hZ (hw _ (List.mem_of_getElem? (i := 9) rfl))) (by decide) (backOf (W := 0) (rm_mul l Z a0 hw [] q1 q1 h0 n0 Z0 P2 hP2) hZ (hw _ (List.mem_of_getElem? (i := 9) rfl)) (hw _ (List.mem_of_getElem? (i := 5) rfl)) (by decide) (by decide)) (g := (mkF m 4 #[.val (.long q1), .second, .val (.int p2), .val (.long q1), .second, .unset, .unset, .unset, .unset, .unset, .unset, .unset, .unset, .unset, .unset] [(.long q1), (.long q1)])) rfl (by rw [hml]; rfl) (argsL := [(.long q1), (.long q1)]) (rest := []) (lenOf pd_0 rfl) rfl (by show 2 * 0 + _ ≤ _; exact Nat.le_of_eq rfl) (hb hby d1_4) (fun _ _ => ⟨rfl, e0, (by decide : 0 + 0 ≤ _), (by decide : 0 + 0 ≤ _)⟩)
  dsimp only [Pt.U, Pt.locs, Pt.cells, Pt.slots] at X1 l1 y1 z1 st1 hQ1
  rw [y1, z1] at X1
  obtain ⟨rfl, N1q, e1⟩ := hQ1
  have N1 : Fr n0 L1 := by rw [l1]; exact Fr.app N0 N1q
  obtain ⟨P4, hP4⟩ : ∃ z, own_mul P2 P2 = z := ⟨_, rfl⟩
  obtain ⟨_, _, ⟨T2, L2, k2, n2⟩, -, X2, ⟨Lc2, hQ2, l2, y2, z2⟩, st2⟩ := Jvm.LawKit.callS X1 hx (y := (⟨"com/example/tidegauge/tidegauge/MacroClusterSettingsSnapshotsPerOrderPinLaw", "mul", "(JJ)J"⟩ : MethodName)) hown (mvT hZ (hw _ (List.mem_of_getElem? (i := 7) rfl))) (mvT hZ (hw _ (List.mem_of_getElem? (i := 8) rfl))) (mvT hZ (hw _ (List.mem_of_getElem? (i := 5) rfl))) (mvT hZ (hw _ (List.mem_of_getElem? (i := 9) rfl))) (by decide) (backOf (W := 0) (rm_mul l Z a0 hw [] P2 P2 h0 n0 Z0 P4 hP4) hZ (hw _ (List.mem_of_getElem? (i := 9) rfl)) (hw _ (List.mem_of_getElem? (i := 5) rfl)) (by decide) (by decide)) (g := (mkF m 13 #[.val (.long q1), .second, .val (.int p2), .val (.long q1), .second, .val (.long P2), .second, .unset, .unset, .unset, .unset, .unset, .unset, .unset, .unset] [(.long P2), (.long P2)])) rfl (by rw [hml]; rfl) (argsL := [(.long P2), (.long P2)]) (rest := []) (lenOf pd_0 rfl) rfl (by show 2 * 0 + _ ≤ _; exact Nat.le_of_eq rfl) (hb hby d1_13) (fun _ _ => ⟨rfl, e1, (by decide : 0 + 0 ≤ _), (by decide : 0 + 0 ≤ _)⟩)
  dsimp only [Pt.U, Pt.locs, Pt.cells, Pt.slots] at X2 l2 y2 z2 st2 hQ2
  rw [y2, z2] at X2
  obtain ⟨rfl, N2q, e2⟩ := hQ2
  have N2 : Fr n0 L2 := by rw [l2]; exact Fr.app N1 N2q
  obtain ⟨P8, hP8⟩ : ∃ z, own_mul P4 P4 = z := ⟨_, rfl⟩
  obtain ⟨_, _, ⟨T3, L3, k3, n3⟩, -, X3, ⟨Lc3, hQ3, l3, y3, z3⟩, st3⟩ := Jvm.LawKit.callS X2 hx (y := (⟨"com/example/tidegauge/tidegauge/MacroClusterSettingsSnapshotsPerOrderPinLaw", "mul", "(JJ)J"⟩ : MethodName)) hown (mvT hZ (hw _ (List.mem_of_getElem? (i := 7) rfl))) (mvT hZ (hw _ (List.mem_of_getElem? (i := 8) rfl))) (mvT hZ (hw _ (List.mem_of_getElem? (i := 5) rfl))) (mvT hZ (hw _ (List.mem_of_getElem? (i := 9) rfl))) (by decide) (backOf (W := 0) (rm_mul l Z a0 hw [] P4 P4 h0 n0 Z0 P8 hP8) hZ (hw _ (List.mem_of_getElem? (i := 9) rfl)) (hw _ (List.mem_of_getElem? (i := 5) rfl)) (by decide) (by decide)) (g := (mkF m 22 #[.val (.long q1), .second, .val (.int p2), .val (.long q1), .second, .val (.long P2), .second, .val (.long P4), .second, .unset, .unset, .unset, .unset, .unset, .unset] [(.long P4), (.long P4)])) rfl (by rw [hml]; rfl) (argsL := [(.long P4), (.long P4)]) (rest := []) (lenOf pd_0 rfl) rfl (by show 2 * 0 + _ ≤ _; exact Nat.le_of_eq rfl) (hb hby d1_22) (fun _ _ => ⟨rfl, e2, (by decide : 0 + 0 ≤ _), (by decide : 0 + 0 ≤ _)⟩)
  dsimp only [Pt.U, Pt.locs, Pt.cells, Pt.slots] at X3 l3 y3 z3 st3 hQ3
  rw [y3, z3] at X3
  obtain ⟨rfl, N3q, e3⟩ := hQ3
  have N3 : Fr n0 L3 := by rw [l3]; exact Fr.app N2 N3q
  have pre4 : ∀ t, Steps p.tables e below (T3.setTop (mkF m 25 #[.val (.long q1), .second, .val (.int p2), .val (.long q1), .second, .val (.long P2), .second, .val (.long P4), .second, .unset, .unset, .unset, .unset, .unset, .unset] [(.long P8)])) t → Steps p.tables e below (s₁.setTop (entryFrame m #[(.long q1), (.int p2)] 15)) t := fun t k => pre0 t (by
    show Steps p.tables e below (s₁.setTop (mkF m 0 #[.val (.long q1), .second, .val (.int p2), .unset, .unset, .unset, .unset, .unset, .unset, .unset, .unset, .unset, .unset, .unset, .unset] [])) _
    refine XS.lloadN X0.here hx rfl (hb hby d1_0) rfl ?_
    show Steps p.tables e below (s₁.setTop (mkF m 1 #[.val (.long q1), .second, .val (.int p2), .unset, .unset, .unset, .unset, .unset, .unset, .unset, .unset, .unset, .unset, .unset, .unset] [(.long q1)])) _
    refine XS.lstoreN X0.here hx rfl (hb hby d1_1) rfl (l' := #[.val (.long q1), .second, .val (.int p2), .val (.long q1), .second, .unset, .unset, .unset, .unset, .unset, .unset, .unset, .unset, .unset, .unset]) rfl ?_
    show Steps p.tables e below (s₁.setTop (mkF m 2 #[.val (.long q1), .second, .val (.int p2), .val (.long q1), .second, .unset, .unset, .unset, .unset, .unset, .unset, .unset, .unset, .unset, .unset] [])) _
    refine XS.lloadN X0.here hx rfl (hb hby d1_2) rfl ?_
    show Steps p.tables e below (s₁.setTop (mkF m 3 #[.val (.long q1), .second, .val (.int p2), .val (.long q1), .second, .unset, .unset, .unset, .unset, .unset, .unset, .unset, .unset, .unset, .unset] [(.long q1)])) _
    refine XS.lloadN X0.here hx rfl (hb hby d1_3) rfl ?_
    show Steps p.tables e below (s₁.setTop (mkF m 4 #[.val (.long q1), .second, .val (.int p2), .val (.long q1), .second, .unset, .unset, .unset, .unset, .unset, .unset, .unset, .unset, .unset, .unset] [(.long q1), (.long q1)])) _
    refine st1 _ ?_
    show Steps p.tables e below (T1.setTop (mkF m 7 #[.val (.long q1), .second, .val (.int p2), .val (.long q1), .second, .unset, .unset, .unset, .unset, .unset, .unset, .unset, .unset, .unset, .unset] [(.long P2)])) _
    refine XS.lstore X1.here hx rfl (hb hby d1_7) rfl (l' := #[.val (.long q1), .second, .val (.int p2), .val (.long q1), .second, .val (.long P2), .second, .unset, .unset, .unset, .unset, .unset, .unset, .unset, .unset]) rfl ?_
    show Steps p.tables e below (T1.setTop (mkF m 9 #[.val (.long q1), .second, .val (.int p2), .val (.long q1), .second, .val (.long P2), .second, .unset, .unset, .unset, .unset, .unset, .unset, .unset, .unset] [])) _
    refine XS.lload X1.here hx rfl (hb hby d1_9) rfl ?_
    show Steps p.tables e below (T1.setTop (mkF m 11 #[.val (.long q1), .second, .val (.int p2), .val (.long q1), .second, .val (.long P2), .second, .unset, .unset, .unset, .unset, .unset, .unset, .unset, .unset] [(.long P2)])) _
    refine XS.lload X1.here hx rfl (hb hby d1_11) rfl ?_
    show Steps p.tables e below (T1.setTop (mkF m 13 #[.val (.long q1), .second, .val (.int p2), .val (.long q1), .second, .val (.long P2), .second, .unset, .unset, .unset, .unset, .unset, .unset, .unset, .unset] [(.long P2), (.long P2)])) _
    refine st2 _ ?_
    show Steps p.tables e below (T2.setTop (mkF m 16 #[.val (.long q1), .second, .val (.int p2), .val (.long q1), .second, .val (.long P2), .second, .unset, .unset, .unset, .unset, .unset, .unset, .unset, .unset] [(.long P4)])) _
    refine XS.lstore X2.here hx rfl (hb hby d1_16) rfl (l' := #[.val (.long q1), .second, .val (.int p2), .val (.long q1), .second, .val (.long P2), .second, .val (.long P4), .second, .unset, .unset, .unset, .unset, .unset, .unset]) rfl ?_
    show Steps p.tables e below (T2.setTop (mkF m 18 #[.val (.long q1), .second, .val (.int p2), .val (.long q1), .second, .val (.long P2), .second, .val (.long P4), .second, .unset, .unset, .unset, .unset, .unset, .unset] [])) _
    refine XS.lload X2.here hx rfl (hb hby d1_18) rfl ?_
    show Steps p.tables e below (T2.setTop (mkF m 20 #[.val (.long q1), .second, .val (.int p2), .val (.long q1), .second, .val (.long P2), .second, .val (.long P4), .second, .unset, .unset, .unset, .unset, .unset, .unset] [(.long P4)])) _
    refine XS.lload X2.here hx rfl (hb hby d1_20) rfl ?_
    show Steps p.tables e below (T2.setTop (mkF m 22 #[.val (.long q1), .second, .val (.int p2), .val (.long q1), .second, .val (.long P2), .second, .val (.long P4), .second, .unset, .unset, .unset, .unset, .unset, .unset] [(.long P4), (.long P4)])) _
    refine st3 _ ?_
    exact k)
  obtain ⟨P16, hP16⟩ : ∃ z, own_mul P8 P8 = z := ⟨_, rfl⟩
  obtain ⟨_, _, ⟨T5, L5, k5, n5⟩, -, X5, ⟨Lc5, hQ5, l5, y5, z5⟩, st5⟩ := Jvm.LawKit.callS X3 hx (y := (⟨"com/example/tidegauge/tidegauge/MacroClusterSettingsSnapshotsPerOrderPinLaw", "mul", "(JJ)J"⟩ : MethodName)) hown (mvT hZ (hw _ (List.mem_of_getElem? (i := 7) rfl))) (mvT hZ (hw _ (List.mem_of_getElem? (i := 8) rfl))) (mvT hZ (hw _ (List.mem_of_getElem? (i := 5) rfl))) (mvT hZ (hw _ (List.mem_of_getElem? (i := 9) rfl))) (by decide) (backOf (W := 0) (rm_mul l Z a0 hw [] P8 P8 h0 n0 Z0 P16 hP16) hZ (hw _ (List.mem_of_getElem? (i := 9) rfl)) (hw _ (List.mem_of_getElem? (i := 5) rfl)) (by decide) (by decide)) (g := (mkF m 31 #[.val (.long q1), .second, .val (.int p2), .val (.long q1), .second, .val (.long P2), .second, .val (.long P4), .second, .val (.long P8), .second, .unset, .unset, .unset, .unset] [(.long P8), (.long P8)])) rfl (by rw [hml]; rfl) (argsL := [(.long P8), (.long P8)]) (rest := []) (lenOf pd_0 rfl) rfl (by show 2 * 0 + _ ≤ _; exact Nat.le_of_eq rfl) (hb hby d1_31) (fun _ _ => ⟨rfl, e3, (by decide : 0 + 0 ≤ _), (by decide : 0 + 0 ≤ _)⟩)
  dsimp only [Pt.U, Pt.locs, Pt.cells, Pt.slots] at X5 l5 y5 z5 st5 hQ5
  rw [y5, z5] at X5
  obtain ⟨rfl, N5q, e5⟩ := hQ5
  have N5 : Fr n0 L5 := by rw [l5]; exact Fr.app N3 N5q
  have pre6 : ∀ t, Steps p.tables e below (T5.setTop (mkF m 42 #[.val (.long q1), .second, .val (.int p2), .val (.long q1), .second, .val (.long P2), .second, .val (.long P4), .second, .val (.long P8), .second, .val (.long P16), .second, .val (.long (1 : Int64)), .second] [(.int (p2 &&& (1 : Int32)))])) t → Steps p.tables e below (s₁.setTop (entryFrame m #[(.long q1), (.int p2)] 15)) t := fun t k => pre4 t (by
    show Steps p.tables e below (T3.setTop (mkF m 25 #[.val (.long q1), .second, .val (.int p2), .val (.long q1), .second, .val (.long P2), .second, .val (.long P4), .second, .unset, .unset, .unset, .unset, .unset, .unset] [(.long P8)])) _
    refine XS.lstore X3.here hx rfl (hb hby d1_25) rfl (l' := #[.val (.long q1), .second, .val (.int p2), .val (.long q1), .second, .val (.long P2), .second, .val (.long P4), .second, .val (.long P8), .second, .unset, .unset, .unset, .unset]) rfl ?_
    show Steps p.tables e below (T3.setTop (mkF m 27 #[.val (.long q1), .second, .val (.int p2), .val (.long q1), .second, .val (.long P2), .second, .val (.long P4), .second, .val (.long P8), .second, .unset, .unset, .unset, .unset] [])) _
    refine XS.lload X3.here hx rfl (hb hby d1_27) rfl ?_
    show Steps p.tables e below (T3.setTop (mkF m 29 #[.val (.long q1), .second, .val (.int p2), .val (.long q1), .second, .val (.long P2), .second, .val (.long P4), .second, .val (.long P8), .second, .unset, .unset, .unset, .unset] [(.long P8)])) _
    refine XS.lload X3.here hx rfl (hb hby d1_29) rfl ?_
    show Steps p.tables e below (T3.setTop (mkF m 31 #[.val (.long q1), .second, .val (.int p2), .val (.long q1), .second, .val (.long P2), .second, .val (.long P4), .second, .val (.long P8), .second, .unset, .unset, .unset, .unset] [(.long P8), (.long P8)])) _
    refine st5 _ ?_
    show Steps p.tables e below (T5.setTop (mkF m 34 #[.val (.long q1), .second, .val (.int p2), .val (.long q1), .second, .val (.long P2), .second, .val (.long P4), .second, .val (.long P8), .second, .unset, .unset, .unset, .unset] [(.long P16)])) _
    refine XS.lstore X5.here hx rfl (hb hby d1_34) rfl (l' := #[.val (.long q1), .second, .val (.int p2), .val (.long q1), .second, .val (.long P2), .second, .val (.long P4), .second, .val (.long P8), .second, .val (.long P16), .second, .unset, .unset]) rfl ?_
    show Steps p.tables e below (T5.setTop (mkF m 36 #[.val (.long q1), .second, .val (.int p2), .val (.long q1), .second, .val (.long P2), .second, .val (.long P4), .second, .val (.long P8), .second, .val (.long P16), .second, .unset, .unset] [])) _
    refine XT.lconstV X5.here hx rfl (1 : Int64) (hb hby d1_36) (by decide) ?_
    show Steps p.tables e below (T5.setTop (mkF m 37 #[.val (.long q1), .second, .val (.int p2), .val (.long q1), .second, .val (.long P2), .second, .val (.long P4), .second, .val (.long P8), .second, .val (.long P16), .second, .unset, .unset] [(.long (1 : Int64))])) _
    refine XS.lstore X5.here hx rfl (hb hby d1_37) rfl (l' := #[.val (.long q1), .second, .val (.int p2), .val (.long q1), .second, .val (.long P2), .second, .val (.long P4), .second, .val (.long P8), .second, .val (.long P16), .second, .val (.long (1 : Int64)), .second]) rfl ?_
    show Steps p.tables e below (T5.setTop (mkF m 39 #[.val (.long q1), .second, .val (.int p2), .val (.long q1), .second, .val (.long P2), .second, .val (.long P4), .second, .val (.long P8), .second, .val (.long P16), .second, .val (.long (1 : Int64)), .second] [])) _
    refine XS.iloadN X5.here hx rfl (hb hby d1_39) rfl ?_
    show Steps p.tables e below (T5.setTop (mkF m 40 #[.val (.long q1), .second, .val (.int p2), .val (.long q1), .second, .val (.long P2), .second, .val (.long P4), .second, .val (.long P8), .second, .val (.long P16), .second, .val (.long (1 : Int64)), .second] [(.int p2)])) _
    refine XT.iconstV X5.here hx rfl (1 : Int32) (hb hby d1_40) (by decide) ?_
    show Steps p.tables e below (T5.setTop (mkF m 41 #[.val (.long q1), .second, .val (.int p2), .val (.long q1), .second, .val (.long P2), .second, .val (.long P4), .second, .val (.long P8), .second, .val (.long P16), .second, .val (.long (1 : Int64)), .second] [(.int (1 : Int32)), (.int p2)])) _
    refine XS.iand X5.here hx rfl (hb hby d1_41) rfl ?_
    exact k)
  by_cases hc42_7 : (p2 &&& (1 : Int32)) = (0 : Int32)
  · have _ := 0
    have pre8 : ∀ t, Steps p.tables e below (T5.setTop (mkF m 56 #[.val (.long q1), .second, .val (.int p2), .val (.long q1), .second, .val (.long P2), .second, .val (.long P4), .second, .val (.long P8), .second, .val (.long P16), .second, .val (.long (1 : Int64)), .second] [(.int (p2 &&& (2 : Int32)))])) t → Steps p.tables e below (s₁.setTop (entryFrame m #[(.long q1), (.int p2)] 15)) t := fun t k => pre6 t (by
      show Steps p.tables e below (T5.setTop (mkF m 42 #[.val (.long q1), .second, .val (.int p2), .val (.long q1), .second, .val (.long P2), .second, .val (.long P4), .second, .val (.long P8), .second, .val (.long P16), .second, .val (.long (1 : Int64)), .second] [(.int (p2 &&& (1 : Int32)))])) _
      refine XS.ifYes X5.here hx rfl (pc0 := 42) (pc' := 53) rfl (hb hby d1_42) rfl ((if0 _ _).trans (teq hc42_7).1) (by decide) (by decide) ?_
      show Steps p.tables e below (T5.setTop (mkF m 53 #[.val (.long q1), .second, .val (.int p2), .val (.long q1), .second, .val (.long P2), .second, .val (.long P4), .second, .val (.long P8), .second, .val (.long P16), .second, .val (.long (1 : Int64)), .second] [])) _
      refine XS.iloadN X5.here hx rfl (hb hby d1_53) rfl ?_
      show Steps p.tables e below (T5.setTop (mkF m 54 #[.val (.long q1), .second, .val (.int p2), .val (.long q1), .second, .val (.long P2), .second, .val (.long P4), .second, .val (.long P8), .second, .val (.long P16), .second, .val (.long (1 : Int64)), .second] [(.int p2)])) _
      refine XT.iconstV X5.here hx rfl (2 : Int32) (hb hby d1_54) (by decide) ?_
      show Steps p.tables e below (T5.setTop (mkF m 55 #[.val (.long q1), .second, .val (.int p2), .val (.long q1), .second, .val (.long P2), .second, .val (.long P4), .second, .val (.long P8), .second, .val (.long P16), .second, .val (.long (1 : Int64)), .second] [(.int (2 : Int32)), (.int p2)])) _
      refine XS.iand X5.here hx rfl (hb hby d1_55) rfl ?_
      exact k)
    by_cases hc56_9 : (p2 &&& (2 : Int32)) = (0 : Int32)
    · have _ := 0
      have pre10 : ∀ t, Steps p.tables e below (T5.setTop (mkF m 71 #[.val (.long q1), .second, .val (.int p2), .val (.long q1), .second, .val (.long P2), .second, .val (.long P4), .second, .val (.long P8), .second, .val (.long P16), .second, .val (.long (1 : Int64)), .second] [(.int (p2 &&& (4 : Int32)))])) t → Steps p.tables e below (s₁.setTop (entryFrame m #[(.long q1), (.int p2)] 15)) t := fun t k => pre8 t (by
        show Steps p.tables e below (T5.setTop (mkF m 56 #[.val (.long q1), .second, .val (.int p2), .val (.long q1), .second, .val (.long P2), .second, .val (.long P4), .second, .val (.long P8), .second, .val (.long P16), .second, .val (.long (1 : Int64)), .second] [(.int (p2 &&& (2 : Int32)))])) _
        refine XS.ifYes X5.here hx rfl (pc0 := 56) (pc' := 68) rfl (hb hby d1_56) rfl ((if0 _ _).trans (teq hc56_9).1) (by decide) (by decide) ?_
        show Steps p.tables e below (T5.setTop (mkF m 68 #[.val (.long q1), .second, .val (.int p2), .val (.long q1), .second, .val (.long P2), .second, .val (.long P4), .second, .val (.long P8), .second, .val (.long P16), .second, .val (.long (1 : Int64)), .second] [])) _
        refine XS.iloadN X5.here hx rfl (hb hby d1_68) rfl ?_
        show Steps p.tables e below (T5.setTop (mkF m 69 #[.val (.long q1), .second, .val (.int p2), .val (.long q1), .second, .val (.long P2), .second, .val (.long P4), .second, .val (.long P8), .second, .val (.long P16), .second, .val (.long (1 : Int64)), .second] [(.int p2)])) _
        refine XT.iconstV X5.here hx rfl (4 : Int32) (hb hby d1_69) (by decide) ?_
        show Steps p.tables e below (T5.setTop (mkF m 70 #[.val (.long q1), .second, .val (.int p2), .val (.long q1), .second, .val (.long P2), .second, .val (.long P4), .second, .val (.long P8), .second, .val (.long P16), .second, .val (.long (1 : Int64)), .second] [(.int (4 : Int32)), (.int p2)])) _
        refine XS.iand X5.here hx rfl (hb hby d1_70) rfl ?_
        exact k)
      by_cases hc71_11 : (p2 &&& (4 : Int32)) = (0 : Int32)
      · have _ := 0
        have pre12 : ∀ t, Steps p.tables e below (T5.setTop (mkF m 87 #[.val (.long q1), .second, .val (.int p2), .val (.long q1), .second, .val (.long P2), .second, .val (.long P4), .second, .val (.long P8), .second, .val (.long P16), .second, .val (.long (1 : Int64)), .second] [(.int (p2 &&& (8 : Int32)))])) t → Steps p.tables e below (s₁.setTop (entryFrame m #[(.long q1), (.int p2)] 15)) t := fun t k => pre10 t (by
          show Steps p.tables e below (T5.setTop (mkF m 71 #[.val (.long q1), .second, .val (.int p2), .val (.long q1), .second, .val (.long P2), .second, .val (.long P4), .second, .val (.long P8), .second, .val (.long P16), .second, .val (.long (1 : Int64)), .second] [(.int (p2 &&& (4 : Int32)))])) _
          refine XS.ifYes X5.here hx rfl (pc0 := 71) (pc' := 83) rfl (hb hby d1_71) rfl ((if0 _ _).trans (teq hc71_11).1) (by decide) (by decide) ?_
          show Steps p.tables e below (T5.setTop (mkF m 83 #[.val (.long q1), .second, .val (.int p2), .val (.long q1), .second, .val (.long P2), .second, .val (.long P4), .second, .val (.long P8), .second, .val (.long P16), .second, .val (.long (1 : Int64)), .second] [])) _
          refine XS.iloadN X5.here hx rfl (hb hby d1_83) rfl ?_
          show Steps p.tables e below (T5.setTop (mkF m 84 #[.val (.long q1), .second, .val (.int p2), .val (.long q1), .second, .val (.long P2), .second, .val (.long P4), .second, .val (.long P8), .second, .val (.long P16), .second, .val (.long (1 : Int64)), .second] [(.int p2)])) _
          refine XT.bipushV X5.here hx rfl (8 : Int32) (hb hby d1_84) (by decide) ?_
          show Steps p.tables e below (T5.setTop (mkF m 86 #[.val (.long q1), .second, .val (.int p2), .val (.long q1), .second, .val (.long P2), .second, .val (.long P4), .second, .val (.long P8), .second, .val (.long P16), .second, .val (.long (1 : Int64)), .second] [(.int (8 : Int32)), (.int p2)])) _
          refine XS.iand X5.here hx rfl (hb hby d1_86) rfl ?_
          exact k)
        by_cases hc87_13 : (p2 &&& (8 : Int32)) = (0 : Int32)
        · have _ := 0
          have pre14 : ∀ t, Steps p.tables e below (T5.setTop (mkF m 103 #[.val (.long q1), .second, .val (.int p2), .val (.long q1), .second, .val (.long P2), .second, .val (.long P4), .second, .val (.long P8), .second, .val (.long P16), .second, .val (.long (1 : Int64)), .second] [(.int (p2 &&& (16 : Int32)))])) t → Steps p.tables e below (s₁.setTop (entryFrame m #[(.long q1), (.int p2)] 15)) t := fun t k => pre12 t (by
            show Steps p.tables e below (T5.setTop (mkF m 87 #[.val (.long q1), .second, .val (.int p2), .val (.long q1), .second, .val (.long P2), .second, .val (.long P4), .second, .val (.long P8), .second, .val (.long P16), .second, .val (.long (1 : Int64)), .second] [(.int (p2 &&& (8 : Int32)))])) _
            refine XS.ifYes X5.here hx rfl (pc0 := 87) (pc' := 99) rfl (hb hby d1_87) rfl ((if0 _ _).trans (teq hc87_13).1) (by decide) (by decide) ?_
            show Steps p.tables e below (T5.setTop (mkF m 99 #[.val (.long q1), .second, .val (.int p2), .val (.long q1), .second, .val (.long P2), .second, .val (.long P4), .second, .val (.long P8), .second, .val (.long P16), .second, .val (.long (1 : Int64)), .second] [])) _
            refine XS.iloadN X5.here hx rfl (hb hby d1_99) rfl ?_
            show Steps p.tables e below (T5.setTop (mkF m 100 #[.val (.long q1), .second, .val (.int p2), .val (.long q1), .second, .val (.long P2), .second, .val (.long P4), .second, .val (.long P8), .second, .val (.long P16), .second, .val (.long (1 : Int64)), .second] [(.int p2)])) _
            refine XT.bipushV X5.here hx rfl (16 : Int32) (hb hby d1_100) (by decide) ?_
            show Steps p.tables e below (T5.setTop (mkF m 102 #[.val (.long q1), .second, .val (.int p2), .val (.long q1), .second, .val (.long P2), .second, .val (.long P4), .second, .val (.long P8), .second, .val (.long P16), .second, .val (.long (1 : Int64)), .second] [(.int (16 : Int32)), (.int p2)])) _
            refine XS.iand X5.here hx rfl (hb hby d1_102) rfl ?_
            exact k)
          by_cases hc103_15 : (p2 &&& (16 : Int32)) = (0 : Int32)
          · have _ := 0
            have pre16 : ∀ t, Steps p.tables e below (T5.setTop (mkF m 117 #[.val (.long q1), .second, .val (.int p2), .val (.long q1), .second, .val (.long P2), .second, .val (.long P4), .second, .val (.long P8), .second, .val (.long P16), .second, .val (.long (1 : Int64)), .second] [(.long (1 : Int64))])) t → Steps p.tables e below (s₁.setTop (entryFrame m #[(.long q1), (.int p2)] 15)) t := fun t k => pre14 t (by
              show Steps p.tables e below (T5.setTop (mkF m 103 #[.val (.long q1), .second, .val (.int p2), .val (.long q1), .second, .val (.long P2), .second, .val (.long P4), .second, .val (.long P8), .second, .val (.long P16), .second, .val (.long (1 : Int64)), .second] [(.int (p2 &&& (16 : Int32)))])) _
              refine XS.ifYes X5.here hx rfl (pc0 := 103) (pc' := 115) rfl (hb hby d1_103) rfl ((if0 _ _).trans (teq hc103_15).1) (by decide) (by decide) ?_
              show Steps p.tables e below (T5.setTop (mkF m 115 #[.val (.long q1), .second, .val (.int p2), .val (.long q1), .second, .val (.long P2), .second, .val (.long P4), .second, .val (.long P8), .second, .val (.long P16), .second, .val (.long (1 : Int64)), .second] [])) _
              refine XS.lload X5.here hx rfl (hb hby d1_115) rfl ?_
              exact k)
            obtain ⟨fs, hr, hrun, hended, hW, hsame⟩ := X5.leave (v := some (.long (1 : Int64))) (fun h => by rw [Bd.returns] at h; cases h)
            refine ⟨_, _, pre16 _ ?_, hrun, hended, _, _, rfl, ?_, ⟨_, rfl⟩, hW, hsame.mono (by decide) (by decide)⟩
            · show Steps p.tables e below (T5.setTop (mkF m 117 #[.val (.long q1), .second, .val (.int p2), .val (.long q1), .second, .val (.long P2), .second, .val (.long P4), .second, .val (.long P8), .second, .val (.long P16), .second, .val (.long (1 : Int64)), .second] [(.long (1 : Int64))])) _
              exact retOut X5 hx Bd.returns rfl (Or.inr (Or.inl ⟨rfl, rfl, _, rfl⟩)) (hb hby d1_117) hr
            · show Qpow Z q1 p2 res h0 n0 _ T5.heap _
              rw [e5]
              exact ⟨by rw [← hres]; simp only [own_r5, own_r4, own_r3, own_r2, own_r1, own_p16, own_p8, own_p4, if_pos hc42_7, if_pos hc56_9, if_pos hc71_11, if_pos hc87_13, if_pos hc103_15, hP2, hP4, hP8, hP16], N5, rfl⟩
          · have _ := 0
            obtain ⟨R5, hR5⟩ : ∃ z, own_mul (1 : Int64) P16 = z := ⟨_, rfl⟩
            obtain ⟨_, _, ⟨T17, L17, k17, n17⟩, -, X17, ⟨Lc17, hQ17, l17, y17, z17⟩, st17⟩ := Jvm.LawKit.callS X5 hx (y := (⟨"com/example/tidegauge/tidegauge/MacroClusterSettingsSnapshotsPerOrderPinLaw", "mul", "(JJ)J"⟩ : MethodName)) hown (mvT hZ (hw _ (List.mem_of_getElem? (i := 7) rfl))) (mvT hZ (hw _ (List.mem_of_getElem? (i := 8) rfl))) (mvT hZ (hw _ (List.mem_of_getElem? (i := 5) rfl))) (mvT hZ (hw _ (List.mem_of_getElem? (i := 9) rfl))) (by decide) (backOf (W := 0) (rm_mul l Z a0 hw [] (1 : Int64) P16 h0 n0 Z0 R5 hR5) hZ (hw _ (List.mem_of_getElem? (i := 9) rfl)) (hw _ (List.mem_of_getElem? (i := 5) rfl)) (by decide) (by decide)) (g := (mkF m 110 #[.val (.long q1), .second, .val (.int p2), .val (.long q1), .second, .val (.long P2), .second, .val (.long P4), .second, .val (.long P8), .second, .val (.long P16), .second, .val (.long (1 : Int64)), .second] [(.long P16), (.long (1 : Int64))])) rfl (by rw [hml]; rfl) (argsL := [(.long (1 : Int64)), (.long P16)]) (rest := []) (lenOf pd_0 rfl) rfl (by show 2 * 0 + _ ≤ _; exact Nat.le_of_eq rfl) (hb hby d1_110) (fun _ _ => ⟨rfl, e5, (by decide : 0 + 0 ≤ _), (by decide : 0 + 0 ≤ _)⟩)
            dsimp only [Pt.U, Pt.locs, Pt.cells, Pt.slots] at X17 l17 y17 z17 st17 hQ17
            rw [y17, z17] at X17
            obtain ⟨rfl, N17q, e17⟩ := hQ17
            have N17 : Fr n0 L17 := by rw [l17]; exact Fr.app N5 N17q
            have pre18 : ∀ t, Steps p.tables e below (T17.setTop (mkF m 117 #[.val (.long q1), .second, .val (.int p2), .val (.long q1), .second, .val (.long P2), .second, .val (.long P4), .second, .val (.long P8), .second, .val (.long P16), .second, .val (.long R5), .second] [(.long R5)])) t → Steps p.tables e below (s₁.setTop (entryFrame m #[(.long q1), (.int p2)] 15)) t := fun t k => pre14 t (by
              show Steps p.tables e below (T5.setTop (mkF m 103 #[.val (.long q1), .second, .val (.int p2), .val (.long q1), .second, .val (.long P2), .second, .val (.long P4), .second, .val (.long P8), .second, .val (.long P16), .second, .val (.long (1 : Int64)), .second] [(.int (p2 &&& (16 : Int32)))])) _
              refine XS.ifNo X5.here hx rfl (hb hby d1_103) rfl ((if0 _ _).trans (feq hc103_15).1) ?_
              show Steps p.tables e below (T5.setTop (mkF m 106 #[.val (.long q1), .second, .val (.int p2), .val (.long q1), .second, .val (.long P2), .second, .val (.long P4), .second, .val (.long P8), .second, .val (.long P16), .second, .val (.long (1 : Int64)), .second] [])) _
              refine XS.lload X5.here hx rfl (hb hby d1_106) rfl ?_
              show Steps p.tables e below (T5.setTop (mkF m 108 #[.val (.long q1), .second, .val (.int p2), .val (.long q1), .second, .val (.long P2), .second, .val (.long P4), .second, .val (.long P8), .second, .val (.long P16), .second, .val (.long (1 : Int64)), .second] [(.long (1 : Int64))])) _
              refine XS.lload X5.here hx rfl (hb hby d1_108) rfl ?_
              show Steps p.tables e below (T5.setTop (mkF m 110 #[.val (.long q1), .second, .val (.int p2), .val (.long q1), .second, .val (.long P2), .second, .val (.long P4), .second, .val (.long P8), .second, .val (.long P16), .second, .val (.long (1 : Int64)), .second] [(.long P16), (.long (1 : Int64))])) _
              refine st17 _ ?_
              show Steps p.tables e below (T17.setTop (mkF m 113 #[.val (.long q1), .second, .val (.int p2), .val (.long q1), .second, .val (.long P2), .second, .val (.long P4), .second, .val (.long P8), .second, .val (.long P16), .second, .val (.long (1 : Int64)), .second] [(.long R5)])) _
              refine XS.lstore X17.here hx rfl (hb hby d1_113) rfl (l' := #[.val (.long q1), .second, .val (.int p2), .val (.long q1), .second, .val (.long P2), .second, .val (.long P4), .second, .val (.long P8), .second, .val (.long P16), .second, .val (.long R5), .second]) rfl ?_
              show Steps p.tables e below (T17.setTop (mkF m 115 #[.val (.long q1), .second, .val (.int p2), .val (.long q1), .second, .val (.long P2), .second, .val (.long P4), .second, .val (.long P8), .second, .val (.long P16), .second, .val (.long R5), .second] [])) _
              refine XS.lload X17.here hx rfl (hb hby d1_115) rfl ?_
              exact k)
            obtain ⟨fs, hr, hrun, hended, hW, hsame⟩ := X17.leave (v := some (.long R5)) (fun h => by rw [Bd.returns] at h; cases h)
            refine ⟨_, _, pre18 _ ?_, hrun, hended, _, _, rfl, ?_, ⟨_, rfl⟩, hW, hsame.mono (by decide) (by decide)⟩
            · show Steps p.tables e below (T17.setTop (mkF m 117 #[.val (.long q1), .second, .val (.int p2), .val (.long q1), .second, .val (.long P2), .second, .val (.long P4), .second, .val (.long P8), .second, .val (.long P16), .second, .val (.long R5), .second] [(.long R5)])) _
              exact retOut X17 hx Bd.returns rfl (Or.inr (Or.inl ⟨rfl, rfl, _, rfl⟩)) (hb hby d1_117) hr
            · show Qpow Z q1 p2 res h0 n0 _ T17.heap _
              rw [e17]
              exact ⟨by rw [← hres]; simp only [own_r5, own_r4, own_r3, own_r2, own_r1, own_p16, own_p8, own_p4, if_pos hc42_7, if_pos hc56_9, if_pos hc71_11, if_pos hc87_13, if_neg hc103_15, hP2, hP4, hP8, hP16, hR5], N17, rfl⟩
        · have _ := 0
          obtain ⟨R4, hR4⟩ : ∃ z, own_mul (1 : Int64) P8 = z := ⟨_, rfl⟩
          obtain ⟨_, _, ⟨T19, L19, k19, n19⟩, -, X19, ⟨Lc19, hQ19, l19, y19, z19⟩, st19⟩ := Jvm.LawKit.callS X5 hx (y := (⟨"com/example/tidegauge/tidegauge/MacroClusterSettingsSnapshotsPerOrderPinLaw", "mul", "(JJ)J"⟩ : MethodName)) hown (mvT hZ (hw _ (List.mem_of_getElem? (i := 7) rfl))) (mvT hZ (hw _ (List.mem_of_getElem? (i := 8) rfl))) (mvT hZ (hw _ (List.mem_of_getElem? (i := 5) rfl))) (mvT hZ (hw _ (List.mem_of_getElem? (i := 9) rfl))) (by decide) (backOf (W := 0) (rm_mul l Z a0 hw [] (1 : Int64) P8 h0 n0 Z0 R4 hR4) hZ (hw _ (List.mem_of_getElem? (i := 9) rfl)) (hw _ (List.mem_of_getElem? (i := 5) rfl)) (by decide) (by decide)) (g := (mkF m 94 #[.val (.long q1), .second, .val (.int p2), .val (.long q1), .second, .val (.long P2), .second, .val (.long P4), .second, .val (.long P8), .second, .val (.long P16), .second, .val (.long (1 : Int64)), .second] [(.long P8), (.long (1 : Int64))])) rfl (by rw [hml]; rfl) (argsL := [(.long (1 : Int64)), (.long P8)]) (rest := []) (lenOf pd_0 rfl) rfl (by show 2 * 0 + _ ≤ _; exact Nat.le_of_eq rfl) (hb hby d1_94) (fun _ _ => ⟨rfl, e5, (by decide : 0 + 0 ≤ _), (by decide : 0 + 0 ≤ _)⟩)
          dsimp only [Pt.U, Pt.locs, Pt.cells, Pt.slots] at X19 l19 y19 z19 st19 hQ19
          rw [y19, z19] at X19
          obtain ⟨rfl, N19q, e19⟩ := hQ19
          have N19 : Fr n0 L19 := by rw [l19]; exact Fr.app N5 N19q
          have pre20 : ∀ t, Steps p.tables e below (T19.setTop (mkF m 103 #[.val (.long q1), .second, .val (.int p2), .val (.long q1), .second, .val (.long P2), .second, .val (.long P4), .second, .val (.long P8), .second, .val (.long P16), .second, .val (.long R4), .second] [(.int (p2 &&& (16 : Int32)))])) t → Steps p.tables e below (s₁.setTop (entryFrame m #[(.long q1), (.int p2)] 15)) t := fun t k => pre12 t (by
            show Steps p.tables e below (T5.setTop (mkF m 87 #[.val (.long q1), .second, .val (.int p2), .val (.long q1), .second, .val (.long P2), .second, .val (.long P4), .second, .val (.long P8), .second, .val (.long P16), .second, .val (.long (1 : Int64)), .second] [(.int (p2 &&& (8 : Int32)))])) _
            refine XS.ifNo X5.here hx rfl (hb hby d1_87) rfl ((if0 _ _).trans (feq hc87_13).1) ?_
            show Steps p.tables e below (T5.setTop (mkF m 90 #[.val (.long q1), .second, .val (.int p2), .val (.long q1), .second, .val (.long P2), .second, .val (.long P4), .second, .val (.long P8), .second, .val (.long P16), .second, .val (.long (1 : Int64)), .second] [])) _
            refine XS.lload X5.here hx rfl (hb hby d1_90) rfl ?_
            show Steps p.tables e below (T5.setTop (mkF m 92 #[.val (.long q1), .second, .val (.int p2), .val (.long q1), .second, .val (.long P2), .second, .val (.long P4), .second, .val (.long P8), .second, .val (.long P16), .second, .val (.long (1 : Int64)), .second] [(.long (1 : Int64))])) _
            refine XS.lload X5.here hx rfl (hb hby d1_92) rfl ?_
            show Steps p.tables e below (T5.setTop (mkF m 94 #[.val (.long q1), .second, .val (.int p2), .val (.long q1), .second, .val (.long P2), .second, .val (.long P4), .second, .val (.long P8), .second, .val (.long P16), .second, .val (.long (1 : Int64)), .second] [(.long P8), (.long (1 : Int64))])) _
            refine st19 _ ?_
            show Steps p.tables e below (T19.setTop (mkF m 97 #[.val (.long q1), .second, .val (.int p2), .val (.long q1), .second, .val (.long P2), .second, .val (.long P4), .second, .val (.long P8), .second, .val (.long P16), .second, .val (.long (1 : Int64)), .second] [(.long R4)])) _
            refine XS.lstore X19.here hx rfl (hb hby d1_97) rfl (l' := #[.val (.long q1), .second, .val (.int p2), .val (.long q1), .second, .val (.long P2), .second, .val (.long P4), .second, .val (.long P8), .second, .val (.long P16), .second, .val (.long R4), .second]) rfl ?_
            show Steps p.tables e below (T19.setTop (mkF m 99 #[.val (.long q1), .second, .val (.int p2), .val (.long q1), .second, .val (.long P2), .second, .val (.long P4), .second, .val (.long P8), .second, .val (.long P16), .second, .val (.long R4), .second] [])) _
            refine XS.iloadN X19.here hx rfl (hb hby d1_99) rfl ?_
            show Steps p.tables e below (T19.setTop (mkF m 100 #[.val (.long q1), .second, .val (.int p2), .val (.long q1), .second, .val (.long P2), .second, .val (.long P4), .second, .val (.long P8), .second, .val (.long P16), .second, .val (.long R4), .second] [(.int p2)])) _
            refine XT.bipushV X19.here hx rfl (16 : Int32) (hb hby d1_100) (by decide) ?_
            show Steps p.tables e below (T19.setTop (mkF m 102 #[.val (.long q1), .second, .val (.int p2), .val (.long q1), .second, .val (.long P2), .second, .val (.long P4), .second, .val (.long P8), .second, .val (.long P16), .second, .val (.long R4), .second] [(.int (16 : Int32)), (.int p2)])) _
            refine XS.iand X19.here hx rfl (hb hby d1_102) rfl ?_
            exact k)
          by_cases hc103_21 : (p2 &&& (16 : Int32)) = (0 : Int32)
          · have _ := 0
            have pre22 : ∀ t, Steps p.tables e below (T19.setTop (mkF m 117 #[.val (.long q1), .second, .val (.int p2), .val (.long q1), .second, .val (.long P2), .second, .val (.long P4), .second, .val (.long P8), .second, .val (.long P16), .second, .val (.long R4), .second] [(.long R4)])) t → Steps p.tables e below (s₁.setTop (entryFrame m #[(.long q1), (.int p2)] 15)) t := fun t k => pre20 t (by
              show Steps p.tables e below (T19.setTop (mkF m 103 #[.val (.long q1), .second, .val (.int p2), .val (.long q1), .second, .val (.long P2), .second, .val (.long P4), .second, .val (.long P8), .second, .val (.long P16), .second, .val (.long R4), .second] [(.int (p2 &&& (16 : Int32)))])) _
              refine XS.ifYes X19.here hx rfl (pc0 := 103) (pc' := 115) rfl (hb hby d1_103) rfl ((if0 _ _).trans (teq hc103_21).1) (by decide) (by decide) ?_
              show Steps p.tables e below (T19.setTop (mkF m 115 #[.val (.long q1), .second, .val (.int p2), .val (.long q1), .second, .val (.long P2), .second, .val (.long P4), .second, .val (.long P8), .second, .val (.long P16), .second, .val (.long R4), .second] [])) _
              refine XS.lload X19.here hx rfl (hb hby d1_115) rfl ?_
              exact k)
            obtain ⟨fs, hr, hrun, hended, hW, hsame⟩ := X19.leave (v := some (.long R4)) (fun h => by rw [Bd.returns] at h; cases h)
            refine ⟨_, _, pre22 _ ?_, hrun, hended, _, _, rfl, ?_, ⟨_, rfl⟩, hW, hsame.mono (by decide) (by decide)⟩
            · show Steps p.tables e below (T19.setTop (mkF m 117 #[.val (.long q1), .second, .val (.int p2), .val (.long q1), .second, .val (.long P2), .second, .val (.long P4), .second, .val (.long P8), .second, .val (.long P16), .second, .val (.long R4), .second] [(.long R4)])) _
              exact retOut X19 hx Bd.returns rfl (Or.inr (Or.inl ⟨rfl, rfl, _, rfl⟩)) (hb hby d1_117) hr
            · show Qpow Z q1 p2 res h0 n0 _ T19.heap _
              rw [e19]
              exact ⟨by rw [← hres]; simp only [own_r5, own_r4, own_r3, own_r2, own_r1, own_p16, own_p8, own_p4, if_pos hc42_7, if_pos hc56_9, if_pos hc71_11, if_neg hc87_13, if_pos hc103_21, hP2, hP4, hP8, hP16, hR4], N19, rfl⟩
          · have _ := 0
            obtain ⟨R5, hR5⟩ : ∃ z, own_mul R4 P16 = z := ⟨_, rfl⟩
            obtain ⟨_, _, ⟨T23, L23, k23, n23⟩, -, X23, ⟨Lc23, hQ23, l23, y23, z23⟩, st23⟩ := Jvm.LawKit.callS X19 hx (y := (⟨"com/example/tidegauge/tidegauge/MacroClusterSettingsSnapshotsPerOrderPinLaw", "mul", "(JJ)J"⟩ : MethodName)) hown (mvT hZ (hw _ (List.mem_of_getElem? (i := 7) rfl))) (mvT hZ (hw _ (List.mem_of_getElem? (i := 8) rfl))) (mvT hZ (hw _ (List.mem_of_getElem? (i := 5) rfl))) (mvT hZ (hw _ (List.mem_of_getElem? (i := 9) rfl))) (by decide) (backOf (W := 0) (rm_mul l Z a0 hw [] R4 P16 h0 n0 Z0 R5 hR5) hZ (hw _ (List.mem_of_getElem? (i := 9) rfl)) (hw _ (List.mem_of_getElem? (i := 5) rfl)) (by decide) (by decide)) (g := (mkF m 110 #[.val (.long q1), .second, .val (.int p2), .val (.long q1), .second, .val (.long P2), .second, .val (.long P4), .second, .val (.long P8), .second, .val (.long P16), .second, .val (.long R4), .second] [(.long P16), (.long R4)])) rfl (by rw [hml]; rfl) (argsL := [(.long R4), (.long P16)]) (rest := []) (lenOf pd_0 rfl) rfl (by show 2 * 0 + _ ≤ _; exact Nat.le_of_eq rfl) (hb hby d1_110) (fun _ _ => ⟨rfl, e19, (by decide : 0 + 0 ≤ _), (by decide : 0 + 0 ≤ _)⟩)
            dsimp only [Pt.U, Pt.locs, Pt.cells, Pt.slots] at X23 l23 y23 z23 st23 hQ23
            rw [y23, z23] at X23
            obtain ⟨rfl, N23q, e23⟩ := hQ23
            have N23 : Fr n0 L23 := by rw [l23]; exact Fr.app N19 N23q
            have pre24 : ∀ t, Steps p.tables e below (T23.setTop (mkF m 117 #[.val (.long q1), .second, .val (.int p2), .val (.long q1), .second, .val (.long P2), .second, .val (.long P4), .second, .val (.long P8), .second, .val (.long P16), .second, .val (.long R5), .second] [(.long R5)])) t → Steps p.tables e below (s₁.setTop (entryFrame m #[(.long q1), (.int p2)] 15)) t := fun t k => pre20 t (by
              show Steps p.tables e below (T19.setTop (mkF m 103 #[.val (.long q1), .second, .val (.int p2), .val (.long q1), .second, .val (.long P2), .second, .val (.long P4), .second, .val (.long P8), .second, .val (.long P16), .second, .val (.long R4), .second] [(.int (p2 &&& (16 : Int32)))])) _
              refine XS.ifNo X19.here hx rfl (hb hby d1_103) rfl ((if0 _ _).trans (feq hc103_21).1) ?_
              show Steps p.tables e below (T19.setTop (mkF m 106 #[.val (.long q1), .second, .val (.int p2), .val (.long q1), .second, .val (.long P2), .second, .val (.long P4), .second, .val (.long P8), .second, .val (.long P16), .second, .val (.long R4), .second] [])) _
              refine XS.lload X19.here hx rfl (hb hby d1_106) rfl ?_
              show Steps p.tables e below (T19.setTop (mkF m 108 #[.val (.long q1), .second, .val (.int p2), .val (.long q1), .second, .val (.long P2), .second, .val (.long P4), .second, .val (.long P8), .second, .val (.long P16), .second, .val (.long R4), .second] [(.long R4)])) _
              refine XS.lload X19.here hx rfl (hb hby d1_108) rfl ?_
              show Steps p.tables e below (T19.setTop (mkF m 110 #[.val (.long q1), .second, .val (.int p2), .val (.long q1), .second, .val (.long P2), .second, .val (.long P4), .second, .val (.long P8), .second, .val (.long P16), .second, .val (.long R4), .second] [(.long P16), (.long R4)])) _
              refine st23 _ ?_
              show Steps p.tables e below (T23.setTop (mkF m 113 #[.val (.long q1), .second, .val (.int p2), .val (.long q1), .second, .val (.long P2), .second, .val (.long P4), .second, .val (.long P8), .second, .val (.long P16), .second, .val (.long R4), .second] [(.long R5)])) _
              refine XS.lstore X23.here hx rfl (hb hby d1_113) rfl (l' := #[.val (.long q1), .second, .val (.int p2), .val (.long q1), .second, .val (.long P2), .second, .val (.long P4), .second, .val (.long P8), .second, .val (.long P16), .second, .val (.long R5), .second]) rfl ?_
              show Steps p.tables e below (T23.setTop (mkF m 115 #[.val (.long q1), .second, .val (.int p2), .val (.long q1), .second, .val (.long P2), .second, .val (.long P4), .second, .val (.long P8), .second, .val (.long P16), .second, .val (.long R5), .second] [])) _
              refine XS.lload X23.here hx rfl (hb hby d1_115) rfl ?_
              exact k)
            obtain ⟨fs, hr, hrun, hended, hW, hsame⟩ := X23.leave (v := some (.long R5)) (fun h => by rw [Bd.returns] at h; cases h)
            refine ⟨_, _, pre24 _ ?_, hrun, hended, _, _, rfl, ?_, ⟨_, rfl⟩, hW, hsame.mono (by decide) (by decide)⟩
            · show Steps p.tables e below (T23.setTop (mkF m 117 #[.val (.long q1), .second, .val (.int p2), .val (.long q1), .second, .val (.long P2), .second, .val (.long P4), .second, .val (.long P8), .second, .val (.long P16), .second, .val (.long R5), .second] [(.long R5)])) _
              exact retOut X23 hx Bd.returns rfl (Or.inr (Or.inl ⟨rfl, rfl, _, rfl⟩)) (hb hby d1_117) hr
            · show Qpow Z q1 p2 res h0 n0 _ T23.heap _
              rw [e23]
              exact ⟨by rw [← hres]; simp only [own_r5, own_r4, own_r3, own_r2, own_r1, own_p16, own_p8, own_p4, if_pos hc42_7, if_pos hc56_9, if_pos hc71_11, if_neg hc87_13, if_neg hc103_21, hP2, hP4, hP8, hP16, hR4, hR5], N23, rfl⟩
      · have _ := 0
        obtain ⟨R3, hR3⟩ : ∃ z, own_mul (1 : Int64) P4 = z := ⟨_, rfl⟩
        obtain ⟨_, _, ⟨T25, L25, k25, n25⟩, -, X25, ⟨Lc25, hQ25, l25, y25, z25⟩, st25⟩ := Jvm.LawKit.callS X5 hx (y := (⟨"com/example/tidegauge/tidegauge/MacroClusterSettingsSnapshotsPerOrderPinLaw", "mul", "(JJ)J"⟩ : MethodName)) hown (mvT hZ (hw _ (List.mem_of_getElem? (i := 7) rfl))) (mvT hZ (hw _ (List.mem_of_getElem? (i := 8) rfl))) (mvT hZ (hw _ (List.mem_of_getElem? (i := 5) rfl))) (mvT hZ (hw _ (List.mem_of_getElem? (i := 9) rfl))) (by decide) (backOf (W := 0) (rm_mul l Z a0 hw [] (1 : Int64) P4 h0 n0 Z0 R3 hR3) hZ (hw _ (List.mem_of_getElem? (i := 9) rfl)) (hw _ (List.mem_of_getElem? (i := 5) rfl)) (by decide) (by decide)) (g := (mkF m 78 #[.val (.long q1), .second, .val (.int p2), .val (.long q1), .second, .val (.long P2), .second, .val (.long P4), .second, .val (.long P8), .second, .val (.long P16), .second, .val (.long (1 : Int64)), .second] [(.long P4), (.long (1 : Int64))])) rfl (by rw [hml]; rfl) (argsL := [(.long (1 : Int64)), (.long P4)]) (rest := []) (lenOf pd_0 rfl) rfl (by show 2 * 0 + _ ≤ _; exact Nat.le_of_eq rfl) (hb hby d1_78) (fun _ _ => ⟨rfl, e5, (by decide : 0 + 0 ≤ _), (by decide : 0 + 0 ≤ _)⟩)
        dsimp only [Pt.U, Pt.locs, Pt.cells, Pt.slots] at X25 l25 y25 z25 st25 hQ25
        rw [y25, z25] at X25
        obtain ⟨rfl, N25q, e25⟩ := hQ25
        have N25 : Fr n0 L25 := by rw [l25]; exact Fr.app N5 N25q
        have pre26 : ∀ t, Steps p.tables e below (T25.setTop (mkF m 87 #[.val (.long q1), .second, .val (.int p2), .val (.long q1), .second, .val (.long P2), .second, .val (.long P4), .second, .val (.long P8), .second, .val (.long P16), .second, .val (.long R3), .second] [(.int (p2 &&& (8 : Int32)))])) t → Steps p.tables e below (s₁.setTop (entryFrame m #[(.long q1), (.int p2)] 15)) t := fun t k => pre10 t (by
          show Steps p.tables e below (T5.setTop (mkF m 71 #[.val (.long q1), .second, .val (.int p2), .val (.long q1), .second, .val (.long P2), .second, .val (.long P4), .second, .val (.long P8), .second, .val (.long P16), .second, .val (.long (1 : Int64)), .second] [(.int (p2 &&& (4 : Int32)))])) _
          refine XS.ifNo X5.here hx rfl (hb hby d1_71) rfl ((if0 _ _).trans (feq hc71_11).1) ?_
          show Steps p.tables e below (T5.setTop (mkF m 74 #[.val (.long q1), .second, .val (.int p2), .val (.long q1), .second, .val (.long P2), .second, .val (.long P4), .second, .val (.long P8), .second, .val (.long P16), .second, .val (.long (1 : Int64)), .second] [])) _
          refine XS.lload X5.here hx rfl (hb hby d1_74) rfl ?_
          show Steps p.tables e below (T5.setTop (mkF m 76 #[.val (.long q1), .second, .val (.int p2), .val (.long q1), .second, .val (.long P2), .second, .val (.long P4), .second, .val (.long P8), .second, .val (.long P16), .second, .val (.long (1 : Int64)), .second] [(.long (1 : Int64))])) _
          refine XS.lload X5.here hx rfl (hb hby d1_76) rfl ?_
          show Steps p.tables e below (T5.setTop (mkF m 78 #[.val (.long q1), .second, .val (.int p2), .val (.long q1), .second, .val (.long P2), .second, .val (.long P4), .second, .val (.long P8), .second, .val (.long P16), .second, .val (.long (1 : Int64)), .second] [(.long P4), (.long (1 : Int64))])) _
          refine st25 _ ?_
          show Steps p.tables e below (T25.setTop (mkF m 81 #[.val (.long q1), .second, .val (.int p2), .val (.long q1), .second, .val (.long P2), .second, .val (.long P4), .second, .val (.long P8), .second, .val (.long P16), .second, .val (.long (1 : Int64)), .second] [(.long R3)])) _
          refine XS.lstore X25.here hx rfl (hb hby d1_81) rfl (l' := #[.val (.long q1), .second, .val (.int p2), .val (.long q1), .second, .val (.long P2), .second, .val (.long P4), .second, .val (.long P8), .second, .val (.long P16), .second, .val (.long R3), .second]) rfl ?_
          show Steps p.tables e below (T25.setTop (mkF m 83 #[.val (.long q1), .second, .val (.int p2), .val (.long q1), .second, .val (.long P2), .second, .val (.long P4), .second, .val (.long P8), .second, .val (.long P16), .second, .val (.long R3), .second] [])) _
          refine XS.iloadN X25.here hx rfl (hb hby d1_83) rfl ?_
          show Steps p.tables e below (T25.setTop (mkF m 84 #[.val (.long q1), .second, .val (.int p2), .val (.long q1), .second, .val (.long P2), .second, .val (.long P4), .second, .val (.long P8), .second, .val (.long P16), .second, .val (.long R3), .second] [(.int p2)])) _
          refine XT.bipushV X25.here hx rfl (8 : Int32) (hb hby d1_84) (by decide) ?_
          show Steps p.tables e below (T25.setTop (mkF m 86 #[.val (.long q1), .second, .val (.int p2), .val (.long q1), .second, .val (.long P2), .second, .val (.long P4), .second, .val (.long P8), .second, .val (.long P16), .second, .val (.long R3), .second] [(.int (8 : Int32)), (.int p2)])) _
          refine XS.iand X25.here hx rfl (hb hby d1_86) rfl ?_
          exact k)
        by_cases hc87_27 : (p2 &&& (8 : Int32)) = (0 : Int32)
        · have _ := 0
          have pre28 : ∀ t, Steps p.tables e below (T25.setTop (mkF m 103 #[.val (.long q1), .second, .val (.int p2), .val (.long q1), .second, .val (.long P2), .second, .val (.long P4), .second, .val (.long P8), .second, .val (.long P16), .second, .val (.long R3), .second] [(.int (p2 &&& (16 : Int32)))])) t → Steps p.tables e below (s₁.setTop (entryFrame m #[(.long q1), (.int p2)] 15)) t := fun t k => pre26 t (by
            show Steps p.tables e below (T25.setTop (mkF m 87 #[.val (.long q1), .second, .val (.int p2), .val (.long q1), .second, .val (.long P2), .second, .val (.long P4), .second, .val (.long P8), .second, .val (.long P16), .second, .val (.long R3), .second] [(.int (p2 &&& (8 : Int32)))])) _
            refine XS.ifYes X25.here hx rfl (pc0 := 87) (pc' := 99) rfl (hb hby d1_87) rfl ((if0 _ _).trans (teq hc87_27).1) (by decide) (by decide) ?_
            show Steps p.tables e below (T25.setTop (mkF m 99 #[.val (.long q1), .second, .val (.int p2), .val (.long q1), .second, .val (.long P2), .second, .val (.long P4), .second, .val (.long P8), .second, .val (.long P16), .second, .val (.long R3), .second] [])) _
            refine XS.iloadN X25.here hx rfl (hb hby d1_99) rfl ?_
            show Steps p.tables e below (T25.setTop (mkF m 100 #[.val (.long q1), .second, .val (.int p2), .val (.long q1), .second, .val (.long P2), .second, .val (.long P4), .second, .val (.long P8), .second, .val (.long P16), .second, .val (.long R3), .second] [(.int p2)])) _
            refine XT.bipushV X25.here hx rfl (16 : Int32) (hb hby d1_100) (by decide) ?_
            show Steps p.tables e below (T25.setTop (mkF m 102 #[.val (.long q1), .second, .val (.int p2), .val (.long q1), .second, .val (.long P2), .second, .val (.long P4), .second, .val (.long P8), .second, .val (.long P16), .second, .val (.long R3), .second] [(.int (16 : Int32)), (.int p2)])) _
            refine XS.iand X25.here hx rfl (hb hby d1_102) rfl ?_
            exact k)
          by_cases hc103_29 : (p2 &&& (16 : Int32)) = (0 : Int32)
          · have _ := 0
            have pre30 : ∀ t, Steps p.tables e below (T25.setTop (mkF m 117 #[.val (.long q1), .second, .val (.int p2), .val (.long q1), .second, .val (.long P2), .second, .val (.long P4), .second, .val (.long P8), .second, .val (.long P16), .second, .val (.long R3), .second] [(.long R3)])) t → Steps p.tables e below (s₁.setTop (entryFrame m #[(.long q1), (.int p2)] 15)) t := fun t k => pre28 t (by
              show Steps p.tables e below (T25.setTop (mkF m 103 #[.val (.long q1), .second, .val (.int p2), .val (.long q1), .second, .val (.long P2), .second, .val (.long P4), .second, .val (.long P8), .second, .val (.long P16), .second, .val (.long R3), .second] [(.int (p2 &&& (16 : Int32)))])) _
              refine XS.ifYes X25.here hx rfl (pc0 := 103) (pc' := 115) rfl (hb hby d1_103) rfl ((if0 _ _).trans (teq hc103_29).1) (by decide) (by decide) ?_
              show Steps p.tables e below (T25.setTop (mkF m 115 #[.val (.long q1), .second, .val (.int p2), .val (.long q1), .second, .val (.long P2), .second, .val (.long P4), .second, .val (.long P8), .second, .val (.long P16), .second, .val (.long R3), .second] [])) _
              refine XS.lload X25.here hx rfl (hb hby d1_115) rfl ?_
              exact k)
            obtain ⟨fs, hr, hrun, hended, hW, hsame⟩ := X25.leave (v := some (.long R3)) (fun h => by rw [Bd.returns] at h; cases h)
            refine ⟨_, _, pre30 _ ?_, hrun, hended, _, _, rfl, ?_, ⟨_, rfl⟩, hW, hsame.mono (by decide) (by decide)⟩
            · show Steps p.tables e below (T25.setTop (mkF m 117 #[.val (.long q1), .second, .val (.int p2), .val (.long q1), .second, .val (.long P2), .second, .val (.long P4), .second, .val (.long P8), .second, .val (.long P16), .second, .val (.long R3), .second] [(.long R3)])) _
              exact retOut X25 hx Bd.returns rfl (Or.inr (Or.inl ⟨rfl, rfl, _, rfl⟩)) (hb hby d1_117) hr
            · show Qpow Z q1 p2 res h0 n0 _ T25.heap _
              rw [e25]
              exact ⟨by rw [← hres]; simp only [own_r5, own_r4, own_r3, own_r2, own_r1, own_p16, own_p8, own_p4, if_pos hc42_7, if_pos hc56_9, if_neg hc71_11, if_pos hc87_27, if_pos hc103_29, hP2, hP4, hP8, hP16, hR3], N25, rfl⟩
          · have _ := 0
            obtain ⟨R5, hR5⟩ : ∃ z, own_mul R3 P16 = z := ⟨_, rfl⟩
            obtain ⟨_, _, ⟨T31, L31, k31, n31⟩, -, X31, ⟨Lc31, hQ31, l31, y31, z31⟩, st31⟩ := Jvm.LawKit.callS X25 hx (y := (⟨"com/example/tidegauge/tidegauge/MacroClusterSettingsSnapshotsPerOrderPinLaw", "mul", "(JJ)J"⟩ : MethodName)) hown (mvT hZ (hw _ (List.mem_of_getElem? (i := 7) rfl))) (mvT hZ (hw _ (List.mem_of_getElem? (i := 8) rfl))) (mvT hZ (hw _ (List.mem_of_getElem? (i := 5) rfl))) (mvT hZ (hw _ (List.mem_of_getElem? (i := 9) rfl))) (by decide) (backOf (W := 0) (rm_mul l Z a0 hw [] R3 P16 h0 n0 Z0 R5 hR5) hZ (hw _ (List.mem_of_getElem? (i := 9) rfl)) (hw _ (List.mem_of_getElem? (i := 5) rfl)) (by decide) (by decide)) (g := (mkF m 110 #[.val (.long q1), .second, .val (.int p2), .val (.long q1), .second, .val (.long P2), .second, .val (.long P4), .second, .val (.long P8), .second, .val (.long P16), .second, .val (.long R3), .second] [(.long P16), (.long R3)])) rfl (by rw [hml]; rfl) (argsL := [(.long R3), (.long P16)]) (rest := []) (lenOf pd_0 rfl) rfl (by show 2 * 0 + _ ≤ _; exact Nat.le_of_eq rfl) (hb hby d1_110) (fun _ _ => ⟨rfl, e25, (by decide : 0 + 0 ≤ _), (by decide : 0 + 0 ≤ _)⟩)
            dsimp only [Pt.U, Pt.locs, Pt.cells, Pt.slots] at X31 l31 y31 z31 st31 hQ31
            rw [y31, z31] at X31
            obtain ⟨rfl, N31q, e31⟩ := hQ31
            have N31 : Fr n0 L31 := by rw [l31]; exact Fr.app N25 N31q
            have pre32 : ∀ t, Steps p.tables e below (T31.setTop (mkF m 117 #[.val (.long q1), .second, .val (.int p2), .val (.long q1), .second, .val (.long P2), .second, .val (.long P4), .second, .val (.long P8), .second, .val (.long P16), .second, .val (.long R5), .second] [(.long R5)])) t → Steps p.tables e below (s₁.setTop (entryFrame m #[(.long q1), (.int p2)] 15)) t := fun t k => pre28 t (by
              show Steps p.tables e below (T25.setTop (mkF m 103 #[.val (.long q1), .second, .val (.int p2), .val (.long q1), .second, .val (.long P2), .second, .val (.long P4), .second, .val (.long P8), .second, .val (.long P16), .second, .val (.long R3), .second] [(.int (p2 &&& (16 : Int32)))])) _
              refine XS.ifNo X25.here hx rfl (hb hby d1_103) rfl ((if0 _ _).trans (feq hc103_29).1) ?_
              show Steps p.tables e below (T25.setTop (mkF m 106 #[.val (.long q1), .second, .val (.int p2), .val (.long q1), .second, .val (.long P2), .second, .val (.long P4), .second, .val (.long P8), .second, .val (.long P16), .second, .val (.long R3), .second] [])) _
              refine XS.lload X25.here hx rfl (hb hby d1_106) rfl ?_
              show Steps p.tables e below (T25.setTop (mkF m 108 #[.val (.long q1), .second, .val (.int p2), .val (.long q1), .second, .val (.long P2), .second, .val (.long P4), .second, .val (.long P8), .second, .val (.long P16), .second, .val (.long R3), .second] [(.long R3)])) _
              refine XS.lload X25.here hx rfl (hb hby d1_108) rfl ?_
              show Steps p.tables e below (T25.setTop (mkF m 110 #[.val (.long q1), .second, .val (.int p2), .val (.long q1), .second, .val (.long P2), .second, .val (.long P4), .second, .val (.long P8), .second, .val (.long P16), .second, .val (.long R3), .second] [(.long P16), (.long R3)])) _
              refine st31 _ ?_
              show Steps p.tables e below (T31.setTop (mkF m 113 #[.val (.long q1), .second, .val (.int p2), .val (.long q1), .second, .val (.long P2), .second, .val (.long P4), .second, .val (.long P8), .second, .val (.long P16), .second, .val (.long R3), .second] [(.long R5)])) _
              refine XS.lstore X31.here hx rfl (hb hby d1_113) rfl (l' := #[.val (.long q1), .second, .val (.int p2), .val (.long q1), .second, .val (.long P2), .second, .val (.long P4), .second, .val (.long P8), .second, .val (.long P16), .second, .val (.long R5), .second]) rfl ?_
              show Steps p.tables e below (T31.setTop (mkF m 115 #[.val (.long q1), .second, .val (.int p2), .val (.long q1), .second, .val (.long P2), .second, .val (.long P4), .second, .val (.long P8), .second, .val (.long P16), .second, .val (.long R5), .second] [])) _
              refine XS.lload X31.here hx rfl (hb hby d1_115) rfl ?_
              exact k)
            obtain ⟨fs, hr, hrun, hended, hW, hsame⟩ := X31.leave (v := some (.long R5)) (fun h => by rw [Bd.returns] at h; cases h)
            refine ⟨_, _, pre32 _ ?_, hrun, hended, _, _, rfl, ?_, ⟨_, rfl⟩, hW, hsame.mono (by decide) (by decide)⟩
            · show Steps p.tables e below (T31.setTop (mkF m 117 #[.val (.long q1), .second, .val (.int p2), .val (.long q1), .second, .val (.long P2), .second, .val (.long P4), .second, .val (.long P8), .second, .val (.long P16), .second, .val (.long R5), .second] [(.long R5)])) _
              exact retOut X31 hx Bd.returns rfl (Or.inr (Or.inl ⟨rfl, rfl, _, rfl⟩)) (hb hby d1_117) hr
            · show Qpow Z q1 p2 res h0 n0 _ T31.heap _
              rw [e31]
              exact ⟨by rw [← hres]; simp only [own_r5, own_r4, own_r3, own_r2, own_r1, own_p16, own_p8, own_p4, if_pos hc42_7, if_pos hc56_9, if_neg hc71_11, if_pos hc87_27, if_neg hc103_29, hP2, hP4, hP8, hP16, hR3, hR5], N31, rfl⟩
        · have _ := 0
          obtain ⟨R4, hR4⟩ : ∃ z, own_mul R3 P8 = z := ⟨_, rfl⟩
          obtain ⟨_, _, ⟨T33, L33, k33, n33⟩, -, X33, ⟨Lc33, hQ33, l33, y33, z33⟩, st33⟩ := Jvm.LawKit.callS X25 hx (y := (⟨"com/example/tidegauge/tidegauge/MacroClusterSettingsSnapshotsPerOrderPinLaw", "mul", "(JJ)J"⟩ : MethodName)) hown (mvT hZ (hw _ (List.mem_of_getElem? (i := 7) rfl))) (mvT hZ (hw _ (List.mem_of_getElem? (i := 8) rfl))) (mvT hZ (hw _ (List.mem_of_getElem? (i := 5) rfl))) (mvT hZ (hw _ (List.mem_of_getElem? (i := 9) rfl))) (by decide) (backOf (W := 0) (rm_mul l Z a0 hw [] R3 P8 h0 n0 Z0 R4 hR4) hZ (hw _ (List.mem_of_getElem? (i := 9) rfl)) (hw _ (List.mem_of_getElem? (i := 5) rfl)) (by decide) (by decide)) (g := (mkF m 94 #[.val (.long q1), .second, .val (.int p2), .val (.long q1), .second, .val (.long P2), .second, .val (.long P4), .second, .val (.long P8), .second, .val (.long P16), .second, .val (.long R3), .second] [(.long P8), (.long R3)])) rfl (by rw [hml]; rfl) (argsL := [(.long R3), (.long P8)]) (rest := []) (lenOf pd_0 rfl) rfl (by show 2 * 0 + _ ≤ _; exact Nat.le_of_eq rfl) (hb hby d1_94) (fun _ _ => ⟨rfl, e25, (by decide : 0 + 0 ≤ _), (by decide : 0 + 0 ≤ _)⟩)
          dsimp only [Pt.U, Pt.locs, Pt.cells, Pt.slots] at X33 l33 y33 z33 st33 hQ33
          rw [y33, z33] at X33
          obtain ⟨rfl, N33q, e33⟩ := hQ33
          have N33 : Fr n0 L33 := by rw [l33]; exact Fr.app N25 N33q
          have pre34 : ∀ t, Steps p.tables e below (T33.setTop (mkF m 103 #[.val (.long q1), .second, .val (.int p2), .val (.long q1), .second, .val (.long P2), .second, .val (.long P4), .second, .val (.long P8), .second, .val (.long P16), .second, .val (.long R4), .second] [(.int (p2 &&& (16 : Int32)))])) t → Steps p.tables e below (s₁.setTop (entryFrame m #[(.long q1), (.int p2)] 15)) t := fun t k => pre26 t (by
            show Steps p.tables e below (T25.setTop (mkF m 87 #[.val (.long q1), .second, .val (.int p2), .val (.long q1), .second, .val (.long P2), .second, .val (.long P4), .second, .val (.long P8), .second, .val (.long P16), .second, .val (.long R3), .second] [(.int (p2 &&& (8 : Int32)))])) _
            refine XS.ifNo X25.here hx rfl (hb hby d1_87) rfl ((if0 _ _).trans (feq hc87_27).1) ?_
            show Steps p.tables e below (T25.setTop (mkF m 90 #[.val (.long q1), .second, .val (.int p2), .val (.long q1), .second, .val (.long P2), .second, .val (.long P4), .second, .val (.long P8), .second, .val (.long P16), .second, .val (.long R3), .second] [])) _
            refine XS.lload X25.here hx rfl (hb hby d1_90) rfl ?_
            show Steps p.tables e below (T25.setTop (mkF m 92 #[.val (.long q1), .second, .val (.int p2), .val (.long q1), .second, .val (.long P2), .second, .val (.long P4), .second, .val (.long P8), .second, .val (.long P16), .second, .val (.long R3), .second] [(.long R3)])) _
            refine XS.lload X25.here hx rfl (hb hby d1_92) rfl ?_
            show Steps p.tables e below (T25.setTop (mkF m 94 #[.val (.long q1), .second, .val (.int p2), .val (.long q1), .second, .val (.long P2), .second, .val (.long P4), .second, .val (.long P8), .second, .val (.long P16), .second, .val (.long R3), .second] [(.long P8), (.long R3)])) _
            refine st33 _ ?_
            show Steps p.tables e below (T33.setTop (mkF m 97 #[.val (.long q1), .second, .val (.int p2), .val (.long q1), .second, .val (.long P2), .second, .val (.long P4), .second, .val (.long P8), .second, .val (.long P16), .second, .val (.long R3), .second] [(.long R4)])) _
            refine XS.lstore X33.here hx rfl (hb hby d1_97) rfl (l' := #[.val (.long q1), .second, .val (.int p2), .val (.long q1), .second, .val (.long P2), .second, .val (.long P4), .second, .val (.long P8), .second, .val (.long P16), .second, .val (.long R4), .second]) rfl ?_
            show Steps p.tables e below (T33.setTop (mkF m 99 #[.val (.long q1), .second, .val (.int p2), .val (.long q1), .second, .val (.long P2), .second, .val (.long P4), .second, .val (.long P8), .second, .val (.long P16), .second, .val (.long R4), .second] [])) _
            refine XS.iloadN X33.here hx rfl (hb hby d1_99) rfl ?_
            show Steps p.tables e below (T33.setTop (mkF m 100 #[.val (.long q1), .second, .val (.int p2), .val (.long q1), .second, .val (.long P2), .second, .val (.long P4), .second, .val (.long P8), .second, .val (.long P16), .second, .val (.long R4), .second] [(.int p2)])) _
            refine XT.bipushV X33.here hx rfl (16 : Int32) (hb hby d1_100) (by decide) ?_
            show Steps p.tables e below (T33.setTop (mkF m 102 #[.val (.long q1), .second, .val (.int p2), .val (.long q1), .second, .val (.long P2), .second, .val (.long P4), .second, .val (.long P8), .second, .val (.long P16), .second, .val (.long R4), .second] [(.int (16 : Int32)), (.int p2)])) _
            refine XS.iand X33.here hx rfl (hb hby d1_102) rfl ?_
            exact k)
          by_cases hc103_35 : (p2 &&& (16 : Int32)) = (0 : Int32)
          · have _ := 0
            have pre36 : ∀ t, Steps p.tables e below (T33.setTop (mkF m 117 #[.val (.long q1), .second, .val (.int p2), .val (.long q1), .second, .val (.long P2), .second, .val (.long P4), .second, .val (.long P8), .second, .val (.long P16), .second, .val (.long R4), .second] [(.long R4)])) t → Steps p.tables e below (s₁.setTop (entryFrame m #[(.long q1), (.int p2)] 15)) t := fun t k => pre34 t (by
              show Steps p.tables e below (T33.setTop (mkF m 103 #[.val (.long q1), .second, .val (.int p2), .val (.long q1), .second, .val (.long P2), .second, .val (.long P4), .second, .val (.long P8), .second, .val (.long P16), .second, .val (.long R4), .second] [(.int (p2 &&& (16 : Int32)))])) _
              refine XS.ifYes X33.here hx rfl (pc0 := 103) (pc' := 115) rfl (hb hby d1_103) rfl ((if0 _ _).trans (teq hc103_35).1) (by decide) (by decide) ?_
              show Steps p.tables e below (T33.setTop (mkF m 115 #[.val (.long q1), .second, .val (.int p2), .val (.long q1), .second, .val (.long P2), .second, .val (.long P4), .second, .val (.long P8), .second, .val (.long P16), .second, .val (.long R4), .second] [])) _
              refine XS.lload X33.here hx rfl (hb hby d1_115) rfl ?_
              exact k)
            obtain ⟨fs, hr, hrun, hended, hW, hsame⟩ := X33.leave (v := some (.long R4)) (fun h => by rw [Bd.returns] at h; cases h)
            refine ⟨_, _, pre36 _ ?_, hrun, hended, _, _, rfl, ?_, ⟨_, rfl⟩, hW, hsame.mono (by decide) (by decide)⟩
            · show Steps p.tables e below (T33.setTop (mkF m 117 #[.val (.long q1), .second, .val (.int p2), .val (.long q1), .second, .val (.long P2), .second, .val (.long P4), .second, .val (.long P8), .second, .val (.long P16), .second, .val (.long R4), .second] [(.long R4)])) _
              exact retOut X33 hx Bd.returns rfl (Or.inr (Or.inl ⟨rfl, rfl, _, rfl⟩)) (hb hby d1_117) hr
            · show Qpow Z q1 p2 res h0 n0 _ T33.heap _
              rw [e33]
              exact ⟨by rw [← hres]; simp only [own_r5, own_r4, own_r3, own_r2, own_r1, own_p16, own_p8, own_p4, if_pos hc42_7, if_pos hc56_9, if_neg hc71_11, if_neg hc87_27, if_pos hc103_35, hP2, hP4, hP8, hP16, hR3, hR4], N33, rfl⟩
          · have _ := 0
            obtain ⟨R5, hR5⟩ : ∃ z, own_mul R4 P16 = z := ⟨_, rfl⟩
            obtain ⟨_, _, ⟨T37, L37, k37, n37⟩, -, X37, ⟨Lc37, hQ37, l37, y37, z37⟩, st37⟩ := Jvm.LawKit.callS X33 hx (y := (⟨"com/example/tidegauge/tidegauge/MacroClusterSettingsSnapshotsPerOrderPinLaw", "mul", "(JJ)J"⟩ : MethodName)) hown (mvT hZ (hw _ (List.mem_of_getElem? (i := 7) rfl))) (mvT hZ (hw _ (List.mem_of_getElem? (i := 8) rfl))) (mvT hZ (hw _ (List.mem_of_getElem? (i := 5) rfl))) (mvT hZ (hw _ (List.mem_of_getElem? (i := 9) rfl))) (by decide) (backOf (W := 0) (rm_mul l Z a0 hw [] R4 P16 h0 n0 Z0 R5 hR5) hZ (hw _ (List.mem_of_getElem? (i := 9) rfl)) (hw _ (List.mem_of_getElem? (i := 5) rfl)) (by decide) (by decide)) (g := (mkF m 110 #[.val (.long q1), .second, .val (.int p2), .val (.long q1), .second, .val (.long P2), .second, .val (.long P4), .second, .val (.long P8), .second, .val (.long P16), .second, .val (.long R4), .second] [(.long P16), (.long R4)])) rfl (by rw [hml]; rfl) (argsL := [(.long R4), (.long P16)]) (rest := []) (lenOf pd_0 rfl) rfl (by show 2 * 0 + _ ≤ _; exact Nat.le_of_eq rfl) (hb hby d1_110) (fun _ _ => ⟨rfl, e33, (by decide : 0 + 0 ≤ _), (by decide : 0 + 0 ≤ _)⟩)
            dsimp only [Pt.U, Pt.locs, Pt.cells, Pt.slots] at X37 l37 y37 z37 st37 hQ37
            rw [y37, z37] at X37
            obtain ⟨rfl, N37q, e37⟩ := hQ37
            have N37 : Fr n0 L37 := by rw [l37]; exact Fr.app N33 N37q
            have pre38 : ∀ t, Steps p.tables e below (T37.setTop (mkF m 117 #[.val (.long q1), .second, .val (.int p2), .val (.long q1), .second, .val (.long P2), .second, .val (.long P4), .second, .val (.long P8), .second, .val (.long P16), .second, .val (.long R5), .second] [(.long R5)])) t → Steps p.tables e below (s₁.setTop (entryFrame m #[(.long q1), (.int p2)] 15)) t := fun t k => pre34 t (by
              show Steps p.tables e below (T33.setTop (mkF m 103 #[.val (.long q1), .second, .val (.int p2), .val (.long q1), .second, .val (.long P2), .second, .val (.long P4), .second, .val (.long P8), .second, .val (.long P16), .second, .val (.long R4), .second] [(.int (p2 &&& (16 : Int32)))])) _
              refine XS.ifNo X33.here hx rfl (hb hby d1_103) rfl ((if0 _ _).trans (feq hc103_35).1) ?_
              show Steps p.tables e below (T33.setTop (mkF m 106 #[.val (.long q1), .second, .val (.int p2), .val (.long q1), .second, .val (.long P2), .second, .val (.long P4), .second, .val (.long P8), .second, .val (.long P16), .second, .val (.long R4), .second] [])) _
              refine XS.lload X33.here hx rfl (hb hby d1_106) rfl ?_
              show Steps p.tables e below (T33.setTop (mkF m 108 #[.val (.long q1), .second, .val (.int p2), .val (.long q1), .second, .val (.long P2), .second, .val (.long P4), .second, .val (.long P8), .second, .val (.long P16), .second, .val (.long R4), .second] [(.long R4)])) _
              refine XS.lload X33.here hx rfl (hb hby d1_108) rfl ?_
              show Steps p.tables e below (T33.setTop (mkF m 110 #[.val (.long q1), .second, .val (.int p2), .val (.long q1), .second, .val (.long P2), .second, .val (.long P4), .second, .val (.long P8), .second, .val (.long P16), .second, .val (.long R4), .second] [(.long P16), (.long R4)])) _
              refine st37 _ ?_
              show Steps p.tables e below (T37.setTop (mkF m 113 #[.val (.long q1), .second, .val (.int p2), .val (.long q1), .second, .val (.long P2), .second, .val (.long P4), .second, .val (.long P8), .second, .val (.long P16), .second, .val (.long R4), .second] [(.long R5)])) _
              refine XS.lstore X37.here hx rfl (hb hby d1_113) rfl (l' := #[.val (.long q1), .second, .val (.int p2), .val (.long q1), .second, .val (.long P2), .second, .val (.long P4), .second, .val (.long P8), .second, .val (.long P16), .second, .val (.long R5), .second]) rfl ?_
              show Steps p.tables e below (T37.setTop (mkF m 115 #[.val (.long q1), .second, .val (.int p2), .val (.long q1), .second, .val (.long P2), .second, .val (.long P4), .second, .val (.long P8), .second, .val (.long P16), .second, .val (.long R5), .second] [])) _
              refine XS.lload X37.here hx rfl (hb hby d1_115) rfl ?_
              exact k)
            obtain ⟨fs, hr, hrun, hended, hW, hsame⟩ := X37.leave (v := some (.long R5)) (fun h => by rw [Bd.returns] at h; cases h)
            refine ⟨_, _, pre38 _ ?_, hrun, hended, _, _, rfl, ?_, ⟨_, rfl⟩, hW, hsame.mono (by decide) (by decide)⟩
            · show Steps p.tables e below (T37.setTop (mkF m 117 #[.val (.long q1), .second, .val (.int p2), .val (.long q1), .second, .val (.long P2), .second, .val (.long P4), .second, .val (.long P8), .second, .val (.long P16), .second, .val (.long R5), .second] [(.long R5)])) _
              exact retOut X37 hx Bd.returns rfl (Or.inr (Or.inl ⟨rfl, rfl, _, rfl⟩)) (hb hby d1_117) hr
            · show Qpow Z q1 p2 res h0 n0 _ T37.heap _
              rw [e37]
              exact ⟨by rw [← hres]; simp only [own_r5, own_r4, own_r3, own_r2, own_r1, own_p16, own_p8, own_p4, if_pos hc42_7, if_pos hc56_9, if_neg hc71_11, if_neg hc87_27, if_neg hc103_35, hP2, hP4, hP8, hP16, hR3, hR4, hR5], N37, rfl⟩
    · have _ := 0
      obtain ⟨R2, hR2⟩ : ∃ z, own_mul (1 : Int64) P2 = z := ⟨_, rfl⟩
      obtain ⟨_, _, ⟨T39, L39, k39, n39⟩, -, X39, ⟨Lc39, hQ39, l39, y39, z39⟩, st39⟩ := Jvm.LawKit.callS X5 hx (y := (⟨"com/example/tidegauge/tidegauge/MacroClusterSettingsSnapshotsPerOrderPinLaw", "mul", "(JJ)J"⟩ : MethodName)) hown (mvT hZ (hw _ (List.mem_of_getElem? (i := 7) rfl))) (mvT hZ (hw _ (List.mem_of_getElem? (i := 8) rfl))) (mvT hZ (hw _ (List.mem_of_getElem? (i := 5) rfl))) (mvT hZ (hw _ (List.mem_of_getElem? (i := 9) rfl))) (by decide) (backOf (W := 0) (rm_mul l Z a0 hw [] (1 : Int64) P2 h0 n0 Z0 R2 hR2) hZ (hw _ (List.mem_of_getElem? (i := 9) rfl)) (hw _ (List.mem_of_getElem? (i := 5) rfl)) (by decide) (by decide)) (g := (mkF m 63 #[.val (.long q1), .second, .val (.int p2), .val (.long q1), .second, .val (.long P2), .second, .val (.long P4), .second, .val (.long P8), .second, .val (.long P16), .second, .val (.long (1 : Int64)), .second] [(.long P2), (.long (1 : Int64))])) rfl (by rw [hml]; rfl) (argsL := [(.long (1 : Int64)), (.long P2)]) (rest := []) (lenOf pd_0 rfl) rfl (by show 2 * 0 + _ ≤ _; exact Nat.le_of_eq rfl) (hb hby d1_63) (fun _ _ => ⟨rfl, e5, (by decide : 0 + 0 ≤ _), (by decide : 0 + 0 ≤ _)⟩)
      dsimp only [Pt.U, Pt.locs, Pt.cells, Pt.slots] at X39 l39 y39 z39 st39 hQ39
      rw [y39, z39] at X39
      obtain ⟨rfl, N39q, e39⟩ := hQ39
      have N39 : Fr n0 L39 := by rw [l39]; exact Fr.app N5 N39q
      have pre40 : ∀ t, Steps p.tables e below (T39.setTop (mkF m 71 #[.val (.long q1), .second, .val (.int p2), .val (.long q1), .second, .val (.long P2), .second, .val (.long P4), .second, .val (.long P8), .second, .val (.long P16), .second, .val (.long R2), .second] [(.int (p2 &&& (4 : Int32)))])) t → Steps p.tables e below (s₁.setTop (entryFrame m #[(.long q1), (.int p2)] 15)) t := fun t k => pre8 t (by
        show Steps p.tables e below (T5.setTop (mkF m 56 #[.val (.long q1), .second, .val (.int p2), .val (.long q1), .second, .val (.long P2), .second, .val (.long P4), .second, .val (.long P8), .second, .val (.long P16), .second, .val (.long (1 : Int64)), .second] [(.int (p2 &&& (2 : Int32)))])) _
        refine XS.ifNo X5.here hx rfl (hb hby d1_56) rfl ((if0 _ _).trans (feq hc56_9).1) ?_
        show Steps p.tables e below (T5.setTop (mkF m 59 #[.val (.long q1), .second, .val (.int p2), .val (.long q1), .second, .val (.long P2), .second, .val (.long P4), .second, .val (.long P8), .second, .val (.long P16), .second, .val (.long (1 : Int64)), .second] [])) _
        refine XS.lload X5.here hx rfl (hb hby d1_59) rfl ?_
        show Steps p.tables e below (T5.setTop (mkF m 61 #[.val (.long q1), .second, .val (.int p2), .val (.long q1), .second, .val (.long P2), .second, .val (.long P4), .second, .val (.long P8), .second, .val (.long P16), .second, .val (.long (1 : Int64)), .second] [(.long (1 : Int64))])) _
        refine XS.lload X5.here hx rfl (hb hby d1_61) rfl ?_
        show Steps p.tables e below (T5.setTop (mkF m 63 #[.val (.long q1), .second, .val (.int p2), .val (.long q1), .second, .val (.long P2), .second, .val (.long P4), .second, .val (.long P8), .second, .val (.long P16), .second, .val (.long (1 : Int64)), .second] [(.long P2), (.long (1 : Int64))])) _
        refine st39 _ ?_
        show Steps p.tables e below (T39.setTop (mkF m 66 #[.val (.long q1), .second, .val (.int p2), .val (.long q1), .second, .val (.long P2), .second, .val (.long P4), .second, .val (.long P8), .second, .val (.long P16), .second, .val (.long (1 : Int64)), .second] [(.long R2)])) _
        refine XS.lstore X39.here hx rfl (hb hby d1_66) rfl (l' := #[.val (.long q1), .second, .val (.int p2), .val (.long q1), .second, .val (.long P2), .second, .val (.long P4), .second, .val (.long P8), .second, .val (.long P16), .second, .val (.long R2), .second]) rfl ?_
        show Steps p.tables e below (T39.setTop (mkF m 68 #[.val (.long q1), .second, .val (.int p2), .val (.long q1), .second, .val (.long P2), .second, .val (.long P4), .second, .val (.long P8), .second, .val (.long P16), .second, .val (.long R2), .second] [])) _
        refine XS.iloadN X39.here hx rfl (hb hby d1_68) rfl ?_
        show Steps p.tables e below (T39.setTop (mkF m 69 #[.val (.long q1), .second, .val (.int p2), .val (.long q1), .second, .val (.long P2), .second, .val (.long P4), .second, .val (.long P8), .second, .val (.long P16), .second, .val (.long R2), .second] [(.int p2)])) _
        refine XT.iconstV X39.here hx rfl (4 : Int32) (hb hby d1_69) (by decide) ?_
        show Steps p.tables e below (T39.setTop (mkF m 70 #[.val (.long q1), .second, .val (.int p2), .val (.long q1), .second, .val (.long P2), .second, .val (.long P4), .second, .val (.long P8), .second, .val (.long P16), .second, .val (.long R2), .second] [(.int (4 : Int32)), (.int p2)])) _
        refine XS.iand X39.here hx rfl (hb hby d1_70) rfl ?_
        exact k)
      by_cases hc71_41 : (p2 &&& (4 : Int32)) = (0 : Int32)
      · have _ := 0
        have pre42 : ∀ t, Steps p.tables e below (T39.setTop (mkF m 87 #[.val (.long q1), .second, .val (.int p2), .val (.long q1), .second, .val (.long P2), .second, .val (.long P4), .second, .val (.long P8), .second, .val (.long P16), .second, .val (.long R2), .second] [(.int (p2 &&& (8 : Int32)))])) t → Steps p.tables e below (s₁.setTop (entryFrame m #[(.long q1), (.int p2)] 15)) t := fun t k => pre40 t (by
          show Steps p.tables e below (T39.setTop (mkF m 71 #[.val (.long q1), .second, .val (.int p2), .val (.long q1), .second, .val (.long P2), .second, .val (.long P4), .second, .val (.long P8), .second, .val (.long P16), .second, .val (.long R2), .second] [(.int (p2 &&& (4 : Int32)))])) _
          refine XS.ifYes X39.here hx rfl (pc0 := 71) (pc' := 83) rfl (hb hby d1_71) rfl ((if0 _ _).trans (teq hc71_41).1) (by decide) (by decide) ?_
          show Steps p.tables e below (T39.setTop (mkF m 83 #[.val (.long q1), .second, .val (.int p2), .val (.long q1), .second, .val (.long P2), .second, .val (.long P4), .second, .val (.long P8), .second, .val (.long P16), .second, .val (.long R2), .second] [])) _
          refine XS.iloadN X39.here hx rfl (hb hby d1_83) rfl ?_
          show Steps p.tables e below (T39.setTop (mkF m 84 #[.val (.long q1), .second, .val (.int p2), .val (.long q1), .second, .val (.long P2), .second, .val (.long P4), .second, .val (.long P8), .second, .val (.long P16), .second, .val (.long R2), .second] [(.int p2)])) _
          refine XT.bipushV X39.here hx rfl (8 : Int32) (hb hby d1_84) (by decide) ?_
          show Steps p.tables e below (T39.setTop (mkF m 86 #[.val (.long q1), .second, .val (.int p2), .val (.long q1), .second, .val (.long P2), .second, .val (.long P4), .second, .val (.long P8), .second, .val (.long P16), .second, .val (.long R2), .second] [(.int (8 : Int32)), (.int p2)])) _
          refine XS.iand X39.here hx rfl (hb hby d1_86) rfl ?_
          exact k)
        by_cases hc87_43 : (p2 &&& (8 : Int32)) = (0 : Int32)
        · have _ := 0
          have pre44 : ∀ t, Steps p.tables e below (T39.setTop (mkF m 103 #[.val (.long q1), .second, .val (.int p2), .val (.long q1), .second, .val (.long P2), .second, .val (.long P4), .second, .val (.long P8), .second, .val (.long P16), .second, .val (.long R2), .second] [(.int (p2 &&& (16 : Int32)))])) t → Steps p.tables e below (s₁.setTop (entryFrame m #[(.long q1), (.int p2)] 15)) t := fun t k => pre42 t (by
            show Steps p.tables e below (T39.setTop (mkF m 87 #[.val (.long q1), .second, .val (.int p2), .val (.long q1), .second, .val (.long P2), .second, .val (.long P4), .second, .val (.long P8), .second, .val (.long P16), .second, .val (.long R2), .second] [(.int (p2 &&& (8 : Int32)))])) _
            refine XS.ifYes X39.here hx rfl (pc0 := 87) (pc' := 99) rfl (hb hby d1_87) rfl ((if0 _ _).trans (teq hc87_43).1) (by decide) (by decide) ?_
            show Steps p.tables e below (T39.setTop (mkF m 99 #[.val (.long q1), .second, .val (.int p2), .val (.long q1), .second, .val (.long P2), .second, .val (.long P4), .second, .val (.long P8), .second, .val (.long P16), .second, .val (.long R2), .second] [])) _
            refine XS.iloadN X39.here hx rfl (hb hby d1_99) rfl ?_
            show Steps p.tables e below (T39.setTop (mkF m 100 #[.val (.long q1), .second, .val (.int p2), .val (.long q1), .second, .val (.long P2), .second, .val (.long P4), .second, .val (.long P8), .second, .val (.long P16), .second, .val (.long R2), .second] [(.int p2)])) _
            refine XT.bipushV X39.here hx rfl (16 : Int32) (hb hby d1_100) (by decide) ?_
            show Steps p.tables e below (T39.setTop (mkF m 102 #[.val (.long q1), .second, .val (.int p2), .val (.long q1), .second, .val (.long P2), .second, .val (.long P4), .second, .val (.long P8), .second, .val (.long P16), .second, .val (.long R2), .second] [(.int (16 : Int32)), (.int p2)])) _
            refine XS.iand X39.here hx rfl (hb hby d1_102) rfl ?_
            exact k)
          by_cases hc103_45 : (p2 &&& (16 : Int32)) = (0 : Int32)
          · have _ := 0
            have pre46 : ∀ t, Steps p.tables e below (T39.setTop (mkF m 117 #[.val (.long q1), .second, .val (.int p2), .val (.long q1), .second, .val (.long P2), .second, .val (.long P4), .second, .val (.long P8), .second, .val (.long P16), .second, .val (.long R2), .second] [(.long R2)])) t → Steps p.tables e below (s₁.setTop (entryFrame m #[(.long q1), (.int p2)] 15)) t := fun t k => pre44 t (by
              show Steps p.tables e below (T39.setTop (mkF m 103 #[.val (.long q1), .second, .val (.int p2), .val (.long q1), .second, .val (.long P2), .second, .val (.long P4), .second, .val (.long P8), .second, .val (.long P16), .second, .val (.long R2), .second] [(.int (p2 &&& (16 : Int32)))])) _
              refine XS.ifYes X39.here hx rfl (pc0 := 103) (pc' := 115) rfl (hb hby d1_103) rfl ((if0 _ _).trans (teq hc103_45).1) (by decide) (by decide) ?_
              show Steps p.tables e below (T39.setTop (mkF m 115 #[.val (.long q1), .second, .val (.int p2), .val (.long q1), .second, .val (.long P2), .second, .val (.long P4), .second, .val (.long P8), .second, .val (.long P16), .second, .val (.long R2), .second] [])) _
              refine XS.lload X39.here hx rfl (hb hby d1_115) rfl ?_
              exact k)
            obtain ⟨fs, hr, hrun, hended, hW, hsame⟩ := X39.leave (v := some (.long R2)) (fun h => by rw [Bd.returns] at h; cases h)
            refine ⟨_, _, pre46 _ ?_, hrun, hended, _, _, rfl, ?_, ⟨_, rfl⟩, hW, hsame.mono (by decide) (by decide)⟩
            · show Steps p.tables e below (T39.setTop (mkF m 117 #[.val (.long q1), .second, .val (.int p2), .val (.long q1), .second, .val (.long P2), .second, .val (.long P4), .second, .val (.long P8), .second, .val (.long P16), .second, .val (.long R2), .second] [(.long R2)])) _
              exact retOut X39 hx Bd.returns rfl (Or.inr (Or.inl ⟨rfl, rfl, _, rfl⟩)) (hb hby d1_117) hr
            · show Qpow Z q1 p2 res h0 n0 _ T39.heap _
              rw [e39]
              exact ⟨by rw [← hres]; simp only [own_r5, own_r4, own_r3, own_r2, own_r1, own_p16, own_p8, own_p4, if_pos hc42_7, if_neg hc56_9, if_pos hc71_41, if_pos hc87_43, if_pos hc103_45, hP2, hP4, hP8, hP16, hR2], N39, rfl⟩
          · have _ := 0
            obtain ⟨R5, hR5⟩ : ∃ z, own_mul R2 P16 = z := ⟨_, rfl⟩
            obtain ⟨_, _, ⟨T47, L47, k47, n47⟩, -, X47, ⟨Lc47, hQ47, l47, y47, z47⟩, st47⟩ := Jvm.LawKit.callS X39 hx (y := (⟨"com/example/tidegauge/tidegauge/MacroClusterSettingsSnapshotsPerOrderPinLaw", "mul", "(JJ)J"⟩ : MethodName)) hown (mvT hZ (hw _ (List.mem_of_getElem? (i := 7) rfl))) (mvT hZ (hw _ (List.mem_of_getElem? (i := 8) rfl))) (mvT hZ (hw _ (List.mem_of_getElem? (i := 5) rfl))) (mvT hZ (hw _ (List.mem_of_getElem? (i := 9) rfl))) (by decide) (backOf (W := 0) (rm_mul l Z a0 hw [] R2 P16 h0 n0 Z0 R5 hR5) hZ (hw _ (List.mem_of_getElem? (i := 9) rfl)) (hw _ (List.mem_of_getElem? (i := 5) rfl)) (by decide) (by decide)) (g := (mkF m 110 #[.val (.long q1), .second, .val (.int p2), .val (.long q1), .second, .val (.long P2), .second, .val (.long P4), .second, .val (.long P8), .second, .val (.long P16), .second, .val (.long R2), .second] [(.long P16), (.long R2)])) rfl (by rw [hml]; rfl) (argsL := [(.long R2), (.long P16)]) (rest := []) (lenOf pd_0 rfl) rfl (by show 2 * 0 + _ ≤ _; exact Nat.le_of_eq rfl) (hb hby d1_110) (fun _ _ => ⟨rfl, e39, (by decide : 0 + 0 ≤ _), (by decide : 0 + 0 ≤ _)⟩)
            dsimp only [Pt.U, Pt.locs, Pt.cells, Pt.slots] at X47 l47 y47 z47 st47 hQ47
            rw [y47, z47] at X47
            obtain ⟨rfl, N47q, e47⟩ := hQ47
            have N47 : Fr n0 L47 := by rw [l47]; exact Fr.app N39 N47q
            have pre48 : ∀ t, Steps p.tables e below (T47.setTop (mkF m 117 #[.val (.long q1), .second, .val (.int p2), .val (.long q1), .second, .val (.long P2), .second, .val (.long P4), .second, .val (.long P8), .second, .val (.long P16), .second, .val (.long R5), .second] [(.long R5)])) t → Steps p.tables e below (s₁.setTop (entryFrame m #[(.long q1), (.int p2)] 15)) t := fun t k => pre44 t (by
              show Steps p.tables e below (T39.setTop (mkF m 103 #[.val (.long q1), .second, .val (.int p2), .val (.long q1), .second, .val (.long P2), .second, .val (.long P4), .second, .val (.long P8), .second, .val (.long P16), .second, .val (.long R2), .second] [(.int (p2 &&& (16 : Int32)))])) _
              refine XS.ifNo X39.here hx rfl (hb hby d1_103) rfl ((if0 _ _).trans (feq hc103_45).1) ?_
              show Steps p.tables e below (T39.setTop (mkF m 106 #[.val (.long q1), .second, .val (.int p2), .val (.long q1), .second, .val (.long P2), .second, .val (.long P4), .second, .val (.long P8), .second, .val (.long P16), .second, .val (.long R2), .second] [])) _
              refine XS.lload X39.here hx rfl (hb hby d1_106) rfl ?_
              show Steps p.tables e below (T39.setTop (mkF m 108 #[.val (.long q1), .second, .val (.int p2), .val (.long q1), .second, .val (.long P2), .second, .val (.long P4), .second, .val (.long P8), .second, .val (.long P16), .second, .val (.long R2), .second] [(.long R2)])) _
              refine XS.lload X39.here hx rfl (hb hby d1_108) rfl ?_
              show Steps p.tables e below (T39.setTop (mkF m 110 #[.val (.long q1), .second, .val (.int p2), .val (.long q1), .second, .val (.long P2), .second, .val (.long P4), .second, .val (.long P8), .second, .val (.long P16), .second, .val (.long R2), .second] [(.long P16), (.long R2)])) _
              refine st47 _ ?_
              show Steps p.tables e below (T47.setTop (mkF m 113 #[.val (.long q1), .second, .val (.int p2), .val (.long q1), .second, .val (.long P2), .second, .val (.long P4), .second, .val (.long P8), .second, .val (.long P16), .second, .val (.long R2), .second] [(.long R5)])) _
              refine XS.lstore X47.here hx rfl (hb hby d1_113) rfl (l' := #[.val (.long q1), .second, .val (.int p2), .val (.long q1), .second, .val (.long P2), .second, .val (.long P4), .second, .val (.long P8), .second, .val (.long P16), .second, .val (.long R5), .second]) rfl ?_
              show Steps p.tables e below (T47.setTop (mkF m 115 #[.val (.long q1), .second, .val (.int p2), .val (.long q1), .second, .val (.long P2), .second, .val (.long P4), .second, .val (.long P8), .second, .val (.long P16), .second, .val (.long R5), .second] [])) _
              refine XS.lload X47.here hx rfl (hb hby d1_115) rfl ?_
              exact k)
            obtain ⟨fs, hr, hrun, hended, hW, hsame⟩ := X47.leave (v := some (.long R5)) (fun h => by rw [Bd.returns] at h; cases h)
            refine ⟨_, _, pre48 _ ?_, hrun, hended, _, _, rfl, ?_, ⟨_, rfl⟩, hW, hsame.mono (by decide) (by decide)⟩
            · show Steps p.tables e below (T47.setTop (mkF m 117 #[.val (.long q1), .second, .val (.int p2), .val (.long q1), .second, .val (.long P2), .second, .val (.long P4), .second, .val (.long P8), .second, .val (.long P16), .second, .val (.long R5), .second] [(.long R5)])) _
              exact retOut X47 hx Bd.returns rfl (Or.inr (Or.inl ⟨rfl, rfl, _, rfl⟩)) (hb hby d1_117) hr
            · show Qpow Z q1 p2 res h0 n0 _ T47.heap _
              rw [e47]
              exact ⟨by rw [← hres]; simp only [own_r5, own_r4, own_r3, own_r2, own_r1, own_p16, own_p8, own_p4, if_pos hc42_7, if_neg hc56_9, if_pos hc71_41, if_pos hc87_43, if_neg hc103_45, hP2, hP4, hP8, hP16, hR2, hR5], N47, rfl⟩
        · have _ := 0
          obtain ⟨R4, hR4⟩ : ∃ z, own_mul R2 P8 = z := ⟨_, rfl⟩
          obtain ⟨_, _, ⟨T49, L49, k49, n49⟩, -, X49, ⟨Lc49, hQ49, l49, y49, z49⟩, st49⟩ := Jvm.LawKit.callS X39 hx (y := (⟨"com/example/tidegauge/tidegauge/MacroClusterSettingsSnapshotsPerOrderPinLaw", "mul", "(JJ)J"⟩ : MethodName)) hown (mvT hZ (hw _ (List.mem_of_getElem? (i := 7) rfl))) (mvT hZ (hw _ (List.mem_of_getElem? (i := 8) rfl))) (mvT hZ (hw _ (List.mem_of_getElem? (i := 5) rfl))) (mvT hZ (hw _ (List.mem_of_getElem? (i := 9) rfl))) (by decide) (backOf (W := 0) (rm_mul l Z a0 hw [] R2 P8 h0 n0 Z0 R4 hR4) hZ (hw _ (List.mem_of_getElem? (i := 9) rfl)) (hw _ (List.mem_of_getElem? (i := 5) rfl)) (by decide) (by decide)) (g := (mkF m 94 #[.val (.long q1), .second, .val (.int p2), .val (.long q1), .second, .val (.long P2), .second, .val (.long P4), .second, .val (.long P8), .second, .val (.long P16), .second, .val (.long R2), .second] [(.long P8), (.long R2)])) rfl (by rw [hml]; rfl) (argsL := [(.long R2), (.long P8)]) (rest := []) (lenOf pd_0 rfl) rfl (by show 2 * 0 + _ ≤ _; exact Nat.le_of_eq rfl) (hb hby d1_94) (fun _ _ => ⟨rfl, e39, (by decide : 0 + 0 ≤ _), (by decide : 0 + 0 ≤ _)⟩)
          dsimp only [Pt.U, Pt.locs, Pt.cells, Pt.slots] at X49 l49 y49 z49 st49 hQ49
          rw [y49, z49] at X49
          obtain ⟨rfl, N49q, e49⟩ := hQ49
          have N49 : Fr n0 L49 := by rw [l49]; exact Fr.app N39 N49q
          have pre50 : ∀ t, Steps p.tables e below (T49.setTop (mkF m 103 #[.val (.long q1), .second, .val (.int p2), .val (.long q1), .second, .val (.long P2), .second, .val (.long P4), .second, .val (.long P8), .second, .val (.long P16), .second, .val (.long R4), .second] [(.int (p2 &&& (16 : Int32)))])) t → Steps p.tables e below (s₁.setTop (entryFrame m #[(.long q1), (.int p2)] 15)) t := fun t k => pre42 t (by
            show Steps p.tables e below (T39.setTop (mkF m 87 #[.val (.long q1), .second, .val (.int p2), .val (.long q1), .second, .val (.long P2), .second, .val (.long P4), .second, .val (.long P8), .second, .val (.long P16), .second, .val (.long R2), .second] [(.int (p2 &&& (8 : Int32)))])) _
            refine XS.ifNo X39.here hx rfl (hb hby d1_87) rfl ((if0 _ _).trans (feq hc87_43).1) ?_
            show Steps p.tables e below (T39.setTop (mkF m 90 #[.val (.long q1), .second, .val (.int p2), .val (.long q1), .second, .val (.long P2), .second, .val (.long P4), .second, .val (.long P8), .second, .val (.long P16), .second, .val (.long R2), .second] [])) _
            refine XS.lload X39.here hx rfl (hb hby d1_90) rfl ?_
            show Steps p.tables e below (T39.setTop (mkF m 92 #[.val (.long q1), .second, .val (.int p2), .val (.long q1), .second, .val (.long P2), .second, .val (.long P4), .second, .val (.long P8), .second, .val (.long P16), .second, .val (.long R2), .second] [(.long R2)])) _
            refine XS.lload X39.here hx rfl (hb hby d1_92) rfl ?_
            show Steps p.tables e below (T39.setTop (mkF m 94 #[.val (.long q1), .second, .val (.int p2), .val (.long q1), .second, .val (.long P2), .second, .val (.long P4), .second, .val (.long P8), .second, .val (.long P16), .second, .val (.long R2), .second] [(.long P8), (.long R2)])) _
            refine st49 _ ?_
            show Steps p.tables e below (T49.setTop (mkF m 97 #[.val (.long q1), .second, .val (.int p2), .val (.long q1), .second, .val (.long P2), .second, .val (.long P4), .second, .val (.long P8), .second, .val (.long P16), .second, .val (.long R2), .second] [(.long R4)])) _
            refine XS.lstore X49.here hx rfl (hb hby d1_97) rfl (l' := #[.val (.long q1), .second, .val (.int p2), .val (.long q1), .second, .val (.long P2), .second, .val (.long P4), .second, .val (.long P8), .second, .val (.long P16), .second, .val (.long R4), .second]) rfl ?_
            show Steps p.tables e below (T49.setTop (mkF m 99 #[.val (.long q1), .second, .val (.int p2), .val (.long q1), .second, .val (.long P2), .second, .val (.long P4), .second, .val (.long P8), .second, .val (.long P16), .second, .val (.long R4), .second] [])) _
            refine XS.iloadN X49.here hx rfl (hb hby d1_99) rfl ?_
            show Steps p.tables e below (T49.setTop (mkF m 100 #[.val (.long q1), .second, .val (.int p2), .val (.long q1), .second, .val (.long P2), .second, .val (.long P4), .second, .val (.long P8), .second, .val (.long P16), .second, .val (.long R4), .second] [(.int p2)])) _
            refine XT.bipushV X49.here hx rfl (16 : Int32) (hb hby d1_100) (by decide) ?_
            show Steps p.tables e below (T49.setTop (mkF m 102 #[.val (.long q1), .second, .val (.int p2), .val (.long q1), .second, .val (.long P2), .second, .val (.long P4), .second, .val (.long P8), .second, .val (.long P16), .second, .val (.long R4), .second] [(.int (16 : Int32)), (.int p2)])) _
            refine XS.iand X49.here hx rfl (hb hby d1_102) rfl ?_
            exact k)
          by_cases hc103_51 : (p2 &&& (16 : Int32)) = (0 : Int32)
          · have _ := 0
            have pre52 : ∀ t, Steps p.tables e below (T49.setTop (mkF m 117 #[.val (.long q1), .second, .val (.int p2), .val (.long q1), .second, .val (.long P2), .second, .val (.long P4), .second, .val (.long P8), .second, .val (.long P16), .second, .val (.long R4), .second] [(.long R4)])) t → Steps p.tables e below (s₁.setTop (entryFrame m #[(.long q1), (.int p2)] 15)) t := fun t k => pre50 t (by
              show Steps p.tables e below (T49.setTop (mkF m 103 #[.val (.long q1), .second, .val (.int p2), .val (.long q1), .second, .val (.long P2), .second, .val (.long P4), .second, .val (.long P8), .second, .val (.long P16), .second, .val (.long R4), .second] [(.int (p2 &&& (16 : Int32)))])) _
              refine XS.ifYes X49.here hx rfl (pc0 := 103) (pc' := 115) rfl (hb hby d1_103) rfl ((if0 _ _).trans (teq hc103_51).1) (by decide) (by decide) ?_
              show Steps p.tables e below (T49.setTop (mkF m 115 #[.val (.long q1), .second, .val (.int p2), .val (.long q1), .second, .val (.long P2), .second, .val (.long P4), .second, .val (.long P8), .second, .val (.long P16), .second, .val (.long R4), .second] [])) _
              refine XS.lload X49.here hx rfl (hb hby d1_115) rfl ?_
              exact k)
            obtain ⟨fs, hr, hrun, hended, hW, hsame⟩ := X49.leave (v := some (.long R4)) (fun h => by rw [Bd.returns] at h; cases h)
            refine ⟨_, _, pre52 _ ?_, hrun, hended, _, _, rfl, ?_, ⟨_, rfl⟩, hW, hsame.mono (by decide) (by decide)⟩
            · show Steps p.tables e below (T49.setTop (mkF m 117 #[.val (.long q1), .second, .val (.int p2), .val (.long q1), .second, .val (.long P2), .second, .val (.long P4), .second, .val (.long P8), .second, .val (.long P16), .second, .val (.long R4), .second] [(.long R4)])) _
              exact retOut X49 hx Bd.returns rfl (Or.inr (Or.inl ⟨rfl, rfl, _, rfl⟩)) (hb hby d1_117) hr
            · show Qpow Z q1 p2 res h0 n0 _ T49.heap _
              rw [e49]
              exact ⟨by rw [← hres]; simp only [own_r5, own_r4, own_r3, own_r2, own_r1, own_p16, own_p8, own_p4, if_pos hc42_7, if_neg hc56_9, if_pos hc71_41, if_neg hc87_43, if_pos hc103_51, hP2, hP4, hP8, hP16, hR2, hR4], N49, rfl⟩
          · have _ := 0
            obtain ⟨R5, hR5⟩ : ∃ z, own_mul R4 P16 = z := ⟨_, rfl⟩
            obtain ⟨_, _, ⟨T53, L53, k53, n53⟩, -, X53, ⟨Lc53, hQ53, l53, y53, z53⟩, st53⟩ := Jvm.LawKit.callS X49 hx (y := (⟨"com/example/tidegauge/tidegauge/MacroClusterSettingsSnapshotsPerOrderPinLaw", "mul", "(JJ)J"⟩ : MethodName)) hown (mvT hZ (hw _ (List.mem_of_getElem? (i := 7) rfl))) (mvT hZ (hw _ (List.mem_of_getElem? (i := 8) rfl))) (mvT hZ (hw _ (List.mem_of_getElem? (i := 5) rfl))) (mvT hZ (hw _ (List.mem_of_getElem? (i := 9) rfl))) (by decide) (backOf (W := 0) (rm_mul l Z a0 hw [] R4 P16 h0 n0 Z0 R5 hR5) hZ (hw _ (List.mem_of_getElem? (i := 9) rfl)) (hw _ (List.mem_of_getElem? (i := 5) rfl)) (by decide) (by decide)) (g := (mkF m 110 #[.val (.long q1), .second, .val (.int p2), .val (.long q1), .second, .val (.long P2), .second, .val (.long P4), .second, .val (.long P8), .second, .val (.long P16), .second, .val (.long R4), .second] [(.long P16), (.long R4)])) rfl (by rw [hml]; rfl) (argsL := [(.long R4), (.long P16)]) (rest := []) (lenOf pd_0 rfl) rfl (by show 2 * 0 + _ ≤ _; exact Nat.le_of_eq rfl) (hb hby d1_110) (fun _ _ => ⟨rfl, e49, (by decide : 0 + 0 ≤ _), (by decide : 0 + 0 ≤ _)⟩)
            dsimp only [Pt.U, Pt.locs, Pt.cells, Pt.slots] at X53 l53 y53 z53 st53 hQ53
            rw [y53, z53] at X53
            obtain ⟨rfl, N53q, e53⟩ := hQ53
            have N53 : Fr n0 L53 := by rw [l53]; exact Fr.app N49 N53q
            have pre54 : ∀ t, Steps p.tables e below (T53.setTop (mkF m 117 #[.val (.long q1), .second, .val (.int p2), .val (.long q1), .second, .val (.long P2), .second, .val (.long P4), .second, .val (.long P8), .second, .val (.long P16), .second, .val (.long R5), .second] [(.long R5)])) t → Steps p.tables e below (s₁.setTop (entryFrame m #[(.long q1), (.int p2)] 15)) t := fun t k => pre50 t (by
              show Steps p.tables e below (T49.setTop (mkF m 103 #[.val (.long q1), .second, .val (.int p2), .val (.long q1), .second, .val (.long P2), .second, .val (.long P4), .second, .val (.long P8), .second, .val (.long P16), .second, .val (.long R4), .second] [(.int (p2 &&& (16 : Int32)))])) _
              refine XS.ifNo X49.here hx rfl (hb hby d1_103) rfl ((if0 _ _).trans (feq hc103_51).1) ?_
              show Steps p.tables e below (T49.setTop (mkF m 106 #[.val (.long q1), .second, .val (.int p2), .val (.long q1), .second, .val (.long P2), .second, .val (.long P4), .second, .val (.long P8), .second, .val (.long P16), .second, .val (.long R4), .second] [])) _
              refine XS.lload X49.here hx rfl (hb hby d1_106) rfl ?_
              show Steps p.tables e below (T49.setTop (mkF m 108 #[.val (.long q1), .second, .val (.int p2), .val (.long q1), .second, .val (.long P2), .second, .val (.long P4), .second, .val (.long P8), .second, .val (.long P16), .second, .val (.long R4), .second] [(.long R4)])) _
              refine XS.lload X49.here hx rfl (hb hby d1_108) rfl ?_
              show Steps p.tables e below (T49.setTop (mkF m 110 #[.val (.long q1), .second, .val (.int p2), .val (.long q1), .second, .val (.long P2), .second, .val (.long P4), .second, .val (.long P8), .second, .val (.long P16), .second, .val (.long R4), .second] [(.long P16), (.long R4)])) _
              refine st53 _ ?_
              show Steps p.tables e below (T53.setTop (mkF m 113 #[.val (.long q1), .second, .val (.int p2), .val (.long q1), .second, .val (.long P2), .second, .val (.long P4), .second, .val (.long P8), .second, .val (.long P16), .second, .val (.long R4), .second] [(.long R5)])) _
              refine XS.lstore X53.here hx rfl (hb hby d1_113) rfl (l' := #[.val (.long q1), .second, .val (.int p2), .val (.long q1), .second, .val (.long P2), .second, .val (.long P4), .second, .val (.long P8), .second, .val (.long P16), .second, .val (.long R5), .second]) rfl ?_
              show Steps p.tables e below (T53.setTop (mkF m 115 #[.val (.long q1), .second, .val (.int p2), .val (.long q1), .second, .val (.long P2), .second, .val (.long P4), .second, .val (.long P8), .second, .val (.long P16), .second, .val (.long R5), .second] [])) _
              refine XS.lload X53.here hx rfl (hb hby d1_115) rfl ?_
              exact k)
            obtain ⟨fs, hr, hrun, hended, hW, hsame⟩ := X53.leave (v := some (.long R5)) (fun h => by rw [Bd.returns] at h; cases h)
            refine ⟨_, _, pre54 _ ?_, hrun, hended, _, _, rfl, ?_, ⟨_, rfl⟩, hW, hsame.mono (by decide) (by decide)⟩
            · show Steps p.tables e below (T53.setTop (mkF m 117 #[.val (.long q1), .second, .val (.int p2), .val (.long q1), .second, .val (.long P2), .second, .val (.long P4), .second, .val (.long P8), .second, .val (.long P16), .second, .val (.long R5), .second] [(.long R5)])) _
              exact retOut X53 hx Bd.returns rfl (Or.inr (Or.inl ⟨rfl, rfl, _, rfl⟩)) (hb hby d1_117) hr
            · show Qpow Z q1 p2 res h0 n0 _ T53.heap _
              rw [e53]
              exact ⟨by rw [← hres]; simp only [own_r5, own_r4, own_r3, own_r2, own_r1, own_p16, own_p8, own_p4, if_pos hc42_7, if_neg hc56_9, if_pos hc71_41, if_neg hc87_43, if_neg hc103_51, hP2, hP4, hP8, hP16, hR2, hR4, hR5], N53, rfl⟩
      · have _ := 0
        obtain ⟨R3, hR3⟩ : ∃ z, own_mul R2 P4 = z := ⟨_, rfl⟩
        obtain ⟨_, _, ⟨T55, L55, k55, n55⟩, -, X55, ⟨Lc55, hQ55, l55, y55, z55⟩, st55⟩ := Jvm.LawKit.callS X39 hx (y := (⟨"com/example/tidegauge/tidegauge/MacroClusterSettingsSnapshotsPerOrderPinLaw", "mul", "(JJ)J"⟩ : MethodName)) hown (mvT hZ (hw _ (List.mem_of_getElem? (i := 7) rfl))) (mvT hZ (hw _ (List.mem_of_getElem? (i := 8) rfl))) (mvT hZ (hw _ (List.mem_of_getElem? (i := 5) rfl))) (mvT hZ (hw _ (List.mem_of_getElem? (i := 9) rfl))) (by decide) (backOf (W := 0) (rm_mul l Z a0 hw [] R2 P4 h0 n0 Z0 R3 hR3) hZ (hw _ (List.mem_of_getElem? (i := 9) rfl)) (hw _ (List.mem_of_getElem? (i := 5) rfl)) (by decide) (by decide)) (g := (mkF m 78 #[.val (.long q1), .second, .val (.int p2), .val (.long q1), .second, .val (.long P2), .second, .val (.long P4), .second, .val (.long P8), .second, .val (.long P16), .second, .val (.long R2), .second] [(.long P4), (.long R2)])) rfl (by rw [hml]; rfl) (argsL := [(.long R2), (.long P4)]) (rest := []) (lenOf pd_0 rfl) rfl (by show 2 * 0 + _ ≤ _; exact Nat.le_of_eq rfl) (hb hby d1_78) (fun _ _ => ⟨rfl, e39, (by decide : 0 + 0 ≤ _), (by decide : 0 + 0 ≤ _)⟩)
        dsimp only [Pt.U, Pt.locs, Pt.cells, Pt.slots] at X55 l55 y55 z55 st55 hQ55
        rw [y55, z55] at X55
        obtain ⟨rfl, N55q, e55⟩ := hQ55
        have N55 : Fr n0 L55 := by rw [l55]; exact Fr.app N39 N55q
        have pre56 : ∀ t, Steps p.tables e below (T55.setTop (mkF m 87 #[.val (.long q1), .second, .val (.int p2), .val (.long q1), .second, .val (.long P2), .second, .val (.long P4), .second, .val (.long P8), .second, .val (.long P16), .second, .val (.long R3), .second] [(.int (p2 &&& (8 : Int32)))])) t → Steps p.tables e below (s₁.setTop (entryFrame m #[(.long q1), (.int p2)] 15)) t := fun t k => pre40 t (by
          show Steps p.tables e below (T39.setTop (mkF m 71 #[.val (.long q1), .second, .val (.int p2), .val (.long q1), .second, .val (.long P2), .second, .val (.long P4), .second, .val (.long P8), .second, .val (.long P16), .second, .val (.long R2), .second] [(.int (p2 &&& (4 : Int32)))])) _
          refine XS.ifNo X39.here hx rfl (hb hby d1_71) rfl ((if0 _ _).trans (feq hc71_41).1) ?_
          show Steps p.tables e below (T39.setTop (mkF m 74 #[.val (.long q1), .second, .val (.int p2), .val (.long q1), .second, .val (.long P2), .second, .val (.long P4), .second, .val (.long P8), .second, .val (.long P16), .second, .val (.long R2), .second] [])) _
          refine XS.lload X39.here hx rfl (hb hby d1_74) rfl ?_
          show Steps p.tables e below (T39.setTop (mkF m 76 #[.val (.long q1), .second, .val (.int p2), .val (.long q1), .second, .val (.long P2), .second, .val (.long P4), .second, .val (.long P8), .second, .val (.long P16), .second, .val (.long R2), .second] [(.long R2)])) _
          refine XS.lload X39.here hx rfl (hb hby d1_76) rfl ?_
          show Steps p.tables e below (T39.setTop (mkF m 78 #[.val (.long q1), .second, .val (.int p2), .val (.long q1), .second, .val (.long P2), .second, .val (.long P4), .second, .val (.long P8), .second, .val (.long P16), .second, .val (.long R2), .second] [(.long P4), (.long R2)])) _
          refine st55 _ ?_
          show Steps p.tables e below (T55.setTop (mkF m 81 #[.val (.long q1), .second, .val (.int p2), .val (.long q1), .second, .val (.long P2), .second, .val (.long P4), .second, .val (.long P8), .second, .val (.long P16), .second, .val (.long R2), .second] [(.long R3)])) _
          refine XS.lstore X55.here hx rfl (hb hby d1_81) rfl (l' := #[.val (.long q1), .second, .val (.int p2), .val (.long q1), .second, .val (.long P2), .second, .val (.long P4), .second, .val (.long P8), .second, .val (.long P16), .second, .val (.long R3), .second]) rfl ?_
          show Steps p.tables e below (T55.setTop (mkF m 83 #[.val (.long q1), .second, .val (.int p2), .val (.long q1), .second, .val (.long P2), .second, .val (.long P4), .second, .val (.long P8), .second, .val (.long P16), .second, .val (.long R3), .second] [])) _
          refine XS.iloadN X55.here hx rfl (hb hby d1_83) rfl ?_
          show Steps p.tables e below (T55.setTop (mkF m 84 #[.val (.long q1), .second, .val (.int p2), .val (.long q1), .second, .val (.long P2), .second, .val (.long P4), .second, .val (.long P8), .second, .val (.long P16), .second, .val (.long R3), .second] [(.int p2)])) _
          refine XT.bipushV X55.here hx rfl (8 : Int32) (hb hby d1_84) (by decide) ?_
          show Steps p.tables e below (T55.setTop (mkF m 86 #[.val (.long q1), .second, .val (.int p2), .val (.long q1), .second, .val (.long P2), .second, .val (.long P4), .second, .val (.long P8), .second, .val (.long P16), .second, .val (.long R3), .second] [(.int (8 : Int32)), (.int p2)])) _
          refine XS.iand X55.here hx rfl (hb hby d1_86) rfl ?_
          exact k)
        by_cases hc87_57 : (p2 &&& (8 : Int32)) = (0 : Int32)
        · have _ := 0
          have pre58 : ∀ t, Steps p.tables e below (T55.setTop (mkF m 103 #[.val (.long q1), .second, .val (.int p2), .val (.long q1), .second, .val (.long P2), .second, .val (.long P4), .second, .val (.long P8), .second, .val (.long P16), .second, .val (.long R3), .second] [(.int (p2 &&& (16 : Int32)))])) t → Steps p.tables e below (s₁.setTop (entryFrame m #[(.long q1), (.int p2)] 15)) t := fun t k => pre56 t (by
            show Steps p.tables e below (T55.setTop (mkF m 87 #[.val (.long q1), .second, .val (.int p2), .val (.long q1), .second, .val (.long P2), .second, .val (.long P4), .second, .val (.long P8), .second, .val (.long P16), .second, .val (.long R3), .second] [(.int (p2 &&& (8 : Int32)))])) _
            refine XS.ifYes X55.here hx rfl (pc0 := 87) (pc' := 99) rfl (hb hby d1_87) rfl ((if0 _ _).trans (teq hc87_57).1) (by decide) (by decide) ?_
            show Steps p.tables e below (T55.setTop (mkF m 99 #[.val (.long q1), .second, .val (.int p2), .val (.long q1), .second, .val (.long P2), .second, .val (.long P4), .second, .val (.long P8), .second, .val (.long P16), .second, .val (.long R3), .second] [])) _
            refine XS.iloadN X55.here hx rfl (hb hby d1_99) rfl ?_
            show Steps p.tables e below (T55.setTop (mkF m 100 #[.val (.long q1), .second, .val (.int p2), .val (.long q1), .second, .val (.long P2), .second, .val (.long P4), .second, .val (.long P8), .second, .val (.long P16), .second, .val (.long R3), .second] [(.int p2)])) _
            refine XT.bipushV X55.here hx rfl (16 : Int32) (hb hby d1_100) (by decide) ?_
            show Steps p.tables e below (T55.setTop (mkF m 102 #[.val (.long q1), .second, .val (.int p2), .val (.long q1), .second, .val (.long P2), .second, .val (.long P4), .second, .val (.long P8), .second, .val (.long P16), .second, .val (.long R3), .second] [(.int (16 : Int32)), (.int p2)])) _
            refine XS.iand X55.here hx rfl (hb hby d1_102) rfl ?_
            exact k)
          by_cases hc103_59 : (p2 &&& (16 : Int32)) = (0 : Int32)
          · have _ := 0
            have pre60 : ∀ t, Steps p.tables e below (T55.setTop (mkF m 117 #[.val (.long q1), .second, .val (.int p2), .val (.long q1), .second, .val (.long P2), .second, .val (.long P4), .second, .val (.long P8), .second, .val (.long P16), .second, .val (.long R3), .second] [(.long R3)])) t → Steps p.tables e below (s₁.setTop (entryFrame m #[(.long q1), (.int p2)] 15)) t := fun t k => pre58 t (by
              show Steps p.tables e below (T55.setTop (mkF m 103 #[.val (.long q1), .second, .val (.int p2), .val (.long q1), .second, .val (.long P2), .second, .val (.long P4), .second, .val (.long P8), .second, .val (.long P16), .second, .val (.long R3), .second] [(.int (p2 &&& (16 : Int32)))])) _
              refine XS.ifYes X55.here hx rfl (pc0 := 103) (pc' := 115) rfl (hb hby d1_103) rfl ((if0 _ _).trans (teq hc103_59).1) (by decide) (by decide) ?_
              show Steps p.tables e below (T55.setTop (mkF m 115 #[.val (.long q1), .second, .val (.int p2), .val (.long q1), .second, .val (.long P2), .second, .val (.long P4), .second, .val (.long P8), .second, .val (.long P16), .second, .val (.long R3), .second] [])) _
              refine XS.lload X55.here hx rfl (hb hby d1_115) rfl ?_
              exact k)
            obtain ⟨fs, hr, hrun, hended, hW, hsame⟩ := X55.leave (v := some (.long R3)) (fun h => by rw [Bd.returns] at h; cases h)
            refine ⟨_, _, pre60 _ ?_, hrun, hended, _, _, rfl, ?_, ⟨_, rfl⟩, hW, hsame.mono (by decide) (by decide)⟩
            · show Steps p.tables e below (T55.setTop (mkF m 117 #[.val (.long q1), .second, .val (.int p2), .val (.long q1), .second, .val (.long P2), .second, .val (.long P4), .second, .val (.long P8), .second, .val (.long P16), .second, .val (.long R3), .second] [(.long R3)])) _
              exact retOut X55 hx Bd.returns rfl (Or.inr (Or.inl ⟨rfl, rfl, _, rfl⟩)) (hb hby d1_117) hr
            · show Qpow Z q1 p2 res h0 n0 _ T55.heap _
              rw [e55]
              exact ⟨by rw [← hres]; simp only [own_r5, own_r4, own_r3, own_r2, own_r1, own_p16, own_p8, own_p4, if_pos hc42_7, if_neg hc56_9, if_neg hc71_41, if_pos hc87_57, if_pos hc103_59, hP2, hP4, hP8, hP16, hR2, hR3], N55, rfl⟩
          · have _ := 0
            obtain ⟨R5, hR5⟩ : ∃ z, own_mul R3 P16 = z := ⟨_, rfl⟩
            obtain ⟨_, _, ⟨T61, L61, k61, n61⟩, -, X61, ⟨Lc61, hQ61, l61, y61, z61⟩, st61⟩ := Jvm.LawKit.callS X55 hx (y := (⟨"com/example/tidegauge/tidegauge/MacroClusterSettingsSnapshotsPerOrderPinLaw", "mul", "(JJ)J"⟩ : MethodName)) hown (mvT hZ (hw _ (List.mem_of_getElem? (i := 7) rfl))) (mvT hZ (hw _ (List.mem_of_getElem? (i := 8) rfl))) (mvT hZ (hw _ (List.mem_of_getElem? (i := 5) rfl))) (mvT hZ (hw _ (List.mem_of_getElem? (i := 9) rfl))) (by decide) (backOf (W := 0) (rm_mul l Z a0 hw [] R3 P16 h0 n0 Z0 R5 hR5) hZ (hw _ (List.mem_of_getElem? (i := 9) rfl)) (hw _ (List.mem_of_getElem? (i := 5) rfl)) (by decide) (by decide)) (g := (mkF m 110 #[.val (.long q1), .second, .val (.int p2), .val (.long q1), .second, .val (.long P2), .second, .val (.long P4), .second, .val (.long P8), .second, .val (.long P16), .second, .val (.long R3), .second] [(.long P16), (.long R3)])) rfl (by rw [hml]; rfl) (argsL := [(.long R3), (.long P16)]) (rest := []) (lenOf pd_0 rfl) rfl (by show 2 * 0 + _ ≤ _; exact Nat.le_of_eq rfl) (hb hby d1_110) (fun _ _ => ⟨rfl, e55, (by decide : 0 + 0 ≤ _), (by decide : 0 + 0 ≤ _)⟩)
            dsimp only [Pt.U, Pt.locs, Pt.cells, Pt.slots] at X61 l61 y61 z61 st61 hQ61
            rw [y61, z61] at X61
            obtain ⟨rfl, N61q, e61⟩ := hQ61
            have N61 : Fr n0 L61 := by rw [l61]; exact Fr.app N55 N61q
            have pre62 : ∀ t, Steps p.tables e below (T61.setTop (mkF m 117 #[.val (.long q1), .second, .val (.int p2), .val (.long q1), .second, .val (.long P2), .second, .val (.long P4), .second, .val (.long P8), .second, .val (.long P16), .second, .val (.long R5), .second] [(.long R5)])) t → Steps p.tables e below (s₁.setTop (entryFrame m #[(.long q1), (.int p2)] 15)) t := fun t k => pre58 t (by
              show Steps p.tables e below (T55.setTop (mkF m 103 #[.val (.long q1), .second, .val (.int p2), .val (.long q1), .second, .val (.long P2), .second, .val (.long P4), .second, .val (.long P8), .second, .val (.long P16), .second, .val (.long R3), .second] [(.int (p2 &&& (16 : Int32)))])) _
              refine XS.ifNo X55.here hx rfl (hb hby d1_103) rfl ((if0 _ _).trans (feq hc103_59).1) ?_
              show Steps p.tables e below (T55.setTop (mkF m 106 #[.val (.long q1), .second, .val (.int p2), .val (.long q1), .second, .val (.long P2), .second, .val (.long P4), .second, .val (.long P8), .second, .val (.long P16), .second, .val (.long R3), .second] [])) _
              refine XS.lload X55.here hx rfl (hb hby d1_106) rfl ?_
              show Steps p.tables e below (T55.setTop (mkF m 108 #[.val (.long q1), .second, .val (.int p2), .val (.long q1), .second, .val (.long P2), .second, .val (.long P4), .second, .val (.long P8), .second, .val (.long P16), .second, .val (.long R3), .second] [(.long R3)])) _
              refine XS.lload X55.here hx rfl (hb hby d1_108) rfl ?_
              show Steps p.tables e below (T55.setTop (mkF m 110 #[.val (.long q1), .second, .val (.int p2), .val (.long q1), .second, .val (.long P2), .second, .val (.long P4), .second, .val (.long P8), .second, .val (.long P16), .second, .val (.long R3), .second] [(.long P16), (.long R3)])) _
              refine st61 _ ?_
              show Steps p.tables e below (T61.setTop (mkF m 113 #[.val (.long q1), .second, .val (.int p2), .val (.long q1), .second, .val (.long P2), .second, .val (.long P4), .second, .val (.long P8), .second, .val (.long P16), .second, .val (.long R3), .second] [(.long R5)])) _
              refine XS.lstore X61.here hx rfl (hb hby d1_113) rfl (l' := #[.val (.long q1), .second, .val (.int p2), .val (.long q1), .second, .val (.long P2), .second, .val (.long P4), .second, .val (.long P8), .second, .val (.long P16), .second, .val (.long R5), .second]) rfl ?_
              show Steps p.tables e below (T61.setTop (mkF m 115 #[.val (.long q1), .second, .val (.int p2), .val (.long q1), .second, .val (.long P2), .second, .val (.long P4), .second, .val (.long P8), .second, .val (.long P16), .second, .val (.long R5), .second] [])) _
              refine XS.lload X61.here hx rfl (hb hby d1_115) rfl ?_
              exact k)
            obtain ⟨fs, hr, hrun, hended, hW, hsame⟩ := X61.leave (v := some (.long R5)) (fun h => by rw [Bd.returns] at h; cases h)
            refine ⟨_, _, pre62 _ ?_, hrun, hended, _, _, rfl, ?_, ⟨_, rfl⟩, hW, hsame.mono (by decide) (by decide)⟩
            · show Steps p.tables e below (T61.setTop (mkF m 117 #[.val (.long q1), .second, .val (.int p2), .val (.long q1), .second, .val (.long P2), .second, .val (.long P4), .second, .val (.long P8), .second, .val (.long P16), .second, .val (.long R5), .second] [(.long R5)])) _
              exact retOut X61 hx Bd.returns rfl (Or.inr (Or.inl ⟨rfl, rfl, _, rfl⟩)) (hb hby d1_117) hr
            · show Qpow Z q1 p2 res h0 n0 _ T61.heap _
              rw [e61]
              exact ⟨by rw [← hres]; simp only [own_r5, own_r4, own_r3, own_r2, own_r1, own_p16, own_p8, own_p4, if_pos hc42_7, if_neg hc56_9, if_neg hc71_41, if_pos hc87_57, if_neg hc103_59, hP2, hP4, hP8, hP16, hR2, hR3, hR5], N61, rfl⟩
        · have _ := 0
          obtain ⟨R4, hR4⟩ : ∃ z, own_mul R3 P8 = z := ⟨_, rfl⟩
          obtain ⟨_, _, ⟨T63, L63, k63, n63⟩, -, X63, ⟨Lc63, hQ63, l63, y63, z63⟩, st63⟩ := Jvm.LawKit.callS X55 hx (y := (⟨"com/example/tidegauge/tidegauge/MacroClusterSettingsSnapshotsPerOrderPinLaw", "mul", "(JJ)J"⟩ : MethodName)) hown (mvT hZ (hw _ (List.mem_of_getElem? (i := 7) rfl))) (mvT hZ (hw _ (List.mem_of_getElem? (i := 8) rfl))) (mvT hZ (hw _ (List.mem_of_getElem? (i := 5) rfl))) (mvT hZ (hw _ (List.mem_of_getElem? (i := 9) rfl))) (by decide) (backOf (W := 0) (rm_mul l Z a0 hw [] R3 P8 h0 n0 Z0 R4 hR4) hZ (hw _ (List.mem_of_getElem? (i := 9) rfl)) (hw _ (List.mem_of_getElem? (i := 5) rfl)) (by decide) (by decide)) (g := (mkF m 94 #[.val (.long q1), .second, .val (.int p2), .val (.long q1), .second, .val (.long P2), .second, .val (.long P4), .second, .val (.long P8), .second, .val (.long P16), .second, .val (.long R3), .second] [(.long P8), (.long R3)])) rfl (by rw [hml]; rfl) (argsL := [(.long R3), (.long P8)]) (rest := []) (lenOf pd_0 rfl) rfl (by show 2 * 0 + _ ≤ _; exact Nat.le_of_eq rfl) (hb hby d1_94) (fun _ _ => ⟨rfl, e55, (by decide : 0 + 0 ≤ _), (by decide : 0 + 0 ≤ _)⟩)
          dsimp only [Pt.U, Pt.locs, Pt.cells, Pt.slots] at X63 l63 y63 z63 st63 hQ63
          rw [y63, z63] at X63
          obtain ⟨rfl, N63q, e63⟩ := hQ63
          have N63 : Fr n0 L63 := by rw [l63]; exact Fr.app N55 N63q
          have pre64 : ∀ t, Steps p.tables e below (T63.setTop (mkF m 103 #[.val (.long q1), .second, .val (.int p2), .val (.long q1), .second, .val (.long P2), .second, .val (.long P4), .second, .val (.long P8), .second, .val (.long P16), .second, .val (.long R4), .second] [(.int (p2 &&& (16 : Int32)))])) t → Steps p.tables e below (s₁.setTop (entryFrame m #[(.long q1), (.int p2)] 15)) t := fun t k => pre56 t (by
            show Steps p.tables e below (T55.setTop (mkF m 87 #[.val (.long q1), .second, .val (.int p2), .val (.long q1), .second, .val (.long P2), .second, .val (.long P4), .second, .val (.long P8), .second, .val (.long P16), .second, .val (.long R3), .second] [(.int (p2 &&& (8 : Int32)))])) _
            refine XS.ifNo X55.here hx rfl (hb hby d1_87) rfl ((if0 _ _).trans (feq hc87_57).1) ?_
            show Steps p.tables e below (T55.setTop (mkF m 90 #[.val (.long q1), .second, .val (.int p2), .val (.long q1), .second, .val (.long P2), .second, .val (.long P4), .second, .val (.long P8), .second, .val (.long P16), .second, .val (.long R3), .second] [])) _
            refine XS.lload X55.here hx rfl (hb hby d1_90) rfl ?_
            show Steps p.tables e below (T55.setTop (mkF m 92 #[.val (.long q1), .second, .val (.int p2), .val (.long q1), .second, .val (.long P2), .second, .val (.long P4), .second, .val (.long P8), .second, .val (.long P16), .second, .val (.long R3), .second] [(.long R3)])) _
            refine XS.lload X55.here hx rfl (hb hby d1_92) rfl ?_
            show Steps p.tables e below (T55.setTop (mkF m 94 #[.val (.long q1), .second, .val (.int p2), .val (.long q1), .second, .val (.long P2), .second, .val (.long P4), .second, .val (.long P8), .second, .val (.long P16), .second, .val (.long R3), .second] [(.long P8), (.long R3)])) _
            refine st63 _ ?_
            show Steps p.tables e below (T63.setTop (mkF m 97 #[.val (.long q1), .second, .val (.int p2), .val (.long q1), .second, .val (.long P2), .second, .val (.long P4), .second, .val (.long P8), .second, .val (.long P16), .second, .val (.long R3), .second] [(.long R4)])) _
            refine XS.lstore X63.here hx rfl (hb hby d1_97) rfl (l' := #[.val (.long q1), .second, .val (.int p2), .val (.long q1), .second, .val (.long P2), .second, .val (.long P4), .second, .val (.long P8), .second, .val (.long P16), .second, .val (.long R4), .second]) rfl ?_
            show Steps p.tables e below (T63.setTop (mkF m 99 #[.val (.long q1), .second, .val (.int p2), .val (.long q1), .second, .val (.long P2), .second, .val (.long P4), .second, .val (.long P8), .second, .val (.long P16), .second, .val (.long R4), .second] [])) _
            refine XS.iloadN X63.here hx rfl (hb hby d1_99) rfl ?_
            show Steps p.tables e below (T63.setTop (mkF m 100 #[.val (.long q1), .second, .val (.int p2), .val (.long q1), .second, .val (.long P2), .second, .val (.long P4), .second, .val (.long P8), .second, .val (.long P16), .second, .val (.long R4), .second] [(.int p2)])) _
            refine XT.bipushV X63.here hx rfl (16 : Int32) (hb hby d1_100) (by decide) ?_
            show Steps p.tables e below (T63.setTop (mkF m 102 #[.val (.long q1), .second, .val (.int p2), .val (.long q1), .second, .val (.long P2), .second, .val (.long P4), .second, .val (.long P8), .second, .val (.long P16), .second, .val (.long R4), .second] [(.int (16 : Int32)), (.int p2)])) _
            refine XS.iand X63.here hx rfl (hb hby d1_102) rfl ?_
            exact k)
          by_cases hc103_65 : (p2 &&& (16 : Int32)) = (0 : Int32)
          · have _ := 0
            have pre66 : ∀ t, Steps p.tables e below (T63.setTop (mkF m 117 #[.val (.long q1), .second, .val (.int p2), .val (.long q1), .second, .val (.long P2), .second, .val (.long P4), .second, .val (.long P8), .second, .val (.long P16), .second, .val (.long R4), .second] [(.long R4)])) t → Steps p.tables e below (s₁.setTop (entryFrame m #[(.long q1), (.int p2)] 15)) t := fun t k => pre64 t (by
              show Steps p.tables e below (T63.setTop (mkF m 103 #[.val (.long q1), .second, .val (.int p2), .val (.long q1), .second, .val (.long P2), .second, .val (.long P4), .second, .val (.long P8), .second, .val (.long P16), .second, .val (.long R4), .second] [(.int (p2 &&& (16 : Int32)))])) _
              refine XS.ifYes X63.here hx rfl (pc0 := 103) (pc' := 115) rfl (hb hby d1_103) rfl ((if0 _ _).trans (teq hc103_65).1) (by decide) (by decide) ?_
              show Steps p.tables e below (T63.setTop (mkF m 115 #[.val (.long q1), .second, .val (.int p2), .val (.long q1), .second, .val (.long P2), .second, .val (.long P4), .second, .val (.long P8), .second, .val (.long P16), .second, .val (.long R4), .second] [])) _
              refine XS.lload X63.here hx rfl (hb hby d1_115) rfl ?_
              exact k)
            obtain ⟨fs, hr, hrun, hended, hW, hsame⟩ := X63.leave (v := some (.long R4)) (fun h => by rw [Bd.returns] at h; cases h)
            refine ⟨_, _, pre66 _ ?_, hrun, hended, _, _, rfl, ?_, ⟨_, rfl⟩, hW, hsame.mono (by decide) (by decide)⟩
            · show Steps p.tables e below (T63.setTop (mkF m 117 #[.val (.long q1), .second, .val (.int p2), .val (.long q1), .second, .val (.long P2), .second, .val (.long P4), .second, .val (.long P8), .second, .val (.long P16), .second, .val (.long R4), .second] [(.long R4)])) _
              exact retOut X63 hx Bd.returns rfl (Or.inr (Or.inl ⟨rfl, rfl, _, rfl⟩)) (hb hby d1_117) hr
            · show Qpow Z q1 p2 res h0 n0 _ T63.heap _
              rw [e63]
              exact ⟨by rw [← hres]; simp only [own_r5, own_r4, own_r3, own_r2, own_r1, own_p16, own_p8, own_p4, if_pos hc42_7, if_neg hc56_9, if_neg hc71_41, if_neg hc87_57, if_pos hc103_65, hP2, hP4, hP8, hP16, hR2, hR3, hR4], N63, rfl⟩
          · have _ := 0
            obtain ⟨R5, hR5⟩ : ∃ z, own_mul R4 P16 = z := ⟨_, rfl⟩
            obtain ⟨_, _, ⟨T67, L67, k67, n67⟩, -, X67, ⟨Lc67, hQ67, l67, y67, z67⟩, st67⟩ := Jvm.LawKit.callS X63 hx (y := (⟨"com/example/tidegauge/tidegauge/MacroClusterSettingsSnapshotsPerOrderPinLaw", "mul", "(JJ)J"⟩ : MethodName)) hown (mvT hZ (hw _ (List.mem_of_getElem? (i := 7) rfl))) (mvT hZ (hw _ (List.mem_of_getElem? (i := 8) rfl))) (mvT hZ (hw _ (List.mem_of_getElem? (i := 5) rfl))) (mvT hZ (hw _ (List.mem_of_getElem? (i := 9) rfl))) (by decide) (backOf (W := 0) (rm_mul l Z a0 hw [] R4 P16 h0 n0 Z0 R5 hR5) hZ (hw _ (List.mem_of_getElem? (i := 9) rfl)) (hw _ (List.mem_of_getElem? (i := 5) rfl)) (by decide) (by decide)) (g := (mkF m 110 #[.val (.long q1), .second, .val (.int p2), .val (.long q1), .second, .val (.long P2), .second, .val (.long P4), .second, .val (.long P8), .second, .val (.long P16), .second, .val (.long R4), .second] [(.long P16), (.long R4)])) rfl (by rw [hml]; rfl) (argsL := [(.long R4), (.long P16)]) (rest := []) (lenOf pd_0 rfl) rfl (by show 2 * 0 + _ ≤ _; exact Nat.le_of_eq rfl) (hb hby d1_110) (fun _ _ => ⟨rfl, e63, (by decide : 0 + 0 ≤ _), (by decide : 0 + 0 ≤ _)⟩)
            dsimp only [Pt.U, Pt.locs, Pt.cells, Pt.slots] at X67 l67 y67 z67 st67 hQ67
            rw [y67, z67] at X67
            obtain ⟨rfl, N67q, e67⟩ := hQ67
            have N67 : Fr n0 L67 := by rw [l67]; exact Fr.app N63 N67q
            have pre68 : ∀ t, Steps p.tables e below (T67.setTop (mkF m 117 #[.val (.long q1), .second, .val (.int p2), .val (.long q1), .second, .val (.long P2), .second, .val (.long P4), .second, .val (.long P8), .second, .val (.long P16), .second, .val (.long R5), .second] [(.long R5)])) t → Steps p.tables e below (s₁.setTop (entryFrame m #[(.long q1), (.int p2)] 15)) t := fun t k => pre64 t (by
              show Steps p.tables e below (T63.setTop (mkF m 103 #[.val (.long q1), .second, .val (.int p2), .val (.long q1), .second, .val (.long P2), .second, .val (.long P4), .second, .val (.long P8), .second, .val (.long P16), .second, .val (.long R4), .second] [(.int (p2 &&& (16 : Int32)))])) _
              refine XS.ifNo X63.here hx rfl (hb hby d1_103) rfl ((if0 _ _).trans (feq hc103_65).1) ?_
              show Steps p.tables e below (T63.setTop (mkF m 106 #[.val (.long q1), .second, .val (.int p2), .val (.long q1), .second, .val (.long P2), .second, .val (.long P4), .second, .val (.long P8), .second, .val (.long P16), .second, .val (.long R4), .second] [])) _
              refine XS.lload X63.here hx rfl (hb hby d1_106) rfl ?_
              show Steps p.tables e below (T63.setTop (mkF m 108 #[.val (.long q1), .second, .val (.int p2), .val (.long q1), .second, .val (.long P2), .second, .val (.long P4), .second, .val (.long P8), .second, .val (.long P16), .second, .val (.long R4), .second] [(.long R4)])) _
              refine XS.lload X63.here hx rfl (hb hby d1_108) rfl ?_
              show Steps p.tables e below (T63.setTop (mkF m 110 #[.val (.long q1), .second, .val (.int p2), .val (.long q1), .second, .val (.long P2), .second, .val (.long P4), .second, .val (.long P8), .second, .val (.long P16), .second, .val (.long R4), .second] [(.long P16), (.long R4)])) _
              refine st67 _ ?_
              show Steps p.tables e below (T67.setTop (mkF m 113 #[.val (.long q1), .second, .val (.int p2), .val (.long q1), .second, .val (.long P2), .second, .val (.long P4), .second, .val (.long P8), .second, .val (.long P16), .second, .val (.long R4), .second] [(.long R5)])) _
              refine XS.lstore X67.here hx rfl (hb hby d1_113) rfl (l' := #[.val (.long q1), .second, .val (.int p2), .val (.long q1), .second, .val (.long P2), .second, .val (.long P4), .second, .val (.long P8), .second, .val (.long P16), .second, .val (.long R5), .second]) rfl ?_
              show Steps p.tables e below (T67.setTop (mkF m 115 #[.val (.long q1), .second, .val (.int p2), .val (.long q1), .second, .val (.long P2), .second, .val (.long P4), .second, .val (.long P8), .second, .val (.long P16), .second, .val (.long R5), .second] [])) _
              refine XS.lload X67.here hx rfl (hb hby d1_115) rfl ?_
              exact k)
            obtain ⟨fs, hr, hrun, hended, hW, hsame⟩ := X67.leave (v := some (.long R5)) (fun h => by rw [Bd.returns] at h; cases h)
            refine ⟨_, _, pre68 _ ?_, hrun, hended, _, _, rfl, ?_, ⟨_, rfl⟩, hW, hsame.mono (by decide) (by decide)⟩
            · show Steps p.tables e below (T67.setTop (mkF m 117 #[.val (.long q1), .second, .val (.int p2), .val (.long q1), .second, .val (.long P2), .second, .val (.long P4), .second, .val (.long P8), .second, .val (.long P16), .second, .val (.long R5), .second] [(.long R5)])) _
              exact retOut X67 hx Bd.returns rfl (Or.inr (Or.inl ⟨rfl, rfl, _, rfl⟩)) (hb hby d1_117) hr
            · show Qpow Z q1 p2 res h0 n0 _ T67.heap _
              rw [e67]
              exact ⟨by rw [← hres]; simp only [own_r5, own_r4, own_r3, own_r2, own_r1, own_p16, own_p8, own_p4, if_pos hc42_7, if_neg hc56_9, if_neg hc71_41, if_neg hc87_57, if_neg hc103_65, hP2, hP4, hP8, hP16, hR2, hR3, hR4, hR5], N67, rfl⟩
  · have _ := 0
    obtain ⟨R1, hR1⟩ : ∃ z, own_mul (1 : Int64) q1 = z := ⟨_, rfl⟩
    obtain ⟨_, _, ⟨T69, L69, k69, n69⟩, -, X69, ⟨Lc69, hQ69, l69, y69, z69⟩, st69⟩ := Jvm.LawKit.callS X5 hx (y := (⟨"com/example/tidegauge/tidegauge/MacroClusterSettingsSnapshotsPerOrderPinLaw", "mul", "(JJ)J"⟩ : MethodName)) hown (mvT hZ (hw _ (List.mem_of_getElem? (i := 7) rfl))) (mvT hZ (hw _ (List.mem_of_getElem? (i := 8) rfl))) (mvT hZ (hw _ (List.mem_of_getElem? (i := 5) rfl))) (mvT hZ (hw _ (List.mem_of_getElem? (i := 9) rfl))) (by decide) (backOf (W := 0) (rm_mul l Z a0 hw [] (1 : Int64) q1 h0 n0 Z0 R1 hR1) hZ (hw _ (List.mem_of_getElem? (i := 9) rfl)) (hw _ (List.mem_of_getElem? (i := 5) rfl)) (by decide) (by decide)) (g := (mkF m 48 #[.val (.long q1), .second, .val (.int p2), .val (.long q1), .second, .val (.long P2), .second, .val (.long P4), .second, .val (.long P8), .second, .val (.long P16), .second, .val (.long (1 : Int64)), .second] [(.long q1), (.long (1 : Int64))])) rfl (by rw [hml]; rfl) (argsL := [(.long (1 : Int64)), (.long q1)]) (rest := []) (lenOf pd_0 rfl) rfl (by show 2 * 0 + _ ≤ _; exact Nat.le_of_eq rfl) (hb hby d1_48) (fun _ _ => ⟨rfl, e5, (by decide : 0 + 0 ≤ _), (by decide : 0 + 0 ≤ _)⟩)
    dsimp only [Pt.U, Pt.locs, Pt.cells, Pt.slots] at X69 l69 y69 z69 st69 hQ69
    rw [y69, z69] at X69
    obtain ⟨rfl, N69q, e69⟩ := hQ69
    have N69 : Fr n0 L69 := by rw [l69]; exact Fr.app N5 N69q
    have pre70 : ∀ t, Steps p.tables e below (T69.setTop (mkF m 56 #[.val (.long q1), .second, .val (.int p2), .val (.long q1), .second, .val (.long P2), .second, .val (.long P4), .second, .val (.long P8), .second, .val (.long P16), .second, .val (.long R1), .second] [(.int (p2 &&& (2 : Int32)))])) t → Steps p.tables e below (s₁.setTop (entryFrame m #[(.long q1), (.int p2)] 15)) t := fun t k => pre6 t (by
      show Steps p.tables e below (T5.setTop (mkF m 42 #[.val (.long q1), .second, .val (.int p2), .val (.long q1), .second, .val (.long P2), .second, .val (.long P4), .second, .val (.long P8), .second, .val (.long P16), .second, .val (.long (1 : Int64)), .second] [(.int (p2 &&& (1 : Int32)))])) _
      refine XS.ifNo X5.here hx rfl (hb hby d1_42) rfl ((if0 _ _).trans (feq hc42_7).1) ?_
      show Steps p.tables e below (T5.setTop (mkF m 45 #[.val (.long q1), .second, .val (.int p2), .val (.long q1), .second, .val (.long P2), .second, .val (.long P4), .second, .val (.long P8), .second, .val (.long P16), .second, .val (.long (1 : Int64)), .second] [])) _
      refine XS.lload X5.here hx rfl (hb hby d1_45) rfl ?_
      show Steps p.tables e below (T5.setTop (mkF m 47 #[.val (.long q1), .second, .val (.int p2), .val (.long q1), .second, .val (.long P2), .second, .val (.long P4), .second, .val (.long P8), .second, .val (.long P16), .second, .val (.long (1 : Int64)), .second] [(.long (1 : Int64))])) _
      refine XS.lloadN X5.here hx rfl (hb hby d1_47) rfl ?_
      show Steps p.tables e below (T5.setTop (mkF m 48 #[.val (.long q1), .second, .val (.int p2), .val (.long q1), .second, .val (.long P2), .second, .val (.long P4), .second, .val (.long P8), .second, .val (.long P16), .second, .val (.long (1 : Int64)), .second] [(.long q1), (.long (1 : Int64))])) _
      refine st69 _ ?_
      show Steps p.tables e below (T69.setTop (mkF m 51 #[.val (.long q1), .second, .val (.int p2), .val (.long q1), .second, .val (.long P2), .second, .val (.long P4), .second, .val (.long P8), .second, .val (.long P16), .second, .val (.long (1 : Int64)), .second] [(.long R1)])) _
      refine XS.lstore X69.here hx rfl (hb hby d1_51) rfl (l' := #[.val (.long q1), .second, .val (.int p2), .val (.long q1), .second, .val (.long P2), .second, .val (.long P4), .second, .val (.long P8), .second, .val (.long P16), .second, .val (.long R1), .second]) rfl ?_
      show Steps p.tables e below (T69.setTop (mkF m 53 #[.val (.long q1), .second, .val (.int p2), .val (.long q1), .second, .val (.long P2), .second, .val (.long P4), .second, .val (.long P8), .second, .val (.long P16), .second, .val (.long R1), .second] [])) _
      refine XS.iloadN X69.here hx rfl (hb hby d1_53) rfl ?_
      show Steps p.tables e below (T69.setTop (mkF m 54 #[.val (.long q1), .second, .val (.int p2), .val (.long q1), .second, .val (.long P2), .second, .val (.long P4), .second, .val (.long P8), .second, .val (.long P16), .second, .val (.long R1), .second] [(.int p2)])) _
      refine XT.iconstV X69.here hx rfl (2 : Int32) (hb hby d1_54) (by decide) ?_
      show Steps p.tables e below (T69.setTop (mkF m 55 #[.val (.long q1), .second, .val (.int p2), .val (.long q1), .second, .val (.long P2), .second, .val (.long P4), .second, .val (.long P8), .second, .val (.long P16), .second, .val (.long R1), .second] [(.int (2 : Int32)), (.int p2)])) _
      refine XS.iand X69.here hx rfl (hb hby d1_55) rfl ?_
      exact k)
    by_cases hc56_71 : (p2 &&& (2 : Int32)) = (0 : Int32)
    · have _ := 0
      have pre72 : ∀ t, Steps p.tables e below (T69.setTop (mkF m 71 #[.val (.long q1), .second, .val (.int p2), .val (.long q1), .second, .val (.long P2), .second, .val (.long P4), .second, .val (.long P8), .second, .val (.long P16), .second, .val (.long R1), .second] [(.int (p2 &&& (4 : Int32)))])) t → Steps p.tables e below (s₁.setTop (entryFrame m #[(.long q1), (.int p2)] 15)) t := fun t k => pre70 t (by
        show Steps p.tables e below (T69.setTop (mkF m 56 #[.val (.long q1), .second, .val (.int p2), .val (.long q1), .second, .val (.long P2), .second, .val (.long P4), .second, .val (.long P8), .second, .val (.long P16), .second, .val (.long R1), .second] [(.int (p2 &&& (2 : Int32)))])) _
        refine XS.ifYes X69.here hx rfl (pc0 := 56) (pc' := 68) rfl (hb hby d1_56) rfl ((if0 _ _).trans (teq hc56_71).1) (by decide) (by decide) ?_
        show Steps p.tables e below (T69.setTop (mkF m 68 #[.val (.long q1), .second, .val (.int p2), .val (.long q1), .second, .val (.long P2), .second, .val (.long P4), .second, .val (.long P8), .second, .val (.long P16), .second, .val (.long R1), .second] [])) _
        refine XS.iloadN X69.here hx rfl (hb hby d1_68) rfl ?_
        show Steps p.tables e below (T69.setTop (mkF m 69 #[.val (.long q1), .second, .val (.int p2), .val (.long q1), .second, .val (.long P2), .second, .val (.long P4), .second, .val (.long P8), .second, .val (.long P16), .second, .val (.long R1), .second] [(.int p2)])) _
        refine XT.iconstV X69.here hx rfl (4 : Int32) (hb hby d1_69) (by decide) ?_
        show Steps p.tables e below (T69.setTop (mkF m 70 #[.val (.long q1), .second, .val (.int p2), .val (.long q1), .second, .val (.long P2), .second, .val (.long P4), .second, .val (.long P8), .second, .val (.long P16), .second, .val (.long R1), .second] [(.int (4 : Int32)), (.int p2)])) _
        refine XS.iand X69.here hx rfl (hb hby d1_70) rfl ?_
        exact k)
      by_cases hc71_73 : (p2 &&& (4 : Int32)) = (0 : Int32)
      · have _ := 0
        have pre74 : ∀ t, Steps p.tables e below (T69.setTop (mkF m 87 #[.val (.long q1), .second, .val (.int p2), .val (.long q1), .second, .val (.long P2), .second, .val (.long P4), .second, .val (.long P8), .second, .val (.long P16), .second, .val (.long R1), .second] [(.int (p2 &&& (8 : Int32)))])) t → Steps p.tables e below (s₁.setTop (entryFrame m #[(.long q1), (.int p2)] 15)) t := fun t k => pre72 t (by
          show Steps p.tables e below (T69.setTop (mkF m 71 #[.val (.long q1), .second, .val (.int p2), .val (.long q1), .second, .val (.long P2), .second, .val (.long P4), .second, .val (.long P8), .second, .val (.long P16), .second, .val (.long R1), .second] [(.int (p2 &&& (4 : Int32)))])) _
          refine XS.ifYes X69.here hx rfl (pc0 := 71) (pc' := 83) rfl (hb hby d1_71) rfl ((if0 _ _).trans (teq hc71_73).1) (by decide) (by decide) ?_
          show Steps p.tables e below (T69.setTop (mkF m 83 #[.val (.long q1), .second, .val (.int p2), .val (.long q1), .second, .val (.long P2), .second, .val (.long P4), .second, .val (.long P8), .second, .val (.long P16), .second, .val (.long R1), .second] [])) _
          refine XS.iloadN X69.here hx rfl (hb hby d1_83) rfl ?_
          show Steps p.tables e below (T69.setTop (mkF m 84 #[.val (.long q1), .second, .val (.int p2), .val (.long q1), .second, .val (.long P2), .second, .val (.long P4), .second, .val (.long P8), .second, .val (.long P16), .second, .val (.long R1), .second] [(.int p2)])) _
          refine XT.bipushV X69.here hx rfl (8 : Int32) (hb hby d1_84) (by decide) ?_
          show Steps p.tables e below (T69.setTop (mkF m 86 #[.val (.long q1), .second, .val (.int p2), .val (.long q1), .second, .val (.long P2), .second, .val (.long P4), .second, .val (.long P8), .second, .val (.long P16), .second, .val (.long R1), .second] [(.int (8 : Int32)), (.int p2)])) _
          refine XS.iand X69.here hx rfl (hb hby d1_86) rfl ?_
          exact k)
        by_cases hc87_75 : (p2 &&& (8 : Int32)) = (0 : Int32)
        · have _ := 0
          have pre76 : ∀ t, Steps p.tables e below (T69.setTop (mkF m 103 #[.val (.long q1), .second, .val (.int p2), .val (.long q1), .second, .val (.long P2), .second, .val (.long P4), .second, .val (.long P8), .second, .val (.long P16), .second, .val (.long R1), .second] [(.int (p2 &&& (16 : Int32)))])) t → Steps p.tables e below (s₁.setTop (entryFrame m #[(.long q1), (.int p2)] 15)) t := fun t k => pre74 t (by
            show Steps p.tables e below (T69.setTop (mkF m 87 #[.val (.long q1), .second, .val (.int p2), .val (.long q1), .second, .val (.long P2), .second, .val (.long P4), .second, .val (.long P8), .second, .val (.long P16), .second, .val (.long R1), .second] [(.int (p2 &&& (8 : Int32)))])) _
            refine XS.ifYes X69.here hx rfl (pc0 := 87) (pc' := 99) rfl (hb hby d1_87) rfl ((if0 _ _).trans (teq hc87_75).1) (by decide) (by decide) ?_
            show Steps p.tables e below (T69.setTop (mkF m 99 #[.val (.long q1), .second, .val (.int p2), .val (.long q1), .second, .val (.long P2), .second, .val (.long P4), .second, .val (.long P8), .second, .val (.long P16), .second, .val (.long R1), .second] [])) _
            refine XS.iloadN X69.here hx rfl (hb hby d1_99) rfl ?_
            show Steps p.tables e below (T69.setTop (mkF m 100 #[.val (.long q1), .second, .val (.int p2), .val (.long q1), .second, .val (.long P2), .second, .val (.long P4), .second, .val (.long P8), .second, .val (.long P16), .second, .val (.long R1), .second] [(.int p2)])) _
            refine XT.bipushV X69.here hx rfl (16 : Int32) (hb hby d1_100) (by decide) ?_
            show Steps p.tables e below (T69.setTop (mkF m 102 #[.val (.long q1), .second, .val (.int p2), .val (.long q1), .second, .val (.long P2), .second, .val (.long P4), .second, .val (.long P8), .second, .val (.long P16), .second, .val (.long R1), .second] [(.int (16 : Int32)), (.int p2)])) _
            refine XS.iand X69.here hx rfl (hb hby d1_102) rfl ?_
            exact k)
          by_cases hc103_77 : (p2 &&& (16 : Int32)) = (0 : Int32)
          · have _ := 0
            have pre78 : ∀ t, Steps p.tables e below (T69.setTop (mkF m 117 #[.val (.long q1), .second, .val (.int p2), .val (.long q1), .second, .val (.long P2), .second, .val (.long P4), .second, .val (.long P8), .second, .val (.long P16), .second, .val (.long R1), .second] [(.long R1)])) t → Steps p.tables e below (s₁.setTop (entryFrame m #[(.long q1), (.int p2)] 15)) t := fun t k => pre76 t (by
              show Steps p.tables e below (T69.setTop (mkF m 103 #[.val (.long q1), .second, .val (.int p2), .val (.long q1), .second, .val (.long P2), .second, .val (.long P4), .second, .val (.long P8), .second, .val (.long P16), .second, .val (.long R1), .second] [(.int (p2 &&& (16 : Int32)))])) _
              refine XS.ifYes X69.here hx rfl (pc0 := 103) (pc' := 115) rfl (hb hby d1_103) rfl ((if0 _ _).trans (teq hc103_77).1) (by decide) (by decide) ?_
              show Steps p.tables e below (T69.setTop (mkF m 115 #[.val (.long q1), .second, .val (.int p2), .val (.long q1), .second, .val (.long P2), .second, .val (.long P4), .second, .val (.long P8), .second, .val (.long P16), .second, .val (.long R1), .second] [])) _
              refine XS.lload X69.here hx rfl (hb hby d1_115) rfl ?_
              exact k)
            obtain ⟨fs, hr, hrun, hended, hW, hsame⟩ := X69.leave (v := some (.long R1)) (fun h => by rw [Bd.returns] at h; cases h)
            refine ⟨_, _, pre78 _ ?_, hrun, hended, _, _, rfl, ?_, ⟨_, rfl⟩, hW, hsame.mono (by decide) (by decide)⟩
            · show Steps p.tables e below (T69.setTop (mkF m 117 #[.val (.long q1), .second, .val (.int p2), .val (.long q1), .second, .val (.long P2), .second, .val (.long P4), .second, .val (.long P8), .second, .val (.long P16), .second, .val (.long R1), .second] [(.long R1)])) _
              exact retOut X69 hx Bd.returns rfl (Or.inr (Or.inl ⟨rfl, rfl, _, rfl⟩)) (hb hby d1_117) hr
            · show Qpow Z q1 p2 res h0 n0 _ T69.heap _
              rw [e69]
              exact ⟨by rw [← hres]; simp only [own_r5, own_r4, own_r3, own_r2, own_r1, own_p16, own_p8, own_p4, if_neg hc42_7, if_pos hc56_71, if_pos hc71_73, if_pos hc87_75, if_pos hc103_77, hP2, hP4, hP8, hP16, hR1], N69, rfl⟩
          · have _ := 0
            obtain ⟨R5, hR5⟩ : ∃ z, own_mul R1 P16 = z := ⟨_, rfl⟩
            obtain ⟨_, _, ⟨T79, L79, k79, n79⟩, -, X79, ⟨Lc79, hQ79, l79, y79, z79⟩, st79⟩ := Jvm.LawKit.callS X69 hx (y := (⟨"com/example/tidegauge/tidegauge/MacroClusterSettingsSnapshotsPerOrderPinLaw", "mul", "(JJ)J"⟩ : MethodName)) hown (mvT hZ (hw _ (List.mem_of_getElem? (i := 7) rfl))) (mvT hZ (hw _ (List.mem_of_getElem? (i := 8) rfl))) (mvT hZ (hw _ (List.mem_of_getElem? (i := 5) rfl))) (mvT hZ (hw _ (List.mem_of_getElem? (i := 9) rfl))) (by decide) (backOf (W := 0) (rm_mul l Z a0 hw [] R1 P16 h0 n0 Z0 R5 hR5) hZ (hw _ (List.mem_of_getElem? (i := 9) rfl)) (hw _ (List.mem_of_getElem? (i := 5) rfl)) (by decide) (by decide)) (g := (mkF m 110 #[.val (.long q1), .second, .val (.int p2), .val (.long q1), .second, .val (.long P2), .second, .val (.long P4), .second, .val (.long P8), .second, .val (.long P16), .second, .val (.long R1), .second] [(.long P16), (.long R1)])) rfl (by rw [hml]; rfl) (argsL := [(.long R1), (.long P16)]) (rest := []) (lenOf pd_0 rfl) rfl (by show 2 * 0 + _ ≤ _; exact Nat.le_of_eq rfl) (hb hby d1_110) (fun _ _ => ⟨rfl, e69, (by decide : 0 + 0 ≤ _), (by decide : 0 + 0 ≤ _)⟩)
            dsimp only [Pt.U, Pt.locs, Pt.cells, Pt.slots] at X79 l79 y79 z79 st79 hQ79
            rw [y79, z79] at X79
            obtain ⟨rfl, N79q, e79⟩ := hQ79
            have N79 : Fr n0 L79 := by rw [l79]; exact Fr.app N69 N79q
            have pre80 : ∀ t, Steps p.tables e below (T79.setTop (mkF m 117 #[.val (.long q1), .second, .val (.int p2), .val (.long q1), .second, .val (.long P2), .second, .val (.long P4), .second, .val (.long P8), .second, .val (.long P16), .second, .val (.long R5), .second] [(.long R5)])) t → Steps p.tables e below (s₁.setTop (entryFrame m #[(.long q1), (.int p2)] 15)) t := fun t k => pre76 t (by
              show Steps p.tables e below (T69.setTop (mkF m 103 #[.val (.long q1), .second, .val (.int p2), .val (.long q1), .second, .val (.long P2), .second, .val (.long P4), .second, .val (.long P8), .second, .val (.long P16), .second, .val (.long R1), .second] [(.int (p2 &&& (16 : Int32)))])) _
              refine XS.ifNo X69.here hx rfl (hb hby d1_103) rfl ((if0 _ _).trans (feq hc103_77).1) ?_
              show Steps p.tables e below (T69.setTop (mkF m 106 #[.val (.long q1), .second, .val (.int p2), .val (.long q1), .second, .val (.long P2), .second, .val (.long P4), .second, .val (.long P8), .second, .val (.long P16), .second, .val (.long R1), .second] [])) _
              refine XS.lload X69.here hx rfl (hb hby d1_106) rfl ?_
              show Steps p.tables e below (T69.setTop (mkF m 108 #[.val (.long q1), .second, .val (.int p2), .val (.long q1), .second, .val (.long P2), .second, .val (.long P4), .second, .val (.long P8), .second, .val (.long P16), .second, .val (.long R1), .second] [(.long R1)])) _
              refine XS.lload X69.here hx rfl (hb hby d1_108) rfl ?_
              show Steps p.tables e below (T69.setTop (mkF m 110 #[.val (.long q1), .second, .val (.int p2), .val (.long q1), .second, .val (.long P2), .second, .val (.long P4), .second, .val (.long P8), .second, .val (.long P16), .second, .val (.long R1), .second] [(.long P16), (.long R1)])) _
              refine st79 _ ?_
              show Steps p.tables e below (T79.setTop (mkF m 113 #[.val (.long q1), .second, .val (.int p2), .val (.long q1), .second, .val (.long P2), .second, .val (.long P4), .second, .val (.long P8), .second, .val (.long P16), .second, .val (.long R1), .second] [(.long R5)])) _
              refine XS.lstore X79.here hx rfl (hb hby d1_113) rfl (l' := #[.val (.long q1), .second, .val (.int p2), .val (.long q1), .second, .val (.long P2), .second, .val (.long P4), .second, .val (.long P8), .second, .val (.long P16), .second, .val (.long R5), .second]) rfl ?_
              show Steps p.tables e below (T79.setTop (mkF m 115 #[.val (.long q1), .second, .val (.int p2), .val (.long q1), .second, .val (.long P2), .second, .val (.long P4), .second, .val (.long P8), .second, .val (.long P16), .second, .val (.long R5), .second] [])) _
              refine XS.lload X79.here hx rfl (hb hby d1_115) rfl ?_
              exact k)
            obtain ⟨fs, hr, hrun, hended, hW, hsame⟩ := X79.leave (v := some (.long R5)) (fun h => by rw [Bd.returns] at h; cases h)
            refine ⟨_, _, pre80 _ ?_, hrun, hended, _, _, rfl, ?_, ⟨_, rfl⟩, hW, hsame.mono (by decide) (by decide)⟩
            · show Steps p.tables e below (T79.setTop (mkF m 117 #[.val (.long q1), .second, .val (.int p2), .val (.long q1), .second, .val (.long P2), .second, .val (.long P4), .second, .val (.long P8), .second, .val (.long P16), .second, .val (.long R5), .second] [(.long R5)])) _
              exact retOut X79 hx Bd.returns rfl (Or.inr (Or.inl ⟨rfl, rfl, _, rfl⟩)) (hb hby d1_117) hr
            · show Qpow Z q1 p2 res h0 n0 _ T79.heap _
              rw [e79]
              exact ⟨by rw [← hres]; simp only [own_r5, own_r4, own_r3, own_r2, own_r1, own_p16, own_p8, own_p4, if_neg hc42_7, if_pos hc56_71, if_pos hc71_73, if_pos hc87_75, if_neg hc103_77, hP2, hP4, hP8, hP16, hR1, hR5], N79, rfl⟩
        · have _ := 0
          obtain ⟨R4, hR4⟩ : ∃ z, own_mul R1 P8 = z := ⟨_, rfl⟩
          obtain ⟨_, _, ⟨T81, L81, k81, n81⟩, -, X81, ⟨Lc81, hQ81, l81, y81, z81⟩, st81⟩ := Jvm.LawKit.callS X69 hx (y := (⟨"com/example/tidegauge/tidegauge/MacroClusterSettingsSnapshotsPerOrderPinLaw", "mul", "(JJ)J"⟩ : MethodName)) hown (mvT hZ (hw _ (List.mem_of_getElem? (i := 7) rfl))) (mvT hZ (hw _ (List.mem_of_getElem? (i := 8) rfl))) (mvT hZ (hw _ (List.mem_of_getElem? (i := 5) rfl))) (mvT hZ (hw _ (List.mem_of_getElem? (i := 9) rfl))) (by decide) (backOf (W := 0) (rm_mul l Z a0 hw [] R1 P8 h0 n0 Z0 R4 hR4) hZ (hw _ (List.mem_of_getElem? (i := 9) rfl)) (hw _ (List.mem_of_getElem? (i := 5) rfl)) (by decide) (by decide)) (g := (mkF m 94 #[.val (.long q1), .second, .val (.int p2), .val (.long q1), .second, .val (.long P2), .second, .val (.long P4), .second, .val (.long P8), .second, .val (.long P16), .second, .val (.long R1), .second] [(.long P8), (.long R1)])) rfl (by rw [hml]; rfl) (argsL := [(.long R1), (.long P8)]) (rest := []) (lenOf pd_0 rfl) rfl (by show 2 * 0 + _ ≤ _; exact Nat.le_of_eq rfl) (hb hby d1_94) (fun _ _ => ⟨rfl, e69, (by decide : 0 + 0 ≤ _), (by decide : 0 + 0 ≤ _)⟩)
          dsimp only [Pt.U, Pt.locs, Pt.cells, Pt.slots] at X81 l81 y81 z81 st81 hQ81
          rw [y81, z81] at X81
          obtain ⟨rfl, N81q, e81⟩ := hQ81
          have N81 : Fr n0 L81 := by rw [l81]; exact Fr.app N69 N81q
          have pre82 : ∀ t, Steps p.tables e below (T81.setTop (mkF m 103 #[.val (.long q1), .second, .val (.int p2), .val (.long q1), .second, .val (.long P2), .second, .val (.long P4), .second, .val (.long P8), .second, .val (.long P16), .second, .val (.long R4), .second] [(.int (p2 &&& (16 : Int32)))])) t → Steps p.tables e below (s₁.setTop (entryFrame m #[(.long q1), (.int p2)] 15)) t := fun t k => pre74 t (by
            show Steps p.tables e below (T69.setTop (mkF m 87 #[.val (.long q1), .second, .val (.int p2), .val (.long q1), .second, .val (.long P2), .second, .val (.long P4), .second, .val (.long P8), .second, .val (.long P16), .second, .val (.long R1), .second] [(.int (p2 &&& (8 : Int32)))])) _
            refine XS.ifNo X69.here hx rfl (hb hby d1_87) rfl ((if0 _ _).trans (feq hc87_75).1) ?_
            show Steps p.tables e below (T69.setTop (mkF m 90 #[.val (.long q1), .second, .val (.int p2), .val (.long q1), .second, .val (.long P2), .second, .val (.long P4), .second, .val (.long P8), .second, .val (.long P16), .second, .val (.long R1), .second] [])) _
            refine XS.lload X69.here hx rfl (hb hby d1_90) rfl ?_
            show Steps p.tables e below (T69.setTop (mkF m 92 #[.val (.long q1), .second, .val (.int p2), .val (.long q1), .second, .val (.long P2), .second, .val (.long P4), .second, .val (.long P8), .second, .val (.long P16), .second, .val (.long R1), .second] [(.long R1)])) _
            refine XS.lload X69.here hx rfl (hb hby d1_92) rfl ?_
            show Steps p.tables e below (T69.setTop (mkF m 94 #[.val (.long q1), .second, .val (.int p2), .val (.long q1), .second, .val (.long P2), .second, .val (.long P4), .second, .val (.long P8), .second, .val (.long P16), .second, .val (.long R1), .second] [(.long P8), (.long R1)])) _
            refine st81 _ ?_
            show Steps p.tables e below (T81.setTop (mkF m 97 #[.val (.long q1), .second, .val (.int p2), .val (.long q1), .second, .val (.long P2), .second, .val (.long P4), .second, .val (.long P8), .second, .val (.long P16), .second, .val (.long R1), .second] [(.long R4)])) _
            refine XS.lstore X81.here hx rfl (hb hby d1_97) rfl (l' := #[.val (.long q1), .second, .val (.int p2), .val (.long q1), .second, .val (.long P2), .second, .val (.long P4), .second, .val (.long P8), .second, .val (.long P16), .second, .val (.long R4), .second]) rfl ?_
            show Steps p.tables e below (T81.setTop (mkF m 99 #[.val (.long q1), .second, .val (.int p2), .val (.long q1), .second, .val (.long P2), .second, .val (.long P4), .second, .val (.long P8), .second, .val (.long P16), .second, .val (.long R4), .second] [])) _
            refine XS.iloadN X81.here hx rfl (hb hby d1_99) rfl ?_
            show Steps p.tables e below (T81.setTop (mkF m 100 #[.val (.long q1), .second, .val (.int p2), .val (.long q1), .second, .val (.long P2), .second, .val (.long P4), .second, .val (.long P8), .second, .val (.long P16), .second, .val (.long R4), .second] [(.int p2)])) _
            refine XT.bipushV X81.here hx rfl (16 : Int32) (hb hby d1_100) (by decide) ?_
            show Steps p.tables e below (T81.setTop (mkF m 102 #[.val (.long q1), .second, .val (.int p2), .val (.long q1), .second, .val (.long P2), .second, .val (.long P4), .second, .val (.long P8), .second, .val (.long P16), .second, .val (.long R4), .second] [(.int (16 : Int32)), (.int p2)])) _
            refine XS.iand X81.here hx rfl (hb hby d1_102) rfl ?_
            exact k)
          by_cases hc103_83 : (p2 &&& (16 : Int32)) = (0 : Int32)
          · have _ := 0
            have pre84 : ∀ t, Steps p.tables e below (T81.setTop (mkF m 117 #[.val (.long q1), .second, .val (.int p2), .val (.long q1), .second, .val (.long P2), .second, .val (.long P4), .second, .val (.long P8), .second, .val (.long P16), .second, .val (.long R4), .second] [(.long R4)])) t → Steps p.tables e below (s₁.setTop (entryFrame m #[(.long q1), (.int p2)] 15)) t := fun t k => pre82 t (by
              show Steps p.tables e below (T81.setTop (mkF m 103 #[.val (.long q1), .second, .val (.int p2), .val (.long q1), .second, .val (.long P2), .second, .val (.long P4), .second, .val (.long P8), .second, .val (.long P16), .second, .val (.long R4), .second] [(.int (p2 &&& (16 : Int32)))])) _
              refine XS.ifYes X81.here hx rfl (pc0 := 103) (pc' := 115) rfl (hb hby d1_103) rfl ((if0 _ _).trans (teq hc103_83).1) (by decide) (by decide) ?_
              show Steps p.tables e below (T81.setTop (mkF m 115 #[.val (.long q1), .second, .val (.int p2), .val (.long q1), .second, .val (.long P2), .second, .val (.long P4), .second, .val (.long P8), .second, .val (.long P16), .second, .val (.long R4), .second] [])) _
              refine XS.lload X81.here hx rfl (hb hby d1_115) rfl ?_
              exact k)
            obtain ⟨fs, hr, hrun, hended, hW, hsame⟩ := X81.leave (v := some (.long R4)) (fun h => by rw [Bd.returns] at h; cases h)
            refine ⟨_, _, pre84 _ ?_, hrun, hended, _, _, rfl, ?_, ⟨_, rfl⟩, hW, hsame.mono (by decide) (by decide)⟩
            · show Steps p.tables e below (T81.setTop (mkF m 117 #[.val (.long q1), .second, .val (.int p2), .val (.long q1), .second, .val (.long P2), .second, .val (.long P4), .second, .val (.long P8), .second, .val (.long P16), .second, .val (.long R4), .second] [(.long R4)])) _
              exact retOut X81 hx Bd.returns rfl (Or.inr (Or.inl ⟨rfl, rfl, _, rfl⟩)) (hb hby d1_117) hr
            · show Qpow Z q1 p2 res h0 n0 _ T81.heap _
              rw [e81]
              exact ⟨by rw [← hres]; simp only [own_r5, own_r4, own_r3, own_r2, own_r1, own_p16, own_p8, own_p4, if_neg hc42_7, if_pos hc56_71, if_pos hc71_73, if_neg hc87_75, if_pos hc103_83, hP2, hP4, hP8, hP16, hR1, hR4], N81, rfl⟩
          · have _ := 0
            obtain ⟨R5, hR5⟩ : ∃ z, own_mul R4 P16 = z := ⟨_, rfl⟩
            obtain ⟨_, _, ⟨T85, L85, k85, n85⟩, -, X85, ⟨Lc85, hQ85, l85, y85, z85⟩, st85⟩ := Jvm.LawKit.callS X81 hx (y := (⟨"com/example/tidegauge/tidegauge/MacroClusterSettingsSnapshotsPerOrderPinLaw", "mul", "(JJ)J"⟩ : MethodName)) hown (mvT hZ (hw _ (List.mem_of_getElem? (i := 7) rfl))) (mvT hZ (hw _ (List.mem_of_getElem? (i := 8) rfl))) (mvT hZ (hw _ (List.mem_of_getElem? (i := 5) rfl))) (mvT hZ (hw _ (List.mem_of_getElem? (i := 9) rfl))) (by decide) (backOf (W := 0) (rm_mul l Z a0 hw [] R4 P16 h0 n0 Z0 R5 hR5) hZ (hw _ (List.mem_of_getElem? (i := 9) rfl)) (hw _ (List.mem_of_getElem? (i := 5) rfl)) (by decide) (by decide)) (g := (mkF m 110 #[.val (.long q1), .second, .val (.int p2), .val (.long q1), .second, .val (.long P2), .second, .val (.long P4), .second, .val (.long P8), .second, .val (.long P16), .second, .val (.long R4), .second] [(.long P16), (.long R4)])) rfl (by rw [hml]; rfl) (argsL := [(.long R4), (.long P16)]) (rest := []) (lenOf pd_0 rfl) rfl (by show 2 * 0 + _ ≤ _; exact Nat.le_of_eq rfl) (hb hby d1_110) (fun _ _ => ⟨rfl, e81, (by decide : 0 + 0 ≤ _), (by decide : 0 + 0 ≤ _)⟩)
            dsimp only [Pt.U, Pt.locs, Pt.cells, Pt.slots] at X85 l85 y85 z85 st85 hQ85
            rw [y85, z85] at X85
            obtain ⟨rfl, N85q, e85⟩ := hQ85
            have N85 : Fr n0 L85 := by rw [l85]; exact Fr.app N81 N85q
            have pre86 : ∀ t, Steps p.tables e below (T85.setTop (mkF m 117 #[.val (.long q1), .second, .val (.int p2), .val (.long q1), .second, .val (.long P2), .second, .val (.long P4), .second, .val (.long P8), .second, .val (.long P16), .second, .val (.long R5), .second] [(.long R5)])) t → Steps p.tables e below (s₁.setTop (entryFrame m #[(.long q1), (.int p2)] 15)) t := fun t k => pre82 t (by
              show Steps p.tables e below (T81.setTop (mkF m 103 #[.val (.long q1), .second, .val (.int p2), .val (.long q1), .second, .val (.long P2), .second, .val (.long P4), .second, .val (.long P8), .second, .val (.long P16), .second, .val (.long R4), .second] [(.int (p2 &&& (16 : Int32)))])) _
              refine XS.ifNo X81.here hx rfl (hb hby d1_103) rfl ((if0 _ _).trans (feq hc103_83).1) ?_
              show Steps p.tables e below (T81.setTop (mkF m 106 #[.val (.long q1), .second, .val (.int p2), .val (.long q1), .second, .val (.long P2), .second, .val (.long P4), .second, .val (.long P8), .second, .val (.long P16), .second, .val (.long R4), .second] [])) _
              refine XS.lload X81.here hx rfl (hb hby d1_106) rfl ?_
              show Steps p.tables e below (T81.setTop (mkF m 108 #[.val (.long q1), .second, .val (.int p2), .val (.long q1), .second, .val (.long P2), .second, .val (.long P4), .second, .val (.long P8), .second, .val (.long P16), .second, .val (.long R4), .second] [(.long R4)])) _
              refine XS.lload X81.here hx rfl (hb hby d1_108) rfl ?_
              show Steps p.tables e below (T81.setTop (mkF m 110 #[.val (.long q1), .second, .val (.int p2), .val (.long q1), .second, .val (.long P2), .second, .val (.long P4), .second, .val (.long P8), .second, .val (.long P16), .second, .val (.long R4), .second] [(.long P16), (.long R4)])) _
              refine st85 _ ?_
              show Steps p.tables e below (T85.setTop (mkF m 113 #[.val (.long q1), .second, .val (.int p2), .val (.long q1), .second, .val (.long P2), .second, .val (.long P4), .second, .val (.long P8), .second, .val (.long P16), .second, .val (.long R4), .second] [(.long R5)])) _
              refine XS.lstore X85.here hx rfl (hb hby d1_113) rfl (l' := #[.val (.long q1), .second, .val (.int p2), .val (.long q1), .second, .val (.long P2), .second, .val (.long P4), .second, .val (.long P8), .second, .val (.long P16), .second, .val (.long R5), .second]) rfl ?_
              show Steps p.tables e below (T85.setTop (mkF m 115 #[.val (.long q1), .second, .val (.int p2), .val (.long q1), .second, .val (.long P2), .second, .val (.long P4), .second, .val (.long P8), .second, .val (.long P16), .second, .val (.long R5), .second] [])) _
              refine XS.lload X85.here hx rfl (hb hby d1_115) rfl ?_
              exact k)
            obtain ⟨fs, hr, hrun, hended, hW, hsame⟩ := X85.leave (v := some (.long R5)) (fun h => by rw [Bd.returns] at h; cases h)
            refine ⟨_, _, pre86 _ ?_, hrun, hended, _, _, rfl, ?_, ⟨_, rfl⟩, hW, hsame.mono (by decide) (by decide)⟩
            · show Steps p.tables e below (T85.setTop (mkF m 117 #[.val (.long q1), .second, .val (.int p2), .val (.long q1), .second, .val (.long P2), .second, .val (.long P4), .second, .val (.long P8), .second, .val (.long P16), .second, .val (.long R5), .second] [(.long R5)])) _
              exact retOut X85 hx Bd.returns rfl (Or.inr (Or.inl ⟨rfl, rfl, _, rfl⟩)) (hb hby d1_117) hr
            · show Qpow Z q1 p2 res h0 n0 _ T85.heap _
              rw [e85]
              exact ⟨by rw [← hres]; simp only [own_r5, own_r4, own_r3, own_r2, own_r1, own_p16, own_p8, own_p4, if_neg hc42_7, if_pos hc56_71, if_pos hc71_73, if_neg hc87_75, if_neg hc103_83, hP2, hP4, hP8, hP16, hR1, hR4, hR5], N85, rfl⟩
      · have _ := 0
        obtain ⟨R3, hR3⟩ : ∃ z, own_mul R1 P4 = z := ⟨_, rfl⟩
        obtain ⟨_, _, ⟨T87, L87, k87, n87⟩, -, X87, ⟨Lc87, hQ87, l87, y87, z87⟩, st87⟩ := Jvm.LawKit.callS X69 hx (y := (⟨"com/example/tidegauge/tidegauge/MacroClusterSettingsSnapshotsPerOrderPinLaw", "mul", "(JJ)J"⟩ : MethodName)) hown (mvT hZ (hw _ (List.mem_of_getElem? (i := 7) rfl))) (mvT hZ (hw _ (List.mem_of_getElem? (i := 8) rfl))) (mvT hZ (hw _ (List.mem_of_getElem? (i := 5) rfl))) (mvT hZ (hw _ (List.mem_of_getElem? (i := 9) rfl))) (by decide) (backOf (W := 0) (rm_mul l Z a0 hw [] R1 P4 h0 n0 Z0 R3 hR3) hZ (hw _ (List.mem_of_getElem? (i := 9) rfl)) (hw _ (List.mem_of_getElem? (i := 5) rfl)) (by decide) (by decide)) (g := (mkF m 78 #[.val (.long q1), .second, .val (.int p2), .val (.long q1), .second, .val (.long P2), .second, .val (.long P4), .second, .val (.long P8), .second, .val (.long P16), .second, .val (.long R1), .second] [(.long P4), (.long R1)])) rfl (by rw [hml]; rfl) (argsL := [(.long R1), (.long P4)]) (rest := []) (lenOf pd_0 rfl) rfl (by show 2 * 0 + _ ≤ _; exact Nat.le_of_eq rfl) (hb hby d1_78) (fun _ _ => ⟨rfl, e69, (by decide : 0 + 0 ≤ _), (by decide : 0 + 0 ≤ _)⟩)
        dsimp only [Pt.U, Pt.locs, Pt.cells, Pt.slots] at X87 l87 y87 z87 st87 hQ87
        rw [y87, z87] at X87
        obtain ⟨rfl, N87q, e87⟩ := hQ87
        have N87 : Fr n0 L87 := by rw [l87]; exact Fr.app N69 N87q
        have pre88 : ∀ t, Steps p.tables e below (T87.setTop (mkF m 87 #[.val (.long q1), .second, .val (.int p2), .val (.long q1), .second, .val (.long P2), .second, .val (.long P4), .second, .val (.long P8), .second, .val (.long P16), .second, .val (.long R3), .second] [(.int (p2 &&& (8 : Int32)))])) t → Steps p.tables e below (s₁.setTop (entryFrame m #[(.long q1), (.int p2)] 15)) t := fun t k => pre72 t (by
          show Steps p.tables e below (T69.setTop (mkF m 71 #[.val (.long q1), .second, .val (.int p2), .val (.long q1), .second, .val (.long P2), .second, .val (.long P4), .second, .val (.long P8), .second, .val (.long P16), .second, .val (.long R1), .second] [(.int (p2 &&& (4 : Int32)))])) _
          refine XS.ifNo X69.here hx rfl (hb hby d1_71) rfl ((if0 _ _).trans (feq hc71_73).1) ?_
          show Steps p.tables e below (T69.setTop (mkF m 74 #[.val (.long q1), .second, .val (.int p2), .val (.long q1), .second, .val (.long P2), .second, .val (.long P4), .second, .val (.long P8), .second, .val (.long P16), .second, .val (.long R1), .second] [])) _
          refine XS.lload X69.here hx rfl (hb hby d1_74) rfl ?_
          show Steps p.tables e below (T69.setTop (mkF m 76 #[.val (.long q1), .second, .val (.int p2), .val (.long q1), .second, .val (.long P2), .second, .val (.long P4), .second, .val (.long P8), .second, .val (.long P16), .second, .val (.long R1), .second] [(.long R1)])) _
          refine XS.lload X69.here hx rfl (hb hby d1_76) rfl ?_
          show Steps p.tables e below (T69.setTop (mkF m 78 #[.val (.long q1), .second, .val (.int p2), .val (.long q1), .second, .val (.long P2), .second, .val (.long P4), .second, .val (.long P8), .second, .val (.long P16), .second, .val (.long R1), .second] [(.long P4), (.long R1)])) _
          refine st87 _ ?_
          show Steps p.tables e below (T87.setTop (mkF m 81 #[.val (.long q1), .second, .val (.int p2), .val (.long q1), .second, .val (.long P2), .second, .val (.long P4), .second, .val (.long P8), .second, .val (.long P16), .second, .val (.long R1), .second] [(.long R3)])) _
          refine XS.lstore X87.here hx rfl (hb hby d1_81) rfl (l' := #[.val (.long q1), .second, .val (.int p2), .val (.long q1), .second, .val (.long P2), .second, .val (.long P4), .second, .val (.long P8), .second, .val (.long P16), .second, .val (.long R3), .second]) rfl ?_
          show Steps p.tables e below (T87.setTop (mkF m 83 #[.val (.long q1), .second, .val (.int p2), .val (.long q1), .second, .val (.long P2), .second, .val (.long P4), .second, .val (.long P8), .second, .val (.long P16), .second, .val (.long R3), .second] [])) _
          refine XS.iloadN X87.here hx rfl (hb hby d1_83) rfl ?_
          show Steps p.tables e below (T87.setTop (mkF m 84 #[.val (.long q1), .second, .val (.int p2), .val (.long q1), .second, .val (.long P2), .second, .val (.long P4), .second, .val (.long P8), .second, .val (.long P16), .second, .val (.long R3), .second] [(.int p2)])) _
          refine XT.bipushV X87.here hx rfl (8 : Int32) (hb hby d1_84) (by decide) ?_
          show Steps p.tables e below (T87.setTop (mkF m 86 #[.val (.long q1), .second, .val (.int p2), .val (.long q1), .second, .val (.long P2), .second, .val (.long P4), .second, .val (.long P8), .second, .val (.long P16), .second, .val (.long R3), .second] [(.int (8 : Int32)), (.int p2)])) _
          refine XS.iand X87.here hx rfl (hb hby d1_86) rfl ?_
          exact k)
        by_cases hc87_89 : (p2 &&& (8 : Int32)) = (0 : Int32)
        · have _ := 0
          have pre90 : ∀ t, Steps p.tables e below (T87.setTop (mkF m 103 #[.val (.long q1), .second, .val (.int p2), .val (.long q1), .second, .val (.long P2), .second, .val (.long P4), .second, .val (.long P8), .second, .val (.long P16), .second, .val (.long R3), .second] [(.int (p2 &&& (16 : Int32)))])) t → Steps p.tables e below (s₁.setTop (entryFrame m #[(.long q1), (.int p2)] 15)) t := fun t k => pre88 t (by
            show Steps p.tables e below (T87.setTop (mkF m 87 #[.val (.long q1), .second, .val (.int p2), .val (.long q1), .second, .val (.long P2), .second, .val (.long P4), .second, .val (.long P8), .second, .val (.long P16), .second, .val (.long R3), .second] [(.int (p2 &&& (8 : Int32)))])) _
            refine XS.ifYes X87.here hx rfl (pc0 := 87) (pc' := 99) rfl (hb hby d1_87) rfl ((if0 _ _).trans (teq hc87_89).1) (by decide) (by decide) ?_
            show Steps p.tables e below (T87.setTop (mkF m 99 #[.val (.long q1), .second, .val (.int p2), .val (.long q1), .second, .val (.long P2), .second, .val (.long P4), .second, .val (.long P8), .second, .val (.long P16), .second, .val (.long R3), .second] [])) _
            refine XS.iloadN X87.here hx rfl (hb hby d1_99) rfl ?_
            show Steps p.tables e below (T87.setTop (mkF m 100 #[.val (.long q1), .second, .val (.int p2), .val (.long q1), .second, .val (.long P2), .second, .val (.long P4), .second, .val (.long P8), .second, .val (.long P16), .second, .val (.long R3), .second] [(.int p2)])) _
            refine XT.bipushV X87.here hx rfl (16 : Int32) (hb hby d1_100) (by decide) ?_
            show Steps p.tables e below (T87.setTop (mkF m 102 #[.val (.long q1), .second, .val (.int p2), .val (.long q1), .second, .val (.long P2), .second, .val (.long P4), .second, .val (.long P8), .second, .val (.long P16), .second, .val (.long R3), .second] [(.int (16 : Int32)), (.int p2)])) _
            refine XS.iand X87.here hx rfl (hb hby d1_102) rfl ?_
            exact k)
          by_cases hc103_91 : (p2 &&& (16 : Int32)) = (0 : Int32)
          · have _ := 0
            have pre92 : ∀ t, Steps p.tables e below (T87.setTop (mkF m 117 #[.val (.long q1), .second, .val (.int p2), .val (.long q1), .second, .val (.long P2), .second, .val (.long P4), .second, .val (.long P8), .second, .val (.long P16), .second, .val (.long R3), .second] [(.long R3)])) t → Steps p.tables e below (s₁.setTop (entryFrame m #[(.long q1), (.int p2)] 15)) t := fun t k => pre90 t (by
              show Steps p.tables e below (T87.setTop (mkF m 103 #[.val (.long q1), .second, .val (.int p2), .val (.long q1), .second, .val (.long P2), .second, .val (.long P4), .second, .val (.long P8), .second, .val (.long P16), .second, .val (.long R3), .second] [(.int (p2 &&& (16 : Int32)))])) _
              refine XS.ifYes X87.here hx rfl (pc0 := 103) (pc' := 115) rfl (hb hby d1_103) rfl ((if0 _ _).trans (teq hc103_91).1) (by decide) (by decide) ?_
              show Steps p.tables e below (T87.setTop (mkF m 115 #[.val (.long q1), .second, .val (.int p2), .val (.long q1), .second, .val (.long P2), .second, .val (.long P4), .second, .val (.long P8), .second, .val (.long P16), .second, .val (.long R3), .second] [])) _
              refine XS.lload X87.here hx rfl (hb hby d1_115) rfl ?_
              exact k)
            obtain ⟨fs, hr, hrun, hended, hW, hsame⟩ := X87.leave (v := some (.long R3)) (fun h => by rw [Bd.returns] at h; cases h)
            refine ⟨_, _, pre92 _ ?_, hrun, hended, _, _, rfl, ?_, ⟨_, rfl⟩, hW, hsame.mono (by decide) (by decide)⟩
            · show Steps p.tables e below (T87.setTop (mkF m 117 #[.val (.long q1), .second, .val (.int p2), .val (.long q1), .second, .val (.long P2), .second, .val (.long P4), .second, .val (.long P8), .second, .val (.long P16), .second, .val (.long R3), .second] [(.long R3)])) _
              exact retOut X87 hx Bd.returns rfl (Or.inr (Or.inl ⟨rfl, rfl, _, rfl⟩)) (hb hby d1_117) hr
            · show Qpow Z q1 p2 res h0 n0 _ T87.heap _
              rw [e87]
              exact ⟨by rw [← hres]; simp only [own_r5, own_r4, own_r3, own_r2, own_r1, own_p16, own_p8, own_p4, if_neg hc42_7, if_pos hc56_71, if_neg hc71_73, if_pos hc87_89, if_pos hc103_91, hP2, hP4, hP8, hP16, hR1, hR3], N87, rfl⟩
          · have _ := 0
            obtain ⟨R5, hR5⟩ : ∃ z, own_mul R3 P16 = z := ⟨_, rfl⟩
            obtain ⟨_, _, ⟨T93, L93, k93, n93⟩, -, X93, ⟨Lc93, hQ93, l93, y93, z93⟩, st93⟩ := Jvm.LawKit.callS X87 hx (y := (⟨"com/example/tidegauge/tidegauge/MacroClusterSettingsSnapshotsPerOrderPinLaw", "mul", "(JJ)J"⟩ : MethodName)) hown (mvT hZ (hw _ (List.mem_of_getElem? (i := 7) rfl))) (mvT hZ (hw _ (List.mem_of_getElem? (i := 8) rfl))) (mvT hZ (hw _ (List.mem_of_getElem? (i := 5) rfl))) (mvT hZ (hw _ (List.mem_of_getElem? (i := 9) rfl))) (by decide) (backOf (W := 0) (rm_mul l Z a0 hw [] R3 P16 h0 n0 Z0 R5 hR5) hZ (hw _ (List.mem_of_getElem? (i := 9) rfl)) (hw _ (List.mem_of_getElem? (i := 5) rfl)) (by decide) (by decide)) (g := (mkF m 110 #[.val (.long q1), .second, .val (.int p2), .val (.long q1), .second, .val (.long P2), .second, .val (.long P4), .second, .val (.long P8), .second, .val (.long P16), .second, .val (.long R3), .second] [(.long P16), (.long R3)])) rfl (by rw [hml]; rfl) (argsL := [(.long R3), (.long P16)]) (rest := []) (lenOf pd_0 rfl) rfl (by show 2 * 0 + _ ≤ _; exact Nat.le_of_eq rfl) (hb hby d1_110) (fun _ _ => ⟨rfl, e87, (by decide : 0 + 0 ≤ _), (by decide : 0 + 0 ≤ _)⟩)
            dsimp only [Pt.U, Pt.locs, Pt.cells, Pt.slots] at X93 l93 y93 z93 st93 hQ93
            rw [y93, z93] at X93
            obtain ⟨rfl, N93q, e93⟩ := hQ93
            have N93 : Fr n0 L93 := by rw [l93]; exact Fr.app N87 N93q
            have pre94 : ∀ t, Steps p.tables e below (T93.setTop (mkF m 117 #[.val (.long q1), .second, .val (.int p2), .val (.long q1), .second, .val (.long P2), .second, .val (.long P4), .second, .val (.long P8), .second, .val (.long P16), .second, .val (.long R5), .second] [(.long R5)])) t → Steps p.tables e below (s₁.setTop (entryFrame m #[(.long q1), (.int p2)] 15)) t := fun t k => pre90 t (by
              show Steps p.tables e below (T87.setTop (mkF m 103 #[.val (.long q1), .second, .val (.int p2), .val (.long q1), .second, .val (.long P2), .second, .val (.long P4), .second, .val (.long P8), .second, .val (.long P16), .second, .val (.long R3), .second] [(.int (p2 &&& (16 : Int32)))])) _
              refine XS.ifNo X87.here hx rfl (hb hby d1_103) rfl ((if0 _ _).trans (feq hc103_91).1) ?_
              show Steps p.tables e below (T87.setTop (mkF m 106 #[.val (.long q1), .second, .val (.int p2), .val (.long q1), .second, .val (.long P2), .second, .val (.long P4), .second, .val (.long P8), .second, .val (.long P16), .second, .val (.long R3), .second] [])) _
              refine XS.lload X87.here hx rfl (hb hby d1_106) rfl ?_
              show Steps p.tables e below (T87.setTop (mkF m 108 #[.val (.long q1), .second, .val (.int p2), .val (.long q1), .second, .val (.long P2), .second, .val (.long P4), .second, .val (.long P8), .second, .val (.long P16), .second, .val (.long R3), .second] [(.long R3)])) _
              refine XS.lload X87.here hx rfl (hb hby d1_108) rfl ?_
              show Steps p.tables e below (T87.setTop (mkF m 110 #[.val (.long q1), .second, .val (.int p2), .val (.long q1), .second, .val (.long P2), .second, .val (.long P4), .second, .val (.long P8), .second, .val (.long P16), .second, .val (.long R3), .second] [(.long P16), (.long R3)])) _
              refine st93 _ ?_
              show Steps p.tables e below (T93.setTop (mkF m 113 #[.val (.long q1), .second, .val (.int p2), .val (.long q1), .second, .val (.long P2), .second, .val (.long P4), .second, .val (.long P8), .second, .val (.long P16), .second, .val (.long R3), .second] [(.long R5)])) _
              refine XS.lstore X93.here hx rfl (hb hby d1_113) rfl (l' := #[.val (.long q1), .second, .val (.int p2), .val (.long q1), .second, .val (.long P2), .second, .val (.long P4), .second, .val (.long P8), .second, .val (.long P16), .second, .val (.long R5), .second]) rfl ?_
              show Steps p.tables e below (T93.setTop (mkF m 115 #[.val (.long q1), .second, .val (.int p2), .val (.long q1), .second, .val (.long P2), .second, .val (.long P4), .second, .val (.long P8), .second, .val (.long P16), .second, .val (.long R5), .second] [])) _
              refine XS.lload X93.here hx rfl (hb hby d1_115) rfl ?_
              exact k)
            obtain ⟨fs, hr, hrun, hended, hW, hsame⟩ := X93.leave (v := some (.long R5)) (fun h => by rw [Bd.returns] at h; cases h)
            refine ⟨_, _, pre94 _ ?_, hrun, hended, _, _, rfl, ?_, ⟨_, rfl⟩, hW, hsame.mono (by decide) (by decide)⟩
            · show Steps p.tables e below (T93.setTop (mkF m 117 #[.val (.long q1), .second, .val (.int p2), .val (.long q1), .second, .val (.long P2), .second, .val (.long P4), .second, .val (.long P8), .second, .val (.long P16), .second, .val (.long R5), .second] [(.long R5)])) _
              exact retOut X93 hx Bd.returns rfl (Or.inr (Or.inl ⟨rfl, rfl, _, rfl⟩)) (hb hby d1_117) hr
            · show Qpow Z q1 p2 res h0 n0 _ T93.heap _
              rw [e93]
              exact ⟨by rw [← hres]; simp only [own_r5, own_r4, own_r3, own_r2, own_r1, own_p16, own_p8, own_p4, if_neg hc42_7, if_pos hc56_71, if_neg hc71_73, if_pos hc87_89, if_neg hc103_91, hP2, hP4, hP8, hP16, hR1, hR3, hR5], N93, rfl⟩
        · have _ := 0
          obtain ⟨R4, hR4⟩ : ∃ z, own_mul R3 P8 = z := ⟨_, rfl⟩
          obtain ⟨_, _, ⟨T95, L95, k95, n95⟩, -, X95, ⟨Lc95, hQ95, l95, y95, z95⟩, st95⟩ := Jvm.LawKit.callS X87 hx (y := (⟨"com/example/tidegauge/tidegauge/MacroClusterSettingsSnapshotsPerOrderPinLaw", "mul", "(JJ)J"⟩ : MethodName)) hown (mvT hZ (hw _ (List.mem_of_getElem? (i := 7) rfl))) (mvT hZ (hw _ (List.mem_of_getElem? (i := 8) rfl))) (mvT hZ (hw _ (List.mem_of_getElem? (i := 5) rfl))) (mvT hZ (hw _ (List.mem_of_getElem? (i := 9) rfl))) (by decide) (backOf (W := 0) (rm_mul l Z a0 hw [] R3 P8 h0 n0 Z0 R4 hR4) hZ (hw _ (List.mem_of_getElem? (i := 9) rfl)) (hw _ (List.mem_of_getElem? (i := 5) rfl)) (by decide) (by decide)) (g := (mkF m 94 #[.val (.long q1), .second, .val (.int p2), .val (.long q1), .second, .val (.long P2), .second, .val (.long P4), .second, .val (.long P8), .second, .val (.long P16), .second, .val (.long R3), .second] [(.long P8), (.long R3)])) rfl (by rw [hml]; rfl) (argsL := [(.long R3), (.long P8)]) (rest := []) (lenOf pd_0 rfl) rfl (by show 2 * 0 + _ ≤ _; exact Nat.le_of_eq rfl) (hb hby d1_94) (fun _ _ => ⟨rfl, e87, (by decide : 0 + 0 ≤ _), (by decide : 0 + 0 ≤ _)⟩)
          dsimp only [Pt.U, Pt.locs, Pt.cells, Pt.slots] at X95 l95 y95 z95 st95 hQ95
          rw [y95, z95] at X95
          obtain ⟨rfl, N95q, e95⟩ := hQ95
          have N95 : Fr n0 L95 := by rw [l95]; exact Fr.app N87 N95q
          have pre96 : ∀ t, Steps p.tables e below (T95.setTop (mkF m 103 #[.val (.long q1), .second, .val (.int p2), .val (.long q1), .second, .val (.long P2), .second, .val (.long P4), .second, .val (.long P8), .second, .val (.long P16), .second, .val (.long R4), .second] [(.int (p2 &&& (16 : Int32)))])) t → Steps p.tables e below (s₁.setTop (entryFrame m #[(.long q1), (.int p2)] 15)) t := fun t k => pre88 t (by
            show Steps p.tables e below (T87.setTop (mkF m 87 #[.val (.long q1), .second, .val (.int p2), .val (.long q1), .second, .val (.long P2), .second, .val (.long P4), .second, .val (.long P8), .second, .val (.long P16), .second, .val (.long R3), .second] [(.int (p2 &&& (8 : Int32)))])) _
            refine XS.ifNo X87.here hx rfl (hb hby d1_87) rfl ((if0 _ _).trans (feq hc87_89).1) ?_
            show Steps p.tables e below (T87.setTop (mkF m 90 #[.val (.long q1), .second, .val (.int p2), .val (.long q1), .second, .val (.long P2), .second, .val (.long P4), .second, .val (.long P8), .second, .val (.long P16), .second, .val (.long R3), .second] [])) _
            refine XS.lload X87.here hx rfl (hb hby d1_90) rfl ?_
            show Steps p.tables e below (T87.setTop (mkF m 92 #[.val (.long q1), .second, .val (.int p2), .val (.long q1), .second, .val (.long P2), .second, .val (.long P4), .second, .val (.long P8), .second, .val (.long P16), .second, .val (.long R3), .second] [(.long R3)])) _
            refine XS.lload X87.here hx rfl (hb hby d1_92) rfl ?_
            show Steps p.tables e below (T87.setTop (mkF m 94 #[.val (.long q1), .second, .val (.int p2), .val (.long q1), .second, .val (.long P2), .second, .val (.long P4), .second, .val (.long P8), .second, .val (.long P16), .second, .val (.long R3), .second] [(.long P8), (.long R3)])) _
            refine st95 _ ?_
            show Steps p.tables e below (T95.setTop (mkF m 97 #[.val (.long q1), .second, .val (.int p2), .val (.long q1), .second, .val (.long P2), .second, .val (.long P4), .second, .val (.long P8), .second, .val (.long P16), .second, .val (.long R3), .second] [(.long R4)])) _
            refine XS.lstore X95.here hx rfl (hb hby d1_97) rfl (l' := #[.val (.long q1), .second, .val (.int p2), .val (.long q1), .second, .val (.long P2), .second, .val (.long P4), .second, .val (.long P8), .second, .val (.long P16), .second, .val (.long R4), .second]) rfl ?_
            show Steps p.tables e below (T95.setTop (mkF m 99 #[.val (.long q1), .second, .val (.int p2), .val (.long q1), .second, .val (.long P2), .second, .val (.long P4), .second, .val (.long P8), .second, .val (.long P16), .second, .val (.long R4), .second] [])) _
            refine XS.iloadN X95.here hx rfl (hb hby d1_99) rfl ?_
            show Steps p.tables e below (T95.setTop (mkF m 100 #[.val (.long q1), .second, .val (.int p2), .val (.long q1), .second, .val (.long P2), .second, .val (.long P4), .second, .val (.long P8), .second, .val (.long P16), .second, .val (.long R4), .second] [(.int p2)])) _
            refine XT.bipushV X95.here hx rfl (16 : Int32) (hb hby d1_100) (by decide) ?_
            show Steps p.tables e below (T95.setTop (mkF m 102 #[.val (.long q1), .second, .val (.int p2), .val (.long q1), .second, .val (.long P2), .second, .val (.long P4), .second, .val (.long P8), .second, .val (.long P16), .second, .val (.long R4), .second] [(.int (16 : Int32)), (.int p2)])) _
            refine XS.iand X95.here hx rfl (hb hby d1_102) rfl ?_
            exact k)
          by_cases hc103_97 : (p2 &&& (16 : Int32)) = (0 : Int32)
          · have _ := 0
            have pre98 : ∀ t, Steps p.tables e below (T95.setTop (mkF m 117 #[.val (.long q1), .second, .val (.int p2), .val (.long q1), .second, .val (.long P2), .second, .val (.long P4), .second, .val (.long P8), .second, .val (.long P16), .second, .val (.long R4), .second] [(.long R4)])) t → Steps p.tables e below (s₁.setTop (entryFrame m #[(.long q1), (.int p2)] 15)) t := fun t k => pre96 t (by
              show Steps p.tables e below (T95.setTop (mkF m 103 #[.val (.long q1), .second, .val (.int p2), .val (.long q1), .second, .val (.long P2), .second, .val (.long P4), .second, .val (.long P8), .second, .val (.long P16), .second, .val (.long R4), .second] [(.int (p2 &&& (16 : Int32)))])) _
              refine XS.ifYes X95.here hx rfl (pc0 := 103) (pc' := 115) rfl (hb hby d1_103) rfl ((if0 _ _).trans (teq hc103_97).1) (by decide) (by decide) ?_
              show Steps p.tables e below (T95.setTop (mkF m 115 #[.val (.long q1), .second, .val (.int p2), .val (.long q1), .second, .val (.long P2), .second, .val (.long P4), .second, .val (.long P8), .second, .val (.long P16), .second, .val (.long R4), .second] [])) _
              refine XS.lload X95.here hx rfl (hb hby d1_115) rfl ?_
              exact k)
            obtain ⟨fs, hr, hrun, hended, hW, hsame⟩ := X95.leave (v := some (.long R4)) (fun h => by rw [Bd.returns] at h; cases h)
            refine ⟨_, _, pre98 _ ?_, hrun, hended, _, _, rfl, ?_, ⟨_, rfl⟩, hW, hsame.mono (by decide) (by decide)⟩
            · show Steps p.tables e below (T95.setTop (mkF m 117 #[.val (.long q1), .second, .val (.int p2), .val (.long q1), .second, .val (.long P2), .second, .val (.long P4), .second, .val (.long P8), .second, .val (.long P16), .second, .val (.long R4), .second] [(.long R4)])) _
              exact retOut X95 hx Bd.returns rfl (Or.inr (Or.inl ⟨rfl, rfl, _, rfl⟩)) (hb hby d1_117) hr
            · show Qpow Z q1 p2 res h0 n0 _ T95.heap _
              rw [e95]
              exact ⟨by rw [← hres]; simp only [own_r5, own_r4, own_r3, own_r2, own_r1, own_p16, own_p8, own_p4, if_neg hc42_7, if_pos hc56_71, if_neg hc71_73, if_neg hc87_89, if_pos hc103_97, hP2, hP4, hP8, hP16, hR1, hR3, hR4], N95, rfl⟩
          · have _ := 0
            obtain ⟨R5, hR5⟩ : ∃ z, own_mul R4 P16 = z := ⟨_, rfl⟩
            obtain ⟨_, _, ⟨T99, L99, k99, n99⟩, -, X99, ⟨Lc99, hQ99, l99, y99, z99⟩, st99⟩ := Jvm.LawKit.callS X95 hx (y := (⟨"com/example/tidegauge/tidegauge/MacroClusterSettingsSnapshotsPerOrderPinLaw", "mul", "(JJ)J"⟩ : MethodName)) hown (mvT hZ (hw _ (List.mem_of_getElem? (i := 7) rfl))) (mvT hZ (hw _ (List.mem_of_getElem? (i := 8) rfl))) (mvT hZ (hw _ (List.mem_of_getElem? (i := 5) rfl))) (mvT hZ (hw _ (List.mem_of_getElem? (i := 9) rfl))) (by decide) (backOf (W := 0) (rm_mul l Z a0 hw [] R4 P16 h0 n0 Z0 R5 hR5) hZ (hw _ (List.mem_of_getElem? (i := 9) rfl)) (hw _ (List.mem_of_getElem? (i := 5) rfl)) (by decide) (by decide)) (g := (mkF m 110 #[.val (.long q1), .second, .val (.int p2), .val (.long q1), .second, .val (.long P2), .second, .val (.long P4), .second, .val (.long P8), .second, .val (.long P16), .second, .val (.long R4), .second] [(.long P16), (.long R4)])) rfl (by rw [hml]; rfl) (argsL := [(.long R4), (.long P16)]) (rest := []) (lenOf pd_0 rfl) rfl (by show 2 * 0 + _ ≤ _; exact Nat.le_of_eq rfl) (hb hby d1_110) (fun _ _ => ⟨rfl, e95, (by decide : 0 + 0 ≤ _), (by decide : 0 + 0 ≤ _)⟩)
            dsimp only [Pt.U, Pt.locs, Pt.cells, Pt.slots] at X99 l99 y99 z99 st99 hQ99
            rw [y99, z99] at X99
            obtain ⟨rfl, N99q, e99⟩ := hQ99
            have N99 : Fr n0 L99 := by rw [l99]; exact Fr.app N95 N99q
            have pre100 : ∀ t, Steps p.tables e below (T99.setTop (mkF m 117 #[.val (.long q1), .second, .val (.int p2), .val (.long q1), .second, .val (.long P2), .second, .val (.long P4), .second, .val (.long P8), .second, .val (.long P16), .second, .val (.long R5), .second] [(.long R5)])) t → Steps p.tables e below (s₁.setTop (entryFrame m #[(.long q1), (.int p2)] 15)) t := fun t k => pre96 t (by
              show Steps p.tables e below (T95.setTop (mkF m 103 #[.val (.long q1), .second, .val (.int p2), .val (.long q1), .second, .val (.long P2), .second, .val (.long P4), .second, .val (.long P8), .second, .val (.long P16), .second, .val (.long R4), .second] [(.int (p2 &&& (16 : Int32)))])) _
              refine XS.ifNo X95.here hx rfl (hb hby d1_103) rfl ((if0 _ _).trans (feq hc103_97).1) ?_
              show Steps p.tables e below (T95.setTop (mkF m 106 #[.val (.long q1), .second, .val (.int p2), .val (.long q1), .second, .val (.long P2), .second, .val (.long P4), .second, .val (.long P8), .second, .val (.long P16), .second, .val (.long R4), .second] [])) _
              refine XS.lload X95.here hx rfl (hb hby d1_106) rfl ?_
              show Steps p.tables e below (T95.setTop (mkF m 108 #[.val (.long q1), .second, .val (.int p2), .val (.long q1), .second, .val (.long P2), .second, .val (.long P4), .second, .val (.long P8), .second, .val (.long P16), .second, .val (.long R4), .second] [(.long R4)])) _
              refine XS.lload X95.here hx rfl (hb hby d1_108) rfl ?_
              show Steps p.tables e below (T95.setTop (mkF m 110 #[.val (.long q1), .second, .val (.int p2), .val (.long q1), .second, .val (.long P2), .second, .val (.long P4), .second, .val (.long P8), .second, .val (.long P16), .second, .val (.long R4), .second] [(.long P16), (.long R4)])) _
              refine st99 _ ?_
              show Steps p.tables e below (T99.setTop (mkF m 113 #[.val (.long q1), .second, .val (.int p2), .val (.long q1), .second, .val (.long P2), .second, .val (.long P4), .second, .val (.long P8), .second, .val (.long P16), .second, .val (.long R4), .second] [(.long R5)])) _
              refine XS.lstore X99.here hx rfl (hb hby d1_113) rfl (l' := #[.val (.long q1), .second, .val (.int p2), .val (.long q1), .second, .val (.long P2), .second, .val (.long P4), .second, .val (.long P8), .second, .val (.long P16), .second, .val (.long R5), .second]) rfl ?_
              show Steps p.tables e below (T99.setTop (mkF m 115 #[.val (.long q1), .second, .val (.int p2), .val (.long q1), .second, .val (.long P2), .second, .val (.long P4), .second, .val (.long P8), .second, .val (.long P16), .second, .val (.long R5), .second] [])) _
              refine XS.lload X99.here hx rfl (hb hby d1_115) rfl ?_
              exact k)
            obtain ⟨fs, hr, hrun, hended, hW, hsame⟩ := X99.leave (v := some (.long R5)) (fun h => by rw [Bd.returns] at h; cases h)
            refine ⟨_, _, pre100 _ ?_, hrun, hended, _, _, rfl, ?_, ⟨_, rfl⟩, hW, hsame.mono (by decide) (by decide)⟩
            · show Steps p.tables e below (T99.setTop (mkF m 117 #[.val (.long q1), .second, .val (.int p2), .val (.long q1), .second, .val (.long P2), .second, .val (.long P4), .second, .val (.long P8), .second, .val (.long P16), .second, .val (.long R5), .second] [(.long R5)])) _
              exact retOut X99 hx Bd.returns rfl (Or.inr (Or.inl ⟨rfl, rfl, _, rfl⟩)) (hb hby d1_117) hr
            · show Qpow Z q1 p2 res h0 n0 _ T99.heap _
              rw [e99]
              exact ⟨by rw [← hres]; simp only [own_r5, own_r4, own_r3, own_r2, own_r1, own_p16, own_p8, own_p4, if_neg hc42_7, if_pos hc56_71, if_neg hc71_73, if_neg hc87_89, if_neg hc103_97, hP2, hP4, hP8, hP16, hR1, hR3, hR4, hR5], N99, rfl⟩
    · have _ := 0
      obtain ⟨R2, hR2⟩ : ∃ z, own_mul R1 P2 = z := ⟨_, rfl⟩
      obtain ⟨_, _, ⟨T101, L101, k101, n101⟩, -, X101, ⟨Lc101, hQ101, l101, y101, z101⟩, st101⟩ := Jvm.LawKit.callS X69 hx (y := (⟨"com/example/tidegauge/tidegauge/MacroClusterSettingsSnapshotsPerOrderPinLaw", "mul", "(JJ)J"⟩ : MethodName)) hown (mvT hZ (hw _ (List.mem_of_getElem? (i := 7) rfl))) (mvT hZ (hw _ (List.mem_of_getElem? (i := 8) rfl))) (mvT hZ (hw _ (List.mem_of_getElem? (i := 5) rfl))) (mvT hZ (hw _ (List.mem_of_getElem? (i := 9) rfl))) (by decide) (backOf (W := 0) (rm_mul l Z a0 hw [] R1 P2 h0 n0 Z0 R2 hR2) hZ (hw _ (List.mem_of_getElem? (i := 9) rfl)) (hw _ (List.mem_of_getElem? (i := 5) rfl)) (by decide) (by decide)) (g := (mkF m 63 #[.val (.long q1), .second, .val (.int p2), .val (.long q1), .second, .val (.long P2), .second, .val (.long P4), .second, .val (.long P8), .second, .val (.long P16), .second, .val (.long R1), .second] [(.long P2), (.long R1)])) rfl (by rw [hml]; rfl) (argsL := [(.long R1), (.long P2)]) (rest := []) (lenOf pd_0 rfl) rfl (by show 2 * 0 + _ ≤ _; exact Nat.le_of_eq rfl) (hb hby d1_63) (fun _ _ => ⟨rfl, e69, (by decide : 0 + 0 ≤ _), (by decide : 0 + 0 ≤ _)⟩)
      dsimp only [Pt.U, Pt.locs, Pt.cells, Pt.slots] at X101 l101 y101 z101 st101 hQ101
      rw [y101, z101] at X101
      obtain ⟨rfl, N101q, e101⟩ := hQ101
      have N101 : Fr n0 L101 := by rw [l101]; exact Fr.app N69 N101q
      have pre102 : ∀ t, Steps p.tables e below (T101.setTop (mkF m 71 #[.val (.long q1), .second, .val (.int p2), .val (.long q1), .second, .val (.long P2), .second, .val (.long P4), .second, .val (.long P8), .second, .val (.long P16), .second, .val (.long R2), .second] [(.int (p2 &&& (4 : Int32)))])) t → Steps p.tables e below (s₁.setTop (entryFrame m #[(.long q1), (.int p2)] 15)) t := fun t k => pre70 t (by
        show Steps p.tables e below (T69.setTop (mkF m 56 #[.val (.long q1), .second, .val (.int p2), .val (.long q1), .second, .val (.long P2), .second, .val (.long P4), .second, .val (.long P8), .second, .val (.long P16), .second, .val (.long R1), .second] [(.int (p2 &&& (2 : Int32)))])) _
        refine XS.ifNo X69.here hx rfl (hb hby d1_56) rfl ((if0 _ _).trans (feq hc56_71).1) ?_
        show Steps p.tables e below (T69.setTop (mkF m 59 #[.val (.long q1), .second, .val (.int p2), .val (.long q1), .second, .val (.long P2), .second, .val (.long P4), .second, .val (.long P8), .second, .val (.long P16), .second, .val (.long R1), .second] [])) _
        refine XS.lload X69.here hx rfl (hb hby d1_59) rfl ?_
        show Steps p.tables e below (T69.setTop (mkF m 61 #[.val (.long q1), .second, .val (.int p2), .val (.long q1), .second, .val (.long P2), .second, .val (.long P4), .second, .val (.long P8), .second, .val (.long P16), .second, .val (.long R1), .second] [(.long R1)])) _
        refine XS.lload X69.here hx rfl (hb hby d1_61) rfl ?_
        show Steps p.tables e below (T69.setTop (mkF m 63 #[.val (.long q1), .second, .val (.int p2), .val (.long q1), .second, .val (.long P2), .second, .val (.long P4), .second, .val (.long P8), .second, .val (.long P16), .second, .val (.long R1), .second] [(.long P2), (.long R1)])) _
        refine st101 _ ?_
        show Steps p.tables e below (T101.setTop (mkF m 66 #[.val (.long q1), .second, .val (.int p2), .val (.long q1), .second, .val (.long P2), .second, .val (.long P4), .second, .val (.long P8), .second, .val (.long P16), .second, .val (.long R1), .second] [(.long R2)])) _
        refine XS.lstore X101.here hx rfl (hb hby d1_66) rfl (l' := #[.val (.long q1), .second, .val (.int p2), .val (.long q1), .second, .val (.long P2), .second, .val (.long P4), .second, .val (.long P8), .second, .val (.long P16), .second, .val (.long R2), .second]) rfl ?_
        show Steps p.tables e below (T101.setTop (mkF m 68 #[.val (.long q1), .second, .val (.int p2), .val (.long q1), .second, .val (.long P2), .second, .val (.long P4), .second, .val (.long P8), .second, .val (.long P16), .second, .val (.long R2), .second] [])) _
        refine XS.iloadN X101.here hx rfl (hb hby d1_68) rfl ?_
        show Steps p.tables e below (T101.setTop (mkF m 69 #[.val (.long q1), .second, .val (.int p2), .val (.long q1), .second, .val (.long P2), .second, .val (.long P4), .second, .val (.long P8), .second, .val (.long P16), .second, .val (.long R2), .second] [(.int p2)])) _
        refine XT.iconstV X101.here hx rfl (4 : Int32) (hb hby d1_69) (by decide) ?_
        show Steps p.tables e below (T101.setTop (mkF m 70 #[.val (.long q1), .second, .val (.int p2), .val (.long q1), .second, .val (.long P2), .second, .val (.long P4), .second, .val (.long P8), .second, .val (.long P16), .second, .val (.long R2), .second] [(.int (4 : Int32)), (.int p2)])) _
        refine XS.iand X101.here hx rfl (hb hby d1_70) rfl ?_
        exact k)
      by_cases hc71_103 : (p2 &&& (4 : Int32)) = (0 : Int32)
      · have _ := 0
        have pre104 : ∀ t, Steps p.tables e below (T101.setTop (mkF m 87 #[.val (.long q1), .second, .val (.int p2), .val (.long q1), .second, .val (.long P2), .second, .val (.long P4), .second, .val (.long P8), .second, .val (.long P16), .second, .val (.long R2), .second] [(.int (p2 &&& (8 : Int32)))])) t → Steps p.tables e below (s₁.setTop (entryFrame m #[(.long q1), (.int p2)] 15)) t := fun t k => pre102 t (by
          show Steps p.tables e below (T101.setTop (mkF m 71 #[.val (.long q1), .second, .val (.int p2), .val (.long q1), .second, .val (.long P2), .second, .val (.long P4), .second, .val (.long P8), .second, .val (.long P16), .second, .val (.long R2), .second] [(.int (p2 &&& (4 : Int32)))])) _
          refine XS.ifYes X101.here hx rfl (pc0 := 71) (pc' := 83) rfl (hb hby d1_71) rfl ((if0 _ _).trans (teq hc71_103).1) (by decide) (by decide) ?_
          show Steps p.tables e below (T101.setTop (mkF m 83 #[.val (.long q1), .second, .val (.int p2), .val (.long q1), .second, .val (.long P2), .second, .val (.long P4), .second, .val (.long P8), .second, .val (.long P16), .second, .val (.long R2), .second] [])) _
          refine XS.iloadN X101.here hx rfl (hb hby d1_83) rfl ?_
          show Steps p.tables e below (T101.setTop (mkF m 84 #[.val (.long q1), .second, .val (.int p2), .val (.long q1), .second, .val (.long P2), .second, .val (.long P4), .second, .val (.long P8), .second, .val (.long P16), .second, .val (.long R2), .second] [(.int p2)])) _
          refine XT.bipushV X101.here hx rfl (8 : Int32) (hb hby d1_84) (by decide) ?_
          show Steps p.tables e below (T101.setTop (mkF m 86 #[.val (.long q1), .second, .val (.int p2), .val (.long q1), .second, .val (.long P2), .second, .val (.long P4), .second, .val (.long P8), .second, .val (.long P16), .second, .val (.long R2), .second] [(.int (8 : Int32)), (.int p2)])) _
          refine XS.iand X101.here hx rfl (hb hby d1_86) rfl ?_
          exact k)
        by_cases hc87_105 : (p2 &&& (8 : Int32)) = (0 : Int32)
        · have _ := 0
          have pre106 : ∀ t, Steps p.tables e below (T101.setTop (mkF m 103 #[.val (.long q1), .second, .val (.int p2), .val (.long q1), .second, .val (.long P2), .second, .val (.long P4), .second, .val (.long P8), .second, .val (.long P16), .second, .val (.long R2), .second] [(.int (p2 &&& (16 : Int32)))])) t → Steps p.tables e below (s₁.setTop (entryFrame m #[(.long q1), (.int p2)] 15)) t := fun t k => pre104 t (by
            show Steps p.tables e below (T101.setTop (mkF m 87 #[.val (.long q1), .second, .val (.int p2), .val (.long q1), .second, .val (.long P2), .second, .val (.long P4), .second, .val (.long P8), .second, .val (.long P16), .second, .val (.long R2), .second] [(.int (p2 &&& (8 : Int32)))])) _
            refine XS.ifYes X101.here hx rfl (pc0 := 87) (pc' := 99) rfl (hb hby d1_87) rfl ((if0 _ _).trans (teq hc87_105).1) (by decide) (by decide) ?_
            show Steps p.tables e below (T101.setTop (mkF m 99 #[.val (.long q1), .second, .val (.int p2), .val (.long q1), .second, .val (.long P2), .second, .val (.long P4), .second, .val (.long P8), .second, .val (.long P16), .second, .val (.long R2), .second] [])) _
            refine XS.iloadN X101.here hx rfl (hb hby d1_99) rfl ?_
            show Steps p.tables e below (T101.setTop (mkF m 100 #[.val (.long q1), .second, .val (.int p2), .val (.long q1), .second, .val (.long P2), .second, .val (.long P4), .second, .val (.long P8), .second, .val (.long P16), .second, .val (.long R2), .second] [(.int p2)])) _
            refine XT.bipushV X101.here hx rfl (16 : Int32) (hb hby d1_100) (by decide) ?_
            show Steps p.tables e below (T101.setTop (mkF m 102 #[.val (.long q1), .second, .val (.int p2), .val (.long q1), .second, .val (.long P2), .second, .val (.long P4), .second, .val (.long P8), .second, .val (.long P16), .second, .val (.long R2), .second] [(.int (16 : Int32)), (.int p2)])) _
            refine XS.iand X101.here hx rfl (hb hby d1_102) rfl ?_
            exact k)
          by_cases hc103_107 : (p2 &&& (16 : Int32)) = (0 : Int32)
          · have _ := 0
            have pre108 : ∀ t, Steps p.tables e below (T101.setTop (mkF m 117 #[.val (.long q1), .second, .val (.int p2), .val (.long q1), .second, .val (.long P2), .second, .val (.long P4), .second, .val (.long P8), .second, .val (.long P16), .second, .val (.long R2), .second] [(.long R2)])) t → Steps p.tables e below (s₁.setTop (entryFrame m #[(.long q1), (.int p2)] 15)) t := fun t k => pre106 t (by
              show Steps p.tables e below (T101.setTop (mkF m 103 #[.val (.long q1), .second, .val (.int p2), .val (.long q1), .second, .val (.long P2), .second, .val (.long P4), .second, .val (.long P8), .second, .val (.long P16), .second, .val (.long R2), .second] [(.int (p2 &&& (16 : Int32)))])) _
              refine XS.ifYes X101.here hx rfl (pc0 := 103) (pc' := 115) rfl (hb hby d1_103) rfl ((if0 _ _).trans (teq hc103_107).1) (by decide) (by decide) ?_
              show Steps p.tables e below (T101.setTop (mkF m 115 #[.val (.long q1), .second, .val (.int p2), .val (.long q1), .second, .val (.long P2), .second, .val (.long P4), .second, .val (.long P8), .second, .val (.long P16), .second, .val (.long R2), .second] [])) _
              refine XS.lload X101.here hx rfl (hb hby d1_115) rfl ?_
              exact k)
            obtain ⟨fs, hr, hrun, hended, hW, hsame⟩ := X101.leave (v := some (.long R2)) (fun h => by rw [Bd.returns] at h; cases h)
            refine ⟨_, _, pre108 _ ?_, hrun, hended, _, _, rfl, ?_, ⟨_, rfl⟩, hW, hsame.mono (by decide) (by decide)⟩
            · show Steps p.tables e below (T101.setTop (mkF m 117 #[.val (.long q1), .second, .val (.int p2), .val (.long q1), .second, .val (.long P2), .second, .val (.long P4), .second, .val (.long P8), .second, .val (.long P16), .second, .val (.long R2), .second] [(.long R2)])) _
              exact retOut X101 hx Bd.returns rfl (Or.inr (Or.inl ⟨rfl, rfl, _, rfl⟩)) (hb hby d1_117) hr
            · show Qpow Z q1 p2 res h0 n0 _ T101.heap _
              rw [e101]
              exact ⟨by rw [← hres]; simp only [own_r5, own_r4, own_r3, own_r2, own_r1, own_p16, own_p8, own_p4, if_neg hc42_7, if_neg hc56_71, if_pos hc71_103, if_pos hc87_105, if_pos hc103_107, hP2, hP4, hP8, hP16, hR1, hR2], N101, rfl⟩
          · have _ := 0
            obtain ⟨R5, hR5⟩ : ∃ z, own_mul R2 P16 = z := ⟨_, rfl⟩
            obtain ⟨_, _, ⟨T109, L109, k109, n109⟩, -, X109, ⟨Lc109, hQ109, l109, y109, z109⟩, st109⟩ := Jvm.LawKit.callS X101 hx (y := (⟨"com/example/tidegauge/tidegauge/MacroClusterSettingsSnapshotsPerOrderPinLaw", "mul", "(JJ)J"⟩ : MethodName)) hown (mvT hZ (hw _ (List.mem_of_getElem? (i := 7) rfl))) (mvT hZ (hw _ (List.mem_of_getElem? (i := 8) rfl))) (mvT hZ (hw _ (List.mem_of_getElem? (i := 5) rfl))) (mvT hZ (hw _ (List.mem_of_getElem? (i := 9) rfl))) (by decide) (backOf (W := 0) (rm_mul l Z a0 hw [] R2 P16 h0 n0 Z0 R5 hR5) hZ (hw _ (List.mem_of_getElem? (i := 9) rfl)) (hw _ (List.mem_of_getElem? (i := 5) rfl)) (by decide) (by decide)) (g := (mkF m 110 #[.val (.long q1), .second, .val (.int p2), .val (.long q1), .second, .val (.long P2), .second, .val (.long P4), .second, .val (.long P8), .second, .val (.long P16), .second, .val (.long R2), .second] [(.long P16), (.long R2)])) rfl (by rw [hml]; rfl) (argsL := [(.long R2), (.long P16)]) (rest := []) (lenOf pd_0 rfl) rfl (by show 2 * 0 + _ ≤ _; exact Nat.le_of_eq rfl) (hb hby d1_110) (fun _ _ => ⟨rfl, e101, (by decide : 0 + 0 ≤ _), (by decide : 0 + 0 ≤ _)⟩)
            dsimp only [Pt.U, Pt.locs, Pt.cells, Pt.slots] at X109 l109 y109 z109 st109 hQ109
            rw [y109, z109] at X109
            obtain ⟨rfl, N109q, e109⟩ := hQ109
            have N109 : Fr n0 L109 := by rw [l109]; exact Fr.app N101 N109q
            have pre110 : ∀ t, Steps p.tables e below (T109.setTop (mkF m 117 #[.val (.long q1), .second, .val (.int p2), .val (.long q1), .second, .val (.long P2), .second, .val (.long P4), .second, .val (.long P8), .second, .val (.long P16), .second, .val (.long R5), .second] [(.long R5)])) t → Steps p.tables e below (s₁.setTop (entryFrame m #[(.long q1), (.int p2)] 15)) t := fun t k => pre106 t (by
              show Steps p.tables e below (T101.setTop (mkF m 103 #[.val (.long q1), .second, .val (.int p2), .val (.long q1), .second, .val (.long P2), .second, .val (.long P4), .second, .val (.long P8), .second, .val (.long P16), .second, .val (.long R2), .second] [(.int (p2 &&& (16 : Int32)))])) _
              refine XS.ifNo X101.here hx rfl (hb hby d1_103) rfl ((if0 _ _).trans (feq hc103_107).1) ?_
              show Steps p.tables e below (T101.setTop (mkF m 106 #[.val (.long q1), .second, .val (.int p2), .val (.long q1), .second, .val (.long P2), .second, .val (.long P4), .second, .val (.long P8), .second, .val (.long P16), .second, .val (.long R2), .second] [])) _
              refine XS.lload X101.here hx rfl (hb hby d1_106) rfl ?_
              show Steps p.tables e below (T101.setTop (mkF m 108 #[.val (.long q1), .second, .val (.int p2), .val (.long q1), .second, .val (.long P2), .second, .val (.long P4), .second, .val (.long P8), .second, .val (.long P16), .second, .val (.long R2), .second] [(.long R2)])) _
              refine XS.lload X101.here hx rfl (hb hby d1_108) rfl ?_
              show Steps p.tables e below (T101.setTop (mkF m 110 #[.val (.long q1), .second, .val (.int p2), .val (.long q1), .second, .val (.long P2), .second, .val (.long P4), .second, .val (.long P8), .second, .val (.long P16), .second, .val (.long R2), .second] [(.long P16), (.long R2)])) _
              refine st109 _ ?_
              show Steps p.tables e below (T109.setTop (mkF m 113 #[.val (.long q1), .second, .val (.int p2), .val (.long q1), .second, .val (.long P2), .second, .val (.long P4), .second, .val (.long P8), .second, .val (.long P16), .second, .val (.long R2), .second] [(.long R5)])) _
              refine XS.lstore X109.here hx rfl (hb hby d1_113) rfl (l' := #[.val (.long q1), .second, .val (.int p2), .val (.long q1), .second, .val (.long P2), .second, .val (.long P4), .second, .val (.long P8), .second, .val (.long P16), .second, .val (.long R5), .second]) rfl ?_
              show Steps p.tables e below (T109.setTop (mkF m 115 #[.val (.long q1), .second, .val (.int p2), .val (.long q1), .second, .val (.long P2), .second, .val (.long P4), .second, .val (.long P8), .second, .val (.long P16), .second, .val (.long R5), .second] [])) _
              refine XS.lload X109.here hx rfl (hb hby d1_115) rfl ?_
              exact k)
            obtain ⟨fs, hr, hrun, hended, hW, hsame⟩ := X109.leave (v := some (.long R5)) (fun h => by rw [Bd.returns] at h; cases h)
            refine ⟨_, _, pre110 _ ?_, hrun, hended, _, _, rfl, ?_, ⟨_, rfl⟩, hW, hsame.mono (by decide) (by decide)⟩
            · show Steps p.tables e below (T109.setTop (mkF m 117 #[.val (.long q1), .second, .val (.int p2), .val (.long q1), .second, .val (.long P2), .second, .val (.long P4), .second, .val (.long P8), .second, .val (.long P16), .second, .val (.long R5), .second] [(.long R5)])) _
              exact retOut X109 hx Bd.returns rfl (Or.inr (Or.inl ⟨rfl, rfl, _, rfl⟩)) (hb hby d1_117) hr
            · show Qpow Z q1 p2 res h0 n0 _ T109.heap _
              rw [e109]
              exact ⟨by rw [← hres]; simp only [own_r5, own_r4, own_r3, own_r2, own_r1, own_p16, own_p8, own_p4, if_neg hc42_7, if_neg hc56_71, if_pos hc71_103, if_pos hc87_105, if_neg hc103_107, hP2, hP4, hP8, hP16, hR1, hR2, hR5], N109, rfl⟩
        · have _ := 0
          obtain ⟨R4, hR4⟩ : ∃ z, own_mul R2 P8 = z := ⟨_, rfl⟩
          obtain ⟨_, _, ⟨T111, L111, k111, n111⟩, -, X111, ⟨Lc111, hQ111, l111, y111, z111⟩, st111⟩ := Jvm.LawKit.callS X101 hx (y := (⟨"com/example/tidegauge/tidegauge/MacroClusterSettingsSnapshotsPerOrderPinLaw", "mul", "(JJ)J"⟩ : MethodName)) hown (mvT hZ (hw _ (List.mem_of_getElem? (i := 7) rfl))) (mvT hZ (hw _ (List.mem_of_getElem? (i := 8) rfl))) (mvT hZ (hw _ (List.mem_of_getElem? (i := 5) rfl))) (mvT hZ (hw _ (List.mem_of_getElem? (i := 9) rfl))) (by decide) (backOf (W := 0) (rm_mul l Z a0 hw [] R2 P8 h0 n0 Z0 R4 hR4) hZ (hw _ (List.mem_of_getElem? (i := 9) rfl)) (hw _ (List.mem_of_getElem? (i := 5) rfl)) (by decide) (by decide)) (g := (mkF m 94 #[.val (.long q1), .second, .val (.int p2), .val (.long q1), .second, .val (.long P2), .second, .val (.long P4), .second, .val (.long P8), .second, .val (.long P16), .second, .val (.long R2), .second] [(.long P8), (.long R2)])) rfl (by rw [hml]; rfl) (argsL := [(.long R2), (.long P8)]) (rest := []) (lenOf pd_0 rfl) rfl (by show 2 * 0 + _ ≤ _; exact Nat.le_of_eq rfl) (hb hby d1_94) (fun _ _ => ⟨rfl, e101, (by decide : 0 + 0 ≤ _), (by decide : 0 + 0 ≤ _)⟩)
          dsimp only [Pt.U, Pt.locs, Pt.cells, Pt.slots] at X111 l111 y111 z111 st111 hQ111
          rw [y111, z111] at X111
          obtain ⟨rfl, N111q, e111⟩ := hQ111
          have N111 : Fr n0 L111 := by rw [l111]; exact Fr.app N101 N111q
          have pre112 : ∀ t, Steps p.tables e below (T111.setTop (mkF m 103 #[.val (.long q1), .second, .val (.int p2), .val (.long q1), .second, .val (.long P2), .second, .val (.long P4), .second, .val (.long P8), .second, .val (.long P16), .second, .val (.long R4), .second] [(.int (p2 &&& (16 : Int32)))])) t → Steps p.tables e below (s₁.setTop (entryFrame m #[(.long q1), (.int p2)] 15)) t := fun t k => pre104 t (by
            show Steps p.tables e below (T101.setTop (mkF m 87 #[.val (.long q1), .second, .val (.int p2), .val (.long q1), .second, .val (.long P2), .second, .val (.long P4), .second, .val (.long P8), .second, .val (.long P16), .second, .val (.long R2), .second] [(.int (p2 &&& (8 : Int32)))])) _
            refine XS.ifNo X101.here hx rfl (hb hby d1_87) rfl ((if0 _ _).trans (feq hc87_105).1) ?_
            show Steps p.tables e below (T101.setTop (mkF m 90 #[.val (.long q1), .second, .val (.int p2), .val (.long q1), .second, .val (.long P2), .second, .val (.long P4), .second, .val (.long P8), .second, .val (.long P16), .second, .val (.long R2), .second] [])) _
            refine XS.lload X101.here hx rfl (hb hby d1_90) rfl ?_
            show Steps p.tables e below (T101.setTop (mkF m 92 #[.val (.long q1), .second, .val (.int p2), .val (.long q1), .second, .val (.long P2), .second, .val (.long P4), .second, .val (.long P8), .second, .val (.long P16), .second, .val (.long R2), .second] [(.long R2)])) _
            refine XS.lload X101.here hx rfl (hb hby d1_92) rfl ?_
            show Steps p.tables e below (T101.setTop (mkF m 94 #[.val (.long q1), .second, .val (.int p2), .val (.long q1), .second, .val (.long P2), .second, .val (.long P4), .second, .val (.long P8), .second, .val (.long P16), .second, .val (.long R2), .second] [(.long P8), (.long R2)])) _
            refine st111 _ ?_
            show Steps p.tables e below (T111.setTop (mkF m 97 #[.val (.long q1), .second, .val (.int p2), .val (.long q1), .second, .val (.long P2), .second, .val (.long P4), .second, .val (.long P8), .second, .val (.long P16), .second, .val (.long R2), .second] [(.long R4)])) _
            refine XS.lstore X111.here hx rfl (hb hby d1_97) rfl (l' := #[.val (.long q1), .second, .val (.int p2), .val (.long q1), .second, .val (.long P2), .second, .val (.long P4), .second, .val (.long P8), .second, .val (.long P16), .second, .val (.long R4), .second]) rfl ?_
            show Steps p.tables e below (T111.setTop (mkF m 99 #[.val (.long q1), .second, .val (.int p2), .val (.long q1), .second, .val (.long P2), .second, .val (.long P4), .second, .val (.long P8), .second, .val (.long P16), .second, .val (.long R4), .second] [])) _
            refine XS.iloadN X111.here hx rfl (hb hby d1_99) rfl ?_
            show Steps p.tables e below (T111.setTop (mkF m 100 #[.val (.long q1), .second, .val (.int p2), .val (.long q1), .second, .val (.long P2), .second, .val (.long P4), .second, .val (.long P8), .second, .val (.long P16), .second, .val (.long R4), .second] [(.int p2)])) _
            refine XT.bipushV X111.here hx rfl (16 : Int32) (hb hby d1_100) (by decide) ?_
            show Steps p.tables e below (T111.setTop (mkF m 102 #[.val (.long q1), .second, .val (.int p2), .val (.long q1), .second, .val (.long P2), .second, .val (.long P4), .second, .val (.long P8), .second, .val (.long P16), .second, .val (.long R4), .second] [(.int (16 : Int32)), (.int p2)])) _
            refine XS.iand X111.here hx rfl (hb hby d1_102) rfl ?_
            exact k)
          by_cases hc103_113 : (p2 &&& (16 : Int32)) = (0 : Int32)
          · have _ := 0
            have pre114 : ∀ t, Steps p.tables e below (T111.setTop (mkF m 117 #[.val (.long q1), .second, .val (.int p2), .val (.long q1), .second, .val (.long P2), .second, .val (.long P4), .second, .val (.long P8), .second, .val (.long P16), .second, .val (.long R4), .second] [(.long R4)])) t → Steps p.tables e below (s₁.setTop (entryFrame m #[(.long q1), (.int p2)] 15)) t := fun t k => pre112 t (by
              show Steps p.tables e below (T111.setTop (mkF m 103 #[.val (.long q1), .second, .val (.int p2), .val (.long q1), .second, .val (.long P2), .second, .val (.long P4), .second, .val (.long P8), .second, .val (.long P16), .second, .val (.long R4), .second] [(.int (p2 &&& (16 : Int32)))])) _
              refine XS.ifYes X111.here hx rfl (pc0 := 103) (pc' := 115) rfl (hb hby d1_103) rfl ((if0 _ _).trans (teq hc103_113).1) (by decide) (by decide) ?_
              show Steps p.tables e below (T111.setTop (mkF m 115 #[.val (.long q1), .second, .val (.int p2), .val (.long q1), .second, .val (.long P2), .second, .val (.long P4), .second, .val (.long P8), .second, .val (.long P16), .second, .val (.long R4), .second] [])) _
              refine XS.lload X111.here hx rfl (hb hby d1_115) rfl ?_
              exact k)
            obtain ⟨fs, hr, hrun, hended, hW, hsame⟩ := X111.leave (v := some (.long R4)) (fun h => by rw [Bd.returns] at h; cases h)
            refine ⟨_, _, pre114 _ ?_, hrun, hended, _, _, rfl, ?_, ⟨_, rfl⟩, hW, hsame.mono (by decide) (by decide)⟩
            · show Steps p.tables e below (T111.setTop (mkF m 117 #[.val (.long q1), .second, .val (.int p2), .val (.long q1), .second, .val (.long P2), .second, .val (.long P4), .second, .val (.long P8), .second, .val (.long P16), .second, .val (.long R4), .second] [(.long R4)])) _
              exact retOut X111 hx Bd.returns rfl (Or.inr (Or.inl ⟨rfl, rfl, _, rfl⟩)) (hb hby d1_117) hr
            · show Qpow Z q1 p2 res h0 n0 _ T111.heap _
              rw [e111]
              exact ⟨by rw [← hres]; simp only [own_r5, own_r4, own_r3, own_r2, own_r1, own_p16, own_p8, own_p4, if_neg hc42_7, if_neg hc56_71, if_pos hc71_103, if_neg hc87_105, if_pos hc103_113, hP2, hP4, hP8, hP16, hR1, hR2, hR4], N111, rfl⟩
          · have _ := 0
            obtain ⟨R5, hR5⟩ : ∃ z, own_mul R4 P16 = z := ⟨_, rfl⟩
            obtain ⟨_, _, ⟨T115, L115, k115, n115⟩, -, X115, ⟨Lc115, hQ115, l115, y115, z115⟩, st115⟩ := Jvm.LawKit.callS X111 hx (y := (⟨"com/example/tidegauge/tidegauge/MacroClusterSettingsSnapshotsPerOrderPinLaw", "mul", "(JJ)J"⟩ : MethodName)) hown (mvT hZ (hw _ (List.mem_of_getElem? (i := 7) rfl))) (mvT hZ (hw _ (List.mem_of_getElem? (i := 8) rfl))) (mvT hZ (hw _ (List.mem_of_getElem? (i := 5) rfl))) (mvT hZ (hw _ (List.mem_of_getElem? (i := 9) rfl))) (by decide) (backOf (W := 0) (rm_mul l Z a0 hw [] R4 P16 h0 n0 Z0 R5 hR5) hZ (hw _ (List.mem_of_getElem? (i := 9) rfl)) (hw _ (List.mem_of_getElem? (i := 5) rfl)) (by decide) (by decide)) (g := (mkF m 110 #[.val (.long q1), .second, .val (.int p2), .val (.long q1), .second, .val (.long P2), .second, .val (.long P4), .second, .val (.long P8), .second, .val (.long P16), .second, .val (.long R4), .second] [(.long P16), (.long R4)])) rfl (by rw [hml]; rfl) (argsL := [(.long R4), (.long P16)]) (rest := []) (lenOf pd_0 rfl) rfl (by show 2 * 0 + _ ≤ _; exact Nat.le_of_eq rfl) (hb hby d1_110) (fun _ _ => ⟨rfl, e111, (by decide : 0 + 0 ≤ _), (by decide : 0 + 0 ≤ _)⟩)
            dsimp only [Pt.U, Pt.locs, Pt.cells, Pt.slots] at X115 l115 y115 z115 st115 hQ115
            rw [y115, z115] at X115
            obtain ⟨rfl, N115q, e115⟩ := hQ115
            have N115 : Fr n0 L115 := by rw [l115]; exact Fr.app N111 N115q
            have pre116 : ∀ t, Steps p.tables e below (T115.setTop (mkF m 117 #[.val (.long q1), .second, .val (.int p2), .val (.long q1), .second, .val (.long P2), .second, .val (.long P4), .second, .val (.long P8), .second, .val (.long P16), .second, .val (.long R5), .second] [(.long R5)])) t → Steps p.tables e below (s₁.setTop (entryFrame m #[(.long q1), (.int p2)] 15)) t := fun t k => pre112 t (by
              show Steps p.tables e below (T111.setTop (mkF m 103 #[.val (.long q1), .second, .val (.int p2), .val (.long q1), .second, .val (.long P2), .second, .val (.long P4), .second, .val (.long P8), .second, .val (.long P16), .second, .val (.long R4), .second] [(.int (p2 &&& (16 : Int32)))])) _
              refine XS.ifNo X111.here hx rfl (hb hby d1_103) rfl ((if0 _ _).trans (feq hc103_113).1) ?_
              show Steps p.tables e below (T111.setTop (mkF m 106 #[.val (.long q1), .second, .val (.int p2), .val (.long q1), .second, .val (.long P2), .second, .val (.long P4), .second, .val (.long P8), .second, .val (.long P16), .second, .val (.long R4), .second] [])) _
              refine XS.lload X111.here hx rfl (hb hby d1_106) rfl ?_
              show Steps p.tables e below (T111.setTop (mkF m 108 #[.val (.long q1), .second, .val (.int p2), .val (.long q1), .second, .val (.long P2), .second, .val (.long P4), .second, .val (.long P8), .second, .val (.long P16), .second, .val (.long R4), .second] [(.long R4)])) _
              refine XS.lload X111.here hx rfl (hb hby d1_108) rfl ?_
              show Steps p.tables e below (T111.setTop (mkF m 110 #[.val (.long q1), .second, .val (.int p2), .val (.long q1), .second, .val (.long P2), .second, .val (.long P4), .second, .val (.long P8), .second, .val (.long P16), .second, .val (.long R4), .second] [(.long P16), (.long R4)])) _
              refine st115 _ ?_
              show Steps p.tables e below (T115.setTop (mkF m 113 #[.val (.long q1), .second, .val (.int p2), .val (.long q1), .second, .val (.long P2), .second, .val (.long P4), .second, .val (.long P8), .second, .val (.long P16), .second, .val (.long R4), .second] [(.long R5)])) _
              refine XS.lstore X115.here hx rfl (hb hby d1_113) rfl (l' := #[.val (.long q1), .second, .val (.int p2), .val (.long q1), .second, .val (.long P2), .second, .val (.long P4), .second, .val (.long P8), .second, .val (.long P16), .second, .val (.long R5), .second]) rfl ?_
              show Steps p.tables e below (T115.setTop (mkF m 115 #[.val (.long q1), .second, .val (.int p2), .val (.long q1), .second, .val (.long P2), .second, .val (.long P4), .second, .val (.long P8), .second, .val (.long P16), .second, .val (.long R5), .second] [])) _
              refine XS.lload X115.here hx rfl (hb hby d1_115) rfl ?_
              exact k)
            obtain ⟨fs, hr, hrun, hended, hW, hsame⟩ := X115.leave (v := some (.long R5)) (fun h => by rw [Bd.returns] at h; cases h)
            refine ⟨_, _, pre116 _ ?_, hrun, hended, _, _, rfl, ?_, ⟨_, rfl⟩, hW, hsame.mono (by decide) (by decide)⟩
            · show Steps p.tables e below (T115.setTop (mkF m 117 #[.val (.long q1), .second, .val (.int p2), .val (.long q1), .second, .val (.long P2), .second, .val (.long P4), .second, .val (.long P8), .second, .val (.long P16), .second, .val (.long R5), .second] [(.long R5)])) _
              exact retOut X115 hx Bd.returns rfl (Or.inr (Or.inl ⟨rfl, rfl, _, rfl⟩)) (hb hby d1_117) hr
            · show Qpow Z q1 p2 res h0 n0 _ T115.heap _
              rw [e115]
              exact ⟨by rw [← hres]; simp only [own_r5, own_r4, own_r3, own_r2, own_r1, own_p16, own_p8, own_p4, if_neg hc42_7, if_neg hc56_71, if_pos hc71_103, if_neg hc87_105, if_neg hc103_113, hP2, hP4, hP8, hP16, hR1, hR2, hR4, hR5], N115, rfl⟩
      · have _ := 0
        obtain ⟨R3, hR3⟩ : ∃ z, own_mul R2 P4 = z := ⟨_, rfl⟩
        obtain ⟨_, _, ⟨T117, L117, k117, n117⟩, -, X117, ⟨Lc117, hQ117, l117, y117, z117⟩, st117⟩ := Jvm.LawKit.callS X101 hx (y := (⟨"com/example/tidegauge/tidegauge/MacroClusterSettingsSnapshotsPerOrderPinLaw", "mul", "(JJ)J"⟩ : MethodName)) hown (mvT hZ (hw _ (List.mem_of_getElem? (i := 7) rfl))) (mvT hZ (hw _ (List.mem_of_getElem? (i := 8) rfl))) (mvT hZ (hw _ (List.mem_of_getElem? (i := 5) rfl))) (mvT hZ (hw _ (List.mem_of_getElem? (i := 9) rfl))) (by decide) (backOf (W := 0) (rm_mul l Z a0 hw [] R2 P4 h0 n0 Z0 R3 hR3) hZ (hw _ (List.mem_of_getElem? (i := 9) rfl)) (hw _ (List.mem_of_getElem? (i := 5) rfl)) (by decide) (by decide)) (g := (mkF m 78 #[.val (.long q1), .second, .val (.int p2), .val (.long q1), .second, .val (.long P2), .second, .val (.long P4), .second, .val (.long P8), .second, .val (.long P16), .second, .val (.long R2), .second] [(.long P4), (.long R2)])) rfl (by rw [hml]; rfl) (argsL := [(.long R2), (.long P4)]) (rest := []) (lenOf pd_0 rfl) rfl (by show 2 * 0 + _ ≤ _; exact Nat.le_of_eq rfl) (hb hby d1_78) (fun _ _ => ⟨rfl, e101, (by decide : 0 + 0 ≤ _), (by decide : 0 + 0 ≤ _)⟩)
        dsimp only [Pt.U, Pt.locs, Pt.cells, Pt.slots] at X117 l117 y117 z117 st117 hQ117
        rw [y117, z117] at X117
        obtain ⟨rfl, N117q, e117⟩ := hQ117
        have N117 : Fr n0 L117 := by rw [l117]; exact Fr.app N101 N117q
        have pre118 : ∀ t, Steps p.tables e below (T117.setTop (mkF m 87 #[.val (.long q1), .second, .val (.int p2), .val (.long q1), .second, .val (.long P2), .second, .val (.long P4), .second, .val (.long P8), .second, .val (.long P16), .second, .val (.long R3), .second] [(.int (p2 &&& (8 : Int32)))])) t → Steps p.tables e below (s₁.setTop (entryFrame m #[(.long q1), (.int p2)] 15)) t := fun t k => pre102 t (by
          show Steps p.tables e below (T101.setTop (mkF m 71 #[.val (.long q1), .second, .val (.int p2), .val (.long q1), .second, .val (.long P2), .second, .val (.long P4), .second, .val (.long P8), .second, .val (.long P16), .second, .val (.long R2), .second] [(.int (p2 &&& (4 : Int32)))])) _
          refine XS.ifNo X101.here hx rfl (hb hby d1_71) rfl ((if0 _ _).trans (feq hc71_103).1) ?_
          show Steps p.tables e below (T101.setTop (mkF m 74 #[.val (.long q1), .second, .val (.int p2), .val (.long q1), .second, .val (.long P2), .second, .val (.long P4), .second, .val (.long P8), .second, .val (.long P16), .second, .val (.long R2), .second] [])) _
          refine XS.lload X101.here hx rfl (hb hby d1_74) rfl ?_
          show Steps p.tables e below (T101.setTop (mkF m 76 #[.val (.long q1), .second, .val (.int p2), .val (.long q1), .second, .val (.long P2), .second, .val (.long P4), .second, .val (.long P8), .second, .val (.long P16), .second, .val (.long R2), .second] [(.long R2)])) _
          refine XS.lload X101.here hx rfl (hb hby d1_76) rfl ?_
          show Steps p.tables e below (T101.setTop (mkF m 78 #[.val (.long q1), .second, .val (.int p2), .val (.long q1), .second, .val (.long P2), .second, .val (.long P4), .second, .val (.long P8), .second, .val (.long P16), .second, .val (.long R2), .second] [(.long P4), (.long R2)])) _
          refine st117 _ ?_
          show Steps p.tables e below (T117.setTop (mkF m 81 #[.val (.long q1), .second, .val (.int p2), .val (.long q1), .second, .val (.long P2), .second, .val (.long P4), .second, .val (.long P8), .second, .val (.long P16), .second, .val (.long R2), .second] [(.long R3)])) _
          refine XS.lstore X117.here hx rfl (hb hby d1_81) rfl (l' := #[.val (.long q1), .second, .val (.int p2), .val (.long q1), .second, .val (.long P2), .second, .val (.long P4), .second, .val (.long P8), .second, .val (.long P16), .second, .val (.long R3), .second]) rfl ?_
          show Steps p.tables e below (T117.setTop (mkF m 83 #[.val (.long q1), .second, .val (.int p2), .val (.long q1), .second, .val (.long P2), .second, .val (.long P4), .second, .val (.long P8), .second, .val (.long P16), .second, .val (.long R3), .second] [])) _
          refine XS.iloadN X117.here hx rfl (hb hby d1_83) rfl ?_
          show Steps p.tables e below (T117.setTop (mkF m 84 #[.val (.long q1), .second, .val (.int p2), .val (.long q1), .second, .val (.long P2), .second, .val (.long P4), .second, .val (.long P8), .second, .val (.long P16), .second, .val (.long R3), .second] [(.int p2)])) _
          refine XT.bipushV X117.here hx rfl (8 : Int32) (hb hby d1_84) (by decide) ?_
          show Steps p.tables e below (T117.setTop (mkF m 86 #[.val (.long q1), .second, .val (.int p2), .val (.long q1), .second, .val (.long P2), .second, .val (.long P4), .second, .val (.long P8), .second, .val (.long P16), .second, .val (.long R3), .second] [(.int (8 : Int32)), (.int p2)])) _
          refine XS.iand X117.here hx rfl (hb hby d1_86) rfl ?_
          exact k)
        by_cases hc87_119 : (p2 &&& (8 : Int32)) = (0 : Int32)
        · have _ := 0
          have pre120 : ∀ t, Steps p.tables e below (T117.setTop (mkF m 103 #[.val (.long q1), .second, .val (.int p2), .val (.long q1), .second, .val (.long P2), .second, .val (.long P4), .second, .val (.long P8), .second, .val (.long P16), .second, .val (.long R3), .second] [(.int (p2 &&& (16 : Int32)))])) t → Steps p.tables e below (s₁.setTop (entryFrame m #[(.long q1), (.int p2)] 15)) t := fun t k => pre118 t (by
            show Steps p.tables e below (T117.setTop (mkF m 87 #[.val (.long q1), .second, .val (.int p2), .val (.long q1), .second, .val (.long P2), .second, .val (.long P4), .second, .val (.long P8), .second, .val (.long P16), .second, .val (.long R3), .second] [(.int (p2 &&& (8 : Int32)))])) _
            refine XS.ifYes X117.here hx rfl (pc0 := 87) (pc' := 99) rfl (hb hby d1_87) rfl ((if0 _ _).trans (teq hc87_119).1) (by decide) (by decide) ?_
            show Steps p.tables e below (T117.setTop (mkF m 99 #[.val (.long q1), .second, .val (.int p2), .val (.long q1), .second, .val (.long P2), .second, .val (.long P4), .second, .val (.long P8), .second, .val (.long P16), .second, .val (.long R3), .second] [])) _
            refine XS.iloadN X117.here hx rfl (hb hby d1_99) rfl ?_
            show Steps p.tables e below (T117.setTop (mkF m 100 #[.val (.long q1), .second, .val (.int p2), .val (.long q1), .second, .val (.long P2), .second, .val (.long P4), .second, .val (.long P8), .second, .val (.long P16), .second, .val (.long R3), .second] [(.int p2)])) _
            refine XT.bipushV X117.here hx rfl (16 : Int32) (hb hby d1_100) (by decide) ?_
            show Steps p.tables e below (T117.setTop (mkF m 102 #[.val (.long q1), .second, .val (.int p2), .val (.long q1), .second, .val (.long P2), .second, .val (.long P4), .second, .val (.long P8), .second, .val (.long P16), .second, .val (.long R3), .second] [(.int (16 : Int32)), (.int p2)])) _
            refine XS.iand X117.here hx rfl (hb hby d1_102) rfl ?_
            exact k)
          by_cases hc103_121 : (p2 &&& (16 : Int32)) = (0 : Int32)
          · have _ := 0
            have pre122 : ∀ t, Steps p.tables e below (T117.setTop (mkF m 117 #[.val (.long q1), .second, .val (.int p2), .val (.long q1), .second, .val (.long P2), .second, .val (.long P4), .second, .val (.long P8), .second, .val (.long P16), .second, .val (.long R3), .second] [(.long R3)])) t → Steps p.tables e below (s₁.setTop (entryFrame m #[(.long q1), (.int p2)] 15)) t := fun t k => pre120 t (by
              show Steps p.tables e below (T117.setTop (mkF m 103 #[.val (.long q1), .second, .val (.int p2), .val (.long q1), .second, .val (.long P2), .second, .val (.long P4), .second, .val (.long P8), .second, .val (.long P16), .second, .val (.long R3), .second] [(.int (p2 &&& (16 : Int32)))])) _
              refine XS.ifYes X117.here hx rfl (pc0 := 103) (pc' := 115) rfl (hb hby d1_103) rfl ((if0 _ _).trans (teq hc103_121).1) (by decide) (by decide) ?_
              show Steps p.tables e below (T117.setTop (mkF m 115 #[.val (.long q1), .second, .val (.int p2), .val (.long q1), .second, .val (.long P2), .second, .val (.long P4), .second, .val (.long P8), .second, .val (.long P16), .second, .val (.long R3), .second] [])) _
              refine XS.lload X117.here hx rfl (hb hby d1_115) rfl ?_
              exact k)
            obtain ⟨fs, hr, hrun, hended, hW, hsame⟩ := X117.leave (v := some (.long R3)) (fun h => by rw [Bd.returns] at h; cases h)
            refine ⟨_, _, pre122 _ ?_, hrun, hended, _, _, rfl, ?_, ⟨_, rfl⟩, hW, hsame.mono (by decide) (by decide)⟩
            · show Steps p.tables e below (T117.setTop (mkF m 117 #[.val (.long q1), .second, .val (.int p2), .val (.long q1), .second, .val (.long P2), .second, .val (.long P4), .second, .val (.long P8), .second, .val (.long P16), .second, .val (.long R3), .second] [(.long R3)])) _
              exact retOut X117 hx Bd.returns rfl (Or.inr (Or.inl ⟨rfl, rfl, _, rfl⟩)) (hb hby d1_117) hr
            · show Qpow Z q1 p2 res h0 n0 _ T117.heap _
              rw [e117]
              exact ⟨by rw [← hres]; simp only [own_r5, own_r4, own_r3, own_r2, own_r1, own_p16, own_p8, own_p4, if_neg hc42_7, if_neg hc56_71, if_neg hc71_103, if_pos hc87_119, if_pos hc103_121, hP2, hP4, hP8, hP16, hR1, hR2, hR3], N117, rfl⟩
          · have _ := 0
            obtain ⟨R5, hR5⟩ : ∃ z, own_mul R3 P16 = z := ⟨_, rfl⟩
            obtain ⟨_, _, ⟨T123, L123, k123, n123⟩, -, X123, ⟨Lc123, hQ123, l123, y123, z123⟩, st123⟩ := Jvm.LawKit.callS X117 hx (y := (⟨"com/example/tidegauge/tidegauge/MacroClusterSettingsSnapshotsPerOrderPinLaw", "mul", "(JJ)J"⟩ : MethodName)) hown (mvT hZ (hw _ (List.mem_of_getElem? (i := 7) rfl))) (mvT hZ (hw _ (List.mem_of_getElem? (i := 8) rfl))) (mvT hZ (hw _ (List.mem_of_getElem? (i := 5) rfl))) (mvT hZ (hw _ (List.mem_of_getElem? (i := 9) rfl))) (by decide) (backOf (W := 0) (rm_mul l Z a0 hw [] R3 P16 h0 n0 Z0 R5 hR5) hZ (hw _ (List.mem_of_getElem? (i := 9) rfl)) (hw _ (List.mem_of_getElem? (i := 5) rfl)) (by decide) (by decide)) (g := (mkF m 110 #[.val (.long q1), .second, .val (.int p2), .val (.long q1), .second, .val (.long P2), .second, .val (.long P4), .second, .val (.long P8), .second, .val (.long P16), .second, .val (.long R3), .second] [(.long P16), (.long R3)])) rfl (by rw [hml]; rfl) (argsL := [(.long R3), (.long P16)]) (rest := []) (lenOf pd_0 rfl) rfl (by show 2 * 0 + _ ≤ _; exact Nat.le_of_eq rfl) (hb hby d1_110) (fun _ _ => ⟨rfl, e117, (by decide : 0 + 0 ≤ _), (by decide : 0 + 0 ≤ _)⟩)
            dsimp only [Pt.U, Pt.locs, Pt.cells, Pt.slots] at X123 l123 y123 z123 st123 hQ123
            rw [y123, z123] at X123
            obtain ⟨rfl, N123q, e123⟩ := hQ123
            have N123 : Fr n0 L123 := by rw [l123]; exact Fr.app N117 N123q
            have pre124 : ∀ t, Steps p.tables e below (T123.setTop (mkF m 117 #[.val (.long q1), .second, .val (.int p2), .val (.long q1), .second, .val (.long P2), .second, .val (.long P4), .second, .val (.long P8), .second, .val (.long P16), .second, .val (.long R5), .second] [(.long R5)])) t → Steps p.tables e below (s₁.setTop (entryFrame m #[(.long q1), (.int p2)] 15)) t := fun t k => pre120 t (by
              show Steps p.tables e below (T117.setTop (mkF m 103 #[.val (.long q1), .second, .val (.int p2), .val (.long q1), .second, .val (.long P2), .second, .val (.long P4), .second, .val (.long P8), .second, .val (.long P16), .second, .val (.long R3), .second] [(.int (p2 &&& (16 : Int32)))])) _
              refine XS.ifNo X117.here hx rfl (hb hby d1_103) rfl ((if0 _ _).trans (feq hc103_121).1) ?_
              show Steps p.tables e below (T117.setTop (mkF m 106 #[.val (.long q1), .second, .val (.int p2), .val (.long q1), .second, .val (.long P2), .second, .val (.long P4), .second, .val (.long P8), .second, .val (.long P16), .second, .val (.long R3), .second] [])) _
              refine XS.lload X117.here hx rfl (hb hby d1_106) rfl ?_
              show Steps p.tables e below (T117.setTop (mkF m 108 #[.val (.long q1), .second, .val (.int p2), .val (.long q1), .second, .val (.long P2), .second, .val (.long P4), .second, .val (.long P8), .second, .val (.long P16), .second, .val (.long R3), .second] [(.long R3)])) _
              refine XS.lload X117.here hx rfl (hb hby d1_108) rfl ?_
              show Steps p.tables e below (T117.setTop (mkF m 110 #[.val (.long q1), .second, .val (.int p2), .val (.long q1), .second, .val (.long P2), .second, .val (.long P4), .second, .val (.long P8), .second, .val (.long P16), .second, .val (.long R3), .second] [(.long P16), (.long R3)])) _
              refine st123 _ ?_
              show Steps p.tables e below (T123.setTop (mkF m 113 #[.val (.long q1), .second, .val (.int p2), .val (.long q1), .second, .val (.long P2), .second, .val (.long P4), .second, .val (.long P8), .second, .val (.long P16), .second, .val (.long R3), .second] [(.long R5)])) _
              refine XS.lstore X123.here hx rfl (hb hby d1_113) rfl (l' := #[.val (.long q1), .second, .val (.int p2), .val (.long q1), .second, .val (.long P2), .second, .val (.long P4), .second, .val (.long P8), .second, .val (.long P16), .second, .val (.long R5), .second]) rfl ?_
              show Steps p.tables e below (T123.setTop (mkF m 115 #[.val (.long q1), .second, .val (.int p2), .val (.long q1), .second, .val (.long P2), .second, .val (.long P4), .second, .val (.long P8), .second, .val (.long P16), .second, .val (.long R5), .second] [])) _
              refine XS.lload X123.here hx rfl (hb hby d1_115) rfl ?_
              exact k)
            obtain ⟨fs, hr, hrun, hended, hW, hsame⟩ := X123.leave (v := some (.long R5)) (fun h => by rw [Bd.returns] at h; cases h)
            refine ⟨_, _, pre124 _ ?_, hrun, hended, _, _, rfl, ?_, ⟨_, rfl⟩, hW, hsame.mono (by decide) (by decide)⟩
            · show Steps p.tables e below (T123.setTop (mkF m 117 #[.val (.long q1), .second, .val (.int p2), .val (.long q1), .second, .val (.long P2), .second, .val (.long P4), .second, .val (.long P8), .second, .val (.long P16), .second, .val (.long R5), .second] [(.long R5)])) _
              exact retOut X123 hx Bd.returns rfl (Or.inr (Or.inl ⟨rfl, rfl, _, rfl⟩)) (hb hby d1_117) hr
            · show Qpow Z q1 p2 res h0 n0 _ T123.heap _
              rw [e123]
              exact ⟨by rw [← hres]; simp only [own_r5, own_r4, own_r3, own_r2, own_r1, own_p16, own_p8, own_p4, if_neg hc42_7, if_neg hc56_71, if_neg hc71_103, if_pos hc87_119, if_neg hc103_121, hP2, hP4, hP8, hP16, hR1, hR2, hR3, hR5], N123, rfl⟩
        · have _ := 0
          obtain ⟨R4, hR4⟩ : ∃ z, own_mul R3 P8 = z := ⟨_, rfl⟩
          obtain ⟨_, _, ⟨T125, L125, k125, n125⟩, -, X125, ⟨Lc125, hQ125, l125, y125, z125⟩, st125⟩ := Jvm.LawKit.callS X117 hx (y := (⟨"com/example/tidegauge/tidegauge/MacroClusterSettingsSnapshotsPerOrderPinLaw", "mul", "(JJ)J"⟩ : MethodName)) hown (mvT hZ (hw _ (List.mem_of_getElem? (i := 7) rfl))) (mvT hZ (hw _ (List.mem_of_getElem? (i := 8) rfl))) (mvT hZ (hw _ (List.mem_of_getElem? (i := 5) rfl))) (mvT hZ (hw _ (List.mem_of_getElem? (i := 9) rfl))) (by decide) (backOf (W := 0) (rm_mul l Z a0 hw [] R3 P8 h0 n0 Z0 R4 hR4) hZ (hw _ (List.mem_of_getElem? (i := 9) rfl)) (hw _ (List.mem_of_getElem? (i := 5) rfl)) (by decide) (by decide)) (g := (mkF m 94 #[.val (.long q1), .second, .val (.int p2), .val (.long q1), .second, .val (.long P2), .second, .val (.long P4), .second, .val (.long P8), .second, .val (.long P16), .second, .val (.long R3), .second] [(.long P8), (.long R3)])) rfl (by rw [hml]; rfl) (argsL := [(.long R3), (.long P8)]) (rest := []) (lenOf pd_0 rfl) rfl (by show 2 * 0 + _ ≤ _; exact Nat.le_of_eq rfl) (hb hby d1_94) (fun _ _ => ⟨rfl, e117, (by decide : 0 + 0 ≤ _), (by decide : 0 + 0 ≤ _)⟩)
          dsimp only [Pt.U, Pt.locs, Pt.cells, Pt.slots] at X125 l125 y125 z125 st125 hQ125
          rw [y125, z125] at X125
          obtain ⟨rfl, N125q, e125⟩ := hQ125
          have N125 : Fr n0 L125 := by rw [l125]; exact Fr.app N117 N125q
          have pre126 : ∀ t, Steps p.tables e below (T125.setTop (mkF m 103 #[.val (.long q1), .second, .val (.int p2), .val (.long q1), .second, .val (.long P2), .second, .val (.long P4), .second, .val (.long P8), .second, .val (.long P16), .second, .val (.long R4), .second] [(.int (p2 &&& (16 : Int32)))])) t → Steps p.tables e below (s₁.setTop (entryFrame m #[(.long q1), (.int p2)] 15)) t := fun t k => pre118 t (by
            show Steps p.tables e below (T117.setTop (mkF m 87 #[.val (.long q1), .second, .val (.int p2), .val (.long q1), .second, .val (.long P2), .second, .val (.long P4), .second, .val (.long P8), .second, .val (.long P16), .second, .val (.long R3), .second] [(.int (p2 &&& (8 : Int32)))])) _
            refine XS.ifNo X117.here hx rfl (hb hby d1_87) rfl ((if0 _ _).trans (feq hc87_119).1) ?_
            show Steps p.tables e below (T117.setTop (mkF m 90 #[.val (.long q1), .second, .val (.int p2), .val (.long q1), .second, .val (.long P2), .second, .val (.long P4), .second, .val (.long P8), .second, .val (.long P16), .second, .val (.long R3), .second] [])) _
            refine XS.lload X117.here hx rfl (hb hby d1_90) rfl ?_
            show Steps p.tables e below (T117.setTop (mkF m 92 #[.val (.long q1), .second, .val (.int p2), .val (.long q1), .second, .val (.long P2), .second, .val (.long P4), .second, .val (.long P8), .second, .val (.long P16), .second, .val (.long R3), .second] [(.long R3)])) _
            refine XS.lload X117.here hx rfl (hb hby d1_92) rfl ?_
            show Steps p.tables e below (T117.setTop (mkF m 94 #[.val (.long q1), .second, .val (.int p2), .val (.long q1), .second, .val (.long P2), .second, .val (.long P4), .second, .val (.long P8), .second, .val (.long P16), .second, .val (.long R3), .second] [(.long P8), (.long R3)])) _
            refine st125 _ ?_
            show Steps p.tables e below (T125.setTop (mkF m 97 #[.val (.long q1), .second, .val (.int p2), .val (.long q1), .second, .val (.long P2), .second, .val (.long P4), .second, .val (.long P8), .second, .val (.long P16), .second, .val (.long R3), .second] [(.long R4)])) _
            refine XS.lstore X125.here hx rfl (hb hby d1_97) rfl (l' := #[.val (.long q1), .second, .val (.int p2), .val (.long q1), .second, .val (.long P2), .second, .val (.long P4), .second, .val (.long P8), .second, .val (.long P16), .second, .val (.long R4), .second]) rfl ?_
            show Steps p.tables e below (T125.setTop (mkF m 99 #[.val (.long q1), .second, .val (.int p2), .val (.long q1), .second, .val (.long P2), .second, .val (.long P4), .second, .val (.long P8), .second, .val (.long P16), .second, .val (.long R4), .second] [])) _
            refine XS.iloadN X125.here hx rfl (hb hby d1_99) rfl ?_
            show Steps p.tables e below (T125.setTop (mkF m 100 #[.val (.long q1), .second, .val (.int p2), .val (.long q1), .second, .val (.long P2), .second, .val (.long P4), .second, .val (.long P8), .second, .val (.long P16), .second, .val (.long R4), .second] [(.int p2)])) _
            refine XT.bipushV X125.here hx rfl (16 : Int32) (hb hby d1_100) (by decide) ?_
            show Steps p.tables e below (T125.setTop (mkF m 102 #[.val (.long q1), .second, .val (.int p2), .val (.long q1), .second, .val (.long P2), .second, .val (.long P4), .second, .val (.long P8), .second, .val (.long P16), .second, .val (.long R4), .second] [(.int (16 : Int32)), (.int p2)])) _
            refine XS.iand X125.here hx rfl (hb hby d1_102) rfl ?_
            exact k)
          by_cases hc103_127 : (p2 &&& (16 : Int32)) = (0 : Int32)
          · have _ := 0
            have pre128 : ∀ t, Steps p.tables e below (T125.setTop (mkF m 117 #[.val (.long q1), .second, .val (.int p2), .val (.long q1), .second, .val (.long P2), .second, .val (.long P4), .second, .val (.long P8), .second, .val (.long P16), .second, .val (.long R4), .second] [(.long R4)])) t → Steps p.tables e below (s₁.setTop (entryFrame m #[(.long q1), (.int p2)] 15)) t := fun t k => pre126 t (by
              show Steps p.tables e below (T125.setTop (mkF m 103 #[.val (.long q1), .second, .val (.int p2), .val (.long q1), .second, .val (.long P2), .second, .val (.long P4), .second, .val (.long P8), .second, .val (.long P16), .second, .val (.long R4), .second] [(.int (p2 &&& (16 : Int32)))])) _
              refine XS.ifYes X125.here hx rfl (pc0 := 103) (pc' := 115) rfl (hb hby d1_103) rfl ((if0 _ _).trans (teq hc103_127).1) (by decide) (by decide) ?_
              show Steps p.tables e below (T125.setTop (mkF m 115 #[.val (.long q1), .second, .val (.int p2), .val (.long q1), .second, .val (.long P2), .second, .val (.long P4), .second, .val (.long P8), .second, .val (.long P16), .second, .val (.long R4), .second] [])) _
              refine XS.lload X125.here hx rfl (hb hby d1_115) rfl ?_
              exact k)
            obtain ⟨fs, hr, hrun, hended, hW, hsame⟩ := X125.leave (v := some (.long R4)) (fun h => by rw [Bd.returns] at h; cases h)
            refine ⟨_, _, pre128 _ ?_, hrun, hended, _, _, rfl, ?_, ⟨_, rfl⟩, hW, hsame.mono (by decide) (by decide)⟩
            · show Steps p.tables e below (T125.setTop (mkF m 117 #[.val (.long q1), .second, .val (.int p2), .val (.long q1), .second, .val (.long P2), .second, .val (.long P4), .second, .val (.long P8), .second, .val (.long P16), .second, .val (.long R4), .second] [(.long R4)])) _
              exact retOut X125 hx Bd.returns rfl (Or.inr (Or.inl ⟨rfl, rfl, _, rfl⟩)) (hb hby d1_117) hr
            · show Qpow Z q1 p2 res h0 n0 _ T125.heap _
              rw [e125]
              exact ⟨by rw [← hres]; simp only [own_r5, own_r4, own_r3, own_r2, own_r1, own_p16, own_p8, own_p4, if_neg hc42_7, if_neg hc56_71, if_neg hc71_103, if_neg hc87_119, if_pos hc103_127, hP2, hP4, hP8, hP16, hR1, hR2, hR3, hR4], N125, rfl⟩
          · have _ := 0
            obtain ⟨R5, hR5⟩ : ∃ z, own_mul R4 P16 = z := ⟨_, rfl⟩
            obtain ⟨_, _, ⟨T129, L129, k129, n129⟩, -, X129, ⟨Lc129, hQ129, l129, y129, z129⟩, st129⟩ := Jvm.LawKit.callS X125 hx (y := (⟨"com/example/tidegauge/tidegauge/MacroClusterSettingsSnapshotsPerOrderPinLaw", "mul", "(JJ)J"⟩ : MethodName)) hown (mvT hZ (hw _ (List.mem_of_getElem? (i := 7) rfl))) (mvT hZ (hw _ (List.mem_of_getElem? (i := 8) rfl))) (mvT hZ (hw _ (List.mem_of_getElem? (i := 5) rfl))) (mvT hZ (hw _ (List.mem_of_getElem? (i := 9) rfl))) (by decide) (backOf (W := 0) (rm_mul l Z a0 hw [] R4 P16 h0 n0 Z0 R5 hR5) hZ (hw _ (List.mem_of_getElem? (i := 9) rfl)) (hw _ (List.mem_of_getElem? (i := 5) rfl)) (by decide) (by decide)) (g := (mkF m 110 #[.val (.long q1), .second, .val (.int p2), .val (.long q1), .second, .val (.long P2), .second, .val (.long P4), .second, .val (.long P8), .second, .val (.long P16), .second, .val (.long R4), .second] [(.long P16), (.long R4)])) rfl (by rw [hml]; rfl) (argsL := [(.long R4), (.long P16)]) (rest := []) (lenOf pd_0 rfl) rfl (by show 2 * 0 + _ ≤ _; exact Nat.le_of_eq rfl) (hb hby d1_110) (fun _ _ => ⟨rfl, e125, (by decide : 0 + 0 ≤ _), (by decide : 0 + 0 ≤ _)⟩)
            dsimp only [Pt.U, Pt.locs, Pt.cells, Pt.slots] at X129 l129 y129 z129 st129 hQ129
            rw [y129, z129] at X129
            obtain ⟨rfl, N129q, e129⟩ := hQ129
            have N129 : Fr n0 L129 := by rw [l129]; exact Fr.app N125 N129q
            have pre130 : ∀ t, Steps p.tables e below (T129.setTop (mkF m 117 #[.val (.long q1), .second, .val (.int p2), .val (.long q1), .second, .val (.long P2), .second, .val (.long P4), .second, .val (.long P8), .second, .val (.long P16), .second, .val (.long R5), .second] [(.long R5)])) t → Steps p.tables e below (s₁.setTop (entryFrame m #[(.long q1), (.int p2)] 15)) t := fun t k => pre126 t (by
              show Steps p.tables e below (T125.setTop (mkF m 103 #[.val (.long q1), .second, .val (.int p2), .val (.long q1), .second, .val (.long P2), .second, .val (.long P4), .second, .val (.long P8), .second, .val (.long P16), .second, .val (.long R4), .second] [(.int (p2 &&& (16 : Int32)))])) _
              refine XS.ifNo X125.here hx rfl (hb hby d1_103) rfl ((if0 _ _).trans (feq hc103_127).1) ?_
              show Steps p.tables e below (T125.setTop (mkF m 106 #[.val (.long q1), .second, .val (.int p2), .val (.long q1), .second, .val (.long P2), .second, .val (.long P4), .second, .val (.long P8), .second, .val (.long P16), .second, .val (.long R4), .second] [])) _
              refine XS.lload X125.here hx rfl (hb hby d1_106) rfl ?_
              show Steps p.tables e below (T125.setTop (mkF m 108 #[.val (.long q1), .second, .val (.int p2), .val (.long q1), .second, .val (.long P2), .second, .val (.long P4), .second, .val (.long P8), .second, .val (.long P16), .second, .val (.long R4), .second] [(.long R4)])) _
              refine XS.lload X125.here hx rfl (hb hby d1_108) rfl ?_
              show Steps p.tables e below (T125.setTop (mkF m 110 #[.val (.long q1), .second, .val (.int p2), .val (.long q1), .second, .val (.long P2), .second, .val (.long P4), .second, .val (.long P8), .second, .val (.long P16), .second, .val (.long R4), .second] [(.long P16), (.long R4)])) _
              refine st129 _ ?_
              show Steps p.tables e below (T129.setTop (mkF m 113 #[.val (.long q1), .second, .val (.int p2), .val (.long q1), .second, .val (.long P2), .second, .val (.long P4), .second, .val (.long P8), .second, .val (.long P16), .second, .val (.long R4), .second] [(.long R5)])) _
              refine XS.lstore X129.here hx rfl (hb hby d1_113) rfl (l' := #[.val (.long q1), .second, .val (.int p2), .val (.long q1), .second, .val (.long P2), .second, .val (.long P4), .second, .val (.long P8), .second, .val (.long P16), .second, .val (.long R5), .second]) rfl ?_
              show Steps p.tables e below (T129.setTop (mkF m 115 #[.val (.long q1), .second, .val (.int p2), .val (.long q1), .second, .val (.long P2), .second, .val (.long P4), .second, .val (.long P8), .second, .val (.long P16), .second, .val (.long R5), .second] [])) _
              refine XS.lload X129.here hx rfl (hb hby d1_115) rfl ?_
              exact k)
            obtain ⟨fs, hr, hrun, hended, hW, hsame⟩ := X129.leave (v := some (.long R5)) (fun h => by rw [Bd.returns] at h; cases h)
            refine ⟨_, _, pre130 _ ?_, hrun, hended, _, _, rfl, ?_, ⟨_, rfl⟩, hW, hsame.mono (by decide) (by decide)⟩
            · show Steps p.tables e below (T129.setTop (mkF m 117 #[.val (.long q1), .second, .val (.int p2), .val (.long q1), .second, .val (.long P2), .second, .val (.long P4), .second, .val (.long P8), .second, .val (.long P16), .second, .val (.long R5), .second] [(.long R5)])) _
              exact retOut X129 hx Bd.returns rfl (Or.inr (Or.inl ⟨rfl, rfl, _, rfl⟩)) (hb hby d1_117) hr
            · show Qpow Z q1 p2 res h0 n0 _ T129.heap _
              rw [e129]
              exact ⟨by rw [← hres]; simp only [own_r5, own_r4, own_r3, own_r2, own_r1, own_p16, own_p8, own_p4, if_neg hc42_7, if_neg hc56_71, if_neg hc71_103, if_neg hc87_119, if_neg hc103_127, hP2, hP4, hP8, hP16, hR1, hR2, hR3, hR4, hR5], N129, rfl⟩
def Qpwr (Z : State) (p1 : Int32) (p2 : Int32) (res : Int64) (h0 : Heap) (n0 : Nat) (v : Option Value) (h : Heap) (L : List Loc) : Prop := v = some (.long res) ∧ Fr n0 L ∧ h = h0
theorem own_loop0 {p1 p2 i : Int32} {q res : Int64} {A n : Nat} (hn : p2.toInt = (n : Int)) (hres : res.toInt = ((A ^ n : Nat) : Int)) (hi : i.toInt + (0 : Nat) = (n : Int)) (hq : q.toInt = ((A ^ (n - 0) : Nat) : Int)) : i = p2 ∧ q = res ∧ ¬ i < p2 := by
  have e : i = p2 := Int32.toInt_inj.mp (by omega)
  have e2 : q = res := Int64.toInt_inj.mp (by rw [hq, hres]; rfl)
  refine ⟨e, e2, ?_⟩
  rw [Int32.lt_iff_toInt_lt]; omega
theorem own_loop1 {p1 p2 i : Int32} {q : Int64} {A n k : Nat} (hA : p1.toInt = (A : Int)) (hn : p2.toInt = (n : Int)) (h1 : 1 ≤ A) (hle : A ^ n ≤ 999999999) (hi : i.toInt + ((k + 1 : Nat) : Int) = (n : Int)) (i0 : 0 ≤ i.toInt) (hq : q.toInt = ((A ^ (n - (k + 1)) : Nat) : Int)) :
    i < p2 ∧ ¬ (999999999 : Int64) < q ∧ (i + (1 : Int32)).toInt + (k : Int) = (n : Int) ∧ 0 ≤ (i + (1 : Int32)).toInt ∧ (q * p1.toInt64).toInt = ((A ^ (n - k) : Nat) : Int) := by
  have m1 : A ^ (n - (k + 1)) ≤ A ^ n := Nat.pow_le_pow_right h1 (by omega)
  have m2 : A ^ (n - k) ≤ A ^ n := Nat.pow_le_pow_right h1 (by omega)
  have m3 : A ^ (n - k) = A ^ (n - (k + 1)) * A := by rw [← Nat.pow_succ]; congr 1; omega
  have o1 : (1 : Int32).toInt = 1 := by decide
  have o2 : (999999999 : Int64).toInt = 999999999 := by decide
  have e1 := c_iadd i 1
  have r1 := rng32 (i + 1)
  have r2 := rng32 p2
  have e2 : q.toInt * p1.toInt64.toInt = ((A ^ (n - k) : Nat) : Int) := by rw [hq, c_i2l, hA, m3]; exact (Int.natCast_mul _ _).symm
  have e3 : (q * p1.toInt64).toInt = q.toInt * p1.toInt64.toInt := XT.mul64 (by rw [e2]; exact ⟨by omega, by omega⟩)
  refine ⟨?_, ?_, by omega, by omega, e3.trans e2⟩
  · rw [Int32.lt_iff_toInt_lt]; omega
  · rw [Int64.lt_iff_toInt_lt, o2, hq]; omega
theorem pn_7 : plainName "com/example/tidegauge/tidegauge/MacroClusterSettings" = true := by first | (simp [plainName, overriddenIn]; done) | decide +kernel
theorem ef_rm_pwr (m : MethodId) (x0 : Int32) (x1 : Int32) : entryFrame m #[(.int x0), (.int x1)] 5 = mkF m 0 #[.val (.int x0), .val (.int x1), .unset, .unset, .unset] [] := by first | (simp [entryFrame, mkF, argsToLocals, Value.category]; done) | rfl
set_option maxRecDepth 65536 in
set_option maxHeartbeats 40000000 in
theorem rm_pwr (l : Launch) (Z : State) (a0 : Array Value) (hw : ∀ d ∈ tables_1, d.before a0 Z = true) (ws : List Jvm.Cond) (p1 : Int32) (p2 : Int32) (h0 : Heap) (n0 : Nat) (Z0 : n0 ≤ h0.size) (A n : Nat) (hA : p1.toInt = (A : Int)) (hn : p2.toInt = (n : Int)) (h1 : 1 ≤ A) (hle : A ^ n ≤ 999999999) (res : Int64) (hres : res.toInt = ((A ^ n : Nat) : Int)) :
    MetFree l (⟨"com/example/tidegauge/tidegauge/MacroClusterSettings", "power", "(II)J"⟩ : MethodName) (head1 (Jvm.Cond.code (⟨"com/example/tidegauge/tidegauge/MacroClusterSettings", "power", "(II)J"⟩ : MethodName) prog_19_method_4_code 5 (some .long) :: ws) ({ frames := 0, cells := 0, slots := 0, locals := 0 } : Room)) (fun a U => a = #[(.int p1), (.int p2)] ∧ Z.Warmed39 U.vm ∧ U.heap = h0) (fun _ _ _ _ _ => True) (fun _ U o U' => ∃ v L, o = .returned v ∧ Qpwr Z p1 p2 res h0 n0 v U'.heap L ∧ FrameEnd U o U' L ({ frames := 0, cells := 0, slots := 0, locals := 0 } : Room).cells ({ frames := 0, cells := 0, slots := 0, locals := 0 } : Room).slots) := by
  refine MetFree.of_bodySF (plainFor_of_name pn_7) hisR ?_
  intro p e s m args below meth c s₁ Bd hml0 hP hK
  obtain ⟨rfl, hZ, hh⟩ := hP
  have hx := Bd.exec
  have hby := Bd.bytes
  have hml : c.maxLocals = 5 := hml0
  have hown : s.vm.findClass "com/example/tidegauge/tidegauge/MacroClusterSettings" = some m.cls := findClass_of_methodNamed Bd.named
  have hnm := (name_of_methodNamed Bd.named Bd.method).1
  have X0 : Stand p l e ({ frames := 0, cells := 0, slots := 0, locals := 0 } : Room) s m #[(.int p1), (.int p2)] below meth c s₁ [] 0 0 := Stand.of_body Bd
  have e0 : s₁.heap = h0 := by rw [← hh, Bd.state]; rfl
  have N0 := Fr.nil n0
  have pre0 : ∀ t, Steps p.tables e below (s₁.setTop (mkF m 0 #[.val (.int p1), .val (.int p2), .unset, .unset, .unset] [])) t → Steps p.tables e below (s₁.setTop (entryFrame m #[(.int p1), (.int p2)] 5)) t := fun t k => castTop (ef_rm_pwr m p1 p2) k
  have loop : ∀ (k : Nat) (i : Int32) (q : Int64), i.toInt + (k : Int) = (n : Int) → 0 ≤ i.toInt → q.toInt = ((A ^ (n - k) : Nat) : Int) → ∀ t, Steps p.tables e below (s₁.setTop (mkF m 30 #[.val (.int p1), .val (.int p2), .val (.long res), .second, .val (.int p2)] [])) t → Steps p.tables e below (s₁.setTop (mkF m 5 #[.val (.int p1), .val (.int p2), .val (.long q), .second, .val (.int i)] [])) t := by
    intro k
    induction k with
    | zero =>
      intro i q hi i0 hq t kt
      obtain ⟨ei, eq2, hnl⟩ := own_loop0 (p1 := p1) hn hres hi hq
      rw [ei] at hnl
      rw [ei, eq2]
      show Steps p.tables e below (s₁.setTop (mkF m 5 #[.val (.int p1), .val (.int p2), .val (.long res), .second, .val (.int p2)] [])) _
      refine XS.iload X0.here hx rfl (hb hby d7_5) rfl ?_
      show Steps p.tables e below (s₁.setTop (mkF m 7 #[.val (.int p1), .val (.int p2), .val (.long res), .second, .val (.int p2)] [(.int p2)])) _
      refine XS.iloadN X0.here hx rfl (hb hby d7_7) rfl ?_
      show Steps p.tables e below (s₁.setTop (mkF m 8 #[.val (.int p1), .val (.int p2), .val (.long res), .second, .val (.int p2)] [(.int p2), (.int p2)])) _
      refine XS.icmpYes X0.here hx rfl (pc0 := 8) (pc' := 30) rfl (hb hby d7_8) rfl (flt hnl).2.1 (by decide) (by decide) ?_
      exact kt
    | succ k ih =>
      intro i q hi i0 hq t kt
      obtain ⟨c1, c2, hi', i0', hq'⟩ := own_loop1 hA hn h1 hle hi i0 hq
      show Steps p.tables e below (s₁.setTop (mkF m 5 #[.val (.int p1), .val (.int p2), .val (.long q), .second, .val (.int i)] [])) _
      refine XS.iload X0.here hx rfl (hb hby d7_5) rfl ?_
      show Steps p.tables e below (s₁.setTop (mkF m 7 #[.val (.int p1), .val (.int p2), .val (.long q), .second, .val (.int i)] [(.int i)])) _
      refine XS.iloadN X0.here hx rfl (hb hby d7_7) rfl ?_
      show Steps p.tables e below (s₁.setTop (mkF m 8 #[.val (.int p1), .val (.int p2), .val (.long q), .second, .val (.int i)] [(.int p2), (.int i)])) _
      refine XS.icmpNo X0.here hx rfl (hb hby d7_8) rfl (tlt c1).2.1 ?_
      show Steps p.tables e below (s₁.setTop (mkF m 11 #[.val (.int p1), .val (.int p2), .val (.long q), .second, .val (.int i)] [])) _
      refine XS.lloadN X0.here hx rfl (hb hby d7_11) rfl ?_
      show Steps p.tables e below (s₁.setTop (mkF m 12 #[.val (.int p1), .val (.int p2), .val (.long q), .second, .val (.int i)] [(.long q)])) _
      refine X0.ldc2Long hx hown (mvT hZ (hw _ (List.mem_of_getElem? (i := 40) rfl))) (g := (mkF m 12 #[.val (.int p1), .val (.int p2), .val (.long q), .second, .val (.int i)] [(.long q)])) rfl (hb hby d7_12) _ ?_
      show Steps p.tables e below (s₁.setTop (mkF m 15 #[.val (.int p1), .val (.int p2), .val (.long q), .second, .val (.int i)] [(.long (999999999 : Int64)), (.long q)])) _
      refine XS.lcmp X0.here hx rfl (hb hby d7_15) rfl ?_
      show Steps p.tables e below (s₁.setTop (mkF m 16 #[.val (.int p1), .val (.int p2), .val (.long q), .second, .val (.int i)] [(.int (lcmpW q (999999999 : Int64)))])) _
      refine XS.ifNo X0.here hx rfl (hb hby d7_16) rfl ((if0 _ _).trans (flt (fun qh_ => c2 ((lw_gt q (999999999 : Int64)).mp qh_))).2.2.1) ?_
      show Steps p.tables e below (s₁.setTop (mkF m 19 #[.val (.int p1), .val (.int p2), .val (.long q), .second, .val (.int i)] [])) _
      refine XS.lloadN X0.here hx rfl (hb hby d7_19) rfl ?_
      show Steps p.tables e below (s₁.setTop (mkF m 20 #[.val (.int p1), .val (.int p2), .val (.long q), .second, .val (.int i)] [(.long q)])) _
      refine XS.iloadN X0.here hx rfl (hb hby d7_20) rfl ?_
      show Steps p.tables e below (s₁.setTop (mkF m 21 #[.val (.int p1), .val (.int p2), .val (.long q), .second, .val (.int i)] [(.int p1), (.long q)])) _
      refine XS.i2l X0.here hx rfl (hb hby d7_21) rfl ?_
      show Steps p.tables e below (s₁.setTop (mkF m 22 #[.val (.int p1), .val (.int p2), .val (.long q), .second, .val (.int i)] [(.long (p1.toInt64)), (.long q)])) _
      refine XS.lmul X0.here hx rfl (hb hby d7_22) rfl ?_
      show Steps p.tables e below (s₁.setTop (mkF m 23 #[.val (.int p1), .val (.int p2), .val (.long q), .second, .val (.int i)] [(.long (q * (p1.toInt64)))])) _
      refine XS.lstoreN X0.here hx rfl (hb hby d7_23) rfl (l' := #[.val (.int p1), .val (.int p2), .val (.long (q * (p1.toInt64))), .second, .val (.int i)]) rfl ?_
      show Steps p.tables e below (s₁.setTop (mkF m 24 #[.val (.int p1), .val (.int p2), .val (.long (q * (p1.toInt64))), .second, .val (.int i)] [])) _
      refine XS.iinc X0.here hx rfl (hb hby d7_24) rfl (l' := #[.val (.int p1), .val (.int p2), .val (.long (q * (p1.toInt64))), .second, .val (.int (i + (1 : Int32)))]) rfl ?_
      show Steps p.tables e below (s₁.setTop (mkF m 27 #[.val (.int p1), .val (.int p2), .val (.long (q * (p1.toInt64))), .second, .val (.int (i + (1 : Int32)))] [])) _
      refine XS.goto X0.here hx rfl (pc0 := 27) (pc' := 5) rfl (hb hby d7_27) (by decide) (by decide) ?_
      exact ih _ _ hi' i0' hq' t kt
  have pre1 : ∀ t, Steps p.tables e below (s₁.setTop (mkF m 30 #[.val (.int p1), .val (.int p2), .val (.long res), .second, .val (.int p2)] [])) t → Steps p.tables e below (s₁.setTop (entryFrame m #[(.int p1), (.int p2)] 5)) t := fun t k => pre0 t (by
    show Steps p.tables e below (s₁.setTop (mkF m 0 #[.val (.int p1), .val (.int p2), .unset, .unset, .unset] [])) _
    refine XT.lconstV X0.here hx rfl (1 : Int64) (hb hby d7_0) (by decide) ?_
    show Steps p.tables e below (s₁.setTop (mkF m 1 #[.val (.int p1), .val (.int p2), .unset, .unset, .unset] [(.long (1 : Int64))])) _
    refine XS.lstoreN X0.here hx rfl (hb hby d7_1) rfl (l' := #[.val (.int p1), .val (.int p2), .val (.long (1 : Int64)), .second, .unset]) rfl ?_
    show Steps p.tables e below (s₁.setTop (mkF m 2 #[.val (.int p1), .val (.int p2), .val (.long (1 : Int64)), .second, .unset] [])) _
    refine XT.iconstV X0.here hx rfl (0 : Int32) (hb hby d7_2) (by decide) ?_
    show Steps p.tables e below (s₁.setTop (mkF m 3 #[.val (.int p1), .val (.int p2), .val (.long (1 : Int64)), .second, .unset] [(.int (0 : Int32))])) _
    refine XS.istore X0.here hx rfl (hb hby d7_3) rfl (l' := #[.val (.int p1), .val (.int p2), .val (.long (1 : Int64)), .second, .val (.int (0 : Int32))]) rfl ?_
    exact loop n _ _ (by rw [show (0 : Int32).toInt = 0 from by decide]; omega) (by decide) (by rw [Nat.sub_self, Nat.pow_zero]; decide) t k)
  have pre1 : ∀ t, Steps p.tables e below (s₁.setTop (mkF m 31 #[.val (.int p1), .val (.int p2), .val (.long res), .second, .val (.int p2)] [(.long res)])) t → Steps p.tables e below (s₁.setTop (entryFrame m #[(.int p1), (.int p2)] 5)) t := fun t k => pre1 t (by
    show Steps p.tables e below (s₁.setTop (mkF m 30 #[.val (.int p1), .val (.int p2), .val (.long res), .second, .val (.int p2)] [])) _
    refine XS.lloadN X0.here hx rfl (hb hby d7_30) rfl ?_
    exact k)
  obtain ⟨fs, hr, hrun, hended, hW, hsame⟩ := X0.leave (v := some (.long res)) (fun h => by rw [Bd.returns] at h; cases h)
  refine ⟨_, _, pre1 _ ?_, hrun, hended, _, _, rfl, ?_, ⟨_, rfl⟩, hW, hsame.mono (by decide) (by decide)⟩
  · show Steps p.tables e below (s₁.setTop (mkF m 31 #[.val (.int p1), .val (.int p2), .val (.long res), .second, .val (.int p2)] [(.long res)])) _
    exact retOut X0 hx Bd.returns rfl (Or.inr (Or.inl ⟨rfl, rfl, _, rfl⟩)) (hb hby d7_31) hr
  · show Qpwr Z p1 p2 res h0 n0 _ s₁.heap _
    rw [e0]
    exact ⟨rfl, N0, rfl⟩
def Qsnap (Z : State) (r1 : Addr) (res : Int64) (h0 : Heap) (n0 : Nat) (v : Option Value) (h : Heap) (L : List Loc) : Prop := v = some (.int (res.toInt32 + (1 : Int32))) ∧ Fr n0 L ∧ h = h0
theorem pn_6 : plainName "com/example/tidegauge/tidegauge/MacroClusterSettings" = true := by first | (simp [plainName, overriddenIn]; done) | decide +kernel
theorem ef_rm_snap (m : MethodId) (x0 : Addr) : entryFrame m #[(.ref x0)] 1 = mkF m 0 #[.val (.ref x0)] [] := by first | (simp [entryFrame, mkF, argsToLocals, Value.category]; done) | rfl
set_option maxRecDepth 65536 in
set_option maxHeartbeats 40000000 in
theorem rm_snap (l : Launch) (Z : State) (a0 : Array Value) (hw : ∀ d ∈ tables_1, d.before a0 Z = true) (ws : List Jvm.Cond) (r1 : Addr) (h0 : Heap) (n0 : Nat) (Z0 : n0 ≤ h0.size) (p1 p2 : Int32) (F1 : Fld Z h0 r1 "com/example/tidegauge/tidegauge/MacroClusterSettings" "alpha" "I" (.int p1)) (F2 : Fld Z h0 r1 "com/example/tidegauge/tidegauge/MacroClusterSettings" "l" "I" (.int p2)) (A n : Nat) (hA : p1.toInt = (A : Int)) (hn : p2.toInt = (n : Int)) (h1 : 1 ≤ A) (hle : A ^ n ≤ 999999999) (res : Int64) (hres : res.toInt = ((A ^ n : Nat) : Int)) :
    MetFree l (⟨"com/example/tidegauge/tidegauge/MacroClusterSettings", "snapshotsPerOrder", "()I"⟩ : MethodName) (head1 (Jvm.Cond.code (⟨"com/example/tidegauge/tidegauge/MacroClusterSettings", "snapshotsPerOrder", "()I"⟩ : MethodName) prog_19_method_3_code 1 (some .int) :: ws) ({ frames := 1, cells := 0, slots := 0, locals := 16 } : Room)) (fun a U => a = #[(.ref r1)] ∧ Z.Warmed39 U.vm ∧ U.heap = h0) (fun _ _ _ _ _ => True) (fun _ U o U' => ∃ v L, o = .returned v ∧ Qsnap Z r1 res h0 n0 v U'.heap L ∧ FrameEnd U o U' L ({ frames := 1, cells := 0, slots := 0, locals := 16 } : Room).cells ({ frames := 1, cells := 0, slots := 0, locals := 16 } : Room).slots) := by
  refine MetFree.of_bodySF (plainFor_of_name pn_6) hisR ?_
  intro p e s m args below meth c s₁ Bd hml0 hP hK
  obtain ⟨rfl, hZ, hh⟩ := hP
  have hx := Bd.exec
  have hby := Bd.bytes
  have hml : c.maxLocals = 1 := hml0
  have hown : s.vm.findClass "com/example/tidegauge/tidegauge/MacroClusterSettings" = some m.cls := findClass_of_methodNamed Bd.named
  have hnm := (name_of_methodNamed Bd.named Bd.method).1
  have X0 : Stand p l e ({ frames := 1, cells := 0, slots := 0, locals := 16 } : Room) s m #[(.ref r1)] below meth c s₁ [] 0 0 := Stand.of_body Bd
  have e0 : s₁.heap = h0 := by rw [← hh, Bd.state]; rfl
  have N0 := Fr.nil n0
  have pre0 : ∀ t, Steps p.tables e below (s₁.setTop (mkF m 0 #[.val (.ref r1)] [])) t → Steps p.tables e below (s₁.setTop (entryFrame m #[(.ref r1)] 1)) t := fun t k => castTop (ef_rm_snap m r1) k
  obtain ⟨T1, X1, e1, st1⟩ := getF X0 hx hZ hown (host := "") (Or.inl (hw _ (List.mem_of_getElem? (i := 28) rfl))) Via.refl e0 F1 (g := (mkF m 1 #[.val (.ref r1)] [(.ref r1)])) rfl rfl (hb hby d6_1)
  obtain ⟨T2, X2, e2, st2⟩ := getF X1 hx hZ hown (host := "") (Or.inl (hw _ (List.mem_of_getElem? (i := 30) rfl))) Via.refl e1 F2 (g := (mkF m 5 #[.val (.ref r1)] [(.ref r1), (.int p1)])) rfl rfl (hb hby d6_5)
  obtain ⟨_, _, ⟨T3, L3, k3, n3⟩, -, X3, ⟨Lc3, hQ3, l3, y3, z3⟩, st3⟩ := Jvm.LawKit.callS X2 hx (y := (⟨"com/example/tidegauge/tidegauge/MacroClusterSettings", "power", "(II)J"⟩ : MethodName)) hown (mvT hZ (hw _ (List.mem_of_getElem? (i := 37) rfl))) (mvT hZ (hw _ (List.mem_of_getElem? (i := 38) rfl))) (mvT hZ (hw _ (List.mem_of_getElem? (i := 14) rfl))) (mvT hZ (hw _ (List.mem_of_getElem? (i := 39) rfl))) (by decide) (backOf (W := 0) (rm_pwr l Z a0 hw [] p1 p2 h0 n0 Z0 A n hA hn h1 hle res hres) hZ (hw _ (List.mem_of_getElem? (i := 39) rfl)) (hw _ (List.mem_of_getElem? (i := 14) rfl)) (by decide) (by decide)) (g := (mkF m 8 #[.val (.ref r1)] [(.int p2), (.int p1)])) rfl (by rw [hml]; rfl) (argsL := [(.int p1), (.int p2)]) (rest := []) (lenOf pd_1 rfl) rfl (by show 2 * 0 + _ ≤ _; exact Nat.le_of_eq rfl) (hb hby d6_8) (fun _ _ => ⟨rfl, e2, (by decide : 0 + 0 ≤ _), (by decide : 0 + 0 ≤ _)⟩)
  dsimp only [Pt.U, Pt.locs, Pt.cells, Pt.slots] at X3 l3 y3 z3 st3 hQ3
  rw [y3, z3] at X3
  obtain ⟨rfl, N3q, e3⟩ := hQ3
  have N3 : Fr n0 L3 := by rw [l3]; exact Fr.app N0 N3q
  have pre4 : ∀ t, Steps p.tables e below (T3.setTop (mkF m 14 #[.val (.ref r1)] [(.int ((res.toInt32) + (1 : Int32)))])) t → Steps p.tables e below (s₁.setTop (entryFrame m #[(.ref r1)] 1)) t := fun t k => pre0 t (by
    show Steps p.tables e below (s₁.setTop (mkF m 0 #[.val (.ref r1)] [])) _
    refine XS.aloadN X0.here hx rfl (hb hby d6_0) rfl rfl ?_
    show Steps p.tables e below (s₁.setTop (mkF m 1 #[.val (.ref r1)] [(.ref r1)])) _
    refine st1 _ ?_
    show Steps p.tables e below (T1.setTop (mkF m 4 #[.val (.ref r1)] [(.int p1)])) _
    refine XS.aloadN X1.here hx rfl (hb hby d6_4) rfl rfl ?_
    show Steps p.tables e below (T1.setTop (mkF m 5 #[.val (.ref r1)] [(.ref r1), (.int p1)])) _
    refine st2 _ ?_
    show Steps p.tables e below (T2.setTop (mkF m 8 #[.val (.ref r1)] [(.int p2), (.int p1)])) _
    refine st3 _ ?_
    show Steps p.tables e below (T3.setTop (mkF m 11 #[.val (.ref r1)] [(.long res)])) _
    refine XS.l2i X3.here hx rfl (hb hby d6_11) rfl ?_
    show Steps p.tables e below (T3.setTop (mkF m 12 #[.val (.ref r1)] [(.int (res.toInt32))])) _
    refine XT.iconstV X3.here hx rfl (1 : Int32) (hb hby d6_12) (by decide) ?_
    show Steps p.tables e below (T3.setTop (mkF m 13 #[.val (.ref r1)] [(.int (1 : Int32)), (.int (res.toInt32))])) _
    refine XS.iadd X3.here hx rfl (hb hby d6_13) rfl ?_
    exact k)
  obtain ⟨fs, hr, hrun, hended, hW, hsame⟩ := X3.leave (v := some (.int ((res.toInt32) + (1 : Int32)))) (fun h => by rw [Bd.returns] at h; cases h)
  refine ⟨_, _, pre4 _ ?_, hrun, hended, _, _, rfl, ?_, ⟨_, rfl⟩, hW, hsame.mono (by decide) (by decide)⟩
  · show Steps p.tables e below (T3.setTop (mkF m 14 #[.val (.ref r1)] [(.int ((res.toInt32) + (1 : Int32)))])) _
    exact retOut X3 hx Bd.returns rfl (Or.inl ⟨rfl, by simp, _, rfl⟩) (hb hby d6_14) hr
  · show Qsnap Z r1 res h0 n0 _ T3.heap _
    rw [e3]
    exact ⟨rfl, N3, rfl⟩
def Qrec (Z : State) (r1 : Addr)  (h0 : Heap) (n0 : Nat) (v : Option Value) (h : Heap) (L : List Loc) : Prop := v = none ∧ Fr n0 L ∧ h = h0
theorem pn_4 : plainName "java/lang/Record" = true := by first | (simp [plainName, overriddenIn]; done) | decide +kernel
theorem ef_rm_rec (m : MethodId) (x0 : Addr) : entryFrame m #[(.ref x0)] 1 = mkF m 0 #[.val (.ref x0)] [] := by first | (simp [entryFrame, mkF, argsToLocals, Value.category]; done) | rfl
set_option maxRecDepth 65536 in
set_option maxHeartbeats 40000000 in
theorem rm_rec (l : Launch) (Z : State) (a0 : Array Value) (hw : ∀ d ∈ tables_1, d.before a0 Z = true) (ws : List Jvm.Cond) (r1 : Addr) (h0 : Heap) (n0 : Nat) (Z0 : n0 ≤ h0.size)  :
    MetFree l (⟨"java/lang/Record", "<init>", "()V"⟩ : MethodName) (head1 (Jvm.Cond.code (⟨"java/lang/Record", "<init>", "()V"⟩ : MethodName) jdk_30_method_1_code 1 none :: ws) ({ frames := 1, cells := 0, slots := 0, locals := 12 } : Room)) (fun a U => a = #[(.ref r1)] ∧ Z.Warmed39 U.vm ∧ U.heap = h0) (fun _ _ _ _ _ => True) (fun _ U o U' => ∃ v L, o = .returned v ∧ Qrec Z r1  h0 n0 v U'.heap L ∧ FrameEnd U o U' L ({ frames := 1, cells := 0, slots := 0, locals := 12 } : Room).cells ({ frames := 1, cells := 0, slots := 0, locals := 12 } : Room).slots) := by
  refine MetFree.of_bodySF (plainFor_of_name pn_4) hisR ?_
  intro p e s m args below meth c s₁ Bd hml0 hP hK
  obtain ⟨rfl, hZ, hh⟩ := hP
  have hx := Bd.exec
  have hby := Bd.bytes
  have hml : c.maxLocals = 1 := hml0
  have hown : s.vm.findClass "java/lang/Record" = some m.cls := findClass_of_methodNamed Bd.named
  have hnm := (name_of_methodNamed Bd.named Bd.method).1
  have X0 : Stand p l e ({ frames := 1, cells := 0, slots := 0, locals := 12 } : Room) s m #[(.ref r1)] below meth c s₁ [] 0 0 := Stand.of_body Bd
  have e0 : s₁.heap = h0 := by rw [← hh, Bd.state]; rfl
  have N0 := Fr.nil n0
  have pre0 : ∀ t, Steps p.tables e below (s₁.setTop (mkF m 0 #[.val (.ref r1)] [])) t → Steps p.tables e below (s₁.setTop (entryFrame m #[(.ref r1)] 1)) t := fun t k => castTop (ef_rm_rec m r1) k
  obtain ⟨T1, X1, e1, st1⟩ := initO X0 hx hZ hown (hw _ (List.mem_of_getElem? (i := 23) rfl)) (hw _ (List.mem_of_getElem? (i := 24) rfl)) (hw _ (List.mem_of_getElem? (i := 25) rfl)) e0 (g := (mkF m 1 #[.val (.ref r1)] [(.ref r1)])) rfl (by rw [hml]; rfl) rfl (hb hby d4_1) (by decide) (W := 0) (by show 2 * 0 + _ ≤ _; exact Nat.le_of_eq rfl) (by decide)
  have pre2 : ∀ t, Steps p.tables e below (T1.setTop (mkF m 4 #[.val (.ref r1)] [])) t → Steps p.tables e below (s₁.setTop (entryFrame m #[(.ref r1)] 1)) t := fun t k => pre0 t (by
    show Steps p.tables e below (s₁.setTop (mkF m 0 #[.val (.ref r1)] [])) _
    refine XS.aloadN X0.here hx rfl (hb hby d4_0) rfl rfl ?_
    show Steps p.tables e below (s₁.setTop (mkF m 1 #[.val (.ref r1)] [(.ref r1)])) _
    refine st1 _ ?_
    exact k)
  obtain ⟨fs, hr, hrun, hended, hW, hsame⟩ := X1.leave (v := none) (fun _ => rfl)
  refine ⟨_, _, pre2 _ ?_, hrun, hended, _, _, rfl, ?_, ⟨_, rfl⟩, hW, hsame.mono (by decide) (by decide)⟩
  · show Steps p.tables e below (T1.setTop (mkF m 4 #[.val (.ref r1)] [])) _
    exact X1.returnOut hx Bd.returns (hb hby d4_4) hr
  · show Qrec Z r1  h0 n0 _ T1.heap _
    rw [e1]
    exact ⟨rfl, N0, rfl⟩
def Qinit (Z : State) (r1 : Addr) (p1 p2 p3 : Int32) (h0 : Heap) (n0 : Nat) (v : Option Value) (h : Heap) (L : List Loc) : Prop := v = none ∧ Fr n0 L ∧ Keep h0 h [r1] ∧ Exa Z h r1 "com/example/tidegauge/tidegauge/MacroClusterSettings" ∧ Fld Z h r1 "com/example/tidegauge/tidegauge/MacroClusterSettings" "alpha" "I" (.int p2) ∧ Fld Z h r1 "com/example/tidegauge/tidegauge/MacroClusterSettings" "l" "I" (.int p3)
theorem pn_3 : plainName "com/example/tidegauge/tidegauge/MacroClusterSettings" = true := by first | (simp [plainName, overriddenIn]; done) | decide +kernel
theorem ef_rm_init (m : MethodId) (x0 : Addr) (x1 : Int32) (x2 : Int32) (x3 : Int32) : entryFrame m #[(.ref x0), (.int x1), (.int x2), (.int x3)] 4 = mkF m 0 #[.val (.ref x0), .val (.int x1), .val (.int x2), .val (.int x3)] [] := by first | (simp [entryFrame, mkF, argsToLocals, Value.category]; done) | rfl
set_option maxRecDepth 65536 in
set_option maxHeartbeats 40000000 in
theorem rm_init (l : Launch) (Z : State) (a0 : Array Value) (hw : ∀ d ∈ tables_1, d.before a0 Z = true) (ws : List Jvm.Cond) (r1 : Addr) (p1 : Int32) (p2 : Int32) (p3 : Int32) (h0 : Heap) (n0 : Nat) (Z0 : n0 ≤ h0.size) (E1 : Exa Z h0 r1 "com/example/tidegauge/tidegauge/MacroClusterSettings") (F1 : Fld Z h0 r1 "com/example/tidegauge/tidegauge/MacroClusterSettings" "k" "I" (.int (0 : Int32))) (F2 : Fld Z h0 r1 "com/example/tidegauge/tidegauge/MacroClusterSettings" "alpha" "I" (.int (0 : Int32))) (F3 : Fld Z h0 r1 "com/example/tidegauge/tidegauge/MacroClusterSettings" "l" "I" (.int (0 : Int32))) (g1 : n0 ≤ r1) :
    MetFree l (⟨"com/example/tidegauge/tidegauge/MacroClusterSettings", "<init>", "(III)V"⟩ : MethodName) (head1 (Jvm.Cond.code (⟨"com/example/tidegauge/tidegauge/MacroClusterSettings", "<init>", "(III)V"⟩ : MethodName) prog_19_method_1_code 4 none :: ws) ({ frames := 2, cells := 0, slots := 0, locals := 24 } : Room)) (fun a U => a = #[(.ref r1), (.int p1), (.int p2), (.int p3)] ∧ Z.Warmed39 U.vm ∧ U.heap = h0) (fun _ _ _ _ _ => True) (fun _ U o U' => ∃ v L, o = .returned v ∧ Qinit Z r1 p1 p2 p3  h0 n0 v U'.heap L ∧ FrameEnd U o U' L ({ frames := 2, cells := 0, slots := 0, locals := 24 } : Room).cells ({ frames := 2, cells := 0, slots := 0, locals := 24 } : Room).slots) := by
  refine MetFree.of_bodySF (plainFor_of_name pn_3) hisR ?_
  intro p e s m args below meth c s₁ Bd hml0 hP hK
  obtain ⟨rfl, hZ, hh⟩ := hP
  have hx := Bd.exec
  have hby := Bd.bytes
  have hml : c.maxLocals = 4 := hml0
  have hown : s.vm.findClass "com/example/tidegauge/tidegauge/MacroClusterSettings" = some m.cls := findClass_of_methodNamed Bd.named
  have hnm := (name_of_methodNamed Bd.named Bd.method).1
  have X0 : Stand p l e ({ frames := 2, cells := 0, slots := 0, locals := 24 } : Room) s m #[(.ref r1), (.int p1), (.int p2), (.int p3)] below meth c s₁ [] 0 0 := Stand.of_body Bd
  have e0 : s₁.heap = h0 := by rw [← hh, Bd.state]; rfl
  have N0 := Fr.nil n0
  have pre0 : ∀ t, Steps p.tables e below (s₁.setTop (mkF m 0 #[.val (.ref r1), .val (.int p1), .val (.int p2), .val (.int p3)] [])) t → Steps p.tables e below (s₁.setTop (entryFrame m #[(.ref r1), (.int p1), (.int p2), (.int p3)] 4)) t := fun t k => castTop (ef_rm_init m r1 p1 p2 p3) k
  obtain ⟨_, _, ⟨T1, L1, k1, n1⟩, -, X1, ⟨Lc1, hQ1, l1, y1, z1⟩, st1⟩ := X0.specialBack hx (y := (⟨"java/lang/Record", "<init>", "()V"⟩ : MethodName)) rfl hown (mvT hZ (hw _ (List.mem_of_getElem? (i := 18) rfl))) (mvT hZ (hw _ (List.mem_of_getElem? (i := 19) rfl))) (mvT hZ (hw _ (List.mem_of_getElem? (i := 22) rfl))) (by decide) (backOf (W := 0) (rm_rec l Z a0 hw [] r1 h0 n0 Z0) hZ (hw _ (List.mem_of_getElem? (i := 22) rfl)) (hw _ (List.mem_of_getElem? (i := 21) rfl)) (by decide) (by decide)) (g := (mkF m 1 #[.val (.ref r1), .val (.int p1), .val (.int p2), .val (.int p3)] [(.ref r1)])) rfl (by rw [hml]; rfl) (Steps.refl _) (a := r1) (argsL := []) (rest := []) (lenOf pd_2 rfl) rfl (by show 2 * 0 + _ ≤ _; exact Nat.le_of_eq rfl) (hb hby d3_1) (fun _ _ => ⟨rfl, e0, (by decide : 0 + 0 ≤ _), (by decide : 0 + 0 ≤ _)⟩)
  dsimp only [Pt.U, Pt.locs, Pt.cells, Pt.slots] at X1 l1 y1 z1 st1 hQ1
  rw [y1, z1] at X1
  obtain ⟨rfl, N1q, e1⟩ := hQ1
  have N1 : Fr n0 L1 := by rw [l1]; exact Fr.app N0 N1q
  obtain ⟨T2, h2, X2, e2, W2, st2⟩ := putF X1 hx hZ hown (host := "") (Or.inl (hw _ (List.mem_of_getElem? (i := 26) rfl))) Via.refl e1 F1 E1 (Or.inr ⟨(hw _ (List.mem_of_getElem? (i := 27) rfl)), rfl, hnm⟩) (hw _ (List.mem_of_getElem? (i := 13) rfl)) (ty := .int) (by decide) rfl rfl (g := (mkF m 6 #[.val (.ref r1), .val (.int p1), .val (.int p2), .val (.int p3)] [(.int p1), (.ref r1)])) rfl rfl (hb hby d3_6)
  have E2_r1 := E1.wr W2
  have F2_r1_k := F1.same W2
  have F2_r1_alpha := F2.other W2 (Or.inr (slot_ne (Or.inr (hw _ (List.mem_of_getElem? (i := 29) rfl))) (Or.inr (hw _ (List.mem_of_getElem? (i := 27) rfl))) (by decide) (t := .int) (t' := .int) (by decide) (by decide)))
  have F2_r1_l := F3.other W2 (Or.inr (slot_ne (Or.inr (hw _ (List.mem_of_getElem? (i := 31) rfl))) (Or.inr (hw _ (List.mem_of_getElem? (i := 27) rfl))) (by decide) (t := .int) (t' := .int) (by decide) (by decide)))
  have K2 : Keep h0 h2 [r1] := (Keep.refl h0 [r1]).wr W2 (Or.inl (List.mem_of_getElem? (i := 0) rfl))
  have N2 := Fr.snoc X2 N1 g1
  obtain ⟨T3, h3, X3, e3, W3, st3⟩ := putF X2 hx hZ hown (host := "") (Or.inl (hw _ (List.mem_of_getElem? (i := 28) rfl))) Via.refl e2 F2_r1_alpha E2_r1 (Or.inr ⟨(hw _ (List.mem_of_getElem? (i := 29) rfl)), rfl, hnm⟩) (hw _ (List.mem_of_getElem? (i := 13) rfl)) (ty := .int) (by decide) rfl rfl (g := (mkF m 11 #[.val (.ref r1), .val (.int p1), .val (.int p2), .val (.int p3)] [(.int p2), (.ref r1)])) rfl rfl (hb hby d3_11)
  have E3_r1 := E2_r1.wr W3
  have F3_r1_k := F2_r1_k.other W3 (Or.inr (slot_ne (Or.inr (hw _ (List.mem_of_getElem? (i := 27) rfl))) (Or.inr (hw _ (List.mem_of_getElem? (i := 29) rfl))) (by decide) (t := .int) (t' := .int) (by decide) (by decide)))
  have F3_r1_alpha := F2_r1_alpha.same W3
  have F3_r1_l := F2_r1_l.other W3 (Or.inr (slot_ne (Or.inr (hw _ (List.mem_of_getElem? (i := 31) rfl))) (Or.inr (hw _ (List.mem_of_getElem? (i := 29) rfl))) (by decide) (t := .int) (t' := .int) (by decide) (by decide)))
  have K3 : Keep h0 h3 [r1] := K2.wr W3 (Or.inl (List.mem_of_getElem? (i := 0) rfl))
  have N3 := Fr.snoc X3 N2 g1
  obtain ⟨T4, h4, X4, e4, W4, st4⟩ := putF X3 hx hZ hown (host := "") (Or.inl (hw _ (List.mem_of_getElem? (i := 30) rfl))) Via.refl e3 F3_r1_l E3_r1 (Or.inr ⟨(hw _ (List.mem_of_getElem? (i := 31) rfl)), rfl, hnm⟩) (hw _ (List.mem_of_getElem? (i := 13) rfl)) (ty := .int) (by decide) rfl rfl (g := (mkF m 16 #[.val (.ref r1), .val (.int p1), .val (.int p2), .val (.int p3)] [(.int p3), (.ref r1)])) rfl rfl (hb hby d3_16)
  have E4_r1 := E3_r1.wr W4
  have F4_r1_k := F3_r1_k.other W4 (Or.inr (slot_ne (Or.inr (hw _ (List.mem_of_getElem? (i := 27) rfl))) (Or.inr (hw _ (List.mem_of_getElem? (i := 31) rfl))) (by decide) (t := .int) (t' := .int) (by decide) (by decide)))
  have F4_r1_alpha := F3_r1_alpha.other W4 (Or.inr (slot_ne (Or.inr (hw _ (List.mem_of_getElem? (i := 29) rfl))) (Or.inr (hw _ (List.mem_of_getElem? (i := 31) rfl))) (by decide) (t := .int) (t' := .int) (by decide) (by decide)))
  have F4_r1_l := F3_r1_l.same W4
  have K4 : Keep h0 h4 [r1] := K3.wr W4 (Or.inl (List.mem_of_getElem? (i := 0) rfl))
  have N4 := Fr.snoc X4 N3 g1
  have pre5 : ∀ t, Steps p.tables e below (T4.setTop (mkF m 19 #[.val (.ref r1), .val (.int p1), .val (.int p2), .val (.int p3)] [])) t → Steps p.tables e below (s₁.setTop (entryFrame m #[(.ref r1), (.int p1), (.int p2), (.int p3)] 4)) t := fun t k => pre0 t (by
    show Steps p.tables e below (s₁.setTop (mkF m 0 #[.val (.ref r1), .val (.int p1), .val (.int p2), .val (.int p3)] [])) _
    refine XS.aloadN X0.here hx rfl (hb hby d3_0) rfl rfl ?_
    show Steps p.tables e below (s₁.setTop (mkF m 1 #[.val (.ref r1), .val (.int p1), .val (.int p2), .val (.int p3)] [(.ref r1)])) _
    refine st1.trans ?_
    show Steps p.tables e below (T1.setTop (mkF m 4 #[.val (.ref r1), .val (.int p1), .val (.int p2), .val (.int p3)] [])) _
    refine XS.aloadN X1.here hx rfl (hb hby d3_4) rfl rfl ?_
    show Steps p.tables e below (T1.setTop (mkF m 5 #[.val (.ref r1), .val (.int p1), .val (.int p2), .val (.int p3)] [(.ref r1)])) _
    refine XS.iloadN X1.here hx rfl (hb hby d3_5) rfl ?_
    show Steps p.tables e below (T1.setTop (mkF m 6 #[.val (.ref r1), .val (.int p1), .val (.int p2), .val (.int p3)] [(.int p1), (.ref r1)])) _
    refine st2 _ ?_
    show Steps p.tables e below (T2.setTop (mkF m 9 #[.val (.ref r1), .val (.int p1), .val (.int p2), .val (.int p3)] [])) _
    refine XS.aloadN X2.here hx rfl (hb hby d3_9) rfl rfl ?_
    show Steps p.tables e below (T2.setTop (mkF m 10 #[.val (.ref r1), .val (.int p1), .val (.int p2), .val (.int p3)] [(.ref r1)])) _
    refine XS.iloadN X2.here hx rfl (hb hby d3_10) rfl ?_
    show Steps p.tables e below (T2.setTop (mkF m 11 #[.val (.ref r1), .val (.int p1), .val (.int p2), .val (.int p3)] [(.int p2), (.ref r1)])) _
    refine st3 _ ?_
    show Steps p.tables e below (T3.setTop (mkF m 14 #[.val (.ref r1), .val (.int p1), .val (.int p2), .val (.int p3)] [])) _
    refine XS.aloadN X3.here hx rfl (hb hby d3_14) rfl rfl ?_
    show Steps p.tables e below (T3.setTop (mkF m 15 #[.val (.ref r1), .val (.int p1), .val (.int p2), .val (.int p3)] [(.ref r1)])) _
    refine XS.iloadN X3.here hx rfl (hb hby d3_15) rfl ?_
    show Steps p.tables e below (T3.setTop (mkF m 16 #[.val (.ref r1), .val (.int p1), .val (.int p2), .val (.int p3)] [(.int p3), (.ref r1)])) _
    refine st4 _ ?_
    exact k)
  obtain ⟨fs, hr, hrun, hended, hW, hsame⟩ := X4.leave (v := none) (fun _ => rfl)
  refine ⟨_, _, pre5 _ ?_, hrun, hended, _, _, rfl, ?_, ⟨_, rfl⟩, hW, hsame.mono (by decide) (by decide)⟩
  · show Steps p.tables e below (T4.setTop (mkF m 19 #[.val (.ref r1), .val (.int p1), .val (.int p2), .val (.int p3)] [])) _
    exact X4.returnOut hx Bd.returns (hb hby d3_19) hr
  · show Qinit Z r1 p1 p2 p3  h0 n0 _ T4.heap _
    rw [e4]
    exact ⟨rfl, N4, K4, E4_r1, F4_r1_alpha, F4_r1_l⟩
def own_mx (k : Int32) : Int32 := if k = (1 : Int32) then (999999999 : Int32) else if k = (2 : Int32) then (31622 : Int32) else if k = (3 : Int32) then (999 : Int32) else if k = (4 : Int32) then (177 : Int32) else if k = (5 : Int32) then (63 : Int32) else if k = (6 : Int32) then (31 : Int32) else if k = (7 : Int32) then (19 : Int32) else if k = (8 : Int32) then (13 : Int32) else if k = (9 : Int32) then (9 : Int32) else if k = (10 : Int32) then (7 : Int32) else if k = (11 : Int32) then (6 : Int32) else if k = (12 : Int32) then (5 : Int32) else if k = (13 : Int32) then (4 : Int32) else if k = (14 : Int32) then (4 : Int32) else if k = (15 : Int32) then (3 : Int32) else if k = (16 : Int32) then (3 : Int32) else if k = (17 : Int32) then (3 : Int32) else if k = (18 : Int32) then (3 : Int32) else if k = (19 : Int32) then (2 : Int32) else if k = (20 : Int32) then (2 : Int32) else if k = (21 : Int32) then (2 : Int32) else if k = (22 : Int32) then (2 : Int32) else if k = (23 : Int32) then (2 : Int32) else if k = (24 : Int32) then (2 : Int32) else if k = (25 : Int32) then (2 : Int32) else if k = (26 : Int32) then (2 : Int32) else if k = (27 : Int32) then (2 : Int32) else if k = (28 : Int32) then (2 : Int32) else if k = (29 : Int32) then (2 : Int32) else (0 : Int32)
def own_in (k : Int32) : Prop := k = (1 : Int32) ∨ k = (2 : Int32) ∨ k = (3 : Int32) ∨ k = (4 : Int32) ∨ k = (5 : Int32) ∨ k = (6 : Int32) ∨ k = (7 : Int32) ∨ k = (8 : Int32) ∨ k = (9 : Int32) ∨ k = (10 : Int32) ∨ k = (11 : Int32) ∨ k = (12 : Int32) ∨ k = (13 : Int32) ∨ k = (14 : Int32) ∨ k = (15 : Int32) ∨ k = (16 : Int32) ∨ k = (17 : Int32) ∨ k = (18 : Int32) ∨ k = (19 : Int32) ∨ k = (20 : Int32) ∨ k = (21 : Int32) ∨ k = (22 : Int32) ∨ k = (23 : Int32) ∨ k = (24 : Int32) ∨ k = (25 : Int32) ∨ k = (26 : Int32) ∨ k = (27 : Int32) ∨ k = (28 : Int32) ∨ k = (29 : Int32)
theorem own_inb {k : Int32} (h : own_in k) : ¬ k < (0 : Int32) ∧ k < (30 : Int32) := by
  rcases h with rfl | rfl | rfl | rfl | rfl | rfl | rfl | rfl | rfl | rfl | rfl | rfl | rfl | rfl | rfl | rfl | rfl | rfl | rfl | rfl | rfl | rfl | rfl | rfl | rfl | rfl | rfl | rfl | rfl <;> decide
theorem own_mxat {k : Int32} (h : own_in k) : ([(.int (0 : Int32)), (.int (999999999 : Int32)), (.int (31622 : Int32)), (.int (999 : Int32)), (.int (177 : Int32)), (.int (63 : Int32)), (.int (31 : Int32)), (.int (19 : Int32)), (.int (13 : Int32)), (.int (9 : Int32)), (.int (7 : Int32)), (.int (6 : Int32)), (.int (5 : Int32)), (.int (4 : Int32)), (.int (4 : Int32)), (.int (3 : Int32)), (.int (3 : Int32)), (.int (3 : Int32)), (.int (3 : Int32)), (.int (2 : Int32)), (.int (2 : Int32)), (.int (2 : Int32)), (.int (2 : Int32)), (.int (2 : Int32)), (.int (2 : Int32)), (.int (2 : Int32)), (.int (2 : Int32)), (.int (2 : Int32)), (.int (2 : Int32)), (.int (2 : Int32))] : List Value).getD k.toNatClampNeg (.int (0 : Int32)) = .int (own_mx k) := by
  rcases h with rfl | rfl | rfl | rfl | rfl | rfl | rfl | rfl | rfl | rfl | rfl | rfl | rfl | rfl | rfl | rfl | rfl | rfl | rfl | rfl | rfl | rfl | rfl | rfl | rfl | rfl | rfl | rfl | rfl <;> rfl
theorem own_mxb {k : Int32} (h : own_in k) : 2 ≤ (own_mx k).toInt ∧ (own_mx k).toInt ≤ 999999999 := by
  rcases h with rfl | rfl | rfl | rfl | rfl | rfl | rfl | rfl | rfl | rfl | rfl | rfl | rfl | rfl | rfl | rfl | rfl | rfl | rfl | rfl | rfl | rfl | rfl | rfl | rfl | rfl | rfl | rfl | rfl <;> decide
theorem own_cases (k : Int32) : ((k &&& (2147483647 : Int32)) % (29 : Int32)) = (0 : Int32) ∨ ((k &&& (2147483647 : Int32)) % (29 : Int32)) = (1 : Int32) ∨ ((k &&& (2147483647 : Int32)) % (29 : Int32)) = (2 : Int32) ∨ ((k &&& (2147483647 : Int32)) % (29 : Int32)) = (3 : Int32) ∨ ((k &&& (2147483647 : Int32)) % (29 : Int32)) = (4 : Int32) ∨ ((k &&& (2147483647 : Int32)) % (29 : Int32)) = (5 : Int32) ∨ ((k &&& (2147483647 : Int32)) % (29 : Int32)) = (6 : Int32) ∨ ((k &&& (2147483647 : Int32)) % (29 : Int32)) = (7 : Int32) ∨ ((k &&& (2147483647 : Int32)) % (29 : Int32)) = (8 : Int32) ∨ ((k &&& (2147483647 : Int32)) % (29 : Int32)) = (9 : Int32) ∨ ((k &&& (2147483647 : Int32)) % (29 : Int32)) = (10 : Int32) ∨ ((k &&& (2147483647 : Int32)) % (29 : Int32)) = (11 : Int32) ∨ ((k &&& (2147483647 : Int32)) % (29 : Int32)) = (12 : Int32) ∨ ((k &&& (2147483647 : Int32)) % (29 : Int32)) = (13 : Int32) ∨ ((k &&& (2147483647 : Int32)) % (29 : Int32)) = (14 : Int32) ∨ ((k &&& (2147483647 : Int32)) % (29 : Int32)) = (15 : Int32) ∨ ((k &&& (2147483647 : Int32)) % (29 : Int32)) = (16 : Int32) ∨ ((k &&& (2147483647 : Int32)) % (29 : Int32)) = (17 : Int32) ∨ ((k &&& (2147483647 : Int32)) % (29 : Int32)) = (18 : Int32) ∨ ((k &&& (2147483647 : Int32)) % (29 : Int32)) = (19 : Int32) ∨ ((k &&& (2147483647 : Int32)) % (29 : Int32)) = (20 : Int32) ∨ ((k &&& (2147483647 : Int32)) % (29 : Int32)) = (21 : Int32) ∨ ((k &&& (2147483647 : Int32)) % (29 : Int32)) = (22 : Int32) ∨ ((k &&& (2147483647 : Int32)) % (29 : Int32)) = (23 : Int32) ∨ ((k &&& (2147483647 : Int32)) % (29 : Int32)) = (24 : Int32) ∨ ((k &&& (2147483647 : Int32)) % (29 : Int32)) = (25 : Int32) ∨ ((k &&& (2147483647 : Int32)) % (29 : Int32)) = (26 : Int32) ∨ ((k &&& (2147483647 : Int32)) % (29 : Int32)) = (27 : Int32) ∨ ((k &&& (2147483647 : Int32)) % (29 : Int32)) = (28 : Int32) := by
  have e1 := c_mask k (2147483647 : Int32) 31 (by decide) (by decide)
  have e2 := (c_irem (k &&& (2147483647 : Int32)) (29 : Int32) 29 (by decide)).1 (by omega)
  generalize (k &&& (2147483647 : Int32)) % (29 : Int32) = z at *
  have h : z.toInt = 0 ∨ z.toInt = 1 ∨ z.toInt = 2 ∨ z.toInt = 3 ∨ z.toInt = 4 ∨ z.toInt = 5 ∨ z.toInt = 6 ∨ z.toInt = 7 ∨ z.toInt = 8 ∨ z.toInt = 9 ∨ z.toInt = 10 ∨ z.toInt = 11 ∨ z.toInt = 12 ∨ z.toInt = 13 ∨ z.toInt = 14 ∨ z.toInt = 15 ∨ z.toInt = 16 ∨ z.toInt = 17 ∨ z.toInt = 18 ∨ z.toInt = 19 ∨ z.toInt = 20 ∨ z.toInt = 21 ∨ z.toInt = 22 ∨ z.toInt = 23 ∨ z.toInt = 24 ∨ z.toInt = 25 ∨ z.toInt = 26 ∨ z.toInt = 27 ∨ z.toInt = 28 := by omega
  rcases h with h | h | h | h | h | h | h | h | h | h | h | h | h | h | h | h | h | h | h | h | h | h | h | h | h | h | h | h | h
  · exact Or.inl (Int32.toInt_inj.mp (h.trans (by decide : (0 : Int) = (0 : Int32).toInt)))
  · exact Or.inr (Or.inl (Int32.toInt_inj.mp (h.trans (by decide : (1 : Int) = (1 : Int32).toInt))))
  · exact Or.inr (Or.inr (Or.inl (Int32.toInt_inj.mp (h.trans (by decide : (2 : Int) = (2 : Int32).toInt)))))
  · exact Or.inr (Or.inr (Or.inr (Or.inl (Int32.toInt_inj.mp (h.trans (by decide : (3 : Int) = (3 : Int32).toInt))))))
  · exact Or.inr (Or.inr (Or.inr (Or.inr (Or.inl (Int32.toInt_inj.mp (h.trans (by decide : (4 : Int) = (4 : Int32).toInt)))))))
  · exact Or.inr (Or.inr (Or.inr (Or.inr (Or.inr (Or.inl (Int32.toInt_inj.mp (h.trans (by decide : (5 : Int) = (5 : Int32).toInt))))))))
  · exact Or.inr (Or.inr (Or.inr (Or.inr (Or.inr (Or.inr (Or.inl (Int32.toInt_inj.mp (h.trans (by decide : (6 : Int) = (6 : Int32).toInt)))))))))
  · exact Or.inr (Or.inr (Or.inr (Or.inr (Or.inr (Or.inr (Or.inr (Or.inl (Int32.toInt_inj.mp (h.trans (by decide : (7 : Int) = (7 : Int32).toInt))))))))))
  · exact Or.inr (Or.inr (Or.inr (Or.inr (Or.inr (Or.inr (Or.inr (Or.inr (Or.inl (Int32.toInt_inj.mp (h.trans (by decide : (8 : Int) = (8 : Int32).toInt)))))))))))
  · exact Or.inr (Or.inr (Or.inr (Or.inr (Or.inr (Or.inr (Or.inr (Or.inr (Or.inr (Or.inl (Int32.toInt_inj.mp (h.trans (by decide : (9 : Int) = (9 : Int32).toInt))))))))))))
  · exact Or.inr (Or.inr (Or.inr (Or.inr (Or.inr (Or.inr (Or.inr (Or.inr (Or.inr (Or.inr (Or.inl (Int32.toInt_inj.mp (h.trans (by decide : (10 : Int) = (10 : Int32).toInt)))))))))))))
  · exact Or.inr (Or.inr (Or.inr (Or.inr (Or.inr (Or.inr (Or.inr (Or.inr (Or.inr (Or.inr (Or.inr (Or.inl (Int32.toInt_inj.mp (h.trans (by decide : (11 : Int) = (11 : Int32).toInt))))))))))))))
  · exact Or.inr (Or.inr (Or.inr (Or.inr (Or.inr (Or.inr (Or.inr (Or.inr (Or.inr (Or.inr (Or.inr (Or.inr (Or.inl (Int32.toInt_inj.mp (h.trans (by decide : (12 : Int) = (12 : Int32).toInt)))))))))))))))
  · exact Or.inr (Or.inr (Or.inr (Or.inr (Or.inr (Or.inr (Or.inr (Or.inr (Or.inr (Or.inr (Or.inr (Or.inr (Or.inr (Or.inl (Int32.toInt_inj.mp (h.trans (by decide : (13 : Int) = (13 : Int32).toInt))))))))))))))))
  · exact Or.inr (Or.inr (Or.inr (Or.inr (Or.inr (Or.inr (Or.inr (Or.inr (Or.inr (Or.inr (Or.inr (Or.inr (Or.inr (Or.inr (Or.inl (Int32.toInt_inj.mp (h.trans (by decide : (14 : Int) = (14 : Int32).toInt)))))))))))))))))
  · exact Or.inr (Or.inr (Or.inr (Or.inr (Or.inr (Or.inr (Or.inr (Or.inr (Or.inr (Or.inr (Or.inr (Or.inr (Or.inr (Or.inr (Or.inr (Or.inl (Int32.toInt_inj.mp (h.trans (by decide : (15 : Int) = (15 : Int32).toInt))))))))))))))))))
  · exact Or.inr (Or.inr (Or.inr (Or.inr (Or.inr (Or.inr (Or.inr (Or.inr (Or.inr (Or.inr (Or.inr (Or.inr (Or.inr (Or.inr (Or.inr (Or.inr (Or.inl (Int32.toInt_inj.mp (h.trans (by decide : (16 : Int) = (16 : Int32).toInt)))))))))))))))))))
  · exact Or.inr (Or.inr (Or.inr (Or.inr (Or.inr (Or.inr (Or.inr (Or.inr (Or.inr (Or.inr (Or.inr (Or.inr (Or.inr (Or.inr (Or.inr (Or.inr (Or.inr (Or.inl (Int32.toInt_inj.mp (h.trans (by decide : (17 : Int) = (17 : Int32).toInt))))))))))))))))))))
  · exact Or.inr (Or.inr (Or.inr (Or.inr (Or.inr (Or.inr (Or.inr (Or.inr (Or.inr (Or.inr (Or.inr (Or.inr (Or.inr (Or.inr (Or.inr (Or.inr (Or.inr (Or.inr (Or.inl (Int32.toInt_inj.mp (h.trans (by decide : (18 : Int) = (18 : Int32).toInt)))))))))))))))))))))
  · exact Or.inr (Or.inr (Or.inr (Or.inr (Or.inr (Or.inr (Or.inr (Or.inr (Or.inr (Or.inr (Or.inr (Or.inr (Or.inr (Or.inr (Or.inr (Or.inr (Or.inr (Or.inr (Or.inr (Or.inl (Int32.toInt_inj.mp (h.trans (by decide : (19 : Int) = (19 : Int32).toInt))))))))))))))))))))))
  · exact Or.inr (Or.inr (Or.inr (Or.inr (Or.inr (Or.inr (Or.inr (Or.inr (Or.inr (Or.inr (Or.inr (Or.inr (Or.inr (Or.inr (Or.inr (Or.inr (Or.inr (Or.inr (Or.inr (Or.inr (Or.inl (Int32.toInt_inj.mp (h.trans (by decide : (20 : Int) = (20 : Int32).toInt)))))))))))))))))))))))
  · exact Or.inr (Or.inr (Or.inr (Or.inr (Or.inr (Or.inr (Or.inr (Or.inr (Or.inr (Or.inr (Or.inr (Or.inr (Or.inr (Or.inr (Or.inr (Or.inr (Or.inr (Or.inr (Or.inr (Or.inr (Or.inr (Or.inl (Int32.toInt_inj.mp (h.trans (by decide : (21 : Int) = (21 : Int32).toInt))))))))))))))))))))))))
  · exact Or.inr (Or.inr (Or.inr (Or.inr (Or.inr (Or.inr (Or.inr (Or.inr (Or.inr (Or.inr (Or.inr (Or.inr (Or.inr (Or.inr (Or.inr (Or.inr (Or.inr (Or.inr (Or.inr (Or.inr (Or.inr (Or.inr (Or.inl (Int32.toInt_inj.mp (h.trans (by decide : (22 : Int) = (22 : Int32).toInt)))))))))))))))))))))))))
  · exact Or.inr (Or.inr (Or.inr (Or.inr (Or.inr (Or.inr (Or.inr (Or.inr (Or.inr (Or.inr (Or.inr (Or.inr (Or.inr (Or.inr (Or.inr (Or.inr (Or.inr (Or.inr (Or.inr (Or.inr (Or.inr (Or.inr (Or.inr (Or.inl (Int32.toInt_inj.mp (h.trans (by decide : (23 : Int) = (23 : Int32).toInt))))))))))))))))))))))))))
  · exact Or.inr (Or.inr (Or.inr (Or.inr (Or.inr (Or.inr (Or.inr (Or.inr (Or.inr (Or.inr (Or.inr (Or.inr (Or.inr (Or.inr (Or.inr (Or.inr (Or.inr (Or.inr (Or.inr (Or.inr (Or.inr (Or.inr (Or.inr (Or.inr (Or.inl (Int32.toInt_inj.mp (h.trans (by decide : (24 : Int) = (24 : Int32).toInt)))))))))))))))))))))))))))
  · exact Or.inr (Or.inr (Or.inr (Or.inr (Or.inr (Or.inr (Or.inr (Or.inr (Or.inr (Or.inr (Or.inr (Or.inr (Or.inr (Or.inr (Or.inr (Or.inr (Or.inr (Or.inr (Or.inr (Or.inr (Or.inr (Or.inr (Or.inr (Or.inr (Or.inr (Or.inl (Int32.toInt_inj.mp (h.trans (by decide : (25 : Int) = (25 : Int32).toInt))))))))))))))))))))))))))))
  · exact Or.inr (Or.inr (Or.inr (Or.inr (Or.inr (Or.inr (Or.inr (Or.inr (Or.inr (Or.inr (Or.inr (Or.inr (Or.inr (Or.inr (Or.inr (Or.inr (Or.inr (Or.inr (Or.inr (Or.inr (Or.inr (Or.inr (Or.inr (Or.inr (Or.inr (Or.inr (Or.inl (Int32.toInt_inj.mp (h.trans (by decide : (26 : Int) = (26 : Int32).toInt)))))))))))))))))))))))))))))
  · exact Or.inr (Or.inr (Or.inr (Or.inr (Or.inr (Or.inr (Or.inr (Or.inr (Or.inr (Or.inr (Or.inr (Or.inr (Or.inr (Or.inr (Or.inr (Or.inr (Or.inr (Or.inr (Or.inr (Or.inr (Or.inr (Or.inr (Or.inr (Or.inr (Or.inr (Or.inr (Or.inr (Or.inl (Int32.toInt_inj.mp (h.trans (by decide : (27 : Int) = (27 : Int32).toInt))))))))))))))))))))))))))))))
  · exact Or.inr (Or.inr (Or.inr (Or.inr (Or.inr (Or.inr (Or.inr (Or.inr (Or.inr (Or.inr (Or.inr (Or.inr (Or.inr (Or.inr (Or.inr (Or.inr (Or.inr (Or.inr (Or.inr (Or.inr (Or.inr (Or.inr (Or.inr (Or.inr (Or.inr (Or.inr (Or.inr (Or.inr ((Int32.toInt_inj.mp (h.trans (by decide : (28 : Int) = (28 : Int32).toInt)))))))))))))))))))))))))))))))
theorem own_ex (p : Int32) : ∃ z, z = ((1 : Int32) + ((p &&& (2147483647 : Int32)) % (29 : Int32))) ∧ own_in z := by
  refine ⟨_, rfl, ?_⟩
  rcases own_cases p with h | h | h | h | h | h | h | h | h | h | h | h | h | h | h | h | h | h | h | h | h | h | h | h | h | h | h | h | h <;> rw [h] <;> (unfold own_in; decide)
theorem own_nz {k : Int32} (h : own_in k) : (own_mx k - (1 : Int32)) ≠ 0 := by
  have b := own_mxb h
  have e := c_isub (own_mx k) 1
  have r := rng32 (own_mx k - 1)
  have o1 : (1 : Int32).toInt = 1 := by decide
  have o0 : (0 : Int32).toInt = 0 := by decide
  intro q
  rw [q] at e; omega
theorem own_alb {k : Int32} (x : Int32) (h : own_in k) : 2 ≤ ((2 : Int32) + ((x &&& (2147483647 : Int32)) % (own_mx k - (1 : Int32)))).toInt ∧ ((2 : Int32) + ((x &&& (2147483647 : Int32)) % (own_mx k - (1 : Int32)))).toInt ≤ 999999999 := by
  have b := own_mxb h
  have e := c_isub (own_mx k) 1
  have r := rng32 (own_mx k - 1)
  have o1 : (1 : Int32).toInt = 1 := by decide
  have o2 : (2 : Int32).toInt = 2 := by decide
  have e1 := c_mask x (2147483647 : Int32) 31 (by decide) (by decide)
  have e2 := (c_iremV (x &&& (2147483647 : Int32)) (own_mx k - 1)).1 (by omega) (by omega)
  have e3 := c_iadd 2 ((x &&& (2147483647 : Int32)) % (own_mx k - 1))
  have r3 := rng32 (2 + ((x &&& (2147483647 : Int32)) % (own_mx k - 1)))
  generalize (x &&& (2147483647 : Int32)) % (own_mx k - 1) = z at *
  generalize (x &&& (2147483647 : Int32)) = y at *
  omega
def own_M (x : Nat) : Nat := min x 1000000000
theorem own_key {x y : Nat} (hx : 1 ≤ x) (hy : 1 ≤ y) : own_M (own_M x * own_M y) = own_M (x * y) := by
  have a1 : 1 * y ≤ x * y := Nat.mul_le_mul hx (Nat.le_refl y)
  have a2 : x * 1 ≤ x * y := Nat.mul_le_mul (Nat.le_refl x) hy
  unfold own_M
  by_cases h1 : x ≤ 1000000000
  · by_cases h2 : y ≤ 1000000000
    · rw [Nat.min_eq_left h1, Nat.min_eq_left h2]
    · have e2 : min y 1000000000 = 1000000000 := by omega
      have b : 1 * 1000000000 ≤ min x 1000000000 * 1000000000 := Nat.mul_le_mul (by omega) (Nat.le_refl _)
      rw [e2]; omega
  · have e1 : min x 1000000000 = 1000000000 := by omega
    have b : 1000000000 * 1 ≤ 1000000000 * min y 1000000000 := Nat.mul_le_mul (Nat.le_refl _) (by omega)
    rw [e1]; omega
theorem own_step {r p : Int64} {x y : Nat} (hr : r.toInt = ((own_M x : Nat) : Int)) (hp : p.toInt = ((own_M y : Nat) : Int)) (hx : 1 ≤ x) (hy : 1 ≤ y) : (own_mul r p).toInt = ((own_M (x * y) : Nat) : Int) := by
  have bx : 1 ≤ own_M x ∧ own_M x ≤ 1000000000 := by unfold own_M; omega
  have b2 : 1 ≤ own_M y ∧ own_M y ≤ 1000000000 := by unfold own_M; omega
  have hb : own_M x * own_M y ≤ 1000000000 * 1000000000 := Nat.mul_le_mul bx.2 b2.2
  have e0 : r.toInt * p.toInt = ((own_M x * own_M y : Nat) : Int) := by rw [hr, hp]; exact (Int.natCast_mul _ _).symm
  have e : (r * p).toInt = ((own_M x * own_M y : Nat) : Int) := (XT.mul64 (by rw [e0]; exact ⟨by omega, by omega⟩)).trans e0
  have hC : (1000000000 : Int64).toInt = 1000000000 := by decide
  rw [← own_key hx hy]
  by_cases h : (1000000000 : Int64) < r * p
  · simp only [own_mul, if_pos h]
    rw [Int64.lt_iff_toInt_lt, hC, e] at h
    rw [hC]
    generalize own_M x * own_M y = z at *
    unfold own_M; omega
  · simp only [own_mul, if_neg h]
    rw [Int64.lt_iff_toInt_lt, hC, e] at h
    rw [e]
    generalize own_M x * own_M y = z at *
    unfold own_M; omega
theorem own_pst {r p : Int64} {A i j : Nat} (hr : r.toInt = ((own_M (A ^ i) : Nat) : Int)) (hp : p.toInt = ((own_M (A ^ j) : Nat) : Int)) (h1 : 1 ≤ A) : (own_mul r p).toInt = ((own_M (A ^ (i + j)) : Nat) : Int) := by
  rw [Nat.pow_add]; exact own_step hr hp (Nat.pow_pos h1) (Nat.pow_pos h1)
theorem own_v1 {a : Int64} {A : Nat} (ha : a.toInt = (A : Int)) (h1 : 1 ≤ A) (h2 : A ≤ 1000000000) : (own_r5 a (1 : Int32)).toInt = ((own_M (A ^ 1) : Nat) : Int) := by
  have p1 : a.toInt = ((own_M (A ^ 1) : Nat) : Int) := by rw [Nat.pow_one, ha]; unfold own_M; omega
  have p0 : (1 : Int64).toInt = ((own_M (A ^ 0) : Nat) : Int) := by rw [Nat.pow_zero]; rfl
  have p2 : (own_mul a a).toInt = ((own_M (A ^ 2) : Nat) : Int) := own_pst p1 p1 h1
  have p4 : (own_p4 a).toInt = ((own_M (A ^ 4) : Nat) : Int) := own_pst p2 p2 h1
  have p8 : (own_p8 a).toInt = ((own_M (A ^ 8) : Nat) : Int) := own_pst p4 p4 h1
  have p16 : (own_p16 a).toInt = ((own_M (A ^ 16) : Nat) : Int) := own_pst p8 p8 h1
  simp only [own_r5, own_r4, own_r3, own_r2, own_r1, if_pos (by decide : (((1 : Int32) &&& (16 : Int32)) = (0 : Int32))), if_pos (by decide : (((1 : Int32) &&& (8 : Int32)) = (0 : Int32))), if_pos (by decide : (((1 : Int32) &&& (4 : Int32)) = (0 : Int32))), if_pos (by decide : (((1 : Int32) &&& (2 : Int32)) = (0 : Int32))), if_neg (by decide : ¬ (((1 : Int32) &&& (1 : Int32)) = (0 : Int32)))]
  exact own_pst p0 p1 h1
theorem own_v2 {a : Int64} {A : Nat} (ha : a.toInt = (A : Int)) (h1 : 1 ≤ A) (h2 : A ≤ 1000000000) : (own_r5 a (2 : Int32)).toInt = ((own_M (A ^ 2) : Nat) : Int) := by
  have p1 : a.toInt = ((own_M (A ^ 1) : Nat) : Int) := by rw [Nat.pow_one, ha]; unfold own_M; omega
  have p0 : (1 : Int64).toInt = ((own_M (A ^ 0) : Nat) : Int) := by rw [Nat.pow_zero]; rfl
  have p2 : (own_mul a a).toInt = ((own_M (A ^ 2) : Nat) : Int) := own_pst p1 p1 h1
  have p4 : (own_p4 a).toInt = ((own_M (A ^ 4) : Nat) : Int) := own_pst p2 p2 h1
  have p8 : (own_p8 a).toInt = ((own_M (A ^ 8) : Nat) : Int) := own_pst p4 p4 h1
  have p16 : (own_p16 a).toInt = ((own_M (A ^ 16) : Nat) : Int) := own_pst p8 p8 h1
  simp only [own_r5, own_r4, own_r3, own_r2, own_r1, if_pos (by decide : (((2 : Int32) &&& (16 : Int32)) = (0 : Int32))), if_pos (by decide : (((2 : Int32) &&& (8 : Int32)) = (0 : Int32))), if_pos (by decide : (((2 : Int32) &&& (4 : Int32)) = (0 : Int32))), if_neg (by decide : ¬ (((2 : Int32) &&& (2 : Int32)) = (0 : Int32))), if_pos (by decide : (((2 : Int32) &&& (1 : Int32)) = (0 : Int32)))]
  exact own_pst p0 p2 h1
theorem own_v3 {a : Int64} {A : Nat} (ha : a.toInt = (A : Int)) (h1 : 1 ≤ A) (h2 : A ≤ 1000000000) : (own_r5 a (3 : Int32)).toInt = ((own_M (A ^ 3) : Nat) : Int) := by
  have p1 : a.toInt = ((own_M (A ^ 1) : Nat) : Int) := by rw [Nat.pow_one, ha]; unfold own_M; omega
  have p0 : (1 : Int64).toInt = ((own_M (A ^ 0) : Nat) : Int) := by rw [Nat.pow_zero]; rfl
  have p2 : (own_mul a a).toInt = ((own_M (A ^ 2) : Nat) : Int) := own_pst p1 p1 h1
  have p4 : (own_p4 a).toInt = ((own_M (A ^ 4) : Nat) : Int) := own_pst p2 p2 h1
  have p8 : (own_p8 a).toInt = ((own_M (A ^ 8) : Nat) : Int) := own_pst p4 p4 h1
  have p16 : (own_p16 a).toInt = ((own_M (A ^ 16) : Nat) : Int) := own_pst p8 p8 h1
  simp only [own_r5, own_r4, own_r3, own_r2, own_r1, if_pos (by decide : (((3 : Int32) &&& (16 : Int32)) = (0 : Int32))), if_pos (by decide : (((3 : Int32) &&& (8 : Int32)) = (0 : Int32))), if_pos (by decide : (((3 : Int32) &&& (4 : Int32)) = (0 : Int32))), if_neg (by decide : ¬ (((3 : Int32) &&& (2 : Int32)) = (0 : Int32))), if_neg (by decide : ¬ (((3 : Int32) &&& (1 : Int32)) = (0 : Int32)))]
  exact own_pst (own_pst p0 p1 h1) p2 h1
theorem own_v4 {a : Int64} {A : Nat} (ha : a.toInt = (A : Int)) (h1 : 1 ≤ A) (h2 : A ≤ 1000000000) : (own_r5 a (4 : Int32)).toInt = ((own_M (A ^ 4) : Nat) : Int) := by
  have p1 : a.toInt = ((own_M (A ^ 1) : Nat) : Int) := by rw [Nat.pow_one, ha]; unfold own_M; omega
  have p0 : (1 : Int64).toInt = ((own_M (A ^ 0) : Nat) : Int) := by rw [Nat.pow_zero]; rfl
  have p2 : (own_mul a a).toInt = ((own_M (A ^ 2) : Nat) : Int) := own_pst p1 p1 h1
  have p4 : (own_p4 a).toInt = ((own_M (A ^ 4) : Nat) : Int) := own_pst p2 p2 h1
  have p8 : (own_p8 a).toInt = ((own_M (A ^ 8) : Nat) : Int) := own_pst p4 p4 h1
  have p16 : (own_p16 a).toInt = ((own_M (A ^ 16) : Nat) : Int) := own_pst p8 p8 h1
  simp only [own_r5, own_r4, own_r3, own_r2, own_r1, if_pos (by decide : (((4 : Int32) &&& (16 : Int32)) = (0 : Int32))), if_pos (by decide : (((4 : Int32) &&& (8 : Int32)) = (0 : Int32))), if_neg (by decide : ¬ (((4 : Int32) &&& (4 : Int32)) = (0 : Int32))), if_pos (by decide : (((4 : Int32) &&& (2 : Int32)) = (0 : Int32))), if_pos (by decide : (((4 : Int32) &&& (1 : Int32)) = (0 : Int32)))]
  exact own_pst p0 p4 h1
theorem own_v5 {a : Int64} {A : Nat} (ha : a.toInt = (A : Int)) (h1 : 1 ≤ A) (h2 : A ≤ 1000000000) : (own_r5 a (5 : Int32)).toInt = ((own_M (A ^ 5) : Nat) : Int) := by
  have p1 : a.toInt = ((own_M (A ^ 1) : Nat) : Int) := by rw [Nat.pow_one, ha]; unfold own_M; omega
  have p0 : (1 : Int64).toInt = ((own_M (A ^ 0) : Nat) : Int) := by rw [Nat.pow_zero]; rfl
  have p2 : (own_mul a a).toInt = ((own_M (A ^ 2) : Nat) : Int) := own_pst p1 p1 h1
  have p4 : (own_p4 a).toInt = ((own_M (A ^ 4) : Nat) : Int) := own_pst p2 p2 h1
  have p8 : (own_p8 a).toInt = ((own_M (A ^ 8) : Nat) : Int) := own_pst p4 p4 h1
  have p16 : (own_p16 a).toInt = ((own_M (A ^ 16) : Nat) : Int) := own_pst p8 p8 h1
  simp only [own_r5, own_r4, own_r3, own_r2, own_r1, if_pos (by decide : (((5 : Int32) &&& (16 : Int32)) = (0 : Int32))), if_pos (by decide : (((5 : Int32) &&& (8 : Int32)) = (0 : Int32))), if_neg (by decide : ¬ (((5 : Int32) &&& (4 : Int32)) = (0 : Int32))), if_pos (by decide : (((5 : Int32) &&& (2 : Int32)) = (0 : Int32))), if_neg (by decide : ¬ (((5 : Int32) &&& (1 : Int32)) = (0 : Int32)))]
  exact own_pst (own_pst p0 p1 h1) p4 h1
theorem own_v6 {a : Int64} {A : Nat} (ha : a.toInt = (A : Int)) (h1 : 1 ≤ A) (h2 : A ≤ 1000000000) : (own_r5 a (6 : Int32)).toInt = ((own_M (A ^ 6) : Nat) : Int) := by
  have p1 : a.toInt = ((own_M (A ^ 1) : Nat) : Int) := by rw [Nat.pow_one, ha]; unfold own_M; omega
  have p0 : (1 : Int64).toInt = ((own_M (A ^ 0) : Nat) : Int) := by rw [Nat.pow_zero]; rfl
  have p2 : (own_mul a a).toInt = ((own_M (A ^ 2) : Nat) : Int) := own_pst p1 p1 h1
  have p4 : (own_p4 a).toInt = ((own_M (A ^ 4) : Nat) : Int) := own_pst p2 p2 h1
  have p8 : (own_p8 a).toInt = ((own_M (A ^ 8) : Nat) : Int) := own_pst p4 p4 h1
  have p16 : (own_p16 a).toInt = ((own_M (A ^ 16) : Nat) : Int) := own_pst p8 p8 h1
  simp only [own_r5, own_r4, own_r3, own_r2, own_r1, if_pos (by decide : (((6 : Int32) &&& (16 : Int32)) = (0 : Int32))), if_pos (by decide : (((6 : Int32) &&& (8 : Int32)) = (0 : Int32))), if_neg (by decide : ¬ (((6 : Int32) &&& (4 : Int32)) = (0 : Int32))), if_neg (by decide : ¬ (((6 : Int32) &&& (2 : Int32)) = (0 : Int32))), if_pos (by decide : (((6 : Int32) &&& (1 : Int32)) = (0 : Int32)))]
  exact own_pst (own_pst p0 p2 h1) p4 h1
theorem own_v7 {a : Int64} {A : Nat} (ha : a.toInt = (A : Int)) (h1 : 1 ≤ A) (h2 : A ≤ 1000000000) : (own_r5 a (7 : Int32)).toInt = ((own_M (A ^ 7) : Nat) : Int) := by
  have p1 : a.toInt = ((own_M (A ^ 1) : Nat) : Int) := by rw [Nat.pow_one, ha]; unfold own_M; omega
  have p0 : (1 : Int64).toInt = ((own_M (A ^ 0) : Nat) : Int) := by rw [Nat.pow_zero]; rfl
  have p2 : (own_mul a a).toInt = ((own_M (A ^ 2) : Nat) : Int) := own_pst p1 p1 h1
  have p4 : (own_p4 a).toInt = ((own_M (A ^ 4) : Nat) : Int) := own_pst p2 p2 h1
  have p8 : (own_p8 a).toInt = ((own_M (A ^ 8) : Nat) : Int) := own_pst p4 p4 h1
  have p16 : (own_p16 a).toInt = ((own_M (A ^ 16) : Nat) : Int) := own_pst p8 p8 h1
  simp only [own_r5, own_r4, own_r3, own_r2, own_r1, if_pos (by decide : (((7 : Int32) &&& (16 : Int32)) = (0 : Int32))), if_pos (by decide : (((7 : Int32) &&& (8 : Int32)) = (0 : Int32))), if_neg (by decide : ¬ (((7 : Int32) &&& (4 : Int32)) = (0 : Int32))), if_neg (by decide : ¬ (((7 : Int32) &&& (2 : Int32)) = (0 : Int32))), if_neg (by decide : ¬ (((7 : Int32) &&& (1 : Int32)) = (0 : Int32)))]
  exact own_pst (own_pst (own_pst p0 p1 h1) p2 h1) p4 h1
theorem own_v8 {a : Int64} {A : Nat} (ha : a.toInt = (A : Int)) (h1 : 1 ≤ A) (h2 : A ≤ 1000000000) : (own_r5 a (8 : Int32)).toInt = ((own_M (A ^ 8) : Nat) : Int) := by
  have p1 : a.toInt = ((own_M (A ^ 1) : Nat) : Int) := by rw [Nat.pow_one, ha]; unfold own_M; omega
  have p0 : (1 : Int64).toInt = ((own_M (A ^ 0) : Nat) : Int) := by rw [Nat.pow_zero]; rfl
  have p2 : (own_mul a a).toInt = ((own_M (A ^ 2) : Nat) : Int) := own_pst p1 p1 h1
  have p4 : (own_p4 a).toInt = ((own_M (A ^ 4) : Nat) : Int) := own_pst p2 p2 h1
  have p8 : (own_p8 a).toInt = ((own_M (A ^ 8) : Nat) : Int) := own_pst p4 p4 h1
  have p16 : (own_p16 a).toInt = ((own_M (A ^ 16) : Nat) : Int) := own_pst p8 p8 h1
  simp only [own_r5, own_r4, own_r3, own_r2, own_r1, if_pos (by decide : (((8 : Int32) &&& (16 : Int32)) = (0 : Int32))), if_neg (by decide : ¬ (((8 : Int32) &&& (8 : Int32)) = (0 : Int32))), if_pos (by decide : (((8 : Int32) &&& (4 : Int32)) = (0 : Int32))), if_pos (by decide : (((8 : Int32) &&& (2 : Int32)) = (0 : Int32))), if_pos (by decide : (((8 : Int32) &&& (1 : Int32)) = (0 : Int32)))]
  exact own_pst p0 p8 h1
theorem own_v9 {a : Int64} {A : Nat} (ha : a.toInt = (A : Int)) (h1 : 1 ≤ A) (h2 : A ≤ 1000000000) : (own_r5 a (9 : Int32)).toInt = ((own_M (A ^ 9) : Nat) : Int) := by
  have p1 : a.toInt = ((own_M (A ^ 1) : Nat) : Int) := by rw [Nat.pow_one, ha]; unfold own_M; omega
  have p0 : (1 : Int64).toInt = ((own_M (A ^ 0) : Nat) : Int) := by rw [Nat.pow_zero]; rfl
  have p2 : (own_mul a a).toInt = ((own_M (A ^ 2) : Nat) : Int) := own_pst p1 p1 h1
  have p4 : (own_p4 a).toInt = ((own_M (A ^ 4) : Nat) : Int) := own_pst p2 p2 h1
  have p8 : (own_p8 a).toInt = ((own_M (A ^ 8) : Nat) : Int) := own_pst p4 p4 h1
  have p16 : (own_p16 a).toInt = ((own_M (A ^ 16) : Nat) : Int) := own_pst p8 p8 h1
  simp only [own_r5, own_r4, own_r3, own_r2, own_r1, if_pos (by decide : (((9 : Int32) &&& (16 : Int32)) = (0 : Int32))), if_neg (by decide : ¬ (((9 : Int32) &&& (8 : Int32)) = (0 : Int32))), if_pos (by decide : (((9 : Int32) &&& (4 : Int32)) = (0 : Int32))), if_pos (by decide : (((9 : Int32) &&& (2 : Int32)) = (0 : Int32))), if_neg (by decide : ¬ (((9 : Int32) &&& (1 : Int32)) = (0 : Int32)))]
  exact own_pst (own_pst p0 p1 h1) p8 h1
theorem own_v10 {a : Int64} {A : Nat} (ha : a.toInt = (A : Int)) (h1 : 1 ≤ A) (h2 : A ≤ 1000000000) : (own_r5 a (10 : Int32)).toInt = ((own_M (A ^ 10) : Nat) : Int) := by
  have p1 : a.toInt = ((own_M (A ^ 1) : Nat) : Int) := by rw [Nat.pow_one, ha]; unfold own_M; omega
  have p0 : (1 : Int64).toInt = ((own_M (A ^ 0) : Nat) : Int) := by rw [Nat.pow_zero]; rfl
  have p2 : (own_mul a a).toInt = ((own_M (A ^ 2) : Nat) : Int) := own_pst p1 p1 h1
  have p4 : (own_p4 a).toInt = ((own_M (A ^ 4) : Nat) : Int) := own_pst p2 p2 h1
  have p8 : (own_p8 a).toInt = ((own_M (A ^ 8) : Nat) : Int) := own_pst p4 p4 h1
  have p16 : (own_p16 a).toInt = ((own_M (A ^ 16) : Nat) : Int) := own_pst p8 p8 h1
  simp only [own_r5, own_r4, own_r3, own_r2, own_r1, if_pos (by decide : (((10 : Int32) &&& (16 : Int32)) = (0 : Int32))), if_neg (by decide : ¬ (((10 : Int32) &&& (8 : Int32)) = (0 : Int32))), if_pos (by decide : (((10 : Int32) &&& (4 : Int32)) = (0 : Int32))), if_neg (by decide : ¬ (((10 : Int32) &&& (2 : Int32)) = (0 : Int32))), if_pos (by decide : (((10 : Int32) &&& (1 : Int32)) = (0 : Int32)))]
  exact own_pst (own_pst p0 p2 h1) p8 h1
theorem own_v11 {a : Int64} {A : Nat} (ha : a.toInt = (A : Int)) (h1 : 1 ≤ A) (h2 : A ≤ 1000000000) : (own_r5 a (11 : Int32)).toInt = ((own_M (A ^ 11) : Nat) : Int) := by
  have p1 : a.toInt = ((own_M (A ^ 1) : Nat) : Int) := by rw [Nat.pow_one, ha]; unfold own_M; omega
  have p0 : (1 : Int64).toInt = ((own_M (A ^ 0) : Nat) : Int) := by rw [Nat.pow_zero]; rfl
  have p2 : (own_mul a a).toInt = ((own_M (A ^ 2) : Nat) : Int) := own_pst p1 p1 h1
  have p4 : (own_p4 a).toInt = ((own_M (A ^ 4) : Nat) : Int) := own_pst p2 p2 h1
  have p8 : (own_p8 a).toInt = ((own_M (A ^ 8) : Nat) : Int) := own_pst p4 p4 h1
  have p16 : (own_p16 a).toInt = ((own_M (A ^ 16) : Nat) : Int) := own_pst p8 p8 h1
  simp only [own_r5, own_r4, own_r3, own_r2, own_r1, if_pos (by decide : (((11 : Int32) &&& (16 : Int32)) = (0 : Int32))), if_neg (by decide : ¬ (((11 : Int32) &&& (8 : Int32)) = (0 : Int32))), if_pos (by decide : (((11 : Int32) &&& (4 : Int32)) = (0 : Int32))), if_neg (by decide : ¬ (((11 : Int32) &&& (2 : Int32)) = (0 : Int32))), if_neg (by decide : ¬ (((11 : Int32) &&& (1 : Int32)) = (0 : Int32)))]
  exact own_pst (own_pst (own_pst p0 p1 h1) p2 h1) p8 h1
theorem own_v12 {a : Int64} {A : Nat} (ha : a.toInt = (A : Int)) (h1 : 1 ≤ A) (h2 : A ≤ 1000000000) : (own_r5 a (12 : Int32)).toInt = ((own_M (A ^ 12) : Nat) : Int) := by
  have p1 : a.toInt = ((own_M (A ^ 1) : Nat) : Int) := by rw [Nat.pow_one, ha]; unfold own_M; omega
  have p0 : (1 : Int64).toInt = ((own_M (A ^ 0) : Nat) : Int) := by rw [Nat.pow_zero]; rfl
  have p2 : (own_mul a a).toInt = ((own_M (A ^ 2) : Nat) : Int) := own_pst p1 p1 h1
  have p4 : (own_p4 a).toInt = ((own_M (A ^ 4) : Nat) : Int) := own_pst p2 p2 h1
  have p8 : (own_p8 a).toInt = ((own_M (A ^ 8) : Nat) : Int) := own_pst p4 p4 h1
  have p16 : (own_p16 a).toInt = ((own_M (A ^ 16) : Nat) : Int) := own_pst p8 p8 h1
  simp only [own_r5, own_r4, own_r3, own_r2, own_r1, if_pos (by decide : (((12 : Int32) &&& (16 : Int32)) = (0 : Int32))), if_neg (by decide : ¬ (((12 : Int32) &&& (8 : Int32)) = (0 : Int32))), if_neg (by decide : ¬ (((12 : Int32) &&& (4 : Int32)) = (0 : Int32))), if_pos (by decide : (((12 : Int32) &&& (2 : Int32)) = (0 : Int32))), if_pos (by decide : (((12 : Int32) &&& (1 : Int32)) = (0 : Int32)))]
  exact own_pst (own_pst p0 p4 h1) p8 h1
theorem own_v13 {a : Int64} {A : Nat} (ha : a.toInt = (A : Int)) (h1 : 1 ≤ A) (h2 : A ≤ 1000000000) : (own_r5 a (13 : Int32)).toInt = ((own_M (A ^ 13) : Nat) : Int) := by
  have p1 : a.toInt = ((own_M (A ^ 1) : Nat) : Int) := by rw [Nat.pow_one, ha]; unfold own_M; omega
  have p0 : (1 : Int64).toInt = ((own_M (A ^ 0) : Nat) : Int) := by rw [Nat.pow_zero]; rfl
  have p2 : (own_mul a a).toInt = ((own_M (A ^ 2) : Nat) : Int) := own_pst p1 p1 h1
  have p4 : (own_p4 a).toInt = ((own_M (A ^ 4) : Nat) : Int) := own_pst p2 p2 h1
  have p8 : (own_p8 a).toInt = ((own_M (A ^ 8) : Nat) : Int) := own_pst p4 p4 h1
  have p16 : (own_p16 a).toInt = ((own_M (A ^ 16) : Nat) : Int) := own_pst p8 p8 h1
  simp only [own_r5, own_r4, own_r3, own_r2, own_r1, if_pos (by decide : (((13 : Int32) &&& (16 : Int32)) = (0 : Int32))), if_neg (by decide : ¬ (((13 : Int32) &&& (8 : Int32)) = (0 : Int32))), if_neg (by decide : ¬ (((13 : Int32) &&& (4 : Int32)) = (0 : Int32))), if_pos (by decide : (((13 : Int32) &&& (2 : Int32)) = (0 : Int32))), if_neg (by decide : ¬ (((13 : Int32) &&& (1 : Int32)) = (0 : Int32)))]
  exact own_pst (own_pst (own_pst p0 p1 h1) p4 h1) p8 h1
theorem own_v14 {a : Int64} {A : Nat} (ha : a.toInt = (A : Int)) (h1 : 1 ≤ A) (h2 : A ≤ 1000000000) : (own_r5 a (14 : Int32)).toInt = ((own_M (A ^ 14) : Nat) : Int) := by
  have p1 : a.toInt = ((own_M (A ^ 1) : Nat) : Int) := by rw [Nat.pow_one, ha]; unfold own_M; omega
  have p0 : (1 : Int64).toInt = ((own_M (A ^ 0) : Nat) : Int) := by rw [Nat.pow_zero]; rfl
  have p2 : (own_mul a a).toInt = ((own_M (A ^ 2) : Nat) : Int) := own_pst p1 p1 h1
  have p4 : (own_p4 a).toInt = ((own_M (A ^ 4) : Nat) : Int) := own_pst p2 p2 h1
  have p8 : (own_p8 a).toInt = ((own_M (A ^ 8) : Nat) : Int) := own_pst p4 p4 h1
  have p16 : (own_p16 a).toInt = ((own_M (A ^ 16) : Nat) : Int) := own_pst p8 p8 h1
  simp only [own_r5, own_r4, own_r3, own_r2, own_r1, if_pos (by decide : (((14 : Int32) &&& (16 : Int32)) = (0 : Int32))), if_neg (by decide : ¬ (((14 : Int32) &&& (8 : Int32)) = (0 : Int32))), if_neg (by decide : ¬ (((14 : Int32) &&& (4 : Int32)) = (0 : Int32))), if_neg (by decide : ¬ (((14 : Int32) &&& (2 : Int32)) = (0 : Int32))), if_pos (by decide : (((14 : Int32) &&& (1 : Int32)) = (0 : Int32)))]
  exact own_pst (own_pst (own_pst p0 p2 h1) p4 h1) p8 h1
theorem own_v15 {a : Int64} {A : Nat} (ha : a.toInt = (A : Int)) (h1 : 1 ≤ A) (h2 : A ≤ 1000000000) : (own_r5 a (15 : Int32)).toInt = ((own_M (A ^ 15) : Nat) : Int) := by
  have p1 : a.toInt = ((own_M (A ^ 1) : Nat) : Int) := by rw [Nat.pow_one, ha]; unfold own_M; omega
  have p0 : (1 : Int64).toInt = ((own_M (A ^ 0) : Nat) : Int) := by rw [Nat.pow_zero]; rfl
  have p2 : (own_mul a a).toInt = ((own_M (A ^ 2) : Nat) : Int) := own_pst p1 p1 h1
  have p4 : (own_p4 a).toInt = ((own_M (A ^ 4) : Nat) : Int) := own_pst p2 p2 h1
  have p8 : (own_p8 a).toInt = ((own_M (A ^ 8) : Nat) : Int) := own_pst p4 p4 h1
  have p16 : (own_p16 a).toInt = ((own_M (A ^ 16) : Nat) : Int) := own_pst p8 p8 h1
  simp only [own_r5, own_r4, own_r3, own_r2, own_r1, if_pos (by decide : (((15 : Int32) &&& (16 : Int32)) = (0 : Int32))), if_neg (by decide : ¬ (((15 : Int32) &&& (8 : Int32)) = (0 : Int32))), if_neg (by decide : ¬ (((15 : Int32) &&& (4 : Int32)) = (0 : Int32))), if_neg (by decide : ¬ (((15 : Int32) &&& (2 : Int32)) = (0 : Int32))), if_neg (by decide : ¬ (((15 : Int32) &&& (1 : Int32)) = (0 : Int32)))]
  exact own_pst (own_pst (own_pst (own_pst p0 p1 h1) p2 h1) p4 h1) p8 h1
theorem own_v16 {a : Int64} {A : Nat} (ha : a.toInt = (A : Int)) (h1 : 1 ≤ A) (h2 : A ≤ 1000000000) : (own_r5 a (16 : Int32)).toInt = ((own_M (A ^ 16) : Nat) : Int) := by
  have p1 : a.toInt = ((own_M (A ^ 1) : Nat) : Int) := by rw [Nat.pow_one, ha]; unfold own_M; omega
  have p0 : (1 : Int64).toInt = ((own_M (A ^ 0) : Nat) : Int) := by rw [Nat.pow_zero]; rfl
  have p2 : (own_mul a a).toInt = ((own_M (A ^ 2) : Nat) : Int) := own_pst p1 p1 h1
  have p4 : (own_p4 a).toInt = ((own_M (A ^ 4) : Nat) : Int) := own_pst p2 p2 h1
  have p8 : (own_p8 a).toInt = ((own_M (A ^ 8) : Nat) : Int) := own_pst p4 p4 h1
  have p16 : (own_p16 a).toInt = ((own_M (A ^ 16) : Nat) : Int) := own_pst p8 p8 h1
  simp only [own_r5, own_r4, own_r3, own_r2, own_r1, if_neg (by decide : ¬ (((16 : Int32) &&& (16 : Int32)) = (0 : Int32))), if_pos (by decide : (((16 : Int32) &&& (8 : Int32)) = (0 : Int32))), if_pos (by decide : (((16 : Int32) &&& (4 : Int32)) = (0 : Int32))), if_pos (by decide : (((16 : Int32) &&& (2 : Int32)) = (0 : Int32))), if_pos (by decide : (((16 : Int32) &&& (1 : Int32)) = (0 : Int32)))]
  exact own_pst p0 p16 h1
theorem own_v17 {a : Int64} {A : Nat} (ha : a.toInt = (A : Int)) (h1 : 1 ≤ A) (h2 : A ≤ 1000000000) : (own_r5 a (17 : Int32)).toInt = ((own_M (A ^ 17) : Nat) : Int) := by
  have p1 : a.toInt = ((own_M (A ^ 1) : Nat) : Int) := by rw [Nat.pow_one, ha]; unfold own_M; omega
  have p0 : (1 : Int64).toInt = ((own_M (A ^ 0) : Nat) : Int) := by rw [Nat.pow_zero]; rfl
  have p2 : (own_mul a a).toInt = ((own_M (A ^ 2) : Nat) : Int) := own_pst p1 p1 h1
  have p4 : (own_p4 a).toInt = ((own_M (A ^ 4) : Nat) : Int) := own_pst p2 p2 h1
  have p8 : (own_p8 a).toInt = ((own_M (A ^ 8) : Nat) : Int) := own_pst p4 p4 h1
  have p16 : (own_p16 a).toInt = ((own_M (A ^ 16) : Nat) : Int) := own_pst p8 p8 h1
  simp only [own_r5, own_r4, own_r3, own_r2, own_r1, if_neg (by decide : ¬ (((17 : Int32) &&& (16 : Int32)) = (0 : Int32))), if_pos (by decide : (((17 : Int32) &&& (8 : Int32)) = (0 : Int32))), if_pos (by decide : (((17 : Int32) &&& (4 : Int32)) = (0 : Int32))), if_pos (by decide : (((17 : Int32) &&& (2 : Int32)) = (0 : Int32))), if_neg (by decide : ¬ (((17 : Int32) &&& (1 : Int32)) = (0 : Int32)))]
  exact own_pst (own_pst p0 p1 h1) p16 h1
theorem own_v18 {a : Int64} {A : Nat} (ha : a.toInt = (A : Int)) (h1 : 1 ≤ A) (h2 : A ≤ 1000000000) : (own_r5 a (18 : Int32)).toInt = ((own_M (A ^ 18) : Nat) : Int) := by
  have p1 : a.toInt = ((own_M (A ^ 1) : Nat) : Int) := by rw [Nat.pow_one, ha]; unfold own_M; omega
  have p0 : (1 : Int64).toInt = ((own_M (A ^ 0) : Nat) : Int) := by rw [Nat.pow_zero]; rfl
  have p2 : (own_mul a a).toInt = ((own_M (A ^ 2) : Nat) : Int) := own_pst p1 p1 h1
  have p4 : (own_p4 a).toInt = ((own_M (A ^ 4) : Nat) : Int) := own_pst p2 p2 h1
  have p8 : (own_p8 a).toInt = ((own_M (A ^ 8) : Nat) : Int) := own_pst p4 p4 h1
  have p16 : (own_p16 a).toInt = ((own_M (A ^ 16) : Nat) : Int) := own_pst p8 p8 h1
  simp only [own_r5, own_r4, own_r3, own_r2, own_r1, if_neg (by decide : ¬ (((18 : Int32) &&& (16 : Int32)) = (0 : Int32))), if_pos (by decide : (((18 : Int32) &&& (8 : Int32)) = (0 : Int32))), if_pos (by decide : (((18 : Int32) &&& (4 : Int32)) = (0 : Int32))), if_neg (by decide : ¬ (((18 : Int32) &&& (2 : Int32)) = (0 : Int32))), if_pos (by decide : (((18 : Int32) &&& (1 : Int32)) = (0 : Int32)))]
  exact own_pst (own_pst p0 p2 h1) p16 h1
theorem own_v19 {a : Int64} {A : Nat} (ha : a.toInt = (A : Int)) (h1 : 1 ≤ A) (h2 : A ≤ 1000000000) : (own_r5 a (19 : Int32)).toInt = ((own_M (A ^ 19) : Nat) : Int) := by
  have p1 : a.toInt = ((own_M (A ^ 1) : Nat) : Int) := by rw [Nat.pow_one, ha]; unfold own_M; omega
  have p0 : (1 : Int64).toInt = ((own_M (A ^ 0) : Nat) : Int) := by rw [Nat.pow_zero]; rfl
  have p2 : (own_mul a a).toInt = ((own_M (A ^ 2) : Nat) : Int) := own_pst p1 p1 h1
  have p4 : (own_p4 a).toInt = ((own_M (A ^ 4) : Nat) : Int) := own_pst p2 p2 h1
  have p8 : (own_p8 a).toInt = ((own_M (A ^ 8) : Nat) : Int) := own_pst p4 p4 h1
  have p16 : (own_p16 a).toInt = ((own_M (A ^ 16) : Nat) : Int) := own_pst p8 p8 h1
  simp only [own_r5, own_r4, own_r3, own_r2, own_r1, if_neg (by decide : ¬ (((19 : Int32) &&& (16 : Int32)) = (0 : Int32))), if_pos (by decide : (((19 : Int32) &&& (8 : Int32)) = (0 : Int32))), if_pos (by decide : (((19 : Int32) &&& (4 : Int32)) = (0 : Int32))), if_neg (by decide : ¬ (((19 : Int32) &&& (2 : Int32)) = (0 : Int32))), if_neg (by decide : ¬ (((19 : Int32) &&& (1 : Int32)) = (0 : Int32)))]
  exact own_pst (own_pst (own_pst p0 p1 h1) p2 h1) p16 h1
theorem own_v20 {a : Int64} {A : Nat} (ha : a.toInt = (A : Int)) (h1 : 1 ≤ A) (h2 : A ≤ 1000000000) : (own_r5 a (20 : Int32)).toInt = ((own_M (A ^ 20) : Nat) : Int) := by
  have p1 : a.toInt = ((own_M (A ^ 1) : Nat) : Int) := by rw [Nat.pow_one, ha]; unfold own_M; omega
  have p0 : (1 : Int64).toInt = ((own_M (A ^ 0) : Nat) : Int) := by rw [Nat.pow_zero]; rfl
  have p2 : (own_mul a a).toInt = ((own_M (A ^ 2) : Nat) : Int) := own_pst p1 p1 h1
  have p4 : (own_p4 a).toInt = ((own_M (A ^ 4) : Nat) : Int) := own_pst p2 p2 h1
  have p8 : (own_p8 a).toInt = ((own_M (A ^ 8) : Nat) : Int) := own_pst p4 p4 h1
  have p16 : (own_p16 a).toInt = ((own_M (A ^ 16) : Nat) : Int) := own_pst p8 p8 h1
  simp only [own_r5, own_r4, own_r3, own_r2, own_r1, if_neg (by decide : ¬ (((20 : Int32) &&& (16 : Int32)) = (0 : Int32))), if_pos (by decide : (((20 : Int32) &&& (8 : Int32)) = (0 : Int32))), if_neg (by decide : ¬ (((20 : Int32) &&& (4 : Int32)) = (0 : Int32))), if_pos (by decide : (((20 : Int32) &&& (2 : Int32)) = (0 : Int32))), if_pos (by decide : (((20 : Int32) &&& (1 : Int32)) = (0 : Int32)))]
  exact own_pst (own_pst p0 p4 h1) p16 h1
theorem own_v21 {a : Int64} {A : Nat} (ha : a.toInt = (A : Int)) (h1 : 1 ≤ A) (h2 : A ≤ 1000000000) : (own_r5 a (21 : Int32)).toInt = ((own_M (A ^ 21) : Nat) : Int) := by
  have p1 : a.toInt = ((own_M (A ^ 1) : Nat) : Int) := by rw [Nat.pow_one, ha]; unfold own_M; omega
  have p0 : (1 : Int64).toInt = ((own_M (A ^ 0) : Nat) : Int) := by rw [Nat.pow_zero]; rfl
  have p2 : (own_mul a a).toInt = ((own_M (A ^ 2) : Nat) : Int) := own_pst p1 p1 h1
  have p4 : (own_p4 a).toInt = ((own_M (A ^ 4) : Nat) : Int) := own_pst p2 p2 h1
  have p8 : (own_p8 a).toInt = ((own_M (A ^ 8) : Nat) : Int) := own_pst p4 p4 h1
  have p16 : (own_p16 a).toInt = ((own_M (A ^ 16) : Nat) : Int) := own_pst p8 p8 h1
  simp only [own_r5, own_r4, own_r3, own_r2, own_r1, if_neg (by decide : ¬ (((21 : Int32) &&& (16 : Int32)) = (0 : Int32))), if_pos (by decide : (((21 : Int32) &&& (8 : Int32)) = (0 : Int32))), if_neg (by decide : ¬ (((21 : Int32) &&& (4 : Int32)) = (0 : Int32))), if_pos (by decide : (((21 : Int32) &&& (2 : Int32)) = (0 : Int32))), if_neg (by decide : ¬ (((21 : Int32) &&& (1 : Int32)) = (0 : Int32)))]
  exact own_pst (own_pst (own_pst p0 p1 h1) p4 h1) p16 h1
theorem own_v22 {a : Int64} {A : Nat} (ha : a.toInt = (A : Int)) (h1 : 1 ≤ A) (h2 : A ≤ 1000000000) : (own_r5 a (22 : Int32)).toInt = ((own_M (A ^ 22) : Nat) : Int) := by
  have p1 : a.toInt = ((own_M (A ^ 1) : Nat) : Int) := by rw [Nat.pow_one, ha]; unfold own_M; omega
  have p0 : (1 : Int64).toInt = ((own_M (A ^ 0) : Nat) : Int) := by rw [Nat.pow_zero]; rfl
  have p2 : (own_mul a a).toInt = ((own_M (A ^ 2) : Nat) : Int) := own_pst p1 p1 h1
  have p4 : (own_p4 a).toInt = ((own_M (A ^ 4) : Nat) : Int) := own_pst p2 p2 h1
  have p8 : (own_p8 a).toInt = ((own_M (A ^ 8) : Nat) : Int) := own_pst p4 p4 h1
  have p16 : (own_p16 a).toInt = ((own_M (A ^ 16) : Nat) : Int) := own_pst p8 p8 h1
  simp only [own_r5, own_r4, own_r3, own_r2, own_r1, if_neg (by decide : ¬ (((22 : Int32) &&& (16 : Int32)) = (0 : Int32))), if_pos (by decide : (((22 : Int32) &&& (8 : Int32)) = (0 : Int32))), if_neg (by decide : ¬ (((22 : Int32) &&& (4 : Int32)) = (0 : Int32))), if_neg (by decide : ¬ (((22 : Int32) &&& (2 : Int32)) = (0 : Int32))), if_pos (by decide : (((22 : Int32) &&& (1 : Int32)) = (0 : Int32)))]
  exact own_pst (own_pst (own_pst p0 p2 h1) p4 h1) p16 h1
theorem own_v23 {a : Int64} {A : Nat} (ha : a.toInt = (A : Int)) (h1 : 1 ≤ A) (h2 : A ≤ 1000000000) : (own_r5 a (23 : Int32)).toInt = ((own_M (A ^ 23) : Nat) : Int) := by
  have p1 : a.toInt = ((own_M (A ^ 1) : Nat) : Int) := by rw [Nat.pow_one, ha]; unfold own_M; omega
  have p0 : (1 : Int64).toInt = ((own_M (A ^ 0) : Nat) : Int) := by rw [Nat.pow_zero]; rfl
  have p2 : (own_mul a a).toInt = ((own_M (A ^ 2) : Nat) : Int) := own_pst p1 p1 h1
  have p4 : (own_p4 a).toInt = ((own_M (A ^ 4) : Nat) : Int) := own_pst p2 p2 h1
  have p8 : (own_p8 a).toInt = ((own_M (A ^ 8) : Nat) : Int) := own_pst p4 p4 h1
  have p16 : (own_p16 a).toInt = ((own_M (A ^ 16) : Nat) : Int) := own_pst p8 p8 h1
  simp only [own_r5, own_r4, own_r3, own_r2, own_r1, if_neg (by decide : ¬ (((23 : Int32) &&& (16 : Int32)) = (0 : Int32))), if_pos (by decide : (((23 : Int32) &&& (8 : Int32)) = (0 : Int32))), if_neg (by decide : ¬ (((23 : Int32) &&& (4 : Int32)) = (0 : Int32))), if_neg (by decide : ¬ (((23 : Int32) &&& (2 : Int32)) = (0 : Int32))), if_neg (by decide : ¬ (((23 : Int32) &&& (1 : Int32)) = (0 : Int32)))]
  exact own_pst (own_pst (own_pst (own_pst p0 p1 h1) p2 h1) p4 h1) p16 h1
theorem own_v24 {a : Int64} {A : Nat} (ha : a.toInt = (A : Int)) (h1 : 1 ≤ A) (h2 : A ≤ 1000000000) : (own_r5 a (24 : Int32)).toInt = ((own_M (A ^ 24) : Nat) : Int) := by
  have p1 : a.toInt = ((own_M (A ^ 1) : Nat) : Int) := by rw [Nat.pow_one, ha]; unfold own_M; omega
  have p0 : (1 : Int64).toInt = ((own_M (A ^ 0) : Nat) : Int) := by rw [Nat.pow_zero]; rfl
  have p2 : (own_mul a a).toInt = ((own_M (A ^ 2) : Nat) : Int) := own_pst p1 p1 h1
  have p4 : (own_p4 a).toInt = ((own_M (A ^ 4) : Nat) : Int) := own_pst p2 p2 h1
  have p8 : (own_p8 a).toInt = ((own_M (A ^ 8) : Nat) : Int) := own_pst p4 p4 h1
  have p16 : (own_p16 a).toInt = ((own_M (A ^ 16) : Nat) : Int) := own_pst p8 p8 h1
  simp only [own_r5, own_r4, own_r3, own_r2, own_r1, if_neg (by decide : ¬ (((24 : Int32) &&& (16 : Int32)) = (0 : Int32))), if_neg (by decide : ¬ (((24 : Int32) &&& (8 : Int32)) = (0 : Int32))), if_pos (by decide : (((24 : Int32) &&& (4 : Int32)) = (0 : Int32))), if_pos (by decide : (((24 : Int32) &&& (2 : Int32)) = (0 : Int32))), if_pos (by decide : (((24 : Int32) &&& (1 : Int32)) = (0 : Int32)))]
  exact own_pst (own_pst p0 p8 h1) p16 h1
theorem own_v25 {a : Int64} {A : Nat} (ha : a.toInt = (A : Int)) (h1 : 1 ≤ A) (h2 : A ≤ 1000000000) : (own_r5 a (25 : Int32)).toInt = ((own_M (A ^ 25) : Nat) : Int) := by
  have p1 : a.toInt = ((own_M (A ^ 1) : Nat) : Int) := by rw [Nat.pow_one, ha]; unfold own_M; omega
  have p0 : (1 : Int64).toInt = ((own_M (A ^ 0) : Nat) : Int) := by rw [Nat.pow_zero]; rfl
  have p2 : (own_mul a a).toInt = ((own_M (A ^ 2) : Nat) : Int) := own_pst p1 p1 h1
  have p4 : (own_p4 a).toInt = ((own_M (A ^ 4) : Nat) : Int) := own_pst p2 p2 h1
  have p8 : (own_p8 a).toInt = ((own_M (A ^ 8) : Nat) : Int) := own_pst p4 p4 h1
  have p16 : (own_p16 a).toInt = ((own_M (A ^ 16) : Nat) : Int) := own_pst p8 p8 h1
  simp only [own_r5, own_r4, own_r3, own_r2, own_r1, if_neg (by decide : ¬ (((25 : Int32) &&& (16 : Int32)) = (0 : Int32))), if_neg (by decide : ¬ (((25 : Int32) &&& (8 : Int32)) = (0 : Int32))), if_pos (by decide : (((25 : Int32) &&& (4 : Int32)) = (0 : Int32))), if_pos (by decide : (((25 : Int32) &&& (2 : Int32)) = (0 : Int32))), if_neg (by decide : ¬ (((25 : Int32) &&& (1 : Int32)) = (0 : Int32)))]
  exact own_pst (own_pst (own_pst p0 p1 h1) p8 h1) p16 h1
theorem own_v26 {a : Int64} {A : Nat} (ha : a.toInt = (A : Int)) (h1 : 1 ≤ A) (h2 : A ≤ 1000000000) : (own_r5 a (26 : Int32)).toInt = ((own_M (A ^ 26) : Nat) : Int) := by
  have p1 : a.toInt = ((own_M (A ^ 1) : Nat) : Int) := by rw [Nat.pow_one, ha]; unfold own_M; omega
  have p0 : (1 : Int64).toInt = ((own_M (A ^ 0) : Nat) : Int) := by rw [Nat.pow_zero]; rfl
  have p2 : (own_mul a a).toInt = ((own_M (A ^ 2) : Nat) : Int) := own_pst p1 p1 h1
  have p4 : (own_p4 a).toInt = ((own_M (A ^ 4) : Nat) : Int) := own_pst p2 p2 h1
  have p8 : (own_p8 a).toInt = ((own_M (A ^ 8) : Nat) : Int) := own_pst p4 p4 h1
  have p16 : (own_p16 a).toInt = ((own_M (A ^ 16) : Nat) : Int) := own_pst p8 p8 h1
  simp only [own_r5, own_r4, own_r3, own_r2, own_r1, if_neg (by decide : ¬ (((26 : Int32) &&& (16 : Int32)) = (0 : Int32))), if_neg (by decide : ¬ (((26 : Int32) &&& (8 : Int32)) = (0 : Int32))), if_pos (by decide : (((26 : Int32) &&& (4 : Int32)) = (0 : Int32))), if_neg (by decide : ¬ (((26 : Int32) &&& (2 : Int32)) = (0 : Int32))), if_pos (by decide : (((26 : Int32) &&& (1 : Int32)) = (0 : Int32)))]
  exact own_pst (own_pst (own_pst p0 p2 h1) p8 h1) p16 h1
theorem own_v27 {a : Int64} {A : Nat} (ha : a.toInt = (A : Int)) (h1 : 1 ≤ A) (h2 : A ≤ 1000000000) : (own_r5 a (27 : Int32)).toInt = ((own_M (A ^ 27) : Nat) : Int) := by
  have p1 : a.toInt = ((own_M (A ^ 1) : Nat) : Int) := by rw [Nat.pow_one, ha]; unfold own_M; omega
  have p0 : (1 : Int64).toInt = ((own_M (A ^ 0) : Nat) : Int) := by rw [Nat.pow_zero]; rfl
  have p2 : (own_mul a a).toInt = ((own_M (A ^ 2) : Nat) : Int) := own_pst p1 p1 h1
  have p4 : (own_p4 a).toInt = ((own_M (A ^ 4) : Nat) : Int) := own_pst p2 p2 h1
  have p8 : (own_p8 a).toInt = ((own_M (A ^ 8) : Nat) : Int) := own_pst p4 p4 h1
  have p16 : (own_p16 a).toInt = ((own_M (A ^ 16) : Nat) : Int) := own_pst p8 p8 h1
  simp only [own_r5, own_r4, own_r3, own_r2, own_r1, if_neg (by decide : ¬ (((27 : Int32) &&& (16 : Int32)) = (0 : Int32))), if_neg (by decide : ¬ (((27 : Int32) &&& (8 : Int32)) = (0 : Int32))), if_pos (by decide : (((27 : Int32) &&& (4 : Int32)) = (0 : Int32))), if_neg (by decide : ¬ (((27 : Int32) &&& (2 : Int32)) = (0 : Int32))), if_neg (by decide : ¬ (((27 : Int32) &&& (1 : Int32)) = (0 : Int32)))]
  exact own_pst (own_pst (own_pst (own_pst p0 p1 h1) p2 h1) p8 h1) p16 h1
theorem own_v28 {a : Int64} {A : Nat} (ha : a.toInt = (A : Int)) (h1 : 1 ≤ A) (h2 : A ≤ 1000000000) : (own_r5 a (28 : Int32)).toInt = ((own_M (A ^ 28) : Nat) : Int) := by
  have p1 : a.toInt = ((own_M (A ^ 1) : Nat) : Int) := by rw [Nat.pow_one, ha]; unfold own_M; omega
  have p0 : (1 : Int64).toInt = ((own_M (A ^ 0) : Nat) : Int) := by rw [Nat.pow_zero]; rfl
  have p2 : (own_mul a a).toInt = ((own_M (A ^ 2) : Nat) : Int) := own_pst p1 p1 h1
  have p4 : (own_p4 a).toInt = ((own_M (A ^ 4) : Nat) : Int) := own_pst p2 p2 h1
  have p8 : (own_p8 a).toInt = ((own_M (A ^ 8) : Nat) : Int) := own_pst p4 p4 h1
  have p16 : (own_p16 a).toInt = ((own_M (A ^ 16) : Nat) : Int) := own_pst p8 p8 h1
  simp only [own_r5, own_r4, own_r3, own_r2, own_r1, if_neg (by decide : ¬ (((28 : Int32) &&& (16 : Int32)) = (0 : Int32))), if_neg (by decide : ¬ (((28 : Int32) &&& (8 : Int32)) = (0 : Int32))), if_neg (by decide : ¬ (((28 : Int32) &&& (4 : Int32)) = (0 : Int32))), if_pos (by decide : (((28 : Int32) &&& (2 : Int32)) = (0 : Int32))), if_pos (by decide : (((28 : Int32) &&& (1 : Int32)) = (0 : Int32)))]
  exact own_pst (own_pst (own_pst p0 p4 h1) p8 h1) p16 h1
theorem own_v29 {a : Int64} {A : Nat} (ha : a.toInt = (A : Int)) (h1 : 1 ≤ A) (h2 : A ≤ 1000000000) : (own_r5 a (29 : Int32)).toInt = ((own_M (A ^ 29) : Nat) : Int) := by
  have p1 : a.toInt = ((own_M (A ^ 1) : Nat) : Int) := by rw [Nat.pow_one, ha]; unfold own_M; omega
  have p0 : (1 : Int64).toInt = ((own_M (A ^ 0) : Nat) : Int) := by rw [Nat.pow_zero]; rfl
  have p2 : (own_mul a a).toInt = ((own_M (A ^ 2) : Nat) : Int) := own_pst p1 p1 h1
  have p4 : (own_p4 a).toInt = ((own_M (A ^ 4) : Nat) : Int) := own_pst p2 p2 h1
  have p8 : (own_p8 a).toInt = ((own_M (A ^ 8) : Nat) : Int) := own_pst p4 p4 h1
  have p16 : (own_p16 a).toInt = ((own_M (A ^ 16) : Nat) : Int) := own_pst p8 p8 h1
  simp only [own_r5, own_r4, own_r3, own_r2, own_r1, if_neg (by decide : ¬ (((29 : Int32) &&& (16 : Int32)) = (0 : Int32))), if_neg (by decide : ¬ (((29 : Int32) &&& (8 : Int32)) = (0 : Int32))), if_neg (by decide : ¬ (((29 : Int32) &&& (4 : Int32)) = (0 : Int32))), if_pos (by decide : (((29 : Int32) &&& (2 : Int32)) = (0 : Int32))), if_neg (by decide : ¬ (((29 : Int32) &&& (1 : Int32)) = (0 : Int32)))]
  exact own_pst (own_pst (own_pst (own_pst p0 p1 h1) p4 h1) p8 h1) p16 h1
theorem own_fin {al lv : Int32} {rf : Int64} (h : own_in lv) (hb : 2 ≤ al.toInt ∧ al.toInt ≤ 999999999) (hr : own_r5 al.toInt64 lv = rf) (hq : ¬ (999999999 : Int64) < rf) : al.toInt.toNat ^ lv.toInt.toNat ≤ 999999999 ∧ rf.toInt = ((al.toInt.toNat ^ lv.toInt.toNat : Nat) : Int) := by
  have ha : al.toInt64.toInt = ((al.toInt.toNat : Nat) : Int) := by rw [c_i2l]; omega
  have o2 : (999999999 : Int64).toInt = 999999999 := by decide
  rw [Int64.lt_iff_toInt_lt, o2, ← hr] at hq
  rw [← hr]
  have h1 : 1 ≤ al.toInt.toNat := by omega
  have h2 : al.toInt.toNat ≤ 1000000000 := by omega
  rcases h with rfl | rfl | rfl | rfl | rfl | rfl | rfl | rfl | rfl | rfl | rfl | rfl | rfl | rfl | rfl | rfl | rfl | rfl | rfl | rfl | rfl | rfl | rfl | rfl | rfl | rfl | rfl | rfl | rfl
  · have v := own_v1 ha h1 h2
    rw [v] at hq ⊢
    rw [show (1 : Int32).toInt.toNat = 1 from by decide]
    generalize al.toInt.toNat ^ 1 = z at *
    unfold own_M at *; omega
  · have v := own_v2 ha h1 h2
    rw [v] at hq ⊢
    rw [show (2 : Int32).toInt.toNat = 2 from by decide]
    generalize al.toInt.toNat ^ 2 = z at *
    unfold own_M at *; omega
  · have v := own_v3 ha h1 h2
    rw [v] at hq ⊢
    rw [show (3 : Int32).toInt.toNat = 3 from by decide]
    generalize al.toInt.toNat ^ 3 = z at *
    unfold own_M at *; omega
  · have v := own_v4 ha h1 h2
    rw [v] at hq ⊢
    rw [show (4 : Int32).toInt.toNat = 4 from by decide]
    generalize al.toInt.toNat ^ 4 = z at *
    unfold own_M at *; omega
  · have v := own_v5 ha h1 h2
    rw [v] at hq ⊢
    rw [show (5 : Int32).toInt.toNat = 5 from by decide]
    generalize al.toInt.toNat ^ 5 = z at *
    unfold own_M at *; omega
  · have v := own_v6 ha h1 h2
    rw [v] at hq ⊢
    rw [show (6 : Int32).toInt.toNat = 6 from by decide]
    generalize al.toInt.toNat ^ 6 = z at *
    unfold own_M at *; omega
  · have v := own_v7 ha h1 h2
    rw [v] at hq ⊢
    rw [show (7 : Int32).toInt.toNat = 7 from by decide]
    generalize al.toInt.toNat ^ 7 = z at *
    unfold own_M at *; omega
  · have v := own_v8 ha h1 h2
    rw [v] at hq ⊢
    rw [show (8 : Int32).toInt.toNat = 8 from by decide]
    generalize al.toInt.toNat ^ 8 = z at *
    unfold own_M at *; omega
  · have v := own_v9 ha h1 h2
    rw [v] at hq ⊢
    rw [show (9 : Int32).toInt.toNat = 9 from by decide]
    generalize al.toInt.toNat ^ 9 = z at *
    unfold own_M at *; omega
  · have v := own_v10 ha h1 h2
    rw [v] at hq ⊢
    rw [show (10 : Int32).toInt.toNat = 10 from by decide]
    generalize al.toInt.toNat ^ 10 = z at *
    unfold own_M at *; omega
  · have v := own_v11 ha h1 h2
    rw [v] at hq ⊢
    rw [show (11 : Int32).toInt.toNat = 11 from by decide]
    generalize al.toInt.toNat ^ 11 = z at *
    unfold own_M at *; omega
  · have v := own_v12 ha h1 h2
    rw [v] at hq ⊢
    rw [show (12 : Int32).toInt.toNat = 12 from by decide]
    generalize al.toInt.toNat ^ 12 = z at *
    unfold own_M at *; omega
  · have v := own_v13 ha h1 h2
    rw [v] at hq ⊢
    rw [show (13 : Int32).toInt.toNat = 13 from by decide]
    generalize al.toInt.toNat ^ 13 = z at *
    unfold own_M at *; omega
  · have v := own_v14 ha h1 h2
    rw [v] at hq ⊢
    rw [show (14 : Int32).toInt.toNat = 14 from by decide]
    generalize al.toInt.toNat ^ 14 = z at *
    unfold own_M at *; omega
  · have v := own_v15 ha h1 h2
    rw [v] at hq ⊢
    rw [show (15 : Int32).toInt.toNat = 15 from by decide]
    generalize al.toInt.toNat ^ 15 = z at *
    unfold own_M at *; omega
  · have v := own_v16 ha h1 h2
    rw [v] at hq ⊢
    rw [show (16 : Int32).toInt.toNat = 16 from by decide]
    generalize al.toInt.toNat ^ 16 = z at *
    unfold own_M at *; omega
  · have v := own_v17 ha h1 h2
    rw [v] at hq ⊢
    rw [show (17 : Int32).toInt.toNat = 17 from by decide]
    generalize al.toInt.toNat ^ 17 = z at *
    unfold own_M at *; omega
  · have v := own_v18 ha h1 h2
    rw [v] at hq ⊢
    rw [show (18 : Int32).toInt.toNat = 18 from by decide]
    generalize al.toInt.toNat ^ 18 = z at *
    unfold own_M at *; omega
  · have v := own_v19 ha h1 h2
    rw [v] at hq ⊢
    rw [show (19 : Int32).toInt.toNat = 19 from by decide]
    generalize al.toInt.toNat ^ 19 = z at *
    unfold own_M at *; omega
  · have v := own_v20 ha h1 h2
    rw [v] at hq ⊢
    rw [show (20 : Int32).toInt.toNat = 20 from by decide]
    generalize al.toInt.toNat ^ 20 = z at *
    unfold own_M at *; omega
  · have v := own_v21 ha h1 h2
    rw [v] at hq ⊢
    rw [show (21 : Int32).toInt.toNat = 21 from by decide]
    generalize al.toInt.toNat ^ 21 = z at *
    unfold own_M at *; omega
  · have v := own_v22 ha h1 h2
    rw [v] at hq ⊢
    rw [show (22 : Int32).toInt.toNat = 22 from by decide]
    generalize al.toInt.toNat ^ 22 = z at *
    unfold own_M at *; omega
  · have v := own_v23 ha h1 h2
    rw [v] at hq ⊢
    rw [show (23 : Int32).toInt.toNat = 23 from by decide]
    generalize al.toInt.toNat ^ 23 = z at *
    unfold own_M at *; omega
  · have v := own_v24 ha h1 h2
    rw [v] at hq ⊢
    rw [show (24 : Int32).toInt.toNat = 24 from by decide]
    generalize al.toInt.toNat ^ 24 = z at *
    unfold own_M at *; omega
  · have v := own_v25 ha h1 h2
    rw [v] at hq ⊢
    rw [show (25 : Int32).toInt.toNat = 25 from by decide]
    generalize al.toInt.toNat ^ 25 = z at *
    unfold own_M at *; omega
  · have v := own_v26 ha h1 h2
    rw [v] at hq ⊢
    rw [show (26 : Int32).toInt.toNat = 26 from by decide]
    generalize al.toInt.toNat ^ 26 = z at *
    unfold own_M at *; omega
  · have v := own_v27 ha h1 h2
    rw [v] at hq ⊢
    rw [show (27 : Int32).toInt.toNat = 27 from by decide]
    generalize al.toInt.toNat ^ 27 = z at *
    unfold own_M at *; omega
  · have v := own_v28 ha h1 h2
    rw [v] at hq ⊢
    rw [show (28 : Int32).toInt.toNat = 28 from by decide]
    generalize al.toInt.toNat ^ 28 = z at *
    unfold own_M at *; omega
  · have v := own_v29 ha h1 h2
    rw [v] at hq ⊢
    rw [show (29 : Int32).toInt.toNat = 29 from by decide]
    generalize al.toInt.toNat ^ 29 = z at *
    unfold own_M at *; omega
def Q0 (Z : State) (p1 p2 p3 p4 : Int32) (h0 : Heap) (n0 : Nat) (v : Option Value) (h : Heap) (L : List Loc) : Prop := v = some (.int 1) ∧ Fr n0 L
theorem own_nat {a : Int32} (h : 2 ≤ a.toInt ∧ a.toInt ≤ 999999999) : a.toInt = ((a.toInt.toNat : Nat) : Int) ∧ 1 ≤ a.toInt.toNat := by omega
theorem own_lv {k : Int32} (h : own_in k) : k.toInt = ((k.toInt.toNat : Nat) : Int) := by
  rcases h with rfl | rfl | rfl | rfl | rfl | rfl | rfl | rfl | rfl | rfl | rfl | rfl | rfl | rfl | rfl | rfl | rfl | rfl | rfl | rfl | rfl | rfl | rfl | rfl | rfl | rfl | rfl | rfl | rfl <;> decide
theorem pn_0 : plainName "com/example/tidegauge/tidegauge/MacroClusterSettingsSnapshotsPerOrderPinLaw" = true := by first | (simp [plainName, overriddenIn]; done) | decide +kernel
theorem ef_rm0 (m : MethodId) (x0 : Int32) (x1 : Int32) (x2 : Int32) (x3 : Int32) : entryFrame m #[(.int x0), (.int x1), (.int x2), (.int x3)] maxLocals = mkF m 0 #[.val (.int x0), .val (.int x1), .val (.int x2), .val (.int x3), .unset, .unset, .unset, .unset, .unset, .unset, .unset, .unset] [] := by first | (simp [entryFrame, mkF, argsToLocals, Value.category, maxLocals]; done) | rfl
set_option maxRecDepth 65536 in
set_option maxHeartbeats 40000000 in
theorem rm0 (l : Launch) (Z : State) (a0 : Array Value) (hw : ∀ d ∈ tables_1, d.before a0 Z = true) (ws : List Jvm.Cond) (p1 : Int32) (p2 : Int32) (p3 : Int32) (p4 : Int32) (h0 : Heap) (n0 : Nat) (Z0 : n0 ≤ h0.size)  :
    MetFree l x (head1 (Jvm.Cond.code x code maxLocals ret :: ws) room_1) (fun a U => a = #[(.int p1), (.int p2), (.int p3), (.int p4)] ∧ Z.Warmed39 U.vm ∧ U.heap = h0) (fun _ _ _ _ _ => True) (fun _ U o U' => ∃ v L, o = .returned v ∧ Q0 Z p1 p2 p3 p4  h0 n0 v U'.heap L ∧ FrameEnd U o U' L 16 192) := by
  refine MetFree.of_bodySF (plainFor_of_name pn_0) hisR ?_
  intro p e s m args below meth c s₁ Bd hml0 hP hK
  obtain ⟨rfl, hZ, hh⟩ := hP
  have hx := Bd.exec
  have hby := Bd.bytes
  have hml : c.maxLocals = 12 := hml0
  have hown : s.vm.findClass "com/example/tidegauge/tidegauge/MacroClusterSettingsSnapshotsPerOrderPinLaw" = some m.cls := findClass_of_methodNamed Bd.named
  have hnm := (name_of_methodNamed Bd.named Bd.method).1
  have X0 : Stand p l e room_1 s m #[(.int p1), (.int p2), (.int p3), (.int p4)] below meth c s₁ [] 0 0 := Stand.of_body Bd
  have e0 : s₁.heap = h0 := by rw [← hh, Bd.state]; rfl
  have N0 := Fr.nil n0
  have pre0 : ∀ t, Steps p.tables e below (s₁.setTop (mkF m 0 #[.val (.int p1), .val (.int p2), .val (.int p3), .val (.int p4), .unset, .unset, .unset, .unset, .unset, .unset, .unset, .unset] [])) t → Steps p.tables e below (s₁.setTop (entryFrame m #[(.int p1), (.int p2), (.int p3), (.int p4)] maxLocals)) t := fun t k => castTop (ef_rm0 m p1 p2 p3 p4) k
  have O0 := own_ext_refl h0
  obtain ⟨T1, h1, k1, X1, e1, E1, A1, st1⟩ := newP X0 hx hZ (hw _ (List.mem_of_getElem? (i := 0) rfl)) e0 (g := (mkF m 2 #[.val (.int p1), .val (.int p2), .val (.int p3), .val (.int p4), .unset, .unset, .unset, .unset, .unset, .unset, .unset, .unset] [(.int (30 : Int32))])) rfl (hb hby at_2) rfl (by decide) (cap := 30) (by decide) (by decide) (by decide) (by decide)
  obtain ⟨b1, g1⟩ : ∃ z, z = h0.size := ⟨_, rfl⟩
  rw [← g1] at A1 st1
  have z_b1 : h0.size ≤ b1 := Nat.le_trans O0.1 (Nat.le_of_eq g1.symm)
  have g_b1 : n0 ≤ b1 := Nat.le_trans Z0 z_b1
  have O1 := own_ext_trans O0 E1
  have V1 : Arv Z h1 b1 k1 .int (30 : Int32) [(.int (0 : Int32)), (.int (0 : Int32)), (.int (0 : Int32)), (.int (0 : Int32)), (.int (0 : Int32)), (.int (0 : Int32)), (.int (0 : Int32)), (.int (0 : Int32)), (.int (0 : Int32)), (.int (0 : Int32)), (.int (0 : Int32)), (.int (0 : Int32)), (.int (0 : Int32)), (.int (0 : Int32)), (.int (0 : Int32)), (.int (0 : Int32)), (.int (0 : Int32)), (.int (0 : Int32)), (.int (0 : Int32)), (.int (0 : Int32)), (.int (0 : Int32)), (.int (0 : Int32)), (.int (0 : Int32)), (.int (0 : Int32)), (.int (0 : Int32)), (.int (0 : Int32)), (.int (0 : Int32)), (.int (0 : Int32)), (.int (0 : Int32)), (.int (0 : Int32))] (.int (0 : Int32)) := (Arv.new A1 (by decide)).pad (pad_rep [] (.int (0 : Int32)) 30)
  obtain ⟨cl2, Ar2, q2, S2, n2', H2, G2⟩ := id V1
  have hin2 : ¬ ((0 : Int32) < 0 ∨ cl2.slots.size ≤ ((0 : Int32)).toNatClampNeg) := inb_of S2 ⟨by decide, by decide⟩
  obtain ⟨T2, h2, X2, e2, W2, st2⟩ := stI X1 hx hZ e1 Ar2 (j := (0 : Int32)) hin2 (g := (mkF m 7 #[.val (.int p1), .val (.int p2), .val (.int p3), .val (.int p4), .unset, .unset, .unset, .unset, .unset, .unset, .unset, .unset] [(.int (0 : Int32)), (.int (0 : Int32)), (.ref b1), (.ref b1)])) rfl rfl (hb hby at_7)
  have V2 : Arv Z h2 b1 k1 .int (30 : Int32) [(.int (0 : Int32)), (.int (0 : Int32)), (.int (0 : Int32)), (.int (0 : Int32)), (.int (0 : Int32)), (.int (0 : Int32)), (.int (0 : Int32)), (.int (0 : Int32)), (.int (0 : Int32)), (.int (0 : Int32)), (.int (0 : Int32)), (.int (0 : Int32)), (.int (0 : Int32)), (.int (0 : Int32)), (.int (0 : Int32)), (.int (0 : Int32)), (.int (0 : Int32)), (.int (0 : Int32)), (.int (0 : Int32)), (.int (0 : Int32)), (.int (0 : Int32)), (.int (0 : Int32)), (.int (0 : Int32)), (.int (0 : Int32)), (.int (0 : Int32)), (.int (0 : Int32)), (.int (0 : Int32)), (.int (0 : Int32)), (.int (0 : Int32)), (.int (0 : Int32))] (.int (0 : Int32)) := Arv.set Ar2 q2 S2 n2' H2 G2 rfl W2 0 rfl (Nat.le_of_ble_eq_true rfl)
  have O2 := own_ext_wr O1 W2 z_b1
  have N2 := Fr.snoc X2 N0 g_b1
  obtain ⟨cl3, Ar3, q3, S3, n3', H3, G3⟩ := id V2
  have hin3 : ¬ ((1 : Int32) < 0 ∨ cl3.slots.size ≤ ((1 : Int32)).toNatClampNeg) := inb_of S3 ⟨by decide, by decide⟩
  obtain ⟨T3, h3, X3, e3, W3, st3⟩ := stI X2 hx hZ e2 Ar3 (j := (1 : Int32)) hin3 (g := (mkF m 12 #[.val (.int p1), .val (.int p2), .val (.int p3), .val (.int p4), .unset, .unset, .unset, .unset, .unset, .unset, .unset, .unset] [(.int (999999999 : Int32)), (.int (1 : Int32)), (.ref b1), (.ref b1)])) rfl rfl (hb hby at_12)
  have V3 : Arv Z h3 b1 k1 .int (30 : Int32) [(.int (0 : Int32)), (.int (999999999 : Int32)), (.int (0 : Int32)), (.int (0 : Int32)), (.int (0 : Int32)), (.int (0 : Int32)), (.int (0 : Int32)), (.int (0 : Int32)), (.int (0 : Int32)), (.int (0 : Int32)), (.int (0 : Int32)), (.int (0 : Int32)), (.int (0 : Int32)), (.int (0 : Int32)), (.int (0 : Int32)), (.int (0 : Int32)), (.int (0 : Int32)), (.int (0 : Int32)), (.int (0 : Int32)), (.int (0 : Int32)), (.int (0 : Int32)), (.int (0 : Int32)), (.int (0 : Int32)), (.int (0 : Int32)), (.int (0 : Int32)), (.int (0 : Int32)), (.int (0 : Int32)), (.int (0 : Int32)), (.int (0 : Int32)), (.int (0 : Int32))] (.int (0 : Int32)) := Arv.set Ar3 q3 S3 n3' H3 G3 rfl W3 1 rfl (Nat.le_of_ble_eq_true rfl)
  have O3 := own_ext_wr O2 W3 z_b1
  have N3 := Fr.snoc X3 N2 g_b1
  have pre4 : ∀ t, Steps p.tables e below (T3.setTop (mkF m 18 #[.val (.int p1), .val (.int p2), .val (.int p3), .val (.int p4), .unset, .unset, .unset, .unset, .unset, .unset, .unset, .unset] [(.int (31622 : Int32)), (.int (2 : Int32)), (.ref b1), (.ref b1)])) t → Steps p.tables e below (s₁.setTop (entryFrame m #[(.int p1), (.int p2), (.int p3), (.int p4)] maxLocals)) t := fun t k => pre0 t (by
    show Steps p.tables e below (s₁.setTop (mkF m 0 #[.val (.int p1), .val (.int p2), .val (.int p3), .val (.int p4), .unset, .unset, .unset, .unset, .unset, .unset, .unset, .unset] [])) _
    refine XT.bipushV X0.here hx rfl (30 : Int32) (hb hby at_0) (by decide) ?_
    show Steps p.tables e below (s₁.setTop (mkF m 2 #[.val (.int p1), .val (.int p2), .val (.int p3), .val (.int p4), .unset, .unset, .unset, .unset, .unset, .unset, .unset, .unset] [(.int (30 : Int32))])) _
    refine st1 _ ?_
    show Steps p.tables e below (T1.setTop (mkF m 4 #[.val (.int p1), .val (.int p2), .val (.int p3), .val (.int p4), .unset, .unset, .unset, .unset, .unset, .unset, .unset, .unset] [(.ref b1)])) _
    refine XS.dup X1.here hx rfl (hb hby at_4) rfl rfl ?_
    show Steps p.tables e below (T1.setTop (mkF m 5 #[.val (.int p1), .val (.int p2), .val (.int p3), .val (.int p4), .unset, .unset, .unset, .unset, .unset, .unset, .unset, .unset] [(.ref b1), (.ref b1)])) _
    refine XT.iconstV X1.here hx rfl (0 : Int32) (hb hby at_5) (by decide) ?_
    show Steps p.tables e below (T1.setTop (mkF m 6 #[.val (.int p1), .val (.int p2), .val (.int p3), .val (.int p4), .unset, .unset, .unset, .unset, .unset, .unset, .unset, .unset] [(.int (0 : Int32)), (.ref b1), (.ref b1)])) _
    refine XT.iconstV X1.here hx rfl (0 : Int32) (hb hby at_6) (by decide) ?_
    show Steps p.tables e below (T1.setTop (mkF m 7 #[.val (.int p1), .val (.int p2), .val (.int p3), .val (.int p4), .unset, .unset, .unset, .unset, .unset, .unset, .unset, .unset] [(.int (0 : Int32)), (.int (0 : Int32)), (.ref b1), (.ref b1)])) _
    refine st2 _ ?_
    show Steps p.tables e below (T2.setTop (mkF m 8 #[.val (.int p1), .val (.int p2), .val (.int p3), .val (.int p4), .unset, .unset, .unset, .unset, .unset, .unset, .unset, .unset] [(.ref b1)])) _
    refine XS.dup X2.here hx rfl (hb hby at_8) rfl rfl ?_
    show Steps p.tables e below (T2.setTop (mkF m 9 #[.val (.int p1), .val (.int p2), .val (.int p3), .val (.int p4), .unset, .unset, .unset, .unset, .unset, .unset, .unset, .unset] [(.ref b1), (.ref b1)])) _
    refine XT.iconstV X2.here hx rfl (1 : Int32) (hb hby at_9) (by decide) ?_
    show Steps p.tables e below (T2.setTop (mkF m 10 #[.val (.int p1), .val (.int p2), .val (.int p3), .val (.int p4), .unset, .unset, .unset, .unset, .unset, .unset, .unset, .unset] [(.int (1 : Int32)), (.ref b1), (.ref b1)])) _
    refine X2.ldcInt hx hown (mvT hZ (hw _ (List.mem_of_getElem? (i := 1) rfl))) (g := (mkF m 10 #[.val (.int p1), .val (.int p2), .val (.int p3), .val (.int p4), .unset, .unset, .unset, .unset, .unset, .unset, .unset, .unset] [(.int (1 : Int32)), (.ref b1), (.ref b1)])) rfl (hb hby at_10) _ ?_
    show Steps p.tables e below (T2.setTop (mkF m 12 #[.val (.int p1), .val (.int p2), .val (.int p3), .val (.int p4), .unset, .unset, .unset, .unset, .unset, .unset, .unset, .unset] [(.int (999999999 : Int32)), (.int (1 : Int32)), (.ref b1), (.ref b1)])) _
    refine st3 _ ?_
    show Steps p.tables e below (T3.setTop (mkF m 13 #[.val (.int p1), .val (.int p2), .val (.int p3), .val (.int p4), .unset, .unset, .unset, .unset, .unset, .unset, .unset, .unset] [(.ref b1)])) _
    refine XS.dup X3.here hx rfl (hb hby at_13) rfl rfl ?_
    show Steps p.tables e below (T3.setTop (mkF m 14 #[.val (.int p1), .val (.int p2), .val (.int p3), .val (.int p4), .unset, .unset, .unset, .unset, .unset, .unset, .unset, .unset] [(.ref b1), (.ref b1)])) _
    refine XT.iconstV X3.here hx rfl (2 : Int32) (hb hby at_14) (by decide) ?_
    show Steps p.tables e below (T3.setTop (mkF m 15 #[.val (.int p1), .val (.int p2), .val (.int p3), .val (.int p4), .unset, .unset, .unset, .unset, .unset, .unset, .unset, .unset] [(.int (2 : Int32)), (.ref b1), (.ref b1)])) _
    refine XT.sipushV X3.here hx rfl (31622 : Int32) (hb hby at_15) (by decide) ?_
    exact k)
  obtain ⟨cl5, Ar5, q5, S5, n5', H5, G5⟩ := id V3
  have hin5 : ¬ ((2 : Int32) < 0 ∨ cl5.slots.size ≤ ((2 : Int32)).toNatClampNeg) := inb_of S5 ⟨by decide, by decide⟩
  obtain ⟨T5, h5, X5, e5, W5, st5⟩ := stI X3 hx hZ e3 Ar5 (j := (2 : Int32)) hin5 (g := (mkF m 18 #[.val (.int p1), .val (.int p2), .val (.int p3), .val (.int p4), .unset, .unset, .unset, .unset, .unset, .unset, .unset, .unset] [(.int (31622 : Int32)), (.int (2 : Int32)), (.ref b1), (.ref b1)])) rfl rfl (hb hby at_18)
  have V5 : Arv Z h5 b1 k1 .int (30 : Int32) [(.int (0 : Int32)), (.int (999999999 : Int32)), (.int (31622 : Int32)), (.int (0 : Int32)), (.int (0 : Int32)), (.int (0 : Int32)), (.int (0 : Int32)), (.int (0 : Int32)), (.int (0 : Int32)), (.int (0 : Int32)), (.int (0 : Int32)), (.int (0 : Int32)), (.int (0 : Int32)), (.int (0 : Int32)), (.int (0 : Int32)), (.int (0 : Int32)), (.int (0 : Int32)), (.int (0 : Int32)), (.int (0 : Int32)), (.int (0 : Int32)), (.int (0 : Int32)), (.int (0 : Int32)), (.int (0 : Int32)), (.int (0 : Int32)), (.int (0 : Int32)), (.int (0 : Int32)), (.int (0 : Int32)), (.int (0 : Int32)), (.int (0 : Int32)), (.int (0 : Int32))] (.int (0 : Int32)) := Arv.set Ar5 q5 S5 n5' H5 G5 rfl W5 2 rfl (Nat.le_of_ble_eq_true rfl)
  have O5 := own_ext_wr O3 W5 z_b1
  have N5 := Fr.snoc X5 N3 g_b1
  obtain ⟨cl6, Ar6, q6, S6, n6', H6, G6⟩ := id V5
  have hin6 : ¬ ((3 : Int32) < 0 ∨ cl6.slots.size ≤ ((3 : Int32)).toNatClampNeg) := inb_of S6 ⟨by decide, by decide⟩
  obtain ⟨T6, h6, X6, e6, W6, st6⟩ := stI X5 hx hZ e5 Ar6 (j := (3 : Int32)) hin6 (g := (mkF m 24 #[.val (.int p1), .val (.int p2), .val (.int p3), .val (.int p4), .unset, .unset, .unset, .unset, .unset, .unset, .unset, .unset] [(.int (999 : Int32)), (.int (3 : Int32)), (.ref b1), (.ref b1)])) rfl rfl (hb hby at_24)
  have V6 : Arv Z h6 b1 k1 .int (30 : Int32) [(.int (0 : Int32)), (.int (999999999 : Int32)), (.int (31622 : Int32)), (.int (999 : Int32)), (.int (0 : Int32)), (.int (0 : Int32)), (.int (0 : Int32)), (.int (0 : Int32)), (.int (0 : Int32)), (.int (0 : Int32)), (.int (0 : Int32)), (.int (0 : Int32)), (.int (0 : Int32)), (.int (0 : Int32)), (.int (0 : Int32)), (.int (0 : Int32)), (.int (0 : Int32)), (.int (0 : Int32)), (.int (0 : Int32)), (.int (0 : Int32)), (.int (0 : Int32)), (.int (0 : Int32)), (.int (0 : Int32)), (.int (0 : Int32)), (.int (0 : Int32)), (.int (0 : Int32)), (.int (0 : Int32)), (.int (0 : Int32)), (.int (0 : Int32)), (.int (0 : Int32))] (.int (0 : Int32)) := Arv.set Ar6 q6 S6 n6' H6 G6 rfl W6 3 rfl (Nat.le_of_ble_eq_true rfl)
  have O6 := own_ext_wr O5 W6 z_b1
  have N6 := Fr.snoc X6 N5 g_b1
  obtain ⟨cl7, Ar7, q7, S7, n7', H7, G7⟩ := id V6
  have hin7 : ¬ ((4 : Int32) < 0 ∨ cl7.slots.size ≤ ((4 : Int32)).toNatClampNeg) := inb_of S7 ⟨by decide, by decide⟩
  obtain ⟨T7, h7, X7, e7, W7, st7⟩ := stI X6 hx hZ e6 Ar7 (j := (4 : Int32)) hin7 (g := (mkF m 30 #[.val (.int p1), .val (.int p2), .val (.int p3), .val (.int p4), .unset, .unset, .unset, .unset, .unset, .unset, .unset, .unset] [(.int (177 : Int32)), (.int (4 : Int32)), (.ref b1), (.ref b1)])) rfl rfl (hb hby at_30)
  have V7 : Arv Z h7 b1 k1 .int (30 : Int32) [(.int (0 : Int32)), (.int (999999999 : Int32)), (.int (31622 : Int32)), (.int (999 : Int32)), (.int (177 : Int32)), (.int (0 : Int32)), (.int (0 : Int32)), (.int (0 : Int32)), (.int (0 : Int32)), (.int (0 : Int32)), (.int (0 : Int32)), (.int (0 : Int32)), (.int (0 : Int32)), (.int (0 : Int32)), (.int (0 : Int32)), (.int (0 : Int32)), (.int (0 : Int32)), (.int (0 : Int32)), (.int (0 : Int32)), (.int (0 : Int32)), (.int (0 : Int32)), (.int (0 : Int32)), (.int (0 : Int32)), (.int (0 : Int32)), (.int (0 : Int32)), (.int (0 : Int32)), (.int (0 : Int32)), (.int (0 : Int32)), (.int (0 : Int32)), (.int (0 : Int32))] (.int (0 : Int32)) := Arv.set Ar7 q7 S7 n7' H7 G7 rfl W7 4 rfl (Nat.le_of_ble_eq_true rfl)
  have O7 := own_ext_wr O6 W7 z_b1
  have N7 := Fr.snoc X7 N6 g_b1
  obtain ⟨cl8, Ar8, q8, S8, n8', H8, G8⟩ := id V7
  have hin8 : ¬ ((5 : Int32) < 0 ∨ cl8.slots.size ≤ ((5 : Int32)).toNatClampNeg) := inb_of S8 ⟨by decide, by decide⟩
  obtain ⟨T8, h8, X8, e8, W8, st8⟩ := stI X7 hx hZ e7 Ar8 (j := (5 : Int32)) hin8 (g := (mkF m 35 #[.val (.int p1), .val (.int p2), .val (.int p3), .val (.int p4), .unset, .unset, .unset, .unset, .unset, .unset, .unset, .unset] [(.int (63 : Int32)), (.int (5 : Int32)), (.ref b1), (.ref b1)])) rfl rfl (hb hby at_35)
  have V8 : Arv Z h8 b1 k1 .int (30 : Int32) [(.int (0 : Int32)), (.int (999999999 : Int32)), (.int (31622 : Int32)), (.int (999 : Int32)), (.int (177 : Int32)), (.int (63 : Int32)), (.int (0 : Int32)), (.int (0 : Int32)), (.int (0 : Int32)), (.int (0 : Int32)), (.int (0 : Int32)), (.int (0 : Int32)), (.int (0 : Int32)), (.int (0 : Int32)), (.int (0 : Int32)), (.int (0 : Int32)), (.int (0 : Int32)), (.int (0 : Int32)), (.int (0 : Int32)), (.int (0 : Int32)), (.int (0 : Int32)), (.int (0 : Int32)), (.int (0 : Int32)), (.int (0 : Int32)), (.int (0 : Int32)), (.int (0 : Int32)), (.int (0 : Int32)), (.int (0 : Int32)), (.int (0 : Int32)), (.int (0 : Int32))] (.int (0 : Int32)) := Arv.set Ar8 q8 S8 n8' H8 G8 rfl W8 5 rfl (Nat.le_of_ble_eq_true rfl)
  have O8 := own_ext_wr O7 W8 z_b1
  have N8 := Fr.snoc X8 N7 g_b1
  have pre9 : ∀ t, Steps p.tables e below (T8.setTop (mkF m 36 #[.val (.int p1), .val (.int p2), .val (.int p3), .val (.int p4), .unset, .unset, .unset, .unset, .unset, .unset, .unset, .unset] [(.ref b1)])) t → Steps p.tables e below (s₁.setTop (entryFrame m #[(.int p1), (.int p2), (.int p3), (.int p4)] maxLocals)) t := fun t k => pre4 t (by
    show Steps p.tables e below (T3.setTop (mkF m 18 #[.val (.int p1), .val (.int p2), .val (.int p3), .val (.int p4), .unset, .unset, .unset, .unset, .unset, .unset, .unset, .unset] [(.int (31622 : Int32)), (.int (2 : Int32)), (.ref b1), (.ref b1)])) _
    refine st5 _ ?_
    show Steps p.tables e below (T5.setTop (mkF m 19 #[.val (.int p1), .val (.int p2), .val (.int p3), .val (.int p4), .unset, .unset, .unset, .unset, .unset, .unset, .unset, .unset] [(.ref b1)])) _
    refine XS.dup X5.here hx rfl (hb hby at_19) rfl rfl ?_
    show Steps p.tables e below (T5.setTop (mkF m 20 #[.val (.int p1), .val (.int p2), .val (.int p3), .val (.int p4), .unset, .unset, .unset, .unset, .unset, .unset, .unset, .unset] [(.ref b1), (.ref b1)])) _
    refine XT.iconstV X5.here hx rfl (3 : Int32) (hb hby at_20) (by decide) ?_
    show Steps p.tables e below (T5.setTop (mkF m 21 #[.val (.int p1), .val (.int p2), .val (.int p3), .val (.int p4), .unset, .unset, .unset, .unset, .unset, .unset, .unset, .unset] [(.int (3 : Int32)), (.ref b1), (.ref b1)])) _
    refine XT.sipushV X5.here hx rfl (999 : Int32) (hb hby at_21) (by decide) ?_
    show Steps p.tables e below (T5.setTop (mkF m 24 #[.val (.int p1), .val (.int p2), .val (.int p3), .val (.int p4), .unset, .unset, .unset, .unset, .unset, .unset, .unset, .unset] [(.int (999 : Int32)), (.int (3 : Int32)), (.ref b1), (.ref b1)])) _
    refine st6 _ ?_
    show Steps p.tables e below (T6.setTop (mkF m 25 #[.val (.int p1), .val (.int p2), .val (.int p3), .val (.int p4), .unset, .unset, .unset, .unset, .unset, .unset, .unset, .unset] [(.ref b1)])) _
    refine XS.dup X6.here hx rfl (hb hby at_25) rfl rfl ?_
    show Steps p.tables e below (T6.setTop (mkF m 26 #[.val (.int p1), .val (.int p2), .val (.int p3), .val (.int p4), .unset, .unset, .unset, .unset, .unset, .unset, .unset, .unset] [(.ref b1), (.ref b1)])) _
    refine XT.iconstV X6.here hx rfl (4 : Int32) (hb hby at_26) (by decide) ?_
    show Steps p.tables e below (T6.setTop (mkF m 27 #[.val (.int p1), .val (.int p2), .val (.int p3), .val (.int p4), .unset, .unset, .unset, .unset, .unset, .unset, .unset, .unset] [(.int (4 : Int32)), (.ref b1), (.ref b1)])) _
    refine XT.sipushV X6.here hx rfl (177 : Int32) (hb hby at_27) (by decide) ?_
    show Steps p.tables e below (T6.setTop (mkF m 30 #[.val (.int p1), .val (.int p2), .val (.int p3), .val (.int p4), .unset, .unset, .unset, .unset, .unset, .unset, .unset, .unset] [(.int (177 : Int32)), (.int (4 : Int32)), (.ref b1), (.ref b1)])) _
    refine st7 _ ?_
    show Steps p.tables e below (T7.setTop (mkF m 31 #[.val (.int p1), .val (.int p2), .val (.int p3), .val (.int p4), .unset, .unset, .unset, .unset, .unset, .unset, .unset, .unset] [(.ref b1)])) _
    refine XS.dup X7.here hx rfl (hb hby at_31) rfl rfl ?_
    show Steps p.tables e below (T7.setTop (mkF m 32 #[.val (.int p1), .val (.int p2), .val (.int p3), .val (.int p4), .unset, .unset, .unset, .unset, .unset, .unset, .unset, .unset] [(.ref b1), (.ref b1)])) _
    refine XT.iconstV X7.here hx rfl (5 : Int32) (hb hby at_32) (by decide) ?_
    show Steps p.tables e below (T7.setTop (mkF m 33 #[.val (.int p1), .val (.int p2), .val (.int p3), .val (.int p4), .unset, .unset, .unset, .unset, .unset, .unset, .unset, .unset] [(.int (5 : Int32)), (.ref b1), (.ref b1)])) _
    refine XT.bipushV X7.here hx rfl (63 : Int32) (hb hby at_33) (by decide) ?_
    show Steps p.tables e below (T7.setTop (mkF m 35 #[.val (.int p1), .val (.int p2), .val (.int p3), .val (.int p4), .unset, .unset, .unset, .unset, .unset, .unset, .unset, .unset] [(.int (63 : Int32)), (.int (5 : Int32)), (.ref b1), (.ref b1)])) _
    refine st8 _ ?_
    exact k)
  obtain ⟨cl10, Ar10, q10, S10, n10', H10, G10⟩ := id V8
  have hin10 : ¬ ((6 : Int32) < 0 ∨ cl10.slots.size ≤ ((6 : Int32)).toNatClampNeg) := inb_of S10 ⟨by decide, by decide⟩
  obtain ⟨T10, h10, X10, e10, W10, st10⟩ := stI X8 hx hZ e8 Ar10 (j := (6 : Int32)) hin10 (g := (mkF m 41 #[.val (.int p1), .val (.int p2), .val (.int p3), .val (.int p4), .unset, .unset, .unset, .unset, .unset, .unset, .unset, .unset] [(.int (31 : Int32)), (.int (6 : Int32)), (.ref b1), (.ref b1)])) rfl rfl (hb hby at_41)
  have V10 : Arv Z h10 b1 k1 .int (30 : Int32) [(.int (0 : Int32)), (.int (999999999 : Int32)), (.int (31622 : Int32)), (.int (999 : Int32)), (.int (177 : Int32)), (.int (63 : Int32)), (.int (31 : Int32)), (.int (0 : Int32)), (.int (0 : Int32)), (.int (0 : Int32)), (.int (0 : Int32)), (.int (0 : Int32)), (.int (0 : Int32)), (.int (0 : Int32)), (.int (0 : Int32)), (.int (0 : Int32)), (.int (0 : Int32)), (.int (0 : Int32)), (.int (0 : Int32)), (.int (0 : Int32)), (.int (0 : Int32)), (.int (0 : Int32)), (.int (0 : Int32)), (.int (0 : Int32)), (.int (0 : Int32)), (.int (0 : Int32)), (.int (0 : Int32)), (.int (0 : Int32)), (.int (0 : Int32)), (.int (0 : Int32))] (.int (0 : Int32)) := Arv.set Ar10 q10 S10 n10' H10 G10 rfl W10 6 rfl (Nat.le_of_ble_eq_true rfl)
  have O10 := own_ext_wr O8 W10 z_b1
  have N10 := Fr.snoc X10 N8 g_b1
  obtain ⟨cl11, Ar11, q11, S11, n11', H11, G11⟩ := id V10
  have hin11 : ¬ ((7 : Int32) < 0 ∨ cl11.slots.size ≤ ((7 : Int32)).toNatClampNeg) := inb_of S11 ⟨by decide, by decide⟩
  obtain ⟨T11, h11, X11, e11, W11, st11⟩ := stI X10 hx hZ e10 Ar11 (j := (7 : Int32)) hin11 (g := (mkF m 47 #[.val (.int p1), .val (.int p2), .val (.int p3), .val (.int p4), .unset, .unset, .unset, .unset, .unset, .unset, .unset, .unset] [(.int (19 : Int32)), (.int (7 : Int32)), (.ref b1), (.ref b1)])) rfl rfl (hb hby at_47)
  have V11 : Arv Z h11 b1 k1 .int (30 : Int32) [(.int (0 : Int32)), (.int (999999999 : Int32)), (.int (31622 : Int32)), (.int (999 : Int32)), (.int (177 : Int32)), (.int (63 : Int32)), (.int (31 : Int32)), (.int (19 : Int32)), (.int (0 : Int32)), (.int (0 : Int32)), (.int (0 : Int32)), (.int (0 : Int32)), (.int (0 : Int32)), (.int (0 : Int32)), (.int (0 : Int32)), (.int (0 : Int32)), (.int (0 : Int32)), (.int (0 : Int32)), (.int (0 : Int32)), (.int (0 : Int32)), (.int (0 : Int32)), (.int (0 : Int32)), (.int (0 : Int32)), (.int (0 : Int32)), (.int (0 : Int32)), (.int (0 : Int32)), (.int (0 : Int32)), (.int (0 : Int32)), (.int (0 : Int32)), (.int (0 : Int32))] (.int (0 : Int32)) := Arv.set Ar11 q11 S11 n11' H11 G11 rfl W11 7 rfl (Nat.le_of_ble_eq_true rfl)
  have O11 := own_ext_wr O10 W11 z_b1
  have N11 := Fr.snoc X11 N10 g_b1
  obtain ⟨cl12, Ar12, q12, S12, n12', H12, G12⟩ := id V11
  have hin12 : ¬ ((8 : Int32) < 0 ∨ cl12.slots.size ≤ ((8 : Int32)).toNatClampNeg) := inb_of S12 ⟨by decide, by decide⟩
  obtain ⟨T12, h12, X12, e12, W12, st12⟩ := stI X11 hx hZ e11 Ar12 (j := (8 : Int32)) hin12 (g := (mkF m 53 #[.val (.int p1), .val (.int p2), .val (.int p3), .val (.int p4), .unset, .unset, .unset, .unset, .unset, .unset, .unset, .unset] [(.int (13 : Int32)), (.int (8 : Int32)), (.ref b1), (.ref b1)])) rfl rfl (hb hby at_53)
  have V12 : Arv Z h12 b1 k1 .int (30 : Int32) [(.int (0 : Int32)), (.int (999999999 : Int32)), (.int (31622 : Int32)), (.int (999 : Int32)), (.int (177 : Int32)), (.int (63 : Int32)), (.int (31 : Int32)), (.int (19 : Int32)), (.int (13 : Int32)), (.int (0 : Int32)), (.int (0 : Int32)), (.int (0 : Int32)), (.int (0 : Int32)), (.int (0 : Int32)), (.int (0 : Int32)), (.int (0 : Int32)), (.int (0 : Int32)), (.int (0 : Int32)), (.int (0 : Int32)), (.int (0 : Int32)), (.int (0 : Int32)), (.int (0 : Int32)), (.int (0 : Int32)), (.int (0 : Int32)), (.int (0 : Int32)), (.int (0 : Int32)), (.int (0 : Int32)), (.int (0 : Int32)), (.int (0 : Int32)), (.int (0 : Int32))] (.int (0 : Int32)) := Arv.set Ar12 q12 S12 n12' H12 G12 rfl W12 8 rfl (Nat.le_of_ble_eq_true rfl)
  have O12 := own_ext_wr O11 W12 z_b1
  have N12 := Fr.snoc X12 N11 g_b1
  have pre13 : ∀ t, Steps p.tables e below (T12.setTop (mkF m 55 #[.val (.int p1), .val (.int p2), .val (.int p3), .val (.int p4), .unset, .unset, .unset, .unset, .unset, .unset, .unset, .unset] [(.ref b1), (.ref b1)])) t → Steps p.tables e below (s₁.setTop (entryFrame m #[(.int p1), (.int p2), (.int p3), (.int p4)] maxLocals)) t := fun t k => pre9 t (by
    show Steps p.tables e below (T8.setTop (mkF m 36 #[.val (.int p1), .val (.int p2), .val (.int p3), .val (.int p4), .unset, .unset, .unset, .unset, .unset, .unset, .unset, .unset] [(.ref b1)])) _
    refine XS.dup X8.here hx rfl (hb hby at_36) rfl rfl ?_
    show Steps p.tables e below (T8.setTop (mkF m 37 #[.val (.int p1), .val (.int p2), .val (.int p3), .val (.int p4), .unset, .unset, .unset, .unset, .unset, .unset, .unset, .unset] [(.ref b1), (.ref b1)])) _
    refine XT.bipushV X8.here hx rfl (6 : Int32) (hb hby at_37) (by decide) ?_
    show Steps p.tables e below (T8.setTop (mkF m 39 #[.val (.int p1), .val (.int p2), .val (.int p3), .val (.int p4), .unset, .unset, .unset, .unset, .unset, .unset, .unset, .unset] [(.int (6 : Int32)), (.ref b1), (.ref b1)])) _
    refine XT.bipushV X8.here hx rfl (31 : Int32) (hb hby at_39) (by decide) ?_
    show Steps p.tables e below (T8.setTop (mkF m 41 #[.val (.int p1), .val (.int p2), .val (.int p3), .val (.int p4), .unset, .unset, .unset, .unset, .unset, .unset, .unset, .unset] [(.int (31 : Int32)), (.int (6 : Int32)), (.ref b1), (.ref b1)])) _
    refine st10 _ ?_
    show Steps p.tables e below (T10.setTop (mkF m 42 #[.val (.int p1), .val (.int p2), .val (.int p3), .val (.int p4), .unset, .unset, .unset, .unset, .unset, .unset, .unset, .unset] [(.ref b1)])) _
    refine XS.dup X10.here hx rfl (hb hby at_42) rfl rfl ?_
    show Steps p.tables e below (T10.setTop (mkF m 43 #[.val (.int p1), .val (.int p2), .val (.int p3), .val (.int p4), .unset, .unset, .unset, .unset, .unset, .unset, .unset, .unset] [(.ref b1), (.ref b1)])) _
    refine XT.bipushV X10.here hx rfl (7 : Int32) (hb hby at_43) (by decide) ?_
    show Steps p.tables e below (T10.setTop (mkF m 45 #[.val (.int p1), .val (.int p2), .val (.int p3), .val (.int p4), .unset, .unset, .unset, .unset, .unset, .unset, .unset, .unset] [(.int (7 : Int32)), (.ref b1), (.ref b1)])) _
    refine XT.bipushV X10.here hx rfl (19 : Int32) (hb hby at_45) (by decide) ?_
    show Steps p.tables e below (T10.setTop (mkF m 47 #[.val (.int p1), .val (.int p2), .val (.int p3), .val (.int p4), .unset, .unset, .unset, .unset, .unset, .unset, .unset, .unset] [(.int (19 : Int32)), (.int (7 : Int32)), (.ref b1), (.ref b1)])) _
    refine st11 _ ?_
    show Steps p.tables e below (T11.setTop (mkF m 48 #[.val (.int p1), .val (.int p2), .val (.int p3), .val (.int p4), .unset, .unset, .unset, .unset, .unset, .unset, .unset, .unset] [(.ref b1)])) _
    refine XS.dup X11.here hx rfl (hb hby at_48) rfl rfl ?_
    show Steps p.tables e below (T11.setTop (mkF m 49 #[.val (.int p1), .val (.int p2), .val (.int p3), .val (.int p4), .unset, .unset, .unset, .unset, .unset, .unset, .unset, .unset] [(.ref b1), (.ref b1)])) _
    refine XT.bipushV X11.here hx rfl (8 : Int32) (hb hby at_49) (by decide) ?_
    show Steps p.tables e below (T11.setTop (mkF m 51 #[.val (.int p1), .val (.int p2), .val (.int p3), .val (.int p4), .unset, .unset, .unset, .unset, .unset, .unset, .unset, .unset] [(.int (8 : Int32)), (.ref b1), (.ref b1)])) _
    refine XT.bipushV X11.here hx rfl (13 : Int32) (hb hby at_51) (by decide) ?_
    show Steps p.tables e below (T11.setTop (mkF m 53 #[.val (.int p1), .val (.int p2), .val (.int p3), .val (.int p4), .unset, .unset, .unset, .unset, .unset, .unset, .unset, .unset] [(.int (13 : Int32)), (.int (8 : Int32)), (.ref b1), (.ref b1)])) _
    refine st12 _ ?_
    show Steps p.tables e below (T12.setTop (mkF m 54 #[.val (.int p1), .val (.int p2), .val (.int p3), .val (.int p4), .unset, .unset, .unset, .unset, .unset, .unset, .unset, .unset] [(.ref b1)])) _
    refine XS.dup X12.here hx rfl (hb hby at_54) rfl rfl ?_
    exact k)
  obtain ⟨cl14, Ar14, q14, S14, n14', H14, G14⟩ := id V12
  have hin14 : ¬ ((9 : Int32) < 0 ∨ cl14.slots.size ≤ ((9 : Int32)).toNatClampNeg) := inb_of S14 ⟨by decide, by decide⟩
  obtain ⟨T14, h14, X14, e14, W14, st14⟩ := stI X12 hx hZ e12 Ar14 (j := (9 : Int32)) hin14 (g := (mkF m 59 #[.val (.int p1), .val (.int p2), .val (.int p3), .val (.int p4), .unset, .unset, .unset, .unset, .unset, .unset, .unset, .unset] [(.int (9 : Int32)), (.int (9 : Int32)), (.ref b1), (.ref b1)])) rfl rfl (hb hby at_59)
  have V14 : Arv Z h14 b1 k1 .int (30 : Int32) [(.int (0 : Int32)), (.int (999999999 : Int32)), (.int (31622 : Int32)), (.int (999 : Int32)), (.int (177 : Int32)), (.int (63 : Int32)), (.int (31 : Int32)), (.int (19 : Int32)), (.int (13 : Int32)), (.int (9 : Int32)), (.int (0 : Int32)), (.int (0 : Int32)), (.int (0 : Int32)), (.int (0 : Int32)), (.int (0 : Int32)), (.int (0 : Int32)), (.int (0 : Int32)), (.int (0 : Int32)), (.int (0 : Int32)), (.int (0 : Int32)), (.int (0 : Int32)), (.int (0 : Int32)), (.int (0 : Int32)), (.int (0 : Int32)), (.int (0 : Int32)), (.int (0 : Int32)), (.int (0 : Int32)), (.int (0 : Int32)), (.int (0 : Int32)), (.int (0 : Int32))] (.int (0 : Int32)) := Arv.set Ar14 q14 S14 n14' H14 G14 rfl W14 9 rfl (Nat.le_of_ble_eq_true rfl)
  have O14 := own_ext_wr O12 W14 z_b1
  have N14 := Fr.snoc X14 N12 g_b1
  obtain ⟨cl15, Ar15, q15, S15, n15', H15, G15⟩ := id V14
  have hin15 : ¬ ((10 : Int32) < 0 ∨ cl15.slots.size ≤ ((10 : Int32)).toNatClampNeg) := inb_of S15 ⟨by decide, by decide⟩
  obtain ⟨T15, h15, X15, e15, W15, st15⟩ := stI X14 hx hZ e14 Ar15 (j := (10 : Int32)) hin15 (g := (mkF m 65 #[.val (.int p1), .val (.int p2), .val (.int p3), .val (.int p4), .unset, .unset, .unset, .unset, .unset, .unset, .unset, .unset] [(.int (7 : Int32)), (.int (10 : Int32)), (.ref b1), (.ref b1)])) rfl rfl (hb hby at_65)
  have V15 : Arv Z h15 b1 k1 .int (30 : Int32) [(.int (0 : Int32)), (.int (999999999 : Int32)), (.int (31622 : Int32)), (.int (999 : Int32)), (.int (177 : Int32)), (.int (63 : Int32)), (.int (31 : Int32)), (.int (19 : Int32)), (.int (13 : Int32)), (.int (9 : Int32)), (.int (7 : Int32)), (.int (0 : Int32)), (.int (0 : Int32)), (.int (0 : Int32)), (.int (0 : Int32)), (.int (0 : Int32)), (.int (0 : Int32)), (.int (0 : Int32)), (.int (0 : Int32)), (.int (0 : Int32)), (.int (0 : Int32)), (.int (0 : Int32)), (.int (0 : Int32)), (.int (0 : Int32)), (.int (0 : Int32)), (.int (0 : Int32)), (.int (0 : Int32)), (.int (0 : Int32)), (.int (0 : Int32)), (.int (0 : Int32))] (.int (0 : Int32)) := Arv.set Ar15 q15 S15 n15' H15 G15 rfl W15 10 rfl (Nat.le_of_ble_eq_true rfl)
  have O15 := own_ext_wr O14 W15 z_b1
  have N15 := Fr.snoc X15 N14 g_b1
  obtain ⟨cl16, Ar16, q16, S16, n16', H16, G16⟩ := id V15
  have hin16 : ¬ ((11 : Int32) < 0 ∨ cl16.slots.size ≤ ((11 : Int32)).toNatClampNeg) := inb_of S16 ⟨by decide, by decide⟩
  obtain ⟨T16, h16, X16, e16, W16, st16⟩ := stI X15 hx hZ e15 Ar16 (j := (11 : Int32)) hin16 (g := (mkF m 71 #[.val (.int p1), .val (.int p2), .val (.int p3), .val (.int p4), .unset, .unset, .unset, .unset, .unset, .unset, .unset, .unset] [(.int (6 : Int32)), (.int (11 : Int32)), (.ref b1), (.ref b1)])) rfl rfl (hb hby at_71)
  have V16 : Arv Z h16 b1 k1 .int (30 : Int32) [(.int (0 : Int32)), (.int (999999999 : Int32)), (.int (31622 : Int32)), (.int (999 : Int32)), (.int (177 : Int32)), (.int (63 : Int32)), (.int (31 : Int32)), (.int (19 : Int32)), (.int (13 : Int32)), (.int (9 : Int32)), (.int (7 : Int32)), (.int (6 : Int32)), (.int (0 : Int32)), (.int (0 : Int32)), (.int (0 : Int32)), (.int (0 : Int32)), (.int (0 : Int32)), (.int (0 : Int32)), (.int (0 : Int32)), (.int (0 : Int32)), (.int (0 : Int32)), (.int (0 : Int32)), (.int (0 : Int32)), (.int (0 : Int32)), (.int (0 : Int32)), (.int (0 : Int32)), (.int (0 : Int32)), (.int (0 : Int32)), (.int (0 : Int32)), (.int (0 : Int32))] (.int (0 : Int32)) := Arv.set Ar16 q16 S16 n16' H16 G16 rfl W16 11 rfl (Nat.le_of_ble_eq_true rfl)
  have O16 := own_ext_wr O15 W16 z_b1
  have N16 := Fr.snoc X16 N15 g_b1
  have pre17 : ∀ t, Steps p.tables e below (T16.setTop (mkF m 75 #[.val (.int p1), .val (.int p2), .val (.int p3), .val (.int p4), .unset, .unset, .unset, .unset, .unset, .unset, .unset, .unset] [(.int (12 : Int32)), (.ref b1), (.ref b1)])) t → Steps p.tables e below (s₁.setTop (entryFrame m #[(.int p1), (.int p2), (.int p3), (.int p4)] maxLocals)) t := fun t k => pre13 t (by
    show Steps p.tables e below (T12.setTop (mkF m 55 #[.val (.int p1), .val (.int p2), .val (.int p3), .val (.int p4), .unset, .unset, .unset, .unset, .unset, .unset, .unset, .unset] [(.ref b1), (.ref b1)])) _
    refine XT.bipushV X12.here hx rfl (9 : Int32) (hb hby at_55) (by decide) ?_
    show Steps p.tables e below (T12.setTop (mkF m 57 #[.val (.int p1), .val (.int p2), .val (.int p3), .val (.int p4), .unset, .unset, .unset, .unset, .unset, .unset, .unset, .unset] [(.int (9 : Int32)), (.ref b1), (.ref b1)])) _
    refine XT.bipushV X12.here hx rfl (9 : Int32) (hb hby at_57) (by decide) ?_
    show Steps p.tables e below (T12.setTop (mkF m 59 #[.val (.int p1), .val (.int p2), .val (.int p3), .val (.int p4), .unset, .unset, .unset, .unset, .unset, .unset, .unset, .unset] [(.int (9 : Int32)), (.int (9 : Int32)), (.ref b1), (.ref b1)])) _
    refine st14 _ ?_
    show Steps p.tables e below (T14.setTop (mkF m 60 #[.val (.int p1), .val (.int p2), .val (.int p3), .val (.int p4), .unset, .unset, .unset, .unset, .unset, .unset, .unset, .unset] [(.ref b1)])) _
    refine XS.dup X14.here hx rfl (hb hby at_60) rfl rfl ?_
    show Steps p.tables e below (T14.setTop (mkF m 61 #[.val (.int p1), .val (.int p2), .val (.int p3), .val (.int p4), .unset, .unset, .unset, .unset, .unset, .unset, .unset, .unset] [(.ref b1), (.ref b1)])) _
    refine XT.bipushV X14.here hx rfl (10 : Int32) (hb hby at_61) (by decide) ?_
    show Steps p.tables e below (T14.setTop (mkF m 63 #[.val (.int p1), .val (.int p2), .val (.int p3), .val (.int p4), .unset, .unset, .unset, .unset, .unset, .unset, .unset, .unset] [(.int (10 : Int32)), (.ref b1), (.ref b1)])) _
    refine XT.bipushV X14.here hx rfl (7 : Int32) (hb hby at_63) (by decide) ?_
    show Steps p.tables e below (T14.setTop (mkF m 65 #[.val (.int p1), .val (.int p2), .val (.int p3), .val (.int p4), .unset, .unset, .unset, .unset, .unset, .unset, .unset, .unset] [(.int (7 : Int32)), (.int (10 : Int32)), (.ref b1), (.ref b1)])) _
    refine st15 _ ?_
    show Steps p.tables e below (T15.setTop (mkF m 66 #[.val (.int p1), .val (.int p2), .val (.int p3), .val (.int p4), .unset, .unset, .unset, .unset, .unset, .unset, .unset, .unset] [(.ref b1)])) _
    refine XS.dup X15.here hx rfl (hb hby at_66) rfl rfl ?_
    show Steps p.tables e below (T15.setTop (mkF m 67 #[.val (.int p1), .val (.int p2), .val (.int p3), .val (.int p4), .unset, .unset, .unset, .unset, .unset, .unset, .unset, .unset] [(.ref b1), (.ref b1)])) _
    refine XT.bipushV X15.here hx rfl (11 : Int32) (hb hby at_67) (by decide) ?_
    show Steps p.tables e below (T15.setTop (mkF m 69 #[.val (.int p1), .val (.int p2), .val (.int p3), .val (.int p4), .unset, .unset, .unset, .unset, .unset, .unset, .unset, .unset] [(.int (11 : Int32)), (.ref b1), (.ref b1)])) _
    refine XT.bipushV X15.here hx rfl (6 : Int32) (hb hby at_69) (by decide) ?_
    show Steps p.tables e below (T15.setTop (mkF m 71 #[.val (.int p1), .val (.int p2), .val (.int p3), .val (.int p4), .unset, .unset, .unset, .unset, .unset, .unset, .unset, .unset] [(.int (6 : Int32)), (.int (11 : Int32)), (.ref b1), (.ref b1)])) _
    refine st16 _ ?_
    show Steps p.tables e below (T16.setTop (mkF m 72 #[.val (.int p1), .val (.int p2), .val (.int p3), .val (.int p4), .unset, .unset, .unset, .unset, .unset, .unset, .unset, .unset] [(.ref b1)])) _
    refine XS.dup X16.here hx rfl (hb hby at_72) rfl rfl ?_
    show Steps p.tables e below (T16.setTop (mkF m 73 #[.val (.int p1), .val (.int p2), .val (.int p3), .val (.int p4), .unset, .unset, .unset, .unset, .unset, .unset, .unset, .unset] [(.ref b1), (.ref b1)])) _
    refine XT.bipushV X16.here hx rfl (12 : Int32) (hb hby at_73) (by decide) ?_
    exact k)
  obtain ⟨cl18, Ar18, q18, S18, n18', H18, G18⟩ := id V16
  have hin18 : ¬ ((12 : Int32) < 0 ∨ cl18.slots.size ≤ ((12 : Int32)).toNatClampNeg) := inb_of S18 ⟨by decide, by decide⟩
  obtain ⟨T18, h18, X18, e18, W18, st18⟩ := stI X16 hx hZ e16 Ar18 (j := (12 : Int32)) hin18 (g := (mkF m 76 #[.val (.int p1), .val (.int p2), .val (.int p3), .val (.int p4), .unset, .unset, .unset, .unset, .unset, .unset, .unset, .unset] [(.int (5 : Int32)), (.int (12 : Int32)), (.ref b1), (.ref b1)])) rfl rfl (hb hby at_76)
  have V18 : Arv Z h18 b1 k1 .int (30 : Int32) [(.int (0 : Int32)), (.int (999999999 : Int32)), (.int (31622 : Int32)), (.int (999 : Int32)), (.int (177 : Int32)), (.int (63 : Int32)), (.int (31 : Int32)), (.int (19 : Int32)), (.int (13 : Int32)), (.int (9 : Int32)), (.int (7 : Int32)), (.int (6 : Int32)), (.int (5 : Int32)), (.int (0 : Int32)), (.int (0 : Int32)), (.int (0 : Int32)), (.int (0 : Int32)), (.int (0 : Int32)), (.int (0 : Int32)), (.int (0 : Int32)), (.int (0 : Int32)), (.int (0 : Int32)), (.int (0 : Int32)), (.int (0 : Int32)), (.int (0 : Int32)), (.int (0 : Int32)), (.int (0 : Int32)), (.int (0 : Int32)), (.int (0 : Int32)), (.int (0 : Int32))] (.int (0 : Int32)) := Arv.set Ar18 q18 S18 n18' H18 G18 rfl W18 12 rfl (Nat.le_of_ble_eq_true rfl)
  have O18 := own_ext_wr O16 W18 z_b1
  have N18 := Fr.snoc X18 N16 g_b1
  obtain ⟨cl19, Ar19, q19, S19, n19', H19, G19⟩ := id V18
  have hin19 : ¬ ((13 : Int32) < 0 ∨ cl19.slots.size ≤ ((13 : Int32)).toNatClampNeg) := inb_of S19 ⟨by decide, by decide⟩
  obtain ⟨T19, h19, X19, e19, W19, st19⟩ := stI X18 hx hZ e18 Ar19 (j := (13 : Int32)) hin19 (g := (mkF m 81 #[.val (.int p1), .val (.int p2), .val (.int p3), .val (.int p4), .unset, .unset, .unset, .unset, .unset, .unset, .unset, .unset] [(.int (4 : Int32)), (.int (13 : Int32)), (.ref b1), (.ref b1)])) rfl rfl (hb hby at_81)
  have V19 : Arv Z h19 b1 k1 .int (30 : Int32) [(.int (0 : Int32)), (.int (999999999 : Int32)), (.int (31622 : Int32)), (.int (999 : Int32)), (.int (177 : Int32)), (.int (63 : Int32)), (.int (31 : Int32)), (.int (19 : Int32)), (.int (13 : Int32)), (.int (9 : Int32)), (.int (7 : Int32)), (.int (6 : Int32)), (.int (5 : Int32)), (.int (4 : Int32)), (.int (0 : Int32)), (.int (0 : Int32)), (.int (0 : Int32)), (.int (0 : Int32)), (.int (0 : Int32)), (.int (0 : Int32)), (.int (0 : Int32)), (.int (0 : Int32)), (.int (0 : Int32)), (.int (0 : Int32)), (.int (0 : Int32)), (.int (0 : Int32)), (.int (0 : Int32)), (.int (0 : Int32)), (.int (0 : Int32)), (.int (0 : Int32))] (.int (0 : Int32)) := Arv.set Ar19 q19 S19 n19' H19 G19 rfl W19 13 rfl (Nat.le_of_ble_eq_true rfl)
  have O19 := own_ext_wr O18 W19 z_b1
  have N19 := Fr.snoc X19 N18 g_b1
  obtain ⟨cl20, Ar20, q20, S20, n20', H20, G20⟩ := id V19
  have hin20 : ¬ ((14 : Int32) < 0 ∨ cl20.slots.size ≤ ((14 : Int32)).toNatClampNeg) := inb_of S20 ⟨by decide, by decide⟩
  obtain ⟨T20, h20, X20, e20, W20, st20⟩ := stI X19 hx hZ e19 Ar20 (j := (14 : Int32)) hin20 (g := (mkF m 86 #[.val (.int p1), .val (.int p2), .val (.int p3), .val (.int p4), .unset, .unset, .unset, .unset, .unset, .unset, .unset, .unset] [(.int (4 : Int32)), (.int (14 : Int32)), (.ref b1), (.ref b1)])) rfl rfl (hb hby at_86)
  have V20 : Arv Z h20 b1 k1 .int (30 : Int32) [(.int (0 : Int32)), (.int (999999999 : Int32)), (.int (31622 : Int32)), (.int (999 : Int32)), (.int (177 : Int32)), (.int (63 : Int32)), (.int (31 : Int32)), (.int (19 : Int32)), (.int (13 : Int32)), (.int (9 : Int32)), (.int (7 : Int32)), (.int (6 : Int32)), (.int (5 : Int32)), (.int (4 : Int32)), (.int (4 : Int32)), (.int (0 : Int32)), (.int (0 : Int32)), (.int (0 : Int32)), (.int (0 : Int32)), (.int (0 : Int32)), (.int (0 : Int32)), (.int (0 : Int32)), (.int (0 : Int32)), (.int (0 : Int32)), (.int (0 : Int32)), (.int (0 : Int32)), (.int (0 : Int32)), (.int (0 : Int32)), (.int (0 : Int32)), (.int (0 : Int32))] (.int (0 : Int32)) := Arv.set Ar20 q20 S20 n20' H20 G20 rfl W20 14 rfl (Nat.le_of_ble_eq_true rfl)
  have O20 := own_ext_wr O19 W20 z_b1
  have N20 := Fr.snoc X20 N19 g_b1
  have pre21 : ∀ t, Steps p.tables e below (T20.setTop (mkF m 91 #[.val (.int p1), .val (.int p2), .val (.int p3), .val (.int p4), .unset, .unset, .unset, .unset, .unset, .unset, .unset, .unset] [(.int (3 : Int32)), (.int (15 : Int32)), (.ref b1), (.ref b1)])) t → Steps p.tables e below (s₁.setTop (entryFrame m #[(.int p1), (.int p2), (.int p3), (.int p4)] maxLocals)) t := fun t k => pre17 t (by
    show Steps p.tables e below (T16.setTop (mkF m 75 #[.val (.int p1), .val (.int p2), .val (.int p3), .val (.int p4), .unset, .unset, .unset, .unset, .unset, .unset, .unset, .unset] [(.int (12 : Int32)), (.ref b1), (.ref b1)])) _
    refine XT.iconstV X16.here hx rfl (5 : Int32) (hb hby at_75) (by decide) ?_
    show Steps p.tables e below (T16.setTop (mkF m 76 #[.val (.int p1), .val (.int p2), .val (.int p3), .val (.int p4), .unset, .unset, .unset, .unset, .unset, .unset, .unset, .unset] [(.int (5 : Int32)), (.int (12 : Int32)), (.ref b1), (.ref b1)])) _
    refine st18 _ ?_
    show Steps p.tables e below (T18.setTop (mkF m 77 #[.val (.int p1), .val (.int p2), .val (.int p3), .val (.int p4), .unset, .unset, .unset, .unset, .unset, .unset, .unset, .unset] [(.ref b1)])) _
    refine XS.dup X18.here hx rfl (hb hby at_77) rfl rfl ?_
    show Steps p.tables e below (T18.setTop (mkF m 78 #[.val (.int p1), .val (.int p2), .val (.int p3), .val (.int p4), .unset, .unset, .unset, .unset, .unset, .unset, .unset, .unset] [(.ref b1), (.ref b1)])) _
    refine XT.bipushV X18.here hx rfl (13 : Int32) (hb hby at_78) (by decide) ?_
    show Steps p.tables e below (T18.setTop (mkF m 80 #[.val (.int p1), .val (.int p2), .val (.int p3), .val (.int p4), .unset, .unset, .unset, .unset, .unset, .unset, .unset, .unset] [(.int (13 : Int32)), (.ref b1), (.ref b1)])) _
    refine XT.iconstV X18.here hx rfl (4 : Int32) (hb hby at_80) (by decide) ?_
    show Steps p.tables e below (T18.setTop (mkF m 81 #[.val (.int p1), .val (.int p2), .val (.int p3), .val (.int p4), .unset, .unset, .unset, .unset, .unset, .unset, .unset, .unset] [(.int (4 : Int32)), (.int (13 : Int32)), (.ref b1), (.ref b1)])) _
    refine st19 _ ?_
    show Steps p.tables e below (T19.setTop (mkF m 82 #[.val (.int p1), .val (.int p2), .val (.int p3), .val (.int p4), .unset, .unset, .unset, .unset, .unset, .unset, .unset, .unset] [(.ref b1)])) _
    refine XS.dup X19.here hx rfl (hb hby at_82) rfl rfl ?_
    show Steps p.tables e below (T19.setTop (mkF m 83 #[.val (.int p1), .val (.int p2), .val (.int p3), .val (.int p4), .unset, .unset, .unset, .unset, .unset, .unset, .unset, .unset] [(.ref b1), (.ref b1)])) _
    refine XT.bipushV X19.here hx rfl (14 : Int32) (hb hby at_83) (by decide) ?_
    show Steps p.tables e below (T19.setTop (mkF m 85 #[.val (.int p1), .val (.int p2), .val (.int p3), .val (.int p4), .unset, .unset, .unset, .unset, .unset, .unset, .unset, .unset] [(.int (14 : Int32)), (.ref b1), (.ref b1)])) _
    refine XT.iconstV X19.here hx rfl (4 : Int32) (hb hby at_85) (by decide) ?_
    show Steps p.tables e below (T19.setTop (mkF m 86 #[.val (.int p1), .val (.int p2), .val (.int p3), .val (.int p4), .unset, .unset, .unset, .unset, .unset, .unset, .unset, .unset] [(.int (4 : Int32)), (.int (14 : Int32)), (.ref b1), (.ref b1)])) _
    refine st20 _ ?_
    show Steps p.tables e below (T20.setTop (mkF m 87 #[.val (.int p1), .val (.int p2), .val (.int p3), .val (.int p4), .unset, .unset, .unset, .unset, .unset, .unset, .unset, .unset] [(.ref b1)])) _
    refine XS.dup X20.here hx rfl (hb hby at_87) rfl rfl ?_
    show Steps p.tables e below (T20.setTop (mkF m 88 #[.val (.int p1), .val (.int p2), .val (.int p3), .val (.int p4), .unset, .unset, .unset, .unset, .unset, .unset, .unset, .unset] [(.ref b1), (.ref b1)])) _
    refine XT.bipushV X20.here hx rfl (15 : Int32) (hb hby at_88) (by decide) ?_
    show Steps p.tables e below (T20.setTop (mkF m 90 #[.val (.int p1), .val (.int p2), .val (.int p3), .val (.int p4), .unset, .unset, .unset, .unset, .unset, .unset, .unset, .unset] [(.int (15 : Int32)), (.ref b1), (.ref b1)])) _
    refine XT.iconstV X20.here hx rfl (3 : Int32) (hb hby at_90) (by decide) ?_
    exact k)
  obtain ⟨cl22, Ar22, q22, S22, n22', H22, G22⟩ := id V20
  have hin22 : ¬ ((15 : Int32) < 0 ∨ cl22.slots.size ≤ ((15 : Int32)).toNatClampNeg) := inb_of S22 ⟨by decide, by decide⟩
  obtain ⟨T22, h22, X22, e22, W22, st22⟩ := stI X20 hx hZ e20 Ar22 (j := (15 : Int32)) hin22 (g := (mkF m 91 #[.val (.int p1), .val (.int p2), .val (.int p3), .val (.int p4), .unset, .unset, .unset, .unset, .unset, .unset, .unset, .unset] [(.int (3 : Int32)), (.int (15 : Int32)), (.ref b1), (.ref b1)])) rfl rfl (hb hby at_91)
  have V22 : Arv Z h22 b1 k1 .int (30 : Int32) [(.int (0 : Int32)), (.int (999999999 : Int32)), (.int (31622 : Int32)), (.int (999 : Int32)), (.int (177 : Int32)), (.int (63 : Int32)), (.int (31 : Int32)), (.int (19 : Int32)), (.int (13 : Int32)), (.int (9 : Int32)), (.int (7 : Int32)), (.int (6 : Int32)), (.int (5 : Int32)), (.int (4 : Int32)), (.int (4 : Int32)), (.int (3 : Int32)), (.int (0 : Int32)), (.int (0 : Int32)), (.int (0 : Int32)), (.int (0 : Int32)), (.int (0 : Int32)), (.int (0 : Int32)), (.int (0 : Int32)), (.int (0 : Int32)), (.int (0 : Int32)), (.int (0 : Int32)), (.int (0 : Int32)), (.int (0 : Int32)), (.int (0 : Int32)), (.int (0 : Int32))] (.int (0 : Int32)) := Arv.set Ar22 q22 S22 n22' H22 G22 rfl W22 15 rfl (Nat.le_of_ble_eq_true rfl)
  have O22 := own_ext_wr O20 W22 z_b1
  have N22 := Fr.snoc X22 N20 g_b1
  obtain ⟨cl23, Ar23, q23, S23, n23', H23, G23⟩ := id V22
  have hin23 : ¬ ((16 : Int32) < 0 ∨ cl23.slots.size ≤ ((16 : Int32)).toNatClampNeg) := inb_of S23 ⟨by decide, by decide⟩
  obtain ⟨T23, h23, X23, e23, W23, st23⟩ := stI X22 hx hZ e22 Ar23 (j := (16 : Int32)) hin23 (g := (mkF m 96 #[.val (.int p1), .val (.int p2), .val (.int p3), .val (.int p4), .unset, .unset, .unset, .unset, .unset, .unset, .unset, .unset] [(.int (3 : Int32)), (.int (16 : Int32)), (.ref b1), (.ref b1)])) rfl rfl (hb hby at_96)
  have V23 : Arv Z h23 b1 k1 .int (30 : Int32) [(.int (0 : Int32)), (.int (999999999 : Int32)), (.int (31622 : Int32)), (.int (999 : Int32)), (.int (177 : Int32)), (.int (63 : Int32)), (.int (31 : Int32)), (.int (19 : Int32)), (.int (13 : Int32)), (.int (9 : Int32)), (.int (7 : Int32)), (.int (6 : Int32)), (.int (5 : Int32)), (.int (4 : Int32)), (.int (4 : Int32)), (.int (3 : Int32)), (.int (3 : Int32)), (.int (0 : Int32)), (.int (0 : Int32)), (.int (0 : Int32)), (.int (0 : Int32)), (.int (0 : Int32)), (.int (0 : Int32)), (.int (0 : Int32)), (.int (0 : Int32)), (.int (0 : Int32)), (.int (0 : Int32)), (.int (0 : Int32)), (.int (0 : Int32)), (.int (0 : Int32))] (.int (0 : Int32)) := Arv.set Ar23 q23 S23 n23' H23 G23 rfl W23 16 rfl (Nat.le_of_ble_eq_true rfl)
  have O23 := own_ext_wr O22 W23 z_b1
  have N23 := Fr.snoc X23 N22 g_b1
  obtain ⟨cl24, Ar24, q24, S24, n24', H24, G24⟩ := id V23
  have hin24 : ¬ ((17 : Int32) < 0 ∨ cl24.slots.size ≤ ((17 : Int32)).toNatClampNeg) := inb_of S24 ⟨by decide, by decide⟩
  obtain ⟨T24, h24, X24, e24, W24, st24⟩ := stI X23 hx hZ e23 Ar24 (j := (17 : Int32)) hin24 (g := (mkF m 101 #[.val (.int p1), .val (.int p2), .val (.int p3), .val (.int p4), .unset, .unset, .unset, .unset, .unset, .unset, .unset, .unset] [(.int (3 : Int32)), (.int (17 : Int32)), (.ref b1), (.ref b1)])) rfl rfl (hb hby at_101)
  have V24 : Arv Z h24 b1 k1 .int (30 : Int32) [(.int (0 : Int32)), (.int (999999999 : Int32)), (.int (31622 : Int32)), (.int (999 : Int32)), (.int (177 : Int32)), (.int (63 : Int32)), (.int (31 : Int32)), (.int (19 : Int32)), (.int (13 : Int32)), (.int (9 : Int32)), (.int (7 : Int32)), (.int (6 : Int32)), (.int (5 : Int32)), (.int (4 : Int32)), (.int (4 : Int32)), (.int (3 : Int32)), (.int (3 : Int32)), (.int (3 : Int32)), (.int (0 : Int32)), (.int (0 : Int32)), (.int (0 : Int32)), (.int (0 : Int32)), (.int (0 : Int32)), (.int (0 : Int32)), (.int (0 : Int32)), (.int (0 : Int32)), (.int (0 : Int32)), (.int (0 : Int32)), (.int (0 : Int32)), (.int (0 : Int32))] (.int (0 : Int32)) := Arv.set Ar24 q24 S24 n24' H24 G24 rfl W24 17 rfl (Nat.le_of_ble_eq_true rfl)
  have O24 := own_ext_wr O23 W24 z_b1
  have N24 := Fr.snoc X24 N23 g_b1
  obtain ⟨cl25, Ar25, q25, S25, n25', H25, G25⟩ := id V24
  have hin25 : ¬ ((18 : Int32) < 0 ∨ cl25.slots.size ≤ ((18 : Int32)).toNatClampNeg) := inb_of S25 ⟨by decide, by decide⟩
  obtain ⟨T25, h25, X25, e25, W25, st25⟩ := stI X24 hx hZ e24 Ar25 (j := (18 : Int32)) hin25 (g := (mkF m 106 #[.val (.int p1), .val (.int p2), .val (.int p3), .val (.int p4), .unset, .unset, .unset, .unset, .unset, .unset, .unset, .unset] [(.int (3 : Int32)), (.int (18 : Int32)), (.ref b1), (.ref b1)])) rfl rfl (hb hby at_106)
  have V25 : Arv Z h25 b1 k1 .int (30 : Int32) [(.int (0 : Int32)), (.int (999999999 : Int32)), (.int (31622 : Int32)), (.int (999 : Int32)), (.int (177 : Int32)), (.int (63 : Int32)), (.int (31 : Int32)), (.int (19 : Int32)), (.int (13 : Int32)), (.int (9 : Int32)), (.int (7 : Int32)), (.int (6 : Int32)), (.int (5 : Int32)), (.int (4 : Int32)), (.int (4 : Int32)), (.int (3 : Int32)), (.int (3 : Int32)), (.int (3 : Int32)), (.int (3 : Int32)), (.int (0 : Int32)), (.int (0 : Int32)), (.int (0 : Int32)), (.int (0 : Int32)), (.int (0 : Int32)), (.int (0 : Int32)), (.int (0 : Int32)), (.int (0 : Int32)), (.int (0 : Int32)), (.int (0 : Int32)), (.int (0 : Int32))] (.int (0 : Int32)) := Arv.set Ar25 q25 S25 n25' H25 G25 rfl W25 18 rfl (Nat.le_of_ble_eq_true rfl)
  have O25 := own_ext_wr O24 W25 z_b1
  have N25 := Fr.snoc X25 N24 g_b1
  have pre26 : ∀ t, Steps p.tables e below (T25.setTop (mkF m 107 #[.val (.int p1), .val (.int p2), .val (.int p3), .val (.int p4), .unset, .unset, .unset, .unset, .unset, .unset, .unset, .unset] [(.ref b1)])) t → Steps p.tables e below (s₁.setTop (entryFrame m #[(.int p1), (.int p2), (.int p3), (.int p4)] maxLocals)) t := fun t k => pre21 t (by
    show Steps p.tables e below (T20.setTop (mkF m 91 #[.val (.int p1), .val (.int p2), .val (.int p3), .val (.int p4), .unset, .unset, .unset, .unset, .unset, .unset, .unset, .unset] [(.int (3 : Int32)), (.int (15 : Int32)), (.ref b1), (.ref b1)])) _
    refine st22 _ ?_
    show Steps p.tables e below (T22.setTop (mkF m 92 #[.val (.int p1), .val (.int p2), .val (.int p3), .val (.int p4), .unset, .unset, .unset, .unset, .unset, .unset, .unset, .unset] [(.ref b1)])) _
    refine XS.dup X22.here hx rfl (hb hby at_92) rfl rfl ?_
    show Steps p.tables e below (T22.setTop (mkF m 93 #[.val (.int p1), .val (.int p2), .val (.int p3), .val (.int p4), .unset, .unset, .unset, .unset, .unset, .unset, .unset, .unset] [(.ref b1), (.ref b1)])) _
    refine XT.bipushV X22.here hx rfl (16 : Int32) (hb hby at_93) (by decide) ?_
    show Steps p.tables e below (T22.setTop (mkF m 95 #[.val (.int p1), .val (.int p2), .val (.int p3), .val (.int p4), .unset, .unset, .unset, .unset, .unset, .unset, .unset, .unset] [(.int (16 : Int32)), (.ref b1), (.ref b1)])) _
    refine XT.iconstV X22.here hx rfl (3 : Int32) (hb hby at_95) (by decide) ?_
    show Steps p.tables e below (T22.setTop (mkF m 96 #[.val (.int p1), .val (.int p2), .val (.int p3), .val (.int p4), .unset, .unset, .unset, .unset, .unset, .unset, .unset, .unset] [(.int (3 : Int32)), (.int (16 : Int32)), (.ref b1), (.ref b1)])) _
    refine st23 _ ?_
    show Steps p.tables e below (T23.setTop (mkF m 97 #[.val (.int p1), .val (.int p2), .val (.int p3), .val (.int p4), .unset, .unset, .unset, .unset, .unset, .unset, .unset, .unset] [(.ref b1)])) _
    refine XS.dup X23.here hx rfl (hb hby at_97) rfl rfl ?_
    show Steps p.tables e below (T23.setTop (mkF m 98 #[.val (.int p1), .val (.int p2), .val (.int p3), .val (.int p4), .unset, .unset, .unset, .unset, .unset, .unset, .unset, .unset] [(.ref b1), (.ref b1)])) _
    refine XT.bipushV X23.here hx rfl (17 : Int32) (hb hby at_98) (by decide) ?_
    show Steps p.tables e below (T23.setTop (mkF m 100 #[.val (.int p1), .val (.int p2), .val (.int p3), .val (.int p4), .unset, .unset, .unset, .unset, .unset, .unset, .unset, .unset] [(.int (17 : Int32)), (.ref b1), (.ref b1)])) _
    refine XT.iconstV X23.here hx rfl (3 : Int32) (hb hby at_100) (by decide) ?_
    show Steps p.tables e below (T23.setTop (mkF m 101 #[.val (.int p1), .val (.int p2), .val (.int p3), .val (.int p4), .unset, .unset, .unset, .unset, .unset, .unset, .unset, .unset] [(.int (3 : Int32)), (.int (17 : Int32)), (.ref b1), (.ref b1)])) _
    refine st24 _ ?_
    show Steps p.tables e below (T24.setTop (mkF m 102 #[.val (.int p1), .val (.int p2), .val (.int p3), .val (.int p4), .unset, .unset, .unset, .unset, .unset, .unset, .unset, .unset] [(.ref b1)])) _
    refine XS.dup X24.here hx rfl (hb hby at_102) rfl rfl ?_
    show Steps p.tables e below (T24.setTop (mkF m 103 #[.val (.int p1), .val (.int p2), .val (.int p3), .val (.int p4), .unset, .unset, .unset, .unset, .unset, .unset, .unset, .unset] [(.ref b1), (.ref b1)])) _
    refine XT.bipushV X24.here hx rfl (18 : Int32) (hb hby at_103) (by decide) ?_
    show Steps p.tables e below (T24.setTop (mkF m 105 #[.val (.int p1), .val (.int p2), .val (.int p3), .val (.int p4), .unset, .unset, .unset, .unset, .unset, .unset, .unset, .unset] [(.int (18 : Int32)), (.ref b1), (.ref b1)])) _
    refine XT.iconstV X24.here hx rfl (3 : Int32) (hb hby at_105) (by decide) ?_
    show Steps p.tables e below (T24.setTop (mkF m 106 #[.val (.int p1), .val (.int p2), .val (.int p3), .val (.int p4), .unset, .unset, .unset, .unset, .unset, .unset, .unset, .unset] [(.int (3 : Int32)), (.int (18 : Int32)), (.ref b1), (.ref b1)])) _
    refine st25 _ ?_
    exact k)
  obtain ⟨cl27, Ar27, q27, S27, n27', H27, G27⟩ := id V25
  have hin27 : ¬ ((19 : Int32) < 0 ∨ cl27.slots.size ≤ ((19 : Int32)).toNatClampNeg) := inb_of S27 ⟨by decide, by decide⟩
  obtain ⟨T27, h27, X27, e27, W27, st27⟩ := stI X25 hx hZ e25 Ar27 (j := (19 : Int32)) hin27 (g := (mkF m 111 #[.val (.int p1), .val (.int p2), .val (.int p3), .val (.int p4), .unset, .unset, .unset, .unset, .unset, .unset, .unset, .unset] [(.int (2 : Int32)), (.int (19 : Int32)), (.ref b1), (.ref b1)])) rfl rfl (hb hby at_111)
  have V27 : Arv Z h27 b1 k1 .int (30 : Int32) [(.int (0 : Int32)), (.int (999999999 : Int32)), (.int (31622 : Int32)), (.int (999 : Int32)), (.int (177 : Int32)), (.int (63 : Int32)), (.int (31 : Int32)), (.int (19 : Int32)), (.int (13 : Int32)), (.int (9 : Int32)), (.int (7 : Int32)), (.int (6 : Int32)), (.int (5 : Int32)), (.int (4 : Int32)), (.int (4 : Int32)), (.int (3 : Int32)), (.int (3 : Int32)), (.int (3 : Int32)), (.int (3 : Int32)), (.int (2 : Int32)), (.int (0 : Int32)), (.int (0 : Int32)), (.int (0 : Int32)), (.int (0 : Int32)), (.int (0 : Int32)), (.int (0 : Int32)), (.int (0 : Int32)), (.int (0 : Int32)), (.int (0 : Int32)), (.int (0 : Int32))] (.int (0 : Int32)) := Arv.set Ar27 q27 S27 n27' H27 G27 rfl W27 19 rfl (Nat.le_of_ble_eq_true rfl)
  have O27 := own_ext_wr O25 W27 z_b1
  have N27 := Fr.snoc X27 N25 g_b1
  obtain ⟨cl28, Ar28, q28, S28, n28', H28, G28⟩ := id V27
  have hin28 : ¬ ((20 : Int32) < 0 ∨ cl28.slots.size ≤ ((20 : Int32)).toNatClampNeg) := inb_of S28 ⟨by decide, by decide⟩
  obtain ⟨T28, h28, X28, e28, W28, st28⟩ := stI X27 hx hZ e27 Ar28 (j := (20 : Int32)) hin28 (g := (mkF m 116 #[.val (.int p1), .val (.int p2), .val (.int p3), .val (.int p4), .unset, .unset, .unset, .unset, .unset, .unset, .unset, .unset] [(.int (2 : Int32)), (.int (20 : Int32)), (.ref b1), (.ref b1)])) rfl rfl (hb hby at_116)
  have V28 : Arv Z h28 b1 k1 .int (30 : Int32) [(.int (0 : Int32)), (.int (999999999 : Int32)), (.int (31622 : Int32)), (.int (999 : Int32)), (.int (177 : Int32)), (.int (63 : Int32)), (.int (31 : Int32)), (.int (19 : Int32)), (.int (13 : Int32)), (.int (9 : Int32)), (.int (7 : Int32)), (.int (6 : Int32)), (.int (5 : Int32)), (.int (4 : Int32)), (.int (4 : Int32)), (.int (3 : Int32)), (.int (3 : Int32)), (.int (3 : Int32)), (.int (3 : Int32)), (.int (2 : Int32)), (.int (2 : Int32)), (.int (0 : Int32)), (.int (0 : Int32)), (.int (0 : Int32)), (.int (0 : Int32)), (.int (0 : Int32)), (.int (0 : Int32)), (.int (0 : Int32)), (.int (0 : Int32)), (.int (0 : Int32))] (.int (0 : Int32)) := Arv.set Ar28 q28 S28 n28' H28 G28 rfl W28 20 rfl (Nat.le_of_ble_eq_true rfl)
  have O28 := own_ext_wr O27 W28 z_b1
  have N28 := Fr.snoc X28 N27 g_b1
  obtain ⟨cl29, Ar29, q29, S29, n29', H29, G29⟩ := id V28
  have hin29 : ¬ ((21 : Int32) < 0 ∨ cl29.slots.size ≤ ((21 : Int32)).toNatClampNeg) := inb_of S29 ⟨by decide, by decide⟩
  obtain ⟨T29, h29, X29, e29, W29, st29⟩ := stI X28 hx hZ e28 Ar29 (j := (21 : Int32)) hin29 (g := (mkF m 121 #[.val (.int p1), .val (.int p2), .val (.int p3), .val (.int p4), .unset, .unset, .unset, .unset, .unset, .unset, .unset, .unset] [(.int (2 : Int32)), (.int (21 : Int32)), (.ref b1), (.ref b1)])) rfl rfl (hb hby at_121)
  have V29 : Arv Z h29 b1 k1 .int (30 : Int32) [(.int (0 : Int32)), (.int (999999999 : Int32)), (.int (31622 : Int32)), (.int (999 : Int32)), (.int (177 : Int32)), (.int (63 : Int32)), (.int (31 : Int32)), (.int (19 : Int32)), (.int (13 : Int32)), (.int (9 : Int32)), (.int (7 : Int32)), (.int (6 : Int32)), (.int (5 : Int32)), (.int (4 : Int32)), (.int (4 : Int32)), (.int (3 : Int32)), (.int (3 : Int32)), (.int (3 : Int32)), (.int (3 : Int32)), (.int (2 : Int32)), (.int (2 : Int32)), (.int (2 : Int32)), (.int (0 : Int32)), (.int (0 : Int32)), (.int (0 : Int32)), (.int (0 : Int32)), (.int (0 : Int32)), (.int (0 : Int32)), (.int (0 : Int32)), (.int (0 : Int32))] (.int (0 : Int32)) := Arv.set Ar29 q29 S29 n29' H29 G29 rfl W29 21 rfl (Nat.le_of_ble_eq_true rfl)
  have O29 := own_ext_wr O28 W29 z_b1
  have N29 := Fr.snoc X29 N28 g_b1
  have pre30 : ∀ t, Steps p.tables e below (T29.setTop (mkF m 123 #[.val (.int p1), .val (.int p2), .val (.int p3), .val (.int p4), .unset, .unset, .unset, .unset, .unset, .unset, .unset, .unset] [(.ref b1), (.ref b1)])) t → Steps p.tables e below (s₁.setTop (entryFrame m #[(.int p1), (.int p2), (.int p3), (.int p4)] maxLocals)) t := fun t k => pre26 t (by
    show Steps p.tables e below (T25.setTop (mkF m 107 #[.val (.int p1), .val (.int p2), .val (.int p3), .val (.int p4), .unset, .unset, .unset, .unset, .unset, .unset, .unset, .unset] [(.ref b1)])) _
    refine XS.dup X25.here hx rfl (hb hby at_107) rfl rfl ?_
    show Steps p.tables e below (T25.setTop (mkF m 108 #[.val (.int p1), .val (.int p2), .val (.int p3), .val (.int p4), .unset, .unset, .unset, .unset, .unset, .unset, .unset, .unset] [(.ref b1), (.ref b1)])) _
    refine XT.bipushV X25.here hx rfl (19 : Int32) (hb hby at_108) (by decide) ?_
    show Steps p.tables e below (T25.setTop (mkF m 110 #[.val (.int p1), .val (.int p2), .val (.int p3), .val (.int p4), .unset, .unset, .unset, .unset, .unset, .unset, .unset, .unset] [(.int (19 : Int32)), (.ref b1), (.ref b1)])) _
    refine XT.iconstV X25.here hx rfl (2 : Int32) (hb hby at_110) (by decide) ?_
    show Steps p.tables e below (T25.setTop (mkF m 111 #[.val (.int p1), .val (.int p2), .val (.int p3), .val (.int p4), .unset, .unset, .unset, .unset, .unset, .unset, .unset, .unset] [(.int (2 : Int32)), (.int (19 : Int32)), (.ref b1), (.ref b1)])) _
    refine st27 _ ?_
    show Steps p.tables e below (T27.setTop (mkF m 112 #[.val (.int p1), .val (.int p2), .val (.int p3), .val (.int p4), .unset, .unset, .unset, .unset, .unset, .unset, .unset, .unset] [(.ref b1)])) _
    refine XS.dup X27.here hx rfl (hb hby at_112) rfl rfl ?_
    show Steps p.tables e below (T27.setTop (mkF m 113 #[.val (.int p1), .val (.int p2), .val (.int p3), .val (.int p4), .unset, .unset, .unset, .unset, .unset, .unset, .unset, .unset] [(.ref b1), (.ref b1)])) _
    refine XT.bipushV X27.here hx rfl (20 : Int32) (hb hby at_113) (by decide) ?_
    show Steps p.tables e below (T27.setTop (mkF m 115 #[.val (.int p1), .val (.int p2), .val (.int p3), .val (.int p4), .unset, .unset, .unset, .unset, .unset, .unset, .unset, .unset] [(.int (20 : Int32)), (.ref b1), (.ref b1)])) _
    refine XT.iconstV X27.here hx rfl (2 : Int32) (hb hby at_115) (by decide) ?_
    show Steps p.tables e below (T27.setTop (mkF m 116 #[.val (.int p1), .val (.int p2), .val (.int p3), .val (.int p4), .unset, .unset, .unset, .unset, .unset, .unset, .unset, .unset] [(.int (2 : Int32)), (.int (20 : Int32)), (.ref b1), (.ref b1)])) _
    refine st28 _ ?_
    show Steps p.tables e below (T28.setTop (mkF m 117 #[.val (.int p1), .val (.int p2), .val (.int p3), .val (.int p4), .unset, .unset, .unset, .unset, .unset, .unset, .unset, .unset] [(.ref b1)])) _
    refine XS.dup X28.here hx rfl (hb hby at_117) rfl rfl ?_
    show Steps p.tables e below (T28.setTop (mkF m 118 #[.val (.int p1), .val (.int p2), .val (.int p3), .val (.int p4), .unset, .unset, .unset, .unset, .unset, .unset, .unset, .unset] [(.ref b1), (.ref b1)])) _
    refine XT.bipushV X28.here hx rfl (21 : Int32) (hb hby at_118) (by decide) ?_
    show Steps p.tables e below (T28.setTop (mkF m 120 #[.val (.int p1), .val (.int p2), .val (.int p3), .val (.int p4), .unset, .unset, .unset, .unset, .unset, .unset, .unset, .unset] [(.int (21 : Int32)), (.ref b1), (.ref b1)])) _
    refine XT.iconstV X28.here hx rfl (2 : Int32) (hb hby at_120) (by decide) ?_
    show Steps p.tables e below (T28.setTop (mkF m 121 #[.val (.int p1), .val (.int p2), .val (.int p3), .val (.int p4), .unset, .unset, .unset, .unset, .unset, .unset, .unset, .unset] [(.int (2 : Int32)), (.int (21 : Int32)), (.ref b1), (.ref b1)])) _
    refine st29 _ ?_
    show Steps p.tables e below (T29.setTop (mkF m 122 #[.val (.int p1), .val (.int p2), .val (.int p3), .val (.int p4), .unset, .unset, .unset, .unset, .unset, .unset, .unset, .unset] [(.ref b1)])) _
    refine XS.dup X29.here hx rfl (hb hby at_122) rfl rfl ?_
    exact k)
  obtain ⟨cl31, Ar31, q31, S31, n31', H31, G31⟩ := id V29
  have hin31 : ¬ ((22 : Int32) < 0 ∨ cl31.slots.size ≤ ((22 : Int32)).toNatClampNeg) := inb_of S31 ⟨by decide, by decide⟩
  obtain ⟨T31, h31, X31, e31, W31, st31⟩ := stI X29 hx hZ e29 Ar31 (j := (22 : Int32)) hin31 (g := (mkF m 126 #[.val (.int p1), .val (.int p2), .val (.int p3), .val (.int p4), .unset, .unset, .unset, .unset, .unset, .unset, .unset, .unset] [(.int (2 : Int32)), (.int (22 : Int32)), (.ref b1), (.ref b1)])) rfl rfl (hb hby at_126)
  have V31 : Arv Z h31 b1 k1 .int (30 : Int32) [(.int (0 : Int32)), (.int (999999999 : Int32)), (.int (31622 : Int32)), (.int (999 : Int32)), (.int (177 : Int32)), (.int (63 : Int32)), (.int (31 : Int32)), (.int (19 : Int32)), (.int (13 : Int32)), (.int (9 : Int32)), (.int (7 : Int32)), (.int (6 : Int32)), (.int (5 : Int32)), (.int (4 : Int32)), (.int (4 : Int32)), (.int (3 : Int32)), (.int (3 : Int32)), (.int (3 : Int32)), (.int (3 : Int32)), (.int (2 : Int32)), (.int (2 : Int32)), (.int (2 : Int32)), (.int (2 : Int32)), (.int (0 : Int32)), (.int (0 : Int32)), (.int (0 : Int32)), (.int (0 : Int32)), (.int (0 : Int32)), (.int (0 : Int32)), (.int (0 : Int32))] (.int (0 : Int32)) := Arv.set Ar31 q31 S31 n31' H31 G31 rfl W31 22 rfl (Nat.le_of_ble_eq_true rfl)
  have O31 := own_ext_wr O29 W31 z_b1
  have N31 := Fr.snoc X31 N29 g_b1
  obtain ⟨cl32, Ar32, q32, S32, n32', H32, G32⟩ := id V31
  have hin32 : ¬ ((23 : Int32) < 0 ∨ cl32.slots.size ≤ ((23 : Int32)).toNatClampNeg) := inb_of S32 ⟨by decide, by decide⟩
  obtain ⟨T32, h32, X32, e32, W32, st32⟩ := stI X31 hx hZ e31 Ar32 (j := (23 : Int32)) hin32 (g := (mkF m 131 #[.val (.int p1), .val (.int p2), .val (.int p3), .val (.int p4), .unset, .unset, .unset, .unset, .unset, .unset, .unset, .unset] [(.int (2 : Int32)), (.int (23 : Int32)), (.ref b1), (.ref b1)])) rfl rfl (hb hby at_131)
  have V32 : Arv Z h32 b1 k1 .int (30 : Int32) [(.int (0 : Int32)), (.int (999999999 : Int32)), (.int (31622 : Int32)), (.int (999 : Int32)), (.int (177 : Int32)), (.int (63 : Int32)), (.int (31 : Int32)), (.int (19 : Int32)), (.int (13 : Int32)), (.int (9 : Int32)), (.int (7 : Int32)), (.int (6 : Int32)), (.int (5 : Int32)), (.int (4 : Int32)), (.int (4 : Int32)), (.int (3 : Int32)), (.int (3 : Int32)), (.int (3 : Int32)), (.int (3 : Int32)), (.int (2 : Int32)), (.int (2 : Int32)), (.int (2 : Int32)), (.int (2 : Int32)), (.int (2 : Int32)), (.int (0 : Int32)), (.int (0 : Int32)), (.int (0 : Int32)), (.int (0 : Int32)), (.int (0 : Int32)), (.int (0 : Int32))] (.int (0 : Int32)) := Arv.set Ar32 q32 S32 n32' H32 G32 rfl W32 23 rfl (Nat.le_of_ble_eq_true rfl)
  have O32 := own_ext_wr O31 W32 z_b1
  have N32 := Fr.snoc X32 N31 g_b1
  obtain ⟨cl33, Ar33, q33, S33, n33', H33, G33⟩ := id V32
  have hin33 : ¬ ((24 : Int32) < 0 ∨ cl33.slots.size ≤ ((24 : Int32)).toNatClampNeg) := inb_of S33 ⟨by decide, by decide⟩
  obtain ⟨T33, h33, X33, e33, W33, st33⟩ := stI X32 hx hZ e32 Ar33 (j := (24 : Int32)) hin33 (g := (mkF m 136 #[.val (.int p1), .val (.int p2), .val (.int p3), .val (.int p4), .unset, .unset, .unset, .unset, .unset, .unset, .unset, .unset] [(.int (2 : Int32)), (.int (24 : Int32)), (.ref b1), (.ref b1)])) rfl rfl (hb hby at_136)
  have V33 : Arv Z h33 b1 k1 .int (30 : Int32) [(.int (0 : Int32)), (.int (999999999 : Int32)), (.int (31622 : Int32)), (.int (999 : Int32)), (.int (177 : Int32)), (.int (63 : Int32)), (.int (31 : Int32)), (.int (19 : Int32)), (.int (13 : Int32)), (.int (9 : Int32)), (.int (7 : Int32)), (.int (6 : Int32)), (.int (5 : Int32)), (.int (4 : Int32)), (.int (4 : Int32)), (.int (3 : Int32)), (.int (3 : Int32)), (.int (3 : Int32)), (.int (3 : Int32)), (.int (2 : Int32)), (.int (2 : Int32)), (.int (2 : Int32)), (.int (2 : Int32)), (.int (2 : Int32)), (.int (2 : Int32)), (.int (0 : Int32)), (.int (0 : Int32)), (.int (0 : Int32)), (.int (0 : Int32)), (.int (0 : Int32))] (.int (0 : Int32)) := Arv.set Ar33 q33 S33 n33' H33 G33 rfl W33 24 rfl (Nat.le_of_ble_eq_true rfl)
  have O33 := own_ext_wr O32 W33 z_b1
  have N33 := Fr.snoc X33 N32 g_b1
  have pre34 : ∀ t, Steps p.tables e below (T33.setTop (mkF m 140 #[.val (.int p1), .val (.int p2), .val (.int p3), .val (.int p4), .unset, .unset, .unset, .unset, .unset, .unset, .unset, .unset] [(.int (25 : Int32)), (.ref b1), (.ref b1)])) t → Steps p.tables e below (s₁.setTop (entryFrame m #[(.int p1), (.int p2), (.int p3), (.int p4)] maxLocals)) t := fun t k => pre30 t (by
    show Steps p.tables e below (T29.setTop (mkF m 123 #[.val (.int p1), .val (.int p2), .val (.int p3), .val (.int p4), .unset, .unset, .unset, .unset, .unset, .unset, .unset, .unset] [(.ref b1), (.ref b1)])) _
    refine XT.bipushV X29.here hx rfl (22 : Int32) (hb hby at_123) (by decide) ?_
    show Steps p.tables e below (T29.setTop (mkF m 125 #[.val (.int p1), .val (.int p2), .val (.int p3), .val (.int p4), .unset, .unset, .unset, .unset, .unset, .unset, .unset, .unset] [(.int (22 : Int32)), (.ref b1), (.ref b1)])) _
    refine XT.iconstV X29.here hx rfl (2 : Int32) (hb hby at_125) (by decide) ?_
    show Steps p.tables e below (T29.setTop (mkF m 126 #[.val (.int p1), .val (.int p2), .val (.int p3), .val (.int p4), .unset, .unset, .unset, .unset, .unset, .unset, .unset, .unset] [(.int (2 : Int32)), (.int (22 : Int32)), (.ref b1), (.ref b1)])) _
    refine st31 _ ?_
    show Steps p.tables e below (T31.setTop (mkF m 127 #[.val (.int p1), .val (.int p2), .val (.int p3), .val (.int p4), .unset, .unset, .unset, .unset, .unset, .unset, .unset, .unset] [(.ref b1)])) _
    refine XS.dup X31.here hx rfl (hb hby at_127) rfl rfl ?_
    show Steps p.tables e below (T31.setTop (mkF m 128 #[.val (.int p1), .val (.int p2), .val (.int p3), .val (.int p4), .unset, .unset, .unset, .unset, .unset, .unset, .unset, .unset] [(.ref b1), (.ref b1)])) _
    refine XT.bipushV X31.here hx rfl (23 : Int32) (hb hby at_128) (by decide) ?_
    show Steps p.tables e below (T31.setTop (mkF m 130 #[.val (.int p1), .val (.int p2), .val (.int p3), .val (.int p4), .unset, .unset, .unset, .unset, .unset, .unset, .unset, .unset] [(.int (23 : Int32)), (.ref b1), (.ref b1)])) _
    refine XT.iconstV X31.here hx rfl (2 : Int32) (hb hby at_130) (by decide) ?_
    show Steps p.tables e below (T31.setTop (mkF m 131 #[.val (.int p1), .val (.int p2), .val (.int p3), .val (.int p4), .unset, .unset, .unset, .unset, .unset, .unset, .unset, .unset] [(.int (2 : Int32)), (.int (23 : Int32)), (.ref b1), (.ref b1)])) _
    refine st32 _ ?_
    show Steps p.tables e below (T32.setTop (mkF m 132 #[.val (.int p1), .val (.int p2), .val (.int p3), .val (.int p4), .unset, .unset, .unset, .unset, .unset, .unset, .unset, .unset] [(.ref b1)])) _
    refine XS.dup X32.here hx rfl (hb hby at_132) rfl rfl ?_
    show Steps p.tables e below (T32.setTop (mkF m 133 #[.val (.int p1), .val (.int p2), .val (.int p3), .val (.int p4), .unset, .unset, .unset, .unset, .unset, .unset, .unset, .unset] [(.ref b1), (.ref b1)])) _
    refine XT.bipushV X32.here hx rfl (24 : Int32) (hb hby at_133) (by decide) ?_
    show Steps p.tables e below (T32.setTop (mkF m 135 #[.val (.int p1), .val (.int p2), .val (.int p3), .val (.int p4), .unset, .unset, .unset, .unset, .unset, .unset, .unset, .unset] [(.int (24 : Int32)), (.ref b1), (.ref b1)])) _
    refine XT.iconstV X32.here hx rfl (2 : Int32) (hb hby at_135) (by decide) ?_
    show Steps p.tables e below (T32.setTop (mkF m 136 #[.val (.int p1), .val (.int p2), .val (.int p3), .val (.int p4), .unset, .unset, .unset, .unset, .unset, .unset, .unset, .unset] [(.int (2 : Int32)), (.int (24 : Int32)), (.ref b1), (.ref b1)])) _
    refine st33 _ ?_
    show Steps p.tables e below (T33.setTop (mkF m 137 #[.val (.int p1), .val (.int p2), .val (.int p3), .val (.int p4), .unset, .unset, .unset, .unset, .unset, .unset, .unset, .unset] [(.ref b1)])) _
    refine XS.dup X33.here hx rfl (hb hby at_137) rfl rfl ?_
    show Steps p.tables e below (T33.setTop (mkF m 138 #[.val (.int p1), .val (.int p2), .val (.int p3), .val (.int p4), .unset, .unset, .unset, .unset, .unset, .unset, .unset, .unset] [(.ref b1), (.ref b1)])) _
    refine XT.bipushV X33.here hx rfl (25 : Int32) (hb hby at_138) (by decide) ?_
    exact k)
  obtain ⟨cl35, Ar35, q35, S35, n35', H35, G35⟩ := id V33
  have hin35 : ¬ ((25 : Int32) < 0 ∨ cl35.slots.size ≤ ((25 : Int32)).toNatClampNeg) := inb_of S35 ⟨by decide, by decide⟩
  obtain ⟨T35, h35, X35, e35, W35, st35⟩ := stI X33 hx hZ e33 Ar35 (j := (25 : Int32)) hin35 (g := (mkF m 141 #[.val (.int p1), .val (.int p2), .val (.int p3), .val (.int p4), .unset, .unset, .unset, .unset, .unset, .unset, .unset, .unset] [(.int (2 : Int32)), (.int (25 : Int32)), (.ref b1), (.ref b1)])) rfl rfl (hb hby at_141)
  have V35 : Arv Z h35 b1 k1 .int (30 : Int32) [(.int (0 : Int32)), (.int (999999999 : Int32)), (.int (31622 : Int32)), (.int (999 : Int32)), (.int (177 : Int32)), (.int (63 : Int32)), (.int (31 : Int32)), (.int (19 : Int32)), (.int (13 : Int32)), (.int (9 : Int32)), (.int (7 : Int32)), (.int (6 : Int32)), (.int (5 : Int32)), (.int (4 : Int32)), (.int (4 : Int32)), (.int (3 : Int32)), (.int (3 : Int32)), (.int (3 : Int32)), (.int (3 : Int32)), (.int (2 : Int32)), (.int (2 : Int32)), (.int (2 : Int32)), (.int (2 : Int32)), (.int (2 : Int32)), (.int (2 : Int32)), (.int (2 : Int32)), (.int (0 : Int32)), (.int (0 : Int32)), (.int (0 : Int32)), (.int (0 : Int32))] (.int (0 : Int32)) := Arv.set Ar35 q35 S35 n35' H35 G35 rfl W35 25 rfl (Nat.le_of_ble_eq_true rfl)
  have O35 := own_ext_wr O33 W35 z_b1
  have N35 := Fr.snoc X35 N33 g_b1
  obtain ⟨cl36, Ar36, q36, S36, n36', H36, G36⟩ := id V35
  have hin36 : ¬ ((26 : Int32) < 0 ∨ cl36.slots.size ≤ ((26 : Int32)).toNatClampNeg) := inb_of S36 ⟨by decide, by decide⟩
  obtain ⟨T36, h36, X36, e36, W36, st36⟩ := stI X35 hx hZ e35 Ar36 (j := (26 : Int32)) hin36 (g := (mkF m 146 #[.val (.int p1), .val (.int p2), .val (.int p3), .val (.int p4), .unset, .unset, .unset, .unset, .unset, .unset, .unset, .unset] [(.int (2 : Int32)), (.int (26 : Int32)), (.ref b1), (.ref b1)])) rfl rfl (hb hby at_146)
  have V36 : Arv Z h36 b1 k1 .int (30 : Int32) [(.int (0 : Int32)), (.int (999999999 : Int32)), (.int (31622 : Int32)), (.int (999 : Int32)), (.int (177 : Int32)), (.int (63 : Int32)), (.int (31 : Int32)), (.int (19 : Int32)), (.int (13 : Int32)), (.int (9 : Int32)), (.int (7 : Int32)), (.int (6 : Int32)), (.int (5 : Int32)), (.int (4 : Int32)), (.int (4 : Int32)), (.int (3 : Int32)), (.int (3 : Int32)), (.int (3 : Int32)), (.int (3 : Int32)), (.int (2 : Int32)), (.int (2 : Int32)), (.int (2 : Int32)), (.int (2 : Int32)), (.int (2 : Int32)), (.int (2 : Int32)), (.int (2 : Int32)), (.int (2 : Int32)), (.int (0 : Int32)), (.int (0 : Int32)), (.int (0 : Int32))] (.int (0 : Int32)) := Arv.set Ar36 q36 S36 n36' H36 G36 rfl W36 26 rfl (Nat.le_of_ble_eq_true rfl)
  have O36 := own_ext_wr O35 W36 z_b1
  have N36 := Fr.snoc X36 N35 g_b1
  obtain ⟨cl37, Ar37, q37, S37, n37', H37, G37⟩ := id V36
  have hin37 : ¬ ((27 : Int32) < 0 ∨ cl37.slots.size ≤ ((27 : Int32)).toNatClampNeg) := inb_of S37 ⟨by decide, by decide⟩
  obtain ⟨T37, h37, X37, e37, W37, st37⟩ := stI X36 hx hZ e36 Ar37 (j := (27 : Int32)) hin37 (g := (mkF m 151 #[.val (.int p1), .val (.int p2), .val (.int p3), .val (.int p4), .unset, .unset, .unset, .unset, .unset, .unset, .unset, .unset] [(.int (2 : Int32)), (.int (27 : Int32)), (.ref b1), (.ref b1)])) rfl rfl (hb hby at_151)
  have V37 : Arv Z h37 b1 k1 .int (30 : Int32) [(.int (0 : Int32)), (.int (999999999 : Int32)), (.int (31622 : Int32)), (.int (999 : Int32)), (.int (177 : Int32)), (.int (63 : Int32)), (.int (31 : Int32)), (.int (19 : Int32)), (.int (13 : Int32)), (.int (9 : Int32)), (.int (7 : Int32)), (.int (6 : Int32)), (.int (5 : Int32)), (.int (4 : Int32)), (.int (4 : Int32)), (.int (3 : Int32)), (.int (3 : Int32)), (.int (3 : Int32)), (.int (3 : Int32)), (.int (2 : Int32)), (.int (2 : Int32)), (.int (2 : Int32)), (.int (2 : Int32)), (.int (2 : Int32)), (.int (2 : Int32)), (.int (2 : Int32)), (.int (2 : Int32)), (.int (2 : Int32)), (.int (0 : Int32)), (.int (0 : Int32))] (.int (0 : Int32)) := Arv.set Ar37 q37 S37 n37' H37 G37 rfl W37 27 rfl (Nat.le_of_ble_eq_true rfl)
  have O37 := own_ext_wr O36 W37 z_b1
  have N37 := Fr.snoc X37 N36 g_b1
  have pre38 : ∀ t, Steps p.tables e below (T37.setTop (mkF m 156 #[.val (.int p1), .val (.int p2), .val (.int p3), .val (.int p4), .unset, .unset, .unset, .unset, .unset, .unset, .unset, .unset] [(.int (2 : Int32)), (.int (28 : Int32)), (.ref b1), (.ref b1)])) t → Steps p.tables e below (s₁.setTop (entryFrame m #[(.int p1), (.int p2), (.int p3), (.int p4)] maxLocals)) t := fun t k => pre34 t (by
    show Steps p.tables e below (T33.setTop (mkF m 140 #[.val (.int p1), .val (.int p2), .val (.int p3), .val (.int p4), .unset, .unset, .unset, .unset, .unset, .unset, .unset, .unset] [(.int (25 : Int32)), (.ref b1), (.ref b1)])) _
    refine XT.iconstV X33.here hx rfl (2 : Int32) (hb hby at_140) (by decide) ?_
    show Steps p.tables e below (T33.setTop (mkF m 141 #[.val (.int p1), .val (.int p2), .val (.int p3), .val (.int p4), .unset, .unset, .unset, .unset, .unset, .unset, .unset, .unset] [(.int (2 : Int32)), (.int (25 : Int32)), (.ref b1), (.ref b1)])) _
    refine st35 _ ?_
    show Steps p.tables e below (T35.setTop (mkF m 142 #[.val (.int p1), .val (.int p2), .val (.int p3), .val (.int p4), .unset, .unset, .unset, .unset, .unset, .unset, .unset, .unset] [(.ref b1)])) _
    refine XS.dup X35.here hx rfl (hb hby at_142) rfl rfl ?_
    show Steps p.tables e below (T35.setTop (mkF m 143 #[.val (.int p1), .val (.int p2), .val (.int p3), .val (.int p4), .unset, .unset, .unset, .unset, .unset, .unset, .unset, .unset] [(.ref b1), (.ref b1)])) _
    refine XT.bipushV X35.here hx rfl (26 : Int32) (hb hby at_143) (by decide) ?_
    show Steps p.tables e below (T35.setTop (mkF m 145 #[.val (.int p1), .val (.int p2), .val (.int p3), .val (.int p4), .unset, .unset, .unset, .unset, .unset, .unset, .unset, .unset] [(.int (26 : Int32)), (.ref b1), (.ref b1)])) _
    refine XT.iconstV X35.here hx rfl (2 : Int32) (hb hby at_145) (by decide) ?_
    show Steps p.tables e below (T35.setTop (mkF m 146 #[.val (.int p1), .val (.int p2), .val (.int p3), .val (.int p4), .unset, .unset, .unset, .unset, .unset, .unset, .unset, .unset] [(.int (2 : Int32)), (.int (26 : Int32)), (.ref b1), (.ref b1)])) _
    refine st36 _ ?_
    show Steps p.tables e below (T36.setTop (mkF m 147 #[.val (.int p1), .val (.int p2), .val (.int p3), .val (.int p4), .unset, .unset, .unset, .unset, .unset, .unset, .unset, .unset] [(.ref b1)])) _
    refine XS.dup X36.here hx rfl (hb hby at_147) rfl rfl ?_
    show Steps p.tables e below (T36.setTop (mkF m 148 #[.val (.int p1), .val (.int p2), .val (.int p3), .val (.int p4), .unset, .unset, .unset, .unset, .unset, .unset, .unset, .unset] [(.ref b1), (.ref b1)])) _
    refine XT.bipushV X36.here hx rfl (27 : Int32) (hb hby at_148) (by decide) ?_
    show Steps p.tables e below (T36.setTop (mkF m 150 #[.val (.int p1), .val (.int p2), .val (.int p3), .val (.int p4), .unset, .unset, .unset, .unset, .unset, .unset, .unset, .unset] [(.int (27 : Int32)), (.ref b1), (.ref b1)])) _
    refine XT.iconstV X36.here hx rfl (2 : Int32) (hb hby at_150) (by decide) ?_
    show Steps p.tables e below (T36.setTop (mkF m 151 #[.val (.int p1), .val (.int p2), .val (.int p3), .val (.int p4), .unset, .unset, .unset, .unset, .unset, .unset, .unset, .unset] [(.int (2 : Int32)), (.int (27 : Int32)), (.ref b1), (.ref b1)])) _
    refine st37 _ ?_
    show Steps p.tables e below (T37.setTop (mkF m 152 #[.val (.int p1), .val (.int p2), .val (.int p3), .val (.int p4), .unset, .unset, .unset, .unset, .unset, .unset, .unset, .unset] [(.ref b1)])) _
    refine XS.dup X37.here hx rfl (hb hby at_152) rfl rfl ?_
    show Steps p.tables e below (T37.setTop (mkF m 153 #[.val (.int p1), .val (.int p2), .val (.int p3), .val (.int p4), .unset, .unset, .unset, .unset, .unset, .unset, .unset, .unset] [(.ref b1), (.ref b1)])) _
    refine XT.bipushV X37.here hx rfl (28 : Int32) (hb hby at_153) (by decide) ?_
    show Steps p.tables e below (T37.setTop (mkF m 155 #[.val (.int p1), .val (.int p2), .val (.int p3), .val (.int p4), .unset, .unset, .unset, .unset, .unset, .unset, .unset, .unset] [(.int (28 : Int32)), (.ref b1), (.ref b1)])) _
    refine XT.iconstV X37.here hx rfl (2 : Int32) (hb hby at_155) (by decide) ?_
    exact k)
  obtain ⟨cl39, Ar39, q39, S39, n39', H39, G39⟩ := id V37
  have hin39 : ¬ ((28 : Int32) < 0 ∨ cl39.slots.size ≤ ((28 : Int32)).toNatClampNeg) := inb_of S39 ⟨by decide, by decide⟩
  obtain ⟨T39, h39, X39, e39, W39, st39⟩ := stI X37 hx hZ e37 Ar39 (j := (28 : Int32)) hin39 (g := (mkF m 156 #[.val (.int p1), .val (.int p2), .val (.int p3), .val (.int p4), .unset, .unset, .unset, .unset, .unset, .unset, .unset, .unset] [(.int (2 : Int32)), (.int (28 : Int32)), (.ref b1), (.ref b1)])) rfl rfl (hb hby at_156)
  have V39 : Arv Z h39 b1 k1 .int (30 : Int32) [(.int (0 : Int32)), (.int (999999999 : Int32)), (.int (31622 : Int32)), (.int (999 : Int32)), (.int (177 : Int32)), (.int (63 : Int32)), (.int (31 : Int32)), (.int (19 : Int32)), (.int (13 : Int32)), (.int (9 : Int32)), (.int (7 : Int32)), (.int (6 : Int32)), (.int (5 : Int32)), (.int (4 : Int32)), (.int (4 : Int32)), (.int (3 : Int32)), (.int (3 : Int32)), (.int (3 : Int32)), (.int (3 : Int32)), (.int (2 : Int32)), (.int (2 : Int32)), (.int (2 : Int32)), (.int (2 : Int32)), (.int (2 : Int32)), (.int (2 : Int32)), (.int (2 : Int32)), (.int (2 : Int32)), (.int (2 : Int32)), (.int (2 : Int32)), (.int (0 : Int32))] (.int (0 : Int32)) := Arv.set Ar39 q39 S39 n39' H39 G39 rfl W39 28 rfl (Nat.le_of_ble_eq_true rfl)
  have O39 := own_ext_wr O37 W39 z_b1
  have N39 := Fr.snoc X39 N37 g_b1
  obtain ⟨cl40, Ar40, q40, S40, n40', H40, G40⟩ := id V39
  have hin40 : ¬ ((29 : Int32) < 0 ∨ cl40.slots.size ≤ ((29 : Int32)).toNatClampNeg) := inb_of S40 ⟨by decide, by decide⟩
  obtain ⟨T40, h40, X40, e40, W40, st40⟩ := stI X39 hx hZ e39 Ar40 (j := (29 : Int32)) hin40 (g := (mkF m 161 #[.val (.int p1), .val (.int p2), .val (.int p3), .val (.int p4), .unset, .unset, .unset, .unset, .unset, .unset, .unset, .unset] [(.int (2 : Int32)), (.int (29 : Int32)), (.ref b1), (.ref b1)])) rfl rfl (hb hby at_161)
  have V40 : Arv Z h40 b1 k1 .int (30 : Int32) [(.int (0 : Int32)), (.int (999999999 : Int32)), (.int (31622 : Int32)), (.int (999 : Int32)), (.int (177 : Int32)), (.int (63 : Int32)), (.int (31 : Int32)), (.int (19 : Int32)), (.int (13 : Int32)), (.int (9 : Int32)), (.int (7 : Int32)), (.int (6 : Int32)), (.int (5 : Int32)), (.int (4 : Int32)), (.int (4 : Int32)), (.int (3 : Int32)), (.int (3 : Int32)), (.int (3 : Int32)), (.int (3 : Int32)), (.int (2 : Int32)), (.int (2 : Int32)), (.int (2 : Int32)), (.int (2 : Int32)), (.int (2 : Int32)), (.int (2 : Int32)), (.int (2 : Int32)), (.int (2 : Int32)), (.int (2 : Int32)), (.int (2 : Int32)), (.int (2 : Int32))] (.int (0 : Int32)) := Arv.set Ar40 q40 S40 n40' H40 G40 rfl W40 29 rfl (Nat.le_of_ble_eq_true rfl)
  have O40 := own_ext_wr O39 W40 z_b1
  have N40 := Fr.snoc X40 N39 g_b1
  obtain ⟨Lv, hL, hi⟩ := own_ex p3
  have pre41 : ∀ t, Steps p.tables e below (T40.setTop (mkF m 173 #[.val (.int p1), .val (.int p2), .val (.int p3), .val (.int p4), .val (.ref b1), .unset, .unset, .unset, .unset, .unset, .unset, .unset] [(.int Lv)])) t → Steps p.tables e below (s₁.setTop (entryFrame m #[(.int p1), (.int p2), (.int p3), (.int p4)] maxLocals)) t := fun t k => pre38 t (by
    show Steps p.tables e below (T37.setTop (mkF m 156 #[.val (.int p1), .val (.int p2), .val (.int p3), .val (.int p4), .unset, .unset, .unset, .unset, .unset, .unset, .unset, .unset] [(.int (2 : Int32)), (.int (28 : Int32)), (.ref b1), (.ref b1)])) _
    refine st39 _ ?_
    show Steps p.tables e below (T39.setTop (mkF m 157 #[.val (.int p1), .val (.int p2), .val (.int p3), .val (.int p4), .unset, .unset, .unset, .unset, .unset, .unset, .unset, .unset] [(.ref b1)])) _
    refine XS.dup X39.here hx rfl (hb hby at_157) rfl rfl ?_
    show Steps p.tables e below (T39.setTop (mkF m 158 #[.val (.int p1), .val (.int p2), .val (.int p3), .val (.int p4), .unset, .unset, .unset, .unset, .unset, .unset, .unset, .unset] [(.ref b1), (.ref b1)])) _
    refine XT.bipushV X39.here hx rfl (29 : Int32) (hb hby at_158) (by decide) ?_
    show Steps p.tables e below (T39.setTop (mkF m 160 #[.val (.int p1), .val (.int p2), .val (.int p3), .val (.int p4), .unset, .unset, .unset, .unset, .unset, .unset, .unset, .unset] [(.int (29 : Int32)), (.ref b1), (.ref b1)])) _
    refine XT.iconstV X39.here hx rfl (2 : Int32) (hb hby at_160) (by decide) ?_
    show Steps p.tables e below (T39.setTop (mkF m 161 #[.val (.int p1), .val (.int p2), .val (.int p3), .val (.int p4), .unset, .unset, .unset, .unset, .unset, .unset, .unset, .unset] [(.int (2 : Int32)), (.int (29 : Int32)), (.ref b1), (.ref b1)])) _
    refine st40 _ ?_
    show Steps p.tables e below (T40.setTop (mkF m 162 #[.val (.int p1), .val (.int p2), .val (.int p3), .val (.int p4), .unset, .unset, .unset, .unset, .unset, .unset, .unset, .unset] [(.ref b1)])) _
    refine XS.astore X40.here hx rfl (hb hby at_162) rfl rfl (l' := #[.val (.int p1), .val (.int p2), .val (.int p3), .val (.int p4), .val (.ref b1), .unset, .unset, .unset, .unset, .unset, .unset, .unset]) rfl ?_
    show Steps p.tables e below (T40.setTop (mkF m 164 #[.val (.int p1), .val (.int p2), .val (.int p3), .val (.int p4), .val (.ref b1), .unset, .unset, .unset, .unset, .unset, .unset, .unset] [])) _
    refine XT.iconstV X40.here hx rfl (1 : Int32) (hb hby at_164) (by decide) ?_
    show Steps p.tables e below (T40.setTop (mkF m 165 #[.val (.int p1), .val (.int p2), .val (.int p3), .val (.int p4), .val (.ref b1), .unset, .unset, .unset, .unset, .unset, .unset, .unset] [(.int (1 : Int32))])) _
    refine XS.iloadN X40.here hx rfl (hb hby at_165) rfl ?_
    show Steps p.tables e below (T40.setTop (mkF m 166 #[.val (.int p1), .val (.int p2), .val (.int p3), .val (.int p4), .val (.ref b1), .unset, .unset, .unset, .unset, .unset, .unset, .unset] [(.int p3), (.int (1 : Int32))])) _
    refine X40.ldcInt hx hown (mvT hZ (hw _ (List.mem_of_getElem? (i := 2) rfl))) (g := (mkF m 166 #[.val (.int p1), .val (.int p2), .val (.int p3), .val (.int p4), .val (.ref b1), .unset, .unset, .unset, .unset, .unset, .unset, .unset] [(.int p3), (.int (1 : Int32))])) rfl (hb hby at_166) _ ?_
    show Steps p.tables e below (T40.setTop (mkF m 168 #[.val (.int p1), .val (.int p2), .val (.int p3), .val (.int p4), .val (.ref b1), .unset, .unset, .unset, .unset, .unset, .unset, .unset] [(.int (2147483647 : Int32)), (.int p3), (.int (1 : Int32))])) _
    refine XS.iand X40.here hx rfl (hb hby at_168) rfl ?_
    show Steps p.tables e below (T40.setTop (mkF m 169 #[.val (.int p1), .val (.int p2), .val (.int p3), .val (.int p4), .val (.ref b1), .unset, .unset, .unset, .unset, .unset, .unset, .unset] [(.int (p3 &&& (2147483647 : Int32))), (.int (1 : Int32))])) _
    refine XT.bipushV X40.here hx rfl (29 : Int32) (hb hby at_169) (by decide) ?_
    show Steps p.tables e below (T40.setTop (mkF m 171 #[.val (.int p1), .val (.int p2), .val (.int p3), .val (.int p4), .val (.ref b1), .unset, .unset, .unset, .unset, .unset, .unset, .unset] [(.int (29 : Int32)), (.int (p3 &&& (2147483647 : Int32))), (.int (1 : Int32))])) _
    refine iremM X40 hx rfl (hb hby at_171) rfl (by decide) ?_
    show Steps p.tables e below (T40.setTop (mkF m 172 #[.val (.int p1), .val (.int p2), .val (.int p3), .val (.int p4), .val (.ref b1), .unset, .unset, .unset, .unset, .unset, .unset, .unset] [(.int ((p3 &&& (2147483647 : Int32)) % (29 : Int32))), (.int (1 : Int32))])) _
    refine XS.iadd X40.here hx rfl (hb hby at_172) rfl ?_
    show Steps p.tables e below (T40.setTop (mkF m 173 #[.val (.int p1), .val (.int p2), .val (.int p3), .val (.int p4), .val (.ref b1), .unset, .unset, .unset, .unset, .unset, .unset, .unset] [(.int ((1 : Int32) + ((p3 &&& (2147483647 : Int32)) % (29 : Int32))))])) _
    refine castTop (g' := (mkF m 173 #[.val (.int p1), .val (.int p2), .val (.int p3), .val (.int p4), .val (.ref b1), .unset, .unset, .unset, .unset, .unset, .unset, .unset] [(.int Lv)])) (by rw [← hL]) ?_
    exact k)
  obtain ⟨cl42, Ar42, q42, S42, n42', H42, G42⟩ := id V40
  have hin42 : ¬ (Lv < 0 ∨ cl42.slots.size ≤ (Lv).toNatClampNeg) := inb_of S42 (own_inb hi)
  have hat42 : cl42.slots[(Lv).toNatClampNeg]? = some (.int (own_mx Lv)) := Has.at H42 hin42 (own_mxat hi)
  have pre43 : ∀ t, Steps p.tables e below (T40.setTop (mkF m 185 #[.val (.int p1), .val (.int p2), .val (.int p3), .val (.int p4), .val (.ref b1), .val (.int Lv), .val (.int (own_mx Lv)), .unset, .unset, .unset, .unset, .unset] [(.int (p4 &&& (1 : Int32)))])) t → Steps p.tables e below (s₁.setTop (entryFrame m #[(.int p1), (.int p2), (.int p3), (.int p4)] maxLocals)) t := fun t k => pre41 t (by
    show Steps p.tables e below (T40.setTop (mkF m 173 #[.val (.int p1), .val (.int p2), .val (.int p3), .val (.int p4), .val (.ref b1), .unset, .unset, .unset, .unset, .unset, .unset, .unset] [(.int Lv)])) _
    refine XS.istore X40.here hx rfl (hb hby at_173) rfl (l' := #[.val (.int p1), .val (.int p2), .val (.int p3), .val (.int p4), .val (.ref b1), .val (.int Lv), .unset, .unset, .unset, .unset, .unset, .unset]) rfl ?_
    show Steps p.tables e below (T40.setTop (mkF m 175 #[.val (.int p1), .val (.int p2), .val (.int p3), .val (.int p4), .val (.ref b1), .val (.int Lv), .unset, .unset, .unset, .unset, .unset, .unset] [])) _
    refine XS.aload X40.here hx rfl (hb hby at_175) rfl rfl ?_
    show Steps p.tables e below (T40.setTop (mkF m 177 #[.val (.int p1), .val (.int p2), .val (.int p3), .val (.int p4), .val (.ref b1), .val (.int Lv), .unset, .unset, .unset, .unset, .unset, .unset] [(.ref b1)])) _
    refine XS.iload X40.here hx rfl (hb hby at_177) rfl ?_
    show Steps p.tables e below (T40.setTop (mkF m 179 #[.val (.int p1), .val (.int p2), .val (.int p3), .val (.int p4), .val (.ref b1), .val (.int Lv), .unset, .unset, .unset, .unset, .unset, .unset] [(.int Lv), (.ref b1)])) _
    refine X40.iaload hx (j := Lv) (v := (.int (own_mx Lv))) (by rw [e40]; exact Ar42.1) (State.isArrayOf_alike hZ.alike Ar42.2.1) Ar42.2.2 hin42 hat42 (g := (mkF m 179 #[.val (.int p1), .val (.int p2), .val (.int p3), .val (.int p4), .val (.ref b1), .val (.int Lv), .unset, .unset, .unset, .unset, .unset, .unset] [(.int Lv), (.ref b1)])) rfl rfl (hb hby at_179) _ ?_
    show Steps p.tables e below (T40.setTop (mkF m 180 #[.val (.int p1), .val (.int p2), .val (.int p3), .val (.int p4), .val (.ref b1), .val (.int Lv), .unset, .unset, .unset, .unset, .unset, .unset] [(.int (own_mx Lv))])) _
    refine XS.istore X40.here hx rfl (hb hby at_180) rfl (l' := #[.val (.int p1), .val (.int p2), .val (.int p3), .val (.int p4), .val (.ref b1), .val (.int Lv), .val (.int (own_mx Lv)), .unset, .unset, .unset, .unset, .unset]) rfl ?_
    show Steps p.tables e below (T40.setTop (mkF m 182 #[.val (.int p1), .val (.int p2), .val (.int p3), .val (.int p4), .val (.ref b1), .val (.int Lv), .val (.int (own_mx Lv)), .unset, .unset, .unset, .unset, .unset] [])) _
    refine XS.iloadN X40.here hx rfl (hb hby at_182) rfl ?_
    show Steps p.tables e below (T40.setTop (mkF m 183 #[.val (.int p1), .val (.int p2), .val (.int p3), .val (.int p4), .val (.ref b1), .val (.int Lv), .val (.int (own_mx Lv)), .unset, .unset, .unset, .unset, .unset] [(.int p4)])) _
    refine XT.iconstV X40.here hx rfl (1 : Int32) (hb hby at_183) (by decide) ?_
    show Steps p.tables e below (T40.setTop (mkF m 184 #[.val (.int p1), .val (.int p2), .val (.int p3), .val (.int p4), .val (.ref b1), .val (.int Lv), .val (.int (own_mx Lv)), .unset, .unset, .unset, .unset, .unset] [(.int (1 : Int32)), (.int p4)])) _
    refine XS.iand X40.here hx rfl (hb hby at_184) rfl ?_
    exact k)
  by_cases hc185_44 : (p4 &&& (1 : Int32)) = (0 : Int32)
  · have _ := 0
    obtain ⟨Al, hAl⟩ : ∃ z, z = ((2 : Int32) + ((p2 &&& (2147483647 : Int32)) % ((own_mx Lv) - (1 : Int32)))) := ⟨_, rfl⟩
    have hAb : 2 ≤ Al.toInt ∧ Al.toInt ≤ 999999999 := by rw [hAl]; exact own_alb p2 hi
    have pre45 : ∀ t, Steps p.tables e below (T40.setTop (mkF m 207 #[.val (.int p1), .val (.int p2), .val (.int p3), .val (.int p4), .val (.ref b1), .val (.int Lv), .val (.int (own_mx Lv)), .val (.int Al), .unset, .unset, .unset, .unset] [(.int (1 : Int32))])) t → Steps p.tables e below (s₁.setTop (entryFrame m #[(.int p1), (.int p2), (.int p3), (.int p4)] maxLocals)) t := fun t k => pre43 t (by
      show Steps p.tables e below (T40.setTop (mkF m 185 #[.val (.int p1), .val (.int p2), .val (.int p3), .val (.int p4), .val (.ref b1), .val (.int Lv), .val (.int (own_mx Lv)), .unset, .unset, .unset, .unset, .unset] [(.int (p4 &&& (1 : Int32)))])) _
      refine XS.ifYes X40.here hx rfl (pc0 := 185) (pc' := 193) rfl (hb hby at_185) rfl ((if0 _ _).trans (teq hc185_44).1) (by decide) (by decide) ?_
      show Steps p.tables e below (T40.setTop (mkF m 193 #[.val (.int p1), .val (.int p2), .val (.int p3), .val (.int p4), .val (.ref b1), .val (.int Lv), .val (.int (own_mx Lv)), .unset, .unset, .unset, .unset, .unset] [])) _
      refine XT.iconstV X40.here hx rfl (2 : Int32) (hb hby at_193) (by decide) ?_
      show Steps p.tables e below (T40.setTop (mkF m 194 #[.val (.int p1), .val (.int p2), .val (.int p3), .val (.int p4), .val (.ref b1), .val (.int Lv), .val (.int (own_mx Lv)), .unset, .unset, .unset, .unset, .unset] [(.int (2 : Int32))])) _
      refine XS.iloadN X40.here hx rfl (hb hby at_194) rfl ?_
      show Steps p.tables e below (T40.setTop (mkF m 195 #[.val (.int p1), .val (.int p2), .val (.int p3), .val (.int p4), .val (.ref b1), .val (.int Lv), .val (.int (own_mx Lv)), .unset, .unset, .unset, .unset, .unset] [(.int p2), (.int (2 : Int32))])) _
      refine X40.ldcInt hx hown (mvT hZ (hw _ (List.mem_of_getElem? (i := 2) rfl))) (g := (mkF m 195 #[.val (.int p1), .val (.int p2), .val (.int p3), .val (.int p4), .val (.ref b1), .val (.int Lv), .val (.int (own_mx Lv)), .unset, .unset, .unset, .unset, .unset] [(.int p2), (.int (2 : Int32))])) rfl (hb hby at_195) _ ?_
      show Steps p.tables e below (T40.setTop (mkF m 197 #[.val (.int p1), .val (.int p2), .val (.int p3), .val (.int p4), .val (.ref b1), .val (.int Lv), .val (.int (own_mx Lv)), .unset, .unset, .unset, .unset, .unset] [(.int (2147483647 : Int32)), (.int p2), (.int (2 : Int32))])) _
      refine XS.iand X40.here hx rfl (hb hby at_197) rfl ?_
      show Steps p.tables e below (T40.setTop (mkF m 198 #[.val (.int p1), .val (.int p2), .val (.int p3), .val (.int p4), .val (.ref b1), .val (.int Lv), .val (.int (own_mx Lv)), .unset, .unset, .unset, .unset, .unset] [(.int (p2 &&& (2147483647 : Int32))), (.int (2 : Int32))])) _
      refine XS.iload X40.here hx rfl (hb hby at_198) rfl ?_
      show Steps p.tables e below (T40.setTop (mkF m 200 #[.val (.int p1), .val (.int p2), .val (.int p3), .val (.int p4), .val (.ref b1), .val (.int Lv), .val (.int (own_mx Lv)), .unset, .unset, .unset, .unset, .unset] [(.int (own_mx Lv)), (.int (p2 &&& (2147483647 : Int32))), (.int (2 : Int32))])) _
      refine XT.iconstV X40.here hx rfl (1 : Int32) (hb hby at_200) (by decide) ?_
      show Steps p.tables e below (T40.setTop (mkF m 201 #[.val (.int p1), .val (.int p2), .val (.int p3), .val (.int p4), .val (.ref b1), .val (.int Lv), .val (.int (own_mx Lv)), .unset, .unset, .unset, .unset, .unset] [(.int (1 : Int32)), (.int (own_mx Lv)), (.int (p2 &&& (2147483647 : Int32))), (.int (2 : Int32))])) _
      refine XS.isub X40.here hx rfl (hb hby at_201) rfl ?_
      show Steps p.tables e below (T40.setTop (mkF m 202 #[.val (.int p1), .val (.int p2), .val (.int p3), .val (.int p4), .val (.ref b1), .val (.int Lv), .val (.int (own_mx Lv)), .unset, .unset, .unset, .unset, .unset] [(.int ((own_mx Lv) - (1 : Int32))), (.int (p2 &&& (2147483647 : Int32))), (.int (2 : Int32))])) _
      refine iremM X40 hx rfl (hb hby at_202) rfl (own_nz hi) ?_
      show Steps p.tables e below (T40.setTop (mkF m 203 #[.val (.int p1), .val (.int p2), .val (.int p3), .val (.int p4), .val (.ref b1), .val (.int Lv), .val (.int (own_mx Lv)), .unset, .unset, .unset, .unset, .unset] [(.int ((p2 &&& (2147483647 : Int32)) % ((own_mx Lv) - (1 : Int32)))), (.int (2 : Int32))])) _
      refine XS.iadd X40.here hx rfl (hb hby at_203) rfl ?_
      show Steps p.tables e below (T40.setTop (mkF m 204 #[.val (.int p1), .val (.int p2), .val (.int p3), .val (.int p4), .val (.ref b1), .val (.int Lv), .val (.int (own_mx Lv)), .unset, .unset, .unset, .unset, .unset] [(.int ((2 : Int32) + ((p2 &&& (2147483647 : Int32)) % ((own_mx Lv) - (1 : Int32)))))])) _
      refine castTop (g' := (mkF m 204 #[.val (.int p1), .val (.int p2), .val (.int p3), .val (.int p4), .val (.ref b1), .val (.int Lv), .val (.int (own_mx Lv)), .unset, .unset, .unset, .unset, .unset] [(.int Al)])) (by rw [← hAl]) ?_
      show Steps p.tables e below (T40.setTop (mkF m 204 #[.val (.int p1), .val (.int p2), .val (.int p3), .val (.int p4), .val (.ref b1), .val (.int Lv), .val (.int (own_mx Lv)), .unset, .unset, .unset, .unset, .unset] [(.int Al)])) _
      refine XS.istore X40.here hx rfl (hb hby at_204) rfl (l' := #[.val (.int p1), .val (.int p2), .val (.int p3), .val (.int p4), .val (.ref b1), .val (.int Lv), .val (.int (own_mx Lv)), .val (.int Al), .unset, .unset, .unset, .unset]) rfl ?_
      show Steps p.tables e below (T40.setTop (mkF m 206 #[.val (.int p1), .val (.int p2), .val (.int p3), .val (.int p4), .val (.ref b1), .val (.int Lv), .val (.int (own_mx Lv)), .val (.int Al), .unset, .unset, .unset, .unset] [])) _
      refine XT.iconstV X40.here hx rfl (1 : Int32) (hb hby at_206) (by decide) ?_
      exact k)
    obtain ⟨Kk, hKk⟩ : ∃ z, z = ((1 : Int32) + ((p1 &&& (2147483647 : Int32)) % (999999999 : Int32))) := ⟨_, rfl⟩
    obtain ⟨Rf, hRf⟩ : ∃ z, own_r5 Al.toInt64 Lv = z := ⟨_, rfl⟩
    obtain ⟨_, _, ⟨T46, L46, k46, n46⟩, -, X46, ⟨Lc46, hQ46, l46, y46, z46⟩, st46⟩ := Jvm.LawKit.callS X40 hx (y := (⟨"com/example/tidegauge/tidegauge/MacroClusterSettingsSnapshotsPerOrderPinLaw", "pow", "(JI)J"⟩ : MethodName)) hown (mvT hZ (hw _ (List.mem_of_getElem? (i := 3) rfl))) (mvT hZ (hw _ (List.mem_of_getElem? (i := 4) rfl))) (mvT hZ (hw _ (List.mem_of_getElem? (i := 5) rfl))) (mvT hZ (hw _ (List.mem_of_getElem? (i := 6) rfl))) (by decide) (backOf (W := 0) (rm_pow l Z a0 hw [] (Al.toInt64) Lv h40 n0 (Nat.le_trans Z0 O40.1) Rf hRf) hZ (hw _ (List.mem_of_getElem? (i := 6) rfl)) (hw _ (List.mem_of_getElem? (i := 5) rfl)) (by decide) (by decide)) (g := (mkF m 222 #[.val (.int p1), .val (.int p2), .val (.int p3), .val (.int p4), .val (.ref b1), .val (.int Lv), .val (.int (own_mx Lv)), .val (.int Al), .val (.int Kk), .unset, .unset, .unset] [(.int Lv), (.long (Al.toInt64))])) rfl (by rw [hml]; rfl) (argsL := [(.long (Al.toInt64)), (.int Lv)]) (rest := []) (lenOf pd_3 rfl) rfl (by show 2 * 0 + _ ≤ _; exact Nat.le_of_eq rfl) (hb hby at_222) (fun _ _ => ⟨rfl, e40, (by decide : 1 + 0 ≤ _), (by decide : 30 + 0 ≤ _)⟩)
    dsimp only [Pt.U, Pt.locs, Pt.cells, Pt.slots] at X46 l46 y46 z46 st46 hQ46
    rw [y46, z46] at X46
    obtain ⟨rfl, N46q, e46⟩ := hQ46
    have N46 : Fr n0 L46 := by rw [l46]; exact Fr.app N40 N46q
    have pre47 : ∀ t, Steps p.tables e below (T46.setTop (mkF m 227 #[.val (.int p1), .val (.int p2), .val (.int p3), .val (.int p4), .val (.ref b1), .val (.int Lv), .val (.int (own_mx Lv)), .val (.int Al), .val (.int Kk), .val (.long Rf), .second, .unset] [])) t → Steps p.tables e below (s₁.setTop (entryFrame m #[(.int p1), (.int p2), (.int p3), (.int p4)] maxLocals)) t := fun t k => pre45 t (by
      show Steps p.tables e below (T40.setTop (mkF m 207 #[.val (.int p1), .val (.int p2), .val (.int p3), .val (.int p4), .val (.ref b1), .val (.int Lv), .val (.int (own_mx Lv)), .val (.int Al), .unset, .unset, .unset, .unset] [(.int (1 : Int32))])) _
      refine XS.iloadN X40.here hx rfl (hb hby at_207) rfl ?_
      show Steps p.tables e below (T40.setTop (mkF m 208 #[.val (.int p1), .val (.int p2), .val (.int p3), .val (.int p4), .val (.ref b1), .val (.int Lv), .val (.int (own_mx Lv)), .val (.int Al), .unset, .unset, .unset, .unset] [(.int p1), (.int (1 : Int32))])) _
      refine X40.ldcInt hx hown (mvT hZ (hw _ (List.mem_of_getElem? (i := 2) rfl))) (g := (mkF m 208 #[.val (.int p1), .val (.int p2), .val (.int p3), .val (.int p4), .val (.ref b1), .val (.int Lv), .val (.int (own_mx Lv)), .val (.int Al), .unset, .unset, .unset, .unset] [(.int p1), (.int (1 : Int32))])) rfl (hb hby at_208) _ ?_
      show Steps p.tables e below (T40.setTop (mkF m 210 #[.val (.int p1), .val (.int p2), .val (.int p3), .val (.int p4), .val (.ref b1), .val (.int Lv), .val (.int (own_mx Lv)), .val (.int Al), .unset, .unset, .unset, .unset] [(.int (2147483647 : Int32)), (.int p1), (.int (1 : Int32))])) _
      refine XS.iand X40.here hx rfl (hb hby at_210) rfl ?_
      show Steps p.tables e below (T40.setTop (mkF m 211 #[.val (.int p1), .val (.int p2), .val (.int p3), .val (.int p4), .val (.ref b1), .val (.int Lv), .val (.int (own_mx Lv)), .val (.int Al), .unset, .unset, .unset, .unset] [(.int (p1 &&& (2147483647 : Int32))), (.int (1 : Int32))])) _
      refine X40.ldcInt hx hown (mvT hZ (hw _ (List.mem_of_getElem? (i := 1) rfl))) (g := (mkF m 211 #[.val (.int p1), .val (.int p2), .val (.int p3), .val (.int p4), .val (.ref b1), .val (.int Lv), .val (.int (own_mx Lv)), .val (.int Al), .unset, .unset, .unset, .unset] [(.int (p1 &&& (2147483647 : Int32))), (.int (1 : Int32))])) rfl (hb hby at_211) _ ?_
      show Steps p.tables e below (T40.setTop (mkF m 213 #[.val (.int p1), .val (.int p2), .val (.int p3), .val (.int p4), .val (.ref b1), .val (.int Lv), .val (.int (own_mx Lv)), .val (.int Al), .unset, .unset, .unset, .unset] [(.int (999999999 : Int32)), (.int (p1 &&& (2147483647 : Int32))), (.int (1 : Int32))])) _
      refine iremM X40 hx rfl (hb hby at_213) rfl (by decide) ?_
      show Steps p.tables e below (T40.setTop (mkF m 214 #[.val (.int p1), .val (.int p2), .val (.int p3), .val (.int p4), .val (.ref b1), .val (.int Lv), .val (.int (own_mx Lv)), .val (.int Al), .unset, .unset, .unset, .unset] [(.int ((p1 &&& (2147483647 : Int32)) % (999999999 : Int32))), (.int (1 : Int32))])) _
      refine XS.iadd X40.here hx rfl (hb hby at_214) rfl ?_
      show Steps p.tables e below (T40.setTop (mkF m 215 #[.val (.int p1), .val (.int p2), .val (.int p3), .val (.int p4), .val (.ref b1), .val (.int Lv), .val (.int (own_mx Lv)), .val (.int Al), .unset, .unset, .unset, .unset] [(.int ((1 : Int32) + ((p1 &&& (2147483647 : Int32)) % (999999999 : Int32))))])) _
      refine castTop (g' := (mkF m 215 #[.val (.int p1), .val (.int p2), .val (.int p3), .val (.int p4), .val (.ref b1), .val (.int Lv), .val (.int (own_mx Lv)), .val (.int Al), .unset, .unset, .unset, .unset] [(.int Kk)])) (by rw [← hKk]) ?_
      show Steps p.tables e below (T40.setTop (mkF m 215 #[.val (.int p1), .val (.int p2), .val (.int p3), .val (.int p4), .val (.ref b1), .val (.int Lv), .val (.int (own_mx Lv)), .val (.int Al), .unset, .unset, .unset, .unset] [(.int Kk)])) _
      refine XS.istore X40.here hx rfl (hb hby at_215) rfl (l' := #[.val (.int p1), .val (.int p2), .val (.int p3), .val (.int p4), .val (.ref b1), .val (.int Lv), .val (.int (own_mx Lv)), .val (.int Al), .val (.int Kk), .unset, .unset, .unset]) rfl ?_
      show Steps p.tables e below (T40.setTop (mkF m 217 #[.val (.int p1), .val (.int p2), .val (.int p3), .val (.int p4), .val (.ref b1), .val (.int Lv), .val (.int (own_mx Lv)), .val (.int Al), .val (.int Kk), .unset, .unset, .unset] [])) _
      refine XS.iload X40.here hx rfl (hb hby at_217) rfl ?_
      show Steps p.tables e below (T40.setTop (mkF m 219 #[.val (.int p1), .val (.int p2), .val (.int p3), .val (.int p4), .val (.ref b1), .val (.int Lv), .val (.int (own_mx Lv)), .val (.int Al), .val (.int Kk), .unset, .unset, .unset] [(.int Al)])) _
      refine XS.i2l X40.here hx rfl (hb hby at_219) rfl ?_
      show Steps p.tables e below (T40.setTop (mkF m 220 #[.val (.int p1), .val (.int p2), .val (.int p3), .val (.int p4), .val (.ref b1), .val (.int Lv), .val (.int (own_mx Lv)), .val (.int Al), .val (.int Kk), .unset, .unset, .unset] [(.long (Al.toInt64))])) _
      refine XS.iload X40.here hx rfl (hb hby at_220) rfl ?_
      show Steps p.tables e below (T40.setTop (mkF m 222 #[.val (.int p1), .val (.int p2), .val (.int p3), .val (.int p4), .val (.ref b1), .val (.int Lv), .val (.int (own_mx Lv)), .val (.int Al), .val (.int Kk), .unset, .unset, .unset] [(.int Lv), (.long (Al.toInt64))])) _
      refine st46 _ ?_
      show Steps p.tables e below (T46.setTop (mkF m 225 #[.val (.int p1), .val (.int p2), .val (.int p3), .val (.int p4), .val (.ref b1), .val (.int Lv), .val (.int (own_mx Lv)), .val (.int Al), .val (.int Kk), .unset, .unset, .unset] [(.long Rf)])) _
      refine XS.lstore X46.here hx rfl (hb hby at_225) rfl (l' := #[.val (.int p1), .val (.int p2), .val (.int p3), .val (.int p4), .val (.ref b1), .val (.int Lv), .val (.int (own_mx Lv)), .val (.int Al), .val (.int Kk), .val (.long Rf), .second, .unset]) rfl ?_
      exact k)
    have pre48 : ∀ t, Steps p.tables e below (T46.setTop (mkF m 233 #[.val (.int p1), .val (.int p2), .val (.int p3), .val (.int p4), .val (.ref b1), .val (.int Lv), .val (.int (own_mx Lv)), .val (.int Al), .val (.int Kk), .val (.long Rf), .second, .unset] [(.int (lcmpW Rf (999999999 : Int64)))])) t → Steps p.tables e below (s₁.setTop (entryFrame m #[(.int p1), (.int p2), (.int p3), (.int p4)] maxLocals)) t := fun t k => pre47 t (by
      show Steps p.tables e below (T46.setTop (mkF m 227 #[.val (.int p1), .val (.int p2), .val (.int p3), .val (.int p4), .val (.ref b1), .val (.int Lv), .val (.int (own_mx Lv)), .val (.int Al), .val (.int Kk), .val (.long Rf), .second, .unset] [])) _
      refine XS.lload X46.here hx rfl (hb hby at_227) rfl ?_
      show Steps p.tables e below (T46.setTop (mkF m 229 #[.val (.int p1), .val (.int p2), .val (.int p3), .val (.int p4), .val (.ref b1), .val (.int Lv), .val (.int (own_mx Lv)), .val (.int Al), .val (.int Kk), .val (.long Rf), .second, .unset] [(.long Rf)])) _
      refine X46.ldc2Long hx hown (mvT hZ (hw _ (List.mem_of_getElem? (i := 11) rfl))) (g := (mkF m 229 #[.val (.int p1), .val (.int p2), .val (.int p3), .val (.int p4), .val (.ref b1), .val (.int Lv), .val (.int (own_mx Lv)), .val (.int Al), .val (.int Kk), .val (.long Rf), .second, .unset] [(.long Rf)])) rfl (hb hby at_229) _ ?_
      show Steps p.tables e below (T46.setTop (mkF m 232 #[.val (.int p1), .val (.int p2), .val (.int p3), .val (.int p4), .val (.ref b1), .val (.int Lv), .val (.int (own_mx Lv)), .val (.int Al), .val (.int Kk), .val (.long Rf), .second, .unset] [(.long (999999999 : Int64)), (.long Rf)])) _
      refine XS.lcmp X46.here hx rfl (hb hby at_232) rfl ?_
      exact k)
    by_cases hc233_49 : (999999999 : Int64) < Rf
    · have _ := 0
      have pre50 : ∀ t, Steps p.tables e below (T46.setTop (mkF m 237 #[.val (.int p1), .val (.int p2), .val (.int p3), .val (.int p4), .val (.ref b1), .val (.int Lv), .val (.int (own_mx Lv)), .val (.int Al), .val (.int Kk), .val (.long Rf), .second, .unset] [(.int (1 : Int32))])) t → Steps p.tables e below (s₁.setTop (entryFrame m #[(.int p1), (.int p2), (.int p3), (.int p4)] maxLocals)) t := fun t k => pre48 t (by
        show Steps p.tables e below (T46.setTop (mkF m 233 #[.val (.int p1), .val (.int p2), .val (.int p3), .val (.int p4), .val (.ref b1), .val (.int Lv), .val (.int (own_mx Lv)), .val (.int Al), .val (.int Kk), .val (.long Rf), .second, .unset] [(.int (lcmpW Rf (999999999 : Int64)))])) _
        refine XS.ifNo X46.here hx rfl (hb hby at_233) rfl ((if0 _ _).trans (tlt ((lw_gt Rf (999999999 : Int64)).mpr hc233_49)).2.2.2) ?_
        show Steps p.tables e below (T46.setTop (mkF m 236 #[.val (.int p1), .val (.int p2), .val (.int p3), .val (.int p4), .val (.ref b1), .val (.int Lv), .val (.int (own_mx Lv)), .val (.int Al), .val (.int Kk), .val (.long Rf), .second, .unset] [])) _
        refine XT.iconstV X46.here hx rfl (1 : Int32) (hb hby at_236) (by decide) ?_
        exact k)
      obtain ⟨fs, hr, hrun, hended, hW, hsame⟩ := X46.leave (v := some (.int (1 : Int32))) (fun h => by rw [Bd.returns] at h; cases h)
      refine ⟨_, _, pre50 _ ?_, hrun, hended, _, _, rfl, ?_, ⟨_, rfl⟩, hW, hsame.mono (by decide) (by decide)⟩
      · show Steps p.tables e below (T46.setTop (mkF m 237 #[.val (.int p1), .val (.int p2), .val (.int p3), .val (.int p4), .val (.ref b1), .val (.int Lv), .val (.int (own_mx Lv)), .val (.int Al), .val (.int Kk), .val (.long Rf), .second, .unset] [(.int (1 : Int32))])) _
        exact retOut X46 hx Bd.returns rfl (Or.inl ⟨rfl, by simp, _, rfl⟩) (hb hby at_237) hr
      · show Q0 Z p1 p2 p3 p4  h0 n0 _ T46.heap _
        rw [e46]
        exact ⟨rfl, N46⟩
    · have _ := 0
      obtain ⟨T51, h51, X51, e51, E51, A51, D51, -, st51⟩ := newO X46 hx hZ hown (hw _ (List.mem_of_getElem? (i := 12) rfl)) (hw _ (List.mem_of_getElem? (i := 13) rfl)) (hw _ (List.mem_of_getElem? (i := 14) rfl)) e46 (g := (mkF m 238 #[.val (.int p1), .val (.int p2), .val (.int p3), .val (.int p4), .val (.ref b1), .val (.int Lv), .val (.int (own_mx Lv)), .val (.int Al), .val (.int Kk), .val (.long Rf), .second, .unset] [])) rfl (hb hby at_238) (by decide) (by decide)
      obtain ⟨b51, g51⟩ : ∃ z, z = h40.size := ⟨_, rfl⟩
      rw [← g51] at A51 D51 st51
      have ne_b1_b51 : b1 ≠ b51 := Nat.ne_of_lt (Nat.lt_of_lt_of_le V40.lt (Nat.le_of_eq g51.symm))
      have z_b51 : h0.size ≤ b51 := Nat.le_trans O40.1 (Nat.le_of_eq g51.symm)
      have g_b51 : n0 ≤ b51 := Nat.le_trans Z0 z_b51
      have V51_b1 := V40.ext E51
      have O51 := own_ext_trans O40 E51
      have F51_b51_k : Fld Z h51 b51 "com/example/tidegauge/tidegauge/MacroClusterSettings" "k" "I" (.int (0 : Int32)) := D51 (Or.inr (hw _ (List.mem_of_getElem? (i := 27) rfl))) (ty := .int) (by decide)
      have F51_b51_alpha : Fld Z h51 b51 "com/example/tidegauge/tidegauge/MacroClusterSettings" "alpha" "I" (.int (0 : Int32)) := D51 (Or.inr (hw _ (List.mem_of_getElem? (i := 29) rfl))) (ty := .int) (by decide)
      have F51_b51_l : Fld Z h51 b51 "com/example/tidegauge/tidegauge/MacroClusterSettings" "l" "I" (.int (0 : Int32)) := D51 (Or.inr (hw _ (List.mem_of_getElem? (i := 31) rfl))) (ty := .int) (by decide)
      obtain ⟨_, _, ⟨T52, L52, k52, n52⟩, -, X52, ⟨Lc52, hQ52, l52, y52, z52⟩, st52⟩ := X51.specialBack hx (y := (⟨"com/example/tidegauge/tidegauge/MacroClusterSettings", "<init>", "(III)V"⟩ : MethodName)) rfl hown (mvT hZ (hw _ (List.mem_of_getElem? (i := 15) rfl))) (mvT hZ (hw _ (List.mem_of_getElem? (i := 16) rfl))) (mvT hZ (hw _ (List.mem_of_getElem? (i := 17) rfl))) (by decide) (backOf (W := 1) (rm_init l Z a0 hw [] b51 Kk Al Lv h51 n0 (Nat.le_trans Z0 O51.1) A51 F51_b51_k F51_b51_alpha F51_b51_l g_b51) hZ (hw _ (List.mem_of_getElem? (i := 17) rfl)) (hw _ (List.mem_of_getElem? (i := 14) rfl)) (by decide) (by decide)) (g := (mkF m 248 #[.val (.int p1), .val (.int p2), .val (.int p3), .val (.int p4), .val (.ref b1), .val (.int Lv), .val (.int (own_mx Lv)), .val (.int Al), .val (.int Kk), .val (.long Rf), .second, .unset] [(.int Lv), (.int Al), (.int Kk), (.ref b51), (.ref b51)])) rfl (by rw [hml]; rfl) (Steps.refl _) (a := b51) (argsL := [(.int Kk), (.int Al), (.int Lv)]) (rest := [(.ref b51)]) (lenOf pd_4 rfl) rfl (by show 2 * 0 + _ ≤ _; exact Nat.le_of_eq rfl) (hb hby at_248) (fun _ _ => ⟨rfl, e51, (by decide : 2 + 0 ≤ _), (by decide : 33 + 0 ≤ _)⟩)
      dsimp only [Pt.U, Pt.locs, Pt.cells, Pt.slots] at X52 l52 y52 z52 st52 hQ52
      rw [y52, z52] at X52
      obtain ⟨rfl, N52q, K52c, E52c, F52c, F52d⟩ := hQ52
      have N52 : Fr n0 L52 := by rw [l52]; exact Fr.app N46 N52q
      have E52_b51 := A51.keep K52c
      have V52_b1 := V51_b1.keep K52c (ninS ne_b1_b51 nin0)
      have O52 := own_ext_keep O51 K52c (allS z_b51 all0)
      have fin := own_fin hi hAb hRf hc233_49
      obtain ⟨cq53, kq53, q53a, q53b, q53c⟩ := isOf hZ rfl E52c
      obtain ⟨_, _, ⟨T53, L53, k53, n53⟩, -, X53, ⟨Lc53, hQ53, l53, y53, z53⟩, st53⟩ := X52.virtualBack hx (y := (⟨"com/example/tidegauge/tidegauge/MacroClusterSettings", "snapshotsPerOrder", "()I"⟩ : MethodName)) (z := (⟨"com/example/tidegauge/tidegauge/MacroClusterSettings", "snapshotsPerOrder", "()I"⟩ : MethodName)) hown (mvT hZ (hw _ (List.mem_of_getElem? (i := 32) rfl))) (mvT hZ (hw _ (List.mem_of_getElem? (i := 33) rfl))) (notFace_of_selects (args := #[]) (mvT hZ (hw _ (List.mem_of_getElem? (i := 35) rfl)))) (mvT hZ (hw _ (List.mem_of_getElem? (i := 35) rfl))) (mvT hZ (hw _ (List.mem_of_getElem? (i := 34) rfl))) (by decide) (backOf (W := 0) (rm_snap l Z a0 hw [] b51 T52.heap n0 (Nat.le_trans Z0 O52.1) Al Lv F52c F52d Al.toInt.toNat Lv.toInt.toNat (own_nat hAb).1 (own_lv hi) (own_nat hAb).2 fin.1 Rf fin.2) hZ (hw _ (List.mem_of_getElem? (i := 36) rfl)) (hw _ (List.mem_of_getElem? (i := 14) rfl)) (by decide) (by decide)) q53a q53c (g := (mkF m 255 #[.val (.int p1), .val (.int p2), .val (.int p3), .val (.int p4), .val (.ref b1), .val (.int Lv), .val (.int (own_mx Lv)), .val (.int Al), .val (.int Kk), .val (.long Rf), .second, .val (.ref b51)] [(.ref b51)])) rfl (by rw [hml]; rfl) (Steps.refl _) (argsL := []) (rest := []) (lenOf pd_5 rfl) rfl (by show 2 * 0 + _ ≤ _; exact Nat.le_of_eq rfl) (hb hby at_255) (fun _ _ => ⟨rfl, rfl, (by decide : 2 + 0 ≤ _), (by decide : 33 + 0 ≤ _)⟩)
      dsimp only [Pt.U, Pt.locs, Pt.cells, Pt.slots] at X53 l53 y53 z53 st53 hQ53
      rw [y53, z53] at X53
      obtain ⟨rfl, N53q, e53⟩ := hQ53
      have N53 : Fr n0 L53 := by rw [l53]; exact Fr.app N52 N53q
      have pre54 : ∀ t, Steps p.tables e below (T53.setTop (mkF m 262 #[.val (.int p1), .val (.int p2), .val (.int p3), .val (.int p4), .val (.ref b1), .val (.int Lv), .val (.int (own_mx Lv)), .val (.int Al), .val (.int Kk), .val (.long Rf), .second, .val (.ref b51)] [(.int (1 : Int32)), (.int (Rf.toInt32)), (.int ((Rf.toInt32) + (1 : Int32)))])) t → Steps p.tables e below (s₁.setTop (entryFrame m #[(.int p1), (.int p2), (.int p3), (.int p4)] maxLocals)) t := fun t k => pre48 t (by
        show Steps p.tables e below (T46.setTop (mkF m 233 #[.val (.int p1), .val (.int p2), .val (.int p3), .val (.int p4), .val (.ref b1), .val (.int Lv), .val (.int (own_mx Lv)), .val (.int Al), .val (.int Kk), .val (.long Rf), .second, .unset] [(.int (lcmpW Rf (999999999 : Int64)))])) _
        refine XS.ifYes X46.here hx rfl (pc0 := 233) (pc' := 238) rfl (hb hby at_233) rfl ((if0 _ _).trans (flt (fun qh_ => hc233_49 ((lw_gt Rf (999999999 : Int64)).mp qh_))).2.2.2) (by decide) (by decide) ?_
        show Steps p.tables e below (T46.setTop (mkF m 238 #[.val (.int p1), .val (.int p2), .val (.int p3), .val (.int p4), .val (.ref b1), .val (.int Lv), .val (.int (own_mx Lv)), .val (.int Al), .val (.int Kk), .val (.long Rf), .second, .unset] [])) _
        refine st51 _ ?_
        show Steps p.tables e below (T51.setTop (mkF m 241 #[.val (.int p1), .val (.int p2), .val (.int p3), .val (.int p4), .val (.ref b1), .val (.int Lv), .val (.int (own_mx Lv)), .val (.int Al), .val (.int Kk), .val (.long Rf), .second, .unset] [(.ref b51)])) _
        refine XS.dup X51.here hx rfl (hb hby at_241) rfl rfl ?_
        show Steps p.tables e below (T51.setTop (mkF m 242 #[.val (.int p1), .val (.int p2), .val (.int p3), .val (.int p4), .val (.ref b1), .val (.int Lv), .val (.int (own_mx Lv)), .val (.int Al), .val (.int Kk), .val (.long Rf), .second, .unset] [(.ref b51), (.ref b51)])) _
        refine XS.iload X51.here hx rfl (hb hby at_242) rfl ?_
        show Steps p.tables e below (T51.setTop (mkF m 244 #[.val (.int p1), .val (.int p2), .val (.int p3), .val (.int p4), .val (.ref b1), .val (.int Lv), .val (.int (own_mx Lv)), .val (.int Al), .val (.int Kk), .val (.long Rf), .second, .unset] [(.int Kk), (.ref b51), (.ref b51)])) _
        refine XS.iload X51.here hx rfl (hb hby at_244) rfl ?_
        show Steps p.tables e below (T51.setTop (mkF m 246 #[.val (.int p1), .val (.int p2), .val (.int p3), .val (.int p4), .val (.ref b1), .val (.int Lv), .val (.int (own_mx Lv)), .val (.int Al), .val (.int Kk), .val (.long Rf), .second, .unset] [(.int Al), (.int Kk), (.ref b51), (.ref b51)])) _
        refine XS.iload X51.here hx rfl (hb hby at_246) rfl ?_
        show Steps p.tables e below (T51.setTop (mkF m 248 #[.val (.int p1), .val (.int p2), .val (.int p3), .val (.int p4), .val (.ref b1), .val (.int Lv), .val (.int (own_mx Lv)), .val (.int Al), .val (.int Kk), .val (.long Rf), .second, .unset] [(.int Lv), (.int Al), (.int Kk), (.ref b51), (.ref b51)])) _
        refine st52.trans ?_
        show Steps p.tables e below (T52.setTop (mkF m 251 #[.val (.int p1), .val (.int p2), .val (.int p3), .val (.int p4), .val (.ref b1), .val (.int Lv), .val (.int (own_mx Lv)), .val (.int Al), .val (.int Kk), .val (.long Rf), .second, .unset] [(.ref b51)])) _
        refine XS.astore X52.here hx rfl (hb hby at_251) rfl rfl (l' := #[.val (.int p1), .val (.int p2), .val (.int p3), .val (.int p4), .val (.ref b1), .val (.int Lv), .val (.int (own_mx Lv)), .val (.int Al), .val (.int Kk), .val (.long Rf), .second, .val (.ref b51)]) rfl ?_
        show Steps p.tables e below (T52.setTop (mkF m 253 #[.val (.int p1), .val (.int p2), .val (.int p3), .val (.int p4), .val (.ref b1), .val (.int Lv), .val (.int (own_mx Lv)), .val (.int Al), .val (.int Kk), .val (.long Rf), .second, .val (.ref b51)] [])) _
        refine XS.aload X52.here hx rfl (hb hby at_253) rfl rfl ?_
        show Steps p.tables e below (T52.setTop (mkF m 255 #[.val (.int p1), .val (.int p2), .val (.int p3), .val (.int p4), .val (.ref b1), .val (.int Lv), .val (.int (own_mx Lv)), .val (.int Al), .val (.int Kk), .val (.long Rf), .second, .val (.ref b51)] [(.ref b51)])) _
        refine st53.trans ?_
        show Steps p.tables e below (T53.setTop (mkF m 258 #[.val (.int p1), .val (.int p2), .val (.int p3), .val (.int p4), .val (.ref b1), .val (.int Lv), .val (.int (own_mx Lv)), .val (.int Al), .val (.int Kk), .val (.long Rf), .second, .val (.ref b51)] [(.int ((Rf.toInt32) + (1 : Int32)))])) _
        refine XS.lload X53.here hx rfl (hb hby at_258) rfl ?_
        show Steps p.tables e below (T53.setTop (mkF m 260 #[.val (.int p1), .val (.int p2), .val (.int p3), .val (.int p4), .val (.ref b1), .val (.int Lv), .val (.int (own_mx Lv)), .val (.int Al), .val (.int Kk), .val (.long Rf), .second, .val (.ref b51)] [(.long Rf), (.int ((Rf.toInt32) + (1 : Int32)))])) _
        refine XS.l2i X53.here hx rfl (hb hby at_260) rfl ?_
        show Steps p.tables e below (T53.setTop (mkF m 261 #[.val (.int p1), .val (.int p2), .val (.int p3), .val (.int p4), .val (.ref b1), .val (.int Lv), .val (.int (own_mx Lv)), .val (.int Al), .val (.int Kk), .val (.long Rf), .second, .val (.ref b51)] [(.int (Rf.toInt32)), (.int ((Rf.toInt32) + (1 : Int32)))])) _
        refine XT.iconstV X53.here hx rfl (1 : Int32) (hb hby at_261) (by decide) ?_
        exact k)
      have pre55 : ∀ t, Steps p.tables e below (T53.setTop (mkF m 271 #[.val (.int p1), .val (.int p2), .val (.int p3), .val (.int p4), .val (.ref b1), .val (.int Lv), .val (.int (own_mx Lv)), .val (.int Al), .val (.int Kk), .val (.long Rf), .second, .val (.ref b51)] [(.int (1 : Int32))])) t → Steps p.tables e below (s₁.setTop (entryFrame m #[(.int p1), (.int p2), (.int p3), (.int p4)] maxLocals)) t := fun t k => pre54 t (by
        show Steps p.tables e below (T53.setTop (mkF m 262 #[.val (.int p1), .val (.int p2), .val (.int p3), .val (.int p4), .val (.ref b1), .val (.int Lv), .val (.int (own_mx Lv)), .val (.int Al), .val (.int Kk), .val (.long Rf), .second, .val (.ref b51)] [(.int (1 : Int32)), (.int (Rf.toInt32)), (.int ((Rf.toInt32) + (1 : Int32)))])) _
        refine XS.iadd X53.here hx rfl (hb hby at_262) rfl ?_
        show Steps p.tables e below (T53.setTop (mkF m 263 #[.val (.int p1), .val (.int p2), .val (.int p3), .val (.int p4), .val (.ref b1), .val (.int Lv), .val (.int (own_mx Lv)), .val (.int Al), .val (.int Kk), .val (.long Rf), .second, .val (.ref b51)] [(.int ((Rf.toInt32) + (1 : Int32))), (.int ((Rf.toInt32) + (1 : Int32)))])) _
        refine XS.icmpNo X53.here hx rfl (hb hby at_263) rfl (teq (rfl : ((Rf.toInt32) + (1 : Int32)) = ((Rf.toInt32) + (1 : Int32)))).2 ?_
        show Steps p.tables e below (T53.setTop (mkF m 266 #[.val (.int p1), .val (.int p2), .val (.int p3), .val (.int p4), .val (.ref b1), .val (.int Lv), .val (.int (own_mx Lv)), .val (.int Al), .val (.int Kk), .val (.long Rf), .second, .val (.ref b51)] [])) _
        refine XT.iconstV X53.here hx rfl (1 : Int32) (hb hby at_266) (by decide) ?_
        show Steps p.tables e below (T53.setTop (mkF m 267 #[.val (.int p1), .val (.int p2), .val (.int p3), .val (.int p4), .val (.ref b1), .val (.int Lv), .val (.int (own_mx Lv)), .val (.int Al), .val (.int Kk), .val (.long Rf), .second, .val (.ref b51)] [(.int (1 : Int32))])) _
        refine XS.goto X53.here hx rfl (pc0 := 267) (pc' := 271) rfl (hb hby at_267) (by decide) (by decide) ?_
        exact k)
      obtain ⟨fs, hr, hrun, hended, hW, hsame⟩ := X53.leave (v := some (.int (1 : Int32))) (fun h => by rw [Bd.returns] at h; cases h)
      refine ⟨_, _, pre55 _ ?_, hrun, hended, _, _, rfl, ?_, ⟨_, rfl⟩, hW, hsame.mono (by decide) (by decide)⟩
      · show Steps p.tables e below (T53.setTop (mkF m 271 #[.val (.int p1), .val (.int p2), .val (.int p3), .val (.int p4), .val (.ref b1), .val (.int Lv), .val (.int (own_mx Lv)), .val (.int Al), .val (.int Kk), .val (.long Rf), .second, .val (.ref b51)] [(.int (1 : Int32))])) _
        exact retOut X53 hx Bd.returns rfl (Or.inl ⟨rfl, by simp, _, rfl⟩) (hb hby at_271) hr
      · show Q0 Z p1 p2 p3 p4  h0 n0 _ T53.heap _
        rw [e53]
        exact ⟨rfl, N53⟩
  · have _ := 0
    obtain ⟨Al, hAl⟩ : ∃ z, z = (own_mx Lv) := ⟨_, rfl⟩
    have hAb : 2 ≤ Al.toInt ∧ Al.toInt ≤ 999999999 := by rw [hAl]; exact own_mxb hi
    obtain ⟨Kk, hKk⟩ : ∃ z, z = ((1 : Int32) + ((p1 &&& (2147483647 : Int32)) % (999999999 : Int32))) := ⟨_, rfl⟩
    have pre56 : ∀ t, Steps p.tables e below (T40.setTop (mkF m 215 #[.val (.int p1), .val (.int p2), .val (.int p3), .val (.int p4), .val (.ref b1), .val (.int Lv), .val (.int (own_mx Lv)), .val (.int Al), .unset, .unset, .unset, .unset] [(.int Kk)])) t → Steps p.tables e below (s₁.setTop (entryFrame m #[(.int p1), (.int p2), (.int p3), (.int p4)] maxLocals)) t := fun t k => pre43 t (by
      show Steps p.tables e below (T40.setTop (mkF m 185 #[.val (.int p1), .val (.int p2), .val (.int p3), .val (.int p4), .val (.ref b1), .val (.int Lv), .val (.int (own_mx Lv)), .unset, .unset, .unset, .unset, .unset] [(.int (p4 &&& (1 : Int32)))])) _
      refine XS.ifNo X40.here hx rfl (hb hby at_185) rfl ((if0 _ _).trans (feq hc185_44).1) ?_
      show Steps p.tables e below (T40.setTop (mkF m 188 #[.val (.int p1), .val (.int p2), .val (.int p3), .val (.int p4), .val (.ref b1), .val (.int Lv), .val (.int (own_mx Lv)), .unset, .unset, .unset, .unset, .unset] [])) _
      refine XS.iload X40.here hx rfl (hb hby at_188) rfl ?_
      show Steps p.tables e below (T40.setTop (mkF m 190 #[.val (.int p1), .val (.int p2), .val (.int p3), .val (.int p4), .val (.ref b1), .val (.int Lv), .val (.int (own_mx Lv)), .unset, .unset, .unset, .unset, .unset] [(.int (own_mx Lv))])) _
      refine XS.goto X40.here hx rfl (pc0 := 190) (pc' := 204) rfl (hb hby at_190) (by decide) (by decide) ?_
      show Steps p.tables e below (T40.setTop (mkF m 204 #[.val (.int p1), .val (.int p2), .val (.int p3), .val (.int p4), .val (.ref b1), .val (.int Lv), .val (.int (own_mx Lv)), .unset, .unset, .unset, .unset, .unset] [(.int (own_mx Lv))])) _
      refine castTop (g' := (mkF m 204 #[.val (.int p1), .val (.int p2), .val (.int p3), .val (.int p4), .val (.ref b1), .val (.int Lv), .val (.int (own_mx Lv)), .unset, .unset, .unset, .unset, .unset] [(.int Al)])) (by rw [← hAl]) ?_
      show Steps p.tables e below (T40.setTop (mkF m 204 #[.val (.int p1), .val (.int p2), .val (.int p3), .val (.int p4), .val (.ref b1), .val (.int Lv), .val (.int (own_mx Lv)), .unset, .unset, .unset, .unset, .unset] [(.int Al)])) _
      refine XS.istore X40.here hx rfl (hb hby at_204) rfl (l' := #[.val (.int p1), .val (.int p2), .val (.int p3), .val (.int p4), .val (.ref b1), .val (.int Lv), .val (.int (own_mx Lv)), .val (.int Al), .unset, .unset, .unset, .unset]) rfl ?_
      show Steps p.tables e below (T40.setTop (mkF m 206 #[.val (.int p1), .val (.int p2), .val (.int p3), .val (.int p4), .val (.ref b1), .val (.int Lv), .val (.int (own_mx Lv)), .val (.int Al), .unset, .unset, .unset, .unset] [])) _
      refine XT.iconstV X40.here hx rfl (1 : Int32) (hb hby at_206) (by decide) ?_
      show Steps p.tables e below (T40.setTop (mkF m 207 #[.val (.int p1), .val (.int p2), .val (.int p3), .val (.int p4), .val (.ref b1), .val (.int Lv), .val (.int (own_mx Lv)), .val (.int Al), .unset, .unset, .unset, .unset] [(.int (1 : Int32))])) _
      refine XS.iloadN X40.here hx rfl (hb hby at_207) rfl ?_
      show Steps p.tables e below (T40.setTop (mkF m 208 #[.val (.int p1), .val (.int p2), .val (.int p3), .val (.int p4), .val (.ref b1), .val (.int Lv), .val (.int (own_mx Lv)), .val (.int Al), .unset, .unset, .unset, .unset] [(.int p1), (.int (1 : Int32))])) _
      refine X40.ldcInt hx hown (mvT hZ (hw _ (List.mem_of_getElem? (i := 2) rfl))) (g := (mkF m 208 #[.val (.int p1), .val (.int p2), .val (.int p3), .val (.int p4), .val (.ref b1), .val (.int Lv), .val (.int (own_mx Lv)), .val (.int Al), .unset, .unset, .unset, .unset] [(.int p1), (.int (1 : Int32))])) rfl (hb hby at_208) _ ?_
      show Steps p.tables e below (T40.setTop (mkF m 210 #[.val (.int p1), .val (.int p2), .val (.int p3), .val (.int p4), .val (.ref b1), .val (.int Lv), .val (.int (own_mx Lv)), .val (.int Al), .unset, .unset, .unset, .unset] [(.int (2147483647 : Int32)), (.int p1), (.int (1 : Int32))])) _
      refine XS.iand X40.here hx rfl (hb hby at_210) rfl ?_
      show Steps p.tables e below (T40.setTop (mkF m 211 #[.val (.int p1), .val (.int p2), .val (.int p3), .val (.int p4), .val (.ref b1), .val (.int Lv), .val (.int (own_mx Lv)), .val (.int Al), .unset, .unset, .unset, .unset] [(.int (p1 &&& (2147483647 : Int32))), (.int (1 : Int32))])) _
      refine X40.ldcInt hx hown (mvT hZ (hw _ (List.mem_of_getElem? (i := 1) rfl))) (g := (mkF m 211 #[.val (.int p1), .val (.int p2), .val (.int p3), .val (.int p4), .val (.ref b1), .val (.int Lv), .val (.int (own_mx Lv)), .val (.int Al), .unset, .unset, .unset, .unset] [(.int (p1 &&& (2147483647 : Int32))), (.int (1 : Int32))])) rfl (hb hby at_211) _ ?_
      show Steps p.tables e below (T40.setTop (mkF m 213 #[.val (.int p1), .val (.int p2), .val (.int p3), .val (.int p4), .val (.ref b1), .val (.int Lv), .val (.int (own_mx Lv)), .val (.int Al), .unset, .unset, .unset, .unset] [(.int (999999999 : Int32)), (.int (p1 &&& (2147483647 : Int32))), (.int (1 : Int32))])) _
      refine iremM X40 hx rfl (hb hby at_213) rfl (by decide) ?_
      show Steps p.tables e below (T40.setTop (mkF m 214 #[.val (.int p1), .val (.int p2), .val (.int p3), .val (.int p4), .val (.ref b1), .val (.int Lv), .val (.int (own_mx Lv)), .val (.int Al), .unset, .unset, .unset, .unset] [(.int ((p1 &&& (2147483647 : Int32)) % (999999999 : Int32))), (.int (1 : Int32))])) _
      refine XS.iadd X40.here hx rfl (hb hby at_214) rfl ?_
      show Steps p.tables e below (T40.setTop (mkF m 215 #[.val (.int p1), .val (.int p2), .val (.int p3), .val (.int p4), .val (.ref b1), .val (.int Lv), .val (.int (own_mx Lv)), .val (.int Al), .unset, .unset, .unset, .unset] [(.int ((1 : Int32) + ((p1 &&& (2147483647 : Int32)) % (999999999 : Int32))))])) _
      refine castTop (g' := (mkF m 215 #[.val (.int p1), .val (.int p2), .val (.int p3), .val (.int p4), .val (.ref b1), .val (.int Lv), .val (.int (own_mx Lv)), .val (.int Al), .unset, .unset, .unset, .unset] [(.int Kk)])) (by rw [← hKk]) ?_
      exact k)
    obtain ⟨Rf, hRf⟩ : ∃ z, own_r5 Al.toInt64 Lv = z := ⟨_, rfl⟩
    obtain ⟨_, _, ⟨T57, L57, k57, n57⟩, -, X57, ⟨Lc57, hQ57, l57, y57, z57⟩, st57⟩ := Jvm.LawKit.callS X40 hx (y := (⟨"com/example/tidegauge/tidegauge/MacroClusterSettingsSnapshotsPerOrderPinLaw", "pow", "(JI)J"⟩ : MethodName)) hown (mvT hZ (hw _ (List.mem_of_getElem? (i := 3) rfl))) (mvT hZ (hw _ (List.mem_of_getElem? (i := 4) rfl))) (mvT hZ (hw _ (List.mem_of_getElem? (i := 5) rfl))) (mvT hZ (hw _ (List.mem_of_getElem? (i := 6) rfl))) (by decide) (backOf (W := 0) (rm_pow l Z a0 hw [] (Al.toInt64) Lv h40 n0 (Nat.le_trans Z0 O40.1) Rf hRf) hZ (hw _ (List.mem_of_getElem? (i := 6) rfl)) (hw _ (List.mem_of_getElem? (i := 5) rfl)) (by decide) (by decide)) (g := (mkF m 222 #[.val (.int p1), .val (.int p2), .val (.int p3), .val (.int p4), .val (.ref b1), .val (.int Lv), .val (.int (own_mx Lv)), .val (.int Al), .val (.int Kk), .unset, .unset, .unset] [(.int Lv), (.long (Al.toInt64))])) rfl (by rw [hml]; rfl) (argsL := [(.long (Al.toInt64)), (.int Lv)]) (rest := []) (lenOf pd_3 rfl) rfl (by show 2 * 0 + _ ≤ _; exact Nat.le_of_eq rfl) (hb hby at_222) (fun _ _ => ⟨rfl, e40, (by decide : 1 + 0 ≤ _), (by decide : 30 + 0 ≤ _)⟩)
    dsimp only [Pt.U, Pt.locs, Pt.cells, Pt.slots] at X57 l57 y57 z57 st57 hQ57
    rw [y57, z57] at X57
    obtain ⟨rfl, N57q, e57⟩ := hQ57
    have N57 : Fr n0 L57 := by rw [l57]; exact Fr.app N40 N57q
    have pre58 : ∀ t, Steps p.tables e below (T57.setTop (mkF m 233 #[.val (.int p1), .val (.int p2), .val (.int p3), .val (.int p4), .val (.ref b1), .val (.int Lv), .val (.int (own_mx Lv)), .val (.int Al), .val (.int Kk), .val (.long Rf), .second, .unset] [(.int (lcmpW Rf (999999999 : Int64)))])) t → Steps p.tables e below (s₁.setTop (entryFrame m #[(.int p1), (.int p2), (.int p3), (.int p4)] maxLocals)) t := fun t k => pre56 t (by
      show Steps p.tables e below (T40.setTop (mkF m 215 #[.val (.int p1), .val (.int p2), .val (.int p3), .val (.int p4), .val (.ref b1), .val (.int Lv), .val (.int (own_mx Lv)), .val (.int Al), .unset, .unset, .unset, .unset] [(.int Kk)])) _
      refine XS.istore X40.here hx rfl (hb hby at_215) rfl (l' := #[.val (.int p1), .val (.int p2), .val (.int p3), .val (.int p4), .val (.ref b1), .val (.int Lv), .val (.int (own_mx Lv)), .val (.int Al), .val (.int Kk), .unset, .unset, .unset]) rfl ?_
      show Steps p.tables e below (T40.setTop (mkF m 217 #[.val (.int p1), .val (.int p2), .val (.int p3), .val (.int p4), .val (.ref b1), .val (.int Lv), .val (.int (own_mx Lv)), .val (.int Al), .val (.int Kk), .unset, .unset, .unset] [])) _
      refine XS.iload X40.here hx rfl (hb hby at_217) rfl ?_
      show Steps p.tables e below (T40.setTop (mkF m 219 #[.val (.int p1), .val (.int p2), .val (.int p3), .val (.int p4), .val (.ref b1), .val (.int Lv), .val (.int (own_mx Lv)), .val (.int Al), .val (.int Kk), .unset, .unset, .unset] [(.int Al)])) _
      refine XS.i2l X40.here hx rfl (hb hby at_219) rfl ?_
      show Steps p.tables e below (T40.setTop (mkF m 220 #[.val (.int p1), .val (.int p2), .val (.int p3), .val (.int p4), .val (.ref b1), .val (.int Lv), .val (.int (own_mx Lv)), .val (.int Al), .val (.int Kk), .unset, .unset, .unset] [(.long (Al.toInt64))])) _
      refine XS.iload X40.here hx rfl (hb hby at_220) rfl ?_
      show Steps p.tables e below (T40.setTop (mkF m 222 #[.val (.int p1), .val (.int p2), .val (.int p3), .val (.int p4), .val (.ref b1), .val (.int Lv), .val (.int (own_mx Lv)), .val (.int Al), .val (.int Kk), .unset, .unset, .unset] [(.int Lv), (.long (Al.toInt64))])) _
      refine st57 _ ?_
      show Steps p.tables e below (T57.setTop (mkF m 225 #[.val (.int p1), .val (.int p2), .val (.int p3), .val (.int p4), .val (.ref b1), .val (.int Lv), .val (.int (own_mx Lv)), .val (.int Al), .val (.int Kk), .unset, .unset, .unset] [(.long Rf)])) _
      refine XS.lstore X57.here hx rfl (hb hby at_225) rfl (l' := #[.val (.int p1), .val (.int p2), .val (.int p3), .val (.int p4), .val (.ref b1), .val (.int Lv), .val (.int (own_mx Lv)), .val (.int Al), .val (.int Kk), .val (.long Rf), .second, .unset]) rfl ?_
      show Steps p.tables e below (T57.setTop (mkF m 227 #[.val (.int p1), .val (.int p2), .val (.int p3), .val (.int p4), .val (.ref b1), .val (.int Lv), .val (.int (own_mx Lv)), .val (.int Al), .val (.int Kk), .val (.long Rf), .second, .unset] [])) _
      refine XS.lload X57.here hx rfl (hb hby at_227) rfl ?_
      show Steps p.tables e below (T57.setTop (mkF m 229 #[.val (.int p1), .val (.int p2), .val (.int p3), .val (.int p4), .val (.ref b1), .val (.int Lv), .val (.int (own_mx Lv)), .val (.int Al), .val (.int Kk), .val (.long Rf), .second, .unset] [(.long Rf)])) _
      refine X57.ldc2Long hx hown (mvT hZ (hw _ (List.mem_of_getElem? (i := 11) rfl))) (g := (mkF m 229 #[.val (.int p1), .val (.int p2), .val (.int p3), .val (.int p4), .val (.ref b1), .val (.int Lv), .val (.int (own_mx Lv)), .val (.int Al), .val (.int Kk), .val (.long Rf), .second, .unset] [(.long Rf)])) rfl (hb hby at_229) _ ?_
      show Steps p.tables e below (T57.setTop (mkF m 232 #[.val (.int p1), .val (.int p2), .val (.int p3), .val (.int p4), .val (.ref b1), .val (.int Lv), .val (.int (own_mx Lv)), .val (.int Al), .val (.int Kk), .val (.long Rf), .second, .unset] [(.long (999999999 : Int64)), (.long Rf)])) _
      refine XS.lcmp X57.here hx rfl (hb hby at_232) rfl ?_
      exact k)
    by_cases hc233_59 : (999999999 : Int64) < Rf
    · have _ := 0
      have pre60 : ∀ t, Steps p.tables e below (T57.setTop (mkF m 237 #[.val (.int p1), .val (.int p2), .val (.int p3), .val (.int p4), .val (.ref b1), .val (.int Lv), .val (.int (own_mx Lv)), .val (.int Al), .val (.int Kk), .val (.long Rf), .second, .unset] [(.int (1 : Int32))])) t → Steps p.tables e below (s₁.setTop (entryFrame m #[(.int p1), (.int p2), (.int p3), (.int p4)] maxLocals)) t := fun t k => pre58 t (by
        show Steps p.tables e below (T57.setTop (mkF m 233 #[.val (.int p1), .val (.int p2), .val (.int p3), .val (.int p4), .val (.ref b1), .val (.int Lv), .val (.int (own_mx Lv)), .val (.int Al), .val (.int Kk), .val (.long Rf), .second, .unset] [(.int (lcmpW Rf (999999999 : Int64)))])) _
        refine XS.ifNo X57.here hx rfl (hb hby at_233) rfl ((if0 _ _).trans (tlt ((lw_gt Rf (999999999 : Int64)).mpr hc233_59)).2.2.2) ?_
        show Steps p.tables e below (T57.setTop (mkF m 236 #[.val (.int p1), .val (.int p2), .val (.int p3), .val (.int p4), .val (.ref b1), .val (.int Lv), .val (.int (own_mx Lv)), .val (.int Al), .val (.int Kk), .val (.long Rf), .second, .unset] [])) _
        refine XT.iconstV X57.here hx rfl (1 : Int32) (hb hby at_236) (by decide) ?_
        exact k)
      obtain ⟨fs, hr, hrun, hended, hW, hsame⟩ := X57.leave (v := some (.int (1 : Int32))) (fun h => by rw [Bd.returns] at h; cases h)
      refine ⟨_, _, pre60 _ ?_, hrun, hended, _, _, rfl, ?_, ⟨_, rfl⟩, hW, hsame.mono (by decide) (by decide)⟩
      · show Steps p.tables e below (T57.setTop (mkF m 237 #[.val (.int p1), .val (.int p2), .val (.int p3), .val (.int p4), .val (.ref b1), .val (.int Lv), .val (.int (own_mx Lv)), .val (.int Al), .val (.int Kk), .val (.long Rf), .second, .unset] [(.int (1 : Int32))])) _
        exact retOut X57 hx Bd.returns rfl (Or.inl ⟨rfl, by simp, _, rfl⟩) (hb hby at_237) hr
      · show Q0 Z p1 p2 p3 p4  h0 n0 _ T57.heap _
        rw [e57]
        exact ⟨rfl, N57⟩
    · have _ := 0
      obtain ⟨T61, h61, X61, e61, E61, A61, D61, -, st61⟩ := newO X57 hx hZ hown (hw _ (List.mem_of_getElem? (i := 12) rfl)) (hw _ (List.mem_of_getElem? (i := 13) rfl)) (hw _ (List.mem_of_getElem? (i := 14) rfl)) e57 (g := (mkF m 238 #[.val (.int p1), .val (.int p2), .val (.int p3), .val (.int p4), .val (.ref b1), .val (.int Lv), .val (.int (own_mx Lv)), .val (.int Al), .val (.int Kk), .val (.long Rf), .second, .unset] [])) rfl (hb hby at_238) (by decide) (by decide)
      obtain ⟨b61, g61⟩ : ∃ z, z = h40.size := ⟨_, rfl⟩
      rw [← g61] at A61 D61 st61
      have ne_b1_b61 : b1 ≠ b61 := Nat.ne_of_lt (Nat.lt_of_lt_of_le V40.lt (Nat.le_of_eq g61.symm))
      have z_b61 : h0.size ≤ b61 := Nat.le_trans O40.1 (Nat.le_of_eq g61.symm)
      have g_b61 : n0 ≤ b61 := Nat.le_trans Z0 z_b61
      have V61_b1 := V40.ext E61
      have O61 := own_ext_trans O40 E61
      have F61_b61_k : Fld Z h61 b61 "com/example/tidegauge/tidegauge/MacroClusterSettings" "k" "I" (.int (0 : Int32)) := D61 (Or.inr (hw _ (List.mem_of_getElem? (i := 27) rfl))) (ty := .int) (by decide)
      have F61_b61_alpha : Fld Z h61 b61 "com/example/tidegauge/tidegauge/MacroClusterSettings" "alpha" "I" (.int (0 : Int32)) := D61 (Or.inr (hw _ (List.mem_of_getElem? (i := 29) rfl))) (ty := .int) (by decide)
      have F61_b61_l : Fld Z h61 b61 "com/example/tidegauge/tidegauge/MacroClusterSettings" "l" "I" (.int (0 : Int32)) := D61 (Or.inr (hw _ (List.mem_of_getElem? (i := 31) rfl))) (ty := .int) (by decide)
      obtain ⟨_, _, ⟨T62, L62, k62, n62⟩, -, X62, ⟨Lc62, hQ62, l62, y62, z62⟩, st62⟩ := X61.specialBack hx (y := (⟨"com/example/tidegauge/tidegauge/MacroClusterSettings", "<init>", "(III)V"⟩ : MethodName)) rfl hown (mvT hZ (hw _ (List.mem_of_getElem? (i := 15) rfl))) (mvT hZ (hw _ (List.mem_of_getElem? (i := 16) rfl))) (mvT hZ (hw _ (List.mem_of_getElem? (i := 17) rfl))) (by decide) (backOf (W := 1) (rm_init l Z a0 hw [] b61 Kk Al Lv h61 n0 (Nat.le_trans Z0 O61.1) A61 F61_b61_k F61_b61_alpha F61_b61_l g_b61) hZ (hw _ (List.mem_of_getElem? (i := 17) rfl)) (hw _ (List.mem_of_getElem? (i := 14) rfl)) (by decide) (by decide)) (g := (mkF m 248 #[.val (.int p1), .val (.int p2), .val (.int p3), .val (.int p4), .val (.ref b1), .val (.int Lv), .val (.int (own_mx Lv)), .val (.int Al), .val (.int Kk), .val (.long Rf), .second, .unset] [(.int Lv), (.int Al), (.int Kk), (.ref b61), (.ref b61)])) rfl (by rw [hml]; rfl) (Steps.refl _) (a := b61) (argsL := [(.int Kk), (.int Al), (.int Lv)]) (rest := [(.ref b61)]) (lenOf pd_4 rfl) rfl (by show 2 * 0 + _ ≤ _; exact Nat.le_of_eq rfl) (hb hby at_248) (fun _ _ => ⟨rfl, e61, (by decide : 2 + 0 ≤ _), (by decide : 33 + 0 ≤ _)⟩)
      dsimp only [Pt.U, Pt.locs, Pt.cells, Pt.slots] at X62 l62 y62 z62 st62 hQ62
      rw [y62, z62] at X62
      obtain ⟨rfl, N62q, K62c, E62c, F62c, F62d⟩ := hQ62
      have N62 : Fr n0 L62 := by rw [l62]; exact Fr.app N57 N62q
      have E62_b61 := A61.keep K62c
      have V62_b1 := V61_b1.keep K62c (ninS ne_b1_b61 nin0)
      have O62 := own_ext_keep O61 K62c (allS z_b61 all0)
      have fin := own_fin hi hAb hRf hc233_59
      obtain ⟨cq63, kq63, q63a, q63b, q63c⟩ := isOf hZ rfl E62c
      obtain ⟨_, _, ⟨T63, L63, k63, n63⟩, -, X63, ⟨Lc63, hQ63, l63, y63, z63⟩, st63⟩ := X62.virtualBack hx (y := (⟨"com/example/tidegauge/tidegauge/MacroClusterSettings", "snapshotsPerOrder", "()I"⟩ : MethodName)) (z := (⟨"com/example/tidegauge/tidegauge/MacroClusterSettings", "snapshotsPerOrder", "()I"⟩ : MethodName)) hown (mvT hZ (hw _ (List.mem_of_getElem? (i := 32) rfl))) (mvT hZ (hw _ (List.mem_of_getElem? (i := 33) rfl))) (notFace_of_selects (args := #[]) (mvT hZ (hw _ (List.mem_of_getElem? (i := 35) rfl)))) (mvT hZ (hw _ (List.mem_of_getElem? (i := 35) rfl))) (mvT hZ (hw _ (List.mem_of_getElem? (i := 34) rfl))) (by decide) (backOf (W := 0) (rm_snap l Z a0 hw [] b61 T62.heap n0 (Nat.le_trans Z0 O62.1) Al Lv F62c F62d Al.toInt.toNat Lv.toInt.toNat (own_nat hAb).1 (own_lv hi) (own_nat hAb).2 fin.1 Rf fin.2) hZ (hw _ (List.mem_of_getElem? (i := 36) rfl)) (hw _ (List.mem_of_getElem? (i := 14) rfl)) (by decide) (by decide)) q63a q63c (g := (mkF m 255 #[.val (.int p1), .val (.int p2), .val (.int p3), .val (.int p4), .val (.ref b1), .val (.int Lv), .val (.int (own_mx Lv)), .val (.int Al), .val (.int Kk), .val (.long Rf), .second, .val (.ref b61)] [(.ref b61)])) rfl (by rw [hml]; rfl) (Steps.refl _) (argsL := []) (rest := []) (lenOf pd_5 rfl) rfl (by show 2 * 0 + _ ≤ _; exact Nat.le_of_eq rfl) (hb hby at_255) (fun _ _ => ⟨rfl, rfl, (by decide : 2 + 0 ≤ _), (by decide : 33 + 0 ≤ _)⟩)
      dsimp only [Pt.U, Pt.locs, Pt.cells, Pt.slots] at X63 l63 y63 z63 st63 hQ63
      rw [y63, z63] at X63
      obtain ⟨rfl, N63q, e63⟩ := hQ63
      have N63 : Fr n0 L63 := by rw [l63]; exact Fr.app N62 N63q
      have pre64 : ∀ t, Steps p.tables e below (T63.setTop (mkF m 262 #[.val (.int p1), .val (.int p2), .val (.int p3), .val (.int p4), .val (.ref b1), .val (.int Lv), .val (.int (own_mx Lv)), .val (.int Al), .val (.int Kk), .val (.long Rf), .second, .val (.ref b61)] [(.int (1 : Int32)), (.int (Rf.toInt32)), (.int ((Rf.toInt32) + (1 : Int32)))])) t → Steps p.tables e below (s₁.setTop (entryFrame m #[(.int p1), (.int p2), (.int p3), (.int p4)] maxLocals)) t := fun t k => pre58 t (by
        show Steps p.tables e below (T57.setTop (mkF m 233 #[.val (.int p1), .val (.int p2), .val (.int p3), .val (.int p4), .val (.ref b1), .val (.int Lv), .val (.int (own_mx Lv)), .val (.int Al), .val (.int Kk), .val (.long Rf), .second, .unset] [(.int (lcmpW Rf (999999999 : Int64)))])) _
        refine XS.ifYes X57.here hx rfl (pc0 := 233) (pc' := 238) rfl (hb hby at_233) rfl ((if0 _ _).trans (flt (fun qh_ => hc233_59 ((lw_gt Rf (999999999 : Int64)).mp qh_))).2.2.2) (by decide) (by decide) ?_
        show Steps p.tables e below (T57.setTop (mkF m 238 #[.val (.int p1), .val (.int p2), .val (.int p3), .val (.int p4), .val (.ref b1), .val (.int Lv), .val (.int (own_mx Lv)), .val (.int Al), .val (.int Kk), .val (.long Rf), .second, .unset] [])) _
        refine st61 _ ?_
        show Steps p.tables e below (T61.setTop (mkF m 241 #[.val (.int p1), .val (.int p2), .val (.int p3), .val (.int p4), .val (.ref b1), .val (.int Lv), .val (.int (own_mx Lv)), .val (.int Al), .val (.int Kk), .val (.long Rf), .second, .unset] [(.ref b61)])) _
        refine XS.dup X61.here hx rfl (hb hby at_241) rfl rfl ?_
        show Steps p.tables e below (T61.setTop (mkF m 242 #[.val (.int p1), .val (.int p2), .val (.int p3), .val (.int p4), .val (.ref b1), .val (.int Lv), .val (.int (own_mx Lv)), .val (.int Al), .val (.int Kk), .val (.long Rf), .second, .unset] [(.ref b61), (.ref b61)])) _
        refine XS.iload X61.here hx rfl (hb hby at_242) rfl ?_
        show Steps p.tables e below (T61.setTop (mkF m 244 #[.val (.int p1), .val (.int p2), .val (.int p3), .val (.int p4), .val (.ref b1), .val (.int Lv), .val (.int (own_mx Lv)), .val (.int Al), .val (.int Kk), .val (.long Rf), .second, .unset] [(.int Kk), (.ref b61), (.ref b61)])) _
        refine XS.iload X61.here hx rfl (hb hby at_244) rfl ?_
        show Steps p.tables e below (T61.setTop (mkF m 246 #[.val (.int p1), .val (.int p2), .val (.int p3), .val (.int p4), .val (.ref b1), .val (.int Lv), .val (.int (own_mx Lv)), .val (.int Al), .val (.int Kk), .val (.long Rf), .second, .unset] [(.int Al), (.int Kk), (.ref b61), (.ref b61)])) _
        refine XS.iload X61.here hx rfl (hb hby at_246) rfl ?_
        show Steps p.tables e below (T61.setTop (mkF m 248 #[.val (.int p1), .val (.int p2), .val (.int p3), .val (.int p4), .val (.ref b1), .val (.int Lv), .val (.int (own_mx Lv)), .val (.int Al), .val (.int Kk), .val (.long Rf), .second, .unset] [(.int Lv), (.int Al), (.int Kk), (.ref b61), (.ref b61)])) _
        refine st62.trans ?_
        show Steps p.tables e below (T62.setTop (mkF m 251 #[.val (.int p1), .val (.int p2), .val (.int p3), .val (.int p4), .val (.ref b1), .val (.int Lv), .val (.int (own_mx Lv)), .val (.int Al), .val (.int Kk), .val (.long Rf), .second, .unset] [(.ref b61)])) _
        refine XS.astore X62.here hx rfl (hb hby at_251) rfl rfl (l' := #[.val (.int p1), .val (.int p2), .val (.int p3), .val (.int p4), .val (.ref b1), .val (.int Lv), .val (.int (own_mx Lv)), .val (.int Al), .val (.int Kk), .val (.long Rf), .second, .val (.ref b61)]) rfl ?_
        show Steps p.tables e below (T62.setTop (mkF m 253 #[.val (.int p1), .val (.int p2), .val (.int p3), .val (.int p4), .val (.ref b1), .val (.int Lv), .val (.int (own_mx Lv)), .val (.int Al), .val (.int Kk), .val (.long Rf), .second, .val (.ref b61)] [])) _
        refine XS.aload X62.here hx rfl (hb hby at_253) rfl rfl ?_
        show Steps p.tables e below (T62.setTop (mkF m 255 #[.val (.int p1), .val (.int p2), .val (.int p3), .val (.int p4), .val (.ref b1), .val (.int Lv), .val (.int (own_mx Lv)), .val (.int Al), .val (.int Kk), .val (.long Rf), .second, .val (.ref b61)] [(.ref b61)])) _
        refine st63.trans ?_
        show Steps p.tables e below (T63.setTop (mkF m 258 #[.val (.int p1), .val (.int p2), .val (.int p3), .val (.int p4), .val (.ref b1), .val (.int Lv), .val (.int (own_mx Lv)), .val (.int Al), .val (.int Kk), .val (.long Rf), .second, .val (.ref b61)] [(.int ((Rf.toInt32) + (1 : Int32)))])) _
        refine XS.lload X63.here hx rfl (hb hby at_258) rfl ?_
        show Steps p.tables e below (T63.setTop (mkF m 260 #[.val (.int p1), .val (.int p2), .val (.int p3), .val (.int p4), .val (.ref b1), .val (.int Lv), .val (.int (own_mx Lv)), .val (.int Al), .val (.int Kk), .val (.long Rf), .second, .val (.ref b61)] [(.long Rf), (.int ((Rf.toInt32) + (1 : Int32)))])) _
        refine XS.l2i X63.here hx rfl (hb hby at_260) rfl ?_
        show Steps p.tables e below (T63.setTop (mkF m 261 #[.val (.int p1), .val (.int p2), .val (.int p3), .val (.int p4), .val (.ref b1), .val (.int Lv), .val (.int (own_mx Lv)), .val (.int Al), .val (.int Kk), .val (.long Rf), .second, .val (.ref b61)] [(.int (Rf.toInt32)), (.int ((Rf.toInt32) + (1 : Int32)))])) _
        refine XT.iconstV X63.here hx rfl (1 : Int32) (hb hby at_261) (by decide) ?_
        exact k)
      have pre65 : ∀ t, Steps p.tables e below (T63.setTop (mkF m 271 #[.val (.int p1), .val (.int p2), .val (.int p3), .val (.int p4), .val (.ref b1), .val (.int Lv), .val (.int (own_mx Lv)), .val (.int Al), .val (.int Kk), .val (.long Rf), .second, .val (.ref b61)] [(.int (1 : Int32))])) t → Steps p.tables e below (s₁.setTop (entryFrame m #[(.int p1), (.int p2), (.int p3), (.int p4)] maxLocals)) t := fun t k => pre64 t (by
        show Steps p.tables e below (T63.setTop (mkF m 262 #[.val (.int p1), .val (.int p2), .val (.int p3), .val (.int p4), .val (.ref b1), .val (.int Lv), .val (.int (own_mx Lv)), .val (.int Al), .val (.int Kk), .val (.long Rf), .second, .val (.ref b61)] [(.int (1 : Int32)), (.int (Rf.toInt32)), (.int ((Rf.toInt32) + (1 : Int32)))])) _
        refine XS.iadd X63.here hx rfl (hb hby at_262) rfl ?_
        show Steps p.tables e below (T63.setTop (mkF m 263 #[.val (.int p1), .val (.int p2), .val (.int p3), .val (.int p4), .val (.ref b1), .val (.int Lv), .val (.int (own_mx Lv)), .val (.int Al), .val (.int Kk), .val (.long Rf), .second, .val (.ref b61)] [(.int ((Rf.toInt32) + (1 : Int32))), (.int ((Rf.toInt32) + (1 : Int32)))])) _
        refine XS.icmpNo X63.here hx rfl (hb hby at_263) rfl (teq (rfl : ((Rf.toInt32) + (1 : Int32)) = ((Rf.toInt32) + (1 : Int32)))).2 ?_
        show Steps p.tables e below (T63.setTop (mkF m 266 #[.val (.int p1), .val (.int p2), .val (.int p3), .val (.int p4), .val (.ref b1), .val (.int Lv), .val (.int (own_mx Lv)), .val (.int Al), .val (.int Kk), .val (.long Rf), .second, .val (.ref b61)] [])) _
        refine XT.iconstV X63.here hx rfl (1 : Int32) (hb hby at_266) (by decide) ?_
        show Steps p.tables e below (T63.setTop (mkF m 267 #[.val (.int p1), .val (.int p2), .val (.int p3), .val (.int p4), .val (.ref b1), .val (.int Lv), .val (.int (own_mx Lv)), .val (.int Al), .val (.int Kk), .val (.long Rf), .second, .val (.ref b61)] [(.int (1 : Int32))])) _
        refine XS.goto X63.here hx rfl (pc0 := 267) (pc' := 271) rfl (hb hby at_267) (by decide) (by decide) ?_
        exact k)
      obtain ⟨fs, hr, hrun, hended, hW, hsame⟩ := X63.leave (v := some (.int (1 : Int32))) (fun h => by rw [Bd.returns] at h; cases h)
      refine ⟨_, _, pre65 _ ?_, hrun, hended, _, _, rfl, ?_, ⟨_, rfl⟩, hW, hsame.mono (by decide) (by decide)⟩
      · show Steps p.tables e below (T63.setTop (mkF m 271 #[.val (.int p1), .val (.int p2), .val (.int p3), .val (.int p4), .val (.ref b1), .val (.int Lv), .val (.int (own_mx Lv)), .val (.int Al), .val (.int Kk), .val (.long Rf), .second, .val (.ref b61)] [(.int (1 : Int32))])) _
        exact retOut X63 hx Bd.returns rfl (Or.inl ⟨rfl, by simp, _, rfl⟩) (hb hby at_271) hr
      · show Q0 Z p1 p2 p3 p4  h0 n0 _ T63.heap _
        rw [e63]
        exact ⟨rfl, N63⟩
set_option maxRecDepth 65536 in
set_option maxHeartbeats 40000000 in
theorem comes_1 {Post : Tables → Env → Array Value → State → Outcome → State → Prop} (hpost : ∀ tb e args s v u, (limb_1_1.after args s (.returned v) u = true ∧ limb_1_2.after args s (.returned v) u = true ∧ True) → FrameEnd s (.returned v) u (Jvm.fieldLocs frame_1_writes args s ++ Jvm.arrayLocs frame_1_arrays args s ++ Jvm.staticLocs frame_1_statics s) 16 192 → Post tb e args s (.returned v) u) :
    ArmFor flags0 classFile x code maxLocals ret World_1 tables_1 room_1 Calls_1 rest_1 Pre_1 Post := by
  intro l hfl _ _ p e ha hc hk s m args below hf hA hF happ hP
  obtain ⟨hcalls, hrest, hpre⟩ := hP
  obtain ⟨-, -, -, hnamed, -, -, -, hat⟩ := (Spec.applies_iff hf).mp happ
  obtain ⟨hg, hn⟩ := and_e (Cond.before_iff.mp (show (Jvm.Cond.and given_1 narrow_1).before args s = true from hpre))
  obtain ⟨gc, gr0⟩ := and_e hg
  obtain ⟨ga0, gr1⟩ := and_e gr0
  obtain ⟨ga1, gr2⟩ := and_e gr1
  obtain ⟨ga2, gr3⟩ := and_e gr2
  obtain ⟨w0, w1, w2, w3, rfl⟩ : ∃ w0 w1 w2 w3 : Value, args = #[w0, w1, w2, w3] := by
    have hs : args.size = 4 := by simpa [Cond.value, given_1] using gc
    obtain ⟨L⟩ := args
    match L, hs with
    | [w0, w1, w2, w3], _ => exact ⟨w0, w1, w2, w3, rfl⟩
  have hw := fun d (hd : d ∈ tables_1) => atoms_spec (ws := Jvm.Cond.code x code maxLocals ret :: tables_1) hat d (List.mem_cons_of_mem _ hd)
  have hfit : Fit s := fun {y c} hc i hi => by
    obtain ⟨ha, rfl⟩ := Array.getElem?_eq_some_iff.mp hc
    have q := List.all_eq_true.mp ((Array.all_eq_true_iff_forall_mem.mp hF) _ (Array.getElem_mem ha)) i (List.mem_range.mpr hi)
    simpa [Array.getElem?_eq_getElem hi] using q
  obtain ⟨i0, ei0⟩ := is_v ga0
  obtain rfl : w0 = (.int i0) := Option.some.inj ei0
  obtain ⟨i1, ei1⟩ := is_v ga1
  obtain rfl : w1 = (.int i1) := Option.some.inj ei1
  obtain ⟨i2, ei2⟩ := is_v ga2
  obtain rfl : w2 = (.int i2) := Option.some.inj ei2
  obtain ⟨i3, ei3⟩ := is_v gr3
  obtain rfl : w3 = (.int i3) := Option.some.inj ei3
  obtain ⟨n, o, h1, h2, h3, _, L, rfl, ⟨rfl, N⟩, hq⟩ := rm0 l s _ hw tables_1 i0 i1 i2 i3 s.heap s.heap.size (Nat.le_refl _)  p e ha hc hk s m _ below hf ((Spec.applies_iff_loose hf).mp happ).1 ⟨rfl, State.Warmed39.refl s, rfl⟩ trivial
  exact ⟨n, _, h1, h2, h3, hpost _ _ _ _ _ _ ⟨Cond.after_iff.mpr rfl, Cond.after_iff.mpr (eq_i res_at (Term.int_eval (1)) rfl), trivial⟩ ⟨hq.1, hq.2.1, (hq.2.2.sift fun y hy => Or.inr (N y hy)).mono (by decide) (by decide)⟩⟩
theorem main_1_1 : Claimed_1_1 := comes_1 fun _ _ _ _ _ _ h hF => ⟨h.1, hF⟩
theorem main_1_2 : Claimed_1_2 := comes_1 fun _ _ _ _ _ _ h hF => ⟨h.2.1, hF⟩
end Jvm.Pilot.@@N@@
namespace Jvm.Pilot.@@N@@
open Jvm Jvm.ClassFile Sem Op Lib Jvm.Free Jvm.Stand Jvm.Pilot.@@N@@.Jvm.D
/-! MADE BY PROGRAM (witnessworld.py) out of the Statement's table words and the real class files: 10 classes; the members and pool entries that the words name. The judged class is class 1, her method 3. -/
namespace start1
open Jvm.ClassFile
def u (s : String) : CpInfo := .utf8 (stringToUtf16 s)
/-- a pool by its gaps: so many unusable entries, then the entry; so many at the end -/
def gap : Nat → List CpInfo → List CpInfo
  | 0, r => r
  | n + 1, r => .unusable :: gap n r
def poolList (es : List (Nat × CpInfo)) (last : Nat) : List CpInfo := es.foldr (fun e r => gap e.1 (e.2 :: r)) (gap last [])
def pool (es : List (Nat × CpInfo)) (last : Nat) : Array CpInfo := ⟨poolList es last⟩
def fileOf (pool : Array CpInfo) (this : Nat) (attrs : Array Attribute := #[]) (ms : Array MethodInfo := #[]) (fl : Nat := 33) (sup : Nat := 0) (ifs : Array Nat := #[]) (fds : Array FieldInfo := #[]) : ClassFile where
  minorVersion := 0
  majorVersion := 65
  constantPool := pool
  accessFlags := fl
  thisClass := this
  superClass := sup
  interfaces := ifs
  fields := fds
  methods := ms
  attributes := attrs
def plain (name : String) (sup : Option ClassId) : Class where
  name := name
  kind := .ordinary
  loader := none
  accessFlags := 33
  super := sup
  interfaces := #[]
  cf := none
  fields := #[]
  methods := #[]
  instanceTypes := #[]
  staticTypes := #[]
  resolved := #[]
  callSites := []
  init := .initialized
  statics := none
  mirror := none

def pool0 : Array CpInfo := pool [(5, u "<init>"), (0, u "()V"), (1, .class_ 10), (1, u "java/lang/Object")] 113

def k0c0 : Code := { maxStack := 0, maxLocals := 1, code := object_method_1_code, exceptionTable := #[], attributes := #[] }
def k0m0 : Method := { name := "<init>", desc := "()V", sig := { parameters := [], returnType := none }, accessFlags := 1, code := some k0c0 }
/-- java/lang/Object -/
def k0 : Class := { plain "java/lang/Object" none with
  accessFlags := 33
  interfaces := #[]
  cf := some (fileOf pool0 8 #[] #[{ accessFlags := 1, nameIndex := 5, descriptorIndex := 6, attributes := #[] }] 33 0 #[] #[])
  fields := #[]
  methods := #[k0m0]
  instanceTypes := #[]
  staticTypes := #[]
  resolved := Array.replicate 124 none
  statics := none }

def pool1 : Array CpInfo := pool [(2, .class_ 4), (1, u "java/lang/Object"), (0, u "<init>"), (0, u "()V"), (0, .long 1000000000), (1, .methodref 10 11), (0, .class_ 12), (0, .nameAndType 13 14), (0, u "com/example/tidegauge/tidegauge/MacroClusterSettingsSnapshotsPerOrderPinLaw"), (0, u "mul"), (0, u "(JJ)J"), (0, .integer 999999999), (0, .integer 2147483647), (0, .methodref 10 18), (0, .nameAndType 19 20), (0, u "pow"), (0, u "(JI)J"), (0, .long 999999999), (1, .class_ 24), (0, u "com/example/tidegauge/tidegauge/MacroClusterSettings"), (0, .methodref 23 26), (0, .nameAndType 5 27), (0, u "(III)V"), (0, .methodref 23 29), (0, .nameAndType 30 31), (0, u "snapshotsPerOrder"), (0, u "()I"), (3, u "law"), (0, u "(IIII)Z")] 4

def k1m0 : Method := { name := "<init>", desc := "()V", sig := { parameters := [], returnType := none }, accessFlags := 1, code := none }
def k1c1 : Code := { maxStack := 4, maxLocals := 6, code := method_2_code, exceptionTable := #[], attributes := #[] }
def k1m1 : Method := { name := "mul", desc := "(JJ)J", sig := { parameters := [.long, .long], returnType := some .long }, accessFlags := 10, code := some k1c1 }
def k1c2 : Code := { maxStack := 4, maxLocals := 15, code := method_3_code, exceptionTable := #[], attributes := #[] }
def k1m2 : Method := { name := "pow", desc := "(JI)J", sig := { parameters := [.long, .int], returnType := some .long }, accessFlags := 10, code := some k1c2 }
def k1c3 : Code := { maxStack := 5, maxLocals := 12, code := code, exceptionTable := #[], attributes := #[] }
def k1m3 : Method := { name := "law", desc := "(IIII)Z", sig := { parameters := [.int, .int, .int, .int], returnType := some .boolean }, accessFlags := 9, code := some k1c3 }
/-- com/example/tidegauge/tidegauge/MacroClusterSettingsSnapshotsPerOrderPinLaw -/
def k1 : Class := { plain "com/example/tidegauge/tidegauge/MacroClusterSettingsSnapshotsPerOrderPinLaw" (some 0) with
  accessFlags := 49
  interfaces := #[]
  cf := some (fileOf pool1 10 #[] #[{ accessFlags := 1, nameIndex := 5, descriptorIndex := 6, attributes := #[] }, { accessFlags := 10, nameIndex := 13, descriptorIndex := 14, attributes := #[] }, { accessFlags := 10, nameIndex := 19, descriptorIndex := 20, attributes := #[] }, { accessFlags := 9, nameIndex := 35, descriptorIndex := 36, attributes := #[] }] 49 2 #[] #[])
  fields := #[]
  methods := #[k1m0, k1m1, k1m2, k1m3]
  instanceTypes := #[]
  staticTypes := #[]
  resolved := Array.replicate 41 none
  statics := none }

def pool2 : Array CpInfo := pool [(1, .methodref 2 3), (0, .class_ 4), (0, .nameAndType 5 6), (0, u "java/lang/Object"), (0, u "<init>"), (0, u "()V"), (0, .class_ 8), (0, u "java/lang/Record")] 13

def k2c0 : Code := { maxStack := 1, maxLocals := 1, code := jdk_30_method_1_code, exceptionTable := #[], attributes := #[] }
def k2m0 : Method := { name := "<init>", desc := "()V", sig := { parameters := [], returnType := none }, accessFlags := 4, code := some k2c0 }
/-- java/lang/Record -/
def k2 : Class := { plain "java/lang/Record" (some 0) with
  accessFlags := 1057
  interfaces := #[]
  cf := some (fileOf pool2 7 #[] #[{ accessFlags := 4, nameIndex := 5, descriptorIndex := 6, attributes := #[] }] 1057 2 #[] #[])
  fields := #[]
  methods := #[k2m0]
  instanceTypes := #[]
  staticTypes := #[]
  resolved := Array.replicate 22 none
  statics := none }

def pool3 : Array CpInfo := pool [(1, .methodref 2 3), (0, .class_ 4), (0, .nameAndType 5 6), (0, u "java/lang/Record"), (0, u "<init>"), (0, u "()V"), (0, .fieldref 8 9), (0, .class_ 10), (0, .nameAndType 11 12), (0, u "com/example/tidegauge/tidegauge/MacroClusterSettings"), (0, u "k"), (0, u "I"), (0, .fieldref 8 14), (0, .nameAndType 15 12), (0, u "alpha"), (0, .fieldref 8 17), (0, .nameAndType 18 12), (0, u "l"), (18, .methodref 8 38), (0, .nameAndType 39 40), (0, u "power"), (0, u "(II)J"), (0, .long 999999999), (5, u "(III)V"), (20, u "NAMES"), (0, u "Ljava/util/List;"), (2, u "MAX_POWER"), (0, u "J"), (1, u "DEFAULT_K"), (1, u "DEFAULT_ALPHA"), (1, u "DEFAULT_L"), (7, u "snapshotsPerOrder"), (0, u "()I")] 33

def k3c0 : Code := { maxStack := 2, maxLocals := 4, code := prog_19_method_1_code, exceptionTable := #[], attributes := #[] }
def k3m0 : Method := { name := "<init>", desc := "(III)V", sig := { parameters := [.int, .int, .int], returnType := none }, accessFlags := 0, code := some k3c0 }
def k3c1 : Code := { maxStack := 2, maxLocals := 1, code := prog_19_method_3_code, exceptionTable := #[], attributes := #[] }
def k3m1 : Method := { name := "snapshotsPerOrder", desc := "()I", sig := { parameters := [], returnType := some .int }, accessFlags := 0, code := some k3c1 }
def k3c2 : Code := { maxStack := 4, maxLocals := 5, code := prog_19_method_4_code, exceptionTable := #[], attributes := #[] }
def k3m2 : Method := { name := "power", desc := "(II)J", sig := { parameters := [.int, .int], returnType := some .long }, accessFlags := 10, code := some k3c2 }
/-- com/example/tidegauge/tidegauge/MacroClusterSettings -/
def k3 : Class := { plain "com/example/tidegauge/tidegauge/MacroClusterSettings" (some 2) with
  accessFlags := 48
  interfaces := #[]
  cf := some (fileOf pool3 8 #[] #[{ accessFlags := 0, nameIndex := 5, descriptorIndex := 47, attributes := #[] }, { accessFlags := 0, nameIndex := 87, descriptorIndex := 88, attributes := #[] }, { accessFlags := 10, nameIndex := 39, descriptorIndex := 40, attributes := #[] }] 48 2 #[] #[{ accessFlags := 18, nameIndex := 11, descriptorIndex := 12, attributes := #[] }, { accessFlags := 18, nameIndex := 15, descriptorIndex := 12, attributes := #[] }, { accessFlags := 18, nameIndex := 18, descriptorIndex := 12, attributes := #[] }, { accessFlags := 24, nameIndex := 68, descriptorIndex := 69, attributes := #[] }, { accessFlags := 24, nameIndex := 72, descriptorIndex := 73, attributes := #[] }, { accessFlags := 26, nameIndex := 75, descriptorIndex := 12, attributes := #[] }, { accessFlags := 26, nameIndex := 77, descriptorIndex := 12, attributes := #[] }, { accessFlags := 26, nameIndex := 79, descriptorIndex := 12, attributes := #[] }])
  fields := #[{ name := "k", type := .int, accessFlags := 18, slot := 0, constantValue := 0 }, { name := "alpha", type := .int, accessFlags := 18, slot := 1, constantValue := 0 }, { name := "l", type := .int, accessFlags := 18, slot := 2, constantValue := 0 }, { name := "NAMES", type := (.object "java/util/List"), accessFlags := 24, slot := 0, constantValue := 0 }, { name := "MAX_POWER", type := .long, accessFlags := 24, slot := 1, constantValue := 0 }, { name := "DEFAULT_K", type := .int, accessFlags := 26, slot := 2, constantValue := 0 }, { name := "DEFAULT_ALPHA", type := .int, accessFlags := 26, slot := 3, constantValue := 0 }, { name := "DEFAULT_L", type := .int, accessFlags := 26, slot := 4, constantValue := 0 }]
  methods := #[k3m0, k3m1, k3m2]
  instanceTypes := #[.int, .int, .int]
  staticTypes := #[(.object "java/util/List"), .long, .int, .int, .int]
  resolved := Array.replicate 122 none
  statics := none }

def pool4 : Array CpInfo := pool [(1, u "java/lang/Cloneable"), (0, .class_ 1), (0, u "java/lang/Object"), (0, .class_ 3)] 3

/-- java/lang/Cloneable -/
def k4 : Class := { plain "java/lang/Cloneable" (some 0) with
  accessFlags := 1537
  interfaces := #[]
  cf := some (fileOf pool4 2 #[] #[] 1537 4 #[] #[])
  fields := #[]
  methods := #[]
  instanceTypes := #[]
  staticTypes := #[]
  resolved := Array.replicate 8 none
  statics := none }

def pool5 : Array CpInfo := pool [(1, u "java/io/Serializable"), (0, .class_ 1), (0, u "java/lang/Object"), (0, .class_ 3)] 3

/-- java/io/Serializable -/
def k5 : Class := { plain "java/io/Serializable" (some 0) with
  accessFlags := 1537
  interfaces := #[]
  cf := some (fileOf pool5 2 #[] #[] 1537 4 #[] #[])
  fields := #[]
  methods := #[]
  instanceTypes := #[]
  staticTypes := #[]
  resolved := Array.replicate 8 none
  statics := none }

/-- the primitive byte -/
def k6 : Class := { plain "byte" none with kind := .primitive 'B', accessFlags := 0x411 }
/-- [B -/
def k7 : Class := { plain "[B" (some 0) with kind := .array 6 .byte, interfaces := #[4, 5], accessFlags := 1041 }

/-- the primitive int -/
def k8 : Class := { plain "int" none with kind := .primitive 'I', accessFlags := 0x411 }
/-- [I -/
def k9 : Class := { plain "[I" (some 0) with kind := .array 8 .int, interfaces := #[4, 5], accessFlags := 1041 }

def heap : Heap := #[]
def classes : Array Class := #[k0, k1, k2, k3, k4, k5, k6, k7, k8, k9]
def interned : List (Array UInt16 × Addr) := []
def slotsUsed : Nat := 0
def theMethod : MethodId := ⟨1, 3⟩
def args0 : Array Value := #[.int 5, .int 7, .int 3, .int 1]
def aboutOver (below : List Frame) : State where
  vm := { classes := classes, interned := interned.toArray }
  heap := heap
  slotsUsed := slotsUsed
  threads := #[{ frames := .invoking theMethod args0 :: below }]
def below0 : List Frame := [.native { method := ⟨0, 0⟩, args := #[] }]
def about1 : State := aboutOver below0
def p0 : Program := .bare "" "" ""
def e0 : Env := launch0.env 0 0 0
theorem w_frames : about1.frames = Frame.invoking theMethod args0 :: below0 := rfl
set_option maxRecDepth 65536 in
theorem w_args : argsFit about1.vm theMethod args0 = true := by decide +kernel
set_option maxRecDepth 65536 in
theorem w_heap : heapFits about1 = true := by decide +kernel
set_option maxRecDepth 65536 in
theorem w_runnable : about1.curStatus? = some .runnable := by decide +kernel
set_option maxRecDepth 65536 in
theorem w_alone : about1.alone = true := by decide +kernel
set_option maxRecDepth 65536 in
theorem w_named : about1.methodNamed? x = some theMethod := by decide +kernel
set_option maxRecDepth 65536 in
theorem w_hears : about1.hears theMethod below0 = true := by decide +kernel
set_option maxRecDepth 65536 in
theorem w_ripe : about1.ripe theMethod args0 below0 = true := by decide +kernel
theorem w_running : about1.status = .running := rfl
set_option maxRecDepth 65536 in
theorem w_room : about1.hasRoom e0.platform room_1 = true :=
  launch0.hasRoom_least _ room_1 (by decide +kernel) (by decide +kernel) (by decide +kernel) (by decide +kernel) (by decide +kernel) (by decide +kernel)
theorem allAtoms_all (ts : List Jvm.Cond) (a : Array Jvm.Value) (st : Jvm.State) : (allAtoms ts).before a st = ts.all (fun c => c.before a st) := by
  induction ts with
  | nil => rfl
  | cons c t ih =>
    show (Jvm.Cond.and c (allAtoms t)).before a st = _
    rw [Jvm.Cond.before_and, ih, List.all_cons]
def words1 : List Jvm.Cond := Jvm.Cond.code x code maxLocals ret :: tables_1
/-- a 'code' word, met by the world's own term for the bytes: nothing is compared byte by byte -/
theorem code_word {y : MethodName} {bytes : ByteArray} {mx : Nat} {rt : Option FieldType} {a : Array Value} {s : State} {m : MethodId} {meth : Method} {c : Code} (h1 : s.methodNamed? y = some m) (h2 : s.vm.method? m = some meth) (h3 : meth.code = some c) (h4 : c.code = bytes)
    (h5 : (c.maxLocals == mx && c.exceptionTable.isEmpty && decide (c.maxStack ≤ mostOperands) && decide (meth.sig.returnType = rt) && !meth.locks && decide (parseMethodDescriptor y.desc = some meth.sig)) = true) : (Jvm.Cond.code y bytes mx rt).before a s = true := by
  simp only [Bool.and_eq_true, beq_iff_eq, Bool.not_eq_true', decide_eq_true_eq] at h5
  obtain ⟨⟨⟨⟨⟨g1, g2⟩, g3⟩, g4⟩, g5⟩, g6⟩ := h5
  simp [Cond.before, Cond.holds, Cond.value, h1, h2, h3, h4, g1, g2, g3, g4, g5, g6]
def isCode : Jvm.Cond → Bool
  | .code _ _ _ _ => true
  | _ => false
theorem all_split {L : List Jvm.Cond} {P : Jvm.Cond → Bool} (h1 : L.all (fun c => isCode c || P c) = true) (h2 : ∀ c ∈ L.filter isCode, P c = true) : L.all P = true := by
  refine List.all_eq_true.mpr fun c hc => ?_
  have h := List.all_eq_true.mp h1 c hc
  rcases Bool.eq_false_or_eq_true (isCode c) with hi | hi
  · exact h2 c (List.mem_filter.mpr ⟨hc, hi⟩)
  · simpa [hi] using h
set_option maxRecDepth 65536 in
theorem w_c0 : (Jvm.Cond.code x code maxLocals ret).before args0 about1 = true := code_word (m := ⟨1, 3⟩) (meth := k1m3) (c := k1c3) (by decide +kernel) rfl rfl rfl (by decide +kernel)
set_option maxRecDepth 65536 in
theorem w_c1 : (Jvm.Cond.code ({ cls := "com/example/tidegauge/tidegauge/MacroClusterSettingsSnapshotsPerOrderPinLaw", name := "pow", desc := "(JI)J" } : Jvm.MethodName) method_3_code (15 : Nat) (Option.some Jvm.ClassFile.FieldType.long)).before args0 about1 = true := code_word (m := ⟨1, 2⟩) (meth := k1m2) (c := k1c2) (by decide +kernel) rfl rfl rfl (by decide +kernel)
set_option maxRecDepth 65536 in
theorem w_c2 : (Jvm.Cond.code ({ cls := "com/example/tidegauge/tidegauge/MacroClusterSettingsSnapshotsPerOrderPinLaw", name := "mul", desc := "(JJ)J" } : Jvm.MethodName) method_2_code (6 : Nat) (Option.some Jvm.ClassFile.FieldType.long)).before args0 about1 = true := code_word (m := ⟨1, 1⟩) (meth := k1m1) (c := k1c1) (by decide +kernel) rfl rfl rfl (by decide +kernel)
set_option maxRecDepth 65536 in
theorem w_c3 : (Jvm.Cond.code ({ cls := "com/example/tidegauge/tidegauge/MacroClusterSettings", name := "<init>", desc := "(III)V" } : Jvm.MethodName) prog_19_method_1_code (4 : Nat) (Option.none : Option Jvm.ClassFile.FieldType)).before args0 about1 = true := code_word (m := ⟨3, 0⟩) (meth := k3m0) (c := k3c0) (by decide +kernel) rfl rfl rfl (by decide +kernel)
set_option maxRecDepth 65536 in
theorem w_c4 : (Jvm.Cond.code ({ cls := "java/lang/Record", name := "<init>", desc := "()V" } : Jvm.MethodName) jdk_30_method_1_code (1 : Nat) (Option.none : Option Jvm.ClassFile.FieldType)).before args0 about1 = true := code_word (m := ⟨2, 0⟩) (meth := k2m0) (c := k2c0) (by decide +kernel) rfl rfl rfl (by decide +kernel)
set_option maxRecDepth 65536 in
theorem w_c5 : (Jvm.Cond.code ({ cls := "java/lang/Object", name := "<init>", desc := "()V" } : Jvm.MethodName) object_method_1_code (1 : Nat) (Option.none : Option Jvm.ClassFile.FieldType)).before args0 about1 = true := code_word (m := ⟨0, 0⟩) (meth := k0m0) (c := k0c0) (by decide +kernel) rfl rfl rfl (by decide +kernel)
set_option maxRecDepth 65536 in
theorem w_c6 : (Jvm.Cond.code ({ cls := "com/example/tidegauge/tidegauge/MacroClusterSettings", name := "snapshotsPerOrder", desc := "()I" } : Jvm.MethodName) prog_19_method_3_code (1 : Nat) (Option.some Jvm.ClassFile.FieldType.int)).before args0 about1 = true := code_word (m := ⟨3, 1⟩) (meth := k3m1) (c := k3c1) (by decide +kernel) rfl rfl rfl (by decide +kernel)
set_option maxRecDepth 65536 in
theorem w_c7 : (Jvm.Cond.code ({ cls := "com/example/tidegauge/tidegauge/MacroClusterSettings", name := "power", desc := "(II)J" } : Jvm.MethodName) prog_19_method_4_code (5 : Nat) (Option.some Jvm.ClassFile.FieldType.long)).before args0 about1 = true := code_word (m := ⟨3, 2⟩) (meth := k3m2) (c := k3c2) (by decide +kernel) rfl rfl rfl (by decide +kernel)
def codes1 : List Jvm.Cond := [Jvm.Cond.code x code maxLocals ret, Jvm.Cond.code ({ cls := "com/example/tidegauge/tidegauge/MacroClusterSettingsSnapshotsPerOrderPinLaw", name := "pow", desc := "(JI)J" } : Jvm.MethodName) method_3_code (15 : Nat) (Option.some Jvm.ClassFile.FieldType.long), Jvm.Cond.code ({ cls := "com/example/tidegauge/tidegauge/MacroClusterSettingsSnapshotsPerOrderPinLaw", name := "mul", desc := "(JJ)J" } : Jvm.MethodName) method_2_code (6 : Nat) (Option.some Jvm.ClassFile.FieldType.long), Jvm.Cond.code ({ cls := "com/example/tidegauge/tidegauge/MacroClusterSettings", name := "<init>", desc := "(III)V" } : Jvm.MethodName) prog_19_method_1_code (4 : Nat) (Option.none : Option Jvm.ClassFile.FieldType), Jvm.Cond.code ({ cls := "java/lang/Record", name := "<init>", desc := "()V" } : Jvm.MethodName) jdk_30_method_1_code (1 : Nat) (Option.none : Option Jvm.ClassFile.FieldType), Jvm.Cond.code ({ cls := "java/lang/Object", name := "<init>", desc := "()V" } : Jvm.MethodName) object_method_1_code (1 : Nat) (Option.none : Option Jvm.ClassFile.FieldType), Jvm.Cond.code ({ cls := "com/example/tidegauge/tidegauge/MacroClusterSettings", name := "snapshotsPerOrder", desc := "()I" } : Jvm.MethodName) prog_19_method_3_code (1 : Nat) (Option.some Jvm.ClassFile.FieldType.int), Jvm.Cond.code ({ cls := "com/example/tidegauge/tidegauge/MacroClusterSettings", name := "power", desc := "(II)J" } : Jvm.MethodName) prog_19_method_4_code (5 : Nat) (Option.some Jvm.ClassFile.FieldType.long)]
set_option maxRecDepth 65536 in
theorem codes_eq : words1.filter isCode = codes1 := rfl
theorem w_codes : ∀ c ∈ words1.filter isCode, c.before args0 about1 = true := by
  rw [codes_eq]
  intro c hc
  simp only [codes1, List.mem_cons, List.not_mem_nil, or_false] at hc
  rcases hc with rfl | rfl | rfl | rfl | rfl | rfl | rfl | rfl
  · exact w_c0
  · exact w_c1
  · exact w_c2
  · exact w_c3
  · exact w_c4
  · exact w_c5
  · exact w_c6
  · exact w_c7
set_option maxRecDepth 65536 in
theorem w_t1 : (words1.take 24).all (fun c => isCode c || c.before args0 about1) = true := by decide +kernel
set_option maxRecDepth 65536 in
theorem w_t2 : (words1.drop 24).all (fun c => isCode c || c.before args0 about1) = true := by decide +kernel
theorem w_tables : (allAtoms (Jvm.Cond.code x code maxLocals ret :: tables_1)).before args0 about1 = true := by
  rw [allAtoms_all]
  show words1.all (fun c => c.before args0 about1) = true
  refine all_split ?_ w_codes
  rw [← List.take_append_drop 24 words1, List.all_append, w_t1, w_t2]
  rfl
set_option maxRecDepth 65536 in
theorem w_case : (Jvm.Cond.and given_1 narrow_1).before args0 about1 = true := by decide +kernel
theorem w_applies : (headSpec (Jvm.Cond.code x code maxLocals ret :: tables_1) room_1).applies x e0.platform about1 = true :=
  (Spec.applies_iff w_frames).mpr ⟨w_running, w_runnable, w_alone, w_named, w_hears, w_ripe, w_room, w_tables⟩
theorem atStart : AtStart classFile x code maxLocals ret World_1 tables_1 room_1 Calls_1 rest_1 Pre_1 launch0 p0 e0 about1 theMethod args0 below0 :=
  ⟨lists_1, trivial, launch0.admits_env _ _ _, launch0.least_env, fairChoices_fair.cas, fairChoices_fair.clock, w_frames, w_args, w_heap, w_applies, trivial, trivial, w_case⟩
end start1
theorem witness_1 : WitnessClaimed_1 := ⟨start1.p0, start1.e0, start1.about1, start1.theMethod, start1.args0, start1.below0, start1.atStart⟩
end Jvm.Pilot.@@N@@
