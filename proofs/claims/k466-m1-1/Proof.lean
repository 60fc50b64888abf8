import JvmDerived
import JvmDerived.Pilot.@@N@@Statement
import JvmDerived.Pilot.@@N@@Code
set_option linter.unusedVariables false
set_option linter.unusedSimpArgs false
namespace Jvm.Pilot.@@N@@
open Jvm Jvm.ClassFile Sem Op Lib Jvm.Free Jvm.Stand Jvm.LawKit Jvm.RoadKit Bundle Jvm.Pilot.@@N@@.Jvm.D
theorem pd_0 : parseMethodDescriptor "(I)Lcom/example/steadyhand/steadyhand/run/Status;" = some ⟨[.int], some (.object "com/example/steadyhand/steadyhand/run/Status")⟩ := by decide +kernel
theorem pd_1 : parseMethodDescriptor "()Z" = some ⟨[], some .boolean⟩ := by decide +kernel
theorem own_fldpin {t : Term} {C n d : String} {k : Int32} {a : Addr} {args : Array Value} {s : State} (ev : t.eval args s none [] s = some (.ref a)) (h : (Cond.eq (.field t C n d) (.int k)).value args s none s [] = some true) : Fld s s.heap a C n d (.int k) := by
  refine Fld.start ?_
  have e1 : (Term.field t C n d).eval args s none [] s = s.fieldOf? a C n d := fld_at ev
  cases hf : s.fieldOf? a C n d with
  | none => rw [hf] at e1; simp [Cond.value, e1] at h
  | some v =>
    rw [hf] at e1
    have e2 : (Term.int k).eval args s none [] s = some (.int k) := rfl
    cases v <;> simp [Cond.value, e1, e2] at h ⊢
    exact h
theorem d1_0 : decode method_2_code 0 = .ok (.iload_n 0, 1) := by decide +kernel
theorem d1_1 : decode method_2_code 1 = .ok (.ifCond .ne 7, 3) := by decide +kernel
theorem d1_4 : decode method_2_code 4 = .ok (.getstatic 7, 3) := by decide +kernel
theorem d1_7 : decode method_2_code 7 = .ok (.areturn, 1) := by decide +kernel
theorem d1_8 : decode method_2_code 8 = .ok (.iload_n 0, 1) := by decide +kernel
theorem d1_9 : decode method_2_code 9 = .ok (.iconst 1, 1) := by decide +kernel
theorem d1_10 : decode method_2_code 10 = .ok (.if_icmp .ne 7, 3) := by decide +kernel
theorem d1_13 : decode method_2_code 13 = .ok (.getstatic 13, 3) := by decide +kernel
theorem d1_16 : decode method_2_code 16 = .ok (.areturn, 1) := by decide +kernel
theorem d1_17 : decode method_2_code 17 = .ok (.iload_n 0, 1) := by decide +kernel
theorem d1_18 : decode method_2_code 18 = .ok (.iconst 2, 1) := by decide +kernel
theorem d1_19 : decode method_2_code 19 = .ok (.if_icmp .ne 7, 3) := by decide +kernel
theorem d1_22 : decode method_2_code 22 = .ok (.getstatic 16, 3) := by decide +kernel
theorem d1_25 : decode method_2_code 25 = .ok (.areturn, 1) := by decide +kernel
theorem d1_26 : decode method_2_code 26 = .ok (.iload_n 0, 1) := by decide +kernel
theorem d1_27 : decode method_2_code 27 = .ok (.iconst 3, 1) := by decide +kernel
theorem d1_28 : decode method_2_code 28 = .ok (.if_icmp .ne 7, 3) := by decide +kernel
theorem d1_31 : decode method_2_code 31 = .ok (.getstatic 19, 3) := by decide +kernel
theorem d1_34 : decode method_2_code 34 = .ok (.areturn, 1) := by decide +kernel
theorem d1_35 : decode method_2_code 35 = .ok (.getstatic 22, 3) := by decide +kernel
theorem d1_38 : decode method_2_code 38 = .ok (.areturn, 1) := by decide +kernel
theorem d2_0 : decode prog_52_method_4_code 0 = .ok (.aload_n 0, 1) := by decide +kernel
theorem d2_1 : decode prog_52_method_4_code 1 = .ok (.getstatic 10, 3) := by decide +kernel
theorem d2_4 : decode prog_52_method_4_code 4 = .ok (.if_acmp .eq 10, 3) := by decide +kernel
theorem d2_7 : decode prog_52_method_4_code 7 = .ok (.aload_n 0, 1) := by decide +kernel
theorem d2_8 : decode prog_52_method_4_code 8 = .ok (.getstatic 13, 3) := by decide +kernel
theorem d2_11 : decode prog_52_method_4_code 11 = .ok (.if_acmp .ne 7, 3) := by decide +kernel
theorem d2_14 : decode prog_52_method_4_code 14 = .ok (.iconst 1, 1) := by decide +kernel
theorem d2_15 : decode prog_52_method_4_code 15 = .ok (.goto 4, 3) := by decide +kernel
theorem d2_18 : decode prog_52_method_4_code 18 = .ok (.iconst 0, 1) := by decide +kernel
theorem d2_19 : decode prog_52_method_4_code 19 = .ok (.ireturn, 1) := by decide +kernel
def own_pick (p : Int32) (a_PASSED a_FLAKY a_FAILED a_ERROR a_SKIPPED : Addr) : Addr := if p = (0 : Int32) then a_PASSED else if p = (1 : Int32) then a_FLAKY else if p = (2 : Int32) then a_FAILED else if p = (3 : Int32) then a_ERROR else a_SKIPPED
def Qpick (Z : State) (p1 : Int32) (res : Addr) (h0 : Heap) (n0 : Nat) (v : Option Value) (h : Heap) (L : List Loc) : Prop := v = some (.ref res) ∧ Fr n0 L ∧ h = h0
theorem pn_1 : plainName "com/example/steadyhand/steadyhand/run/StatusIsFailurePinLaw" = true := by first | (simp [plainName, overriddenIn]; done) | decide +kernel
theorem ef_rm_pick (m : MethodId) (x0 : Int32) : entryFrame m #[(.int x0)] 1 = mkF m 0 #[.val (.int x0)] [] := by first | (simp [entryFrame, mkF, argsToLocals, Value.category]; done) | rfl
set_option maxRecDepth 65536 in
set_option maxHeartbeats 40000000 in
theorem rm_pick (l : Launch) (Z : State) (a0 : Array Value) (hw : ∀ d ∈ tables_1, d.before a0 Z = true) (ws : List Jvm.Cond) (p1 : Int32) (h0 : Heap) (n0 : Nat) (Z0 : n0 ≤ h0.size) (a_PASSED : Addr) (S_PASSED : Sta Z h0 "com/example/steadyhand/steadyhand/run/Status" "PASSED" "Lcom/example/steadyhand/steadyhand/run/Status;" (.ref a_PASSED)) (a_FLAKY : Addr) (S_FLAKY : Sta Z h0 "com/example/steadyhand/steadyhand/run/Status" "FLAKY" "Lcom/example/steadyhand/steadyhand/run/Status;" (.ref a_FLAKY)) (a_FAILED : Addr) (S_FAILED : Sta Z h0 "com/example/steadyhand/steadyhand/run/Status" "FAILED" "Lcom/example/steadyhand/steadyhand/run/Status;" (.ref a_FAILED)) (a_ERROR : Addr) (S_ERROR : Sta Z h0 "com/example/steadyhand/steadyhand/run/Status" "ERROR" "Lcom/example/steadyhand/steadyhand/run/Status;" (.ref a_ERROR)) (a_SKIPPED : Addr) (S_SKIPPED : Sta Z h0 "com/example/steadyhand/steadyhand/run/Status" "SKIPPED" "Lcom/example/steadyhand/steadyhand/run/Status;" (.ref a_SKIPPED)) (res : Addr) (hres : own_pick p1 a_PASSED a_FLAKY a_FAILED a_ERROR a_SKIPPED = res) :
    MetFree l (⟨"com/example/steadyhand/steadyhand/run/StatusIsFailurePinLaw", "pick", "(I)Lcom/example/steadyhand/steadyhand/run/Status;"⟩ : MethodName) (head1 (Jvm.Cond.code (⟨"com/example/steadyhand/steadyhand/run/StatusIsFailurePinLaw", "pick", "(I)Lcom/example/steadyhand/steadyhand/run/Status;"⟩ : MethodName) method_2_code 1 (some (.object "com/example/steadyhand/steadyhand/run/Status")) :: ws) ({ frames := 0, cells := 0, slots := 0, locals := 0 } : Room)) (fun a U => a = #[(.int p1)] ∧ Z.Warmed39 U.vm ∧ U.heap = h0) (fun _ _ _ _ _ => True) (fun _ U o U' => ∃ v L, o = .returned v ∧ Qpick Z p1 res h0 n0 v U'.heap L ∧ FrameEnd U o U' L ({ frames := 0, cells := 0, slots := 0, locals := 0 } : Room).cells ({ frames := 0, cells := 0, slots := 0, locals := 0 } : Room).slots) := by
  refine MetFree.of_bodySF (plainFor_of_name pn_1) hisR ?_
  intro p e s m args below meth c s₁ Bd hml0 hP hK
  obtain ⟨rfl, hZ, hh⟩ := hP
  have hx := Bd.exec
  have hby := Bd.bytes
  have hml : c.maxLocals = 1 := hml0
  have hown : s.vm.findClass "com/example/steadyhand/steadyhand/run/StatusIsFailurePinLaw" = some m.cls := findClass_of_methodNamed Bd.named
  have hnm := (name_of_methodNamed Bd.named Bd.method).1
  have X0 : Stand p l e ({ frames := 0, cells := 0, slots := 0, locals := 0 } : Room) s m #[(.int p1)] below meth c s₁ [] 0 0 := Stand.of_body Bd
  have e0 : s₁.heap = h0 := by rw [← hh, Bd.state]; rfl
  have N0 := Fr.nil n0
  have pre0 : ∀ t, Steps p.tables e below (s₁.setTop (mkF m 0 #[.val (.int p1)] [])) t → Steps p.tables e below (s₁.setTop (entryFrame m #[(.int p1)] 1)) t := fun t k => castTop (ef_rm_pick m p1) k
  have pre1 : ∀ t, Steps p.tables e below (s₁.setTop (mkF m 1 #[.val (.int p1)] [(.int p1)])) t → Steps p.tables e below (s₁.setTop (entryFrame m #[(.int p1)] 1)) t := fun t k => pre0 t (by
    show Steps p.tables e below (s₁.setTop (mkF m 0 #[.val (.int p1)] [])) _
    refine XS.iloadN X0.here hx rfl (hb hby d1_0) rfl ?_
    exact k)
  by_cases hc1_2 : p1 = (0 : Int32)
  · have _ := 0
    obtain ⟨T3, X3, e3, st3⟩ := getS2 X0 hx hZ hown (host := "") (Or.inl (hw _ (List.mem_of_getElem? (i := 5) rfl))) Via.refl e0 S_PASSED (g := (mkF m 4 #[.val (.int p1)] [])) rfl (hb hby d1_4)
    have pre4 : ∀ t, Steps p.tables e below (T3.setTop (mkF m 7 #[.val (.int p1)] [(.ref a_PASSED)])) t → Steps p.tables e below (s₁.setTop (entryFrame m #[(.int p1)] 1)) t := fun t k => pre1 t (by
      show Steps p.tables e below (s₁.setTop (mkF m 1 #[.val (.int p1)] [(.int p1)])) _
      refine XS.ifNo X0.here hx rfl (hb hby d1_1) rfl ((if0 _ _).trans (teq hc1_2).2) ?_
      show Steps p.tables e below (s₁.setTop (mkF m 4 #[.val (.int p1)] [])) _
      refine st3 _ ?_
      exact k)
    obtain ⟨fs, hr, hrun, hended, hW, hsame⟩ := X3.leave (v := some (.ref a_PASSED)) (fun h => by rw [Bd.returns] at h; cases h)
    refine ⟨_, _, pre4 _ ?_, hrun, hended, _, _, rfl, ?_, ⟨_, rfl⟩, hW, hsame.mono (by decide) (by decide)⟩
    · show Steps p.tables e below (T3.setTop (mkF m 7 #[.val (.int p1)] [(.ref a_PASSED)])) _
      exact retOut X3 hx Bd.returns rfl (Or.inr (Or.inr (Or.inr (Or.inr ⟨rfl, rfl, rfl⟩)))) (hb hby d1_7) hr
    · show Qpick Z p1 res h0 n0 _ T3.heap _
      rw [e3]
      exact ⟨by rw [← hres]; simp [own_pick, hc1_2], N0, rfl⟩
  · have _ := 0
    have pre5 : ∀ t, Steps p.tables e below (s₁.setTop (mkF m 10 #[.val (.int p1)] [(.int (1 : Int32)), (.int p1)])) t → Steps p.tables e below (s₁.setTop (entryFrame m #[(.int p1)] 1)) t := fun t k => pre1 t (by
      show Steps p.tables e below (s₁.setTop (mkF m 1 #[.val (.int p1)] [(.int p1)])) _
      refine XS.ifYes X0.here hx rfl (pc0 := 1) (pc' := 8) rfl (hb hby d1_1) rfl ((if0 _ _).trans (feq hc1_2).2) (by decide) (by decide) ?_
      show Steps p.tables e below (s₁.setTop (mkF m 8 #[.val (.int p1)] [])) _
      refine XS.iloadN X0.here hx rfl (hb hby d1_8) rfl ?_
      show Steps p.tables e below (s₁.setTop (mkF m 9 #[.val (.int p1)] [(.int p1)])) _
      refine XT.iconstV X0.here hx rfl (1 : Int32) (hb hby d1_9) (by decide) ?_
      exact k)
    by_cases hc10_6 : p1 = (1 : Int32)
    · have _ := 0
      obtain ⟨T7, X7, e7, st7⟩ := getS2 X0 hx hZ hown (host := "") (Or.inl (hw _ (List.mem_of_getElem? (i := 18) rfl))) Via.refl e0 S_FLAKY (g := (mkF m 13 #[.val (.int p1)] [])) rfl (hb hby d1_13)
      have pre8 : ∀ t, Steps p.tables e below (T7.setTop (mkF m 16 #[.val (.int p1)] [(.ref a_FLAKY)])) t → Steps p.tables e below (s₁.setTop (entryFrame m #[(.int p1)] 1)) t := fun t k => pre5 t (by
        show Steps p.tables e below (s₁.setTop (mkF m 10 #[.val (.int p1)] [(.int (1 : Int32)), (.int p1)])) _
        refine XS.icmpNo X0.here hx rfl (hb hby d1_10) rfl (teq hc10_6).2 ?_
        show Steps p.tables e below (s₁.setTop (mkF m 13 #[.val (.int p1)] [])) _
        refine st7 _ ?_
        exact k)
      obtain ⟨fs, hr, hrun, hended, hW, hsame⟩ := X7.leave (v := some (.ref a_FLAKY)) (fun h => by rw [Bd.returns] at h; cases h)
      refine ⟨_, _, pre8 _ ?_, hrun, hended, _, _, rfl, ?_, ⟨_, rfl⟩, hW, hsame.mono (by decide) (by decide)⟩
      · show Steps p.tables e below (T7.setTop (mkF m 16 #[.val (.int p1)] [(.ref a_FLAKY)])) _
        exact retOut X7 hx Bd.returns rfl (Or.inr (Or.inr (Or.inr (Or.inr ⟨rfl, rfl, rfl⟩)))) (hb hby d1_16) hr
      · show Qpick Z p1 res h0 n0 _ T7.heap _
        rw [e7]
        exact ⟨by rw [← hres]; simp [own_pick, hc1_2, hc10_6], N0, rfl⟩
    · have _ := 0
      have pre9 : ∀ t, Steps p.tables e below (s₁.setTop (mkF m 19 #[.val (.int p1)] [(.int (2 : Int32)), (.int p1)])) t → Steps p.tables e below (s₁.setTop (entryFrame m #[(.int p1)] 1)) t := fun t k => pre5 t (by
        show Steps p.tables e below (s₁.setTop (mkF m 10 #[.val (.int p1)] [(.int (1 : Int32)), (.int p1)])) _
        refine XS.icmpYes X0.here hx rfl (pc0 := 10) (pc' := 17) rfl (hb hby d1_10) rfl (feq hc10_6).2 (by decide) (by decide) ?_
        show Steps p.tables e below (s₁.setTop (mkF m 17 #[.val (.int p1)] [])) _
        refine XS.iloadN X0.here hx rfl (hb hby d1_17) rfl ?_
        show Steps p.tables e below (s₁.setTop (mkF m 18 #[.val (.int p1)] [(.int p1)])) _
        refine XT.iconstV X0.here hx rfl (2 : Int32) (hb hby d1_18) (by decide) ?_
        exact k)
      by_cases hc19_10 : p1 = (2 : Int32)
      · have _ := 0
        obtain ⟨T11, X11, e11, st11⟩ := getS2 X0 hx hZ hown (host := "") (Or.inl (hw _ (List.mem_of_getElem? (i := 22) rfl))) Via.refl e0 S_FAILED (g := (mkF m 22 #[.val (.int p1)] [])) rfl (hb hby d1_22)
        have pre12 : ∀ t, Steps p.tables e below (T11.setTop (mkF m 25 #[.val (.int p1)] [(.ref a_FAILED)])) t → Steps p.tables e below (s₁.setTop (entryFrame m #[(.int p1)] 1)) t := fun t k => pre9 t (by
          show Steps p.tables e below (s₁.setTop (mkF m 19 #[.val (.int p1)] [(.int (2 : Int32)), (.int p1)])) _
          refine XS.icmpNo X0.here hx rfl (hb hby d1_19) rfl (teq hc19_10).2 ?_
          show Steps p.tables e below (s₁.setTop (mkF m 22 #[.val (.int p1)] [])) _
          refine st11 _ ?_
          exact k)
        obtain ⟨fs, hr, hrun, hended, hW, hsame⟩ := X11.leave (v := some (.ref a_FAILED)) (fun h => by rw [Bd.returns] at h; cases h)
        refine ⟨_, _, pre12 _ ?_, hrun, hended, _, _, rfl, ?_, ⟨_, rfl⟩, hW, hsame.mono (by decide) (by decide)⟩
        · show Steps p.tables e below (T11.setTop (mkF m 25 #[.val (.int p1)] [(.ref a_FAILED)])) _
          exact retOut X11 hx Bd.returns rfl (Or.inr (Or.inr (Or.inr (Or.inr ⟨rfl, rfl, rfl⟩)))) (hb hby d1_25) hr
        · show Qpick Z p1 res h0 n0 _ T11.heap _
          rw [e11]
          exact ⟨by rw [← hres]; simp [own_pick, hc1_2, hc10_6, hc19_10], N0, rfl⟩
      · have _ := 0
        have pre13 : ∀ t, Steps p.tables e below (s₁.setTop (mkF m 28 #[.val (.int p1)] [(.int (3 : Int32)), (.int p1)])) t → Steps p.tables e below (s₁.setTop (entryFrame m #[(.int p1)] 1)) t := fun t k => pre9 t (by
          show Steps p.tables e below (s₁.setTop (mkF m 19 #[.val (.int p1)] [(.int (2 : Int32)), (.int p1)])) _
          refine XS.icmpYes X0.here hx rfl (pc0 := 19) (pc' := 26) rfl (hb hby d1_19) rfl (feq hc19_10).2 (by decide) (by decide) ?_
          show Steps p.tables e below (s₁.setTop (mkF m 26 #[.val (.int p1)] [])) _
          refine XS.iloadN X0.here hx rfl (hb hby d1_26) rfl ?_
          show Steps p.tables e below (s₁.setTop (mkF m 27 #[.val (.int p1)] [(.int p1)])) _
          refine XT.iconstV X0.here hx rfl (3 : Int32) (hb hby d1_27) (by decide) ?_
          exact k)
        by_cases hc28_14 : p1 = (3 : Int32)
        · have _ := 0
          obtain ⟨T15, X15, e15, st15⟩ := getS2 X0 hx hZ hown (host := "") (Or.inl (hw _ (List.mem_of_getElem? (i := 17) rfl))) Via.refl e0 S_ERROR (g := (mkF m 31 #[.val (.int p1)] [])) rfl (hb hby d1_31)
          have pre16 : ∀ t, Steps p.tables e below (T15.setTop (mkF m 34 #[.val (.int p1)] [(.ref a_ERROR)])) t → Steps p.tables e below (s₁.setTop (entryFrame m #[(.int p1)] 1)) t := fun t k => pre13 t (by
            show Steps p.tables e below (s₁.setTop (mkF m 28 #[.val (.int p1)] [(.int (3 : Int32)), (.int p1)])) _
            refine XS.icmpNo X0.here hx rfl (hb hby d1_28) rfl (teq hc28_14).2 ?_
            show Steps p.tables e below (s₁.setTop (mkF m 31 #[.val (.int p1)] [])) _
            refine st15 _ ?_
            exact k)
          obtain ⟨fs, hr, hrun, hended, hW, hsame⟩ := X15.leave (v := some (.ref a_ERROR)) (fun h => by rw [Bd.returns] at h; cases h)
          refine ⟨_, _, pre16 _ ?_, hrun, hended, _, _, rfl, ?_, ⟨_, rfl⟩, hW, hsame.mono (by decide) (by decide)⟩
          · show Steps p.tables e below (T15.setTop (mkF m 34 #[.val (.int p1)] [(.ref a_ERROR)])) _
            exact retOut X15 hx Bd.returns rfl (Or.inr (Or.inr (Or.inr (Or.inr ⟨rfl, rfl, rfl⟩)))) (hb hby d1_34) hr
          · show Qpick Z p1 res h0 n0 _ T15.heap _
            rw [e15]
            exact ⟨by rw [← hres]; simp [own_pick, hc1_2, hc10_6, hc19_10, hc28_14], N0, rfl⟩
        · have _ := 0
          obtain ⟨T17, X17, e17, st17⟩ := getS2 X0 hx hZ hown (host := "") (Or.inl (hw _ (List.mem_of_getElem? (i := 20) rfl))) Via.refl e0 S_SKIPPED (g := (mkF m 35 #[.val (.int p1)] [])) rfl (hb hby d1_35)
          have pre18 : ∀ t, Steps p.tables e below (T17.setTop (mkF m 38 #[.val (.int p1)] [(.ref a_SKIPPED)])) t → Steps p.tables e below (s₁.setTop (entryFrame m #[(.int p1)] 1)) t := fun t k => pre13 t (by
            show Steps p.tables e below (s₁.setTop (mkF m 28 #[.val (.int p1)] [(.int (3 : Int32)), (.int p1)])) _
            refine XS.icmpYes X0.here hx rfl (pc0 := 28) (pc' := 35) rfl (hb hby d1_28) rfl (feq hc28_14).2 (by decide) (by decide) ?_
            show Steps p.tables e below (s₁.setTop (mkF m 35 #[.val (.int p1)] [])) _
            refine st17 _ ?_
            exact k)
          obtain ⟨fs, hr, hrun, hended, hW, hsame⟩ := X17.leave (v := some (.ref a_SKIPPED)) (fun h => by rw [Bd.returns] at h; cases h)
          refine ⟨_, _, pre18 _ ?_, hrun, hended, _, _, rfl, ?_, ⟨_, rfl⟩, hW, hsame.mono (by decide) (by decide)⟩
          · show Steps p.tables e below (T17.setTop (mkF m 38 #[.val (.int p1)] [(.ref a_SKIPPED)])) _
            exact retOut X17 hx Bd.returns rfl (Or.inr (Or.inr (Or.inr (Or.inr ⟨rfl, rfl, rfl⟩)))) (hb hby d1_38) hr
          · show Qpick Z p1 res h0 n0 _ T17.heap _
            rw [e17]
            exact ⟨by rw [← hres]; simp [own_pick, hc1_2, hc10_6, hc19_10, hc28_14], N0, rfl⟩
def own_fin (a b0 b1 : Addr) : Int32 := if a = b0 then (1 : Int32) else if a = b1 then (1 : Int32) else (0 : Int32)
def Qfin (Z : State) (r1 : Addr) (res : Int32) (h0 : Heap) (n0 : Nat) (v : Option Value) (h : Heap) (L : List Loc) : Prop := v = some (.int res) ∧ Fr n0 L ∧ h = h0
theorem pn_2 : plainName "com/example/steadyhand/steadyhand/run/Status" = true := by first | (simp [plainName, overriddenIn]; done) | decide +kernel
theorem ef_rm_fin (m : MethodId) (x0 : Addr) : entryFrame m #[(.ref x0)] 1 = mkF m 0 #[.val (.ref x0)] [] := by first | (simp [entryFrame, mkF, argsToLocals, Value.category]; done) | rfl
set_option maxRecDepth 65536 in
set_option maxHeartbeats 40000000 in
theorem rm_fin (l : Launch) (Z : State) (a0 : Array Value) (hw : ∀ d ∈ tables_1, d.before a0 Z = true) (ws : List Jvm.Cond) (r1 : Addr) (h0 : Heap) (n0 : Nat) (Z0 : n0 ≤ h0.size) (a_FAILED : Addr) (S_FAILED : Sta Z h0 "com/example/steadyhand/steadyhand/run/Status" "FAILED" "Lcom/example/steadyhand/steadyhand/run/Status;" (.ref a_FAILED)) (a_ERROR : Addr) (S_ERROR : Sta Z h0 "com/example/steadyhand/steadyhand/run/Status" "ERROR" "Lcom/example/steadyhand/steadyhand/run/Status;" (.ref a_ERROR)) (res : Int32) (hres : own_fin r1 a_FAILED a_ERROR = res) :
    MetFree l (⟨"com/example/steadyhand/steadyhand/run/Status", "isFailure", "()Z"⟩ : MethodName) (head1 (Jvm.Cond.code (⟨"com/example/steadyhand/steadyhand/run/Status", "isFailure", "()Z"⟩ : MethodName) prog_52_method_4_code 1 (some .boolean) :: ws) ({ frames := 0, cells := 0, slots := 0, locals := 0 } : Room)) (fun a U => a = #[(.ref r1)] ∧ Z.Warmed39 U.vm ∧ U.heap = h0) (fun _ _ _ _ _ => True) (fun _ U o U' => ∃ v L, o = .returned v ∧ Qfin Z r1 res h0 n0 v U'.heap L ∧ FrameEnd U o U' L ({ frames := 0, cells := 0, slots := 0, locals := 0 } : Room).cells ({ frames := 0, cells := 0, slots := 0, locals := 0 } : Room).slots) := by
  refine MetFree.of_bodySF (plainFor_of_name pn_2) hisR ?_
  intro p e s m args below meth c s₁ Bd hml0 hP hK
  obtain ⟨rfl, hZ, hh⟩ := hP
  have hx := Bd.exec
  have hby := Bd.bytes
  have hml : c.maxLocals = 1 := hml0
  have hown : s.vm.findClass "com/example/steadyhand/steadyhand/run/Status" = some m.cls := findClass_of_methodNamed Bd.named
  have hnm := (name_of_methodNamed Bd.named Bd.method).1
  have X0 : Stand p l e ({ frames := 0, cells := 0, slots := 0, locals := 0 } : Room) s m #[(.ref r1)] below meth c s₁ [] 0 0 := Stand.of_body Bd
  have e0 : s₁.heap = h0 := by rw [← hh, Bd.state]; rfl
  have N0 := Fr.nil n0
  have pre0 : ∀ t, Steps p.tables e below (s₁.setTop (mkF m 0 #[.val (.ref r1)] [])) t → Steps p.tables e below (s₁.setTop (entryFrame m #[(.ref r1)] 1)) t := fun t k => castTop (ef_rm_fin m r1) k
  obtain ⟨T1, X1, e1, st1⟩ := getS2 X0 hx hZ hown (host := "") (Or.inl (hw _ (List.mem_of_getElem? (i := 13) rfl))) Via.refl e0 S_FAILED (g := (mkF m 1 #[.val (.ref r1)] [(.ref r1)])) rfl (hb hby d2_1)
  have pre2 : ∀ t, Steps p.tables e below (T1.setTop (mkF m 4 #[.val (.ref r1)] [(.ref a_FAILED), (.ref r1)])) t → Steps p.tables e below (s₁.setTop (entryFrame m #[(.ref r1)] 1)) t := fun t k => pre0 t (by
    show Steps p.tables e below (s₁.setTop (mkF m 0 #[.val (.ref r1)] [])) _
    refine XS.aloadN X0.here hx rfl (hb hby d2_0) rfl rfl ?_
    show Steps p.tables e below (s₁.setTop (mkF m 1 #[.val (.ref r1)] [(.ref r1)])) _
    refine st1 _ ?_
    exact k)
  by_cases ha4_3 : r1 = a_FAILED
  · have _ := 0
    have pre4 : ∀ t, Steps p.tables e below (T1.setTop (mkF m 19 #[.val (.ref r1)] [(.int (1 : Int32))])) t → Steps p.tables e below (s₁.setTop (entryFrame m #[(.ref r1)] 1)) t := fun t k => pre2 t (by
      show Steps p.tables e below (T1.setTop (mkF m 4 #[.val (.ref r1)] [(.ref a_FAILED), (.ref r1)])) _
      refine Jvm.RoadKit.acmp (g := (mkF m 4 #[.val (.ref r1)] [(.ref a_FAILED), (.ref r1)])) X1 hx rfl rfl rfl (pc0 := 4) (pc' := 14) (same := true) rfl (hb hby d2_4) rfl (decide_eq_true (congrArg Value.ref ha4_3)) (by decide) (by decide) ?_
      show Steps p.tables e below (T1.setTop (mkF m 14 #[.val (.ref r1)] [])) _
      refine XT.iconstV X1.here hx rfl (1 : Int32) (hb hby d2_14) (by decide) ?_
      show Steps p.tables e below (T1.setTop (mkF m 15 #[.val (.ref r1)] [(.int (1 : Int32))])) _
      refine XS.goto X1.here hx rfl (pc0 := 15) (pc' := 19) rfl (hb hby d2_15) (by decide) (by decide) ?_
      exact k)
    obtain ⟨fs, hr, hrun, hended, hW, hsame⟩ := X1.leave (v := some (.int (1 : Int32))) (fun h => by rw [Bd.returns] at h; cases h)
    refine ⟨_, _, pre4 _ ?_, hrun, hended, _, _, rfl, ?_, ⟨_, rfl⟩, hW, hsame.mono (by decide) (by decide)⟩
    · show Steps p.tables e below (T1.setTop (mkF m 19 #[.val (.ref r1)] [(.int (1 : Int32))])) _
      exact retOut X1 hx Bd.returns rfl (Or.inl ⟨rfl, by simp, _, rfl⟩) (hb hby d2_19) hr
    · show Qfin Z r1 res h0 n0 _ T1.heap _
      rw [e1]
      exact ⟨by rw [← hres]; simp [own_fin, ha4_3], N0, rfl⟩
  · have _ := 0
    obtain ⟨T5, X5, e5, st5⟩ := getS2 X1 hx hZ hown (host := "") (Or.inl (hw _ (List.mem_of_getElem? (i := 15) rfl))) Via.refl e1 S_ERROR (g := (mkF m 8 #[.val (.ref r1)] [(.ref r1)])) rfl (hb hby d2_8)
    have pre6 : ∀ t, Steps p.tables e below (T5.setTop (mkF m 11 #[.val (.ref r1)] [(.ref a_ERROR), (.ref r1)])) t → Steps p.tables e below (s₁.setTop (entryFrame m #[(.ref r1)] 1)) t := fun t k => pre2 t (by
      show Steps p.tables e below (T1.setTop (mkF m 4 #[.val (.ref r1)] [(.ref a_FAILED), (.ref r1)])) _
      refine Jvm.RoadKit.acmp (g := (mkF m 4 #[.val (.ref r1)] [(.ref a_FAILED), (.ref r1)])) X1 hx rfl rfl rfl (pc0 := 4) (pc' := 7) (same := false) rfl (hb hby d2_4) rfl (decide_eq_false fun qh_ => ha4_3 (Value.ref.inj qh_)) (by decide) (by decide) ?_
      show Steps p.tables e below (T1.setTop (mkF m 7 #[.val (.ref r1)] [])) _
      refine XS.aloadN X1.here hx rfl (hb hby d2_7) rfl rfl ?_
      show Steps p.tables e below (T1.setTop (mkF m 8 #[.val (.ref r1)] [(.ref r1)])) _
      refine st5 _ ?_
      exact k)
    by_cases ha11_7 : r1 = a_ERROR
    · have _ := 0
      have pre8 : ∀ t, Steps p.tables e below (T5.setTop (mkF m 19 #[.val (.ref r1)] [(.int (1 : Int32))])) t → Steps p.tables e below (s₁.setTop (entryFrame m #[(.ref r1)] 1)) t := fun t k => pre6 t (by
        show Steps p.tables e below (T5.setTop (mkF m 11 #[.val (.ref r1)] [(.ref a_ERROR), (.ref r1)])) _
        refine Jvm.RoadKit.acmp (g := (mkF m 11 #[.val (.ref r1)] [(.ref a_ERROR), (.ref r1)])) X5 hx rfl rfl rfl (pc0 := 11) (pc' := 14) (same := true) rfl (hb hby d2_11) rfl (decide_eq_true (congrArg Value.ref ha11_7)) (by decide) (by decide) ?_
        show Steps p.tables e below (T5.setTop (mkF m 14 #[.val (.ref r1)] [])) _
        refine XT.iconstV X5.here hx rfl (1 : Int32) (hb hby d2_14) (by decide) ?_
        show Steps p.tables e below (T5.setTop (mkF m 15 #[.val (.ref r1)] [(.int (1 : Int32))])) _
        refine XS.goto X5.here hx rfl (pc0 := 15) (pc' := 19) rfl (hb hby d2_15) (by decide) (by decide) ?_
        exact k)
      obtain ⟨fs, hr, hrun, hended, hW, hsame⟩ := X5.leave (v := some (.int (1 : Int32))) (fun h => by rw [Bd.returns] at h; cases h)
      refine ⟨_, _, pre8 _ ?_, hrun, hended, _, _, rfl, ?_, ⟨_, rfl⟩, hW, hsame.mono (by decide) (by decide)⟩
      · show Steps p.tables e below (T5.setTop (mkF m 19 #[.val (.ref r1)] [(.int (1 : Int32))])) _
        exact retOut X5 hx Bd.returns rfl (Or.inl ⟨rfl, by simp, _, rfl⟩) (hb hby d2_19) hr
      · show Qfin Z r1 res h0 n0 _ T5.heap _
        rw [e5]
        exact ⟨by rw [← hres]; simp [own_fin, ha4_3, ha11_7], N0, rfl⟩
    · have _ := 0
      have pre9 : ∀ t, Steps p.tables e below (T5.setTop (mkF m 19 #[.val (.ref r1)] [(.int (0 : Int32))])) t → Steps p.tables e below (s₁.setTop (entryFrame m #[(.ref r1)] 1)) t := fun t k => pre6 t (by
        show Steps p.tables e below (T5.setTop (mkF m 11 #[.val (.ref r1)] [(.ref a_ERROR), (.ref r1)])) _
        refine Jvm.RoadKit.acmp (g := (mkF m 11 #[.val (.ref r1)] [(.ref a_ERROR), (.ref r1)])) X5 hx rfl rfl rfl (pc0 := 11) (pc' := 18) (same := false) rfl (hb hby d2_11) rfl (decide_eq_false fun qh_ => ha11_7 (Value.ref.inj qh_)) (by decide) (by decide) ?_
        show Steps p.tables e below (T5.setTop (mkF m 18 #[.val (.ref r1)] [])) _
        refine XT.iconstV X5.here hx rfl (0 : Int32) (hb hby d2_18) (by decide) ?_
        exact k)
      obtain ⟨fs, hr, hrun, hended, hW, hsame⟩ := X5.leave (v := some (.int (0 : Int32))) (fun h => by rw [Bd.returns] at h; cases h)
      refine ⟨_, _, pre9 _ ?_, hrun, hended, _, _, rfl, ?_, ⟨_, rfl⟩, hW, hsame.mono (by decide) (by decide)⟩
      · show Steps p.tables e below (T5.setTop (mkF m 19 #[.val (.ref r1)] [(.int (0 : Int32))])) _
        exact retOut X5 hx Bd.returns rfl (Or.inl ⟨rfl, by simp, _, rfl⟩) (hb hby d2_19) hr
      · show Qfin Z r1 res h0 n0 _ T5.heap _
        rw [e5]
        exact ⟨by rw [← hres]; simp [own_fin, ha4_3, ha11_7], N0, rfl⟩
def Q0 (Z : State) (p1 : Int32) (h0 : Heap) (n0 : Nat) (v : Option Value) (h : Heap) (L : List Loc) : Prop := v = some (.int 1) ∧ Fr n0 L
theorem own_cases (k : Int32) : ((k &&& (2147483647 : Int32)) % (5 : Int32)) = (0 : Int32) ∨ ((k &&& (2147483647 : Int32)) % (5 : Int32)) = (1 : Int32) ∨ ((k &&& (2147483647 : Int32)) % (5 : Int32)) = (2 : Int32) ∨ ((k &&& (2147483647 : Int32)) % (5 : Int32)) = (3 : Int32) ∨ ((k &&& (2147483647 : Int32)) % (5 : Int32)) = (4 : Int32) := by
  have e1 := c_mask k (2147483647 : Int32) 31 (by decide) (by decide)
  have e2 := (c_irem (k &&& (2147483647 : Int32)) (5 : Int32) 5 (by decide)).1 (by omega)
  generalize (k &&& (2147483647 : Int32)) % (5 : Int32) = z at *
  have h : z.toInt = 0 ∨ z.toInt = 1 ∨ z.toInt = 2 ∨ z.toInt = 3 ∨ z.toInt = 4 := by omega
  rcases h with h | h | h | h | h
  · exact Or.inl (Int32.toInt_inj.mp (h.trans (by decide : (0 : Int) = (0 : Int32).toInt)))
  · exact Or.inr (Or.inl (Int32.toInt_inj.mp (h.trans (by decide : (1 : Int) = (1 : Int32).toInt))))
  · exact Or.inr (Or.inr (Or.inl (Int32.toInt_inj.mp (h.trans (by decide : (2 : Int) = (2 : Int32).toInt)))))
  · exact Or.inr (Or.inr (Or.inr (Or.inl (Int32.toInt_inj.mp (h.trans (by decide : (3 : Int) = (3 : Int32).toInt))))))
  · exact Or.inr (Or.inr (Or.inr (Or.inr ((Int32.toInt_inj.mp (h.trans (by decide : (4 : Int) = (4 : Int32).toInt)))))))
theorem pn_0 : plainName "com/example/steadyhand/steadyhand/run/StatusIsFailurePinLaw" = true := by first | (simp [plainName, overriddenIn]; done) | decide +kernel
theorem ef_rm0 (m : MethodId) (x0 : Int32) : entryFrame m #[(.int x0)] maxLocals = mkF m 0 #[.val (.int x0), .unset, .unset, .unset] [] := by first | (simp [entryFrame, mkF, argsToLocals, Value.category, maxLocals]; done) | rfl
set_option maxRecDepth 65536 in
set_option maxHeartbeats 40000000 in
theorem rm0 (l : Launch) (Z : State) (a0 : Array Value) (hw : ∀ d ∈ tables_1, d.before a0 Z = true) (ws : List Jvm.Cond) (p1 : Int32) (h0 : Heap) (n0 : Nat) (Z0 : n0 ≤ h0.size) (a_PASSED : Addr) (S_PASSED : Sta Z h0 "com/example/steadyhand/steadyhand/run/Status" "PASSED" "Lcom/example/steadyhand/steadyhand/run/Status;" (.ref a_PASSED)) (a_FAILED : Addr) (S_FAILED : Sta Z h0 "com/example/steadyhand/steadyhand/run/Status" "FAILED" "Lcom/example/steadyhand/steadyhand/run/Status;" (.ref a_FAILED)) (a_ERROR : Addr) (S_ERROR : Sta Z h0 "com/example/steadyhand/steadyhand/run/Status" "ERROR" "Lcom/example/steadyhand/steadyhand/run/Status;" (.ref a_ERROR)) (a_FLAKY : Addr) (S_FLAKY : Sta Z h0 "com/example/steadyhand/steadyhand/run/Status" "FLAKY" "Lcom/example/steadyhand/steadyhand/run/Status;" (.ref a_FLAKY)) (a_SKIPPED : Addr) (S_SKIPPED : Sta Z h0 "com/example/steadyhand/steadyhand/run/Status" "SKIPPED" "Lcom/example/steadyhand/steadyhand/run/Status;" (.ref a_SKIPPED)) (E_PASSED : Exa Z h0 a_PASSED "com/example/steadyhand/steadyhand/run/Status") (E_FAILED : Exa Z h0 a_FAILED "com/example/steadyhand/steadyhand/run/Status") (E_ERROR : Exa Z h0 a_ERROR "com/example/steadyhand/steadyhand/run/Status") (E_FLAKY : Exa Z h0 a_FLAKY "com/example/steadyhand/steadyhand/run/Status") (E_SKIPPED : Exa Z h0 a_SKIPPED "com/example/steadyhand/steadyhand/run/Status") (F_PASSED_ordinal : Fld Z h0 a_PASSED "java/lang/Enum" "ordinal" "I" (.int (0 : Int32))) (F_FAILED_ordinal : Fld Z h0 a_FAILED "java/lang/Enum" "ordinal" "I" (.int (2 : Int32))) (F_ERROR_ordinal : Fld Z h0 a_ERROR "java/lang/Enum" "ordinal" "I" (.int (3 : Int32))) (F_FLAKY_ordinal : Fld Z h0 a_FLAKY "java/lang/Enum" "ordinal" "I" (.int (1 : Int32))) (F_SKIPPED_ordinal : Fld Z h0 a_SKIPPED "java/lang/Enum" "ordinal" "I" (.int (4 : Int32))) :
    MetFree l x (head1 (Jvm.Cond.code x code maxLocals ret :: ws) room_1) (fun a U => a = #[(.int p1)] ∧ Z.Warmed39 U.vm ∧ U.heap = h0) (fun _ _ _ _ _ => True) (fun _ U o U' => ∃ v L, o = .returned v ∧ Q0 Z p1  h0 n0 v U'.heap L ∧ FrameEnd U o U' L 0 0) := by
  refine MetFree.of_bodySF (plainFor_of_name pn_0) hisR ?_
  intro p e s m args below meth c s₁ Bd hml0 hP hK
  obtain ⟨rfl, hZ, hh⟩ := hP
  have hx := Bd.exec
  have hby := Bd.bytes
  have hml : c.maxLocals = 4 := hml0
  have hown : s.vm.findClass "com/example/steadyhand/steadyhand/run/StatusIsFailurePinLaw" = some m.cls := findClass_of_methodNamed Bd.named
  have hnm := (name_of_methodNamed Bd.named Bd.method).1
  have X0 : Stand p l e room_1 s m #[(.int p1)] below meth c s₁ [] 0 0 := Stand.of_body Bd
  have e0 : s₁.heap = h0 := by rw [← hh, Bd.state]; rfl
  have N0 := Fr.nil n0
  have pre0 : ∀ t, Steps p.tables e below (s₁.setTop (mkF m 0 #[.val (.int p1), .unset, .unset, .unset] [])) t → Steps p.tables e below (s₁.setTop (entryFrame m #[(.int p1)] maxLocals)) t := fun t k => castTop (ef_rm0 m p1) k
  have pre1 : ∀ t, Steps p.tables e below (s₁.setTop (mkF m 6 #[.val (.int p1), .unset, .unset, .unset] [(.int ((p1 &&& (2147483647 : Int32)) % (5 : Int32)))])) t → Steps p.tables e below (s₁.setTop (entryFrame m #[(.int p1)] maxLocals)) t := fun t k => pre0 t (by
    show Steps p.tables e below (s₁.setTop (mkF m 0 #[.val (.int p1), .unset, .unset, .unset] [])) _
    refine XS.iloadN X0.here hx rfl (hb hby at_0) rfl ?_
    show Steps p.tables e below (s₁.setTop (mkF m 1 #[.val (.int p1), .unset, .unset, .unset] [(.int p1)])) _
    refine X0.ldcInt hx hown (mvT hZ (hw _ (List.mem_of_getElem? (i := 0) rfl))) (g := (mkF m 1 #[.val (.int p1), .unset, .unset, .unset] [(.int p1)])) rfl (hb hby at_1) _ ?_
    show Steps p.tables e below (s₁.setTop (mkF m 3 #[.val (.int p1), .unset, .unset, .unset] [(.int (2147483647 : Int32)), (.int p1)])) _
    refine XS.iand X0.here hx rfl (hb hby at_3) rfl ?_
    show Steps p.tables e below (s₁.setTop (mkF m 4 #[.val (.int p1), .unset, .unset, .unset] [(.int (p1 &&& (2147483647 : Int32)))])) _
    refine XT.iconstV X0.here hx rfl (5 : Int32) (hb hby at_4) (by decide) ?_
    show Steps p.tables e below (s₁.setTop (mkF m 5 #[.val (.int p1), .unset, .unset, .unset] [(.int (5 : Int32)), (.int (p1 &&& (2147483647 : Int32)))])) _
    refine iremM X0 hx rfl (hb hby at_5) rfl (by decide) ?_
    exact k)
  rcases own_cases p1 with hk | hk | hk | hk | hk
  · have _ := 0
    obtain ⟨_, _, ⟨T2, L2, k2, n2⟩, -, X2, ⟨Lc2, hQ2, l2, y2, z2⟩, st2⟩ := Jvm.LawKit.callS X0 hx (y := (⟨"com/example/steadyhand/steadyhand/run/StatusIsFailurePinLaw", "pick", "(I)Lcom/example/steadyhand/steadyhand/run/Status;"⟩ : MethodName)) hown (mvT hZ (hw _ (List.mem_of_getElem? (i := 1) rfl))) (mvT hZ (hw _ (List.mem_of_getElem? (i := 2) rfl))) (mvT hZ (hw _ (List.mem_of_getElem? (i := 3) rfl))) (mvT hZ (hw _ (List.mem_of_getElem? (i := 4) rfl))) (by decide) (backOf (W := 0) (rm_pick l Z a0 hw [] (0 : Int32) h0 n0 Z0 a_PASSED S_PASSED a_FLAKY S_FLAKY a_FAILED S_FAILED a_ERROR S_ERROR a_SKIPPED S_SKIPPED a_PASSED (by first | rfl | simp [own_pick])) hZ (hw _ (List.mem_of_getElem? (i := 4) rfl)) (hw _ (List.mem_of_getElem? (i := 3) rfl)) (by decide) (by decide)) (g := (mkF m 8 #[.val (.int p1), .val (.int (0 : Int32)), .unset, .unset] [(.int (0 : Int32))])) rfl (by rw [hml]; rfl) (argsL := [(.int (0 : Int32))]) (rest := []) (lenOf pd_0 rfl) rfl (by show 2 * 0 + _ ≤ _; exact Nat.le_of_eq rfl) (hb hby at_8) (fun _ _ => ⟨rfl, e0, (by decide : 0 + 0 ≤ _), (by decide : 0 + 0 ≤ _)⟩)
    dsimp only [Pt.U, Pt.locs, Pt.cells, Pt.slots] at X2 l2 y2 z2 st2 hQ2
    subst l2 y2 z2
    obtain ⟨rfl, N2q, e2⟩ := hQ2
    have N2 := Fr.app N0 N2q
    obtain ⟨cq3, kq3, q3a, q3b, q3c⟩ := isOf hZ e2 E_PASSED
    obtain ⟨_, _, ⟨T3, L3, k3, n3⟩, -, X3, ⟨Lc3, hQ3, l3, y3, z3⟩, st3⟩ := X2.virtualBack hx (y := (⟨"com/example/steadyhand/steadyhand/run/Status", "isFailure", "()Z"⟩ : MethodName)) (z := (⟨"com/example/steadyhand/steadyhand/run/Status", "isFailure", "()Z"⟩ : MethodName)) hown (mvT hZ (hw _ (List.mem_of_getElem? (i := 8) rfl))) (mvT hZ (hw _ (List.mem_of_getElem? (i := 9) rfl))) (notFace_of_selects (args := #[]) (mvT hZ (hw _ (List.mem_of_getElem? (i := 11) rfl)))) (mvT hZ (hw _ (List.mem_of_getElem? (i := 11) rfl))) (mvT hZ (hw _ (List.mem_of_getElem? (i := 10) rfl))) (by decide) (backOf (W := 0) (rm_fin l Z a0 hw [] a_PASSED h0 n0 Z0 a_FAILED S_FAILED a_ERROR S_ERROR (0 : Int32) (by simp [own_fin, (Fld.ne F_PASSED_ordinal F_FAILED_ordinal (by first | decide | simp)), (Fld.ne F_PASSED_ordinal F_ERROR_ordinal (by first | decide | simp))])) hZ (hw _ (List.mem_of_getElem? (i := 12) rfl)) (hw _ (List.mem_of_getElem? (i := 6) rfl)) (by decide) (by decide)) q3a q3c (g := (mkF m 35 #[.val (.int p1), .val (.int (0 : Int32)), .val (.ref a_PASSED), .val (.int (0 : Int32))] [(.ref a_PASSED)])) rfl (by rw [hml]; rfl) (Steps.refl _) (argsL := []) (rest := []) (lenOf pd_1 rfl) rfl (by show 2 * 0 + _ ≤ _; exact Nat.le_of_eq rfl) (hb hby at_35) (fun _ _ => ⟨rfl, e2, (by decide : 0 + 0 ≤ _), (by decide : 0 + 0 ≤ _)⟩)
    dsimp only [Pt.U, Pt.locs, Pt.cells, Pt.slots] at X3 l3 y3 z3 st3 hQ3
    subst l3 y3 z3
    obtain ⟨rfl, N3q, e3⟩ := hQ3
    have N3 := Fr.app N2 N3q
    have pre4 : ∀ t, Steps p.tables e below (T3.setTop (mkF m 47 #[.val (.int p1), .val (.int (0 : Int32)), .val (.ref a_PASSED), .val (.int (0 : Int32))] [(.int (1 : Int32))])) t → Steps p.tables e below (s₁.setTop (entryFrame m #[(.int p1)] maxLocals)) t := fun t k => pre1 t (by
      show Steps p.tables e below (s₁.setTop (mkF m 6 #[.val (.int p1), .unset, .unset, .unset] [(.int ((p1 &&& (2147483647 : Int32)) % (5 : Int32)))])) _
      refine castTop (g' := (mkF m 6 #[.val (.int p1), .unset, .unset, .unset] [(.int (0 : Int32))])) (by rw [hk]) ?_
      show Steps p.tables e below (s₁.setTop (mkF m 6 #[.val (.int p1), .unset, .unset, .unset] [(.int (0 : Int32))])) _
      refine XS.istoreN X0.here hx rfl (hb hby at_6) rfl (l' := #[.val (.int p1), .val (.int (0 : Int32)), .unset, .unset]) rfl ?_
      show Steps p.tables e below (s₁.setTop (mkF m 7 #[.val (.int p1), .val (.int (0 : Int32)), .unset, .unset] [])) _
      refine XS.iloadN X0.here hx rfl (hb hby at_7) rfl ?_
      show Steps p.tables e below (s₁.setTop (mkF m 8 #[.val (.int p1), .val (.int (0 : Int32)), .unset, .unset] [(.int (0 : Int32))])) _
      refine st2 _ ?_
      show Steps p.tables e below (T2.setTop (mkF m 11 #[.val (.int p1), .val (.int (0 : Int32)), .unset, .unset] [(.ref a_PASSED)])) _
      refine XS.astoreN X2.here hx rfl (hb hby at_11) rfl rfl (l' := #[.val (.int p1), .val (.int (0 : Int32)), .val (.ref a_PASSED), .unset]) rfl ?_
      show Steps p.tables e below (T2.setTop (mkF m 12 #[.val (.int p1), .val (.int (0 : Int32)), .val (.ref a_PASSED), .unset] [])) _
      refine XS.iloadN X2.here hx rfl (hb hby at_12) rfl ?_
      show Steps p.tables e below (T2.setTop (mkF m 13 #[.val (.int p1), .val (.int (0 : Int32)), .val (.ref a_PASSED), .unset] [(.int (0 : Int32))])) _
      refine XT.iconstV X2.here hx rfl (2 : Int32) (hb hby at_13) (by decide) ?_
      show Steps p.tables e below (T2.setTop (mkF m 14 #[.val (.int p1), .val (.int (0 : Int32)), .val (.ref a_PASSED), .unset] [(.int (2 : Int32)), (.int (0 : Int32))])) _
      refine XS.icmpYes X2.here hx rfl (pc0 := 14) (pc' := 22) rfl (hb hby at_14) rfl (feq (by decide : ¬ ((0 : Int32) = (2 : Int32)))).2 (by decide) (by decide) ?_
      show Steps p.tables e below (T2.setTop (mkF m 22 #[.val (.int p1), .val (.int (0 : Int32)), .val (.ref a_PASSED), .unset] [])) _
      refine XS.iloadN X2.here hx rfl (hb hby at_22) rfl ?_
      show Steps p.tables e below (T2.setTop (mkF m 23 #[.val (.int p1), .val (.int (0 : Int32)), .val (.ref a_PASSED), .unset] [(.int (0 : Int32))])) _
      refine XT.iconstV X2.here hx rfl (3 : Int32) (hb hby at_23) (by decide) ?_
      show Steps p.tables e below (T2.setTop (mkF m 24 #[.val (.int p1), .val (.int (0 : Int32)), .val (.ref a_PASSED), .unset] [(.int (3 : Int32)), (.int (0 : Int32))])) _
      refine XS.icmpYes X2.here hx rfl (pc0 := 24) (pc' := 32) rfl (hb hby at_24) rfl (feq (by decide : ¬ ((0 : Int32) = (3 : Int32)))).2 (by decide) (by decide) ?_
      show Steps p.tables e below (T2.setTop (mkF m 32 #[.val (.int p1), .val (.int (0 : Int32)), .val (.ref a_PASSED), .unset] [])) _
      refine XT.iconstV X2.here hx rfl (0 : Int32) (hb hby at_32) (by decide) ?_
      show Steps p.tables e below (T2.setTop (mkF m 33 #[.val (.int p1), .val (.int (0 : Int32)), .val (.ref a_PASSED), .unset] [(.int (0 : Int32))])) _
      refine XS.istoreN X2.here hx rfl (hb hby at_33) rfl (l' := #[.val (.int p1), .val (.int (0 : Int32)), .val (.ref a_PASSED), .val (.int (0 : Int32))]) rfl ?_
      show Steps p.tables e below (T2.setTop (mkF m 34 #[.val (.int p1), .val (.int (0 : Int32)), .val (.ref a_PASSED), .val (.int (0 : Int32))] [])) _
      refine XS.aloadN X2.here hx rfl (hb hby at_34) rfl rfl ?_
      show Steps p.tables e below (T2.setTop (mkF m 35 #[.val (.int p1), .val (.int (0 : Int32)), .val (.ref a_PASSED), .val (.int (0 : Int32))] [(.ref a_PASSED)])) _
      refine st3.trans ?_
      show Steps p.tables e below (T3.setTop (mkF m 38 #[.val (.int p1), .val (.int (0 : Int32)), .val (.ref a_PASSED), .val (.int (0 : Int32))] [(.int (0 : Int32))])) _
      refine XS.iloadN X3.here hx rfl (hb hby at_38) rfl ?_
      show Steps p.tables e below (T3.setTop (mkF m 39 #[.val (.int p1), .val (.int (0 : Int32)), .val (.ref a_PASSED), .val (.int (0 : Int32))] [(.int (0 : Int32)), (.int (0 : Int32))])) _
      refine XS.icmpNo X3.here hx rfl (hb hby at_39) rfl (teq (by decide : ((0 : Int32) = (0 : Int32)))).2 ?_
      show Steps p.tables e below (T3.setTop (mkF m 42 #[.val (.int p1), .val (.int (0 : Int32)), .val (.ref a_PASSED), .val (.int (0 : Int32))] [])) _
      refine XT.iconstV X3.here hx rfl (1 : Int32) (hb hby at_42) (by decide) ?_
      show Steps p.tables e below (T3.setTop (mkF m 43 #[.val (.int p1), .val (.int (0 : Int32)), .val (.ref a_PASSED), .val (.int (0 : Int32))] [(.int (1 : Int32))])) _
      refine XS.goto X3.here hx rfl (pc0 := 43) (pc' := 47) rfl (hb hby at_43) (by decide) (by decide) ?_
      exact k)
    obtain ⟨fs, hr, hrun, hended, hW, hsame⟩ := X3.leave (v := some (.int (1 : Int32))) (fun h => by rw [Bd.returns] at h; cases h)
    refine ⟨_, _, pre4 _ ?_, hrun, hended, _, _, rfl, ?_, ⟨_, rfl⟩, hW, hsame.mono (by decide) (by decide)⟩
    · show Steps p.tables e below (T3.setTop (mkF m 47 #[.val (.int p1), .val (.int (0 : Int32)), .val (.ref a_PASSED), .val (.int (0 : Int32))] [(.int (1 : Int32))])) _
      exact retOut X3 hx Bd.returns rfl (Or.inl ⟨rfl, by simp, _, rfl⟩) (hb hby at_47) hr
    · show Q0 Z p1  h0 n0 _ T3.heap _
      rw [e3]
      exact ⟨rfl, N3⟩
  · have _ := 0
    obtain ⟨_, _, ⟨T5, L5, k5, n5⟩, -, X5, ⟨Lc5, hQ5, l5, y5, z5⟩, st5⟩ := Jvm.LawKit.callS X0 hx (y := (⟨"com/example/steadyhand/steadyhand/run/StatusIsFailurePinLaw", "pick", "(I)Lcom/example/steadyhand/steadyhand/run/Status;"⟩ : MethodName)) hown (mvT hZ (hw _ (List.mem_of_getElem? (i := 1) rfl))) (mvT hZ (hw _ (List.mem_of_getElem? (i := 2) rfl))) (mvT hZ (hw _ (List.mem_of_getElem? (i := 3) rfl))) (mvT hZ (hw _ (List.mem_of_getElem? (i := 4) rfl))) (by decide) (backOf (W := 0) (rm_pick l Z a0 hw [] (1 : Int32) h0 n0 Z0 a_PASSED S_PASSED a_FLAKY S_FLAKY a_FAILED S_FAILED a_ERROR S_ERROR a_SKIPPED S_SKIPPED a_FLAKY (by first | rfl | simp [own_pick])) hZ (hw _ (List.mem_of_getElem? (i := 4) rfl)) (hw _ (List.mem_of_getElem? (i := 3) rfl)) (by decide) (by decide)) (g := (mkF m 8 #[.val (.int p1), .val (.int (1 : Int32)), .unset, .unset] [(.int (1 : Int32))])) rfl (by rw [hml]; rfl) (argsL := [(.int (1 : Int32))]) (rest := []) (lenOf pd_0 rfl) rfl (by show 2 * 0 + _ ≤ _; exact Nat.le_of_eq rfl) (hb hby at_8) (fun _ _ => ⟨rfl, e0, (by decide : 0 + 0 ≤ _), (by decide : 0 + 0 ≤ _)⟩)
    dsimp only [Pt.U, Pt.locs, Pt.cells, Pt.slots] at X5 l5 y5 z5 st5 hQ5
    subst l5 y5 z5
    obtain ⟨rfl, N5q, e5⟩ := hQ5
    have N5 := Fr.app N0 N5q
    obtain ⟨cq6, kq6, q6a, q6b, q6c⟩ := isOf hZ e5 E_FLAKY
    obtain ⟨_, _, ⟨T6, L6, k6, n6⟩, -, X6, ⟨Lc6, hQ6, l6, y6, z6⟩, st6⟩ := X5.virtualBack hx (y := (⟨"com/example/steadyhand/steadyhand/run/Status", "isFailure", "()Z"⟩ : MethodName)) (z := (⟨"com/example/steadyhand/steadyhand/run/Status", "isFailure", "()Z"⟩ : MethodName)) hown (mvT hZ (hw _ (List.mem_of_getElem? (i := 8) rfl))) (mvT hZ (hw _ (List.mem_of_getElem? (i := 9) rfl))) (notFace_of_selects (args := #[]) (mvT hZ (hw _ (List.mem_of_getElem? (i := 11) rfl)))) (mvT hZ (hw _ (List.mem_of_getElem? (i := 11) rfl))) (mvT hZ (hw _ (List.mem_of_getElem? (i := 10) rfl))) (by decide) (backOf (W := 0) (rm_fin l Z a0 hw [] a_FLAKY h0 n0 Z0 a_FAILED S_FAILED a_ERROR S_ERROR (0 : Int32) (by simp [own_fin, (Fld.ne F_FLAKY_ordinal F_FAILED_ordinal (by first | decide | simp)), (Fld.ne F_FLAKY_ordinal F_ERROR_ordinal (by first | decide | simp))])) hZ (hw _ (List.mem_of_getElem? (i := 12) rfl)) (hw _ (List.mem_of_getElem? (i := 6) rfl)) (by decide) (by decide)) q6a q6c (g := (mkF m 35 #[.val (.int p1), .val (.int (1 : Int32)), .val (.ref a_FLAKY), .val (.int (0 : Int32))] [(.ref a_FLAKY)])) rfl (by rw [hml]; rfl) (Steps.refl _) (argsL := []) (rest := []) (lenOf pd_1 rfl) rfl (by show 2 * 0 + _ ≤ _; exact Nat.le_of_eq rfl) (hb hby at_35) (fun _ _ => ⟨rfl, e5, (by decide : 0 + 0 ≤ _), (by decide : 0 + 0 ≤ _)⟩)
    dsimp only [Pt.U, Pt.locs, Pt.cells, Pt.slots] at X6 l6 y6 z6 st6 hQ6
    subst l6 y6 z6
    obtain ⟨rfl, N6q, e6⟩ := hQ6
    have N6 := Fr.app N5 N6q
    have pre7 : ∀ t, Steps p.tables e below (T6.setTop (mkF m 47 #[.val (.int p1), .val (.int (1 : Int32)), .val (.ref a_FLAKY), .val (.int (0 : Int32))] [(.int (1 : Int32))])) t → Steps p.tables e below (s₁.setTop (entryFrame m #[(.int p1)] maxLocals)) t := fun t k => pre1 t (by
      show Steps p.tables e below (s₁.setTop (mkF m 6 #[.val (.int p1), .unset, .unset, .unset] [(.int ((p1 &&& (2147483647 : Int32)) % (5 : Int32)))])) _
      refine castTop (g' := (mkF m 6 #[.val (.int p1), .unset, .unset, .unset] [(.int (1 : Int32))])) (by rw [hk]) ?_
      show Steps p.tables e below (s₁.setTop (mkF m 6 #[.val (.int p1), .unset, .unset, .unset] [(.int (1 : Int32))])) _
      refine XS.istoreN X0.here hx rfl (hb hby at_6) rfl (l' := #[.val (.int p1), .val (.int (1 : Int32)), .unset, .unset]) rfl ?_
      show Steps p.tables e below (s₁.setTop (mkF m 7 #[.val (.int p1), .val (.int (1 : Int32)), .unset, .unset] [])) _
      refine XS.iloadN X0.here hx rfl (hb hby at_7) rfl ?_
      show Steps p.tables e below (s₁.setTop (mkF m 8 #[.val (.int p1), .val (.int (1 : Int32)), .unset, .unset] [(.int (1 : Int32))])) _
      refine st5 _ ?_
      show Steps p.tables e below (T5.setTop (mkF m 11 #[.val (.int p1), .val (.int (1 : Int32)), .unset, .unset] [(.ref a_FLAKY)])) _
      refine XS.astoreN X5.here hx rfl (hb hby at_11) rfl rfl (l' := #[.val (.int p1), .val (.int (1 : Int32)), .val (.ref a_FLAKY), .unset]) rfl ?_
      show Steps p.tables e below (T5.setTop (mkF m 12 #[.val (.int p1), .val (.int (1 : Int32)), .val (.ref a_FLAKY), .unset] [])) _
      refine XS.iloadN X5.here hx rfl (hb hby at_12) rfl ?_
      show Steps p.tables e below (T5.setTop (mkF m 13 #[.val (.int p1), .val (.int (1 : Int32)), .val (.ref a_FLAKY), .unset] [(.int (1 : Int32))])) _
      refine XT.iconstV X5.here hx rfl (2 : Int32) (hb hby at_13) (by decide) ?_
      show Steps p.tables e below (T5.setTop (mkF m 14 #[.val (.int p1), .val (.int (1 : Int32)), .val (.ref a_FLAKY), .unset] [(.int (2 : Int32)), (.int (1 : Int32))])) _
      refine XS.icmpYes X5.here hx rfl (pc0 := 14) (pc' := 22) rfl (hb hby at_14) rfl (feq (by decide : ¬ ((1 : Int32) = (2 : Int32)))).2 (by decide) (by decide) ?_
      show Steps p.tables e below (T5.setTop (mkF m 22 #[.val (.int p1), .val (.int (1 : Int32)), .val (.ref a_FLAKY), .unset] [])) _
      refine XS.iloadN X5.here hx rfl (hb hby at_22) rfl ?_
      show Steps p.tables e below (T5.setTop (mkF m 23 #[.val (.int p1), .val (.int (1 : Int32)), .val (.ref a_FLAKY), .unset] [(.int (1 : Int32))])) _
      refine XT.iconstV X5.here hx rfl (3 : Int32) (hb hby at_23) (by decide) ?_
      show Steps p.tables e below (T5.setTop (mkF m 24 #[.val (.int p1), .val (.int (1 : Int32)), .val (.ref a_FLAKY), .unset] [(.int (3 : Int32)), (.int (1 : Int32))])) _
      refine XS.icmpYes X5.here hx rfl (pc0 := 24) (pc' := 32) rfl (hb hby at_24) rfl (feq (by decide : ¬ ((1 : Int32) = (3 : Int32)))).2 (by decide) (by decide) ?_
      show Steps p.tables e below (T5.setTop (mkF m 32 #[.val (.int p1), .val (.int (1 : Int32)), .val (.ref a_FLAKY), .unset] [])) _
      refine XT.iconstV X5.here hx rfl (0 : Int32) (hb hby at_32) (by decide) ?_
      show Steps p.tables e below (T5.setTop (mkF m 33 #[.val (.int p1), .val (.int (1 : Int32)), .val (.ref a_FLAKY), .unset] [(.int (0 : Int32))])) _
      refine XS.istoreN X5.here hx rfl (hb hby at_33) rfl (l' := #[.val (.int p1), .val (.int (1 : Int32)), .val (.ref a_FLAKY), .val (.int (0 : Int32))]) rfl ?_
      show Steps p.tables e below (T5.setTop (mkF m 34 #[.val (.int p1), .val (.int (1 : Int32)), .val (.ref a_FLAKY), .val (.int (0 : Int32))] [])) _
      refine XS.aloadN X5.here hx rfl (hb hby at_34) rfl rfl ?_
      show Steps p.tables e below (T5.setTop (mkF m 35 #[.val (.int p1), .val (.int (1 : Int32)), .val (.ref a_FLAKY), .val (.int (0 : Int32))] [(.ref a_FLAKY)])) _
      refine st6.trans ?_
      show Steps p.tables e below (T6.setTop (mkF m 38 #[.val (.int p1), .val (.int (1 : Int32)), .val (.ref a_FLAKY), .val (.int (0 : Int32))] [(.int (0 : Int32))])) _
      refine XS.iloadN X6.here hx rfl (hb hby at_38) rfl ?_
      show Steps p.tables e below (T6.setTop (mkF m 39 #[.val (.int p1), .val (.int (1 : Int32)), .val (.ref a_FLAKY), .val (.int (0 : Int32))] [(.int (0 : Int32)), (.int (0 : Int32))])) _
      refine XS.icmpNo X6.here hx rfl (hb hby at_39) rfl (teq (by decide : ((0 : Int32) = (0 : Int32)))).2 ?_
      show Steps p.tables e below (T6.setTop (mkF m 42 #[.val (.int p1), .val (.int (1 : Int32)), .val (.ref a_FLAKY), .val (.int (0 : Int32))] [])) _
      refine XT.iconstV X6.here hx rfl (1 : Int32) (hb hby at_42) (by decide) ?_
      show Steps p.tables e below (T6.setTop (mkF m 43 #[.val (.int p1), .val (.int (1 : Int32)), .val (.ref a_FLAKY), .val (.int (0 : Int32))] [(.int (1 : Int32))])) _
      refine XS.goto X6.here hx rfl (pc0 := 43) (pc' := 47) rfl (hb hby at_43) (by decide) (by decide) ?_
      exact k)
    obtain ⟨fs, hr, hrun, hended, hW, hsame⟩ := X6.leave (v := some (.int (1 : Int32))) (fun h => by rw [Bd.returns] at h; cases h)
    refine ⟨_, _, pre7 _ ?_, hrun, hended, _, _, rfl, ?_, ⟨_, rfl⟩, hW, hsame.mono (by decide) (by decide)⟩
    · show Steps p.tables e below (T6.setTop (mkF m 47 #[.val (.int p1), .val (.int (1 : Int32)), .val (.ref a_FLAKY), .val (.int (0 : Int32))] [(.int (1 : Int32))])) _
      exact retOut X6 hx Bd.returns rfl (Or.inl ⟨rfl, by simp, _, rfl⟩) (hb hby at_47) hr
    · show Q0 Z p1  h0 n0 _ T6.heap _
      rw [e6]
      exact ⟨rfl, N6⟩
  · have _ := 0
    obtain ⟨_, _, ⟨T8, L8, k8, n8⟩, -, X8, ⟨Lc8, hQ8, l8, y8, z8⟩, st8⟩ := Jvm.LawKit.callS X0 hx (y := (⟨"com/example/steadyhand/steadyhand/run/StatusIsFailurePinLaw", "pick", "(I)Lcom/example/steadyhand/steadyhand/run/Status;"⟩ : MethodName)) hown (mvT hZ (hw _ (List.mem_of_getElem? (i := 1) rfl))) (mvT hZ (hw _ (List.mem_of_getElem? (i := 2) rfl))) (mvT hZ (hw _ (List.mem_of_getElem? (i := 3) rfl))) (mvT hZ (hw _ (List.mem_of_getElem? (i := 4) rfl))) (by decide) (backOf (W := 0) (rm_pick l Z a0 hw [] (2 : Int32) h0 n0 Z0 a_PASSED S_PASSED a_FLAKY S_FLAKY a_FAILED S_FAILED a_ERROR S_ERROR a_SKIPPED S_SKIPPED a_FAILED (by first | rfl | simp [own_pick])) hZ (hw _ (List.mem_of_getElem? (i := 4) rfl)) (hw _ (List.mem_of_getElem? (i := 3) rfl)) (by decide) (by decide)) (g := (mkF m 8 #[.val (.int p1), .val (.int (2 : Int32)), .unset, .unset] [(.int (2 : Int32))])) rfl (by rw [hml]; rfl) (argsL := [(.int (2 : Int32))]) (rest := []) (lenOf pd_0 rfl) rfl (by show 2 * 0 + _ ≤ _; exact Nat.le_of_eq rfl) (hb hby at_8) (fun _ _ => ⟨rfl, e0, (by decide : 0 + 0 ≤ _), (by decide : 0 + 0 ≤ _)⟩)
    dsimp only [Pt.U, Pt.locs, Pt.cells, Pt.slots] at X8 l8 y8 z8 st8 hQ8
    subst l8 y8 z8
    obtain ⟨rfl, N8q, e8⟩ := hQ8
    have N8 := Fr.app N0 N8q
    obtain ⟨cq9, kq9, q9a, q9b, q9c⟩ := isOf hZ e8 E_FAILED
    obtain ⟨_, _, ⟨T9, L9, k9, n9⟩, -, X9, ⟨Lc9, hQ9, l9, y9, z9⟩, st9⟩ := X8.virtualBack hx (y := (⟨"com/example/steadyhand/steadyhand/run/Status", "isFailure", "()Z"⟩ : MethodName)) (z := (⟨"com/example/steadyhand/steadyhand/run/Status", "isFailure", "()Z"⟩ : MethodName)) hown (mvT hZ (hw _ (List.mem_of_getElem? (i := 8) rfl))) (mvT hZ (hw _ (List.mem_of_getElem? (i := 9) rfl))) (notFace_of_selects (args := #[]) (mvT hZ (hw _ (List.mem_of_getElem? (i := 11) rfl)))) (mvT hZ (hw _ (List.mem_of_getElem? (i := 11) rfl))) (mvT hZ (hw _ (List.mem_of_getElem? (i := 10) rfl))) (by decide) (backOf (W := 0) (rm_fin l Z a0 hw [] a_FAILED h0 n0 Z0 a_FAILED S_FAILED a_ERROR S_ERROR (1 : Int32) (by simp [own_fin, (Fld.ne F_FAILED_ordinal F_ERROR_ordinal (by first | decide | simp))])) hZ (hw _ (List.mem_of_getElem? (i := 12) rfl)) (hw _ (List.mem_of_getElem? (i := 6) rfl)) (by decide) (by decide)) q9a q9c (g := (mkF m 35 #[.val (.int p1), .val (.int (2 : Int32)), .val (.ref a_FAILED), .val (.int (1 : Int32))] [(.ref a_FAILED)])) rfl (by rw [hml]; rfl) (Steps.refl _) (argsL := []) (rest := []) (lenOf pd_1 rfl) rfl (by show 2 * 0 + _ ≤ _; exact Nat.le_of_eq rfl) (hb hby at_35) (fun _ _ => ⟨rfl, e8, (by decide : 0 + 0 ≤ _), (by decide : 0 + 0 ≤ _)⟩)
    dsimp only [Pt.U, Pt.locs, Pt.cells, Pt.slots] at X9 l9 y9 z9 st9 hQ9
    subst l9 y9 z9
    obtain ⟨rfl, N9q, e9⟩ := hQ9
    have N9 := Fr.app N8 N9q
    have pre10 : ∀ t, Steps p.tables e below (T9.setTop (mkF m 47 #[.val (.int p1), .val (.int (2 : Int32)), .val (.ref a_FAILED), .val (.int (1 : Int32))] [(.int (1 : Int32))])) t → Steps p.tables e below (s₁.setTop (entryFrame m #[(.int p1)] maxLocals)) t := fun t k => pre1 t (by
      show Steps p.tables e below (s₁.setTop (mkF m 6 #[.val (.int p1), .unset, .unset, .unset] [(.int ((p1 &&& (2147483647 : Int32)) % (5 : Int32)))])) _
      refine castTop (g' := (mkF m 6 #[.val (.int p1), .unset, .unset, .unset] [(.int (2 : Int32))])) (by rw [hk]) ?_
      show Steps p.tables e below (s₁.setTop (mkF m 6 #[.val (.int p1), .unset, .unset, .unset] [(.int (2 : Int32))])) _
      refine XS.istoreN X0.here hx rfl (hb hby at_6) rfl (l' := #[.val (.int p1), .val (.int (2 : Int32)), .unset, .unset]) rfl ?_
      show Steps p.tables e below (s₁.setTop (mkF m 7 #[.val (.int p1), .val (.int (2 : Int32)), .unset, .unset] [])) _
      refine XS.iloadN X0.here hx rfl (hb hby at_7) rfl ?_
      show Steps p.tables e below (s₁.setTop (mkF m 8 #[.val (.int p1), .val (.int (2 : Int32)), .unset, .unset] [(.int (2 : Int32))])) _
      refine st8 _ ?_
      show Steps p.tables e below (T8.setTop (mkF m 11 #[.val (.int p1), .val (.int (2 : Int32)), .unset, .unset] [(.ref a_FAILED)])) _
      refine XS.astoreN X8.here hx rfl (hb hby at_11) rfl rfl (l' := #[.val (.int p1), .val (.int (2 : Int32)), .val (.ref a_FAILED), .unset]) rfl ?_
      show Steps p.tables e below (T8.setTop (mkF m 12 #[.val (.int p1), .val (.int (2 : Int32)), .val (.ref a_FAILED), .unset] [])) _
      refine XS.iloadN X8.here hx rfl (hb hby at_12) rfl ?_
      show Steps p.tables e below (T8.setTop (mkF m 13 #[.val (.int p1), .val (.int (2 : Int32)), .val (.ref a_FAILED), .unset] [(.int (2 : Int32))])) _
      refine XT.iconstV X8.here hx rfl (2 : Int32) (hb hby at_13) (by decide) ?_
      show Steps p.tables e below (T8.setTop (mkF m 14 #[.val (.int p1), .val (.int (2 : Int32)), .val (.ref a_FAILED), .unset] [(.int (2 : Int32)), (.int (2 : Int32))])) _
      refine XS.icmpNo X8.here hx rfl (hb hby at_14) rfl (teq (by decide : ((2 : Int32) = (2 : Int32)))).2 ?_
      show Steps p.tables e below (T8.setTop (mkF m 17 #[.val (.int p1), .val (.int (2 : Int32)), .val (.ref a_FAILED), .unset] [])) _
      refine XT.iconstV X8.here hx rfl (1 : Int32) (hb hby at_17) (by decide) ?_
      show Steps p.tables e below (T8.setTop (mkF m 18 #[.val (.int p1), .val (.int (2 : Int32)), .val (.ref a_FAILED), .unset] [(.int (1 : Int32))])) _
      refine XS.istoreN X8.here hx rfl (hb hby at_18) rfl (l' := #[.val (.int p1), .val (.int (2 : Int32)), .val (.ref a_FAILED), .val (.int (1 : Int32))]) rfl ?_
      show Steps p.tables e below (T8.setTop (mkF m 19 #[.val (.int p1), .val (.int (2 : Int32)), .val (.ref a_FAILED), .val (.int (1 : Int32))] [])) _
      refine XS.goto X8.here hx rfl (pc0 := 19) (pc' := 34) rfl (hb hby at_19) (by decide) (by decide) ?_
      show Steps p.tables e below (T8.setTop (mkF m 34 #[.val (.int p1), .val (.int (2 : Int32)), .val (.ref a_FAILED), .val (.int (1 : Int32))] [])) _
      refine XS.aloadN X8.here hx rfl (hb hby at_34) rfl rfl ?_
      show Steps p.tables e below (T8.setTop (mkF m 35 #[.val (.int p1), .val (.int (2 : Int32)), .val (.ref a_FAILED), .val (.int (1 : Int32))] [(.ref a_FAILED)])) _
      refine st9.trans ?_
      show Steps p.tables e below (T9.setTop (mkF m 38 #[.val (.int p1), .val (.int (2 : Int32)), .val (.ref a_FAILED), .val (.int (1 : Int32))] [(.int (1 : Int32))])) _
      refine XS.iloadN X9.here hx rfl (hb hby at_38) rfl ?_
      show Steps p.tables e below (T9.setTop (mkF m 39 #[.val (.int p1), .val (.int (2 : Int32)), .val (.ref a_FAILED), .val (.int (1 : Int32))] [(.int (1 : Int32)), (.int (1 : Int32))])) _
      refine XS.icmpNo X9.here hx rfl (hb hby at_39) rfl (teq (by decide : ((1 : Int32) = (1 : Int32)))).2 ?_
      show Steps p.tables e below (T9.setTop (mkF m 42 #[.val (.int p1), .val (.int (2 : Int32)), .val (.ref a_FAILED), .val (.int (1 : Int32))] [])) _
      refine XT.iconstV X9.here hx rfl (1 : Int32) (hb hby at_42) (by decide) ?_
      show Steps p.tables e below (T9.setTop (mkF m 43 #[.val (.int p1), .val (.int (2 : Int32)), .val (.ref a_FAILED), .val (.int (1 : Int32))] [(.int (1 : Int32))])) _
      refine XS.goto X9.here hx rfl (pc0 := 43) (pc' := 47) rfl (hb hby at_43) (by decide) (by decide) ?_
      exact k)
    obtain ⟨fs, hr, hrun, hended, hW, hsame⟩ := X9.leave (v := some (.int (1 : Int32))) (fun h => by rw [Bd.returns] at h; cases h)
    refine ⟨_, _, pre10 _ ?_, hrun, hended, _, _, rfl, ?_, ⟨_, rfl⟩, hW, hsame.mono (by decide) (by decide)⟩
    · show Steps p.tables e below (T9.setTop (mkF m 47 #[.val (.int p1), .val (.int (2 : Int32)), .val (.ref a_FAILED), .val (.int (1 : Int32))] [(.int (1 : Int32))])) _
      exact retOut X9 hx Bd.returns rfl (Or.inl ⟨rfl, by simp, _, rfl⟩) (hb hby at_47) hr
    · show Q0 Z p1  h0 n0 _ T9.heap _
      rw [e9]
      exact ⟨rfl, N9⟩
  · have _ := 0
    obtain ⟨_, _, ⟨T11, L11, k11, n11⟩, -, X11, ⟨Lc11, hQ11, l11, y11, z11⟩, st11⟩ := Jvm.LawKit.callS X0 hx (y := (⟨"com/example/steadyhand/steadyhand/run/StatusIsFailurePinLaw", "pick", "(I)Lcom/example/steadyhand/steadyhand/run/Status;"⟩ : MethodName)) hown (mvT hZ (hw _ (List.mem_of_getElem? (i := 1) rfl))) (mvT hZ (hw _ (List.mem_of_getElem? (i := 2) rfl))) (mvT hZ (hw _ (List.mem_of_getElem? (i := 3) rfl))) (mvT hZ (hw _ (List.mem_of_getElem? (i := 4) rfl))) (by decide) (backOf (W := 0) (rm_pick l Z a0 hw [] (3 : Int32) h0 n0 Z0 a_PASSED S_PASSED a_FLAKY S_FLAKY a_FAILED S_FAILED a_ERROR S_ERROR a_SKIPPED S_SKIPPED a_ERROR (by first | rfl | simp [own_pick])) hZ (hw _ (List.mem_of_getElem? (i := 4) rfl)) (hw _ (List.mem_of_getElem? (i := 3) rfl)) (by decide) (by decide)) (g := (mkF m 8 #[.val (.int p1), .val (.int (3 : Int32)), .unset, .unset] [(.int (3 : Int32))])) rfl (by rw [hml]; rfl) (argsL := [(.int (3 : Int32))]) (rest := []) (lenOf pd_0 rfl) rfl (by show 2 * 0 + _ ≤ _; exact Nat.le_of_eq rfl) (hb hby at_8) (fun _ _ => ⟨rfl, e0, (by decide : 0 + 0 ≤ _), (by decide : 0 + 0 ≤ _)⟩)
    dsimp only [Pt.U, Pt.locs, Pt.cells, Pt.slots] at X11 l11 y11 z11 st11 hQ11
    subst l11 y11 z11
    obtain ⟨rfl, N11q, e11⟩ := hQ11
    have N11 := Fr.app N0 N11q
    obtain ⟨cq12, kq12, q12a, q12b, q12c⟩ := isOf hZ e11 E_ERROR
    obtain ⟨_, _, ⟨T12, L12, k12, n12⟩, -, X12, ⟨Lc12, hQ12, l12, y12, z12⟩, st12⟩ := X11.virtualBack hx (y := (⟨"com/example/steadyhand/steadyhand/run/Status", "isFailure", "()Z"⟩ : MethodName)) (z := (⟨"com/example/steadyhand/steadyhand/run/Status", "isFailure", "()Z"⟩ : MethodName)) hown (mvT hZ (hw _ (List.mem_of_getElem? (i := 8) rfl))) (mvT hZ (hw _ (List.mem_of_getElem? (i := 9) rfl))) (notFace_of_selects (args := #[]) (mvT hZ (hw _ (List.mem_of_getElem? (i := 11) rfl)))) (mvT hZ (hw _ (List.mem_of_getElem? (i := 11) rfl))) (mvT hZ (hw _ (List.mem_of_getElem? (i := 10) rfl))) (by decide) (backOf (W := 0) (rm_fin l Z a0 hw [] a_ERROR h0 n0 Z0 a_FAILED S_FAILED a_ERROR S_ERROR (1 : Int32) (by simp [own_fin, (Fld.ne F_ERROR_ordinal F_FAILED_ordinal (by first | decide | simp))])) hZ (hw _ (List.mem_of_getElem? (i := 12) rfl)) (hw _ (List.mem_of_getElem? (i := 6) rfl)) (by decide) (by decide)) q12a q12c (g := (mkF m 35 #[.val (.int p1), .val (.int (3 : Int32)), .val (.ref a_ERROR), .val (.int (1 : Int32))] [(.ref a_ERROR)])) rfl (by rw [hml]; rfl) (Steps.refl _) (argsL := []) (rest := []) (lenOf pd_1 rfl) rfl (by show 2 * 0 + _ ≤ _; exact Nat.le_of_eq rfl) (hb hby at_35) (fun _ _ => ⟨rfl, e11, (by decide : 0 + 0 ≤ _), (by decide : 0 + 0 ≤ _)⟩)
    dsimp only [Pt.U, Pt.locs, Pt.cells, Pt.slots] at X12 l12 y12 z12 st12 hQ12
    subst l12 y12 z12
    obtain ⟨rfl, N12q, e12⟩ := hQ12
    have N12 := Fr.app N11 N12q
    have pre13 : ∀ t, Steps p.tables e below (T12.setTop (mkF m 47 #[.val (.int p1), .val (.int (3 : Int32)), .val (.ref a_ERROR), .val (.int (1 : Int32))] [(.int (1 : Int32))])) t → Steps p.tables e below (s₁.setTop (entryFrame m #[(.int p1)] maxLocals)) t := fun t k => pre1 t (by
      show Steps p.tables e below (s₁.setTop (mkF m 6 #[.val (.int p1), .unset, .unset, .unset] [(.int ((p1 &&& (2147483647 : Int32)) % (5 : Int32)))])) _
      refine castTop (g' := (mkF m 6 #[.val (.int p1), .unset, .unset, .unset] [(.int (3 : Int32))])) (by rw [hk]) ?_
      show Steps p.tables e below (s₁.setTop (mkF m 6 #[.val (.int p1), .unset, .unset, .unset] [(.int (3 : Int32))])) _
      refine XS.istoreN X0.here hx rfl (hb hby at_6) rfl (l' := #[.val (.int p1), .val (.int (3 : Int32)), .unset, .unset]) rfl ?_
      show Steps p.tables e below (s₁.setTop (mkF m 7 #[.val (.int p1), .val (.int (3 : Int32)), .unset, .unset] [])) _
      refine XS.iloadN X0.here hx rfl (hb hby at_7) rfl ?_
      show Steps p.tables e below (s₁.setTop (mkF m 8 #[.val (.int p1), .val (.int (3 : Int32)), .unset, .unset] [(.int (3 : Int32))])) _
      refine st11 _ ?_
      show Steps p.tables e below (T11.setTop (mkF m 11 #[.val (.int p1), .val (.int (3 : Int32)), .unset, .unset] [(.ref a_ERROR)])) _
      refine XS.astoreN X11.here hx rfl (hb hby at_11) rfl rfl (l' := #[.val (.int p1), .val (.int (3 : Int32)), .val (.ref a_ERROR), .unset]) rfl ?_
      show Steps p.tables e below (T11.setTop (mkF m 12 #[.val (.int p1), .val (.int (3 : Int32)), .val (.ref a_ERROR), .unset] [])) _
      refine XS.iloadN X11.here hx rfl (hb hby at_12) rfl ?_
      show Steps p.tables e below (T11.setTop (mkF m 13 #[.val (.int p1), .val (.int (3 : Int32)), .val (.ref a_ERROR), .unset] [(.int (3 : Int32))])) _
      refine XT.iconstV X11.here hx rfl (2 : Int32) (hb hby at_13) (by decide) ?_
      show Steps p.tables e below (T11.setTop (mkF m 14 #[.val (.int p1), .val (.int (3 : Int32)), .val (.ref a_ERROR), .unset] [(.int (2 : Int32)), (.int (3 : Int32))])) _
      refine XS.icmpYes X11.here hx rfl (pc0 := 14) (pc' := 22) rfl (hb hby at_14) rfl (feq (by decide : ¬ ((3 : Int32) = (2 : Int32)))).2 (by decide) (by decide) ?_
      show Steps p.tables e below (T11.setTop (mkF m 22 #[.val (.int p1), .val (.int (3 : Int32)), .val (.ref a_ERROR), .unset] [])) _
      refine XS.iloadN X11.here hx rfl (hb hby at_22) rfl ?_
      show Steps p.tables e below (T11.setTop (mkF m 23 #[.val (.int p1), .val (.int (3 : Int32)), .val (.ref a_ERROR), .unset] [(.int (3 : Int32))])) _
      refine XT.iconstV X11.here hx rfl (3 : Int32) (hb hby at_23) (by decide) ?_
      show Steps p.tables e below (T11.setTop (mkF m 24 #[.val (.int p1), .val (.int (3 : Int32)), .val (.ref a_ERROR), .unset] [(.int (3 : Int32)), (.int (3 : Int32))])) _
      refine XS.icmpNo X11.here hx rfl (hb hby at_24) rfl (teq (by decide : ((3 : Int32) = (3 : Int32)))).2 ?_
      show Steps p.tables e below (T11.setTop (mkF m 27 #[.val (.int p1), .val (.int (3 : Int32)), .val (.ref a_ERROR), .unset] [])) _
      refine XT.iconstV X11.here hx rfl (1 : Int32) (hb hby at_27) (by decide) ?_
      show Steps p.tables e below (T11.setTop (mkF m 28 #[.val (.int p1), .val (.int (3 : Int32)), .val (.ref a_ERROR), .unset] [(.int (1 : Int32))])) _
      refine XS.istoreN X11.here hx rfl (hb hby at_28) rfl (l' := #[.val (.int p1), .val (.int (3 : Int32)), .val (.ref a_ERROR), .val (.int (1 : Int32))]) rfl ?_
      show Steps p.tables e below (T11.setTop (mkF m 29 #[.val (.int p1), .val (.int (3 : Int32)), .val (.ref a_ERROR), .val (.int (1 : Int32))] [])) _
      refine XS.goto X11.here hx rfl (pc0 := 29) (pc' := 34) rfl (hb hby at_29) (by decide) (by decide) ?_
      show Steps p.tables e below (T11.setTop (mkF m 34 #[.val (.int p1), .val (.int (3 : Int32)), .val (.ref a_ERROR), .val (.int (1 : Int32))] [])) _
      refine XS.aloadN X11.here hx rfl (hb hby at_34) rfl rfl ?_
      show Steps p.tables e below (T11.setTop (mkF m 35 #[.val (.int p1), .val (.int (3 : Int32)), .val (.ref a_ERROR), .val (.int (1 : Int32))] [(.ref a_ERROR)])) _
      refine st12.trans ?_
      show Steps p.tables e below (T12.setTop (mkF m 38 #[.val (.int p1), .val (.int (3 : Int32)), .val (.ref a_ERROR), .val (.int (1 : Int32))] [(.int (1 : Int32))])) _
      refine XS.iloadN X12.here hx rfl (hb hby at_38) rfl ?_
      show Steps p.tables e below (T12.setTop (mkF m 39 #[.val (.int p1), .val (.int (3 : Int32)), .val (.ref a_ERROR), .val (.int (1 : Int32))] [(.int (1 : Int32)), (.int (1 : Int32))])) _
      refine XS.icmpNo X12.here hx rfl (hb hby at_39) rfl (teq (by decide : ((1 : Int32) = (1 : Int32)))).2 ?_
      show Steps p.tables e below (T12.setTop (mkF m 42 #[.val (.int p1), .val (.int (3 : Int32)), .val (.ref a_ERROR), .val (.int (1 : Int32))] [])) _
      refine XT.iconstV X12.here hx rfl (1 : Int32) (hb hby at_42) (by decide) ?_
      show Steps p.tables e below (T12.setTop (mkF m 43 #[.val (.int p1), .val (.int (3 : Int32)), .val (.ref a_ERROR), .val (.int (1 : Int32))] [(.int (1 : Int32))])) _
      refine XS.goto X12.here hx rfl (pc0 := 43) (pc' := 47) rfl (hb hby at_43) (by decide) (by decide) ?_
      exact k)
    obtain ⟨fs, hr, hrun, hended, hW, hsame⟩ := X12.leave (v := some (.int (1 : Int32))) (fun h => by rw [Bd.returns] at h; cases h)
    refine ⟨_, _, pre13 _ ?_, hrun, hended, _, _, rfl, ?_, ⟨_, rfl⟩, hW, hsame.mono (by decide) (by decide)⟩
    · show Steps p.tables e below (T12.setTop (mkF m 47 #[.val (.int p1), .val (.int (3 : Int32)), .val (.ref a_ERROR), .val (.int (1 : Int32))] [(.int (1 : Int32))])) _
      exact retOut X12 hx Bd.returns rfl (Or.inl ⟨rfl, by simp, _, rfl⟩) (hb hby at_47) hr
    · show Q0 Z p1  h0 n0 _ T12.heap _
      rw [e12]
      exact ⟨rfl, N12⟩
  · have _ := 0
    obtain ⟨_, _, ⟨T14, L14, k14, n14⟩, -, X14, ⟨Lc14, hQ14, l14, y14, z14⟩, st14⟩ := Jvm.LawKit.callS X0 hx (y := (⟨"com/example/steadyhand/steadyhand/run/StatusIsFailurePinLaw", "pick", "(I)Lcom/example/steadyhand/steadyhand/run/Status;"⟩ : MethodName)) hown (mvT hZ (hw _ (List.mem_of_getElem? (i := 1) rfl))) (mvT hZ (hw _ (List.mem_of_getElem? (i := 2) rfl))) (mvT hZ (hw _ (List.mem_of_getElem? (i := 3) rfl))) (mvT hZ (hw _ (List.mem_of_getElem? (i := 4) rfl))) (by decide) (backOf (W := 0) (rm_pick l Z a0 hw [] (4 : Int32) h0 n0 Z0 a_PASSED S_PASSED a_FLAKY S_FLAKY a_FAILED S_FAILED a_ERROR S_ERROR a_SKIPPED S_SKIPPED a_SKIPPED (by first | rfl | simp [own_pick])) hZ (hw _ (List.mem_of_getElem? (i := 4) rfl)) (hw _ (List.mem_of_getElem? (i := 3) rfl)) (by decide) (by decide)) (g := (mkF m 8 #[.val (.int p1), .val (.int (4 : Int32)), .unset, .unset] [(.int (4 : Int32))])) rfl (by rw [hml]; rfl) (argsL := [(.int (4 : Int32))]) (rest := []) (lenOf pd_0 rfl) rfl (by show 2 * 0 + _ ≤ _; exact Nat.le_of_eq rfl) (hb hby at_8) (fun _ _ => ⟨rfl, e0, (by decide : 0 + 0 ≤ _), (by decide : 0 + 0 ≤ _)⟩)
    dsimp only [Pt.U, Pt.locs, Pt.cells, Pt.slots] at X14 l14 y14 z14 st14 hQ14
    subst l14 y14 z14
    obtain ⟨rfl, N14q, e14⟩ := hQ14
    have N14 := Fr.app N0 N14q
    obtain ⟨cq15, kq15, q15a, q15b, q15c⟩ := isOf hZ e14 E_SKIPPED
    obtain ⟨_, _, ⟨T15, L15, k15, n15⟩, -, X15, ⟨Lc15, hQ15, l15, y15, z15⟩, st15⟩ := X14.virtualBack hx (y := (⟨"com/example/steadyhand/steadyhand/run/Status", "isFailure", "()Z"⟩ : MethodName)) (z := (⟨"com/example/steadyhand/steadyhand/run/Status", "isFailure", "()Z"⟩ : MethodName)) hown (mvT hZ (hw _ (List.mem_of_getElem? (i := 8) rfl))) (mvT hZ (hw _ (List.mem_of_getElem? (i := 9) rfl))) (notFace_of_selects (args := #[]) (mvT hZ (hw _ (List.mem_of_getElem? (i := 11) rfl)))) (mvT hZ (hw _ (List.mem_of_getElem? (i := 11) rfl))) (mvT hZ (hw _ (List.mem_of_getElem? (i := 10) rfl))) (by decide) (backOf (W := 0) (rm_fin l Z a0 hw [] a_SKIPPED h0 n0 Z0 a_FAILED S_FAILED a_ERROR S_ERROR (0 : Int32) (by simp [own_fin, (Fld.ne F_SKIPPED_ordinal F_FAILED_ordinal (by first | decide | simp)), (Fld.ne F_SKIPPED_ordinal F_ERROR_ordinal (by first | decide | simp))])) hZ (hw _ (List.mem_of_getElem? (i := 12) rfl)) (hw _ (List.mem_of_getElem? (i := 6) rfl)) (by decide) (by decide)) q15a q15c (g := (mkF m 35 #[.val (.int p1), .val (.int (4 : Int32)), .val (.ref a_SKIPPED), .val (.int (0 : Int32))] [(.ref a_SKIPPED)])) rfl (by rw [hml]; rfl) (Steps.refl _) (argsL := []) (rest := []) (lenOf pd_1 rfl) rfl (by show 2 * 0 + _ ≤ _; exact Nat.le_of_eq rfl) (hb hby at_35) (fun _ _ => ⟨rfl, e14, (by decide : 0 + 0 ≤ _), (by decide : 0 + 0 ≤ _)⟩)
    dsimp only [Pt.U, Pt.locs, Pt.cells, Pt.slots] at X15 l15 y15 z15 st15 hQ15
    subst l15 y15 z15
    obtain ⟨rfl, N15q, e15⟩ := hQ15
    have N15 := Fr.app N14 N15q
    have pre16 : ∀ t, Steps p.tables e below (T15.setTop (mkF m 47 #[.val (.int p1), .val (.int (4 : Int32)), .val (.ref a_SKIPPED), .val (.int (0 : Int32))] [(.int (1 : Int32))])) t → Steps p.tables e below (s₁.setTop (entryFrame m #[(.int p1)] maxLocals)) t := fun t k => pre1 t (by
      show Steps p.tables e below (s₁.setTop (mkF m 6 #[.val (.int p1), .unset, .unset, .unset] [(.int ((p1 &&& (2147483647 : Int32)) % (5 : Int32)))])) _
      refine castTop (g' := (mkF m 6 #[.val (.int p1), .unset, .unset, .unset] [(.int (4 : Int32))])) (by rw [hk]) ?_
      show Steps p.tables e below (s₁.setTop (mkF m 6 #[.val (.int p1), .unset, .unset, .unset] [(.int (4 : Int32))])) _
      refine XS.istoreN X0.here hx rfl (hb hby at_6) rfl (l' := #[.val (.int p1), .val (.int (4 : Int32)), .unset, .unset]) rfl ?_
      show Steps p.tables e below (s₁.setTop (mkF m 7 #[.val (.int p1), .val (.int (4 : Int32)), .unset, .unset] [])) _
      refine XS.iloadN X0.here hx rfl (hb hby at_7) rfl ?_
      show Steps p.tables e below (s₁.setTop (mkF m 8 #[.val (.int p1), .val (.int (4 : Int32)), .unset, .unset] [(.int (4 : Int32))])) _
      refine st14 _ ?_
      show Steps p.tables e below (T14.setTop (mkF m 11 #[.val (.int p1), .val (.int (4 : Int32)), .unset, .unset] [(.ref a_SKIPPED)])) _
      refine XS.astoreN X14.here hx rfl (hb hby at_11) rfl rfl (l' := #[.val (.int p1), .val (.int (4 : Int32)), .val (.ref a_SKIPPED), .unset]) rfl ?_
      show Steps p.tables e below (T14.setTop (mkF m 12 #[.val (.int p1), .val (.int (4 : Int32)), .val (.ref a_SKIPPED), .unset] [])) _
      refine XS.iloadN X14.here hx rfl (hb hby at_12) rfl ?_
      show Steps p.tables e below (T14.setTop (mkF m 13 #[.val (.int p1), .val (.int (4 : Int32)), .val (.ref a_SKIPPED), .unset] [(.int (4 : Int32))])) _
      refine XT.iconstV X14.here hx rfl (2 : Int32) (hb hby at_13) (by decide) ?_
      show Steps p.tables e below (T14.setTop (mkF m 14 #[.val (.int p1), .val (.int (4 : Int32)), .val (.ref a_SKIPPED), .unset] [(.int (2 : Int32)), (.int (4 : Int32))])) _
      refine XS.icmpYes X14.here hx rfl (pc0 := 14) (pc' := 22) rfl (hb hby at_14) rfl (feq (by decide : ¬ ((4 : Int32) = (2 : Int32)))).2 (by decide) (by decide) ?_
      show Steps p.tables e below (T14.setTop (mkF m 22 #[.val (.int p1), .val (.int (4 : Int32)), .val (.ref a_SKIPPED), .unset] [])) _
      refine XS.iloadN X14.here hx rfl (hb hby at_22) rfl ?_
      show Steps p.tables e below (T14.setTop (mkF m 23 #[.val (.int p1), .val (.int (4 : Int32)), .val (.ref a_SKIPPED), .unset] [(.int (4 : Int32))])) _
      refine XT.iconstV X14.here hx rfl (3 : Int32) (hb hby at_23) (by decide) ?_
      show Steps p.tables e below (T14.setTop (mkF m 24 #[.val (.int p1), .val (.int (4 : Int32)), .val (.ref a_SKIPPED), .unset] [(.int (3 : Int32)), (.int (4 : Int32))])) _
      refine XS.icmpYes X14.here hx rfl (pc0 := 24) (pc' := 32) rfl (hb hby at_24) rfl (feq (by decide : ¬ ((4 : Int32) = (3 : Int32)))).2 (by decide) (by decide) ?_
      show Steps p.tables e below (T14.setTop (mkF m 32 #[.val (.int p1), .val (.int (4 : Int32)), .val (.ref a_SKIPPED), .unset] [])) _
      refine XT.iconstV X14.here hx rfl (0 : Int32) (hb hby at_32) (by decide) ?_
      show Steps p.tables e below (T14.setTop (mkF m 33 #[.val (.int p1), .val (.int (4 : Int32)), .val (.ref a_SKIPPED), .unset] [(.int (0 : Int32))])) _
      refine XS.istoreN X14.here hx rfl (hb hby at_33) rfl (l' := #[.val (.int p1), .val (.int (4 : Int32)), .val (.ref a_SKIPPED), .val (.int (0 : Int32))]) rfl ?_
      show Steps p.tables e below (T14.setTop (mkF m 34 #[.val (.int p1), .val (.int (4 : Int32)), .val (.ref a_SKIPPED), .val (.int (0 : Int32))] [])) _
      refine XS.aloadN X14.here hx rfl (hb hby at_34) rfl rfl ?_
      show Steps p.tables e below (T14.setTop (mkF m 35 #[.val (.int p1), .val (.int (4 : Int32)), .val (.ref a_SKIPPED), .val (.int (0 : Int32))] [(.ref a_SKIPPED)])) _
      refine st15.trans ?_
      show Steps p.tables e below (T15.setTop (mkF m 38 #[.val (.int p1), .val (.int (4 : Int32)), .val (.ref a_SKIPPED), .val (.int (0 : Int32))] [(.int (0 : Int32))])) _
      refine XS.iloadN X15.here hx rfl (hb hby at_38) rfl ?_
      show Steps p.tables e below (T15.setTop (mkF m 39 #[.val (.int p1), .val (.int (4 : Int32)), .val (.ref a_SKIPPED), .val (.int (0 : Int32))] [(.int (0 : Int32)), (.int (0 : Int32))])) _
      refine XS.icmpNo X15.here hx rfl (hb hby at_39) rfl (teq (by decide : ((0 : Int32) = (0 : Int32)))).2 ?_
      show Steps p.tables e below (T15.setTop (mkF m 42 #[.val (.int p1), .val (.int (4 : Int32)), .val (.ref a_SKIPPED), .val (.int (0 : Int32))] [])) _
      refine XT.iconstV X15.here hx rfl (1 : Int32) (hb hby at_42) (by decide) ?_
      show Steps p.tables e below (T15.setTop (mkF m 43 #[.val (.int p1), .val (.int (4 : Int32)), .val (.ref a_SKIPPED), .val (.int (0 : Int32))] [(.int (1 : Int32))])) _
      refine XS.goto X15.here hx rfl (pc0 := 43) (pc' := 47) rfl (hb hby at_43) (by decide) (by decide) ?_
      exact k)
    obtain ⟨fs, hr, hrun, hended, hW, hsame⟩ := X15.leave (v := some (.int (1 : Int32))) (fun h => by rw [Bd.returns] at h; cases h)
    refine ⟨_, _, pre16 _ ?_, hrun, hended, _, _, rfl, ?_, ⟨_, rfl⟩, hW, hsame.mono (by decide) (by decide)⟩
    · show Steps p.tables e below (T15.setTop (mkF m 47 #[.val (.int p1), .val (.int (4 : Int32)), .val (.ref a_SKIPPED), .val (.int (0 : Int32))] [(.int (1 : Int32))])) _
      exact retOut X15 hx Bd.returns rfl (Or.inl ⟨rfl, by simp, _, rfl⟩) (hb hby at_47) hr
    · show Q0 Z p1  h0 n0 _ T15.heap _
      rw [e15]
      exact ⟨rfl, N15⟩
set_option maxRecDepth 65536 in
set_option maxHeartbeats 40000000 in
theorem comes_1 {Post : Tables → Env → Array Value → State → Outcome → State → Prop} (hpost : ∀ tb e args s v u, (limb_1_1.after args s (.returned v) u = true ∧ limb_1_2.after args s (.returned v) u = true ∧ True) → FrameEnd s (.returned v) u (Jvm.fieldLocs frame_1_writes args s ++ Jvm.arrayLocs frame_1_arrays args s ++ Jvm.staticLocs frame_1_statics s) 0 0 → Post tb e args s (.returned v) u) :
    ArmFor flags0 classFile x code maxLocals ret World_1 tables_1 room_1 Calls_1 rest_1 Pre_1 Post := by
  intro l hfl _ _ p e ha hc hk s m args below hf hA hF happ hP
  obtain ⟨hcalls, hrest, hpre⟩ := hP
  obtain ⟨-, -, -, hnamed, -, -, -, hat⟩ := (Spec.applies_iff hf).mp happ
  obtain ⟨hg, hn⟩ := and_e (Cond.before_iff.mp (show (Jvm.Cond.and given_1 narrow_1).before args s = true from hpre))
  obtain ⟨gc, gr0⟩ := and_e hg
  obtain ⟨w0, rfl⟩ : ∃ w0 : Value, args = #[w0] := by
    have hs : args.size = 1 := by simpa [Cond.value, given_1] using gc
    obtain ⟨L⟩ := args
    match L, hs with
    | [w0], _ => exact ⟨w0, rfl⟩
  have hw := fun d (hd : d ∈ tables_1) => atoms_spec (ws := Jvm.Cond.code x code maxLocals ret :: tables_1) hat d (List.mem_cons_of_mem _ hd)
  have hfit : Fit s := fun {y c} hc i hi => by
    obtain ⟨ha, rfl⟩ := Array.getElem?_eq_some_iff.mp hc
    have q := List.all_eq_true.mp ((Array.all_eq_true_iff_forall_mem.mp hF) _ (Array.getElem_mem ha)) i (List.mem_range.mpr hi)
    simpa [Array.getElem?_eq_getElem hi] using q
  obtain ⟨i0, ei0⟩ := is_v gr0
  obtain rfl : w0 = (.int i0) := Option.some.inj ei0
  obtain ⟨m0a, m0b⟩ := and_e hn
  obtain ⟨m2a, m2b⟩ := and_e m0b
  obtain ⟨m4a, m4b⟩ := and_e m2b
  obtain ⟨m6a, m6b⟩ := and_e m4b
  obtain ⟨m8a, m8b⟩ := and_e m6b
  obtain ⟨m10a, m10b⟩ := and_e m8b
  obtain ⟨m12a, m12b⟩ := and_e m10b
  obtain ⟨m14a, m14b⟩ := and_e m12b
  obtain ⟨m16a, m16b⟩ := and_e m14b
  obtain ⟨a_PASSED, v_PASSED⟩ := exa_v m0a
  have E_PASSED := Exa.start v_PASSED m0a
  have S_PASSED := Sta.start v_PASSED (Or.inr ⟨(hw _ (List.mem_of_getElem? (i := 6) rfl)), (hw _ (List.mem_of_getElem? (i := 7) rfl))⟩)
  obtain ⟨a_FAILED, v_FAILED⟩ := exa_v m2a
  have E_FAILED := Exa.start v_FAILED m2a
  have S_FAILED := Sta.start v_FAILED (Or.inr ⟨(hw _ (List.mem_of_getElem? (i := 6) rfl)), (hw _ (List.mem_of_getElem? (i := 14) rfl))⟩)
  obtain ⟨a_ERROR, v_ERROR⟩ := exa_v m8a
  have E_ERROR := Exa.start v_ERROR m8a
  have S_ERROR := Sta.start v_ERROR (Or.inr ⟨(hw _ (List.mem_of_getElem? (i := 6) rfl)), (hw _ (List.mem_of_getElem? (i := 16) rfl))⟩)
  obtain ⟨a_FLAKY, v_FLAKY⟩ := exa_v m12a
  have E_FLAKY := Exa.start v_FLAKY m12a
  have S_FLAKY := Sta.start v_FLAKY (Or.inr ⟨(hw _ (List.mem_of_getElem? (i := 6) rfl)), (hw _ (List.mem_of_getElem? (i := 19) rfl))⟩)
  obtain ⟨a_SKIPPED, v_SKIPPED⟩ := exa_v m16a
  have E_SKIPPED := Exa.start v_SKIPPED m16a
  have S_SKIPPED := Sta.start v_SKIPPED (Or.inr ⟨(hw _ (List.mem_of_getElem? (i := 6) rfl)), (hw _ (List.mem_of_getElem? (i := 21) rfl))⟩)
  have F_PASSED_ordinal := own_fldpin v_PASSED m4a
  have F_FAILED_ordinal := own_fldpin v_FAILED m6a
  have F_ERROR_ordinal := own_fldpin v_ERROR m10a
  have F_FLAKY_ordinal := own_fldpin v_FLAKY m14a
  have F_SKIPPED_ordinal := own_fldpin v_SKIPPED m16b
  obtain ⟨n, o, h1, h2, h3, _, L, rfl, ⟨rfl, N⟩, hq⟩ := rm0 l s _ hw tables_1 i0 s.heap s.heap.size (Nat.le_refl _) a_PASSED S_PASSED a_FAILED S_FAILED a_ERROR S_ERROR a_FLAKY S_FLAKY a_SKIPPED S_SKIPPED E_PASSED E_FAILED E_ERROR E_FLAKY E_SKIPPED F_PASSED_ordinal F_FAILED_ordinal F_ERROR_ordinal F_FLAKY_ordinal F_SKIPPED_ordinal p e ha hc hk s m _ below hf ((Spec.applies_iff_loose hf).mp happ).1 ⟨rfl, State.Warmed39.refl s, rfl⟩ trivial
  exact ⟨n, _, h1, h2, h3, hpost _ _ _ _ _ _ ⟨Cond.after_iff.mpr rfl, Cond.after_iff.mpr (eq_i res_at (Term.int_eval (1)) rfl), trivial⟩ ⟨hq.1, hq.2.1, (hq.2.2.sift fun y hy => Or.inr (N y hy)).mono (by decide) (by decide)⟩⟩
theorem main_1_1 : Claimed_1_1 := comes_1 fun _ _ _ _ _ _ h hF => ⟨h.1, hF⟩
theorem main_1_2 : Claimed_1_2 := comes_1 fun _ _ _ _ _ _ h hF => ⟨h.2.1, hF⟩
end Jvm.Pilot.@@N@@
namespace Jvm.Pilot.@@N@@
open Jvm Jvm.ClassFile Sem Op Lib Jvm.Free Jvm.Stand Jvm.Pilot.@@N@@.Jvm.D
/-! MADE BY PROGRAM (witnessworld.py) out of the Statement's table words and the real class files: 10 classes; the members and pool entries that the words name. The judged class is class 1, her method 2. -/
namespace start1
open Jvm.ClassFile
def u (s : String) : CpInfo := .utf8 (stringToUtf16 s)
/-- a pool by its gaps: so many unusable entries, then the entry; so many at the end -/
def gap : Nat → List CpInfo → List CpInfo
  | 0, r => r
  | n + 1, r => .unusable :: gap n r
def poolList (es : List (Nat × CpInfo)) (last : Nat) : List CpInfo := es.foldr (fun e r => gap e.1 (e.2 :: r)) (gap last [])
def pool (es : List (Nat × CpInfo)) (last : Nat) : Array CpInfo := ⟨poolList es last⟩
def fileOf (pool : Array CpInfo) (this : Nat) (attrs : Array Attribute := #[]) (ms : Array MethodInfo := #[]) (fl : Nat := 33) (sup : Nat := 0) (ifs : Array Nat := #[]) (fds : Array FieldInfo := #[]) : ClassFile where
  minorVersion := 0
  majorVersion := 65
  constantPool := pool
  accessFlags := fl
  thisClass := this
  superClass := sup
  interfaces := ifs
  fields := fds
  methods := ms
  attributes := attrs
def plain (name : String) (sup : Option ClassId) : Class where
  name := name
  kind := .ordinary
  loader := none
  accessFlags := 33
  super := sup
  interfaces := #[]
  cf := none
  fields := #[]
  methods := #[]
  instanceTypes := #[]
  staticTypes := #[]
  resolved := #[]
  callSites := []
  init := .initialized
  statics := none
  mirror := none

def pool0 : Array CpInfo := pool [(5, u "<init>"), (0, u "()V"), (1, .class_ 10), (1, u "java/lang/Object")] 113

def k0m0 : Method := { name := "<init>", desc := "()V", sig := { parameters := [], returnType := none }, accessFlags := 1, code := none }
/-- java/lang/Object -/
def k0 : Class := { plain "java/lang/Object" none with
  accessFlags := 33
  interfaces := #[]
  cf := some (fileOf pool0 8 #[] #[{ accessFlags := 1, nameIndex := 5, descriptorIndex := 6, attributes := #[] }] 33 0 #[] #[])
  fields := #[]
  methods := #[k0m0]
  instanceTypes := #[]
  staticTypes := #[]
  resolved := Array.replicate 124 none
  statics := none }

def pool1 : Array CpInfo := pool [(2, .class_ 4), (1, u "java/lang/Object"), (0, u "<init>"), (0, u "()V"), (0, .fieldref 8 9), (0, .class_ 10), (0, .nameAndType 11 12), (0, u "com/example/steadyhand/steadyhand/run/Status"), (0, u "PASSED"), (0, u "Lcom/example/steadyhand/steadyhand/run/Status;"), (0, .fieldref 8 14), (0, .nameAndType 15 12), (0, u "FLAKY"), (0, .fieldref 8 17), (0, .nameAndType 18 12), (0, u "FAILED"), (0, .fieldref 8 20), (0, .nameAndType 21 12), (0, u "ERROR"), (0, .fieldref 8 23), (0, .nameAndType 24 12), (0, u "SKIPPED"), (0, .integer 2147483647), (0, .methodref 27 28), (0, .class_ 29), (0, .nameAndType 30 31), (0, u "com/example/steadyhand/steadyhand/run/StatusIsFailurePinLaw"), (0, u "pick"), (0, u "(I)Lcom/example/steadyhand/steadyhand/run/Status;"), (0, .methodref 8 33), (0, .nameAndType 34 35), (0, u "isFailure"), (0, u "()Z"), (3, u "law"), (0, u "(I)Z")] 2

def k1m0 : Method := { name := "<init>", desc := "()V", sig := { parameters := [], returnType := none }, accessFlags := 2, code := none }
def k1c1 : Code := { maxStack := 2, maxLocals := 1, code := method_2_code, exceptionTable := #[], attributes := #[] }
def k1m1 : Method := { name := "pick", desc := "(I)Lcom/example/steadyhand/steadyhand/run/Status;", sig := { parameters := [.int], returnType := some (.object "com/example/steadyhand/steadyhand/run/Status") }, accessFlags := 10, code := some k1c1 }
def k1c2 : Code := { maxStack := 2, maxLocals := 4, code := code, exceptionTable := #[], attributes := #[] }
def k1m2 : Method := { name := "law", desc := "(I)Z", sig := { parameters := [.int], returnType := some .boolean }, accessFlags := 9, code := some k1c2 }
/-- com/example/steadyhand/steadyhand/run/StatusIsFailurePinLaw -/
def k1 : Class := { plain "com/example/steadyhand/steadyhand/run/StatusIsFailurePinLaw" (some 0) with
  accessFlags := 49
  interfaces := #[]
  cf := some (fileOf pool1 27 #[] #[{ accessFlags := 2, nameIndex := 5, descriptorIndex := 6, attributes := #[] }, { accessFlags := 10, nameIndex := 30, descriptorIndex := 31, attributes := #[] }, { accessFlags := 9, nameIndex := 39, descriptorIndex := 40, attributes := #[] }] 49 2 #[] #[])
  fields := #[]
  methods := #[k1m0, k1m1, k1m2]
  instanceTypes := #[]
  staticTypes := #[]
  resolved := Array.replicate 43 none
  statics := none }

def pool2 : Array CpInfo := pool [(1, .class_ 2), (0, u "java/lang/constant/Constable"), (0, .class_ 4), (0, u "java/lang/Object")] 6

/-- java/lang/constant/Constable -/
def k2 : Class := { plain "java/lang/constant/Constable" (some 0) with
  accessFlags := 1537
  interfaces := #[]
  cf := some (fileOf pool2 1 #[] #[] 1537 3 #[] #[])
  fields := #[]
  methods := #[]
  instanceTypes := #[]
  staticTypes := #[]
  resolved := Array.replicate 11 none
  statics := none }

def pool3 : Array CpInfo := pool [(1, .class_ 2), (0, u "java/lang/Comparable"), (0, .class_ 4), (0, u "java/lang/Object")] 7

/-- java/lang/Comparable -/
def k3 : Class := { plain "java/lang/Comparable" (some 0) with
  accessFlags := 1537
  interfaces := #[]
  cf := some (fileOf pool3 1 #[] #[] 1537 3 #[] #[])
  fields := #[]
  methods := #[]
  instanceTypes := #[]
  staticTypes := #[]
  resolved := Array.replicate 12 none
  statics := none }

def pool4 : Array CpInfo := pool [(1, .class_ 2), (0, u "java/io/Serializable"), (0, .class_ 4), (0, u "java/lang/Object")] 2

/-- java/io/Serializable -/
def k4 : Class := { plain "java/io/Serializable" (some 0) with
  accessFlags := 1537
  interfaces := #[]
  cf := some (fileOf pool4 1 #[] #[] 1537 3 #[] #[])
  fields := #[]
  methods := #[]
  instanceTypes := #[]
  staticTypes := #[]
  resolved := Array.replicate 7 none
  statics := none }

def pool5 : Array CpInfo := pool [(2, .class_ 4), (1, u "java/lang/Enum"), (0, u "name"), (0, u "Ljava/lang/String;"), (2, u "ordinal"), (0, u "I"), (1, .class_ 14), (1, u "java/lang/Object"), (4, u "hash"), (86, .class_ 108), (1, u "java/lang/Enum$EnumDesc"), (2, .class_ 112), (0, u "java/lang/constant/Constable"), (0, .class_ 114), (0, u "java/lang/Comparable"), (0, .class_ 116), (0, u "java/io/Serializable")] 87

/-- java/lang/Enum -/
def k5 : Class := { plain "java/lang/Enum" (some 0) with
  accessFlags := 1057
  interfaces := #[2, 3, 4]
  cf := some (fileOf pool5 2 #[.nestMembers #[106]] #[] 1057 12 #[111, 113, 115] #[{ accessFlags := 18, nameIndex := 5, descriptorIndex := 6, attributes := #[] }, { accessFlags := 18, nameIndex := 9, descriptorIndex := 10, attributes := #[] }, { accessFlags := 2, nameIndex := 19, descriptorIndex := 10, attributes := #[] }])
  fields := #[{ name := "name", type := (.object "java/lang/String"), accessFlags := 18, slot := 0, constantValue := 0 }, { name := "ordinal", type := .int, accessFlags := 18, slot := 1, constantValue := 0 }, { name := "hash", type := .int, accessFlags := 2, slot := 2, constantValue := 0 }]
  methods := #[]
  instanceTypes := #[(.object "java/lang/String"), .int, .int]
  staticTypes := #[]
  resolved := Array.replicate 204 none
  statics := none }

def pool6 : Array CpInfo := pool [(1, .class_ 2), (0, u "com/example/steadyhand/steadyhand/run/Status"), (2, u "PASSED"), (0, u "Lcom/example/steadyhand/steadyhand/run/Status;"), (2, u "FLAKY"), (0, .fieldref 1 11), (0, .nameAndType 12 6), (0, u "FAILED"), (0, .fieldref 1 14), (0, .nameAndType 15 6), (0, u "ERROR"), (2, u "SKIPPED"), (2, u "$VALUES"), (0, u "[Lcom/example/steadyhand/steadyhand/run/Status;"), (6, .class_ 31), (1, u "java/lang/Enum"), (7, .class_ 41), (1, u "com/example/steadyhand/steadyhand/run/Status$1"), (36, u "()Z"), (25, u "isFailure")] 30

def k6c0 : Code := { maxStack := 2, maxLocals := 1, code := prog_52_method_4_code, exceptionTable := #[], attributes := #[] }
def k6m0 : Method := { name := "isFailure", desc := "()Z", sig := { parameters := [], returnType := some .boolean }, accessFlags := 0, code := some k6c0 }
/-- com/example/steadyhand/steadyhand/run/Status -/
def k6 : Class := { plain "com/example/steadyhand/steadyhand/run/Status" (some 5) with
  accessFlags := 16433
  interfaces := #[]
  cf := some (fileOf pool6 1 #[.nestMembers #[39]] #[{ accessFlags := 0, nameIndex := 104, descriptorIndex := 78, attributes := #[] }] 16433 29 #[] #[{ accessFlags := 16409, nameIndex := 5, descriptorIndex := 6, attributes := #[] }, { accessFlags := 16409, nameIndex := 9, descriptorIndex := 6, attributes := #[] }, { accessFlags := 16409, nameIndex := 12, descriptorIndex := 6, attributes := #[] }, { accessFlags := 16409, nameIndex := 15, descriptorIndex := 6, attributes := #[] }, { accessFlags := 16409, nameIndex := 18, descriptorIndex := 6, attributes := #[] }, { accessFlags := 4122, nameIndex := 21, descriptorIndex := 22, attributes := #[] }])
  fields := #[{ name := "PASSED", type := (.object "com/example/steadyhand/steadyhand/run/Status"), accessFlags := 16409, slot := 0, constantValue := 0 }, { name := "FLAKY", type := (.object "com/example/steadyhand/steadyhand/run/Status"), accessFlags := 16409, slot := 1, constantValue := 0 }, { name := "FAILED", type := (.object "com/example/steadyhand/steadyhand/run/Status"), accessFlags := 16409, slot := 2, constantValue := 0 }, { name := "ERROR", type := (.object "com/example/steadyhand/steadyhand/run/Status"), accessFlags := 16409, slot := 3, constantValue := 0 }, { name := "SKIPPED", type := (.object "com/example/steadyhand/steadyhand/run/Status"), accessFlags := 16409, slot := 4, constantValue := 0 }, { name := "$VALUES", type := (.array (.object "com/example/steadyhand/steadyhand/run/Status")), accessFlags := 4122, slot := 5, constantValue := 0 }]
  methods := #[k6m0]
  instanceTypes := #[(.object "java/lang/String"), .int, .int]
  staticTypes := #[(.object "com/example/steadyhand/steadyhand/run/Status"), (.object "com/example/steadyhand/steadyhand/run/Status"), (.object "com/example/steadyhand/steadyhand/run/Status"), (.object "com/example/steadyhand/steadyhand/run/Status"), (.object "com/example/steadyhand/steadyhand/run/Status"), (.array (.object "com/example/steadyhand/steadyhand/run/Status"))]
  resolved := Array.replicate 135 none
  statics := some 0 }

def pool7 : Array CpInfo := pool [(1, u "java/lang/Cloneable"), (0, .class_ 1), (0, u "java/lang/Object"), (0, .class_ 3)] 3

/-- java/lang/Cloneable -/
def k7 : Class := { plain "java/lang/Cloneable" (some 0) with
  accessFlags := 1537
  interfaces := #[]
  cf := some (fileOf pool7 2 #[] #[] 1537 4 #[] #[])
  fields := #[]
  methods := #[]
  instanceTypes := #[]
  staticTypes := #[]
  resolved := Array.replicate 8 none
  statics := none }

/-- the primitive byte -/
def k8 : Class := { plain "byte" none with kind := .primitive 'B', accessFlags := 0x411 }
/-- [B -/
def k9 : Class := { plain "[B" (some 0) with kind := .array 8 .byte, interfaces := #[7, 4], accessFlags := 1041 }

def heap : Heap := #[{ cls := 6, slots := #[.ref 1, .ref 2, .ref 3, .ref 4, .ref 5, .null], vm := .statics 6 },
  { cls := 6, slots := #[.null, .int 0, .int 0], vm := .none },
  { cls := 6, slots := #[.null, .int 1, .int 0], vm := .none },
  { cls := 6, slots := #[.null, .int 2, .int 0], vm := .none },
  { cls := 6, slots := #[.null, .int 3, .int 0], vm := .none },
  { cls := 6, slots := #[.null, .int 4, .int 0], vm := .none }]
def classes : Array Class := #[k0, k1, k2, k3, k4, k5, k6, k7, k8, k9]
def interned : List (Array UInt16 × Addr) := []
def slotsUsed : Nat := 21
def theMethod : MethodId := ⟨1, 2⟩
def args0 : Array Value := #[.int 5]
def aboutOver (below : List Frame) : State where
  vm := { classes := classes, interned := interned.toArray }
  heap := heap
  slotsUsed := slotsUsed
  threads := #[{ frames := .invoking theMethod args0 :: below }]
def below0 : List Frame := [.native { method := ⟨0, 0⟩, args := #[] }]
def about1 : State := aboutOver below0
def p0 : Program := .bare "" "" ""
def e0 : Env := launch0.env 0 0 0
theorem w_frames : about1.frames = Frame.invoking theMethod args0 :: below0 := rfl
set_option maxRecDepth 65536 in
theorem w_args : argsFit about1.vm theMethod args0 = true := by decide +kernel
set_option maxRecDepth 65536 in
theorem w_heap : heapFits about1 = true := by decide +kernel
set_option maxRecDepth 65536 in
theorem w_runnable : about1.curStatus? = some .runnable := by decide +kernel
set_option maxRecDepth 65536 in
theorem w_alone : about1.alone = true := by decide +kernel
set_option maxRecDepth 65536 in
theorem w_named : about1.methodNamed? x = some theMethod := by decide +kernel
set_option maxRecDepth 65536 in
theorem w_hears : about1.hears theMethod below0 = true := by decide +kernel
set_option maxRecDepth 65536 in
theorem w_ripe : about1.ripe theMethod args0 below0 = true := by decide +kernel
theorem w_running : about1.status = .running := rfl
set_option maxRecDepth 65536 in
theorem w_room : about1.hasRoom e0.platform room_1 = true :=
  launch0.hasRoom_least _ room_1 (by decide +kernel) (by decide +kernel) (by decide +kernel) (by decide +kernel) (by decide +kernel) (by decide +kernel)
theorem allAtoms_all (ts : List Jvm.Cond) (a : Array Jvm.Value) (st : Jvm.State) : (allAtoms ts).before a st = ts.all (fun c => c.before a st) := by
  induction ts with
  | nil => rfl
  | cons c t ih =>
    show (Jvm.Cond.and c (allAtoms t)).before a st = _
    rw [Jvm.Cond.before_and, ih, List.all_cons]
def words1 : List Jvm.Cond := Jvm.Cond.code x code maxLocals ret :: tables_1
/-- a 'code' word, met by the world's own term for the bytes: nothing is compared byte by byte -/
theorem code_word {y : MethodName} {bytes : ByteArray} {mx : Nat} {rt : Option FieldType} {a : Array Value} {s : State} {m : MethodId} {meth : Method} {c : Code} (h1 : s.methodNamed? y = some m) (h2 : s.vm.method? m = some meth) (h3 : meth.code = some c) (h4 : c.code = bytes)
    (h5 : (c.maxLocals == mx && c.exceptionTable.isEmpty && decide (c.maxStack ≤ mostOperands) && decide (meth.sig.returnType = rt) && !meth.locks && decide (parseMethodDescriptor y.desc = some meth.sig)) = true) : (Jvm.Cond.code y bytes mx rt).before a s = true := by
  simp only [Bool.and_eq_true, beq_iff_eq, Bool.not_eq_true', decide_eq_true_eq] at h5
  obtain ⟨⟨⟨⟨⟨g1, g2⟩, g3⟩, g4⟩, g5⟩, g6⟩ := h5
  simp [Cond.before, Cond.holds, Cond.value, h1, h2, h3, h4, g1, g2, g3, g4, g5, g6]
def isCode : Jvm.Cond → Bool
  | .code _ _ _ _ => true
  | _ => false
theorem all_split {L : List Jvm.Cond} {P : Jvm.Cond → Bool} (h1 : L.all (fun c => isCode c || P c) = true) (h2 : ∀ c ∈ L.filter isCode, P c = true) : L.all P = true := by
  refine List.all_eq_true.mpr fun c hc => ?_
  have h := List.all_eq_true.mp h1 c hc
  rcases Bool.eq_false_or_eq_true (isCode c) with hi | hi
  · exact h2 c (List.mem_filter.mpr ⟨hc, hi⟩)
  · simpa [hi] using h
set_option maxRecDepth 65536 in
theorem w_c0 : (Jvm.Cond.code x code maxLocals ret).before args0 about1 = true := code_word (m := ⟨1, 2⟩) (meth := k1m2) (c := k1c2) (by decide +kernel) rfl rfl rfl (by decide +kernel)
set_option maxRecDepth 65536 in
theorem w_c1 : (Jvm.Cond.code ({ cls := "com/example/steadyhand/steadyhand/run/StatusIsFailurePinLaw", name := "pick", desc := "(I)Lcom/example/steadyhand/steadyhand/run/Status;" } : Jvm.MethodName) method_2_code (1 : Nat) (Option.some (Jvm.ClassFile.FieldType.object "com/example/steadyhand/steadyhand/run/Status"))).before args0 about1 = true := code_word (m := ⟨1, 1⟩) (meth := k1m1) (c := k1c1) (by decide +kernel) rfl rfl rfl (by decide +kernel)
set_option maxRecDepth 65536 in
theorem w_c2 : (Jvm.Cond.code ({ cls := "com/example/steadyhand/steadyhand/run/Status", name := "isFailure", desc := "()Z" } : Jvm.MethodName) prog_52_method_4_code (1 : Nat) (Option.some Jvm.ClassFile.FieldType.boolean)).before args0 about1 = true := code_word (m := ⟨6, 0⟩) (meth := k6m0) (c := k6c0) (by decide +kernel) rfl rfl rfl (by decide +kernel)
def codes1 : List Jvm.Cond := [Jvm.Cond.code x code maxLocals ret, Jvm.Cond.code ({ cls := "com/example/steadyhand/steadyhand/run/StatusIsFailurePinLaw", name := "pick", desc := "(I)Lcom/example/steadyhand/steadyhand/run/Status;" } : Jvm.MethodName) method_2_code (1 : Nat) (Option.some (Jvm.ClassFile.FieldType.object "com/example/steadyhand/steadyhand/run/Status")), Jvm.Cond.code ({ cls := "com/example/steadyhand/steadyhand/run/Status", name := "isFailure", desc := "()Z" } : Jvm.MethodName) prog_52_method_4_code (1 : Nat) (Option.some Jvm.ClassFile.FieldType.boolean)]
set_option maxRecDepth 65536 in
theorem codes_eq : words1.filter isCode = codes1 := rfl
theorem w_codes : ∀ c ∈ words1.filter isCode, c.before args0 about1 = true := by
  rw [codes_eq]
  intro c hc
  simp only [codes1, List.mem_cons, List.not_mem_nil, or_false] at hc
  rcases hc with rfl | rfl | rfl
  · exact w_c0
  · exact w_c1
  · exact w_c2
set_option maxRecDepth 65536 in
theorem w_t1 : words1.all (fun c => isCode c || c.before args0 about1) = true := by decide +kernel
theorem w_tables : (allAtoms (Jvm.Cond.code x code maxLocals ret :: tables_1)).before args0 about1 = true := by
  rw [allAtoms_all]
  show words1.all (fun c => c.before args0 about1) = true
  refine all_split ?_ w_codes
  rw [w_t1]
set_option maxRecDepth 65536 in
theorem w_case : (Jvm.Cond.and given_1 narrow_1).before args0 about1 = true := by decide +kernel
theorem w_applies : (headSpec (Jvm.Cond.code x code maxLocals ret :: tables_1) room_1).applies x e0.platform about1 = true :=
  (Spec.applies_iff w_frames).mpr ⟨w_running, w_runnable, w_alone, w_named, w_hears, w_ripe, w_room, w_tables⟩
theorem atStart : AtStart classFile x code maxLocals ret World_1 tables_1 room_1 Calls_1 rest_1 Pre_1 launch0 p0 e0 about1 theMethod args0 below0 :=
  ⟨lists_1, trivial, launch0.admits_env _ _ _, launch0.least_env, fairChoices_fair.cas, fairChoices_fair.clock, w_frames, w_args, w_heap, w_applies, trivial, trivial, w_case⟩
end start1
theorem witness_1 : WitnessClaimed_1 := ⟨start1.p0, start1.e0, start1.about1, start1.theMethod, start1.args0, start1.below0, start1.atStart⟩
end Jvm.Pilot.@@N@@
