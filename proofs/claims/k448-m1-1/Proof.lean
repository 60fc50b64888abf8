import JvmDerived
import JvmDerived.Pilot.@@N@@Statement
import JvmDerived.Pilot.@@N@@Code
set_option linter.unusedVariables false
set_option linter.unusedSimpArgs false
namespace Jvm.Pilot.@@N@@
open Jvm Jvm.ClassFile Sem Op Lib Jvm.Free Jvm.Stand Jvm.LawKit Jvm.RoadKit Bundle Jvm.Pilot.@@N@@.Jvm.D
theorem pd_0 : parseMethodDescriptor "(II)I" = some ⟨[.int, .int], some .int⟩ := by decide +kernel
theorem d1_0 : decode prog_5_method_13_code 0 = .ok (.iload_n 0, 1) := by decide +kernel
theorem d1_1 : decode prog_5_method_13_code 1 = .ok (.ldc 103, 2) := by decide +kernel
theorem d1_3 : decode prog_5_method_13_code 3 = .ok (.iload_n 1, 1) := by decide +kernel
theorem d1_4 : decode prog_5_method_13_code 4 = .ok (.isub, 1) := by decide +kernel
theorem d1_5 : decode prog_5_method_13_code 5 = .ok (.if_icmp .le 14, 3) := by decide +kernel
theorem d1_8 : decode prog_5_method_13_code 8 = .ok (.iload_n 1, 1) := by decide +kernel
theorem d1_9 : decode prog_5_method_13_code 9 = .ok (.ldc 103, 2) := by decide +kernel
theorem d1_11 : decode prog_5_method_13_code 11 = .ok (.iload_n 0, 1) := by decide +kernel
theorem d1_12 : decode prog_5_method_13_code 12 = .ok (.isub, 1) := by decide +kernel
theorem d1_13 : decode prog_5_method_13_code 13 = .ok (.isub, 1) := by decide +kernel
theorem d1_14 : decode prog_5_method_13_code 14 = .ok (.iconst 1, 1) := by decide +kernel
theorem d1_15 : decode prog_5_method_13_code 15 = .ok (.isub, 1) := by decide +kernel
theorem d1_16 : decode prog_5_method_13_code 16 = .ok (.goto 6, 3) := by decide +kernel
theorem d1_19 : decode prog_5_method_13_code 19 = .ok (.iload_n 0, 1) := by decide +kernel
theorem d1_20 : decode prog_5_method_13_code 20 = .ok (.iload_n 1, 1) := by decide +kernel
theorem d1_21 : decode prog_5_method_13_code 21 = .ok (.iadd, 1) := by decide +kernel
theorem d1_22 : decode prog_5_method_13_code 22 = .ok (.ireturn, 1) := by decide +kernel
def own_next (a b : Int32) : Int32 := if ((2147483647 : Int32) - b) < a then ((b - ((2147483647 : Int32) - a)) - (1 : Int32)) else (a + b)
def Q1 (Z : State) (p1 p2 : Int32) (h0 : Heap) (n0 : Nat) (v : Option Value) (h : Heap) (L : List Loc) : Prop := v = some (.int (own_next p1 p2)) ∧ Fr n0 L ∧ h = h0
theorem pn_1 : plainName "com/example/hursley/hursley/batches/RecordBatch" = true := by first | (simp [plainName, overriddenIn]; done) | decide +kernel
theorem ef_rm1 (m : MethodId) (x0 : Int32) (x1 : Int32) : entryFrame m #[(.int x0), (.int x1)] 2 = mkF m 0 #[.val (.int x0), .val (.int x1)] [] := by first | (simp [entryFrame, mkF, argsToLocals, Value.category]; done) | rfl
set_option maxRecDepth 65536 in
set_option maxHeartbeats 40000000 in
theorem rm1 (l : Launch) (Z : State) (a0 : Array Value) (hw : ∀ d ∈ tables_1, d.before a0 Z = true) (ws : List Jvm.Cond) (p1 : Int32) (p2 : Int32) (h0 : Heap) (n0 : Nat) (Z0 : n0 ≤ h0.size)  :
    MetFree l (⟨"com/example/hursley/hursley/batches/RecordBatch", "nextSequence", "(II)I"⟩ : MethodName) (head1 (Jvm.Cond.code (⟨"com/example/hursley/hursley/batches/RecordBatch", "nextSequence", "(II)I"⟩ : MethodName) prog_5_method_13_code 2 (some .int) :: ws) ({ frames := 0, cells := 0, slots := 0, locals := 0 } : Room)) (fun a U => a = #[(.int p1), (.int p2)] ∧ Z.Warmed39 U.vm ∧ U.heap = h0) (fun _ _ _ _ _ => True) (fun _ U o U' => ∃ v L, o = .returned v ∧ Q1 Z p1 p2  h0 n0 v U'.heap L ∧ FrameEnd U o U' L ({ frames := 0, cells := 0, slots := 0, locals := 0 } : Room).cells ({ frames := 0, cells := 0, slots := 0, locals := 0 } : Room).slots) := by
  refine MetFree.of_bodySF (plainFor_of_name pn_1) hisR ?_
  intro p e s m args below meth c s₁ Bd hml0 hP hK
  obtain ⟨rfl, hZ, hh⟩ := hP
  have hx := Bd.exec
  have hby := Bd.bytes
  have hml : c.maxLocals = 2 := hml0
  have hown : s.vm.findClass "com/example/hursley/hursley/batches/RecordBatch" = some m.cls := findClass_of_methodNamed Bd.named
  have hnm := (name_of_methodNamed Bd.named Bd.method).1
  have X0 : Stand p l e ({ frames := 0, cells := 0, slots := 0, locals := 0 } : Room) s m #[(.int p1), (.int p2)] below meth c s₁ [] 0 0 := Stand.of_body Bd
  have e0 : s₁.heap = h0 := by rw [← hh, Bd.state]; rfl
  have N0 := Fr.nil n0
  have pre0 : ∀ t, Steps p.tables e below (s₁.setTop (mkF m 0 #[.val (.int p1), .val (.int p2)] [])) t → Steps p.tables e below (s₁.setTop (entryFrame m #[(.int p1), (.int p2)] 2)) t := fun t k => castTop (ef_rm1 m p1 p2) k
  have pre1 : ∀ t, Steps p.tables e below (s₁.setTop (mkF m 5 #[.val (.int p1), .val (.int p2)] [(.int ((2147483647 : Int32) - p2)), (.int p1)])) t → Steps p.tables e below (s₁.setTop (entryFrame m #[(.int p1), (.int p2)] 2)) t := fun t k => pre0 t (by
    show Steps p.tables e below (s₁.setTop (mkF m 0 #[.val (.int p1), .val (.int p2)] [])) _
    refine XS.iloadN X0.here hx rfl (hb hby d1_0) rfl ?_
    show Steps p.tables e below (s₁.setTop (mkF m 1 #[.val (.int p1), .val (.int p2)] [(.int p1)])) _
    refine X0.ldcInt hx hown (mvT hZ (hw _ (List.mem_of_getElem? (i := 6) rfl))) (g := (mkF m 1 #[.val (.int p1), .val (.int p2)] [(.int p1)])) rfl (hb hby d1_1) _ ?_
    show Steps p.tables e below (s₁.setTop (mkF m 3 #[.val (.int p1), .val (.int p2)] [(.int (2147483647 : Int32)), (.int p1)])) _
    refine XS.iloadN X0.here hx rfl (hb hby d1_3) rfl ?_
    show Steps p.tables e below (s₁.setTop (mkF m 4 #[.val (.int p1), .val (.int p2)] [(.int p2), (.int (2147483647 : Int32)), (.int p1)])) _
    refine XS.isub X0.here hx rfl (hb hby d1_4) rfl ?_
    exact k)
  by_cases hc5_2 : ((2147483647 : Int32) - p2) < p1
  · have _ := 0
    have pre3 : ∀ t, Steps p.tables e below (s₁.setTop (mkF m 22 #[.val (.int p1), .val (.int p2)] [(.int ((p2 - ((2147483647 : Int32) - p1)) - (1 : Int32)))])) t → Steps p.tables e below (s₁.setTop (entryFrame m #[(.int p1), (.int p2)] 2)) t := fun t k => pre1 t (by
      show Steps p.tables e below (s₁.setTop (mkF m 5 #[.val (.int p1), .val (.int p2)] [(.int ((2147483647 : Int32) - p2)), (.int p1)])) _
      refine XS.icmpNo X0.here hx rfl (hb hby d1_5) rfl (tlt hc5_2).2.2.2 ?_
      show Steps p.tables e below (s₁.setTop (mkF m 8 #[.val (.int p1), .val (.int p2)] [])) _
      refine XS.iloadN X0.here hx rfl (hb hby d1_8) rfl ?_
      show Steps p.tables e below (s₁.setTop (mkF m 9 #[.val (.int p1), .val (.int p2)] [(.int p2)])) _
      refine X0.ldcInt hx hown (mvT hZ (hw _ (List.mem_of_getElem? (i := 6) rfl))) (g := (mkF m 9 #[.val (.int p1), .val (.int p2)] [(.int p2)])) rfl (hb hby d1_9) _ ?_
      show Steps p.tables e below (s₁.setTop (mkF m 11 #[.val (.int p1), .val (.int p2)] [(.int (2147483647 : Int32)), (.int p2)])) _
      refine XS.iloadN X0.here hx rfl (hb hby d1_11) rfl ?_
      show Steps p.tables e below (s₁.setTop (mkF m 12 #[.val (.int p1), .val (.int p2)] [(.int p1), (.int (2147483647 : Int32)), (.int p2)])) _
      refine XS.isub X0.here hx rfl (hb hby d1_12) rfl ?_
      show Steps p.tables e below (s₁.setTop (mkF m 13 #[.val (.int p1), .val (.int p2)] [(.int ((2147483647 : Int32) - p1)), (.int p2)])) _
      refine XS.isub X0.here hx rfl (hb hby d1_13) rfl ?_
      show Steps p.tables e below (s₁.setTop (mkF m 14 #[.val (.int p1), .val (.int p2)] [(.int (p2 - ((2147483647 : Int32) - p1)))])) _
      refine XT.iconstV X0.here hx rfl (1 : Int32) (hb hby d1_14) (by decide) ?_
      show Steps p.tables e below (s₁.setTop (mkF m 15 #[.val (.int p1), .val (.int p2)] [(.int (1 : Int32)), (.int (p2 - ((2147483647 : Int32) - p1)))])) _
      refine XS.isub X0.here hx rfl (hb hby d1_15) rfl ?_
      show Steps p.tables e below (s₁.setTop (mkF m 16 #[.val (.int p1), .val (.int p2)] [(.int ((p2 - ((2147483647 : Int32) - p1)) - (1 : Int32)))])) _
      refine XS.goto X0.here hx rfl (pc0 := 16) (pc' := 22) rfl (hb hby d1_16) (by decide) (by decide) ?_
      exact k)
    obtain ⟨fs, hr, hrun, hended, hW, hsame⟩ := X0.leave (v := some (.int ((p2 - ((2147483647 : Int32) - p1)) - (1 : Int32)))) (fun h => by rw [Bd.returns] at h; cases h)
    refine ⟨_, _, pre3 _ ?_, hrun, hended, _, _, rfl, ?_, ⟨_, rfl⟩, hW, hsame.mono (by decide) (by decide)⟩
    · show Steps p.tables e below (s₁.setTop (mkF m 22 #[.val (.int p1), .val (.int p2)] [(.int ((p2 - ((2147483647 : Int32) - p1)) - (1 : Int32)))])) _
      exact retOut X0 hx Bd.returns rfl (Or.inl ⟨rfl, by simp, _, rfl⟩) (hb hby d1_22) hr
    · show Q1 Z p1 p2  h0 n0 _ s₁.heap _
      rw [e0]
      exact ⟨by simp only [own_next, if_pos hc5_2], N0, rfl⟩
  · have _ := 0
    have pre4 : ∀ t, Steps p.tables e below (s₁.setTop (mkF m 22 #[.val (.int p1), .val (.int p2)] [(.int (p1 + p2))])) t → Steps p.tables e below (s₁.setTop (entryFrame m #[(.int p1), (.int p2)] 2)) t := fun t k => pre1 t (by
      show Steps p.tables e below (s₁.setTop (mkF m 5 #[.val (.int p1), .val (.int p2)] [(.int ((2147483647 : Int32) - p2)), (.int p1)])) _
      refine XS.icmpYes X0.here hx rfl (pc0 := 5) (pc' := 19) rfl (hb hby d1_5) rfl (flt hc5_2).2.2.2 (by decide) (by decide) ?_
      show Steps p.tables e below (s₁.setTop (mkF m 19 #[.val (.int p1), .val (.int p2)] [])) _
      refine XS.iloadN X0.here hx rfl (hb hby d1_19) rfl ?_
      show Steps p.tables e below (s₁.setTop (mkF m 20 #[.val (.int p1), .val (.int p2)] [(.int p1)])) _
      refine XS.iloadN X0.here hx rfl (hb hby d1_20) rfl ?_
      show Steps p.tables e below (s₁.setTop (mkF m 21 #[.val (.int p1), .val (.int p2)] [(.int p2), (.int p1)])) _
      refine XS.iadd X0.here hx rfl (hb hby d1_21) rfl ?_
      exact k)
    obtain ⟨fs, hr, hrun, hended, hW, hsame⟩ := X0.leave (v := some (.int (p1 + p2))) (fun h => by rw [Bd.returns] at h; cases h)
    refine ⟨_, _, pre4 _ ?_, hrun, hended, _, _, rfl, ?_, ⟨_, rfl⟩, hW, hsame.mono (by decide) (by decide)⟩
    · show Steps p.tables e below (s₁.setTop (mkF m 22 #[.val (.int p1), .val (.int p2)] [(.int (p1 + p2))])) _
      exact retOut X0 hx Bd.returns rfl (Or.inl ⟨rfl, by simp, _, rfl⟩) (hb hby d1_22) hr
    · show Q1 Z p1 p2  h0 n0 _ s₁.heap _
      rw [e0]
      exact ⟨by simp only [own_next, if_neg hc5_2], N0, rfl⟩
theorem own_next_int {a b : Int32} (ha : 0 ≤ a.toInt) (hb : 0 ≤ b.toInt) : (own_next a b).toInt = (a.toInt + b.toInt) % 2147483648 := by
  have eM : (2147483647 : Int32).toInt = 2147483647 := by decide
  have o1 : (1 : Int32).toInt = 1 := by decide
  have ra := rng32 a
  have rb := rng32 b
  have s1 : ((2147483647 : Int32) - b).toInt = 2147483647 - b.toInt := by rw [XT.sub32 (by constructor <;> omega), eM]
  have s2 : ((2147483647 : Int32) - a).toInt = 2147483647 - a.toInt := by rw [XT.sub32 (by constructor <;> omega), eM]
  unfold own_next
  by_cases h : ((2147483647 : Int32) - b) < a
  · rw [if_pos h]
    rw [Int32.lt_iff_toInt_lt, s1] at h
    have s3 : (b - ((2147483647 : Int32) - a)).toInt = b.toInt - (2147483647 - a.toInt) := by rw [XT.sub32 (by rw [s2]; constructor <;> omega), s2]
    rw [XT.sub32 (by rw [s3, o1]; constructor <;> omega), s3, o1]
    omega
  · rw [if_neg h]
    rw [Int32.lt_iff_toInt_lt, s1] at h
    rw [XT.add32 (by constructor <;> omega)]
    omega
theorem own_law (s r : Int32) : (own_next (s &&& (2147483647 : Int32)) (r &&& (2147483647 : Int32))).toInt64 = (((s &&& (2147483647 : Int32)).toInt64 + (r &&& (2147483647 : Int32)).toInt64) &&& (2147483647 : Int64)) := by
  have e1 := c_mask s (2147483647 : Int32) 31 (by decide) (by decide)
  have e2 := c_mask r (2147483647 : Int32) 31 (by decide) (by decide)
  generalize (s &&& (2147483647 : Int32)) = a at *
  generalize (r &&& (2147483647 : Int32)) = b at *
  have ra := rng32 a
  have rb := rng32 b
  have ha : 0 ≤ a.toInt := by omega
  have hb : 0 ≤ b.toInt := by omega
  have e9 := c_maskL (a.toInt64 + b.toInt64) (2147483647 : Int64) 31 (by decide) (by decide)
  have e8 : (a.toInt64 + b.toInt64).toInt = a.toInt + b.toInt := by rw [XT.add64 (by rw [c_i2l, c_i2l]; constructor <;> omega), c_i2l, c_i2l]
  rw [← Int64.toInt_inj, c_i2l, e9, e8, own_next_int ha hb]
  rfl
def Q0 (Z : State) (p1 p2 : Int32) (h0 : Heap) (n0 : Nat) (v : Option Value) (h : Heap) (L : List Loc) : Prop := v = some (.int 1) ∧ Fr n0 L
theorem pn_0 : plainName "com/example/hursley/hursley/batches/RecordBatchNextSequencePinLaw" = true := by first | (simp [plainName, overriddenIn]; done) | decide +kernel
theorem ef_rm0 (m : MethodId) (x0 : Int32) (x1 : Int32) : entryFrame m #[(.int x0), (.int x1)] maxLocals = mkF m 0 #[.val (.int x0), .val (.int x1), .unset, .unset, .unset, .unset, .unset, .unset, .unset] [] := by first | (simp [entryFrame, mkF, argsToLocals, Value.category, maxLocals]; done) | rfl
set_option maxRecDepth 65536 in
set_option maxHeartbeats 40000000 in
theorem rm0 (l : Launch) (Z : State) (a0 : Array Value) (hw : ∀ d ∈ tables_1, d.before a0 Z = true) (ws : List Jvm.Cond) (p1 : Int32) (p2 : Int32) (h0 : Heap) (n0 : Nat) (Z0 : n0 ≤ h0.size)  :
    MetFree l x (head1 (Jvm.Cond.code x code maxLocals ret :: ws) room_1) (fun a U => a = #[(.int p1), (.int p2)] ∧ Z.Warmed39 U.vm ∧ U.heap = h0) (fun _ _ _ _ _ => True) (fun _ U o U' => ∃ v L, o = .returned v ∧ Q0 Z p1 p2  h0 n0 v U'.heap L ∧ FrameEnd U o U' L 0 0) := by
  refine MetFree.of_bodySF (plainFor_of_name pn_0) hisR ?_
  intro p e s m args below meth c s₁ Bd hml0 hP hK
  obtain ⟨rfl, hZ, hh⟩ := hP
  have hx := Bd.exec
  have hby := Bd.bytes
  have hml : c.maxLocals = 9 := hml0
  have hown : s.vm.findClass "com/example/hursley/hursley/batches/RecordBatchNextSequencePinLaw" = some m.cls := findClass_of_methodNamed Bd.named
  have hnm := (name_of_methodNamed Bd.named Bd.method).1
  have X0 : Stand p l e room_1 s m #[(.int p1), (.int p2)] below meth c s₁ [] 0 0 := Stand.of_body Bd
  have e0 : s₁.heap = h0 := by rw [← hh, Bd.state]; rfl
  have N0 := Fr.nil n0
  have pre0 : ∀ t, Steps p.tables e below (s₁.setTop (mkF m 0 #[.val (.int p1), .val (.int p2), .unset, .unset, .unset, .unset, .unset, .unset, .unset] [])) t → Steps p.tables e below (s₁.setTop (entryFrame m #[(.int p1), (.int p2)] maxLocals)) t := fun t k => castTop (ef_rm0 m p1 p2) k
  obtain ⟨_, _, ⟨T1, L1, k1, n1⟩, -, X1, ⟨Lc1, hQ1, l1, y1, z1⟩, st1⟩ := Jvm.LawKit.callS X0 hx (y := (⟨"com/example/hursley/hursley/batches/RecordBatch", "nextSequence", "(II)I"⟩ : MethodName)) hown (mvT hZ (hw _ (List.mem_of_getElem? (i := 2) rfl))) (mvT hZ (hw _ (List.mem_of_getElem? (i := 3) rfl))) (mvT hZ (hw _ (List.mem_of_getElem? (i := 4) rfl))) (mvT hZ (hw _ (List.mem_of_getElem? (i := 5) rfl))) (by decide) (backOf (W := 0) (rm1 l Z a0 hw [] (p1 &&& (2147483647 : Int32)) (p2 &&& (2147483647 : Int32)) h0 n0 Z0) hZ (hw _ (List.mem_of_getElem? (i := 5) rfl)) (hw _ (List.mem_of_getElem? (i := 4) rfl)) (by decide) (by decide)) (g := (mkF m 27 #[.val (.int p1), .val (.int p2), .val (.int (p1 &&& (2147483647 : Int32))), .val (.int (p2 &&& (2147483647 : Int32))), .val (.long (((p1 &&& (2147483647 : Int32)).toInt64) + ((p2 &&& (2147483647 : Int32)).toInt64))), .second, .val (.long ((((p1 &&& (2147483647 : Int32)).toInt64) + ((p2 &&& (2147483647 : Int32)).toInt64)) &&& (2147483647 : Int64))), .second, .unset] [(.int (p2 &&& (2147483647 : Int32))), (.int (p1 &&& (2147483647 : Int32)))])) rfl (by rw [hml]; rfl) (argsL := [(.int (p1 &&& (2147483647 : Int32))), (.int (p2 &&& (2147483647 : Int32)))]) (rest := []) (lenOf pd_0 rfl) rfl (by show 2 * 0 + _ ≤ _; exact Nat.le_of_eq rfl) (hb hby at_27) (fun _ _ => ⟨rfl, e0, (by decide : 0 + 0 ≤ _), (by decide : 0 + 0 ≤ _)⟩)
  dsimp only [Pt.U, Pt.locs, Pt.cells, Pt.slots] at X1 l1 y1 z1 st1 hQ1
  subst l1 y1 z1
  obtain ⟨rfl, N1q, e1⟩ := hQ1
  have N1 := Fr.app N0 N1q
  have pre2 : ∀ t, Steps p.tables e below (T1.setTop (mkF m 46 #[.val (.int p1), .val (.int p2), .val (.int (p1 &&& (2147483647 : Int32))), .val (.int (p2 &&& (2147483647 : Int32))), .val (.long (((p1 &&& (2147483647 : Int32)).toInt64) + ((p2 &&& (2147483647 : Int32)).toInt64))), .second, .val (.long ((((p1 &&& (2147483647 : Int32)).toInt64) + ((p2 &&& (2147483647 : Int32)).toInt64)) &&& (2147483647 : Int64))), .second, .val (.int (own_next (p1 &&& (2147483647 : Int32)) (p2 &&& (2147483647 : Int32))))] [(.int (1 : Int32))])) t → Steps p.tables e below (s₁.setTop (entryFrame m #[(.int p1), (.int p2)] maxLocals)) t := fun t k => pre0 t (by
    show Steps p.tables e below (s₁.setTop (mkF m 0 #[.val (.int p1), .val (.int p2), .unset, .unset, .unset, .unset, .unset, .unset, .unset] [])) _
    refine XS.iloadN X0.here hx rfl (hb hby at_0) rfl ?_
    show Steps p.tables e below (s₁.setTop (mkF m 1 #[.val (.int p1), .val (.int p2), .unset, .unset, .unset, .unset, .unset, .unset, .unset] [(.int p1)])) _
    refine X0.ldcInt hx hown (mvT hZ (hw _ (List.mem_of_getElem? (i := 0) rfl))) (g := (mkF m 1 #[.val (.int p1), .val (.int p2), .unset, .unset, .unset, .unset, .unset, .unset, .unset] [(.int p1)])) rfl (hb hby at_1) _ ?_
    show Steps p.tables e below (s₁.setTop (mkF m 3 #[.val (.int p1), .val (.int p2), .unset, .unset, .unset, .unset, .unset, .unset, .unset] [(.int (2147483647 : Int32)), (.int p1)])) _
    refine XS.iand X0.here hx rfl (hb hby at_3) rfl ?_
    show Steps p.tables e below (s₁.setTop (mkF m 4 #[.val (.int p1), .val (.int p2), .unset, .unset, .unset, .unset, .unset, .unset, .unset] [(.int (p1 &&& (2147483647 : Int32)))])) _
    refine XS.istoreN X0.here hx rfl (hb hby at_4) rfl (l' := #[.val (.int p1), .val (.int p2), .val (.int (p1 &&& (2147483647 : Int32))), .unset, .unset, .unset, .unset, .unset, .unset]) rfl ?_
    show Steps p.tables e below (s₁.setTop (mkF m 5 #[.val (.int p1), .val (.int p2), .val (.int (p1 &&& (2147483647 : Int32))), .unset, .unset, .unset, .unset, .unset, .unset] [])) _
    refine XS.iloadN X0.here hx rfl (hb hby at_5) rfl ?_
    show Steps p.tables e below (s₁.setTop (mkF m 6 #[.val (.int p1), .val (.int p2), .val (.int (p1 &&& (2147483647 : Int32))), .unset, .unset, .unset, .unset, .unset, .unset] [(.int p2)])) _
    refine X0.ldcInt hx hown (mvT hZ (hw _ (List.mem_of_getElem? (i := 0) rfl))) (g := (mkF m 6 #[.val (.int p1), .val (.int p2), .val (.int (p1 &&& (2147483647 : Int32))), .unset, .unset, .unset, .unset, .unset, .unset] [(.int p2)])) rfl (hb hby at_6) _ ?_
    show Steps p.tables e below (s₁.setTop (mkF m 8 #[.val (.int p1), .val (.int p2), .val (.int (p1 &&& (2147483647 : Int32))), .unset, .unset, .unset, .unset, .unset, .unset] [(.int (2147483647 : Int32)), (.int p2)])) _
    refine XS.iand X0.here hx rfl (hb hby at_8) rfl ?_
    show Steps p.tables e below (s₁.setTop (mkF m 9 #[.val (.int p1), .val (.int p2), .val (.int (p1 &&& (2147483647 : Int32))), .unset, .unset, .unset, .unset, .unset, .unset] [(.int (p2 &&& (2147483647 : Int32)))])) _
    refine XS.istoreN X0.here hx rfl (hb hby at_9) rfl (l' := #[.val (.int p1), .val (.int p2), .val (.int (p1 &&& (2147483647 : Int32))), .val (.int (p2 &&& (2147483647 : Int32))), .unset, .unset, .unset, .unset, .unset]) rfl ?_
    show Steps p.tables e below (s₁.setTop (mkF m 10 #[.val (.int p1), .val (.int p2), .val (.int (p1 &&& (2147483647 : Int32))), .val (.int (p2 &&& (2147483647 : Int32))), .unset, .unset, .unset, .unset, .unset] [])) _
    refine XS.iloadN X0.here hx rfl (hb hby at_10) rfl ?_
    show Steps p.tables e below (s₁.setTop (mkF m 11 #[.val (.int p1), .val (.int p2), .val (.int (p1 &&& (2147483647 : Int32))), .val (.int (p2 &&& (2147483647 : Int32))), .unset, .unset, .unset, .unset, .unset] [(.int (p1 &&& (2147483647 : Int32)))])) _
    refine XS.i2l X0.here hx rfl (hb hby at_11) rfl ?_
    show Steps p.tables e below (s₁.setTop (mkF m 12 #[.val (.int p1), .val (.int p2), .val (.int (p1 &&& (2147483647 : Int32))), .val (.int (p2 &&& (2147483647 : Int32))), .unset, .unset, .unset, .unset, .unset] [(.long ((p1 &&& (2147483647 : Int32)).toInt64))])) _
    refine XS.iloadN X0.here hx rfl (hb hby at_12) rfl ?_
    show Steps p.tables e below (s₁.setTop (mkF m 13 #[.val (.int p1), .val (.int p2), .val (.int (p1 &&& (2147483647 : Int32))), .val (.int (p2 &&& (2147483647 : Int32))), .unset, .unset, .unset, .unset, .unset] [(.int (p2 &&& (2147483647 : Int32))), (.long ((p1 &&& (2147483647 : Int32)).toInt64))])) _
    refine XS.i2l X0.here hx rfl (hb hby at_13) rfl ?_
    show Steps p.tables e below (s₁.setTop (mkF m 14 #[.val (.int p1), .val (.int p2), .val (.int (p1 &&& (2147483647 : Int32))), .val (.int (p2 &&& (2147483647 : Int32))), .unset, .unset, .unset, .unset, .unset] [(.long ((p2 &&& (2147483647 : Int32)).toInt64)), (.long ((p1 &&& (2147483647 : Int32)).toInt64))])) _
    refine XS.ladd X0.here hx rfl (hb hby at_14) rfl ?_
    show Steps p.tables e below (s₁.setTop (mkF m 15 #[.val (.int p1), .val (.int p2), .val (.int (p1 &&& (2147483647 : Int32))), .val (.int (p2 &&& (2147483647 : Int32))), .unset, .unset, .unset, .unset, .unset] [(.long (((p1 &&& (2147483647 : Int32)).toInt64) + ((p2 &&& (2147483647 : Int32)).toInt64)))])) _
    refine XS.lstore X0.here hx rfl (hb hby at_15) rfl (l' := #[.val (.int p1), .val (.int p2), .val (.int (p1 &&& (2147483647 : Int32))), .val (.int (p2 &&& (2147483647 : Int32))), .val (.long (((p1 &&& (2147483647 : Int32)).toInt64) + ((p2 &&& (2147483647 : Int32)).toInt64))), .second, .unset, .unset, .unset]) rfl ?_
    show Steps p.tables e below (s₁.setTop (mkF m 17 #[.val (.int p1), .val (.int p2), .val (.int (p1 &&& (2147483647 : Int32))), .val (.int (p2 &&& (2147483647 : Int32))), .val (.long (((p1 &&& (2147483647 : Int32)).toInt64) + ((p2 &&& (2147483647 : Int32)).toInt64))), .second, .unset, .unset, .unset] [])) _
    refine XS.lload X0.here hx rfl (hb hby at_17) rfl ?_
    show Steps p.tables e below (s₁.setTop (mkF m 19 #[.val (.int p1), .val (.int p2), .val (.int (p1 &&& (2147483647 : Int32))), .val (.int (p2 &&& (2147483647 : Int32))), .val (.long (((p1 &&& (2147483647 : Int32)).toInt64) + ((p2 &&& (2147483647 : Int32)).toInt64))), .second, .unset, .unset, .unset] [(.long (((p1 &&& (2147483647 : Int32)).toInt64) + ((p2 &&& (2147483647 : Int32)).toInt64)))])) _
    refine X0.ldc2Long hx hown (mvT hZ (hw _ (List.mem_of_getElem? (i := 1) rfl))) (g := (mkF m 19 #[.val (.int p1), .val (.int p2), .val (.int (p1 &&& (2147483647 : Int32))), .val (.int (p2 &&& (2147483647 : Int32))), .val (.long (((p1 &&& (2147483647 : Int32)).toInt64) + ((p2 &&& (2147483647 : Int32)).toInt64))), .second, .unset, .unset, .unset] [(.long (((p1 &&& (2147483647 : Int32)).toInt64) + ((p2 &&& (2147483647 : Int32)).toInt64)))])) rfl (hb hby at_19) _ ?_
    show Steps p.tables e below (s₁.setTop (mkF m 22 #[.val (.int p1), .val (.int p2), .val (.int (p1 &&& (2147483647 : Int32))), .val (.int (p2 &&& (2147483647 : Int32))), .val (.long (((p1 &&& (2147483647 : Int32)).toInt64) + ((p2 &&& (2147483647 : Int32)).toInt64))), .second, .unset, .unset, .unset] [(.long (2147483647 : Int64)), (.long (((p1 &&& (2147483647 : Int32)).toInt64) + ((p2 &&& (2147483647 : Int32)).toInt64)))])) _
    refine XS.land X0.here hx rfl (hb hby at_22) rfl ?_
    show Steps p.tables e below (s₁.setTop (mkF m 23 #[.val (.int p1), .val (.int p2), .val (.int (p1 &&& (2147483647 : Int32))), .val (.int (p2 &&& (2147483647 : Int32))), .val (.long (((p1 &&& (2147483647 : Int32)).toInt64) + ((p2 &&& (2147483647 : Int32)).toInt64))), .second, .unset, .unset, .unset] [(.long ((((p1 &&& (2147483647 : Int32)).toInt64) + ((p2 &&& (2147483647 : Int32)).toInt64)) &&& (2147483647 : Int64)))])) _
    refine XS.lstore X0.here hx rfl (hb hby at_23) rfl (l' := #[.val (.int p1), .val (.int p2), .val (.int (p1 &&& (2147483647 : Int32))), .val (.int (p2 &&& (2147483647 : Int32))), .val (.long (((p1 &&& (2147483647 : Int32)).toInt64) + ((p2 &&& (2147483647 : Int32)).toInt64))), .second, .val (.long ((((p1 &&& (2147483647 : Int32)).toInt64) + ((p2 &&& (2147483647 : Int32)).toInt64)) &&& (2147483647 : Int64))), .second, .unset]) rfl ?_
    show Steps p.tables e below (s₁.setTop (mkF m 25 #[.val (.int p1), .val (.int p2), .val (.int (p1 &&& (2147483647 : Int32))), .val (.int (p2 &&& (2147483647 : Int32))), .val (.long (((p1 &&& (2147483647 : Int32)).toInt64) + ((p2 &&& (2147483647 : Int32)).toInt64))), .second, .val (.long ((((p1 &&& (2147483647 : Int32)).toInt64) + ((p2 &&& (2147483647 : Int32)).toInt64)) &&& (2147483647 : Int64))), .second, .unset] [])) _
    refine XS.iloadN X0.here hx rfl (hb hby at_25) rfl ?_
    show Steps p.tables e below (s₁.setTop (mkF m 26 #[.val (.int p1), .val (.int p2), .val (.int (p1 &&& (2147483647 : Int32))), .val (.int (p2 &&& (2147483647 : Int32))), .val (.long (((p1 &&& (2147483647 : Int32)).toInt64) + ((p2 &&& (2147483647 : Int32)).toInt64))), .second, .val (.long ((((p1 &&& (2147483647 : Int32)).toInt64) + ((p2 &&& (2147483647 : Int32)).toInt64)) &&& (2147483647 : Int64))), .second, .unset] [(.int (p1 &&& (2147483647 : Int32)))])) _
    refine XS.iloadN X0.here hx rfl (hb hby at_26) rfl ?_
    show Steps p.tables e below (s₁.setTop (mkF m 27 #[.val (.int p1), .val (.int p2), .val (.int (p1 &&& (2147483647 : Int32))), .val (.int (p2 &&& (2147483647 : Int32))), .val (.long (((p1 &&& (2147483647 : Int32)).toInt64) + ((p2 &&& (2147483647 : Int32)).toInt64))), .second, .val (.long ((((p1 &&& (2147483647 : Int32)).toInt64) + ((p2 &&& (2147483647 : Int32)).toInt64)) &&& (2147483647 : Int64))), .second, .unset] [(.int (p2 &&& (2147483647 : Int32))), (.int (p1 &&& (2147483647 : Int32)))])) _
    refine st1 _ ?_
    show Steps p.tables e below (T1.setTop (mkF m 30 #[.val (.int p1), .val (.int p2), .val (.int (p1 &&& (2147483647 : Int32))), .val (.int (p2 &&& (2147483647 : Int32))), .val (.long (((p1 &&& (2147483647 : Int32)).toInt64) + ((p2 &&& (2147483647 : Int32)).toInt64))), .second, .val (.long ((((p1 &&& (2147483647 : Int32)).toInt64) + ((p2 &&& (2147483647 : Int32)).toInt64)) &&& (2147483647 : Int64))), .second, .unset] [(.int (own_next (p1 &&& (2147483647 : Int32)) (p2 &&& (2147483647 : Int32))))])) _
    refine XS.istore X1.here hx rfl (hb hby at_30) rfl (l' := #[.val (.int p1), .val (.int p2), .val (.int (p1 &&& (2147483647 : Int32))), .val (.int (p2 &&& (2147483647 : Int32))), .val (.long (((p1 &&& (2147483647 : Int32)).toInt64) + ((p2 &&& (2147483647 : Int32)).toInt64))), .second, .val (.long ((((p1 &&& (2147483647 : Int32)).toInt64) + ((p2 &&& (2147483647 : Int32)).toInt64)) &&& (2147483647 : Int64))), .second, .val (.int (own_next (p1 &&& (2147483647 : Int32)) (p2 &&& (2147483647 : Int32))))]) rfl ?_
    show Steps p.tables e below (T1.setTop (mkF m 32 #[.val (.int p1), .val (.int p2), .val (.int (p1 &&& (2147483647 : Int32))), .val (.int (p2 &&& (2147483647 : Int32))), .val (.long (((p1 &&& (2147483647 : Int32)).toInt64) + ((p2 &&& (2147483647 : Int32)).toInt64))), .second, .val (.long ((((p1 &&& (2147483647 : Int32)).toInt64) + ((p2 &&& (2147483647 : Int32)).toInt64)) &&& (2147483647 : Int64))), .second, .val (.int (own_next (p1 &&& (2147483647 : Int32)) (p2 &&& (2147483647 : Int32))))] [])) _
    refine XS.iload X1.here hx rfl (hb hby at_32) rfl ?_
    show Steps p.tables e below (T1.setTop (mkF m 34 #[.val (.int p1), .val (.int p2), .val (.int (p1 &&& (2147483647 : Int32))), .val (.int (p2 &&& (2147483647 : Int32))), .val (.long (((p1 &&& (2147483647 : Int32)).toInt64) + ((p2 &&& (2147483647 : Int32)).toInt64))), .second, .val (.long ((((p1 &&& (2147483647 : Int32)).toInt64) + ((p2 &&& (2147483647 : Int32)).toInt64)) &&& (2147483647 : Int64))), .second, .val (.int (own_next (p1 &&& (2147483647 : Int32)) (p2 &&& (2147483647 : Int32))))] [(.int (own_next (p1 &&& (2147483647 : Int32)) (p2 &&& (2147483647 : Int32))))])) _
    refine XS.i2l X1.here hx rfl (hb hby at_34) rfl ?_
    show Steps p.tables e below (T1.setTop (mkF m 35 #[.val (.int p1), .val (.int p2), .val (.int (p1 &&& (2147483647 : Int32))), .val (.int (p2 &&& (2147483647 : Int32))), .val (.long (((p1 &&& (2147483647 : Int32)).toInt64) + ((p2 &&& (2147483647 : Int32)).toInt64))), .second, .val (.long ((((p1 &&& (2147483647 : Int32)).toInt64) + ((p2 &&& (2147483647 : Int32)).toInt64)) &&& (2147483647 : Int64))), .second, .val (.int (own_next (p1 &&& (2147483647 : Int32)) (p2 &&& (2147483647 : Int32))))] [(.long ((own_next (p1 &&& (2147483647 : Int32)) (p2 &&& (2147483647 : Int32))).toInt64))])) _
    refine XS.lload X1.here hx rfl (hb hby at_35) rfl ?_
    show Steps p.tables e below (T1.setTop (mkF m 37 #[.val (.int p1), .val (.int p2), .val (.int (p1 &&& (2147483647 : Int32))), .val (.int (p2 &&& (2147483647 : Int32))), .val (.long (((p1 &&& (2147483647 : Int32)).toInt64) + ((p2 &&& (2147483647 : Int32)).toInt64))), .second, .val (.long ((((p1 &&& (2147483647 : Int32)).toInt64) + ((p2 &&& (2147483647 : Int32)).toInt64)) &&& (2147483647 : Int64))), .second, .val (.int (own_next (p1 &&& (2147483647 : Int32)) (p2 &&& (2147483647 : Int32))))] [(.long ((((p1 &&& (2147483647 : Int32)).toInt64) + ((p2 &&& (2147483647 : Int32)).toInt64)) &&& (2147483647 : Int64))), (.long ((own_next (p1 &&& (2147483647 : Int32)) (p2 &&& (2147483647 : Int32))).toInt64))])) _
    refine XS.lcmp X1.here hx rfl (hb hby at_37) rfl ?_
    show Steps p.tables e below (T1.setTop (mkF m 38 #[.val (.int p1), .val (.int p2), .val (.int (p1 &&& (2147483647 : Int32))), .val (.int (p2 &&& (2147483647 : Int32))), .val (.long (((p1 &&& (2147483647 : Int32)).toInt64) + ((p2 &&& (2147483647 : Int32)).toInt64))), .second, .val (.long ((((p1 &&& (2147483647 : Int32)).toInt64) + ((p2 &&& (2147483647 : Int32)).toInt64)) &&& (2147483647 : Int64))), .second, .val (.int (own_next (p1 &&& (2147483647 : Int32)) (p2 &&& (2147483647 : Int32))))] [(.int (lcmpW ((own_next (p1 &&& (2147483647 : Int32)) (p2 &&& (2147483647 : Int32))).toInt64) ((((p1 &&& (2147483647 : Int32)).toInt64) + ((p2 &&& (2147483647 : Int32)).toInt64)) &&& (2147483647 : Int64))))])) _
    refine XS.ifNo X1.here hx rfl (hb hby at_38) rfl ((if0 _ _).trans (teq ((lw_eq ((own_next (p1 &&& (2147483647 : Int32)) (p2 &&& (2147483647 : Int32))).toInt64) ((((p1 &&& (2147483647 : Int32)).toInt64) + ((p2 &&& (2147483647 : Int32)).toInt64)) &&& (2147483647 : Int64))).mpr (own_law p1 p2))).2) ?_
    show Steps p.tables e below (T1.setTop (mkF m 41 #[.val (.int p1), .val (.int p2), .val (.int (p1 &&& (2147483647 : Int32))), .val (.int (p2 &&& (2147483647 : Int32))), .val (.long (((p1 &&& (2147483647 : Int32)).toInt64) + ((p2 &&& (2147483647 : Int32)).toInt64))), .second, .val (.long ((((p1 &&& (2147483647 : Int32)).toInt64) + ((p2 &&& (2147483647 : Int32)).toInt64)) &&& (2147483647 : Int64))), .second, .val (.int (own_next (p1 &&& (2147483647 : Int32)) (p2 &&& (2147483647 : Int32))))] [])) _
    refine XT.iconstV X1.here hx rfl (1 : Int32) (hb hby at_41) (by decide) ?_
    show Steps p.tables e below (T1.setTop (mkF m 42 #[.val (.int p1), .val (.int p2), .val (.int (p1 &&& (2147483647 : Int32))), .val (.int (p2 &&& (2147483647 : Int32))), .val (.long (((p1 &&& (2147483647 : Int32)).toInt64) + ((p2 &&& (2147483647 : Int32)).toInt64))), .second, .val (.long ((((p1 &&& (2147483647 : Int32)).toInt64) + ((p2 &&& (2147483647 : Int32)).toInt64)) &&& (2147483647 : Int64))), .second, .val (.int (own_next (p1 &&& (2147483647 : Int32)) (p2 &&& (2147483647 : Int32))))] [(.int (1 : Int32))])) _
    refine XS.goto X1.here hx rfl (pc0 := 42) (pc' := 46) rfl (hb hby at_42) (by decide) (by decide) ?_
    exact k)
  obtain ⟨fs, hr, hrun, hended, hW, hsame⟩ := X1.leave (v := some (.int (1 : Int32))) (fun h => by rw [Bd.returns] at h; cases h)
  refine ⟨_, _, pre2 _ ?_, hrun, hended, _, _, rfl, ?_, ⟨_, rfl⟩, hW, hsame.mono (by decide) (by decide)⟩
  · show Steps p.tables e below (T1.setTop (mkF m 46 #[.val (.int p1), .val (.int p2), .val (.int (p1 &&& (2147483647 : Int32))), .val (.int (p2 &&& (2147483647 : Int32))), .val (.long (((p1 &&& (2147483647 : Int32)).toInt64) + ((p2 &&& (2147483647 : Int32)).toInt64))), .second, .val (.long ((((p1 &&& (2147483647 : Int32)).toInt64) + ((p2 &&& (2147483647 : Int32)).toInt64)) &&& (2147483647 : Int64))), .second, .val (.int (own_next (p1 &&& (2147483647 : Int32)) (p2 &&& (2147483647 : Int32))))] [(.int (1 : Int32))])) _
    exact retOut X1 hx Bd.returns rfl (Or.inl ⟨rfl, by simp, _, rfl⟩) (hb hby at_46) hr
  · show Q0 Z p1 p2  h0 n0 _ T1.heap _
    rw [e1]
    exact ⟨rfl, N1⟩
set_option maxRecDepth 65536 in
set_option maxHeartbeats 40000000 in
theorem comes_1 {Post : Tables → Env → Array Value → State → Outcome → State → Prop} (hpost : ∀ tb e args s v u, (limb_1_1.after args s (.returned v) u = true ∧ limb_1_2.after args s (.returned v) u = true ∧ True) → FrameEnd s (.returned v) u (Jvm.fieldLocs frame_1_writes args s ++ Jvm.arrayLocs frame_1_arrays args s ++ Jvm.staticLocs frame_1_statics s) 0 0 → Post tb e args s (.returned v) u) :
    ArmFor flags0 classFile x code maxLocals ret World_1 tables_1 room_1 Calls_1 rest_1 Pre_1 Post := by
  intro l hfl _ _ p e ha hc hk s m args below hf hA hF happ hP
  obtain ⟨hcalls, hrest, hpre⟩ := hP
  obtain ⟨-, -, -, hnamed, -, -, -, hat⟩ := (Spec.applies_iff hf).mp happ
  obtain ⟨hg, hn⟩ := and_e (Cond.before_iff.mp (show (Jvm.Cond.and given_1 narrow_1).before args s = true from hpre))
  obtain ⟨gc, gr0⟩ := and_e hg
  obtain ⟨ga0, gr1⟩ := and_e gr0
  obtain ⟨w0, w1, rfl⟩ : ∃ w0 w1 : Value, args = #[w0, w1] := by
    have hs : args.size = 2 := by simpa [Cond.value, given_1] using gc
    obtain ⟨L⟩ := args
    match L, hs with
    | [w0, w1], _ => exact ⟨w0, w1, rfl⟩
  have hw := fun d (hd : d ∈ tables_1) => atoms_spec (ws := Jvm.Cond.code x code maxLocals ret :: tables_1) hat d (List.mem_cons_of_mem _ hd)
  have hfit : Fit s := fun {y c} hc i hi => by
    obtain ⟨ha, rfl⟩ := Array.getElem?_eq_some_iff.mp hc
    have q := List.all_eq_true.mp ((Array.all_eq_true_iff_forall_mem.mp hF) _ (Array.getElem_mem ha)) i (List.mem_range.mpr hi)
    simpa [Array.getElem?_eq_getElem hi] using q
  obtain ⟨i0, ei0⟩ := is_v ga0
  obtain rfl : w0 = (.int i0) := Option.some.inj ei0
  obtain ⟨i1, ei1⟩ := is_v gr1
  obtain rfl : w1 = (.int i1) := Option.some.inj ei1
  obtain ⟨n, o, h1, h2, h3, _, L, rfl, ⟨rfl, N⟩, hq⟩ := rm0 l s _ hw tables_1 i0 i1 s.heap s.heap.size (Nat.le_refl _)  p e ha hc hk s m _ below hf ((Spec.applies_iff_loose hf).mp happ).1 ⟨rfl, State.Warmed39.refl s, rfl⟩ trivial
  exact ⟨n, _, h1, h2, h3, hpost _ _ _ _ _ _ ⟨Cond.after_iff.mpr rfl, Cond.after_iff.mpr (eq_i res_at (Term.int_eval (1)) rfl), trivial⟩ ⟨hq.1, hq.2.1, (hq.2.2.sift fun y hy => Or.inr (N y hy)).mono (by decide) (by decide)⟩⟩
theorem main_1_1 : Claimed_1_1 := comes_1 fun _ _ _ _ _ _ h hF => ⟨h.1, hF⟩
theorem main_1_2 : Claimed_1_2 := comes_1 fun _ _ _ _ _ _ h hF => ⟨h.2.1, hF⟩
end Jvm.Pilot.@@N@@
namespace Jvm.Pilot.@@N@@
open Jvm Jvm.ClassFile Sem Op Lib Jvm.Free Jvm.Stand Jvm.Pilot.@@N@@.Jvm.D
/-! MADE BY PROGRAM (witnessworld.py) out of the Statement's table words and the real class files: 9 classes; the members and pool entries that the words name. The judged class is class 1, her method 1. -/
namespace start1
open Jvm.ClassFile
def u (s : String) : CpInfo := .utf8 (stringToUtf16 s)
/-- a pool by its gaps: so many unusable entries, then the entry; so many at the end -/
def gap : Nat → List CpInfo → List CpInfo
  | 0, r => r
  | n + 1, r => .unusable :: gap n r
def poolList (es : List (Nat × CpInfo)) (last : Nat) : List CpInfo := es.foldr (fun e r => gap e.1 (e.2 :: r)) (gap last [])
def pool (es : List (Nat × CpInfo)) (last : Nat) : Array CpInfo := ⟨poolList es last⟩
def fileOf (pool : Array CpInfo) (this : Nat) (attrs : Array Attribute := #[]) (ms : Array MethodInfo := #[]) (fl : Nat := 33) (sup : Nat := 0) (ifs : Array Nat := #[]) (fds : Array FieldInfo := #[]) : ClassFile where
  minorVersion := 0
  majorVersion := 65
  constantPool := pool
  accessFlags := fl
  thisClass := this
  superClass := sup
  interfaces := ifs
  fields := fds
  methods := ms
  attributes := attrs
def plain (name : String) (sup : Option ClassId) : Class where
  name := name
  kind := .ordinary
  loader := none
  accessFlags := 33
  super := sup
  interfaces := #[]
  cf := none
  fields := #[]
  methods := #[]
  instanceTypes := #[]
  staticTypes := #[]
  resolved := #[]
  callSites := []
  init := .initialized
  statics := none
  mirror := none

def pool0 : Array CpInfo := pool [(5, u "<init>"), (0, u "()V"), (1, .class_ 10), (1, u "java/lang/Object")] 113

def k0m0 : Method := { name := "<init>", desc := "()V", sig := { parameters := [], returnType := none }, accessFlags := 1, code := none }
/-- java/lang/Object -/
def k0 : Class := { plain "java/lang/Object" none with
  accessFlags := 33
  interfaces := #[]
  cf := some (fileOf pool0 8 #[] #[{ accessFlags := 1, nameIndex := 5, descriptorIndex := 6, attributes := #[] }] 33 0 #[] #[])
  fields := #[]
  methods := #[k0m0]
  instanceTypes := #[]
  staticTypes := #[]
  resolved := Array.replicate 124 none
  statics := none }

def pool1 : Array CpInfo := pool [(2, .class_ 4), (1, u "java/lang/Object"), (0, u "<init>"), (0, u "()V"), (0, .integer 2147483647), (0, .long 2147483647), (1, .methodref 11 12), (0, .class_ 13), (0, .nameAndType 14 15), (0, u "com/example/hursley/hursley/batches/RecordBatch"), (0, u "nextSequence"), (0, u "(II)I"), (0, .class_ 17), (0, u "com/example/hursley/hursley/batches/RecordBatchNextSequencePinLaw"), (2, u "law"), (0, u "(II)Z")] 3

def k1m0 : Method := { name := "<init>", desc := "()V", sig := { parameters := [], returnType := none }, accessFlags := 2, code := none }
def k1c1 : Code := { maxStack := 4, maxLocals := 9, code := code, exceptionTable := #[], attributes := #[] }
def k1m1 : Method := { name := "law", desc := "(II)Z", sig := { parameters := [.int, .int], returnType := some .boolean }, accessFlags := 9, code := some k1c1 }
/-- com/example/hursley/hursley/batches/RecordBatchNextSequencePinLaw -/
def k1 : Class := { plain "com/example/hursley/hursley/batches/RecordBatchNextSequencePinLaw" (some 0) with
  accessFlags := 49
  interfaces := #[]
  cf := some (fileOf pool1 16 #[] #[{ accessFlags := 2, nameIndex := 5, descriptorIndex := 6, attributes := #[] }, { accessFlags := 9, nameIndex := 20, descriptorIndex := 21, attributes := #[] }] 49 2 #[] #[])
  fields := #[]
  methods := #[k1m0, k1m1]
  instanceTypes := #[]
  staticTypes := #[]
  resolved := Array.replicate 25 none
  statics := none }

def pool2 : Array CpInfo := pool [(2, .class_ 4), (1, u "java/lang/Object"), (3, .class_ 10), (1, u "com/example/hursley/hursley/batches/RecordBatch"), (0, u "bytes"), (0, u "Ljava/nio/ByteBuffer;"), (86, u "nextSequence"), (0, u "(II)I"), (2, .integer 2147483647), (14, .class_ 119), (0, u "com/example/hursley/hursley/batches/RecordBatch$TimestampedOffset"), (102, u "LOG_OVERHEAD"), (0, u "I"), (2, u "HEADER_SIZE"), (1, u "LENGTH"), (1, u "PARTITION_LEADER_EPOCH"), (0, u "MAGIC"), (1, u "CRC"), (1, u "ATTRIBUTES"), (1, u "LAST_OFFSET_DELTA"), (1, u "BASE_TIMESTAMP"), (1, u "MAX_TIMESTAMP"), (1, u "PRODUCER_ID"), (1, u "PRODUCER_EPOCH"), (1, u "BASE_SEQUENCE"), (1, u "RECORD_COUNT"), (1, u "CURRENT_MAGIC"), (0, u "B"), (1, u "COMPRESSION_MASK"), (1, u "LOG_APPEND_TIME"), (0, u "TRANSACTIONAL"), (0, u "CONTROL")] 64

def k2c0 : Code := { maxStack := 3, maxLocals := 2, code := prog_5_method_13_code, exceptionTable := #[], attributes := #[] }
def k2m0 : Method := { name := "nextSequence", desc := "(II)I", sig := { parameters := [.int, .int], returnType := some .int }, accessFlags := 9, code := some k2c0 }
/-- com/example/hursley/hursley/batches/RecordBatch -/
def k2 : Class := { plain "com/example/hursley/hursley/batches/RecordBatch" (some 0) with
  accessFlags := 49
  interfaces := #[]
  cf := some (fileOf pool2 8 #[.nestMembers #[118]] #[{ accessFlags := 9, nameIndex := 99, descriptorIndex := 100, attributes := #[] }] 49 2 #[] #[{ accessFlags := 25, nameIndex := 222, descriptorIndex := 223, attributes := #[] }, { accessFlags := 25, nameIndex := 226, descriptorIndex := 223, attributes := #[] }, { accessFlags := 26, nameIndex := 228, descriptorIndex := 223, attributes := #[] }, { accessFlags := 26, nameIndex := 230, descriptorIndex := 223, attributes := #[] }, { accessFlags := 26, nameIndex := 231, descriptorIndex := 223, attributes := #[] }, { accessFlags := 26, nameIndex := 233, descriptorIndex := 223, attributes := #[] }, { accessFlags := 26, nameIndex := 235, descriptorIndex := 223, attributes := #[] }, { accessFlags := 26, nameIndex := 237, descriptorIndex := 223, attributes := #[] }, { accessFlags := 26, nameIndex := 239, descriptorIndex := 223, attributes := #[] }, { accessFlags := 26, nameIndex := 241, descriptorIndex := 223, attributes := #[] }, { accessFlags := 26, nameIndex := 243, descriptorIndex := 223, attributes := #[] }, { accessFlags := 26, nameIndex := 245, descriptorIndex := 223, attributes := #[] }, { accessFlags := 26, nameIndex := 247, descriptorIndex := 223, attributes := #[] }, { accessFlags := 26, nameIndex := 249, descriptorIndex := 223, attributes := #[] }, { accessFlags := 26, nameIndex := 251, descriptorIndex := 252, attributes := #[] }, { accessFlags := 26, nameIndex := 254, descriptorIndex := 223, attributes := #[] }, { accessFlags := 26, nameIndex := 256, descriptorIndex := 223, attributes := #[] }, { accessFlags := 26, nameIndex := 257, descriptorIndex := 223, attributes := #[] }, { accessFlags := 26, nameIndex := 258, descriptorIndex := 223, attributes := #[] }, { accessFlags := 18, nameIndex := 11, descriptorIndex := 12, attributes := #[] }])
  fields := #[{ name := "LOG_OVERHEAD", type := .int, accessFlags := 25, slot := 0, constantValue := 0 }, { name := "HEADER_SIZE", type := .int, accessFlags := 25, slot := 1, constantValue := 0 }, { name := "LENGTH", type := .int, accessFlags := 26, slot := 2, constantValue := 0 }, { name := "PARTITION_LEADER_EPOCH", type := .int, accessFlags := 26, slot := 3, constantValue := 0 }, { name := "MAGIC", type := .int, accessFlags := 26, slot := 4, constantValue := 0 }, { name := "CRC", type := .int, accessFlags := 26, slot := 5, constantValue := 0 }, { name := "ATTRIBUTES", type := .int, accessFlags := 26, slot := 6, constantValue := 0 }, { name := "LAST_OFFSET_DELTA", type := .int, accessFlags := 26, slot := 7, constantValue := 0 }, { name := "BASE_TIMESTAMP", type := .int, accessFlags := 26, slot := 8, constantValue := 0 }, { name := "MAX_TIMESTAMP", type := .int, accessFlags := 26, slot := 9, constantValue := 0 }, { name := "PRODUCER_ID", type := .int, accessFlags := 26, slot := 10, constantValue := 0 }, { name := "PRODUCER_EPOCH", type := .int, accessFlags := 26, slot := 11, constantValue := 0 }, { name := "BASE_SEQUENCE", type := .int, accessFlags := 26, slot := 12, constantValue := 0 }, { name := "RECORD_COUNT", type := .int, accessFlags := 26, slot := 13, constantValue := 0 }, { name := "CURRENT_MAGIC", type := .byte, accessFlags := 26, slot := 14, constantValue := 0 }, { name := "COMPRESSION_MASK", type := .int, accessFlags := 26, slot := 15, constantValue := 0 }, { name := "LOG_APPEND_TIME", type := .int, accessFlags := 26, slot := 16, constantValue := 0 }, { name := "TRANSACTIONAL", type := .int, accessFlags := 26, slot := 17, constantValue := 0 }, { name := "CONTROL", type := .int, accessFlags := 26, slot := 18, constantValue := 0 }, { name := "bytes", type := (.object "java/nio/ByteBuffer"), accessFlags := 18, slot := 0, constantValue := 0 }]
  methods := #[k2m0]
  instanceTypes := #[(.object "java/nio/ByteBuffer")]
  staticTypes := #[.int, .int, .int, .int, .int, .int, .int, .int, .int, .int, .int, .int, .int, .int, .byte, .int, .int, .int, .int]
  resolved := Array.replicate 323 none
  statics := none }

def pool3 : Array CpInfo := pool [(1, u "java/lang/Cloneable"), (0, .class_ 1), (0, u "java/lang/Object"), (0, .class_ 3)] 3

/-- java/lang/Cloneable -/
def k3 : Class := { plain "java/lang/Cloneable" (some 0) with
  accessFlags := 1537
  interfaces := #[]
  cf := some (fileOf pool3 2 #[] #[] 1537 4 #[] #[])
  fields := #[]
  methods := #[]
  instanceTypes := #[]
  staticTypes := #[]
  resolved := Array.replicate 8 none
  statics := none }

def pool4 : Array CpInfo := pool [(1, u "java/io/Serializable"), (0, .class_ 1), (0, u "java/lang/Object"), (0, .class_ 3)] 3

/-- java/io/Serializable -/
def k4 : Class := { plain "java/io/Serializable" (some 0) with
  accessFlags := 1537
  interfaces := #[]
  cf := some (fileOf pool4 2 #[] #[] 1537 4 #[] #[])
  fields := #[]
  methods := #[]
  instanceTypes := #[]
  staticTypes := #[]
  resolved := Array.replicate 8 none
  statics := none }

/-- the primitive byte -/
def k5 : Class := { plain "byte" none with kind := .primitive 'B', accessFlags := 0x411 }
/-- [B -/
def k6 : Class := { plain "[B" (some 0) with kind := .array 5 .byte, interfaces := #[3, 4], accessFlags := 1041 }

/-- the primitive int -/
def k7 : Class := { plain "int" none with kind := .primitive 'I', accessFlags := 0x411 }
/-- [I -/
def k8 : Class := { plain "[I" (some 0) with kind := .array 7 .int, interfaces := #[3, 4], accessFlags := 1041 }

def heap : Heap := #[]
def classes : Array Class := #[k0, k1, k2, k3, k4, k5, k6, k7, k8]
def interned : List (Array UInt16 × Addr) := []
def slotsUsed : Nat := 0
def theMethod : MethodId := ⟨1, 1⟩
def args0 : Array Value := #[.int 5, .int 7]
def aboutOver (below : List Frame) : State where
  vm := { classes := classes, interned := interned.toArray }
  heap := heap
  slotsUsed := slotsUsed
  threads := #[{ frames := .invoking theMethod args0 :: below }]
def below0 : List Frame := [.native { method := ⟨0, 0⟩, args := #[] }]
def about1 : State := aboutOver below0
def p0 : Program := .bare "" "" ""
def e0 : Env := launch0.env 0 0 0
theorem w_frames : about1.frames = Frame.invoking theMethod args0 :: below0 := rfl
set_option maxRecDepth 65536 in
theorem w_args : argsFit about1.vm theMethod args0 = true := by decide +kernel
set_option maxRecDepth 65536 in
theorem w_heap : heapFits about1 = true := by decide +kernel
set_option maxRecDepth 65536 in
theorem w_runnable : about1.curStatus? = some .runnable := by decide +kernel
set_option maxRecDepth 65536 in
theorem w_alone : about1.alone = true := by decide +kernel
set_option maxRecDepth 65536 in
theorem w_named : about1.methodNamed? x = some theMethod := by decide +kernel
set_option maxRecDepth 65536 in
theorem w_hears : about1.hears theMethod below0 = true := by decide +kernel
set_option maxRecDepth 65536 in
theorem w_ripe : about1.ripe theMethod args0 below0 = true := by decide +kernel
theorem w_running : about1.status = .running := rfl
set_option maxRecDepth 65536 in
theorem w_room : about1.hasRoom e0.platform room_1 = true :=
  launch0.hasRoom_least _ room_1 (by decide +kernel) (by decide +kernel) (by decide +kernel) (by decide +kernel) (by decide +kernel) (by decide +kernel)
theorem allAtoms_all (ts : List Jvm.Cond) (a : Array Jvm.Value) (st : Jvm.State) : (allAtoms ts).before a st = ts.all (fun c => c.before a st) := by
  induction ts with
  | nil => rfl
  | cons c t ih =>
    show (Jvm.Cond.and c (allAtoms t)).before a st = _
    rw [Jvm.Cond.before_and, ih, List.all_cons]
def words1 : List Jvm.Cond := Jvm.Cond.code x code maxLocals ret :: tables_1
/-- a 'code' word, met by the world's own term for the bytes: nothing is compared byte by byte -/
theorem code_word {y : MethodName} {bytes : ByteArray} {mx : Nat} {rt : Option FieldType} {a : Array Value} {s : State} {m : MethodId} {meth : Method} {c : Code} (h1 : s.methodNamed? y = some m) (h2 : s.vm.method? m = some meth) (h3 : meth.code = some c) (h4 : c.code = bytes)
    (h5 : (c.maxLocals == mx && c.exceptionTable.isEmpty && decide (c.maxStack ≤ mostOperands) && decide (meth.sig.returnType = rt) && !meth.locks && decide (parseMethodDescriptor y.desc = some meth.sig)) = true) : (Jvm.Cond.code y bytes mx rt).before a s = true := by
  simp only [Bool.and_eq_true, beq_iff_eq, Bool.not_eq_true', decide_eq_true_eq] at h5
  obtain ⟨⟨⟨⟨⟨g1, g2⟩, g3⟩, g4⟩, g5⟩, g6⟩ := h5
  simp [Cond.before, Cond.holds, Cond.value, h1, h2, h3, h4, g1, g2, g3, g4, g5, g6]
def isCode : Jvm.Cond → Bool
  | .code _ _ _ _ => true
  | _ => false
theorem all_split {L : List Jvm.Cond} {P : Jvm.Cond → Bool} (h1 : L.all (fun c => isCode c || P c) = true) (h2 : ∀ c ∈ L.filter isCode, P c = true) : L.all P = true := by
  refine List.all_eq_true.mpr fun c hc => ?_
  have h := List.all_eq_true.mp h1 c hc
  rcases Bool.eq_false_or_eq_true (isCode c) with hi | hi
  · exact h2 c (List.mem_filter.mpr ⟨hc, hi⟩)
  · simpa [hi] using h
set_option maxRecDepth 65536 in
theorem w_c0 : (Jvm.Cond.code x code maxLocals ret).before args0 about1 = true := code_word (m := ⟨1, 1⟩) (meth := k1m1) (c := k1c1) (by decide +kernel) rfl rfl rfl (by decide +kernel)
set_option maxRecDepth 65536 in
theorem w_c1 : (Jvm.Cond.code ({ cls := "com/example/hursley/hursley/batches/RecordBatch", name := "nextSequence", desc := "(II)I" } : Jvm.MethodName) prog_5_method_13_code (2 : Nat) (Option.some Jvm.ClassFile.FieldType.int)).before args0 about1 = true := code_word (m := ⟨2, 0⟩) (meth := k2m0) (c := k2c0) (by decide +kernel) rfl rfl rfl (by decide +kernel)
def codes1 : List Jvm.Cond := [Jvm.Cond.code x code maxLocals ret, Jvm.Cond.code ({ cls := "com/example/hursley/hursley/batches/RecordBatch", name := "nextSequence", desc := "(II)I" } : Jvm.MethodName) prog_5_method_13_code (2 : Nat) (Option.some Jvm.ClassFile.FieldType.int)]
set_option maxRecDepth 65536 in
theorem codes_eq : words1.filter isCode = codes1 := rfl
theorem w_codes : ∀ c ∈ words1.filter isCode, c.before args0 about1 = true := by
  rw [codes_eq]
  intro c hc
  simp only [codes1, List.mem_cons, List.not_mem_nil, or_false] at hc
  rcases hc with rfl | rfl
  · exact w_c0
  · exact w_c1
set_option maxRecDepth 65536 in
theorem w_t1 : words1.all (fun c => isCode c || c.before args0 about1) = true := by decide +kernel
theorem w_tables : (allAtoms (Jvm.Cond.code x code maxLocals ret :: tables_1)).before args0 about1 = true := by
  rw [allAtoms_all]
  show words1.all (fun c => c.before args0 about1) = true
  refine all_split ?_ w_codes
  rw [w_t1]
set_option maxRecDepth 65536 in
theorem w_case : (Jvm.Cond.and given_1 narrow_1).before args0 about1 = true := by decide +kernel
theorem w_applies : (headSpec (Jvm.Cond.code x code maxLocals ret :: tables_1) room_1).applies x e0.platform about1 = true :=
  (Spec.applies_iff w_frames).mpr ⟨w_running, w_runnable, w_alone, w_named, w_hears, w_ripe, w_room, w_tables⟩
theorem atStart : AtStart classFile x code maxLocals ret World_1 tables_1 room_1 Calls_1 rest_1 Pre_1 launch0 p0 e0 about1 theMethod args0 below0 :=
  ⟨lists_1, trivial, launch0.admits_env _ _ _, launch0.least_env, fairChoices_fair.cas, fairChoices_fair.clock, w_frames, w_args, w_heap, w_applies, trivial, trivial, w_case⟩
end start1
theorem witness_1 : WitnessClaimed_1 := ⟨start1.p0, start1.e0, start1.about1, start1.theMethod, start1.args0, start1.below0, start1.atStart⟩
end Jvm.Pilot.@@N@@
