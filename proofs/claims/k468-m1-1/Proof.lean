import JvmDerived
import JvmDerived.Pilot.@@N@@Statement
import JvmDerived.Pilot.@@N@@Code
set_option linter.unusedVariables false
set_option linter.unusedSimpArgs false
namespace Jvm.Pilot.@@N@@
open Jvm Jvm.ClassFile Sem Op Lib Jvm.Free Jvm.Stand Jvm.LawKit Jvm.RoadKit Bundle Jvm.Pilot.@@N@@.Jvm.D
theorem pd_0 : parseMethodDescriptor "()V" = some ⟨[], none⟩ := by decide +kernel
theorem pd_1 : parseMethodDescriptor "([DDD)V" = some ⟨[(.array .double), .double, .double], none⟩ := by decide +kernel
theorem pd_2 : parseMethodDescriptor "(D)Z" = some ⟨[.double], some .boolean⟩ := by decide +kernel
theorem own_ext_refl (h : Heap) : Ext h h := ⟨Nat.le_refl _, fun _ _ q => q⟩
theorem own_ext_trans {h h' h'' : Heap} (E : Ext h h') (F : Ext h' h'') : Ext h h'' := ⟨Nat.le_trans E.1 F.1, fun a c q => F.2 a c (E.2 a c q)⟩
theorem own_ext_keep {h h' h'' : Heap} {ws : List Addr} (E : Ext h h') (K : Keep h' h'' ws) (q : ∀ x ∈ ws, h.size ≤ x) : Ext h h'' := ⟨Nat.le_trans E.1 K.1, fun a c r => K.2.1 a c (E.2 a c r) fun z => absurd (Array.getElem?_eq_some_iff.mp r).1 (Nat.not_lt.mpr (q a z))⟩
theorem own_ext_wr {h h' h'' : Heap} {a : Addr} {sl : Nat} {v : Value} (E : Ext h h') (W : Wr h' h'' a sl v) (q : h.size ≤ a) : Ext h h'' := own_ext_keep E (Keep.of_wr W) (allS q all0)
theorem d1_0 : decode prog_36_method_1_code 0 = .ok (.aload_n 0, 1) := by decide +kernel
theorem d1_1 : decode prog_36_method_1_code 1 = .ok (.invokespecial 1, 3) := by decide +kernel
theorem d1_4 : decode prog_36_method_1_code 4 = .ok (.aload_n 0, 1) := by decide +kernel
theorem d1_5 : decode prog_36_method_1_code 5 = .ok (.aload_n 1, 1) := by decide +kernel
theorem d1_6 : decode prog_36_method_1_code 6 = .ok (.putfield 7, 3) := by decide +kernel
theorem d1_9 : decode prog_36_method_1_code 9 = .ok (.aload_n 0, 1) := by decide +kernel
theorem d1_10 : decode prog_36_method_1_code 10 = .ok (.dload_n 2, 1) := by decide +kernel
theorem d1_11 : decode prog_36_method_1_code 11 = .ok (.putfield 13, 3) := by decide +kernel
theorem d1_14 : decode prog_36_method_1_code 14 = .ok (.aload_n 0, 1) := by decide +kernel
theorem d1_15 : decode prog_36_method_1_code 15 = .ok (.dload 4, 2) := by decide +kernel
theorem d1_17 : decode prog_36_method_1_code 17 = .ok (.putfield 17, 3) := by decide +kernel
theorem d1_20 : decode prog_36_method_1_code 20 = .ok (.return_, 1) := by decide +kernel
theorem d2_0 : decode jdk_30_method_1_code 0 = .ok (.aload_n 0, 1) := by decide +kernel
theorem d2_1 : decode jdk_30_method_1_code 1 = .ok (.invokespecial 1, 3) := by decide +kernel
theorem d2_4 : decode jdk_30_method_1_code 4 = .ok (.return_, 1) := by decide +kernel
theorem d4_0 : decode prog_36_method_4_code 0 = .ok (.dload_n 1, 1) := by decide +kernel
theorem d4_1 : decode prog_36_method_4_code 1 = .ok (.aload_n 0, 1) := by decide +kernel
theorem d4_2 : decode prog_36_method_4_code 2 = .ok (.getfield 13, 3) := by decide +kernel
theorem d4_5 : decode prog_36_method_4_code 5 = .ok (.aload_n 0, 1) := by decide +kernel
theorem d4_6 : decode prog_36_method_4_code 6 = .ok (.getfield 13, 3) := by decide +kernel
theorem d4_9 : decode prog_36_method_4_code 9 = .ok (.ldc2_w 34, 3) := by decide +kernel
theorem d4_12 : decode prog_36_method_4_code 12 = .ok (.dmul, 1) := by decide +kernel
theorem d4_13 : decode prog_36_method_4_code 13 = .ok (.dadd, 1) := by decide +kernel
theorem d4_14 : decode prog_36_method_4_code 14 = .ok (.dcmp .g, 1) := by decide +kernel
theorem d4_15 : decode prog_36_method_4_code 15 = .ok (.ifCond .gt 7, 3) := by decide +kernel
theorem d4_18 : decode prog_36_method_4_code 18 = .ok (.iconst 1, 1) := by decide +kernel
theorem d4_19 : decode prog_36_method_4_code 19 = .ok (.goto 4, 3) := by decide +kernel
theorem d4_22 : decode prog_36_method_4_code 22 = .ok (.iconst 0, 1) := by decide +kernel
theorem d4_23 : decode prog_36_method_4_code 23 = .ok (.ireturn, 1) := by decide +kernel
section Rnd
open Jvm.FP.Core
theorem own_qmax : b64.qmax = 971 := by decide
theorem own_rep {c : Nat} {q : Int} (hc : c < 2 ^ 53) (h1 : -1074 ≤ q) (h2 : q ≤ 971) : ∃ V, Jvm.FP.Core.fits b64 V ∧ V ≠ .nan ∧ zval b64 V = ((c * 2 ^ (q + 1074).toNat : Nat) : Int) := by
  obtain ⟨c', q', e1, e2⟩ := round_exact good_b64 false (c := c) (q := q) hc (by rw [qmin_b64]; exact h1) (by rw [own_qmax]; exact h2)
  refine ⟨round b64 (.fin false c q), round_fits good_b64 _, by rw [e1]; exact Datum.noConfusion, ?_⟩
  rw [e1]
  show signed false (inUnits c' q' b64.qmin) = _
  rw [e2, qmin_b64]
  unfold inUnits signed
  rw [show q - -1074 = q + 1074 by omega]; rfl
theorem own_mul_le {a b : UInt64} {c d x y z : Nat} {q r : Int} {V : Datum} (ha : val64 a = .fin false c q) (hb : val64 b = .fin false d r) (za : zval b64 (val64 a) = (x : Int)) (zb : zval b64 (val64 b) = (y : Int)) (fV : Jvm.FP.Core.fits b64 V) (hV : V ≠ .nan) (zV : zval b64 V = (z : Int)) (h : x * y ≤ z * 2 ^ 1074) : zval b64 (val64 (dmul a b)) ≤ (z : Int) := by
  have fa := val64_fits a
  have fb := val64_fits b
  rw [ha] at fa za; rw [hb] at fb zb
  obtain ⟨p1, p2, p3⟩ := product_units fa fb
  rw [val64_dmul, ha, hb, p1, ← zV]
  have ea : zmag b64 (.fin false c q) = x := Int.ofNat.inj za
  have eb : zmag b64 (.fin false d r) = y := Int.ofNat.inj zb
  rw [ea, eb] at p3
  refine zval_round_le good_b64 fV hV (e0 := 2 * b64.qmin) (by decide) p2 ?_
  rw [p3, zV, show (b64.qmin - 2 * b64.qmin).toNat = 1074 by decide]
  show ((x * y : Nat) : Int) ≤ _
  rw [← Int.natCast_mul]
  exact Int.ofNat_le.mpr h
theorem own_mul_ge {a b : UInt64} {c d x y z : Nat} {q r : Int} {V : Datum} (ha : val64 a = .fin false c q) (hb : val64 b = .fin false d r) (za : zval b64 (val64 a) = (x : Int)) (zb : zval b64 (val64 b) = (y : Int)) (fV : Jvm.FP.Core.fits b64 V) (hV : V ≠ .nan) (zV : zval b64 V = (z : Int)) (h : z * 2 ^ 1074 ≤ x * y) : (z : Int) ≤ zval b64 (val64 (dmul a b)) := by
  have fa := val64_fits a
  have fb := val64_fits b
  rw [ha] at fa za; rw [hb] at fb zb
  obtain ⟨p1, p2, p3⟩ := product_units fa fb
  rw [val64_dmul, ha, hb, p1, ← zV]
  have ea : zmag b64 (.fin false c q) = x := Int.ofNat.inj za
  have eb : zmag b64 (.fin false d r) = y := Int.ofNat.inj zb
  rw [ea, eb] at p3
  refine zval_round_ge good_b64 fV hV (e0 := 2 * b64.qmin) (by decide) p2 ?_
  rw [p3, zV, show (b64.qmin - 2 * b64.qmin).toNat = 1074 by decide]
  show _ ≤ ((x * y : Nat) : Int)
  rw [← Int.natCast_mul]
  exact Int.ofNat_le.mpr h
theorem own_c10 : val64 4457293557087583675 = .fin false 7737125245533627 (-86) ∧ zval b64 (val64 4457293557087583675) = ((7737125245533627 * 2 ^ 988 : Nat) : Int) := by decide +kernel
theorem own_c9 : val64 4472406533629990549 = .fin false 4835703278458517 (-82) ∧ zval b64 (val64 4472406533629990549) = ((4835703278458517 * 16 * 2 ^ 988 : Nat) : Int) := by decide +kernel
theorem own_c8 : val64 4487126258331716666 = .fin false 6044629098073146 (-79) ∧ zval b64 (val64 4487126258331716666) = ((6044629098073146 * 128 * 2 ^ 988 : Nat) : Int) := by decide +kernel
theorem own_i2d (r : Int32) (h : 0 ≤ r.toInt) : ∃ c q, val64 (i2d r) = .fin false c q := by
  obtain ⟨c, q, e⟩ := l2d_shape r.toInt64
  refine ⟨c, q, ?_⟩
  rw [i2d_l2d, e, Int32.toInt_toInt64, decide_eq_false (by omega)]
theorem own_i2dz (r : Int32) : zval b64 (val64 (i2d r)) = r.toInt * ((one64 : Nat) : Int) := DInt_zval (i2d_int r)
theorem own_i2dn {r : Int32} {R : Nat} (h : r.toInt = (R : Int)) : zval b64 (val64 (i2d r)) = ((R * one64 : Nat) : Int) := by rw [own_i2dz, h, Int.natCast_mul]
theorem own_tk (L k : Nat) (hL : L ≤ 28) (hk : k < 9) : ∃ V, Jvm.FP.Core.fits b64 V ∧ V ≠ .nan ∧ zval b64 V = ((k * 2 ^ (L + 1043) : Nat) : Int) := by
  obtain ⟨V, a, b, c⟩ := own_rep (c := k) (q := (L : Int) - 31) (by omega) (by omega) (by omega)
  refine ⟨V, a, b, ?_⟩
  rw [c, show ((L : Int) - 31 + 1074).toNat = L + 1043 by omega]
theorem own_vk (R L k : Nat) (hL : L ≤ 28) (hk : k < 9) (hR : R < 2 ^ (L + 1)) : ∃ V, Jvm.FP.Core.fits b64 V ∧ V ≠ .nan ∧ zval b64 V = ((R * 2 ^ 1074 + k * 2 ^ (L + 1043) : Nat) : Int) := by
  have e1 : 2 ^ (L + 1) * 2 ^ (31 - L) = 2 ^ 32 := by rw [← Nat.pow_add, show L + 1 + (31 - L) = 32 by omega]
  have e2 : R * 2 ^ (31 - L) ≤ 2 ^ 32 := by rw [← e1]; exact Nat.mul_le_mul_right _ (Nat.le_of_lt hR)
  obtain ⟨V, a, b, c⟩ := own_rep (c := R * 2 ^ (31 - L) + k) (q := (L : Int) - 31) (by omega) (by omega) (by omega)
  refine ⟨V, a, b, ?_⟩
  rw [c, show ((L : Int) - 31 + 1074).toNat = L + 1043 by omega, Nat.add_mul, Nat.mul_assoc, ← Nat.pow_add, show 31 - L + (L + 1043) = 1074 by omega]
theorem own_fin {K : Nat} {r : Int32} {c : UInt64} (h : c.toNat % 2 ^ 63 < K * 2 ^ 52) (hK : K ≤ 1000) : DFin (dmul (i2d r) c) ∧ DFin (dadd (i2d r) (dmul (i2d r) c)) := by
  have h1 := dmul_mag (i2d_mag r) h (by omega) (by omega)
  have h2 : (dmul (i2d r) c).toNat % 2 ^ 63 < 1056 * 2 ^ 52 := Nat.lt_of_lt_of_le h1 (Nat.mul_le_mul_right _ (by omega))
  have h3 := dadd_mag (K := 1056) (i2d_mag r) h2 (by omega)
  exact ⟨fin_of_lt (K := 1056) h2 (by omega), fin_of_lt (K := 1056 + 2) h3 (by omega)⟩
theorem own_up {R m X k U O T : Nat} (hT : T = 2 ^ 55 * U) (h : R * m ≤ k * (X * 2 ^ 55)) : R * O * (m * U) ≤ k * (X * T) * O := by
  have e : k * (X * T) = k * (X * 2 ^ 55) * U := by rw [hT]; ac_rfl
  rw [e, show R * O * (m * U) = R * m * U * O by ac_rfl]
  exact Nat.mul_le_mul_right _ (Nat.mul_le_mul_right _ h)
theorem own_dn {R m X k U O T : Nat} (hT : T = 2 ^ 55 * U) (h : k * (X * 2 ^ 55) ≤ R * m) : k * (X * T) * O ≤ R * O * (m * U) := by
  have e : k * (X * T) = k * (X * 2 ^ 55) * U := by rw [hT]; ac_rfl
  rw [e, show R * O * (m * U) = R * m * U * O by ac_rfl]
  exact Nat.mul_le_mul_right _ (Nat.mul_le_mul_right _ h)
theorem own_T : (2 ^ 1043 : Nat) = 2 ^ 55 * 2 ^ 988 := by decide +kernel
theorem own_pr {r : Int32} {R L : Nat} {c : UInt64} {d m : Nat} {q : Int} (hr : r.toInt = (R : Int)) (hL : L ≤ 28) (hc : val64 c = .fin false d q) (zc : zval b64 (val64 c) = ((m * 2 ^ 988 : Nat) : Int)) {k : Nat} (hk : k < 9) :
    (R * m ≤ k * (2 ^ L * 2 ^ 55) → zval b64 (val64 (dmul (i2d r) c)) ≤ ((k * (2 ^ L * 2 ^ 1043) : Nat) : Int)) ∧ (k * (2 ^ L * 2 ^ 55) ≤ R * m → ((k * (2 ^ L * 2 ^ 1043) : Nat) : Int) ≤ zval b64 (val64 (dmul (i2d r) c))) := by
  obtain ⟨c1, q1, e1⟩ := own_i2d r (by omega)
  obtain ⟨V, f1, f2, f3⟩ := own_tk L k hL hk
  rw [Nat.pow_add] at f3
  exact ⟨fun h => own_mul_le e1 hc (own_i2dn hr) zc f1 f2 f3 (own_up own_T h), fun h => own_mul_ge e1 hc (own_i2dn hr) zc f1 f2 f3 (own_dn own_T h)⟩
theorem own_sm {r : Int32} {R L : Nat} {c : UInt64} (hr : r.toInt = (R : Int)) (hL : L ≤ 28) (hR : R < 2 ^ (L + 1)) (hd : DFin (dmul (i2d r) c)) {k : Nat} (hk : k < 9) :
    (zval b64 (val64 (dmul (i2d r) c)) ≤ ((k * (2 ^ L * 2 ^ 1043) : Nat) : Int) → zval b64 (val64 (dadd (i2d r) (dmul (i2d r) c))) ≤ ((R * one64 + k * (2 ^ L * 2 ^ 1043) : Nat) : Int)) ∧ (((k * (2 ^ L * 2 ^ 1043) : Nat) : Int) ≤ zval b64 (val64 (dmul (i2d r) c)) → ((R * one64 + k * (2 ^ L * 2 ^ 1043) : Nat) : Int) ≤ zval b64 (val64 (dadd (i2d r) (dmul (i2d r) c)))) := by
  obtain ⟨V, f1, f2, f3⟩ := own_vk R L k hL hk hR
  have z := own_i2dn hr
  rw [Nat.pow_add] at f3
  have f4 : zval b64 V = ((R * one64 + k * (2 ^ L * 2 ^ 1043) : Nat) : Int) := f3
  rw [val64_dadd, ← f4]
  refine ⟨fun h => sum_le good_b64 (i2d_fin r) hd (val64_fits _) (val64_fits _) f1 f2 ?_, fun h => sum_ge good_b64 (i2d_fin r) hd (val64_fits _) (val64_fits _) f1 f2 ?_⟩
  · rw [f4, z, Int.natCast_add]; exact Int.add_le_add_left h _
  · rw [f4, z, Int.natCast_add]; exact Int.add_le_add_left h _
theorem own_law {r : Int32} (h1 : 0 < r.toInt) (h2 : r.toInt < 536870912) :
    r.toInt * (one64 : Int) ≤ zval b64 (val64 (dadd (i2d r) (dmul (i2d r) 4472406533629990549))) ∧ zval b64 (val64 (dadd (i2d r) (dmul (i2d r) 4472406533629990549))) < (r.toInt + 1) * (one64 : Int) ∧
    zval b64 (val64 (dadd (i2d r) (dmul (i2d r) 4457293557087583675))) ≤ zval b64 (val64 (dadd (i2d r) (dmul (i2d r) 4472406533629990549))) ∧
    zval b64 (val64 (dadd (i2d r) (dmul (i2d r) 4472406533629990549))) < zval b64 (val64 (dadd (i2d r) (dmul (i2d r) 4487126258331716666))) := by
  obtain ⟨R, hR⟩ : ∃ R : Nat, r.toInt = (R : Int) := ⟨r.toInt.toNat, by omega⟩
  have hR0 : R ≠ 0 := by omega
  have l1 : 2 ^ R.log2 ≤ R := Nat.log2_self_le hR0
  have l2 : R < 2 ^ (R.log2 + 1) := Nat.lt_log2_self
  have hL : R.log2 ≤ 28 := by
    have : R.log2 < 29 := (Nat.log2_lt hR0).mpr (by omega)
    omega
  generalize R.log2 = L at l1 l2 hL
  have l3 : R < 2 * 2 ^ L := by rw [Nat.pow_succ] at l2; omega
  have f9 := own_fin (K := 994) (r := r) (c := 4472406533629990549) (by decide) (by decide)
  have f10 := own_fin (K := 990) (r := r) (c := 4457293557087583675) (by decide) (by decide)
  have f8 := own_fin (K := 997) (r := r) (c := 4487126258331716666) (by decide) (by decide)
  have a10 := (own_sm hR hL l2 f10.1 (k := 1) (by decide)).1 ((own_pr hR hL own_c10.1 own_c10.2 (k := 1) (by decide)).1 (by omega))
  have b9 := (own_sm hR hL l2 f9.1 (k := 1) (by decide)).2 ((own_pr hR hL own_c9.1 own_c9.2 (k := 1) (by decide)).2 (by omega))
  have a9 := (own_sm hR hL l2 f9.1 (k := 6) (by decide)).1 ((own_pr hR hL own_c9.1 own_c9.2 (k := 6) (by decide)).1 (by omega))
  have b8 := (own_sm hR hL l2 f8.1 (k := 8) (by decide)).2 ((own_pr hR hL own_c8.1 own_c8.2 (k := 8) (by decide)).2 (by omega))
  have w0 : 0 < 2 ^ L * 2 ^ 1043 := Nat.mul_pos (Nat.two_pow_pos _) (Nat.two_pow_pos _)
  have w1 : 6 * (2 ^ L * 2 ^ 1043) < one64 := by
    have k1 : 2 ^ L ≤ 2 ^ 28 := Nat.pow_le_pow_right (by decide) hL
    have k2 : 2 ^ L * 2 ^ 1043 ≤ 2 ^ 28 * 2 ^ 1043 := Nat.mul_le_mul_right _ k1
    have k3 : 6 * (2 ^ 28 * 2 ^ 1043) < one64 := by decide +kernel
    generalize 2 ^ L * 2 ^ 1043 = W at *
    generalize 2 ^ 28 * 2 ^ 1043 = W' at *
    omega
  rw [hR]
  generalize 2 ^ L * 2 ^ 1043 = W at *
  generalize one64 = O at *
  rw [← Int.natCast_mul, show ((R : Int) + 1) * (O : Int) = ((R * O + O : Nat) : Int) by rw [Int.add_mul, Int.one_mul, Int.natCast_add, Int.natCast_mul]]
  generalize R * O = RO at *
  refine ⟨?_, ?_, ?_, ?_⟩ <;> omega
end Rnd
def own_hd (v : Int32) : Int32 := if (0 : Int32) < v then (0 : Int32) else (1 : Int32)
theorem own_le {a b : UInt64} (ha : Jvm.FP.Core.DFin a) (hb' : Jvm.FP.Core.DFin b) (h : Jvm.FP.Core.zval Jvm.FP.Core.b64 (Jvm.FP.Core.val64 a) ≤ Jvm.FP.Core.zval Jvm.FP.Core.b64 (Jvm.FP.Core.val64 b)) : own_hd (cmpValue (FP.dcmp a b) .g) = (1 : Int32) := by
  have q : FP.dcmp a b = some .lt ∨ FP.dcmp a b = some .eq := Jvm.FP.Core.dcmp_le.mpr ⟨ha.ne_nan, hb'.ne_nan, h⟩
  rcases q with q | q <;> rw [q] <;> decide
theorem own_gt {a b : UInt64} (ha : Jvm.FP.Core.DFin a) (hb' : Jvm.FP.Core.DFin b) (h : Jvm.FP.Core.zval Jvm.FP.Core.b64 (Jvm.FP.Core.val64 b) < Jvm.FP.Core.zval Jvm.FP.Core.b64 (Jvm.FP.Core.val64 a)) : own_hd (cmpValue (FP.dcmp a b) .g) = (0 : Int32) := by
  have q : FP.dcmp a b = some .gt := Jvm.FP.Core.dcmp_gt.mpr ⟨ha.ne_nan, hb'.ne_nan, h⟩
  rw [q]; decide
theorem own_nn {a : UInt64} (h : Jvm.FP.Core.DFin a) : Jvm.Free.Fl.NoNaN64 a := (Jvm.Free.Fl.fin64_core.mpr h).noNaN
def own_lim (r : Int32) (c : UInt64) : UInt64 := FP.dadd (FP.i2d r) (FP.dmul (FP.i2d r) c)
theorem own_lf (r : Int32) : (Jvm.FP.Core.DFin (FP.dmul (FP.i2d r) (4472406533629990549 : UInt64)) ∧ Jvm.FP.Core.DFin (own_lim r (4472406533629990549 : UInt64))) ∧ (Jvm.FP.Core.DFin (FP.dmul (FP.i2d r) (4457293557087583675 : UInt64)) ∧ Jvm.FP.Core.DFin (own_lim r (4457293557087583675 : UInt64))) ∧ (Jvm.FP.Core.DFin (FP.dmul (FP.i2d r) (4487126258331716666 : UInt64)) ∧ Jvm.FP.Core.DFin (own_lim r (4487126258331716666 : UInt64))) :=
  ⟨own_fin (K := 994) (by decide) (by decide), own_fin (K := 990) (by decide) (by decide), own_fin (K := 997) (by decide) (by decide)⟩
theorem own_z0 : own_lim 0 (4472406533629990549 : UInt64) = 0 ∧ own_lim 0 (4457293557087583675 : UInt64) = 0 ∧ own_lim 0 (4487126258331716666 : UInt64) = 0 ∧ FP.i2d 0 = 0 := by decide +kernel
theorem own_zl {r : Int32} (h0 : 0 ≤ r.toInt) (h1 : r.toInt < 536870912) :
    r.toInt * (Jvm.FP.Core.one64 : Int) ≤ Jvm.FP.Core.zval Jvm.FP.Core.b64 (Jvm.FP.Core.val64 (own_lim r (4472406533629990549 : UInt64))) ∧ Jvm.FP.Core.zval Jvm.FP.Core.b64 (Jvm.FP.Core.val64 (own_lim r (4472406533629990549 : UInt64))) < (r.toInt + 1) * (Jvm.FP.Core.one64 : Int) ∧
    Jvm.FP.Core.zval Jvm.FP.Core.b64 (Jvm.FP.Core.val64 (own_lim r (4457293557087583675 : UInt64))) ≤ Jvm.FP.Core.zval Jvm.FP.Core.b64 (Jvm.FP.Core.val64 (own_lim r (4472406533629990549 : UInt64))) := by
  by_cases h : 0 < r.toInt
  · obtain ⟨a, b, c, _⟩ := own_law h h1; exact ⟨a, b, c⟩
  · obtain rfl : r = 0 := Int32.toInt_inj.mp (by rw [show (0 : Int32).toInt = 0 from rfl]; omega)
    rw [own_z0.1, own_z0.2.1, Jvm.FP.Core.zval64_zero, show (0 : Int32).toInt = 0 from rfl]
    have := Jvm.FP.Core.one64_pos
    refine ⟨by omega, by omega, by omega⟩
theorem own_mulle {a b O : Int} (h : a ≤ b) (hO : 0 < O) : a * O ≤ b * O := Int.mul_le_mul_of_nonneg_right h (Int.le_of_lt hO)
theorem own_hA {r d : Int32} (h0 : 0 ≤ r.toInt) (h1 : r.toInt < 536870912) (h : ¬ r < d) : own_hd (cmpValue (FP.dcmp (FP.i2d d) (own_lim r (4472406533629990549 : UInt64))) .g) = (1 : Int32) := by
  refine own_le (Jvm.FP.Core.i2d_fin d) (own_lf r).1.2 ?_
  rw [Int32.lt_iff_toInt_lt] at h
  exact Int.le_trans (Int.le_of_eq (own_i2dz d)) (Int.le_trans (own_mulle (by omega) (Int.natCast_pos.mpr Jvm.FP.Core.one64_pos)) (own_zl h0 h1).1)
theorem own_hB {r d : Int32} (h0 : 0 ≤ r.toInt) (h1 : r.toInt < 536870912) (h : r < d) : own_hd (cmpValue (FP.dcmp (FP.i2d d) (own_lim r (4472406533629990549 : UInt64))) .g) = (0 : Int32) := by
  refine own_gt (Jvm.FP.Core.i2d_fin d) (own_lf r).1.2 ?_
  rw [Int32.lt_iff_toInt_lt] at h
  exact Int.lt_of_lt_of_le (own_zl h0 h1).2.1 (Int.le_trans (own_mulle (by omega) (Int.natCast_pos.mpr Jvm.FP.Core.one64_pos)) (Int.le_of_eq (own_i2dz d).symm))
theorem own_hC {r : Int32} (h0 : 0 ≤ r.toInt) (h1 : r.toInt < 536870912) : own_hd (cmpValue (FP.dcmp (own_lim r (4457293557087583675 : UInt64)) (own_lim r (4472406533629990549 : UInt64))) .g) = (1 : Int32) := own_le (own_lf r).2.1.2 (own_lf r).1.2 (own_zl h0 h1).2.2
theorem own_hD {r : Int32} (h : r = 0) : own_hd (cmpValue (FP.dcmp (own_lim r (4487126258331716666 : UInt64)) (own_lim r (4472406533629990549 : UInt64))) .g) = (1 : Int32) := by
  subst h; rw [own_z0.1, own_z0.2.2.1]; decide +kernel
theorem own_hE {r : Int32} (h0 : 0 ≤ r.toInt) (h1 : r.toInt < 536870912) (h : ¬ r = 0) : own_hd (cmpValue (FP.dcmp (own_lim r (4487126258331716666 : UInt64)) (own_lim r (4472406533629990549 : UInt64))) .g) = (0 : Int32) := by
  have h2 : r.toInt ≠ 0 := fun q => h (Int32.toInt_inj.mp q)
  exact own_gt (own_lf r).2.2.2 (own_lf r).1.2 (own_law (by omega) h1).2.2.2
theorem own_msk (x : Int32) : 0 ≤ (x &&& (536870911 : Int32)).toInt ∧ (x &&& (536870911 : Int32)).toInt < 536870912 := by
  have e := c_mask x (536870911 : Int32) 29 (by decide) (by decide)
  rw [e]; omega
def Qh (Z : State) (r1 : Addr) (q1 : UInt64) (res : Int32) (h0 : Heap) (n0 : Nat) (v : Option Value) (h : Heap) (L : List Loc) : Prop := v = some (.int res) ∧ Fr n0 L ∧ h = h0
theorem pn_4 : plainName "com/example/tidegauge/tidegauge/SphereCluster" = true := by first | (simp [plainName, overriddenIn]; done) | decide +kernel
theorem ef_rm_h (m : MethodId) (x0 : Addr) (x1 : UInt64) : entryFrame m #[(.ref x0), (.double x1)] 3 = mkF m 0 #[.val (.ref x0), .val (.double x1), .second] [] := by first | (simp [entryFrame, mkF, argsToLocals, Value.category]; done) | rfl
set_option maxRecDepth 65536 in
set_option maxHeartbeats 40000000 in
theorem rm_h (l : Launch) (Z : State) (a0 : Array Value) (hw : ∀ d ∈ tables_1, d.before a0 Z = true) (ws : List Jvm.Cond) (r1 : Addr) (q1 : UInt64) (h0 : Heap) (n0 : Nat) (Z0 : n0 ≤ h0.size) (rad pr lim : UInt64) (F1 : Fld Z h0 r1 "com/example/tidegauge/tidegauge/SphereCluster" "radius" "D" (.double rad)) (np : Jvm.Free.Fl.NoNaN64 (FP.dmul rad (4472406533629990549 : UInt64))) (hp : FP.dmul rad (4472406533629990549 : UInt64) = pr) (nl : Jvm.Free.Fl.NoNaN64 (FP.dadd rad pr)) (hl : FP.dadd rad pr = lim) (cv : Int32) (hcv : cmpValue (FP.dcmp q1 lim) .g = cv) (res : Int32) (hres : own_hd cv = res) :
    MetFree l (⟨"com/example/tidegauge/tidegauge/SphereCluster", "holdsAt", "(D)Z"⟩ : MethodName) (head1 (Jvm.Cond.code (⟨"com/example/tidegauge/tidegauge/SphereCluster", "holdsAt", "(D)Z"⟩ : MethodName) prog_36_method_4_code 3 (some .boolean) :: ws) ({ frames := 0, cells := 0, slots := 0, locals := 0 } : Room)) (fun a U => a = #[(.ref r1), (.double q1)] ∧ Z.Warmed39 U.vm ∧ U.heap = h0) (fun _ _ _ _ _ => True) (fun _ U o U' => ∃ v L, o = .returned v ∧ Qh Z r1 q1 res h0 n0 v U'.heap L ∧ FrameEnd U o U' L ({ frames := 0, cells := 0, slots := 0, locals := 0 } : Room).cells ({ frames := 0, cells := 0, slots := 0, locals := 0 } : Room).slots) := by
  refine MetFree.of_bodySF (plainFor_of_name pn_4) hisR ?_
  intro p e s m args below meth c s₁ Bd hml0 hP hK
  obtain ⟨rfl, hZ, hh⟩ := hP
  have hx := Bd.exec
  have hby := Bd.bytes
  have hml : c.maxLocals = 3 := hml0
  have hown : s.vm.findClass "com/example/tidegauge/tidegauge/SphereCluster" = some m.cls := findClass_of_methodNamed Bd.named
  have hnm := (name_of_methodNamed Bd.named Bd.method).1
  have X0 : Stand p l e ({ frames := 0, cells := 0, slots := 0, locals := 0 } : Room) s m #[(.ref r1), (.double q1)] below meth c s₁ [] 0 0 := Stand.of_body Bd
  have e0 : s₁.heap = h0 := by rw [← hh, Bd.state]; rfl
  have N0 := Fr.nil n0
  have pre0 : ∀ t, Steps p.tables e below (s₁.setTop (mkF m 0 #[.val (.ref r1), .val (.double q1), .second] [])) t → Steps p.tables e below (s₁.setTop (entryFrame m #[(.ref r1), (.double q1)] 3)) t := fun t k => castTop (ef_rm_h m r1 q1) k
  obtain ⟨T1, X1, e1, st1⟩ := getF X0 hx hZ hown (host := "") (Or.inl (hw _ (List.mem_of_getElem? (i := 18) rfl))) Via.refl e0 F1 (g := (mkF m 2 #[.val (.ref r1), .val (.double q1), .second] [(.ref r1), (.double q1)])) rfl rfl (hb hby d4_2)
  obtain ⟨T2, X2, e2, st2⟩ := getF X1 hx hZ hown (host := "") (Or.inl (hw _ (List.mem_of_getElem? (i := 18) rfl))) Via.refl e1 F1 (g := (mkF m 6 #[.val (.ref r1), .val (.double q1), .second] [(.ref r1), (.double rad), (.double q1)])) rfl rfl (hb hby d4_6)
  have pre3 : ∀ t, Steps p.tables e below (T2.setTop (mkF m 15 #[.val (.ref r1), .val (.double q1), .second] [(.int cv)])) t → Steps p.tables e below (s₁.setTop (entryFrame m #[(.ref r1), (.double q1)] 3)) t := fun t k => pre0 t (by
    show Steps p.tables e below (s₁.setTop (mkF m 0 #[.val (.ref r1), .val (.double q1), .second] [])) _
    refine XS.dloadN X0.here hx rfl (hb hby d4_0) rfl ?_
    show Steps p.tables e below (s₁.setTop (mkF m 1 #[.val (.ref r1), .val (.double q1), .second] [(.double q1)])) _
    refine XS.aloadN X0.here hx rfl (hb hby d4_1) rfl rfl ?_
    show Steps p.tables e below (s₁.setTop (mkF m 2 #[.val (.ref r1), .val (.double q1), .second] [(.ref r1), (.double q1)])) _
    refine st1 _ ?_
    show Steps p.tables e below (T1.setTop (mkF m 5 #[.val (.ref r1), .val (.double q1), .second] [(.double rad), (.double q1)])) _
    refine XS.aloadN X1.here hx rfl (hb hby d4_5) rfl rfl ?_
    show Steps p.tables e below (T1.setTop (mkF m 6 #[.val (.ref r1), .val (.double q1), .second] [(.ref r1), (.double rad), (.double q1)])) _
    refine st2 _ ?_
    show Steps p.tables e below (T2.setTop (mkF m 9 #[.val (.ref r1), .val (.double q1), .second] [(.double rad), (.double rad), (.double q1)])) _
    refine X2.ldc2DoubleC hx hown (mvT hZ (hw _ (List.mem_of_getElem? (i := 27) rfl))) (g := (mkF m 9 #[.val (.ref r1), .val (.double q1), .second] [(.double rad), (.double rad), (.double q1)])) rfl (hb hby d4_9) _ ?_
    show Steps p.tables e below (T2.setTop (mkF m 12 #[.val (.ref r1), .val (.double q1), .second] [(.double (4472406533629990549 : UInt64)), (.double rad), (.double rad), (.double q1)])) _
    refine XS.dmulS X2.here hx rfl (hb hby d4_12) rfl np (v := pr) hp ?_
    show Steps p.tables e below (T2.setTop (mkF m 13 #[.val (.ref r1), .val (.double q1), .second] [(.double pr), (.double rad), (.double q1)])) _
    refine XS.daddS X2.here hx rfl (hb hby d4_13) rfl nl (v := lim) hl ?_
    show Steps p.tables e below (T2.setTop (mkF m 14 #[.val (.ref r1), .val (.double q1), .second] [(.double lim), (.double q1)])) _
    refine XS.dcmpS X2.here hx rfl (hb hby d4_14) rfl (v := cv) hcv ?_
    exact k)
  by_cases hc15_4 : (0 : Int32) < cv
  · have _ := 0
    have pre5 : ∀ t, Steps p.tables e below (T2.setTop (mkF m 23 #[.val (.ref r1), .val (.double q1), .second] [(.int (0 : Int32))])) t → Steps p.tables e below (s₁.setTop (entryFrame m #[(.ref r1), (.double q1)] 3)) t := fun t k => pre3 t (by
      show Steps p.tables e below (T2.setTop (mkF m 15 #[.val (.ref r1), .val (.double q1), .second] [(.int cv)])) _
      refine XS.ifYes X2.here hx rfl (pc0 := 15) (pc' := 22) rfl (hb hby d4_15) rfl ((if0 _ _).trans (tlt hc15_4).2.2.1) (by decide) (by decide) ?_
      show Steps p.tables e below (T2.setTop (mkF m 22 #[.val (.ref r1), .val (.double q1), .second] [])) _
      refine XT.iconstV X2.here hx rfl (0 : Int32) (hb hby d4_22) (by decide) ?_
      exact k)
    obtain ⟨fs, hr, hrun, hended, hW, hsame⟩ := X2.leave (v := some (.int (0 : Int32))) (fun h => by rw [Bd.returns] at h; cases h)
    refine ⟨_, _, pre5 _ ?_, hrun, hended, _, _, rfl, ?_, ⟨_, rfl⟩, hW, hsame.mono (by decide) (by decide)⟩
    · show Steps p.tables e below (T2.setTop (mkF m 23 #[.val (.ref r1), .val (.double q1), .second] [(.int (0 : Int32))])) _
      exact retOut X2 hx Bd.returns rfl (Or.inl ⟨rfl, by simp, _, rfl⟩) (hb hby d4_23) hr
    · show Qh Z r1 q1 res h0 n0 _ T2.heap _
      rw [e2]
      exact ⟨by rw [← hres, own_hd, if_pos hc15_4], N0, rfl⟩
  · have _ := 0
    have pre6 : ∀ t, Steps p.tables e below (T2.setTop (mkF m 23 #[.val (.ref r1), .val (.double q1), .second] [(.int (1 : Int32))])) t → Steps p.tables e below (s₁.setTop (entryFrame m #[(.ref r1), (.double q1)] 3)) t := fun t k => pre3 t (by
      show Steps p.tables e below (T2.setTop (mkF m 15 #[.val (.ref r1), .val (.double q1), .second] [(.int cv)])) _
      refine XS.ifNo X2.here hx rfl (hb hby d4_15) rfl ((if0 _ _).trans (flt hc15_4).2.2.1) ?_
      show Steps p.tables e below (T2.setTop (mkF m 18 #[.val (.ref r1), .val (.double q1), .second] [])) _
      refine XT.iconstV X2.here hx rfl (1 : Int32) (hb hby d4_18) (by decide) ?_
      show Steps p.tables e below (T2.setTop (mkF m 19 #[.val (.ref r1), .val (.double q1), .second] [(.int (1 : Int32))])) _
      refine XS.goto X2.here hx rfl (pc0 := 19) (pc' := 23) rfl (hb hby d4_19) (by decide) (by decide) ?_
      exact k)
    obtain ⟨fs, hr, hrun, hended, hW, hsame⟩ := X2.leave (v := some (.int (1 : Int32))) (fun h => by rw [Bd.returns] at h; cases h)
    refine ⟨_, _, pre6 _ ?_, hrun, hended, _, _, rfl, ?_, ⟨_, rfl⟩, hW, hsame.mono (by decide) (by decide)⟩
    · show Steps p.tables e below (T2.setTop (mkF m 23 #[.val (.ref r1), .val (.double q1), .second] [(.int (1 : Int32))])) _
      exact retOut X2 hx Bd.returns rfl (Or.inl ⟨rfl, by simp, _, rfl⟩) (hb hby d4_23) hr
    · show Qh Z r1 q1 res h0 n0 _ T2.heap _
      rw [e2]
      exact ⟨by rw [← hres, own_hd, if_neg hc15_4], N0, rfl⟩
def Qrec (Z : State) (r1 : Addr)  (h0 : Heap) (n0 : Nat) (v : Option Value) (h : Heap) (L : List Loc) : Prop := v = none ∧ Fr n0 L ∧ h = h0
theorem pn_2 : plainName "java/lang/Record" = true := by first | (simp [plainName, overriddenIn]; done) | decide +kernel
theorem ef_rm_rec (m : MethodId) (x0 : Addr) : entryFrame m #[(.ref x0)] 1 = mkF m 0 #[.val (.ref x0)] [] := by first | (simp [entryFrame, mkF, argsToLocals, Value.category]; done) | rfl
set_option maxRecDepth 65536 in
set_option maxHeartbeats 40000000 in
theorem rm_rec (l : Launch) (Z : State) (a0 : Array Value) (hw : ∀ d ∈ tables_1, d.before a0 Z = true) (ws : List Jvm.Cond) (r1 : Addr) (h0 : Heap) (n0 : Nat) (Z0 : n0 ≤ h0.size)  :
    MetFree l (⟨"java/lang/Record", "<init>", "()V"⟩ : MethodName) (head1 (Jvm.Cond.code (⟨"java/lang/Record", "<init>", "()V"⟩ : MethodName) jdk_30_method_1_code 1 none :: ws) ({ frames := 1, cells := 0, slots := 0, locals := 12 } : Room)) (fun a U => a = #[(.ref r1)] ∧ Z.Warmed39 U.vm ∧ U.heap = h0) (fun _ _ _ _ _ => True) (fun _ U o U' => ∃ v L, o = .returned v ∧ Qrec Z r1  h0 n0 v U'.heap L ∧ FrameEnd U o U' L ({ frames := 1, cells := 0, slots := 0, locals := 12 } : Room).cells ({ frames := 1, cells := 0, slots := 0, locals := 12 } : Room).slots) := by
  refine MetFree.of_bodySF (plainFor_of_name pn_2) hisR ?_
  intro p e s m args below meth c s₁ Bd hml0 hP hK
  obtain ⟨rfl, hZ, hh⟩ := hP
  have hx := Bd.exec
  have hby := Bd.bytes
  have hml : c.maxLocals = 1 := hml0
  have hown : s.vm.findClass "java/lang/Record" = some m.cls := findClass_of_methodNamed Bd.named
  have hnm := (name_of_methodNamed Bd.named Bd.method).1
  have X0 : Stand p l e ({ frames := 1, cells := 0, slots := 0, locals := 12 } : Room) s m #[(.ref r1)] below meth c s₁ [] 0 0 := Stand.of_body Bd
  have e0 : s₁.heap = h0 := by rw [← hh, Bd.state]; rfl
  have N0 := Fr.nil n0
  have pre0 : ∀ t, Steps p.tables e below (s₁.setTop (mkF m 0 #[.val (.ref r1)] [])) t → Steps p.tables e below (s₁.setTop (entryFrame m #[(.ref r1)] 1)) t := fun t k => castTop (ef_rm_rec m r1) k
  obtain ⟨T1, X1, e1, st1⟩ := initO X0 hx hZ hown (hw _ (List.mem_of_getElem? (i := 13) rfl)) (hw _ (List.mem_of_getElem? (i := 14) rfl)) (hw _ (List.mem_of_getElem? (i := 15) rfl)) e0 (g := (mkF m 1 #[.val (.ref r1)] [(.ref r1)])) rfl (by rw [hml]; rfl) rfl (hb hby d2_1) (by decide) (W := 0) (by show 2 * 0 + _ ≤ _; exact Nat.le_of_eq rfl) (by decide)
  have pre2 : ∀ t, Steps p.tables e below (T1.setTop (mkF m 4 #[.val (.ref r1)] [])) t → Steps p.tables e below (s₁.setTop (entryFrame m #[(.ref r1)] 1)) t := fun t k => pre0 t (by
    show Steps p.tables e below (s₁.setTop (mkF m 0 #[.val (.ref r1)] [])) _
    refine XS.aloadN X0.here hx rfl (hb hby d2_0) rfl rfl ?_
    show Steps p.tables e below (s₁.setTop (mkF m 1 #[.val (.ref r1)] [(.ref r1)])) _
    refine st1 _ ?_
    exact k)
  obtain ⟨fs, hr, hrun, hended, hW, hsame⟩ := X1.leave (v := none) (fun _ => rfl)
  refine ⟨_, _, pre2 _ ?_, hrun, hended, _, _, rfl, ?_, ⟨_, rfl⟩, hW, hsame.mono (by decide) (by decide)⟩
  · show Steps p.tables e below (T1.setTop (mkF m 4 #[.val (.ref r1)] [])) _
    exact X1.returnOut hx Bd.returns (hb hby d2_4) hr
  · show Qrec Z r1  h0 n0 _ T1.heap _
    rw [e1]
    exact ⟨rfl, N0, rfl⟩
def Qinit (Z : State) (r1 r2 : Addr) (q1 q2 : UInt64) (h0 : Heap) (n0 : Nat) (v : Option Value) (h : Heap) (L : List Loc) : Prop := v = none ∧ Fr n0 L ∧ Keep h0 h [r1] ∧ Exa Z h r1 "com/example/tidegauge/tidegauge/SphereCluster" ∧ Fld Z h r1 "com/example/tidegauge/tidegauge/SphereCluster" "radius" "D" (.double q1)
theorem pn_1 : plainName "com/example/tidegauge/tidegauge/SphereCluster" = true := by first | (simp [plainName, overriddenIn]; done) | decide +kernel
theorem ef_rm_init (m : MethodId) (x0 : Addr) (x1 : Addr) (x2 : UInt64) (x3 : UInt64) : entryFrame m #[(.ref x0), (.ref x1), (.double x2), (.double x3)] 6 = mkF m 0 #[.val (.ref x0), .val (.ref x1), .val (.double x2), .second, .val (.double x3), .second] [] := by first | (simp [entryFrame, mkF, argsToLocals, Value.category]; done) | rfl
set_option maxRecDepth 65536 in
set_option maxHeartbeats 40000000 in
theorem rm_init (l : Launch) (Z : State) (a0 : Array Value) (hw : ∀ d ∈ tables_1, d.before a0 Z = true) (ws : List Jvm.Cond) (r1 : Addr) (r2 : Addr) (q1 : UInt64) (q2 : UInt64) (h0 : Heap) (n0 : Nat) (Z0 : n0 ≤ h0.size) (E1 : Exa Z h0 r1 "com/example/tidegauge/tidegauge/SphereCluster") (F1 : Fld Z h0 r1 "com/example/tidegauge/tidegauge/SphereCluster" "centre" "[D" .null) (F2 : Fld Z h0 r1 "com/example/tidegauge/tidegauge/SphereCluster" "radius" "D" (.double 0)) (F3 : Fld Z h0 r1 "com/example/tidegauge/tidegauge/SphereCluster" "weight" "D" (.double 0)) (g1 : n0 ≤ r1) :
    MetFree l (⟨"com/example/tidegauge/tidegauge/SphereCluster", "<init>", "([DDD)V"⟩ : MethodName) (head1 (Jvm.Cond.code (⟨"com/example/tidegauge/tidegauge/SphereCluster", "<init>", "([DDD)V"⟩ : MethodName) prog_36_method_1_code 6 none :: ws) ({ frames := 2, cells := 0, slots := 0, locals := 24 } : Room)) (fun a U => a = #[(.ref r1), (.ref r2), (.double q1), (.double q2)] ∧ Z.Warmed39 U.vm ∧ U.heap = h0) (fun _ _ _ _ _ => True) (fun _ U o U' => ∃ v L, o = .returned v ∧ Qinit Z r1 r2 q1 q2  h0 n0 v U'.heap L ∧ FrameEnd U o U' L ({ frames := 2, cells := 0, slots := 0, locals := 24 } : Room).cells ({ frames := 2, cells := 0, slots := 0, locals := 24 } : Room).slots) := by
  refine MetFree.of_bodySF (plainFor_of_name pn_1) hisR ?_
  intro p e s m args below meth c s₁ Bd hml0 hP hK
  obtain ⟨rfl, hZ, hh⟩ := hP
  have hx := Bd.exec
  have hby := Bd.bytes
  have hml : c.maxLocals = 6 := hml0
  have hown : s.vm.findClass "com/example/tidegauge/tidegauge/SphereCluster" = some m.cls := findClass_of_methodNamed Bd.named
  have hnm := (name_of_methodNamed Bd.named Bd.method).1
  have X0 : Stand p l e ({ frames := 2, cells := 0, slots := 0, locals := 24 } : Room) s m #[(.ref r1), (.ref r2), (.double q1), (.double q2)] below meth c s₁ [] 0 0 := Stand.of_body Bd
  have e0 : s₁.heap = h0 := by rw [← hh, Bd.state]; rfl
  have N0 := Fr.nil n0
  have pre0 : ∀ t, Steps p.tables e below (s₁.setTop (mkF m 0 #[.val (.ref r1), .val (.ref r2), .val (.double q1), .second, .val (.double q2), .second] [])) t → Steps p.tables e below (s₁.setTop (entryFrame m #[(.ref r1), (.ref r2), (.double q1), (.double q2)] 6)) t := fun t k => castTop (ef_rm_init m r1 r2 q1 q2) k
  obtain ⟨_, _, ⟨T1, L1, k1, n1⟩, -, X1, ⟨Lc1, hQ1, l1, y1, z1⟩, st1⟩ := X0.specialBack hx (y := (⟨"java/lang/Record", "<init>", "()V"⟩ : MethodName)) rfl hown (mvT hZ (hw _ (List.mem_of_getElem? (i := 8) rfl))) (mvT hZ (hw _ (List.mem_of_getElem? (i := 9) rfl))) (mvT hZ (hw _ (List.mem_of_getElem? (i := 12) rfl))) (by decide) (backOf (W := 0) (rm_rec l Z a0 hw [] r1 h0 n0 Z0) hZ (hw _ (List.mem_of_getElem? (i := 12) rfl)) (hw _ (List.mem_of_getElem? (i := 11) rfl)) (by decide) (by decide)) (g := (mkF m 1 #[.val (.ref r1), .val (.ref r2), .val (.double q1), .second, .val (.double q2), .second] [(.ref r1)])) rfl (by rw [hml]; rfl) (Steps.refl _) (a := r1) (argsL := []) (rest := []) (lenOf pd_0 rfl) rfl (by show 2 * 0 + _ ≤ _; exact Nat.le_of_eq rfl) (hb hby d1_1) (fun _ _ => ⟨rfl, e0, (by decide : 0 + 0 ≤ _), (by decide : 0 + 0 ≤ _)⟩)
  dsimp only [Pt.U, Pt.locs, Pt.cells, Pt.slots] at X1 l1 y1 z1 st1 hQ1
  rw [y1, z1] at X1
  obtain ⟨rfl, N1q, e1⟩ := hQ1
  have N1 : Fr n0 L1 := by rw [l1]; exact Fr.app N0 N1q
  obtain ⟨T2, h2, X2, e2, W2, st2⟩ := putF X1 hx hZ hown (host := "") (Or.inl (hw _ (List.mem_of_getElem? (i := 16) rfl))) Via.refl e1 F1 E1 (Or.inr ⟨(hw _ (List.mem_of_getElem? (i := 17) rfl)), rfl, hnm⟩) (hw _ (List.mem_of_getElem? (i := 2) rfl)) (ty := (.array .double)) (by decide) rfl rfl (g := (mkF m 6 #[.val (.ref r1), .val (.ref r2), .val (.double q1), .second, .val (.double q2), .second] [(.ref r2), (.ref r1)])) rfl rfl (hb hby d1_6)
  have E2_r1 := E1.wr W2
  have F2_r1_centre := F1.same W2
  have F2_r1_radius := F2.other W2 (Or.inr (slot_ne (Or.inr (hw _ (List.mem_of_getElem? (i := 19) rfl))) (Or.inr (hw _ (List.mem_of_getElem? (i := 17) rfl))) (by decide) (t := .double) (t' := (.array .double)) (by decide) (by decide)))
  have F2_r1_weight := F3.other W2 (Or.inr (slot_ne (Or.inr (hw _ (List.mem_of_getElem? (i := 21) rfl))) (Or.inr (hw _ (List.mem_of_getElem? (i := 17) rfl))) (by decide) (t := .double) (t' := (.array .double)) (by decide) (by decide)))
  have K2 : Keep h0 h2 [r1] := (Keep.refl h0 [r1]).wr W2 (Or.inl (List.mem_of_getElem? (i := 0) rfl))
  have N2 := Fr.snoc X2 N1 g1
  obtain ⟨T3, h3, X3, e3, W3, st3⟩ := putF X2 hx hZ hown (host := "") (Or.inl (hw _ (List.mem_of_getElem? (i := 18) rfl))) Via.refl e2 F2_r1_radius E2_r1 (Or.inr ⟨(hw _ (List.mem_of_getElem? (i := 19) rfl)), rfl, hnm⟩) (hw _ (List.mem_of_getElem? (i := 2) rfl)) (ty := .double) (by decide) rfl rfl (g := (mkF m 11 #[.val (.ref r1), .val (.ref r2), .val (.double q1), .second, .val (.double q2), .second] [(.double q1), (.ref r1)])) rfl rfl (hb hby d1_11)
  have E3_r1 := E2_r1.wr W3
  have F3_r1_centre := F2_r1_centre.other W3 (Or.inr (slot_ne (Or.inr (hw _ (List.mem_of_getElem? (i := 17) rfl))) (Or.inr (hw _ (List.mem_of_getElem? (i := 19) rfl))) (by decide) (t := (.array .double)) (t' := .double) (by decide) (by decide)))
  have F3_r1_radius := F2_r1_radius.same W3
  have F3_r1_weight := F2_r1_weight.other W3 (Or.inr (slot_ne (Or.inr (hw _ (List.mem_of_getElem? (i := 21) rfl))) (Or.inr (hw _ (List.mem_of_getElem? (i := 19) rfl))) (by decide) (t := .double) (t' := .double) (by decide) (by decide)))
  have K3 : Keep h0 h3 [r1] := K2.wr W3 (Or.inl (List.mem_of_getElem? (i := 0) rfl))
  have N3 := Fr.snoc X3 N2 g1
  obtain ⟨T4, h4, X4, e4, W4, st4⟩ := putF X3 hx hZ hown (host := "") (Or.inl (hw _ (List.mem_of_getElem? (i := 20) rfl))) Via.refl e3 F3_r1_weight E3_r1 (Or.inr ⟨(hw _ (List.mem_of_getElem? (i := 21) rfl)), rfl, hnm⟩) (hw _ (List.mem_of_getElem? (i := 2) rfl)) (ty := .double) (by decide) rfl rfl (g := (mkF m 17 #[.val (.ref r1), .val (.ref r2), .val (.double q1), .second, .val (.double q2), .second] [(.double q2), (.ref r1)])) rfl rfl (hb hby d1_17)
  have E4_r1 := E3_r1.wr W4
  have F4_r1_centre := F3_r1_centre.other W4 (Or.inr (slot_ne (Or.inr (hw _ (List.mem_of_getElem? (i := 17) rfl))) (Or.inr (hw _ (List.mem_of_getElem? (i := 21) rfl))) (by decide) (t := (.array .double)) (t' := .double) (by decide) (by decide)))
  have F4_r1_radius := F3_r1_radius.other W4 (Or.inr (slot_ne (Or.inr (hw _ (List.mem_of_getElem? (i := 19) rfl))) (Or.inr (hw _ (List.mem_of_getElem? (i := 21) rfl))) (by decide) (t := .double) (t' := .double) (by decide) (by decide)))
  have F4_r1_weight := F3_r1_weight.same W4
  have K4 : Keep h0 h4 [r1] := K3.wr W4 (Or.inl (List.mem_of_getElem? (i := 0) rfl))
  have N4 := Fr.snoc X4 N3 g1
  have pre5 : ∀ t, Steps p.tables e below (T4.setTop (mkF m 20 #[.val (.ref r1), .val (.ref r2), .val (.double q1), .second, .val (.double q2), .second] [])) t → Steps p.tables e below (s₁.setTop (entryFrame m #[(.ref r1), (.ref r2), (.double q1), (.double q2)] 6)) t := fun t k => pre0 t (by
    show Steps p.tables e below (s₁.setTop (mkF m 0 #[.val (.ref r1), .val (.ref r2), .val (.double q1), .second, .val (.double q2), .second] [])) _
    refine XS.aloadN X0.here hx rfl (hb hby d1_0) rfl rfl ?_
    show Steps p.tables e below (s₁.setTop (mkF m 1 #[.val (.ref r1), .val (.ref r2), .val (.double q1), .second, .val (.double q2), .second] [(.ref r1)])) _
    refine st1.trans ?_
    show Steps p.tables e below (T1.setTop (mkF m 4 #[.val (.ref r1), .val (.ref r2), .val (.double q1), .second, .val (.double q2), .second] [])) _
    refine XS.aloadN X1.here hx rfl (hb hby d1_4) rfl rfl ?_
    show Steps p.tables e below (T1.setTop (mkF m 5 #[.val (.ref r1), .val (.ref r2), .val (.double q1), .second, .val (.double q2), .second] [(.ref r1)])) _
    refine XS.aloadN X1.here hx rfl (hb hby d1_5) rfl rfl ?_
    show Steps p.tables e below (T1.setTop (mkF m 6 #[.val (.ref r1), .val (.ref r2), .val (.double q1), .second, .val (.double q2), .second] [(.ref r2), (.ref r1)])) _
    refine st2 _ ?_
    show Steps p.tables e below (T2.setTop (mkF m 9 #[.val (.ref r1), .val (.ref r2), .val (.double q1), .second, .val (.double q2), .second] [])) _
    refine XS.aloadN X2.here hx rfl (hb hby d1_9) rfl rfl ?_
    show Steps p.tables e below (T2.setTop (mkF m 10 #[.val (.ref r1), .val (.ref r2), .val (.double q1), .second, .val (.double q2), .second] [(.ref r1)])) _
    refine XS.dloadN X2.here hx rfl (hb hby d1_10) rfl ?_
    show Steps p.tables e below (T2.setTop (mkF m 11 #[.val (.ref r1), .val (.ref r2), .val (.double q1), .second, .val (.double q2), .second] [(.double q1), (.ref r1)])) _
    refine st3 _ ?_
    show Steps p.tables e below (T3.setTop (mkF m 14 #[.val (.ref r1), .val (.ref r2), .val (.double q1), .second, .val (.double q2), .second] [])) _
    refine XS.aloadN X3.here hx rfl (hb hby d1_14) rfl rfl ?_
    show Steps p.tables e below (T3.setTop (mkF m 15 #[.val (.ref r1), .val (.ref r2), .val (.double q1), .second, .val (.double q2), .second] [(.ref r1)])) _
    refine XS.dload X3.here hx rfl (hb hby d1_15) rfl ?_
    show Steps p.tables e below (T3.setTop (mkF m 17 #[.val (.ref r1), .val (.ref r2), .val (.double q1), .second, .val (.double q2), .second] [(.double q2), (.ref r1)])) _
    refine st4 _ ?_
    exact k)
  obtain ⟨fs, hr, hrun, hended, hW, hsame⟩ := X4.leave (v := none) (fun _ => rfl)
  refine ⟨_, _, pre5 _ ?_, hrun, hended, _, _, rfl, ?_, ⟨_, rfl⟩, hW, hsame.mono (by decide) (by decide)⟩
  · show Steps p.tables e below (T4.setTop (mkF m 20 #[.val (.ref r1), .val (.ref r2), .val (.double q1), .second, .val (.double q2), .second] [])) _
    exact X4.returnOut hx Bd.returns (hb hby d1_20) hr
  · show Qinit Z r1 r2 q1 q2  h0 n0 _ T4.heap _
    rw [e4]
    exact ⟨rfl, N4, K4, E4_r1, F4_r1_radius⟩
def Q0 (Z : State) (p1 p2 : Int32) (h0 : Heap) (n0 : Nat) (v : Option Value) (h : Heap) (L : List Loc) : Prop := v = some (.int 1) ∧ Fr n0 L
theorem pn_0 : plainName "com/example/tidegauge/tidegauge/SphereClusterHoldsAtPinLaw" = true := by first | (simp [plainName, overriddenIn]; done) | decide +kernel
theorem ef_rm0 (m : MethodId) (x0 : Int32) (x1 : Int32) : entryFrame m #[(.int x0), (.int x1)] maxLocals = mkF m 0 #[.val (.int x0), .val (.int x1), .unset, .unset, .unset, .unset, .unset, .unset, .unset, .unset, .unset, .unset, .unset, .unset] [] := by first | (simp [entryFrame, mkF, argsToLocals, Value.category, maxLocals]; done) | rfl
set_option maxRecDepth 65536 in
set_option maxHeartbeats 40000000 in
theorem rm0 (l : Launch) (Z : State) (a0 : Array Value) (hw : ∀ d ∈ tables_1, d.before a0 Z = true) (ws : List Jvm.Cond) (p1 : Int32) (p2 : Int32) (h0 : Heap) (n0 : Nat) (Z0 : n0 ≤ h0.size)  :
    MetFree l x (head1 (Jvm.Cond.code x code maxLocals ret :: ws) room_1) (fun a U => a = #[(.int p1), (.int p2)] ∧ Z.Warmed39 U.vm ∧ U.heap = h0) (fun _ _ _ _ _ => True) (fun _ U o U' => ∃ v L, o = .returned v ∧ Q0 Z p1 p2  h0 n0 v U'.heap L ∧ FrameEnd U o U' L 16 128) := by
  refine MetFree.of_bodySF (plainFor_of_name pn_0) hisR ?_
  intro p e s m args below meth c s₁ Bd hml0 hP hK
  obtain ⟨rfl, hZ, hh⟩ := hP
  have hx := Bd.exec
  have hby := Bd.bytes
  have hml : c.maxLocals = 14 := hml0
  have hown : s.vm.findClass "com/example/tidegauge/tidegauge/SphereClusterHoldsAtPinLaw" = some m.cls := findClass_of_methodNamed Bd.named
  have hnm := (name_of_methodNamed Bd.named Bd.method).1
  have X0 : Stand p l e room_1 s m #[(.int p1), (.int p2)] below meth c s₁ [] 0 0 := Stand.of_body Bd
  have e0 : s₁.heap = h0 := by rw [← hh, Bd.state]; rfl
  have N0 := Fr.nil n0
  have pre0 : ∀ t, Steps p.tables e below (s₁.setTop (mkF m 0 #[.val (.int p1), .val (.int p2), .unset, .unset, .unset, .unset, .unset, .unset, .unset, .unset, .unset, .unset, .unset, .unset] [])) t → Steps p.tables e below (s₁.setTop (entryFrame m #[(.int p1), (.int p2)] maxLocals)) t := fun t k => castTop (ef_rm0 m p1 p2) k
  obtain ⟨rr, hrr⟩ : ∃ z, z = (p1 &&& (536870911 : Int32)) := ⟨_, rfl⟩
  have hr0 : 0 ≤ rr.toInt ∧ rr.toInt < 536870912 := by rw [hrr]; exact own_msk p1
  obtain ⟨rad, hrad⟩ : ∃ z, FP.i2d rr = z := ⟨_, rfl⟩
  obtain ⟨dd, hdd⟩ : ∃ z, FP.i2d p2 = z := ⟨_, rfl⟩
  obtain ⟨pA, hpA⟩ : ∃ z, FP.dmul rad (4472406533629990549 : UInt64) = z := ⟨_, rfl⟩
  obtain ⟨lim, hlim⟩ : ∃ z, FP.dadd rad pA = z := ⟨_, rfl⟩
  obtain ⟨pB, hpB⟩ : ∃ z, FP.dmul rad (4457293557087583675 : UInt64) = z := ⟨_, rfl⟩
  obtain ⟨ins, hins⟩ : ∃ z, FP.dadd rad pB = z := ⟨_, rfl⟩
  obtain ⟨pC, hpC⟩ : ∃ z, FP.dmul rad (4487126258331716666 : UInt64) = z := ⟨_, rfl⟩
  obtain ⟨out, hout⟩ : ∃ z, FP.dadd rad pC = z := ⟨_, rfl⟩
  have lf := own_lf rr
  have elim : own_lim rr (4472406533629990549 : UInt64) = lim := by rw [← hlim, ← hpA, ← hrad]; rfl
  have eins : own_lim rr (4457293557087583675 : UInt64) = ins := by rw [← hins, ← hpB, ← hrad]; rfl
  have eout : own_lim rr (4487126258331716666 : UInt64) = out := by rw [← hout, ← hpC, ← hrad]; rfl
  rw [elim, eins, eout, hrad] at lf
  have npA : Jvm.Free.Fl.NoNaN64 (FP.dmul rad (4472406533629990549 : UInt64)) := own_nn lf.1.1
  have nlim : Jvm.Free.Fl.NoNaN64 (FP.dadd rad pA) := by rw [hlim]; exact own_nn lf.1.2
  have npB : Jvm.Free.Fl.NoNaN64 (FP.dmul rad (4457293557087583675 : UInt64)) := own_nn lf.2.1.1
  have nins : Jvm.Free.Fl.NoNaN64 (FP.dadd rad pB) := by rw [hins]; exact own_nn lf.2.1.2
  have npC : Jvm.Free.Fl.NoNaN64 (FP.dmul rad (4487126258331716666 : UInt64)) := own_nn lf.2.2.1
  have nout : Jvm.Free.Fl.NoNaN64 (FP.dadd rad pC) := by rw [hout]; exact own_nn lf.2.2.2
  have rA := fun (q : ¬ rr < p2) => own_hA hr0.1 hr0.2 q
  have rB := fun (q : rr < p2) => own_hB hr0.1 hr0.2 q
  have rC := own_hC hr0.1 hr0.2
  have rD := own_hD (r := rr)
  have rE := fun (q : ¬ rr = 0) => own_hE hr0.1 hr0.2 q
  have rF : own_hd (cmpValue (FP.dcmp rad lim) .g) = (1 : Int32) := by
    have q := own_hA hr0.1 hr0.2 (d := rr) (fun q => absurd (Int32.lt_iff_toInt_lt.mp q) (Int.lt_irrefl _))
    rw [hrad, elim] at q; exact q
  rw [hdd, elim] at rA rB
  rw [eins, elim] at rC
  rw [eout, elim] at rD rE
  have O0 := own_ext_refl h0
  obtain ⟨T1, h1, X1, e1, E1, A1, D1, -, st1⟩ := newO X0 hx hZ hown (hw _ (List.mem_of_getElem? (i := 1) rfl)) (hw _ (List.mem_of_getElem? (i := 2) rfl)) (hw _ (List.mem_of_getElem? (i := 3) rfl)) e0 (g := (mkF m 8 #[.val (.int p1), .val (.int p2), .val (.int rr), .val (.double rad), .second, .unset, .unset, .unset, .unset, .unset, .unset, .unset, .unset, .unset] [])) rfl (hb hby at_8) (by decide) (by decide)
  obtain ⟨b1, g1⟩ : ∃ z, z = h0.size := ⟨_, rfl⟩
  rw [← g1] at A1 D1 st1
  have z_b1 : h0.size ≤ b1 := Nat.le_trans O0.1 (Nat.le_of_eq g1.symm)
  have g_b1 : n0 ≤ b1 := Nat.le_trans Z0 z_b1
  have O1 := own_ext_trans O0 E1
  have F1_b1_centre : Fld Z h1 b1 "com/example/tidegauge/tidegauge/SphereCluster" "centre" "[D" .null := D1 (Or.inr (hw _ (List.mem_of_getElem? (i := 17) rfl))) (ty := (.array .double)) (by decide)
  have F1_b1_radius := D1 (Or.inr (hw _ (List.mem_of_getElem? (i := 19) rfl))) (ty := .double) (by decide)
  have F1_b1_weight := D1 (Or.inr (hw _ (List.mem_of_getElem? (i := 21) rfl))) (ty := .double) (by decide)
  obtain ⟨T2, h2, k2, X2, e2, E2, A2, st2⟩ := newP X1 hx hZ (hw _ (List.mem_of_getElem? (i := 4) rfl)) e1 (g := (mkF m 13 #[.val (.int p1), .val (.int p2), .val (.int rr), .val (.double rad), .second, .unset, .unset, .unset, .unset, .unset, .unset, .unset, .unset, .unset] [(.int (1 : Int32)), (.ref b1), (.ref b1)])) rfl (hb hby at_13) rfl (by decide) (cap := 1) (by decide) (by decide) (by decide) (by decide)
  obtain ⟨b2, g2⟩ : ∃ z, z = h1.size := ⟨_, rfl⟩
  rw [← g2] at A2 st2
  have ne_b1_b2 : b1 ≠ b2 := Nat.ne_of_lt (Nat.lt_of_lt_of_le A1.lt (Nat.le_of_eq g2.symm))
  have z_b2 : h0.size ≤ b2 := Nat.le_trans O1.1 (Nat.le_of_eq g2.symm)
  have g_b2 : n0 ≤ b2 := Nat.le_trans Z0 z_b2
  have E2_b1 := A1.ext E2
  have F2_b1_centre := F1_b1_centre.ext E2
  have F2_b1_radius := F1_b1_radius.ext E2
  have F2_b1_weight := F1_b1_weight.ext E2
  have O2 := own_ext_trans O1 E2
  have V2 : Arv Z h2 b2 k2 .double (1 : Int32) [(.double 0)] (.double 0) := (Arv.new A2 (by decide)).pad (pad_rep [] (.double 0) 1)
  have pre3 : ∀ t, Steps p.tables e below (T2.setTop (mkF m 16 #[.val (.int p1), .val (.int p2), .val (.int rr), .val (.double rad), .second, .unset, .unset, .unset, .unset, .unset, .unset, .unset, .unset, .unset] [(.ref b2), (.ref b2), (.ref b1), (.ref b1)])) t → Steps p.tables e below (s₁.setTop (entryFrame m #[(.int p1), (.int p2)] maxLocals)) t := fun t k => pre0 t (by
    show Steps p.tables e below (s₁.setTop (mkF m 0 #[.val (.int p1), .val (.int p2), .unset, .unset, .unset, .unset, .unset, .unset, .unset, .unset, .unset, .unset, .unset, .unset] [])) _
    refine XS.iloadN X0.here hx rfl (hb hby at_0) rfl ?_
    show Steps p.tables e below (s₁.setTop (mkF m 1 #[.val (.int p1), .val (.int p2), .unset, .unset, .unset, .unset, .unset, .unset, .unset, .unset, .unset, .unset, .unset, .unset] [(.int p1)])) _
    refine X0.ldcInt hx hown (mvT hZ (hw _ (List.mem_of_getElem? (i := 0) rfl))) (g := (mkF m 1 #[.val (.int p1), .val (.int p2), .unset, .unset, .unset, .unset, .unset, .unset, .unset, .unset, .unset, .unset, .unset, .unset] [(.int p1)])) rfl (hb hby at_1) _ ?_
    show Steps p.tables e below (s₁.setTop (mkF m 3 #[.val (.int p1), .val (.int p2), .unset, .unset, .unset, .unset, .unset, .unset, .unset, .unset, .unset, .unset, .unset, .unset] [(.int (536870911 : Int32)), (.int p1)])) _
    refine XS.iand X0.here hx rfl (hb hby at_3) rfl ?_
    show Steps p.tables e below (s₁.setTop (mkF m 4 #[.val (.int p1), .val (.int p2), .unset, .unset, .unset, .unset, .unset, .unset, .unset, .unset, .unset, .unset, .unset, .unset] [(.int (p1 &&& (536870911 : Int32)))])) _
    refine castTop (g' := (mkF m 4 #[.val (.int p1), .val (.int p2), .unset, .unset, .unset, .unset, .unset, .unset, .unset, .unset, .unset, .unset, .unset, .unset] [(.int rr)])) (by rw [← hrr]) ?_
    show Steps p.tables e below (s₁.setTop (mkF m 4 #[.val (.int p1), .val (.int p2), .unset, .unset, .unset, .unset, .unset, .unset, .unset, .unset, .unset, .unset, .unset, .unset] [(.int rr)])) _
    refine XS.istoreN X0.here hx rfl (hb hby at_4) rfl (l' := #[.val (.int p1), .val (.int p2), .val (.int rr), .unset, .unset, .unset, .unset, .unset, .unset, .unset, .unset, .unset, .unset, .unset]) rfl ?_
    show Steps p.tables e below (s₁.setTop (mkF m 5 #[.val (.int p1), .val (.int p2), .val (.int rr), .unset, .unset, .unset, .unset, .unset, .unset, .unset, .unset, .unset, .unset, .unset] [])) _
    refine XS.iloadN X0.here hx rfl (hb hby at_5) rfl ?_
    show Steps p.tables e below (s₁.setTop (mkF m 6 #[.val (.int p1), .val (.int p2), .val (.int rr), .unset, .unset, .unset, .unset, .unset, .unset, .unset, .unset, .unset, .unset, .unset] [(.int rr)])) _
    refine XS.i2dS X0.here hx rfl (hb hby at_6) rfl (v := rad) hrad ?_
    show Steps p.tables e below (s₁.setTop (mkF m 7 #[.val (.int p1), .val (.int p2), .val (.int rr), .unset, .unset, .unset, .unset, .unset, .unset, .unset, .unset, .unset, .unset, .unset] [(.double rad)])) _
    refine XS.dstoreN X0.here hx rfl (hb hby at_7) rfl (l' := #[.val (.int p1), .val (.int p2), .val (.int rr), .val (.double rad), .second, .unset, .unset, .unset, .unset, .unset, .unset, .unset, .unset, .unset]) rfl ?_
    show Steps p.tables e below (s₁.setTop (mkF m 8 #[.val (.int p1), .val (.int p2), .val (.int rr), .val (.double rad), .second, .unset, .unset, .unset, .unset, .unset, .unset, .unset, .unset, .unset] [])) _
    refine st1 _ ?_
    show Steps p.tables e below (T1.setTop (mkF m 11 #[.val (.int p1), .val (.int p2), .val (.int rr), .val (.double rad), .second, .unset, .unset, .unset, .unset, .unset, .unset, .unset, .unset, .unset] [(.ref b1)])) _
    refine XS.dup X1.here hx rfl (hb hby at_11) rfl rfl ?_
    show Steps p.tables e below (T1.setTop (mkF m 12 #[.val (.int p1), .val (.int p2), .val (.int rr), .val (.double rad), .second, .unset, .unset, .unset, .unset, .unset, .unset, .unset, .unset, .unset] [(.ref b1), (.ref b1)])) _
    refine XT.iconstV X1.here hx rfl (1 : Int32) (hb hby at_12) (by decide) ?_
    show Steps p.tables e below (T1.setTop (mkF m 13 #[.val (.int p1), .val (.int p2), .val (.int rr), .val (.double rad), .second, .unset, .unset, .unset, .unset, .unset, .unset, .unset, .unset, .unset] [(.int (1 : Int32)), (.ref b1), (.ref b1)])) _
    refine st2 _ ?_
    show Steps p.tables e below (T2.setTop (mkF m 15 #[.val (.int p1), .val (.int p2), .val (.int rr), .val (.double rad), .second, .unset, .unset, .unset, .unset, .unset, .unset, .unset, .unset, .unset] [(.ref b2), (.ref b1), (.ref b1)])) _
    refine XS.dup X2.here hx rfl (hb hby at_15) rfl rfl ?_
    exact k)
  obtain ⟨cl4, Ar4, q4, S4, n4', H4, G4⟩ := id V2
  have hin4 : ¬ ((0 : Int32) < 0 ∨ cl4.slots.size ≤ ((0 : Int32)).toNatClampNeg) := inb_of S4 ⟨by decide, by decide⟩
  obtain ⟨T4, h4, X4, e4, W4, st4⟩ := stD X2 hx hZ e2 Ar4 (j := (0 : Int32)) hin4 (g := (mkF m 18 #[.val (.int p1), .val (.int p2), .val (.int rr), .val (.double rad), .second, .unset, .unset, .unset, .unset, .unset, .unset, .unset, .unset, .unset] [(.double FP.dconst0), (.int (0 : Int32)), (.ref b2), (.ref b2), (.ref b1), (.ref b1)])) rfl rfl (hb hby at_18)
  have V4 : Arv Z h4 b2 k2 .double (1 : Int32) [(.double FP.dconst0)] (.double 0) := Arv.set Ar4 q4 S4 n4' H4 G4 rfl W4 0 rfl (Nat.le_of_ble_eq_true rfl)
  have E4_b1 := E2_b1.wr W4
  have F4_b1_centre := F2_b1_centre.other W4 (Or.inl ne_b1_b2)
  have F4_b1_radius := F2_b1_radius.other W4 (Or.inl ne_b1_b2)
  have F4_b1_weight := F2_b1_weight.other W4 (Or.inl ne_b1_b2)
  have O4 := own_ext_wr O2 W4 z_b2
  have N4 := Fr.snoc X4 N0 g_b2
  obtain ⟨_, _, ⟨T5, L5, k5, n5⟩, -, X5, ⟨Lc5, hQ5, l5, y5, z5⟩, st5⟩ := X4.specialBack hx (y := (⟨"com/example/tidegauge/tidegauge/SphereCluster", "<init>", "([DDD)V"⟩ : MethodName)) rfl hown (mvT hZ (hw _ (List.mem_of_getElem? (i := 5) rfl))) (mvT hZ (hw _ (List.mem_of_getElem? (i := 6) rfl))) (mvT hZ (hw _ (List.mem_of_getElem? (i := 7) rfl))) (by decide) (backOf (W := 1) (rm_init l Z a0 hw [] b1 b2 rad FP.dconst1 h4 n0 (Nat.le_trans Z0 O4.1) E4_b1 F4_b1_centre F4_b1_radius F4_b1_weight g_b1) hZ (hw _ (List.mem_of_getElem? (i := 7) rfl)) (hw _ (List.mem_of_getElem? (i := 3) rfl)) (by decide) (by decide)) (g := (mkF m 21 #[.val (.int p1), .val (.int p2), .val (.int rr), .val (.double rad), .second, .unset, .unset, .unset, .unset, .unset, .unset, .unset, .unset, .unset] [(.double FP.dconst1), (.double rad), (.ref b2), (.ref b1), (.ref b1)])) rfl (by rw [hml]; rfl) (Steps.refl _) (a := b1) (argsL := [(.ref b2), (.double rad), (.double FP.dconst1)]) (rest := [(.ref b1)]) (lenOf pd_1 rfl) rfl (by show 2 * 0 + _ ≤ _; exact Nat.le_of_eq rfl) (hb hby at_21) (fun _ _ => ⟨rfl, e4, (by decide : 2 + 0 ≤ _), (by decide : 4 + 0 ≤ _)⟩)
  dsimp only [Pt.U, Pt.locs, Pt.cells, Pt.slots] at X5 l5 y5 z5 st5 hQ5
  rw [y5, z5] at X5
  obtain ⟨rfl, N5q, K5c, E5c, F5c⟩ := hQ5
  have N5 : Fr n0 L5 := by rw [l5]; exact Fr.app N4 N5q
  have E5_b1 := E4_b1.keep K5c
  have V5_b2 := V4.keep K5c (ninS (Ne.symm ne_b1_b2) nin0)
  have O5 := own_ext_keep O4 K5c (allS z_b1 all0)
  have pre6 : ∀ t, Steps p.tables e below (T5.setTop (mkF m 26 #[.val (.int p1), .val (.int p2), .val (.int rr), .val (.double rad), .second, .val (.ref b1), .unset, .unset, .unset, .unset, .unset, .unset, .unset, .unset] [])) t → Steps p.tables e below (s₁.setTop (entryFrame m #[(.int p1), (.int p2)] maxLocals)) t := fun t k => pre3 t (by
    show Steps p.tables e below (T2.setTop (mkF m 16 #[.val (.int p1), .val (.int p2), .val (.int rr), .val (.double rad), .second, .unset, .unset, .unset, .unset, .unset, .unset, .unset, .unset, .unset] [(.ref b2), (.ref b2), (.ref b1), (.ref b1)])) _
    refine XT.iconstV X2.here hx rfl (0 : Int32) (hb hby at_16) (by decide) ?_
    show Steps p.tables e below (T2.setTop (mkF m 17 #[.val (.int p1), .val (.int p2), .val (.int rr), .val (.double rad), .second, .unset, .unset, .unset, .unset, .unset, .unset, .unset, .unset, .unset] [(.int (0 : Int32)), (.ref b2), (.ref b2), (.ref b1), (.ref b1)])) _
    refine XS.dconst0 X2.here hx rfl (hb hby at_17) rfl ?_
    show Steps p.tables e below (T2.setTop (mkF m 18 #[.val (.int p1), .val (.int p2), .val (.int rr), .val (.double rad), .second, .unset, .unset, .unset, .unset, .unset, .unset, .unset, .unset, .unset] [(.double FP.dconst0), (.int (0 : Int32)), (.ref b2), (.ref b2), (.ref b1), (.ref b1)])) _
    refine st4 _ ?_
    show Steps p.tables e below (T4.setTop (mkF m 19 #[.val (.int p1), .val (.int p2), .val (.int rr), .val (.double rad), .second, .unset, .unset, .unset, .unset, .unset, .unset, .unset, .unset, .unset] [(.ref b2), (.ref b1), (.ref b1)])) _
    refine XS.dloadN X4.here hx rfl (hb hby at_19) rfl ?_
    show Steps p.tables e below (T4.setTop (mkF m 20 #[.val (.int p1), .val (.int p2), .val (.int rr), .val (.double rad), .second, .unset, .unset, .unset, .unset, .unset, .unset, .unset, .unset, .unset] [(.double rad), (.ref b2), (.ref b1), (.ref b1)])) _
    refine XS.dconst1 X4.here hx rfl (hb hby at_20) rfl ?_
    show Steps p.tables e below (T4.setTop (mkF m 21 #[.val (.int p1), .val (.int p2), .val (.int rr), .val (.double rad), .second, .unset, .unset, .unset, .unset, .unset, .unset, .unset, .unset, .unset] [(.double FP.dconst1), (.double rad), (.ref b2), (.ref b1), (.ref b1)])) _
    refine st5.trans ?_
    show Steps p.tables e below (T5.setTop (mkF m 24 #[.val (.int p1), .val (.int p2), .val (.int rr), .val (.double rad), .second, .unset, .unset, .unset, .unset, .unset, .unset, .unset, .unset, .unset] [(.ref b1)])) _
    refine XS.astore X5.here hx rfl (hb hby at_24) rfl rfl (l' := #[.val (.int p1), .val (.int p2), .val (.int rr), .val (.double rad), .second, .val (.ref b1), .unset, .unset, .unset, .unset, .unset, .unset, .unset, .unset]) rfl ?_
    exact k)
  by_cases hq1 : rr < p2
  · have _ := 0
    obtain ⟨cq7, kq7, q7a, q7b, q7c⟩ := isOf hZ rfl E5c
    obtain ⟨_, _, ⟨T7, L7, k7, n7⟩, -, X7, ⟨Lc7, hQ7, l7, y7, z7⟩, st7⟩ := X5.virtualBack hx (y := (⟨"com/example/tidegauge/tidegauge/SphereCluster", "holdsAt", "(D)Z"⟩ : MethodName)) (z := (⟨"com/example/tidegauge/tidegauge/SphereCluster", "holdsAt", "(D)Z"⟩ : MethodName)) hown (mvT hZ (hw _ (List.mem_of_getElem? (i := 22) rfl))) (mvT hZ (hw _ (List.mem_of_getElem? (i := 23) rfl))) (notFace_of_selects (args := #[]) (mvT hZ (hw _ (List.mem_of_getElem? (i := 25) rfl)))) (mvT hZ (hw _ (List.mem_of_getElem? (i := 25) rfl))) (mvT hZ (hw _ (List.mem_of_getElem? (i := 24) rfl))) (by decide) (backOf (W := 0) (rm_h l Z a0 hw [] b1 dd T5.heap n0 (Nat.le_trans Z0 O5.1) rad pA lim F5c npA hpA nlim hlim _ rfl (0 : Int32) (rB hq1)) hZ (hw _ (List.mem_of_getElem? (i := 26) rfl)) (hw _ (List.mem_of_getElem? (i := 3) rfl)) (by decide) (by decide)) q7a q7c (g := (mkF m 30 #[.val (.int p1), .val (.int p2), .val (.int rr), .val (.double rad), .second, .val (.ref b1), .unset, .unset, .unset, .unset, .unset, .unset, .unset, .unset] [(.double dd), (.ref b1)])) rfl (by rw [hml]; rfl) (Steps.refl _) (argsL := [(.double dd)]) (rest := []) (lenOf pd_2 rfl) rfl (by show 2 * 0 + _ ≤ _; exact Nat.le_of_eq rfl) (hb hby at_30) (fun _ _ => ⟨rfl, rfl, (by decide : 2 + 0 ≤ _), (by decide : 4 + 0 ≤ _)⟩)
    dsimp only [Pt.U, Pt.locs, Pt.cells, Pt.slots] at X7 l7 y7 z7 st7 hQ7
    rw [y7, z7] at X7
    obtain ⟨rfl, N7q, e7⟩ := hQ7
    have N7 : Fr n0 L7 := by rw [l7]; exact Fr.app N5 N7q
    have pre8 : ∀ t, Steps p.tables e below (T7.setTop (mkF m 54 #[.val (.int p1), .val (.int p2), .val (.int rr), .val (.double rad), .second, .val (.ref b1), .val (.int (1 : Int32)), .unset, .unset, .unset, .unset, .unset, .unset, .unset] [(.double rad)])) t → Steps p.tables e below (s₁.setTop (entryFrame m #[(.int p1), (.int p2)] maxLocals)) t := fun t k => pre6 t (by
      show Steps p.tables e below (T5.setTop (mkF m 26 #[.val (.int p1), .val (.int p2), .val (.int rr), .val (.double rad), .second, .val (.ref b1), .unset, .unset, .unset, .unset, .unset, .unset, .unset, .unset] [])) _
      refine XS.aload X5.here hx rfl (hb hby at_26) rfl rfl ?_
      show Steps p.tables e below (T5.setTop (mkF m 28 #[.val (.int p1), .val (.int p2), .val (.int rr), .val (.double rad), .second, .val (.ref b1), .unset, .unset, .unset, .unset, .unset, .unset, .unset, .unset] [(.ref b1)])) _
      refine XS.iloadN X5.here hx rfl (hb hby at_28) rfl ?_
      show Steps p.tables e below (T5.setTop (mkF m 29 #[.val (.int p1), .val (.int p2), .val (.int rr), .val (.double rad), .second, .val (.ref b1), .unset, .unset, .unset, .unset, .unset, .unset, .unset, .unset] [(.int p2), (.ref b1)])) _
      refine XS.i2dS X5.here hx rfl (hb hby at_29) rfl (v := dd) hdd ?_
      show Steps p.tables e below (T5.setTop (mkF m 30 #[.val (.int p1), .val (.int p2), .val (.int rr), .val (.double rad), .second, .val (.ref b1), .unset, .unset, .unset, .unset, .unset, .unset, .unset, .unset] [(.double dd), (.ref b1)])) _
      refine st7.trans ?_
      show Steps p.tables e below (T7.setTop (mkF m 33 #[.val (.int p1), .val (.int p2), .val (.int rr), .val (.double rad), .second, .val (.ref b1), .unset, .unset, .unset, .unset, .unset, .unset, .unset, .unset] [(.int (0 : Int32))])) _
      refine XS.iloadN X7.here hx rfl (hb hby at_33) rfl ?_
      show Steps p.tables e below (T7.setTop (mkF m 34 #[.val (.int p1), .val (.int p2), .val (.int rr), .val (.double rad), .second, .val (.ref b1), .unset, .unset, .unset, .unset, .unset, .unset, .unset, .unset] [(.int p2), (.int (0 : Int32))])) _
      refine XS.iloadN X7.here hx rfl (hb hby at_34) rfl ?_
      show Steps p.tables e below (T7.setTop (mkF m 35 #[.val (.int p1), .val (.int p2), .val (.int rr), .val (.double rad), .second, .val (.ref b1), .unset, .unset, .unset, .unset, .unset, .unset, .unset, .unset] [(.int rr), (.int p2), (.int (0 : Int32))])) _
      refine XS.icmpYes X7.here hx rfl (pc0 := 35) (pc' := 42) rfl (hb hby at_35) rfl (tlt hq1).2.2.1 (by decide) (by decide) ?_
      show Steps p.tables e below (T7.setTop (mkF m 42 #[.val (.int p1), .val (.int p2), .val (.int rr), .val (.double rad), .second, .val (.ref b1), .unset, .unset, .unset, .unset, .unset, .unset, .unset, .unset] [(.int (0 : Int32))])) _
      refine XT.iconstV X7.here hx rfl (0 : Int32) (hb hby at_42) (by decide) ?_
      show Steps p.tables e below (T7.setTop (mkF m 43 #[.val (.int p1), .val (.int p2), .val (.int rr), .val (.double rad), .second, .val (.ref b1), .unset, .unset, .unset, .unset, .unset, .unset, .unset, .unset] [(.int (0 : Int32)), (.int (0 : Int32))])) _
      refine XS.icmpNo X7.here hx rfl (hb hby at_43) rfl (teq (by decide : ((0 : Int32) = (0 : Int32)))).2 ?_
      show Steps p.tables e below (T7.setTop (mkF m 46 #[.val (.int p1), .val (.int p2), .val (.int rr), .val (.double rad), .second, .val (.ref b1), .unset, .unset, .unset, .unset, .unset, .unset, .unset, .unset] [])) _
      refine XT.iconstV X7.here hx rfl (1 : Int32) (hb hby at_46) (by decide) ?_
      show Steps p.tables e below (T7.setTop (mkF m 47 #[.val (.int p1), .val (.int p2), .val (.int rr), .val (.double rad), .second, .val (.ref b1), .unset, .unset, .unset, .unset, .unset, .unset, .unset, .unset] [(.int (1 : Int32))])) _
      refine XS.goto X7.here hx rfl (pc0 := 47) (pc' := 51) rfl (hb hby at_47) (by decide) (by decide) ?_
      show Steps p.tables e below (T7.setTop (mkF m 51 #[.val (.int p1), .val (.int p2), .val (.int rr), .val (.double rad), .second, .val (.ref b1), .unset, .unset, .unset, .unset, .unset, .unset, .unset, .unset] [(.int (1 : Int32))])) _
      refine XS.istore X7.here hx rfl (hb hby at_51) rfl (l' := #[.val (.int p1), .val (.int p2), .val (.int rr), .val (.double rad), .second, .val (.ref b1), .val (.int (1 : Int32)), .unset, .unset, .unset, .unset, .unset, .unset, .unset]) rfl ?_
      show Steps p.tables e below (T7.setTop (mkF m 53 #[.val (.int p1), .val (.int p2), .val (.int rr), .val (.double rad), .second, .val (.ref b1), .val (.int (1 : Int32)), .unset, .unset, .unset, .unset, .unset, .unset, .unset] [])) _
      refine XS.dloadN X7.here hx rfl (hb hby at_53) rfl ?_
      exact k)
    have pre9 : ∀ t, Steps p.tables e below (T7.setTop (mkF m 74 #[.val (.int p1), .val (.int p2), .val (.int rr), .val (.double rad), .second, .val (.ref b1), .val (.int (1 : Int32)), .val (.double ins), .second, .val (.double out), .second, .unset, .unset, .unset] [(.double rad), (.ref b1)])) t → Steps p.tables e below (s₁.setTop (entryFrame m #[(.int p1), (.int p2)] maxLocals)) t := fun t k => pre8 t (by
      show Steps p.tables e below (T7.setTop (mkF m 54 #[.val (.int p1), .val (.int p2), .val (.int rr), .val (.double rad), .second, .val (.ref b1), .val (.int (1 : Int32)), .unset, .unset, .unset, .unset, .unset, .unset, .unset] [(.double rad)])) _
      refine XS.dloadN X7.here hx rfl (hb hby at_54) rfl ?_
      show Steps p.tables e below (T7.setTop (mkF m 55 #[.val (.int p1), .val (.int p2), .val (.int rr), .val (.double rad), .second, .val (.ref b1), .val (.int (1 : Int32)), .unset, .unset, .unset, .unset, .unset, .unset, .unset] [(.double rad), (.double rad)])) _
      refine X7.ldc2DoubleC hx hown (mvT hZ (hw _ (List.mem_of_getElem? (i := 28) rfl))) (g := (mkF m 55 #[.val (.int p1), .val (.int p2), .val (.int rr), .val (.double rad), .second, .val (.ref b1), .val (.int (1 : Int32)), .unset, .unset, .unset, .unset, .unset, .unset, .unset] [(.double rad), (.double rad)])) rfl (hb hby at_55) _ ?_
      show Steps p.tables e below (T7.setTop (mkF m 58 #[.val (.int p1), .val (.int p2), .val (.int rr), .val (.double rad), .second, .val (.ref b1), .val (.int (1 : Int32)), .unset, .unset, .unset, .unset, .unset, .unset, .unset] [(.double (4457293557087583675 : UInt64)), (.double rad), (.double rad)])) _
      refine XS.dmulS X7.here hx rfl (hb hby at_58) rfl npB (v := pB) hpB ?_
      show Steps p.tables e below (T7.setTop (mkF m 59 #[.val (.int p1), .val (.int p2), .val (.int rr), .val (.double rad), .second, .val (.ref b1), .val (.int (1 : Int32)), .unset, .unset, .unset, .unset, .unset, .unset, .unset] [(.double pB), (.double rad)])) _
      refine XS.daddS X7.here hx rfl (hb hby at_59) rfl nins (v := ins) hins ?_
      show Steps p.tables e below (T7.setTop (mkF m 60 #[.val (.int p1), .val (.int p2), .val (.int rr), .val (.double rad), .second, .val (.ref b1), .val (.int (1 : Int32)), .unset, .unset, .unset, .unset, .unset, .unset, .unset] [(.double ins)])) _
      refine XS.dstore X7.here hx rfl (hb hby at_60) rfl (l' := #[.val (.int p1), .val (.int p2), .val (.int rr), .val (.double rad), .second, .val (.ref b1), .val (.int (1 : Int32)), .val (.double ins), .second, .unset, .unset, .unset, .unset, .unset]) rfl ?_
      show Steps p.tables e below (T7.setTop (mkF m 62 #[.val (.int p1), .val (.int p2), .val (.int rr), .val (.double rad), .second, .val (.ref b1), .val (.int (1 : Int32)), .val (.double ins), .second, .unset, .unset, .unset, .unset, .unset] [])) _
      refine XS.dloadN X7.here hx rfl (hb hby at_62) rfl ?_
      show Steps p.tables e below (T7.setTop (mkF m 63 #[.val (.int p1), .val (.int p2), .val (.int rr), .val (.double rad), .second, .val (.ref b1), .val (.int (1 : Int32)), .val (.double ins), .second, .unset, .unset, .unset, .unset, .unset] [(.double rad)])) _
      refine XS.dloadN X7.here hx rfl (hb hby at_63) rfl ?_
      show Steps p.tables e below (T7.setTop (mkF m 64 #[.val (.int p1), .val (.int p2), .val (.int rr), .val (.double rad), .second, .val (.ref b1), .val (.int (1 : Int32)), .val (.double ins), .second, .unset, .unset, .unset, .unset, .unset] [(.double rad), (.double rad)])) _
      refine X7.ldc2DoubleC hx hown (mvT hZ (hw _ (List.mem_of_getElem? (i := 29) rfl))) (g := (mkF m 64 #[.val (.int p1), .val (.int p2), .val (.int rr), .val (.double rad), .second, .val (.ref b1), .val (.int (1 : Int32)), .val (.double ins), .second, .unset, .unset, .unset, .unset, .unset] [(.double rad), (.double rad)])) rfl (hb hby at_64) _ ?_
      show Steps p.tables e below (T7.setTop (mkF m 67 #[.val (.int p1), .val (.int p2), .val (.int rr), .val (.double rad), .second, .val (.ref b1), .val (.int (1 : Int32)), .val (.double ins), .second, .unset, .unset, .unset, .unset, .unset] [(.double (4487126258331716666 : UInt64)), (.double rad), (.double rad)])) _
      refine XS.dmulS X7.here hx rfl (hb hby at_67) rfl npC (v := pC) hpC ?_
      show Steps p.tables e below (T7.setTop (mkF m 68 #[.val (.int p1), .val (.int p2), .val (.int rr), .val (.double rad), .second, .val (.ref b1), .val (.int (1 : Int32)), .val (.double ins), .second, .unset, .unset, .unset, .unset, .unset] [(.double pC), (.double rad)])) _
      refine XS.daddS X7.here hx rfl (hb hby at_68) rfl nout (v := out) hout ?_
      show Steps p.tables e below (T7.setTop (mkF m 69 #[.val (.int p1), .val (.int p2), .val (.int rr), .val (.double rad), .second, .val (.ref b1), .val (.int (1 : Int32)), .val (.double ins), .second, .unset, .unset, .unset, .unset, .unset] [(.double out)])) _
      refine XS.dstore X7.here hx rfl (hb hby at_69) rfl (l' := #[.val (.int p1), .val (.int p2), .val (.int rr), .val (.double rad), .second, .val (.ref b1), .val (.int (1 : Int32)), .val (.double ins), .second, .val (.double out), .second, .unset, .unset, .unset]) rfl ?_
      show Steps p.tables e below (T7.setTop (mkF m 71 #[.val (.int p1), .val (.int p2), .val (.int rr), .val (.double rad), .second, .val (.ref b1), .val (.int (1 : Int32)), .val (.double ins), .second, .val (.double out), .second, .unset, .unset, .unset] [])) _
      refine XS.aload X7.here hx rfl (hb hby at_71) rfl rfl ?_
      show Steps p.tables e below (T7.setTop (mkF m 73 #[.val (.int p1), .val (.int p2), .val (.int rr), .val (.double rad), .second, .val (.ref b1), .val (.int (1 : Int32)), .val (.double ins), .second, .val (.double out), .second, .unset, .unset, .unset] [(.ref b1)])) _
      refine XS.dloadN X7.here hx rfl (hb hby at_73) rfl ?_
      exact k)
    obtain ⟨cq10, kq10, q10a, q10b, q10c⟩ := isOf hZ e7 E5c
    obtain ⟨_, _, ⟨T10, L10, k10, n10⟩, -, X10, ⟨Lc10, hQ10, l10, y10, z10⟩, st10⟩ := X7.virtualBack hx (y := (⟨"com/example/tidegauge/tidegauge/SphereCluster", "holdsAt", "(D)Z"⟩ : MethodName)) (z := (⟨"com/example/tidegauge/tidegauge/SphereCluster", "holdsAt", "(D)Z"⟩ : MethodName)) hown (mvT hZ (hw _ (List.mem_of_getElem? (i := 22) rfl))) (mvT hZ (hw _ (List.mem_of_getElem? (i := 23) rfl))) (notFace_of_selects (args := #[]) (mvT hZ (hw _ (List.mem_of_getElem? (i := 25) rfl)))) (mvT hZ (hw _ (List.mem_of_getElem? (i := 25) rfl))) (mvT hZ (hw _ (List.mem_of_getElem? (i := 24) rfl))) (by decide) (backOf (W := 0) (rm_h l Z a0 hw [] b1 rad T5.heap n0 (Nat.le_trans Z0 O5.1) rad pA lim F5c npA hpA nlim hlim _ rfl (1 : Int32) rF) hZ (hw _ (List.mem_of_getElem? (i := 26) rfl)) (hw _ (List.mem_of_getElem? (i := 3) rfl)) (by decide) (by decide)) q10a q10c (g := (mkF m 74 #[.val (.int p1), .val (.int p2), .val (.int rr), .val (.double rad), .second, .val (.ref b1), .val (.int (1 : Int32)), .val (.double ins), .second, .val (.double out), .second, .unset, .unset, .unset] [(.double rad), (.ref b1)])) rfl (by rw [hml]; rfl) (Steps.refl _) (argsL := [(.double rad)]) (rest := []) (lenOf pd_2 rfl) rfl (by show 2 * 0 + _ ≤ _; exact Nat.le_of_eq rfl) (hb hby at_74) (fun _ _ => ⟨rfl, e7, (by decide : 2 + 0 ≤ _), (by decide : 4 + 0 ≤ _)⟩)
    dsimp only [Pt.U, Pt.locs, Pt.cells, Pt.slots] at X10 l10 y10 z10 st10 hQ10
    rw [y10, z10] at X10
    obtain ⟨rfl, N10q, e10⟩ := hQ10
    have N10 : Fr n0 L10 := by rw [l10]; exact Fr.app N7 N10q
    obtain ⟨cq11, kq11, q11a, q11b, q11c⟩ := isOf hZ e10 E5c
    obtain ⟨_, _, ⟨T11, L11, k11, n11⟩, -, X11, ⟨Lc11, hQ11, l11, y11, z11⟩, st11⟩ := X10.virtualBack hx (y := (⟨"com/example/tidegauge/tidegauge/SphereCluster", "holdsAt", "(D)Z"⟩ : MethodName)) (z := (⟨"com/example/tidegauge/tidegauge/SphereCluster", "holdsAt", "(D)Z"⟩ : MethodName)) hown (mvT hZ (hw _ (List.mem_of_getElem? (i := 22) rfl))) (mvT hZ (hw _ (List.mem_of_getElem? (i := 23) rfl))) (notFace_of_selects (args := #[]) (mvT hZ (hw _ (List.mem_of_getElem? (i := 25) rfl)))) (mvT hZ (hw _ (List.mem_of_getElem? (i := 25) rfl))) (mvT hZ (hw _ (List.mem_of_getElem? (i := 24) rfl))) (by decide) (backOf (W := 0) (rm_h l Z a0 hw [] b1 ins T5.heap n0 (Nat.le_trans Z0 O5.1) rad pA lim F5c npA hpA nlim hlim _ rfl (1 : Int32) rC) hZ (hw _ (List.mem_of_getElem? (i := 26) rfl)) (hw _ (List.mem_of_getElem? (i := 3) rfl)) (by decide) (by decide)) q11a q11c (g := (mkF m 83 #[.val (.int p1), .val (.int p2), .val (.int rr), .val (.double rad), .second, .val (.ref b1), .val (.int (1 : Int32)), .val (.double ins), .second, .val (.double out), .second, .val (.int (1 : Int32)), .unset, .unset] [(.double ins), (.ref b1)])) rfl (by rw [hml]; rfl) (Steps.refl _) (argsL := [(.double ins)]) (rest := []) (lenOf pd_2 rfl) rfl (by show 2 * 0 + _ ≤ _; exact Nat.le_of_eq rfl) (hb hby at_83) (fun _ _ => ⟨rfl, e10, (by decide : 2 + 0 ≤ _), (by decide : 4 + 0 ≤ _)⟩)
    dsimp only [Pt.U, Pt.locs, Pt.cells, Pt.slots] at X11 l11 y11 z11 st11 hQ11
    rw [y11, z11] at X11
    obtain ⟨rfl, N11q, e11⟩ := hQ11
    have N11 : Fr n0 L11 := by rw [l11]; exact Fr.app N10 N11q
    have pre12 : ∀ t, Steps p.tables e below (T11.setTop (mkF m 88 #[.val (.int p1), .val (.int p2), .val (.int rr), .val (.double rad), .second, .val (.ref b1), .val (.int (1 : Int32)), .val (.double ins), .second, .val (.double out), .second, .val (.int (1 : Int32)), .val (.int (1 : Int32)), .unset] [])) t → Steps p.tables e below (s₁.setTop (entryFrame m #[(.int p1), (.int p2)] maxLocals)) t := fun t k => pre9 t (by
      show Steps p.tables e below (T7.setTop (mkF m 74 #[.val (.int p1), .val (.int p2), .val (.int rr), .val (.double rad), .second, .val (.ref b1), .val (.int (1 : Int32)), .val (.double ins), .second, .val (.double out), .second, .unset, .unset, .unset] [(.double rad), (.ref b1)])) _
      refine st10.trans ?_
      show Steps p.tables e below (T10.setTop (mkF m 77 #[.val (.int p1), .val (.int p2), .val (.int rr), .val (.double rad), .second, .val (.ref b1), .val (.int (1 : Int32)), .val (.double ins), .second, .val (.double out), .second, .unset, .unset, .unset] [(.int (1 : Int32))])) _
      refine XS.istore X10.here hx rfl (hb hby at_77) rfl (l' := #[.val (.int p1), .val (.int p2), .val (.int rr), .val (.double rad), .second, .val (.ref b1), .val (.int (1 : Int32)), .val (.double ins), .second, .val (.double out), .second, .val (.int (1 : Int32)), .unset, .unset]) rfl ?_
      show Steps p.tables e below (T10.setTop (mkF m 79 #[.val (.int p1), .val (.int p2), .val (.int rr), .val (.double rad), .second, .val (.ref b1), .val (.int (1 : Int32)), .val (.double ins), .second, .val (.double out), .second, .val (.int (1 : Int32)), .unset, .unset] [])) _
      refine XS.aload X10.here hx rfl (hb hby at_79) rfl rfl ?_
      show Steps p.tables e below (T10.setTop (mkF m 81 #[.val (.int p1), .val (.int p2), .val (.int rr), .val (.double rad), .second, .val (.ref b1), .val (.int (1 : Int32)), .val (.double ins), .second, .val (.double out), .second, .val (.int (1 : Int32)), .unset, .unset] [(.ref b1)])) _
      refine XS.dload X10.here hx rfl (hb hby at_81) rfl ?_
      show Steps p.tables e below (T10.setTop (mkF m 83 #[.val (.int p1), .val (.int p2), .val (.int rr), .val (.double rad), .second, .val (.ref b1), .val (.int (1 : Int32)), .val (.double ins), .second, .val (.double out), .second, .val (.int (1 : Int32)), .unset, .unset] [(.double ins), (.ref b1)])) _
      refine st11.trans ?_
      show Steps p.tables e below (T11.setTop (mkF m 86 #[.val (.int p1), .val (.int p2), .val (.int rr), .val (.double rad), .second, .val (.ref b1), .val (.int (1 : Int32)), .val (.double ins), .second, .val (.double out), .second, .val (.int (1 : Int32)), .unset, .unset] [(.int (1 : Int32))])) _
      refine XS.istore X11.here hx rfl (hb hby at_86) rfl (l' := #[.val (.int p1), .val (.int p2), .val (.int rr), .val (.double rad), .second, .val (.ref b1), .val (.int (1 : Int32)), .val (.double ins), .second, .val (.double out), .second, .val (.int (1 : Int32)), .val (.int (1 : Int32)), .unset]) rfl ?_
      exact k)
    by_cases hq2 : rr = (0 : Int32)
    · have _ := 0
      obtain ⟨cq13, kq13, q13a, q13b, q13c⟩ := isOf hZ e11 E5c
      obtain ⟨_, _, ⟨T13, L13, k13, n13⟩, -, X13, ⟨Lc13, hQ13, l13, y13, z13⟩, st13⟩ := X11.virtualBack hx (y := (⟨"com/example/tidegauge/tidegauge/SphereCluster", "holdsAt", "(D)Z"⟩ : MethodName)) (z := (⟨"com/example/tidegauge/tidegauge/SphereCluster", "holdsAt", "(D)Z"⟩ : MethodName)) hown (mvT hZ (hw _ (List.mem_of_getElem? (i := 22) rfl))) (mvT hZ (hw _ (List.mem_of_getElem? (i := 23) rfl))) (notFace_of_selects (args := #[]) (mvT hZ (hw _ (List.mem_of_getElem? (i := 25) rfl)))) (mvT hZ (hw _ (List.mem_of_getElem? (i := 25) rfl))) (mvT hZ (hw _ (List.mem_of_getElem? (i := 24) rfl))) (by decide) (backOf (W := 0) (rm_h l Z a0 hw [] b1 out T5.heap n0 (Nat.le_trans Z0 O5.1) rad pA lim F5c npA hpA nlim hlim _ rfl (1 : Int32) (rD hq2)) hZ (hw _ (List.mem_of_getElem? (i := 26) rfl)) (hw _ (List.mem_of_getElem? (i := 3) rfl)) (by decide) (by decide)) q13a q13c (g := (mkF m 92 #[.val (.int p1), .val (.int p2), .val (.int rr), .val (.double rad), .second, .val (.ref b1), .val (.int (1 : Int32)), .val (.double ins), .second, .val (.double out), .second, .val (.int (1 : Int32)), .val (.int (1 : Int32)), .unset] [(.double out), (.ref b1)])) rfl (by rw [hml]; rfl) (Steps.refl _) (argsL := [(.double out)]) (rest := []) (lenOf pd_2 rfl) rfl (by show 2 * 0 + _ ≤ _; exact Nat.le_of_eq rfl) (hb hby at_92) (fun _ _ => ⟨rfl, e11, (by decide : 2 + 0 ≤ _), (by decide : 4 + 0 ≤ _)⟩)
      dsimp only [Pt.U, Pt.locs, Pt.cells, Pt.slots] at X13 l13 y13 z13 st13 hQ13
      rw [y13, z13] at X13
      obtain ⟨rfl, N13q, e13⟩ := hQ13
      have N13 : Fr n0 L13 := by rw [l13]; exact Fr.app N11 N13q
      have pre14 : ∀ t, Steps p.tables e below (T13.setTop (mkF m 119 #[.val (.int p1), .val (.int p2), .val (.int rr), .val (.double rad), .second, .val (.ref b1), .val (.int (1 : Int32)), .val (.double ins), .second, .val (.double out), .second, .val (.int (1 : Int32)), .val (.int (1 : Int32)), .val (.int (1 : Int32))] [])) t → Steps p.tables e below (s₁.setTop (entryFrame m #[(.int p1), (.int p2)] maxLocals)) t := fun t k => pre12 t (by
        show Steps p.tables e below (T11.setTop (mkF m 88 #[.val (.int p1), .val (.int p2), .val (.int rr), .val (.double rad), .second, .val (.ref b1), .val (.int (1 : Int32)), .val (.double ins), .second, .val (.double out), .second, .val (.int (1 : Int32)), .val (.int (1 : Int32)), .unset] [])) _
        refine XS.aload X11.here hx rfl (hb hby at_88) rfl rfl ?_
        show Steps p.tables e below (T11.setTop (mkF m 90 #[.val (.int p1), .val (.int p2), .val (.int rr), .val (.double rad), .second, .val (.ref b1), .val (.int (1 : Int32)), .val (.double ins), .second, .val (.double out), .second, .val (.int (1 : Int32)), .val (.int (1 : Int32)), .unset] [(.ref b1)])) _
        refine XS.dload X11.here hx rfl (hb hby at_90) rfl ?_
        show Steps p.tables e below (T11.setTop (mkF m 92 #[.val (.int p1), .val (.int p2), .val (.int rr), .val (.double rad), .second, .val (.ref b1), .val (.int (1 : Int32)), .val (.double ins), .second, .val (.double out), .second, .val (.int (1 : Int32)), .val (.int (1 : Int32)), .unset] [(.double out), (.ref b1)])) _
        refine st13.trans ?_
        show Steps p.tables e below (T13.setTop (mkF m 95 #[.val (.int p1), .val (.int p2), .val (.int rr), .val (.double rad), .second, .val (.ref b1), .val (.int (1 : Int32)), .val (.double ins), .second, .val (.double out), .second, .val (.int (1 : Int32)), .val (.int (1 : Int32)), .unset] [(.int (1 : Int32))])) _
        refine XS.iloadN X13.here hx rfl (hb hby at_95) rfl ?_
        show Steps p.tables e below (T13.setTop (mkF m 96 #[.val (.int p1), .val (.int p2), .val (.int rr), .val (.double rad), .second, .val (.ref b1), .val (.int (1 : Int32)), .val (.double ins), .second, .val (.double out), .second, .val (.int (1 : Int32)), .val (.int (1 : Int32)), .unset] [(.int rr), (.int (1 : Int32))])) _
        refine XS.ifNo X13.here hx rfl (hb hby at_96) rfl ((if0 _ _).trans (teq hq2).2) ?_
        show Steps p.tables e below (T13.setTop (mkF m 99 #[.val (.int p1), .val (.int p2), .val (.int rr), .val (.double rad), .second, .val (.ref b1), .val (.int (1 : Int32)), .val (.double ins), .second, .val (.double out), .second, .val (.int (1 : Int32)), .val (.int (1 : Int32)), .unset] [(.int (1 : Int32))])) _
        refine XT.iconstV X13.here hx rfl (1 : Int32) (hb hby at_99) (by decide) ?_
        show Steps p.tables e below (T13.setTop (mkF m 100 #[.val (.int p1), .val (.int p2), .val (.int rr), .val (.double rad), .second, .val (.ref b1), .val (.int (1 : Int32)), .val (.double ins), .second, .val (.double out), .second, .val (.int (1 : Int32)), .val (.int (1 : Int32)), .unset] [(.int (1 : Int32)), (.int (1 : Int32))])) _
        refine XS.goto X13.here hx rfl (pc0 := 100) (pc' := 104) rfl (hb hby at_100) (by decide) (by decide) ?_
        show Steps p.tables e below (T13.setTop (mkF m 104 #[.val (.int p1), .val (.int p2), .val (.int rr), .val (.double rad), .second, .val (.ref b1), .val (.int (1 : Int32)), .val (.double ins), .second, .val (.double out), .second, .val (.int (1 : Int32)), .val (.int (1 : Int32)), .unset] [(.int (1 : Int32)), (.int (1 : Int32))])) _
        refine XS.icmpNo X13.here hx rfl (hb hby at_104) rfl (teq (by decide : ((1 : Int32) = (1 : Int32)))).2 ?_
        show Steps p.tables e below (T13.setTop (mkF m 107 #[.val (.int p1), .val (.int p2), .val (.int rr), .val (.double rad), .second, .val (.ref b1), .val (.int (1 : Int32)), .val (.double ins), .second, .val (.double out), .second, .val (.int (1 : Int32)), .val (.int (1 : Int32)), .unset] [])) _
        refine XT.iconstV X13.here hx rfl (1 : Int32) (hb hby at_107) (by decide) ?_
        show Steps p.tables e below (T13.setTop (mkF m 108 #[.val (.int p1), .val (.int p2), .val (.int rr), .val (.double rad), .second, .val (.ref b1), .val (.int (1 : Int32)), .val (.double ins), .second, .val (.double out), .second, .val (.int (1 : Int32)), .val (.int (1 : Int32)), .unset] [(.int (1 : Int32))])) _
        refine XS.goto X13.here hx rfl (pc0 := 108) (pc' := 112) rfl (hb hby at_108) (by decide) (by decide) ?_
        show Steps p.tables e below (T13.setTop (mkF m 112 #[.val (.int p1), .val (.int p2), .val (.int rr), .val (.double rad), .second, .val (.ref b1), .val (.int (1 : Int32)), .val (.double ins), .second, .val (.double out), .second, .val (.int (1 : Int32)), .val (.int (1 : Int32)), .unset] [(.int (1 : Int32))])) _
        refine XS.istore X13.here hx rfl (hb hby at_112) rfl (l' := #[.val (.int p1), .val (.int p2), .val (.int rr), .val (.double rad), .second, .val (.ref b1), .val (.int (1 : Int32)), .val (.double ins), .second, .val (.double out), .second, .val (.int (1 : Int32)), .val (.int (1 : Int32)), .val (.int (1 : Int32))]) rfl ?_
        show Steps p.tables e below (T13.setTop (mkF m 114 #[.val (.int p1), .val (.int p2), .val (.int rr), .val (.double rad), .second, .val (.ref b1), .val (.int (1 : Int32)), .val (.double ins), .second, .val (.double out), .second, .val (.int (1 : Int32)), .val (.int (1 : Int32)), .val (.int (1 : Int32))] [])) _
        refine XS.iload X13.here hx rfl (hb hby at_114) rfl ?_
        show Steps p.tables e below (T13.setTop (mkF m 116 #[.val (.int p1), .val (.int p2), .val (.int rr), .val (.double rad), .second, .val (.ref b1), .val (.int (1 : Int32)), .val (.double ins), .second, .val (.double out), .second, .val (.int (1 : Int32)), .val (.int (1 : Int32)), .val (.int (1 : Int32))] [(.int (1 : Int32))])) _
        refine XS.ifNo X13.here hx rfl (hb hby at_116) rfl ((if0 _ _).trans (feq (by decide : ¬ ((1 : Int32) = (0 : Int32)))).1) ?_
        exact k)
      have pre15 : ∀ t, Steps p.tables e below (T13.setTop (mkF m 139 #[.val (.int p1), .val (.int p2), .val (.int rr), .val (.double rad), .second, .val (.ref b1), .val (.int (1 : Int32)), .val (.double ins), .second, .val (.double out), .second, .val (.int (1 : Int32)), .val (.int (1 : Int32)), .val (.int (1 : Int32))] [(.int (1 : Int32))])) t → Steps p.tables e below (s₁.setTop (entryFrame m #[(.int p1), (.int p2)] maxLocals)) t := fun t k => pre14 t (by
        show Steps p.tables e below (T13.setTop (mkF m 119 #[.val (.int p1), .val (.int p2), .val (.int rr), .val (.double rad), .second, .val (.ref b1), .val (.int (1 : Int32)), .val (.double ins), .second, .val (.double out), .second, .val (.int (1 : Int32)), .val (.int (1 : Int32)), .val (.int (1 : Int32))] [])) _
        refine XS.iload X13.here hx rfl (hb hby at_119) rfl ?_
        show Steps p.tables e below (T13.setTop (mkF m 121 #[.val (.int p1), .val (.int p2), .val (.int rr), .val (.double rad), .second, .val (.ref b1), .val (.int (1 : Int32)), .val (.double ins), .second, .val (.double out), .second, .val (.int (1 : Int32)), .val (.int (1 : Int32)), .val (.int (1 : Int32))] [(.int (1 : Int32))])) _
        refine XS.ifNo X13.here hx rfl (hb hby at_121) rfl ((if0 _ _).trans (feq (by decide : ¬ ((1 : Int32) = (0 : Int32)))).1) ?_
        show Steps p.tables e below (T13.setTop (mkF m 124 #[.val (.int p1), .val (.int p2), .val (.int rr), .val (.double rad), .second, .val (.ref b1), .val (.int (1 : Int32)), .val (.double ins), .second, .val (.double out), .second, .val (.int (1 : Int32)), .val (.int (1 : Int32)), .val (.int (1 : Int32))] [])) _
        refine XS.iload X13.here hx rfl (hb hby at_124) rfl ?_
        show Steps p.tables e below (T13.setTop (mkF m 126 #[.val (.int p1), .val (.int p2), .val (.int rr), .val (.double rad), .second, .val (.ref b1), .val (.int (1 : Int32)), .val (.double ins), .second, .val (.double out), .second, .val (.int (1 : Int32)), .val (.int (1 : Int32)), .val (.int (1 : Int32))] [(.int (1 : Int32))])) _
        refine XS.ifNo X13.here hx rfl (hb hby at_126) rfl ((if0 _ _).trans (feq (by decide : ¬ ((1 : Int32) = (0 : Int32)))).1) ?_
        show Steps p.tables e below (T13.setTop (mkF m 129 #[.val (.int p1), .val (.int p2), .val (.int rr), .val (.double rad), .second, .val (.ref b1), .val (.int (1 : Int32)), .val (.double ins), .second, .val (.double out), .second, .val (.int (1 : Int32)), .val (.int (1 : Int32)), .val (.int (1 : Int32))] [])) _
        refine XS.iload X13.here hx rfl (hb hby at_129) rfl ?_
        show Steps p.tables e below (T13.setTop (mkF m 131 #[.val (.int p1), .val (.int p2), .val (.int rr), .val (.double rad), .second, .val (.ref b1), .val (.int (1 : Int32)), .val (.double ins), .second, .val (.double out), .second, .val (.int (1 : Int32)), .val (.int (1 : Int32)), .val (.int (1 : Int32))] [(.int (1 : Int32))])) _
        refine XS.ifNo X13.here hx rfl (hb hby at_131) rfl ((if0 _ _).trans (feq (by decide : ¬ ((1 : Int32) = (0 : Int32)))).1) ?_
        show Steps p.tables e below (T13.setTop (mkF m 134 #[.val (.int p1), .val (.int p2), .val (.int rr), .val (.double rad), .second, .val (.ref b1), .val (.int (1 : Int32)), .val (.double ins), .second, .val (.double out), .second, .val (.int (1 : Int32)), .val (.int (1 : Int32)), .val (.int (1 : Int32))] [])) _
        refine XT.iconstV X13.here hx rfl (1 : Int32) (hb hby at_134) (by decide) ?_
        show Steps p.tables e below (T13.setTop (mkF m 135 #[.val (.int p1), .val (.int p2), .val (.int rr), .val (.double rad), .second, .val (.ref b1), .val (.int (1 : Int32)), .val (.double ins), .second, .val (.double out), .second, .val (.int (1 : Int32)), .val (.int (1 : Int32)), .val (.int (1 : Int32))] [(.int (1 : Int32))])) _
        refine XS.goto X13.here hx rfl (pc0 := 135) (pc' := 139) rfl (hb hby at_135) (by decide) (by decide) ?_
        exact k)
      obtain ⟨fs, hr, hrun, hended, hW, hsame⟩ := X13.leave (v := some (.int (1 : Int32))) (fun h => by rw [Bd.returns] at h; cases h)
      refine ⟨_, _, pre15 _ ?_, hrun, hended, _, _, rfl, ?_, ⟨_, rfl⟩, hW, hsame.mono (by decide) (by decide)⟩
      · show Steps p.tables e below (T13.setTop (mkF m 139 #[.val (.int p1), .val (.int p2), .val (.int rr), .val (.double rad), .second, .val (.ref b1), .val (.int (1 : Int32)), .val (.double ins), .second, .val (.double out), .second, .val (.int (1 : Int32)), .val (.int (1 : Int32)), .val (.int (1 : Int32))] [(.int (1 : Int32))])) _
        exact retOut X13 hx Bd.returns rfl (Or.inl ⟨rfl, by simp, _, rfl⟩) (hb hby at_139) hr
      · show Q0 Z p1 p2  h0 n0 _ T13.heap _
        rw [e13]
        exact ⟨rfl, N13⟩
    · have _ := 0
      obtain ⟨cq16, kq16, q16a, q16b, q16c⟩ := isOf hZ e11 E5c
      obtain ⟨_, _, ⟨T16, L16, k16, n16⟩, -, X16, ⟨Lc16, hQ16, l16, y16, z16⟩, st16⟩ := X11.virtualBack hx (y := (⟨"com/example/tidegauge/tidegauge/SphereCluster", "holdsAt", "(D)Z"⟩ : MethodName)) (z := (⟨"com/example/tidegauge/tidegauge/SphereCluster", "holdsAt", "(D)Z"⟩ : MethodName)) hown (mvT hZ (hw _ (List.mem_of_getElem? (i := 22) rfl))) (mvT hZ (hw _ (List.mem_of_getElem? (i := 23) rfl))) (notFace_of_selects (args := #[]) (mvT hZ (hw _ (List.mem_of_getElem? (i := 25) rfl)))) (mvT hZ (hw _ (List.mem_of_getElem? (i := 25) rfl))) (mvT hZ (hw _ (List.mem_of_getElem? (i := 24) rfl))) (by decide) (backOf (W := 0) (rm_h l Z a0 hw [] b1 out T5.heap n0 (Nat.le_trans Z0 O5.1) rad pA lim F5c npA hpA nlim hlim _ rfl (0 : Int32) (rE hq2)) hZ (hw _ (List.mem_of_getElem? (i := 26) rfl)) (hw _ (List.mem_of_getElem? (i := 3) rfl)) (by decide) (by decide)) q16a q16c (g := (mkF m 92 #[.val (.int p1), .val (.int p2), .val (.int rr), .val (.double rad), .second, .val (.ref b1), .val (.int (1 : Int32)), .val (.double ins), .second, .val (.double out), .second, .val (.int (1 : Int32)), .val (.int (1 : Int32)), .unset] [(.double out), (.ref b1)])) rfl (by rw [hml]; rfl) (Steps.refl _) (argsL := [(.double out)]) (rest := []) (lenOf pd_2 rfl) rfl (by show 2 * 0 + _ ≤ _; exact Nat.le_of_eq rfl) (hb hby at_92) (fun _ _ => ⟨rfl, e11, (by decide : 2 + 0 ≤ _), (by decide : 4 + 0 ≤ _)⟩)
      dsimp only [Pt.U, Pt.locs, Pt.cells, Pt.slots] at X16 l16 y16 z16 st16 hQ16
      rw [y16, z16] at X16
      obtain ⟨rfl, N16q, e16⟩ := hQ16
      have N16 : Fr n0 L16 := by rw [l16]; exact Fr.app N11 N16q
      have pre17 : ∀ t, Steps p.tables e below (T16.setTop (mkF m 121 #[.val (.int p1), .val (.int p2), .val (.int rr), .val (.double rad), .second, .val (.ref b1), .val (.int (1 : Int32)), .val (.double ins), .second, .val (.double out), .second, .val (.int (1 : Int32)), .val (.int (1 : Int32)), .val (.int (1 : Int32))] [(.int (1 : Int32))])) t → Steps p.tables e below (s₁.setTop (entryFrame m #[(.int p1), (.int p2)] maxLocals)) t := fun t k => pre12 t (by
        show Steps p.tables e below (T11.setTop (mkF m 88 #[.val (.int p1), .val (.int p2), .val (.int rr), .val (.double rad), .second, .val (.ref b1), .val (.int (1 : Int32)), .val (.double ins), .second, .val (.double out), .second, .val (.int (1 : Int32)), .val (.int (1 : Int32)), .unset] [])) _
        refine XS.aload X11.here hx rfl (hb hby at_88) rfl rfl ?_
        show Steps p.tables e below (T11.setTop (mkF m 90 #[.val (.int p1), .val (.int p2), .val (.int rr), .val (.double rad), .second, .val (.ref b1), .val (.int (1 : Int32)), .val (.double ins), .second, .val (.double out), .second, .val (.int (1 : Int32)), .val (.int (1 : Int32)), .unset] [(.ref b1)])) _
        refine XS.dload X11.here hx rfl (hb hby at_90) rfl ?_
        show Steps p.tables e below (T11.setTop (mkF m 92 #[.val (.int p1), .val (.int p2), .val (.int rr), .val (.double rad), .second, .val (.ref b1), .val (.int (1 : Int32)), .val (.double ins), .second, .val (.double out), .second, .val (.int (1 : Int32)), .val (.int (1 : Int32)), .unset] [(.double out), (.ref b1)])) _
        refine st16.trans ?_
        show Steps p.tables e below (T16.setTop (mkF m 95 #[.val (.int p1), .val (.int p2), .val (.int rr), .val (.double rad), .second, .val (.ref b1), .val (.int (1 : Int32)), .val (.double ins), .second, .val (.double out), .second, .val (.int (1 : Int32)), .val (.int (1 : Int32)), .unset] [(.int (0 : Int32))])) _
        refine XS.iloadN X16.here hx rfl (hb hby at_95) rfl ?_
        show Steps p.tables e below (T16.setTop (mkF m 96 #[.val (.int p1), .val (.int p2), .val (.int rr), .val (.double rad), .second, .val (.ref b1), .val (.int (1 : Int32)), .val (.double ins), .second, .val (.double out), .second, .val (.int (1 : Int32)), .val (.int (1 : Int32)), .unset] [(.int rr), (.int (0 : Int32))])) _
        refine XS.ifYes X16.here hx rfl (pc0 := 96) (pc' := 103) rfl (hb hby at_96) rfl ((if0 _ _).trans (feq hq2).2) (by decide) (by decide) ?_
        show Steps p.tables e below (T16.setTop (mkF m 103 #[.val (.int p1), .val (.int p2), .val (.int rr), .val (.double rad), .second, .val (.ref b1), .val (.int (1 : Int32)), .val (.double ins), .second, .val (.double out), .second, .val (.int (1 : Int32)), .val (.int (1 : Int32)), .unset] [(.int (0 : Int32))])) _
        refine XT.iconstV X16.here hx rfl (0 : Int32) (hb hby at_103) (by decide) ?_
        show Steps p.tables e below (T16.setTop (mkF m 104 #[.val (.int p1), .val (.int p2), .val (.int rr), .val (.double rad), .second, .val (.ref b1), .val (.int (1 : Int32)), .val (.double ins), .second, .val (.double out), .second, .val (.int (1 : Int32)), .val (.int (1 : Int32)), .unset] [(.int (0 : Int32)), (.int (0 : Int32))])) _
        refine XS.icmpNo X16.here hx rfl (hb hby at_104) rfl (teq (by decide : ((0 : Int32) = (0 : Int32)))).2 ?_
        show Steps p.tables e below (T16.setTop (mkF m 107 #[.val (.int p1), .val (.int p2), .val (.int rr), .val (.double rad), .second, .val (.ref b1), .val (.int (1 : Int32)), .val (.double ins), .second, .val (.double out), .second, .val (.int (1 : Int32)), .val (.int (1 : Int32)), .unset] [])) _
        refine XT.iconstV X16.here hx rfl (1 : Int32) (hb hby at_107) (by decide) ?_
        show Steps p.tables e below (T16.setTop (mkF m 108 #[.val (.int p1), .val (.int p2), .val (.int rr), .val (.double rad), .second, .val (.ref b1), .val (.int (1 : Int32)), .val (.double ins), .second, .val (.double out), .second, .val (.int (1 : Int32)), .val (.int (1 : Int32)), .unset] [(.int (1 : Int32))])) _
        refine XS.goto X16.here hx rfl (pc0 := 108) (pc' := 112) rfl (hb hby at_108) (by decide) (by decide) ?_
        show Steps p.tables e below (T16.setTop (mkF m 112 #[.val (.int p1), .val (.int p2), .val (.int rr), .val (.double rad), .second, .val (.ref b1), .val (.int (1 : Int32)), .val (.double ins), .second, .val (.double out), .second, .val (.int (1 : Int32)), .val (.int (1 : Int32)), .unset] [(.int (1 : Int32))])) _
        refine XS.istore X16.here hx rfl (hb hby at_112) rfl (l' := #[.val (.int p1), .val (.int p2), .val (.int rr), .val (.double rad), .second, .val (.ref b1), .val (.int (1 : Int32)), .val (.double ins), .second, .val (.double out), .second, .val (.int (1 : Int32)), .val (.int (1 : Int32)), .val (.int (1 : Int32))]) rfl ?_
        show Steps p.tables e below (T16.setTop (mkF m 114 #[.val (.int p1), .val (.int p2), .val (.int rr), .val (.double rad), .second, .val (.ref b1), .val (.int (1 : Int32)), .val (.double ins), .second, .val (.double out), .second, .val (.int (1 : Int32)), .val (.int (1 : Int32)), .val (.int (1 : Int32))] [])) _
        refine XS.iload X16.here hx rfl (hb hby at_114) rfl ?_
        show Steps p.tables e below (T16.setTop (mkF m 116 #[.val (.int p1), .val (.int p2), .val (.int rr), .val (.double rad), .second, .val (.ref b1), .val (.int (1 : Int32)), .val (.double ins), .second, .val (.double out), .second, .val (.int (1 : Int32)), .val (.int (1 : Int32)), .val (.int (1 : Int32))] [(.int (1 : Int32))])) _
        refine XS.ifNo X16.here hx rfl (hb hby at_116) rfl ((if0 _ _).trans (feq (by decide : ¬ ((1 : Int32) = (0 : Int32)))).1) ?_
        show Steps p.tables e below (T16.setTop (mkF m 119 #[.val (.int p1), .val (.int p2), .val (.int rr), .val (.double rad), .second, .val (.ref b1), .val (.int (1 : Int32)), .val (.double ins), .second, .val (.double out), .second, .val (.int (1 : Int32)), .val (.int (1 : Int32)), .val (.int (1 : Int32))] [])) _
        refine XS.iload X16.here hx rfl (hb hby at_119) rfl ?_
        exact k)
      have pre18 : ∀ t, Steps p.tables e below (T16.setTop (mkF m 139 #[.val (.int p1), .val (.int p2), .val (.int rr), .val (.double rad), .second, .val (.ref b1), .val (.int (1 : Int32)), .val (.double ins), .second, .val (.double out), .second, .val (.int (1 : Int32)), .val (.int (1 : Int32)), .val (.int (1 : Int32))] [(.int (1 : Int32))])) t → Steps p.tables e below (s₁.setTop (entryFrame m #[(.int p1), (.int p2)] maxLocals)) t := fun t k => pre17 t (by
        show Steps p.tables e below (T16.setTop (mkF m 121 #[.val (.int p1), .val (.int p2), .val (.int rr), .val (.double rad), .second, .val (.ref b1), .val (.int (1 : Int32)), .val (.double ins), .second, .val (.double out), .second, .val (.int (1 : Int32)), .val (.int (1 : Int32)), .val (.int (1 : Int32))] [(.int (1 : Int32))])) _
        refine XS.ifNo X16.here hx rfl (hb hby at_121) rfl ((if0 _ _).trans (feq (by decide : ¬ ((1 : Int32) = (0 : Int32)))).1) ?_
        show Steps p.tables e below (T16.setTop (mkF m 124 #[.val (.int p1), .val (.int p2), .val (.int rr), .val (.double rad), .second, .val (.ref b1), .val (.int (1 : Int32)), .val (.double ins), .second, .val (.double out), .second, .val (.int (1 : Int32)), .val (.int (1 : Int32)), .val (.int (1 : Int32))] [])) _
        refine XS.iload X16.here hx rfl (hb hby at_124) rfl ?_
        show Steps p.tables e below (T16.setTop (mkF m 126 #[.val (.int p1), .val (.int p2), .val (.int rr), .val (.double rad), .second, .val (.ref b1), .val (.int (1 : Int32)), .val (.double ins), .second, .val (.double out), .second, .val (.int (1 : Int32)), .val (.int (1 : Int32)), .val (.int (1 : Int32))] [(.int (1 : Int32))])) _
        refine XS.ifNo X16.here hx rfl (hb hby at_126) rfl ((if0 _ _).trans (feq (by decide : ¬ ((1 : Int32) = (0 : Int32)))).1) ?_
        show Steps p.tables e below (T16.setTop (mkF m 129 #[.val (.int p1), .val (.int p2), .val (.int rr), .val (.double rad), .second, .val (.ref b1), .val (.int (1 : Int32)), .val (.double ins), .second, .val (.double out), .second, .val (.int (1 : Int32)), .val (.int (1 : Int32)), .val (.int (1 : Int32))] [])) _
        refine XS.iload X16.here hx rfl (hb hby at_129) rfl ?_
        show Steps p.tables e below (T16.setTop (mkF m 131 #[.val (.int p1), .val (.int p2), .val (.int rr), .val (.double rad), .second, .val (.ref b1), .val (.int (1 : Int32)), .val (.double ins), .second, .val (.double out), .second, .val (.int (1 : Int32)), .val (.int (1 : Int32)), .val (.int (1 : Int32))] [(.int (1 : Int32))])) _
        refine XS.ifNo X16.here hx rfl (hb hby at_131) rfl ((if0 _ _).trans (feq (by decide : ¬ ((1 : Int32) = (0 : Int32)))).1) ?_
        show Steps p.tables e below (T16.setTop (mkF m 134 #[.val (.int p1), .val (.int p2), .val (.int rr), .val (.double rad), .second, .val (.ref b1), .val (.int (1 : Int32)), .val (.double ins), .second, .val (.double out), .second, .val (.int (1 : Int32)), .val (.int (1 : Int32)), .val (.int (1 : Int32))] [])) _
        refine XT.iconstV X16.here hx rfl (1 : Int32) (hb hby at_134) (by decide) ?_
        show Steps p.tables e below (T16.setTop (mkF m 135 #[.val (.int p1), .val (.int p2), .val (.int rr), .val (.double rad), .second, .val (.ref b1), .val (.int (1 : Int32)), .val (.double ins), .second, .val (.double out), .second, .val (.int (1 : Int32)), .val (.int (1 : Int32)), .val (.int (1 : Int32))] [(.int (1 : Int32))])) _
        refine XS.goto X16.here hx rfl (pc0 := 135) (pc' := 139) rfl (hb hby at_135) (by decide) (by decide) ?_
        exact k)
      obtain ⟨fs, hr, hrun, hended, hW, hsame⟩ := X16.leave (v := some (.int (1 : Int32))) (fun h => by rw [Bd.returns] at h; cases h)
      refine ⟨_, _, pre18 _ ?_, hrun, hended, _, _, rfl, ?_, ⟨_, rfl⟩, hW, hsame.mono (by decide) (by decide)⟩
      · show Steps p.tables e below (T16.setTop (mkF m 139 #[.val (.int p1), .val (.int p2), .val (.int rr), .val (.double rad), .second, .val (.ref b1), .val (.int (1 : Int32)), .val (.double ins), .second, .val (.double out), .second, .val (.int (1 : Int32)), .val (.int (1 : Int32)), .val (.int (1 : Int32))] [(.int (1 : Int32))])) _
        exact retOut X16 hx Bd.returns rfl (Or.inl ⟨rfl, by simp, _, rfl⟩) (hb hby at_139) hr
      · show Q0 Z p1 p2  h0 n0 _ T16.heap _
        rw [e16]
        exact ⟨rfl, N16⟩
  · have _ := 0
    obtain ⟨cq19, kq19, q19a, q19b, q19c⟩ := isOf hZ rfl E5c
    obtain ⟨_, _, ⟨T19, L19, k19, n19⟩, -, X19, ⟨Lc19, hQ19, l19, y19, z19⟩, st19⟩ := X5.virtualBack hx (y := (⟨"com/example/tidegauge/tidegauge/SphereCluster", "holdsAt", "(D)Z"⟩ : MethodName)) (z := (⟨"com/example/tidegauge/tidegauge/SphereCluster", "holdsAt", "(D)Z"⟩ : MethodName)) hown (mvT hZ (hw _ (List.mem_of_getElem? (i := 22) rfl))) (mvT hZ (hw _ (List.mem_of_getElem? (i := 23) rfl))) (notFace_of_selects (args := #[]) (mvT hZ (hw _ (List.mem_of_getElem? (i := 25) rfl)))) (mvT hZ (hw _ (List.mem_of_getElem? (i := 25) rfl))) (mvT hZ (hw _ (List.mem_of_getElem? (i := 24) rfl))) (by decide) (backOf (W := 0) (rm_h l Z a0 hw [] b1 dd T5.heap n0 (Nat.le_trans Z0 O5.1) rad pA lim F5c npA hpA nlim hlim _ rfl (1 : Int32) (rA hq1)) hZ (hw _ (List.mem_of_getElem? (i := 26) rfl)) (hw _ (List.mem_of_getElem? (i := 3) rfl)) (by decide) (by decide)) q19a q19c (g := (mkF m 30 #[.val (.int p1), .val (.int p2), .val (.int rr), .val (.double rad), .second, .val (.ref b1), .unset, .unset, .unset, .unset, .unset, .unset, .unset, .unset] [(.double dd), (.ref b1)])) rfl (by rw [hml]; rfl) (Steps.refl _) (argsL := [(.double dd)]) (rest := []) (lenOf pd_2 rfl) rfl (by show 2 * 0 + _ ≤ _; exact Nat.le_of_eq rfl) (hb hby at_30) (fun _ _ => ⟨rfl, rfl, (by decide : 2 + 0 ≤ _), (by decide : 4 + 0 ≤ _)⟩)
    dsimp only [Pt.U, Pt.locs, Pt.cells, Pt.slots] at X19 l19 y19 z19 st19 hQ19
    rw [y19, z19] at X19
    obtain ⟨rfl, N19q, e19⟩ := hQ19
    have N19 : Fr n0 L19 := by rw [l19]; exact Fr.app N5 N19q
    have pre20 : ∀ t, Steps p.tables e below (T19.setTop (mkF m 53 #[.val (.int p1), .val (.int p2), .val (.int rr), .val (.double rad), .second, .val (.ref b1), .val (.int (1 : Int32)), .unset, .unset, .unset, .unset, .unset, .unset, .unset] [])) t → Steps p.tables e below (s₁.setTop (entryFrame m #[(.int p1), (.int p2)] maxLocals)) t := fun t k => pre6 t (by
      show Steps p.tables e below (T5.setTop (mkF m 26 #[.val (.int p1), .val (.int p2), .val (.int rr), .val (.double rad), .second, .val (.ref b1), .unset, .unset, .unset, .unset, .unset, .unset, .unset, .unset] [])) _
      refine XS.aload X5.here hx rfl (hb hby at_26) rfl rfl ?_
      show Steps p.tables e below (T5.setTop (mkF m 28 #[.val (.int p1), .val (.int p2), .val (.int rr), .val (.double rad), .second, .val (.ref b1), .unset, .unset, .unset, .unset, .unset, .unset, .unset, .unset] [(.ref b1)])) _
      refine XS.iloadN X5.here hx rfl (hb hby at_28) rfl ?_
      show Steps p.tables e below (T5.setTop (mkF m 29 #[.val (.int p1), .val (.int p2), .val (.int rr), .val (.double rad), .second, .val (.ref b1), .unset, .unset, .unset, .unset, .unset, .unset, .unset, .unset] [(.int p2), (.ref b1)])) _
      refine XS.i2dS X5.here hx rfl (hb hby at_29) rfl (v := dd) hdd ?_
      show Steps p.tables e below (T5.setTop (mkF m 30 #[.val (.int p1), .val (.int p2), .val (.int rr), .val (.double rad), .second, .val (.ref b1), .unset, .unset, .unset, .unset, .unset, .unset, .unset, .unset] [(.double dd), (.ref b1)])) _
      refine st19.trans ?_
      show Steps p.tables e below (T19.setTop (mkF m 33 #[.val (.int p1), .val (.int p2), .val (.int rr), .val (.double rad), .second, .val (.ref b1), .unset, .unset, .unset, .unset, .unset, .unset, .unset, .unset] [(.int (1 : Int32))])) _
      refine XS.iloadN X19.here hx rfl (hb hby at_33) rfl ?_
      show Steps p.tables e below (T19.setTop (mkF m 34 #[.val (.int p1), .val (.int p2), .val (.int rr), .val (.double rad), .second, .val (.ref b1), .unset, .unset, .unset, .unset, .unset, .unset, .unset, .unset] [(.int p2), (.int (1 : Int32))])) _
      refine XS.iloadN X19.here hx rfl (hb hby at_34) rfl ?_
      show Steps p.tables e below (T19.setTop (mkF m 35 #[.val (.int p1), .val (.int p2), .val (.int rr), .val (.double rad), .second, .val (.ref b1), .unset, .unset, .unset, .unset, .unset, .unset, .unset, .unset] [(.int rr), (.int p2), (.int (1 : Int32))])) _
      refine XS.icmpNo X19.here hx rfl (hb hby at_35) rfl (flt hq1).2.2.1 ?_
      show Steps p.tables e below (T19.setTop (mkF m 38 #[.val (.int p1), .val (.int p2), .val (.int rr), .val (.double rad), .second, .val (.ref b1), .unset, .unset, .unset, .unset, .unset, .unset, .unset, .unset] [(.int (1 : Int32))])) _
      refine XT.iconstV X19.here hx rfl (1 : Int32) (hb hby at_38) (by decide) ?_
      show Steps p.tables e below (T19.setTop (mkF m 39 #[.val (.int p1), .val (.int p2), .val (.int rr), .val (.double rad), .second, .val (.ref b1), .unset, .unset, .unset, .unset, .unset, .unset, .unset, .unset] [(.int (1 : Int32)), (.int (1 : Int32))])) _
      refine XS.goto X19.here hx rfl (pc0 := 39) (pc' := 43) rfl (hb hby at_39) (by decide) (by decide) ?_
      show Steps p.tables e below (T19.setTop (mkF m 43 #[.val (.int p1), .val (.int p2), .val (.int rr), .val (.double rad), .second, .val (.ref b1), .unset, .unset, .unset, .unset, .unset, .unset, .unset, .unset] [(.int (1 : Int32)), (.int (1 : Int32))])) _
      refine XS.icmpNo X19.here hx rfl (hb hby at_43) rfl (teq (by decide : ((1 : Int32) = (1 : Int32)))).2 ?_
      show Steps p.tables e below (T19.setTop (mkF m 46 #[.val (.int p1), .val (.int p2), .val (.int rr), .val (.double rad), .second, .val (.ref b1), .unset, .unset, .unset, .unset, .unset, .unset, .unset, .unset] [])) _
      refine XT.iconstV X19.here hx rfl (1 : Int32) (hb hby at_46) (by decide) ?_
      show Steps p.tables e below (T19.setTop (mkF m 47 #[.val (.int p1), .val (.int p2), .val (.int rr), .val (.double rad), .second, .val (.ref b1), .unset, .unset, .unset, .unset, .unset, .unset, .unset, .unset] [(.int (1 : Int32))])) _
      refine XS.goto X19.here hx rfl (pc0 := 47) (pc' := 51) rfl (hb hby at_47) (by decide) (by decide) ?_
      show Steps p.tables e below (T19.setTop (mkF m 51 #[.val (.int p1), .val (.int p2), .val (.int rr), .val (.double rad), .second, .val (.ref b1), .unset, .unset, .unset, .unset, .unset, .unset, .unset, .unset] [(.int (1 : Int32))])) _
      refine XS.istore X19.here hx rfl (hb hby at_51) rfl (l' := #[.val (.int p1), .val (.int p2), .val (.int rr), .val (.double rad), .second, .val (.ref b1), .val (.int (1 : Int32)), .unset, .unset, .unset, .unset, .unset, .unset, .unset]) rfl ?_
      exact k)
    have pre21 : ∀ t, Steps p.tables e below (T19.setTop (mkF m 73 #[.val (.int p1), .val (.int p2), .val (.int rr), .val (.double rad), .second, .val (.ref b1), .val (.int (1 : Int32)), .val (.double ins), .second, .val (.double out), .second, .unset, .unset, .unset] [(.ref b1)])) t → Steps p.tables e below (s₁.setTop (entryFrame m #[(.int p1), (.int p2)] maxLocals)) t := fun t k => pre20 t (by
      show Steps p.tables e below (T19.setTop (mkF m 53 #[.val (.int p1), .val (.int p2), .val (.int rr), .val (.double rad), .second, .val (.ref b1), .val (.int (1 : Int32)), .unset, .unset, .unset, .unset, .unset, .unset, .unset] [])) _
      refine XS.dloadN X19.here hx rfl (hb hby at_53) rfl ?_
      show Steps p.tables e below (T19.setTop (mkF m 54 #[.val (.int p1), .val (.int p2), .val (.int rr), .val (.double rad), .second, .val (.ref b1), .val (.int (1 : Int32)), .unset, .unset, .unset, .unset, .unset, .unset, .unset] [(.double rad)])) _
      refine XS.dloadN X19.here hx rfl (hb hby at_54) rfl ?_
      show Steps p.tables e below (T19.setTop (mkF m 55 #[.val (.int p1), .val (.int p2), .val (.int rr), .val (.double rad), .second, .val (.ref b1), .val (.int (1 : Int32)), .unset, .unset, .unset, .unset, .unset, .unset, .unset] [(.double rad), (.double rad)])) _
      refine X19.ldc2DoubleC hx hown (mvT hZ (hw _ (List.mem_of_getElem? (i := 28) rfl))) (g := (mkF m 55 #[.val (.int p1), .val (.int p2), .val (.int rr), .val (.double rad), .second, .val (.ref b1), .val (.int (1 : Int32)), .unset, .unset, .unset, .unset, .unset, .unset, .unset] [(.double rad), (.double rad)])) rfl (hb hby at_55) _ ?_
      show Steps p.tables e below (T19.setTop (mkF m 58 #[.val (.int p1), .val (.int p2), .val (.int rr), .val (.double rad), .second, .val (.ref b1), .val (.int (1 : Int32)), .unset, .unset, .unset, .unset, .unset, .unset, .unset] [(.double (4457293557087583675 : UInt64)), (.double rad), (.double rad)])) _
      refine XS.dmulS X19.here hx rfl (hb hby at_58) rfl npB (v := pB) hpB ?_
      show Steps p.tables e below (T19.setTop (mkF m 59 #[.val (.int p1), .val (.int p2), .val (.int rr), .val (.double rad), .second, .val (.ref b1), .val (.int (1 : Int32)), .unset, .unset, .unset, .unset, .unset, .unset, .unset] [(.double pB), (.double rad)])) _
      refine XS.daddS X19.here hx rfl (hb hby at_59) rfl nins (v := ins) hins ?_
      show Steps p.tables e below (T19.setTop (mkF m 60 #[.val (.int p1), .val (.int p2), .val (.int rr), .val (.double rad), .second, .val (.ref b1), .val (.int (1 : Int32)), .unset, .unset, .unset, .unset, .unset, .unset, .unset] [(.double ins)])) _
      refine XS.dstore X19.here hx rfl (hb hby at_60) rfl (l' := #[.val (.int p1), .val (.int p2), .val (.int rr), .val (.double rad), .second, .val (.ref b1), .val (.int (1 : Int32)), .val (.double ins), .second, .unset, .unset, .unset, .unset, .unset]) rfl ?_
      show Steps p.tables e below (T19.setTop (mkF m 62 #[.val (.int p1), .val (.int p2), .val (.int rr), .val (.double rad), .second, .val (.ref b1), .val (.int (1 : Int32)), .val (.double ins), .second, .unset, .unset, .unset, .unset, .unset] [])) _
      refine XS.dloadN X19.here hx rfl (hb hby at_62) rfl ?_
      show Steps p.tables e below (T19.setTop (mkF m 63 #[.val (.int p1), .val (.int p2), .val (.int rr), .val (.double rad), .second, .val (.ref b1), .val (.int (1 : Int32)), .val (.double ins), .second, .unset, .unset, .unset, .unset, .unset] [(.double rad)])) _
      refine XS.dloadN X19.here hx rfl (hb hby at_63) rfl ?_
      show Steps p.tables e below (T19.setTop (mkF m 64 #[.val (.int p1), .val (.int p2), .val (.int rr), .val (.double rad), .second, .val (.ref b1), .val (.int (1 : Int32)), .val (.double ins), .second, .unset, .unset, .unset, .unset, .unset] [(.double rad), (.double rad)])) _
      refine X19.ldc2DoubleC hx hown (mvT hZ (hw _ (List.mem_of_getElem? (i := 29) rfl))) (g := (mkF m 64 #[.val (.int p1), .val (.int p2), .val (.int rr), .val (.double rad), .second, .val (.ref b1), .val (.int (1 : Int32)), .val (.double ins), .second, .unset, .unset, .unset, .unset, .unset] [(.double rad), (.double rad)])) rfl (hb hby at_64) _ ?_
      show Steps p.tables e below (T19.setTop (mkF m 67 #[.val (.int p1), .val (.int p2), .val (.int rr), .val (.double rad), .second, .val (.ref b1), .val (.int (1 : Int32)), .val (.double ins), .second, .unset, .unset, .unset, .unset, .unset] [(.double (4487126258331716666 : UInt64)), (.double rad), (.double rad)])) _
      refine XS.dmulS X19.here hx rfl (hb hby at_67) rfl npC (v := pC) hpC ?_
      show Steps p.tables e below (T19.setTop (mkF m 68 #[.val (.int p1), .val (.int p2), .val (.int rr), .val (.double rad), .second, .val (.ref b1), .val (.int (1 : Int32)), .val (.double ins), .second, .unset, .unset, .unset, .unset, .unset] [(.double pC), (.double rad)])) _
      refine XS.daddS X19.here hx rfl (hb hby at_68) rfl nout (v := out) hout ?_
      show Steps p.tables e below (T19.setTop (mkF m 69 #[.val (.int p1), .val (.int p2), .val (.int rr), .val (.double rad), .second, .val (.ref b1), .val (.int (1 : Int32)), .val (.double ins), .second, .unset, .unset, .unset, .unset, .unset] [(.double out)])) _
      refine XS.dstore X19.here hx rfl (hb hby at_69) rfl (l' := #[.val (.int p1), .val (.int p2), .val (.int rr), .val (.double rad), .second, .val (.ref b1), .val (.int (1 : Int32)), .val (.double ins), .second, .val (.double out), .second, .unset, .unset, .unset]) rfl ?_
      show Steps p.tables e below (T19.setTop (mkF m 71 #[.val (.int p1), .val (.int p2), .val (.int rr), .val (.double rad), .second, .val (.ref b1), .val (.int (1 : Int32)), .val (.double ins), .second, .val (.double out), .second, .unset, .unset, .unset] [])) _
      refine XS.aload X19.here hx rfl (hb hby at_71) rfl rfl ?_
      exact k)
    obtain ⟨cq22, kq22, q22a, q22b, q22c⟩ := isOf hZ e19 E5c
    obtain ⟨_, _, ⟨T22, L22, k22, n22⟩, -, X22, ⟨Lc22, hQ22, l22, y22, z22⟩, st22⟩ := X19.virtualBack hx (y := (⟨"com/example/tidegauge/tidegauge/SphereCluster", "holdsAt", "(D)Z"⟩ : MethodName)) (z := (⟨"com/example/tidegauge/tidegauge/SphereCluster", "holdsAt", "(D)Z"⟩ : MethodName)) hown (mvT hZ (hw _ (List.mem_of_getElem? (i := 22) rfl))) (mvT hZ (hw _ (List.mem_of_getElem? (i := 23) rfl))) (notFace_of_selects (args := #[]) (mvT hZ (hw _ (List.mem_of_getElem? (i := 25) rfl)))) (mvT hZ (hw _ (List.mem_of_getElem? (i := 25) rfl))) (mvT hZ (hw _ (List.mem_of_getElem? (i := 24) rfl))) (by decide) (backOf (W := 0) (rm_h l Z a0 hw [] b1 rad T5.heap n0 (Nat.le_trans Z0 O5.1) rad pA lim F5c npA hpA nlim hlim _ rfl (1 : Int32) rF) hZ (hw _ (List.mem_of_getElem? (i := 26) rfl)) (hw _ (List.mem_of_getElem? (i := 3) rfl)) (by decide) (by decide)) q22a q22c (g := (mkF m 74 #[.val (.int p1), .val (.int p2), .val (.int rr), .val (.double rad), .second, .val (.ref b1), .val (.int (1 : Int32)), .val (.double ins), .second, .val (.double out), .second, .unset, .unset, .unset] [(.double rad), (.ref b1)])) rfl (by rw [hml]; rfl) (Steps.refl _) (argsL := [(.double rad)]) (rest := []) (lenOf pd_2 rfl) rfl (by show 2 * 0 + _ ≤ _; exact Nat.le_of_eq rfl) (hb hby at_74) (fun _ _ => ⟨rfl, e19, (by decide : 2 + 0 ≤ _), (by decide : 4 + 0 ≤ _)⟩)
    dsimp only [Pt.U, Pt.locs, Pt.cells, Pt.slots] at X22 l22 y22 z22 st22 hQ22
    rw [y22, z22] at X22
    obtain ⟨rfl, N22q, e22⟩ := hQ22
    have N22 : Fr n0 L22 := by rw [l22]; exact Fr.app N19 N22q
    obtain ⟨cq23, kq23, q23a, q23b, q23c⟩ := isOf hZ e22 E5c
    obtain ⟨_, _, ⟨T23, L23, k23, n23⟩, -, X23, ⟨Lc23, hQ23, l23, y23, z23⟩, st23⟩ := X22.virtualBack hx (y := (⟨"com/example/tidegauge/tidegauge/SphereCluster", "holdsAt", "(D)Z"⟩ : MethodName)) (z := (⟨"com/example/tidegauge/tidegauge/SphereCluster", "holdsAt", "(D)Z"⟩ : MethodName)) hown (mvT hZ (hw _ (List.mem_of_getElem? (i := 22) rfl))) (mvT hZ (hw _ (List.mem_of_getElem? (i := 23) rfl))) (notFace_of_selects (args := #[]) (mvT hZ (hw _ (List.mem_of_getElem? (i := 25) rfl)))) (mvT hZ (hw _ (List.mem_of_getElem? (i := 25) rfl))) (mvT hZ (hw _ (List.mem_of_getElem? (i := 24) rfl))) (by decide) (backOf (W := 0) (rm_h l Z a0 hw [] b1 ins T5.heap n0 (Nat.le_trans Z0 O5.1) rad pA lim F5c npA hpA nlim hlim _ rfl (1 : Int32) rC) hZ (hw _ (List.mem_of_getElem? (i := 26) rfl)) (hw _ (List.mem_of_getElem? (i := 3) rfl)) (by decide) (by decide)) q23a q23c (g := (mkF m 83 #[.val (.int p1), .val (.int p2), .val (.int rr), .val (.double rad), .second, .val (.ref b1), .val (.int (1 : Int32)), .val (.double ins), .second, .val (.double out), .second, .val (.int (1 : Int32)), .unset, .unset] [(.double ins), (.ref b1)])) rfl (by rw [hml]; rfl) (Steps.refl _) (argsL := [(.double ins)]) (rest := []) (lenOf pd_2 rfl) rfl (by show 2 * 0 + _ ≤ _; exact Nat.le_of_eq rfl) (hb hby at_83) (fun _ _ => ⟨rfl, e22, (by decide : 2 + 0 ≤ _), (by decide : 4 + 0 ≤ _)⟩)
    dsimp only [Pt.U, Pt.locs, Pt.cells, Pt.slots] at X23 l23 y23 z23 st23 hQ23
    rw [y23, z23] at X23
    obtain ⟨rfl, N23q, e23⟩ := hQ23
    have N23 : Fr n0 L23 := by rw [l23]; exact Fr.app N22 N23q
    have pre24 : ∀ t, Steps p.tables e below (T23.setTop (mkF m 88 #[.val (.int p1), .val (.int p2), .val (.int rr), .val (.double rad), .second, .val (.ref b1), .val (.int (1 : Int32)), .val (.double ins), .second, .val (.double out), .second, .val (.int (1 : Int32)), .val (.int (1 : Int32)), .unset] [])) t → Steps p.tables e below (s₁.setTop (entryFrame m #[(.int p1), (.int p2)] maxLocals)) t := fun t k => pre21 t (by
      show Steps p.tables e below (T19.setTop (mkF m 73 #[.val (.int p1), .val (.int p2), .val (.int rr), .val (.double rad), .second, .val (.ref b1), .val (.int (1 : Int32)), .val (.double ins), .second, .val (.double out), .second, .unset, .unset, .unset] [(.ref b1)])) _
      refine XS.dloadN X19.here hx rfl (hb hby at_73) rfl ?_
      show Steps p.tables e below (T19.setTop (mkF m 74 #[.val (.int p1), .val (.int p2), .val (.int rr), .val (.double rad), .second, .val (.ref b1), .val (.int (1 : Int32)), .val (.double ins), .second, .val (.double out), .second, .unset, .unset, .unset] [(.double rad), (.ref b1)])) _
      refine st22.trans ?_
      show Steps p.tables e below (T22.setTop (mkF m 77 #[.val (.int p1), .val (.int p2), .val (.int rr), .val (.double rad), .second, .val (.ref b1), .val (.int (1 : Int32)), .val (.double ins), .second, .val (.double out), .second, .unset, .unset, .unset] [(.int (1 : Int32))])) _
      refine XS.istore X22.here hx rfl (hb hby at_77) rfl (l' := #[.val (.int p1), .val (.int p2), .val (.int rr), .val (.double rad), .second, .val (.ref b1), .val (.int (1 : Int32)), .val (.double ins), .second, .val (.double out), .second, .val (.int (1 : Int32)), .unset, .unset]) rfl ?_
      show Steps p.tables e below (T22.setTop (mkF m 79 #[.val (.int p1), .val (.int p2), .val (.int rr), .val (.double rad), .second, .val (.ref b1), .val (.int (1 : Int32)), .val (.double ins), .second, .val (.double out), .second, .val (.int (1 : Int32)), .unset, .unset] [])) _
      refine XS.aload X22.here hx rfl (hb hby at_79) rfl rfl ?_
      show Steps p.tables e below (T22.setTop (mkF m 81 #[.val (.int p1), .val (.int p2), .val (.int rr), .val (.double rad), .second, .val (.ref b1), .val (.int (1 : Int32)), .val (.double ins), .second, .val (.double out), .second, .val (.int (1 : Int32)), .unset, .unset] [(.ref b1)])) _
      refine XS.dload X22.here hx rfl (hb hby at_81) rfl ?_
      show Steps p.tables e below (T22.setTop (mkF m 83 #[.val (.int p1), .val (.int p2), .val (.int rr), .val (.double rad), .second, .val (.ref b1), .val (.int (1 : Int32)), .val (.double ins), .second, .val (.double out), .second, .val (.int (1 : Int32)), .unset, .unset] [(.double ins), (.ref b1)])) _
      refine st23.trans ?_
      show Steps p.tables e below (T23.setTop (mkF m 86 #[.val (.int p1), .val (.int p2), .val (.int rr), .val (.double rad), .second, .val (.ref b1), .val (.int (1 : Int32)), .val (.double ins), .second, .val (.double out), .second, .val (.int (1 : Int32)), .unset, .unset] [(.int (1 : Int32))])) _
      refine XS.istore X23.here hx rfl (hb hby at_86) rfl (l' := #[.val (.int p1), .val (.int p2), .val (.int rr), .val (.double rad), .second, .val (.ref b1), .val (.int (1 : Int32)), .val (.double ins), .second, .val (.double out), .second, .val (.int (1 : Int32)), .val (.int (1 : Int32)), .unset]) rfl ?_
      exact k)
    by_cases hq2 : rr = (0 : Int32)
    · have _ := 0
      obtain ⟨cq25, kq25, q25a, q25b, q25c⟩ := isOf hZ e23 E5c
      obtain ⟨_, _, ⟨T25, L25, k25, n25⟩, -, X25, ⟨Lc25, hQ25, l25, y25, z25⟩, st25⟩ := X23.virtualBack hx (y := (⟨"com/example/tidegauge/tidegauge/SphereCluster", "holdsAt", "(D)Z"⟩ : MethodName)) (z := (⟨"com/example/tidegauge/tidegauge/SphereCluster", "holdsAt", "(D)Z"⟩ : MethodName)) hown (mvT hZ (hw _ (List.mem_of_getElem? (i := 22) rfl))) (mvT hZ (hw _ (List.mem_of_getElem? (i := 23) rfl))) (notFace_of_selects (args := #[]) (mvT hZ (hw _ (List.mem_of_getElem? (i := 25) rfl)))) (mvT hZ (hw _ (List.mem_of_getElem? (i := 25) rfl))) (mvT hZ (hw _ (List.mem_of_getElem? (i := 24) rfl))) (by decide) (backOf (W := 0) (rm_h l Z a0 hw [] b1 out T5.heap n0 (Nat.le_trans Z0 O5.1) rad pA lim F5c npA hpA nlim hlim _ rfl (1 : Int32) (rD hq2)) hZ (hw _ (List.mem_of_getElem? (i := 26) rfl)) (hw _ (List.mem_of_getElem? (i := 3) rfl)) (by decide) (by decide)) q25a q25c (g := (mkF m 92 #[.val (.int p1), .val (.int p2), .val (.int rr), .val (.double rad), .second, .val (.ref b1), .val (.int (1 : Int32)), .val (.double ins), .second, .val (.double out), .second, .val (.int (1 : Int32)), .val (.int (1 : Int32)), .unset] [(.double out), (.ref b1)])) rfl (by rw [hml]; rfl) (Steps.refl _) (argsL := [(.double out)]) (rest := []) (lenOf pd_2 rfl) rfl (by show 2 * 0 + _ ≤ _; exact Nat.le_of_eq rfl) (hb hby at_92) (fun _ _ => ⟨rfl, e23, (by decide : 2 + 0 ≤ _), (by decide : 4 + 0 ≤ _)⟩)
      dsimp only [Pt.U, Pt.locs, Pt.cells, Pt.slots] at X25 l25 y25 z25 st25 hQ25
      rw [y25, z25] at X25
      obtain ⟨rfl, N25q, e25⟩ := hQ25
      have N25 : Fr n0 L25 := by rw [l25]; exact Fr.app N23 N25q
      have pre26 : ∀ t, Steps p.tables e below (T25.setTop (mkF m 119 #[.val (.int p1), .val (.int p2), .val (.int rr), .val (.double rad), .second, .val (.ref b1), .val (.int (1 : Int32)), .val (.double ins), .second, .val (.double out), .second, .val (.int (1 : Int32)), .val (.int (1 : Int32)), .val (.int (1 : Int32))] [])) t → Steps p.tables e below (s₁.setTop (entryFrame m #[(.int p1), (.int p2)] maxLocals)) t := fun t k => pre24 t (by
        show Steps p.tables e below (T23.setTop (mkF m 88 #[.val (.int p1), .val (.int p2), .val (.int rr), .val (.double rad), .second, .val (.ref b1), .val (.int (1 : Int32)), .val (.double ins), .second, .val (.double out), .second, .val (.int (1 : Int32)), .val (.int (1 : Int32)), .unset] [])) _
        refine XS.aload X23.here hx rfl (hb hby at_88) rfl rfl ?_
        show Steps p.tables e below (T23.setTop (mkF m 90 #[.val (.int p1), .val (.int p2), .val (.int rr), .val (.double rad), .second, .val (.ref b1), .val (.int (1 : Int32)), .val (.double ins), .second, .val (.double out), .second, .val (.int (1 : Int32)), .val (.int (1 : Int32)), .unset] [(.ref b1)])) _
        refine XS.dload X23.here hx rfl (hb hby at_90) rfl ?_
        show Steps p.tables e below (T23.setTop (mkF m 92 #[.val (.int p1), .val (.int p2), .val (.int rr), .val (.double rad), .second, .val (.ref b1), .val (.int (1 : Int32)), .val (.double ins), .second, .val (.double out), .second, .val (.int (1 : Int32)), .val (.int (1 : Int32)), .unset] [(.double out), (.ref b1)])) _
        refine st25.trans ?_
        show Steps p.tables e below (T25.setTop (mkF m 95 #[.val (.int p1), .val (.int p2), .val (.int rr), .val (.double rad), .second, .val (.ref b1), .val (.int (1 : Int32)), .val (.double ins), .second, .val (.double out), .second, .val (.int (1 : Int32)), .val (.int (1 : Int32)), .unset] [(.int (1 : Int32))])) _
        refine XS.iloadN X25.here hx rfl (hb hby at_95) rfl ?_
        show Steps p.tables e below (T25.setTop (mkF m 96 #[.val (.int p1), .val (.int p2), .val (.int rr), .val (.double rad), .second, .val (.ref b1), .val (.int (1 : Int32)), .val (.double ins), .second, .val (.double out), .second, .val (.int (1 : Int32)), .val (.int (1 : Int32)), .unset] [(.int rr), (.int (1 : Int32))])) _
        refine XS.ifNo X25.here hx rfl (hb hby at_96) rfl ((if0 _ _).trans (teq hq2).2) ?_
        show Steps p.tables e below (T25.setTop (mkF m 99 #[.val (.int p1), .val (.int p2), .val (.int rr), .val (.double rad), .second, .val (.ref b1), .val (.int (1 : Int32)), .val (.double ins), .second, .val (.double out), .second, .val (.int (1 : Int32)), .val (.int (1 : Int32)), .unset] [(.int (1 : Int32))])) _
        refine XT.iconstV X25.here hx rfl (1 : Int32) (hb hby at_99) (by decide) ?_
        show Steps p.tables e below (T25.setTop (mkF m 100 #[.val (.int p1), .val (.int p2), .val (.int rr), .val (.double rad), .second, .val (.ref b1), .val (.int (1 : Int32)), .val (.double ins), .second, .val (.double out), .second, .val (.int (1 : Int32)), .val (.int (1 : Int32)), .unset] [(.int (1 : Int32)), (.int (1 : Int32))])) _
        refine XS.goto X25.here hx rfl (pc0 := 100) (pc' := 104) rfl (hb hby at_100) (by decide) (by decide) ?_
        show Steps p.tables e below (T25.setTop (mkF m 104 #[.val (.int p1), .val (.int p2), .val (.int rr), .val (.double rad), .second, .val (.ref b1), .val (.int (1 : Int32)), .val (.double ins), .second, .val (.double out), .second, .val (.int (1 : Int32)), .val (.int (1 : Int32)), .unset] [(.int (1 : Int32)), (.int (1 : Int32))])) _
        refine XS.icmpNo X25.here hx rfl (hb hby at_104) rfl (teq (by decide : ((1 : Int32) = (1 : Int32)))).2 ?_
        show Steps p.tables e below (T25.setTop (mkF m 107 #[.val (.int p1), .val (.int p2), .val (.int rr), .val (.double rad), .second, .val (.ref b1), .val (.int (1 : Int32)), .val (.double ins), .second, .val (.double out), .second, .val (.int (1 : Int32)), .val (.int (1 : Int32)), .unset] [])) _
        refine XT.iconstV X25.here hx rfl (1 : Int32) (hb hby at_107) (by decide) ?_
        show Steps p.tables e below (T25.setTop (mkF m 108 #[.val (.int p1), .val (.int p2), .val (.int rr), .val (.double rad), .second, .val (.ref b1), .val (.int (1 : Int32)), .val (.double ins), .second, .val (.double out), .second, .val (.int (1 : Int32)), .val (.int (1 : Int32)), .unset] [(.int (1 : Int32))])) _
        refine XS.goto X25.here hx rfl (pc0 := 108) (pc' := 112) rfl (hb hby at_108) (by decide) (by decide) ?_
        show Steps p.tables e below (T25.setTop (mkF m 112 #[.val (.int p1), .val (.int p2), .val (.int rr), .val (.double rad), .second, .val (.ref b1), .val (.int (1 : Int32)), .val (.double ins), .second, .val (.double out), .second, .val (.int (1 : Int32)), .val (.int (1 : Int32)), .unset] [(.int (1 : Int32))])) _
        refine XS.istore X25.here hx rfl (hb hby at_112) rfl (l' := #[.val (.int p1), .val (.int p2), .val (.int rr), .val (.double rad), .second, .val (.ref b1), .val (.int (1 : Int32)), .val (.double ins), .second, .val (.double out), .second, .val (.int (1 : Int32)), .val (.int (1 : Int32)), .val (.int (1 : Int32))]) rfl ?_
        show Steps p.tables e below (T25.setTop (mkF m 114 #[.val (.int p1), .val (.int p2), .val (.int rr), .val (.double rad), .second, .val (.ref b1), .val (.int (1 : Int32)), .val (.double ins), .second, .val (.double out), .second, .val (.int (1 : Int32)), .val (.int (1 : Int32)), .val (.int (1 : Int32))] [])) _
        refine XS.iload X25.here hx rfl (hb hby at_114) rfl ?_
        show Steps p.tables e below (T25.setTop (mkF m 116 #[.val (.int p1), .val (.int p2), .val (.int rr), .val (.double rad), .second, .val (.ref b1), .val (.int (1 : Int32)), .val (.double ins), .second, .val (.double out), .second, .val (.int (1 : Int32)), .val (.int (1 : Int32)), .val (.int (1 : Int32))] [(.int (1 : Int32))])) _
        refine XS.ifNo X25.here hx rfl (hb hby at_116) rfl ((if0 _ _).trans (feq (by decide : ¬ ((1 : Int32) = (0 : Int32)))).1) ?_
        exact k)
      have pre27 : ∀ t, Steps p.tables e below (T25.setTop (mkF m 139 #[.val (.int p1), .val (.int p2), .val (.int rr), .val (.double rad), .second, .val (.ref b1), .val (.int (1 : Int32)), .val (.double ins), .second, .val (.double out), .second, .val (.int (1 : Int32)), .val (.int (1 : Int32)), .val (.int (1 : Int32))] [(.int (1 : Int32))])) t → Steps p.tables e below (s₁.setTop (entryFrame m #[(.int p1), (.int p2)] maxLocals)) t := fun t k => pre26 t (by
        show Steps p.tables e below (T25.setTop (mkF m 119 #[.val (.int p1), .val (.int p2), .val (.int rr), .val (.double rad), .second, .val (.ref b1), .val (.int (1 : Int32)), .val (.double ins), .second, .val (.double out), .second, .val (.int (1 : Int32)), .val (.int (1 : Int32)), .val (.int (1 : Int32))] [])) _
        refine XS.iload X25.here hx rfl (hb hby at_119) rfl ?_
        show Steps p.tables e below (T25.setTop (mkF m 121 #[.val (.int p1), .val (.int p2), .val (.int rr), .val (.double rad), .second, .val (.ref b1), .val (.int (1 : Int32)), .val (.double ins), .second, .val (.double out), .second, .val (.int (1 : Int32)), .val (.int (1 : Int32)), .val (.int (1 : Int32))] [(.int (1 : Int32))])) _
        refine XS.ifNo X25.here hx rfl (hb hby at_121) rfl ((if0 _ _).trans (feq (by decide : ¬ ((1 : Int32) = (0 : Int32)))).1) ?_
        show Steps p.tables e below (T25.setTop (mkF m 124 #[.val (.int p1), .val (.int p2), .val (.int rr), .val (.double rad), .second, .val (.ref b1), .val (.int (1 : Int32)), .val (.double ins), .second, .val (.double out), .second, .val (.int (1 : Int32)), .val (.int (1 : Int32)), .val (.int (1 : Int32))] [])) _
        refine XS.iload X25.here hx rfl (hb hby at_124) rfl ?_
        show Steps p.tables e below (T25.setTop (mkF m 126 #[.val (.int p1), .val (.int p2), .val (.int rr), .val (.double rad), .second, .val (.ref b1), .val (.int (1 : Int32)), .val (.double ins), .second, .val (.double out), .second, .val (.int (1 : Int32)), .val (.int (1 : Int32)), .val (.int (1 : Int32))] [(.int (1 : Int32))])) _
        refine XS.ifNo X25.here hx rfl (hb hby at_126) rfl ((if0 _ _).trans (feq (by decide : ¬ ((1 : Int32) = (0 : Int32)))).1) ?_
        show Steps p.tables e below (T25.setTop (mkF m 129 #[.val (.int p1), .val (.int p2), .val (.int rr), .val (.double rad), .second, .val (.ref b1), .val (.int (1 : Int32)), .val (.double ins), .second, .val (.double out), .second, .val (.int (1 : Int32)), .val (.int (1 : Int32)), .val (.int (1 : Int32))] [])) _
        refine XS.iload X25.here hx rfl (hb hby at_129) rfl ?_
        show Steps p.tables e below (T25.setTop (mkF m 131 #[.val (.int p1), .val (.int p2), .val (.int rr), .val (.double rad), .second, .val (.ref b1), .val (.int (1 : Int32)), .val (.double ins), .second, .val (.double out), .second, .val (.int (1 : Int32)), .val (.int (1 : Int32)), .val (.int (1 : Int32))] [(.int (1 : Int32))])) _
        refine XS.ifNo X25.here hx rfl (hb hby at_131) rfl ((if0 _ _).trans (feq (by decide : ¬ ((1 : Int32) = (0 : Int32)))).1) ?_
        show Steps p.tables e below (T25.setTop (mkF m 134 #[.val (.int p1), .val (.int p2), .val (.int rr), .val (.double rad), .second, .val (.ref b1), .val (.int (1 : Int32)), .val (.double ins), .second, .val (.double out), .second, .val (.int (1 : Int32)), .val (.int (1 : Int32)), .val (.int (1 : Int32))] [])) _
        refine XT.iconstV X25.here hx rfl (1 : Int32) (hb hby at_134) (by decide) ?_
        show Steps p.tables e below (T25.setTop (mkF m 135 #[.val (.int p1), .val (.int p2), .val (.int rr), .val (.double rad), .second, .val (.ref b1), .val (.int (1 : Int32)), .val (.double ins), .second, .val (.double out), .second, .val (.int (1 : Int32)), .val (.int (1 : Int32)), .val (.int (1 : Int32))] [(.int (1 : Int32))])) _
        refine XS.goto X25.here hx rfl (pc0 := 135) (pc' := 139) rfl (hb hby at_135) (by decide) (by decide) ?_
        exact k)
      obtain ⟨fs, hr, hrun, hended, hW, hsame⟩ := X25.leave (v := some (.int (1 : Int32))) (fun h => by rw [Bd.returns] at h; cases h)
      refine ⟨_, _, pre27 _ ?_, hrun, hended, _, _, rfl, ?_, ⟨_, rfl⟩, hW, hsame.mono (by decide) (by decide)⟩
      · show Steps p.tables e below (T25.setTop (mkF m 139 #[.val (.int p1), .val (.int p2), .val (.int rr), .val (.double rad), .second, .val (.ref b1), .val (.int (1 : Int32)), .val (.double ins), .second, .val (.double out), .second, .val (.int (1 : Int32)), .val (.int (1 : Int32)), .val (.int (1 : Int32))] [(.int (1 : Int32))])) _
        exact retOut X25 hx Bd.returns rfl (Or.inl ⟨rfl, by simp, _, rfl⟩) (hb hby at_139) hr
      · show Q0 Z p1 p2  h0 n0 _ T25.heap _
        rw [e25]
        exact ⟨rfl, N25⟩
    · have _ := 0
      obtain ⟨cq28, kq28, q28a, q28b, q28c⟩ := isOf hZ e23 E5c
      obtain ⟨_, _, ⟨T28, L28, k28, n28⟩, -, X28, ⟨Lc28, hQ28, l28, y28, z28⟩, st28⟩ := X23.virtualBack hx (y := (⟨"com/example/tidegauge/tidegauge/SphereCluster", "holdsAt", "(D)Z"⟩ : MethodName)) (z := (⟨"com/example/tidegauge/tidegauge/SphereCluster", "holdsAt", "(D)Z"⟩ : MethodName)) hown (mvT hZ (hw _ (List.mem_of_getElem? (i := 22) rfl))) (mvT hZ (hw _ (List.mem_of_getElem? (i := 23) rfl))) (notFace_of_selects (args := #[]) (mvT hZ (hw _ (List.mem_of_getElem? (i := 25) rfl)))) (mvT hZ (hw _ (List.mem_of_getElem? (i := 25) rfl))) (mvT hZ (hw _ (List.mem_of_getElem? (i := 24) rfl))) (by decide) (backOf (W := 0) (rm_h l Z a0 hw [] b1 out T5.heap n0 (Nat.le_trans Z0 O5.1) rad pA lim F5c npA hpA nlim hlim _ rfl (0 : Int32) (rE hq2)) hZ (hw _ (List.mem_of_getElem? (i := 26) rfl)) (hw _ (List.mem_of_getElem? (i := 3) rfl)) (by decide) (by decide)) q28a q28c (g := (mkF m 92 #[.val (.int p1), .val (.int p2), .val (.int rr), .val (.double rad), .second, .val (.ref b1), .val (.int (1 : Int32)), .val (.double ins), .second, .val (.double out), .second, .val (.int (1 : Int32)), .val (.int (1 : Int32)), .unset] [(.double out), (.ref b1)])) rfl (by rw [hml]; rfl) (Steps.refl _) (argsL := [(.double out)]) (rest := []) (lenOf pd_2 rfl) rfl (by show 2 * 0 + _ ≤ _; exact Nat.le_of_eq rfl) (hb hby at_92) (fun _ _ => ⟨rfl, e23, (by decide : 2 + 0 ≤ _), (by decide : 4 + 0 ≤ _)⟩)
      dsimp only [Pt.U, Pt.locs, Pt.cells, Pt.slots] at X28 l28 y28 z28 st28 hQ28
      rw [y28, z28] at X28
      obtain ⟨rfl, N28q, e28⟩ := hQ28
      have N28 : Fr n0 L28 := by rw [l28]; exact Fr.app N23 N28q
      have pre29 : ∀ t, Steps p.tables e below (T28.setTop (mkF m 121 #[.val (.int p1), .val (.int p2), .val (.int rr), .val (.double rad), .second, .val (.ref b1), .val (.int (1 : Int32)), .val (.double ins), .second, .val (.double out), .second, .val (.int (1 : Int32)), .val (.int (1 : Int32)), .val (.int (1 : Int32))] [(.int (1 : Int32))])) t → Steps p.tables e below (s₁.setTop (entryFrame m #[(.int p1), (.int p2)] maxLocals)) t := fun t k => pre24 t (by
        show Steps p.tables e below (T23.setTop (mkF m 88 #[.val (.int p1), .val (.int p2), .val (.int rr), .val (.double rad), .second, .val (.ref b1), .val (.int (1 : Int32)), .val (.double ins), .second, .val (.double out), .second, .val (.int (1 : Int32)), .val (.int (1 : Int32)), .unset] [])) _
        refine XS.aload X23.here hx rfl (hb hby at_88) rfl rfl ?_
        show Steps p.tables e below (T23.setTop (mkF m 90 #[.val (.int p1), .val (.int p2), .val (.int rr), .val (.double rad), .second, .val (.ref b1), .val (.int (1 : Int32)), .val (.double ins), .second, .val (.double out), .second, .val (.int (1 : Int32)), .val (.int (1 : Int32)), .unset] [(.ref b1)])) _
        refine XS.dload X23.here hx rfl (hb hby at_90) rfl ?_
        show Steps p.tables e below (T23.setTop (mkF m 92 #[.val (.int p1), .val (.int p2), .val (.int rr), .val (.double rad), .second, .val (.ref b1), .val (.int (1 : Int32)), .val (.double ins), .second, .val (.double out), .second, .val (.int (1 : Int32)), .val (.int (1 : Int32)), .unset] [(.double out), (.ref b1)])) _
        refine st28.trans ?_
        show Steps p.tables e below (T28.setTop (mkF m 95 #[.val (.int p1), .val (.int p2), .val (.int rr), .val (.double rad), .second, .val (.ref b1), .val (.int (1 : Int32)), .val (.double ins), .second, .val (.double out), .second, .val (.int (1 : Int32)), .val (.int (1 : Int32)), .unset] [(.int (0 : Int32))])) _
        refine XS.iloadN X28.here hx rfl (hb hby at_95) rfl ?_
        show Steps p.tables e below (T28.setTop (mkF m 96 #[.val (.int p1), .val (.int p2), .val (.int rr), .val (.double rad), .second, .val (.ref b1), .val (.int (1 : Int32)), .val (.double ins), .second, .val (.double out), .second, .val (.int (1 : Int32)), .val (.int (1 : Int32)), .unset] [(.int rr), (.int (0 : Int32))])) _
        refine XS.ifYes X28.here hx rfl (pc0 := 96) (pc' := 103) rfl (hb hby at_96) rfl ((if0 _ _).trans (feq hq2).2) (by decide) (by decide) ?_
        show Steps p.tables e below (T28.setTop (mkF m 103 #[.val (.int p1), .val (.int p2), .val (.int rr), .val (.double rad), .second, .val (.ref b1), .val (.int (1 : Int32)), .val (.double ins), .second, .val (.double out), .second, .val (.int (1 : Int32)), .val (.int (1 : Int32)), .unset] [(.int (0 : Int32))])) _
        refine XT.iconstV X28.here hx rfl (0 : Int32) (hb hby at_103) (by decide) ?_
        show Steps p.tables e below (T28.setTop (mkF m 104 #[.val (.int p1), .val (.int p2), .val (.int rr), .val (.double rad), .second, .val (.ref b1), .val (.int (1 : Int32)), .val (.double ins), .second, .val (.double out), .second, .val (.int (1 : Int32)), .val (.int (1 : Int32)), .unset] [(.int (0 : Int32)), (.int (0 : Int32))])) _
        refine XS.icmpNo X28.here hx rfl (hb hby at_104) rfl (teq (by decide : ((0 : Int32) = (0 : Int32)))).2 ?_
        show Steps p.tables e below (T28.setTop (mkF m 107 #[.val (.int p1), .val (.int p2), .val (.int rr), .val (.double rad), .second, .val (.ref b1), .val (.int (1 : Int32)), .val (.double ins), .second, .val (.double out), .second, .val (.int (1 : Int32)), .val (.int (1 : Int32)), .unset] [])) _
        refine XT.iconstV X28.here hx rfl (1 : Int32) (hb hby at_107) (by decide) ?_
        show Steps p.tables e below (T28.setTop (mkF m 108 #[.val (.int p1), .val (.int p2), .val (.int rr), .val (.double rad), .second, .val (.ref b1), .val (.int (1 : Int32)), .val (.double ins), .second, .val (.double out), .second, .val (.int (1 : Int32)), .val (.int (1 : Int32)), .unset] [(.int (1 : Int32))])) _
        refine XS.goto X28.here hx rfl (pc0 := 108) (pc' := 112) rfl (hb hby at_108) (by decide) (by decide) ?_
        show Steps p.tables e below (T28.setTop (mkF m 112 #[.val (.int p1), .val (.int p2), .val (.int rr), .val (.double rad), .second, .val (.ref b1), .val (.int (1 : Int32)), .val (.double ins), .second, .val (.double out), .second, .val (.int (1 : Int32)), .val (.int (1 : Int32)), .unset] [(.int (1 : Int32))])) _
        refine XS.istore X28.here hx rfl (hb hby at_112) rfl (l' := #[.val (.int p1), .val (.int p2), .val (.int rr), .val (.double rad), .second, .val (.ref b1), .val (.int (1 : Int32)), .val (.double ins), .second, .val (.double out), .second, .val (.int (1 : Int32)), .val (.int (1 : Int32)), .val (.int (1 : Int32))]) rfl ?_
        show Steps p.tables e below (T28.setTop (mkF m 114 #[.val (.int p1), .val (.int p2), .val (.int rr), .val (.double rad), .second, .val (.ref b1), .val (.int (1 : Int32)), .val (.double ins), .second, .val (.double out), .second, .val (.int (1 : Int32)), .val (.int (1 : Int32)), .val (.int (1 : Int32))] [])) _
        refine XS.iload X28.here hx rfl (hb hby at_114) rfl ?_
        show Steps p.tables e below (T28.setTop (mkF m 116 #[.val (.int p1), .val (.int p2), .val (.int rr), .val (.double rad), .second, .val (.ref b1), .val (.int (1 : Int32)), .val (.double ins), .second, .val (.double out), .second, .val (.int (1 : Int32)), .val (.int (1 : Int32)), .val (.int (1 : Int32))] [(.int (1 : Int32))])) _
        refine XS.ifNo X28.here hx rfl (hb hby at_116) rfl ((if0 _ _).trans (feq (by decide : ¬ ((1 : Int32) = (0 : Int32)))).1) ?_
        show Steps p.tables e below (T28.setTop (mkF m 119 #[.val (.int p1), .val (.int p2), .val (.int rr), .val (.double rad), .second, .val (.ref b1), .val (.int (1 : Int32)), .val (.double ins), .second, .val (.double out), .second, .val (.int (1 : Int32)), .val (.int (1 : Int32)), .val (.int (1 : Int32))] [])) _
        refine XS.iload X28.here hx rfl (hb hby at_119) rfl ?_
        exact k)
      have pre30 : ∀ t, Steps p.tables e below (T28.setTop (mkF m 139 #[.val (.int p1), .val (.int p2), .val (.int rr), .val (.double rad), .second, .val (.ref b1), .val (.int (1 : Int32)), .val (.double ins), .second, .val (.double out), .second, .val (.int (1 : Int32)), .val (.int (1 : Int32)), .val (.int (1 : Int32))] [(.int (1 : Int32))])) t → Steps p.tables e below (s₁.setTop (entryFrame m #[(.int p1), (.int p2)] maxLocals)) t := fun t k => pre29 t (by
        show Steps p.tables e below (T28.setTop (mkF m 121 #[.val (.int p1), .val (.int p2), .val (.int rr), .val (.double rad), .second, .val (.ref b1), .val (.int (1 : Int32)), .val (.double ins), .second, .val (.double out), .second, .val (.int (1 : Int32)), .val (.int (1 : Int32)), .val (.int (1 : Int32))] [(.int (1 : Int32))])) _
        refine XS.ifNo X28.here hx rfl (hb hby at_121) rfl ((if0 _ _).trans (feq (by decide : ¬ ((1 : Int32) = (0 : Int32)))).1) ?_
        show Steps p.tables e below (T28.setTop (mkF m 124 #[.val (.int p1), .val (.int p2), .val (.int rr), .val (.double rad), .second, .val (.ref b1), .val (.int (1 : Int32)), .val (.double ins), .second, .val (.double out), .second, .val (.int (1 : Int32)), .val (.int (1 : Int32)), .val (.int (1 : Int32))] [])) _
        refine XS.iload X28.here hx rfl (hb hby at_124) rfl ?_
        show Steps p.tables e below (T28.setTop (mkF m 126 #[.val (.int p1), .val (.int p2), .val (.int rr), .val (.double rad), .second, .val (.ref b1), .val (.int (1 : Int32)), .val (.double ins), .second, .val (.double out), .second, .val (.int (1 : Int32)), .val (.int (1 : Int32)), .val (.int (1 : Int32))] [(.int (1 : Int32))])) _
        refine XS.ifNo X28.here hx rfl (hb hby at_126) rfl ((if0 _ _).trans (feq (by decide : ¬ ((1 : Int32) = (0 : Int32)))).1) ?_
        show Steps p.tables e below (T28.setTop (mkF m 129 #[.val (.int p1), .val (.int p2), .val (.int rr), .val (.double rad), .second, .val (.ref b1), .val (.int (1 : Int32)), .val (.double ins), .second, .val (.double out), .second, .val (.int (1 : Int32)), .val (.int (1 : Int32)), .val (.int (1 : Int32))] [])) _
        refine XS.iload X28.here hx rfl (hb hby at_129) rfl ?_
        show Steps p.tables e below (T28.setTop (mkF m 131 #[.val (.int p1), .val (.int p2), .val (.int rr), .val (.double rad), .second, .val (.ref b1), .val (.int (1 : Int32)), .val (.double ins), .second, .val (.double out), .second, .val (.int (1 : Int32)), .val (.int (1 : Int32)), .val (.int (1 : Int32))] [(.int (1 : Int32))])) _
        refine XS.ifNo X28.here hx rfl (hb hby at_131) rfl ((if0 _ _).trans (feq (by decide : ¬ ((1 : Int32) = (0 : Int32)))).1) ?_
        show Steps p.tables e below (T28.setTop (mkF m 134 #[.val (.int p1), .val (.int p2), .val (.int rr), .val (.double rad), .second, .val (.ref b1), .val (.int (1 : Int32)), .val (.double ins), .second, .val (.double out), .second, .val (.int (1 : Int32)), .val (.int (1 : Int32)), .val (.int (1 : Int32))] [])) _
        refine XT.iconstV X28.here hx rfl (1 : Int32) (hb hby at_134) (by decide) ?_
        show Steps p.tables e below (T28.setTop (mkF m 135 #[.val (.int p1), .val (.int p2), .val (.int rr), .val (.double rad), .second, .val (.ref b1), .val (.int (1 : Int32)), .val (.double ins), .second, .val (.double out), .second, .val (.int (1 : Int32)), .val (.int (1 : Int32)), .val (.int (1 : Int32))] [(.int (1 : Int32))])) _
        refine XS.goto X28.here hx rfl (pc0 := 135) (pc' := 139) rfl (hb hby at_135) (by decide) (by decide) ?_
        exact k)
      obtain ⟨fs, hr, hrun, hended, hW, hsame⟩ := X28.leave (v := some (.int (1 : Int32))) (fun h => by rw [Bd.returns] at h; cases h)
      refine ⟨_, _, pre30 _ ?_, hrun, hended, _, _, rfl, ?_, ⟨_, rfl⟩, hW, hsame.mono (by decide) (by decide)⟩
      · show Steps p.tables e below (T28.setTop (mkF m 139 #[.val (.int p1), .val (.int p2), .val (.int rr), .val (.double rad), .second, .val (.ref b1), .val (.int (1 : Int32)), .val (.double ins), .second, .val (.double out), .second, .val (.int (1 : Int32)), .val (.int (1 : Int32)), .val (.int (1 : Int32))] [(.int (1 : Int32))])) _
        exact retOut X28 hx Bd.returns rfl (Or.inl ⟨rfl, by simp, _, rfl⟩) (hb hby at_139) hr
      · show Q0 Z p1 p2  h0 n0 _ T28.heap _
        rw [e28]
        exact ⟨rfl, N28⟩
set_option maxRecDepth 65536 in
set_option maxHeartbeats 40000000 in
theorem comes_1 {Post : Tables → Env → Array Value → State → Outcome → State → Prop} (hpost : ∀ tb e args s v u, (limb_1_1.after args s (.returned v) u = true ∧ limb_1_2.after args s (.returned v) u = true ∧ True) → FrameEnd s (.returned v) u (Jvm.fieldLocs frame_1_writes args s ++ Jvm.arrayLocs frame_1_arrays args s ++ Jvm.staticLocs frame_1_statics s) 16 128 → Post tb e args s (.returned v) u) :
    ArmFor flags0 classFile x code maxLocals ret World_1 tables_1 room_1 Calls_1 rest_1 Pre_1 Post := by
  intro l hfl _ _ p e ha hc hk s m args below hf hA hF happ hP
  obtain ⟨hcalls, hrest, hpre⟩ := hP
  obtain ⟨-, -, -, hnamed, -, -, -, hat⟩ := (Spec.applies_iff hf).mp happ
  obtain ⟨hg, hn⟩ := and_e (Cond.before_iff.mp (show (Jvm.Cond.and given_1 narrow_1).before args s = true from hpre))
  obtain ⟨gc, gr0⟩ := and_e hg
  obtain ⟨ga0, gr1⟩ := and_e gr0
  obtain ⟨w0, w1, rfl⟩ : ∃ w0 w1 : Value, args = #[w0, w1] := by
    have hs : args.size = 2 := by simpa [Cond.value, given_1] using gc
    obtain ⟨L⟩ := args
    match L, hs with
    | [w0, w1], _ => exact ⟨w0, w1, rfl⟩
  have hw := fun d (hd : d ∈ tables_1) => atoms_spec (ws := Jvm.Cond.code x code maxLocals ret :: tables_1) hat d (List.mem_cons_of_mem _ hd)
  have hfit : Fit s := fun {y c} hc i hi => by
    obtain ⟨ha, rfl⟩ := Array.getElem?_eq_some_iff.mp hc
    have q := List.all_eq_true.mp ((Array.all_eq_true_iff_forall_mem.mp hF) _ (Array.getElem_mem ha)) i (List.mem_range.mpr hi)
    simpa [Array.getElem?_eq_getElem hi] using q
  obtain ⟨i0, ei0⟩ := is_v ga0
  obtain rfl : w0 = (.int i0) := Option.some.inj ei0
  obtain ⟨i1, ei1⟩ := is_v gr1
  obtain rfl : w1 = (.int i1) := Option.some.inj ei1
  obtain ⟨n, o, h1, h2, h3, _, L, rfl, ⟨rfl, N⟩, hq⟩ := rm0 l s _ hw tables_1 i0 i1 s.heap s.heap.size (Nat.le_refl _)  p e ha hc hk s m _ below hf ((Spec.applies_iff_loose hf).mp happ).1 ⟨rfl, State.Warmed39.refl s, rfl⟩ trivial
  exact ⟨n, _, h1, h2, h3, hpost _ _ _ _ _ _ ⟨Cond.after_iff.mpr rfl, Cond.after_iff.mpr (eq_i res_at (Term.int_eval (1)) rfl), trivial⟩ ⟨hq.1, hq.2.1, (hq.2.2.sift fun y hy => Or.inr (N y hy)).mono (by decide) (by decide)⟩⟩
theorem main_1_1 : Claimed_1_1 := comes_1 fun _ _ _ _ _ _ h hF => ⟨h.1, hF⟩
theorem main_1_2 : Claimed_1_2 := comes_1 fun _ _ _ _ _ _ h hF => ⟨h.2.1, hF⟩
end Jvm.Pilot.@@N@@
namespace Jvm.Pilot.@@N@@
open Jvm Jvm.ClassFile Sem Op Lib Jvm.Free Jvm.Stand Jvm.Pilot.@@N@@.Jvm.D
/-! MADE BY PROGRAM (witnessworld.py) out of the Statement's table words and the real class files: 12 classes; the members and pool entries that the words name. The judged class is class 1, her method 1. -/
namespace start1
open Jvm.ClassFile
def u (s : String) : CpInfo := .utf8 (stringToUtf16 s)
/-- a pool by its gaps: so many unusable entries, then the entry; so many at the end -/
def gap : Nat → List CpInfo → List CpInfo
  | 0, r => r
  | n + 1, r => .unusable :: gap n r
def poolList (es : List (Nat × CpInfo)) (last : Nat) : List CpInfo := es.foldr (fun e r => gap e.1 (e.2 :: r)) (gap last [])
def pool (es : List (Nat × CpInfo)) (last : Nat) : Array CpInfo := ⟨poolList es last⟩
def fileOf (pool : Array CpInfo) (this : Nat) (attrs : Array Attribute := #[]) (ms : Array MethodInfo := #[]) (fl : Nat := 33) (sup : Nat := 0) (ifs : Array Nat := #[]) (fds : Array FieldInfo := #[]) : ClassFile where
  minorVersion := 0
  majorVersion := 65
  constantPool := pool
  accessFlags := fl
  thisClass := this
  superClass := sup
  interfaces := ifs
  fields := fds
  methods := ms
  attributes := attrs
def plain (name : String) (sup : Option ClassId) : Class where
  name := name
  kind := .ordinary
  loader := none
  accessFlags := 33
  super := sup
  interfaces := #[]
  cf := none
  fields := #[]
  methods := #[]
  instanceTypes := #[]
  staticTypes := #[]
  resolved := #[]
  callSites := []
  init := .initialized
  statics := none
  mirror := none

def pool0 : Array CpInfo := pool [(5, u "<init>"), (0, u "()V"), (1, .class_ 10), (1, u "java/lang/Object")] 113

def k0c0 : Code := { maxStack := 0, maxLocals := 1, code := object_method_1_code, exceptionTable := #[], attributes := #[] }
def k0m0 : Method := { name := "<init>", desc := "()V", sig := { parameters := [], returnType := none }, accessFlags := 1, code := some k0c0 }
/-- java/lang/Object -/
def k0 : Class := { plain "java/lang/Object" none with
  accessFlags := 33
  interfaces := #[]
  cf := some (fileOf pool0 8 #[] #[{ accessFlags := 1, nameIndex := 5, descriptorIndex := 6, attributes := #[] }] 33 0 #[] #[])
  fields := #[]
  methods := #[k0m0]
  instanceTypes := #[]
  staticTypes := #[]
  resolved := Array.replicate 124 none
  statics := none }

def pool1 : Array CpInfo := pool [(2, .class_ 4), (1, u "java/lang/Object"), (0, u "<init>"), (0, u "()V"), (0, .integer 536870911), (0, .class_ 9), (0, u "com/example/tidegauge/tidegauge/SphereCluster"), (0, .methodref 8 11), (0, .nameAndType 5 12), (0, u "([DDD)V"), (0, .methodref 8 14), (0, .nameAndType 15 16), (0, u "holdsAt"), (0, u "(D)Z"), (0, .double 4457293557087583675), (1, .double 4487126258331716666), (1, .class_ 22), (0, u "com/example/tidegauge/tidegauge/SphereClusterHoldsAtPinLaw"), (2, u "law"), (0, u "(II)Z")] 3

def k1m0 : Method := { name := "<init>", desc := "()V", sig := { parameters := [], returnType := none }, accessFlags := 2, code := none }
def k1c1 : Code := { maxStack := 7, maxLocals := 14, code := code, exceptionTable := #[], attributes := #[] }
def k1m1 : Method := { name := "law", desc := "(II)Z", sig := { parameters := [.int, .int], returnType := some .boolean }, accessFlags := 9, code := some k1c1 }
/-- com/example/tidegauge/tidegauge/SphereClusterHoldsAtPinLaw -/
def k1 : Class := { plain "com/example/tidegauge/tidegauge/SphereClusterHoldsAtPinLaw" (some 0) with
  accessFlags := 49
  interfaces := #[]
  cf := some (fileOf pool1 21 #[] #[{ accessFlags := 2, nameIndex := 5, descriptorIndex := 6, attributes := #[] }, { accessFlags := 9, nameIndex := 25, descriptorIndex := 26, attributes := #[] }] 49 2 #[] #[])
  fields := #[]
  methods := #[k1m0, k1m1]
  instanceTypes := #[]
  staticTypes := #[]
  resolved := Array.replicate 30 none
  statics := none }

def pool2 : Array CpInfo := pool [(1, .methodref 2 3), (0, .class_ 4), (0, .nameAndType 5 6), (0, u "java/lang/Object"), (0, u "<init>"), (0, u "()V"), (0, .class_ 8), (0, u "java/lang/Record")] 13

def k2c0 : Code := { maxStack := 1, maxLocals := 1, code := jdk_30_method_1_code, exceptionTable := #[], attributes := #[] }
def k2m0 : Method := { name := "<init>", desc := "()V", sig := { parameters := [], returnType := none }, accessFlags := 4, code := some k2c0 }
/-- java/lang/Record -/
def k2 : Class := { plain "java/lang/Record" (some 0) with
  accessFlags := 1057
  interfaces := #[]
  cf := some (fileOf pool2 7 #[] #[{ accessFlags := 4, nameIndex := 5, descriptorIndex := 6, attributes := #[] }] 1057 2 #[] #[])
  fields := #[]
  methods := #[k2m0]
  instanceTypes := #[]
  staticTypes := #[]
  resolved := Array.replicate 22 none
  statics := none }

def pool3 : Array CpInfo := pool [(1, .methodref 2 3), (0, .class_ 4), (0, .nameAndType 5 6), (0, u "java/lang/Record"), (0, u "<init>"), (0, u "()V"), (0, .fieldref 8 9), (0, .class_ 10), (0, .nameAndType 11 12), (0, u "com/example/tidegauge/tidegauge/SphereCluster"), (0, u "centre"), (0, u "[D"), (0, .fieldref 8 14), (0, .nameAndType 15 16), (0, u "radius"), (0, u "D"), (0, .fieldref 8 18), (0, .nameAndType 19 16), (0, u "weight"), (12, u "holdsAt"), (0, u "(D)Z"), (0, .double 4472406533629990549), (13, u "RADIUS_TOLERANCE"), (1, u "([DDD)V")] 33

def k3c0 : Code := { maxStack := 3, maxLocals := 6, code := prog_36_method_1_code, exceptionTable := #[], attributes := #[] }
def k3m0 : Method := { name := "<init>", desc := "([DDD)V", sig := { parameters := [(.array .double), .double, .double], returnType := none }, accessFlags := 0, code := some k3c0 }
def k3c1 : Code := { maxStack := 8, maxLocals := 3, code := prog_36_method_4_code, exceptionTable := #[], attributes := #[] }
def k3m1 : Method := { name := "holdsAt", desc := "(D)Z", sig := { parameters := [.double], returnType := some .boolean }, accessFlags := 0, code := some k3c1 }
/-- com/example/tidegauge/tidegauge/SphereCluster -/
def k3 : Class := { plain "com/example/tidegauge/tidegauge/SphereCluster" (some 2) with
  accessFlags := 48
  interfaces := #[]
  cf := some (fileOf pool3 8 #[] #[{ accessFlags := 0, nameIndex := 5, descriptorIndex := 50, attributes := #[] }, { accessFlags := 0, nameIndex := 32, descriptorIndex := 33, attributes := #[] }] 48 2 #[] #[{ accessFlags := 18, nameIndex := 11, descriptorIndex := 12, attributes := #[] }, { accessFlags := 18, nameIndex := 15, descriptorIndex := 16, attributes := #[] }, { accessFlags := 18, nameIndex := 19, descriptorIndex := 16, attributes := #[] }, { accessFlags := 24, nameIndex := 48, descriptorIndex := 16, attributes := #[] }])
  fields := #[{ name := "centre", type := (.array .double), accessFlags := 18, slot := 0, constantValue := 0 }, { name := "radius", type := .double, accessFlags := 18, slot := 1, constantValue := 0 }, { name := "weight", type := .double, accessFlags := 18, slot := 2, constantValue := 0 }, { name := "RADIUS_TOLERANCE", type := .double, accessFlags := 24, slot := 0, constantValue := 0 }]
  methods := #[k3m0, k3m1]
  instanceTypes := #[(.array .double), .double, .double]
  staticTypes := #[.double]
  resolved := Array.replicate 84 none
  statics := none }

def pool4 : Array CpInfo := pool [(1, u "java/lang/Cloneable"), (0, .class_ 1), (0, u "java/lang/Object"), (0, .class_ 3)] 3

/-- java/lang/Cloneable -/
def k4 : Class := { plain "java/lang/Cloneable" (some 0) with
  accessFlags := 1537
  interfaces := #[]
  cf := some (fileOf pool4 2 #[] #[] 1537 4 #[] #[])
  fields := #[]
  methods := #[]
  instanceTypes := #[]
  staticTypes := #[]
  resolved := Array.replicate 8 none
  statics := none }

def pool5 : Array CpInfo := pool [(1, u "java/io/Serializable"), (0, .class_ 1), (0, u "java/lang/Object"), (0, .class_ 3)] 3

/-- java/io/Serializable -/
def k5 : Class := { plain "java/io/Serializable" (some 0) with
  accessFlags := 1537
  interfaces := #[]
  cf := some (fileOf pool5 2 #[] #[] 1537 4 #[] #[])
  fields := #[]
  methods := #[]
  instanceTypes := #[]
  staticTypes := #[]
  resolved := Array.replicate 8 none
  statics := none }

/-- the primitive byte -/
def k6 : Class := { plain "byte" none with kind := .primitive 'B', accessFlags := 0x411 }
/-- [B -/
def k7 : Class := { plain "[B" (some 0) with kind := .array 6 .byte, interfaces := #[4, 5], accessFlags := 1041 }

/-- the primitive double -/
def k8 : Class := { plain "double" none with kind := .primitive 'D', accessFlags := 0x411 }
/-- [D -/
def k9 : Class := { plain "[D" (some 0) with kind := .array 8 .double, interfaces := #[4, 5], accessFlags := 1041 }

/-- the primitive int -/
def k10 : Class := { plain "int" none with kind := .primitive 'I', accessFlags := 0x411 }
/-- [I -/
def k11 : Class := { plain "[I" (some 0) with kind := .array 10 .int, interfaces := #[4, 5], accessFlags := 1041 }

def heap : Heap := #[]
def classes : Array Class := #[k0, k1, k2, k3, k4, k5, k6, k7, k8, k9, k10, k11]
def interned : List (Array UInt16 × Addr) := []
def slotsUsed : Nat := 0
def theMethod : MethodId := ⟨1, 1⟩
def args0 : Array Value := #[.int 5, .int 7]
def aboutOver (below : List Frame) : State where
  vm := { classes := classes, interned := interned.toArray }
  heap := heap
  slotsUsed := slotsUsed
  threads := #[{ frames := .invoking theMethod args0 :: below }]
def below0 : List Frame := [.native { method := ⟨0, 0⟩, args := #[] }]
def about1 : State := aboutOver below0
def p0 : Program := .bare "" "" ""
def e0 : Env := launch0.env 0 0 0
theorem w_frames : about1.frames = Frame.invoking theMethod args0 :: below0 := rfl
set_option maxRecDepth 65536 in
theorem w_args : argsFit about1.vm theMethod args0 = true := by decide +kernel
set_option maxRecDepth 65536 in
theorem w_heap : heapFits about1 = true := by decide +kernel
set_option maxRecDepth 65536 in
theorem w_runnable : about1.curStatus? = some .runnable := by decide +kernel
set_option maxRecDepth 65536 in
theorem w_alone : about1.alone = true := by decide +kernel
set_option maxRecDepth 65536 in
theorem w_named : about1.methodNamed? x = some theMethod := by decide +kernel
set_option maxRecDepth 65536 in
theorem w_hears : about1.hears theMethod below0 = true := by decide +kernel
set_option maxRecDepth 65536 in
theorem w_ripe : about1.ripe theMethod args0 below0 = true := by decide +kernel
theorem w_running : about1.status = .running := rfl
set_option maxRecDepth 65536 in
theorem w_room : about1.hasRoom e0.platform room_1 = true :=
  launch0.hasRoom_least _ room_1 (by decide +kernel) (by decide +kernel) (by decide +kernel) (by decide +kernel) (by decide +kernel) (by decide +kernel)
theorem allAtoms_all (ts : List Jvm.Cond) (a : Array Jvm.Value) (st : Jvm.State) : (allAtoms ts).before a st = ts.all (fun c => c.before a st) := by
  induction ts with
  | nil => rfl
  | cons c t ih =>
    show (Jvm.Cond.and c (allAtoms t)).before a st = _
    rw [Jvm.Cond.before_and, ih, List.all_cons]
def words1 : List Jvm.Cond := Jvm.Cond.code x code maxLocals ret :: tables_1
/-- a 'code' word, met by the world's own term for the bytes: nothing is compared byte by byte -/
theorem code_word {y : MethodName} {bytes : ByteArray} {mx : Nat} {rt : Option FieldType} {a : Array Value} {s : State} {m : MethodId} {meth : Method} {c : Code} (h1 : s.methodNamed? y = some m) (h2 : s.vm.method? m = some meth) (h3 : meth.code = some c) (h4 : c.code = bytes)
    (h5 : (c.maxLocals == mx && c.exceptionTable.isEmpty && decide (c.maxStack ≤ mostOperands) && decide (meth.sig.returnType = rt) && !meth.locks && decide (parseMethodDescriptor y.desc = some meth.sig)) = true) : (Jvm.Cond.code y bytes mx rt).before a s = true := by
  simp only [Bool.and_eq_true, beq_iff_eq, Bool.not_eq_true', decide_eq_true_eq] at h5
  obtain ⟨⟨⟨⟨⟨g1, g2⟩, g3⟩, g4⟩, g5⟩, g6⟩ := h5
  simp [Cond.before, Cond.holds, Cond.value, h1, h2, h3, h4, g1, g2, g3, g4, g5, g6]
def isCode : Jvm.Cond → Bool
  | .code _ _ _ _ => true
  | _ => false
theorem all_split {L : List Jvm.Cond} {P : Jvm.Cond → Bool} (h1 : L.all (fun c => isCode c || P c) = true) (h2 : ∀ c ∈ L.filter isCode, P c = true) : L.all P = true := by
  refine List.all_eq_true.mpr fun c hc => ?_
  have h := List.all_eq_true.mp h1 c hc
  rcases Bool.eq_false_or_eq_true (isCode c) with hi | hi
  · exact h2 c (List.mem_filter.mpr ⟨hc, hi⟩)
  · simpa [hi] using h
set_option maxRecDepth 65536 in
theorem w_c0 : (Jvm.Cond.code x code maxLocals ret).before args0 about1 = true := code_word (m := ⟨1, 1⟩) (meth := k1m1) (c := k1c1) (by decide +kernel) rfl rfl rfl (by decide +kernel)
set_option maxRecDepth 65536 in
theorem w_c1 : (Jvm.Cond.code ({ cls := "com/example/tidegauge/tidegauge/SphereCluster", name := "<init>", desc := "([DDD)V" } : Jvm.MethodName) prog_36_method_1_code (6 : Nat) (Option.none : Option Jvm.ClassFile.FieldType)).before args0 about1 = true := code_word (m := ⟨3, 0⟩) (meth := k3m0) (c := k3c0) (by decide +kernel) rfl rfl rfl (by decide +kernel)
set_option maxRecDepth 65536 in
theorem w_c2 : (Jvm.Cond.code ({ cls := "java/lang/Record", name := "<init>", desc := "()V" } : Jvm.MethodName) jdk_30_method_1_code (1 : Nat) (Option.none : Option Jvm.ClassFile.FieldType)).before args0 about1 = true := code_word (m := ⟨2, 0⟩) (meth := k2m0) (c := k2c0) (by decide +kernel) rfl rfl rfl (by decide +kernel)
set_option maxRecDepth 65536 in
theorem w_c3 : (Jvm.Cond.code ({ cls := "java/lang/Object", name := "<init>", desc := "()V" } : Jvm.MethodName) object_method_1_code (1 : Nat) (Option.none : Option Jvm.ClassFile.FieldType)).before args0 about1 = true := code_word (m := ⟨0, 0⟩) (meth := k0m0) (c := k0c0) (by decide +kernel) rfl rfl rfl (by decide +kernel)
set_option maxRecDepth 65536 in
theorem w_c4 : (Jvm.Cond.code ({ cls := "com/example/tidegauge/tidegauge/SphereCluster", name := "holdsAt", desc := "(D)Z" } : Jvm.MethodName) prog_36_method_4_code (3 : Nat) (Option.some Jvm.ClassFile.FieldType.boolean)).before args0 about1 = true := code_word (m := ⟨3, 1⟩) (meth := k3m1) (c := k3c1) (by decide +kernel) rfl rfl rfl (by decide +kernel)
def codes1 : List Jvm.Cond := [Jvm.Cond.code x code maxLocals ret, Jvm.Cond.code ({ cls := "com/example/tidegauge/tidegauge/SphereCluster", name := "<init>", desc := "([DDD)V" } : Jvm.MethodName) prog_36_method_1_code (6 : Nat) (Option.none : Option Jvm.ClassFile.FieldType), Jvm.Cond.code ({ cls := "java/lang/Record", name := "<init>", desc := "()V" } : Jvm.MethodName) jdk_30_method_1_code (1 : Nat) (Option.none : Option Jvm.ClassFile.FieldType), Jvm.Cond.code ({ cls := "java/lang/Object", name := "<init>", desc := "()V" } : Jvm.MethodName) object_method_1_code (1 : Nat) (Option.none : Option Jvm.ClassFile.FieldType), Jvm.Cond.code ({ cls := "com/example/tidegauge/tidegauge/SphereCluster", name := "holdsAt", desc := "(D)Z" } : Jvm.MethodName) prog_36_method_4_code (3 : Nat) (Option.some Jvm.ClassFile.FieldType.boolean)]
set_option maxRecDepth 65536 in
theorem codes_eq : words1.filter isCode = codes1 := rfl
theorem w_codes : ∀ c ∈ words1.filter isCode, c.before args0 about1 = true := by
  rw [codes_eq]
  intro c hc
  simp only [codes1, List.mem_cons, List.not_mem_nil, or_false] at hc
  rcases hc with rfl | rfl | rfl | rfl | rfl
  · exact w_c0
  · exact w_c1
  · exact w_c2
  · exact w_c3
  · exact w_c4
set_option maxRecDepth 65536 in
theorem w_t1 : (words1.take 24).all (fun c => isCode c || c.before args0 about1) = true := by decide +kernel
set_option maxRecDepth 65536 in
theorem w_t2 : (words1.drop 24).all (fun c => isCode c || c.before args0 about1) = true := by decide +kernel
theorem w_tables : (allAtoms (Jvm.Cond.code x code maxLocals ret :: tables_1)).before args0 about1 = true := by
  rw [allAtoms_all]
  show words1.all (fun c => c.before args0 about1) = true
  refine all_split ?_ w_codes
  rw [← List.take_append_drop 24 words1, List.all_append, w_t1, w_t2]
  rfl
set_option maxRecDepth 65536 in
theorem w_case : (Jvm.Cond.and given_1 narrow_1).before args0 about1 = true := by decide +kernel
theorem w_applies : (headSpec (Jvm.Cond.code x code maxLocals ret :: tables_1) room_1).applies x e0.platform about1 = true :=
  (Spec.applies_iff w_frames).mpr ⟨w_running, w_runnable, w_alone, w_named, w_hears, w_ripe, w_room, w_tables⟩
theorem atStart : AtStart classFile x code maxLocals ret World_1 tables_1 room_1 Calls_1 rest_1 Pre_1 launch0 p0 e0 about1 theMethod args0 below0 :=
  ⟨lists_1, trivial, launch0.admits_env _ _ _, launch0.least_env, fairChoices_fair.cas, fairChoices_fair.clock, w_frames, w_args, w_heap, w_applies, trivial, trivial, w_case⟩
end start1
theorem witness_1 : WitnessClaimed_1 := ⟨start1.p0, start1.e0, start1.about1, start1.theMethod, start1.args0, start1.below0, start1.atStart⟩
end Jvm.Pilot.@@N@@
