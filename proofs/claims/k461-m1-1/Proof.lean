import JvmDerived
import JvmDerived.Pilot.@@N@@Statement
import JvmDerived.Pilot.@@N@@Code
set_option linter.unusedVariables false
set_option linter.unusedSimpArgs false
namespace Jvm.Pilot.@@N@@
open Jvm Jvm.ClassFile Sem Op Lib Jvm.Free Jvm.Stand Jvm.LawKit Jvm.RoadKit Bundle Jvm.Pilot.@@N@@.Jvm.D
theorem pd_0 : parseMethodDescriptor "(I)Z" = some ⟨[.int], some .boolean⟩ := by decide +kernel
theorem pd_1 : parseMethodDescriptor "(II)I" = some ⟨[.int, .int], some .int⟩ := by decide +kernel
theorem own_ext_refl (h : Heap) : Ext h h := ⟨Nat.le_refl _, fun _ _ q => q⟩
theorem own_ext_trans {h h' h'' : Heap} (E : Ext h h') (F : Ext h' h'') : Ext h h'' := ⟨Nat.le_trans E.1 F.1, fun a c q => F.2 a c (E.2 a c q)⟩
theorem own_ext_keep {h h' h'' : Heap} {ws : List Addr} (E : Ext h h') (K : Keep h' h'' ws) (q : ∀ x ∈ ws, h.size ≤ x) : Ext h h'' := ⟨Nat.le_trans E.1 K.1, fun a c r => K.2.1 a c (E.2 a c r) fun z => absurd (Array.getElem?_eq_some_iff.mp r).1 (Nat.not_lt.mpr (q a z))⟩
theorem own_ext_wr {h h' h'' : Heap} {a : Addr} {sl : Nat} {v : Value} (E : Ext h h') (W : Wr h' h'' a sl v) (q : h.size ≤ a) : Ext h h'' := own_ext_keep E (Keep.of_wr W) (allS q all0)
theorem d1_0 : decode prog_131_method_4_code 0 = .ok (.iload_n 0, 1) := by decide +kernel
theorem d1_1 : decode prog_131_method_4_code 1 = .ok (.bipush 97, 2) := by decide +kernel
theorem d1_3 : decode prog_131_method_4_code 3 = .ok (.if_icmp .lt 9, 3) := by decide +kernel
theorem d1_6 : decode prog_131_method_4_code 6 = .ok (.iload_n 0, 1) := by decide +kernel
theorem d1_7 : decode prog_131_method_4_code 7 = .ok (.bipush 122, 2) := by decide +kernel
theorem d1_9 : decode prog_131_method_4_code 9 = .ok (.if_icmp .le 182, 3) := by decide +kernel
theorem d1_12 : decode prog_131_method_4_code 12 = .ok (.iload_n 0, 1) := by decide +kernel
theorem d1_13 : decode prog_131_method_4_code 13 = .ok (.bipush 65, 2) := by decide +kernel
theorem d1_15 : decode prog_131_method_4_code 15 = .ok (.if_icmp .lt 9, 3) := by decide +kernel
theorem d1_18 : decode prog_131_method_4_code 18 = .ok (.iload_n 0, 1) := by decide +kernel
theorem d1_19 : decode prog_131_method_4_code 19 = .ok (.bipush 90, 2) := by decide +kernel
theorem d1_21 : decode prog_131_method_4_code 21 = .ok (.if_icmp .le 170, 3) := by decide +kernel
theorem d1_24 : decode prog_131_method_4_code 24 = .ok (.iload_n 0, 1) := by decide +kernel
theorem d1_25 : decode prog_131_method_4_code 25 = .ok (.bipush 95, 2) := by decide +kernel
theorem d1_27 : decode prog_131_method_4_code 27 = .ok (.if_icmp .eq 164, 3) := by decide +kernel
theorem d1_30 : decode prog_131_method_4_code 30 = .ok (.iload_n 0, 1) := by decide +kernel
theorem d1_31 : decode prog_131_method_4_code 31 = .ok (.sipush 192, 3) := by decide +kernel
theorem d1_34 : decode prog_131_method_4_code 34 = .ok (.if_icmp .lt 10, 3) := by decide +kernel
theorem d1_37 : decode prog_131_method_4_code 37 = .ok (.iload_n 0, 1) := by decide +kernel
theorem d1_38 : decode prog_131_method_4_code 38 = .ok (.sipush 214, 3) := by decide +kernel
theorem d1_41 : decode prog_131_method_4_code 41 = .ok (.if_icmp .le 150, 3) := by decide +kernel
theorem d1_44 : decode prog_131_method_4_code 44 = .ok (.iload_n 0, 1) := by decide +kernel
theorem d1_45 : decode prog_131_method_4_code 45 = .ok (.sipush 216, 3) := by decide +kernel
theorem d1_48 : decode prog_131_method_4_code 48 = .ok (.if_icmp .lt 10, 3) := by decide +kernel
theorem d1_51 : decode prog_131_method_4_code 51 = .ok (.iload_n 0, 1) := by decide +kernel
theorem d1_52 : decode prog_131_method_4_code 52 = .ok (.sipush 246, 3) := by decide +kernel
theorem d1_55 : decode prog_131_method_4_code 55 = .ok (.if_icmp .le 136, 3) := by decide +kernel
theorem d1_58 : decode prog_131_method_4_code 58 = .ok (.iload_n 0, 1) := by decide +kernel
theorem d1_59 : decode prog_131_method_4_code 59 = .ok (.sipush 248, 3) := by decide +kernel
theorem d1_62 : decode prog_131_method_4_code 62 = .ok (.if_icmp .lt 10, 3) := by decide +kernel
theorem d1_65 : decode prog_131_method_4_code 65 = .ok (.iload_n 0, 1) := by decide +kernel
theorem d1_66 : decode prog_131_method_4_code 66 = .ok (.sipush 767, 3) := by decide +kernel
theorem d1_69 : decode prog_131_method_4_code 69 = .ok (.if_icmp .le 122, 3) := by decide +kernel
theorem d1_72 : decode prog_131_method_4_code 72 = .ok (.iload_n 0, 1) := by decide +kernel
theorem d1_73 : decode prog_131_method_4_code 73 = .ok (.sipush 880, 3) := by decide +kernel
theorem d1_76 : decode prog_131_method_4_code 76 = .ok (.if_icmp .lt 10, 3) := by decide +kernel
theorem d1_79 : decode prog_131_method_4_code 79 = .ok (.iload_n 0, 1) := by decide +kernel
theorem d1_80 : decode prog_131_method_4_code 80 = .ok (.sipush 893, 3) := by decide +kernel
theorem d1_83 : decode prog_131_method_4_code 83 = .ok (.if_icmp .le 108, 3) := by decide +kernel
theorem d1_86 : decode prog_131_method_4_code 86 = .ok (.iload_n 0, 1) := by decide +kernel
theorem d1_87 : decode prog_131_method_4_code 87 = .ok (.sipush 895, 3) := by decide +kernel
theorem d1_90 : decode prog_131_method_4_code 90 = .ok (.if_icmp .lt 10, 3) := by decide +kernel
theorem d1_93 : decode prog_131_method_4_code 93 = .ok (.iload_n 0, 1) := by decide +kernel
theorem d1_94 : decode prog_131_method_4_code 94 = .ok (.sipush 8191, 3) := by decide +kernel
theorem d1_97 : decode prog_131_method_4_code 97 = .ok (.if_icmp .le 94, 3) := by decide +kernel
theorem d1_100 : decode prog_131_method_4_code 100 = .ok (.iload_n 0, 1) := by decide +kernel
theorem d1_101 : decode prog_131_method_4_code 101 = .ok (.sipush 8204, 3) := by decide +kernel
theorem d1_104 : decode prog_131_method_4_code 104 = .ok (.if_icmp .lt 10, 3) := by decide +kernel
theorem d1_107 : decode prog_131_method_4_code 107 = .ok (.iload_n 0, 1) := by decide +kernel
theorem d1_108 : decode prog_131_method_4_code 108 = .ok (.sipush 8205, 3) := by decide +kernel
theorem d1_111 : decode prog_131_method_4_code 111 = .ok (.if_icmp .le 80, 3) := by decide +kernel
theorem d1_114 : decode prog_131_method_4_code 114 = .ok (.iload_n 0, 1) := by decide +kernel
theorem d1_115 : decode prog_131_method_4_code 115 = .ok (.sipush 8304, 3) := by decide +kernel
theorem d1_118 : decode prog_131_method_4_code 118 = .ok (.if_icmp .lt 10, 3) := by decide +kernel
theorem d1_121 : decode prog_131_method_4_code 121 = .ok (.iload_n 0, 1) := by decide +kernel
theorem d1_122 : decode prog_131_method_4_code 122 = .ok (.sipush 8591, 3) := by decide +kernel
theorem d1_125 : decode prog_131_method_4_code 125 = .ok (.if_icmp .le 66, 3) := by decide +kernel
theorem d1_128 : decode prog_131_method_4_code 128 = .ok (.iload_n 0, 1) := by decide +kernel
theorem d1_129 : decode prog_131_method_4_code 129 = .ok (.sipush 11264, 3) := by decide +kernel
theorem d1_132 : decode prog_131_method_4_code 132 = .ok (.if_icmp .lt 10, 3) := by decide +kernel
theorem d1_135 : decode prog_131_method_4_code 135 = .ok (.iload_n 0, 1) := by decide +kernel
theorem d1_136 : decode prog_131_method_4_code 136 = .ok (.sipush 12271, 3) := by decide +kernel
theorem d1_139 : decode prog_131_method_4_code 139 = .ok (.if_icmp .le 52, 3) := by decide +kernel
theorem d1_142 : decode prog_131_method_4_code 142 = .ok (.iload_n 0, 1) := by decide +kernel
theorem d1_143 : decode prog_131_method_4_code 143 = .ok (.sipush 12289, 3) := by decide +kernel
theorem d1_146 : decode prog_131_method_4_code 146 = .ok (.if_icmp .lt 9, 3) := by decide +kernel
theorem d1_149 : decode prog_131_method_4_code 149 = .ok (.iload_n 0, 1) := by decide +kernel
theorem d1_150 : decode prog_131_method_4_code 150 = .ok (.ldc 71, 2) := by decide +kernel
theorem d1_152 : decode prog_131_method_4_code 152 = .ok (.if_icmp .le 39, 3) := by decide +kernel
theorem d1_155 : decode prog_131_method_4_code 155 = .ok (.iload_n 0, 1) := by decide +kernel
theorem d1_156 : decode prog_131_method_4_code 156 = .ok (.ldc 72, 2) := by decide +kernel
theorem d1_158 : decode prog_131_method_4_code 158 = .ok (.if_icmp .lt 9, 3) := by decide +kernel
theorem d1_161 : decode prog_131_method_4_code 161 = .ok (.iload_n 0, 1) := by decide +kernel
theorem d1_162 : decode prog_131_method_4_code 162 = .ok (.ldc 73, 2) := by decide +kernel
theorem d1_164 : decode prog_131_method_4_code 164 = .ok (.if_icmp .le 27, 3) := by decide +kernel
theorem d1_167 : decode prog_131_method_4_code 167 = .ok (.iload_n 0, 1) := by decide +kernel
theorem d1_168 : decode prog_131_method_4_code 168 = .ok (.ldc 74, 2) := by decide +kernel
theorem d1_170 : decode prog_131_method_4_code 170 = .ok (.if_icmp .lt 9, 3) := by decide +kernel
theorem d1_173 : decode prog_131_method_4_code 173 = .ok (.iload_n 0, 1) := by decide +kernel
theorem d1_174 : decode prog_131_method_4_code 174 = .ok (.ldc 75, 2) := by decide +kernel
theorem d1_176 : decode prog_131_method_4_code 176 = .ok (.if_icmp .le 15, 3) := by decide +kernel
theorem d1_179 : decode prog_131_method_4_code 179 = .ok (.iload_n 0, 1) := by decide +kernel
theorem d1_180 : decode prog_131_method_4_code 180 = .ok (.ldc 76, 2) := by decide +kernel
theorem d1_182 : decode prog_131_method_4_code 182 = .ok (.if_icmp .lt 13, 3) := by decide +kernel
theorem d1_185 : decode prog_131_method_4_code 185 = .ok (.iload_n 0, 1) := by decide +kernel
theorem d1_186 : decode prog_131_method_4_code 186 = .ok (.ldc 77, 2) := by decide +kernel
theorem d1_188 : decode prog_131_method_4_code 188 = .ok (.if_icmp .gt 7, 3) := by decide +kernel
theorem d1_191 : decode prog_131_method_4_code 191 = .ok (.iconst 1, 1) := by decide +kernel
theorem d1_192 : decode prog_131_method_4_code 192 = .ok (.goto 4, 3) := by decide +kernel
theorem d1_195 : decode prog_131_method_4_code 195 = .ok (.iconst 0, 1) := by decide +kernel
theorem d1_196 : decode prog_131_method_4_code 196 = .ok (.ireturn, 1) := by decide +kernel
theorem d2_0 : decode jdk_29_method_69_code 0 = .ok (.iload_n 0, 1) := by decide +kernel
theorem d2_1 : decode jdk_29_method_69_code 1 = .ok (.iload_n 1, 1) := by decide +kernel
theorem d2_2 : decode jdk_29_method_69_code 2 = .ok (.if_icmp .gt 7, 3) := by decide +kernel
theorem d2_5 : decode jdk_29_method_69_code 5 = .ok (.iload_n 0, 1) := by decide +kernel
theorem d2_6 : decode jdk_29_method_69_code 6 = .ok (.goto 4, 3) := by decide +kernel
theorem d2_9 : decode jdk_29_method_69_code 9 = .ok (.iload_n 1, 1) := by decide +kernel
theorem d2_10 : decode jdk_29_method_69_code 10 = .ok (.ireturn, 1) := by decide +kernel
theorem d3_0 : decode jdk_29_method_65_code 0 = .ok (.iload_n 0, 1) := by decide +kernel
theorem d3_1 : decode jdk_29_method_65_code 1 = .ok (.iload_n 1, 1) := by decide +kernel
theorem d3_2 : decode jdk_29_method_65_code 2 = .ok (.if_icmp .lt 7, 3) := by decide +kernel
theorem d3_5 : decode jdk_29_method_65_code 5 = .ok (.iload_n 0, 1) := by decide +kernel
theorem d3_6 : decode jdk_29_method_65_code 6 = .ok (.goto 4, 3) := by decide +kernel
theorem d3_9 : decode jdk_29_method_65_code 9 = .ok (.iload_n 1, 1) := by decide +kernel
theorem d3_10 : decode jdk_29_method_65_code 10 = .ok (.ireturn, 1) := by decide +kernel
def own_s15 (c : Int32) : Int32 := if c < (65536 : Int32) then (0 : Int32) else if (983039 : Int32) < c then (0 : Int32) else (1 : Int32)
def own_s14 (c : Int32) : Int32 := if c < (65008 : Int32) then own_s15 c else if (65533 : Int32) < c then own_s15 c else (1 : Int32)
def own_s13 (c : Int32) : Int32 := if c < (63744 : Int32) then own_s14 c else if (64975 : Int32) < c then own_s14 c else (1 : Int32)
def own_s12 (c : Int32) : Int32 := if c < (12289 : Int32) then own_s13 c else if (55295 : Int32) < c then own_s13 c else (1 : Int32)
def own_s11 (c : Int32) : Int32 := if c < (11264 : Int32) then own_s12 c else if (12271 : Int32) < c then own_s12 c else (1 : Int32)
def own_s10 (c : Int32) : Int32 := if c < (8304 : Int32) then own_s11 c else if (8591 : Int32) < c then own_s11 c else (1 : Int32)
def own_s9 (c : Int32) : Int32 := if c < (8204 : Int32) then own_s10 c else if (8205 : Int32) < c then own_s10 c else (1 : Int32)
def own_s8 (c : Int32) : Int32 := if c < (895 : Int32) then own_s9 c else if (8191 : Int32) < c then own_s9 c else (1 : Int32)
def own_s7 (c : Int32) : Int32 := if c < (880 : Int32) then own_s8 c else if (893 : Int32) < c then own_s8 c else (1 : Int32)
def own_s6 (c : Int32) : Int32 := if c < (248 : Int32) then own_s7 c else if (767 : Int32) < c then own_s7 c else (1 : Int32)
def own_s5 (c : Int32) : Int32 := if c < (216 : Int32) then own_s6 c else if (246 : Int32) < c then own_s6 c else (1 : Int32)
def own_s4 (c : Int32) : Int32 := if c < (192 : Int32) then own_s5 c else if (214 : Int32) < c then own_s5 c else (1 : Int32)
def own_s3 (c : Int32) : Int32 := if c = (95 : Int32) then (1 : Int32) else own_s4 c
def own_s2 (c : Int32) : Int32 := if c < (65 : Int32) then own_s3 c else if (90 : Int32) < c then own_s3 c else (1 : Int32)
def own_s1 (c : Int32) : Int32 := if c < (97 : Int32) then own_s2 c else if (122 : Int32) < c then own_s2 c else (1 : Int32)
theorem own_e1 (c : Int32) : own_s1 c = if 97 ≤ c.toInt ∧ c.toInt ≤ 122 then (1 : Int32) else own_s2 c := by
  have a : (97 : Int32).toInt = 97 := by decide
  have b : (122 : Int32).toInt = 122 := by decide
  simp only [own_s1, Int32.lt_iff_toInt_lt, a, b]
  by_cases h1 : c.toInt < 97
  · rw [if_pos h1, if_neg (by omega)]
  · by_cases h2 : 122 < c.toInt
    · rw [if_neg h1, if_pos h2, if_neg (by omega)]
    · rw [if_neg h1, if_neg h2, if_pos (by omega)]
theorem own_e2 (c : Int32) : own_s2 c = if 65 ≤ c.toInt ∧ c.toInt ≤ 90 then (1 : Int32) else own_s3 c := by
  have a : (65 : Int32).toInt = 65 := by decide
  have b : (90 : Int32).toInt = 90 := by decide
  simp only [own_s2, Int32.lt_iff_toInt_lt, a, b]
  by_cases h1 : c.toInt < 65
  · rw [if_pos h1, if_neg (by omega)]
  · by_cases h2 : 90 < c.toInt
    · rw [if_neg h1, if_pos h2, if_neg (by omega)]
    · rw [if_neg h1, if_neg h2, if_pos (by omega)]
theorem own_e3 (c : Int32) : own_s3 c = if 95 ≤ c.toInt ∧ c.toInt ≤ 95 then (1 : Int32) else own_s4 c := by
  have a : (95 : Int32).toInt = 95 := by decide
  have b : (95 : Int32).toInt = 95 := by decide
  simp only [own_s3, ← Int32.toInt_inj, a]
  by_cases h : c.toInt = 95
  · rw [if_pos h, if_pos (by omega)]
  · rw [if_neg h, if_neg (by omega)]
theorem own_e4 (c : Int32) : own_s4 c = if 192 ≤ c.toInt ∧ c.toInt ≤ 214 then (1 : Int32) else own_s5 c := by
  have a : (192 : Int32).toInt = 192 := by decide
  have b : (214 : Int32).toInt = 214 := by decide
  simp only [own_s4, Int32.lt_iff_toInt_lt, a, b]
  by_cases h1 : c.toInt < 192
  · rw [if_pos h1, if_neg (by omega)]
  · by_cases h2 : 214 < c.toInt
    · rw [if_neg h1, if_pos h2, if_neg (by omega)]
    · rw [if_neg h1, if_neg h2, if_pos (by omega)]
theorem own_e5 (c : Int32) : own_s5 c = if 216 ≤ c.toInt ∧ c.toInt ≤ 246 then (1 : Int32) else own_s6 c := by
  have a : (216 : Int32).toInt = 216 := by decide
  have b : (246 : Int32).toInt = 246 := by decide
  simp only [own_s5, Int32.lt_iff_toInt_lt, a, b]
  by_cases h1 : c.toInt < 216
  · rw [if_pos h1, if_neg (by omega)]
  · by_cases h2 : 246 < c.toInt
    · rw [if_neg h1, if_pos h2, if_neg (by omega)]
    · rw [if_neg h1, if_neg h2, if_pos (by omega)]
theorem own_e6 (c : Int32) : own_s6 c = if 248 ≤ c.toInt ∧ c.toInt ≤ 767 then (1 : Int32) else own_s7 c := by
  have a : (248 : Int32).toInt = 248 := by decide
  have b : (767 : Int32).toInt = 767 := by decide
  simp only [own_s6, Int32.lt_iff_toInt_lt, a, b]
  by_cases h1 : c.toInt < 248
  · rw [if_pos h1, if_neg (by omega)]
  · by_cases h2 : 767 < c.toInt
    · rw [if_neg h1, if_pos h2, if_neg (by omega)]
    · rw [if_neg h1, if_neg h2, if_pos (by omega)]
theorem own_e7 (c : Int32) : own_s7 c = if 880 ≤ c.toInt ∧ c.toInt ≤ 893 then (1 : Int32) else own_s8 c := by
  have a : (880 : Int32).toInt = 880 := by decide
  have b : (893 : Int32).toInt = 893 := by decide
  simp only [own_s7, Int32.lt_iff_toInt_lt, a, b]
  by_cases h1 : c.toInt < 880
  · rw [if_pos h1, if_neg (by omega)]
  · by_cases h2 : 893 < c.toInt
    · rw [if_neg h1, if_pos h2, if_neg (by omega)]
    · rw [if_neg h1, if_neg h2, if_pos (by omega)]
theorem own_e8 (c : Int32) : own_s8 c = if 895 ≤ c.toInt ∧ c.toInt ≤ 8191 then (1 : Int32) else own_s9 c := by
  have a : (895 : Int32).toInt = 895 := by decide
  have b : (8191 : Int32).toInt = 8191 := by decide
  simp only [own_s8, Int32.lt_iff_toInt_lt, a, b]
  by_cases h1 : c.toInt < 895
  · rw [if_pos h1, if_neg (by omega)]
  · by_cases h2 : 8191 < c.toInt
    · rw [if_neg h1, if_pos h2, if_neg (by omega)]
    · rw [if_neg h1, if_neg h2, if_pos (by omega)]
theorem own_e9 (c : Int32) : own_s9 c = if 8204 ≤ c.toInt ∧ c.toInt ≤ 8205 then (1 : Int32) else own_s10 c := by
  have a : (8204 : Int32).toInt = 8204 := by decide
  have b : (8205 : Int32).toInt = 8205 := by decide
  simp only [own_s9, Int32.lt_iff_toInt_lt, a, b]
  by_cases h1 : c.toInt < 8204
  · rw [if_pos h1, if_neg (by omega)]
  · by_cases h2 : 8205 < c.toInt
    · rw [if_neg h1, if_pos h2, if_neg (by omega)]
    · rw [if_neg h1, if_neg h2, if_pos (by omega)]
theorem own_e10 (c : Int32) : own_s10 c = if 8304 ≤ c.toInt ∧ c.toInt ≤ 8591 then (1 : Int32) else own_s11 c := by
  have a : (8304 : Int32).toInt = 8304 := by decide
  have b : (8591 : Int32).toInt = 8591 := by decide
  simp only [own_s10, Int32.lt_iff_toInt_lt, a, b]
  by_cases h1 : c.toInt < 8304
  · rw [if_pos h1, if_neg (by omega)]
  · by_cases h2 : 8591 < c.toInt
    · rw [if_neg h1, if_pos h2, if_neg (by omega)]
    · rw [if_neg h1, if_neg h2, if_pos (by omega)]
theorem own_e11 (c : Int32) : own_s11 c = if 11264 ≤ c.toInt ∧ c.toInt ≤ 12271 then (1 : Int32) else own_s12 c := by
  have a : (11264 : Int32).toInt = 11264 := by decide
  have b : (12271 : Int32).toInt = 12271 := by decide
  simp only [own_s11, Int32.lt_iff_toInt_lt, a, b]
  by_cases h1 : c.toInt < 11264
  · rw [if_pos h1, if_neg (by omega)]
  · by_cases h2 : 12271 < c.toInt
    · rw [if_neg h1, if_pos h2, if_neg (by omega)]
    · rw [if_neg h1, if_neg h2, if_pos (by omega)]
theorem own_e12 (c : Int32) : own_s12 c = if 12289 ≤ c.toInt ∧ c.toInt ≤ 55295 then (1 : Int32) else own_s13 c := by
  have a : (12289 : Int32).toInt = 12289 := by decide
  have b : (55295 : Int32).toInt = 55295 := by decide
  simp only [own_s12, Int32.lt_iff_toInt_lt, a, b]
  by_cases h1 : c.toInt < 12289
  · rw [if_pos h1, if_neg (by omega)]
  · by_cases h2 : 55295 < c.toInt
    · rw [if_neg h1, if_pos h2, if_neg (by omega)]
    · rw [if_neg h1, if_neg h2, if_pos (by omega)]
theorem own_e13 (c : Int32) : own_s13 c = if 63744 ≤ c.toInt ∧ c.toInt ≤ 64975 then (1 : Int32) else own_s14 c := by
  have a : (63744 : Int32).toInt = 63744 := by decide
  have b : (64975 : Int32).toInt = 64975 := by decide
  simp only [own_s13, Int32.lt_iff_toInt_lt, a, b]
  by_cases h1 : c.toInt < 63744
  · rw [if_pos h1, if_neg (by omega)]
  · by_cases h2 : 64975 < c.toInt
    · rw [if_neg h1, if_pos h2, if_neg (by omega)]
    · rw [if_neg h1, if_neg h2, if_pos (by omega)]
theorem own_e14 (c : Int32) : own_s14 c = if 65008 ≤ c.toInt ∧ c.toInt ≤ 65533 then (1 : Int32) else own_s15 c := by
  have a : (65008 : Int32).toInt = 65008 := by decide
  have b : (65533 : Int32).toInt = 65533 := by decide
  simp only [own_s14, Int32.lt_iff_toInt_lt, a, b]
  by_cases h1 : c.toInt < 65008
  · rw [if_pos h1, if_neg (by omega)]
  · by_cases h2 : 65533 < c.toInt
    · rw [if_neg h1, if_pos h2, if_neg (by omega)]
    · rw [if_neg h1, if_neg h2, if_pos (by omega)]
theorem own_e15 (c : Int32) : own_s15 c = if 65536 ≤ c.toInt ∧ c.toInt ≤ 983039 then (1 : Int32) else (0 : Int32) := by
  have a : (65536 : Int32).toInt = 65536 := by decide
  have b : (983039 : Int32).toInt = 983039 := by decide
  simp only [own_s15, Int32.lt_iff_toInt_lt, a, b]
  by_cases h1 : c.toInt < 65536
  · rw [if_pos h1, if_neg (by omega)]
  · by_cases h2 : 983039 < c.toInt
    · rw [if_neg h1, if_pos h2, if_neg (by omega)]
    · rw [if_neg h1, if_neg h2, if_pos (by omega)]
theorem own_bool : ∀ c : Int32, own_s1 c = 0 ∨ own_s1 c = 1 := by
  intro c
  rw [own_e1]; by_cases h1 : 97 ≤ c.toInt ∧ c.toInt ≤ 122
  · exact Or.inr (if_pos h1)
  rw [if_neg h1]
  rw [own_e2]; by_cases h2 : 65 ≤ c.toInt ∧ c.toInt ≤ 90
  · exact Or.inr (if_pos h2)
  rw [if_neg h2]
  rw [own_e3]; by_cases h3 : 95 ≤ c.toInt ∧ c.toInt ≤ 95
  · exact Or.inr (if_pos h3)
  rw [if_neg h3]
  rw [own_e4]; by_cases h4 : 192 ≤ c.toInt ∧ c.toInt ≤ 214
  · exact Or.inr (if_pos h4)
  rw [if_neg h4]
  rw [own_e5]; by_cases h5 : 216 ≤ c.toInt ∧ c.toInt ≤ 246
  · exact Or.inr (if_pos h5)
  rw [if_neg h5]
  rw [own_e6]; by_cases h6 : 248 ≤ c.toInt ∧ c.toInt ≤ 767
  · exact Or.inr (if_pos h6)
  rw [if_neg h6]
  rw [own_e7]; by_cases h7 : 880 ≤ c.toInt ∧ c.toInt ≤ 893
  · exact Or.inr (if_pos h7)
  rw [if_neg h7]
  rw [own_e8]; by_cases h8 : 895 ≤ c.toInt ∧ c.toInt ≤ 8191
  · exact Or.inr (if_pos h8)
  rw [if_neg h8]
  rw [own_e9]; by_cases h9 : 8204 ≤ c.toInt ∧ c.toInt ≤ 8205
  · exact Or.inr (if_pos h9)
  rw [if_neg h9]
  rw [own_e10]; by_cases h10 : 8304 ≤ c.toInt ∧ c.toInt ≤ 8591
  · exact Or.inr (if_pos h10)
  rw [if_neg h10]
  rw [own_e11]; by_cases h11 : 11264 ≤ c.toInt ∧ c.toInt ≤ 12271
  · exact Or.inr (if_pos h11)
  rw [if_neg h11]
  rw [own_e12]; by_cases h12 : 12289 ≤ c.toInt ∧ c.toInt ≤ 55295
  · exact Or.inr (if_pos h12)
  rw [if_neg h12]
  rw [own_e13]; by_cases h13 : 63744 ≤ c.toInt ∧ c.toInt ≤ 64975
  · exact Or.inr (if_pos h13)
  rw [if_neg h13]
  rw [own_e14]; by_cases h14 : 65008 ≤ c.toInt ∧ c.toInt ≤ 65533
  · exact Or.inr (if_pos h14)
  rw [if_neg h14]
  rw [own_e15]; by_cases h15 : 65536 ≤ c.toInt ∧ c.toInt ≤ 983039
  · exact Or.inr (if_pos h15)
  rw [if_neg h15]
  exact Or.inl rfl
def Qs (Z : State) (p1 : Int32) (res : Int32) (h0 : Heap) (n0 : Nat) (v : Option Value) (h : Heap) (L : List Loc) : Prop := v = some (.int res) ∧ Fr n0 L ∧ h = h0
theorem pn_1 : plainName "org/beanpath/model/PathSyntax" = true := by first | (simp [plainName, overriddenIn]; done) | decide +kernel
theorem ef_rm_start (m : MethodId) (x0 : Int32) : entryFrame m #[(.int x0)] 1 = mkF m 0 #[.val (.int x0)] [] := by first | (simp [entryFrame, mkF, argsToLocals, Value.category]; done) | rfl
set_option maxRecDepth 65536 in
set_option maxHeartbeats 40000000 in
theorem rm_start (l : Launch) (Z : State) (a0 : Array Value) (hw : ∀ d ∈ tables_1, d.before a0 Z = true) (ws : List Jvm.Cond) (p1 : Int32) (h0 : Heap) (n0 : Nat) (Z0 : n0 ≤ h0.size) (res : Int32) (hres : own_s1 p1 = res) :
    MetFree l (⟨"org/beanpath/model/PathSyntax", "isNameStart", "(I)Z"⟩ : MethodName) (head1 (Jvm.Cond.code (⟨"org/beanpath/model/PathSyntax", "isNameStart", "(I)Z"⟩ : MethodName) prog_131_method_4_code 1 (some .boolean) :: ws) ({ frames := 0, cells := 0, slots := 0, locals := 0 } : Room)) (fun a U => a = #[(.int p1)] ∧ Z.Warmed39 U.vm ∧ U.heap = h0) (fun _ _ _ _ _ => True) (fun _ U o U' => ∃ v L, o = .returned v ∧ Qs Z p1 res h0 n0 v U'.heap L ∧ FrameEnd U o U' L ({ frames := 0, cells := 0, slots := 0, locals := 0 } : Room).cells ({ frames := 0, cells := 0, slots := 0, locals := 0 } : Room).slots) := by
  refine MetFree.of_bodySF (plainFor_of_name pn_1) hisR ?_
  intro p e s m args below meth c s₁ Bd hml0 hP hK
  obtain ⟨rfl, hZ, hh⟩ := hP
  have hx := Bd.exec
  have hby := Bd.bytes
  have hml : c.maxLocals = 1 := hml0
  have hown : s.vm.findClass "org/beanpath/model/PathSyntax" = some m.cls := findClass_of_methodNamed Bd.named
  have hnm := (name_of_methodNamed Bd.named Bd.method).1
  have X0 : Stand p l e ({ frames := 0, cells := 0, slots := 0, locals := 0 } : Room) s m #[(.int p1)] below meth c s₁ [] 0 0 := Stand.of_body Bd
  have e0 : s₁.heap = h0 := by rw [← hh, Bd.state]; rfl
  have N0 := Fr.nil n0
  have pre0 : ∀ t, Steps p.tables e below (s₁.setTop (mkF m 0 #[.val (.int p1)] [])) t → Steps p.tables e below (s₁.setTop (entryFrame m #[(.int p1)] 1)) t := fun t k => castTop (ef_rm_start m p1) k
  have seg15 : ∀ t, Steps p.tables e below (s₁.setTop (mkF m 196 #[.val (.int p1)] [(.int (own_s15 p1))])) t → Steps p.tables e below (s₁.setTop (mkF m 179 #[.val (.int p1)] [])) t := by
    intro t k
    by_cases h1 : p1 < (65536 : Int32)
    · have _ := 0
      have q : own_s15 p1 = (0 : Int32) := by simp only [own_s15, if_pos h1]
      rw [q] at k
      show Steps p.tables e below (s₁.setTop (mkF m 179 #[.val (.int p1)] [])) _
      refine XS.iloadN X0.here hx rfl (hb hby d1_179) rfl ?_
      show Steps p.tables e below (s₁.setTop (mkF m 180 #[.val (.int p1)] [(.int p1)])) _
      refine X0.ldcInt hx hown (mvT hZ (hw _ (List.mem_of_getElem? (i := 18) rfl))) (g := (mkF m 180 #[.val (.int p1)] [(.int p1)])) rfl (hb hby d1_180) _ ?_
      show Steps p.tables e below (s₁.setTop (mkF m 182 #[.val (.int p1)] [(.int (65536 : Int32)), (.int p1)])) _
      refine XS.icmpYes X0.here hx rfl (pc0 := 182) (pc' := 195) rfl (hb hby d1_182) rfl (tlt h1).1 (by decide) (by decide) ?_
      show Steps p.tables e below (s₁.setTop (mkF m 195 #[.val (.int p1)] [])) _
      refine XT.iconstV X0.here hx rfl (0 : Int32) (hb hby d1_195) (by decide) ?_
      exact k
    · by_cases h2 : (983039 : Int32) < p1
      · have _ := 0
        have q : own_s15 p1 = (0 : Int32) := by simp only [own_s15, if_neg h1, if_pos h2]
        rw [q] at k
        show Steps p.tables e below (s₁.setTop (mkF m 179 #[.val (.int p1)] [])) _
        refine XS.iloadN X0.here hx rfl (hb hby d1_179) rfl ?_
        show Steps p.tables e below (s₁.setTop (mkF m 180 #[.val (.int p1)] [(.int p1)])) _
        refine X0.ldcInt hx hown (mvT hZ (hw _ (List.mem_of_getElem? (i := 18) rfl))) (g := (mkF m 180 #[.val (.int p1)] [(.int p1)])) rfl (hb hby d1_180) _ ?_
        show Steps p.tables e below (s₁.setTop (mkF m 182 #[.val (.int p1)] [(.int (65536 : Int32)), (.int p1)])) _
        refine XS.icmpNo X0.here hx rfl (hb hby d1_182) rfl (flt h1).1 ?_
        show Steps p.tables e below (s₁.setTop (mkF m 185 #[.val (.int p1)] [])) _
        refine XS.iloadN X0.here hx rfl (hb hby d1_185) rfl ?_
        show Steps p.tables e below (s₁.setTop (mkF m 186 #[.val (.int p1)] [(.int p1)])) _
        refine X0.ldcInt hx hown (mvT hZ (hw _ (List.mem_of_getElem? (i := 19) rfl))) (g := (mkF m 186 #[.val (.int p1)] [(.int p1)])) rfl (hb hby d1_186) _ ?_
        show Steps p.tables e below (s₁.setTop (mkF m 188 #[.val (.int p1)] [(.int (983039 : Int32)), (.int p1)])) _
        refine XS.icmpYes X0.here hx rfl (pc0 := 188) (pc' := 195) rfl (hb hby d1_188) rfl (tlt h2).2.2.1 (by decide) (by decide) ?_
        show Steps p.tables e below (s₁.setTop (mkF m 195 #[.val (.int p1)] [])) _
        refine XT.iconstV X0.here hx rfl (0 : Int32) (hb hby d1_195) (by decide) ?_
        exact k
      · have _ := 0
        have q : own_s15 p1 = (1 : Int32) := by simp only [own_s15, if_neg h1, if_neg h2]
        rw [q] at k
        show Steps p.tables e below (s₁.setTop (mkF m 179 #[.val (.int p1)] [])) _
        refine XS.iloadN X0.here hx rfl (hb hby d1_179) rfl ?_
        show Steps p.tables e below (s₁.setTop (mkF m 180 #[.val (.int p1)] [(.int p1)])) _
        refine X0.ldcInt hx hown (mvT hZ (hw _ (List.mem_of_getElem? (i := 18) rfl))) (g := (mkF m 180 #[.val (.int p1)] [(.int p1)])) rfl (hb hby d1_180) _ ?_
        show Steps p.tables e below (s₁.setTop (mkF m 182 #[.val (.int p1)] [(.int (65536 : Int32)), (.int p1)])) _
        refine XS.icmpNo X0.here hx rfl (hb hby d1_182) rfl (flt h1).1 ?_
        show Steps p.tables e below (s₁.setTop (mkF m 185 #[.val (.int p1)] [])) _
        refine XS.iloadN X0.here hx rfl (hb hby d1_185) rfl ?_
        show Steps p.tables e below (s₁.setTop (mkF m 186 #[.val (.int p1)] [(.int p1)])) _
        refine X0.ldcInt hx hown (mvT hZ (hw _ (List.mem_of_getElem? (i := 19) rfl))) (g := (mkF m 186 #[.val (.int p1)] [(.int p1)])) rfl (hb hby d1_186) _ ?_
        show Steps p.tables e below (s₁.setTop (mkF m 188 #[.val (.int p1)] [(.int (983039 : Int32)), (.int p1)])) _
        refine XS.icmpNo X0.here hx rfl (hb hby d1_188) rfl (flt h2).2.2.1 ?_
        show Steps p.tables e below (s₁.setTop (mkF m 191 #[.val (.int p1)] [])) _
        refine XT.iconstV X0.here hx rfl (1 : Int32) (hb hby d1_191) (by decide) ?_
        show Steps p.tables e below (s₁.setTop (mkF m 192 #[.val (.int p1)] [(.int (1 : Int32))])) _
        refine XS.goto X0.here hx rfl (pc0 := 192) (pc' := 196) rfl (hb hby d1_192) (by decide) (by decide) ?_
        exact k
  have seg14 : ∀ t, Steps p.tables e below (s₁.setTop (mkF m 196 #[.val (.int p1)] [(.int (own_s14 p1))])) t → Steps p.tables e below (s₁.setTop (mkF m 167 #[.val (.int p1)] [])) t := by
    intro t k
    by_cases h1 : p1 < (65008 : Int32)
    · have _ := 0
      have q : own_s14 p1 = own_s15 p1 := by simp only [own_s14, if_pos h1]
      rw [q] at k
      show Steps p.tables e below (s₁.setTop (mkF m 167 #[.val (.int p1)] [])) _
      refine XS.iloadN X0.here hx rfl (hb hby d1_167) rfl ?_
      show Steps p.tables e below (s₁.setTop (mkF m 168 #[.val (.int p1)] [(.int p1)])) _
      refine X0.ldcInt hx hown (mvT hZ (hw _ (List.mem_of_getElem? (i := 16) rfl))) (g := (mkF m 168 #[.val (.int p1)] [(.int p1)])) rfl (hb hby d1_168) _ ?_
      show Steps p.tables e below (s₁.setTop (mkF m 170 #[.val (.int p1)] [(.int (65008 : Int32)), (.int p1)])) _
      refine XS.icmpYes X0.here hx rfl (pc0 := 170) (pc' := 179) rfl (hb hby d1_170) rfl (tlt h1).1 (by decide) (by decide) ?_
      exact seg15 t k
    · by_cases h2 : (65533 : Int32) < p1
      · have _ := 0
        have q : own_s14 p1 = own_s15 p1 := by simp only [own_s14, if_neg h1, if_pos h2]
        rw [q] at k
        show Steps p.tables e below (s₁.setTop (mkF m 167 #[.val (.int p1)] [])) _
        refine XS.iloadN X0.here hx rfl (hb hby d1_167) rfl ?_
        show Steps p.tables e below (s₁.setTop (mkF m 168 #[.val (.int p1)] [(.int p1)])) _
        refine X0.ldcInt hx hown (mvT hZ (hw _ (List.mem_of_getElem? (i := 16) rfl))) (g := (mkF m 168 #[.val (.int p1)] [(.int p1)])) rfl (hb hby d1_168) _ ?_
        show Steps p.tables e below (s₁.setTop (mkF m 170 #[.val (.int p1)] [(.int (65008 : Int32)), (.int p1)])) _
        refine XS.icmpNo X0.here hx rfl (hb hby d1_170) rfl (flt h1).1 ?_
        show Steps p.tables e below (s₁.setTop (mkF m 173 #[.val (.int p1)] [])) _
        refine XS.iloadN X0.here hx rfl (hb hby d1_173) rfl ?_
        show Steps p.tables e below (s₁.setTop (mkF m 174 #[.val (.int p1)] [(.int p1)])) _
        refine X0.ldcInt hx hown (mvT hZ (hw _ (List.mem_of_getElem? (i := 17) rfl))) (g := (mkF m 174 #[.val (.int p1)] [(.int p1)])) rfl (hb hby d1_174) _ ?_
        show Steps p.tables e below (s₁.setTop (mkF m 176 #[.val (.int p1)] [(.int (65533 : Int32)), (.int p1)])) _
        refine XS.icmpNo X0.here hx rfl (hb hby d1_176) rfl (tlt h2).2.2.2 ?_
        exact seg15 t k
      · have _ := 0
        have q : own_s14 p1 = (1 : Int32) := by simp only [own_s14, if_neg h1, if_neg h2]
        rw [q] at k
        show Steps p.tables e below (s₁.setTop (mkF m 167 #[.val (.int p1)] [])) _
        refine XS.iloadN X0.here hx rfl (hb hby d1_167) rfl ?_
        show Steps p.tables e below (s₁.setTop (mkF m 168 #[.val (.int p1)] [(.int p1)])) _
        refine X0.ldcInt hx hown (mvT hZ (hw _ (List.mem_of_getElem? (i := 16) rfl))) (g := (mkF m 168 #[.val (.int p1)] [(.int p1)])) rfl (hb hby d1_168) _ ?_
        show Steps p.tables e below (s₁.setTop (mkF m 170 #[.val (.int p1)] [(.int (65008 : Int32)), (.int p1)])) _
        refine XS.icmpNo X0.here hx rfl (hb hby d1_170) rfl (flt h1).1 ?_
        show Steps p.tables e below (s₁.setTop (mkF m 173 #[.val (.int p1)] [])) _
        refine XS.iloadN X0.here hx rfl (hb hby d1_173) rfl ?_
        show Steps p.tables e below (s₁.setTop (mkF m 174 #[.val (.int p1)] [(.int p1)])) _
        refine X0.ldcInt hx hown (mvT hZ (hw _ (List.mem_of_getElem? (i := 17) rfl))) (g := (mkF m 174 #[.val (.int p1)] [(.int p1)])) rfl (hb hby d1_174) _ ?_
        show Steps p.tables e below (s₁.setTop (mkF m 176 #[.val (.int p1)] [(.int (65533 : Int32)), (.int p1)])) _
        refine XS.icmpYes X0.here hx rfl (pc0 := 176) (pc' := 191) rfl (hb hby d1_176) rfl (flt h2).2.2.2 (by decide) (by decide) ?_
        show Steps p.tables e below (s₁.setTop (mkF m 191 #[.val (.int p1)] [])) _
        refine XT.iconstV X0.here hx rfl (1 : Int32) (hb hby d1_191) (by decide) ?_
        show Steps p.tables e below (s₁.setTop (mkF m 192 #[.val (.int p1)] [(.int (1 : Int32))])) _
        refine XS.goto X0.here hx rfl (pc0 := 192) (pc' := 196) rfl (hb hby d1_192) (by decide) (by decide) ?_
        exact k
  have seg13 : ∀ t, Steps p.tables e below (s₁.setTop (mkF m 196 #[.val (.int p1)] [(.int (own_s13 p1))])) t → Steps p.tables e below (s₁.setTop (mkF m 155 #[.val (.int p1)] [])) t := by
    intro t k
    by_cases h1 : p1 < (63744 : Int32)
    · have _ := 0
      have q : own_s13 p1 = own_s14 p1 := by simp only [own_s13, if_pos h1]
      rw [q] at k
      show Steps p.tables e below (s₁.setTop (mkF m 155 #[.val (.int p1)] [])) _
      refine XS.iloadN X0.here hx rfl (hb hby d1_155) rfl ?_
      show Steps p.tables e below (s₁.setTop (mkF m 156 #[.val (.int p1)] [(.int p1)])) _
      refine X0.ldcInt hx hown (mvT hZ (hw _ (List.mem_of_getElem? (i := 14) rfl))) (g := (mkF m 156 #[.val (.int p1)] [(.int p1)])) rfl (hb hby d1_156) _ ?_
      show Steps p.tables e below (s₁.setTop (mkF m 158 #[.val (.int p1)] [(.int (63744 : Int32)), (.int p1)])) _
      refine XS.icmpYes X0.here hx rfl (pc0 := 158) (pc' := 167) rfl (hb hby d1_158) rfl (tlt h1).1 (by decide) (by decide) ?_
      exact seg14 t k
    · by_cases h2 : (64975 : Int32) < p1
      · have _ := 0
        have q : own_s13 p1 = own_s14 p1 := by simp only [own_s13, if_neg h1, if_pos h2]
        rw [q] at k
        show Steps p.tables e below (s₁.setTop (mkF m 155 #[.val (.int p1)] [])) _
        refine XS.iloadN X0.here hx rfl (hb hby d1_155) rfl ?_
        show Steps p.tables e below (s₁.setTop (mkF m 156 #[.val (.int p1)] [(.int p1)])) _
        refine X0.ldcInt hx hown (mvT hZ (hw _ (List.mem_of_getElem? (i := 14) rfl))) (g := (mkF m 156 #[.val (.int p1)] [(.int p1)])) rfl (hb hby d1_156) _ ?_
        show Steps p.tables e below (s₁.setTop (mkF m 158 #[.val (.int p1)] [(.int (63744 : Int32)), (.int p1)])) _
        refine XS.icmpNo X0.here hx rfl (hb hby d1_158) rfl (flt h1).1 ?_
        show Steps p.tables e below (s₁.setTop (mkF m 161 #[.val (.int p1)] [])) _
        refine XS.iloadN X0.here hx rfl (hb hby d1_161) rfl ?_
        show Steps p.tables e below (s₁.setTop (mkF m 162 #[.val (.int p1)] [(.int p1)])) _
        refine X0.ldcInt hx hown (mvT hZ (hw _ (List.mem_of_getElem? (i := 15) rfl))) (g := (mkF m 162 #[.val (.int p1)] [(.int p1)])) rfl (hb hby d1_162) _ ?_
        show Steps p.tables e below (s₁.setTop (mkF m 164 #[.val (.int p1)] [(.int (64975 : Int32)), (.int p1)])) _
        refine XS.icmpNo X0.here hx rfl (hb hby d1_164) rfl (tlt h2).2.2.2 ?_
        exact seg14 t k
      · have _ := 0
        have q : own_s13 p1 = (1 : Int32) := by simp only [own_s13, if_neg h1, if_neg h2]
        rw [q] at k
        show Steps p.tables e below (s₁.setTop (mkF m 155 #[.val (.int p1)] [])) _
        refine XS.iloadN X0.here hx rfl (hb hby d1_155) rfl ?_
        show Steps p.tables e below (s₁.setTop (mkF m 156 #[.val (.int p1)] [(.int p1)])) _
        refine X0.ldcInt hx hown (mvT hZ (hw _ (List.mem_of_getElem? (i := 14) rfl))) (g := (mkF m 156 #[.val (.int p1)] [(.int p1)])) rfl (hb hby d1_156) _ ?_
        show Steps p.tables e below (s₁.setTop (mkF m 158 #[.val (.int p1)] [(.int (63744 : Int32)), (.int p1)])) _
        refine XS.icmpNo X0.here hx rfl (hb hby d1_158) rfl (flt h1).1 ?_
        show Steps p.tables e below (s₁.setTop (mkF m 161 #[.val (.int p1)] [])) _
        refine XS.iloadN X0.here hx rfl (hb hby d1_161) rfl ?_
        show Steps p.tables e below (s₁.setTop (mkF m 162 #[.val (.int p1)] [(.int p1)])) _
        refine X0.ldcInt hx hown (mvT hZ (hw _ (List.mem_of_getElem? (i := 15) rfl))) (g := (mkF m 162 #[.val (.int p1)] [(.int p1)])) rfl (hb hby d1_162) _ ?_
        show Steps p.tables e below (s₁.setTop (mkF m 164 #[.val (.int p1)] [(.int (64975 : Int32)), (.int p1)])) _
        refine XS.icmpYes X0.here hx rfl (pc0 := 164) (pc' := 191) rfl (hb hby d1_164) rfl (flt h2).2.2.2 (by decide) (by decide) ?_
        show Steps p.tables e below (s₁.setTop (mkF m 191 #[.val (.int p1)] [])) _
        refine XT.iconstV X0.here hx rfl (1 : Int32) (hb hby d1_191) (by decide) ?_
        show Steps p.tables e below (s₁.setTop (mkF m 192 #[.val (.int p1)] [(.int (1 : Int32))])) _
        refine XS.goto X0.here hx rfl (pc0 := 192) (pc' := 196) rfl (hb hby d1_192) (by decide) (by decide) ?_
        exact k
  have seg12 : ∀ t, Steps p.tables e below (s₁.setTop (mkF m 196 #[.val (.int p1)] [(.int (own_s12 p1))])) t → Steps p.tables e below (s₁.setTop (mkF m 142 #[.val (.int p1)] [])) t := by
    intro t k
    by_cases h1 : p1 < (12289 : Int32)
    · have _ := 0
      have q : own_s12 p1 = own_s13 p1 := by simp only [own_s12, if_pos h1]
      rw [q] at k
      show Steps p.tables e below (s₁.setTop (mkF m 142 #[.val (.int p1)] [])) _
      refine XS.iloadN X0.here hx rfl (hb hby d1_142) rfl ?_
      show Steps p.tables e below (s₁.setTop (mkF m 143 #[.val (.int p1)] [(.int p1)])) _
      refine XT.sipushV X0.here hx rfl (12289 : Int32) (hb hby d1_143) (by decide) ?_
      show Steps p.tables e below (s₁.setTop (mkF m 146 #[.val (.int p1)] [(.int (12289 : Int32)), (.int p1)])) _
      refine XS.icmpYes X0.here hx rfl (pc0 := 146) (pc' := 155) rfl (hb hby d1_146) rfl (tlt h1).1 (by decide) (by decide) ?_
      exact seg13 t k
    · by_cases h2 : (55295 : Int32) < p1
      · have _ := 0
        have q : own_s12 p1 = own_s13 p1 := by simp only [own_s12, if_neg h1, if_pos h2]
        rw [q] at k
        show Steps p.tables e below (s₁.setTop (mkF m 142 #[.val (.int p1)] [])) _
        refine XS.iloadN X0.here hx rfl (hb hby d1_142) rfl ?_
        show Steps p.tables e below (s₁.setTop (mkF m 143 #[.val (.int p1)] [(.int p1)])) _
        refine XT.sipushV X0.here hx rfl (12289 : Int32) (hb hby d1_143) (by decide) ?_
        show Steps p.tables e below (s₁.setTop (mkF m 146 #[.val (.int p1)] [(.int (12289 : Int32)), (.int p1)])) _
        refine XS.icmpNo X0.here hx rfl (hb hby d1_146) rfl (flt h1).1 ?_
        show Steps p.tables e below (s₁.setTop (mkF m 149 #[.val (.int p1)] [])) _
        refine XS.iloadN X0.here hx rfl (hb hby d1_149) rfl ?_
        show Steps p.tables e below (s₁.setTop (mkF m 150 #[.val (.int p1)] [(.int p1)])) _
        refine X0.ldcInt hx hown (mvT hZ (hw _ (List.mem_of_getElem? (i := 13) rfl))) (g := (mkF m 150 #[.val (.int p1)] [(.int p1)])) rfl (hb hby d1_150) _ ?_
        show Steps p.tables e below (s₁.setTop (mkF m 152 #[.val (.int p1)] [(.int (55295 : Int32)), (.int p1)])) _
        refine XS.icmpNo X0.here hx rfl (hb hby d1_152) rfl (tlt h2).2.2.2 ?_
        exact seg13 t k
      · have _ := 0
        have q : own_s12 p1 = (1 : Int32) := by simp only [own_s12, if_neg h1, if_neg h2]
        rw [q] at k
        show Steps p.tables e below (s₁.setTop (mkF m 142 #[.val (.int p1)] [])) _
        refine XS.iloadN X0.here hx rfl (hb hby d1_142) rfl ?_
        show Steps p.tables e below (s₁.setTop (mkF m 143 #[.val (.int p1)] [(.int p1)])) _
        refine XT.sipushV X0.here hx rfl (12289 : Int32) (hb hby d1_143) (by decide) ?_
        show Steps p.tables e below (s₁.setTop (mkF m 146 #[.val (.int p1)] [(.int (12289 : Int32)), (.int p1)])) _
        refine XS.icmpNo X0.here hx rfl (hb hby d1_146) rfl (flt h1).1 ?_
        show Steps p.tables e below (s₁.setTop (mkF m 149 #[.val (.int p1)] [])) _
        refine XS.iloadN X0.here hx rfl (hb hby d1_149) rfl ?_
        show Steps p.tables e below (s₁.setTop (mkF m 150 #[.val (.int p1)] [(.int p1)])) _
        refine X0.ldcInt hx hown (mvT hZ (hw _ (List.mem_of_getElem? (i := 13) rfl))) (g := (mkF m 150 #[.val (.int p1)] [(.int p1)])) rfl (hb hby d1_150) _ ?_
        show Steps p.tables e below (s₁.setTop (mkF m 152 #[.val (.int p1)] [(.int (55295 : Int32)), (.int p1)])) _
        refine XS.icmpYes X0.here hx rfl (pc0 := 152) (pc' := 191) rfl (hb hby d1_152) rfl (flt h2).2.2.2 (by decide) (by decide) ?_
        show Steps p.tables e below (s₁.setTop (mkF m 191 #[.val (.int p1)] [])) _
        refine XT.iconstV X0.here hx rfl (1 : Int32) (hb hby d1_191) (by decide) ?_
        show Steps p.tables e below (s₁.setTop (mkF m 192 #[.val (.int p1)] [(.int (1 : Int32))])) _
        refine XS.goto X0.here hx rfl (pc0 := 192) (pc' := 196) rfl (hb hby d1_192) (by decide) (by decide) ?_
        exact k
  have seg11 : ∀ t, Steps p.tables e below (s₁.setTop (mkF m 196 #[.val (.int p1)] [(.int (own_s11 p1))])) t → Steps p.tables e below (s₁.setTop (mkF m 128 #[.val (.int p1)] [])) t := by
    intro t k
    by_cases h1 : p1 < (11264 : Int32)
    · have _ := 0
      have q : own_s11 p1 = own_s12 p1 := by simp only [own_s11, if_pos h1]
      rw [q] at k
      show Steps p.tables e below (s₁.setTop (mkF m 128 #[.val (.int p1)] [])) _
      refine XS.iloadN X0.here hx rfl (hb hby d1_128) rfl ?_
      show Steps p.tables e below (s₁.setTop (mkF m 129 #[.val (.int p1)] [(.int p1)])) _
      refine XT.sipushV X0.here hx rfl (11264 : Int32) (hb hby d1_129) (by decide) ?_
      show Steps p.tables e below (s₁.setTop (mkF m 132 #[.val (.int p1)] [(.int (11264 : Int32)), (.int p1)])) _
      refine XS.icmpYes X0.here hx rfl (pc0 := 132) (pc' := 142) rfl (hb hby d1_132) rfl (tlt h1).1 (by decide) (by decide) ?_
      exact seg12 t k
    · by_cases h2 : (12271 : Int32) < p1
      · have _ := 0
        have q : own_s11 p1 = own_s12 p1 := by simp only [own_s11, if_neg h1, if_pos h2]
        rw [q] at k
        show Steps p.tables e below (s₁.setTop (mkF m 128 #[.val (.int p1)] [])) _
        refine XS.iloadN X0.here hx rfl (hb hby d1_128) rfl ?_
        show Steps p.tables e below (s₁.setTop (mkF m 129 #[.val (.int p1)] [(.int p1)])) _
        refine XT.sipushV X0.here hx rfl (11264 : Int32) (hb hby d1_129) (by decide) ?_
        show Steps p.tables e below (s₁.setTop (mkF m 132 #[.val (.int p1)] [(.int (11264 : Int32)), (.int p1)])) _
        refine XS.icmpNo X0.here hx rfl (hb hby d1_132) rfl (flt h1).1 ?_
        show Steps p.tables e below (s₁.setTop (mkF m 135 #[.val (.int p1)] [])) _
        refine XS.iloadN X0.here hx rfl (hb hby d1_135) rfl ?_
        show Steps p.tables e below (s₁.setTop (mkF m 136 #[.val (.int p1)] [(.int p1)])) _
        refine XT.sipushV X0.here hx rfl (12271 : Int32) (hb hby d1_136) (by decide) ?_
        show Steps p.tables e below (s₁.setTop (mkF m 139 #[.val (.int p1)] [(.int (12271 : Int32)), (.int p1)])) _
        refine XS.icmpNo X0.here hx rfl (hb hby d1_139) rfl (tlt h2).2.2.2 ?_
        exact seg12 t k
      · have _ := 0
        have q : own_s11 p1 = (1 : Int32) := by simp only [own_s11, if_neg h1, if_neg h2]
        rw [q] at k
        show Steps p.tables e below (s₁.setTop (mkF m 128 #[.val (.int p1)] [])) _
        refine XS.iloadN X0.here hx rfl (hb hby d1_128) rfl ?_
        show Steps p.tables e below (s₁.setTop (mkF m 129 #[.val (.int p1)] [(.int p1)])) _
        refine XT.sipushV X0.here hx rfl (11264 : Int32) (hb hby d1_129) (by decide) ?_
        show Steps p.tables e below (s₁.setTop (mkF m 132 #[.val (.int p1)] [(.int (11264 : Int32)), (.int p1)])) _
        refine XS.icmpNo X0.here hx rfl (hb hby d1_132) rfl (flt h1).1 ?_
        show Steps p.tables e below (s₁.setTop (mkF m 135 #[.val (.int p1)] [])) _
        refine XS.iloadN X0.here hx rfl (hb hby d1_135) rfl ?_
        show Steps p.tables e below (s₁.setTop (mkF m 136 #[.val (.int p1)] [(.int p1)])) _
        refine XT.sipushV X0.here hx rfl (12271 : Int32) (hb hby d1_136) (by decide) ?_
        show Steps p.tables e below (s₁.setTop (mkF m 139 #[.val (.int p1)] [(.int (12271 : Int32)), (.int p1)])) _
        refine XS.icmpYes X0.here hx rfl (pc0 := 139) (pc' := 191) rfl (hb hby d1_139) rfl (flt h2).2.2.2 (by decide) (by decide) ?_
        show Steps p.tables e below (s₁.setTop (mkF m 191 #[.val (.int p1)] [])) _
        refine XT.iconstV X0.here hx rfl (1 : Int32) (hb hby d1_191) (by decide) ?_
        show Steps p.tables e below (s₁.setTop (mkF m 192 #[.val (.int p1)] [(.int (1 : Int32))])) _
        refine XS.goto X0.here hx rfl (pc0 := 192) (pc' := 196) rfl (hb hby d1_192) (by decide) (by decide) ?_
        exact k
  have seg10 : ∀ t, Steps p.tables e below (s₁.setTop (mkF m 196 #[.val (.int p1)] [(.int (own_s10 p1))])) t → Steps p.tables e below (s₁.setTop (mkF m 114 #[.val (.int p1)] [])) t := by
    intro t k
    by_cases h1 : p1 < (8304 : Int32)
    · have _ := 0
      have q : own_s10 p1 = own_s11 p1 := by simp only [own_s10, if_pos h1]
      rw [q] at k
      show Steps p.tables e below (s₁.setTop (mkF m 114 #[.val (.int p1)] [])) _
      refine XS.iloadN X0.here hx rfl (hb hby d1_114) rfl ?_
      show Steps p.tables e below (s₁.setTop (mkF m 115 #[.val (.int p1)] [(.int p1)])) _
      refine XT.sipushV X0.here hx rfl (8304 : Int32) (hb hby d1_115) (by decide) ?_
      show Steps p.tables e below (s₁.setTop (mkF m 118 #[.val (.int p1)] [(.int (8304 : Int32)), (.int p1)])) _
      refine XS.icmpYes X0.here hx rfl (pc0 := 118) (pc' := 128) rfl (hb hby d1_118) rfl (tlt h1).1 (by decide) (by decide) ?_
      exact seg11 t k
    · by_cases h2 : (8591 : Int32) < p1
      · have _ := 0
        have q : own_s10 p1 = own_s11 p1 := by simp only [own_s10, if_neg h1, if_pos h2]
        rw [q] at k
        show Steps p.tables e below (s₁.setTop (mkF m 114 #[.val (.int p1)] [])) _
        refine XS.iloadN X0.here hx rfl (hb hby d1_114) rfl ?_
        show Steps p.tables e below (s₁.setTop (mkF m 115 #[.val (.int p1)] [(.int p1)])) _
        refine XT.sipushV X0.here hx rfl (8304 : Int32) (hb hby d1_115) (by decide) ?_
        show Steps p.tables e below (s₁.setTop (mkF m 118 #[.val (.int p1)] [(.int (8304 : Int32)), (.int p1)])) _
        refine XS.icmpNo X0.here hx rfl (hb hby d1_118) rfl (flt h1).1 ?_
        show Steps p.tables e below (s₁.setTop (mkF m 121 #[.val (.int p1)] [])) _
        refine XS.iloadN X0.here hx rfl (hb hby d1_121) rfl ?_
        show Steps p.tables e below (s₁.setTop (mkF m 122 #[.val (.int p1)] [(.int p1)])) _
        refine XT.sipushV X0.here hx rfl (8591 : Int32) (hb hby d1_122) (by decide) ?_
        show Steps p.tables e below (s₁.setTop (mkF m 125 #[.val (.int p1)] [(.int (8591 : Int32)), (.int p1)])) _
        refine XS.icmpNo X0.here hx rfl (hb hby d1_125) rfl (tlt h2).2.2.2 ?_
        exact seg11 t k
      · have _ := 0
        have q : own_s10 p1 = (1 : Int32) := by simp only [own_s10, if_neg h1, if_neg h2]
        rw [q] at k
        show Steps p.tables e below (s₁.setTop (mkF m 114 #[.val (.int p1)] [])) _
        refine XS.iloadN X0.here hx rfl (hb hby d1_114) rfl ?_
        show Steps p.tables e below (s₁.setTop (mkF m 115 #[.val (.int p1)] [(.int p1)])) _
        refine XT.sipushV X0.here hx rfl (8304 : Int32) (hb hby d1_115) (by decide) ?_
        show Steps p.tables e below (s₁.setTop (mkF m 118 #[.val (.int p1)] [(.int (8304 : Int32)), (.int p1)])) _
        refine XS.icmpNo X0.here hx rfl (hb hby d1_118) rfl (flt h1).1 ?_
        show Steps p.tables e below (s₁.setTop (mkF m 121 #[.val (.int p1)] [])) _
        refine XS.iloadN X0.here hx rfl (hb hby d1_121) rfl ?_
        show Steps p.tables e below (s₁.setTop (mkF m 122 #[.val (.int p1)] [(.int p1)])) _
        refine XT.sipushV X0.here hx rfl (8591 : Int32) (hb hby d1_122) (by decide) ?_
        show Steps p.tables e below (s₁.setTop (mkF m 125 #[.val (.int p1)] [(.int (8591 : Int32)), (.int p1)])) _
        refine XS.icmpYes X0.here hx rfl (pc0 := 125) (pc' := 191) rfl (hb hby d1_125) rfl (flt h2).2.2.2 (by decide) (by decide) ?_
        show Steps p.tables e below (s₁.setTop (mkF m 191 #[.val (.int p1)] [])) _
        refine XT.iconstV X0.here hx rfl (1 : Int32) (hb hby d1_191) (by decide) ?_
        show Steps p.tables e below (s₁.setTop (mkF m 192 #[.val (.int p1)] [(.int (1 : Int32))])) _
        refine XS.goto X0.here hx rfl (pc0 := 192) (pc' := 196) rfl (hb hby d1_192) (by decide) (by decide) ?_
        exact k
  have seg9 : ∀ t, Steps p.tables e below (s₁.setTop (mkF m 196 #[.val (.int p1)] [(.int (own_s9 p1))])) t → Steps p.tables e below (s₁.setTop (mkF m 100 #[.val (.int p1)] [])) t := by
    intro t k
    by_cases h1 : p1 < (8204 : Int32)
    · have _ := 0
      have q : own_s9 p1 = own_s10 p1 := by simp only [own_s9, if_pos h1]
      rw [q] at k
      show Steps p.tables e below (s₁.setTop (mkF m 100 #[.val (.int p1)] [])) _
      refine XS.iloadN X0.here hx rfl (hb hby d1_100) rfl ?_
      show Steps p.tables e below (s₁.setTop (mkF m 101 #[.val (.int p1)] [(.int p1)])) _
      refine XT.sipushV X0.here hx rfl (8204 : Int32) (hb hby d1_101) (by decide) ?_
      show Steps p.tables e below (s₁.setTop (mkF m 104 #[.val (.int p1)] [(.int (8204 : Int32)), (.int p1)])) _
      refine XS.icmpYes X0.here hx rfl (pc0 := 104) (pc' := 114) rfl (hb hby d1_104) rfl (tlt h1).1 (by decide) (by decide) ?_
      exact seg10 t k
    · by_cases h2 : (8205 : Int32) < p1
      · have _ := 0
        have q : own_s9 p1 = own_s10 p1 := by simp only [own_s9, if_neg h1, if_pos h2]
        rw [q] at k
        show Steps p.tables e below (s₁.setTop (mkF m 100 #[.val (.int p1)] [])) _
        refine XS.iloadN X0.here hx rfl (hb hby d1_100) rfl ?_
        show Steps p.tables e below (s₁.setTop (mkF m 101 #[.val (.int p1)] [(.int p1)])) _
        refine XT.sipushV X0.here hx rfl (8204 : Int32) (hb hby d1_101) (by decide) ?_
        show Steps p.tables e below (s₁.setTop (mkF m 104 #[.val (.int p1)] [(.int (8204 : Int32)), (.int p1)])) _
        refine XS.icmpNo X0.here hx rfl (hb hby d1_104) rfl (flt h1).1 ?_
        show Steps p.tables e below (s₁.setTop (mkF m 107 #[.val (.int p1)] [])) _
        refine XS.iloadN X0.here hx rfl (hb hby d1_107) rfl ?_
        show Steps p.tables e below (s₁.setTop (mkF m 108 #[.val (.int p1)] [(.int p1)])) _
        refine XT.sipushV X0.here hx rfl (8205 : Int32) (hb hby d1_108) (by decide) ?_
        show Steps p.tables e below (s₁.setTop (mkF m 111 #[.val (.int p1)] [(.int (8205 : Int32)), (.int p1)])) _
        refine XS.icmpNo X0.here hx rfl (hb hby d1_111) rfl (tlt h2).2.2.2 ?_
        exact seg10 t k
      · have _ := 0
        have q : own_s9 p1 = (1 : Int32) := by simp only [own_s9, if_neg h1, if_neg h2]
        rw [q] at k
        show Steps p.tables e below (s₁.setTop (mkF m 100 #[.val (.int p1)] [])) _
        refine XS.iloadN X0.here hx rfl (hb hby d1_100) rfl ?_
        show Steps p.tables e below (s₁.setTop (mkF m 101 #[.val (.int p1)] [(.int p1)])) _
        refine XT.sipushV X0.here hx rfl (8204 : Int32) (hb hby d1_101) (by decide) ?_
        show Steps p.tables e below (s₁.setTop (mkF m 104 #[.val (.int p1)] [(.int (8204 : Int32)), (.int p1)])) _
        refine XS.icmpNo X0.here hx rfl (hb hby d1_104) rfl (flt h1).1 ?_
        show Steps p.tables e below (s₁.setTop (mkF m 107 #[.val (.int p1)] [])) _
        refine XS.iloadN X0.here hx rfl (hb hby d1_107) rfl ?_
        show Steps p.tables e below (s₁.setTop (mkF m 108 #[.val (.int p1)] [(.int p1)])) _
        refine XT.sipushV X0.here hx rfl (8205 : Int32) (hb hby d1_108) (by decide) ?_
        show Steps p.tables e below (s₁.setTop (mkF m 111 #[.val (.int p1)] [(.int (8205 : Int32)), (.int p1)])) _
        refine XS.icmpYes X0.here hx rfl (pc0 := 111) (pc' := 191) rfl (hb hby d1_111) rfl (flt h2).2.2.2 (by decide) (by decide) ?_
        show Steps p.tables e below (s₁.setTop (mkF m 191 #[.val (.int p1)] [])) _
        refine XT.iconstV X0.here hx rfl (1 : Int32) (hb hby d1_191) (by decide) ?_
        show Steps p.tables e below (s₁.setTop (mkF m 192 #[.val (.int p1)] [(.int (1 : Int32))])) _
        refine XS.goto X0.here hx rfl (pc0 := 192) (pc' := 196) rfl (hb hby d1_192) (by decide) (by decide) ?_
        exact k
  have seg8 : ∀ t, Steps p.tables e below (s₁.setTop (mkF m 196 #[.val (.int p1)] [(.int (own_s8 p1))])) t → Steps p.tables e below (s₁.setTop (mkF m 86 #[.val (.int p1)] [])) t := by
    intro t k
    by_cases h1 : p1 < (895 : Int32)
    · have _ := 0
      have q : own_s8 p1 = own_s9 p1 := by simp only [own_s8, if_pos h1]
      rw [q] at k
      show Steps p.tables e below (s₁.setTop (mkF m 86 #[.val (.int p1)] [])) _
      refine XS.iloadN X0.here hx rfl (hb hby d1_86) rfl ?_
      show Steps p.tables e below (s₁.setTop (mkF m 87 #[.val (.int p1)] [(.int p1)])) _
      refine XT.sipushV X0.here hx rfl (895 : Int32) (hb hby d1_87) (by decide) ?_
      show Steps p.tables e below (s₁.setTop (mkF m 90 #[.val (.int p1)] [(.int (895 : Int32)), (.int p1)])) _
      refine XS.icmpYes X0.here hx rfl (pc0 := 90) (pc' := 100) rfl (hb hby d1_90) rfl (tlt h1).1 (by decide) (by decide) ?_
      exact seg9 t k
    · by_cases h2 : (8191 : Int32) < p1
      · have _ := 0
        have q : own_s8 p1 = own_s9 p1 := by simp only [own_s8, if_neg h1, if_pos h2]
        rw [q] at k
        show Steps p.tables e below (s₁.setTop (mkF m 86 #[.val (.int p1)] [])) _
        refine XS.iloadN X0.here hx rfl (hb hby d1_86) rfl ?_
        show Steps p.tables e below (s₁.setTop (mkF m 87 #[.val (.int p1)] [(.int p1)])) _
        refine XT.sipushV X0.here hx rfl (895 : Int32) (hb hby d1_87) (by decide) ?_
        show Steps p.tables e below (s₁.setTop (mkF m 90 #[.val (.int p1)] [(.int (895 : Int32)), (.int p1)])) _
        refine XS.icmpNo X0.here hx rfl (hb hby d1_90) rfl (flt h1).1 ?_
        show Steps p.tables e below (s₁.setTop (mkF m 93 #[.val (.int p1)] [])) _
        refine XS.iloadN X0.here hx rfl (hb hby d1_93) rfl ?_
        show Steps p.tables e below (s₁.setTop (mkF m 94 #[.val (.int p1)] [(.int p1)])) _
        refine XT.sipushV X0.here hx rfl (8191 : Int32) (hb hby d1_94) (by decide) ?_
        show Steps p.tables e below (s₁.setTop (mkF m 97 #[.val (.int p1)] [(.int (8191 : Int32)), (.int p1)])) _
        refine XS.icmpNo X0.here hx rfl (hb hby d1_97) rfl (tlt h2).2.2.2 ?_
        exact seg9 t k
      · have _ := 0
        have q : own_s8 p1 = (1 : Int32) := by simp only [own_s8, if_neg h1, if_neg h2]
        rw [q] at k
        show Steps p.tables e below (s₁.setTop (mkF m 86 #[.val (.int p1)] [])) _
        refine XS.iloadN X0.here hx rfl (hb hby d1_86) rfl ?_
        show Steps p.tables e below (s₁.setTop (mkF m 87 #[.val (.int p1)] [(.int p1)])) _
        refine XT.sipushV X0.here hx rfl (895 : Int32) (hb hby d1_87) (by decide) ?_
        show Steps p.tables e below (s₁.setTop (mkF m 90 #[.val (.int p1)] [(.int (895 : Int32)), (.int p1)])) _
        refine XS.icmpNo X0.here hx rfl (hb hby d1_90) rfl (flt h1).1 ?_
        show Steps p.tables e below (s₁.setTop (mkF m 93 #[.val (.int p1)] [])) _
        refine XS.iloadN X0.here hx rfl (hb hby d1_93) rfl ?_
        show Steps p.tables e below (s₁.setTop (mkF m 94 #[.val (.int p1)] [(.int p1)])) _
        refine XT.sipushV X0.here hx rfl (8191 : Int32) (hb hby d1_94) (by decide) ?_
        show Steps p.tables e below (s₁.setTop (mkF m 97 #[.val (.int p1)] [(.int (8191 : Int32)), (.int p1)])) _
        refine XS.icmpYes X0.here hx rfl (pc0 := 97) (pc' := 191) rfl (hb hby d1_97) rfl (flt h2).2.2.2 (by decide) (by decide) ?_
        show Steps p.tables e below (s₁.setTop (mkF m 191 #[.val (.int p1)] [])) _
        refine XT.iconstV X0.here hx rfl (1 : Int32) (hb hby d1_191) (by decide) ?_
        show Steps p.tables e below (s₁.setTop (mkF m 192 #[.val (.int p1)] [(.int (1 : Int32))])) _
        refine XS.goto X0.here hx rfl (pc0 := 192) (pc' := 196) rfl (hb hby d1_192) (by decide) (by decide) ?_
        exact k
  have seg7 : ∀ t, Steps p.tables e below (s₁.setTop (mkF m 196 #[.val (.int p1)] [(.int (own_s7 p1))])) t → Steps p.tables e below (s₁.setTop (mkF m 72 #[.val (.int p1)] [])) t := by
    intro t k
    by_cases h1 : p1 < (880 : Int32)
    · have _ := 0
      have q : own_s7 p1 = own_s8 p1 := by simp only [own_s7, if_pos h1]
      rw [q] at k
      show Steps p.tables e below (s₁.setTop (mkF m 72 #[.val (.int p1)] [])) _
      refine XS.iloadN X0.here hx rfl (hb hby d1_72) rfl ?_
      show Steps p.tables e below (s₁.setTop (mkF m 73 #[.val (.int p1)] [(.int p1)])) _
      refine XT.sipushV X0.here hx rfl (880 : Int32) (hb hby d1_73) (by decide) ?_
      show Steps p.tables e below (s₁.setTop (mkF m 76 #[.val (.int p1)] [(.int (880 : Int32)), (.int p1)])) _
      refine XS.icmpYes X0.here hx rfl (pc0 := 76) (pc' := 86) rfl (hb hby d1_76) rfl (tlt h1).1 (by decide) (by decide) ?_
      exact seg8 t k
    · by_cases h2 : (893 : Int32) < p1
      · have _ := 0
        have q : own_s7 p1 = own_s8 p1 := by simp only [own_s7, if_neg h1, if_pos h2]
        rw [q] at k
        show Steps p.tables e below (s₁.setTop (mkF m 72 #[.val (.int p1)] [])) _
        refine XS.iloadN X0.here hx rfl (hb hby d1_72) rfl ?_
        show Steps p.tables e below (s₁.setTop (mkF m 73 #[.val (.int p1)] [(.int p1)])) _
        refine XT.sipushV X0.here hx rfl (880 : Int32) (hb hby d1_73) (by decide) ?_
        show Steps p.tables e below (s₁.setTop (mkF m 76 #[.val (.int p1)] [(.int (880 : Int32)), (.int p1)])) _
        refine XS.icmpNo X0.here hx rfl (hb hby d1_76) rfl (flt h1).1 ?_
        show Steps p.tables e below (s₁.setTop (mkF m 79 #[.val (.int p1)] [])) _
        refine XS.iloadN X0.here hx rfl (hb hby d1_79) rfl ?_
        show Steps p.tables e below (s₁.setTop (mkF m 80 #[.val (.int p1)] [(.int p1)])) _
        refine XT.sipushV X0.here hx rfl (893 : Int32) (hb hby d1_80) (by decide) ?_
        show Steps p.tables e below (s₁.setTop (mkF m 83 #[.val (.int p1)] [(.int (893 : Int32)), (.int p1)])) _
        refine XS.icmpNo X0.here hx rfl (hb hby d1_83) rfl (tlt h2).2.2.2 ?_
        exact seg8 t k
      · have _ := 0
        have q : own_s7 p1 = (1 : Int32) := by simp only [own_s7, if_neg h1, if_neg h2]
        rw [q] at k
        show Steps p.tables e below (s₁.setTop (mkF m 72 #[.val (.int p1)] [])) _
        refine XS.iloadN X0.here hx rfl (hb hby d1_72) rfl ?_
        show Steps p.tables e below (s₁.setTop (mkF m 73 #[.val (.int p1)] [(.int p1)])) _
        refine XT.sipushV X0.here hx rfl (880 : Int32) (hb hby d1_73) (by decide) ?_
        show Steps p.tables e below (s₁.setTop (mkF m 76 #[.val (.int p1)] [(.int (880 : Int32)), (.int p1)])) _
        refine XS.icmpNo X0.here hx rfl (hb hby d1_76) rfl (flt h1).1 ?_
        show Steps p.tables e below (s₁.setTop (mkF m 79 #[.val (.int p1)] [])) _
        refine XS.iloadN X0.here hx rfl (hb hby d1_79) rfl ?_
        show Steps p.tables e below (s₁.setTop (mkF m 80 #[.val (.int p1)] [(.int p1)])) _
        refine XT.sipushV X0.here hx rfl (893 : Int32) (hb hby d1_80) (by decide) ?_
        show Steps p.tables e below (s₁.setTop (mkF m 83 #[.val (.int p1)] [(.int (893 : Int32)), (.int p1)])) _
        refine XS.icmpYes X0.here hx rfl (pc0 := 83) (pc' := 191) rfl (hb hby d1_83) rfl (flt h2).2.2.2 (by decide) (by decide) ?_
        show Steps p.tables e below (s₁.setTop (mkF m 191 #[.val (.int p1)] [])) _
        refine XT.iconstV X0.here hx rfl (1 : Int32) (hb hby d1_191) (by decide) ?_
        show Steps p.tables e below (s₁.setTop (mkF m 192 #[.val (.int p1)] [(.int (1 : Int32))])) _
        refine XS.goto X0.here hx rfl (pc0 := 192) (pc' := 196) rfl (hb hby d1_192) (by decide) (by decide) ?_
        exact k
  have seg6 : ∀ t, Steps p.tables e below (s₁.setTop (mkF m 196 #[.val (.int p1)] [(.int (own_s6 p1))])) t → Steps p.tables e below (s₁.setTop (mkF m 58 #[.val (.int p1)] [])) t := by
    intro t k
    by_cases h1 : p1 < (248 : Int32)
    · have _ := 0
      have q : own_s6 p1 = own_s7 p1 := by simp only [own_s6, if_pos h1]
      rw [q] at k
      show Steps p.tables e below (s₁.setTop (mkF m 58 #[.val (.int p1)] [])) _
      refine XS.iloadN X0.here hx rfl (hb hby d1_58) rfl ?_
      show Steps p.tables e below (s₁.setTop (mkF m 59 #[.val (.int p1)] [(.int p1)])) _
      refine XT.sipushV X0.here hx rfl (248 : Int32) (hb hby d1_59) (by decide) ?_
      show Steps p.tables e below (s₁.setTop (mkF m 62 #[.val (.int p1)] [(.int (248 : Int32)), (.int p1)])) _
      refine XS.icmpYes X0.here hx rfl (pc0 := 62) (pc' := 72) rfl (hb hby d1_62) rfl (tlt h1).1 (by decide) (by decide) ?_
      exact seg7 t k
    · by_cases h2 : (767 : Int32) < p1
      · have _ := 0
        have q : own_s6 p1 = own_s7 p1 := by simp only [own_s6, if_neg h1, if_pos h2]
        rw [q] at k
        show Steps p.tables e below (s₁.setTop (mkF m 58 #[.val (.int p1)] [])) _
        refine XS.iloadN X0.here hx rfl (hb hby d1_58) rfl ?_
        show Steps p.tables e below (s₁.setTop (mkF m 59 #[.val (.int p1)] [(.int p1)])) _
        refine XT.sipushV X0.here hx rfl (248 : Int32) (hb hby d1_59) (by decide) ?_
        show Steps p.tables e below (s₁.setTop (mkF m 62 #[.val (.int p1)] [(.int (248 : Int32)), (.int p1)])) _
        refine XS.icmpNo X0.here hx rfl (hb hby d1_62) rfl (flt h1).1 ?_
        show Steps p.tables e below (s₁.setTop (mkF m 65 #[.val (.int p1)] [])) _
        refine XS.iloadN X0.here hx rfl (hb hby d1_65) rfl ?_
        show Steps p.tables e below (s₁.setTop (mkF m 66 #[.val (.int p1)] [(.int p1)])) _
        refine XT.sipushV X0.here hx rfl (767 : Int32) (hb hby d1_66) (by decide) ?_
        show Steps p.tables e below (s₁.setTop (mkF m 69 #[.val (.int p1)] [(.int (767 : Int32)), (.int p1)])) _
        refine XS.icmpNo X0.here hx rfl (hb hby d1_69) rfl (tlt h2).2.2.2 ?_
        exact seg7 t k
      · have _ := 0
        have q : own_s6 p1 = (1 : Int32) := by simp only [own_s6, if_neg h1, if_neg h2]
        rw [q] at k
        show Steps p.tables e below (s₁.setTop (mkF m 58 #[.val (.int p1)] [])) _
        refine XS.iloadN X0.here hx rfl (hb hby d1_58) rfl ?_
        show Steps p.tables e below (s₁.setTop (mkF m 59 #[.val (.int p1)] [(.int p1)])) _
        refine XT.sipushV X0.here hx rfl (248 : Int32) (hb hby d1_59) (by decide) ?_
        show Steps p.tables e below (s₁.setTop (mkF m 62 #[.val (.int p1)] [(.int (248 : Int32)), (.int p1)])) _
        refine XS.icmpNo X0.here hx rfl (hb hby d1_62) rfl (flt h1).1 ?_
        show Steps p.tables e below (s₁.setTop (mkF m 65 #[.val (.int p1)] [])) _
        refine XS.iloadN X0.here hx rfl (hb hby d1_65) rfl ?_
        show Steps p.tables e below (s₁.setTop (mkF m 66 #[.val (.int p1)] [(.int p1)])) _
        refine XT.sipushV X0.here hx rfl (767 : Int32) (hb hby d1_66) (by decide) ?_
        show Steps p.tables e below (s₁.setTop (mkF m 69 #[.val (.int p1)] [(.int (767 : Int32)), (.int p1)])) _
        refine XS.icmpYes X0.here hx rfl (pc0 := 69) (pc' := 191) rfl (hb hby d1_69) rfl (flt h2).2.2.2 (by decide) (by decide) ?_
        show Steps p.tables e below (s₁.setTop (mkF m 191 #[.val (.int p1)] [])) _
        refine XT.iconstV X0.here hx rfl (1 : Int32) (hb hby d1_191) (by decide) ?_
        show Steps p.tables e below (s₁.setTop (mkF m 192 #[.val (.int p1)] [(.int (1 : Int32))])) _
        refine XS.goto X0.here hx rfl (pc0 := 192) (pc' := 196) rfl (hb hby d1_192) (by decide) (by decide) ?_
        exact k
  have seg5 : ∀ t, Steps p.tables e below (s₁.setTop (mkF m 196 #[.val (.int p1)] [(.int (own_s5 p1))])) t → Steps p.tables e below (s₁.setTop (mkF m 44 #[.val (.int p1)] [])) t := by
    intro t k
    by_cases h1 : p1 < (216 : Int32)
    · have _ := 0
      have q : own_s5 p1 = own_s6 p1 := by simp only [own_s5, if_pos h1]
      rw [q] at k
      show Steps p.tables e below (s₁.setTop (mkF m 44 #[.val (.int p1)] [])) _
      refine XS.iloadN X0.here hx rfl (hb hby d1_44) rfl ?_
      show Steps p.tables e below (s₁.setTop (mkF m 45 #[.val (.int p1)] [(.int p1)])) _
      refine XT.sipushV X0.here hx rfl (216 : Int32) (hb hby d1_45) (by decide) ?_
      show Steps p.tables e below (s₁.setTop (mkF m 48 #[.val (.int p1)] [(.int (216 : Int32)), (.int p1)])) _
      refine XS.icmpYes X0.here hx rfl (pc0 := 48) (pc' := 58) rfl (hb hby d1_48) rfl (tlt h1).1 (by decide) (by decide) ?_
      exact seg6 t k
    · by_cases h2 : (246 : Int32) < p1
      · have _ := 0
        have q : own_s5 p1 = own_s6 p1 := by simp only [own_s5, if_neg h1, if_pos h2]
        rw [q] at k
        show Steps p.tables e below (s₁.setTop (mkF m 44 #[.val (.int p1)] [])) _
        refine XS.iloadN X0.here hx rfl (hb hby d1_44) rfl ?_
        show Steps p.tables e below (s₁.setTop (mkF m 45 #[.val (.int p1)] [(.int p1)])) _
        refine XT.sipushV X0.here hx rfl (216 : Int32) (hb hby d1_45) (by decide) ?_
        show Steps p.tables e below (s₁.setTop (mkF m 48 #[.val (.int p1)] [(.int (216 : Int32)), (.int p1)])) _
        refine XS.icmpNo X0.here hx rfl (hb hby d1_48) rfl (flt h1).1 ?_
        show Steps p.tables e below (s₁.setTop (mkF m 51 #[.val (.int p1)] [])) _
        refine XS.iloadN X0.here hx rfl (hb hby d1_51) rfl ?_
        show Steps p.tables e below (s₁.setTop (mkF m 52 #[.val (.int p1)] [(.int p1)])) _
        refine XT.sipushV X0.here hx rfl (246 : Int32) (hb hby d1_52) (by decide) ?_
        show Steps p.tables e below (s₁.setTop (mkF m 55 #[.val (.int p1)] [(.int (246 : Int32)), (.int p1)])) _
        refine XS.icmpNo X0.here hx rfl (hb hby d1_55) rfl (tlt h2).2.2.2 ?_
        exact seg6 t k
      · have _ := 0
        have q : own_s5 p1 = (1 : Int32) := by simp only [own_s5, if_neg h1, if_neg h2]
        rw [q] at k
        show Steps p.tables e below (s₁.setTop (mkF m 44 #[.val (.int p1)] [])) _
        refine XS.iloadN X0.here hx rfl (hb hby d1_44) rfl ?_
        show Steps p.tables e below (s₁.setTop (mkF m 45 #[.val (.int p1)] [(.int p1)])) _
        refine XT.sipushV X0.here hx rfl (216 : Int32) (hb hby d1_45) (by decide) ?_
        show Steps p.tables e below (s₁.setTop (mkF m 48 #[.val (.int p1)] [(.int (216 : Int32)), (.int p1)])) _
        refine XS.icmpNo X0.here hx rfl (hb hby d1_48) rfl (flt h1).1 ?_
        show Steps p.tables e below (s₁.setTop (mkF m 51 #[.val (.int p1)] [])) _
        refine XS.iloadN X0.here hx rfl (hb hby d1_51) rfl ?_
        show Steps p.tables e below (s₁.setTop (mkF m 52 #[.val (.int p1)] [(.int p1)])) _
        refine XT.sipushV X0.here hx rfl (246 : Int32) (hb hby d1_52) (by decide) ?_
        show Steps p.tables e below (s₁.setTop (mkF m 55 #[.val (.int p1)] [(.int (246 : Int32)), (.int p1)])) _
        refine XS.icmpYes X0.here hx rfl (pc0 := 55) (pc' := 191) rfl (hb hby d1_55) rfl (flt h2).2.2.2 (by decide) (by decide) ?_
        show Steps p.tables e below (s₁.setTop (mkF m 191 #[.val (.int p1)] [])) _
        refine XT.iconstV X0.here hx rfl (1 : Int32) (hb hby d1_191) (by decide) ?_
        show Steps p.tables e below (s₁.setTop (mkF m 192 #[.val (.int p1)] [(.int (1 : Int32))])) _
        refine XS.goto X0.here hx rfl (pc0 := 192) (pc' := 196) rfl (hb hby d1_192) (by decide) (by decide) ?_
        exact k
  have seg4 : ∀ t, Steps p.tables e below (s₁.setTop (mkF m 196 #[.val (.int p1)] [(.int (own_s4 p1))])) t → Steps p.tables e below (s₁.setTop (mkF m 30 #[.val (.int p1)] [])) t := by
    intro t k
    by_cases h1 : p1 < (192 : Int32)
    · have _ := 0
      have q : own_s4 p1 = own_s5 p1 := by simp only [own_s4, if_pos h1]
      rw [q] at k
      show Steps p.tables e below (s₁.setTop (mkF m 30 #[.val (.int p1)] [])) _
      refine XS.iloadN X0.here hx rfl (hb hby d1_30) rfl ?_
      show Steps p.tables e below (s₁.setTop (mkF m 31 #[.val (.int p1)] [(.int p1)])) _
      refine XT.sipushV X0.here hx rfl (192 : Int32) (hb hby d1_31) (by decide) ?_
      show Steps p.tables e below (s₁.setTop (mkF m 34 #[.val (.int p1)] [(.int (192 : Int32)), (.int p1)])) _
      refine XS.icmpYes X0.here hx rfl (pc0 := 34) (pc' := 44) rfl (hb hby d1_34) rfl (tlt h1).1 (by decide) (by decide) ?_
      exact seg5 t k
    · by_cases h2 : (214 : Int32) < p1
      · have _ := 0
        have q : own_s4 p1 = own_s5 p1 := by simp only [own_s4, if_neg h1, if_pos h2]
        rw [q] at k
        show Steps p.tables e below (s₁.setTop (mkF m 30 #[.val (.int p1)] [])) _
        refine XS.iloadN X0.here hx rfl (hb hby d1_30) rfl ?_
        show Steps p.tables e below (s₁.setTop (mkF m 31 #[.val (.int p1)] [(.int p1)])) _
        refine XT.sipushV X0.here hx rfl (192 : Int32) (hb hby d1_31) (by decide) ?_
        show Steps p.tables e below (s₁.setTop (mkF m 34 #[.val (.int p1)] [(.int (192 : Int32)), (.int p1)])) _
        refine XS.icmpNo X0.here hx rfl (hb hby d1_34) rfl (flt h1).1 ?_
        show Steps p.tables e below (s₁.setTop (mkF m 37 #[.val (.int p1)] [])) _
        refine XS.iloadN X0.here hx rfl (hb hby d1_37) rfl ?_
        show Steps p.tables e below (s₁.setTop (mkF m 38 #[.val (.int p1)] [(.int p1)])) _
        refine XT.sipushV X0.here hx rfl (214 : Int32) (hb hby d1_38) (by decide) ?_
        show Steps p.tables e below (s₁.setTop (mkF m 41 #[.val (.int p1)] [(.int (214 : Int32)), (.int p1)])) _
        refine XS.icmpNo X0.here hx rfl (hb hby d1_41) rfl (tlt h2).2.2.2 ?_
        exact seg5 t k
      · have _ := 0
        have q : own_s4 p1 = (1 : Int32) := by simp only [own_s4, if_neg h1, if_neg h2]
        rw [q] at k
        show Steps p.tables e below (s₁.setTop (mkF m 30 #[.val (.int p1)] [])) _
        refine XS.iloadN X0.here hx rfl (hb hby d1_30) rfl ?_
        show Steps p.tables e below (s₁.setTop (mkF m 31 #[.val (.int p1)] [(.int p1)])) _
        refine XT.sipushV X0.here hx rfl (192 : Int32) (hb hby d1_31) (by decide) ?_
        show Steps p.tables e below (s₁.setTop (mkF m 34 #[.val (.int p1)] [(.int (192 : Int32)), (.int p1)])) _
        refine XS.icmpNo X0.here hx rfl (hb hby d1_34) rfl (flt h1).1 ?_
        show Steps p.tables e below (s₁.setTop (mkF m 37 #[.val (.int p1)] [])) _
        refine XS.iloadN X0.here hx rfl (hb hby d1_37) rfl ?_
        show Steps p.tables e below (s₁.setTop (mkF m 38 #[.val (.int p1)] [(.int p1)])) _
        refine XT.sipushV X0.here hx rfl (214 : Int32) (hb hby d1_38) (by decide) ?_
        show Steps p.tables e below (s₁.setTop (mkF m 41 #[.val (.int p1)] [(.int (214 : Int32)), (.int p1)])) _
        refine XS.icmpYes X0.here hx rfl (pc0 := 41) (pc' := 191) rfl (hb hby d1_41) rfl (flt h2).2.2.2 (by decide) (by decide) ?_
        show Steps p.tables e below (s₁.setTop (mkF m 191 #[.val (.int p1)] [])) _
        refine XT.iconstV X0.here hx rfl (1 : Int32) (hb hby d1_191) (by decide) ?_
        show Steps p.tables e below (s₁.setTop (mkF m 192 #[.val (.int p1)] [(.int (1 : Int32))])) _
        refine XS.goto X0.here hx rfl (pc0 := 192) (pc' := 196) rfl (hb hby d1_192) (by decide) (by decide) ?_
        exact k
  have seg3 : ∀ t, Steps p.tables e below (s₁.setTop (mkF m 196 #[.val (.int p1)] [(.int (own_s3 p1))])) t → Steps p.tables e below (s₁.setTop (mkF m 24 #[.val (.int p1)] [])) t := by
    intro t k
    by_cases h1 : p1 = (95 : Int32)
    · have _ := 0
      have q : own_s3 p1 = (1 : Int32) := by simp only [own_s3, if_pos h1]
      rw [q] at k
      show Steps p.tables e below (s₁.setTop (mkF m 24 #[.val (.int p1)] [])) _
      refine XS.iloadN X0.here hx rfl (hb hby d1_24) rfl ?_
      show Steps p.tables e below (s₁.setTop (mkF m 25 #[.val (.int p1)] [(.int p1)])) _
      refine XT.bipushV X0.here hx rfl (95 : Int32) (hb hby d1_25) (by decide) ?_
      show Steps p.tables e below (s₁.setTop (mkF m 27 #[.val (.int p1)] [(.int (95 : Int32)), (.int p1)])) _
      refine XS.icmpYes X0.here hx rfl (pc0 := 27) (pc' := 191) rfl (hb hby d1_27) rfl (teq h1).1 (by decide) (by decide) ?_
      show Steps p.tables e below (s₁.setTop (mkF m 191 #[.val (.int p1)] [])) _
      refine XT.iconstV X0.here hx rfl (1 : Int32) (hb hby d1_191) (by decide) ?_
      show Steps p.tables e below (s₁.setTop (mkF m 192 #[.val (.int p1)] [(.int (1 : Int32))])) _
      refine XS.goto X0.here hx rfl (pc0 := 192) (pc' := 196) rfl (hb hby d1_192) (by decide) (by decide) ?_
      exact k
    · have _ := 0
      have q : own_s3 p1 = own_s4 p1 := by simp only [own_s3, if_neg h1]
      rw [q] at k
      show Steps p.tables e below (s₁.setTop (mkF m 24 #[.val (.int p1)] [])) _
      refine XS.iloadN X0.here hx rfl (hb hby d1_24) rfl ?_
      show Steps p.tables e below (s₁.setTop (mkF m 25 #[.val (.int p1)] [(.int p1)])) _
      refine XT.bipushV X0.here hx rfl (95 : Int32) (hb hby d1_25) (by decide) ?_
      show Steps p.tables e below (s₁.setTop (mkF m 27 #[.val (.int p1)] [(.int (95 : Int32)), (.int p1)])) _
      refine XS.icmpNo X0.here hx rfl (hb hby d1_27) rfl (feq h1).1 ?_
      exact seg4 t k
  have seg2 : ∀ t, Steps p.tables e below (s₁.setTop (mkF m 196 #[.val (.int p1)] [(.int (own_s2 p1))])) t → Steps p.tables e below (s₁.setTop (mkF m 12 #[.val (.int p1)] [])) t := by
    intro t k
    by_cases h1 : p1 < (65 : Int32)
    · have _ := 0
      have q : own_s2 p1 = own_s3 p1 := by simp only [own_s2, if_pos h1]
      rw [q] at k
      show Steps p.tables e below (s₁.setTop (mkF m 12 #[.val (.int p1)] [])) _
      refine XS.iloadN X0.here hx rfl (hb hby d1_12) rfl ?_
      show Steps p.tables e below (s₁.setTop (mkF m 13 #[.val (.int p1)] [(.int p1)])) _
      refine XT.bipushV X0.here hx rfl (65 : Int32) (hb hby d1_13) (by decide) ?_
      show Steps p.tables e below (s₁.setTop (mkF m 15 #[.val (.int p1)] [(.int (65 : Int32)), (.int p1)])) _
      refine XS.icmpYes X0.here hx rfl (pc0 := 15) (pc' := 24) rfl (hb hby d1_15) rfl (tlt h1).1 (by decide) (by decide) ?_
      exact seg3 t k
    · by_cases h2 : (90 : Int32) < p1
      · have _ := 0
        have q : own_s2 p1 = own_s3 p1 := by simp only [own_s2, if_neg h1, if_pos h2]
        rw [q] at k
        show Steps p.tables e below (s₁.setTop (mkF m 12 #[.val (.int p1)] [])) _
        refine XS.iloadN X0.here hx rfl (hb hby d1_12) rfl ?_
        show Steps p.tables e below (s₁.setTop (mkF m 13 #[.val (.int p1)] [(.int p1)])) _
        refine XT.bipushV X0.here hx rfl (65 : Int32) (hb hby d1_13) (by decide) ?_
        show Steps p.tables e below (s₁.setTop (mkF m 15 #[.val (.int p1)] [(.int (65 : Int32)), (.int p1)])) _
        refine XS.icmpNo X0.here hx rfl (hb hby d1_15) rfl (flt h1).1 ?_
        show Steps p.tables e below (s₁.setTop (mkF m 18 #[.val (.int p1)] [])) _
        refine XS.iloadN X0.here hx rfl (hb hby d1_18) rfl ?_
        show Steps p.tables e below (s₁.setTop (mkF m 19 #[.val (.int p1)] [(.int p1)])) _
        refine XT.bipushV X0.here hx rfl (90 : Int32) (hb hby d1_19) (by decide) ?_
        show Steps p.tables e below (s₁.setTop (mkF m 21 #[.val (.int p1)] [(.int (90 : Int32)), (.int p1)])) _
        refine XS.icmpNo X0.here hx rfl (hb hby d1_21) rfl (tlt h2).2.2.2 ?_
        exact seg3 t k
      · have _ := 0
        have q : own_s2 p1 = (1 : Int32) := by simp only [own_s2, if_neg h1, if_neg h2]
        rw [q] at k
        show Steps p.tables e below (s₁.setTop (mkF m 12 #[.val (.int p1)] [])) _
        refine XS.iloadN X0.here hx rfl (hb hby d1_12) rfl ?_
        show Steps p.tables e below (s₁.setTop (mkF m 13 #[.val (.int p1)] [(.int p1)])) _
        refine XT.bipushV X0.here hx rfl (65 : Int32) (hb hby d1_13) (by decide) ?_
        show Steps p.tables e below (s₁.setTop (mkF m 15 #[.val (.int p1)] [(.int (65 : Int32)), (.int p1)])) _
        refine XS.icmpNo X0.here hx rfl (hb hby d1_15) rfl (flt h1).1 ?_
        show Steps p.tables e below (s₁.setTop (mkF m 18 #[.val (.int p1)] [])) _
        refine XS.iloadN X0.here hx rfl (hb hby d1_18) rfl ?_
        show Steps p.tables e below (s₁.setTop (mkF m 19 #[.val (.int p1)] [(.int p1)])) _
        refine XT.bipushV X0.here hx rfl (90 : Int32) (hb hby d1_19) (by decide) ?_
        show Steps p.tables e below (s₁.setTop (mkF m 21 #[.val (.int p1)] [(.int (90 : Int32)), (.int p1)])) _
        refine XS.icmpYes X0.here hx rfl (pc0 := 21) (pc' := 191) rfl (hb hby d1_21) rfl (flt h2).2.2.2 (by decide) (by decide) ?_
        show Steps p.tables e below (s₁.setTop (mkF m 191 #[.val (.int p1)] [])) _
        refine XT.iconstV X0.here hx rfl (1 : Int32) (hb hby d1_191) (by decide) ?_
        show Steps p.tables e below (s₁.setTop (mkF m 192 #[.val (.int p1)] [(.int (1 : Int32))])) _
        refine XS.goto X0.here hx rfl (pc0 := 192) (pc' := 196) rfl (hb hby d1_192) (by decide) (by decide) ?_
        exact k
  have seg1 : ∀ t, Steps p.tables e below (s₁.setTop (mkF m 196 #[.val (.int p1)] [(.int (own_s1 p1))])) t → Steps p.tables e below (s₁.setTop (mkF m 0 #[.val (.int p1)] [])) t := by
    intro t k
    by_cases h1 : p1 < (97 : Int32)
    · have _ := 0
      have q : own_s1 p1 = own_s2 p1 := by simp only [own_s1, if_pos h1]
      rw [q] at k
      show Steps p.tables e below (s₁.setTop (mkF m 0 #[.val (.int p1)] [])) _
      refine XS.iloadN X0.here hx rfl (hb hby d1_0) rfl ?_
      show Steps p.tables e below (s₁.setTop (mkF m 1 #[.val (.int p1)] [(.int p1)])) _
      refine XT.bipushV X0.here hx rfl (97 : Int32) (hb hby d1_1) (by decide) ?_
      show Steps p.tables e below (s₁.setTop (mkF m 3 #[.val (.int p1)] [(.int (97 : Int32)), (.int p1)])) _
      refine XS.icmpYes X0.here hx rfl (pc0 := 3) (pc' := 12) rfl (hb hby d1_3) rfl (tlt h1).1 (by decide) (by decide) ?_
      exact seg2 t k
    · by_cases h2 : (122 : Int32) < p1
      · have _ := 0
        have q : own_s1 p1 = own_s2 p1 := by simp only [own_s1, if_neg h1, if_pos h2]
        rw [q] at k
        show Steps p.tables e below (s₁.setTop (mkF m 0 #[.val (.int p1)] [])) _
        refine XS.iloadN X0.here hx rfl (hb hby d1_0) rfl ?_
        show Steps p.tables e below (s₁.setTop (mkF m 1 #[.val (.int p1)] [(.int p1)])) _
        refine XT.bipushV X0.here hx rfl (97 : Int32) (hb hby d1_1) (by decide) ?_
        show Steps p.tables e below (s₁.setTop (mkF m 3 #[.val (.int p1)] [(.int (97 : Int32)), (.int p1)])) _
        refine XS.icmpNo X0.here hx rfl (hb hby d1_3) rfl (flt h1).1 ?_
        show Steps p.tables e below (s₁.setTop (mkF m 6 #[.val (.int p1)] [])) _
        refine XS.iloadN X0.here hx rfl (hb hby d1_6) rfl ?_
        show Steps p.tables e below (s₁.setTop (mkF m 7 #[.val (.int p1)] [(.int p1)])) _
        refine XT.bipushV X0.here hx rfl (122 : Int32) (hb hby d1_7) (by decide) ?_
        show Steps p.tables e below (s₁.setTop (mkF m 9 #[.val (.int p1)] [(.int (122 : Int32)), (.int p1)])) _
        refine XS.icmpNo X0.here hx rfl (hb hby d1_9) rfl (tlt h2).2.2.2 ?_
        exact seg2 t k
      · have _ := 0
        have q : own_s1 p1 = (1 : Int32) := by simp only [own_s1, if_neg h1, if_neg h2]
        rw [q] at k
        show Steps p.tables e below (s₁.setTop (mkF m 0 #[.val (.int p1)] [])) _
        refine XS.iloadN X0.here hx rfl (hb hby d1_0) rfl ?_
        show Steps p.tables e below (s₁.setTop (mkF m 1 #[.val (.int p1)] [(.int p1)])) _
        refine XT.bipushV X0.here hx rfl (97 : Int32) (hb hby d1_1) (by decide) ?_
        show Steps p.tables e below (s₁.setTop (mkF m 3 #[.val (.int p1)] [(.int (97 : Int32)), (.int p1)])) _
        refine XS.icmpNo X0.here hx rfl (hb hby d1_3) rfl (flt h1).1 ?_
        show Steps p.tables e below (s₁.setTop (mkF m 6 #[.val (.int p1)] [])) _
        refine XS.iloadN X0.here hx rfl (hb hby d1_6) rfl ?_
        show Steps p.tables e below (s₁.setTop (mkF m 7 #[.val (.int p1)] [(.int p1)])) _
        refine XT.bipushV X0.here hx rfl (122 : Int32) (hb hby d1_7) (by decide) ?_
        show Steps p.tables e below (s₁.setTop (mkF m 9 #[.val (.int p1)] [(.int (122 : Int32)), (.int p1)])) _
        refine XS.icmpYes X0.here hx rfl (pc0 := 9) (pc' := 191) rfl (hb hby d1_9) rfl (flt h2).2.2.2 (by decide) (by decide) ?_
        show Steps p.tables e below (s₁.setTop (mkF m 191 #[.val (.int p1)] [])) _
        refine XT.iconstV X0.here hx rfl (1 : Int32) (hb hby d1_191) (by decide) ?_
        show Steps p.tables e below (s₁.setTop (mkF m 192 #[.val (.int p1)] [(.int (1 : Int32))])) _
        refine XS.goto X0.here hx rfl (pc0 := 192) (pc' := 196) rfl (hb hby d1_192) (by decide) (by decide) ?_
        exact k
  rcases own_bool p1 with hb1 | hb1
  · have _ := 0
    have preB : ∀ t, Steps p.tables e below (s₁.setTop (mkF m 196 #[.val (.int p1)] [(.int (0 : Int32))])) t → Steps p.tables e below (s₁.setTop (entryFrame m #[(.int p1)] 1)) t := fun t k => pre0 t (seg1 t (by rw [hb1]; exact k))
    obtain ⟨fs, hr, hrun, hended, hW, hsame⟩ := X0.leave (v := some (.int (0 : Int32))) (fun h => by rw [Bd.returns] at h; cases h)
    refine ⟨_, _, preB _ ?_, hrun, hended, _, _, rfl, ?_, ⟨_, rfl⟩, hW, hsame.mono (by decide) (by decide)⟩
    · show Steps p.tables e below (s₁.setTop (mkF m 196 #[.val (.int p1)] [(.int (0 : Int32))])) _
      exact retOut X0 hx Bd.returns rfl (Or.inl ⟨rfl, by simp, _, rfl⟩) (hb hby d1_196) hr
    · show Qs Z p1 res h0 n0 _ s₁.heap _
      rw [e0]
      exact ⟨by rw [← hres, hb1], N0, rfl⟩
  · have _ := 0
    have preB : ∀ t, Steps p.tables e below (s₁.setTop (mkF m 196 #[.val (.int p1)] [(.int (1 : Int32))])) t → Steps p.tables e below (s₁.setTop (entryFrame m #[(.int p1)] 1)) t := fun t k => pre0 t (seg1 t (by rw [hb1]; exact k))
    obtain ⟨fs, hr, hrun, hended, hW, hsame⟩ := X0.leave (v := some (.int (1 : Int32))) (fun h => by rw [Bd.returns] at h; cases h)
    refine ⟨_, _, preB _ ?_, hrun, hended, _, _, rfl, ?_, ⟨_, rfl⟩, hW, hsame.mono (by decide) (by decide)⟩
    · show Steps p.tables e below (s₁.setTop (mkF m 196 #[.val (.int p1)] [(.int (1 : Int32))])) _
      exact retOut X0 hx Bd.returns rfl (Or.inl ⟨rfl, by simp, _, rfl⟩) (hb hby d1_196) hr
    · show Qs Z p1 res h0 n0 _ s₁.heap _
      rw [e0]
      exact ⟨by rw [← hres, hb1], N0, rfl⟩
def own_min (a b : Int32) : Int32 := if b < a then b else a
def own_max (a b : Int32) : Int32 := if a < b then b else a
def Qmin (Z : State) (p1 p2 : Int32) (h0 : Heap) (n0 : Nat) (v : Option Value) (h : Heap) (L : List Loc) : Prop := v = some (.int (own_min p1 p2)) ∧ Fr n0 L ∧ h = h0
theorem ef_rm_min (m : MethodId) (x0 : Int32) (x1 : Int32) : entryFrame m #[(.int x0), (.int x1)] 2 = mkF m 0 #[.val (.int x0), .val (.int x1)] [] := by first | (simp [entryFrame, mkF, argsToLocals, Value.category]; done) | rfl
set_option maxRecDepth 65536 in
set_option maxHeartbeats 40000000 in
theorem rm_min (l : Launch) (Z : State) (a0 : Array Value) (hw : ∀ d ∈ tables_1, d.before a0 Z = true) (ws : List Jvm.Cond) (p1 : Int32) (p2 : Int32) (h0 : Heap) (n0 : Nat) (Z0 : n0 ≤ h0.size)  :
    MetFree l (⟨"java/lang/Math", "min", "(II)I"⟩ : MethodName) (head1 (Jvm.Cond.code (⟨"java/lang/Math", "min", "(II)I"⟩ : MethodName) jdk_29_method_69_code 2 (some .int) :: ws) ({ frames := 0, cells := 0, slots := 0, locals := 0 } : Room)) (fun a U => a = #[(.int p1), (.int p2)] ∧ Z.Warmed39 U.vm ∧ U.heap = h0) (fun _ _ _ _ _ => True) (fun _ U o U' => ∃ v L, o = .returned v ∧ Qmin Z p1 p2  h0 n0 v U'.heap L ∧ FrameEnd U o U' L ({ frames := 0, cells := 0, slots := 0, locals := 0 } : Room).cells ({ frames := 0, cells := 0, slots := 0, locals := 0 } : Room).slots) := by
  refine MetFree.of_bodySF (Jvm.Free.JP.mathPlain rfl (by decide +kernel)) hisR ?_
  intro p e s m args below meth c s₁ Bd hml0 hP hK
  obtain ⟨rfl, hZ, hh⟩ := hP
  have hx := Bd.exec
  have hby := Bd.bytes
  have hml : c.maxLocals = 2 := hml0
  have hown : s.vm.findClass "java/lang/Math" = some m.cls := findClass_of_methodNamed Bd.named
  have hnm := (name_of_methodNamed Bd.named Bd.method).1
  have X0 : Stand p l e ({ frames := 0, cells := 0, slots := 0, locals := 0 } : Room) s m #[(.int p1), (.int p2)] below meth c s₁ [] 0 0 := Stand.of_body Bd
  have e0 : s₁.heap = h0 := by rw [← hh, Bd.state]; rfl
  have N0 := Fr.nil n0
  have pre0 : ∀ t, Steps p.tables e below (s₁.setTop (mkF m 0 #[.val (.int p1), .val (.int p2)] [])) t → Steps p.tables e below (s₁.setTop (entryFrame m #[(.int p1), (.int p2)] 2)) t := fun t k => castTop (ef_rm_min m p1 p2) k
  have pre1 : ∀ t, Steps p.tables e below (s₁.setTop (mkF m 2 #[.val (.int p1), .val (.int p2)] [(.int p2), (.int p1)])) t → Steps p.tables e below (s₁.setTop (entryFrame m #[(.int p1), (.int p2)] 2)) t := fun t k => pre0 t (by
    show Steps p.tables e below (s₁.setTop (mkF m 0 #[.val (.int p1), .val (.int p2)] [])) _
    refine XS.iloadN X0.here hx rfl (hb hby d2_0) rfl ?_
    show Steps p.tables e below (s₁.setTop (mkF m 1 #[.val (.int p1), .val (.int p2)] [(.int p1)])) _
    refine XS.iloadN X0.here hx rfl (hb hby d2_1) rfl ?_
    exact k)
  by_cases hc2_2 : p2 < p1
  · have _ := 0
    have pre3 : ∀ t, Steps p.tables e below (s₁.setTop (mkF m 10 #[.val (.int p1), .val (.int p2)] [(.int p2)])) t → Steps p.tables e below (s₁.setTop (entryFrame m #[(.int p1), (.int p2)] 2)) t := fun t k => pre1 t (by
      show Steps p.tables e below (s₁.setTop (mkF m 2 #[.val (.int p1), .val (.int p2)] [(.int p2), (.int p1)])) _
      refine XS.icmpYes X0.here hx rfl (pc0 := 2) (pc' := 9) rfl (hb hby d2_2) rfl (tlt hc2_2).2.2.1 (by decide) (by decide) ?_
      show Steps p.tables e below (s₁.setTop (mkF m 9 #[.val (.int p1), .val (.int p2)] [])) _
      refine XS.iloadN X0.here hx rfl (hb hby d2_9) rfl ?_
      exact k)
    obtain ⟨fs, hr, hrun, hended, hW, hsame⟩ := X0.leave (v := some (.int p2)) (fun h => by rw [Bd.returns] at h; cases h)
    refine ⟨_, _, pre3 _ ?_, hrun, hended, _, _, rfl, ?_, ⟨_, rfl⟩, hW, hsame.mono (by decide) (by decide)⟩
    · show Steps p.tables e below (s₁.setTop (mkF m 10 #[.val (.int p1), .val (.int p2)] [(.int p2)])) _
      exact retOut X0 hx Bd.returns rfl (Or.inl ⟨rfl, by simp, _, rfl⟩) (hb hby d2_10) hr
    · show Qmin Z p1 p2  h0 n0 _ s₁.heap _
      rw [e0]
      exact ⟨by simp [own_min, hc2_2], N0, rfl⟩
  · have _ := 0
    have pre4 : ∀ t, Steps p.tables e below (s₁.setTop (mkF m 10 #[.val (.int p1), .val (.int p2)] [(.int p1)])) t → Steps p.tables e below (s₁.setTop (entryFrame m #[(.int p1), (.int p2)] 2)) t := fun t k => pre1 t (by
      show Steps p.tables e below (s₁.setTop (mkF m 2 #[.val (.int p1), .val (.int p2)] [(.int p2), (.int p1)])) _
      refine XS.icmpNo X0.here hx rfl (hb hby d2_2) rfl (flt hc2_2).2.2.1 ?_
      show Steps p.tables e below (s₁.setTop (mkF m 5 #[.val (.int p1), .val (.int p2)] [])) _
      refine XS.iloadN X0.here hx rfl (hb hby d2_5) rfl ?_
      show Steps p.tables e below (s₁.setTop (mkF m 6 #[.val (.int p1), .val (.int p2)] [(.int p1)])) _
      refine XS.goto X0.here hx rfl (pc0 := 6) (pc' := 10) rfl (hb hby d2_6) (by decide) (by decide) ?_
      exact k)
    obtain ⟨fs, hr, hrun, hended, hW, hsame⟩ := X0.leave (v := some (.int p1)) (fun h => by rw [Bd.returns] at h; cases h)
    refine ⟨_, _, pre4 _ ?_, hrun, hended, _, _, rfl, ?_, ⟨_, rfl⟩, hW, hsame.mono (by decide) (by decide)⟩
    · show Steps p.tables e below (s₁.setTop (mkF m 10 #[.val (.int p1), .val (.int p2)] [(.int p1)])) _
      exact retOut X0 hx Bd.returns rfl (Or.inl ⟨rfl, by simp, _, rfl⟩) (hb hby d2_10) hr
    · show Qmin Z p1 p2  h0 n0 _ s₁.heap _
      rw [e0]
      exact ⟨by simp [own_min, hc2_2], N0, rfl⟩
def Qmax (Z : State) (p1 p2 : Int32) (h0 : Heap) (n0 : Nat) (v : Option Value) (h : Heap) (L : List Loc) : Prop := v = some (.int (own_max p1 p2)) ∧ Fr n0 L ∧ h = h0
theorem ef_rm_max (m : MethodId) (x0 : Int32) (x1 : Int32) : entryFrame m #[(.int x0), (.int x1)] 2 = mkF m 0 #[.val (.int x0), .val (.int x1)] [] := by first | (simp [entryFrame, mkF, argsToLocals, Value.category]; done) | rfl
set_option maxRecDepth 65536 in
set_option maxHeartbeats 40000000 in
theorem rm_max (l : Launch) (Z : State) (a0 : Array Value) (hw : ∀ d ∈ tables_1, d.before a0 Z = true) (ws : List Jvm.Cond) (p1 : Int32) (p2 : Int32) (h0 : Heap) (n0 : Nat) (Z0 : n0 ≤ h0.size)  :
    MetFree l (⟨"java/lang/Math", "max", "(II)I"⟩ : MethodName) (head1 (Jvm.Cond.code (⟨"java/lang/Math", "max", "(II)I"⟩ : MethodName) jdk_29_method_65_code 2 (some .int) :: ws) ({ frames := 0, cells := 0, slots := 0, locals := 0 } : Room)) (fun a U => a = #[(.int p1), (.int p2)] ∧ Z.Warmed39 U.vm ∧ U.heap = h0) (fun _ _ _ _ _ => True) (fun _ U o U' => ∃ v L, o = .returned v ∧ Qmax Z p1 p2  h0 n0 v U'.heap L ∧ FrameEnd U o U' L ({ frames := 0, cells := 0, slots := 0, locals := 0 } : Room).cells ({ frames := 0, cells := 0, slots := 0, locals := 0 } : Room).slots) := by
  refine MetFree.of_bodySF (Jvm.Free.JP.mathPlain rfl (by decide +kernel)) hisR ?_
  intro p e s m args below meth c s₁ Bd hml0 hP hK
  obtain ⟨rfl, hZ, hh⟩ := hP
  have hx := Bd.exec
  have hby := Bd.bytes
  have hml : c.maxLocals = 2 := hml0
  have hown : s.vm.findClass "java/lang/Math" = some m.cls := findClass_of_methodNamed Bd.named
  have hnm := (name_of_methodNamed Bd.named Bd.method).1
  have X0 : Stand p l e ({ frames := 0, cells := 0, slots := 0, locals := 0 } : Room) s m #[(.int p1), (.int p2)] below meth c s₁ [] 0 0 := Stand.of_body Bd
  have e0 : s₁.heap = h0 := by rw [← hh, Bd.state]; rfl
  have N0 := Fr.nil n0
  have pre0 : ∀ t, Steps p.tables e below (s₁.setTop (mkF m 0 #[.val (.int p1), .val (.int p2)] [])) t → Steps p.tables e below (s₁.setTop (entryFrame m #[(.int p1), (.int p2)] 2)) t := fun t k => castTop (ef_rm_max m p1 p2) k
  have pre1 : ∀ t, Steps p.tables e below (s₁.setTop (mkF m 2 #[.val (.int p1), .val (.int p2)] [(.int p2), (.int p1)])) t → Steps p.tables e below (s₁.setTop (entryFrame m #[(.int p1), (.int p2)] 2)) t := fun t k => pre0 t (by
    show Steps p.tables e below (s₁.setTop (mkF m 0 #[.val (.int p1), .val (.int p2)] [])) _
    refine XS.iloadN X0.here hx rfl (hb hby d3_0) rfl ?_
    show Steps p.tables e below (s₁.setTop (mkF m 1 #[.val (.int p1), .val (.int p2)] [(.int p1)])) _
    refine XS.iloadN X0.here hx rfl (hb hby d3_1) rfl ?_
    exact k)
  by_cases hc2_2 : p1 < p2
  · have _ := 0
    have pre3 : ∀ t, Steps p.tables e below (s₁.setTop (mkF m 10 #[.val (.int p1), .val (.int p2)] [(.int p2)])) t → Steps p.tables e below (s₁.setTop (entryFrame m #[(.int p1), (.int p2)] 2)) t := fun t k => pre1 t (by
      show Steps p.tables e below (s₁.setTop (mkF m 2 #[.val (.int p1), .val (.int p2)] [(.int p2), (.int p1)])) _
      refine XS.icmpYes X0.here hx rfl (pc0 := 2) (pc' := 9) rfl (hb hby d3_2) rfl (tlt hc2_2).1 (by decide) (by decide) ?_
      show Steps p.tables e below (s₁.setTop (mkF m 9 #[.val (.int p1), .val (.int p2)] [])) _
      refine XS.iloadN X0.here hx rfl (hb hby d3_9) rfl ?_
      exact k)
    obtain ⟨fs, hr, hrun, hended, hW, hsame⟩ := X0.leave (v := some (.int p2)) (fun h => by rw [Bd.returns] at h; cases h)
    refine ⟨_, _, pre3 _ ?_, hrun, hended, _, _, rfl, ?_, ⟨_, rfl⟩, hW, hsame.mono (by decide) (by decide)⟩
    · show Steps p.tables e below (s₁.setTop (mkF m 10 #[.val (.int p1), .val (.int p2)] [(.int p2)])) _
      exact retOut X0 hx Bd.returns rfl (Or.inl ⟨rfl, by simp, _, rfl⟩) (hb hby d3_10) hr
    · show Qmax Z p1 p2  h0 n0 _ s₁.heap _
      rw [e0]
      exact ⟨by simp [own_max, hc2_2], N0, rfl⟩
  · have _ := 0
    have pre4 : ∀ t, Steps p.tables e below (s₁.setTop (mkF m 10 #[.val (.int p1), .val (.int p2)] [(.int p1)])) t → Steps p.tables e below (s₁.setTop (entryFrame m #[(.int p1), (.int p2)] 2)) t := fun t k => pre1 t (by
      show Steps p.tables e below (s₁.setTop (mkF m 2 #[.val (.int p1), .val (.int p2)] [(.int p2), (.int p1)])) _
      refine XS.icmpNo X0.here hx rfl (hb hby d3_2) rfl (flt hc2_2).1 ?_
      show Steps p.tables e below (s₁.setTop (mkF m 5 #[.val (.int p1), .val (.int p2)] [])) _
      refine XS.iloadN X0.here hx rfl (hb hby d3_5) rfl ?_
      show Steps p.tables e below (s₁.setTop (mkF m 6 #[.val (.int p1), .val (.int p2)] [(.int p1)])) _
      refine XS.goto X0.here hx rfl (pc0 := 6) (pc' := 10) rfl (hb hby d3_6) (by decide) (by decide) ?_
      exact k)
    obtain ⟨fs, hr, hrun, hended, hW, hsame⟩ := X0.leave (v := some (.int p1)) (fun h => by rw [Bd.returns] at h; cases h)
    refine ⟨_, _, pre4 _ ?_, hrun, hended, _, _, rfl, ?_, ⟨_, rfl⟩, hW, hsame.mono (by decide) (by decide)⟩
    · show Steps p.tables e below (s₁.setTop (mkF m 10 #[.val (.int p1), .val (.int p2)] [(.int p1)])) _
      exact retOut X0 hx Bd.returns rfl (Or.inl ⟨rfl, by simp, _, rfl⟩) (hb hby d3_10) hr
    · show Qmax Z p1 p2  h0 n0 _ s₁.heap _
      rw [e0]
      exact ⟨by simp [own_max, hc2_2], N0, rfl⟩
theorem own_c {lo k : Int32} (x : Int32) {L N : Int} (hL : lo.toInt = L) (hN : k.toInt = N) (h0 : 0 ≤ L) (h1 : 0 < N) (h2 : L + N ≤ 2000000) : L ≤ (lo + ((x &&& (2147483647 : Int32)) % k)).toInt ∧ (lo + ((x &&& (2147483647 : Int32)) % k)).toInt < L + N := by
  have e1 := c_mask x (2147483647 : Int32) 31 (by decide) (by decide)
  have e2 := (c_iremV (x &&& (2147483647 : Int32)) k).1 (by omega) (by omega)
  have e3 := c_iadd lo ((x &&& (2147483647 : Int32)) % k)
  have r3 := rng32 (lo + ((x &&& (2147483647 : Int32)) % k))
  generalize (x &&& (2147483647 : Int32)) % k = z at *
  generalize (x &&& (2147483647 : Int32)) = y at *
  omega
theorem own_minb (x : Int32) : (own_min x (64 : Int32)).toInt ≤ 64 := by
  have a : (64 : Int32).toInt = 64 := by decide
  simp only [own_min, Int32.lt_iff_toInt_lt]; split <;> omega
theorem own_maxb (x : Int32) : 983040 ≤ (own_max x (983040 : Int32)).toInt := by
  have a : (983040 : Int32).toInt = 983040 := by decide
  simp only [own_max, Int32.lt_iff_toInt_lt]; split <;> omega
theorem own_y0 {c : Int32} (h : 65 ≤ c.toInt ∧ c.toInt < 91) : own_s1 c = 1 := by
  rw [own_e1, if_neg (by omega), own_e2, if_pos (by omega)]
theorem own_y1 {c : Int32} (h : 95 ≤ c.toInt ∧ c.toInt < 96) : own_s1 c = 1 := by
  rw [own_e1, if_neg (by omega), own_e2, if_neg (by omega), own_e3, if_pos (by omega)]
theorem own_y2 {c : Int32} (h : 97 ≤ c.toInt ∧ c.toInt < 123) : own_s1 c = 1 := by
  rw [own_e1, if_pos (by omega)]
theorem own_y3 {c : Int32} (h : 192 ≤ c.toInt ∧ c.toInt < 215) : own_s1 c = 1 := by
  rw [own_e1, if_neg (by omega), own_e2, if_neg (by omega), own_e3, if_neg (by omega), own_e4, if_pos (by omega)]
theorem own_y4 {c : Int32} (h : 216 ≤ c.toInt ∧ c.toInt < 247) : own_s1 c = 1 := by
  rw [own_e1, if_neg (by omega), own_e2, if_neg (by omega), own_e3, if_neg (by omega), own_e4, if_neg (by omega), own_e5, if_pos (by omega)]
theorem own_y5 {c : Int32} (h : 248 ≤ c.toInt ∧ c.toInt < 768) : own_s1 c = 1 := by
  rw [own_e1, if_neg (by omega), own_e2, if_neg (by omega), own_e3, if_neg (by omega), own_e4, if_neg (by omega), own_e5, if_neg (by omega), own_e6, if_pos (by omega)]
theorem own_y6 {c : Int32} (h : 880 ≤ c.toInt ∧ c.toInt < 894) : own_s1 c = 1 := by
  rw [own_e1, if_neg (by omega), own_e2, if_neg (by omega), own_e3, if_neg (by omega), own_e4, if_neg (by omega), own_e5, if_neg (by omega), own_e6, if_neg (by omega), own_e7, if_pos (by omega)]
theorem own_y7 {c : Int32} (h : 895 ≤ c.toInt ∧ c.toInt < 8192) : own_s1 c = 1 := by
  rw [own_e1, if_neg (by omega), own_e2, if_neg (by omega), own_e3, if_neg (by omega), own_e4, if_neg (by omega), own_e5, if_neg (by omega), own_e6, if_neg (by omega), own_e7, if_neg (by omega), own_e8, if_pos (by omega)]
theorem own_y8 {c : Int32} (h : 8204 ≤ c.toInt ∧ c.toInt < 8206) : own_s1 c = 1 := by
  rw [own_e1, if_neg (by omega), own_e2, if_neg (by omega), own_e3, if_neg (by omega), own_e4, if_neg (by omega), own_e5, if_neg (by omega), own_e6, if_neg (by omega), own_e7, if_neg (by omega), own_e8, if_neg (by omega), own_e9, if_pos (by omega)]
theorem own_y9 {c : Int32} (h : 8304 ≤ c.toInt ∧ c.toInt < 8592) : own_s1 c = 1 := by
  rw [own_e1, if_neg (by omega), own_e2, if_neg (by omega), own_e3, if_neg (by omega), own_e4, if_neg (by omega), own_e5, if_neg (by omega), own_e6, if_neg (by omega), own_e7, if_neg (by omega), own_e8, if_neg (by omega), own_e9, if_neg (by omega), own_e10, if_pos (by omega)]
theorem own_y10 {c : Int32} (h : 11264 ≤ c.toInt ∧ c.toInt < 12272) : own_s1 c = 1 := by
  rw [own_e1, if_neg (by omega), own_e2, if_neg (by omega), own_e3, if_neg (by omega), own_e4, if_neg (by omega), own_e5, if_neg (by omega), own_e6, if_neg (by omega), own_e7, if_neg (by omega), own_e8, if_neg (by omega), own_e9, if_neg (by omega), own_e10, if_neg (by omega), own_e11, if_pos (by omega)]
theorem own_y11 {c : Int32} (h : 12289 ≤ c.toInt ∧ c.toInt < 55296) : own_s1 c = 1 := by
  rw [own_e1, if_neg (by omega), own_e2, if_neg (by omega), own_e3, if_neg (by omega), own_e4, if_neg (by omega), own_e5, if_neg (by omega), own_e6, if_neg (by omega), own_e7, if_neg (by omega), own_e8, if_neg (by omega), own_e9, if_neg (by omega), own_e10, if_neg (by omega), own_e11, if_neg (by omega), own_e12, if_pos (by omega)]
theorem own_y12 {c : Int32} (h : 63744 ≤ c.toInt ∧ c.toInt < 64976) : own_s1 c = 1 := by
  rw [own_e1, if_neg (by omega), own_e2, if_neg (by omega), own_e3, if_neg (by omega), own_e4, if_neg (by omega), own_e5, if_neg (by omega), own_e6, if_neg (by omega), own_e7, if_neg (by omega), own_e8, if_neg (by omega), own_e9, if_neg (by omega), own_e10, if_neg (by omega), own_e11, if_neg (by omega), own_e12, if_neg (by omega), own_e13, if_pos (by omega)]
theorem own_y13 {c : Int32} (h : 65008 ≤ c.toInt ∧ c.toInt < 65534) : own_s1 c = 1 := by
  rw [own_e1, if_neg (by omega), own_e2, if_neg (by omega), own_e3, if_neg (by omega), own_e4, if_neg (by omega), own_e5, if_neg (by omega), own_e6, if_neg (by omega), own_e7, if_neg (by omega), own_e8, if_neg (by omega), own_e9, if_neg (by omega), own_e10, if_neg (by omega), own_e11, if_neg (by omega), own_e12, if_neg (by omega), own_e13, if_neg (by omega), own_e14, if_pos (by omega)]
theorem own_y14 {c : Int32} (h : 65536 ≤ c.toInt ∧ c.toInt < 983040) : own_s1 c = 1 := by
  rw [own_e1, if_neg (by omega), own_e2, if_neg (by omega), own_e3, if_neg (by omega), own_e4, if_neg (by omega), own_e5, if_neg (by omega), own_e6, if_neg (by omega), own_e7, if_neg (by omega), own_e8, if_neg (by omega), own_e9, if_neg (by omega), own_e10, if_neg (by omega), own_e11, if_neg (by omega), own_e12, if_neg (by omega), own_e13, if_neg (by omega), own_e14, if_neg (by omega), own_e15, if_pos (by omega)]
theorem own_n0 {c : Int32} (h : c.toInt ≤ 64) : own_s1 c = 0 := by
  rw [own_e1, if_neg (by omega), own_e2, if_neg (by omega), own_e3, if_neg (by omega), own_e4, if_neg (by omega), own_e5, if_neg (by omega), own_e6, if_neg (by omega), own_e7, if_neg (by omega), own_e8, if_neg (by omega), own_e9, if_neg (by omega), own_e10, if_neg (by omega), own_e11, if_neg (by omega), own_e12, if_neg (by omega), own_e13, if_neg (by omega), own_e14, if_neg (by omega), own_e15, if_neg (by omega)]
theorem own_n1 {c : Int32} (h : 91 ≤ c.toInt ∧ c.toInt < 95) : own_s1 c = 0 := by
  rw [own_e1, if_neg (by omega), own_e2, if_neg (by omega), own_e3, if_neg (by omega), own_e4, if_neg (by omega), own_e5, if_neg (by omega), own_e6, if_neg (by omega), own_e7, if_neg (by omega), own_e8, if_neg (by omega), own_e9, if_neg (by omega), own_e10, if_neg (by omega), own_e11, if_neg (by omega), own_e12, if_neg (by omega), own_e13, if_neg (by omega), own_e14, if_neg (by omega), own_e15, if_neg (by omega)]
theorem own_n2 {c : Int32} (h : 96 ≤ c.toInt ∧ c.toInt < 97) : own_s1 c = 0 := by
  rw [own_e1, if_neg (by omega), own_e2, if_neg (by omega), own_e3, if_neg (by omega), own_e4, if_neg (by omega), own_e5, if_neg (by omega), own_e6, if_neg (by omega), own_e7, if_neg (by omega), own_e8, if_neg (by omega), own_e9, if_neg (by omega), own_e10, if_neg (by omega), own_e11, if_neg (by omega), own_e12, if_neg (by omega), own_e13, if_neg (by omega), own_e14, if_neg (by omega), own_e15, if_neg (by omega)]
theorem own_n3 {c : Int32} (h : 123 ≤ c.toInt ∧ c.toInt < 192) : own_s1 c = 0 := by
  rw [own_e1, if_neg (by omega), own_e2, if_neg (by omega), own_e3, if_neg (by omega), own_e4, if_neg (by omega), own_e5, if_neg (by omega), own_e6, if_neg (by omega), own_e7, if_neg (by omega), own_e8, if_neg (by omega), own_e9, if_neg (by omega), own_e10, if_neg (by omega), own_e11, if_neg (by omega), own_e12, if_neg (by omega), own_e13, if_neg (by omega), own_e14, if_neg (by omega), own_e15, if_neg (by omega)]
theorem own_n4 {c : Int32} (h : 215 ≤ c.toInt ∧ c.toInt < 216) : own_s1 c = 0 := by
  rw [own_e1, if_neg (by omega), own_e2, if_neg (by omega), own_e3, if_neg (by omega), own_e4, if_neg (by omega), own_e5, if_neg (by omega), own_e6, if_neg (by omega), own_e7, if_neg (by omega), own_e8, if_neg (by omega), own_e9, if_neg (by omega), own_e10, if_neg (by omega), own_e11, if_neg (by omega), own_e12, if_neg (by omega), own_e13, if_neg (by omega), own_e14, if_neg (by omega), own_e15, if_neg (by omega)]
theorem own_n5 {c : Int32} (h : 247 ≤ c.toInt ∧ c.toInt < 248) : own_s1 c = 0 := by
  rw [own_e1, if_neg (by omega), own_e2, if_neg (by omega), own_e3, if_neg (by omega), own_e4, if_neg (by omega), own_e5, if_neg (by omega), own_e6, if_neg (by omega), own_e7, if_neg (by omega), own_e8, if_neg (by omega), own_e9, if_neg (by omega), own_e10, if_neg (by omega), own_e11, if_neg (by omega), own_e12, if_neg (by omega), own_e13, if_neg (by omega), own_e14, if_neg (by omega), own_e15, if_neg (by omega)]
theorem own_n6 {c : Int32} (h : 768 ≤ c.toInt ∧ c.toInt < 880) : own_s1 c = 0 := by
  rw [own_e1, if_neg (by omega), own_e2, if_neg (by omega), own_e3, if_neg (by omega), own_e4, if_neg (by omega), own_e5, if_neg (by omega), own_e6, if_neg (by omega), own_e7, if_neg (by omega), own_e8, if_neg (by omega), own_e9, if_neg (by omega), own_e10, if_neg (by omega), own_e11, if_neg (by omega), own_e12, if_neg (by omega), own_e13, if_neg (by omega), own_e14, if_neg (by omega), own_e15, if_neg (by omega)]
theorem own_n7 {c : Int32} (h : 894 ≤ c.toInt ∧ c.toInt < 895) : own_s1 c = 0 := by
  rw [own_e1, if_neg (by omega), own_e2, if_neg (by omega), own_e3, if_neg (by omega), own_e4, if_neg (by omega), own_e5, if_neg (by omega), own_e6, if_neg (by omega), own_e7, if_neg (by omega), own_e8, if_neg (by omega), own_e9, if_neg (by omega), own_e10, if_neg (by omega), own_e11, if_neg (by omega), own_e12, if_neg (by omega), own_e13, if_neg (by omega), own_e14, if_neg (by omega), own_e15, if_neg (by omega)]
theorem own_n8 {c : Int32} (h : 8192 ≤ c.toInt ∧ c.toInt < 8204) : own_s1 c = 0 := by
  rw [own_e1, if_neg (by omega), own_e2, if_neg (by omega), own_e3, if_neg (by omega), own_e4, if_neg (by omega), own_e5, if_neg (by omega), own_e6, if_neg (by omega), own_e7, if_neg (by omega), own_e8, if_neg (by omega), own_e9, if_neg (by omega), own_e10, if_neg (by omega), own_e11, if_neg (by omega), own_e12, if_neg (by omega), own_e13, if_neg (by omega), own_e14, if_neg (by omega), own_e15, if_neg (by omega)]
theorem own_n9 {c : Int32} (h : 8206 ≤ c.toInt ∧ c.toInt < 8304) : own_s1 c = 0 := by
  rw [own_e1, if_neg (by omega), own_e2, if_neg (by omega), own_e3, if_neg (by omega), own_e4, if_neg (by omega), own_e5, if_neg (by omega), own_e6, if_neg (by omega), own_e7, if_neg (by omega), own_e8, if_neg (by omega), own_e9, if_neg (by omega), own_e10, if_neg (by omega), own_e11, if_neg (by omega), own_e12, if_neg (by omega), own_e13, if_neg (by omega), own_e14, if_neg (by omega), own_e15, if_neg (by omega)]
theorem own_n10 {c : Int32} (h : 8592 ≤ c.toInt ∧ c.toInt < 11264) : own_s1 c = 0 := by
  rw [own_e1, if_neg (by omega), own_e2, if_neg (by omega), own_e3, if_neg (by omega), own_e4, if_neg (by omega), own_e5, if_neg (by omega), own_e6, if_neg (by omega), own_e7, if_neg (by omega), own_e8, if_neg (by omega), own_e9, if_neg (by omega), own_e10, if_neg (by omega), own_e11, if_neg (by omega), own_e12, if_neg (by omega), own_e13, if_neg (by omega), own_e14, if_neg (by omega), own_e15, if_neg (by omega)]
theorem own_n11 {c : Int32} (h : 12272 ≤ c.toInt ∧ c.toInt < 12289) : own_s1 c = 0 := by
  rw [own_e1, if_neg (by omega), own_e2, if_neg (by omega), own_e3, if_neg (by omega), own_e4, if_neg (by omega), own_e5, if_neg (by omega), own_e6, if_neg (by omega), own_e7, if_neg (by omega), own_e8, if_neg (by omega), own_e9, if_neg (by omega), own_e10, if_neg (by omega), own_e11, if_neg (by omega), own_e12, if_neg (by omega), own_e13, if_neg (by omega), own_e14, if_neg (by omega), own_e15, if_neg (by omega)]
theorem own_n12 {c : Int32} (h : 55296 ≤ c.toInt ∧ c.toInt < 63744) : own_s1 c = 0 := by
  rw [own_e1, if_neg (by omega), own_e2, if_neg (by omega), own_e3, if_neg (by omega), own_e4, if_neg (by omega), own_e5, if_neg (by omega), own_e6, if_neg (by omega), own_e7, if_neg (by omega), own_e8, if_neg (by omega), own_e9, if_neg (by omega), own_e10, if_neg (by omega), own_e11, if_neg (by omega), own_e12, if_neg (by omega), own_e13, if_neg (by omega), own_e14, if_neg (by omega), own_e15, if_neg (by omega)]
theorem own_n13 {c : Int32} (h : 64976 ≤ c.toInt ∧ c.toInt < 65008) : own_s1 c = 0 := by
  rw [own_e1, if_neg (by omega), own_e2, if_neg (by omega), own_e3, if_neg (by omega), own_e4, if_neg (by omega), own_e5, if_neg (by omega), own_e6, if_neg (by omega), own_e7, if_neg (by omega), own_e8, if_neg (by omega), own_e9, if_neg (by omega), own_e10, if_neg (by omega), own_e11, if_neg (by omega), own_e12, if_neg (by omega), own_e13, if_neg (by omega), own_e14, if_neg (by omega), own_e15, if_neg (by omega)]
theorem own_n14 {c : Int32} (h : 65534 ≤ c.toInt ∧ c.toInt < 65536) : own_s1 c = 0 := by
  rw [own_e1, if_neg (by omega), own_e2, if_neg (by omega), own_e3, if_neg (by omega), own_e4, if_neg (by omega), own_e5, if_neg (by omega), own_e6, if_neg (by omega), own_e7, if_neg (by omega), own_e8, if_neg (by omega), own_e9, if_neg (by omega), own_e10, if_neg (by omega), own_e11, if_neg (by omega), own_e12, if_neg (by omega), own_e13, if_neg (by omega), own_e14, if_neg (by omega), own_e15, if_neg (by omega)]
theorem own_n15 {c : Int32} (h : 983040 ≤ c.toInt) : own_s1 c = 0 := by
  rw [own_e1, if_neg (by omega), own_e2, if_neg (by omega), own_e3, if_neg (by omega), own_e4, if_neg (by omega), own_e5, if_neg (by omega), own_e6, if_neg (by omega), own_e7, if_neg (by omega), own_e8, if_neg (by omega), own_e9, if_neg (by omega), own_e10, if_neg (by omega), own_e11, if_neg (by omega), own_e12, if_neg (by omega), own_e13, if_neg (by omega), own_e14, if_neg (by omega), own_e15, if_neg (by omega)]
def own_lo (k : Int32) : Int32 := if k = (0 : Int32) then (65 : Int32) else if k = (1 : Int32) then (95 : Int32) else if k = (2 : Int32) then (97 : Int32) else if k = (3 : Int32) then (192 : Int32) else if k = (4 : Int32) then (216 : Int32) else if k = (5 : Int32) then (248 : Int32) else if k = (6 : Int32) then (880 : Int32) else if k = (7 : Int32) then (895 : Int32) else if k = (8 : Int32) then (8204 : Int32) else if k = (9 : Int32) then (8304 : Int32) else if k = (10 : Int32) then (11264 : Int32) else if k = (11 : Int32) then (12289 : Int32) else if k = (12 : Int32) then (63744 : Int32) else if k = (13 : Int32) then (65008 : Int32) else if k = (14 : Int32) then (65536 : Int32) else (0 : Int32)
def own_hi (k : Int32) : Int32 := if k = (0 : Int32) then (90 : Int32) else if k = (1 : Int32) then (95 : Int32) else if k = (2 : Int32) then (122 : Int32) else if k = (3 : Int32) then (214 : Int32) else if k = (4 : Int32) then (246 : Int32) else if k = (5 : Int32) then (767 : Int32) else if k = (6 : Int32) then (893 : Int32) else if k = (7 : Int32) then (8191 : Int32) else if k = (8 : Int32) then (8205 : Int32) else if k = (9 : Int32) then (8591 : Int32) else if k = (10 : Int32) then (12271 : Int32) else if k = (11 : Int32) then (55295 : Int32) else if k = (12 : Int32) then (64975 : Int32) else if k = (13 : Int32) then (65533 : Int32) else if k = (14 : Int32) then (983039 : Int32) else (0 : Int32)
def own_in (k : Int32) : Prop := k = (0 : Int32) ∨ k = (1 : Int32) ∨ k = (2 : Int32) ∨ k = (3 : Int32) ∨ k = (4 : Int32) ∨ k = (5 : Int32) ∨ k = (6 : Int32) ∨ k = (7 : Int32) ∨ k = (8 : Int32) ∨ k = (9 : Int32) ∨ k = (10 : Int32) ∨ k = (11 : Int32) ∨ k = (12 : Int32) ∨ k = (13 : Int32) ∨ k = (14 : Int32)
def own_gap (k : Int32) : Prop := k = (1 : Int32) ∨ k = (2 : Int32) ∨ k = (3 : Int32) ∨ k = (4 : Int32) ∨ k = (5 : Int32) ∨ k = (6 : Int32) ∨ k = (7 : Int32) ∨ k = (8 : Int32) ∨ k = (9 : Int32) ∨ k = (10 : Int32) ∨ k = (11 : Int32) ∨ k = (12 : Int32) ∨ k = (13 : Int32) ∨ k = (14 : Int32)
theorem own_inb {k : Int32} (h : own_in k) : ¬ k < (0 : Int32) ∧ k < (15 : Int32) := by
  rcases h with rfl | rfl | rfl | rfl | rfl | rfl | rfl | rfl | rfl | rfl | rfl | rfl | rfl | rfl | rfl <;> decide
theorem own_loat {k : Int32} (h : own_in k) : ([(.int (65 : Int32)), (.int (95 : Int32)), (.int (97 : Int32)), (.int (192 : Int32)), (.int (216 : Int32)), (.int (248 : Int32)), (.int (880 : Int32)), (.int (895 : Int32)), (.int (8204 : Int32)), (.int (8304 : Int32)), (.int (11264 : Int32)), (.int (12289 : Int32)), (.int (63744 : Int32)), (.int (65008 : Int32)), (.int (65536 : Int32))] : List Value).getD k.toNatClampNeg (.int (0 : Int32)) = .int (own_lo k) := by
  rcases h with rfl | rfl | rfl | rfl | rfl | rfl | rfl | rfl | rfl | rfl | rfl | rfl | rfl | rfl | rfl <;> rfl
theorem own_hiat {k : Int32} (h : own_in k) : ([(.int (90 : Int32)), (.int (95 : Int32)), (.int (122 : Int32)), (.int (214 : Int32)), (.int (246 : Int32)), (.int (767 : Int32)), (.int (893 : Int32)), (.int (8191 : Int32)), (.int (8205 : Int32)), (.int (8591 : Int32)), (.int (12271 : Int32)), (.int (55295 : Int32)), (.int (64975 : Int32)), (.int (65533 : Int32)), (.int (983039 : Int32))] : List Value).getD k.toNatClampNeg (.int (0 : Int32)) = .int (own_hi k) := by
  rcases h with rfl | rfl | rfl | rfl | rfl | rfl | rfl | rfl | rfl | rfl | rfl | rfl | rfl | rfl | rfl <;> rfl
theorem own_gin {k : Int32} (h : own_gap k) : own_in k := by
  rcases h with rfl | rfl | rfl | rfl | rfl | rfl | rfl | rfl | rfl | rfl | rfl | rfl | rfl | rfl <;> (unfold own_in; decide)
theorem own_gin1 {k : Int32} (h : own_gap k) : own_in (k - (1 : Int32)) := by
  rcases h with rfl | rfl | rfl | rfl | rfl | rfl | rfl | rfl | rfl | rfl | rfl | rfl | rfl | rfl <;> (unfold own_in; decide)
theorem own_g0 {k : Int32} (h : own_gap k) : ¬ k = (0 : Int32) ∧ ¬ k = (15 : Int32) := by
  rcases h with rfl | rfl | rfl | rfl | rfl | rfl | rfl | rfl | rfl | rfl | rfl | rfl | rfl | rfl <;> decide
theorem own_nz {k : Int32} (h : own_in k) : ((own_hi k - own_lo k) + (1 : Int32)) ≠ 0 := by
  rcases h with rfl | rfl | rfl | rfl | rfl | rfl | rfl | rfl | rfl | rfl | rfl | rfl | rfl | rfl | rfl <;> decide
theorem own_gnz {k : Int32} (h : own_gap k) : (((own_lo k - (1 : Int32)) - (own_hi (k - (1 : Int32)) + (1 : Int32))) + (1 : Int32)) ≠ 0 := by
  rcases h with rfl | rfl | rfl | rfl | rfl | rfl | rfl | rfl | rfl | rfl | rfl | rfl | rfl | rfl <;> decide
theorem own_yes {k : Int32} (x : Int32) (h : own_in k) : own_s1 (own_lo k + ((x &&& (2147483647 : Int32)) % ((own_hi k - own_lo k) + (1 : Int32)))) = (1 : Int32) := by
  rcases h with rfl | rfl | rfl | rfl | rfl | rfl | rfl | rfl | rfl | rfl | rfl | rfl | rfl | rfl | rfl
  · exact own_y0 (own_c x (L := 65) (N := 26) (by decide) (by decide) (by decide) (by decide) (by decide))
  · exact own_y1 (own_c x (L := 95) (N := 1) (by decide) (by decide) (by decide) (by decide) (by decide))
  · exact own_y2 (own_c x (L := 97) (N := 26) (by decide) (by decide) (by decide) (by decide) (by decide))
  · exact own_y3 (own_c x (L := 192) (N := 23) (by decide) (by decide) (by decide) (by decide) (by decide))
  · exact own_y4 (own_c x (L := 216) (N := 31) (by decide) (by decide) (by decide) (by decide) (by decide))
  · exact own_y5 (own_c x (L := 248) (N := 520) (by decide) (by decide) (by decide) (by decide) (by decide))
  · exact own_y6 (own_c x (L := 880) (N := 14) (by decide) (by decide) (by decide) (by decide) (by decide))
  · exact own_y7 (own_c x (L := 895) (N := 7297) (by decide) (by decide) (by decide) (by decide) (by decide))
  · exact own_y8 (own_c x (L := 8204) (N := 2) (by decide) (by decide) (by decide) (by decide) (by decide))
  · exact own_y9 (own_c x (L := 8304) (N := 288) (by decide) (by decide) (by decide) (by decide) (by decide))
  · exact own_y10 (own_c x (L := 11264) (N := 1008) (by decide) (by decide) (by decide) (by decide) (by decide))
  · exact own_y11 (own_c x (L := 12289) (N := 43007) (by decide) (by decide) (by decide) (by decide) (by decide))
  · exact own_y12 (own_c x (L := 63744) (N := 1232) (by decide) (by decide) (by decide) (by decide) (by decide))
  · exact own_y13 (own_c x (L := 65008) (N := 526) (by decide) (by decide) (by decide) (by decide) (by decide))
  · exact own_y14 (own_c x (L := 65536) (N := 917504) (by decide) (by decide) (by decide) (by decide) (by decide))
theorem own_no {k : Int32} (x : Int32) (h : own_gap k) : own_s1 ((own_hi (k - (1 : Int32)) + (1 : Int32)) + ((x &&& (2147483647 : Int32)) % (((own_lo k - (1 : Int32)) - (own_hi (k - (1 : Int32)) + (1 : Int32))) + (1 : Int32)))) = (0 : Int32) := by
  rcases h with rfl | rfl | rfl | rfl | rfl | rfl | rfl | rfl | rfl | rfl | rfl | rfl | rfl | rfl
  · exact own_n1 (own_c x (L := 91) (N := 4) (by decide) (by decide) (by decide) (by decide) (by decide))
  · exact own_n2 (own_c x (L := 96) (N := 1) (by decide) (by decide) (by decide) (by decide) (by decide))
  · exact own_n3 (own_c x (L := 123) (N := 69) (by decide) (by decide) (by decide) (by decide) (by decide))
  · exact own_n4 (own_c x (L := 215) (N := 1) (by decide) (by decide) (by decide) (by decide) (by decide))
  · exact own_n5 (own_c x (L := 247) (N := 1) (by decide) (by decide) (by decide) (by decide) (by decide))
  · exact own_n6 (own_c x (L := 768) (N := 112) (by decide) (by decide) (by decide) (by decide) (by decide))
  · exact own_n7 (own_c x (L := 894) (N := 1) (by decide) (by decide) (by decide) (by decide) (by decide))
  · exact own_n8 (own_c x (L := 8192) (N := 12) (by decide) (by decide) (by decide) (by decide) (by decide))
  · exact own_n9 (own_c x (L := 8206) (N := 98) (by decide) (by decide) (by decide) (by decide) (by decide))
  · exact own_n10 (own_c x (L := 8592) (N := 2672) (by decide) (by decide) (by decide) (by decide) (by decide))
  · exact own_n11 (own_c x (L := 12272) (N := 17) (by decide) (by decide) (by decide) (by decide) (by decide))
  · exact own_n12 (own_c x (L := 55296) (N := 8448) (by decide) (by decide) (by decide) (by decide) (by decide))
  · exact own_n13 (own_c x (L := 64976) (N := 32) (by decide) (by decide) (by decide) (by decide) (by decide))
  · exact own_n14 (own_c x (L := 65534) (N := 2) (by decide) (by decide) (by decide) (by decide) (by decide))
theorem own_cases (k : Int32) : ((k &&& (2147483647 : Int32)) % (31 : Int32)) = (0 : Int32) ∨ ((k &&& (2147483647 : Int32)) % (31 : Int32)) = (1 : Int32) ∨ ((k &&& (2147483647 : Int32)) % (31 : Int32)) = (2 : Int32) ∨ ((k &&& (2147483647 : Int32)) % (31 : Int32)) = (3 : Int32) ∨ ((k &&& (2147483647 : Int32)) % (31 : Int32)) = (4 : Int32) ∨ ((k &&& (2147483647 : Int32)) % (31 : Int32)) = (5 : Int32) ∨ ((k &&& (2147483647 : Int32)) % (31 : Int32)) = (6 : Int32) ∨ ((k &&& (2147483647 : Int32)) % (31 : Int32)) = (7 : Int32) ∨ ((k &&& (2147483647 : Int32)) % (31 : Int32)) = (8 : Int32) ∨ ((k &&& (2147483647 : Int32)) % (31 : Int32)) = (9 : Int32) ∨ ((k &&& (2147483647 : Int32)) % (31 : Int32)) = (10 : Int32) ∨ ((k &&& (2147483647 : Int32)) % (31 : Int32)) = (11 : Int32) ∨ ((k &&& (2147483647 : Int32)) % (31 : Int32)) = (12 : Int32) ∨ ((k &&& (2147483647 : Int32)) % (31 : Int32)) = (13 : Int32) ∨ ((k &&& (2147483647 : Int32)) % (31 : Int32)) = (14 : Int32) ∨ ((k &&& (2147483647 : Int32)) % (31 : Int32)) = (15 : Int32) ∨ ((k &&& (2147483647 : Int32)) % (31 : Int32)) = (16 : Int32) ∨ ((k &&& (2147483647 : Int32)) % (31 : Int32)) = (17 : Int32) ∨ ((k &&& (2147483647 : Int32)) % (31 : Int32)) = (18 : Int32) ∨ ((k &&& (2147483647 : Int32)) % (31 : Int32)) = (19 : Int32) ∨ ((k &&& (2147483647 : Int32)) % (31 : Int32)) = (20 : Int32) ∨ ((k &&& (2147483647 : Int32)) % (31 : Int32)) = (21 : Int32) ∨ ((k &&& (2147483647 : Int32)) % (31 : Int32)) = (22 : Int32) ∨ ((k &&& (2147483647 : Int32)) % (31 : Int32)) = (23 : Int32) ∨ ((k &&& (2147483647 : Int32)) % (31 : Int32)) = (24 : Int32) ∨ ((k &&& (2147483647 : Int32)) % (31 : Int32)) = (25 : Int32) ∨ ((k &&& (2147483647 : Int32)) % (31 : Int32)) = (26 : Int32) ∨ ((k &&& (2147483647 : Int32)) % (31 : Int32)) = (27 : Int32) ∨ ((k &&& (2147483647 : Int32)) % (31 : Int32)) = (28 : Int32) ∨ ((k &&& (2147483647 : Int32)) % (31 : Int32)) = (29 : Int32) ∨ ((k &&& (2147483647 : Int32)) % (31 : Int32)) = (30 : Int32) := by
  have e1 := c_mask k (2147483647 : Int32) 31 (by decide) (by decide)
  have e2 := (c_irem (k &&& (2147483647 : Int32)) (31 : Int32) 31 (by decide)).1 (by omega)
  generalize (k &&& (2147483647 : Int32)) % (31 : Int32) = z at *
  have h : z.toInt = 0 ∨ z.toInt = 1 ∨ z.toInt = 2 ∨ z.toInt = 3 ∨ z.toInt = 4 ∨ z.toInt = 5 ∨ z.toInt = 6 ∨ z.toInt = 7 ∨ z.toInt = 8 ∨ z.toInt = 9 ∨ z.toInt = 10 ∨ z.toInt = 11 ∨ z.toInt = 12 ∨ z.toInt = 13 ∨ z.toInt = 14 ∨ z.toInt = 15 ∨ z.toInt = 16 ∨ z.toInt = 17 ∨ z.toInt = 18 ∨ z.toInt = 19 ∨ z.toInt = 20 ∨ z.toInt = 21 ∨ z.toInt = 22 ∨ z.toInt = 23 ∨ z.toInt = 24 ∨ z.toInt = 25 ∨ z.toInt = 26 ∨ z.toInt = 27 ∨ z.toInt = 28 ∨ z.toInt = 29 ∨ z.toInt = 30 := by omega
  rcases h with h | h | h | h | h | h | h | h | h | h | h | h | h | h | h | h | h | h | h | h | h | h | h | h | h | h | h | h | h | h | h
  · exact Or.inl (Int32.toInt_inj.mp (h.trans (by decide : (0 : Int) = (0 : Int32).toInt)))
  · exact Or.inr (Or.inl (Int32.toInt_inj.mp (h.trans (by decide : (1 : Int) = (1 : Int32).toInt))))
  · exact Or.inr (Or.inr (Or.inl (Int32.toInt_inj.mp (h.trans (by decide : (2 : Int) = (2 : Int32).toInt)))))
  · exact Or.inr (Or.inr (Or.inr (Or.inl (Int32.toInt_inj.mp (h.trans (by decide : (3 : Int) = (3 : Int32).toInt))))))
  · exact Or.inr (Or.inr (Or.inr (Or.inr (Or.inl (Int32.toInt_inj.mp (h.trans (by decide : (4 : Int) = (4 : Int32).toInt)))))))
  · exact Or.inr (Or.inr (Or.inr (Or.inr (Or.inr (Or.inl (Int32.toInt_inj.mp (h.trans (by decide : (5 : Int) = (5 : Int32).toInt))))))))
  · exact Or.inr (Or.inr (Or.inr (Or.inr (Or.inr (Or.inr (Or.inl (Int32.toInt_inj.mp (h.trans (by decide : (6 : Int) = (6 : Int32).toInt)))))))))
  · exact Or.inr (Or.inr (Or.inr (Or.inr (Or.inr (Or.inr (Or.inr (Or.inl (Int32.toInt_inj.mp (h.trans (by decide : (7 : Int) = (7 : Int32).toInt))))))))))
  · exact Or.inr (Or.inr (Or.inr (Or.inr (Or.inr (Or.inr (Or.inr (Or.inr (Or.inl (Int32.toInt_inj.mp (h.trans (by decide : (8 : Int) = (8 : Int32).toInt)))))))))))
  · exact Or.inr (Or.inr (Or.inr (Or.inr (Or.inr (Or.inr (Or.inr (Or.inr (Or.inr (Or.inl (Int32.toInt_inj.mp (h.trans (by decide : (9 : Int) = (9 : Int32).toInt))))))))))))
  · exact Or.inr (Or.inr (Or.inr (Or.inr (Or.inr (Or.inr (Or.inr (Or.inr (Or.inr (Or.inr (Or.inl (Int32.toInt_inj.mp (h.trans (by decide : (10 : Int) = (10 : Int32).toInt)))))))))))))
  · exact Or.inr (Or.inr (Or.inr (Or.inr (Or.inr (Or.inr (Or.inr (Or.inr (Or.inr (Or.inr (Or.inr (Or.inl (Int32.toInt_inj.mp (h.trans (by decide : (11 : Int) = (11 : Int32).toInt))))))))))))))
  · exact Or.inr (Or.inr (Or.inr (Or.inr (Or.inr (Or.inr (Or.inr (Or.inr (Or.inr (Or.inr (Or.inr (Or.inr (Or.inl (Int32.toInt_inj.mp (h.trans (by decide : (12 : Int) = (12 : Int32).toInt)))))))))))))))
  · exact Or.inr (Or.inr (Or.inr (Or.inr (Or.inr (Or.inr (Or.inr (Or.inr (Or.inr (Or.inr (Or.inr (Or.inr (Or.inr (Or.inl (Int32.toInt_inj.mp (h.trans (by decide : (13 : Int) = (13 : Int32).toInt))))))))))))))))
  · exact Or.inr (Or.inr (Or.inr (Or.inr (Or.inr (Or.inr (Or.inr (Or.inr (Or.inr (Or.inr (Or.inr (Or.inr (Or.inr (Or.inr (Or.inl (Int32.toInt_inj.mp (h.trans (by decide : (14 : Int) = (14 : Int32).toInt)))))))))))))))))
  · exact Or.inr (Or.inr (Or.inr (Or.inr (Or.inr (Or.inr (Or.inr (Or.inr (Or.inr (Or.inr (Or.inr (Or.inr (Or.inr (Or.inr (Or.inr (Or.inl (Int32.toInt_inj.mp (h.trans (by decide : (15 : Int) = (15 : Int32).toInt))))))))))))))))))
  · exact Or.inr (Or.inr (Or.inr (Or.inr (Or.inr (Or.inr (Or.inr (Or.inr (Or.inr (Or.inr (Or.inr (Or.inr (Or.inr (Or.inr (Or.inr (Or.inr (Or.inl (Int32.toInt_inj.mp (h.trans (by decide : (16 : Int) = (16 : Int32).toInt)))))))))))))))))))
  · exact Or.inr (Or.inr (Or.inr (Or.inr (Or.inr (Or.inr (Or.inr (Or.inr (Or.inr (Or.inr (Or.inr (Or.inr (Or.inr (Or.inr (Or.inr (Or.inr (Or.inr (Or.inl (Int32.toInt_inj.mp (h.trans (by decide : (17 : Int) = (17 : Int32).toInt))))))))))))))))))))
  · exact Or.inr (Or.inr (Or.inr (Or.inr (Or.inr (Or.inr (Or.inr (Or.inr (Or.inr (Or.inr (Or.inr (Or.inr (Or.inr (Or.inr (Or.inr (Or.inr (Or.inr (Or.inr (Or.inl (Int32.toInt_inj.mp (h.trans (by decide : (18 : Int) = (18 : Int32).toInt)))))))))))))))))))))
  · exact Or.inr (Or.inr (Or.inr (Or.inr (Or.inr (Or.inr (Or.inr (Or.inr (Or.inr (Or.inr (Or.inr (Or.inr (Or.inr (Or.inr (Or.inr (Or.inr (Or.inr (Or.inr (Or.inr (Or.inl (Int32.toInt_inj.mp (h.trans (by decide : (19 : Int) = (19 : Int32).toInt))))))))))))))))))))))
  · exact Or.inr (Or.inr (Or.inr (Or.inr (Or.inr (Or.inr (Or.inr (Or.inr (Or.inr (Or.inr (Or.inr (Or.inr (Or.inr (Or.inr (Or.inr (Or.inr (Or.inr (Or.inr (Or.inr (Or.inr (Or.inl (Int32.toInt_inj.mp (h.trans (by decide : (20 : Int) = (20 : Int32).toInt)))))))))))))))))))))))
  · exact Or.inr (Or.inr (Or.inr (Or.inr (Or.inr (Or.inr (Or.inr (Or.inr (Or.inr (Or.inr (Or.inr (Or.inr (Or.inr (Or.inr (Or.inr (Or.inr (Or.inr (Or.inr (Or.inr (Or.inr (Or.inr (Or.inl (Int32.toInt_inj.mp (h.trans (by decide : (21 : Int) = (21 : Int32).toInt))))))))))))))))))))))))
  · exact Or.inr (Or.inr (Or.inr (Or.inr (Or.inr (Or.inr (Or.inr (Or.inr (Or.inr (Or.inr (Or.inr (Or.inr (Or.inr (Or.inr (Or.inr (Or.inr (Or.inr (Or.inr (Or.inr (Or.inr (Or.inr (Or.inr (Or.inl (Int32.toInt_inj.mp (h.trans (by decide : (22 : Int) = (22 : Int32).toInt)))))))))))))))))))))))))
  · exact Or.inr (Or.inr (Or.inr (Or.inr (Or.inr (Or.inr (Or.inr (Or.inr (Or.inr (Or.inr (Or.inr (Or.inr (Or.inr (Or.inr (Or.inr (Or.inr (Or.inr (Or.inr (Or.inr (Or.inr (Or.inr (Or.inr (Or.inr (Or.inl (Int32.toInt_inj.mp (h.trans (by decide : (23 : Int) = (23 : Int32).toInt))))))))))))))))))))))))))
  · exact Or.inr (Or.inr (Or.inr (Or.inr (Or.inr (Or.inr (Or.inr (Or.inr (Or.inr (Or.inr (Or.inr (Or.inr (Or.inr (Or.inr (Or.inr (Or.inr (Or.inr (Or.inr (Or.inr (Or.inr (Or.inr (Or.inr (Or.inr (Or.inr (Or.inl (Int32.toInt_inj.mp (h.trans (by decide : (24 : Int) = (24 : Int32).toInt)))))))))))))))))))))))))))
  · exact Or.inr (Or.inr (Or.inr (Or.inr (Or.inr (Or.inr (Or.inr (Or.inr (Or.inr (Or.inr (Or.inr (Or.inr (Or.inr (Or.inr (Or.inr (Or.inr (Or.inr (Or.inr (Or.inr (Or.inr (Or.inr (Or.inr (Or.inr (Or.inr (Or.inr (Or.inl (Int32.toInt_inj.mp (h.trans (by decide : (25 : Int) = (25 : Int32).toInt))))))))))))))))))))))))))))
  · exact Or.inr (Or.inr (Or.inr (Or.inr (Or.inr (Or.inr (Or.inr (Or.inr (Or.inr (Or.inr (Or.inr (Or.inr (Or.inr (Or.inr (Or.inr (Or.inr (Or.inr (Or.inr (Or.inr (Or.inr (Or.inr (Or.inr (Or.inr (Or.inr (Or.inr (Or.inr (Or.inl (Int32.toInt_inj.mp (h.trans (by decide : (26 : Int) = (26 : Int32).toInt)))))))))))))))))))))))))))))
  · exact Or.inr (Or.inr (Or.inr (Or.inr (Or.inr (Or.inr (Or.inr (Or.inr (Or.inr (Or.inr (Or.inr (Or.inr (Or.inr (Or.inr (Or.inr (Or.inr (Or.inr (Or.inr (Or.inr (Or.inr (Or.inr (Or.inr (Or.inr (Or.inr (Or.inr (Or.inr (Or.inr (Or.inl (Int32.toInt_inj.mp (h.trans (by decide : (27 : Int) = (27 : Int32).toInt))))))))))))))))))))))))))))))
  · exact Or.inr (Or.inr (Or.inr (Or.inr (Or.inr (Or.inr (Or.inr (Or.inr (Or.inr (Or.inr (Or.inr (Or.inr (Or.inr (Or.inr (Or.inr (Or.inr (Or.inr (Or.inr (Or.inr (Or.inr (Or.inr (Or.inr (Or.inr (Or.inr (Or.inr (Or.inr (Or.inr (Or.inr (Or.inl (Int32.toInt_inj.mp (h.trans (by decide : (28 : Int) = (28 : Int32).toInt)))))))))))))))))))))))))))))))
  · exact Or.inr (Or.inr (Or.inr (Or.inr (Or.inr (Or.inr (Or.inr (Or.inr (Or.inr (Or.inr (Or.inr (Or.inr (Or.inr (Or.inr (Or.inr (Or.inr (Or.inr (Or.inr (Or.inr (Or.inr (Or.inr (Or.inr (Or.inr (Or.inr (Or.inr (Or.inr (Or.inr (Or.inr (Or.inr (Or.inl (Int32.toInt_inj.mp (h.trans (by decide : (29 : Int) = (29 : Int32).toInt))))))))))))))))))))))))))))))))
  · exact Or.inr (Or.inr (Or.inr (Or.inr (Or.inr (Or.inr (Or.inr (Or.inr (Or.inr (Or.inr (Or.inr (Or.inr (Or.inr (Or.inr (Or.inr (Or.inr (Or.inr (Or.inr (Or.inr (Or.inr (Or.inr (Or.inr (Or.inr (Or.inr (Or.inr (Or.inr (Or.inr (Or.inr (Or.inr (Or.inr ((Int32.toInt_inj.mp (h.trans (by decide : (30 : Int) = (30 : Int32).toInt)))))))))))))))))))))))))))))))))
theorem own_four (p : Int32) : ∃ z, z = ((p &&& (2147483647 : Int32)) % (31 : Int32)) ∧ ((own_in z ∧ z < (15 : Int32)) ∨ z = (15 : Int32) ∨ z = (30 : Int32) ∨ (¬ z < (15 : Int32) ∧ own_gap (z - (15 : Int32)))) := by
  refine ⟨_, rfl, ?_⟩
  rcases own_cases p with h | h | h | h | h | h | h | h | h | h | h | h | h | h | h | h | h | h | h | h | h | h | h | h | h | h | h | h | h | h | h <;> rw [h] <;> (unfold own_in own_gap; decide)
def Q0 (Z : State) (p1 p2 : Int32) (h0 : Heap) (n0 : Nat) (v : Option Value) (h : Heap) (L : List Loc) : Prop := v = some (.int 1) ∧ Fr n0 L
theorem pn_0 : plainName "org/beanpath/model/PathSyntaxIsNameStartPinLaw" = true := by first | (simp [plainName, overriddenIn]; done) | decide +kernel
theorem ef_rm0 (m : MethodId) (x0 : Int32) (x1 : Int32) : entryFrame m #[(.int x0), (.int x1)] maxLocals = mkF m 0 #[.val (.int x0), .val (.int x1), .unset, .unset, .unset, .unset, .unset, .unset, .unset, .unset] [] := by first | (simp [entryFrame, mkF, argsToLocals, Value.category, maxLocals]; done) | rfl
set_option maxRecDepth 65536 in
set_option maxHeartbeats 40000000 in
theorem rm0 (l : Launch) (Z : State) (a0 : Array Value) (hw : ∀ d ∈ tables_1, d.before a0 Z = true) (ws : List Jvm.Cond) (p1 : Int32) (p2 : Int32) (h0 : Heap) (n0 : Nat) (Z0 : n0 ≤ h0.size)  :
    MetFree l x (head1 (Jvm.Cond.code x code maxLocals ret :: ws) room_1) (fun a U => a = #[(.int p1), (.int p2)] ∧ Z.Warmed39 U.vm ∧ U.heap = h0) (fun _ _ _ _ _ => True) (fun _ U o U' => ∃ v L, o = .returned v ∧ Q0 Z p1 p2  h0 n0 v U'.heap L ∧ FrameEnd U o U' L 16 128) := by
  refine MetFree.of_bodySF (plainFor_of_name pn_0) hisR ?_
  intro p e s m args below meth c s₁ Bd hml0 hP hK
  obtain ⟨rfl, hZ, hh⟩ := hP
  have hx := Bd.exec
  have hby := Bd.bytes
  have hml : c.maxLocals = 10 := hml0
  have hown : s.vm.findClass "org/beanpath/model/PathSyntaxIsNameStartPinLaw" = some m.cls := findClass_of_methodNamed Bd.named
  have hnm := (name_of_methodNamed Bd.named Bd.method).1
  have X0 : Stand p l e room_1 s m #[(.int p1), (.int p2)] below meth c s₁ [] 0 0 := Stand.of_body Bd
  have e0 : s₁.heap = h0 := by rw [← hh, Bd.state]; rfl
  have N0 := Fr.nil n0
  have pre0 : ∀ t, Steps p.tables e below (s₁.setTop (mkF m 0 #[.val (.int p1), .val (.int p2), .unset, .unset, .unset, .unset, .unset, .unset, .unset, .unset] [])) t → Steps p.tables e below (s₁.setTop (entryFrame m #[(.int p1), (.int p2)] maxLocals)) t := fun t k => castTop (ef_rm0 m p1 p2) k
  have O0 := own_ext_refl h0
  obtain ⟨T1, h1, k1, X1, e1, E1, A1, st1⟩ := newP X0 hx hZ (hw _ (List.mem_of_getElem? (i := 0) rfl)) e0 (g := (mkF m 2 #[.val (.int p1), .val (.int p2), .unset, .unset, .unset, .unset, .unset, .unset, .unset, .unset] [(.int (15 : Int32))])) rfl (hb hby at_2) rfl (by decide) (cap := 15) (by decide) (by decide) (by decide) (by decide)
  obtain ⟨b1, g1⟩ : ∃ z, z = h0.size := ⟨_, rfl⟩
  rw [← g1] at A1 st1
  have z_b1 : h0.size ≤ b1 := Nat.le_trans O0.1 (Nat.le_of_eq g1.symm)
  have g_b1 : n0 ≤ b1 := Nat.le_trans Z0 z_b1
  have O1 := own_ext_trans O0 E1
  have V1 : Arv Z h1 b1 k1 .int (15 : Int32) [(.int (0 : Int32)), (.int (0 : Int32)), (.int (0 : Int32)), (.int (0 : Int32)), (.int (0 : Int32)), (.int (0 : Int32)), (.int (0 : Int32)), (.int (0 : Int32)), (.int (0 : Int32)), (.int (0 : Int32)), (.int (0 : Int32)), (.int (0 : Int32)), (.int (0 : Int32)), (.int (0 : Int32)), (.int (0 : Int32))] (.int (0 : Int32)) := (Arv.new A1 (by decide)).pad (pad_rep [] (.int (0 : Int32)) 15)
  obtain ⟨cl2, Ar2, q2, S2, n2', H2, G2⟩ := id V1
  have hin2 : ¬ ((0 : Int32) < 0 ∨ cl2.slots.size ≤ ((0 : Int32)).toNatClampNeg) := inb_of S2 ⟨by decide, by decide⟩
  obtain ⟨T2, h2, X2, e2, W2, st2⟩ := stI X1 hx hZ e1 Ar2 (j := (0 : Int32)) hin2 (g := (mkF m 8 #[.val (.int p1), .val (.int p2), .unset, .unset, .unset, .unset, .unset, .unset, .unset, .unset] [(.int (65 : Int32)), (.int (0 : Int32)), (.ref b1), (.ref b1)])) rfl rfl (hb hby at_8)
  have V2 : Arv Z h2 b1 k1 .int (15 : Int32) [(.int (65 : Int32)), (.int (0 : Int32)), (.int (0 : Int32)), (.int (0 : Int32)), (.int (0 : Int32)), (.int (0 : Int32)), (.int (0 : Int32)), (.int (0 : Int32)), (.int (0 : Int32)), (.int (0 : Int32)), (.int (0 : Int32)), (.int (0 : Int32)), (.int (0 : Int32)), (.int (0 : Int32)), (.int (0 : Int32))] (.int (0 : Int32)) := Arv.set Ar2 q2 S2 n2' H2 G2 rfl W2 0 rfl (Nat.le_of_ble_eq_true rfl)
  have O2 := own_ext_wr O1 W2 z_b1
  have N2 := Fr.snoc X2 N0 g_b1
  obtain ⟨cl3, Ar3, q3, S3, n3', H3, G3⟩ := id V2
  have hin3 : ¬ ((1 : Int32) < 0 ∨ cl3.slots.size ≤ ((1 : Int32)).toNatClampNeg) := inb_of S3 ⟨by decide, by decide⟩
  obtain ⟨T3, h3, X3, e3, W3, st3⟩ := stI X2 hx hZ e2 Ar3 (j := (1 : Int32)) hin3 (g := (mkF m 13 #[.val (.int p1), .val (.int p2), .unset, .unset, .unset, .unset, .unset, .unset, .unset, .unset] [(.int (95 : Int32)), (.int (1 : Int32)), (.ref b1), (.ref b1)])) rfl rfl (hb hby at_13)
  have V3 : Arv Z h3 b1 k1 .int (15 : Int32) [(.int (65 : Int32)), (.int (95 : Int32)), (.int (0 : Int32)), (.int (0 : Int32)), (.int (0 : Int32)), (.int (0 : Int32)), (.int (0 : Int32)), (.int (0 : Int32)), (.int (0 : Int32)), (.int (0 : Int32)), (.int (0 : Int32)), (.int (0 : Int32)), (.int (0 : Int32)), (.int (0 : Int32)), (.int (0 : Int32))] (.int (0 : Int32)) := Arv.set Ar3 q3 S3 n3' H3 G3 rfl W3 1 rfl (Nat.le_of_ble_eq_true rfl)
  have O3 := own_ext_wr O2 W3 z_b1
  have N3 := Fr.snoc X3 N2 g_b1
  have pre4 : ∀ t, Steps p.tables e below (T3.setTop (mkF m 18 #[.val (.int p1), .val (.int p2), .unset, .unset, .unset, .unset, .unset, .unset, .unset, .unset] [(.int (97 : Int32)), (.int (2 : Int32)), (.ref b1), (.ref b1)])) t → Steps p.tables e below (s₁.setTop (entryFrame m #[(.int p1), (.int p2)] maxLocals)) t := fun t k => pre0 t (by
    show Steps p.tables e below (s₁.setTop (mkF m 0 #[.val (.int p1), .val (.int p2), .unset, .unset, .unset, .unset, .unset, .unset, .unset, .unset] [])) _
    refine XT.bipushV X0.here hx rfl (15 : Int32) (hb hby at_0) (by decide) ?_
    show Steps p.tables e below (s₁.setTop (mkF m 2 #[.val (.int p1), .val (.int p2), .unset, .unset, .unset, .unset, .unset, .unset, .unset, .unset] [(.int (15 : Int32))])) _
    refine st1 _ ?_
    show Steps p.tables e below (T1.setTop (mkF m 4 #[.val (.int p1), .val (.int p2), .unset, .unset, .unset, .unset, .unset, .unset, .unset, .unset] [(.ref b1)])) _
    refine XS.dup X1.here hx rfl (hb hby at_4) rfl rfl ?_
    show Steps p.tables e below (T1.setTop (mkF m 5 #[.val (.int p1), .val (.int p2), .unset, .unset, .unset, .unset, .unset, .unset, .unset, .unset] [(.ref b1), (.ref b1)])) _
    refine XT.iconstV X1.here hx rfl (0 : Int32) (hb hby at_5) (by decide) ?_
    show Steps p.tables e below (T1.setTop (mkF m 6 #[.val (.int p1), .val (.int p2), .unset, .unset, .unset, .unset, .unset, .unset, .unset, .unset] [(.int (0 : Int32)), (.ref b1), (.ref b1)])) _
    refine XT.bipushV X1.here hx rfl (65 : Int32) (hb hby at_6) (by decide) ?_
    show Steps p.tables e below (T1.setTop (mkF m 8 #[.val (.int p1), .val (.int p2), .unset, .unset, .unset, .unset, .unset, .unset, .unset, .unset] [(.int (65 : Int32)), (.int (0 : Int32)), (.ref b1), (.ref b1)])) _
    refine st2 _ ?_
    show Steps p.tables e below (T2.setTop (mkF m 9 #[.val (.int p1), .val (.int p2), .unset, .unset, .unset, .unset, .unset, .unset, .unset, .unset] [(.ref b1)])) _
    refine XS.dup X2.here hx rfl (hb hby at_9) rfl rfl ?_
    show Steps p.tables e below (T2.setTop (mkF m 10 #[.val (.int p1), .val (.int p2), .unset, .unset, .unset, .unset, .unset, .unset, .unset, .unset] [(.ref b1), (.ref b1)])) _
    refine XT.iconstV X2.here hx rfl (1 : Int32) (hb hby at_10) (by decide) ?_
    show Steps p.tables e below (T2.setTop (mkF m 11 #[.val (.int p1), .val (.int p2), .unset, .unset, .unset, .unset, .unset, .unset, .unset, .unset] [(.int (1 : Int32)), (.ref b1), (.ref b1)])) _
    refine XT.bipushV X2.here hx rfl (95 : Int32) (hb hby at_11) (by decide) ?_
    show Steps p.tables e below (T2.setTop (mkF m 13 #[.val (.int p1), .val (.int p2), .unset, .unset, .unset, .unset, .unset, .unset, .unset, .unset] [(.int (95 : Int32)), (.int (1 : Int32)), (.ref b1), (.ref b1)])) _
    refine st3 _ ?_
    show Steps p.tables e below (T3.setTop (mkF m 14 #[.val (.int p1), .val (.int p2), .unset, .unset, .unset, .unset, .unset, .unset, .unset, .unset] [(.ref b1)])) _
    refine XS.dup X3.here hx rfl (hb hby at_14) rfl rfl ?_
    show Steps p.tables e below (T3.setTop (mkF m 15 #[.val (.int p1), .val (.int p2), .unset, .unset, .unset, .unset, .unset, .unset, .unset, .unset] [(.ref b1), (.ref b1)])) _
    refine XT.iconstV X3.here hx rfl (2 : Int32) (hb hby at_15) (by decide) ?_
    show Steps p.tables e below (T3.setTop (mkF m 16 #[.val (.int p1), .val (.int p2), .unset, .unset, .unset, .unset, .unset, .unset, .unset, .unset] [(.int (2 : Int32)), (.ref b1), (.ref b1)])) _
    refine XT.bipushV X3.here hx rfl (97 : Int32) (hb hby at_16) (by decide) ?_
    exact k)
  obtain ⟨cl5, Ar5, q5, S5, n5', H5, G5⟩ := id V3
  have hin5 : ¬ ((2 : Int32) < 0 ∨ cl5.slots.size ≤ ((2 : Int32)).toNatClampNeg) := inb_of S5 ⟨by decide, by decide⟩
  obtain ⟨T5, h5, X5, e5, W5, st5⟩ := stI X3 hx hZ e3 Ar5 (j := (2 : Int32)) hin5 (g := (mkF m 18 #[.val (.int p1), .val (.int p2), .unset, .unset, .unset, .unset, .unset, .unset, .unset, .unset] [(.int (97 : Int32)), (.int (2 : Int32)), (.ref b1), (.ref b1)])) rfl rfl (hb hby at_18)
  have V5 : Arv Z h5 b1 k1 .int (15 : Int32) [(.int (65 : Int32)), (.int (95 : Int32)), (.int (97 : Int32)), (.int (0 : Int32)), (.int (0 : Int32)), (.int (0 : Int32)), (.int (0 : Int32)), (.int (0 : Int32)), (.int (0 : Int32)), (.int (0 : Int32)), (.int (0 : Int32)), (.int (0 : Int32)), (.int (0 : Int32)), (.int (0 : Int32)), (.int (0 : Int32))] (.int (0 : Int32)) := Arv.set Ar5 q5 S5 n5' H5 G5 rfl W5 2 rfl (Nat.le_of_ble_eq_true rfl)
  have O5 := own_ext_wr O3 W5 z_b1
  have N5 := Fr.snoc X5 N3 g_b1
  obtain ⟨cl6, Ar6, q6, S6, n6', H6, G6⟩ := id V5
  have hin6 : ¬ ((3 : Int32) < 0 ∨ cl6.slots.size ≤ ((3 : Int32)).toNatClampNeg) := inb_of S6 ⟨by decide, by decide⟩
  obtain ⟨T6, h6, X6, e6, W6, st6⟩ := stI X5 hx hZ e5 Ar6 (j := (3 : Int32)) hin6 (g := (mkF m 24 #[.val (.int p1), .val (.int p2), .unset, .unset, .unset, .unset, .unset, .unset, .unset, .unset] [(.int (192 : Int32)), (.int (3 : Int32)), (.ref b1), (.ref b1)])) rfl rfl (hb hby at_24)
  have V6 : Arv Z h6 b1 k1 .int (15 : Int32) [(.int (65 : Int32)), (.int (95 : Int32)), (.int (97 : Int32)), (.int (192 : Int32)), (.int (0 : Int32)), (.int (0 : Int32)), (.int (0 : Int32)), (.int (0 : Int32)), (.int (0 : Int32)), (.int (0 : Int32)), (.int (0 : Int32)), (.int (0 : Int32)), (.int (0 : Int32)), (.int (0 : Int32)), (.int (0 : Int32))] (.int (0 : Int32)) := Arv.set Ar6 q6 S6 n6' H6 G6 rfl W6 3 rfl (Nat.le_of_ble_eq_true rfl)
  have O6 := own_ext_wr O5 W6 z_b1
  have N6 := Fr.snoc X6 N5 g_b1
  obtain ⟨cl7, Ar7, q7, S7, n7', H7, G7⟩ := id V6
  have hin7 : ¬ ((4 : Int32) < 0 ∨ cl7.slots.size ≤ ((4 : Int32)).toNatClampNeg) := inb_of S7 ⟨by decide, by decide⟩
  obtain ⟨T7, h7, X7, e7, W7, st7⟩ := stI X6 hx hZ e6 Ar7 (j := (4 : Int32)) hin7 (g := (mkF m 30 #[.val (.int p1), .val (.int p2), .unset, .unset, .unset, .unset, .unset, .unset, .unset, .unset] [(.int (216 : Int32)), (.int (4 : Int32)), (.ref b1), (.ref b1)])) rfl rfl (hb hby at_30)
  have V7 : Arv Z h7 b1 k1 .int (15 : Int32) [(.int (65 : Int32)), (.int (95 : Int32)), (.int (97 : Int32)), (.int (192 : Int32)), (.int (216 : Int32)), (.int (0 : Int32)), (.int (0 : Int32)), (.int (0 : Int32)), (.int (0 : Int32)), (.int (0 : Int32)), (.int (0 : Int32)), (.int (0 : Int32)), (.int (0 : Int32)), (.int (0 : Int32)), (.int (0 : Int32))] (.int (0 : Int32)) := Arv.set Ar7 q7 S7 n7' H7 G7 rfl W7 4 rfl (Nat.le_of_ble_eq_true rfl)
  have O7 := own_ext_wr O6 W7 z_b1
  have N7 := Fr.snoc X7 N6 g_b1
  obtain ⟨cl8, Ar8, q8, S8, n8', H8, G8⟩ := id V7
  have hin8 : ¬ ((5 : Int32) < 0 ∨ cl8.slots.size ≤ ((5 : Int32)).toNatClampNeg) := inb_of S8 ⟨by decide, by decide⟩
  obtain ⟨T8, h8, X8, e8, W8, st8⟩ := stI X7 hx hZ e7 Ar8 (j := (5 : Int32)) hin8 (g := (mkF m 36 #[.val (.int p1), .val (.int p2), .unset, .unset, .unset, .unset, .unset, .unset, .unset, .unset] [(.int (248 : Int32)), (.int (5 : Int32)), (.ref b1), (.ref b1)])) rfl rfl (hb hby at_36)
  have V8 : Arv Z h8 b1 k1 .int (15 : Int32) [(.int (65 : Int32)), (.int (95 : Int32)), (.int (97 : Int32)), (.int (192 : Int32)), (.int (216 : Int32)), (.int (248 : Int32)), (.int (0 : Int32)), (.int (0 : Int32)), (.int (0 : Int32)), (.int (0 : Int32)), (.int (0 : Int32)), (.int (0 : Int32)), (.int (0 : Int32)), (.int (0 : Int32)), (.int (0 : Int32))] (.int (0 : Int32)) := Arv.set Ar8 q8 S8 n8' H8 G8 rfl W8 5 rfl (Nat.le_of_ble_eq_true rfl)
  have O8 := own_ext_wr O7 W8 z_b1
  have N8 := Fr.snoc X8 N7 g_b1
  have pre9 : ∀ t, Steps p.tables e below (T8.setTop (mkF m 37 #[.val (.int p1), .val (.int p2), .unset, .unset, .unset, .unset, .unset, .unset, .unset, .unset] [(.ref b1)])) t → Steps p.tables e below (s₁.setTop (entryFrame m #[(.int p1), (.int p2)] maxLocals)) t := fun t k => pre4 t (by
    show Steps p.tables e below (T3.setTop (mkF m 18 #[.val (.int p1), .val (.int p2), .unset, .unset, .unset, .unset, .unset, .unset, .unset, .unset] [(.int (97 : Int32)), (.int (2 : Int32)), (.ref b1), (.ref b1)])) _
    refine st5 _ ?_
    show Steps p.tables e below (T5.setTop (mkF m 19 #[.val (.int p1), .val (.int p2), .unset, .unset, .unset, .unset, .unset, .unset, .unset, .unset] [(.ref b1)])) _
    refine XS.dup X5.here hx rfl (hb hby at_19) rfl rfl ?_
    show Steps p.tables e below (T5.setTop (mkF m 20 #[.val (.int p1), .val (.int p2), .unset, .unset, .unset, .unset, .unset, .unset, .unset, .unset] [(.ref b1), (.ref b1)])) _
    refine XT.iconstV X5.here hx rfl (3 : Int32) (hb hby at_20) (by decide) ?_
    show Steps p.tables e below (T5.setTop (mkF m 21 #[.val (.int p1), .val (.int p2), .unset, .unset, .unset, .unset, .unset, .unset, .unset, .unset] [(.int (3 : Int32)), (.ref b1), (.ref b1)])) _
    refine XT.sipushV X5.here hx rfl (192 : Int32) (hb hby at_21) (by decide) ?_
    show Steps p.tables e below (T5.setTop (mkF m 24 #[.val (.int p1), .val (.int p2), .unset, .unset, .unset, .unset, .unset, .unset, .unset, .unset] [(.int (192 : Int32)), (.int (3 : Int32)), (.ref b1), (.ref b1)])) _
    refine st6 _ ?_
    show Steps p.tables e below (T6.setTop (mkF m 25 #[.val (.int p1), .val (.int p2), .unset, .unset, .unset, .unset, .unset, .unset, .unset, .unset] [(.ref b1)])) _
    refine XS.dup X6.here hx rfl (hb hby at_25) rfl rfl ?_
    show Steps p.tables e below (T6.setTop (mkF m 26 #[.val (.int p1), .val (.int p2), .unset, .unset, .unset, .unset, .unset, .unset, .unset, .unset] [(.ref b1), (.ref b1)])) _
    refine XT.iconstV X6.here hx rfl (4 : Int32) (hb hby at_26) (by decide) ?_
    show Steps p.tables e below (T6.setTop (mkF m 27 #[.val (.int p1), .val (.int p2), .unset, .unset, .unset, .unset, .unset, .unset, .unset, .unset] [(.int (4 : Int32)), (.ref b1), (.ref b1)])) _
    refine XT.sipushV X6.here hx rfl (216 : Int32) (hb hby at_27) (by decide) ?_
    show Steps p.tables e below (T6.setTop (mkF m 30 #[.val (.int p1), .val (.int p2), .unset, .unset, .unset, .unset, .unset, .unset, .unset, .unset] [(.int (216 : Int32)), (.int (4 : Int32)), (.ref b1), (.ref b1)])) _
    refine st7 _ ?_
    show Steps p.tables e below (T7.setTop (mkF m 31 #[.val (.int p1), .val (.int p2), .unset, .unset, .unset, .unset, .unset, .unset, .unset, .unset] [(.ref b1)])) _
    refine XS.dup X7.here hx rfl (hb hby at_31) rfl rfl ?_
    show Steps p.tables e below (T7.setTop (mkF m 32 #[.val (.int p1), .val (.int p2), .unset, .unset, .unset, .unset, .unset, .unset, .unset, .unset] [(.ref b1), (.ref b1)])) _
    refine XT.iconstV X7.here hx rfl (5 : Int32) (hb hby at_32) (by decide) ?_
    show Steps p.tables e below (T7.setTop (mkF m 33 #[.val (.int p1), .val (.int p2), .unset, .unset, .unset, .unset, .unset, .unset, .unset, .unset] [(.int (5 : Int32)), (.ref b1), (.ref b1)])) _
    refine XT.sipushV X7.here hx rfl (248 : Int32) (hb hby at_33) (by decide) ?_
    show Steps p.tables e below (T7.setTop (mkF m 36 #[.val (.int p1), .val (.int p2), .unset, .unset, .unset, .unset, .unset, .unset, .unset, .unset] [(.int (248 : Int32)), (.int (5 : Int32)), (.ref b1), (.ref b1)])) _
    refine st8 _ ?_
    exact k)
  obtain ⟨cl10, Ar10, q10, S10, n10', H10, G10⟩ := id V8
  have hin10 : ¬ ((6 : Int32) < 0 ∨ cl10.slots.size ≤ ((6 : Int32)).toNatClampNeg) := inb_of S10 ⟨by decide, by decide⟩
  obtain ⟨T10, h10, X10, e10, W10, st10⟩ := stI X8 hx hZ e8 Ar10 (j := (6 : Int32)) hin10 (g := (mkF m 43 #[.val (.int p1), .val (.int p2), .unset, .unset, .unset, .unset, .unset, .unset, .unset, .unset] [(.int (880 : Int32)), (.int (6 : Int32)), (.ref b1), (.ref b1)])) rfl rfl (hb hby at_43)
  have V10 : Arv Z h10 b1 k1 .int (15 : Int32) [(.int (65 : Int32)), (.int (95 : Int32)), (.int (97 : Int32)), (.int (192 : Int32)), (.int (216 : Int32)), (.int (248 : Int32)), (.int (880 : Int32)), (.int (0 : Int32)), (.int (0 : Int32)), (.int (0 : Int32)), (.int (0 : Int32)), (.int (0 : Int32)), (.int (0 : Int32)), (.int (0 : Int32)), (.int (0 : Int32))] (.int (0 : Int32)) := Arv.set Ar10 q10 S10 n10' H10 G10 rfl W10 6 rfl (Nat.le_of_ble_eq_true rfl)
  have O10 := own_ext_wr O8 W10 z_b1
  have N10 := Fr.snoc X10 N8 g_b1
  obtain ⟨cl11, Ar11, q11, S11, n11', H11, G11⟩ := id V10
  have hin11 : ¬ ((7 : Int32) < 0 ∨ cl11.slots.size ≤ ((7 : Int32)).toNatClampNeg) := inb_of S11 ⟨by decide, by decide⟩
  obtain ⟨T11, h11, X11, e11, W11, st11⟩ := stI X10 hx hZ e10 Ar11 (j := (7 : Int32)) hin11 (g := (mkF m 50 #[.val (.int p1), .val (.int p2), .unset, .unset, .unset, .unset, .unset, .unset, .unset, .unset] [(.int (895 : Int32)), (.int (7 : Int32)), (.ref b1), (.ref b1)])) rfl rfl (hb hby at_50)
  have V11 : Arv Z h11 b1 k1 .int (15 : Int32) [(.int (65 : Int32)), (.int (95 : Int32)), (.int (97 : Int32)), (.int (192 : Int32)), (.int (216 : Int32)), (.int (248 : Int32)), (.int (880 : Int32)), (.int (895 : Int32)), (.int (0 : Int32)), (.int (0 : Int32)), (.int (0 : Int32)), (.int (0 : Int32)), (.int (0 : Int32)), (.int (0 : Int32)), (.int (0 : Int32))] (.int (0 : Int32)) := Arv.set Ar11 q11 S11 n11' H11 G11 rfl W11 7 rfl (Nat.le_of_ble_eq_true rfl)
  have O11 := own_ext_wr O10 W11 z_b1
  have N11 := Fr.snoc X11 N10 g_b1
  obtain ⟨cl12, Ar12, q12, S12, n12', H12, G12⟩ := id V11
  have hin12 : ¬ ((8 : Int32) < 0 ∨ cl12.slots.size ≤ ((8 : Int32)).toNatClampNeg) := inb_of S12 ⟨by decide, by decide⟩
  obtain ⟨T12, h12, X12, e12, W12, st12⟩ := stI X11 hx hZ e11 Ar12 (j := (8 : Int32)) hin12 (g := (mkF m 57 #[.val (.int p1), .val (.int p2), .unset, .unset, .unset, .unset, .unset, .unset, .unset, .unset] [(.int (8204 : Int32)), (.int (8 : Int32)), (.ref b1), (.ref b1)])) rfl rfl (hb hby at_57)
  have V12 : Arv Z h12 b1 k1 .int (15 : Int32) [(.int (65 : Int32)), (.int (95 : Int32)), (.int (97 : Int32)), (.int (192 : Int32)), (.int (216 : Int32)), (.int (248 : Int32)), (.int (880 : Int32)), (.int (895 : Int32)), (.int (8204 : Int32)), (.int (0 : Int32)), (.int (0 : Int32)), (.int (0 : Int32)), (.int (0 : Int32)), (.int (0 : Int32)), (.int (0 : Int32))] (.int (0 : Int32)) := Arv.set Ar12 q12 S12 n12' H12 G12 rfl W12 8 rfl (Nat.le_of_ble_eq_true rfl)
  have O12 := own_ext_wr O11 W12 z_b1
  have N12 := Fr.snoc X12 N11 g_b1
  have pre13 : ∀ t, Steps p.tables e below (T12.setTop (mkF m 59 #[.val (.int p1), .val (.int p2), .unset, .unset, .unset, .unset, .unset, .unset, .unset, .unset] [(.ref b1), (.ref b1)])) t → Steps p.tables e below (s₁.setTop (entryFrame m #[(.int p1), (.int p2)] maxLocals)) t := fun t k => pre9 t (by
    show Steps p.tables e below (T8.setTop (mkF m 37 #[.val (.int p1), .val (.int p2), .unset, .unset, .unset, .unset, .unset, .unset, .unset, .unset] [(.ref b1)])) _
    refine XS.dup X8.here hx rfl (hb hby at_37) rfl rfl ?_
    show Steps p.tables e below (T8.setTop (mkF m 38 #[.val (.int p1), .val (.int p2), .unset, .unset, .unset, .unset, .unset, .unset, .unset, .unset] [(.ref b1), (.ref b1)])) _
    refine XT.bipushV X8.here hx rfl (6 : Int32) (hb hby at_38) (by decide) ?_
    show Steps p.tables e below (T8.setTop (mkF m 40 #[.val (.int p1), .val (.int p2), .unset, .unset, .unset, .unset, .unset, .unset, .unset, .unset] [(.int (6 : Int32)), (.ref b1), (.ref b1)])) _
    refine XT.sipushV X8.here hx rfl (880 : Int32) (hb hby at_40) (by decide) ?_
    show Steps p.tables e below (T8.setTop (mkF m 43 #[.val (.int p1), .val (.int p2), .unset, .unset, .unset, .unset, .unset, .unset, .unset, .unset] [(.int (880 : Int32)), (.int (6 : Int32)), (.ref b1), (.ref b1)])) _
    refine st10 _ ?_
    show Steps p.tables e below (T10.setTop (mkF m 44 #[.val (.int p1), .val (.int p2), .unset, .unset, .unset, .unset, .unset, .unset, .unset, .unset] [(.ref b1)])) _
    refine XS.dup X10.here hx rfl (hb hby at_44) rfl rfl ?_
    show Steps p.tables e below (T10.setTop (mkF m 45 #[.val (.int p1), .val (.int p2), .unset, .unset, .unset, .unset, .unset, .unset, .unset, .unset] [(.ref b1), (.ref b1)])) _
    refine XT.bipushV X10.here hx rfl (7 : Int32) (hb hby at_45) (by decide) ?_
    show Steps p.tables e below (T10.setTop (mkF m 47 #[.val (.int p1), .val (.int p2), .unset, .unset, .unset, .unset, .unset, .unset, .unset, .unset] [(.int (7 : Int32)), (.ref b1), (.ref b1)])) _
    refine XT.sipushV X10.here hx rfl (895 : Int32) (hb hby at_47) (by decide) ?_
    show Steps p.tables e below (T10.setTop (mkF m 50 #[.val (.int p1), .val (.int p2), .unset, .unset, .unset, .unset, .unset, .unset, .unset, .unset] [(.int (895 : Int32)), (.int (7 : Int32)), (.ref b1), (.ref b1)])) _
    refine st11 _ ?_
    show Steps p.tables e below (T11.setTop (mkF m 51 #[.val (.int p1), .val (.int p2), .unset, .unset, .unset, .unset, .unset, .unset, .unset, .unset] [(.ref b1)])) _
    refine XS.dup X11.here hx rfl (hb hby at_51) rfl rfl ?_
    show Steps p.tables e below (T11.setTop (mkF m 52 #[.val (.int p1), .val (.int p2), .unset, .unset, .unset, .unset, .unset, .unset, .unset, .unset] [(.ref b1), (.ref b1)])) _
    refine XT.bipushV X11.here hx rfl (8 : Int32) (hb hby at_52) (by decide) ?_
    show Steps p.tables e below (T11.setTop (mkF m 54 #[.val (.int p1), .val (.int p2), .unset, .unset, .unset, .unset, .unset, .unset, .unset, .unset] [(.int (8 : Int32)), (.ref b1), (.ref b1)])) _
    refine XT.sipushV X11.here hx rfl (8204 : Int32) (hb hby at_54) (by decide) ?_
    show Steps p.tables e below (T11.setTop (mkF m 57 #[.val (.int p1), .val (.int p2), .unset, .unset, .unset, .unset, .unset, .unset, .unset, .unset] [(.int (8204 : Int32)), (.int (8 : Int32)), (.ref b1), (.ref b1)])) _
    refine st12 _ ?_
    show Steps p.tables e below (T12.setTop (mkF m 58 #[.val (.int p1), .val (.int p2), .unset, .unset, .unset, .unset, .unset, .unset, .unset, .unset] [(.ref b1)])) _
    refine XS.dup X12.here hx rfl (hb hby at_58) rfl rfl ?_
    exact k)
  obtain ⟨cl14, Ar14, q14, S14, n14', H14, G14⟩ := id V12
  have hin14 : ¬ ((9 : Int32) < 0 ∨ cl14.slots.size ≤ ((9 : Int32)).toNatClampNeg) := inb_of S14 ⟨by decide, by decide⟩
  obtain ⟨T14, h14, X14, e14, W14, st14⟩ := stI X12 hx hZ e12 Ar14 (j := (9 : Int32)) hin14 (g := (mkF m 64 #[.val (.int p1), .val (.int p2), .unset, .unset, .unset, .unset, .unset, .unset, .unset, .unset] [(.int (8304 : Int32)), (.int (9 : Int32)), (.ref b1), (.ref b1)])) rfl rfl (hb hby at_64)
  have V14 : Arv Z h14 b1 k1 .int (15 : Int32) [(.int (65 : Int32)), (.int (95 : Int32)), (.int (97 : Int32)), (.int (192 : Int32)), (.int (216 : Int32)), (.int (248 : Int32)), (.int (880 : Int32)), (.int (895 : Int32)), (.int (8204 : Int32)), (.int (8304 : Int32)), (.int (0 : Int32)), (.int (0 : Int32)), (.int (0 : Int32)), (.int (0 : Int32)), (.int (0 : Int32))] (.int (0 : Int32)) := Arv.set Ar14 q14 S14 n14' H14 G14 rfl W14 9 rfl (Nat.le_of_ble_eq_true rfl)
  have O14 := own_ext_wr O12 W14 z_b1
  have N14 := Fr.snoc X14 N12 g_b1
  obtain ⟨cl15, Ar15, q15, S15, n15', H15, G15⟩ := id V14
  have hin15 : ¬ ((10 : Int32) < 0 ∨ cl15.slots.size ≤ ((10 : Int32)).toNatClampNeg) := inb_of S15 ⟨by decide, by decide⟩
  obtain ⟨T15, h15, X15, e15, W15, st15⟩ := stI X14 hx hZ e14 Ar15 (j := (10 : Int32)) hin15 (g := (mkF m 71 #[.val (.int p1), .val (.int p2), .unset, .unset, .unset, .unset, .unset, .unset, .unset, .unset] [(.int (11264 : Int32)), (.int (10 : Int32)), (.ref b1), (.ref b1)])) rfl rfl (hb hby at_71)
  have V15 : Arv Z h15 b1 k1 .int (15 : Int32) [(.int (65 : Int32)), (.int (95 : Int32)), (.int (97 : Int32)), (.int (192 : Int32)), (.int (216 : Int32)), (.int (248 : Int32)), (.int (880 : Int32)), (.int (895 : Int32)), (.int (8204 : Int32)), (.int (8304 : Int32)), (.int (11264 : Int32)), (.int (0 : Int32)), (.int (0 : Int32)), (.int (0 : Int32)), (.int (0 : Int32))] (.int (0 : Int32)) := Arv.set Ar15 q15 S15 n15' H15 G15 rfl W15 10 rfl (Nat.le_of_ble_eq_true rfl)
  have O15 := own_ext_wr O14 W15 z_b1
  have N15 := Fr.snoc X15 N14 g_b1
  obtain ⟨cl16, Ar16, q16, S16, n16', H16, G16⟩ := id V15
  have hin16 : ¬ ((11 : Int32) < 0 ∨ cl16.slots.size ≤ ((11 : Int32)).toNatClampNeg) := inb_of S16 ⟨by decide, by decide⟩
  obtain ⟨T16, h16, X16, e16, W16, st16⟩ := stI X15 hx hZ e15 Ar16 (j := (11 : Int32)) hin16 (g := (mkF m 78 #[.val (.int p1), .val (.int p2), .unset, .unset, .unset, .unset, .unset, .unset, .unset, .unset] [(.int (12289 : Int32)), (.int (11 : Int32)), (.ref b1), (.ref b1)])) rfl rfl (hb hby at_78)
  have V16 : Arv Z h16 b1 k1 .int (15 : Int32) [(.int (65 : Int32)), (.int (95 : Int32)), (.int (97 : Int32)), (.int (192 : Int32)), (.int (216 : Int32)), (.int (248 : Int32)), (.int (880 : Int32)), (.int (895 : Int32)), (.int (8204 : Int32)), (.int (8304 : Int32)), (.int (11264 : Int32)), (.int (12289 : Int32)), (.int (0 : Int32)), (.int (0 : Int32)), (.int (0 : Int32))] (.int (0 : Int32)) := Arv.set Ar16 q16 S16 n16' H16 G16 rfl W16 11 rfl (Nat.le_of_ble_eq_true rfl)
  have O16 := own_ext_wr O15 W16 z_b1
  have N16 := Fr.snoc X16 N15 g_b1
  have pre17 : ∀ t, Steps p.tables e below (T16.setTop (mkF m 82 #[.val (.int p1), .val (.int p2), .unset, .unset, .unset, .unset, .unset, .unset, .unset, .unset] [(.int (12 : Int32)), (.ref b1), (.ref b1)])) t → Steps p.tables e below (s₁.setTop (entryFrame m #[(.int p1), (.int p2)] maxLocals)) t := fun t k => pre13 t (by
    show Steps p.tables e below (T12.setTop (mkF m 59 #[.val (.int p1), .val (.int p2), .unset, .unset, .unset, .unset, .unset, .unset, .unset, .unset] [(.ref b1), (.ref b1)])) _
    refine XT.bipushV X12.here hx rfl (9 : Int32) (hb hby at_59) (by decide) ?_
    show Steps p.tables e below (T12.setTop (mkF m 61 #[.val (.int p1), .val (.int p2), .unset, .unset, .unset, .unset, .unset, .unset, .unset, .unset] [(.int (9 : Int32)), (.ref b1), (.ref b1)])) _
    refine XT.sipushV X12.here hx rfl (8304 : Int32) (hb hby at_61) (by decide) ?_
    show Steps p.tables e below (T12.setTop (mkF m 64 #[.val (.int p1), .val (.int p2), .unset, .unset, .unset, .unset, .unset, .unset, .unset, .unset] [(.int (8304 : Int32)), (.int (9 : Int32)), (.ref b1), (.ref b1)])) _
    refine st14 _ ?_
    show Steps p.tables e below (T14.setTop (mkF m 65 #[.val (.int p1), .val (.int p2), .unset, .unset, .unset, .unset, .unset, .unset, .unset, .unset] [(.ref b1)])) _
    refine XS.dup X14.here hx rfl (hb hby at_65) rfl rfl ?_
    show Steps p.tables e below (T14.setTop (mkF m 66 #[.val (.int p1), .val (.int p2), .unset, .unset, .unset, .unset, .unset, .unset, .unset, .unset] [(.ref b1), (.ref b1)])) _
    refine XT.bipushV X14.here hx rfl (10 : Int32) (hb hby at_66) (by decide) ?_
    show Steps p.tables e below (T14.setTop (mkF m 68 #[.val (.int p1), .val (.int p2), .unset, .unset, .unset, .unset, .unset, .unset, .unset, .unset] [(.int (10 : Int32)), (.ref b1), (.ref b1)])) _
    refine XT.sipushV X14.here hx rfl (11264 : Int32) (hb hby at_68) (by decide) ?_
    show Steps p.tables e below (T14.setTop (mkF m 71 #[.val (.int p1), .val (.int p2), .unset, .unset, .unset, .unset, .unset, .unset, .unset, .unset] [(.int (11264 : Int32)), (.int (10 : Int32)), (.ref b1), (.ref b1)])) _
    refine st15 _ ?_
    show Steps p.tables e below (T15.setTop (mkF m 72 #[.val (.int p1), .val (.int p2), .unset, .unset, .unset, .unset, .unset, .unset, .unset, .unset] [(.ref b1)])) _
    refine XS.dup X15.here hx rfl (hb hby at_72) rfl rfl ?_
    show Steps p.tables e below (T15.setTop (mkF m 73 #[.val (.int p1), .val (.int p2), .unset, .unset, .unset, .unset, .unset, .unset, .unset, .unset] [(.ref b1), (.ref b1)])) _
    refine XT.bipushV X15.here hx rfl (11 : Int32) (hb hby at_73) (by decide) ?_
    show Steps p.tables e below (T15.setTop (mkF m 75 #[.val (.int p1), .val (.int p2), .unset, .unset, .unset, .unset, .unset, .unset, .unset, .unset] [(.int (11 : Int32)), (.ref b1), (.ref b1)])) _
    refine XT.sipushV X15.here hx rfl (12289 : Int32) (hb hby at_75) (by decide) ?_
    show Steps p.tables e below (T15.setTop (mkF m 78 #[.val (.int p1), .val (.int p2), .unset, .unset, .unset, .unset, .unset, .unset, .unset, .unset] [(.int (12289 : Int32)), (.int (11 : Int32)), (.ref b1), (.ref b1)])) _
    refine st16 _ ?_
    show Steps p.tables e below (T16.setTop (mkF m 79 #[.val (.int p1), .val (.int p2), .unset, .unset, .unset, .unset, .unset, .unset, .unset, .unset] [(.ref b1)])) _
    refine XS.dup X16.here hx rfl (hb hby at_79) rfl rfl ?_
    show Steps p.tables e below (T16.setTop (mkF m 80 #[.val (.int p1), .val (.int p2), .unset, .unset, .unset, .unset, .unset, .unset, .unset, .unset] [(.ref b1), (.ref b1)])) _
    refine XT.bipushV X16.here hx rfl (12 : Int32) (hb hby at_80) (by decide) ?_
    exact k)
  obtain ⟨cl18, Ar18, q18, S18, n18', H18, G18⟩ := id V16
  have hin18 : ¬ ((12 : Int32) < 0 ∨ cl18.slots.size ≤ ((12 : Int32)).toNatClampNeg) := inb_of S18 ⟨by decide, by decide⟩
  obtain ⟨T18, h18, X18, e18, W18, st18⟩ := stI X16 hx hZ e16 Ar18 (j := (12 : Int32)) hin18 (g := (mkF m 84 #[.val (.int p1), .val (.int p2), .unset, .unset, .unset, .unset, .unset, .unset, .unset, .unset] [(.int (63744 : Int32)), (.int (12 : Int32)), (.ref b1), (.ref b1)])) rfl rfl (hb hby at_84)
  have V18 : Arv Z h18 b1 k1 .int (15 : Int32) [(.int (65 : Int32)), (.int (95 : Int32)), (.int (97 : Int32)), (.int (192 : Int32)), (.int (216 : Int32)), (.int (248 : Int32)), (.int (880 : Int32)), (.int (895 : Int32)), (.int (8204 : Int32)), (.int (8304 : Int32)), (.int (11264 : Int32)), (.int (12289 : Int32)), (.int (63744 : Int32)), (.int (0 : Int32)), (.int (0 : Int32))] (.int (0 : Int32)) := Arv.set Ar18 q18 S18 n18' H18 G18 rfl W18 12 rfl (Nat.le_of_ble_eq_true rfl)
  have O18 := own_ext_wr O16 W18 z_b1
  have N18 := Fr.snoc X18 N16 g_b1
  obtain ⟨cl19, Ar19, q19, S19, n19', H19, G19⟩ := id V18
  have hin19 : ¬ ((13 : Int32) < 0 ∨ cl19.slots.size ≤ ((13 : Int32)).toNatClampNeg) := inb_of S19 ⟨by decide, by decide⟩
  obtain ⟨T19, h19, X19, e19, W19, st19⟩ := stI X18 hx hZ e18 Ar19 (j := (13 : Int32)) hin19 (g := (mkF m 90 #[.val (.int p1), .val (.int p2), .unset, .unset, .unset, .unset, .unset, .unset, .unset, .unset] [(.int (65008 : Int32)), (.int (13 : Int32)), (.ref b1), (.ref b1)])) rfl rfl (hb hby at_90)
  have V19 : Arv Z h19 b1 k1 .int (15 : Int32) [(.int (65 : Int32)), (.int (95 : Int32)), (.int (97 : Int32)), (.int (192 : Int32)), (.int (216 : Int32)), (.int (248 : Int32)), (.int (880 : Int32)), (.int (895 : Int32)), (.int (8204 : Int32)), (.int (8304 : Int32)), (.int (11264 : Int32)), (.int (12289 : Int32)), (.int (63744 : Int32)), (.int (65008 : Int32)), (.int (0 : Int32))] (.int (0 : Int32)) := Arv.set Ar19 q19 S19 n19' H19 G19 rfl W19 13 rfl (Nat.le_of_ble_eq_true rfl)
  have O19 := own_ext_wr O18 W19 z_b1
  have N19 := Fr.snoc X19 N18 g_b1
  obtain ⟨cl20, Ar20, q20, S20, n20', H20, G20⟩ := id V19
  have hin20 : ¬ ((14 : Int32) < 0 ∨ cl20.slots.size ≤ ((14 : Int32)).toNatClampNeg) := inb_of S20 ⟨by decide, by decide⟩
  obtain ⟨T20, h20, X20, e20, W20, st20⟩ := stI X19 hx hZ e19 Ar20 (j := (14 : Int32)) hin20 (g := (mkF m 96 #[.val (.int p1), .val (.int p2), .unset, .unset, .unset, .unset, .unset, .unset, .unset, .unset] [(.int (65536 : Int32)), (.int (14 : Int32)), (.ref b1), (.ref b1)])) rfl rfl (hb hby at_96)
  have V20 : Arv Z h20 b1 k1 .int (15 : Int32) [(.int (65 : Int32)), (.int (95 : Int32)), (.int (97 : Int32)), (.int (192 : Int32)), (.int (216 : Int32)), (.int (248 : Int32)), (.int (880 : Int32)), (.int (895 : Int32)), (.int (8204 : Int32)), (.int (8304 : Int32)), (.int (11264 : Int32)), (.int (12289 : Int32)), (.int (63744 : Int32)), (.int (65008 : Int32)), (.int (65536 : Int32))] (.int (0 : Int32)) := Arv.set Ar20 q20 S20 n20' H20 G20 rfl W20 14 rfl (Nat.le_of_ble_eq_true rfl)
  have O20 := own_ext_wr O19 W20 z_b1
  have N20 := Fr.snoc X20 N19 g_b1
  obtain ⟨T21, h21, k21, X21, e21, E21, A21, st21⟩ := newP X20 hx hZ (hw _ (List.mem_of_getElem? (i := 0) rfl)) e20 (g := (mkF m 100 #[.val (.int p1), .val (.int p2), .val (.ref b1), .unset, .unset, .unset, .unset, .unset, .unset, .unset] [(.int (15 : Int32))])) rfl (hb hby at_100) rfl (by decide) (cap := 15) (by decide) (by decide) (by decide) (by decide)
  obtain ⟨b21, g21⟩ : ∃ z, z = h20.size := ⟨_, rfl⟩
  rw [← g21] at A21 st21
  have ne_b1_b21 : b1 ≠ b21 := Nat.ne_of_lt (Nat.lt_of_lt_of_le V20.lt (Nat.le_of_eq g21.symm))
  have z_b21 : h0.size ≤ b21 := Nat.le_trans O20.1 (Nat.le_of_eq g21.symm)
  have g_b21 : n0 ≤ b21 := Nat.le_trans Z0 z_b21
  have V21_b1 := V20.ext E21
  have O21 := own_ext_trans O20 E21
  have V21 : Arv Z h21 b21 k21 .int (15 : Int32) [(.int (0 : Int32)), (.int (0 : Int32)), (.int (0 : Int32)), (.int (0 : Int32)), (.int (0 : Int32)), (.int (0 : Int32)), (.int (0 : Int32)), (.int (0 : Int32)), (.int (0 : Int32)), (.int (0 : Int32)), (.int (0 : Int32)), (.int (0 : Int32)), (.int (0 : Int32)), (.int (0 : Int32)), (.int (0 : Int32))] (.int (0 : Int32)) := (Arv.new A21 (by decide)).pad (pad_rep [] (.int (0 : Int32)) 15)
  have pre22 : ∀ t, Steps p.tables e below (T21.setTop (mkF m 102 #[.val (.int p1), .val (.int p2), .val (.ref b1), .unset, .unset, .unset, .unset, .unset, .unset, .unset] [(.ref b21)])) t → Steps p.tables e below (s₁.setTop (entryFrame m #[(.int p1), (.int p2)] maxLocals)) t := fun t k => pre17 t (by
    show Steps p.tables e below (T16.setTop (mkF m 82 #[.val (.int p1), .val (.int p2), .unset, .unset, .unset, .unset, .unset, .unset, .unset, .unset] [(.int (12 : Int32)), (.ref b1), (.ref b1)])) _
    refine X16.ldcInt hx hown (mvT hZ (hw _ (List.mem_of_getElem? (i := 1) rfl))) (g := (mkF m 82 #[.val (.int p1), .val (.int p2), .unset, .unset, .unset, .unset, .unset, .unset, .unset, .unset] [(.int (12 : Int32)), (.ref b1), (.ref b1)])) rfl (hb hby at_82) _ ?_
    show Steps p.tables e below (T16.setTop (mkF m 84 #[.val (.int p1), .val (.int p2), .unset, .unset, .unset, .unset, .unset, .unset, .unset, .unset] [(.int (63744 : Int32)), (.int (12 : Int32)), (.ref b1), (.ref b1)])) _
    refine st18 _ ?_
    show Steps p.tables e below (T18.setTop (mkF m 85 #[.val (.int p1), .val (.int p2), .unset, .unset, .unset, .unset, .unset, .unset, .unset, .unset] [(.ref b1)])) _
    refine XS.dup X18.here hx rfl (hb hby at_85) rfl rfl ?_
    show Steps p.tables e below (T18.setTop (mkF m 86 #[.val (.int p1), .val (.int p2), .unset, .unset, .unset, .unset, .unset, .unset, .unset, .unset] [(.ref b1), (.ref b1)])) _
    refine XT.bipushV X18.here hx rfl (13 : Int32) (hb hby at_86) (by decide) ?_
    show Steps p.tables e below (T18.setTop (mkF m 88 #[.val (.int p1), .val (.int p2), .unset, .unset, .unset, .unset, .unset, .unset, .unset, .unset] [(.int (13 : Int32)), (.ref b1), (.ref b1)])) _
    refine X18.ldcInt hx hown (mvT hZ (hw _ (List.mem_of_getElem? (i := 2) rfl))) (g := (mkF m 88 #[.val (.int p1), .val (.int p2), .unset, .unset, .unset, .unset, .unset, .unset, .unset, .unset] [(.int (13 : Int32)), (.ref b1), (.ref b1)])) rfl (hb hby at_88) _ ?_
    show Steps p.tables e below (T18.setTop (mkF m 90 #[.val (.int p1), .val (.int p2), .unset, .unset, .unset, .unset, .unset, .unset, .unset, .unset] [(.int (65008 : Int32)), (.int (13 : Int32)), (.ref b1), (.ref b1)])) _
    refine st19 _ ?_
    show Steps p.tables e below (T19.setTop (mkF m 91 #[.val (.int p1), .val (.int p2), .unset, .unset, .unset, .unset, .unset, .unset, .unset, .unset] [(.ref b1)])) _
    refine XS.dup X19.here hx rfl (hb hby at_91) rfl rfl ?_
    show Steps p.tables e below (T19.setTop (mkF m 92 #[.val (.int p1), .val (.int p2), .unset, .unset, .unset, .unset, .unset, .unset, .unset, .unset] [(.ref b1), (.ref b1)])) _
    refine XT.bipushV X19.here hx rfl (14 : Int32) (hb hby at_92) (by decide) ?_
    show Steps p.tables e below (T19.setTop (mkF m 94 #[.val (.int p1), .val (.int p2), .unset, .unset, .unset, .unset, .unset, .unset, .unset, .unset] [(.int (14 : Int32)), (.ref b1), (.ref b1)])) _
    refine X19.ldcInt hx hown (mvT hZ (hw _ (List.mem_of_getElem? (i := 3) rfl))) (g := (mkF m 94 #[.val (.int p1), .val (.int p2), .unset, .unset, .unset, .unset, .unset, .unset, .unset, .unset] [(.int (14 : Int32)), (.ref b1), (.ref b1)])) rfl (hb hby at_94) _ ?_
    show Steps p.tables e below (T19.setTop (mkF m 96 #[.val (.int p1), .val (.int p2), .unset, .unset, .unset, .unset, .unset, .unset, .unset, .unset] [(.int (65536 : Int32)), (.int (14 : Int32)), (.ref b1), (.ref b1)])) _
    refine st20 _ ?_
    show Steps p.tables e below (T20.setTop (mkF m 97 #[.val (.int p1), .val (.int p2), .unset, .unset, .unset, .unset, .unset, .unset, .unset, .unset] [(.ref b1)])) _
    refine XS.astoreN X20.here hx rfl (hb hby at_97) rfl rfl (l' := #[.val (.int p1), .val (.int p2), .val (.ref b1), .unset, .unset, .unset, .unset, .unset, .unset, .unset]) rfl ?_
    show Steps p.tables e below (T20.setTop (mkF m 98 #[.val (.int p1), .val (.int p2), .val (.ref b1), .unset, .unset, .unset, .unset, .unset, .unset, .unset] [])) _
    refine XT.bipushV X20.here hx rfl (15 : Int32) (hb hby at_98) (by decide) ?_
    show Steps p.tables e below (T20.setTop (mkF m 100 #[.val (.int p1), .val (.int p2), .val (.ref b1), .unset, .unset, .unset, .unset, .unset, .unset, .unset] [(.int (15 : Int32))])) _
    refine st21 _ ?_
    exact k)
  obtain ⟨cl23, Ar23, q23, S23, n23', H23, G23⟩ := id V21
  have hin23 : ¬ ((0 : Int32) < 0 ∨ cl23.slots.size ≤ ((0 : Int32)).toNatClampNeg) := inb_of S23 ⟨by decide, by decide⟩
  obtain ⟨T23, h23, X23, e23, W23, st23⟩ := stI X21 hx hZ e21 Ar23 (j := (0 : Int32)) hin23 (g := (mkF m 106 #[.val (.int p1), .val (.int p2), .val (.ref b1), .unset, .unset, .unset, .unset, .unset, .unset, .unset] [(.int (90 : Int32)), (.int (0 : Int32)), (.ref b21), (.ref b21)])) rfl rfl (hb hby at_106)
  have V23 : Arv Z h23 b21 k21 .int (15 : Int32) [(.int (90 : Int32)), (.int (0 : Int32)), (.int (0 : Int32)), (.int (0 : Int32)), (.int (0 : Int32)), (.int (0 : Int32)), (.int (0 : Int32)), (.int (0 : Int32)), (.int (0 : Int32)), (.int (0 : Int32)), (.int (0 : Int32)), (.int (0 : Int32)), (.int (0 : Int32)), (.int (0 : Int32)), (.int (0 : Int32))] (.int (0 : Int32)) := Arv.set Ar23 q23 S23 n23' H23 G23 rfl W23 0 rfl (Nat.le_of_ble_eq_true rfl)
  have V23_b1 := V21_b1.other W23 ne_b1_b21
  have O23 := own_ext_wr O21 W23 z_b21
  have N23 := Fr.snoc X23 N20 g_b21
  obtain ⟨cl24, Ar24, q24, S24, n24', H24, G24⟩ := id V23
  have hin24 : ¬ ((1 : Int32) < 0 ∨ cl24.slots.size ≤ ((1 : Int32)).toNatClampNeg) := inb_of S24 ⟨by decide, by decide⟩
  obtain ⟨T24, h24, X24, e24, W24, st24⟩ := stI X23 hx hZ e23 Ar24 (j := (1 : Int32)) hin24 (g := (mkF m 111 #[.val (.int p1), .val (.int p2), .val (.ref b1), .unset, .unset, .unset, .unset, .unset, .unset, .unset] [(.int (95 : Int32)), (.int (1 : Int32)), (.ref b21), (.ref b21)])) rfl rfl (hb hby at_111)
  have V24 : Arv Z h24 b21 k21 .int (15 : Int32) [(.int (90 : Int32)), (.int (95 : Int32)), (.int (0 : Int32)), (.int (0 : Int32)), (.int (0 : Int32)), (.int (0 : Int32)), (.int (0 : Int32)), (.int (0 : Int32)), (.int (0 : Int32)), (.int (0 : Int32)), (.int (0 : Int32)), (.int (0 : Int32)), (.int (0 : Int32)), (.int (0 : Int32)), (.int (0 : Int32))] (.int (0 : Int32)) := Arv.set Ar24 q24 S24 n24' H24 G24 rfl W24 1 rfl (Nat.le_of_ble_eq_true rfl)
  have V24_b1 := V23_b1.other W24 ne_b1_b21
  have O24 := own_ext_wr O23 W24 z_b21
  have N24 := Fr.snoc X24 N23 g_b21
  obtain ⟨cl25, Ar25, q25, S25, n25', H25, G25⟩ := id V24
  have hin25 : ¬ ((2 : Int32) < 0 ∨ cl25.slots.size ≤ ((2 : Int32)).toNatClampNeg) := inb_of S25 ⟨by decide, by decide⟩
  obtain ⟨T25, h25, X25, e25, W25, st25⟩ := stI X24 hx hZ e24 Ar25 (j := (2 : Int32)) hin25 (g := (mkF m 116 #[.val (.int p1), .val (.int p2), .val (.ref b1), .unset, .unset, .unset, .unset, .unset, .unset, .unset] [(.int (122 : Int32)), (.int (2 : Int32)), (.ref b21), (.ref b21)])) rfl rfl (hb hby at_116)
  have V25 : Arv Z h25 b21 k21 .int (15 : Int32) [(.int (90 : Int32)), (.int (95 : Int32)), (.int (122 : Int32)), (.int (0 : Int32)), (.int (0 : Int32)), (.int (0 : Int32)), (.int (0 : Int32)), (.int (0 : Int32)), (.int (0 : Int32)), (.int (0 : Int32)), (.int (0 : Int32)), (.int (0 : Int32)), (.int (0 : Int32)), (.int (0 : Int32)), (.int (0 : Int32))] (.int (0 : Int32)) := Arv.set Ar25 q25 S25 n25' H25 G25 rfl W25 2 rfl (Nat.le_of_ble_eq_true rfl)
  have V25_b1 := V24_b1.other W25 ne_b1_b21
  have O25 := own_ext_wr O24 W25 z_b21
  have N25 := Fr.snoc X25 N24 g_b21
  have pre26 : ∀ t, Steps p.tables e below (T25.setTop (mkF m 118 #[.val (.int p1), .val (.int p2), .val (.ref b1), .unset, .unset, .unset, .unset, .unset, .unset, .unset] [(.ref b21), (.ref b21)])) t → Steps p.tables e below (s₁.setTop (entryFrame m #[(.int p1), (.int p2)] maxLocals)) t := fun t k => pre22 t (by
    show Steps p.tables e below (T21.setTop (mkF m 102 #[.val (.int p1), .val (.int p2), .val (.ref b1), .unset, .unset, .unset, .unset, .unset, .unset, .unset] [(.ref b21)])) _
    refine XS.dup X21.here hx rfl (hb hby at_102) rfl rfl ?_
    show Steps p.tables e below (T21.setTop (mkF m 103 #[.val (.int p1), .val (.int p2), .val (.ref b1), .unset, .unset, .unset, .unset, .unset, .unset, .unset] [(.ref b21), (.ref b21)])) _
    refine XT.iconstV X21.here hx rfl (0 : Int32) (hb hby at_103) (by decide) ?_
    show Steps p.tables e below (T21.setTop (mkF m 104 #[.val (.int p1), .val (.int p2), .val (.ref b1), .unset, .unset, .unset, .unset, .unset, .unset, .unset] [(.int (0 : Int32)), (.ref b21), (.ref b21)])) _
    refine XT.bipushV X21.here hx rfl (90 : Int32) (hb hby at_104) (by decide) ?_
    show Steps p.tables e below (T21.setTop (mkF m 106 #[.val (.int p1), .val (.int p2), .val (.ref b1), .unset, .unset, .unset, .unset, .unset, .unset, .unset] [(.int (90 : Int32)), (.int (0 : Int32)), (.ref b21), (.ref b21)])) _
    refine st23 _ ?_
    show Steps p.tables e below (T23.setTop (mkF m 107 #[.val (.int p1), .val (.int p2), .val (.ref b1), .unset, .unset, .unset, .unset, .unset, .unset, .unset] [(.ref b21)])) _
    refine XS.dup X23.here hx rfl (hb hby at_107) rfl rfl ?_
    show Steps p.tables e below (T23.setTop (mkF m 108 #[.val (.int p1), .val (.int p2), .val (.ref b1), .unset, .unset, .unset, .unset, .unset, .unset, .unset] [(.ref b21), (.ref b21)])) _
    refine XT.iconstV X23.here hx rfl (1 : Int32) (hb hby at_108) (by decide) ?_
    show Steps p.tables e below (T23.setTop (mkF m 109 #[.val (.int p1), .val (.int p2), .val (.ref b1), .unset, .unset, .unset, .unset, .unset, .unset, .unset] [(.int (1 : Int32)), (.ref b21), (.ref b21)])) _
    refine XT.bipushV X23.here hx rfl (95 : Int32) (hb hby at_109) (by decide) ?_
    show Steps p.tables e below (T23.setTop (mkF m 111 #[.val (.int p1), .val (.int p2), .val (.ref b1), .unset, .unset, .unset, .unset, .unset, .unset, .unset] [(.int (95 : Int32)), (.int (1 : Int32)), (.ref b21), (.ref b21)])) _
    refine st24 _ ?_
    show Steps p.tables e below (T24.setTop (mkF m 112 #[.val (.int p1), .val (.int p2), .val (.ref b1), .unset, .unset, .unset, .unset, .unset, .unset, .unset] [(.ref b21)])) _
    refine XS.dup X24.here hx rfl (hb hby at_112) rfl rfl ?_
    show Steps p.tables e below (T24.setTop (mkF m 113 #[.val (.int p1), .val (.int p2), .val (.ref b1), .unset, .unset, .unset, .unset, .unset, .unset, .unset] [(.ref b21), (.ref b21)])) _
    refine XT.iconstV X24.here hx rfl (2 : Int32) (hb hby at_113) (by decide) ?_
    show Steps p.tables e below (T24.setTop (mkF m 114 #[.val (.int p1), .val (.int p2), .val (.ref b1), .unset, .unset, .unset, .unset, .unset, .unset, .unset] [(.int (2 : Int32)), (.ref b21), (.ref b21)])) _
    refine XT.bipushV X24.here hx rfl (122 : Int32) (hb hby at_114) (by decide) ?_
    show Steps p.tables e below (T24.setTop (mkF m 116 #[.val (.int p1), .val (.int p2), .val (.ref b1), .unset, .unset, .unset, .unset, .unset, .unset, .unset] [(.int (122 : Int32)), (.int (2 : Int32)), (.ref b21), (.ref b21)])) _
    refine st25 _ ?_
    show Steps p.tables e below (T25.setTop (mkF m 117 #[.val (.int p1), .val (.int p2), .val (.ref b1), .unset, .unset, .unset, .unset, .unset, .unset, .unset] [(.ref b21)])) _
    refine XS.dup X25.here hx rfl (hb hby at_117) rfl rfl ?_
    exact k)
  obtain ⟨cl27, Ar27, q27, S27, n27', H27, G27⟩ := id V25
  have hin27 : ¬ ((3 : Int32) < 0 ∨ cl27.slots.size ≤ ((3 : Int32)).toNatClampNeg) := inb_of S27 ⟨by decide, by decide⟩
  obtain ⟨T27, h27, X27, e27, W27, st27⟩ := stI X25 hx hZ e25 Ar27 (j := (3 : Int32)) hin27 (g := (mkF m 122 #[.val (.int p1), .val (.int p2), .val (.ref b1), .unset, .unset, .unset, .unset, .unset, .unset, .unset] [(.int (214 : Int32)), (.int (3 : Int32)), (.ref b21), (.ref b21)])) rfl rfl (hb hby at_122)
  have V27 : Arv Z h27 b21 k21 .int (15 : Int32) [(.int (90 : Int32)), (.int (95 : Int32)), (.int (122 : Int32)), (.int (214 : Int32)), (.int (0 : Int32)), (.int (0 : Int32)), (.int (0 : Int32)), (.int (0 : Int32)), (.int (0 : Int32)), (.int (0 : Int32)), (.int (0 : Int32)), (.int (0 : Int32)), (.int (0 : Int32)), (.int (0 : Int32)), (.int (0 : Int32))] (.int (0 : Int32)) := Arv.set Ar27 q27 S27 n27' H27 G27 rfl W27 3 rfl (Nat.le_of_ble_eq_true rfl)
  have V27_b1 := V25_b1.other W27 ne_b1_b21
  have O27 := own_ext_wr O25 W27 z_b21
  have N27 := Fr.snoc X27 N25 g_b21
  obtain ⟨cl28, Ar28, q28, S28, n28', H28, G28⟩ := id V27
  have hin28 : ¬ ((4 : Int32) < 0 ∨ cl28.slots.size ≤ ((4 : Int32)).toNatClampNeg) := inb_of S28 ⟨by decide, by decide⟩
  obtain ⟨T28, h28, X28, e28, W28, st28⟩ := stI X27 hx hZ e27 Ar28 (j := (4 : Int32)) hin28 (g := (mkF m 128 #[.val (.int p1), .val (.int p2), .val (.ref b1), .unset, .unset, .unset, .unset, .unset, .unset, .unset] [(.int (246 : Int32)), (.int (4 : Int32)), (.ref b21), (.ref b21)])) rfl rfl (hb hby at_128)
  have V28 : Arv Z h28 b21 k21 .int (15 : Int32) [(.int (90 : Int32)), (.int (95 : Int32)), (.int (122 : Int32)), (.int (214 : Int32)), (.int (246 : Int32)), (.int (0 : Int32)), (.int (0 : Int32)), (.int (0 : Int32)), (.int (0 : Int32)), (.int (0 : Int32)), (.int (0 : Int32)), (.int (0 : Int32)), (.int (0 : Int32)), (.int (0 : Int32)), (.int (0 : Int32))] (.int (0 : Int32)) := Arv.set Ar28 q28 S28 n28' H28 G28 rfl W28 4 rfl (Nat.le_of_ble_eq_true rfl)
  have V28_b1 := V27_b1.other W28 ne_b1_b21
  have O28 := own_ext_wr O27 W28 z_b21
  have N28 := Fr.snoc X28 N27 g_b21
  obtain ⟨cl29, Ar29, q29, S29, n29', H29, G29⟩ := id V28
  have hin29 : ¬ ((5 : Int32) < 0 ∨ cl29.slots.size ≤ ((5 : Int32)).toNatClampNeg) := inb_of S29 ⟨by decide, by decide⟩
  obtain ⟨T29, h29, X29, e29, W29, st29⟩ := stI X28 hx hZ e28 Ar29 (j := (5 : Int32)) hin29 (g := (mkF m 134 #[.val (.int p1), .val (.int p2), .val (.ref b1), .unset, .unset, .unset, .unset, .unset, .unset, .unset] [(.int (767 : Int32)), (.int (5 : Int32)), (.ref b21), (.ref b21)])) rfl rfl (hb hby at_134)
  have V29 : Arv Z h29 b21 k21 .int (15 : Int32) [(.int (90 : Int32)), (.int (95 : Int32)), (.int (122 : Int32)), (.int (214 : Int32)), (.int (246 : Int32)), (.int (767 : Int32)), (.int (0 : Int32)), (.int (0 : Int32)), (.int (0 : Int32)), (.int (0 : Int32)), (.int (0 : Int32)), (.int (0 : Int32)), (.int (0 : Int32)), (.int (0 : Int32)), (.int (0 : Int32))] (.int (0 : Int32)) := Arv.set Ar29 q29 S29 n29' H29 G29 rfl W29 5 rfl (Nat.le_of_ble_eq_true rfl)
  have V29_b1 := V28_b1.other W29 ne_b1_b21
  have O29 := own_ext_wr O28 W29 z_b21
  have N29 := Fr.snoc X29 N28 g_b21
  have pre30 : ∀ t, Steps p.tables e below (T29.setTop (mkF m 138 #[.val (.int p1), .val (.int p2), .val (.ref b1), .unset, .unset, .unset, .unset, .unset, .unset, .unset] [(.int (6 : Int32)), (.ref b21), (.ref b21)])) t → Steps p.tables e below (s₁.setTop (entryFrame m #[(.int p1), (.int p2)] maxLocals)) t := fun t k => pre26 t (by
    show Steps p.tables e below (T25.setTop (mkF m 118 #[.val (.int p1), .val (.int p2), .val (.ref b1), .unset, .unset, .unset, .unset, .unset, .unset, .unset] [(.ref b21), (.ref b21)])) _
    refine XT.iconstV X25.here hx rfl (3 : Int32) (hb hby at_118) (by decide) ?_
    show Steps p.tables e below (T25.setTop (mkF m 119 #[.val (.int p1), .val (.int p2), .val (.ref b1), .unset, .unset, .unset, .unset, .unset, .unset, .unset] [(.int (3 : Int32)), (.ref b21), (.ref b21)])) _
    refine XT.sipushV X25.here hx rfl (214 : Int32) (hb hby at_119) (by decide) ?_
    show Steps p.tables e below (T25.setTop (mkF m 122 #[.val (.int p1), .val (.int p2), .val (.ref b1), .unset, .unset, .unset, .unset, .unset, .unset, .unset] [(.int (214 : Int32)), (.int (3 : Int32)), (.ref b21), (.ref b21)])) _
    refine st27 _ ?_
    show Steps p.tables e below (T27.setTop (mkF m 123 #[.val (.int p1), .val (.int p2), .val (.ref b1), .unset, .unset, .unset, .unset, .unset, .unset, .unset] [(.ref b21)])) _
    refine XS.dup X27.here hx rfl (hb hby at_123) rfl rfl ?_
    show Steps p.tables e below (T27.setTop (mkF m 124 #[.val (.int p1), .val (.int p2), .val (.ref b1), .unset, .unset, .unset, .unset, .unset, .unset, .unset] [(.ref b21), (.ref b21)])) _
    refine XT.iconstV X27.here hx rfl (4 : Int32) (hb hby at_124) (by decide) ?_
    show Steps p.tables e below (T27.setTop (mkF m 125 #[.val (.int p1), .val (.int p2), .val (.ref b1), .unset, .unset, .unset, .unset, .unset, .unset, .unset] [(.int (4 : Int32)), (.ref b21), (.ref b21)])) _
    refine XT.sipushV X27.here hx rfl (246 : Int32) (hb hby at_125) (by decide) ?_
    show Steps p.tables e below (T27.setTop (mkF m 128 #[.val (.int p1), .val (.int p2), .val (.ref b1), .unset, .unset, .unset, .unset, .unset, .unset, .unset] [(.int (246 : Int32)), (.int (4 : Int32)), (.ref b21), (.ref b21)])) _
    refine st28 _ ?_
    show Steps p.tables e below (T28.setTop (mkF m 129 #[.val (.int p1), .val (.int p2), .val (.ref b1), .unset, .unset, .unset, .unset, .unset, .unset, .unset] [(.ref b21)])) _
    refine XS.dup X28.here hx rfl (hb hby at_129) rfl rfl ?_
    show Steps p.tables e below (T28.setTop (mkF m 130 #[.val (.int p1), .val (.int p2), .val (.ref b1), .unset, .unset, .unset, .unset, .unset, .unset, .unset] [(.ref b21), (.ref b21)])) _
    refine XT.iconstV X28.here hx rfl (5 : Int32) (hb hby at_130) (by decide) ?_
    show Steps p.tables e below (T28.setTop (mkF m 131 #[.val (.int p1), .val (.int p2), .val (.ref b1), .unset, .unset, .unset, .unset, .unset, .unset, .unset] [(.int (5 : Int32)), (.ref b21), (.ref b21)])) _
    refine XT.sipushV X28.here hx rfl (767 : Int32) (hb hby at_131) (by decide) ?_
    show Steps p.tables e below (T28.setTop (mkF m 134 #[.val (.int p1), .val (.int p2), .val (.ref b1), .unset, .unset, .unset, .unset, .unset, .unset, .unset] [(.int (767 : Int32)), (.int (5 : Int32)), (.ref b21), (.ref b21)])) _
    refine st29 _ ?_
    show Steps p.tables e below (T29.setTop (mkF m 135 #[.val (.int p1), .val (.int p2), .val (.ref b1), .unset, .unset, .unset, .unset, .unset, .unset, .unset] [(.ref b21)])) _
    refine XS.dup X29.here hx rfl (hb hby at_135) rfl rfl ?_
    show Steps p.tables e below (T29.setTop (mkF m 136 #[.val (.int p1), .val (.int p2), .val (.ref b1), .unset, .unset, .unset, .unset, .unset, .unset, .unset] [(.ref b21), (.ref b21)])) _
    refine XT.bipushV X29.here hx rfl (6 : Int32) (hb hby at_136) (by decide) ?_
    exact k)
  obtain ⟨cl31, Ar31, q31, S31, n31', H31, G31⟩ := id V29
  have hin31 : ¬ ((6 : Int32) < 0 ∨ cl31.slots.size ≤ ((6 : Int32)).toNatClampNeg) := inb_of S31 ⟨by decide, by decide⟩
  obtain ⟨T31, h31, X31, e31, W31, st31⟩ := stI X29 hx hZ e29 Ar31 (j := (6 : Int32)) hin31 (g := (mkF m 141 #[.val (.int p1), .val (.int p2), .val (.ref b1), .unset, .unset, .unset, .unset, .unset, .unset, .unset] [(.int (893 : Int32)), (.int (6 : Int32)), (.ref b21), (.ref b21)])) rfl rfl (hb hby at_141)
  have V31 : Arv Z h31 b21 k21 .int (15 : Int32) [(.int (90 : Int32)), (.int (95 : Int32)), (.int (122 : Int32)), (.int (214 : Int32)), (.int (246 : Int32)), (.int (767 : Int32)), (.int (893 : Int32)), (.int (0 : Int32)), (.int (0 : Int32)), (.int (0 : Int32)), (.int (0 : Int32)), (.int (0 : Int32)), (.int (0 : Int32)), (.int (0 : Int32)), (.int (0 : Int32))] (.int (0 : Int32)) := Arv.set Ar31 q31 S31 n31' H31 G31 rfl W31 6 rfl (Nat.le_of_ble_eq_true rfl)
  have V31_b1 := V29_b1.other W31 ne_b1_b21
  have O31 := own_ext_wr O29 W31 z_b21
  have N31 := Fr.snoc X31 N29 g_b21
  obtain ⟨cl32, Ar32, q32, S32, n32', H32, G32⟩ := id V31
  have hin32 : ¬ ((7 : Int32) < 0 ∨ cl32.slots.size ≤ ((7 : Int32)).toNatClampNeg) := inb_of S32 ⟨by decide, by decide⟩
  obtain ⟨T32, h32, X32, e32, W32, st32⟩ := stI X31 hx hZ e31 Ar32 (j := (7 : Int32)) hin32 (g := (mkF m 148 #[.val (.int p1), .val (.int p2), .val (.ref b1), .unset, .unset, .unset, .unset, .unset, .unset, .unset] [(.int (8191 : Int32)), (.int (7 : Int32)), (.ref b21), (.ref b21)])) rfl rfl (hb hby at_148)
  have V32 : Arv Z h32 b21 k21 .int (15 : Int32) [(.int (90 : Int32)), (.int (95 : Int32)), (.int (122 : Int32)), (.int (214 : Int32)), (.int (246 : Int32)), (.int (767 : Int32)), (.int (893 : Int32)), (.int (8191 : Int32)), (.int (0 : Int32)), (.int (0 : Int32)), (.int (0 : Int32)), (.int (0 : Int32)), (.int (0 : Int32)), (.int (0 : Int32)), (.int (0 : Int32))] (.int (0 : Int32)) := Arv.set Ar32 q32 S32 n32' H32 G32 rfl W32 7 rfl (Nat.le_of_ble_eq_true rfl)
  have V32_b1 := V31_b1.other W32 ne_b1_b21
  have O32 := own_ext_wr O31 W32 z_b21
  have N32 := Fr.snoc X32 N31 g_b21
  obtain ⟨cl33, Ar33, q33, S33, n33', H33, G33⟩ := id V32
  have hin33 : ¬ ((8 : Int32) < 0 ∨ cl33.slots.size ≤ ((8 : Int32)).toNatClampNeg) := inb_of S33 ⟨by decide, by decide⟩
  obtain ⟨T33, h33, X33, e33, W33, st33⟩ := stI X32 hx hZ e32 Ar33 (j := (8 : Int32)) hin33 (g := (mkF m 155 #[.val (.int p1), .val (.int p2), .val (.ref b1), .unset, .unset, .unset, .unset, .unset, .unset, .unset] [(.int (8205 : Int32)), (.int (8 : Int32)), (.ref b21), (.ref b21)])) rfl rfl (hb hby at_155)
  have V33 : Arv Z h33 b21 k21 .int (15 : Int32) [(.int (90 : Int32)), (.int (95 : Int32)), (.int (122 : Int32)), (.int (214 : Int32)), (.int (246 : Int32)), (.int (767 : Int32)), (.int (893 : Int32)), (.int (8191 : Int32)), (.int (8205 : Int32)), (.int (0 : Int32)), (.int (0 : Int32)), (.int (0 : Int32)), (.int (0 : Int32)), (.int (0 : Int32)), (.int (0 : Int32))] (.int (0 : Int32)) := Arv.set Ar33 q33 S33 n33' H33 G33 rfl W33 8 rfl (Nat.le_of_ble_eq_true rfl)
  have V33_b1 := V32_b1.other W33 ne_b1_b21
  have O33 := own_ext_wr O32 W33 z_b21
  have N33 := Fr.snoc X33 N32 g_b21
  have pre34 : ∀ t, Steps p.tables e below (T33.setTop (mkF m 162 #[.val (.int p1), .val (.int p2), .val (.ref b1), .unset, .unset, .unset, .unset, .unset, .unset, .unset] [(.int (8591 : Int32)), (.int (9 : Int32)), (.ref b21), (.ref b21)])) t → Steps p.tables e below (s₁.setTop (entryFrame m #[(.int p1), (.int p2)] maxLocals)) t := fun t k => pre30 t (by
    show Steps p.tables e below (T29.setTop (mkF m 138 #[.val (.int p1), .val (.int p2), .val (.ref b1), .unset, .unset, .unset, .unset, .unset, .unset, .unset] [(.int (6 : Int32)), (.ref b21), (.ref b21)])) _
    refine XT.sipushV X29.here hx rfl (893 : Int32) (hb hby at_138) (by decide) ?_
    show Steps p.tables e below (T29.setTop (mkF m 141 #[.val (.int p1), .val (.int p2), .val (.ref b1), .unset, .unset, .unset, .unset, .unset, .unset, .unset] [(.int (893 : Int32)), (.int (6 : Int32)), (.ref b21), (.ref b21)])) _
    refine st31 _ ?_
    show Steps p.tables e below (T31.setTop (mkF m 142 #[.val (.int p1), .val (.int p2), .val (.ref b1), .unset, .unset, .unset, .unset, .unset, .unset, .unset] [(.ref b21)])) _
    refine XS.dup X31.here hx rfl (hb hby at_142) rfl rfl ?_
    show Steps p.tables e below (T31.setTop (mkF m 143 #[.val (.int p1), .val (.int p2), .val (.ref b1), .unset, .unset, .unset, .unset, .unset, .unset, .unset] [(.ref b21), (.ref b21)])) _
    refine XT.bipushV X31.here hx rfl (7 : Int32) (hb hby at_143) (by decide) ?_
    show Steps p.tables e below (T31.setTop (mkF m 145 #[.val (.int p1), .val (.int p2), .val (.ref b1), .unset, .unset, .unset, .unset, .unset, .unset, .unset] [(.int (7 : Int32)), (.ref b21), (.ref b21)])) _
    refine XT.sipushV X31.here hx rfl (8191 : Int32) (hb hby at_145) (by decide) ?_
    show Steps p.tables e below (T31.setTop (mkF m 148 #[.val (.int p1), .val (.int p2), .val (.ref b1), .unset, .unset, .unset, .unset, .unset, .unset, .unset] [(.int (8191 : Int32)), (.int (7 : Int32)), (.ref b21), (.ref b21)])) _
    refine st32 _ ?_
    show Steps p.tables e below (T32.setTop (mkF m 149 #[.val (.int p1), .val (.int p2), .val (.ref b1), .unset, .unset, .unset, .unset, .unset, .unset, .unset] [(.ref b21)])) _
    refine XS.dup X32.here hx rfl (hb hby at_149) rfl rfl ?_
    show Steps p.tables e below (T32.setTop (mkF m 150 #[.val (.int p1), .val (.int p2), .val (.ref b1), .unset, .unset, .unset, .unset, .unset, .unset, .unset] [(.ref b21), (.ref b21)])) _
    refine XT.bipushV X32.here hx rfl (8 : Int32) (hb hby at_150) (by decide) ?_
    show Steps p.tables e below (T32.setTop (mkF m 152 #[.val (.int p1), .val (.int p2), .val (.ref b1), .unset, .unset, .unset, .unset, .unset, .unset, .unset] [(.int (8 : Int32)), (.ref b21), (.ref b21)])) _
    refine XT.sipushV X32.here hx rfl (8205 : Int32) (hb hby at_152) (by decide) ?_
    show Steps p.tables e below (T32.setTop (mkF m 155 #[.val (.int p1), .val (.int p2), .val (.ref b1), .unset, .unset, .unset, .unset, .unset, .unset, .unset] [(.int (8205 : Int32)), (.int (8 : Int32)), (.ref b21), (.ref b21)])) _
    refine st33 _ ?_
    show Steps p.tables e below (T33.setTop (mkF m 156 #[.val (.int p1), .val (.int p2), .val (.ref b1), .unset, .unset, .unset, .unset, .unset, .unset, .unset] [(.ref b21)])) _
    refine XS.dup X33.here hx rfl (hb hby at_156) rfl rfl ?_
    show Steps p.tables e below (T33.setTop (mkF m 157 #[.val (.int p1), .val (.int p2), .val (.ref b1), .unset, .unset, .unset, .unset, .unset, .unset, .unset] [(.ref b21), (.ref b21)])) _
    refine XT.bipushV X33.here hx rfl (9 : Int32) (hb hby at_157) (by decide) ?_
    show Steps p.tables e below (T33.setTop (mkF m 159 #[.val (.int p1), .val (.int p2), .val (.ref b1), .unset, .unset, .unset, .unset, .unset, .unset, .unset] [(.int (9 : Int32)), (.ref b21), (.ref b21)])) _
    refine XT.sipushV X33.here hx rfl (8591 : Int32) (hb hby at_159) (by decide) ?_
    exact k)
  obtain ⟨cl35, Ar35, q35, S35, n35', H35, G35⟩ := id V33
  have hin35 : ¬ ((9 : Int32) < 0 ∨ cl35.slots.size ≤ ((9 : Int32)).toNatClampNeg) := inb_of S35 ⟨by decide, by decide⟩
  obtain ⟨T35, h35, X35, e35, W35, st35⟩ := stI X33 hx hZ e33 Ar35 (j := (9 : Int32)) hin35 (g := (mkF m 162 #[.val (.int p1), .val (.int p2), .val (.ref b1), .unset, .unset, .unset, .unset, .unset, .unset, .unset] [(.int (8591 : Int32)), (.int (9 : Int32)), (.ref b21), (.ref b21)])) rfl rfl (hb hby at_162)
  have V35 : Arv Z h35 b21 k21 .int (15 : Int32) [(.int (90 : Int32)), (.int (95 : Int32)), (.int (122 : Int32)), (.int (214 : Int32)), (.int (246 : Int32)), (.int (767 : Int32)), (.int (893 : Int32)), (.int (8191 : Int32)), (.int (8205 : Int32)), (.int (8591 : Int32)), (.int (0 : Int32)), (.int (0 : Int32)), (.int (0 : Int32)), (.int (0 : Int32)), (.int (0 : Int32))] (.int (0 : Int32)) := Arv.set Ar35 q35 S35 n35' H35 G35 rfl W35 9 rfl (Nat.le_of_ble_eq_true rfl)
  have V35_b1 := V33_b1.other W35 ne_b1_b21
  have O35 := own_ext_wr O33 W35 z_b21
  have N35 := Fr.snoc X35 N33 g_b21
  obtain ⟨cl36, Ar36, q36, S36, n36', H36, G36⟩ := id V35
  have hin36 : ¬ ((10 : Int32) < 0 ∨ cl36.slots.size ≤ ((10 : Int32)).toNatClampNeg) := inb_of S36 ⟨by decide, by decide⟩
  obtain ⟨T36, h36, X36, e36, W36, st36⟩ := stI X35 hx hZ e35 Ar36 (j := (10 : Int32)) hin36 (g := (mkF m 169 #[.val (.int p1), .val (.int p2), .val (.ref b1), .unset, .unset, .unset, .unset, .unset, .unset, .unset] [(.int (12271 : Int32)), (.int (10 : Int32)), (.ref b21), (.ref b21)])) rfl rfl (hb hby at_169)
  have V36 : Arv Z h36 b21 k21 .int (15 : Int32) [(.int (90 : Int32)), (.int (95 : Int32)), (.int (122 : Int32)), (.int (214 : Int32)), (.int (246 : Int32)), (.int (767 : Int32)), (.int (893 : Int32)), (.int (8191 : Int32)), (.int (8205 : Int32)), (.int (8591 : Int32)), (.int (12271 : Int32)), (.int (0 : Int32)), (.int (0 : Int32)), (.int (0 : Int32)), (.int (0 : Int32))] (.int (0 : Int32)) := Arv.set Ar36 q36 S36 n36' H36 G36 rfl W36 10 rfl (Nat.le_of_ble_eq_true rfl)
  have V36_b1 := V35_b1.other W36 ne_b1_b21
  have O36 := own_ext_wr O35 W36 z_b21
  have N36 := Fr.snoc X36 N35 g_b21
  obtain ⟨cl37, Ar37, q37, S37, n37', H37, G37⟩ := id V36
  have hin37 : ¬ ((11 : Int32) < 0 ∨ cl37.slots.size ≤ ((11 : Int32)).toNatClampNeg) := inb_of S37 ⟨by decide, by decide⟩
  obtain ⟨T37, h37, X37, e37, W37, st37⟩ := stI X36 hx hZ e36 Ar37 (j := (11 : Int32)) hin37 (g := (mkF m 175 #[.val (.int p1), .val (.int p2), .val (.ref b1), .unset, .unset, .unset, .unset, .unset, .unset, .unset] [(.int (55295 : Int32)), (.int (11 : Int32)), (.ref b21), (.ref b21)])) rfl rfl (hb hby at_175)
  have V37 : Arv Z h37 b21 k21 .int (15 : Int32) [(.int (90 : Int32)), (.int (95 : Int32)), (.int (122 : Int32)), (.int (214 : Int32)), (.int (246 : Int32)), (.int (767 : Int32)), (.int (893 : Int32)), (.int (8191 : Int32)), (.int (8205 : Int32)), (.int (8591 : Int32)), (.int (12271 : Int32)), (.int (55295 : Int32)), (.int (0 : Int32)), (.int (0 : Int32)), (.int (0 : Int32))] (.int (0 : Int32)) := Arv.set Ar37 q37 S37 n37' H37 G37 rfl W37 11 rfl (Nat.le_of_ble_eq_true rfl)
  have V37_b1 := V36_b1.other W37 ne_b1_b21
  have O37 := own_ext_wr O36 W37 z_b21
  have N37 := Fr.snoc X37 N36 g_b21
  obtain ⟨cl38, Ar38, q38, S38, n38', H38, G38⟩ := id V37
  have hin38 : ¬ ((12 : Int32) < 0 ∨ cl38.slots.size ≤ ((12 : Int32)).toNatClampNeg) := inb_of S38 ⟨by decide, by decide⟩
  obtain ⟨T38, h38, X38, e38, W38, st38⟩ := stI X37 hx hZ e37 Ar38 (j := (12 : Int32)) hin38 (g := (mkF m 181 #[.val (.int p1), .val (.int p2), .val (.ref b1), .unset, .unset, .unset, .unset, .unset, .unset, .unset] [(.int (64975 : Int32)), (.int (12 : Int32)), (.ref b21), (.ref b21)])) rfl rfl (hb hby at_181)
  have V38 : Arv Z h38 b21 k21 .int (15 : Int32) [(.int (90 : Int32)), (.int (95 : Int32)), (.int (122 : Int32)), (.int (214 : Int32)), (.int (246 : Int32)), (.int (767 : Int32)), (.int (893 : Int32)), (.int (8191 : Int32)), (.int (8205 : Int32)), (.int (8591 : Int32)), (.int (12271 : Int32)), (.int (55295 : Int32)), (.int (64975 : Int32)), (.int (0 : Int32)), (.int (0 : Int32))] (.int (0 : Int32)) := Arv.set Ar38 q38 S38 n38' H38 G38 rfl W38 12 rfl (Nat.le_of_ble_eq_true rfl)
  have V38_b1 := V37_b1.other W38 ne_b1_b21
  have O38 := own_ext_wr O37 W38 z_b21
  have N38 := Fr.snoc X38 N37 g_b21
  have pre39 : ∀ t, Steps p.tables e below (T38.setTop (mkF m 182 #[.val (.int p1), .val (.int p2), .val (.ref b1), .unset, .unset, .unset, .unset, .unset, .unset, .unset] [(.ref b21)])) t → Steps p.tables e below (s₁.setTop (entryFrame m #[(.int p1), (.int p2)] maxLocals)) t := fun t k => pre34 t (by
    show Steps p.tables e below (T33.setTop (mkF m 162 #[.val (.int p1), .val (.int p2), .val (.ref b1), .unset, .unset, .unset, .unset, .unset, .unset, .unset] [(.int (8591 : Int32)), (.int (9 : Int32)), (.ref b21), (.ref b21)])) _
    refine st35 _ ?_
    show Steps p.tables e below (T35.setTop (mkF m 163 #[.val (.int p1), .val (.int p2), .val (.ref b1), .unset, .unset, .unset, .unset, .unset, .unset, .unset] [(.ref b21)])) _
    refine XS.dup X35.here hx rfl (hb hby at_163) rfl rfl ?_
    show Steps p.tables e below (T35.setTop (mkF m 164 #[.val (.int p1), .val (.int p2), .val (.ref b1), .unset, .unset, .unset, .unset, .unset, .unset, .unset] [(.ref b21), (.ref b21)])) _
    refine XT.bipushV X35.here hx rfl (10 : Int32) (hb hby at_164) (by decide) ?_
    show Steps p.tables e below (T35.setTop (mkF m 166 #[.val (.int p1), .val (.int p2), .val (.ref b1), .unset, .unset, .unset, .unset, .unset, .unset, .unset] [(.int (10 : Int32)), (.ref b21), (.ref b21)])) _
    refine XT.sipushV X35.here hx rfl (12271 : Int32) (hb hby at_166) (by decide) ?_
    show Steps p.tables e below (T35.setTop (mkF m 169 #[.val (.int p1), .val (.int p2), .val (.ref b1), .unset, .unset, .unset, .unset, .unset, .unset, .unset] [(.int (12271 : Int32)), (.int (10 : Int32)), (.ref b21), (.ref b21)])) _
    refine st36 _ ?_
    show Steps p.tables e below (T36.setTop (mkF m 170 #[.val (.int p1), .val (.int p2), .val (.ref b1), .unset, .unset, .unset, .unset, .unset, .unset, .unset] [(.ref b21)])) _
    refine XS.dup X36.here hx rfl (hb hby at_170) rfl rfl ?_
    show Steps p.tables e below (T36.setTop (mkF m 171 #[.val (.int p1), .val (.int p2), .val (.ref b1), .unset, .unset, .unset, .unset, .unset, .unset, .unset] [(.ref b21), (.ref b21)])) _
    refine XT.bipushV X36.here hx rfl (11 : Int32) (hb hby at_171) (by decide) ?_
    show Steps p.tables e below (T36.setTop (mkF m 173 #[.val (.int p1), .val (.int p2), .val (.ref b1), .unset, .unset, .unset, .unset, .unset, .unset, .unset] [(.int (11 : Int32)), (.ref b21), (.ref b21)])) _
    refine X36.ldcInt hx hown (mvT hZ (hw _ (List.mem_of_getElem? (i := 4) rfl))) (g := (mkF m 173 #[.val (.int p1), .val (.int p2), .val (.ref b1), .unset, .unset, .unset, .unset, .unset, .unset, .unset] [(.int (11 : Int32)), (.ref b21), (.ref b21)])) rfl (hb hby at_173) _ ?_
    show Steps p.tables e below (T36.setTop (mkF m 175 #[.val (.int p1), .val (.int p2), .val (.ref b1), .unset, .unset, .unset, .unset, .unset, .unset, .unset] [(.int (55295 : Int32)), (.int (11 : Int32)), (.ref b21), (.ref b21)])) _
    refine st37 _ ?_
    show Steps p.tables e below (T37.setTop (mkF m 176 #[.val (.int p1), .val (.int p2), .val (.ref b1), .unset, .unset, .unset, .unset, .unset, .unset, .unset] [(.ref b21)])) _
    refine XS.dup X37.here hx rfl (hb hby at_176) rfl rfl ?_
    show Steps p.tables e below (T37.setTop (mkF m 177 #[.val (.int p1), .val (.int p2), .val (.ref b1), .unset, .unset, .unset, .unset, .unset, .unset, .unset] [(.ref b21), (.ref b21)])) _
    refine XT.bipushV X37.here hx rfl (12 : Int32) (hb hby at_177) (by decide) ?_
    show Steps p.tables e below (T37.setTop (mkF m 179 #[.val (.int p1), .val (.int p2), .val (.ref b1), .unset, .unset, .unset, .unset, .unset, .unset, .unset] [(.int (12 : Int32)), (.ref b21), (.ref b21)])) _
    refine X37.ldcInt hx hown (mvT hZ (hw _ (List.mem_of_getElem? (i := 5) rfl))) (g := (mkF m 179 #[.val (.int p1), .val (.int p2), .val (.ref b1), .unset, .unset, .unset, .unset, .unset, .unset, .unset] [(.int (12 : Int32)), (.ref b21), (.ref b21)])) rfl (hb hby at_179) _ ?_
    show Steps p.tables e below (T37.setTop (mkF m 181 #[.val (.int p1), .val (.int p2), .val (.ref b1), .unset, .unset, .unset, .unset, .unset, .unset, .unset] [(.int (64975 : Int32)), (.int (12 : Int32)), (.ref b21), (.ref b21)])) _
    refine st38 _ ?_
    exact k)
  obtain ⟨cl40, Ar40, q40, S40, n40', H40, G40⟩ := id V38
  have hin40 : ¬ ((13 : Int32) < 0 ∨ cl40.slots.size ≤ ((13 : Int32)).toNatClampNeg) := inb_of S40 ⟨by decide, by decide⟩
  obtain ⟨T40, h40, X40, e40, W40, st40⟩ := stI X38 hx hZ e38 Ar40 (j := (13 : Int32)) hin40 (g := (mkF m 187 #[.val (.int p1), .val (.int p2), .val (.ref b1), .unset, .unset, .unset, .unset, .unset, .unset, .unset] [(.int (65533 : Int32)), (.int (13 : Int32)), (.ref b21), (.ref b21)])) rfl rfl (hb hby at_187)
  have V40 : Arv Z h40 b21 k21 .int (15 : Int32) [(.int (90 : Int32)), (.int (95 : Int32)), (.int (122 : Int32)), (.int (214 : Int32)), (.int (246 : Int32)), (.int (767 : Int32)), (.int (893 : Int32)), (.int (8191 : Int32)), (.int (8205 : Int32)), (.int (8591 : Int32)), (.int (12271 : Int32)), (.int (55295 : Int32)), (.int (64975 : Int32)), (.int (65533 : Int32)), (.int (0 : Int32))] (.int (0 : Int32)) := Arv.set Ar40 q40 S40 n40' H40 G40 rfl W40 13 rfl (Nat.le_of_ble_eq_true rfl)
  have V40_b1 := V38_b1.other W40 ne_b1_b21
  have O40 := own_ext_wr O38 W40 z_b21
  have N40 := Fr.snoc X40 N38 g_b21
  obtain ⟨cl41, Ar41, q41, S41, n41', H41, G41⟩ := id V40
  have hin41 : ¬ ((14 : Int32) < 0 ∨ cl41.slots.size ≤ ((14 : Int32)).toNatClampNeg) := inb_of S41 ⟨by decide, by decide⟩
  obtain ⟨T41, h41, X41, e41, W41, st41⟩ := stI X40 hx hZ e40 Ar41 (j := (14 : Int32)) hin41 (g := (mkF m 193 #[.val (.int p1), .val (.int p2), .val (.ref b1), .unset, .unset, .unset, .unset, .unset, .unset, .unset] [(.int (983039 : Int32)), (.int (14 : Int32)), (.ref b21), (.ref b21)])) rfl rfl (hb hby at_193)
  have V41 : Arv Z h41 b21 k21 .int (15 : Int32) [(.int (90 : Int32)), (.int (95 : Int32)), (.int (122 : Int32)), (.int (214 : Int32)), (.int (246 : Int32)), (.int (767 : Int32)), (.int (893 : Int32)), (.int (8191 : Int32)), (.int (8205 : Int32)), (.int (8591 : Int32)), (.int (12271 : Int32)), (.int (55295 : Int32)), (.int (64975 : Int32)), (.int (65533 : Int32)), (.int (983039 : Int32))] (.int (0 : Int32)) := Arv.set Ar41 q41 S41 n41' H41 G41 rfl W41 14 rfl (Nat.le_of_ble_eq_true rfl)
  have V41_b1 := V40_b1.other W41 ne_b1_b21
  have O41 := own_ext_wr O40 W41 z_b21
  have N41 := Fr.snoc X41 N40 g_b21
  have pre42 : ∀ t, Steps p.tables e below (T41.setTop (mkF m 201 #[.val (.int p1), .val (.int p2), .val (.ref b1), .val (.ref b21), .unset, .unset, .unset, .unset, .unset, .unset] [(.int (31 : Int32)), (.int (p1 &&& (2147483647 : Int32)))])) t → Steps p.tables e below (s₁.setTop (entryFrame m #[(.int p1), (.int p2)] maxLocals)) t := fun t k => pre39 t (by
    show Steps p.tables e below (T38.setTop (mkF m 182 #[.val (.int p1), .val (.int p2), .val (.ref b1), .unset, .unset, .unset, .unset, .unset, .unset, .unset] [(.ref b21)])) _
    refine XS.dup X38.here hx rfl (hb hby at_182) rfl rfl ?_
    show Steps p.tables e below (T38.setTop (mkF m 183 #[.val (.int p1), .val (.int p2), .val (.ref b1), .unset, .unset, .unset, .unset, .unset, .unset, .unset] [(.ref b21), (.ref b21)])) _
    refine XT.bipushV X38.here hx rfl (13 : Int32) (hb hby at_183) (by decide) ?_
    show Steps p.tables e below (T38.setTop (mkF m 185 #[.val (.int p1), .val (.int p2), .val (.ref b1), .unset, .unset, .unset, .unset, .unset, .unset, .unset] [(.int (13 : Int32)), (.ref b21), (.ref b21)])) _
    refine X38.ldcInt hx hown (mvT hZ (hw _ (List.mem_of_getElem? (i := 6) rfl))) (g := (mkF m 185 #[.val (.int p1), .val (.int p2), .val (.ref b1), .unset, .unset, .unset, .unset, .unset, .unset, .unset] [(.int (13 : Int32)), (.ref b21), (.ref b21)])) rfl (hb hby at_185) _ ?_
    show Steps p.tables e below (T38.setTop (mkF m 187 #[.val (.int p1), .val (.int p2), .val (.ref b1), .unset, .unset, .unset, .unset, .unset, .unset, .unset] [(.int (65533 : Int32)), (.int (13 : Int32)), (.ref b21), (.ref b21)])) _
    refine st40 _ ?_
    show Steps p.tables e below (T40.setTop (mkF m 188 #[.val (.int p1), .val (.int p2), .val (.ref b1), .unset, .unset, .unset, .unset, .unset, .unset, .unset] [(.ref b21)])) _
    refine XS.dup X40.here hx rfl (hb hby at_188) rfl rfl ?_
    show Steps p.tables e below (T40.setTop (mkF m 189 #[.val (.int p1), .val (.int p2), .val (.ref b1), .unset, .unset, .unset, .unset, .unset, .unset, .unset] [(.ref b21), (.ref b21)])) _
    refine XT.bipushV X40.here hx rfl (14 : Int32) (hb hby at_189) (by decide) ?_
    show Steps p.tables e below (T40.setTop (mkF m 191 #[.val (.int p1), .val (.int p2), .val (.ref b1), .unset, .unset, .unset, .unset, .unset, .unset, .unset] [(.int (14 : Int32)), (.ref b21), (.ref b21)])) _
    refine X40.ldcInt hx hown (mvT hZ (hw _ (List.mem_of_getElem? (i := 7) rfl))) (g := (mkF m 191 #[.val (.int p1), .val (.int p2), .val (.ref b1), .unset, .unset, .unset, .unset, .unset, .unset, .unset] [(.int (14 : Int32)), (.ref b21), (.ref b21)])) rfl (hb hby at_191) _ ?_
    show Steps p.tables e below (T40.setTop (mkF m 193 #[.val (.int p1), .val (.int p2), .val (.ref b1), .unset, .unset, .unset, .unset, .unset, .unset, .unset] [(.int (983039 : Int32)), (.int (14 : Int32)), (.ref b21), (.ref b21)])) _
    refine st41 _ ?_
    show Steps p.tables e below (T41.setTop (mkF m 194 #[.val (.int p1), .val (.int p2), .val (.ref b1), .unset, .unset, .unset, .unset, .unset, .unset, .unset] [(.ref b21)])) _
    refine XS.astoreN X41.here hx rfl (hb hby at_194) rfl rfl (l' := #[.val (.int p1), .val (.int p2), .val (.ref b1), .val (.ref b21), .unset, .unset, .unset, .unset, .unset, .unset]) rfl ?_
    show Steps p.tables e below (T41.setTop (mkF m 195 #[.val (.int p1), .val (.int p2), .val (.ref b1), .val (.ref b21), .unset, .unset, .unset, .unset, .unset, .unset] [])) _
    refine XS.iloadN X41.here hx rfl (hb hby at_195) rfl ?_
    show Steps p.tables e below (T41.setTop (mkF m 196 #[.val (.int p1), .val (.int p2), .val (.ref b1), .val (.ref b21), .unset, .unset, .unset, .unset, .unset, .unset] [(.int p1)])) _
    refine X41.ldcInt hx hown (mvT hZ (hw _ (List.mem_of_getElem? (i := 8) rfl))) (g := (mkF m 196 #[.val (.int p1), .val (.int p2), .val (.ref b1), .val (.ref b21), .unset, .unset, .unset, .unset, .unset, .unset] [(.int p1)])) rfl (hb hby at_196) _ ?_
    show Steps p.tables e below (T41.setTop (mkF m 198 #[.val (.int p1), .val (.int p2), .val (.ref b1), .val (.ref b21), .unset, .unset, .unset, .unset, .unset, .unset] [(.int (2147483647 : Int32)), (.int p1)])) _
    refine XS.iand X41.here hx rfl (hb hby at_198) rfl ?_
    show Steps p.tables e below (T41.setTop (mkF m 199 #[.val (.int p1), .val (.int p2), .val (.ref b1), .val (.ref b21), .unset, .unset, .unset, .unset, .unset, .unset] [(.int (p1 &&& (2147483647 : Int32)))])) _
    refine XT.bipushV X41.here hx rfl (31 : Int32) (hb hby at_199) (by decide) ?_
    exact k)
  have pre43 : ∀ t, Steps p.tables e below (T41.setTop (mkF m 202 #[.val (.int p1), .val (.int p2), .val (.ref b1), .val (.ref b21), .unset, .unset, .unset, .unset, .unset, .unset] [(.int ((p1 &&& (2147483647 : Int32)) % (31 : Int32)))])) t → Steps p.tables e below (s₁.setTop (entryFrame m #[(.int p1), (.int p2)] maxLocals)) t := fun t k => pre42 t (by
    show Steps p.tables e below (T41.setTop (mkF m 201 #[.val (.int p1), .val (.int p2), .val (.ref b1), .val (.ref b21), .unset, .unset, .unset, .unset, .unset, .unset] [(.int (31 : Int32)), (.int (p1 &&& (2147483647 : Int32)))])) _
    refine iremM X41 hx rfl (hb hby at_201) rfl (by decide) ?_
    exact k)
  obtain ⟨K, hK, hf⟩ := own_four p1
  rcases hf with ⟨hi1, hi2⟩ | hi | hi | ⟨hi1, hi2⟩
  · have _ := 0
    obtain ⟨cl44, Ar44, q44, S44, n44', H44, G44⟩ := id V41_b1
    have hin44 : ¬ (K < 0 ∨ cl44.slots.size ≤ (K).toNatClampNeg) := inb_of S44 (own_inb hi1)
    have hat44 : cl44.slots[(K).toNatClampNeg]? = some (.int (own_lo K)) := Has.at H44 hin44 (own_loat hi1)
    have pre45 : ∀ t, Steps p.tables e below (T41.setTop (mkF m 222 #[.val (.int p1), .val (.int p2), .val (.ref b1), .val (.ref b21), .val (.int K), .unset, .unset, .unset, .unset, .unset] [(.int K), (.ref b21), (.int (p2 &&& (2147483647 : Int32))), (.int (own_lo K))])) t → Steps p.tables e below (s₁.setTop (entryFrame m #[(.int p1), (.int p2)] maxLocals)) t := fun t k => pre43 t (by
      show Steps p.tables e below (T41.setTop (mkF m 202 #[.val (.int p1), .val (.int p2), .val (.ref b1), .val (.ref b21), .unset, .unset, .unset, .unset, .unset, .unset] [(.int ((p1 &&& (2147483647 : Int32)) % (31 : Int32)))])) _
      refine castTop (g' := (mkF m 202 #[.val (.int p1), .val (.int p2), .val (.ref b1), .val (.ref b21), .unset, .unset, .unset, .unset, .unset, .unset] [(.int K)])) (by rw [← hK]) ?_
      show Steps p.tables e below (T41.setTop (mkF m 202 #[.val (.int p1), .val (.int p2), .val (.ref b1), .val (.ref b21), .unset, .unset, .unset, .unset, .unset, .unset] [(.int K)])) _
      refine XS.istore X41.here hx rfl (hb hby at_202) rfl (l' := #[.val (.int p1), .val (.int p2), .val (.ref b1), .val (.ref b21), .val (.int K), .unset, .unset, .unset, .unset, .unset]) rfl ?_
      show Steps p.tables e below (T41.setTop (mkF m 204 #[.val (.int p1), .val (.int p2), .val (.ref b1), .val (.ref b21), .val (.int K), .unset, .unset, .unset, .unset, .unset] [])) _
      refine XS.iload X41.here hx rfl (hb hby at_204) rfl ?_
      show Steps p.tables e below (T41.setTop (mkF m 206 #[.val (.int p1), .val (.int p2), .val (.ref b1), .val (.ref b21), .val (.int K), .unset, .unset, .unset, .unset, .unset] [(.int K)])) _
      refine XT.bipushV X41.here hx rfl (15 : Int32) (hb hby at_206) (by decide) ?_
      show Steps p.tables e below (T41.setTop (mkF m 208 #[.val (.int p1), .val (.int p2), .val (.ref b1), .val (.ref b21), .val (.int K), .unset, .unset, .unset, .unset, .unset] [(.int (15 : Int32)), (.int K)])) _
      refine XS.icmpNo X41.here hx rfl (hb hby at_208) rfl (tlt hi2).2.1 ?_
      show Steps p.tables e below (T41.setTop (mkF m 211 #[.val (.int p1), .val (.int p2), .val (.ref b1), .val (.ref b21), .val (.int K), .unset, .unset, .unset, .unset, .unset] [])) _
      refine XS.aloadN X41.here hx rfl (hb hby at_211) rfl rfl ?_
      show Steps p.tables e below (T41.setTop (mkF m 212 #[.val (.int p1), .val (.int p2), .val (.ref b1), .val (.ref b21), .val (.int K), .unset, .unset, .unset, .unset, .unset] [(.ref b1)])) _
      refine XS.iload X41.here hx rfl (hb hby at_212) rfl ?_
      show Steps p.tables e below (T41.setTop (mkF m 214 #[.val (.int p1), .val (.int p2), .val (.ref b1), .val (.ref b21), .val (.int K), .unset, .unset, .unset, .unset, .unset] [(.int K), (.ref b1)])) _
      refine X41.iaload hx (j := K) (v := (.int (own_lo K))) (by rw [e41]; exact Ar44.1) (State.isArrayOf_alike hZ.alike Ar44.2.1) Ar44.2.2 hin44 hat44 (g := (mkF m 214 #[.val (.int p1), .val (.int p2), .val (.ref b1), .val (.ref b21), .val (.int K), .unset, .unset, .unset, .unset, .unset] [(.int K), (.ref b1)])) rfl rfl (hb hby at_214) _ ?_
      show Steps p.tables e below (T41.setTop (mkF m 215 #[.val (.int p1), .val (.int p2), .val (.ref b1), .val (.ref b21), .val (.int K), .unset, .unset, .unset, .unset, .unset] [(.int (own_lo K))])) _
      refine XS.iloadN X41.here hx rfl (hb hby at_215) rfl ?_
      show Steps p.tables e below (T41.setTop (mkF m 216 #[.val (.int p1), .val (.int p2), .val (.ref b1), .val (.ref b21), .val (.int K), .unset, .unset, .unset, .unset, .unset] [(.int p2), (.int (own_lo K))])) _
      refine X41.ldcInt hx hown (mvT hZ (hw _ (List.mem_of_getElem? (i := 8) rfl))) (g := (mkF m 216 #[.val (.int p1), .val (.int p2), .val (.ref b1), .val (.ref b21), .val (.int K), .unset, .unset, .unset, .unset, .unset] [(.int p2), (.int (own_lo K))])) rfl (hb hby at_216) _ ?_
      show Steps p.tables e below (T41.setTop (mkF m 218 #[.val (.int p1), .val (.int p2), .val (.ref b1), .val (.ref b21), .val (.int K), .unset, .unset, .unset, .unset, .unset] [(.int (2147483647 : Int32)), (.int p2), (.int (own_lo K))])) _
      refine XS.iand X41.here hx rfl (hb hby at_218) rfl ?_
      show Steps p.tables e below (T41.setTop (mkF m 219 #[.val (.int p1), .val (.int p2), .val (.ref b1), .val (.ref b21), .val (.int K), .unset, .unset, .unset, .unset, .unset] [(.int (p2 &&& (2147483647 : Int32))), (.int (own_lo K))])) _
      refine XS.aloadN X41.here hx rfl (hb hby at_219) rfl rfl ?_
      show Steps p.tables e below (T41.setTop (mkF m 220 #[.val (.int p1), .val (.int p2), .val (.ref b1), .val (.ref b21), .val (.int K), .unset, .unset, .unset, .unset, .unset] [(.ref b21), (.int (p2 &&& (2147483647 : Int32))), (.int (own_lo K))])) _
      refine XS.iload X41.here hx rfl (hb hby at_220) rfl ?_
      exact k)
    obtain ⟨cl46, Ar46, q46, S46, n46', H46, G46⟩ := id V41
    have hin46 : ¬ (K < 0 ∨ cl46.slots.size ≤ (K).toNatClampNeg) := inb_of S46 (own_inb hi1)
    have hat46 : cl46.slots[(K).toNatClampNeg]? = some (.int (own_hi K)) := Has.at H46 hin46 (own_hiat hi1)
    obtain ⟨cl47, Ar47, q47, S47, n47', H47, G47⟩ := id V41_b1
    have hin47 : ¬ (K < 0 ∨ cl47.slots.size ≤ (K).toNatClampNeg) := inb_of S47 (own_inb hi1)
    have hat47 : cl47.slots[(K).toNatClampNeg]? = some (.int (own_lo K)) := Has.at H47 hin47 (own_loat hi1)
    have pre48 : ∀ t, Steps p.tables e below (T41.setTop (mkF m 319 #[.val (.int p1), .val (.int p2), .val (.ref b1), .val (.ref b21), .val (.int K), .val (.int ((own_lo K) + ((p2 &&& (2147483647 : Int32)) % (((own_hi K) - (own_lo K)) + (1 : Int32))))), .val (.int (1 : Int32)), .unset, .unset, .unset] [])) t → Steps p.tables e below (s₁.setTop (entryFrame m #[(.int p1), (.int p2)] maxLocals)) t := fun t k => pre45 t (by
      show Steps p.tables e below (T41.setTop (mkF m 222 #[.val (.int p1), .val (.int p2), .val (.ref b1), .val (.ref b21), .val (.int K), .unset, .unset, .unset, .unset, .unset] [(.int K), (.ref b21), (.int (p2 &&& (2147483647 : Int32))), (.int (own_lo K))])) _
      refine X41.iaload hx (j := K) (v := (.int (own_hi K))) (by rw [e41]; exact Ar46.1) (State.isArrayOf_alike hZ.alike Ar46.2.1) Ar46.2.2 hin46 hat46 (g := (mkF m 222 #[.val (.int p1), .val (.int p2), .val (.ref b1), .val (.ref b21), .val (.int K), .unset, .unset, .unset, .unset, .unset] [(.int K), (.ref b21), (.int (p2 &&& (2147483647 : Int32))), (.int (own_lo K))])) rfl rfl (hb hby at_222) _ ?_
      show Steps p.tables e below (T41.setTop (mkF m 223 #[.val (.int p1), .val (.int p2), .val (.ref b1), .val (.ref b21), .val (.int K), .unset, .unset, .unset, .unset, .unset] [(.int (own_hi K)), (.int (p2 &&& (2147483647 : Int32))), (.int (own_lo K))])) _
      refine XS.aloadN X41.here hx rfl (hb hby at_223) rfl rfl ?_
      show Steps p.tables e below (T41.setTop (mkF m 224 #[.val (.int p1), .val (.int p2), .val (.ref b1), .val (.ref b21), .val (.int K), .unset, .unset, .unset, .unset, .unset] [(.ref b1), (.int (own_hi K)), (.int (p2 &&& (2147483647 : Int32))), (.int (own_lo K))])) _
      refine XS.iload X41.here hx rfl (hb hby at_224) rfl ?_
      show Steps p.tables e below (T41.setTop (mkF m 226 #[.val (.int p1), .val (.int p2), .val (.ref b1), .val (.ref b21), .val (.int K), .unset, .unset, .unset, .unset, .unset] [(.int K), (.ref b1), (.int (own_hi K)), (.int (p2 &&& (2147483647 : Int32))), (.int (own_lo K))])) _
      refine X41.iaload hx (j := K) (v := (.int (own_lo K))) (by rw [e41]; exact Ar47.1) (State.isArrayOf_alike hZ.alike Ar47.2.1) Ar47.2.2 hin47 hat47 (g := (mkF m 226 #[.val (.int p1), .val (.int p2), .val (.ref b1), .val (.ref b21), .val (.int K), .unset, .unset, .unset, .unset, .unset] [(.int K), (.ref b1), (.int (own_hi K)), (.int (p2 &&& (2147483647 : Int32))), (.int (own_lo K))])) rfl rfl (hb hby at_226) _ ?_
      show Steps p.tables e below (T41.setTop (mkF m 227 #[.val (.int p1), .val (.int p2), .val (.ref b1), .val (.ref b21), .val (.int K), .unset, .unset, .unset, .unset, .unset] [(.int (own_lo K)), (.int (own_hi K)), (.int (p2 &&& (2147483647 : Int32))), (.int (own_lo K))])) _
      refine XS.isub X41.here hx rfl (hb hby at_227) rfl ?_
      show Steps p.tables e below (T41.setTop (mkF m 228 #[.val (.int p1), .val (.int p2), .val (.ref b1), .val (.ref b21), .val (.int K), .unset, .unset, .unset, .unset, .unset] [(.int ((own_hi K) - (own_lo K))), (.int (p2 &&& (2147483647 : Int32))), (.int (own_lo K))])) _
      refine XT.iconstV X41.here hx rfl (1 : Int32) (hb hby at_228) (by decide) ?_
      show Steps p.tables e below (T41.setTop (mkF m 229 #[.val (.int p1), .val (.int p2), .val (.ref b1), .val (.ref b21), .val (.int K), .unset, .unset, .unset, .unset, .unset] [(.int (1 : Int32)), (.int ((own_hi K) - (own_lo K))), (.int (p2 &&& (2147483647 : Int32))), (.int (own_lo K))])) _
      refine XS.iadd X41.here hx rfl (hb hby at_229) rfl ?_
      show Steps p.tables e below (T41.setTop (mkF m 230 #[.val (.int p1), .val (.int p2), .val (.ref b1), .val (.ref b21), .val (.int K), .unset, .unset, .unset, .unset, .unset] [(.int (((own_hi K) - (own_lo K)) + (1 : Int32))), (.int (p2 &&& (2147483647 : Int32))), (.int (own_lo K))])) _
      refine iremM X41 hx rfl (hb hby at_230) rfl (own_nz hi1) ?_
      show Steps p.tables e below (T41.setTop (mkF m 231 #[.val (.int p1), .val (.int p2), .val (.ref b1), .val (.ref b21), .val (.int K), .unset, .unset, .unset, .unset, .unset] [(.int ((p2 &&& (2147483647 : Int32)) % (((own_hi K) - (own_lo K)) + (1 : Int32)))), (.int (own_lo K))])) _
      refine XS.iadd X41.here hx rfl (hb hby at_231) rfl ?_
      show Steps p.tables e below (T41.setTop (mkF m 232 #[.val (.int p1), .val (.int p2), .val (.ref b1), .val (.ref b21), .val (.int K), .unset, .unset, .unset, .unset, .unset] [(.int ((own_lo K) + ((p2 &&& (2147483647 : Int32)) % (((own_hi K) - (own_lo K)) + (1 : Int32)))))])) _
      refine XS.istore X41.here hx rfl (hb hby at_232) rfl (l' := #[.val (.int p1), .val (.int p2), .val (.ref b1), .val (.ref b21), .val (.int K), .val (.int ((own_lo K) + ((p2 &&& (2147483647 : Int32)) % (((own_hi K) - (own_lo K)) + (1 : Int32))))), .unset, .unset, .unset, .unset]) rfl ?_
      show Steps p.tables e below (T41.setTop (mkF m 234 #[.val (.int p1), .val (.int p2), .val (.ref b1), .val (.ref b21), .val (.int K), .val (.int ((own_lo K) + ((p2 &&& (2147483647 : Int32)) % (((own_hi K) - (own_lo K)) + (1 : Int32))))), .unset, .unset, .unset, .unset] [])) _
      refine XT.iconstV X41.here hx rfl (1 : Int32) (hb hby at_234) (by decide) ?_
      show Steps p.tables e below (T41.setTop (mkF m 235 #[.val (.int p1), .val (.int p2), .val (.ref b1), .val (.ref b21), .val (.int K), .val (.int ((own_lo K) + ((p2 &&& (2147483647 : Int32)) % (((own_hi K) - (own_lo K)) + (1 : Int32))))), .unset, .unset, .unset, .unset] [(.int (1 : Int32))])) _
      refine XS.istore X41.here hx rfl (hb hby at_235) rfl (l' := #[.val (.int p1), .val (.int p2), .val (.ref b1), .val (.ref b21), .val (.int K), .val (.int ((own_lo K) + ((p2 &&& (2147483647 : Int32)) % (((own_hi K) - (own_lo K)) + (1 : Int32))))), .val (.int (1 : Int32)), .unset, .unset, .unset]) rfl ?_
      show Steps p.tables e below (T41.setTop (mkF m 237 #[.val (.int p1), .val (.int p2), .val (.ref b1), .val (.ref b21), .val (.int K), .val (.int ((own_lo K) + ((p2 &&& (2147483647 : Int32)) % (((own_hi K) - (own_lo K)) + (1 : Int32))))), .val (.int (1 : Int32)), .unset, .unset, .unset] [])) _
      refine XS.goto X41.here hx rfl (pc0 := 237) (pc' := 319) rfl (hb hby at_237) (by decide) (by decide) ?_
      exact k)
    obtain ⟨_, _, ⟨T49, L49, k49, n49⟩, -, X49, ⟨Lc49, hQ49, l49, y49, z49⟩, st49⟩ := Jvm.LawKit.callS X41 hx (y := (⟨"org/beanpath/model/PathSyntax", "isNameStart", "(I)Z"⟩ : MethodName)) hown (mvT hZ (hw _ (List.mem_of_getElem? (i := 9) rfl))) (mvT hZ (hw _ (List.mem_of_getElem? (i := 10) rfl))) (mvT hZ (hw _ (List.mem_of_getElem? (i := 11) rfl))) (mvT hZ (hw _ (List.mem_of_getElem? (i := 12) rfl))) (by decide) (backOf (W := 0) (rm_start l Z a0 hw [] ((own_lo K) + ((p2 &&& (2147483647 : Int32)) % (((own_hi K) - (own_lo K)) + (1 : Int32)))) h41 n0 (Nat.le_trans Z0 O41.1) (1 : Int32) (own_yes p2 hi1)) hZ (hw _ (List.mem_of_getElem? (i := 12) rfl)) (hw _ (List.mem_of_getElem? (i := 11) rfl)) (by decide) (by decide)) (g := (mkF m 321 #[.val (.int p1), .val (.int p2), .val (.ref b1), .val (.ref b21), .val (.int K), .val (.int ((own_lo K) + ((p2 &&& (2147483647 : Int32)) % (((own_hi K) - (own_lo K)) + (1 : Int32))))), .val (.int (1 : Int32)), .unset, .unset, .unset] [(.int ((own_lo K) + ((p2 &&& (2147483647 : Int32)) % (((own_hi K) - (own_lo K)) + (1 : Int32)))))])) rfl (by rw [hml]; rfl) (argsL := [(.int ((own_lo K) + ((p2 &&& (2147483647 : Int32)) % (((own_hi K) - (own_lo K)) + (1 : Int32)))))]) (rest := []) (lenOf pd_0 rfl) rfl (by show 2 * 0 + _ ≤ _; exact Nat.le_of_eq rfl) (hb hby at_321) (fun _ _ => ⟨rfl, e41, (by decide : 2 + 0 ≤ _), (by decide : 30 + 0 ≤ _)⟩)
    dsimp only [Pt.U, Pt.locs, Pt.cells, Pt.slots] at X49 l49 y49 z49 st49 hQ49
    rw [y49, z49] at X49
    obtain ⟨rfl, N49q, e49⟩ := hQ49
    have N49 : Fr n0 L49 := by rw [l49]; exact Fr.app N41 N49q
    have pre50 : ∀ t, Steps p.tables e below (T49.setTop (mkF m 334 #[.val (.int p1), .val (.int p2), .val (.ref b1), .val (.ref b21), .val (.int K), .val (.int ((own_lo K) + ((p2 &&& (2147483647 : Int32)) % (((own_hi K) - (own_lo K)) + (1 : Int32))))), .val (.int (1 : Int32)), .unset, .unset, .unset] [(.int (1 : Int32))])) t → Steps p.tables e below (s₁.setTop (entryFrame m #[(.int p1), (.int p2)] maxLocals)) t := fun t k => pre48 t (by
      show Steps p.tables e below (T41.setTop (mkF m 319 #[.val (.int p1), .val (.int p2), .val (.ref b1), .val (.ref b21), .val (.int K), .val (.int ((own_lo K) + ((p2 &&& (2147483647 : Int32)) % (((own_hi K) - (own_lo K)) + (1 : Int32))))), .val (.int (1 : Int32)), .unset, .unset, .unset] [])) _
      refine XS.iload X41.here hx rfl (hb hby at_319) rfl ?_
      show Steps p.tables e below (T41.setTop (mkF m 321 #[.val (.int p1), .val (.int p2), .val (.ref b1), .val (.ref b21), .val (.int K), .val (.int ((own_lo K) + ((p2 &&& (2147483647 : Int32)) % (((own_hi K) - (own_lo K)) + (1 : Int32))))), .val (.int (1 : Int32)), .unset, .unset, .unset] [(.int ((own_lo K) + ((p2 &&& (2147483647 : Int32)) % (((own_hi K) - (own_lo K)) + (1 : Int32)))))])) _
      refine st49 _ ?_
      show Steps p.tables e below (T49.setTop (mkF m 324 #[.val (.int p1), .val (.int p2), .val (.ref b1), .val (.ref b21), .val (.int K), .val (.int ((own_lo K) + ((p2 &&& (2147483647 : Int32)) % (((own_hi K) - (own_lo K)) + (1 : Int32))))), .val (.int (1 : Int32)), .unset, .unset, .unset] [(.int (1 : Int32))])) _
      refine XS.iload X49.here hx rfl (hb hby at_324) rfl ?_
      show Steps p.tables e below (T49.setTop (mkF m 326 #[.val (.int p1), .val (.int p2), .val (.ref b1), .val (.ref b21), .val (.int K), .val (.int ((own_lo K) + ((p2 &&& (2147483647 : Int32)) % (((own_hi K) - (own_lo K)) + (1 : Int32))))), .val (.int (1 : Int32)), .unset, .unset, .unset] [(.int (1 : Int32)), (.int (1 : Int32))])) _
      refine XS.icmpNo X49.here hx rfl (hb hby at_326) rfl (teq (by decide : ((1 : Int32) = (1 : Int32)))).2 ?_
      show Steps p.tables e below (T49.setTop (mkF m 329 #[.val (.int p1), .val (.int p2), .val (.ref b1), .val (.ref b21), .val (.int K), .val (.int ((own_lo K) + ((p2 &&& (2147483647 : Int32)) % (((own_hi K) - (own_lo K)) + (1 : Int32))))), .val (.int (1 : Int32)), .unset, .unset, .unset] [])) _
      refine XT.iconstV X49.here hx rfl (1 : Int32) (hb hby at_329) (by decide) ?_
      show Steps p.tables e below (T49.setTop (mkF m 330 #[.val (.int p1), .val (.int p2), .val (.ref b1), .val (.ref b21), .val (.int K), .val (.int ((own_lo K) + ((p2 &&& (2147483647 : Int32)) % (((own_hi K) - (own_lo K)) + (1 : Int32))))), .val (.int (1 : Int32)), .unset, .unset, .unset] [(.int (1 : Int32))])) _
      refine XS.goto X49.here hx rfl (pc0 := 330) (pc' := 334) rfl (hb hby at_330) (by decide) (by decide) ?_
      exact k)
    obtain ⟨fs, hr, hrun, hended, hW, hsame⟩ := X49.leave (v := some (.int (1 : Int32))) (fun h => by rw [Bd.returns] at h; cases h)
    refine ⟨_, _, pre50 _ ?_, hrun, hended, _, _, rfl, ?_, ⟨_, rfl⟩, hW, hsame.mono (by decide) (by decide)⟩
    · show Steps p.tables e below (T49.setTop (mkF m 334 #[.val (.int p1), .val (.int p2), .val (.ref b1), .val (.ref b21), .val (.int K), .val (.int ((own_lo K) + ((p2 &&& (2147483647 : Int32)) % (((own_hi K) - (own_lo K)) + (1 : Int32))))), .val (.int (1 : Int32)), .unset, .unset, .unset] [(.int (1 : Int32))])) _
      exact retOut X49 hx Bd.returns rfl (Or.inl ⟨rfl, by simp, _, rfl⟩) (hb hby at_334) hr
    · show Q0 Z p1 p2  h0 n0 _ T49.heap _
      rw [e49]
      exact ⟨rfl, N49⟩
  · have _ := 0
    have pre51 : ∀ t, Steps p.tables e below (T41.setTop (mkF m 252 #[.val (.int p1), .val (.int p2), .val (.ref b1), .val (.ref b21), .val (.int (15 : Int32)), .unset, .val (.int (0 : Int32)), .val (.int (0 : Int32)), .unset, .unset] [(.int (0 : Int32))])) t → Steps p.tables e below (s₁.setTop (entryFrame m #[(.int p1), (.int p2)] maxLocals)) t := fun t k => pre43 t (by
      show Steps p.tables e below (T41.setTop (mkF m 202 #[.val (.int p1), .val (.int p2), .val (.ref b1), .val (.ref b21), .unset, .unset, .unset, .unset, .unset, .unset] [(.int ((p1 &&& (2147483647 : Int32)) % (31 : Int32)))])) _
      refine castTop (g' := (mkF m 202 #[.val (.int p1), .val (.int p2), .val (.ref b1), .val (.ref b21), .unset, .unset, .unset, .unset, .unset, .unset] [(.int (15 : Int32))])) (by rw [← hK, hi]) ?_
      show Steps p.tables e below (T41.setTop (mkF m 202 #[.val (.int p1), .val (.int p2), .val (.ref b1), .val (.ref b21), .unset, .unset, .unset, .unset, .unset, .unset] [(.int (15 : Int32))])) _
      refine XS.istore X41.here hx rfl (hb hby at_202) rfl (l' := #[.val (.int p1), .val (.int p2), .val (.ref b1), .val (.ref b21), .val (.int (15 : Int32)), .unset, .unset, .unset, .unset, .unset]) rfl ?_
      show Steps p.tables e below (T41.setTop (mkF m 204 #[.val (.int p1), .val (.int p2), .val (.ref b1), .val (.ref b21), .val (.int (15 : Int32)), .unset, .unset, .unset, .unset, .unset] [])) _
      refine XS.iload X41.here hx rfl (hb hby at_204) rfl ?_
      show Steps p.tables e below (T41.setTop (mkF m 206 #[.val (.int p1), .val (.int p2), .val (.ref b1), .val (.ref b21), .val (.int (15 : Int32)), .unset, .unset, .unset, .unset, .unset] [(.int (15 : Int32))])) _
      refine XT.bipushV X41.here hx rfl (15 : Int32) (hb hby at_206) (by decide) ?_
      show Steps p.tables e below (T41.setTop (mkF m 208 #[.val (.int p1), .val (.int p2), .val (.ref b1), .val (.ref b21), .val (.int (15 : Int32)), .unset, .unset, .unset, .unset, .unset] [(.int (15 : Int32)), (.int (15 : Int32))])) _
      refine XS.icmpYes X41.here hx rfl (pc0 := 208) (pc' := 240) rfl (hb hby at_208) rfl (flt (by decide : ¬ ((15 : Int32) < (15 : Int32)))).2.1 (by decide) (by decide) ?_
      show Steps p.tables e below (T41.setTop (mkF m 240 #[.val (.int p1), .val (.int p2), .val (.ref b1), .val (.ref b21), .val (.int (15 : Int32)), .unset, .unset, .unset, .unset, .unset] [])) _
      refine XS.iload X41.here hx rfl (hb hby at_240) rfl ?_
      show Steps p.tables e below (T41.setTop (mkF m 242 #[.val (.int p1), .val (.int p2), .val (.ref b1), .val (.ref b21), .val (.int (15 : Int32)), .unset, .unset, .unset, .unset, .unset] [(.int (15 : Int32))])) _
      refine XT.bipushV X41.here hx rfl (15 : Int32) (hb hby at_242) (by decide) ?_
      show Steps p.tables e below (T41.setTop (mkF m 244 #[.val (.int p1), .val (.int p2), .val (.ref b1), .val (.ref b21), .val (.int (15 : Int32)), .unset, .unset, .unset, .unset, .unset] [(.int (15 : Int32)), (.int (15 : Int32))])) _
      refine XS.isub X41.here hx rfl (hb hby at_244) rfl ?_
      show Steps p.tables e below (T41.setTop (mkF m 245 #[.val (.int p1), .val (.int p2), .val (.ref b1), .val (.ref b21), .val (.int (15 : Int32)), .unset, .unset, .unset, .unset, .unset] [(.int ((15 : Int32) - (15 : Int32)))])) _
      refine castTop (g' := (mkF m 245 #[.val (.int p1), .val (.int p2), .val (.ref b1), .val (.ref b21), .val (.int (15 : Int32)), .unset, .unset, .unset, .unset, .unset] [(.int (0 : Int32))])) (by rw [(by decide : ((15 : Int32) - (15 : Int32)) = (0 : Int32))]) ?_
      show Steps p.tables e below (T41.setTop (mkF m 245 #[.val (.int p1), .val (.int p2), .val (.ref b1), .val (.ref b21), .val (.int (15 : Int32)), .unset, .unset, .unset, .unset, .unset] [(.int (0 : Int32))])) _
      refine XS.istore X41.here hx rfl (hb hby at_245) rfl (l' := #[.val (.int p1), .val (.int p2), .val (.ref b1), .val (.ref b21), .val (.int (15 : Int32)), .unset, .unset, .val (.int (0 : Int32)), .unset, .unset]) rfl ?_
      show Steps p.tables e below (T41.setTop (mkF m 247 #[.val (.int p1), .val (.int p2), .val (.ref b1), .val (.ref b21), .val (.int (15 : Int32)), .unset, .unset, .val (.int (0 : Int32)), .unset, .unset] [])) _
      refine XT.iconstV X41.here hx rfl (0 : Int32) (hb hby at_247) (by decide) ?_
      show Steps p.tables e below (T41.setTop (mkF m 248 #[.val (.int p1), .val (.int p2), .val (.ref b1), .val (.ref b21), .val (.int (15 : Int32)), .unset, .unset, .val (.int (0 : Int32)), .unset, .unset] [(.int (0 : Int32))])) _
      refine XS.istore X41.here hx rfl (hb hby at_248) rfl (l' := #[.val (.int p1), .val (.int p2), .val (.ref b1), .val (.ref b21), .val (.int (15 : Int32)), .unset, .val (.int (0 : Int32)), .val (.int (0 : Int32)), .unset, .unset]) rfl ?_
      show Steps p.tables e below (T41.setTop (mkF m 250 #[.val (.int p1), .val (.int p2), .val (.ref b1), .val (.ref b21), .val (.int (15 : Int32)), .unset, .val (.int (0 : Int32)), .val (.int (0 : Int32)), .unset, .unset] [])) _
      refine XS.iload X41.here hx rfl (hb hby at_250) rfl ?_
      exact k)
    obtain ⟨_, _, ⟨T52, L52, k52, n52⟩, -, X52, ⟨Lc52, hQ52, l52, y52, z52⟩, st52⟩ := Jvm.LawKit.callS X41 hx (y := (⟨"java/lang/Math", "min", "(II)I"⟩ : MethodName)) hown (mvT hZ (hw _ (List.mem_of_getElem? (i := 20) rfl))) (mvT hZ (hw _ (List.mem_of_getElem? (i := 21) rfl))) (mvT hZ (hw _ (List.mem_of_getElem? (i := 22) rfl))) (mvT hZ (hw _ (List.mem_of_getElem? (i := 23) rfl))) (by decide) (backOf (W := 0) (rm_min l Z a0 hw [] p2 (64 : Int32) h41 n0 (Nat.le_trans Z0 O41.1)) hZ (hw _ (List.mem_of_getElem? (i := 23) rfl)) (hw _ (List.mem_of_getElem? (i := 22) rfl)) (by decide) (by decide)) (g := (mkF m 258 #[.val (.int p1), .val (.int p2), .val (.ref b1), .val (.ref b21), .val (.int (15 : Int32)), .unset, .val (.int (0 : Int32)), .val (.int (0 : Int32)), .unset, .unset] [(.int (64 : Int32)), (.int p2)])) rfl (by rw [hml]; rfl) (argsL := [(.int p2), (.int (64 : Int32))]) (rest := []) (lenOf pd_1 rfl) rfl (by show 2 * 0 + _ ≤ _; exact Nat.le_of_eq rfl) (hb hby at_258) (fun _ _ => ⟨rfl, e41, (by decide : 2 + 0 ≤ _), (by decide : 30 + 0 ≤ _)⟩)
    dsimp only [Pt.U, Pt.locs, Pt.cells, Pt.slots] at X52 l52 y52 z52 st52 hQ52
    rw [y52, z52] at X52
    obtain ⟨rfl, N52q, e52⟩ := hQ52
    have N52 : Fr n0 L52 := by rw [l52]; exact Fr.app N41 N52q
    obtain ⟨_, _, ⟨T53, L53, k53, n53⟩, -, X53, ⟨Lc53, hQ53, l53, y53, z53⟩, st53⟩ := Jvm.LawKit.callS X52 hx (y := (⟨"org/beanpath/model/PathSyntax", "isNameStart", "(I)Z"⟩ : MethodName)) hown (mvT hZ (hw _ (List.mem_of_getElem? (i := 9) rfl))) (mvT hZ (hw _ (List.mem_of_getElem? (i := 10) rfl))) (mvT hZ (hw _ (List.mem_of_getElem? (i := 11) rfl))) (mvT hZ (hw _ (List.mem_of_getElem? (i := 12) rfl))) (by decide) (backOf (W := 0) (rm_start l Z a0 hw [] (own_min p2 (64 : Int32)) h41 n0 (Nat.le_trans Z0 O41.1) (0 : Int32) (own_n0 (own_minb p2))) hZ (hw _ (List.mem_of_getElem? (i := 12) rfl)) (hw _ (List.mem_of_getElem? (i := 11) rfl)) (by decide) (by decide)) (g := (mkF m 321 #[.val (.int p1), .val (.int p2), .val (.ref b1), .val (.ref b21), .val (.int (15 : Int32)), .val (.int (own_min p2 (64 : Int32))), .val (.int (0 : Int32)), .val (.int (0 : Int32)), .unset, .unset] [(.int (own_min p2 (64 : Int32)))])) rfl (by rw [hml]; rfl) (argsL := [(.int (own_min p2 (64 : Int32)))]) (rest := []) (lenOf pd_0 rfl) rfl (by show 2 * 0 + _ ≤ _; exact Nat.le_of_eq rfl) (hb hby at_321) (fun _ _ => ⟨rfl, e52, (by decide : 2 + 0 ≤ _), (by decide : 30 + 0 ≤ _)⟩)
    dsimp only [Pt.U, Pt.locs, Pt.cells, Pt.slots] at X53 l53 y53 z53 st53 hQ53
    rw [y53, z53] at X53
    obtain ⟨rfl, N53q, e53⟩ := hQ53
    have N53 : Fr n0 L53 := by rw [l53]; exact Fr.app N52 N53q
    have pre54 : ∀ t, Steps p.tables e below (T53.setTop (mkF m 334 #[.val (.int p1), .val (.int p2), .val (.ref b1), .val (.ref b21), .val (.int (15 : Int32)), .val (.int (own_min p2 (64 : Int32))), .val (.int (0 : Int32)), .val (.int (0 : Int32)), .unset, .unset] [(.int (1 : Int32))])) t → Steps p.tables e below (s₁.setTop (entryFrame m #[(.int p1), (.int p2)] maxLocals)) t := fun t k => pre51 t (by
      show Steps p.tables e below (T41.setTop (mkF m 252 #[.val (.int p1), .val (.int p2), .val (.ref b1), .val (.ref b21), .val (.int (15 : Int32)), .unset, .val (.int (0 : Int32)), .val (.int (0 : Int32)), .unset, .unset] [(.int (0 : Int32))])) _
      refine XS.ifNo X41.here hx rfl (hb hby at_252) rfl ((if0 _ _).trans (teq (by decide : ((0 : Int32) = (0 : Int32)))).2) ?_
      show Steps p.tables e below (T41.setTop (mkF m 255 #[.val (.int p1), .val (.int p2), .val (.ref b1), .val (.ref b21), .val (.int (15 : Int32)), .unset, .val (.int (0 : Int32)), .val (.int (0 : Int32)), .unset, .unset] [])) _
      refine XS.iloadN X41.here hx rfl (hb hby at_255) rfl ?_
      show Steps p.tables e below (T41.setTop (mkF m 256 #[.val (.int p1), .val (.int p2), .val (.ref b1), .val (.ref b21), .val (.int (15 : Int32)), .unset, .val (.int (0 : Int32)), .val (.int (0 : Int32)), .unset, .unset] [(.int p2)])) _
      refine XT.bipushV X41.here hx rfl (64 : Int32) (hb hby at_256) (by decide) ?_
      show Steps p.tables e below (T41.setTop (mkF m 258 #[.val (.int p1), .val (.int p2), .val (.ref b1), .val (.ref b21), .val (.int (15 : Int32)), .unset, .val (.int (0 : Int32)), .val (.int (0 : Int32)), .unset, .unset] [(.int (64 : Int32)), (.int p2)])) _
      refine st52 _ ?_
      show Steps p.tables e below (T52.setTop (mkF m 261 #[.val (.int p1), .val (.int p2), .val (.ref b1), .val (.ref b21), .val (.int (15 : Int32)), .unset, .val (.int (0 : Int32)), .val (.int (0 : Int32)), .unset, .unset] [(.int (own_min p2 (64 : Int32)))])) _
      refine XS.istore X52.here hx rfl (hb hby at_261) rfl (l' := #[.val (.int p1), .val (.int p2), .val (.ref b1), .val (.ref b21), .val (.int (15 : Int32)), .val (.int (own_min p2 (64 : Int32))), .val (.int (0 : Int32)), .val (.int (0 : Int32)), .unset, .unset]) rfl ?_
      show Steps p.tables e below (T52.setTop (mkF m 263 #[.val (.int p1), .val (.int p2), .val (.ref b1), .val (.ref b21), .val (.int (15 : Int32)), .val (.int (own_min p2 (64 : Int32))), .val (.int (0 : Int32)), .val (.int (0 : Int32)), .unset, .unset] [])) _
      refine XS.goto X52.here hx rfl (pc0 := 263) (pc' := 319) rfl (hb hby at_263) (by decide) (by decide) ?_
      show Steps p.tables e below (T52.setTop (mkF m 319 #[.val (.int p1), .val (.int p2), .val (.ref b1), .val (.ref b21), .val (.int (15 : Int32)), .val (.int (own_min p2 (64 : Int32))), .val (.int (0 : Int32)), .val (.int (0 : Int32)), .unset, .unset] [])) _
      refine XS.iload X52.here hx rfl (hb hby at_319) rfl ?_
      show Steps p.tables e below (T52.setTop (mkF m 321 #[.val (.int p1), .val (.int p2), .val (.ref b1), .val (.ref b21), .val (.int (15 : Int32)), .val (.int (own_min p2 (64 : Int32))), .val (.int (0 : Int32)), .val (.int (0 : Int32)), .unset, .unset] [(.int (own_min p2 (64 : Int32)))])) _
      refine st53 _ ?_
      show Steps p.tables e below (T53.setTop (mkF m 324 #[.val (.int p1), .val (.int p2), .val (.ref b1), .val (.ref b21), .val (.int (15 : Int32)), .val (.int (own_min p2 (64 : Int32))), .val (.int (0 : Int32)), .val (.int (0 : Int32)), .unset, .unset] [(.int (0 : Int32))])) _
      refine XS.iload X53.here hx rfl (hb hby at_324) rfl ?_
      show Steps p.tables e below (T53.setTop (mkF m 326 #[.val (.int p1), .val (.int p2), .val (.ref b1), .val (.ref b21), .val (.int (15 : Int32)), .val (.int (own_min p2 (64 : Int32))), .val (.int (0 : Int32)), .val (.int (0 : Int32)), .unset, .unset] [(.int (0 : Int32)), (.int (0 : Int32))])) _
      refine XS.icmpNo X53.here hx rfl (hb hby at_326) rfl (teq (by decide : ((0 : Int32) = (0 : Int32)))).2 ?_
      show Steps p.tables e below (T53.setTop (mkF m 329 #[.val (.int p1), .val (.int p2), .val (.ref b1), .val (.ref b21), .val (.int (15 : Int32)), .val (.int (own_min p2 (64 : Int32))), .val (.int (0 : Int32)), .val (.int (0 : Int32)), .unset, .unset] [])) _
      refine XT.iconstV X53.here hx rfl (1 : Int32) (hb hby at_329) (by decide) ?_
      show Steps p.tables e below (T53.setTop (mkF m 330 #[.val (.int p1), .val (.int p2), .val (.ref b1), .val (.ref b21), .val (.int (15 : Int32)), .val (.int (own_min p2 (64 : Int32))), .val (.int (0 : Int32)), .val (.int (0 : Int32)), .unset, .unset] [(.int (1 : Int32))])) _
      refine XS.goto X53.here hx rfl (pc0 := 330) (pc' := 334) rfl (hb hby at_330) (by decide) (by decide) ?_
      exact k)
    obtain ⟨fs, hr, hrun, hended, hW, hsame⟩ := X53.leave (v := some (.int (1 : Int32))) (fun h => by rw [Bd.returns] at h; cases h)
    refine ⟨_, _, pre54 _ ?_, hrun, hended, _, _, rfl, ?_, ⟨_, rfl⟩, hW, hsame.mono (by decide) (by decide)⟩
    · show Steps p.tables e below (T53.setTop (mkF m 334 #[.val (.int p1), .val (.int p2), .val (.ref b1), .val (.ref b21), .val (.int (15 : Int32)), .val (.int (own_min p2 (64 : Int32))), .val (.int (0 : Int32)), .val (.int (0 : Int32)), .unset, .unset] [(.int (1 : Int32))])) _
      exact retOut X53 hx Bd.returns rfl (Or.inl ⟨rfl, by simp, _, rfl⟩) (hb hby at_334) hr
    · show Q0 Z p1 p2  h0 n0 _ T53.heap _
      rw [e53]
      exact ⟨rfl, N53⟩
  · have _ := 0
    have pre55 : ∀ t, Steps p.tables e below (T41.setTop (mkF m 252 #[.val (.int p1), .val (.int p2), .val (.ref b1), .val (.ref b21), .val (.int (30 : Int32)), .unset, .val (.int (0 : Int32)), .val (.int (15 : Int32)), .unset, .unset] [(.int (15 : Int32))])) t → Steps p.tables e below (s₁.setTop (entryFrame m #[(.int p1), (.int p2)] maxLocals)) t := fun t k => pre43 t (by
      show Steps p.tables e below (T41.setTop (mkF m 202 #[.val (.int p1), .val (.int p2), .val (.ref b1), .val (.ref b21), .unset, .unset, .unset, .unset, .unset, .unset] [(.int ((p1 &&& (2147483647 : Int32)) % (31 : Int32)))])) _
      refine castTop (g' := (mkF m 202 #[.val (.int p1), .val (.int p2), .val (.ref b1), .val (.ref b21), .unset, .unset, .unset, .unset, .unset, .unset] [(.int (30 : Int32))])) (by rw [← hK, hi]) ?_
      show Steps p.tables e below (T41.setTop (mkF m 202 #[.val (.int p1), .val (.int p2), .val (.ref b1), .val (.ref b21), .unset, .unset, .unset, .unset, .unset, .unset] [(.int (30 : Int32))])) _
      refine XS.istore X41.here hx rfl (hb hby at_202) rfl (l' := #[.val (.int p1), .val (.int p2), .val (.ref b1), .val (.ref b21), .val (.int (30 : Int32)), .unset, .unset, .unset, .unset, .unset]) rfl ?_
      show Steps p.tables e below (T41.setTop (mkF m 204 #[.val (.int p1), .val (.int p2), .val (.ref b1), .val (.ref b21), .val (.int (30 : Int32)), .unset, .unset, .unset, .unset, .unset] [])) _
      refine XS.iload X41.here hx rfl (hb hby at_204) rfl ?_
      show Steps p.tables e below (T41.setTop (mkF m 206 #[.val (.int p1), .val (.int p2), .val (.ref b1), .val (.ref b21), .val (.int (30 : Int32)), .unset, .unset, .unset, .unset, .unset] [(.int (30 : Int32))])) _
      refine XT.bipushV X41.here hx rfl (15 : Int32) (hb hby at_206) (by decide) ?_
      show Steps p.tables e below (T41.setTop (mkF m 208 #[.val (.int p1), .val (.int p2), .val (.ref b1), .val (.ref b21), .val (.int (30 : Int32)), .unset, .unset, .unset, .unset, .unset] [(.int (15 : Int32)), (.int (30 : Int32))])) _
      refine XS.icmpYes X41.here hx rfl (pc0 := 208) (pc' := 240) rfl (hb hby at_208) rfl (flt (by decide : ¬ ((30 : Int32) < (15 : Int32)))).2.1 (by decide) (by decide) ?_
      show Steps p.tables e below (T41.setTop (mkF m 240 #[.val (.int p1), .val (.int p2), .val (.ref b1), .val (.ref b21), .val (.int (30 : Int32)), .unset, .unset, .unset, .unset, .unset] [])) _
      refine XS.iload X41.here hx rfl (hb hby at_240) rfl ?_
      show Steps p.tables e below (T41.setTop (mkF m 242 #[.val (.int p1), .val (.int p2), .val (.ref b1), .val (.ref b21), .val (.int (30 : Int32)), .unset, .unset, .unset, .unset, .unset] [(.int (30 : Int32))])) _
      refine XT.bipushV X41.here hx rfl (15 : Int32) (hb hby at_242) (by decide) ?_
      show Steps p.tables e below (T41.setTop (mkF m 244 #[.val (.int p1), .val (.int p2), .val (.ref b1), .val (.ref b21), .val (.int (30 : Int32)), .unset, .unset, .unset, .unset, .unset] [(.int (15 : Int32)), (.int (30 : Int32))])) _
      refine XS.isub X41.here hx rfl (hb hby at_244) rfl ?_
      show Steps p.tables e below (T41.setTop (mkF m 245 #[.val (.int p1), .val (.int p2), .val (.ref b1), .val (.ref b21), .val (.int (30 : Int32)), .unset, .unset, .unset, .unset, .unset] [(.int ((30 : Int32) - (15 : Int32)))])) _
      refine castTop (g' := (mkF m 245 #[.val (.int p1), .val (.int p2), .val (.ref b1), .val (.ref b21), .val (.int (30 : Int32)), .unset, .unset, .unset, .unset, .unset] [(.int (15 : Int32))])) (by rw [(by decide : ((30 : Int32) - (15 : Int32)) = (15 : Int32))]) ?_
      show Steps p.tables e below (T41.setTop (mkF m 245 #[.val (.int p1), .val (.int p2), .val (.ref b1), .val (.ref b21), .val (.int (30 : Int32)), .unset, .unset, .unset, .unset, .unset] [(.int (15 : Int32))])) _
      refine XS.istore X41.here hx rfl (hb hby at_245) rfl (l' := #[.val (.int p1), .val (.int p2), .val (.ref b1), .val (.ref b21), .val (.int (30 : Int32)), .unset, .unset, .val (.int (15 : Int32)), .unset, .unset]) rfl ?_
      show Steps p.tables e below (T41.setTop (mkF m 247 #[.val (.int p1), .val (.int p2), .val (.ref b1), .val (.ref b21), .val (.int (30 : Int32)), .unset, .unset, .val (.int (15 : Int32)), .unset, .unset] [])) _
      refine XT.iconstV X41.here hx rfl (0 : Int32) (hb hby at_247) (by decide) ?_
      show Steps p.tables e below (T41.setTop (mkF m 248 #[.val (.int p1), .val (.int p2), .val (.ref b1), .val (.ref b21), .val (.int (30 : Int32)), .unset, .unset, .val (.int (15 : Int32)), .unset, .unset] [(.int (0 : Int32))])) _
      refine XS.istore X41.here hx rfl (hb hby at_248) rfl (l' := #[.val (.int p1), .val (.int p2), .val (.ref b1), .val (.ref b21), .val (.int (30 : Int32)), .unset, .val (.int (0 : Int32)), .val (.int (15 : Int32)), .unset, .unset]) rfl ?_
      show Steps p.tables e below (T41.setTop (mkF m 250 #[.val (.int p1), .val (.int p2), .val (.ref b1), .val (.ref b21), .val (.int (30 : Int32)), .unset, .val (.int (0 : Int32)), .val (.int (15 : Int32)), .unset, .unset] [])) _
      refine XS.iload X41.here hx rfl (hb hby at_250) rfl ?_
      exact k)
    obtain ⟨_, _, ⟨T56, L56, k56, n56⟩, -, X56, ⟨Lc56, hQ56, l56, y56, z56⟩, st56⟩ := Jvm.LawKit.callS X41 hx (y := (⟨"java/lang/Math", "max", "(II)I"⟩ : MethodName)) hown (mvT hZ (hw _ (List.mem_of_getElem? (i := 25) rfl))) (mvT hZ (hw _ (List.mem_of_getElem? (i := 26) rfl))) (mvT hZ (hw _ (List.mem_of_getElem? (i := 22) rfl))) (mvT hZ (hw _ (List.mem_of_getElem? (i := 27) rfl))) (by decide) (backOf (W := 0) (rm_max l Z a0 hw [] p2 (983040 : Int32) h41 n0 (Nat.le_trans Z0 O41.1)) hZ (hw _ (List.mem_of_getElem? (i := 27) rfl)) (hw _ (List.mem_of_getElem? (i := 22) rfl)) (by decide) (by decide)) (g := (mkF m 276 #[.val (.int p1), .val (.int p2), .val (.ref b1), .val (.ref b21), .val (.int (30 : Int32)), .unset, .val (.int (0 : Int32)), .val (.int (15 : Int32)), .unset, .unset] [(.int (983040 : Int32)), (.int p2)])) rfl (by rw [hml]; rfl) (argsL := [(.int p2), (.int (983040 : Int32))]) (rest := []) (lenOf pd_1 rfl) rfl (by show 2 * 0 + _ ≤ _; exact Nat.le_of_eq rfl) (hb hby at_276) (fun _ _ => ⟨rfl, e41, (by decide : 2 + 0 ≤ _), (by decide : 30 + 0 ≤ _)⟩)
    dsimp only [Pt.U, Pt.locs, Pt.cells, Pt.slots] at X56 l56 y56 z56 st56 hQ56
    rw [y56, z56] at X56
    obtain ⟨rfl, N56q, e56⟩ := hQ56
    have N56 : Fr n0 L56 := by rw [l56]; exact Fr.app N41 N56q
    obtain ⟨_, _, ⟨T57, L57, k57, n57⟩, -, X57, ⟨Lc57, hQ57, l57, y57, z57⟩, st57⟩ := Jvm.LawKit.callS X56 hx (y := (⟨"org/beanpath/model/PathSyntax", "isNameStart", "(I)Z"⟩ : MethodName)) hown (mvT hZ (hw _ (List.mem_of_getElem? (i := 9) rfl))) (mvT hZ (hw _ (List.mem_of_getElem? (i := 10) rfl))) (mvT hZ (hw _ (List.mem_of_getElem? (i := 11) rfl))) (mvT hZ (hw _ (List.mem_of_getElem? (i := 12) rfl))) (by decide) (backOf (W := 0) (rm_start l Z a0 hw [] (own_max p2 (983040 : Int32)) h41 n0 (Nat.le_trans Z0 O41.1) (0 : Int32) (own_n15 (own_maxb p2))) hZ (hw _ (List.mem_of_getElem? (i := 12) rfl)) (hw _ (List.mem_of_getElem? (i := 11) rfl)) (by decide) (by decide)) (g := (mkF m 321 #[.val (.int p1), .val (.int p2), .val (.ref b1), .val (.ref b21), .val (.int (30 : Int32)), .val (.int (own_max p2 (983040 : Int32))), .val (.int (0 : Int32)), .val (.int (15 : Int32)), .unset, .unset] [(.int (own_max p2 (983040 : Int32)))])) rfl (by rw [hml]; rfl) (argsL := [(.int (own_max p2 (983040 : Int32)))]) (rest := []) (lenOf pd_0 rfl) rfl (by show 2 * 0 + _ ≤ _; exact Nat.le_of_eq rfl) (hb hby at_321) (fun _ _ => ⟨rfl, e56, (by decide : 2 + 0 ≤ _), (by decide : 30 + 0 ≤ _)⟩)
    dsimp only [Pt.U, Pt.locs, Pt.cells, Pt.slots] at X57 l57 y57 z57 st57 hQ57
    rw [y57, z57] at X57
    obtain ⟨rfl, N57q, e57⟩ := hQ57
    have N57 : Fr n0 L57 := by rw [l57]; exact Fr.app N56 N57q
    have pre58 : ∀ t, Steps p.tables e below (T57.setTop (mkF m 329 #[.val (.int p1), .val (.int p2), .val (.ref b1), .val (.ref b21), .val (.int (30 : Int32)), .val (.int (own_max p2 (983040 : Int32))), .val (.int (0 : Int32)), .val (.int (15 : Int32)), .unset, .unset] [])) t → Steps p.tables e below (s₁.setTop (entryFrame m #[(.int p1), (.int p2)] maxLocals)) t := fun t k => pre55 t (by
      show Steps p.tables e below (T41.setTop (mkF m 252 #[.val (.int p1), .val (.int p2), .val (.ref b1), .val (.ref b21), .val (.int (30 : Int32)), .unset, .val (.int (0 : Int32)), .val (.int (15 : Int32)), .unset, .unset] [(.int (15 : Int32))])) _
      refine XS.ifYes X41.here hx rfl (pc0 := 252) (pc' := 266) rfl (hb hby at_252) rfl ((if0 _ _).trans (feq (by decide : ¬ ((15 : Int32) = (0 : Int32)))).2) (by decide) (by decide) ?_
      show Steps p.tables e below (T41.setTop (mkF m 266 #[.val (.int p1), .val (.int p2), .val (.ref b1), .val (.ref b21), .val (.int (30 : Int32)), .unset, .val (.int (0 : Int32)), .val (.int (15 : Int32)), .unset, .unset] [])) _
      refine XS.iload X41.here hx rfl (hb hby at_266) rfl ?_
      show Steps p.tables e below (T41.setTop (mkF m 268 #[.val (.int p1), .val (.int p2), .val (.ref b1), .val (.ref b21), .val (.int (30 : Int32)), .unset, .val (.int (0 : Int32)), .val (.int (15 : Int32)), .unset, .unset] [(.int (15 : Int32))])) _
      refine XT.bipushV X41.here hx rfl (15 : Int32) (hb hby at_268) (by decide) ?_
      show Steps p.tables e below (T41.setTop (mkF m 270 #[.val (.int p1), .val (.int p2), .val (.ref b1), .val (.ref b21), .val (.int (30 : Int32)), .unset, .val (.int (0 : Int32)), .val (.int (15 : Int32)), .unset, .unset] [(.int (15 : Int32)), (.int (15 : Int32))])) _
      refine XS.icmpNo X41.here hx rfl (hb hby at_270) rfl (teq (by decide : ((15 : Int32) = (15 : Int32)))).2 ?_
      show Steps p.tables e below (T41.setTop (mkF m 273 #[.val (.int p1), .val (.int p2), .val (.ref b1), .val (.ref b21), .val (.int (30 : Int32)), .unset, .val (.int (0 : Int32)), .val (.int (15 : Int32)), .unset, .unset] [])) _
      refine XS.iloadN X41.here hx rfl (hb hby at_273) rfl ?_
      show Steps p.tables e below (T41.setTop (mkF m 274 #[.val (.int p1), .val (.int p2), .val (.ref b1), .val (.ref b21), .val (.int (30 : Int32)), .unset, .val (.int (0 : Int32)), .val (.int (15 : Int32)), .unset, .unset] [(.int p2)])) _
      refine X41.ldcInt hx hown (mvT hZ (hw _ (List.mem_of_getElem? (i := 24) rfl))) (g := (mkF m 274 #[.val (.int p1), .val (.int p2), .val (.ref b1), .val (.ref b21), .val (.int (30 : Int32)), .unset, .val (.int (0 : Int32)), .val (.int (15 : Int32)), .unset, .unset] [(.int p2)])) rfl (hb hby at_274) _ ?_
      show Steps p.tables e below (T41.setTop (mkF m 276 #[.val (.int p1), .val (.int p2), .val (.ref b1), .val (.ref b21), .val (.int (30 : Int32)), .unset, .val (.int (0 : Int32)), .val (.int (15 : Int32)), .unset, .unset] [(.int (983040 : Int32)), (.int p2)])) _
      refine st56 _ ?_
      show Steps p.tables e below (T56.setTop (mkF m 279 #[.val (.int p1), .val (.int p2), .val (.ref b1), .val (.ref b21), .val (.int (30 : Int32)), .unset, .val (.int (0 : Int32)), .val (.int (15 : Int32)), .unset, .unset] [(.int (own_max p2 (983040 : Int32)))])) _
      refine XS.istore X56.here hx rfl (hb hby at_279) rfl (l' := #[.val (.int p1), .val (.int p2), .val (.ref b1), .val (.ref b21), .val (.int (30 : Int32)), .val (.int (own_max p2 (983040 : Int32))), .val (.int (0 : Int32)), .val (.int (15 : Int32)), .unset, .unset]) rfl ?_
      show Steps p.tables e below (T56.setTop (mkF m 281 #[.val (.int p1), .val (.int p2), .val (.ref b1), .val (.ref b21), .val (.int (30 : Int32)), .val (.int (own_max p2 (983040 : Int32))), .val (.int (0 : Int32)), .val (.int (15 : Int32)), .unset, .unset] [])) _
      refine XS.goto X56.here hx rfl (pc0 := 281) (pc' := 319) rfl (hb hby at_281) (by decide) (by decide) ?_
      show Steps p.tables e below (T56.setTop (mkF m 319 #[.val (.int p1), .val (.int p2), .val (.ref b1), .val (.ref b21), .val (.int (30 : Int32)), .val (.int (own_max p2 (983040 : Int32))), .val (.int (0 : Int32)), .val (.int (15 : Int32)), .unset, .unset] [])) _
      refine XS.iload X56.here hx rfl (hb hby at_319) rfl ?_
      show Steps p.tables e below (T56.setTop (mkF m 321 #[.val (.int p1), .val (.int p2), .val (.ref b1), .val (.ref b21), .val (.int (30 : Int32)), .val (.int (own_max p2 (983040 : Int32))), .val (.int (0 : Int32)), .val (.int (15 : Int32)), .unset, .unset] [(.int (own_max p2 (983040 : Int32)))])) _
      refine st57 _ ?_
      show Steps p.tables e below (T57.setTop (mkF m 324 #[.val (.int p1), .val (.int p2), .val (.ref b1), .val (.ref b21), .val (.int (30 : Int32)), .val (.int (own_max p2 (983040 : Int32))), .val (.int (0 : Int32)), .val (.int (15 : Int32)), .unset, .unset] [(.int (0 : Int32))])) _
      refine XS.iload X57.here hx rfl (hb hby at_324) rfl ?_
      show Steps p.tables e below (T57.setTop (mkF m 326 #[.val (.int p1), .val (.int p2), .val (.ref b1), .val (.ref b21), .val (.int (30 : Int32)), .val (.int (own_max p2 (983040 : Int32))), .val (.int (0 : Int32)), .val (.int (15 : Int32)), .unset, .unset] [(.int (0 : Int32)), (.int (0 : Int32))])) _
      refine XS.icmpNo X57.here hx rfl (hb hby at_326) rfl (teq (by decide : ((0 : Int32) = (0 : Int32)))).2 ?_
      exact k)
    have pre59 : ∀ t, Steps p.tables e below (T57.setTop (mkF m 334 #[.val (.int p1), .val (.int p2), .val (.ref b1), .val (.ref b21), .val (.int (30 : Int32)), .val (.int (own_max p2 (983040 : Int32))), .val (.int (0 : Int32)), .val (.int (15 : Int32)), .unset, .unset] [(.int (1 : Int32))])) t → Steps p.tables e below (s₁.setTop (entryFrame m #[(.int p1), (.int p2)] maxLocals)) t := fun t k => pre58 t (by
      show Steps p.tables e below (T57.setTop (mkF m 329 #[.val (.int p1), .val (.int p2), .val (.ref b1), .val (.ref b21), .val (.int (30 : Int32)), .val (.int (own_max p2 (983040 : Int32))), .val (.int (0 : Int32)), .val (.int (15 : Int32)), .unset, .unset] [])) _
      refine XT.iconstV X57.here hx rfl (1 : Int32) (hb hby at_329) (by decide) ?_
      show Steps p.tables e below (T57.setTop (mkF m 330 #[.val (.int p1), .val (.int p2), .val (.ref b1), .val (.ref b21), .val (.int (30 : Int32)), .val (.int (own_max p2 (983040 : Int32))), .val (.int (0 : Int32)), .val (.int (15 : Int32)), .unset, .unset] [(.int (1 : Int32))])) _
      refine XS.goto X57.here hx rfl (pc0 := 330) (pc' := 334) rfl (hb hby at_330) (by decide) (by decide) ?_
      exact k)
    obtain ⟨fs, hr, hrun, hended, hW, hsame⟩ := X57.leave (v := some (.int (1 : Int32))) (fun h => by rw [Bd.returns] at h; cases h)
    refine ⟨_, _, pre59 _ ?_, hrun, hended, _, _, rfl, ?_, ⟨_, rfl⟩, hW, hsame.mono (by decide) (by decide)⟩
    · show Steps p.tables e below (T57.setTop (mkF m 334 #[.val (.int p1), .val (.int p2), .val (.ref b1), .val (.ref b21), .val (.int (30 : Int32)), .val (.int (own_max p2 (983040 : Int32))), .val (.int (0 : Int32)), .val (.int (15 : Int32)), .unset, .unset] [(.int (1 : Int32))])) _
      exact retOut X57 hx Bd.returns rfl (Or.inl ⟨rfl, by simp, _, rfl⟩) (hb hby at_334) hr
    · show Q0 Z p1 p2  h0 n0 _ T57.heap _
      rw [e57]
      exact ⟨rfl, N57⟩
  · have _ := 0
    obtain ⟨J, hJ⟩ : ∃ z, z = (K - (15 : Int32)) := ⟨_, rfl⟩
    have hg : own_gap J := hJ ▸ hi2
    have pre60 : ∀ t, Steps p.tables e below (T41.setTop (mkF m 252 #[.val (.int p1), .val (.int p2), .val (.ref b1), .val (.ref b21), .val (.int K), .unset, .val (.int (0 : Int32)), .val (.int J), .unset, .unset] [(.int J)])) t → Steps p.tables e below (s₁.setTop (entryFrame m #[(.int p1), (.int p2)] maxLocals)) t := fun t k => pre43 t (by
      show Steps p.tables e below (T41.setTop (mkF m 202 #[.val (.int p1), .val (.int p2), .val (.ref b1), .val (.ref b21), .unset, .unset, .unset, .unset, .unset, .unset] [(.int ((p1 &&& (2147483647 : Int32)) % (31 : Int32)))])) _
      refine castTop (g' := (mkF m 202 #[.val (.int p1), .val (.int p2), .val (.ref b1), .val (.ref b21), .unset, .unset, .unset, .unset, .unset, .unset] [(.int K)])) (by rw [← hK]) ?_
      show Steps p.tables e below (T41.setTop (mkF m 202 #[.val (.int p1), .val (.int p2), .val (.ref b1), .val (.ref b21), .unset, .unset, .unset, .unset, .unset, .unset] [(.int K)])) _
      refine XS.istore X41.here hx rfl (hb hby at_202) rfl (l' := #[.val (.int p1), .val (.int p2), .val (.ref b1), .val (.ref b21), .val (.int K), .unset, .unset, .unset, .unset, .unset]) rfl ?_
      show Steps p.tables e below (T41.setTop (mkF m 204 #[.val (.int p1), .val (.int p2), .val (.ref b1), .val (.ref b21), .val (.int K), .unset, .unset, .unset, .unset, .unset] [])) _
      refine XS.iload X41.here hx rfl (hb hby at_204) rfl ?_
      show Steps p.tables e below (T41.setTop (mkF m 206 #[.val (.int p1), .val (.int p2), .val (.ref b1), .val (.ref b21), .val (.int K), .unset, .unset, .unset, .unset, .unset] [(.int K)])) _
      refine XT.bipushV X41.here hx rfl (15 : Int32) (hb hby at_206) (by decide) ?_
      show Steps p.tables e below (T41.setTop (mkF m 208 #[.val (.int p1), .val (.int p2), .val (.ref b1), .val (.ref b21), .val (.int K), .unset, .unset, .unset, .unset, .unset] [(.int (15 : Int32)), (.int K)])) _
      refine XS.icmpYes X41.here hx rfl (pc0 := 208) (pc' := 240) rfl (hb hby at_208) rfl (flt hi1).2.1 (by decide) (by decide) ?_
      show Steps p.tables e below (T41.setTop (mkF m 240 #[.val (.int p1), .val (.int p2), .val (.ref b1), .val (.ref b21), .val (.int K), .unset, .unset, .unset, .unset, .unset] [])) _
      refine XS.iload X41.here hx rfl (hb hby at_240) rfl ?_
      show Steps p.tables e below (T41.setTop (mkF m 242 #[.val (.int p1), .val (.int p2), .val (.ref b1), .val (.ref b21), .val (.int K), .unset, .unset, .unset, .unset, .unset] [(.int K)])) _
      refine XT.bipushV X41.here hx rfl (15 : Int32) (hb hby at_242) (by decide) ?_
      show Steps p.tables e below (T41.setTop (mkF m 244 #[.val (.int p1), .val (.int p2), .val (.ref b1), .val (.ref b21), .val (.int K), .unset, .unset, .unset, .unset, .unset] [(.int (15 : Int32)), (.int K)])) _
      refine XS.isub X41.here hx rfl (hb hby at_244) rfl ?_
      show Steps p.tables e below (T41.setTop (mkF m 245 #[.val (.int p1), .val (.int p2), .val (.ref b1), .val (.ref b21), .val (.int K), .unset, .unset, .unset, .unset, .unset] [(.int (K - (15 : Int32)))])) _
      refine castTop (g' := (mkF m 245 #[.val (.int p1), .val (.int p2), .val (.ref b1), .val (.ref b21), .val (.int K), .unset, .unset, .unset, .unset, .unset] [(.int J)])) (by rw [← hJ]) ?_
      show Steps p.tables e below (T41.setTop (mkF m 245 #[.val (.int p1), .val (.int p2), .val (.ref b1), .val (.ref b21), .val (.int K), .unset, .unset, .unset, .unset, .unset] [(.int J)])) _
      refine XS.istore X41.here hx rfl (hb hby at_245) rfl (l' := #[.val (.int p1), .val (.int p2), .val (.ref b1), .val (.ref b21), .val (.int K), .unset, .unset, .val (.int J), .unset, .unset]) rfl ?_
      show Steps p.tables e below (T41.setTop (mkF m 247 #[.val (.int p1), .val (.int p2), .val (.ref b1), .val (.ref b21), .val (.int K), .unset, .unset, .val (.int J), .unset, .unset] [])) _
      refine XT.iconstV X41.here hx rfl (0 : Int32) (hb hby at_247) (by decide) ?_
      show Steps p.tables e below (T41.setTop (mkF m 248 #[.val (.int p1), .val (.int p2), .val (.ref b1), .val (.ref b21), .val (.int K), .unset, .unset, .val (.int J), .unset, .unset] [(.int (0 : Int32))])) _
      refine XS.istore X41.here hx rfl (hb hby at_248) rfl (l' := #[.val (.int p1), .val (.int p2), .val (.ref b1), .val (.ref b21), .val (.int K), .unset, .val (.int (0 : Int32)), .val (.int J), .unset, .unset]) rfl ?_
      show Steps p.tables e below (T41.setTop (mkF m 250 #[.val (.int p1), .val (.int p2), .val (.ref b1), .val (.ref b21), .val (.int K), .unset, .val (.int (0 : Int32)), .val (.int J), .unset, .unset] [])) _
      refine XS.iload X41.here hx rfl (hb hby at_250) rfl ?_
      exact k)
    obtain ⟨cl61, Ar61, q61, S61, n61', H61, G61⟩ := id V41
    have hin61 : ¬ ((J - (1 : Int32)) < 0 ∨ cl61.slots.size ≤ ((J - (1 : Int32))).toNatClampNeg) := inb_of S61 (own_inb (own_gin1 hg))
    have hat61 : cl61.slots[((J - (1 : Int32))).toNatClampNeg]? = some (.int (own_hi (J - (1 : Int32)))) := Has.at H61 hin61 (own_hiat (own_gin1 hg))
    have pre62 : ∀ t, Steps p.tables e below (T41.setTop (mkF m 295 #[.val (.int p1), .val (.int p2), .val (.ref b1), .val (.ref b21), .val (.int K), .unset, .val (.int (0 : Int32)), .val (.int J), .val (.int ((own_hi (J - (1 : Int32))) + (1 : Int32))), .unset] [(.ref b1)])) t → Steps p.tables e below (s₁.setTop (entryFrame m #[(.int p1), (.int p2)] maxLocals)) t := fun t k => pre60 t (by
      show Steps p.tables e below (T41.setTop (mkF m 252 #[.val (.int p1), .val (.int p2), .val (.ref b1), .val (.ref b21), .val (.int K), .unset, .val (.int (0 : Int32)), .val (.int J), .unset, .unset] [(.int J)])) _
      refine XS.ifYes X41.here hx rfl (pc0 := 252) (pc' := 266) rfl (hb hby at_252) rfl ((if0 _ _).trans (feq (own_g0 hg).1).2) (by decide) (by decide) ?_
      show Steps p.tables e below (T41.setTop (mkF m 266 #[.val (.int p1), .val (.int p2), .val (.ref b1), .val (.ref b21), .val (.int K), .unset, .val (.int (0 : Int32)), .val (.int J), .unset, .unset] [])) _
      refine XS.iload X41.here hx rfl (hb hby at_266) rfl ?_
      show Steps p.tables e below (T41.setTop (mkF m 268 #[.val (.int p1), .val (.int p2), .val (.ref b1), .val (.ref b21), .val (.int K), .unset, .val (.int (0 : Int32)), .val (.int J), .unset, .unset] [(.int J)])) _
      refine XT.bipushV X41.here hx rfl (15 : Int32) (hb hby at_268) (by decide) ?_
      show Steps p.tables e below (T41.setTop (mkF m 270 #[.val (.int p1), .val (.int p2), .val (.ref b1), .val (.ref b21), .val (.int K), .unset, .val (.int (0 : Int32)), .val (.int J), .unset, .unset] [(.int (15 : Int32)), (.int J)])) _
      refine XS.icmpYes X41.here hx rfl (pc0 := 270) (pc' := 284) rfl (hb hby at_270) rfl (feq (own_g0 hg).2).2 (by decide) (by decide) ?_
      show Steps p.tables e below (T41.setTop (mkF m 284 #[.val (.int p1), .val (.int p2), .val (.ref b1), .val (.ref b21), .val (.int K), .unset, .val (.int (0 : Int32)), .val (.int J), .unset, .unset] [])) _
      refine XS.aloadN X41.here hx rfl (hb hby at_284) rfl rfl ?_
      show Steps p.tables e below (T41.setTop (mkF m 285 #[.val (.int p1), .val (.int p2), .val (.ref b1), .val (.ref b21), .val (.int K), .unset, .val (.int (0 : Int32)), .val (.int J), .unset, .unset] [(.ref b21)])) _
      refine XS.iload X41.here hx rfl (hb hby at_285) rfl ?_
      show Steps p.tables e below (T41.setTop (mkF m 287 #[.val (.int p1), .val (.int p2), .val (.ref b1), .val (.ref b21), .val (.int K), .unset, .val (.int (0 : Int32)), .val (.int J), .unset, .unset] [(.int J), (.ref b21)])) _
      refine XT.iconstV X41.here hx rfl (1 : Int32) (hb hby at_287) (by decide) ?_
      show Steps p.tables e below (T41.setTop (mkF m 288 #[.val (.int p1), .val (.int p2), .val (.ref b1), .val (.ref b21), .val (.int K), .unset, .val (.int (0 : Int32)), .val (.int J), .unset, .unset] [(.int (1 : Int32)), (.int J), (.ref b21)])) _
      refine XS.isub X41.here hx rfl (hb hby at_288) rfl ?_
      show Steps p.tables e below (T41.setTop (mkF m 289 #[.val (.int p1), .val (.int p2), .val (.ref b1), .val (.ref b21), .val (.int K), .unset, .val (.int (0 : Int32)), .val (.int J), .unset, .unset] [(.int (J - (1 : Int32))), (.ref b21)])) _
      refine X41.iaload hx (j := (J - (1 : Int32))) (v := (.int (own_hi (J - (1 : Int32))))) (by rw [e41]; exact Ar61.1) (State.isArrayOf_alike hZ.alike Ar61.2.1) Ar61.2.2 hin61 hat61 (g := (mkF m 289 #[.val (.int p1), .val (.int p2), .val (.ref b1), .val (.ref b21), .val (.int K), .unset, .val (.int (0 : Int32)), .val (.int J), .unset, .unset] [(.int (J - (1 : Int32))), (.ref b21)])) rfl rfl (hb hby at_289) _ ?_
      show Steps p.tables e below (T41.setTop (mkF m 290 #[.val (.int p1), .val (.int p2), .val (.ref b1), .val (.ref b21), .val (.int K), .unset, .val (.int (0 : Int32)), .val (.int J), .unset, .unset] [(.int (own_hi (J - (1 : Int32))))])) _
      refine XT.iconstV X41.here hx rfl (1 : Int32) (hb hby at_290) (by decide) ?_
      show Steps p.tables e below (T41.setTop (mkF m 291 #[.val (.int p1), .val (.int p2), .val (.ref b1), .val (.ref b21), .val (.int K), .unset, .val (.int (0 : Int32)), .val (.int J), .unset, .unset] [(.int (1 : Int32)), (.int (own_hi (J - (1 : Int32))))])) _
      refine XS.iadd X41.here hx rfl (hb hby at_291) rfl ?_
      show Steps p.tables e below (T41.setTop (mkF m 292 #[.val (.int p1), .val (.int p2), .val (.ref b1), .val (.ref b21), .val (.int K), .unset, .val (.int (0 : Int32)), .val (.int J), .unset, .unset] [(.int ((own_hi (J - (1 : Int32))) + (1 : Int32)))])) _
      refine XS.istore X41.here hx rfl (hb hby at_292) rfl (l' := #[.val (.int p1), .val (.int p2), .val (.ref b1), .val (.ref b21), .val (.int K), .unset, .val (.int (0 : Int32)), .val (.int J), .val (.int ((own_hi (J - (1 : Int32))) + (1 : Int32))), .unset]) rfl ?_
      show Steps p.tables e below (T41.setTop (mkF m 294 #[.val (.int p1), .val (.int p2), .val (.ref b1), .val (.ref b21), .val (.int K), .unset, .val (.int (0 : Int32)), .val (.int J), .val (.int ((own_hi (J - (1 : Int32))) + (1 : Int32))), .unset] [])) _
      refine XS.aloadN X41.here hx rfl (hb hby at_294) rfl rfl ?_
      exact k)
    obtain ⟨cl63, Ar63, q63, S63, n63', H63, G63⟩ := id V41_b1
    have hin63 : ¬ (J < 0 ∨ cl63.slots.size ≤ (J).toNatClampNeg) := inb_of S63 (own_inb (own_gin hg))
    have hat63 : cl63.slots[(J).toNatClampNeg]? = some (.int (own_lo J)) := Has.at H63 hin63 (own_loat (own_gin hg))
    have pre64 : ∀ t, Steps p.tables e below (T41.setTop (mkF m 314 #[.val (.int p1), .val (.int p2), .val (.ref b1), .val (.ref b21), .val (.int K), .unset, .val (.int (0 : Int32)), .val (.int J), .val (.int ((own_hi (J - (1 : Int32))) + (1 : Int32))), .val (.int ((own_lo J) - (1 : Int32)))] [(.int (1 : Int32)), (.int (((own_lo J) - (1 : Int32)) - ((own_hi (J - (1 : Int32))) + (1 : Int32)))), (.int (p2 &&& (2147483647 : Int32))), (.int ((own_hi (J - (1 : Int32))) + (1 : Int32)))])) t → Steps p.tables e below (s₁.setTop (entryFrame m #[(.int p1), (.int p2)] maxLocals)) t := fun t k => pre62 t (by
      show Steps p.tables e below (T41.setTop (mkF m 295 #[.val (.int p1), .val (.int p2), .val (.ref b1), .val (.ref b21), .val (.int K), .unset, .val (.int (0 : Int32)), .val (.int J), .val (.int ((own_hi (J - (1 : Int32))) + (1 : Int32))), .unset] [(.ref b1)])) _
      refine XS.iload X41.here hx rfl (hb hby at_295) rfl ?_
      show Steps p.tables e below (T41.setTop (mkF m 297 #[.val (.int p1), .val (.int p2), .val (.ref b1), .val (.ref b21), .val (.int K), .unset, .val (.int (0 : Int32)), .val (.int J), .val (.int ((own_hi (J - (1 : Int32))) + (1 : Int32))), .unset] [(.int J), (.ref b1)])) _
      refine X41.iaload hx (j := J) (v := (.int (own_lo J))) (by rw [e41]; exact Ar63.1) (State.isArrayOf_alike hZ.alike Ar63.2.1) Ar63.2.2 hin63 hat63 (g := (mkF m 297 #[.val (.int p1), .val (.int p2), .val (.ref b1), .val (.ref b21), .val (.int K), .unset, .val (.int (0 : Int32)), .val (.int J), .val (.int ((own_hi (J - (1 : Int32))) + (1 : Int32))), .unset] [(.int J), (.ref b1)])) rfl rfl (hb hby at_297) _ ?_
      show Steps p.tables e below (T41.setTop (mkF m 298 #[.val (.int p1), .val (.int p2), .val (.ref b1), .val (.ref b21), .val (.int K), .unset, .val (.int (0 : Int32)), .val (.int J), .val (.int ((own_hi (J - (1 : Int32))) + (1 : Int32))), .unset] [(.int (own_lo J))])) _
      refine XT.iconstV X41.here hx rfl (1 : Int32) (hb hby at_298) (by decide) ?_
      show Steps p.tables e below (T41.setTop (mkF m 299 #[.val (.int p1), .val (.int p2), .val (.ref b1), .val (.ref b21), .val (.int K), .unset, .val (.int (0 : Int32)), .val (.int J), .val (.int ((own_hi (J - (1 : Int32))) + (1 : Int32))), .unset] [(.int (1 : Int32)), (.int (own_lo J))])) _
      refine XS.isub X41.here hx rfl (hb hby at_299) rfl ?_
      show Steps p.tables e below (T41.setTop (mkF m 300 #[.val (.int p1), .val (.int p2), .val (.ref b1), .val (.ref b21), .val (.int K), .unset, .val (.int (0 : Int32)), .val (.int J), .val (.int ((own_hi (J - (1 : Int32))) + (1 : Int32))), .unset] [(.int ((own_lo J) - (1 : Int32)))])) _
      refine XS.istore X41.here hx rfl (hb hby at_300) rfl (l' := #[.val (.int p1), .val (.int p2), .val (.ref b1), .val (.ref b21), .val (.int K), .unset, .val (.int (0 : Int32)), .val (.int J), .val (.int ((own_hi (J - (1 : Int32))) + (1 : Int32))), .val (.int ((own_lo J) - (1 : Int32)))]) rfl ?_
      show Steps p.tables e below (T41.setTop (mkF m 302 #[.val (.int p1), .val (.int p2), .val (.ref b1), .val (.ref b21), .val (.int K), .unset, .val (.int (0 : Int32)), .val (.int J), .val (.int ((own_hi (J - (1 : Int32))) + (1 : Int32))), .val (.int ((own_lo J) - (1 : Int32)))] [])) _
      refine XS.iload X41.here hx rfl (hb hby at_302) rfl ?_
      show Steps p.tables e below (T41.setTop (mkF m 304 #[.val (.int p1), .val (.int p2), .val (.ref b1), .val (.ref b21), .val (.int K), .unset, .val (.int (0 : Int32)), .val (.int J), .val (.int ((own_hi (J - (1 : Int32))) + (1 : Int32))), .val (.int ((own_lo J) - (1 : Int32)))] [(.int ((own_hi (J - (1 : Int32))) + (1 : Int32)))])) _
      refine XS.iloadN X41.here hx rfl (hb hby at_304) rfl ?_
      show Steps p.tables e below (T41.setTop (mkF m 305 #[.val (.int p1), .val (.int p2), .val (.ref b1), .val (.ref b21), .val (.int K), .unset, .val (.int (0 : Int32)), .val (.int J), .val (.int ((own_hi (J - (1 : Int32))) + (1 : Int32))), .val (.int ((own_lo J) - (1 : Int32)))] [(.int p2), (.int ((own_hi (J - (1 : Int32))) + (1 : Int32)))])) _
      refine X41.ldcInt hx hown (mvT hZ (hw _ (List.mem_of_getElem? (i := 8) rfl))) (g := (mkF m 305 #[.val (.int p1), .val (.int p2), .val (.ref b1), .val (.ref b21), .val (.int K), .unset, .val (.int (0 : Int32)), .val (.int J), .val (.int ((own_hi (J - (1 : Int32))) + (1 : Int32))), .val (.int ((own_lo J) - (1 : Int32)))] [(.int p2), (.int ((own_hi (J - (1 : Int32))) + (1 : Int32)))])) rfl (hb hby at_305) _ ?_
      show Steps p.tables e below (T41.setTop (mkF m 307 #[.val (.int p1), .val (.int p2), .val (.ref b1), .val (.ref b21), .val (.int K), .unset, .val (.int (0 : Int32)), .val (.int J), .val (.int ((own_hi (J - (1 : Int32))) + (1 : Int32))), .val (.int ((own_lo J) - (1 : Int32)))] [(.int (2147483647 : Int32)), (.int p2), (.int ((own_hi (J - (1 : Int32))) + (1 : Int32)))])) _
      refine XS.iand X41.here hx rfl (hb hby at_307) rfl ?_
      show Steps p.tables e below (T41.setTop (mkF m 308 #[.val (.int p1), .val (.int p2), .val (.ref b1), .val (.ref b21), .val (.int K), .unset, .val (.int (0 : Int32)), .val (.int J), .val (.int ((own_hi (J - (1 : Int32))) + (1 : Int32))), .val (.int ((own_lo J) - (1 : Int32)))] [(.int (p2 &&& (2147483647 : Int32))), (.int ((own_hi (J - (1 : Int32))) + (1 : Int32)))])) _
      refine XS.iload X41.here hx rfl (hb hby at_308) rfl ?_
      show Steps p.tables e below (T41.setTop (mkF m 310 #[.val (.int p1), .val (.int p2), .val (.ref b1), .val (.ref b21), .val (.int K), .unset, .val (.int (0 : Int32)), .val (.int J), .val (.int ((own_hi (J - (1 : Int32))) + (1 : Int32))), .val (.int ((own_lo J) - (1 : Int32)))] [(.int ((own_lo J) - (1 : Int32))), (.int (p2 &&& (2147483647 : Int32))), (.int ((own_hi (J - (1 : Int32))) + (1 : Int32)))])) _
      refine XS.iload X41.here hx rfl (hb hby at_310) rfl ?_
      show Steps p.tables e below (T41.setTop (mkF m 312 #[.val (.int p1), .val (.int p2), .val (.ref b1), .val (.ref b21), .val (.int K), .unset, .val (.int (0 : Int32)), .val (.int J), .val (.int ((own_hi (J - (1 : Int32))) + (1 : Int32))), .val (.int ((own_lo J) - (1 : Int32)))] [(.int ((own_hi (J - (1 : Int32))) + (1 : Int32))), (.int ((own_lo J) - (1 : Int32))), (.int (p2 &&& (2147483647 : Int32))), (.int ((own_hi (J - (1 : Int32))) + (1 : Int32)))])) _
      refine XS.isub X41.here hx rfl (hb hby at_312) rfl ?_
      show Steps p.tables e below (T41.setTop (mkF m 313 #[.val (.int p1), .val (.int p2), .val (.ref b1), .val (.ref b21), .val (.int K), .unset, .val (.int (0 : Int32)), .val (.int J), .val (.int ((own_hi (J - (1 : Int32))) + (1 : Int32))), .val (.int ((own_lo J) - (1 : Int32)))] [(.int (((own_lo J) - (1 : Int32)) - ((own_hi (J - (1 : Int32))) + (1 : Int32)))), (.int (p2 &&& (2147483647 : Int32))), (.int ((own_hi (J - (1 : Int32))) + (1 : Int32)))])) _
      refine XT.iconstV X41.here hx rfl (1 : Int32) (hb hby at_313) (by decide) ?_
      exact k)
    obtain ⟨_, _, ⟨T65, L65, k65, n65⟩, -, X65, ⟨Lc65, hQ65, l65, y65, z65⟩, st65⟩ := Jvm.LawKit.callS X41 hx (y := (⟨"org/beanpath/model/PathSyntax", "isNameStart", "(I)Z"⟩ : MethodName)) hown (mvT hZ (hw _ (List.mem_of_getElem? (i := 9) rfl))) (mvT hZ (hw _ (List.mem_of_getElem? (i := 10) rfl))) (mvT hZ (hw _ (List.mem_of_getElem? (i := 11) rfl))) (mvT hZ (hw _ (List.mem_of_getElem? (i := 12) rfl))) (by decide) (backOf (W := 0) (rm_start l Z a0 hw [] (((own_hi (J - (1 : Int32))) + (1 : Int32)) + ((p2 &&& (2147483647 : Int32)) % ((((own_lo J) - (1 : Int32)) - ((own_hi (J - (1 : Int32))) + (1 : Int32))) + (1 : Int32)))) h41 n0 (Nat.le_trans Z0 O41.1) (0 : Int32) (own_no p2 hg)) hZ (hw _ (List.mem_of_getElem? (i := 12) rfl)) (hw _ (List.mem_of_getElem? (i := 11) rfl)) (by decide) (by decide)) (g := (mkF m 321 #[.val (.int p1), .val (.int p2), .val (.ref b1), .val (.ref b21), .val (.int K), .val (.int (((own_hi (J - (1 : Int32))) + (1 : Int32)) + ((p2 &&& (2147483647 : Int32)) % ((((own_lo J) - (1 : Int32)) - ((own_hi (J - (1 : Int32))) + (1 : Int32))) + (1 : Int32))))), .val (.int (0 : Int32)), .val (.int J), .val (.int ((own_hi (J - (1 : Int32))) + (1 : Int32))), .val (.int ((own_lo J) - (1 : Int32)))] [(.int (((own_hi (J - (1 : Int32))) + (1 : Int32)) + ((p2 &&& (2147483647 : Int32)) % ((((own_lo J) - (1 : Int32)) - ((own_hi (J - (1 : Int32))) + (1 : Int32))) + (1 : Int32)))))])) rfl (by rw [hml]; rfl) (argsL := [(.int (((own_hi (J - (1 : Int32))) + (1 : Int32)) + ((p2 &&& (2147483647 : Int32)) % ((((own_lo J) - (1 : Int32)) - ((own_hi (J - (1 : Int32))) + (1 : Int32))) + (1 : Int32)))))]) (rest := []) (lenOf pd_0 rfl) rfl (by show 2 * 0 + _ ≤ _; exact Nat.le_of_eq rfl) (hb hby at_321) (fun _ _ => ⟨rfl, e41, (by decide : 2 + 0 ≤ _), (by decide : 30 + 0 ≤ _)⟩)
    dsimp only [Pt.U, Pt.locs, Pt.cells, Pt.slots] at X65 l65 y65 z65 st65 hQ65
    rw [y65, z65] at X65
    obtain ⟨rfl, N65q, e65⟩ := hQ65
    have N65 : Fr n0 L65 := by rw [l65]; exact Fr.app N41 N65q
    have pre66 : ∀ t, Steps p.tables e below (T65.setTop (mkF m 334 #[.val (.int p1), .val (.int p2), .val (.ref b1), .val (.ref b21), .val (.int K), .val (.int (((own_hi (J - (1 : Int32))) + (1 : Int32)) + ((p2 &&& (2147483647 : Int32)) % ((((own_lo J) - (1 : Int32)) - ((own_hi (J - (1 : Int32))) + (1 : Int32))) + (1 : Int32))))), .val (.int (0 : Int32)), .val (.int J), .val (.int ((own_hi (J - (1 : Int32))) + (1 : Int32))), .val (.int ((own_lo J) - (1 : Int32)))] [(.int (1 : Int32))])) t → Steps p.tables e below (s₁.setTop (entryFrame m #[(.int p1), (.int p2)] maxLocals)) t := fun t k => pre64 t (by
      show Steps p.tables e below (T41.setTop (mkF m 314 #[.val (.int p1), .val (.int p2), .val (.ref b1), .val (.ref b21), .val (.int K), .unset, .val (.int (0 : Int32)), .val (.int J), .val (.int ((own_hi (J - (1 : Int32))) + (1 : Int32))), .val (.int ((own_lo J) - (1 : Int32)))] [(.int (1 : Int32)), (.int (((own_lo J) - (1 : Int32)) - ((own_hi (J - (1 : Int32))) + (1 : Int32)))), (.int (p2 &&& (2147483647 : Int32))), (.int ((own_hi (J - (1 : Int32))) + (1 : Int32)))])) _
      refine XS.iadd X41.here hx rfl (hb hby at_314) rfl ?_
      show Steps p.tables e below (T41.setTop (mkF m 315 #[.val (.int p1), .val (.int p2), .val (.ref b1), .val (.ref b21), .val (.int K), .unset, .val (.int (0 : Int32)), .val (.int J), .val (.int ((own_hi (J - (1 : Int32))) + (1 : Int32))), .val (.int ((own_lo J) - (1 : Int32)))] [(.int ((((own_lo J) - (1 : Int32)) - ((own_hi (J - (1 : Int32))) + (1 : Int32))) + (1 : Int32))), (.int (p2 &&& (2147483647 : Int32))), (.int ((own_hi (J - (1 : Int32))) + (1 : Int32)))])) _
      refine iremM X41 hx rfl (hb hby at_315) rfl (own_gnz hg) ?_
      show Steps p.tables e below (T41.setTop (mkF m 316 #[.val (.int p1), .val (.int p2), .val (.ref b1), .val (.ref b21), .val (.int K), .unset, .val (.int (0 : Int32)), .val (.int J), .val (.int ((own_hi (J - (1 : Int32))) + (1 : Int32))), .val (.int ((own_lo J) - (1 : Int32)))] [(.int ((p2 &&& (2147483647 : Int32)) % ((((own_lo J) - (1 : Int32)) - ((own_hi (J - (1 : Int32))) + (1 : Int32))) + (1 : Int32)))), (.int ((own_hi (J - (1 : Int32))) + (1 : Int32)))])) _
      refine XS.iadd X41.here hx rfl (hb hby at_316) rfl ?_
      show Steps p.tables e below (T41.setTop (mkF m 317 #[.val (.int p1), .val (.int p2), .val (.ref b1), .val (.ref b21), .val (.int K), .unset, .val (.int (0 : Int32)), .val (.int J), .val (.int ((own_hi (J - (1 : Int32))) + (1 : Int32))), .val (.int ((own_lo J) - (1 : Int32)))] [(.int (((own_hi (J - (1 : Int32))) + (1 : Int32)) + ((p2 &&& (2147483647 : Int32)) % ((((own_lo J) - (1 : Int32)) - ((own_hi (J - (1 : Int32))) + (1 : Int32))) + (1 : Int32)))))])) _
      refine XS.istore X41.here hx rfl (hb hby at_317) rfl (l' := #[.val (.int p1), .val (.int p2), .val (.ref b1), .val (.ref b21), .val (.int K), .val (.int (((own_hi (J - (1 : Int32))) + (1 : Int32)) + ((p2 &&& (2147483647 : Int32)) % ((((own_lo J) - (1 : Int32)) - ((own_hi (J - (1 : Int32))) + (1 : Int32))) + (1 : Int32))))), .val (.int (0 : Int32)), .val (.int J), .val (.int ((own_hi (J - (1 : Int32))) + (1 : Int32))), .val (.int ((own_lo J) - (1 : Int32)))]) rfl ?_
      show Steps p.tables e below (T41.setTop (mkF m 319 #[.val (.int p1), .val (.int p2), .val (.ref b1), .val (.ref b21), .val (.int K), .val (.int (((own_hi (J - (1 : Int32))) + (1 : Int32)) + ((p2 &&& (2147483647 : Int32)) % ((((own_lo J) - (1 : Int32)) - ((own_hi (J - (1 : Int32))) + (1 : Int32))) + (1 : Int32))))), .val (.int (0 : Int32)), .val (.int J), .val (.int ((own_hi (J - (1 : Int32))) + (1 : Int32))), .val (.int ((own_lo J) - (1 : Int32)))] [])) _
      refine XS.iload X41.here hx rfl (hb hby at_319) rfl ?_
      show Steps p.tables e below (T41.setTop (mkF m 321 #[.val (.int p1), .val (.int p2), .val (.ref b1), .val (.ref b21), .val (.int K), .val (.int (((own_hi (J - (1 : Int32))) + (1 : Int32)) + ((p2 &&& (2147483647 : Int32)) % ((((own_lo J) - (1 : Int32)) - ((own_hi (J - (1 : Int32))) + (1 : Int32))) + (1 : Int32))))), .val (.int (0 : Int32)), .val (.int J), .val (.int ((own_hi (J - (1 : Int32))) + (1 : Int32))), .val (.int ((own_lo J) - (1 : Int32)))] [(.int (((own_hi (J - (1 : Int32))) + (1 : Int32)) + ((p2 &&& (2147483647 : Int32)) % ((((own_lo J) - (1 : Int32)) - ((own_hi (J - (1 : Int32))) + (1 : Int32))) + (1 : Int32)))))])) _
      refine st65 _ ?_
      show Steps p.tables e below (T65.setTop (mkF m 324 #[.val (.int p1), .val (.int p2), .val (.ref b1), .val (.ref b21), .val (.int K), .val (.int (((own_hi (J - (1 : Int32))) + (1 : Int32)) + ((p2 &&& (2147483647 : Int32)) % ((((own_lo J) - (1 : Int32)) - ((own_hi (J - (1 : Int32))) + (1 : Int32))) + (1 : Int32))))), .val (.int (0 : Int32)), .val (.int J), .val (.int ((own_hi (J - (1 : Int32))) + (1 : Int32))), .val (.int ((own_lo J) - (1 : Int32)))] [(.int (0 : Int32))])) _
      refine XS.iload X65.here hx rfl (hb hby at_324) rfl ?_
      show Steps p.tables e below (T65.setTop (mkF m 326 #[.val (.int p1), .val (.int p2), .val (.ref b1), .val (.ref b21), .val (.int K), .val (.int (((own_hi (J - (1 : Int32))) + (1 : Int32)) + ((p2 &&& (2147483647 : Int32)) % ((((own_lo J) - (1 : Int32)) - ((own_hi (J - (1 : Int32))) + (1 : Int32))) + (1 : Int32))))), .val (.int (0 : Int32)), .val (.int J), .val (.int ((own_hi (J - (1 : Int32))) + (1 : Int32))), .val (.int ((own_lo J) - (1 : Int32)))] [(.int (0 : Int32)), (.int (0 : Int32))])) _
      refine XS.icmpNo X65.here hx rfl (hb hby at_326) rfl (teq (by decide : ((0 : Int32) = (0 : Int32)))).2 ?_
      show Steps p.tables e below (T65.setTop (mkF m 329 #[.val (.int p1), .val (.int p2), .val (.ref b1), .val (.ref b21), .val (.int K), .val (.int (((own_hi (J - (1 : Int32))) + (1 : Int32)) + ((p2 &&& (2147483647 : Int32)) % ((((own_lo J) - (1 : Int32)) - ((own_hi (J - (1 : Int32))) + (1 : Int32))) + (1 : Int32))))), .val (.int (0 : Int32)), .val (.int J), .val (.int ((own_hi (J - (1 : Int32))) + (1 : Int32))), .val (.int ((own_lo J) - (1 : Int32)))] [])) _
      refine XT.iconstV X65.here hx rfl (1 : Int32) (hb hby at_329) (by decide) ?_
      show Steps p.tables e below (T65.setTop (mkF m 330 #[.val (.int p1), .val (.int p2), .val (.ref b1), .val (.ref b21), .val (.int K), .val (.int (((own_hi (J - (1 : Int32))) + (1 : Int32)) + ((p2 &&& (2147483647 : Int32)) % ((((own_lo J) - (1 : Int32)) - ((own_hi (J - (1 : Int32))) + (1 : Int32))) + (1 : Int32))))), .val (.int (0 : Int32)), .val (.int J), .val (.int ((own_hi (J - (1 : Int32))) + (1 : Int32))), .val (.int ((own_lo J) - (1 : Int32)))] [(.int (1 : Int32))])) _
      refine XS.goto X65.here hx rfl (pc0 := 330) (pc' := 334) rfl (hb hby at_330) (by decide) (by decide) ?_
      exact k)
    obtain ⟨fs, hr, hrun, hended, hW, hsame⟩ := X65.leave (v := some (.int (1 : Int32))) (fun h => by rw [Bd.returns] at h; cases h)
    refine ⟨_, _, pre66 _ ?_, hrun, hended, _, _, rfl, ?_, ⟨_, rfl⟩, hW, hsame.mono (by decide) (by decide)⟩
    · show Steps p.tables e below (T65.setTop (mkF m 334 #[.val (.int p1), .val (.int p2), .val (.ref b1), .val (.ref b21), .val (.int K), .val (.int (((own_hi (J - (1 : Int32))) + (1 : Int32)) + ((p2 &&& (2147483647 : Int32)) % ((((own_lo J) - (1 : Int32)) - ((own_hi (J - (1 : Int32))) + (1 : Int32))) + (1 : Int32))))), .val (.int (0 : Int32)), .val (.int J), .val (.int ((own_hi (J - (1 : Int32))) + (1 : Int32))), .val (.int ((own_lo J) - (1 : Int32)))] [(.int (1 : Int32))])) _
      exact retOut X65 hx Bd.returns rfl (Or.inl ⟨rfl, by simp, _, rfl⟩) (hb hby at_334) hr
    · show Q0 Z p1 p2  h0 n0 _ T65.heap _
      rw [e65]
      exact ⟨rfl, N65⟩
set_option maxRecDepth 65536 in
set_option maxHeartbeats 40000000 in
theorem comes_1 {Post : Tables → Env → Array Value → State → Outcome → State → Prop} (hpost : ∀ tb e args s v u, (limb_1_1.after args s (.returned v) u = true ∧ limb_1_2.after args s (.returned v) u = true ∧ True) → FrameEnd s (.returned v) u (Jvm.fieldLocs frame_1_writes args s ++ Jvm.arrayLocs frame_1_arrays args s ++ Jvm.staticLocs frame_1_statics s) 16 128 → Post tb e args s (.returned v) u) :
    ArmFor flags0 classFile x code maxLocals ret World_1 tables_1 room_1 Calls_1 rest_1 Pre_1 Post := by
  intro l hfl _ _ p e ha hc hk s m args below hf hA hF happ hP
  obtain ⟨hcalls, hrest, hpre⟩ := hP
  obtain ⟨-, -, -, hnamed, -, -, -, hat⟩ := (Spec.applies_iff hf).mp happ
  obtain ⟨hg, hn⟩ := and_e (Cond.before_iff.mp (show (Jvm.Cond.and given_1 narrow_1).before args s = true from hpre))
  obtain ⟨gc, gr0⟩ := and_e hg
  obtain ⟨ga0, gr1⟩ := and_e gr0
  obtain ⟨w0, w1, rfl⟩ : ∃ w0 w1 : Value, args = #[w0, w1] := by
    have hs : args.size = 2 := by simpa [Cond.value, given_1] using gc
    obtain ⟨L⟩ := args
    match L, hs with
    | [w0, w1], _ => exact ⟨w0, w1, rfl⟩
  have hw := fun d (hd : d ∈ tables_1) => atoms_spec (ws := Jvm.Cond.code x code maxLocals ret :: tables_1) hat d (List.mem_cons_of_mem _ hd)
  have hfit : Fit s := fun {y c} hc i hi => by
    obtain ⟨ha, rfl⟩ := Array.getElem?_eq_some_iff.mp hc
    have q := List.all_eq_true.mp ((Array.all_eq_true_iff_forall_mem.mp hF) _ (Array.getElem_mem ha)) i (List.mem_range.mpr hi)
    simpa [Array.getElem?_eq_getElem hi] using q
  obtain ⟨i0, ei0⟩ := is_v ga0
  obtain rfl : w0 = (.int i0) := Option.some.inj ei0
  obtain ⟨i1, ei1⟩ := is_v gr1
  obtain rfl : w1 = (.int i1) := Option.some.inj ei1
  obtain ⟨n, o, h1, h2, h3, _, L, rfl, ⟨rfl, N⟩, hq⟩ := rm0 l s _ hw tables_1 i0 i1 s.heap s.heap.size (Nat.le_refl _)  p e ha hc hk s m _ below hf ((Spec.applies_iff_loose hf).mp happ).1 ⟨rfl, State.Warmed39.refl s, rfl⟩ trivial
  exact ⟨n, _, h1, h2, h3, hpost _ _ _ _ _ _ ⟨Cond.after_iff.mpr rfl, Cond.after_iff.mpr (eq_i res_at (Term.int_eval (1)) rfl), trivial⟩ ⟨hq.1, hq.2.1, (hq.2.2.sift fun y hy => Or.inr (N y hy)).mono (by decide) (by decide)⟩⟩
theorem main_1_1 : Claimed_1_1 := comes_1 fun _ _ _ _ _ _ h hF => ⟨h.1, hF⟩
theorem main_1_2 : Claimed_1_2 := comes_1 fun _ _ _ _ _ _ h hF => ⟨h.2.1, hF⟩
end Jvm.Pilot.@@N@@
namespace Jvm.Pilot.@@N@@
open Jvm Jvm.ClassFile Sem Op Lib Jvm.Free Jvm.Stand Jvm.Pilot.@@N@@.Jvm.D
/-! MADE BY PROGRAM (witnessworld.py) out of the Statement's table words and the real class files: 10 classes; the members and pool entries that the words name. The judged class is class 1, her method 1. -/
namespace start1
open Jvm.ClassFile
def u (s : String) : CpInfo := .utf8 (stringToUtf16 s)
/-- a pool by its gaps: so many unusable entries, then the entry; so many at the end -/
def gap : Nat → List CpInfo → List CpInfo
  | 0, r => r
  | n + 1, r => .unusable :: gap n r
def poolList (es : List (Nat × CpInfo)) (last : Nat) : List CpInfo := es.foldr (fun e r => gap e.1 (e.2 :: r)) (gap last [])
def pool (es : List (Nat × CpInfo)) (last : Nat) : Array CpInfo := ⟨poolList es last⟩
def fileOf (pool : Array CpInfo) (this : Nat) (attrs : Array Attribute := #[]) (ms : Array MethodInfo := #[]) (fl : Nat := 33) (sup : Nat := 0) (ifs : Array Nat := #[]) (fds : Array FieldInfo := #[]) : ClassFile where
  minorVersion := 0
  majorVersion := 65
  constantPool := pool
  accessFlags := fl
  thisClass := this
  superClass := sup
  interfaces := ifs
  fields := fds
  methods := ms
  attributes := attrs
def plain (name : String) (sup : Option ClassId) : Class where
  name := name
  kind := .ordinary
  loader := none
  accessFlags := 33
  super := sup
  interfaces := #[]
  cf := none
  fields := #[]
  methods := #[]
  instanceTypes := #[]
  staticTypes := #[]
  resolved := #[]
  callSites := []
  init := .initialized
  statics := none
  mirror := none

def pool0 : Array CpInfo := pool [(5, u "<init>"), (0, u "()V"), (1, .class_ 10), (1, u "java/lang/Object")] 113

def k0m0 : Method := { name := "<init>", desc := "()V", sig := { parameters := [], returnType := none }, accessFlags := 1, code := none }
/-- java/lang/Object -/
def k0 : Class := { plain "java/lang/Object" none with
  accessFlags := 33
  interfaces := #[]
  cf := some (fileOf pool0 8 #[] #[{ accessFlags := 1, nameIndex := 5, descriptorIndex := 6, attributes := #[] }] 33 0 #[] #[])
  fields := #[]
  methods := #[k0m0]
  instanceTypes := #[]
  staticTypes := #[]
  resolved := Array.replicate 124 none
  statics := none }

def pool1 : Array CpInfo := pool [(2, .class_ 4), (1, u "java/lang/Object"), (0, u "<init>"), (0, u "()V"), (0, .integer 63744), (0, .integer 65008), (0, .integer 65536), (0, .integer 55295), (0, .integer 64975), (0, .integer 65533), (0, .integer 983039), (0, .integer 2147483647), (0, .methodref 16 17), (0, .class_ 18), (0, .nameAndType 19 20), (0, u "java/lang/Math"), (0, u "min"), (0, u "(II)I"), (0, .integer 983040), (0, .methodref 16 23), (0, .nameAndType 24 20), (0, u "max"), (0, .methodref 26 27), (0, .class_ 28), (0, .nameAndType 29 30), (0, u "org/beanpath/model/PathSyntax"), (0, u "isNameStart"), (0, u "(I)Z"), (0, .class_ 32), (0, u "org/beanpath/model/PathSyntaxIsNameStartPinLaw"), (2, u "law"), (0, u "(II)Z")] 5

def k1m0 : Method := { name := "<init>", desc := "()V", sig := { parameters := [], returnType := none }, accessFlags := 2, code := none }
def k1c1 : Code := { maxStack := 5, maxLocals := 10, code := code, exceptionTable := #[], attributes := #[] }
def k1m1 : Method := { name := "law", desc := "(II)Z", sig := { parameters := [.int, .int], returnType := some .boolean }, accessFlags := 9, code := some k1c1 }
/-- org/beanpath/model/PathSyntaxIsNameStartPinLaw -/
def k1 : Class := { plain "org/beanpath/model/PathSyntaxIsNameStartPinLaw" (some 0) with
  accessFlags := 49
  interfaces := #[]
  cf := some (fileOf pool1 31 #[] #[{ accessFlags := 2, nameIndex := 5, descriptorIndex := 6, attributes := #[] }, { accessFlags := 9, nameIndex := 35, descriptorIndex := 36, attributes := #[] }] 49 2 #[] #[])
  fields := #[]
  methods := #[k1m0, k1m1]
  instanceTypes := #[]
  staticTypes := #[]
  resolved := Array.replicate 42 none
  statics := none }

def pool2 : Array CpInfo := pool [(2, .class_ 4), (1, u "java/lang/Object"), (0, u "<init>"), (0, u "()V"), (11, .class_ 20), (1, u "org/beanpath/model/PathSyntax"), (0, u "isNameStart"), (0, u "(I)Z"), (48, .integer 55295), (0, .integer 63744), (0, .integer 64975), (0, .integer 65008), (0, .integer 65533), (0, .integer 65536), (0, .integer 983039)] 37

def k2m0 : Method := { name := "<init>", desc := "()V", sig := { parameters := [], returnType := none }, accessFlags := 2, code := none }
def k2c1 : Code := { maxStack := 2, maxLocals := 1, code := prog_131_method_4_code, exceptionTable := #[], attributes := #[] }
def k2m1 : Method := { name := "isNameStart", desc := "(I)Z", sig := { parameters := [.int], returnType := some .boolean }, accessFlags := 9, code := some k2c1 }
/-- org/beanpath/model/PathSyntax -/
def k2 : Class := { plain "org/beanpath/model/PathSyntax" (some 0) with
  accessFlags := 49
  interfaces := #[]
  cf := some (fileOf pool2 18 #[] #[{ accessFlags := 2, nameIndex := 5, descriptorIndex := 6, attributes := #[] }, { accessFlags := 9, nameIndex := 21, descriptorIndex := 22, attributes := #[] }] 49 2 #[] #[])
  fields := #[]
  methods := #[k2m0, k2m1]
  instanceTypes := #[]
  staticTypes := #[]
  resolved := Array.replicate 115 none
  statics := none }

def pool3 : Array CpInfo := pool [(1, .class_ 2), (0, u "java/lang/Math"), (1, .class_ 6), (1, u "java/lang/Object"), (0, u "<init>"), (0, u "()V"), (89, .class_ 100), (1, u "java/lang/Math$RandomNumberGeneratorHolder"), (71, u "negativeZeroFloatBits"), (0, u "J"), (2, u "negativeZeroDoubleBits"), (21, u "max"), (2, u "min"), (43, u "$assertionsDisabled"), (0, u "Z"), (88, u "(II)I"), (2, u "twoToTheDoubleScaleDown"), (0, u "D"), (4, u "twoToTheDoubleScaleUp"), (9, u "E"), (3, u "PI"), (2, u "TAU"), (2, u "DEGREES_TO_RADIANS"), (0, u "RADIANS_TO_DEGREES")] 94

def k3m0 : Method := { name := "<init>", desc := "()V", sig := { parameters := [], returnType := none }, accessFlags := 2, code := none }
def k3c1 : Code := { maxStack := 2, maxLocals := 2, code := jdk_29_method_65_code, exceptionTable := #[], attributes := #[] }
def k3m1 : Method := { name := "max", desc := "(II)I", sig := { parameters := [.int, .int], returnType := some .int }, accessFlags := 9, code := some k3c1 }
def k3c2 : Code := { maxStack := 2, maxLocals := 2, code := jdk_29_method_69_code, exceptionTable := #[], attributes := #[] }
def k3m2 : Method := { name := "min", desc := "(II)I", sig := { parameters := [.int, .int], returnType := some .int }, accessFlags := 9, code := some k3c2 }
/-- java/lang/Math -/
def k3 : Class := { plain "java/lang/Math" (some 0) with
  accessFlags := 49
  interfaces := #[]
  cf := some (fileOf pool3 1 #[.nestMembers #[98]] #[{ accessFlags := 2, nameIndex := 7, descriptorIndex := 8, attributes := #[] }, { accessFlags := 9, nameIndex := 198, descriptorIndex := 335, attributes := #[] }, { accessFlags := 9, nameIndex := 201, descriptorIndex := 335, attributes := #[] }] 49 4 #[] #[{ accessFlags := 25, nameIndex := 354, descriptorIndex := 339, attributes := #[] }, { accessFlags := 25, nameIndex := 358, descriptorIndex := 339, attributes := #[] }, { accessFlags := 25, nameIndex := 361, descriptorIndex := 339, attributes := #[] }, { accessFlags := 26, nameIndex := 364, descriptorIndex := 339, attributes := #[] }, { accessFlags := 26, nameIndex := 365, descriptorIndex := 339, attributes := #[] }, { accessFlags := 26, nameIndex := 172, descriptorIndex := 173, attributes := #[] }, { accessFlags := 26, nameIndex := 176, descriptorIndex := 173, attributes := #[] }, { accessFlags := 8, nameIndex := 344, descriptorIndex := 339, attributes := #[] }, { accessFlags := 8, nameIndex := 338, descriptorIndex := 339, attributes := #[] }, { accessFlags := 4120, nameIndex := 245, descriptorIndex := 246, attributes := #[] }])
  fields := #[{ name := "E", type := .double, accessFlags := 25, slot := 0, constantValue := 0 }, { name := "PI", type := .double, accessFlags := 25, slot := 1, constantValue := 0 }, { name := "TAU", type := .double, accessFlags := 25, slot := 2, constantValue := 0 }, { name := "DEGREES_TO_RADIANS", type := .double, accessFlags := 26, slot := 3, constantValue := 0 }, { name := "RADIANS_TO_DEGREES", type := .double, accessFlags := 26, slot := 4, constantValue := 0 }, { name := "negativeZeroFloatBits", type := .long, accessFlags := 26, slot := 5, constantValue := 0 }, { name := "negativeZeroDoubleBits", type := .long, accessFlags := 26, slot := 6, constantValue := 0 }, { name := "twoToTheDoubleScaleUp", type := .double, accessFlags := 8, slot := 7, constantValue := 0 }, { name := "twoToTheDoubleScaleDown", type := .double, accessFlags := 8, slot := 8, constantValue := 0 }, { name := "$assertionsDisabled", type := .boolean, accessFlags := 4120, slot := 9, constantValue := 0 }]
  methods := #[k3m0, k3m1, k3m2]
  instanceTypes := #[]
  staticTypes := #[.double, .double, .double, .double, .double, .long, .long, .double, .double, .boolean]
  resolved := Array.replicate 460 none
  statics := none }

def pool4 : Array CpInfo := pool [(1, u "java/lang/Cloneable"), (0, .class_ 1), (0, u "java/lang/Object"), (0, .class_ 3)] 3

/-- java/lang/Cloneable -/
def k4 : Class := { plain "java/lang/Cloneable" (some 0) with
  accessFlags := 1537
  interfaces := #[]
  cf := some (fileOf pool4 2 #[] #[] 1537 4 #[] #[])
  fields := #[]
  methods := #[]
  instanceTypes := #[]
  staticTypes := #[]
  resolved := Array.replicate 8 none
  statics := none }

def pool5 : Array CpInfo := pool [(1, u "java/io/Serializable"), (0, .class_ 1), (0, u "java/lang/Object"), (0, .class_ 3)] 3

/-- java/io/Serializable -/
def k5 : Class := { plain "java/io/Serializable" (some 0) with
  accessFlags := 1537
  interfaces := #[]
  cf := some (fileOf pool5 2 #[] #[] 1537 4 #[] #[])
  fields := #[]
  methods := #[]
  instanceTypes := #[]
  staticTypes := #[]
  resolved := Array.replicate 8 none
  statics := none }

/-- the primitive byte -/
def k6 : Class := { plain "byte" none with kind := .primitive 'B', accessFlags := 0x411 }
/-- [B -/
def k7 : Class := { plain "[B" (some 0) with kind := .array 6 .byte, interfaces := #[4, 5], accessFlags := 1041 }

/-- the primitive int -/
def k8 : Class := { plain "int" none with kind := .primitive 'I', accessFlags := 0x411 }
/-- [I -/
def k9 : Class := { plain "[I" (some 0) with kind := .array 8 .int, interfaces := #[4, 5], accessFlags := 1041 }

def heap : Heap := #[]
def classes : Array Class := #[k0, k1, k2, k3, k4, k5, k6, k7, k8, k9]
def interned : List (Array UInt16 × Addr) := []
def slotsUsed : Nat := 0
def theMethod : MethodId := ⟨1, 1⟩
def args0 : Array Value := #[.int 5, .int 7]
def aboutOver (below : List Frame) : State where
  vm := { classes := classes, interned := interned.toArray }
  heap := heap
  slotsUsed := slotsUsed
  threads := #[{ frames := .invoking theMethod args0 :: below }]
def below0 : List Frame := [.native { method := ⟨0, 0⟩, args := #[] }]
def about1 : State := aboutOver below0
def p0 : Program := .bare "" "" ""
def e0 : Env := launch0.env 0 0 0
theorem w_frames : about1.frames = Frame.invoking theMethod args0 :: below0 := rfl
set_option maxRecDepth 65536 in
theorem w_args : argsFit about1.vm theMethod args0 = true := by decide +kernel
set_option maxRecDepth 65536 in
theorem w_heap : heapFits about1 = true := by decide +kernel
set_option maxRecDepth 65536 in
theorem w_runnable : about1.curStatus? = some .runnable := by decide +kernel
set_option maxRecDepth 65536 in
theorem w_alone : about1.alone = true := by decide +kernel
set_option maxRecDepth 65536 in
theorem w_named : about1.methodNamed? x = some theMethod := by decide +kernel
set_option maxRecDepth 65536 in
theorem w_hears : about1.hears theMethod below0 = true := by decide +kernel
set_option maxRecDepth 65536 in
theorem w_ripe : about1.ripe theMethod args0 below0 = true := by decide +kernel
theorem w_running : about1.status = .running := rfl
set_option maxRecDepth 65536 in
theorem w_room : about1.hasRoom e0.platform room_1 = true :=
  launch0.hasRoom_least _ room_1 (by decide +kernel) (by decide +kernel) (by decide +kernel) (by decide +kernel) (by decide +kernel) (by decide +kernel)
theorem allAtoms_all (ts : List Jvm.Cond) (a : Array Jvm.Value) (st : Jvm.State) : (allAtoms ts).before a st = ts.all (fun c => c.before a st) := by
  induction ts with
  | nil => rfl
  | cons c t ih =>
    show (Jvm.Cond.and c (allAtoms t)).before a st = _
    rw [Jvm.Cond.before_and, ih, List.all_cons]
def words1 : List Jvm.Cond := Jvm.Cond.code x code maxLocals ret :: tables_1
/-- a 'code' word, met by the world's own term for the bytes: nothing is compared byte by byte -/
theorem code_word {y : MethodName} {bytes : ByteArray} {mx : Nat} {rt : Option FieldType} {a : Array Value} {s : State} {m : MethodId} {meth : Method} {c : Code} (h1 : s.methodNamed? y = some m) (h2 : s.vm.method? m = some meth) (h3 : meth.code = some c) (h4 : c.code = bytes)
    (h5 : (c.maxLocals == mx && c.exceptionTable.isEmpty && decide (c.maxStack ≤ mostOperands) && decide (meth.sig.returnType = rt) && !meth.locks && decide (parseMethodDescriptor y.desc = some meth.sig)) = true) : (Jvm.Cond.code y bytes mx rt).before a s = true := by
  simp only [Bool.and_eq_true, beq_iff_eq, Bool.not_eq_true', decide_eq_true_eq] at h5
  obtain ⟨⟨⟨⟨⟨g1, g2⟩, g3⟩, g4⟩, g5⟩, g6⟩ := h5
  simp [Cond.before, Cond.holds, Cond.value, h1, h2, h3, h4, g1, g2, g3, g4, g5, g6]
def isCode : Jvm.Cond → Bool
  | .code _ _ _ _ => true
  | _ => false
theorem all_split {L : List Jvm.Cond} {P : Jvm.Cond → Bool} (h1 : L.all (fun c => isCode c || P c) = true) (h2 : ∀ c ∈ L.filter isCode, P c = true) : L.all P = true := by
  refine List.all_eq_true.mpr fun c hc => ?_
  have h := List.all_eq_true.mp h1 c hc
  rcases Bool.eq_false_or_eq_true (isCode c) with hi | hi
  · exact h2 c (List.mem_filter.mpr ⟨hc, hi⟩)
  · simpa [hi] using h
set_option maxRecDepth 65536 in
theorem w_c0 : (Jvm.Cond.code x code maxLocals ret).before args0 about1 = true := code_word (m := ⟨1, 1⟩) (meth := k1m1) (c := k1c1) (by decide +kernel) rfl rfl rfl (by decide +kernel)
set_option maxRecDepth 65536 in
theorem w_c1 : (Jvm.Cond.code ({ cls := "org/beanpath/model/PathSyntax", name := "isNameStart", desc := "(I)Z" } : Jvm.MethodName) prog_131_method_4_code (1 : Nat) (Option.some Jvm.ClassFile.FieldType.boolean)).before args0 about1 = true := code_word (m := ⟨2, 1⟩) (meth := k2m1) (c := k2c1) (by decide +kernel) rfl rfl rfl (by decide +kernel)
set_option maxRecDepth 65536 in
theorem w_c2 : (Jvm.Cond.code ({ cls := "java/lang/Math", name := "min", desc := "(II)I" } : Jvm.MethodName) jdk_29_method_69_code (2 : Nat) (Option.some Jvm.ClassFile.FieldType.int)).before args0 about1 = true := code_word (m := ⟨3, 2⟩) (meth := k3m2) (c := k3c2) (by decide +kernel) rfl rfl rfl (by decide +kernel)
set_option maxRecDepth 65536 in
theorem w_c3 : (Jvm.Cond.code ({ cls := "java/lang/Math", name := "max", desc := "(II)I" } : Jvm.MethodName) jdk_29_method_65_code (2 : Nat) (Option.some Jvm.ClassFile.FieldType.int)).before args0 about1 = true := code_word (m := ⟨3, 1⟩) (meth := k3m1) (c := k3c1) (by decide +kernel) rfl rfl rfl (by decide +kernel)
def codes1 : List Jvm.Cond := [Jvm.Cond.code x code maxLocals ret, Jvm.Cond.code ({ cls := "org/beanpath/model/PathSyntax", name := "isNameStart", desc := "(I)Z" } : Jvm.MethodName) prog_131_method_4_code (1 : Nat) (Option.some Jvm.ClassFile.FieldType.boolean), Jvm.Cond.code ({ cls := "java/lang/Math", name := "min", desc := "(II)I" } : Jvm.MethodName) jdk_29_method_69_code (2 : Nat) (Option.some Jvm.ClassFile.FieldType.int), Jvm.Cond.code ({ cls := "java/lang/Math", name := "max", desc := "(II)I" } : Jvm.MethodName) jdk_29_method_65_code (2 : Nat) (Option.some Jvm.ClassFile.FieldType.int)]
set_option maxRecDepth 65536 in
theorem codes_eq : words1.filter isCode = codes1 := rfl
theorem w_codes : ∀ c ∈ words1.filter isCode, c.before args0 about1 = true := by
  rw [codes_eq]
  intro c hc
  simp only [codes1, List.mem_cons, List.not_mem_nil, or_false] at hc
  rcases hc with rfl | rfl | rfl | rfl
  · exact w_c0
  · exact w_c1
  · exact w_c2
  · exact w_c3
set_option maxRecDepth 65536 in
theorem w_t1 : (words1.take 24).all (fun c => isCode c || c.before args0 about1) = true := by decide +kernel
set_option maxRecDepth 65536 in
theorem w_t2 : (words1.drop 24).all (fun c => isCode c || c.before args0 about1) = true := by decide +kernel
theorem w_tables : (allAtoms (Jvm.Cond.code x code maxLocals ret :: tables_1)).before args0 about1 = true := by
  rw [allAtoms_all]
  show words1.all (fun c => c.before args0 about1) = true
  refine all_split ?_ w_codes
  rw [← List.take_append_drop 24 words1, List.all_append, w_t1, w_t2]
  rfl
set_option maxRecDepth 65536 in
theorem w_case : (Jvm.Cond.and given_1 narrow_1).before args0 about1 = true := by decide +kernel
theorem w_applies : (headSpec (Jvm.Cond.code x code maxLocals ret :: tables_1) room_1).applies x e0.platform about1 = true :=
  (Spec.applies_iff w_frames).mpr ⟨w_running, w_runnable, w_alone, w_named, w_hears, w_ripe, w_room, w_tables⟩
theorem atStart : AtStart classFile x code maxLocals ret World_1 tables_1 room_1 Calls_1 rest_1 Pre_1 launch0 p0 e0 about1 theMethod args0 below0 :=
  ⟨lists_1, trivial, launch0.admits_env _ _ _, launch0.least_env, fairChoices_fair.cas, fairChoices_fair.clock, w_frames, w_args, w_heap, w_applies, trivial, trivial, w_case⟩
end start1
theorem witness_1 : WitnessClaimed_1 := ⟨start1.p0, start1.e0, start1.about1, start1.theMethod, start1.args0, start1.below0, start1.atStart⟩
end Jvm.Pilot.@@N@@
