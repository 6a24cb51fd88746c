import JvmDerived
import JvmDerived.Pilot.@@N@@Statement
import JvmDerived.Pilot.@@N@@Code
set_option linter.unusedVariables false
set_option linter.unusedSimpArgs false
namespace Jvm.Pilot.@@N@@
open Jvm Jvm.ClassFile Sem Op Lib Jvm.Free Jvm.Stand Jvm.LawKit Jvm.RoadKit Bundle Jvm.Pilot.@@N@@.Jvm.D
theorem wd {d : Jvm.Cond} (i : Nat) (h : tables_1[i]? = some d) : d ∈ tables_1 := List.mem_of_getElem? h
def Go (tb : Tables) (e : Env) (below : List Frame) (S0 S : State) : Prop := ∀ t, Steps tb e below S t → Steps tb e below S0 t
theorem own_old_le {Z : State} {n0 : Nat} {h : Heap} (O : Old Z n0 h) : n0 ≤ h.size := O.1 ▸ O.2.1
theorem own_lcmp_self (x : Int64) : lcmpW x x = 0 := by rw [lcW, lc_eq]
theorem own_ne {Z : State} {h : Heap} {a b : Addr} {C n d : String} {i j : Int32} (F : Fld Z h a C n d (.int i)) (G : Fld Z h b C n d (.int j)) (q : i ≠ j) : a ≠ b := F.ne G fun e => q (Value.int.inj e)
theorem own_narrow_ref {v : Value} {n : String} (h : v.isRef = true) : narrow (.object n) v = v := by rcases ref_cases h with rfl | ⟨_, rfl⟩ <;> rfl
theorem own_fits_ref {v : Value} {n : String} (h : v.isRef = true) : fits (.object n) v = true := by rcases ref_cases h with rfl | ⟨_, rfl⟩ <;> rfl
theorem own_narrow_bool {z : Int32} (h : z = 0 ∨ z = 1) : narrow .boolean (.int z) = .int z := by rcases h with rfl | rfl <;> rfl
theorem own_fits_bool {z : Int32} (h : z = 0 ∨ z = 1) : fits .boolean (.int z) = true := by rcases h with rfl | rfl <;> rfl
def QV (w : Option Value) (h0 : Heap) (n0 : Nat) (v : Option Value) (h : Heap) (L : List Loc) : Prop := v = w ∧ Fr n0 L ∧ h = h0
def Q0 (n0 : Nat) (v : Option Value) (h : Heap) (L : List Loc) : Prop := v = some (.int (1 : Int32)) ∧ Fr n0 L
abbrev y_0 : MethodName := ⟨"java/lang/Math", "max", "(II)I"⟩
abbrev y_1 : MethodName := ⟨"java/lang/Math", "min", "(II)I"⟩
abbrev y_2 : MethodName := ⟨"com/example/states_into_classes/statesintoclasses/engine/Blocks", "stateCount", "()I"⟩
abbrev y_3 : MethodName := ⟨"com/example/states_into_classes/statesintoclasses/engine/Blocks", "size", "(I)I"⟩
abbrev y_4 : MethodName := ⟨"com/example/states_into_classes/statesintoclasses/engine/Blocks", "start", "(I)I"⟩
abbrev y_5 : MethodName := ⟨"com/example/states_into_classes/statesintoclasses/engine/Blocks", "end", "(I)I"⟩
abbrev y_6 : MethodName := ⟨"com/example/states_into_classes/statesintoclasses/engine/Blocks", "state", "(I)I"⟩
abbrev y_7 : MethodName := ⟨"com/example/states_into_classes/statesintoclasses/engine/BlockSides", "balanced", "(II)Z"⟩
abbrev y_8 : MethodName := ⟨"com/example/states_into_classes/statesintoclasses/engine/BlockSides", "enter", "(I)V"⟩
abbrev y_9 : MethodName := ⟨"com/example/states_into_classes/statesintoclasses/engine/BlockSides", "leave", "(I)V"⟩
abbrev y_10 : MethodName := ⟨"com/example/states_into_classes/statesintoclasses/engine/BlockSides", "link", "(II)V"⟩
abbrev y_11 : MethodName := ⟨"com/example/states_into_classes/statesintoclasses/engine/BlockSides", "unlink", "(II)V"⟩
abbrev y_12 : MethodName := ⟨"com/example/states_into_classes/statesintoclasses/engine/Blocks", "mark", "(I)V"⟩
abbrev y_13 : MethodName := ⟨"com/example/states_into_classes/statesintoclasses/engine/BlockSides", "fullest", "()I"⟩
abbrev y_14 : MethodName := ⟨"com/example/states_into_classes/statesintoclasses/engine/Blocks", "withRoom", "([III)[I"⟩
abbrev y_15 : MethodName := ⟨"com/example/states_into_classes/statesintoclasses/engine/BlockSides", "splitOff", "(II)V"⟩
abbrev y_16 : MethodName := ⟨"com/example/states_into_classes/statesintoclasses/engine/BlockSides", "rejoin", "(II)V"⟩
abbrev y_17 : MethodName := ⟨"com/example/states_into_classes/statesintoclasses/engine/Blocks$Split", "splitOff", "(II)V"⟩
abbrev y_18 : MethodName := ⟨"com/example/states_into_classes/statesintoclasses/engine/Blocks", "split", "(Lcom/example/states_into_classes/statesintoclasses/engine/Blocks$Split;)V"⟩
abbrev y_19 : MethodName := ⟨"com/example/states_into_classes/statesintoclasses/engine/BlockSidesFullestPinLaw", "markIf", "(Lcom/example/states_into_classes/statesintoclasses/engine/Blocks;II)V"⟩
abbrev y_20 : MethodName := ⟨"java/util/Arrays", "rangeCheck", "(III)V"⟩
abbrev y_21 : MethodName := ⟨"java/util/Arrays", "fill", "([II)V"⟩
abbrev y_22 : MethodName := ⟨"java/util/Arrays", "fill", "([IIII)V"⟩
abbrev y_23 : MethodName := ⟨"com/example/states_into_classes/statesintoclasses/engine/Blocks", "<init>", "([I)V"⟩
abbrev y_24 : MethodName := ⟨"com/example/states_into_classes/statesintoclasses/engine/Blocks", "<init>", "(I)V"⟩
abbrev y_25 : MethodName := ⟨"com/example/states_into_classes/statesintoclasses/engine/BlockSides", "<init>", "(Lcom/example/states_into_classes/statesintoclasses/engine/Blocks;I)V"⟩
abbrev y_26 : MethodName := ⟨"com/example/states_into_classes/statesintoclasses/engine/BlockSidesFullestPinLaw", "bit", "(II)I"⟩
abbrev y_27 : MethodName := ⟨"com/example/states_into_classes/statesintoclasses/engine/BlockSidesFullestPinLaw", "below", "(III)I"⟩
abbrev c1_ := prog_3_method_1_code
abbrev c2_ := prog_3_method_2_code
abbrev c4_ := jdk_29_method_69_code
abbrev c5_ := jdk_29_method_65_code
abbrev c6_ := jdk_65_method_104_code
abbrev c7_ := jdk_65_method_30_code
abbrev c8_ := prog_1_method_1_code
abbrev c9_ := prog_3_method_4_code
abbrev c10_ := jdk_65_method_103_code
abbrev c11_ := prog_1_method_8_code
abbrev c12_ := prog_1_method_11_code
abbrev c13_ := prog_1_method_3_code
abbrev c14_ := method_3_code
abbrev c15_ := prog_3_method_13_code
abbrev c16_ := method_4_code
abbrev c17_ := method_5_code
abbrev c18_ := prog_1_method_9_code
abbrev c19_ := prog_3_method_12_code
abbrev c20_ := prog_3_method_3_code
abbrev c21_ := prog_1_method_6_code
abbrev c22_ := prog_3_method_8_code
abbrev c23_ := prog_1_method_12_code
abbrev c24_ := prog_3_method_9_code
abbrev c25_ := prog_3_method_10_code
abbrev c26_ := prog_3_method_11_code
abbrev c27_ := prog_1_method_10_code
abbrev c28_ := prog_1_method_7_code
theorem d1_0 : decode c1_ 0 = .ok (.aload_n 0, 1) := by decide +kernel
theorem d1_1 : decode c1_ 1 = .ok (.iconst 2, 1) := by decide +kernel
theorem d1_2 : decode c1_ 2 = .ok (.newarray .int, 2) := by decide +kernel
theorem d1_4 : decode c1_ 4 = .ok (.dup, 1) := by decide +kernel
theorem d1_5 : decode c1_ 5 = .ok (.iconst 0, 1) := by decide +kernel
theorem d1_6 : decode c1_ 6 = .ok (.iconst 0, 1) := by decide +kernel
theorem d1_7 : decode c1_ 7 = .ok (.iastore, 1) := by decide +kernel
theorem d1_8 : decode c1_ 8 = .ok (.dup, 1) := by decide +kernel
theorem d1_9 : decode c1_ 9 = .ok (.iconst 1, 1) := by decide +kernel
theorem d1_10 : decode c1_ 10 = .ok (.iload_n 1, 1) := by decide +kernel
theorem d1_11 : decode c1_ 11 = .ok (.iastore, 1) := by decide +kernel
theorem d1_12 : decode c1_ 12 = .ok (.invokespecial 1, 3) := by decide +kernel
theorem d1_15 : decode c1_ 15 = .ok (.return_, 1) := by decide +kernel
theorem d2_0 : decode c2_ 0 = .ok (.aload_n 0, 1) := by decide +kernel
theorem d2_1 : decode c2_ 1 = .ok (.invokespecial 7, 3) := by decide +kernel
theorem d2_4 : decode c2_ 4 = .ok (.aload_n 1, 1) := by decide +kernel
theorem d2_5 : decode c2_ 5 = .ok (.aload_n 1, 1) := by decide +kernel
theorem d2_6 : decode c2_ 6 = .ok (.arraylength, 1) := by decide +kernel
theorem d2_7 : decode c2_ 7 = .ok (.iconst 1, 1) := by decide +kernel
theorem d2_8 : decode c2_ 8 = .ok (.isub, 1) := by decide +kernel
theorem d2_9 : decode c2_ 9 = .ok (.iaload, 1) := by decide +kernel
theorem d2_10 : decode c2_ 10 = .ok (.istore_n 2, 1) := by decide +kernel
theorem d2_11 : decode c2_ 11 = .ok (.aload_n 1, 1) := by decide +kernel
theorem d2_12 : decode c2_ 12 = .ok (.arraylength, 1) := by decide +kernel
theorem d2_13 : decode c2_ 13 = .ok (.iconst 1, 1) := by decide +kernel
theorem d2_14 : decode c2_ 14 = .ok (.isub, 1) := by decide +kernel
theorem d2_15 : decode c2_ 15 = .ok (.istore_n 3, 1) := by decide +kernel
theorem d2_16 : decode c2_ 16 = .ok (.iload_n 3, 1) := by decide +kernel
theorem d2_17 : decode c2_ 17 = .ok (.iload_n 2, 1) := by decide +kernel
theorem d2_18 : decode c2_ 18 = .ok (.sipush 1024, 3) := by decide +kernel
theorem d2_21 : decode c2_ 21 = .ok (.invokestatic 12, 3) := by decide +kernel
theorem d2_24 : decode c2_ 24 = .ok (.invokestatic 18, 3) := by decide +kernel
theorem d2_27 : decode c2_ 27 = .ok (.istore 4, 2) := by decide +kernel
theorem d2_29 : decode c2_ 29 = .ok (.iload_n 2, 1) := by decide +kernel
theorem d2_30 : decode c2_ 30 = .ok (.newarray .int, 2) := by decide +kernel
theorem d2_32 : decode c2_ 32 = .ok (.astore 5, 2) := by decide +kernel
theorem d2_34 : decode c2_ 34 = .ok (.iconst 0, 1) := by decide +kernel
theorem d2_35 : decode c2_ 35 = .ok (.istore 6, 2) := by decide +kernel
theorem d2_37 : decode c2_ 37 = .ok (.iload 6, 2) := by decide +kernel
theorem d2_39 : decode c2_ 39 = .ok (.iload_n 2, 1) := by decide +kernel
theorem d2_40 : decode c2_ 40 = .ok (.if_icmp .ge 16, 3) := by decide +kernel
theorem d2_43 : decode c2_ 43 = .ok (.aload 5, 2) := by decide +kernel
theorem d2_45 : decode c2_ 45 = .ok (.iload 6, 2) := by decide +kernel
theorem d2_47 : decode c2_ 47 = .ok (.iload 6, 2) := by decide +kernel
theorem d2_49 : decode c2_ 49 = .ok (.iastore, 1) := by decide +kernel
theorem d2_50 : decode c2_ 50 = .ok (.iinc 6 1, 3) := by decide +kernel
theorem d2_53 : decode c2_ 53 = .ok (.goto (-16), 3) := by decide +kernel
theorem d2_56 : decode c2_ 56 = .ok (.iload_n 2, 1) := by decide +kernel
theorem d2_57 : decode c2_ 57 = .ok (.newarray .int, 2) := by decide +kernel
theorem d2_59 : decode c2_ 59 = .ok (.astore 6, 2) := by decide +kernel
theorem d2_61 : decode c2_ 61 = .ok (.iload 4, 2) := by decide +kernel
theorem d2_63 : decode c2_ 63 = .ok (.newarray .int, 2) := by decide +kernel
theorem d2_65 : decode c2_ 65 = .ok (.astore 7, 2) := by decide +kernel
theorem d2_67 : decode c2_ 67 = .ok (.iload 4, 2) := by decide +kernel
theorem d2_69 : decode c2_ 69 = .ok (.newarray .int, 2) := by decide +kernel
theorem d2_71 : decode c2_ 71 = .ok (.astore 8, 2) := by decide +kernel
theorem d2_73 : decode c2_ 73 = .ok (.iconst 0, 1) := by decide +kernel
theorem d2_74 : decode c2_ 74 = .ok (.istore 9, 2) := by decide +kernel
theorem d2_76 : decode c2_ 76 = .ok (.iload 9, 2) := by decide +kernel
theorem d2_78 : decode c2_ 78 = .ok (.iload_n 3, 1) := by decide +kernel
theorem d2_79 : decode c2_ 79 = .ok (.if_icmp .ge 46, 3) := by decide +kernel
theorem d2_82 : decode c2_ 82 = .ok (.aload 7, 2) := by decide +kernel
theorem d2_84 : decode c2_ 84 = .ok (.iload 9, 2) := by decide +kernel
theorem d2_86 : decode c2_ 86 = .ok (.aload_n 1, 1) := by decide +kernel
theorem d2_87 : decode c2_ 87 = .ok (.iload 9, 2) := by decide +kernel
theorem d2_89 : decode c2_ 89 = .ok (.iaload, 1) := by decide +kernel
theorem d2_90 : decode c2_ 90 = .ok (.iastore, 1) := by decide +kernel
theorem d2_91 : decode c2_ 91 = .ok (.aload 8, 2) := by decide +kernel
theorem d2_93 : decode c2_ 93 = .ok (.iload 9, 2) := by decide +kernel
theorem d2_95 : decode c2_ 95 = .ok (.aload_n 1, 1) := by decide +kernel
theorem d2_96 : decode c2_ 96 = .ok (.iload 9, 2) := by decide +kernel
theorem d2_98 : decode c2_ 98 = .ok (.iconst 1, 1) := by decide +kernel
theorem d2_99 : decode c2_ 99 = .ok (.iadd, 1) := by decide +kernel
theorem d2_100 : decode c2_ 100 = .ok (.iaload, 1) := by decide +kernel
theorem d2_101 : decode c2_ 101 = .ok (.iastore, 1) := by decide +kernel
theorem d2_102 : decode c2_ 102 = .ok (.aload 6, 2) := by decide +kernel
theorem d2_104 : decode c2_ 104 = .ok (.aload 7, 2) := by decide +kernel
theorem d2_106 : decode c2_ 106 = .ok (.iload 9, 2) := by decide +kernel
theorem d2_108 : decode c2_ 108 = .ok (.iaload, 1) := by decide +kernel
theorem d2_109 : decode c2_ 109 = .ok (.aload 8, 2) := by decide +kernel
theorem d2_111 : decode c2_ 111 = .ok (.iload 9, 2) := by decide +kernel
theorem d2_113 : decode c2_ 113 = .ok (.iaload, 1) := by decide +kernel
theorem d2_114 : decode c2_ 114 = .ok (.iload 9, 2) := by decide +kernel
theorem d2_116 : decode c2_ 116 = .ok (.invokestatic 21, 3) := by decide +kernel
theorem d2_119 : decode c2_ 119 = .ok (.iinc 9 1, 3) := by decide +kernel
theorem d2_122 : decode c2_ 122 = .ok (.goto (-46), 3) := by decide +kernel
theorem d2_125 : decode c2_ 125 = .ok (.aload_n 0, 1) := by decide +kernel
theorem d2_126 : decode c2_ 126 = .ok (.aload 5, 2) := by decide +kernel
theorem d2_128 : decode c2_ 128 = .ok (.putfield 27, 3) := by decide +kernel
theorem d2_131 : decode c2_ 131 = .ok (.aload_n 0, 1) := by decide +kernel
theorem d2_132 : decode c2_ 132 = .ok (.aload 5, 2) := by decide +kernel
theorem d2_134 : decode c2_ 134 = .ok (.invokevirtual 31, 3) := by decide +kernel
theorem d2_137 : decode c2_ 137 = .ok (.checkcast 32, 3) := by decide +kernel
theorem d2_140 : decode c2_ 140 = .ok (.putfield 36, 3) := by decide +kernel
theorem d2_143 : decode c2_ 143 = .ok (.aload_n 0, 1) := by decide +kernel
theorem d2_144 : decode c2_ 144 = .ok (.aload 6, 2) := by decide +kernel
theorem d2_146 : decode c2_ 146 = .ok (.putfield 39, 3) := by decide +kernel
theorem d2_149 : decode c2_ 149 = .ok (.aload_n 0, 1) := by decide +kernel
theorem d2_150 : decode c2_ 150 = .ok (.iload_n 2, 1) := by decide +kernel
theorem d2_151 : decode c2_ 151 = .ok (.newarray .int, 2) := by decide +kernel
theorem d2_153 : decode c2_ 153 = .ok (.putfield 42, 3) := by decide +kernel
theorem d2_156 : decode c2_ 156 = .ok (.aload_n 0, 1) := by decide +kernel
theorem d2_157 : decode c2_ 157 = .ok (.aload 7, 2) := by decide +kernel
theorem d2_159 : decode c2_ 159 = .ok (.putfield 45, 3) := by decide +kernel
theorem d2_162 : decode c2_ 162 = .ok (.aload_n 0, 1) := by decide +kernel
theorem d2_163 : decode c2_ 163 = .ok (.aload 8, 2) := by decide +kernel
theorem d2_165 : decode c2_ 165 = .ok (.putfield 48, 3) := by decide +kernel
theorem d2_168 : decode c2_ 168 = .ok (.aload_n 0, 1) := by decide +kernel
theorem d2_169 : decode c2_ 169 = .ok (.aload 7, 2) := by decide +kernel
theorem d2_171 : decode c2_ 171 = .ok (.invokevirtual 31, 3) := by decide +kernel
theorem d2_174 : decode c2_ 174 = .ok (.checkcast 32, 3) := by decide +kernel
theorem d2_177 : decode c2_ 177 = .ok (.putfield 51, 3) := by decide +kernel
theorem d2_180 : decode c2_ 180 = .ok (.aload_n 0, 1) := by decide +kernel
theorem d2_181 : decode c2_ 181 = .ok (.iload 4, 2) := by decide +kernel
theorem d2_183 : decode c2_ 183 = .ok (.newarray .int, 2) := by decide +kernel
theorem d2_185 : decode c2_ 185 = .ok (.putfield 54, 3) := by decide +kernel
theorem d2_188 : decode c2_ 188 = .ok (.aload_n 0, 1) := by decide +kernel
theorem d2_189 : decode c2_ 189 = .ok (.iload_n 3, 1) := by decide +kernel
theorem d2_190 : decode c2_ 190 = .ok (.putfield 57, 3) := by decide +kernel
theorem d2_193 : decode c2_ 193 = .ok (.return_, 1) := by decide +kernel
theorem d4_0 : decode c4_ 0 = .ok (.iload_n 0, 1) := by decide +kernel
theorem d4_1 : decode c4_ 1 = .ok (.iload_n 1, 1) := by decide +kernel
theorem d4_2 : decode c4_ 2 = .ok (.if_icmp .gt 7, 3) := by decide +kernel
theorem d4_5 : decode c4_ 5 = .ok (.iload_n 0, 1) := by decide +kernel
theorem d4_6 : decode c4_ 6 = .ok (.goto 4, 3) := by decide +kernel
theorem d4_9 : decode c4_ 9 = .ok (.iload_n 1, 1) := by decide +kernel
theorem d4_10 : decode c4_ 10 = .ok (.ireturn, 1) := by decide +kernel
theorem d5_0 : decode c5_ 0 = .ok (.iload_n 0, 1) := by decide +kernel
theorem d5_1 : decode c5_ 1 = .ok (.iload_n 1, 1) := by decide +kernel
theorem d5_2 : decode c5_ 2 = .ok (.if_icmp .lt 7, 3) := by decide +kernel
theorem d5_5 : decode c5_ 5 = .ok (.iload_n 0, 1) := by decide +kernel
theorem d5_6 : decode c5_ 6 = .ok (.goto 4, 3) := by decide +kernel
theorem d5_9 : decode c5_ 9 = .ok (.iload_n 1, 1) := by decide +kernel
theorem d5_10 : decode c5_ 10 = .ok (.ireturn, 1) := by decide +kernel
theorem d6_0 : decode c6_ 0 = .ok (.aload_n 0, 1) := by decide +kernel
theorem d6_1 : decode c6_ 1 = .ok (.arraylength, 1) := by decide +kernel
theorem d6_2 : decode c6_ 2 = .ok (.iload_n 1, 1) := by decide +kernel
theorem d6_3 : decode c6_ 3 = .ok (.iload_n 2, 1) := by decide +kernel
theorem d6_4 : decode c6_ 4 = .ok (.invokestatic 13, 3) := by decide +kernel
theorem d6_7 : decode c6_ 7 = .ok (.iload_n 1, 1) := by decide +kernel
theorem d6_8 : decode c6_ 8 = .ok (.istore 4, 2) := by decide +kernel
theorem d6_10 : decode c6_ 10 = .ok (.iload 4, 2) := by decide +kernel
theorem d6_12 : decode c6_ 12 = .ok (.iload_n 2, 1) := by decide +kernel
theorem d6_13 : decode c6_ 13 = .ok (.if_icmp .ge 14, 3) := by decide +kernel
theorem d6_16 : decode c6_ 16 = .ok (.aload_n 0, 1) := by decide +kernel
theorem d6_17 : decode c6_ 17 = .ok (.iload 4, 2) := by decide +kernel
theorem d6_19 : decode c6_ 19 = .ok (.iload_n 3, 1) := by decide +kernel
theorem d6_20 : decode c6_ 20 = .ok (.iastore, 1) := by decide +kernel
theorem d6_21 : decode c6_ 21 = .ok (.iinc 4 1, 3) := by decide +kernel
theorem d6_24 : decode c6_ 24 = .ok (.goto (-14), 3) := by decide +kernel
theorem d6_27 : decode c6_ 27 = .ok (.return_, 1) := by decide +kernel
theorem d7_0 : decode c7_ 0 = .ok (.iload_n 1, 1) := by decide +kernel
theorem d7_1 : decode c7_ 1 = .ok (.iload_n 2, 1) := by decide +kernel
theorem d7_2 : decode c7_ 2 = .ok (.if_icmp .le 44, 3) := by decide +kernel
theorem d7_46 : decode c7_ 46 = .ok (.iload_n 1, 1) := by decide +kernel
theorem d7_47 : decode c7_ 47 = .ok (.ifCond .ge 12, 3) := by decide +kernel
theorem d7_59 : decode c7_ 59 = .ok (.iload_n 2, 1) := by decide +kernel
theorem d7_60 : decode c7_ 60 = .ok (.iload_n 0, 1) := by decide +kernel
theorem d7_61 : decode c7_ 61 = .ok (.if_icmp .le 12, 3) := by decide +kernel
theorem d7_73 : decode c7_ 73 = .ok (.return_, 1) := by decide +kernel
theorem d8_0 : decode c8_ 0 = .ok (.aload_n 0, 1) := by decide +kernel
theorem d8_1 : decode c8_ 1 = .ok (.invokespecial 1, 3) := by decide +kernel
theorem d8_4 : decode c8_ 4 = .ok (.aload_n 1, 1) := by decide +kernel
theorem d8_5 : decode c8_ 5 = .ok (.invokevirtual 7, 3) := by decide +kernel
theorem d8_8 : decode c8_ 8 = .ok (.istore_n 3, 1) := by decide +kernel
theorem d8_9 : decode c8_ 9 = .ok (.iconst 1, 1) := by decide +kernel
theorem d8_10 : decode c8_ 10 = .ok (.iload_n 3, 1) := by decide +kernel
theorem d8_11 : decode c8_ 11 = .ok (.sipush 1024, 3) := by decide +kernel
theorem d8_14 : decode c8_ 14 = .ok (.invokestatic 13, 3) := by decide +kernel
theorem d8_17 : decode c8_ 17 = .ok (.invokestatic 19, 3) := by decide +kernel
theorem d8_20 : decode c8_ 20 = .ok (.istore 4, 2) := by decide +kernel
theorem d8_22 : decode c8_ 22 = .ok (.aload_n 0, 1) := by decide +kernel
theorem d8_23 : decode c8_ 23 = .ok (.aload_n 1, 1) := by decide +kernel
theorem d8_24 : decode c8_ 24 = .ok (.putfield 22, 3) := by decide +kernel
theorem d8_27 : decode c8_ 27 = .ok (.aload_n 0, 1) := by decide +kernel
theorem d8_28 : decode c8_ 28 = .ok (.iload_n 2, 1) := by decide +kernel
theorem d8_29 : decode c8_ 29 = .ok (.putfield 28, 3) := by decide +kernel
theorem d8_32 : decode c8_ 32 = .ok (.aload_n 0, 1) := by decide +kernel
theorem d8_33 : decode c8_ 33 = .ok (.iload_n 3, 1) := by decide +kernel
theorem d8_34 : decode c8_ 34 = .ok (.newarray .int, 2) := by decide +kernel
theorem d8_36 : decode c8_ 36 = .ok (.putfield 32, 3) := by decide +kernel
theorem d8_39 : decode c8_ 39 = .ok (.aload_n 0, 1) := by decide +kernel
theorem d8_40 : decode c8_ 40 = .ok (.iload_n 3, 1) := by decide +kernel
theorem d8_41 : decode c8_ 41 = .ok (.newarray .int, 2) := by decide +kernel
theorem d8_43 : decode c8_ 43 = .ok (.putfield 36, 3) := by decide +kernel
theorem d8_46 : decode c8_ 46 = .ok (.aload_n 0, 1) := by decide +kernel
theorem d8_47 : decode c8_ 47 = .ok (.iconst 2, 1) := by decide +kernel
theorem d8_48 : decode c8_ 48 = .ok (.iload 4, 2) := by decide +kernel
theorem d8_50 : decode c8_ 50 = .ok (.imul, 1) := by decide +kernel
theorem d8_51 : decode c8_ 51 = .ok (.newarray .int, 2) := by decide +kernel
theorem d8_53 : decode c8_ 53 = .ok (.putfield 39, 3) := by decide +kernel
theorem d8_56 : decode c8_ 56 = .ok (.aload_n 0, 1) := by decide +kernel
theorem d8_57 : decode c8_ 57 = .ok (.iload 4, 2) := by decide +kernel
theorem d8_59 : decode c8_ 59 = .ok (.newarray .int, 2) := by decide +kernel
theorem d8_61 : decode c8_ 61 = .ok (.putfield 42, 3) := by decide +kernel
theorem d8_64 : decode c8_ 64 = .ok (.aload_n 0, 1) := by decide +kernel
theorem d8_65 : decode c8_ 65 = .ok (.iload_n 2, 1) := by decide +kernel
theorem d8_66 : decode c8_ 66 = .ok (.iconst 1, 1) := by decide +kernel
theorem d8_67 : decode c8_ 67 = .ok (.iadd, 1) := by decide +kernel
theorem d8_68 : decode c8_ 68 = .ok (.newarray .int, 2) := by decide +kernel
theorem d8_70 : decode c8_ 70 = .ok (.putfield 45, 3) := by decide +kernel
theorem d8_73 : decode c8_ 73 = .ok (.aload_n 0, 1) := by decide +kernel
theorem d8_74 : decode c8_ 74 = .ok (.iload 4, 2) := by decide +kernel
theorem d8_76 : decode c8_ 76 = .ok (.newarray .int, 2) := by decide +kernel
theorem d8_78 : decode c8_ 78 = .ok (.putfield 48, 3) := by decide +kernel
theorem d8_81 : decode c8_ 81 = .ok (.aload_n 0, 1) := by decide +kernel
theorem d8_82 : decode c8_ 82 = .ok (.iload 4, 2) := by decide +kernel
theorem d8_84 : decode c8_ 84 = .ok (.newarray .int, 2) := by decide +kernel
theorem d8_86 : decode c8_ 86 = .ok (.putfield 51, 3) := by decide +kernel
theorem d8_89 : decode c8_ 89 = .ok (.aload_n 0, 1) := by decide +kernel
theorem d8_90 : decode c8_ 90 = .ok (.getfield 39, 3) := by decide +kernel
theorem d8_93 : decode c8_ 93 = .ok (.iconst (-1), 1) := by decide +kernel
theorem d8_94 : decode c8_ 94 = .ok (.invokestatic 54, 3) := by decide +kernel
theorem d8_97 : decode c8_ 97 = .ok (.aload_n 0, 1) := by decide +kernel
theorem d8_98 : decode c8_ 98 = .ok (.getfield 45, 3) := by decide +kernel
theorem d8_101 : decode c8_ 101 = .ok (.iconst (-1), 1) := by decide +kernel
theorem d8_102 : decode c8_ 102 = .ok (.invokestatic 54, 3) := by decide +kernel
theorem d8_105 : decode c8_ 105 = .ok (.iload_n 3, 1) := by decide +kernel
theorem d8_106 : decode c8_ 106 = .ok (.iconst 1, 1) := by decide +kernel
theorem d8_107 : decode c8_ 107 = .ok (.isub, 1) := by decide +kernel
theorem d8_108 : decode c8_ 108 = .ok (.istore 5, 2) := by decide +kernel
theorem d8_110 : decode c8_ 110 = .ok (.iload 5, 2) := by decide +kernel
theorem d8_112 : decode c8_ 112 = .ok (.ifCond .lt 16, 3) := by decide +kernel
theorem d8_115 : decode c8_ 115 = .ok (.aload_n 0, 1) := by decide +kernel
theorem d8_116 : decode c8_ 116 = .ok (.iload 5, 2) := by decide +kernel
theorem d8_118 : decode c8_ 118 = .ok (.iconst 0, 1) := by decide +kernel
theorem d8_119 : decode c8_ 119 = .ok (.invokevirtual 60, 3) := by decide +kernel
theorem d8_122 : decode c8_ 122 = .ok (.iinc 5 (-1), 3) := by decide +kernel
theorem d8_125 : decode c8_ 125 = .ok (.goto (-15), 3) := by decide +kernel
theorem d8_128 : decode c8_ 128 = .ok (.aload_n 0, 1) := by decide +kernel
theorem d8_129 : decode c8_ 129 = .ok (.getfield 42, 3) := by decide +kernel
theorem d8_132 : decode c8_ 132 = .ok (.iconst 0, 1) := by decide +kernel
theorem d8_133 : decode c8_ 133 = .ok (.iload_n 2, 1) := by decide +kernel
theorem d8_134 : decode c8_ 134 = .ok (.iastore, 1) := by decide +kernel
theorem d8_135 : decode c8_ 135 = .ok (.aload_n 0, 1) := by decide +kernel
theorem d8_136 : decode c8_ 136 = .ok (.aload_n 0, 1) := by decide +kernel
theorem d8_137 : decode c8_ 137 = .ok (.iconst 0, 1) := by decide +kernel
theorem d8_138 : decode c8_ 138 = .ok (.iload_n 3, 1) := by decide +kernel
theorem d8_139 : decode c8_ 139 = .ok (.invokevirtual 64, 3) := by decide +kernel
theorem d8_142 : decode c8_ 142 = .ok (.ifCond .eq 7, 3) := by decide +kernel
theorem d8_145 : decode c8_ 145 = .ok (.iconst 0, 1) := by decide +kernel
theorem d8_146 : decode c8_ 146 = .ok (.goto 4, 3) := by decide +kernel
theorem d8_149 : decode c8_ 149 = .ok (.iconst 1, 1) := by decide +kernel
theorem d8_150 : decode c8_ 150 = .ok (.putfield 68, 3) := by decide +kernel
theorem d8_153 : decode c8_ 153 = .ok (.aload_n 0, 1) := by decide +kernel
theorem d8_154 : decode c8_ 154 = .ok (.iconst 0, 1) := by decide +kernel
theorem d8_155 : decode c8_ 155 = .ok (.invokevirtual 71, 3) := by decide +kernel
theorem d8_158 : decode c8_ 158 = .ok (.return_, 1) := by decide +kernel
theorem d9_0 : decode c9_ 0 = .ok (.aload_n 0, 1) := by decide +kernel
theorem d9_1 : decode c9_ 1 = .ok (.getfield 27, 3) := by decide +kernel
theorem d9_4 : decode c9_ 4 = .ok (.arraylength, 1) := by decide +kernel
theorem d9_5 : decode c9_ 5 = .ok (.ireturn, 1) := by decide +kernel
theorem d10_0 : decode c10_ 0 = .ok (.iconst 0, 1) := by decide +kernel
theorem d10_1 : decode c10_ 1 = .ok (.istore_n 2, 1) := by decide +kernel
theorem d10_2 : decode c10_ 2 = .ok (.aload_n 0, 1) := by decide +kernel
theorem d10_3 : decode c10_ 3 = .ok (.arraylength, 1) := by decide +kernel
theorem d10_4 : decode c10_ 4 = .ok (.istore_n 3, 1) := by decide +kernel
theorem d10_5 : decode c10_ 5 = .ok (.iload_n 2, 1) := by decide +kernel
theorem d10_6 : decode c10_ 6 = .ok (.iload_n 3, 1) := by decide +kernel
theorem d10_7 : decode c10_ 7 = .ok (.if_icmp .ge 13, 3) := by decide +kernel
theorem d10_10 : decode c10_ 10 = .ok (.aload_n 0, 1) := by decide +kernel
theorem d10_11 : decode c10_ 11 = .ok (.iload_n 2, 1) := by decide +kernel
theorem d10_12 : decode c10_ 12 = .ok (.iload_n 1, 1) := by decide +kernel
theorem d10_13 : decode c10_ 13 = .ok (.iastore, 1) := by decide +kernel
theorem d10_14 : decode c10_ 14 = .ok (.iinc 2 1, 3) := by decide +kernel
theorem d10_17 : decode c10_ 17 = .ok (.goto (-12), 3) := by decide +kernel
theorem d10_20 : decode c10_ 20 = .ok (.return_, 1) := by decide +kernel
theorem d11_0 : decode c11_ 0 = .ok (.iconst 2, 1) := by decide +kernel
theorem d11_1 : decode c11_ 1 = .ok (.aload_n 0, 1) := by decide +kernel
theorem d11_2 : decode c11_ 2 = .ok (.getfield 42, 3) := by decide +kernel
theorem d11_5 : decode c11_ 5 = .ok (.iload_n 1, 1) := by decide +kernel
theorem d11_6 : decode c11_ 6 = .ok (.iaload, 1) := by decide +kernel
theorem d11_7 : decode c11_ 7 = .ok (.imul, 1) := by decide +kernel
theorem d11_8 : decode c11_ 8 = .ok (.iload_n 2, 1) := by decide +kernel
theorem d11_9 : decode c11_ 9 = .ok (.if_icmp .ne 7, 3) := by decide +kernel
theorem d11_12 : decode c11_ 12 = .ok (.iconst 1, 1) := by decide +kernel
theorem d11_13 : decode c11_ 13 = .ok (.goto 4, 3) := by decide +kernel
theorem d11_16 : decode c11_ 16 = .ok (.iconst 0, 1) := by decide +kernel
theorem d11_17 : decode c11_ 17 = .ok (.ireturn, 1) := by decide +kernel
theorem d12_0 : decode c12_ 0 = .ok (.aload_n 0, 1) := by decide +kernel
theorem d12_1 : decode c12_ 1 = .ok (.getfield 42, 3) := by decide +kernel
theorem d12_4 : decode c12_ 4 = .ok (.iload_n 1, 1) := by decide +kernel
theorem d12_5 : decode c12_ 5 = .ok (.iaload, 1) := by decide +kernel
theorem d12_6 : decode c12_ 6 = .ok (.istore_n 2, 1) := by decide +kernel
theorem d12_7 : decode c12_ 7 = .ok (.iload_n 2, 1) := by decide +kernel
theorem d12_8 : decode c12_ 8 = .ok (.iconst 2, 1) := by decide +kernel
theorem d12_9 : decode c12_ 9 = .ok (.if_icmp .lt 55, 3) := by decide +kernel
theorem d12_12 : decode c12_ 12 = .ok (.aload_n 0, 1) := by decide +kernel
theorem d12_13 : decode c12_ 13 = .ok (.getfield 45, 3) := by decide +kernel
theorem d12_16 : decode c12_ 16 = .ok (.iload_n 2, 1) := by decide +kernel
theorem d12_17 : decode c12_ 17 = .ok (.iaload, 1) := by decide +kernel
theorem d12_18 : decode c12_ 18 = .ok (.istore_n 3, 1) := by decide +kernel
theorem d12_19 : decode c12_ 19 = .ok (.aload_n 0, 1) := by decide +kernel
theorem d12_20 : decode c12_ 20 = .ok (.getfield 48, 3) := by decide +kernel
theorem d12_23 : decode c12_ 23 = .ok (.iload_n 1, 1) := by decide +kernel
theorem d12_24 : decode c12_ 24 = .ok (.iload_n 3, 1) := by decide +kernel
theorem d12_25 : decode c12_ 25 = .ok (.iastore, 1) := by decide +kernel
theorem d12_26 : decode c12_ 26 = .ok (.aload_n 0, 1) := by decide +kernel
theorem d12_27 : decode c12_ 27 = .ok (.getfield 51, 3) := by decide +kernel
theorem d12_30 : decode c12_ 30 = .ok (.iload_n 1, 1) := by decide +kernel
theorem d12_31 : decode c12_ 31 = .ok (.iconst (-1), 1) := by decide +kernel
theorem d12_32 : decode c12_ 32 = .ok (.iastore, 1) := by decide +kernel
theorem d12_33 : decode c12_ 33 = .ok (.iload_n 3, 1) := by decide +kernel
theorem d12_34 : decode c12_ 34 = .ok (.iconst (-1), 1) := by decide +kernel
theorem d12_35 : decode c12_ 35 = .ok (.if_icmp .eq 10, 3) := by decide +kernel
theorem d12_38 : decode c12_ 38 = .ok (.aload_n 0, 1) := by decide +kernel
theorem d12_39 : decode c12_ 39 = .ok (.getfield 51, 3) := by decide +kernel
theorem d12_42 : decode c12_ 42 = .ok (.iload_n 3, 1) := by decide +kernel
theorem d12_43 : decode c12_ 43 = .ok (.iload_n 1, 1) := by decide +kernel
theorem d12_44 : decode c12_ 44 = .ok (.iastore, 1) := by decide +kernel
theorem d12_45 : decode c12_ 45 = .ok (.aload_n 0, 1) := by decide +kernel
theorem d12_46 : decode c12_ 46 = .ok (.getfield 45, 3) := by decide +kernel
theorem d12_49 : decode c12_ 49 = .ok (.iload_n 2, 1) := by decide +kernel
theorem d12_50 : decode c12_ 50 = .ok (.iload_n 1, 1) := by decide +kernel
theorem d12_51 : decode c12_ 51 = .ok (.iastore, 1) := by decide +kernel
theorem d12_52 : decode c12_ 52 = .ok (.aload_n 0, 1) := by decide +kernel
theorem d12_53 : decode c12_ 53 = .ok (.aload_n 0, 1) := by decide +kernel
theorem d12_54 : decode c12_ 54 = .ok (.getfield 75, 3) := by decide +kernel
theorem d12_57 : decode c12_ 57 = .ok (.iload_n 2, 1) := by decide +kernel
theorem d12_58 : decode c12_ 58 = .ok (.invokestatic 19, 3) := by decide +kernel
theorem d12_61 : decode c12_ 61 = .ok (.putfield 75, 3) := by decide +kernel
theorem d12_64 : decode c12_ 64 = .ok (.return_, 1) := by decide +kernel
theorem d13_0 : decode c13_ 0 = .ok (.aload_n 0, 1) := by decide +kernel
theorem d13_1 : decode c13_ 1 = .ok (.getfield 75, 3) := by decide +kernel
theorem d13_4 : decode c13_ 4 = .ok (.iconst 2, 1) := by decide +kernel
theorem d13_5 : decode c13_ 5 = .ok (.if_icmp .lt 29, 3) := by decide +kernel
theorem d13_8 : decode c13_ 8 = .ok (.aload_n 0, 1) := by decide +kernel
theorem d13_9 : decode c13_ 9 = .ok (.getfield 45, 3) := by decide +kernel
theorem d13_12 : decode c13_ 12 = .ok (.aload_n 0, 1) := by decide +kernel
theorem d13_13 : decode c13_ 13 = .ok (.getfield 75, 3) := by decide +kernel
theorem d13_16 : decode c13_ 16 = .ok (.iaload, 1) := by decide +kernel
theorem d13_17 : decode c13_ 17 = .ok (.iconst (-1), 1) := by decide +kernel
theorem d13_18 : decode c13_ 18 = .ok (.if_icmp .ne 16, 3) := by decide +kernel
theorem d13_21 : decode c13_ 21 = .ok (.aload_n 0, 1) := by decide +kernel
theorem d13_22 : decode c13_ 22 = .ok (.dup, 1) := by decide +kernel
theorem d13_23 : decode c13_ 23 = .ok (.getfield 75, 3) := by decide +kernel
theorem d13_26 : decode c13_ 26 = .ok (.iconst 1, 1) := by decide +kernel
theorem d13_27 : decode c13_ 27 = .ok (.isub, 1) := by decide +kernel
theorem d13_28 : decode c13_ 28 = .ok (.putfield 75, 3) := by decide +kernel
theorem d13_31 : decode c13_ 31 = .ok (.goto (-31), 3) := by decide +kernel
theorem d13_34 : decode c13_ 34 = .ok (.aload_n 0, 1) := by decide +kernel
theorem d13_35 : decode c13_ 35 = .ok (.getfield 75, 3) := by decide +kernel
theorem d13_38 : decode c13_ 38 = .ok (.iconst 2, 1) := by decide +kernel
theorem d13_39 : decode c13_ 39 = .ok (.if_icmp .lt 15, 3) := by decide +kernel
theorem d13_42 : decode c13_ 42 = .ok (.aload_n 0, 1) := by decide +kernel
theorem d13_43 : decode c13_ 43 = .ok (.getfield 45, 3) := by decide +kernel
theorem d13_46 : decode c13_ 46 = .ok (.aload_n 0, 1) := by decide +kernel
theorem d13_47 : decode c13_ 47 = .ok (.getfield 75, 3) := by decide +kernel
theorem d13_50 : decode c13_ 50 = .ok (.iaload, 1) := by decide +kernel
theorem d13_51 : decode c13_ 51 = .ok (.goto 4, 3) := by decide +kernel
theorem d13_54 : decode c13_ 54 = .ok (.iconst (-1), 1) := by decide +kernel
theorem d13_55 : decode c13_ 55 = .ok (.ireturn, 1) := by decide +kernel
theorem d14_0 : decode c14_ 0 = .ok (.iload_n 1, 1) := by decide +kernel
theorem d14_1 : decode c14_ 1 = .ok (.iload_n 2, 1) := by decide +kernel
theorem d14_2 : decode c14_ 2 = .ok (.iushr, 1) := by decide +kernel
theorem d14_3 : decode c14_ 3 = .ok (.iconst 1, 1) := by decide +kernel
theorem d14_4 : decode c14_ 4 = .ok (.iand, 1) := by decide +kernel
theorem d14_5 : decode c14_ 5 = .ok (.ifCond .eq 8, 3) := by decide +kernel
theorem d14_8 : decode c14_ 8 = .ok (.aload_n 0, 1) := by decide +kernel
theorem d14_9 : decode c14_ 9 = .ok (.iload_n 2, 1) := by decide +kernel
theorem d14_10 : decode c14_ 10 = .ok (.invokevirtual 49, 3) := by decide +kernel
theorem d14_13 : decode c14_ 13 = .ok (.return_, 1) := by decide +kernel
theorem d15_0 : decode c15_ 0 = .ok (.iconst 0, 1) := by decide +kernel
theorem d15_1 : decode c15_ 1 = .ok (.istore_n 2, 1) := by decide +kernel
theorem d15_2 : decode c15_ 2 = .ok (.iload_n 2, 1) := by decide +kernel
theorem d15_3 : decode c15_ 3 = .ok (.aload_n 0, 1) := by decide +kernel
theorem d15_4 : decode c15_ 4 = .ok (.getfield 65, 3) := by decide +kernel
theorem d15_7 : decode c15_ 7 = .ok (.if_icmp .ge 47, 3) := by decide +kernel
theorem d15_10 : decode c15_ 10 = .ok (.aload_n 0, 1) := by decide +kernel
theorem d15_11 : decode c15_ 11 = .ok (.getfield 54, 3) := by decide +kernel
theorem d15_14 : decode c15_ 14 = .ok (.iload_n 2, 1) := by decide +kernel
theorem d15_15 : decode c15_ 15 = .ok (.iaload, 1) := by decide +kernel
theorem d15_16 : decode c15_ 16 = .ok (.istore_n 3, 1) := by decide +kernel
theorem d15_17 : decode c15_ 17 = .ok (.aload_n 0, 1) := by decide +kernel
theorem d15_18 : decode c15_ 18 = .ok (.getfield 51, 3) := by decide +kernel
theorem d15_21 : decode c15_ 21 = .ok (.iload_n 3, 1) := by decide +kernel
theorem d15_22 : decode c15_ 22 = .ok (.aload_n 0, 1) := by decide +kernel
theorem d15_23 : decode c15_ 23 = .ok (.getfield 51, 3) := by decide +kernel
theorem d15_26 : decode c15_ 26 = .ok (.iload_n 3, 1) := by decide +kernel
theorem d15_27 : decode c15_ 27 = .ok (.iaload, 1) := by decide +kernel
theorem d15_28 : decode c15_ 28 = .ok (.aload_n 0, 1) := by decide +kernel
theorem d15_29 : decode c15_ 29 = .ok (.getfield 48, 3) := by decide +kernel
theorem d15_32 : decode c15_ 32 = .ok (.iload_n 3, 1) := by decide +kernel
theorem d15_33 : decode c15_ 33 = .ok (.iaload, 1) := by decide +kernel
theorem d15_34 : decode c15_ 34 = .ok (.if_icmp .ne 7, 3) := by decide +kernel
theorem d15_37 : decode c15_ 37 = .ok (.iconst (-1), 1) := by decide +kernel
theorem d15_38 : decode c15_ 38 = .ok (.goto 9, 3) := by decide +kernel
theorem d15_41 : decode c15_ 41 = .ok (.aload_n 0, 1) := by decide +kernel
theorem d15_42 : decode c15_ 42 = .ok (.getfield 45, 3) := by decide +kernel
theorem d15_45 : decode c15_ 45 = .ok (.iload_n 3, 1) := by decide +kernel
theorem d15_46 : decode c15_ 46 = .ok (.iaload, 1) := by decide +kernel
theorem d15_47 : decode c15_ 47 = .ok (.iastore, 1) := by decide +kernel
theorem d15_48 : decode c15_ 48 = .ok (.iinc 2 1, 3) := by decide +kernel
theorem d15_51 : decode c15_ 51 = .ok (.goto (-49), 3) := by decide +kernel
theorem d15_54 : decode c15_ 54 = .ok (.iconst 0, 1) := by decide +kernel
theorem d15_55 : decode c15_ 55 = .ok (.istore_n 2, 1) := by decide +kernel
theorem d15_56 : decode c15_ 56 = .ok (.iload_n 2, 1) := by decide +kernel
theorem d15_57 : decode c15_ 57 = .ok (.aload_n 0, 1) := by decide +kernel
theorem d15_58 : decode c15_ 58 = .ok (.getfield 68, 3) := by decide +kernel
theorem d15_61 : decode c15_ 61 = .ok (.if_icmp .ge 101, 3) := by decide +kernel
theorem d15_64 : decode c15_ 64 = .ok (.aload_n 0, 1) := by decide +kernel
theorem d15_65 : decode c15_ 65 = .ok (.getfield 42, 3) := by decide +kernel
theorem d15_68 : decode c15_ 68 = .ok (.iload_n 2, 1) := by decide +kernel
theorem d15_69 : decode c15_ 69 = .ok (.iaload, 1) := by decide +kernel
theorem d15_70 : decode c15_ 70 = .ok (.istore_n 3, 1) := by decide +kernel
theorem d15_71 : decode c15_ 71 = .ok (.aload_n 0, 1) := by decide +kernel
theorem d15_72 : decode c15_ 72 = .ok (.getfield 39, 3) := by decide +kernel
theorem d15_75 : decode c15_ 75 = .ok (.iload_n 3, 1) := by decide +kernel
theorem d15_76 : decode c15_ 76 = .ok (.iaload, 1) := by decide +kernel
theorem d15_77 : decode c15_ 77 = .ok (.istore 4, 2) := by decide +kernel
theorem d15_79 : decode c15_ 79 = .ok (.aload_n 0, 1) := by decide +kernel
theorem d15_80 : decode c15_ 80 = .ok (.getfield 51, 3) := by decide +kernel
theorem d15_83 : decode c15_ 83 = .ok (.iload 4, 2) := by decide +kernel
theorem d15_85 : decode c15_ 85 = .ok (.iaload, 1) := by decide +kernel
theorem d15_86 : decode c15_ 86 = .ok (.istore 5, 2) := by decide +kernel
theorem d15_88 : decode c15_ 88 = .ok (.iload 5, 2) := by decide +kernel
theorem d15_90 : decode c15_ 90 = .ok (.iconst (-1), 1) := by decide +kernel
theorem d15_91 : decode c15_ 91 = .ok (.if_icmp .eq 65, 3) := by decide +kernel
theorem d15_94 : decode c15_ 94 = .ok (.aload_n 0, 1) := by decide +kernel
theorem d15_95 : decode c15_ 95 = .ok (.getfield 27, 3) := by decide +kernel
theorem d15_98 : decode c15_ 98 = .ok (.iload 5, 2) := by decide +kernel
theorem d15_100 : decode c15_ 100 = .ok (.iaload, 1) := by decide +kernel
theorem d15_101 : decode c15_ 101 = .ok (.istore 6, 2) := by decide +kernel
theorem d15_103 : decode c15_ 103 = .ok (.aload_n 0, 1) := by decide +kernel
theorem d15_104 : decode c15_ 104 = .ok (.getfield 27, 3) := by decide +kernel
theorem d15_107 : decode c15_ 107 = .ok (.aload_n 0, 1) := by decide +kernel
theorem d15_108 : decode c15_ 108 = .ok (.getfield 36, 3) := by decide +kernel
theorem d15_111 : decode c15_ 111 = .ok (.iload_n 3, 1) := by decide +kernel
theorem d15_112 : decode c15_ 112 = .ok (.iaload, 1) := by decide +kernel
theorem d15_113 : decode c15_ 113 = .ok (.iload 6, 2) := by decide +kernel
theorem d15_115 : decode c15_ 115 = .ok (.iastore, 1) := by decide +kernel
theorem d15_116 : decode c15_ 116 = .ok (.aload_n 0, 1) := by decide +kernel
theorem d15_117 : decode c15_ 117 = .ok (.getfield 36, 3) := by decide +kernel
theorem d15_120 : decode c15_ 120 = .ok (.iload 6, 2) := by decide +kernel
theorem d15_122 : decode c15_ 122 = .ok (.aload_n 0, 1) := by decide +kernel
theorem d15_123 : decode c15_ 123 = .ok (.getfield 36, 3) := by decide +kernel
theorem d15_126 : decode c15_ 126 = .ok (.iload_n 3, 1) := by decide +kernel
theorem d15_127 : decode c15_ 127 = .ok (.iaload, 1) := by decide +kernel
theorem d15_128 : decode c15_ 128 = .ok (.iastore, 1) := by decide +kernel
theorem d15_129 : decode c15_ 129 = .ok (.aload_n 0, 1) := by decide +kernel
theorem d15_130 : decode c15_ 130 = .ok (.getfield 27, 3) := by decide +kernel
theorem d15_133 : decode c15_ 133 = .ok (.iload 5, 2) := by decide +kernel
theorem d15_135 : decode c15_ 135 = .ok (.iload_n 3, 1) := by decide +kernel
theorem d15_136 : decode c15_ 136 = .ok (.iastore, 1) := by decide +kernel
theorem d15_137 : decode c15_ 137 = .ok (.aload_n 0, 1) := by decide +kernel
theorem d15_138 : decode c15_ 138 = .ok (.getfield 36, 3) := by decide +kernel
theorem d15_141 : decode c15_ 141 = .ok (.iload_n 3, 1) := by decide +kernel
theorem d15_142 : decode c15_ 142 = .ok (.iload 5, 2) := by decide +kernel
theorem d15_144 : decode c15_ 144 = .ok (.iastore, 1) := by decide +kernel
theorem d15_145 : decode c15_ 145 = .ok (.aload_n 0, 1) := by decide +kernel
theorem d15_146 : decode c15_ 146 = .ok (.getfield 51, 3) := by decide +kernel
theorem d15_149 : decode c15_ 149 = .ok (.iload 4, 2) := by decide +kernel
theorem d15_151 : decode c15_ 151 = .ok (.iload 5, 2) := by decide +kernel
theorem d15_153 : decode c15_ 153 = .ok (.iconst 1, 1) := by decide +kernel
theorem d15_154 : decode c15_ 154 = .ok (.iadd, 1) := by decide +kernel
theorem d15_155 : decode c15_ 155 = .ok (.iastore, 1) := by decide +kernel
theorem d15_156 : decode c15_ 156 = .ok (.iinc 2 1, 3) := by decide +kernel
theorem d15_159 : decode c15_ 159 = .ok (.goto (-103), 3) := by decide +kernel
theorem d15_162 : decode c15_ 162 = .ok (.aload_n 0, 1) := by decide +kernel
theorem d15_163 : decode c15_ 163 = .ok (.iconst 0, 1) := by decide +kernel
theorem d15_164 : decode c15_ 164 = .ok (.putfield 68, 3) := by decide +kernel
theorem d15_167 : decode c15_ 167 = .ok (.iconst 0, 1) := by decide +kernel
theorem d15_168 : decode c15_ 168 = .ok (.istore_n 2, 1) := by decide +kernel
theorem d15_169 : decode c15_ 169 = .ok (.iload_n 2, 1) := by decide +kernel
theorem d15_170 : decode c15_ 170 = .ok (.aload_n 0, 1) := by decide +kernel
theorem d15_171 : decode c15_ 171 = .ok (.getfield 65, 3) := by decide +kernel
theorem d15_174 : decode c15_ 174 = .ok (.if_icmp .ge 224, 3) := by decide +kernel
theorem d15_177 : decode c15_ 177 = .ok (.aload_n 0, 1) := by decide +kernel
theorem d15_178 : decode c15_ 178 = .ok (.getfield 54, 3) := by decide +kernel
theorem d15_181 : decode c15_ 181 = .ok (.iload_n 2, 1) := by decide +kernel
theorem d15_182 : decode c15_ 182 = .ok (.iaload, 1) := by decide +kernel
theorem d15_183 : decode c15_ 183 = .ok (.istore_n 3, 1) := by decide +kernel
theorem d15_184 : decode c15_ 184 = .ok (.aload_n 0, 1) := by decide +kernel
theorem d15_185 : decode c15_ 185 = .ok (.getfield 51, 3) := by decide +kernel
theorem d15_188 : decode c15_ 188 = .ok (.iload_n 3, 1) := by decide +kernel
theorem d15_189 : decode c15_ 189 = .ok (.iaload, 1) := by decide +kernel
theorem d15_190 : decode c15_ 190 = .ok (.istore 4, 2) := by decide +kernel
theorem d15_192 : decode c15_ 192 = .ok (.iload 4, 2) := by decide +kernel
theorem d15_194 : decode c15_ 194 = .ok (.iconst (-1), 1) := by decide +kernel
theorem d15_195 : decode c15_ 195 = .ok (.if_icmp .eq 185, 3) := by decide +kernel
theorem d15_198 : decode c15_ 198 = .ok (.aload_n 0, 1) := by decide +kernel
theorem d15_199 : decode c15_ 199 = .ok (.getfield 57, 3) := by decide +kernel
theorem d15_202 : decode c15_ 202 = .ok (.istore 5, 2) := by decide +kernel
theorem d15_204 : decode c15_ 204 = .ok (.aload_n 0, 1) := by decide +kernel
theorem d15_205 : decode c15_ 205 = .ok (.dup, 1) := by decide +kernel
theorem d15_206 : decode c15_ 206 = .ok (.getfield 57, 3) := by decide +kernel
theorem d15_209 : decode c15_ 209 = .ok (.iconst 1, 1) := by decide +kernel
theorem d15_210 : decode c15_ 210 = .ok (.iadd, 1) := by decide +kernel
theorem d15_211 : decode c15_ 211 = .ok (.putfield 57, 3) := by decide +kernel
theorem d15_214 : decode c15_ 214 = .ok (.aload_n 0, 1) := by decide +kernel
theorem d15_215 : decode c15_ 215 = .ok (.aload_n 0, 1) := by decide +kernel
theorem d15_216 : decode c15_ 216 = .ok (.getfield 45, 3) := by decide +kernel
theorem d15_219 : decode c15_ 219 = .ok (.iload 5, 2) := by decide +kernel
theorem d15_221 : decode c15_ 221 = .ok (.aload_n 0, 1) := by decide +kernel
theorem d15_222 : decode c15_ 222 = .ok (.getfield 27, 3) := by decide +kernel
theorem d15_225 : decode c15_ 225 = .ok (.arraylength, 1) := by decide +kernel
theorem d15_226 : decode c15_ 226 = .ok (.invokestatic 71, 3) := by decide +kernel
theorem d15_229 : decode c15_ 229 = .ok (.putfield 45, 3) := by decide +kernel
theorem d15_232 : decode c15_ 232 = .ok (.aload_n 0, 1) := by decide +kernel
theorem d15_233 : decode c15_ 233 = .ok (.aload_n 0, 1) := by decide +kernel
theorem d15_234 : decode c15_ 234 = .ok (.getfield 48, 3) := by decide +kernel
theorem d15_237 : decode c15_ 237 = .ok (.iload 5, 2) := by decide +kernel
theorem d15_239 : decode c15_ 239 = .ok (.aload_n 0, 1) := by decide +kernel
theorem d15_240 : decode c15_ 240 = .ok (.getfield 27, 3) := by decide +kernel
theorem d15_243 : decode c15_ 243 = .ok (.arraylength, 1) := by decide +kernel
theorem d15_244 : decode c15_ 244 = .ok (.invokestatic 71, 3) := by decide +kernel
theorem d15_247 : decode c15_ 247 = .ok (.putfield 48, 3) := by decide +kernel
theorem d15_250 : decode c15_ 250 = .ok (.aload_n 0, 1) := by decide +kernel
theorem d15_251 : decode c15_ 251 = .ok (.aload_n 0, 1) := by decide +kernel
theorem d15_252 : decode c15_ 252 = .ok (.getfield 51, 3) := by decide +kernel
theorem d15_255 : decode c15_ 255 = .ok (.iload 5, 2) := by decide +kernel
theorem d15_257 : decode c15_ 257 = .ok (.aload_n 0, 1) := by decide +kernel
theorem d15_258 : decode c15_ 258 = .ok (.getfield 27, 3) := by decide +kernel
theorem d15_261 : decode c15_ 261 = .ok (.arraylength, 1) := by decide +kernel
theorem d15_262 : decode c15_ 262 = .ok (.invokestatic 71, 3) := by decide +kernel
theorem d15_265 : decode c15_ 265 = .ok (.putfield 51, 3) := by decide +kernel
theorem d15_268 : decode c15_ 268 = .ok (.aload_n 0, 1) := by decide +kernel
theorem d15_269 : decode c15_ 269 = .ok (.aload_n 0, 1) := by decide +kernel
theorem d15_270 : decode c15_ 270 = .ok (.getfield 54, 3) := by decide +kernel
theorem d15_273 : decode c15_ 273 = .ok (.iload 5, 2) := by decide +kernel
theorem d15_275 : decode c15_ 275 = .ok (.aload_n 0, 1) := by decide +kernel
theorem d15_276 : decode c15_ 276 = .ok (.getfield 27, 3) := by decide +kernel
theorem d15_279 : decode c15_ 279 = .ok (.arraylength, 1) := by decide +kernel
theorem d15_280 : decode c15_ 280 = .ok (.invokestatic 71, 3) := by decide +kernel
theorem d15_283 : decode c15_ 283 = .ok (.putfield 54, 3) := by decide +kernel
theorem d15_286 : decode c15_ 286 = .ok (.aload_n 0, 1) := by decide +kernel
theorem d15_287 : decode c15_ 287 = .ok (.getfield 45, 3) := by decide +kernel
theorem d15_290 : decode c15_ 290 = .ok (.iload 5, 2) := by decide +kernel
theorem d15_292 : decode c15_ 292 = .ok (.aload_n 0, 1) := by decide +kernel
theorem d15_293 : decode c15_ 293 = .ok (.getfield 45, 3) := by decide +kernel
theorem d15_296 : decode c15_ 296 = .ok (.iload_n 3, 1) := by decide +kernel
theorem d15_297 : decode c15_ 297 = .ok (.iaload, 1) := by decide +kernel
theorem d15_298 : decode c15_ 298 = .ok (.iastore, 1) := by decide +kernel
theorem d15_299 : decode c15_ 299 = .ok (.aload_n 0, 1) := by decide +kernel
theorem d15_300 : decode c15_ 300 = .ok (.getfield 48, 3) := by decide +kernel
theorem d15_303 : decode c15_ 303 = .ok (.iload 5, 2) := by decide +kernel
theorem d15_305 : decode c15_ 305 = .ok (.iload 4, 2) := by decide +kernel
theorem d15_307 : decode c15_ 307 = .ok (.iastore, 1) := by decide +kernel
theorem d15_308 : decode c15_ 308 = .ok (.aload_n 0, 1) := by decide +kernel
theorem d15_309 : decode c15_ 309 = .ok (.getfield 51, 3) := by decide +kernel
theorem d15_312 : decode c15_ 312 = .ok (.iload 5, 2) := by decide +kernel
theorem d15_314 : decode c15_ 314 = .ok (.aload_n 0, 1) := by decide +kernel
theorem d15_315 : decode c15_ 315 = .ok (.getfield 45, 3) := by decide +kernel
theorem d15_318 : decode c15_ 318 = .ok (.iload 5, 2) := by decide +kernel
theorem d15_320 : decode c15_ 320 = .ok (.iaload, 1) := by decide +kernel
theorem d15_321 : decode c15_ 321 = .ok (.iastore, 1) := by decide +kernel
theorem d15_322 : decode c15_ 322 = .ok (.aload_n 0, 1) := by decide +kernel
theorem d15_323 : decode c15_ 323 = .ok (.getfield 45, 3) := by decide +kernel
theorem d15_326 : decode c15_ 326 = .ok (.iload_n 3, 1) := by decide +kernel
theorem d15_327 : decode c15_ 327 = .ok (.iload 4, 2) := by decide +kernel
theorem d15_329 : decode c15_ 329 = .ok (.iastore, 1) := by decide +kernel
theorem d15_330 : decode c15_ 330 = .ok (.aload_n 0, 1) := by decide +kernel
theorem d15_331 : decode c15_ 331 = .ok (.getfield 45, 3) := by decide +kernel
theorem d15_334 : decode c15_ 334 = .ok (.iload 5, 2) := by decide +kernel
theorem d15_336 : decode c15_ 336 = .ok (.iaload, 1) := by decide +kernel
theorem d15_337 : decode c15_ 337 = .ok (.istore 6, 2) := by decide +kernel
theorem d15_339 : decode c15_ 339 = .ok (.iload 6, 2) := by decide +kernel
theorem d15_341 : decode c15_ 341 = .ok (.aload_n 0, 1) := by decide +kernel
theorem d15_342 : decode c15_ 342 = .ok (.getfield 48, 3) := by decide +kernel
theorem d15_345 : decode c15_ 345 = .ok (.iload 5, 2) := by decide +kernel
theorem d15_347 : decode c15_ 347 = .ok (.iaload, 1) := by decide +kernel
theorem d15_348 : decode c15_ 348 = .ok (.if_icmp .ge 23, 3) := by decide +kernel
theorem d15_351 : decode c15_ 351 = .ok (.aload_n 0, 1) := by decide +kernel
theorem d15_352 : decode c15_ 352 = .ok (.getfield 39, 3) := by decide +kernel
theorem d15_355 : decode c15_ 355 = .ok (.aload_n 0, 1) := by decide +kernel
theorem d15_356 : decode c15_ 356 = .ok (.getfield 27, 3) := by decide +kernel
theorem d15_359 : decode c15_ 359 = .ok (.iload 6, 2) := by decide +kernel
theorem d15_361 : decode c15_ 361 = .ok (.iaload, 1) := by decide +kernel
theorem d15_362 : decode c15_ 362 = .ok (.iload 5, 2) := by decide +kernel
theorem d15_364 : decode c15_ 364 = .ok (.iastore, 1) := by decide +kernel
theorem d15_365 : decode c15_ 365 = .ok (.iinc 6 1, 3) := by decide +kernel
theorem d15_368 : decode c15_ 368 = .ok (.goto (-29), 3) := by decide +kernel
theorem d15_371 : decode c15_ 371 = .ok (.aload_n 1, 1) := by decide +kernel
theorem d15_372 : decode c15_ 372 = .ok (.iload_n 3, 1) := by decide +kernel
theorem d15_373 : decode c15_ 373 = .ok (.iload 5, 2) := by decide +kernel
theorem d15_375 : decode c15_ 375 = .ok (.invokeinterface 75 3, 5) := by decide +kernel
theorem d15_380 : decode c15_ 380 = .ok (.aload_n 0, 1) := by decide +kernel
theorem d15_381 : decode c15_ 381 = .ok (.getfield 51, 3) := by decide +kernel
theorem d15_384 : decode c15_ 384 = .ok (.iload_n 3, 1) := by decide +kernel
theorem d15_385 : decode c15_ 385 = .ok (.aload_n 0, 1) := by decide +kernel
theorem d15_386 : decode c15_ 386 = .ok (.getfield 45, 3) := by decide +kernel
theorem d15_389 : decode c15_ 389 = .ok (.iload_n 3, 1) := by decide +kernel
theorem d15_390 : decode c15_ 390 = .ok (.iaload, 1) := by decide +kernel
theorem d15_391 : decode c15_ 391 = .ok (.iastore, 1) := by decide +kernel
theorem d15_392 : decode c15_ 392 = .ok (.iinc 2 1, 3) := by decide +kernel
theorem d15_395 : decode c15_ 395 = .ok (.goto (-226), 3) := by decide +kernel
theorem d15_398 : decode c15_ 398 = .ok (.aload_n 0, 1) := by decide +kernel
theorem d15_399 : decode c15_ 399 = .ok (.iconst 0, 1) := by decide +kernel
theorem d15_400 : decode c15_ 400 = .ok (.putfield 65, 3) := by decide +kernel
theorem d15_403 : decode c15_ 403 = .ok (.return_, 1) := by decide +kernel
theorem d16_0 : decode c16_ 0 = .ok (.iload_n 0, 1) := by decide +kernel
theorem d16_1 : decode c16_ 1 = .ok (.iload_n 1, 1) := by decide +kernel
theorem d16_2 : decode c16_ 2 = .ok (.iushr, 1) := by decide +kernel
theorem d16_3 : decode c16_ 3 = .ok (.iconst 1, 1) := by decide +kernel
theorem d16_4 : decode c16_ 4 = .ok (.iand, 1) := by decide +kernel
theorem d16_5 : decode c16_ 5 = .ok (.ireturn, 1) := by decide +kernel
theorem d17_0 : decode c17_ 0 = .ok (.iload_n 1, 1) := by decide +kernel
theorem d17_1 : decode c17_ 1 = .ok (.iload_n 2, 1) := by decide +kernel
theorem d17_2 : decode c17_ 2 = .ok (.if_icmp .ge 11, 3) := by decide +kernel
theorem d17_5 : decode c17_ 5 = .ok (.iload_n 0, 1) := by decide +kernel
theorem d17_6 : decode c17_ 6 = .ok (.iload_n 1, 1) := by decide +kernel
theorem d17_7 : decode c17_ 7 = .ok (.iushr, 1) := by decide +kernel
theorem d17_8 : decode c17_ 8 = .ok (.iconst 1, 1) := by decide +kernel
theorem d17_9 : decode c17_ 9 = .ok (.iand, 1) := by decide +kernel
theorem d17_10 : decode c17_ 10 = .ok (.goto 4, 3) := by decide +kernel
theorem d17_13 : decode c17_ 13 = .ok (.iconst 0, 1) := by decide +kernel
theorem d17_14 : decode c17_ 14 = .ok (.ireturn, 1) := by decide +kernel
theorem d18_0 : decode c18_ 0 = .ok (.iconst 2, 1) := by decide +kernel
theorem d18_1 : decode c18_ 1 = .ok (.iload_n 2, 1) := by decide +kernel
theorem d18_2 : decode c18_ 2 = .ok (.imul, 1) := by decide +kernel
theorem d18_3 : decode c18_ 3 = .ok (.iload_n 1, 1) := by decide +kernel
theorem d18_4 : decode c18_ 4 = .ok (.aload_n 0, 1) := by decide +kernel
theorem d18_5 : decode c18_ 5 = .ok (.getfield 28, 3) := by decide +kernel
theorem d18_8 : decode c18_ 8 = .ok (.if_icmp .ge 7, 3) := by decide +kernel
theorem d18_11 : decode c18_ 11 = .ok (.iconst 0, 1) := by decide +kernel
theorem d18_12 : decode c18_ 12 = .ok (.goto 4, 3) := by decide +kernel
theorem d18_15 : decode c18_ 15 = .ok (.iconst 1, 1) := by decide +kernel
theorem d18_16 : decode c18_ 16 = .ok (.iadd, 1) := by decide +kernel
theorem d18_17 : decode c18_ 17 = .ok (.istore_n 3, 1) := by decide +kernel
theorem d18_18 : decode c18_ 18 = .ok (.aload_n 0, 1) := by decide +kernel
theorem d18_19 : decode c18_ 19 = .ok (.getfield 39, 3) := by decide +kernel
theorem d18_22 : decode c18_ 22 = .ok (.iload_n 3, 1) := by decide +kernel
theorem d18_23 : decode c18_ 23 = .ok (.iaload, 1) := by decide +kernel
theorem d18_24 : decode c18_ 24 = .ok (.istore 4, 2) := by decide +kernel
theorem d18_26 : decode c18_ 26 = .ok (.aload_n 0, 1) := by decide +kernel
theorem d18_27 : decode c18_ 27 = .ok (.getfield 32, 3) := by decide +kernel
theorem d18_30 : decode c18_ 30 = .ok (.iload_n 1, 1) := by decide +kernel
theorem d18_31 : decode c18_ 31 = .ok (.iload 4, 2) := by decide +kernel
theorem d18_33 : decode c18_ 33 = .ok (.iastore, 1) := by decide +kernel
theorem d18_34 : decode c18_ 34 = .ok (.aload_n 0, 1) := by decide +kernel
theorem d18_35 : decode c18_ 35 = .ok (.getfield 36, 3) := by decide +kernel
theorem d18_38 : decode c18_ 38 = .ok (.iload_n 1, 1) := by decide +kernel
theorem d18_39 : decode c18_ 39 = .ok (.iconst (-1), 1) := by decide +kernel
theorem d18_40 : decode c18_ 40 = .ok (.iastore, 1) := by decide +kernel
theorem d18_41 : decode c18_ 41 = .ok (.iload 4, 2) := by decide +kernel
theorem d18_43 : decode c18_ 43 = .ok (.iconst (-1), 1) := by decide +kernel
theorem d18_44 : decode c18_ 44 = .ok (.if_icmp .eq 11, 3) := by decide +kernel
theorem d18_47 : decode c18_ 47 = .ok (.aload_n 0, 1) := by decide +kernel
theorem d18_48 : decode c18_ 48 = .ok (.getfield 36, 3) := by decide +kernel
theorem d18_51 : decode c18_ 51 = .ok (.iload 4, 2) := by decide +kernel
theorem d18_53 : decode c18_ 53 = .ok (.iload_n 1, 1) := by decide +kernel
theorem d18_54 : decode c18_ 54 = .ok (.iastore, 1) := by decide +kernel
theorem d18_55 : decode c18_ 55 = .ok (.aload_n 0, 1) := by decide +kernel
theorem d18_56 : decode c18_ 56 = .ok (.getfield 39, 3) := by decide +kernel
theorem d18_59 : decode c18_ 59 = .ok (.iload_n 3, 1) := by decide +kernel
theorem d18_60 : decode c18_ 60 = .ok (.iload_n 1, 1) := by decide +kernel
theorem d18_61 : decode c18_ 61 = .ok (.iastore, 1) := by decide +kernel
theorem d18_62 : decode c18_ 62 = .ok (.return_, 1) := by decide +kernel
theorem d19_0 : decode c19_ 0 = .ok (.aload_n 0, 1) := by decide +kernel
theorem d19_1 : decode c19_ 1 = .ok (.getfield 39, 3) := by decide +kernel
theorem d19_4 : decode c19_ 4 = .ok (.iload_n 1, 1) := by decide +kernel
theorem d19_5 : decode c19_ 5 = .ok (.iaload, 1) := by decide +kernel
theorem d19_6 : decode c19_ 6 = .ok (.istore_n 2, 1) := by decide +kernel
theorem d19_7 : decode c19_ 7 = .ok (.aload_n 0, 1) := by decide +kernel
theorem d19_8 : decode c19_ 8 = .ok (.getfield 51, 3) := by decide +kernel
theorem d19_11 : decode c19_ 11 = .ok (.iload_n 2, 1) := by decide +kernel
theorem d19_12 : decode c19_ 12 = .ok (.iaload, 1) := by decide +kernel
theorem d19_13 : decode c19_ 13 = .ok (.aload_n 0, 1) := by decide +kernel
theorem d19_14 : decode c19_ 14 = .ok (.getfield 45, 3) := by decide +kernel
theorem d19_17 : decode c19_ 17 = .ok (.iload_n 2, 1) := by decide +kernel
theorem d19_18 : decode c19_ 18 = .ok (.iaload, 1) := by decide +kernel
theorem d19_19 : decode c19_ 19 = .ok (.if_icmp .ne 23, 3) := by decide +kernel
theorem d19_22 : decode c19_ 22 = .ok (.aload_n 0, 1) := by decide +kernel
theorem d19_23 : decode c19_ 23 = .ok (.getfield 54, 3) := by decide +kernel
theorem d19_26 : decode c19_ 26 = .ok (.aload_n 0, 1) := by decide +kernel
theorem d19_27 : decode c19_ 27 = .ok (.getfield 65, 3) := by decide +kernel
theorem d19_30 : decode c19_ 30 = .ok (.iload_n 2, 1) := by decide +kernel
theorem d19_31 : decode c19_ 31 = .ok (.iastore, 1) := by decide +kernel
theorem d19_32 : decode c19_ 32 = .ok (.aload_n 0, 1) := by decide +kernel
theorem d19_33 : decode c19_ 33 = .ok (.dup, 1) := by decide +kernel
theorem d19_34 : decode c19_ 34 = .ok (.getfield 65, 3) := by decide +kernel
theorem d19_37 : decode c19_ 37 = .ok (.iconst 1, 1) := by decide +kernel
theorem d19_38 : decode c19_ 38 = .ok (.iadd, 1) := by decide +kernel
theorem d19_39 : decode c19_ 39 = .ok (.putfield 65, 3) := by decide +kernel
theorem d19_42 : decode c19_ 42 = .ok (.aload_n 0, 1) := by decide +kernel
theorem d19_43 : decode c19_ 43 = .ok (.getfield 51, 3) := by decide +kernel
theorem d19_46 : decode c19_ 46 = .ok (.iload_n 2, 1) := by decide +kernel
theorem d19_47 : decode c19_ 47 = .ok (.dup2, 1) := by decide +kernel
theorem d19_48 : decode c19_ 48 = .ok (.iaload, 1) := by decide +kernel
theorem d19_49 : decode c19_ 49 = .ok (.iconst 1, 1) := by decide +kernel
theorem d19_50 : decode c19_ 50 = .ok (.iadd, 1) := by decide +kernel
theorem d19_51 : decode c19_ 51 = .ok (.iastore, 1) := by decide +kernel
theorem d19_52 : decode c19_ 52 = .ok (.aload_n 0, 1) := by decide +kernel
theorem d19_53 : decode c19_ 53 = .ok (.getfield 42, 3) := by decide +kernel
theorem d19_56 : decode c19_ 56 = .ok (.aload_n 0, 1) := by decide +kernel
theorem d19_57 : decode c19_ 57 = .ok (.getfield 68, 3) := by decide +kernel
theorem d19_60 : decode c19_ 60 = .ok (.iload_n 1, 1) := by decide +kernel
theorem d19_61 : decode c19_ 61 = .ok (.iastore, 1) := by decide +kernel
theorem d19_62 : decode c19_ 62 = .ok (.aload_n 0, 1) := by decide +kernel
theorem d19_63 : decode c19_ 63 = .ok (.dup, 1) := by decide +kernel
theorem d19_64 : decode c19_ 64 = .ok (.getfield 68, 3) := by decide +kernel
theorem d19_67 : decode c19_ 67 = .ok (.iconst 1, 1) := by decide +kernel
theorem d19_68 : decode c19_ 68 = .ok (.iadd, 1) := by decide +kernel
theorem d19_69 : decode c19_ 69 = .ok (.putfield 68, 3) := by decide +kernel
theorem d19_72 : decode c19_ 72 = .ok (.return_, 1) := by decide +kernel
theorem d20_0 : decode c20_ 0 = .ok (.iload_n 1, 1) := by decide +kernel
theorem d20_1 : decode c20_ 1 = .ok (.aload_n 0, 1) := by decide +kernel
theorem d20_2 : decode c20_ 2 = .ok (.arraylength, 1) := by decide +kernel
theorem d20_3 : decode c20_ 3 = .ok (.if_icmp .ge 7, 3) := by decide +kernel
theorem d20_6 : decode c20_ 6 = .ok (.aload_n 0, 1) := by decide +kernel
theorem d20_7 : decode c20_ 7 = .ok (.goto 15, 3) := by decide +kernel
theorem d20_22 : decode c20_ 22 = .ok (.areturn, 1) := by decide +kernel
theorem d21_0 : decode c21_ 0 = .ok (.aload_n 0, 1) := by decide +kernel
theorem d21_1 : decode c21_ 1 = .ok (.iload_n 1, 1) := by decide +kernel
theorem d21_2 : decode c21_ 2 = .ok (.aload_n 0, 1) := by decide +kernel
theorem d21_3 : decode c21_ 3 = .ok (.getfield 22, 3) := by decide +kernel
theorem d21_6 : decode c21_ 6 = .ok (.iload_n 1, 1) := by decide +kernel
theorem d21_7 : decode c21_ 7 = .ok (.invokevirtual 78, 3) := by decide +kernel
theorem d21_10 : decode c21_ 10 = .ok (.aload_n 0, 1) := by decide +kernel
theorem d21_11 : decode c21_ 11 = .ok (.getfield 22, 3) := by decide +kernel
theorem d21_14 : decode c21_ 14 = .ok (.iload_n 2, 1) := by decide +kernel
theorem d21_15 : decode c21_ 15 = .ok (.invokevirtual 78, 3) := by decide +kernel
theorem d21_18 : decode c21_ 18 = .ok (.iadd, 1) := by decide +kernel
theorem d21_19 : decode c21_ 19 = .ok (.invokevirtual 64, 3) := by decide +kernel
theorem d21_22 : decode c21_ 22 = .ok (.istore_n 3, 1) := by decide +kernel
theorem d21_23 : decode c21_ 23 = .ok (.aload_n 0, 1) := by decide +kernel
theorem d21_24 : decode c21_ 24 = .ok (.iload_n 1, 1) := by decide +kernel
theorem d21_25 : decode c21_ 25 = .ok (.invokevirtual 82, 3) := by decide +kernel
theorem d21_28 : decode c21_ 28 = .ok (.aload_n 0, 1) := by decide +kernel
theorem d21_29 : decode c21_ 29 = .ok (.aload_n 0, 1) := by decide +kernel
theorem d21_30 : decode c21_ 30 = .ok (.getfield 39, 3) := by decide +kernel
theorem d21_33 : decode c21_ 33 = .ok (.iconst 2, 1) := by decide +kernel
theorem d21_34 : decode c21_ 34 = .ok (.iload_n 2, 1) := by decide +kernel
theorem d21_35 : decode c21_ 35 = .ok (.imul, 1) := by decide +kernel
theorem d21_36 : decode c21_ 36 = .ok (.iconst 1, 1) := by decide +kernel
theorem d21_37 : decode c21_ 37 = .ok (.iadd, 1) := by decide +kernel
theorem d21_38 : decode c21_ 38 = .ok (.iconst 2, 1) := by decide +kernel
theorem d21_39 : decode c21_ 39 = .ok (.aload_n 0, 1) := by decide +kernel
theorem d21_40 : decode c21_ 40 = .ok (.getfield 22, 3) := by decide +kernel
theorem d21_43 : decode c21_ 43 = .ok (.invokevirtual 7, 3) := by decide +kernel
theorem d21_46 : decode c21_ 46 = .ok (.imul, 1) := by decide +kernel
theorem d21_47 : decode c21_ 47 = .ok (.invokestatic 85, 3) := by decide +kernel
theorem d21_50 : decode c21_ 50 = .ok (.putfield 39, 3) := by decide +kernel
theorem d21_53 : decode c21_ 53 = .ok (.aload_n 0, 1) := by decide +kernel
theorem d21_54 : decode c21_ 54 = .ok (.aload_n 0, 1) := by decide +kernel
theorem d21_55 : decode c21_ 55 = .ok (.getfield 42, 3) := by decide +kernel
theorem d21_58 : decode c21_ 58 = .ok (.iload_n 2, 1) := by decide +kernel
theorem d21_59 : decode c21_ 59 = .ok (.aload_n 0, 1) := by decide +kernel
theorem d21_60 : decode c21_ 60 = .ok (.getfield 22, 3) := by decide +kernel
theorem d21_63 : decode c21_ 63 = .ok (.invokevirtual 7, 3) := by decide +kernel
theorem d21_66 : decode c21_ 66 = .ok (.invokestatic 85, 3) := by decide +kernel
theorem d21_69 : decode c21_ 69 = .ok (.putfield 42, 3) := by decide +kernel
theorem d21_72 : decode c21_ 72 = .ok (.aload_n 0, 1) := by decide +kernel
theorem d21_73 : decode c21_ 73 = .ok (.aload_n 0, 1) := by decide +kernel
theorem d21_74 : decode c21_ 74 = .ok (.getfield 48, 3) := by decide +kernel
theorem d21_77 : decode c21_ 77 = .ok (.iload_n 2, 1) := by decide +kernel
theorem d21_78 : decode c21_ 78 = .ok (.aload_n 0, 1) := by decide +kernel
theorem d21_79 : decode c21_ 79 = .ok (.getfield 22, 3) := by decide +kernel
theorem d21_82 : decode c21_ 82 = .ok (.invokevirtual 7, 3) := by decide +kernel
theorem d21_85 : decode c21_ 85 = .ok (.invokestatic 85, 3) := by decide +kernel
theorem d21_88 : decode c21_ 88 = .ok (.putfield 48, 3) := by decide +kernel
theorem d21_91 : decode c21_ 91 = .ok (.aload_n 0, 1) := by decide +kernel
theorem d21_92 : decode c21_ 92 = .ok (.aload_n 0, 1) := by decide +kernel
theorem d21_93 : decode c21_ 93 = .ok (.getfield 51, 3) := by decide +kernel
theorem d21_96 : decode c21_ 96 = .ok (.iload_n 2, 1) := by decide +kernel
theorem d21_97 : decode c21_ 97 = .ok (.aload_n 0, 1) := by decide +kernel
theorem d21_98 : decode c21_ 98 = .ok (.getfield 22, 3) := by decide +kernel
theorem d21_101 : decode c21_ 101 = .ok (.invokevirtual 7, 3) := by decide +kernel
theorem d21_104 : decode c21_ 104 = .ok (.invokestatic 85, 3) := by decide +kernel
theorem d21_107 : decode c21_ 107 = .ok (.putfield 51, 3) := by decide +kernel
theorem d21_110 : decode c21_ 110 = .ok (.aload_n 0, 1) := by decide +kernel
theorem d21_111 : decode c21_ 111 = .ok (.getfield 39, 3) := by decide +kernel
theorem d21_114 : decode c21_ 114 = .ok (.iconst 2, 1) := by decide +kernel
theorem d21_115 : decode c21_ 115 = .ok (.iload_n 2, 1) := by decide +kernel
theorem d21_116 : decode c21_ 116 = .ok (.imul, 1) := by decide +kernel
theorem d21_117 : decode c21_ 117 = .ok (.iconst (-1), 1) := by decide +kernel
theorem d21_118 : decode c21_ 118 = .ok (.iastore, 1) := by decide +kernel
theorem d21_119 : decode c21_ 119 = .ok (.aload_n 0, 1) := by decide +kernel
theorem d21_120 : decode c21_ 120 = .ok (.getfield 39, 3) := by decide +kernel
theorem d21_123 : decode c21_ 123 = .ok (.iconst 2, 1) := by decide +kernel
theorem d21_124 : decode c21_ 124 = .ok (.iload_n 2, 1) := by decide +kernel
theorem d21_125 : decode c21_ 125 = .ok (.imul, 1) := by decide +kernel
theorem d21_126 : decode c21_ 126 = .ok (.iconst 1, 1) := by decide +kernel
theorem d21_127 : decode c21_ 127 = .ok (.iadd, 1) := by decide +kernel
theorem d21_128 : decode c21_ 128 = .ok (.iconst (-1), 1) := by decide +kernel
theorem d21_129 : decode c21_ 129 = .ok (.iastore, 1) := by decide +kernel
theorem d21_130 : decode c21_ 130 = .ok (.iconst 0, 1) := by decide +kernel
theorem d21_131 : decode c21_ 131 = .ok (.istore 4, 2) := by decide +kernel
theorem d21_133 : decode c21_ 133 = .ok (.aload_n 0, 1) := by decide +kernel
theorem d21_134 : decode c21_ 134 = .ok (.getfield 22, 3) := by decide +kernel
theorem d21_137 : decode c21_ 137 = .ok (.iload_n 2, 1) := by decide +kernel
theorem d21_138 : decode c21_ 138 = .ok (.invokevirtual 89, 3) := by decide +kernel
theorem d21_141 : decode c21_ 141 = .ok (.istore 5, 2) := by decide +kernel
theorem d21_143 : decode c21_ 143 = .ok (.iload 5, 2) := by decide +kernel
theorem d21_145 : decode c21_ 145 = .ok (.aload_n 0, 1) := by decide +kernel
theorem d21_146 : decode c21_ 146 = .ok (.getfield 22, 3) := by decide +kernel
theorem d21_149 : decode c21_ 149 = .ok (.iload_n 2, 1) := by decide +kernel
theorem d21_150 : decode c21_ 150 = .ok (.invokevirtual 92, 3) := by decide +kernel
theorem d21_153 : decode c21_ 153 = .ok (.if_icmp .ge 53, 3) := by decide +kernel
theorem d21_156 : decode c21_ 156 = .ok (.aload_n 0, 1) := by decide +kernel
theorem d21_157 : decode c21_ 157 = .ok (.getfield 22, 3) := by decide +kernel
theorem d21_160 : decode c21_ 160 = .ok (.iload 5, 2) := by decide +kernel
theorem d21_162 : decode c21_ 162 = .ok (.invokevirtual 95, 3) := by decide +kernel
theorem d21_165 : decode c21_ 165 = .ok (.istore 6, 2) := by decide +kernel
theorem d21_167 : decode c21_ 167 = .ok (.aload_n 0, 1) := by decide +kernel
theorem d21_168 : decode c21_ 168 = .ok (.iload 6, 2) := by decide +kernel
theorem d21_170 : decode c21_ 170 = .ok (.iload_n 1, 1) := by decide +kernel
theorem d21_171 : decode c21_ 171 = .ok (.invokevirtual 98, 3) := by decide +kernel
theorem d21_174 : decode c21_ 174 = .ok (.aload_n 0, 1) := by decide +kernel
theorem d21_175 : decode c21_ 175 = .ok (.iload 6, 2) := by decide +kernel
theorem d21_177 : decode c21_ 177 = .ok (.iload_n 2, 1) := by decide +kernel
theorem d21_178 : decode c21_ 178 = .ok (.invokevirtual 60, 3) := by decide +kernel
theorem d21_181 : decode c21_ 181 = .ok (.iload 4, 2) := by decide +kernel
theorem d21_183 : decode c21_ 183 = .ok (.iload 6, 2) := by decide +kernel
theorem d21_185 : decode c21_ 185 = .ok (.aload_n 0, 1) := by decide +kernel
theorem d21_186 : decode c21_ 186 = .ok (.getfield 28, 3) := by decide +kernel
theorem d21_189 : decode c21_ 189 = .ok (.if_icmp .ge 7, 3) := by decide +kernel
theorem d21_192 : decode c21_ 192 = .ok (.iconst 1, 1) := by decide +kernel
theorem d21_193 : decode c21_ 193 = .ok (.goto 4, 3) := by decide +kernel
theorem d21_196 : decode c21_ 196 = .ok (.iconst 0, 1) := by decide +kernel
theorem d21_197 : decode c21_ 197 = .ok (.iadd, 1) := by decide +kernel
theorem d21_198 : decode c21_ 198 = .ok (.istore 4, 2) := by decide +kernel
theorem d21_200 : decode c21_ 200 = .ok (.iinc 5 1, 3) := by decide +kernel
theorem d21_203 : decode c21_ 203 = .ok (.goto (-60), 3) := by decide +kernel
theorem d21_206 : decode c21_ 206 = .ok (.aload_n 0, 1) := by decide +kernel
theorem d21_207 : decode c21_ 207 = .ok (.getfield 42, 3) := by decide +kernel
theorem d21_210 : decode c21_ 210 = .ok (.iload_n 2, 1) := by decide +kernel
theorem d21_211 : decode c21_ 211 = .ok (.iload 4, 2) := by decide +kernel
theorem d21_213 : decode c21_ 213 = .ok (.iastore, 1) := by decide +kernel
theorem d21_214 : decode c21_ 214 = .ok (.aload_n 0, 1) := by decide +kernel
theorem d21_215 : decode c21_ 215 = .ok (.getfield 42, 3) := by decide +kernel
theorem d21_218 : decode c21_ 218 = .ok (.iload_n 1, 1) := by decide +kernel
theorem d21_219 : decode c21_ 219 = .ok (.dup2, 1) := by decide +kernel
theorem d21_220 : decode c21_ 220 = .ok (.iaload, 1) := by decide +kernel
theorem d21_221 : decode c21_ 221 = .ok (.iload 4, 2) := by decide +kernel
theorem d21_223 : decode c21_ 223 = .ok (.isub, 1) := by decide +kernel
theorem d21_224 : decode c21_ 224 = .ok (.iastore, 1) := by decide +kernel
theorem d21_225 : decode c21_ 225 = .ok (.aload_n 0, 1) := by decide +kernel
theorem d21_226 : decode c21_ 226 = .ok (.dup, 1) := by decide +kernel
theorem d21_227 : decode c21_ 227 = .ok (.getfield 68, 3) := by decide +kernel
theorem d21_230 : decode c21_ 230 = .ok (.iload_n 3, 1) := by decide +kernel
theorem d21_231 : decode c21_ 231 = .ok (.ifCond .eq 7, 3) := by decide +kernel
theorem d21_234 : decode c21_ 234 = .ok (.iconst 0, 1) := by decide +kernel
theorem d21_235 : decode c21_ 235 = .ok (.goto 4, 3) := by decide +kernel
theorem d21_238 : decode c21_ 238 = .ok (.iconst (-1), 1) := by decide +kernel
theorem d21_239 : decode c21_ 239 = .ok (.aload_n 0, 1) := by decide +kernel
theorem d21_240 : decode c21_ 240 = .ok (.iload_n 1, 1) := by decide +kernel
theorem d21_241 : decode c21_ 241 = .ok (.aload_n 0, 1) := by decide +kernel
theorem d21_242 : decode c21_ 242 = .ok (.getfield 22, 3) := by decide +kernel
theorem d21_245 : decode c21_ 245 = .ok (.iload_n 1, 1) := by decide +kernel
theorem d21_246 : decode c21_ 246 = .ok (.invokevirtual 78, 3) := by decide +kernel
theorem d21_249 : decode c21_ 249 = .ok (.invokevirtual 64, 3) := by decide +kernel
theorem d21_252 : decode c21_ 252 = .ok (.ifCond .eq 7, 3) := by decide +kernel
theorem d21_255 : decode c21_ 255 = .ok (.iconst 0, 1) := by decide +kernel
theorem d21_256 : decode c21_ 256 = .ok (.goto 4, 3) := by decide +kernel
theorem d21_259 : decode c21_ 259 = .ok (.iconst 1, 1) := by decide +kernel
theorem d21_260 : decode c21_ 260 = .ok (.iadd, 1) := by decide +kernel
theorem d21_261 : decode c21_ 261 = .ok (.aload_n 0, 1) := by decide +kernel
theorem d21_262 : decode c21_ 262 = .ok (.iload_n 2, 1) := by decide +kernel
theorem d21_263 : decode c21_ 263 = .ok (.aload_n 0, 1) := by decide +kernel
theorem d21_264 : decode c21_ 264 = .ok (.getfield 22, 3) := by decide +kernel
theorem d21_267 : decode c21_ 267 = .ok (.iload_n 2, 1) := by decide +kernel
theorem d21_268 : decode c21_ 268 = .ok (.invokevirtual 78, 3) := by decide +kernel
theorem d21_271 : decode c21_ 271 = .ok (.invokevirtual 64, 3) := by decide +kernel
theorem d21_274 : decode c21_ 274 = .ok (.ifCond .eq 7, 3) := by decide +kernel
theorem d21_277 : decode c21_ 277 = .ok (.iconst 0, 1) := by decide +kernel
theorem d21_278 : decode c21_ 278 = .ok (.goto 4, 3) := by decide +kernel
theorem d21_281 : decode c21_ 281 = .ok (.iconst 1, 1) := by decide +kernel
theorem d21_282 : decode c21_ 282 = .ok (.iadd, 1) := by decide +kernel
theorem d21_283 : decode c21_ 283 = .ok (.iadd, 1) := by decide +kernel
theorem d21_284 : decode c21_ 284 = .ok (.putfield 68, 3) := by decide +kernel
theorem d21_287 : decode c21_ 287 = .ok (.aload_n 0, 1) := by decide +kernel
theorem d21_288 : decode c21_ 288 = .ok (.iload_n 1, 1) := by decide +kernel
theorem d21_289 : decode c21_ 289 = .ok (.invokevirtual 71, 3) := by decide +kernel
theorem d21_292 : decode c21_ 292 = .ok (.aload_n 0, 1) := by decide +kernel
theorem d21_293 : decode c21_ 293 = .ok (.iload_n 2, 1) := by decide +kernel
theorem d21_294 : decode c21_ 294 = .ok (.invokevirtual 71, 3) := by decide +kernel
theorem d21_297 : decode c21_ 297 = .ok (.return_, 1) := by decide +kernel
theorem d22_0 : decode c22_ 0 = .ok (.aload_n 0, 1) := by decide +kernel
theorem d22_1 : decode c22_ 1 = .ok (.getfield 48, 3) := by decide +kernel
theorem d22_4 : decode c22_ 4 = .ok (.iload_n 1, 1) := by decide +kernel
theorem d22_5 : decode c22_ 5 = .ok (.iaload, 1) := by decide +kernel
theorem d22_6 : decode c22_ 6 = .ok (.aload_n 0, 1) := by decide +kernel
theorem d22_7 : decode c22_ 7 = .ok (.getfield 45, 3) := by decide +kernel
theorem d22_10 : decode c22_ 10 = .ok (.iload_n 1, 1) := by decide +kernel
theorem d22_11 : decode c22_ 11 = .ok (.iaload, 1) := by decide +kernel
theorem d22_12 : decode c22_ 12 = .ok (.isub, 1) := by decide +kernel
theorem d22_13 : decode c22_ 13 = .ok (.ireturn, 1) := by decide +kernel
theorem d23_0 : decode c23_ 0 = .ok (.aload_n 0, 1) := by decide +kernel
theorem d23_1 : decode c23_ 1 = .ok (.getfield 42, 3) := by decide +kernel
theorem d23_4 : decode c23_ 4 = .ok (.iload_n 1, 1) := by decide +kernel
theorem d23_5 : decode c23_ 5 = .ok (.iaload, 1) := by decide +kernel
theorem d23_6 : decode c23_ 6 = .ok (.istore_n 2, 1) := by decide +kernel
theorem d23_7 : decode c23_ 7 = .ok (.iload_n 2, 1) := by decide +kernel
theorem d23_8 : decode c23_ 8 = .ok (.iconst 2, 1) := by decide +kernel
theorem d23_9 : decode c23_ 9 = .ok (.if_icmp .lt 72, 3) := by decide +kernel
theorem d23_12 : decode c23_ 12 = .ok (.aload_n 0, 1) := by decide +kernel
theorem d23_13 : decode c23_ 13 = .ok (.getfield 51, 3) := by decide +kernel
theorem d23_16 : decode c23_ 16 = .ok (.iload_n 1, 1) := by decide +kernel
theorem d23_17 : decode c23_ 17 = .ok (.iaload, 1) := by decide +kernel
theorem d23_18 : decode c23_ 18 = .ok (.iconst (-1), 1) := by decide +kernel
theorem d23_19 : decode c23_ 19 = .ok (.if_icmp .ne 18, 3) := by decide +kernel
theorem d23_22 : decode c23_ 22 = .ok (.aload_n 0, 1) := by decide +kernel
theorem d23_23 : decode c23_ 23 = .ok (.getfield 45, 3) := by decide +kernel
theorem d23_26 : decode c23_ 26 = .ok (.iload_n 2, 1) := by decide +kernel
theorem d23_27 : decode c23_ 27 = .ok (.aload_n 0, 1) := by decide +kernel
theorem d23_28 : decode c23_ 28 = .ok (.getfield 48, 3) := by decide +kernel
theorem d23_31 : decode c23_ 31 = .ok (.iload_n 1, 1) := by decide +kernel
theorem d23_32 : decode c23_ 32 = .ok (.iaload, 1) := by decide +kernel
theorem d23_33 : decode c23_ 33 = .ok (.iastore, 1) := by decide +kernel
theorem d23_34 : decode c23_ 34 = .ok (.goto 20, 3) := by decide +kernel
theorem d23_37 : decode c23_ 37 = .ok (.aload_n 0, 1) := by decide +kernel
theorem d23_38 : decode c23_ 38 = .ok (.getfield 48, 3) := by decide +kernel
theorem d23_41 : decode c23_ 41 = .ok (.aload_n 0, 1) := by decide +kernel
theorem d23_42 : decode c23_ 42 = .ok (.getfield 51, 3) := by decide +kernel
theorem d23_45 : decode c23_ 45 = .ok (.iload_n 1, 1) := by decide +kernel
theorem d23_46 : decode c23_ 46 = .ok (.iaload, 1) := by decide +kernel
theorem d23_47 : decode c23_ 47 = .ok (.aload_n 0, 1) := by decide +kernel
theorem d23_48 : decode c23_ 48 = .ok (.getfield 48, 3) := by decide +kernel
theorem d23_51 : decode c23_ 51 = .ok (.iload_n 1, 1) := by decide +kernel
theorem d23_52 : decode c23_ 52 = .ok (.iaload, 1) := by decide +kernel
theorem d23_53 : decode c23_ 53 = .ok (.iastore, 1) := by decide +kernel
theorem d23_54 : decode c23_ 54 = .ok (.aload_n 0, 1) := by decide +kernel
theorem d23_55 : decode c23_ 55 = .ok (.getfield 48, 3) := by decide +kernel
theorem d23_58 : decode c23_ 58 = .ok (.iload_n 1, 1) := by decide +kernel
theorem d23_59 : decode c23_ 59 = .ok (.iaload, 1) := by decide +kernel
theorem d23_60 : decode c23_ 60 = .ok (.iconst (-1), 1) := by decide +kernel
theorem d23_61 : decode c23_ 61 = .ok (.if_icmp .eq 20, 3) := by decide +kernel
theorem d23_64 : decode c23_ 64 = .ok (.aload_n 0, 1) := by decide +kernel
theorem d23_65 : decode c23_ 65 = .ok (.getfield 51, 3) := by decide +kernel
theorem d23_68 : decode c23_ 68 = .ok (.aload_n 0, 1) := by decide +kernel
theorem d23_69 : decode c23_ 69 = .ok (.getfield 48, 3) := by decide +kernel
theorem d23_72 : decode c23_ 72 = .ok (.iload_n 1, 1) := by decide +kernel
theorem d23_73 : decode c23_ 73 = .ok (.iaload, 1) := by decide +kernel
theorem d23_74 : decode c23_ 74 = .ok (.aload_n 0, 1) := by decide +kernel
theorem d23_75 : decode c23_ 75 = .ok (.getfield 51, 3) := by decide +kernel
theorem d23_78 : decode c23_ 78 = .ok (.iload_n 1, 1) := by decide +kernel
theorem d23_79 : decode c23_ 79 = .ok (.iaload, 1) := by decide +kernel
theorem d23_80 : decode c23_ 80 = .ok (.iastore, 1) := by decide +kernel
theorem d23_81 : decode c23_ 81 = .ok (.return_, 1) := by decide +kernel
theorem d24_0 : decode c24_ 0 = .ok (.aload_n 0, 1) := by decide +kernel
theorem d24_1 : decode c24_ 1 = .ok (.getfield 45, 3) := by decide +kernel
theorem d24_4 : decode c24_ 4 = .ok (.iload_n 1, 1) := by decide +kernel
theorem d24_5 : decode c24_ 5 = .ok (.iaload, 1) := by decide +kernel
theorem d24_6 : decode c24_ 6 = .ok (.ireturn, 1) := by decide +kernel
theorem d25_0 : decode c25_ 0 = .ok (.aload_n 0, 1) := by decide +kernel
theorem d25_1 : decode c25_ 1 = .ok (.getfield 48, 3) := by decide +kernel
theorem d25_4 : decode c25_ 4 = .ok (.iload_n 1, 1) := by decide +kernel
theorem d25_5 : decode c25_ 5 = .ok (.iaload, 1) := by decide +kernel
theorem d25_6 : decode c25_ 6 = .ok (.ireturn, 1) := by decide +kernel
theorem d26_0 : decode c26_ 0 = .ok (.aload_n 0, 1) := by decide +kernel
theorem d26_1 : decode c26_ 1 = .ok (.getfield 27, 3) := by decide +kernel
theorem d26_4 : decode c26_ 4 = .ok (.iload_n 1, 1) := by decide +kernel
theorem d26_5 : decode c26_ 5 = .ok (.iaload, 1) := by decide +kernel
theorem d26_6 : decode c26_ 6 = .ok (.ireturn, 1) := by decide +kernel
theorem d27_0 : decode c27_ 0 = .ok (.aload_n 0, 1) := by decide +kernel
theorem d27_1 : decode c27_ 1 = .ok (.getfield 36, 3) := by decide +kernel
theorem d27_4 : decode c27_ 4 = .ok (.iload_n 1, 1) := by decide +kernel
theorem d27_5 : decode c27_ 5 = .ok (.iaload, 1) := by decide +kernel
theorem d27_6 : decode c27_ 6 = .ok (.iconst (-1), 1) := by decide +kernel
theorem d27_7 : decode c27_ 7 = .ok (.if_icmp .ne 34, 3) := by decide +kernel
theorem d27_10 : decode c27_ 10 = .ok (.aload_n 0, 1) := by decide +kernel
theorem d27_11 : decode c27_ 11 = .ok (.getfield 39, 3) := by decide +kernel
theorem d27_14 : decode c27_ 14 = .ok (.iconst 2, 1) := by decide +kernel
theorem d27_15 : decode c27_ 15 = .ok (.iload_n 2, 1) := by decide +kernel
theorem d27_16 : decode c27_ 16 = .ok (.imul, 1) := by decide +kernel
theorem d27_17 : decode c27_ 17 = .ok (.iload_n 1, 1) := by decide +kernel
theorem d27_18 : decode c27_ 18 = .ok (.aload_n 0, 1) := by decide +kernel
theorem d27_19 : decode c27_ 19 = .ok (.getfield 28, 3) := by decide +kernel
theorem d27_22 : decode c27_ 22 = .ok (.if_icmp .ge 7, 3) := by decide +kernel
theorem d27_25 : decode c27_ 25 = .ok (.iconst 0, 1) := by decide +kernel
theorem d27_26 : decode c27_ 26 = .ok (.goto 4, 3) := by decide +kernel
theorem d27_29 : decode c27_ 29 = .ok (.iconst 1, 1) := by decide +kernel
theorem d27_30 : decode c27_ 30 = .ok (.iadd, 1) := by decide +kernel
theorem d27_31 : decode c27_ 31 = .ok (.aload_n 0, 1) := by decide +kernel
theorem d27_32 : decode c27_ 32 = .ok (.getfield 32, 3) := by decide +kernel
theorem d27_35 : decode c27_ 35 = .ok (.iload_n 1, 1) := by decide +kernel
theorem d27_36 : decode c27_ 36 = .ok (.iaload, 1) := by decide +kernel
theorem d27_37 : decode c27_ 37 = .ok (.iastore, 1) := by decide +kernel
theorem d27_38 : decode c27_ 38 = .ok (.goto 20, 3) := by decide +kernel
theorem d27_41 : decode c27_ 41 = .ok (.aload_n 0, 1) := by decide +kernel
theorem d27_42 : decode c27_ 42 = .ok (.getfield 32, 3) := by decide +kernel
theorem d27_45 : decode c27_ 45 = .ok (.aload_n 0, 1) := by decide +kernel
theorem d27_46 : decode c27_ 46 = .ok (.getfield 36, 3) := by decide +kernel
theorem d27_49 : decode c27_ 49 = .ok (.iload_n 1, 1) := by decide +kernel
theorem d27_50 : decode c27_ 50 = .ok (.iaload, 1) := by decide +kernel
theorem d27_51 : decode c27_ 51 = .ok (.aload_n 0, 1) := by decide +kernel
theorem d27_52 : decode c27_ 52 = .ok (.getfield 32, 3) := by decide +kernel
theorem d27_55 : decode c27_ 55 = .ok (.iload_n 1, 1) := by decide +kernel
theorem d27_56 : decode c27_ 56 = .ok (.iaload, 1) := by decide +kernel
theorem d27_57 : decode c27_ 57 = .ok (.iastore, 1) := by decide +kernel
theorem d27_58 : decode c27_ 58 = .ok (.aload_n 0, 1) := by decide +kernel
theorem d27_59 : decode c27_ 59 = .ok (.getfield 32, 3) := by decide +kernel
theorem d27_62 : decode c27_ 62 = .ok (.iload_n 1, 1) := by decide +kernel
theorem d27_63 : decode c27_ 63 = .ok (.iaload, 1) := by decide +kernel
theorem d27_64 : decode c27_ 64 = .ok (.iconst (-1), 1) := by decide +kernel
theorem d27_65 : decode c27_ 65 = .ok (.if_icmp .eq 20, 3) := by decide +kernel
theorem d27_68 : decode c27_ 68 = .ok (.aload_n 0, 1) := by decide +kernel
theorem d27_69 : decode c27_ 69 = .ok (.getfield 36, 3) := by decide +kernel
theorem d27_72 : decode c27_ 72 = .ok (.aload_n 0, 1) := by decide +kernel
theorem d27_73 : decode c27_ 73 = .ok (.getfield 32, 3) := by decide +kernel
theorem d27_76 : decode c27_ 76 = .ok (.iload_n 1, 1) := by decide +kernel
theorem d27_77 : decode c27_ 77 = .ok (.iaload, 1) := by decide +kernel
theorem d27_78 : decode c27_ 78 = .ok (.aload_n 0, 1) := by decide +kernel
theorem d27_79 : decode c27_ 79 = .ok (.getfield 36, 3) := by decide +kernel
theorem d27_82 : decode c27_ 82 = .ok (.iload_n 1, 1) := by decide +kernel
theorem d27_83 : decode c27_ 83 = .ok (.iaload, 1) := by decide +kernel
theorem d27_84 : decode c27_ 84 = .ok (.iastore, 1) := by decide +kernel
theorem d27_85 : decode c27_ 85 = .ok (.return_, 1) := by decide +kernel
theorem d28_0 : decode c28_ 0 = .ok (.aload_n 0, 1) := by decide +kernel
theorem d28_1 : decode c28_ 1 = .ok (.dup, 1) := by decide +kernel
theorem d28_2 : decode c28_ 2 = .ok (.getfield 68, 3) := by decide +kernel
theorem d28_5 : decode c28_ 5 = .ok (.aload_n 0, 1) := by decide +kernel
theorem d28_6 : decode c28_ 6 = .ok (.iload_n 1, 1) := by decide +kernel
theorem d28_7 : decode c28_ 7 = .ok (.aload_n 0, 1) := by decide +kernel
theorem d28_8 : decode c28_ 8 = .ok (.getfield 22, 3) := by decide +kernel
theorem d28_11 : decode c28_ 11 = .ok (.iload_n 1, 1) := by decide +kernel
theorem d28_12 : decode c28_ 12 = .ok (.invokevirtual 78, 3) := by decide +kernel
theorem d28_15 : decode c28_ 15 = .ok (.invokevirtual 64, 3) := by decide +kernel
theorem d28_18 : decode c28_ 18 = .ok (.ifCond .eq 7, 3) := by decide +kernel
theorem d28_21 : decode c28_ 21 = .ok (.iconst 0, 1) := by decide +kernel
theorem d28_22 : decode c28_ 22 = .ok (.goto 4, 3) := by decide +kernel
theorem d28_25 : decode c28_ 25 = .ok (.iconst 1, 1) := by decide +kernel
theorem d28_26 : decode c28_ 26 = .ok (.aload_n 0, 1) := by decide +kernel
theorem d28_27 : decode c28_ 27 = .ok (.iload_n 2, 1) := by decide +kernel
theorem d28_28 : decode c28_ 28 = .ok (.aload_n 0, 1) := by decide +kernel
theorem d28_29 : decode c28_ 29 = .ok (.getfield 22, 3) := by decide +kernel
theorem d28_32 : decode c28_ 32 = .ok (.iload_n 2, 1) := by decide +kernel
theorem d28_33 : decode c28_ 33 = .ok (.invokevirtual 78, 3) := by decide +kernel
theorem d28_36 : decode c28_ 36 = .ok (.invokevirtual 64, 3) := by decide +kernel
theorem d28_39 : decode c28_ 39 = .ok (.ifCond .eq 7, 3) := by decide +kernel
theorem d28_42 : decode c28_ 42 = .ok (.iconst 0, 1) := by decide +kernel
theorem d28_43 : decode c28_ 43 = .ok (.goto 4, 3) := by decide +kernel
theorem d28_46 : decode c28_ 46 = .ok (.iconst 1, 1) := by decide +kernel
theorem d28_47 : decode c28_ 47 = .ok (.iadd, 1) := by decide +kernel
theorem d28_48 : decode c28_ 48 = .ok (.isub, 1) := by decide +kernel
theorem d28_49 : decode c28_ 49 = .ok (.putfield 68, 3) := by decide +kernel
theorem d28_52 : decode c28_ 52 = .ok (.aload_n 0, 1) := by decide +kernel
theorem d28_53 : decode c28_ 53 = .ok (.iload_n 1, 1) := by decide +kernel
theorem d28_54 : decode c28_ 54 = .ok (.invokevirtual 82, 3) := by decide +kernel
theorem d28_57 : decode c28_ 57 = .ok (.aload_n 0, 1) := by decide +kernel
theorem d28_58 : decode c28_ 58 = .ok (.iload_n 2, 1) := by decide +kernel
theorem d28_59 : decode c28_ 59 = .ok (.invokevirtual 82, 3) := by decide +kernel
theorem d28_62 : decode c28_ 62 = .ok (.aload_n 0, 1) := by decide +kernel
theorem d28_63 : decode c28_ 63 = .ok (.getfield 22, 3) := by decide +kernel
theorem d28_66 : decode c28_ 66 = .ok (.iload_n 2, 1) := by decide +kernel
theorem d28_67 : decode c28_ 67 = .ok (.invokevirtual 89, 3) := by decide +kernel
theorem d28_70 : decode c28_ 70 = .ok (.istore_n 3, 1) := by decide +kernel
theorem d28_71 : decode c28_ 71 = .ok (.iload_n 3, 1) := by decide +kernel
theorem d28_72 : decode c28_ 72 = .ok (.aload_n 0, 1) := by decide +kernel
theorem d28_73 : decode c28_ 73 = .ok (.getfield 22, 3) := by decide +kernel
theorem d28_76 : decode c28_ 76 = .ok (.iload_n 2, 1) := by decide +kernel
theorem d28_77 : decode c28_ 77 = .ok (.invokevirtual 92, 3) := by decide +kernel
theorem d28_80 : decode c28_ 80 = .ok (.if_icmp .ge 22, 3) := by decide +kernel
theorem d28_83 : decode c28_ 83 = .ok (.aload_n 0, 1) := by decide +kernel
theorem d28_84 : decode c28_ 84 = .ok (.aload_n 0, 1) := by decide +kernel
theorem d28_85 : decode c28_ 85 = .ok (.getfield 22, 3) := by decide +kernel
theorem d28_88 : decode c28_ 88 = .ok (.iload_n 3, 1) := by decide +kernel
theorem d28_89 : decode c28_ 89 = .ok (.invokevirtual 95, 3) := by decide +kernel
theorem d28_92 : decode c28_ 92 = .ok (.iload_n 1, 1) := by decide +kernel
theorem d28_93 : decode c28_ 93 = .ok (.invokevirtual 60, 3) := by decide +kernel
theorem d28_96 : decode c28_ 96 = .ok (.iinc 3 1, 3) := by decide +kernel
theorem d28_99 : decode c28_ 99 = .ok (.goto (-28), 3) := by decide +kernel
theorem d28_102 : decode c28_ 102 = .ok (.aload_n 0, 1) := by decide +kernel
theorem d28_103 : decode c28_ 103 = .ok (.getfield 42, 3) := by decide +kernel
theorem d28_106 : decode c28_ 106 = .ok (.iload_n 1, 1) := by decide +kernel
theorem d28_107 : decode c28_ 107 = .ok (.dup2, 1) := by decide +kernel
theorem d28_108 : decode c28_ 108 = .ok (.iaload, 1) := by decide +kernel
theorem d28_109 : decode c28_ 109 = .ok (.aload_n 0, 1) := by decide +kernel
theorem d28_110 : decode c28_ 110 = .ok (.getfield 42, 3) := by decide +kernel
theorem d28_113 : decode c28_ 113 = .ok (.iload_n 2, 1) := by decide +kernel
theorem d28_114 : decode c28_ 114 = .ok (.iaload, 1) := by decide +kernel
theorem d28_115 : decode c28_ 115 = .ok (.iadd, 1) := by decide +kernel
theorem d28_116 : decode c28_ 116 = .ok (.iastore, 1) := by decide +kernel
theorem d28_117 : decode c28_ 117 = .ok (.aload_n 0, 1) := by decide +kernel
theorem d28_118 : decode c28_ 118 = .ok (.dup, 1) := by decide +kernel
theorem d28_119 : decode c28_ 119 = .ok (.getfield 68, 3) := by decide +kernel
theorem d28_122 : decode c28_ 122 = .ok (.aload_n 0, 1) := by decide +kernel
theorem d28_123 : decode c28_ 123 = .ok (.iload_n 1, 1) := by decide +kernel
theorem d28_124 : decode c28_ 124 = .ok (.aload_n 0, 1) := by decide +kernel
theorem d28_125 : decode c28_ 125 = .ok (.getfield 22, 3) := by decide +kernel
theorem d28_128 : decode c28_ 128 = .ok (.iload_n 1, 1) := by decide +kernel
theorem d28_129 : decode c28_ 129 = .ok (.invokevirtual 78, 3) := by decide +kernel
theorem d28_132 : decode c28_ 132 = .ok (.aload_n 0, 1) := by decide +kernel
theorem d28_133 : decode c28_ 133 = .ok (.getfield 22, 3) := by decide +kernel
theorem d28_136 : decode c28_ 136 = .ok (.iload_n 2, 1) := by decide +kernel
theorem d28_137 : decode c28_ 137 = .ok (.invokevirtual 78, 3) := by decide +kernel
theorem d28_140 : decode c28_ 140 = .ok (.iadd, 1) := by decide +kernel
theorem d28_141 : decode c28_ 141 = .ok (.invokevirtual 64, 3) := by decide +kernel
theorem d28_144 : decode c28_ 144 = .ok (.ifCond .eq 7, 3) := by decide +kernel
theorem d28_147 : decode c28_ 147 = .ok (.iconst 0, 1) := by decide +kernel
theorem d28_148 : decode c28_ 148 = .ok (.goto 4, 3) := by decide +kernel
theorem d28_151 : decode c28_ 151 = .ok (.iconst 1, 1) := by decide +kernel
theorem d28_152 : decode c28_ 152 = .ok (.iadd, 1) := by decide +kernel
theorem d28_153 : decode c28_ 153 = .ok (.putfield 68, 3) := by decide +kernel
theorem d28_156 : decode c28_ 156 = .ok (.aload_n 0, 1) := by decide +kernel
theorem d28_157 : decode c28_ 157 = .ok (.iload_n 1, 1) := by decide +kernel
theorem d28_158 : decode c28_ 158 = .ok (.invokevirtual 71, 3) := by decide +kernel
theorem d28_161 : decode c28_ 161 = .ok (.return_, 1) := by decide +kernel
theorem pn_0 : plainName "com/example/states_into_classes/statesintoclasses/engine/Blocks" = true := by first | (simp [plainName, overriddenIn]; done) | decide +kernel
theorem pn_1 : plainName "com/example/states_into_classes/statesintoclasses/engine/BlockSides" = true := by first | (simp [plainName, overriddenIn]; done) | decide +kernel
theorem pn_2 : plainName "com/example/states_into_classes/statesintoclasses/engine/BlockSidesFullestPinLaw" = true := by first | (simp [plainName, overriddenIn]; done) | decide +kernel
theorem pn_3 : plainName "java/util/Arrays" = true := by first | (simp [plainName, overriddenIn]; done) | decide +kernel
theorem pd_0 : parseMethodDescriptor "(II)I" = some ⟨[.int, .int], some .int⟩ := by decide +kernel
theorem pd_1 : parseMethodDescriptor "(I)I" = some ⟨[.int], some .int⟩ := by decide +kernel
theorem pd_2 : parseMethodDescriptor "(II)V" = some ⟨[.int, .int], none⟩ := by decide +kernel
theorem pd_3 : parseMethodDescriptor "(II)Z" = some ⟨[.int, .int], some .boolean⟩ := by decide +kernel
theorem pd_4 : parseMethodDescriptor "(I)V" = some ⟨[.int], none⟩ := by decide +kernel
theorem pd_5 : parseMethodDescriptor "()I" = some ⟨[], some .int⟩ := by decide +kernel
theorem pd_6 : parseMethodDescriptor "([III)[I" = some ⟨[(.array .int), .int, .int], some (.array .int)⟩ := by decide +kernel
theorem pd_7 : parseMethodDescriptor "(III)V" = some ⟨[.int, .int, .int], none⟩ := by decide +kernel
theorem pd_8 : parseMethodDescriptor "([IIII)V" = some ⟨[(.array .int), .int, .int, .int], none⟩ := by decide +kernel
theorem pd_9 : parseMethodDescriptor "([I)V" = some ⟨[(.array .int)], none⟩ := by decide +kernel
theorem pd_10 : parseMethodDescriptor "([II)V" = some ⟨[(.array .int), .int], none⟩ := by decide +kernel
theorem pd_11 : parseMethodDescriptor "(III)I" = some ⟨[.int, .int, .int], some .int⟩ := by decide +kernel
theorem pd_12 : parseMethodDescriptor "(Lcom/example/states_into_classes/statesintoclasses/engine/Blocks;II)V" = some ⟨[(.object "com/example/states_into_classes/statesintoclasses/engine/Blocks"), .int, .int], none⟩ := by decide +kernel
theorem pd_13 : parseMethodDescriptor "(Lcom/example/states_into_classes/statesintoclasses/engine/Blocks$Split;)V" = some ⟨[(.object "com/example/states_into_classes/statesintoclasses/engine/Blocks$Split")], none⟩ := by decide +kernel
theorem pd_14 : parseMethodDescriptor "(Lcom/example/states_into_classes/statesintoclasses/engine/Blocks;I)V" = some ⟨[(.object "com/example/states_into_classes/statesintoclasses/engine/Blocks"), .int], none⟩ := by decide +kernel
abbrev BLn : String := "com/example/states_into_classes/statesintoclasses/engine/Blocks"
abbrev BSn : String := "com/example/states_into_classes/statesintoclasses/engine/BlockSides"
abbrev nu : Slot := .unset
abbrev sf (T : State) (m : MethodId) (pc : Nat) (L : Array Slot) (S : List Value) : State := T.setTop (mkF m pc L S)
theorem foii {Z : State} {a0 : Array Value} {h h' : Heap} {a b : Addr} {C O O' n n' : String} {v w : Value} (W : Wr h h' a (Jvm.RoadKit.slotOf Z O' n' "I") v) (F : Fld Z h b O n "I" w) (L : Laid Z a0 C O n "I") (L' : Laid Z a0 C O' n' "I") (hn : n ≠ n') : Fld Z h' b O n "I" w := F.other W (Or.inr (slot_ne L L' hn (t := .int) (t' := .int) (by decide) (by decide)))
theorem foia {Z : State} {a0 : Array Value} {h h' : Heap} {a b : Addr} {C O O' n n' : String} {v w : Value} (W : Wr h h' a (Jvm.RoadKit.slotOf Z O' n' "[I") v) (F : Fld Z h b O n "I" w) (L : Laid Z a0 C O n "I") (L' : Laid Z a0 C O' n' "[I") (hn : n ≠ n') : Fld Z h' b O n "I" w := F.other W (Or.inr (slot_ne L L' hn (t := .int) (t' := (.array .int)) (by decide) (by decide)))
theorem foai {Z : State} {a0 : Array Value} {h h' : Heap} {a b : Addr} {C O O' n n' : String} {v w : Value} (W : Wr h h' a (Jvm.RoadKit.slotOf Z O' n' "I") v) (F : Fld Z h b O n "[I" w) (L : Laid Z a0 C O n "[I") (L' : Laid Z a0 C O' n' "I") (hn : n ≠ n') : Fld Z h' b O n "[I" w := F.other W (Or.inr (slot_ne L L' hn (t := (.array .int)) (t' := .int) (by decide) (by decide)))
theorem foaa {Z : State} {a0 : Array Value} {h h' : Heap} {a b : Addr} {C O O' n n' : String} {v w : Value} (W : Wr h h' a (Jvm.RoadKit.slotOf Z O' n' "[I") v) (F : Fld Z h b O n "[I" w) (L : Laid Z a0 C O n "[I") (L' : Laid Z a0 C O' n' "[I") (hn : n ≠ n') : Fld Z h' b O n "[I" w := F.other W (Or.inr (slot_ne L L' hn (t := (.array .int)) (t' := (.array .int)) (by decide) (by decide)))
abbrev St := List (List Int32) × List Int32
def arr (σ : St) (i : Nat) : List Int32 := σ.1.getD i []
def rdI (σ : St) (k : Nat) : Int32 := σ.2.getD k 0
def wrI (σ : St) (k : Nat) (x : Int32) : St := (σ.1, σ.2.set k x)
def rdA (σ : St) (i : Nat) (j : Int32) : Option Int32 := if j < 0 then none else (arr σ i)[j.toNatClampNeg]?
def wrA (σ : St) (i : Nat) (j x : Int32) : Option St := if j < 0 then none else if j.toNatClampNeg < (arr σ i).length then some (σ.1.set i ((arr σ i).set j.toNatClampNeg x), σ.2) else none
def lenA (σ : St) (i : Nat) : Int32 := (arr σ i).length.toInt32
def guardI (P : Prop) [Decidable P] : Option Unit := if P then some () else none
theorem guardI_spec {P : Prop} [Decidable P] {u : Unit} (h : guardI P = some u) : P := by
 unfold guardI at h; split at h
 ·assumption
 ·cases h
def mxI (a b : Int32) : Int32 := if a < b then b else a
def mnI (a b : Int32) : Int32 := if b < a then b else a
def IA (Z : State) (h : Heap) (a : Addr) (l : List Int32) : Prop := ∃ c : Cell, Arr Z h a c .int ∧ c.slots = (l.map Value.int).toArray ∧ l.length < 2147483648
section Own
variable {Z : State} {h h' : Heap} {a b : Addr} {l : List Int32} {n0 : Nat} {ps : Nat → Addr} {σ σ' : St} {i : Nat} {j x w : Int32}
theorem IA.ext (E : Ext h h') (F : IA Z h a l) : IA Z h' a l := by obtain ⟨c, A, r⟩ := F; exact ⟨c, A.ext E, r⟩
theorem IA.other {sl : Nat} {v : Value} (W : Wr h h' b sl v) (F : IA Z h a l) (ne : a ≠ b) : IA Z h' a l := by obtain ⟨c, A, r⟩ := F; exact ⟨c, A.other W ne, r⟩
theorem IA.keep {ws : List Addr} (F : IA Z h a l) (K : Keep h h' ws) (q : a ∉ ws) : IA Z h' a l := by obtain ⟨c, A, r⟩ := F; exact ⟨c, ⟨K.2.1 a c A.1 q, A.2⟩, r⟩
theorem IA.lt (F : IA Z h a l) : a < h.size := by obtain ⟨c, A, -⟩ := F; exact A.lt
theorem IA.size {c : Cell} (s : c.slots = (l.map Value.int).toArray) : c.slots.size = l.length := by rw [s]; simp
theorem IA.rd (F : IA Z h a l) (hj : ¬ j < 0) (hw : l[j.toNatClampNeg]? = some w) : ∃ c : Cell, Arr Z h a c .int ∧ ¬ (j < 0 ∨ c.slots.size ≤ j.toNatClampNeg) ∧ c.slots[j.toNatClampNeg]? = some (.int w) := by
 obtain ⟨c, A, s, -⟩ := F
 have hl := (List.getElem?_eq_some_iff.mp hw).1
 refine ⟨c, A, fun q => ?_, ?_⟩
 ·rw [IA.size s] at q; rcases q with q | q
  ·exact hj q
  ·omega
 ·rw [s]; simp [hw]
theorem IA.wr (F : IA Z h a l) (hj : ¬ j < 0) (hl : j.toNatClampNeg < l.length) : ∃ c : Cell, Arr Z h a c .int ∧ ¬ (j < 0 ∨ c.slots.size ≤ j.toNatClampNeg) ∧ ∀ h', Wr h h' a j.toNatClampNeg (.int x) → IA Z h' a (l.set j.toNatClampNeg x) := by
 obtain ⟨c, A, s, n⟩ := F
 refine ⟨c, A, fun q => ?_, fun h' W => ⟨_, A.same W, ?_, by simpa using n⟩⟩
 ·rw [IA.size s] at q; rcases q with q | q
  ·exact hj q
  ·omega
 ·simp [Cell.setSlot, s]
theorem IA.len (F : IA Z h a l) : ∃ c : Cell, Arr Z h a c .int ∧ c.slots.size.toInt32 = l.length.toInt32 := by
 obtain ⟨c, A, s, n⟩ := F
 exact ⟨c, A, by rw [IA.size s]⟩
theorem IA.new {k : ClassId} {n : Int32} (A : Arr Z h a (newA k .int n) .int) (hn : ¬ n < 0) : IA Z h a (List.replicate n.toNatClampNeg 0) :=
 ⟨_, A, by simp [newA, defaultValue], by have := (back32 hn).2; simpa using this⟩
theorem own_fitC {c : Cell} (A : Arr Z h a c .int) (s : c.slots = (l.map Value.int).toArray) : FitC Z c := fun i v hv => by
 obtain ⟨-, k, hk, comp, hkind⟩ := A.2.1
 rw [s] at hv
 have e : Z.slotType? c.cls .none i = some .int := by simp [State.slotType?, hk, hkind]
 simp only [List.getElem?_toArray, List.getElem?_map, Option.map_eq_some_iff] at hv
 obtain ⟨y, -, rfl⟩ := hv
 simp [State.fitsSlot, e, fits]
def Mem (Z : State) (n0 : Nat) (h : Heap) (ps : Nat → Addr) (A : List (List Int32)) : Prop := (∀ i, i < A.length → IA Z h (ps i) (A.getD i []) ∧ n0 ≤ ps i) ∧ ∀ i j, i < A.length → j < A.length → ps i = ps j → i = j
theorem rdA_spec (c : rdA σ i j = some w) : ¬ j < 0 ∧ (arr σ i)[j.toNatClampNeg]? = some w ∧ i < σ.1.length := by
 unfold rdA at c
 split at c
 ·cases c
 ·rename_i q
  refine ⟨q, c, ?_⟩
  rcases Nat.lt_or_ge i σ.1.length with z | z
  ·exact z
  ·simp [arr, List.getD_eq_getElem?_getD, List.getElem?_eq_none z] at c
theorem wrA_spec (c : wrA σ i j x = some σ') : ¬ j < 0 ∧ j.toNatClampNeg < (arr σ i).length ∧ i < σ.1.length ∧ σ' = (σ.1.set i ((arr σ i).set j.toNatClampNeg x), σ.2) := by
 unfold wrA at c
 split at c
 ·cases c
 ·rename_i q
  split at c
  ·rename_i z
   refine ⟨q, z, ?_, (Option.some.inj c).symm⟩
   rcases Nat.lt_or_ge i σ.1.length with y | y
   ·exact y
   ·simp [arr, List.getD_eq_getElem?_getD, List.getElem?_eq_none y] at z
  ·cases c
theorem Mem.ext (E : Ext h h') {A : List (List Int32)} (M : Mem Z n0 h ps A) : Mem Z n0 h' ps A := ⟨fun i q => ⟨(M.1 i q).1.ext E, (M.1 i q).2⟩, M.2⟩
theorem Mem.rd (M : Mem Z n0 h ps σ.1) (c : rdA σ i j = some w) : ∃ cl : Cell, Arr Z h (ps i) cl .int ∧ ¬ (j < 0 ∨ cl.slots.size ≤ j.toNatClampNeg) ∧ cl.slots[j.toNatClampNeg]? = some (.int w) := by
 obtain ⟨h1, h2, h3⟩ := rdA_spec c
 exact (M.1 i h3).1.rd h1 h2
theorem Mem.len (M : Mem Z n0 h ps σ.1) (q : i < σ.1.length) : ∃ cl : Cell, Arr Z h (ps i) cl .int ∧ cl.slots.size.toInt32 = lenA σ i := (M.1 i q).1.len
theorem Mem.wr (M : Mem Z n0 h ps σ.1) (c : wrA σ i j x = some σ') : ∃ cl : Cell, Arr Z h (ps i) cl .int ∧ ¬ (j < 0 ∨ cl.slots.size ≤ j.toNatClampNeg) ∧ n0 ≤ ps i ∧ σ'.2 = σ.2 ∧ ∀ h', Wr h h' (ps i) j.toNatClampNeg (.int x) → Mem Z n0 h' ps σ'.1 := by
 obtain ⟨h1, h2, h3, rfl⟩ := wrA_spec c
 obtain ⟨cl, A, hin, nx⟩ := (M.1 i h3).1.wr (x := x) h1 h2
 refine ⟨cl, A, hin, (M.1 i h3).2, rfl, fun h' W => ⟨fun k q => ?_, fun k m q r => M.2 k m (by simpa using q) (by simpa using r)⟩⟩
 have q' : k < σ.1.length := by simpa using q
 by_cases e : k = i
 ·subst e
  refine ⟨?_, (M.1 k q').2⟩
  have := nx h' W
  simpa [List.getD_eq_getElem?_getD, q', arr] using this
 ·refine ⟨?_, (M.1 k q').2⟩
  have := (M.1 k q').1.other W fun z => e (M.2 k i q' h3 z)
  simpa [List.getD_eq_getElem?_getD, List.getElem?_set_ne (Ne.symm e)] using this
theorem Mem.ne {C : String} {a0 : Array Value} {k : Nat} {A : List (List Int32)} (M : Mem Z n0 h ps A) (E : Exa Z h b C) (wi : (Jvm.Cond.instantiable C k).before a0 Z = true) (q : i < A.length) : b ≠ ps i := by
 obtain ⟨c, A, -⟩ := (M.1 i q).1
 exact ne_arr E wi A
theorem Mem.wrO {C : String} {a0 : Array Value} {k sl : Nat} {v : Value} {A : List (List Int32)} (M : Mem Z n0 h ps A) (E : Exa Z h b C) (wi : (Jvm.Cond.instantiable C k).before a0 Z = true) (W : Wr h h' b sl v) : Mem Z n0 h' ps A :=
 ⟨fun i q => ⟨(M.1 i q).1.other W (Ne.symm (M.ne E wi q)), (M.1 i q).2⟩, M.2⟩
def psL (l : List Addr) (i : Nat) : Addr := l.getD i 0
def psX (ps : Nat → Addr) (n : Nat) (l : List Addr) (i : Nat) : Addr := if i < n then ps i else l.getD (i - n) 0
theorem Mem.snoc {A : List (List Int32)} {ps' : Nat → Addr} (M : Mem Z n0 h ps A) (E : Ext h h') (F : IA Z h' a l) (g : a = h.size) (hn : n0 ≤ h.size) (q : ∀ i, i < A.length → ps' i = ps i) (q' : ps' A.length = a) : Mem Z n0 h' ps' (A ++ [l]) := by
 have lt : ∀ i, i < A.length → ps i < a := fun i z => g ▸ (M.1 i z).1.lt
 refine ⟨fun i z => ?_, fun i k z y e => ?_⟩
 ·rcases Nat.lt_or_ge i A.length with c | c
  ·rw [q i c, List.getD_eq_getElem?_getD, List.getElem?_append_left c, ← List.getD_eq_getElem?_getD]
   exact ⟨(M.1 i c).1.ext E, (M.1 i c).2⟩
  ·have : i = A.length := by simp at z; omega
   subst this
   rw [q']
   refine ⟨?_, g ▸ hn⟩
   simpa [List.getD_eq_getElem?_getD] using F
 ·rcases Nat.lt_or_ge i A.length with c | c <;> rcases Nat.lt_or_ge k A.length with d | d
  ·rw [q i c, q k d] at e; exact M.2 i k c d e
  ·have : k = A.length := by simp at y; omega
   subst this; rw [q i c, q'] at e; exact absurd (lt i c) (e ▸ Nat.lt_irrefl _)
  ·have : i = A.length := by simp at z; omega
   subst this; rw [q k d, q'] at e; exact absurd (lt k d) (e ▸ Nat.lt_irrefl _)
  ·simp at z y; omega
theorem Mem.keep {A : List (List Int32)} (M : Mem Z n0 h ps A) (hi : i < A.length) (K : Keep h h' [ps i]) (F : IA Z h' (ps i) l) : Mem Z n0 h' ps (A.set i l) := by
 refine ⟨fun k q => ?_, fun k m q r => M.2 k m (by simpa using q) (by simpa using r)⟩
 have q' : k < A.length := by simpa using q
 by_cases e : k = i
 ·subst e
  refine ⟨?_, (M.1 k q').2⟩
  simpa [List.getD_eq_getElem?_getD, q'] using F
 ·refine ⟨?_, (M.1 k q').2⟩
  have := (M.1 k q').1.keep K (ninS (fun z => e (M.2 k i q' hi z)) nin0)
  simpa [List.getD_eq_getElem?_getD, List.getElem?_set_ne (Ne.symm e)] using this
end Own
def WC (Z : State) (n0 : Nat) (h : Heap) (ps : Nat → Addr) (k : Nat) (σ : St) : Prop := Mem Z n0 h ps σ.1 ∧ σ.1.length = k
section Own3
variable {Z : State} {h h' : Heap} {a b : Addr} {l : List Addr} {l0 : List Int32} {n0 n k : Nat} {ps : Nat → Addr} {σ σ' τ : St} {i : Nat} {j x w : Int32}
theorem WC.ext (W : WC Z n0 h ps k σ) (E : Ext h h') : WC Z n0 h' ps k σ := ⟨W.1.ext E, W.2⟩
theorem WC.rd (W : WC Z n0 h ps k σ) (c : rdA σ i j = some w) : ∃ cl : Cell, Arr Z h (ps i) cl .int ∧ ¬ (j < 0 ∨ cl.slots.size ≤ j.toNatClampNeg) ∧ cl.slots[j.toNatClampNeg]? = some (.int w) := W.1.rd c
theorem WC.wr (W : WC Z n0 h ps k σ) (c : wrA σ i j x = some σ') : ∃ cl : Cell, Arr Z h (ps i) cl .int ∧ ¬ (j < 0 ∨ cl.slots.size ≤ j.toNatClampNeg) ∧ n0 ≤ ps i ∧ ∀ h', Wr h h' (ps i) j.toNatClampNeg (.int x) → WC Z n0 h' ps k σ' := by
 obtain ⟨cl, A, h1, h2, -, h4⟩ := W.1.wr c
 have hlen : σ'.1.length = k := by obtain ⟨-, -, -, rfl⟩ := wrA_spec c; simpa using W.2
 exact ⟨cl, A, h1, h2, fun h' q => ⟨h4 h' q, hlen⟩⟩
theorem WC.at (W : WC Z n0 h ps k σ) (q : i < k) : IA Z h (ps i) (arr σ i) := (W.1.1 i (W.2 ▸ q)).1
theorem WC.len (W : WC Z n0 h ps k σ) (q : i < k) : ∃ cl : Cell, Arr Z h (ps i) cl .int ∧ cl.slots.size.toInt32 = lenA σ i := (W.at q).len
theorem WC.wrO {C : String} {a0 : Array Value} {m sl : Nat} {v : Value} (W : WC Z n0 h ps k σ) (E : Exa Z h b C) (wi : (Jvm.Cond.instantiable C m).before a0 Z = true) (w : Wr h h' b sl v) : WC Z n0 h' ps k σ := ⟨W.1.wrO E wi w, W.2⟩
theorem WC.snocX (W : WC Z n0 h (psX ps n l) (n + l.length) σ) (E : Ext h h') (F : IA Z h' a l0) (g : a = h.size) (hn : n0 ≤ h.size) : WC Z n0 h' (psX ps n (l ++ [a])) (n + l.length + 1) (σ.1 ++ [l0], σ.2) := by
 refine ⟨W.1.snoc E F g hn (fun i q => ?_) ?_, by simp [W.2]⟩
 ·rw [W.2] at q
  unfold psX; split
  ·rfl
  ·have : i - n < l.length := by omega
   simp [List.getD_eq_getElem?_getD, List.getElem?_append_left this]
 ·rw [W.2]; unfold psX
  rw [if_neg (by omega)]
  simp [List.getD_eq_getElem?_getD]
theorem WC.one (W : WC Z n0 h ps k σ) (hi : i < k) : WC Z n0 h (psX (fun _ => 0) 0 [ps i]) 1 ([arr σ i], []) :=
 ⟨⟨fun m q => by
  have : m = 0 := by simpa using q
  subst this
  exact ⟨W.at hi, (W.1.1 i (W.2 ▸ hi)).2⟩, fun m p q r _ => by simp at q r; omega⟩, rfl⟩
theorem WC.keep (W : WC Z n0 h ps k σ) (hi : i < k) (K : Keep h h' [ps i]) (V : WC Z n0 h' (psX (fun _ => 0) 0 [ps i]) 1 τ) : WC Z n0 h' ps k (σ.1.set i (arr τ 0), σ.2) :=
 ⟨W.1.keep (W.2 ▸ hi) K (V.at (i := 0) (by decide)), by simpa using W.2⟩
end Own3
theorem WC.toX {Z : State} {h : Heap} {n0 k : Nat} {ps : Nat → Addr} {σ : St} (W : WC Z n0 h ps k σ) : WC Z n0 h (psX ps k []) k σ := by
 have e : ∀ i, i < σ.1.length → psX ps k [] i = ps i := fun i q => by unfold psX; rw [if_pos (W.2 ▸ q)]
 exact ⟨⟨fun i q => by rw [e i q]; exact W.1.1 i q, fun i j q r z => W.1.2 i j q r (by rwa [e i q, e j r] at z)⟩, W.2⟩
theorem WC.nil {Z : State} {h : Heap} {n0 : Nat} {ps : Nat → Addr} : WC Z n0 h ps 0 ([], []) := ⟨⟨fun i q => absurd q (Nat.not_lt_zero _), fun i j q => absurd q (Nat.not_lt_zero _)⟩, rfl⟩
def bitI (m i : Int32) : Int32 := ((m.toUInt32 >>> (i &&& 31).toUInt32).toInt32) &&& 1
def belI (m i s : Int32) : Int32 := if i < s then bitI m i else 0
section Steps
variable {tb : Tables} [Ours tb] {e : Env} {below : List Frame} {T target : State} {m : MethodId} {c : Code} {pc pc' : Nat} {L l' : Array Slot} {S : List Value} {x y v : Int32} {w z : Value} {i o : Int}
theorem s_iloadN (h : At T m c below) (hx : tb.exec = Jvm.exec) {k : Fin 4} (hd : decode c.code pc = .ok (.iload_n k, 1)) (hl : L[k.val]? = some (iv v)) (hr : Steps tb e below (T.setTop (mkF m (pc + 1) L (.int v :: S))) target) : Steps tb e below (T.setTop (mkF m pc L (S))) target := XS.iloadN h hx rfl hd hl hr
theorem s_aloadN (h : At T m c below) (hx : tb.exec = Jvm.exec) {k : Fin 4} (hd : decode c.code pc = .ok (.aload_n k, 1)) (hl : L[k.val]? = some (.val w)) (hv : w.isRef = true) (hr : Steps tb e below (T.setTop (mkF m (pc + 1) L (w :: S))) target) : Steps tb e below (T.setTop (mkF m pc L (S))) target := XS.aloadN h hx rfl hd hl hv hr
theorem s_istoreN (h : At T m c below) (hx : tb.exec = Jvm.exec) {k : Fin 4} (hd : decode c.code pc = .ok (.istore_n k, 1)) (hl : storeLocals L k.val (.int x) = some l') (hr : Steps tb e below (T.setTop (mkF m (pc + 1) l' (S))) target) : Steps tb e below (T.setTop (mkF m pc L (.int x :: S))) target := XS.istoreN h hx rfl hd rfl hl hr
theorem s_astoreN (h : At T m c below) (hx : tb.exec = Jvm.exec) {k : Fin 4} (hd : decode c.code pc = .ok (.astore_n k, 1)) (hv : w.isRef = true) (hl : storeLocals L k.val w = some l') (hr : Steps tb e below (T.setTop (mkF m (pc + 1) l' (S))) target) : Steps tb e below (T.setTop (mkF m pc L (w :: S))) target := XS.astoreN h hx rfl hd rfl hv hl hr
theorem s_iload (h : At T m c below) (hx : tb.exec = Jvm.exec) {k : Nat} (hd : decode c.code pc = .ok (.iload k, 2)) (hl : L[k]? = some (iv v)) (hr : Steps tb e below (T.setTop (mkF m (pc + 2) L (.int v :: S))) target) : Steps tb e below (T.setTop (mkF m pc L (S))) target := XS.iload h hx rfl hd hl hr
theorem s_aload (h : At T m c below) (hx : tb.exec = Jvm.exec) {k : Nat} (hd : decode c.code pc = .ok (.aload k, 2)) (hl : L[k]? = some (.val w)) (hv : w.isRef = true) (hr : Steps tb e below (T.setTop (mkF m (pc + 2) L (w :: S))) target) : Steps tb e below (T.setTop (mkF m pc L (S))) target := XS.aload h hx rfl hd hl hv hr
theorem s_istore (h : At T m c below) (hx : tb.exec = Jvm.exec) {k : Nat} (hd : decode c.code pc = .ok (.istore k, 2)) (hl : storeLocals L k (.int x) = some l') (hr : Steps tb e below (T.setTop (mkF m (pc + 2) l' (S))) target) : Steps tb e below (T.setTop (mkF m pc L (.int x :: S))) target := XS.istore h hx rfl hd rfl hl hr
theorem s_astore (h : At T m c below) (hx : tb.exec = Jvm.exec) {k : Nat} (hd : decode c.code pc = .ok (.astore k, 2)) (hv : w.isRef = true) (hl : storeLocals L k w = some l') (hr : Steps tb e below (T.setTop (mkF m (pc + 2) l' (S))) target) : Steps tb e below (T.setTop (mkF m pc L (w :: S))) target := XS.astore h hx rfl hd rfl hv hl hr
theorem s_iconst (h : At T m c below) (hx : tb.exec = Jvm.exec) (hd : decode c.code pc = .ok (.iconst i, 1)) (hv : Int32.ofInt i = x) (hr : Steps tb e below (T.setTop (mkF m (pc + 1) L (.int x :: S))) target) : Steps tb e below (T.setTop (mkF m pc L (S))) target := by subst hv; exact XS.iconst h hx rfl hd hr
theorem s_bipush (h : At T m c below) (hx : tb.exec = Jvm.exec) (hd : decode c.code pc = .ok (.bipush i, 2)) (hv : (Int8.ofInt i).toInt32 = x) (hr : Steps tb e below (T.setTop (mkF m (pc + 2) L (.int x :: S))) target) : Steps tb e below (T.setTop (mkF m pc L (S))) target := by subst hv; exact XS.bipush h hx rfl hd hr
theorem s_sipush (h : At T m c below) (hx : tb.exec = Jvm.exec) (hd : decode c.code pc = .ok (.sipush i, 3)) (hv : (Int16.ofInt i).toInt32 = x) (hr : Steps tb e below (T.setTop (mkF m (pc + 3) L (.int x :: S))) target) : Steps tb e below (T.setTop (mkF m pc L (S))) target := by subst hv; exact XS.sipush h hx rfl hd hr
theorem s_aconstNull (h : At T m c below) (hx : tb.exec = Jvm.exec) (hd : decode c.code pc = .ok (.aconst_null, 1)) (hr : Steps tb e below (T.setTop (mkF m (pc + 1) L (.null :: S))) target) : Steps tb e below (T.setTop (mkF m pc L (S))) target := XS.aconstNull h hx rfl hd hr
theorem s_iadd (h : At T m c below) (hx : tb.exec = Jvm.exec) (hd : decode c.code pc = .ok (.iadd, 1)) (hr : Steps tb e below (T.setTop (mkF m (pc + 1) L (.int (x + y) :: S))) target) : Steps tb e below (T.setTop (mkF m pc L (.int y :: .int x :: S))) target := XS.iadd h hx rfl hd rfl hr
theorem s_iaddE (h : At T m c below) (hx : tb.exec = Jvm.exec) (hd : decode c.code pc = .ok (.iadd, 1)) (hv : some (x + y) = some v) (hr : Steps tb e below (T.setTop (mkF m (pc + 1) L (.int v :: S))) target) : Steps tb e below (T.setTop (mkF m pc L (.int y :: .int x :: S))) target := by cases hv; exact s_iadd h hx hd hr
theorem s_isub (h : At T m c below) (hx : tb.exec = Jvm.exec) (hd : decode c.code pc = .ok (.isub, 1)) (hr : Steps tb e below (T.setTop (mkF m (pc + 1) L (.int (x - y) :: S))) target) : Steps tb e below (T.setTop (mkF m pc L (.int y :: .int x :: S))) target := XS.isub h hx rfl hd rfl hr
theorem s_imul (h : At T m c below) (hx : tb.exec = Jvm.exec) (hd : decode c.code pc = .ok (.imul, 1)) (hr : Steps tb e below (T.setTop (mkF m (pc + 1) L (.int (x * y) :: S))) target) : Steps tb e below (T.setTop (mkF m pc L (.int y :: .int x :: S))) target := XS.imul h hx rfl hd rfl hr
theorem s_iand (h : At T m c below) (hx : tb.exec = Jvm.exec) (hd : decode c.code pc = .ok (.iand, 1)) (hr : Steps tb e below (T.setTop (mkF m (pc + 1) L (.int (x &&& y) :: S))) target) : Steps tb e below (T.setTop (mkF m pc L (.int y :: .int x :: S))) target := XS.iand h hx rfl hd rfl hr
theorem s_ishl (h : At T m c below) (hx : tb.exec = Jvm.exec) (hd : decode c.code pc = .ok (.ishl, 1)) (hr : Steps tb e below (T.setTop (mkF m (pc + 1) L (.int (x <<< (y &&& 31)) :: S))) target) : Steps tb e below (T.setTop (mkF m pc L (.int y :: .int x :: S))) target := XS.ishl h hx rfl hd rfl hr
theorem s_iushr (h : At T m c below) (hx : tb.exec = Jvm.exec) (hd : decode c.code pc = .ok (.iushr, 1)) (hr : Steps tb e below (T.setTop (mkF m (pc + 1) L (.int ((x.toUInt32 >>> (y &&& 31).toUInt32).toInt32) :: S))) target) : Steps tb e below (T.setTop (mkF m pc L (.int y :: .int x :: S))) target := XS.iushr h hx rfl hd rfl hr
theorem s_dup (h : At T m c below) (hx : tb.exec = Jvm.exec) (hd : decode c.code pc = .ok (.dup, 1)) (hc : w.category = 1) (hr : Steps tb e below (T.setTop (mkF m (pc + 1) L (w :: w :: S))) target) : Steps tb e below (T.setTop (mkF m pc L (w :: S))) target := XS.dup h hx rfl hd rfl hc hr
theorem s_pop (h : At T m c below) (hx : tb.exec = Jvm.exec) (hd : decode c.code pc = .ok (.pop, 1)) (hc : w.category = 1) (hr : Steps tb e below (T.setTop (mkF m (pc + 1) L (S))) target) : Steps tb e below (T.setTop (mkF m pc L (w :: S))) target := XS.pop h hx rfl hd rfl hc hr
theorem s_dup2 (h : At T m c below) (hx : tb.exec = Jvm.exec) (hd : decode c.code pc = .ok (.dup2, 1)) (hc : w.category = 1) (hc' : z.category = 1) (hr : Steps tb e below (T.setTop (mkF m (pc + 1) L (w :: z :: w :: z :: S))) target) : Steps tb e below (T.setTop (mkF m pc L (w :: z :: S))) target := XT.dup2 h hx rfl hd rfl hc hc' hr
theorem s_iinc (h : At T m c below) (hx : tb.exec = Jvm.exec) {k : Nat} (hd : decode c.code pc = .ok (.iinc k i, 3)) (hl : L[k]? = some (iv x)) (hl' : storeLocals L k (.int (x + Int32.ofInt i)) = some l') (hr : Steps tb e below (T.setTop (mkF m (pc + 3) l' (S))) target) : Steps tb e below (T.setTop (mkF m pc L (S))) target := XS.iinc h hx rfl hd hl hl' hr
theorem s_goto (h : At T m c below) (hx : tb.exec = Jvm.exec) (hd : decode c.code pc = .ok (.goto o, 3)) (ho : 0 ≤ (pc : Int) + o) (hp : ((pc : Int) + o).toNat = pc') (hr : Steps tb e below (T.setTop (mkF m pc' L (S))) target) : Steps tb e below (T.setTop (mkF m pc L (S))) target := XS.goto h hx rfl rfl hd ho hp hr
theorem s_ifYes (h : At T m c below) (hx : tb.exec = Jvm.exec) {cd : ClassFile.Cond} (hd : decode c.code pc = .ok (.ifCond cd o, 3)) (hc : ifCond.holds cd x = true) (ho : 0 ≤ (pc : Int) + o) (hp : ((pc : Int) + o).toNat = pc') (hr : Steps tb e below (T.setTop (mkF m pc' L (S))) target) : Steps tb e below (T.setTop (mkF m pc L (.int x :: S))) target := XS.ifYes h hx rfl rfl hd rfl hc ho hp hr
theorem s_ifNo (h : At T m c below) (hx : tb.exec = Jvm.exec) {cd : ClassFile.Cond} (hd : decode c.code pc = .ok (.ifCond cd o, 3)) (hc : ifCond.holds cd x = false) (hr : Steps tb e below (T.setTop (mkF m (pc + 3) L (S))) target) : Steps tb e below (T.setTop (mkF m pc L (.int x :: S))) target := XS.ifNo h hx rfl hd rfl hc hr
theorem s_icmpYes (h : At T m c below) (hx : tb.exec = Jvm.exec) {cd : ClassFile.Cond} (hd : decode c.code pc = .ok (.if_icmp cd o, 3)) (hc : if_icmp.holds cd x y = true) (ho : 0 ≤ (pc : Int) + o) (hp : ((pc : Int) + o).toNat = pc') (hr : Steps tb e below (T.setTop (mkF m pc' L (S))) target) : Steps tb e below (T.setTop (mkF m pc L (.int y :: .int x :: S))) target := XS.icmpYes h hx rfl rfl hd rfl hc ho hp hr
theorem s_icmpNo (h : At T m c below) (hx : tb.exec = Jvm.exec) {cd : ClassFile.Cond} (hd : decode c.code pc = .ok (.if_icmp cd o, 3)) (hc : if_icmp.holds cd x y = false) (hr : Steps tb e below (T.setTop (mkF m (pc + 3) L (S))) target) : Steps tb e below (T.setTop (mkF m pc L (.int y :: .int x :: S))) target := XS.icmpNo h hx rfl hd rfl hc hr
end Steps
def Obs (Z : State) (h : Heap) (b d : Addr) (ps : Nat → Addr) (I : List Int32) : Prop := I.length = 6 ∧ Exa Z h b BLn ∧ Exa Z h d BSn ∧ Fld Z h b BLn "states" "[I" (.ref (ps 1)) ∧ Fld Z h b BLn "placeOf" "[I" (.ref (ps 5)) ∧ Fld Z h b BLn "blockOf" "[I" (.ref (ps 2)) ∧ Fld Z h b BLn "marked" "[I" (.ref (ps 6)) ∧ Fld Z h b BLn "start" "[I" (.ref (ps 3)) ∧ Fld Z h b BLn "end" "[I" (.ref (ps 4)) ∧ Fld Z h b BLn "markedEnd" "[I" (.ref (ps 7)) ∧ Fld Z h b BLn "touched" "[I" (.ref (ps 8)) ∧ Fld Z h b BLn "markedCount" "I" (.int (I.getD 0 0)) ∧ Fld Z h b BLn "touchedCount" "I" (.int (I.getD 1 0)) ∧ Fld Z h b BLn "blockCount" "I" (.int (I.getD 2 0)) ∧ Fld Z h d BSn "blocks" "Lcom/example/states_into_classes/statesintoclasses/engine/Blocks;" (.ref b) ∧ Fld Z h d BSn "secondStart" "I" (.int (I.getD 3 0)) ∧ Fld Z h d BSn "next" "[I" (.ref (ps 9)) ∧ Fld Z h d BSn "previous" "[I" (.ref (ps 10)) ∧ Fld Z h d BSn "first" "[I" (.ref (ps 11)) ∧ Fld Z h d BSn "firstCount" "[I" (.ref (ps 12)) ∧ Fld Z h d BSn "unevenCount" "I" (.int (I.getD 4 0)) ∧ Fld Z h d BSn "bucket" "[I" (.ref (ps 13)) ∧ Fld Z h d BSn "nextInBucket" "[I" (.ref (ps 14)) ∧ Fld Z h d BSn "previousInBucket" "[I" (.ref (ps 15)) ∧ Fld Z h d BSn "highest" "I" (.int (I.getD 5 0))
def Wd (Z : State) (n0 : Nat) (h : Heap) (b d : Addr) (ps : Nat → Addr) (σ : St) : Prop := Mem Z n0 h ps σ.1 ∧ Obs Z h b d ps σ.2 ∧ n0 ≤ b ∧ n0 ≤ d ∧ σ.1.length = 16
def QW (Z : State) (n0 : Nat) (b d : Addr) (ps : Nat → Addr) (σ : St) (w : Option Value) (v : Option Value) (h : Heap) (L : List Loc) : Prop := v = w ∧ Fr n0 L ∧ Wd Z n0 h b d ps σ
section Own2
variable {Z : State} {h h' : Heap} {a b d : Addr} {n0 : Nat} {ps : Nat → Addr} {σ σ' : St} {i : Nat} {j x w : Int32} {a0 : Array Value} {I : List Int32}
theorem own_getD_ne {k m : Nat} (q : k ≠ m) : (I.set k x).getD m 0 = I.getD m 0 := by simp [List.getD_eq_getElem?_getD, List.getElem?_set_ne q]
theorem own_getD_eq {k : Nat} (q : k < I.length) : (I.set k x).getD k 0 = x := by simp [List.getD_eq_getElem?_getD, q]
theorem Obs.wrA (hw : ∀ d ∈ tables_1, d.before a0 Z = true) {c : Cell} {sl : Nat} {v : Value} (O : Obs Z h b d ps I) (A : Arr Z h a c .int) (W : Wr h h' a sl v) : Obs Z h' b d ps I := by
 obtain ⟨hl, Eb, Ed, F0, F1, F2, F3, F4, F5, F6, F7, F8, F9, F10, F11, F12, F13, F14, F15, F16, F17, F18, F19, F20, F21⟩ := O
 have nb : b ≠ a := ne_arr Eb (hw _ (wd 2 rfl)) A
 have nd : d ≠ a := ne_arr Ed (hw _ (wd 56 rfl)) A
 exact ⟨hl, Eb.wr W, Ed.wr W, F0.other W (Or.inl nb), F1.other W (Or.inl nb), F2.other W (Or.inl nb), F3.other W (Or.inl nb), F4.other W (Or.inl nb), F5.other W (Or.inl nb), F6.other W (Or.inl nb), F7.other W (Or.inl nb), F8.other W (Or.inl nb), F9.other W (Or.inl nb), F10.other W (Or.inl nb), F11.other W (Or.inl nd), F12.other W (Or.inl nd), F13.other W (Or.inl nd), F14.other W (Or.inl nd), F15.other W (Or.inl nd), F16.other W (Or.inl nd), F17.other W (Or.inl nd), F18.other W (Or.inl nd), F19.other W (Or.inl nd), F20.other W (Or.inl nd), F21.other W (Or.inl nd)⟩
theorem Obs.put_b_start (hw : ∀ d ∈ tables_1, d.before a0 Z = true) (O : Obs Z h b d ps I) (W : Wr h h' b (Jvm.RoadKit.slotOf Z BLn "start" "[I") (.ref (ps 3))) : Obs Z h' b d ps I := by
 obtain ⟨hl, Eb, Ed, F0, F1, F2, F3, F4, F5, F6, F7, F8, F9, F10, F11, F12, F13, F14, F15, F16, F17, F18, F19, F20, F21⟩ := O
 have nn : d ≠ b := ne_exa Ed Eb (by decide)
 exact ⟨by simpa using hl, Eb.wr W, Ed.wr W, foaa W F0 (Or.inr (hw _ (wd 29 rfl))) (Or.inl (hw _ (wd 46 rfl))) (by decide), foaa W F1 (Or.inr (hw _ (wd 40 rfl))) (Or.inl (hw _ (wd 46 rfl))) (by decide), foaa W F2 (Or.inr (hw _ (wd 42 rfl))) (Or.inl (hw _ (wd 46 rfl))) (by decide), foaa W F3 (Or.inr (hw _ (wd 44 rfl))) (Or.inl (hw _ (wd 46 rfl))) (by decide), Fld.same W F4, foaa W F5 (Or.inl (hw _ (wd 48 rfl))) (Or.inl (hw _ (wd 46 rfl))) (by decide), foaa W F6 (Or.inl (hw _ (wd 50 rfl))) (Or.inl (hw _ (wd 46 rfl))) (by decide), foaa W F7 (Or.inl (hw _ (wd 52 rfl))) (Or.inl (hw _ (wd 46 rfl))) (by decide), foia W F8 (Or.inl (hw _ (wd 119 rfl))) (Or.inl (hw _ (wd 46 rfl))) (by decide), foia W F9 (Or.inl (hw _ (wd 117 rfl))) (Or.inl (hw _ (wd 46 rfl))) (by decide), foia W F10 (Or.inl (hw _ (wd 54 rfl))) (Or.inl (hw _ (wd 46 rfl))) (by decide), F11.other W (Or.inl nn), F12.other W (Or.inl nn), F13.other W (Or.inl nn), F14.other W (Or.inl nn), F15.other W (Or.inl nn), F16.other W (Or.inl nn), F17.other W (Or.inl nn), F18.other W (Or.inl nn), F19.other W (Or.inl nn), F20.other W (Or.inl nn), F21.other W (Or.inl nn)⟩
theorem pt_b_start (hw : ∀ d ∈ tables_1, d.before a0 Z = true) (W : Wd Z n0 h b d ps σ) (q : Wr h h' b (Jvm.RoadKit.slotOf Z BLn "start" "[I") (.ref (ps 3))) : Wd Z n0 h' b d ps σ := ⟨W.1.wrO (W.2.1.2.1) (hw _ (wd 2 rfl)) q, W.2.1.put_b_start hw q, W.2.2⟩
theorem Obs.put_b_end (hw : ∀ d ∈ tables_1, d.before a0 Z = true) (O : Obs Z h b d ps I) (W : Wr h h' b (Jvm.RoadKit.slotOf Z BLn "end" "[I") (.ref (ps 4))) : Obs Z h' b d ps I := by
 obtain ⟨hl, Eb, Ed, F0, F1, F2, F3, F4, F5, F6, F7, F8, F9, F10, F11, F12, F13, F14, F15, F16, F17, F18, F19, F20, F21⟩ := O
 have nn : d ≠ b := ne_exa Ed Eb (by decide)
 exact ⟨by simpa using hl, Eb.wr W, Ed.wr W, foaa W F0 (Or.inr (hw _ (wd 29 rfl))) (Or.inl (hw _ (wd 48 rfl))) (by decide), foaa W F1 (Or.inr (hw _ (wd 40 rfl))) (Or.inl (hw _ (wd 48 rfl))) (by decide), foaa W F2 (Or.inr (hw _ (wd 42 rfl))) (Or.inl (hw _ (wd 48 rfl))) (by decide), foaa W F3 (Or.inr (hw _ (wd 44 rfl))) (Or.inl (hw _ (wd 48 rfl))) (by decide), foaa W F4 (Or.inl (hw _ (wd 46 rfl))) (Or.inl (hw _ (wd 48 rfl))) (by decide), Fld.same W F5, foaa W F6 (Or.inl (hw _ (wd 50 rfl))) (Or.inl (hw _ (wd 48 rfl))) (by decide), foaa W F7 (Or.inl (hw _ (wd 52 rfl))) (Or.inl (hw _ (wd 48 rfl))) (by decide), foia W F8 (Or.inl (hw _ (wd 119 rfl))) (Or.inl (hw _ (wd 48 rfl))) (by decide), foia W F9 (Or.inl (hw _ (wd 117 rfl))) (Or.inl (hw _ (wd 48 rfl))) (by decide), foia W F10 (Or.inl (hw _ (wd 54 rfl))) (Or.inl (hw _ (wd 48 rfl))) (by decide), F11.other W (Or.inl nn), F12.other W (Or.inl nn), F13.other W (Or.inl nn), F14.other W (Or.inl nn), F15.other W (Or.inl nn), F16.other W (Or.inl nn), F17.other W (Or.inl nn), F18.other W (Or.inl nn), F19.other W (Or.inl nn), F20.other W (Or.inl nn), F21.other W (Or.inl nn)⟩
theorem pt_b_end (hw : ∀ d ∈ tables_1, d.before a0 Z = true) (W : Wd Z n0 h b d ps σ) (q : Wr h h' b (Jvm.RoadKit.slotOf Z BLn "end" "[I") (.ref (ps 4))) : Wd Z n0 h' b d ps σ := ⟨W.1.wrO (W.2.1.2.1) (hw _ (wd 2 rfl)) q, W.2.1.put_b_end hw q, W.2.2⟩
theorem Obs.put_b_markedEnd (hw : ∀ d ∈ tables_1, d.before a0 Z = true) (O : Obs Z h b d ps I) (W : Wr h h' b (Jvm.RoadKit.slotOf Z BLn "markedEnd" "[I") (.ref (ps 7))) : Obs Z h' b d ps I := by
 obtain ⟨hl, Eb, Ed, F0, F1, F2, F3, F4, F5, F6, F7, F8, F9, F10, F11, F12, F13, F14, F15, F16, F17, F18, F19, F20, F21⟩ := O
 have nn : d ≠ b := ne_exa Ed Eb (by decide)
 exact ⟨by simpa using hl, Eb.wr W, Ed.wr W, foaa W F0 (Or.inr (hw _ (wd 29 rfl))) (Or.inl (hw _ (wd 50 rfl))) (by decide), foaa W F1 (Or.inr (hw _ (wd 40 rfl))) (Or.inl (hw _ (wd 50 rfl))) (by decide), foaa W F2 (Or.inr (hw _ (wd 42 rfl))) (Or.inl (hw _ (wd 50 rfl))) (by decide), foaa W F3 (Or.inr (hw _ (wd 44 rfl))) (Or.inl (hw _ (wd 50 rfl))) (by decide), foaa W F4 (Or.inl (hw _ (wd 46 rfl))) (Or.inl (hw _ (wd 50 rfl))) (by decide), foaa W F5 (Or.inl (hw _ (wd 48 rfl))) (Or.inl (hw _ (wd 50 rfl))) (by decide), Fld.same W F6, foaa W F7 (Or.inl (hw _ (wd 52 rfl))) (Or.inl (hw _ (wd 50 rfl))) (by decide), foia W F8 (Or.inl (hw _ (wd 119 rfl))) (Or.inl (hw _ (wd 50 rfl))) (by decide), foia W F9 (Or.inl (hw _ (wd 117 rfl))) (Or.inl (hw _ (wd 50 rfl))) (by decide), foia W F10 (Or.inl (hw _ (wd 54 rfl))) (Or.inl (hw _ (wd 50 rfl))) (by decide), F11.other W (Or.inl nn), F12.other W (Or.inl nn), F13.other W (Or.inl nn), F14.other W (Or.inl nn), F15.other W (Or.inl nn), F16.other W (Or.inl nn), F17.other W (Or.inl nn), F18.other W (Or.inl nn), F19.other W (Or.inl nn), F20.other W (Or.inl nn), F21.other W (Or.inl nn)⟩
theorem pt_b_markedEnd (hw : ∀ d ∈ tables_1, d.before a0 Z = true) (W : Wd Z n0 h b d ps σ) (q : Wr h h' b (Jvm.RoadKit.slotOf Z BLn "markedEnd" "[I") (.ref (ps 7))) : Wd Z n0 h' b d ps σ := ⟨W.1.wrO (W.2.1.2.1) (hw _ (wd 2 rfl)) q, W.2.1.put_b_markedEnd hw q, W.2.2⟩
theorem Obs.put_b_touched (hw : ∀ d ∈ tables_1, d.before a0 Z = true) (O : Obs Z h b d ps I) (W : Wr h h' b (Jvm.RoadKit.slotOf Z BLn "touched" "[I") (.ref (ps 8))) : Obs Z h' b d ps I := by
 obtain ⟨hl, Eb, Ed, F0, F1, F2, F3, F4, F5, F6, F7, F8, F9, F10, F11, F12, F13, F14, F15, F16, F17, F18, F19, F20, F21⟩ := O
 have nn : d ≠ b := ne_exa Ed Eb (by decide)
 exact ⟨by simpa using hl, Eb.wr W, Ed.wr W, foaa W F0 (Or.inr (hw _ (wd 29 rfl))) (Or.inl (hw _ (wd 52 rfl))) (by decide), foaa W F1 (Or.inr (hw _ (wd 40 rfl))) (Or.inl (hw _ (wd 52 rfl))) (by decide), foaa W F2 (Or.inr (hw _ (wd 42 rfl))) (Or.inl (hw _ (wd 52 rfl))) (by decide), foaa W F3 (Or.inr (hw _ (wd 44 rfl))) (Or.inl (hw _ (wd 52 rfl))) (by decide), foaa W F4 (Or.inl (hw _ (wd 46 rfl))) (Or.inl (hw _ (wd 52 rfl))) (by decide), foaa W F5 (Or.inl (hw _ (wd 48 rfl))) (Or.inl (hw _ (wd 52 rfl))) (by decide), foaa W F6 (Or.inl (hw _ (wd 50 rfl))) (Or.inl (hw _ (wd 52 rfl))) (by decide), Fld.same W F7, foia W F8 (Or.inl (hw _ (wd 119 rfl))) (Or.inl (hw _ (wd 52 rfl))) (by decide), foia W F9 (Or.inl (hw _ (wd 117 rfl))) (Or.inl (hw _ (wd 52 rfl))) (by decide), foia W F10 (Or.inl (hw _ (wd 54 rfl))) (Or.inl (hw _ (wd 52 rfl))) (by decide), F11.other W (Or.inl nn), F12.other W (Or.inl nn), F13.other W (Or.inl nn), F14.other W (Or.inl nn), F15.other W (Or.inl nn), F16.other W (Or.inl nn), F17.other W (Or.inl nn), F18.other W (Or.inl nn), F19.other W (Or.inl nn), F20.other W (Or.inl nn), F21.other W (Or.inl nn)⟩
theorem pt_b_touched (hw : ∀ d ∈ tables_1, d.before a0 Z = true) (W : Wd Z n0 h b d ps σ) (q : Wr h h' b (Jvm.RoadKit.slotOf Z BLn "touched" "[I") (.ref (ps 8))) : Wd Z n0 h' b d ps σ := ⟨W.1.wrO (W.2.1.2.1) (hw _ (wd 2 rfl)) q, W.2.1.put_b_touched hw q, W.2.2⟩
theorem Obs.put_b_markedCount (hw : ∀ d ∈ tables_1, d.before a0 Z = true) (O : Obs Z h b d ps I) (W : Wr h h' b (Jvm.RoadKit.slotOf Z BLn "markedCount" "I") (.int x)) : Obs Z h' b d ps (I.set 0 x) := by
 obtain ⟨hl, Eb, Ed, F0, F1, F2, F3, F4, F5, F6, F7, F8, F9, F10, F11, F12, F13, F14, F15, F16, F17, F18, F19, F20, F21⟩ := O
 have nn : d ≠ b := ne_exa Ed Eb (by decide)
 exact ⟨by simpa using hl, Eb.wr W, Ed.wr W, foai W F0 (Or.inr (hw _ (wd 29 rfl))) (Or.inl (hw _ (wd 119 rfl))) (by decide), foai W F1 (Or.inr (hw _ (wd 40 rfl))) (Or.inl (hw _ (wd 119 rfl))) (by decide), foai W F2 (Or.inr (hw _ (wd 42 rfl))) (Or.inl (hw _ (wd 119 rfl))) (by decide), foai W F3 (Or.inr (hw _ (wd 44 rfl))) (Or.inl (hw _ (wd 119 rfl))) (by decide), foai W F4 (Or.inl (hw _ (wd 46 rfl))) (Or.inl (hw _ (wd 119 rfl))) (by decide), foai W F5 (Or.inl (hw _ (wd 48 rfl))) (Or.inl (hw _ (wd 119 rfl))) (by decide), foai W F6 (Or.inl (hw _ (wd 50 rfl))) (Or.inl (hw _ (wd 119 rfl))) (by decide), foai W F7 (Or.inl (hw _ (wd 52 rfl))) (Or.inl (hw _ (wd 119 rfl))) (by decide), (by rw [own_getD_eq (by omega)]; exact Fld.same W F8), (by rw [own_getD_ne (by decide)]; exact foii W F9 (Or.inl (hw _ (wd 117 rfl))) (Or.inl (hw _ (wd 119 rfl))) (by decide)), (by rw [own_getD_ne (by decide)]; exact foii W F10 (Or.inl (hw _ (wd 54 rfl))) (Or.inl (hw _ (wd 119 rfl))) (by decide)), F11.other W (Or.inl nn), (by rw [own_getD_ne (by decide)]; exact F12.other W (Or.inl nn)), F13.other W (Or.inl nn), F14.other W (Or.inl nn), F15.other W (Or.inl nn), F16.other W (Or.inl nn), (by rw [own_getD_ne (by decide)]; exact F17.other W (Or.inl nn)), F18.other W (Or.inl nn), F19.other W (Or.inl nn), F20.other W (Or.inl nn), (by rw [own_getD_ne (by decide)]; exact F21.other W (Or.inl nn))⟩
theorem pt_b_markedCount (hw : ∀ d ∈ tables_1, d.before a0 Z = true) (W : Wd Z n0 h b d ps σ) (q : Wr h h' b (Jvm.RoadKit.slotOf Z BLn "markedCount" "I") (.int x)) : Wd Z n0 h' b d ps (wrI σ 0 x) := ⟨W.1.wrO (W.2.1.2.1) (hw _ (wd 2 rfl)) q, W.2.1.put_b_markedCount hw q, W.2.2⟩
theorem Obs.put_b_touchedCount (hw : ∀ d ∈ tables_1, d.before a0 Z = true) (O : Obs Z h b d ps I) (W : Wr h h' b (Jvm.RoadKit.slotOf Z BLn "touchedCount" "I") (.int x)) : Obs Z h' b d ps (I.set 1 x) := by
 obtain ⟨hl, Eb, Ed, F0, F1, F2, F3, F4, F5, F6, F7, F8, F9, F10, F11, F12, F13, F14, F15, F16, F17, F18, F19, F20, F21⟩ := O
 have nn : d ≠ b := ne_exa Ed Eb (by decide)
 exact ⟨by simpa using hl, Eb.wr W, Ed.wr W, foai W F0 (Or.inr (hw _ (wd 29 rfl))) (Or.inl (hw _ (wd 117 rfl))) (by decide), foai W F1 (Or.inr (hw _ (wd 40 rfl))) (Or.inl (hw _ (wd 117 rfl))) (by decide), foai W F2 (Or.inr (hw _ (wd 42 rfl))) (Or.inl (hw _ (wd 117 rfl))) (by decide), foai W F3 (Or.inr (hw _ (wd 44 rfl))) (Or.inl (hw _ (wd 117 rfl))) (by decide), foai W F4 (Or.inl (hw _ (wd 46 rfl))) (Or.inl (hw _ (wd 117 rfl))) (by decide), foai W F5 (Or.inl (hw _ (wd 48 rfl))) (Or.inl (hw _ (wd 117 rfl))) (by decide), foai W F6 (Or.inl (hw _ (wd 50 rfl))) (Or.inl (hw _ (wd 117 rfl))) (by decide), foai W F7 (Or.inl (hw _ (wd 52 rfl))) (Or.inl (hw _ (wd 117 rfl))) (by decide), (by rw [own_getD_ne (by decide)]; exact foii W F8 (Or.inl (hw _ (wd 119 rfl))) (Or.inl (hw _ (wd 117 rfl))) (by decide)), (by rw [own_getD_eq (by omega)]; exact Fld.same W F9), (by rw [own_getD_ne (by decide)]; exact foii W F10 (Or.inl (hw _ (wd 54 rfl))) (Or.inl (hw _ (wd 117 rfl))) (by decide)), F11.other W (Or.inl nn), (by rw [own_getD_ne (by decide)]; exact F12.other W (Or.inl nn)), F13.other W (Or.inl nn), F14.other W (Or.inl nn), F15.other W (Or.inl nn), F16.other W (Or.inl nn), (by rw [own_getD_ne (by decide)]; exact F17.other W (Or.inl nn)), F18.other W (Or.inl nn), F19.other W (Or.inl nn), F20.other W (Or.inl nn), (by rw [own_getD_ne (by decide)]; exact F21.other W (Or.inl nn))⟩
theorem pt_b_touchedCount (hw : ∀ d ∈ tables_1, d.before a0 Z = true) (W : Wd Z n0 h b d ps σ) (q : Wr h h' b (Jvm.RoadKit.slotOf Z BLn "touchedCount" "I") (.int x)) : Wd Z n0 h' b d ps (wrI σ 1 x) := ⟨W.1.wrO (W.2.1.2.1) (hw _ (wd 2 rfl)) q, W.2.1.put_b_touchedCount hw q, W.2.2⟩
theorem Obs.put_b_blockCount (hw : ∀ d ∈ tables_1, d.before a0 Z = true) (O : Obs Z h b d ps I) (W : Wr h h' b (Jvm.RoadKit.slotOf Z BLn "blockCount" "I") (.int x)) : Obs Z h' b d ps (I.set 2 x) := by
 obtain ⟨hl, Eb, Ed, F0, F1, F2, F3, F4, F5, F6, F7, F8, F9, F10, F11, F12, F13, F14, F15, F16, F17, F18, F19, F20, F21⟩ := O
 have nn : d ≠ b := ne_exa Ed Eb (by decide)
 exact ⟨by simpa using hl, Eb.wr W, Ed.wr W, foai W F0 (Or.inr (hw _ (wd 29 rfl))) (Or.inl (hw _ (wd 54 rfl))) (by decide), foai W F1 (Or.inr (hw _ (wd 40 rfl))) (Or.inl (hw _ (wd 54 rfl))) (by decide), foai W F2 (Or.inr (hw _ (wd 42 rfl))) (Or.inl (hw _ (wd 54 rfl))) (by decide), foai W F3 (Or.inr (hw _ (wd 44 rfl))) (Or.inl (hw _ (wd 54 rfl))) (by decide), foai W F4 (Or.inl (hw _ (wd 46 rfl))) (Or.inl (hw _ (wd 54 rfl))) (by decide), foai W F5 (Or.inl (hw _ (wd 48 rfl))) (Or.inl (hw _ (wd 54 rfl))) (by decide), foai W F6 (Or.inl (hw _ (wd 50 rfl))) (Or.inl (hw _ (wd 54 rfl))) (by decide), foai W F7 (Or.inl (hw _ (wd 52 rfl))) (Or.inl (hw _ (wd 54 rfl))) (by decide), (by rw [own_getD_ne (by decide)]; exact foii W F8 (Or.inl (hw _ (wd 119 rfl))) (Or.inl (hw _ (wd 54 rfl))) (by decide)), (by rw [own_getD_ne (by decide)]; exact foii W F9 (Or.inl (hw _ (wd 117 rfl))) (Or.inl (hw _ (wd 54 rfl))) (by decide)), (by rw [own_getD_eq (by omega)]; exact Fld.same W F10), F11.other W (Or.inl nn), (by rw [own_getD_ne (by decide)]; exact F12.other W (Or.inl nn)), F13.other W (Or.inl nn), F14.other W (Or.inl nn), F15.other W (Or.inl nn), F16.other W (Or.inl nn), (by rw [own_getD_ne (by decide)]; exact F17.other W (Or.inl nn)), F18.other W (Or.inl nn), F19.other W (Or.inl nn), F20.other W (Or.inl nn), (by rw [own_getD_ne (by decide)]; exact F21.other W (Or.inl nn))⟩
theorem pt_b_blockCount (hw : ∀ d ∈ tables_1, d.before a0 Z = true) (W : Wd Z n0 h b d ps σ) (q : Wr h h' b (Jvm.RoadKit.slotOf Z BLn "blockCount" "I") (.int x)) : Wd Z n0 h' b d ps (wrI σ 2 x) := ⟨W.1.wrO (W.2.1.2.1) (hw _ (wd 2 rfl)) q, W.2.1.put_b_blockCount hw q, W.2.2⟩
theorem Obs.put_d_first (hw : ∀ d ∈ tables_1, d.before a0 Z = true) (O : Obs Z h b d ps I) (W : Wr h h' d (Jvm.RoadKit.slotOf Z BSn "first" "[I") (.ref (ps 11))) : Obs Z h' b d ps I := by
 obtain ⟨hl, Eb, Ed, F0, F1, F2, F3, F4, F5, F6, F7, F8, F9, F10, F11, F12, F13, F14, F15, F16, F17, F18, F19, F20, F21⟩ := O
 have nn : b ≠ d := ne_exa Eb Ed (by decide)
 exact ⟨by simpa using hl, Eb.wr W, Ed.wr W, F0.other W (Or.inl nn), F1.other W (Or.inl nn), F2.other W (Or.inl nn), F3.other W (Or.inl nn), F4.other W (Or.inl nn), F5.other W (Or.inl nn), F6.other W (Or.inl nn), F7.other W (Or.inl nn), F8.other W (Or.inl nn), F9.other W (Or.inl nn), F10.other W (Or.inl nn), F11.other W (Or.inr (slot_ne (Or.inr (hw _ (wd 70 rfl))) (Or.inl (hw _ (wd 78 rfl))) (by decide) (t := (.object BLn)) (t' := (.array .int)) (by decide) (by decide))), foia W F12 (Or.inr (hw _ (wd 72 rfl))) (Or.inl (hw _ (wd 78 rfl))) (by decide), foaa W F13 (Or.inr (hw _ (wd 74 rfl))) (Or.inl (hw _ (wd 78 rfl))) (by decide), foaa W F14 (Or.inr (hw _ (wd 76 rfl))) (Or.inl (hw _ (wd 78 rfl))) (by decide), Fld.same W F15, foaa W F16 (Or.inl (hw _ (wd 80 rfl))) (Or.inl (hw _ (wd 78 rfl))) (by decide), foia W F17 (Or.inl (hw _ (wd 95 rfl))) (Or.inl (hw _ (wd 78 rfl))) (by decide), foaa W F18 (Or.inr (hw _ (wd 82 rfl))) (Or.inl (hw _ (wd 78 rfl))) (by decide), foaa W F19 (Or.inl (hw _ (wd 84 rfl))) (Or.inl (hw _ (wd 78 rfl))) (by decide), foaa W F20 (Or.inl (hw _ (wd 86 rfl))) (Or.inl (hw _ (wd 78 rfl))) (by decide), foia W F21 (Or.inl (hw _ (wd 106 rfl))) (Or.inl (hw _ (wd 78 rfl))) (by decide)⟩
theorem pt_d_first (hw : ∀ d ∈ tables_1, d.before a0 Z = true) (W : Wd Z n0 h b d ps σ) (q : Wr h h' d (Jvm.RoadKit.slotOf Z BSn "first" "[I") (.ref (ps 11))) : Wd Z n0 h' b d ps σ := ⟨W.1.wrO (W.2.1.2.2.1) (hw _ (wd 56 rfl)) q, W.2.1.put_d_first hw q, W.2.2⟩
theorem Obs.put_d_firstCount (hw : ∀ d ∈ tables_1, d.before a0 Z = true) (O : Obs Z h b d ps I) (W : Wr h h' d (Jvm.RoadKit.slotOf Z BSn "firstCount" "[I") (.ref (ps 12))) : Obs Z h' b d ps I := by
 obtain ⟨hl, Eb, Ed, F0, F1, F2, F3, F4, F5, F6, F7, F8, F9, F10, F11, F12, F13, F14, F15, F16, F17, F18, F19, F20, F21⟩ := O
 have nn : b ≠ d := ne_exa Eb Ed (by decide)
 exact ⟨by simpa using hl, Eb.wr W, Ed.wr W, F0.other W (Or.inl nn), F1.other W (Or.inl nn), F2.other W (Or.inl nn), F3.other W (Or.inl nn), F4.other W (Or.inl nn), F5.other W (Or.inl nn), F6.other W (Or.inl nn), F7.other W (Or.inl nn), F8.other W (Or.inl nn), F9.other W (Or.inl nn), F10.other W (Or.inl nn), F11.other W (Or.inr (slot_ne (Or.inr (hw _ (wd 70 rfl))) (Or.inl (hw _ (wd 80 rfl))) (by decide) (t := (.object BLn)) (t' := (.array .int)) (by decide) (by decide))), foia W F12 (Or.inr (hw _ (wd 72 rfl))) (Or.inl (hw _ (wd 80 rfl))) (by decide), foaa W F13 (Or.inr (hw _ (wd 74 rfl))) (Or.inl (hw _ (wd 80 rfl))) (by decide), foaa W F14 (Or.inr (hw _ (wd 76 rfl))) (Or.inl (hw _ (wd 80 rfl))) (by decide), foaa W F15 (Or.inl (hw _ (wd 78 rfl))) (Or.inl (hw _ (wd 80 rfl))) (by decide), Fld.same W F16, foia W F17 (Or.inl (hw _ (wd 95 rfl))) (Or.inl (hw _ (wd 80 rfl))) (by decide), foaa W F18 (Or.inr (hw _ (wd 82 rfl))) (Or.inl (hw _ (wd 80 rfl))) (by decide), foaa W F19 (Or.inl (hw _ (wd 84 rfl))) (Or.inl (hw _ (wd 80 rfl))) (by decide), foaa W F20 (Or.inl (hw _ (wd 86 rfl))) (Or.inl (hw _ (wd 80 rfl))) (by decide), foia W F21 (Or.inl (hw _ (wd 106 rfl))) (Or.inl (hw _ (wd 80 rfl))) (by decide)⟩
theorem pt_d_firstCount (hw : ∀ d ∈ tables_1, d.before a0 Z = true) (W : Wd Z n0 h b d ps σ) (q : Wr h h' d (Jvm.RoadKit.slotOf Z BSn "firstCount" "[I") (.ref (ps 12))) : Wd Z n0 h' b d ps σ := ⟨W.1.wrO (W.2.1.2.2.1) (hw _ (wd 56 rfl)) q, W.2.1.put_d_firstCount hw q, W.2.2⟩
theorem Obs.put_d_unevenCount (hw : ∀ d ∈ tables_1, d.before a0 Z = true) (O : Obs Z h b d ps I) (W : Wr h h' d (Jvm.RoadKit.slotOf Z BSn "unevenCount" "I") (.int x)) : Obs Z h' b d ps (I.set 4 x) := by
 obtain ⟨hl, Eb, Ed, F0, F1, F2, F3, F4, F5, F6, F7, F8, F9, F10, F11, F12, F13, F14, F15, F16, F17, F18, F19, F20, F21⟩ := O
 have nn : b ≠ d := ne_exa Eb Ed (by decide)
 exact ⟨by simpa using hl, Eb.wr W, Ed.wr W, F0.other W (Or.inl nn), F1.other W (Or.inl nn), F2.other W (Or.inl nn), F3.other W (Or.inl nn), F4.other W (Or.inl nn), F5.other W (Or.inl nn), F6.other W (Or.inl nn), F7.other W (Or.inl nn), (by rw [own_getD_ne (by decide)]; exact F8.other W (Or.inl nn)), (by rw [own_getD_ne (by decide)]; exact F9.other W (Or.inl nn)), (by rw [own_getD_ne (by decide)]; exact F10.other W (Or.inl nn)), F11.other W (Or.inr (slot_ne (Or.inr (hw _ (wd 70 rfl))) (Or.inl (hw _ (wd 95 rfl))) (by decide) (t := (.object BLn)) (t' := .int) (by decide) (by decide))), (by rw [own_getD_ne (by decide)]; exact foii W F12 (Or.inr (hw _ (wd 72 rfl))) (Or.inl (hw _ (wd 95 rfl))) (by decide)), foai W F13 (Or.inr (hw _ (wd 74 rfl))) (Or.inl (hw _ (wd 95 rfl))) (by decide), foai W F14 (Or.inr (hw _ (wd 76 rfl))) (Or.inl (hw _ (wd 95 rfl))) (by decide), foai W F15 (Or.inl (hw _ (wd 78 rfl))) (Or.inl (hw _ (wd 95 rfl))) (by decide), foai W F16 (Or.inl (hw _ (wd 80 rfl))) (Or.inl (hw _ (wd 95 rfl))) (by decide), (by rw [own_getD_eq (by omega)]; exact Fld.same W F17), foai W F18 (Or.inr (hw _ (wd 82 rfl))) (Or.inl (hw _ (wd 95 rfl))) (by decide), foai W F19 (Or.inl (hw _ (wd 84 rfl))) (Or.inl (hw _ (wd 95 rfl))) (by decide), foai W F20 (Or.inl (hw _ (wd 86 rfl))) (Or.inl (hw _ (wd 95 rfl))) (by decide), (by rw [own_getD_ne (by decide)]; exact foii W F21 (Or.inl (hw _ (wd 106 rfl))) (Or.inl (hw _ (wd 95 rfl))) (by decide))⟩
theorem pt_d_unevenCount (hw : ∀ d ∈ tables_1, d.before a0 Z = true) (W : Wd Z n0 h b d ps σ) (q : Wr h h' d (Jvm.RoadKit.slotOf Z BSn "unevenCount" "I") (.int x)) : Wd Z n0 h' b d ps (wrI σ 4 x) := ⟨W.1.wrO (W.2.1.2.2.1) (hw _ (wd 56 rfl)) q, W.2.1.put_d_unevenCount hw q, W.2.2⟩
theorem Obs.put_d_nextInBucket (hw : ∀ d ∈ tables_1, d.before a0 Z = true) (O : Obs Z h b d ps I) (W : Wr h h' d (Jvm.RoadKit.slotOf Z BSn "nextInBucket" "[I") (.ref (ps 14))) : Obs Z h' b d ps I := by
 obtain ⟨hl, Eb, Ed, F0, F1, F2, F3, F4, F5, F6, F7, F8, F9, F10, F11, F12, F13, F14, F15, F16, F17, F18, F19, F20, F21⟩ := O
 have nn : b ≠ d := ne_exa Eb Ed (by decide)
 exact ⟨by simpa using hl, Eb.wr W, Ed.wr W, F0.other W (Or.inl nn), F1.other W (Or.inl nn), F2.other W (Or.inl nn), F3.other W (Or.inl nn), F4.other W (Or.inl nn), F5.other W (Or.inl nn), F6.other W (Or.inl nn), F7.other W (Or.inl nn), F8.other W (Or.inl nn), F9.other W (Or.inl nn), F10.other W (Or.inl nn), F11.other W (Or.inr (slot_ne (Or.inr (hw _ (wd 70 rfl))) (Or.inl (hw _ (wd 84 rfl))) (by decide) (t := (.object BLn)) (t' := (.array .int)) (by decide) (by decide))), foia W F12 (Or.inr (hw _ (wd 72 rfl))) (Or.inl (hw _ (wd 84 rfl))) (by decide), foaa W F13 (Or.inr (hw _ (wd 74 rfl))) (Or.inl (hw _ (wd 84 rfl))) (by decide), foaa W F14 (Or.inr (hw _ (wd 76 rfl))) (Or.inl (hw _ (wd 84 rfl))) (by decide), foaa W F15 (Or.inl (hw _ (wd 78 rfl))) (Or.inl (hw _ (wd 84 rfl))) (by decide), foaa W F16 (Or.inl (hw _ (wd 80 rfl))) (Or.inl (hw _ (wd 84 rfl))) (by decide), foia W F17 (Or.inl (hw _ (wd 95 rfl))) (Or.inl (hw _ (wd 84 rfl))) (by decide), foaa W F18 (Or.inr (hw _ (wd 82 rfl))) (Or.inl (hw _ (wd 84 rfl))) (by decide), Fld.same W F19, foaa W F20 (Or.inl (hw _ (wd 86 rfl))) (Or.inl (hw _ (wd 84 rfl))) (by decide), foia W F21 (Or.inl (hw _ (wd 106 rfl))) (Or.inl (hw _ (wd 84 rfl))) (by decide)⟩
theorem pt_d_nextInBucket (hw : ∀ d ∈ tables_1, d.before a0 Z = true) (W : Wd Z n0 h b d ps σ) (q : Wr h h' d (Jvm.RoadKit.slotOf Z BSn "nextInBucket" "[I") (.ref (ps 14))) : Wd Z n0 h' b d ps σ := ⟨W.1.wrO (W.2.1.2.2.1) (hw _ (wd 56 rfl)) q, W.2.1.put_d_nextInBucket hw q, W.2.2⟩
theorem Obs.put_d_previousInBucket (hw : ∀ d ∈ tables_1, d.before a0 Z = true) (O : Obs Z h b d ps I) (W : Wr h h' d (Jvm.RoadKit.slotOf Z BSn "previousInBucket" "[I") (.ref (ps 15))) : Obs Z h' b d ps I := by
 obtain ⟨hl, Eb, Ed, F0, F1, F2, F3, F4, F5, F6, F7, F8, F9, F10, F11, F12, F13, F14, F15, F16, F17, F18, F19, F20, F21⟩ := O
 have nn : b ≠ d := ne_exa Eb Ed (by decide)
 exact ⟨by simpa using hl, Eb.wr W, Ed.wr W, F0.other W (Or.inl nn), F1.other W (Or.inl nn), F2.other W (Or.inl nn), F3.other W (Or.inl nn), F4.other W (Or.inl nn), F5.other W (Or.inl nn), F6.other W (Or.inl nn), F7.other W (Or.inl nn), F8.other W (Or.inl nn), F9.other W (Or.inl nn), F10.other W (Or.inl nn), F11.other W (Or.inr (slot_ne (Or.inr (hw _ (wd 70 rfl))) (Or.inl (hw _ (wd 86 rfl))) (by decide) (t := (.object BLn)) (t' := (.array .int)) (by decide) (by decide))), foia W F12 (Or.inr (hw _ (wd 72 rfl))) (Or.inl (hw _ (wd 86 rfl))) (by decide), foaa W F13 (Or.inr (hw _ (wd 74 rfl))) (Or.inl (hw _ (wd 86 rfl))) (by decide), foaa W F14 (Or.inr (hw _ (wd 76 rfl))) (Or.inl (hw _ (wd 86 rfl))) (by decide), foaa W F15 (Or.inl (hw _ (wd 78 rfl))) (Or.inl (hw _ (wd 86 rfl))) (by decide), foaa W F16 (Or.inl (hw _ (wd 80 rfl))) (Or.inl (hw _ (wd 86 rfl))) (by decide), foia W F17 (Or.inl (hw _ (wd 95 rfl))) (Or.inl (hw _ (wd 86 rfl))) (by decide), foaa W F18 (Or.inr (hw _ (wd 82 rfl))) (Or.inl (hw _ (wd 86 rfl))) (by decide), foaa W F19 (Or.inl (hw _ (wd 84 rfl))) (Or.inl (hw _ (wd 86 rfl))) (by decide), Fld.same W F20, foia W F21 (Or.inl (hw _ (wd 106 rfl))) (Or.inl (hw _ (wd 86 rfl))) (by decide)⟩
theorem pt_d_previousInBucket (hw : ∀ d ∈ tables_1, d.before a0 Z = true) (W : Wd Z n0 h b d ps σ) (q : Wr h h' d (Jvm.RoadKit.slotOf Z BSn "previousInBucket" "[I") (.ref (ps 15))) : Wd Z n0 h' b d ps σ := ⟨W.1.wrO (W.2.1.2.2.1) (hw _ (wd 56 rfl)) q, W.2.1.put_d_previousInBucket hw q, W.2.2⟩
theorem Obs.put_d_highest (hw : ∀ d ∈ tables_1, d.before a0 Z = true) (O : Obs Z h b d ps I) (W : Wr h h' d (Jvm.RoadKit.slotOf Z BSn "highest" "I") (.int x)) : Obs Z h' b d ps (I.set 5 x) := by
 obtain ⟨hl, Eb, Ed, F0, F1, F2, F3, F4, F5, F6, F7, F8, F9, F10, F11, F12, F13, F14, F15, F16, F17, F18, F19, F20, F21⟩ := O
 have nn : b ≠ d := ne_exa Eb Ed (by decide)
 exact ⟨by simpa using hl, Eb.wr W, Ed.wr W, F0.other W (Or.inl nn), F1.other W (Or.inl nn), F2.other W (Or.inl nn), F3.other W (Or.inl nn), F4.other W (Or.inl nn), F5.other W (Or.inl nn), F6.other W (Or.inl nn), F7.other W (Or.inl nn), (by rw [own_getD_ne (by decide)]; exact F8.other W (Or.inl nn)), (by rw [own_getD_ne (by decide)]; exact F9.other W (Or.inl nn)), (by rw [own_getD_ne (by decide)]; exact F10.other W (Or.inl nn)), F11.other W (Or.inr (slot_ne (Or.inr (hw _ (wd 70 rfl))) (Or.inl (hw _ (wd 106 rfl))) (by decide) (t := (.object BLn)) (t' := .int) (by decide) (by decide))), (by rw [own_getD_ne (by decide)]; exact foii W F12 (Or.inr (hw _ (wd 72 rfl))) (Or.inl (hw _ (wd 106 rfl))) (by decide)), foai W F13 (Or.inr (hw _ (wd 74 rfl))) (Or.inl (hw _ (wd 106 rfl))) (by decide), foai W F14 (Or.inr (hw _ (wd 76 rfl))) (Or.inl (hw _ (wd 106 rfl))) (by decide), foai W F15 (Or.inl (hw _ (wd 78 rfl))) (Or.inl (hw _ (wd 106 rfl))) (by decide), foai W F16 (Or.inl (hw _ (wd 80 rfl))) (Or.inl (hw _ (wd 106 rfl))) (by decide), (by rw [own_getD_ne (by decide)]; exact foii W F17 (Or.inl (hw _ (wd 95 rfl))) (Or.inl (hw _ (wd 106 rfl))) (by decide)), foai W F18 (Or.inr (hw _ (wd 82 rfl))) (Or.inl (hw _ (wd 106 rfl))) (by decide), foai W F19 (Or.inl (hw _ (wd 84 rfl))) (Or.inl (hw _ (wd 106 rfl))) (by decide), foai W F20 (Or.inl (hw _ (wd 86 rfl))) (Or.inl (hw _ (wd 106 rfl))) (by decide), (by rw [own_getD_eq (by omega)]; exact Fld.same W F21)⟩
theorem pt_d_highest (hw : ∀ d ∈ tables_1, d.before a0 Z = true) (W : Wd Z n0 h b d ps σ) (q : Wr h h' d (Jvm.RoadKit.slotOf Z BSn "highest" "I") (.int x)) : Wd Z n0 h' b d ps (wrI σ 5 x) := ⟨W.1.wrO (W.2.1.2.2.1) (hw _ (wd 56 rfl)) q, W.2.1.put_d_highest hw q, W.2.2⟩
theorem Wd.rd (W : Wd Z n0 h b d ps σ) (c : rdA σ i j = some w) : ∃ cl : Cell, Arr Z h (ps i) cl .int ∧ ¬ (j < 0 ∨ cl.slots.size ≤ j.toNatClampNeg) ∧ cl.slots[j.toNatClampNeg]? = some (.int w) := W.1.rd c
theorem Wd.len (W : Wd Z n0 h b d ps σ) (q : i < 16) : ∃ cl : Cell, Arr Z h (ps i) cl .int ∧ cl.slots.size.toInt32 = lenA σ i := W.1.len (by have := W.2.2.2.2; omega)
theorem Wd.wr (hw : ∀ d ∈ tables_1, d.before a0 Z = true) (W : Wd Z n0 h b d ps σ) (c : wrA σ i j x = some σ') : ∃ cl : Cell, Arr Z h (ps i) cl .int ∧ ¬ (j < 0 ∨ cl.slots.size ≤ j.toNatClampNeg) ∧ n0 ≤ ps i ∧ ∀ h', Wr h h' (ps i) j.toNatClampNeg (.int x) → Wd Z n0 h' b d ps σ' := by
 obtain ⟨cl, A, h1, h2, h3, h4⟩ := W.1.wr c
 have hlen : σ'.1.length = 16 := by obtain ⟨-, -, -, rfl⟩ := wrA_spec c; simpa using W.2.2.2.2
 exact ⟨cl, A, h1, h2, fun h' q => ⟨h4 h' q, h3 ▸ W.2.1.wrA hw A q, W.2.2.1, W.2.2.2.1, hlen⟩⟩
theorem gt_b_states (W : Wd Z n0 h b d ps σ) : Fld Z h b BLn "states" "[I" (.ref (ps 1)) := by
 obtain ⟨-, ⟨hl, Eb, Ed, F0, F1, F2, F3, F4, F5, F6, F7, F8, F9, F10, F11, F12, F13, F14, F15, F16, F17, F18, F19, F20, F21⟩, -⟩ := W
 exact F0
theorem gt_b_placeOf (W : Wd Z n0 h b d ps σ) : Fld Z h b BLn "placeOf" "[I" (.ref (ps 5)) := by
 obtain ⟨-, ⟨hl, Eb, Ed, F0, F1, F2, F3, F4, F5, F6, F7, F8, F9, F10, F11, F12, F13, F14, F15, F16, F17, F18, F19, F20, F21⟩, -⟩ := W
 exact F1
theorem gt_b_blockOf (W : Wd Z n0 h b d ps σ) : Fld Z h b BLn "blockOf" "[I" (.ref (ps 2)) := by
 obtain ⟨-, ⟨hl, Eb, Ed, F0, F1, F2, F3, F4, F5, F6, F7, F8, F9, F10, F11, F12, F13, F14, F15, F16, F17, F18, F19, F20, F21⟩, -⟩ := W
 exact F2
theorem gt_b_marked (W : Wd Z n0 h b d ps σ) : Fld Z h b BLn "marked" "[I" (.ref (ps 6)) := by
 obtain ⟨-, ⟨hl, Eb, Ed, F0, F1, F2, F3, F4, F5, F6, F7, F8, F9, F10, F11, F12, F13, F14, F15, F16, F17, F18, F19, F20, F21⟩, -⟩ := W
 exact F3
theorem gt_b_start (W : Wd Z n0 h b d ps σ) : Fld Z h b BLn "start" "[I" (.ref (ps 3)) := by
 obtain ⟨-, ⟨hl, Eb, Ed, F0, F1, F2, F3, F4, F5, F6, F7, F8, F9, F10, F11, F12, F13, F14, F15, F16, F17, F18, F19, F20, F21⟩, -⟩ := W
 exact F4
theorem gt_b_end (W : Wd Z n0 h b d ps σ) : Fld Z h b BLn "end" "[I" (.ref (ps 4)) := by
 obtain ⟨-, ⟨hl, Eb, Ed, F0, F1, F2, F3, F4, F5, F6, F7, F8, F9, F10, F11, F12, F13, F14, F15, F16, F17, F18, F19, F20, F21⟩, -⟩ := W
 exact F5
theorem gt_b_markedEnd (W : Wd Z n0 h b d ps σ) : Fld Z h b BLn "markedEnd" "[I" (.ref (ps 7)) := by
 obtain ⟨-, ⟨hl, Eb, Ed, F0, F1, F2, F3, F4, F5, F6, F7, F8, F9, F10, F11, F12, F13, F14, F15, F16, F17, F18, F19, F20, F21⟩, -⟩ := W
 exact F6
theorem gt_b_touched (W : Wd Z n0 h b d ps σ) : Fld Z h b BLn "touched" "[I" (.ref (ps 8)) := by
 obtain ⟨-, ⟨hl, Eb, Ed, F0, F1, F2, F3, F4, F5, F6, F7, F8, F9, F10, F11, F12, F13, F14, F15, F16, F17, F18, F19, F20, F21⟩, -⟩ := W
 exact F7
theorem gt_b_markedCount (W : Wd Z n0 h b d ps σ) : Fld Z h b BLn "markedCount" "I" (.int (rdI σ 0)) := by
 obtain ⟨-, ⟨hl, Eb, Ed, F0, F1, F2, F3, F4, F5, F6, F7, F8, F9, F10, F11, F12, F13, F14, F15, F16, F17, F18, F19, F20, F21⟩, -⟩ := W
 exact F8
theorem gt_b_touchedCount (W : Wd Z n0 h b d ps σ) : Fld Z h b BLn "touchedCount" "I" (.int (rdI σ 1)) := by
 obtain ⟨-, ⟨hl, Eb, Ed, F0, F1, F2, F3, F4, F5, F6, F7, F8, F9, F10, F11, F12, F13, F14, F15, F16, F17, F18, F19, F20, F21⟩, -⟩ := W
 exact F9
theorem gt_b_blockCount (W : Wd Z n0 h b d ps σ) : Fld Z h b BLn "blockCount" "I" (.int (rdI σ 2)) := by
 obtain ⟨-, ⟨hl, Eb, Ed, F0, F1, F2, F3, F4, F5, F6, F7, F8, F9, F10, F11, F12, F13, F14, F15, F16, F17, F18, F19, F20, F21⟩, -⟩ := W
 exact F10
theorem gt_d_blocks (W : Wd Z n0 h b d ps σ) : Fld Z h d BSn "blocks" "Lcom/example/states_into_classes/statesintoclasses/engine/Blocks;" (.ref b) := by
 obtain ⟨-, ⟨hl, Eb, Ed, F0, F1, F2, F3, F4, F5, F6, F7, F8, F9, F10, F11, F12, F13, F14, F15, F16, F17, F18, F19, F20, F21⟩, -⟩ := W
 exact F11
theorem gt_d_secondStart (W : Wd Z n0 h b d ps σ) : Fld Z h d BSn "secondStart" "I" (.int (rdI σ 3)) := by
 obtain ⟨-, ⟨hl, Eb, Ed, F0, F1, F2, F3, F4, F5, F6, F7, F8, F9, F10, F11, F12, F13, F14, F15, F16, F17, F18, F19, F20, F21⟩, -⟩ := W
 exact F12
theorem gt_d_next (W : Wd Z n0 h b d ps σ) : Fld Z h d BSn "next" "[I" (.ref (ps 9)) := by
 obtain ⟨-, ⟨hl, Eb, Ed, F0, F1, F2, F3, F4, F5, F6, F7, F8, F9, F10, F11, F12, F13, F14, F15, F16, F17, F18, F19, F20, F21⟩, -⟩ := W
 exact F13
theorem gt_d_previous (W : Wd Z n0 h b d ps σ) : Fld Z h d BSn "previous" "[I" (.ref (ps 10)) := by
 obtain ⟨-, ⟨hl, Eb, Ed, F0, F1, F2, F3, F4, F5, F6, F7, F8, F9, F10, F11, F12, F13, F14, F15, F16, F17, F18, F19, F20, F21⟩, -⟩ := W
 exact F14
theorem gt_d_first (W : Wd Z n0 h b d ps σ) : Fld Z h d BSn "first" "[I" (.ref (ps 11)) := by
 obtain ⟨-, ⟨hl, Eb, Ed, F0, F1, F2, F3, F4, F5, F6, F7, F8, F9, F10, F11, F12, F13, F14, F15, F16, F17, F18, F19, F20, F21⟩, -⟩ := W
 exact F15
theorem gt_d_firstCount (W : Wd Z n0 h b d ps σ) : Fld Z h d BSn "firstCount" "[I" (.ref (ps 12)) := by
 obtain ⟨-, ⟨hl, Eb, Ed, F0, F1, F2, F3, F4, F5, F6, F7, F8, F9, F10, F11, F12, F13, F14, F15, F16, F17, F18, F19, F20, F21⟩, -⟩ := W
 exact F16
theorem gt_d_unevenCount (W : Wd Z n0 h b d ps σ) : Fld Z h d BSn "unevenCount" "I" (.int (rdI σ 4)) := by
 obtain ⟨-, ⟨hl, Eb, Ed, F0, F1, F2, F3, F4, F5, F6, F7, F8, F9, F10, F11, F12, F13, F14, F15, F16, F17, F18, F19, F20, F21⟩, -⟩ := W
 exact F17
theorem gt_d_bucket (W : Wd Z n0 h b d ps σ) : Fld Z h d BSn "bucket" "[I" (.ref (ps 13)) := by
 obtain ⟨-, ⟨hl, Eb, Ed, F0, F1, F2, F3, F4, F5, F6, F7, F8, F9, F10, F11, F12, F13, F14, F15, F16, F17, F18, F19, F20, F21⟩, -⟩ := W
 exact F18
theorem gt_d_nextInBucket (W : Wd Z n0 h b d ps σ) : Fld Z h d BSn "nextInBucket" "[I" (.ref (ps 14)) := by
 obtain ⟨-, ⟨hl, Eb, Ed, F0, F1, F2, F3, F4, F5, F6, F7, F8, F9, F10, F11, F12, F13, F14, F15, F16, F17, F18, F19, F20, F21⟩, -⟩ := W
 exact F19
theorem gt_d_previousInBucket (W : Wd Z n0 h b d ps σ) : Fld Z h d BSn "previousInBucket" "[I" (.ref (ps 15)) := by
 obtain ⟨-, ⟨hl, Eb, Ed, F0, F1, F2, F3, F4, F5, F6, F7, F8, F9, F10, F11, F12, F13, F14, F15, F16, F17, F18, F19, F20, F21⟩, -⟩ := W
 exact F20
theorem gt_d_highest (W : Wd Z n0 h b d ps σ) : Fld Z h d BSn "highest" "I" (.int (rdI σ 5)) := by
 obtain ⟨-, ⟨hl, Eb, Ed, F0, F1, F2, F3, F4, F5, F6, F7, F8, F9, F10, F11, F12, F13, F14, F15, F16, F17, F18, F19, F20, F21⟩, -⟩ := W
 exact F21
end Own2
theorem own_selects {Z s : State} {a0 args : Array Value} {y : MethodName} {k : Nat} (hZ : Z.Warmed39 s.vm) (wi : (Jvm.Cond.instantiable y.cls k).before a0 Z = true) (wp : (Jvm.Cond.privateMethod y).before #[] s = true) (wm : (Jvm.Cond.instanceMethod y).before args s = true) (hy : y.cls ≠ "java/lang/invoke/MethodHandle" ∧ y.cls ≠ "java/lang/invoke/VarHandle") : (Jvm.Cond.selects y.cls y y).before args s = true := by
 obtain ⟨c, k, h1, h2, -, h4, -⟩ := Cond.instantiable_spec (mv (args := args) hZ wi)
 exact selects_self_of_private h1 h2 (by simp at h4; exact h4.1) (Cond.privateMethod_at wp) wm hy
set_option maxRecDepth 65536 in
set_option maxHeartbeats 40000000 in
theorem m_max (l : Launch) (Z : State) (a0 : Array Value) (hw : ∀ d ∈ tables_1, d.before a0 Z = true) (ws : List Jvm.Cond) (q1 q2 : Int32) (h0 : Heap) (n0 : Nat)   :
  MetFree l y_0 (head1 (Jvm.Cond.code y_0 jdk_29_method_65_code 2 (some .int) :: ws) ({ frames := 0, cells := 0, slots := 0, locals := 0 } : Room)) (fun a U => a = #[.int q1, .int q2] ∧ Z.Warmed39 U.vm ∧ U.heap = h0) (fun _ _ _ _ _ => True) (fun _ U o U' => ∃ v L, o = .returned v ∧ QV (some (.int (mxI q1 q2))) h0 n0 v U'.heap L ∧ FrameEnd U o U' L ({ frames := 0, cells := 0, slots := 0, locals := 0 } : Room).cells ({ frames := 0, cells := 0, slots := 0, locals := 0 } : Room).slots) := by
 refine MetFree.of_bodySF (by decide +kernel) hisR ?_
 intro p e s m args below meth c s₁ Bd hml0 hP hK
 obtain ⟨rfl, hZ, hh⟩ := hP
 have hx := Bd.exec
 have hby := Bd.bytes
 have hml : c.maxLocals = 2 := hml0
 have hown : s.vm.findClass "java/lang/Math" = some m.cls := findClass_of_methodNamed Bd.named
 have hnm := (name_of_methodNamed Bd.named Bd.method).1
 have X0 : Stand p l e ({ frames := 0, cells := 0, slots := 0, locals := 0 } : Room) s m #[.int q1, .int q2] below meth c s₁ [] 0 0 := Stand.of_body Bd
 have e0 : s₁.heap = h0 := by rw [← hh, Bd.state]; rfl
 have N0 := Fr.nil n0
 have K0 := Keep.refl h0 []
 have k0 : Go p.tables e below (s₁.setTop (entryFrame m #[.int q1, .int q2] 2)) (sf s₁ m 0 #[iv q1, iv q2] []) := fun t k => castTop (by first | rfl | (simp [entryFrame, mkF, argsToLocals, Value.category]; done)) k
 rcases Decidable.em (q1 < q2) with hc | hc
 ·skip
  have k_1 : Go p.tables e below (s₁.setTop (entryFrame m #[.int q1, .int q2] 2)) (sf s₁ m 10 #[iv q1, iv q2] [.int q2]) := fun t q => by
   refine k0 t ?_
   refine XS.iloadN X0.here hx rfl (hb hby d5_0) rfl ?_
   show Steps _ _ _ (sf s₁ m 1 #[iv q1, iv q2] [.int q1]) _
   refine XS.iloadN X0.here hx rfl (hb hby d5_1) rfl ?_
   show Steps _ _ _ (sf s₁ m 2 #[iv q1, iv q2] [.int q2, .int q1]) _
   refine XS.icmpYes X0.here hx rfl (pc0 := 2) (pc' := 9) rfl (hb hby d5_2) rfl (tlt hc).1 (by decide) (by decide) ?_
   show Steps _ _ _ (sf s₁ m 9 #[iv q1, iv q2] []) _
   refine XS.iloadN X0.here hx rfl (hb hby d5_9) rfl ?_
   show Steps _ _ _ (sf s₁ m 10 #[iv q1, iv q2] [.int q2]) _
   exact q
  obtain ⟨fs, hr, hrun, hended, hW, hsame⟩ := X0.leave (v := some (.int q2)) (fun h => by rw [Bd.returns] at h; cases h)
  refine ⟨_, _, k_1 _ ?_, hrun, hended, _, _, rfl, ?_, ⟨_, rfl⟩, hW, hsame.mono (by decide) (by decide)⟩
  ·exact retOut X0 hx Bd.returns rfl (Or.inl ⟨rfl, Or.inl rfl, _, rfl⟩) (hb hby d5_10) hr
  ·show QV (some (.int (mxI q1 q2))) h0 n0 _ s₁.heap _
   rw [e0]
   exact ⟨by simp [mxI, hc], N0, rfl⟩
 ·skip
  have k_2 : Go p.tables e below (s₁.setTop (entryFrame m #[.int q1, .int q2] 2)) (sf s₁ m 10 #[iv q1, iv q2] [.int q1]) := fun t q => by
   refine k0 t ?_
   refine XS.iloadN X0.here hx rfl (hb hby d5_0) rfl ?_
   show Steps _ _ _ (sf s₁ m 1 #[iv q1, iv q2] [.int q1]) _
   refine XS.iloadN X0.here hx rfl (hb hby d5_1) rfl ?_
   show Steps _ _ _ (sf s₁ m 2 #[iv q1, iv q2] [.int q2, .int q1]) _
   refine XS.icmpNo X0.here hx rfl (hb hby d5_2) rfl (flt hc).1 ?_
   show Steps _ _ _ (sf s₁ m 5 #[iv q1, iv q2] []) _
   refine XS.iloadN X0.here hx rfl (hb hby d5_5) rfl ?_
   show Steps _ _ _ (sf s₁ m 6 #[iv q1, iv q2] [.int q1]) _
   refine XS.goto X0.here hx rfl (pc0 := 6) (pc' := 10) rfl (hb hby d5_6) (by decide) (by decide) ?_
   show Steps _ _ _ (sf s₁ m 10 #[iv q1, iv q2] [.int q1]) _
   exact q
  obtain ⟨fs, hr, hrun, hended, hW, hsame⟩ := X0.leave (v := some (.int q1)) (fun h => by rw [Bd.returns] at h; cases h)
  refine ⟨_, _, k_2 _ ?_, hrun, hended, _, _, rfl, ?_, ⟨_, rfl⟩, hW, hsame.mono (by decide) (by decide)⟩
  ·exact retOut X0 hx Bd.returns rfl (Or.inl ⟨rfl, Or.inl rfl, _, rfl⟩) (hb hby d5_10) hr
  ·show QV (some (.int (mxI q1 q2))) h0 n0 _ s₁.heap _
   rw [e0]
   exact ⟨by simp [mxI, hc], N0, rfl⟩
set_option maxRecDepth 65536 in
set_option maxHeartbeats 40000000 in
theorem m_min (l : Launch) (Z : State) (a0 : Array Value) (hw : ∀ d ∈ tables_1, d.before a0 Z = true) (ws : List Jvm.Cond) (q1 q2 : Int32) (h0 : Heap) (n0 : Nat)   :
  MetFree l y_1 (head1 (Jvm.Cond.code y_1 jdk_29_method_69_code 2 (some .int) :: ws) ({ frames := 0, cells := 0, slots := 0, locals := 0 } : Room)) (fun a U => a = #[.int q1, .int q2] ∧ Z.Warmed39 U.vm ∧ U.heap = h0) (fun _ _ _ _ _ => True) (fun _ U o U' => ∃ v L, o = .returned v ∧ QV (some (.int (mnI q1 q2))) h0 n0 v U'.heap L ∧ FrameEnd U o U' L ({ frames := 0, cells := 0, slots := 0, locals := 0 } : Room).cells ({ frames := 0, cells := 0, slots := 0, locals := 0 } : Room).slots) := by
 refine MetFree.of_bodySF (by decide +kernel) hisR ?_
 intro p e s m args below meth c s₁ Bd hml0 hP hK
 obtain ⟨rfl, hZ, hh⟩ := hP
 have hx := Bd.exec
 have hby := Bd.bytes
 have hml : c.maxLocals = 2 := hml0
 have hown : s.vm.findClass "java/lang/Math" = some m.cls := findClass_of_methodNamed Bd.named
 have hnm := (name_of_methodNamed Bd.named Bd.method).1
 have X0 : Stand p l e ({ frames := 0, cells := 0, slots := 0, locals := 0 } : Room) s m #[.int q1, .int q2] below meth c s₁ [] 0 0 := Stand.of_body Bd
 have e0 : s₁.heap = h0 := by rw [← hh, Bd.state]; rfl
 have N0 := Fr.nil n0
 have K0 := Keep.refl h0 []
 have k0 : Go p.tables e below (s₁.setTop (entryFrame m #[.int q1, .int q2] 2)) (sf s₁ m 0 #[iv q1, iv q2] []) := fun t k => castTop (by first | rfl | (simp [entryFrame, mkF, argsToLocals, Value.category]; done)) k
 rcases Decidable.em (q2 < q1) with hc | hc
 ·skip
  have k_3 : Go p.tables e below (s₁.setTop (entryFrame m #[.int q1, .int q2] 2)) (sf s₁ m 10 #[iv q1, iv q2] [.int q2]) := fun t q => by
   refine k0 t ?_
   refine XS.iloadN X0.here hx rfl (hb hby d4_0) rfl ?_
   show Steps _ _ _ (sf s₁ m 1 #[iv q1, iv q2] [.int q1]) _
   refine XS.iloadN X0.here hx rfl (hb hby d4_1) rfl ?_
   show Steps _ _ _ (sf s₁ m 2 #[iv q1, iv q2] [.int q2, .int q1]) _
   refine XS.icmpYes X0.here hx rfl (pc0 := 2) (pc' := 9) rfl (hb hby d4_2) rfl (tlt hc).2.2.1 (by decide) (by decide) ?_
   show Steps _ _ _ (sf s₁ m 9 #[iv q1, iv q2] []) _
   refine XS.iloadN X0.here hx rfl (hb hby d4_9) rfl ?_
   show Steps _ _ _ (sf s₁ m 10 #[iv q1, iv q2] [.int q2]) _
   exact q
  obtain ⟨fs, hr, hrun, hended, hW, hsame⟩ := X0.leave (v := some (.int q2)) (fun h => by rw [Bd.returns] at h; cases h)
  refine ⟨_, _, k_3 _ ?_, hrun, hended, _, _, rfl, ?_, ⟨_, rfl⟩, hW, hsame.mono (by decide) (by decide)⟩
  ·exact retOut X0 hx Bd.returns rfl (Or.inl ⟨rfl, Or.inl rfl, _, rfl⟩) (hb hby d4_10) hr
  ·show QV (some (.int (mnI q1 q2))) h0 n0 _ s₁.heap _
   rw [e0]
   exact ⟨by simp [mnI, hc], N0, rfl⟩
 ·skip
  have k_4 : Go p.tables e below (s₁.setTop (entryFrame m #[.int q1, .int q2] 2)) (sf s₁ m 10 #[iv q1, iv q2] [.int q1]) := fun t q => by
   refine k0 t ?_
   refine XS.iloadN X0.here hx rfl (hb hby d4_0) rfl ?_
   show Steps _ _ _ (sf s₁ m 1 #[iv q1, iv q2] [.int q1]) _
   refine XS.iloadN X0.here hx rfl (hb hby d4_1) rfl ?_
   show Steps _ _ _ (sf s₁ m 2 #[iv q1, iv q2] [.int q2, .int q1]) _
   refine XS.icmpNo X0.here hx rfl (hb hby d4_2) rfl (flt hc).2.2.1 ?_
   show Steps _ _ _ (sf s₁ m 5 #[iv q1, iv q2] []) _
   refine XS.iloadN X0.here hx rfl (hb hby d4_5) rfl ?_
   show Steps _ _ _ (sf s₁ m 6 #[iv q1, iv q2] [.int q1]) _
   refine XS.goto X0.here hx rfl (pc0 := 6) (pc' := 10) rfl (hb hby d4_6) (by decide) (by decide) ?_
   show Steps _ _ _ (sf s₁ m 10 #[iv q1, iv q2] [.int q1]) _
   exact q
  obtain ⟨fs, hr, hrun, hended, hW, hsame⟩ := X0.leave (v := some (.int q1)) (fun h => by rw [Bd.returns] at h; cases h)
  refine ⟨_, _, k_4 _ ?_, hrun, hended, _, _, rfl, ?_, ⟨_, rfl⟩, hW, hsame.mono (by decide) (by decide)⟩
  ·exact retOut X0 hx Bd.returns rfl (Or.inl ⟨rfl, Or.inl rfl, _, rfl⟩) (hb hby d4_10) hr
  ·show QV (some (.int (mnI q1 q2))) h0 n0 _ s₁.heap _
   rw [e0]
   exact ⟨by simp [mnI, hc], N0, rfl⟩
def fCount (σ : St)  : Option (Int32 × St) := some ((lenA σ 1), σ)
set_option maxRecDepth 65536 in
set_option maxHeartbeats 40000000 in
theorem fCount_ok (l : Launch) (Z : State) (a0 : Array Value) (hw : ∀ d ∈ tables_1, d.before a0 Z = true) (ws : List Jvm.Cond) (b d : Addr) (ps : Nat → Addr) (σ : St)  (h0 : Heap) (n0 : Nat) (W0 : Wd Z n0 h0 b d ps σ) (r : Int32 × St) (hf : fCount σ  = some r) :
  MetFree l y_2 (head1 (Jvm.Cond.code y_2 prog_3_method_4_code 1 (some .int) :: ws) ({ frames := 0, cells := 0, slots := 0, locals := 0 } : Room)) (fun a U => a = #[.ref b] ∧ Z.Warmed39 U.vm ∧ U.heap = h0) (fun _ _ _ _ _ => True) (fun _ U o U' => ∃ v L, o = .returned v ∧ QW Z n0 b d ps r.2 (some (.int r.1)) v U'.heap L ∧ FrameEnd U o U' L ({ frames := 0, cells := 0, slots := 0, locals := 0 } : Room).cells ({ frames := 0, cells := 0, slots := 0, locals := 0 } : Room).slots) := by
 refine MetFree.of_bodySF (plainFor_of_name pn_0) hisR ?_
 intro p e s m args below meth c s₁ Bd hml0 hP hK
 obtain ⟨rfl, hZ, hh⟩ := hP
 have hx := Bd.exec
 have hby := Bd.bytes
 have hml : c.maxLocals = 1 := hml0
 have hown : s.vm.findClass BLn = some m.cls := findClass_of_methodNamed Bd.named
 have hnm := (name_of_methodNamed Bd.named Bd.method).1
 have X0 : Stand p l e ({ frames := 0, cells := 0, slots := 0, locals := 0 } : Room) s m #[.ref b] below meth c s₁ [] 0 0 := Stand.of_body Bd
 have e0 : s₁.heap = h0 := by rw [← hh, Bd.state]; rfl
 have N0 := Fr.nil n0
 have K0 := Keep.refl h0 []
 have k0 : Go p.tables e below (s₁.setTop (entryFrame m #[.ref b] 1)) (sf s₁ m 0 #[rv b] []) := fun t k => castTop (by first | (simp [entryFrame, mkF, argsToLocals, Value.category]; done)) k
 unfold fCount at hf
 generalize s₁.setTop (entryFrame m #[.ref b] 1) = B0 at k0 ⊢
 have k_5 : Go p.tables e below B0 (sf s₁ m 1 #[rv b] [.ref b]) := fun t q => by
  refine k0 t ?_
  refine s_aloadN X0.here hx (hb hby d9_0) rfl rfl ?_
  exact q
 obtain ⟨T6, X6, e6, st6⟩ := getF X0 hx hZ hown (host := "") (Or.inl (hw _ (wd 28 rfl))) Via.refl e0 (gt_b_states W0) (g := (mkF m 1 #[rv b] [.ref b])) rfl rfl (hb hby d9_1)
 have k_7 : Go p.tables e below B0 (sf T6 m 4 #[rv b] [(.ref (ps 1))]) := fun t q => by
  refine k_5 t ?_
  refine st6 _ ?_
  show Steps _ _ _ (sf T6 m 4 #[rv b] [(.ref (ps 1))]) _
  exact q
 obtain ⟨cl8, Ar8, ln8⟩ := W0.len (i := 1) (by decide)
 have k_9 : Go p.tables e below B0 (sf T6 m 5 #[rv b] [(.int (lenA σ 1))]) := fun t q => by
  refine k_7 t ?_
  refine X6.arraylength hx (by rw [e6]; exact Ar8.1) (State.isArrayOf_alike hZ.alike Ar8.2.1) (g := (mkF m 4 #[rv b] [(.ref (ps 1))])) rfl rfl (hb hby d9_4) _ ?_
  rw [ln8]
  show Steps _ _ _ (sf T6 m 5 #[rv b] [(.int (lenA σ 1))]) _
  exact q
 obtain rfl := Option.some.inj hf
 obtain ⟨fs, hr, hrun, hended, hW, hsame⟩ := X6.leave (v := some (.int (lenA σ 1))) (fun h => by rw [Bd.returns] at h; cases h)
 refine ⟨_, _, k_9 _ ?_, hrun, hended, _, _, rfl, ?_, ⟨_, rfl⟩, hW, hsame.mono (by decide) (by decide)⟩
 ·exact retOut X6 hx Bd.returns rfl (Or.inl ⟨rfl, Or.inl rfl, _, rfl⟩) (hb hby d9_5) hr
 ·show QW Z n0 b d ps σ (some (.int (lenA σ 1))) _ T6.heap _
  rw [e6]
  exact ⟨rfl, N0, W0⟩
def fSize (σ : St) (q1 : Int32) : Option (Int32 × St) := (rdA σ 4 q1).bind fun w13 => (rdA σ 3 q1).bind fun w17 => some ((w13 - w17), σ)
set_option maxRecDepth 65536 in
set_option maxHeartbeats 40000000 in
theorem fSize_ok (l : Launch) (Z : State) (a0 : Array Value) (hw : ∀ d ∈ tables_1, d.before a0 Z = true) (ws : List Jvm.Cond) (b d : Addr) (ps : Nat → Addr) (σ : St) (q1 : Int32) (h0 : Heap) (n0 : Nat) (W0 : Wd Z n0 h0 b d ps σ) (r : Int32 × St) (hf : fSize σ q1 = some r) :
  MetFree l y_3 (head1 (Jvm.Cond.code y_3 prog_3_method_8_code 2 (some .int) :: ws) ({ frames := 0, cells := 0, slots := 0, locals := 0 } : Room)) (fun a U => a = #[.ref b, .int q1] ∧ Z.Warmed39 U.vm ∧ U.heap = h0) (fun _ _ _ _ _ => True) (fun _ U o U' => ∃ v L, o = .returned v ∧ QW Z n0 b d ps r.2 (some (.int r.1)) v U'.heap L ∧ FrameEnd U o U' L ({ frames := 0, cells := 0, slots := 0, locals := 0 } : Room).cells ({ frames := 0, cells := 0, slots := 0, locals := 0 } : Room).slots) := by
 refine MetFree.of_bodySF (plainFor_of_name pn_0) hisR ?_
 intro p e s m args below meth c s₁ Bd hml0 hP hK
 obtain ⟨rfl, hZ, hh⟩ := hP
 have hx := Bd.exec
 have hby := Bd.bytes
 have hml : c.maxLocals = 2 := hml0
 have hown : s.vm.findClass BLn = some m.cls := findClass_of_methodNamed Bd.named
 have hnm := (name_of_methodNamed Bd.named Bd.method).1
 have X0 : Stand p l e ({ frames := 0, cells := 0, slots := 0, locals := 0 } : Room) s m #[.ref b, .int q1] below meth c s₁ [] 0 0 := Stand.of_body Bd
 have e0 : s₁.heap = h0 := by rw [← hh, Bd.state]; rfl
 have N0 := Fr.nil n0
 have K0 := Keep.refl h0 []
 have k0 : Go p.tables e below (s₁.setTop (entryFrame m #[.ref b, .int q1] 2)) (sf s₁ m 0 #[rv b, iv q1] []) := fun t k => castTop (by first | (simp [entryFrame, mkF, argsToLocals, Value.category]; done)) k
 unfold fSize at hf
 generalize s₁.setTop (entryFrame m #[.ref b, .int q1] 2) = B0 at k0 ⊢
 have k_10 : Go p.tables e below B0 (sf s₁ m 1 #[rv b, iv q1] [.ref b]) := fun t q => by
  refine k0 t ?_
  refine s_aloadN X0.here hx (hb hby d22_0) rfl rfl ?_
  exact q
 obtain ⟨T11, X11, e11, st11⟩ := getF X0 hx hZ hown (host := "") (Or.inl (hw _ (wd 47 rfl))) Via.refl e0 (gt_b_end W0) (g := (mkF m 1 #[rv b, iv q1] [.ref b])) rfl rfl (hb hby d22_1)
 have k_12 : Go p.tables e below B0 (sf T11 m 5 #[rv b, iv q1] [.int q1, (.ref (ps 4))]) := fun t q => by
  refine k_10 t ?_
  refine st11 _ ?_
  show Steps _ _ _ (sf T11 m 4 #[rv b, iv q1] [(.ref (ps 4))]) _
  refine s_iloadN X11.here hx (hb hby d22_4) rfl ?_
  exact q
 obtain ⟨w13, c13, hf13⟩ := Option.bind_eq_some_iff.mp hf
 obtain ⟨cl13, Ar13, hin13, hat13⟩ := W0.rd c13
 have k_14 : Go p.tables e below B0 (sf T11 m 7 #[rv b, iv q1] [.ref b, .int w13]) := fun t q => by
  refine k_12 t ?_
  refine X11.iaload hx (j := q1) (v := (.int w13)) (by rw [e11]; exact Ar13.1) (State.isArrayOf_alike hZ.alike Ar13.2.1) Ar13.2.2 hin13 hat13 (g := (mkF m 5 #[rv b, iv q1] [.int q1, (.ref (ps 4))])) rfl rfl (hb hby d22_5) _ ?_
  show Steps _ _ _ (sf T11 m 6 #[rv b, iv q1] [.int w13]) _
  refine s_aloadN X11.here hx (hb hby d22_6) rfl rfl ?_
  exact q
 obtain ⟨T15, X15, e15, st15⟩ := getF X11 hx hZ hown (host := "") (Or.inl (hw _ (wd 45 rfl))) Via.refl e11 (gt_b_start W0) (g := (mkF m 7 #[rv b, iv q1] [.ref b, .int w13])) rfl rfl (hb hby d22_7)
 have k_16 : Go p.tables e below B0 (sf T15 m 11 #[rv b, iv q1] [.int q1, (.ref (ps 3)), .int w13]) := fun t q => by
  refine k_14 t ?_
  refine st15 _ ?_
  show Steps _ _ _ (sf T15 m 10 #[rv b, iv q1] [(.ref (ps 3)), .int w13]) _
  refine s_iloadN X15.here hx (hb hby d22_10) rfl ?_
  exact q
 obtain ⟨w17, c17, hf17⟩ := Option.bind_eq_some_iff.mp hf13
 obtain ⟨cl17, Ar17, hin17, hat17⟩ := W0.rd c17
 have k_18 : Go p.tables e below B0 (sf T15 m 13 #[rv b, iv q1] [(.int (w13 - w17))]) := fun t q => by
  refine k_16 t ?_
  refine X15.iaload hx (j := q1) (v := (.int w17)) (by rw [e15]; exact Ar17.1) (State.isArrayOf_alike hZ.alike Ar17.2.1) Ar17.2.2 hin17 hat17 (g := (mkF m 11 #[rv b, iv q1] [.int q1, (.ref (ps 3)), .int w13])) rfl rfl (hb hby d22_11) _ ?_
  show Steps _ _ _ (sf T15 m 12 #[rv b, iv q1] [.int w17, .int w13]) _
  refine s_isub X15.here hx (hb hby d22_12) ?_
  exact q
 obtain rfl := Option.some.inj hf17
 obtain ⟨fs, hr, hrun, hended, hW, hsame⟩ := X15.leave (v := some (.int (w13 - w17))) (fun h => by rw [Bd.returns] at h; cases h)
 refine ⟨_, _, k_18 _ ?_, hrun, hended, _, _, rfl, ?_, ⟨_, rfl⟩, hW, hsame.mono (by decide) (by decide)⟩
 ·exact retOut X15 hx Bd.returns rfl (Or.inl ⟨rfl, Or.inl rfl, _, rfl⟩) (hb hby d22_13) hr
 ·show QW Z n0 b d ps σ (some (.int (w13 - w17))) _ T15.heap _
  rw [e15]
  exact ⟨rfl, N0, W0⟩
def fStart (σ : St) (q1 : Int32) : Option (Int32 × St) := (rdA σ 3 q1).bind fun w22 => some (w22, σ)
set_option maxRecDepth 65536 in
set_option maxHeartbeats 40000000 in
theorem fStart_ok (l : Launch) (Z : State) (a0 : Array Value) (hw : ∀ d ∈ tables_1, d.before a0 Z = true) (ws : List Jvm.Cond) (b d : Addr) (ps : Nat → Addr) (σ : St) (q1 : Int32) (h0 : Heap) (n0 : Nat) (W0 : Wd Z n0 h0 b d ps σ) (r : Int32 × St) (hf : fStart σ q1 = some r) :
  MetFree l y_4 (head1 (Jvm.Cond.code y_4 prog_3_method_9_code 2 (some .int) :: ws) ({ frames := 0, cells := 0, slots := 0, locals := 0 } : Room)) (fun a U => a = #[.ref b, .int q1] ∧ Z.Warmed39 U.vm ∧ U.heap = h0) (fun _ _ _ _ _ => True) (fun _ U o U' => ∃ v L, o = .returned v ∧ QW Z n0 b d ps r.2 (some (.int r.1)) v U'.heap L ∧ FrameEnd U o U' L ({ frames := 0, cells := 0, slots := 0, locals := 0 } : Room).cells ({ frames := 0, cells := 0, slots := 0, locals := 0 } : Room).slots) := by
 refine MetFree.of_bodySF (plainFor_of_name pn_0) hisR ?_
 intro p e s m args below meth c s₁ Bd hml0 hP hK
 obtain ⟨rfl, hZ, hh⟩ := hP
 have hx := Bd.exec
 have hby := Bd.bytes
 have hml : c.maxLocals = 2 := hml0
 have hown : s.vm.findClass BLn = some m.cls := findClass_of_methodNamed Bd.named
 have hnm := (name_of_methodNamed Bd.named Bd.method).1
 have X0 : Stand p l e ({ frames := 0, cells := 0, slots := 0, locals := 0 } : Room) s m #[.ref b, .int q1] below meth c s₁ [] 0 0 := Stand.of_body Bd
 have e0 : s₁.heap = h0 := by rw [← hh, Bd.state]; rfl
 have N0 := Fr.nil n0
 have K0 := Keep.refl h0 []
 have k0 : Go p.tables e below (s₁.setTop (entryFrame m #[.ref b, .int q1] 2)) (sf s₁ m 0 #[rv b, iv q1] []) := fun t k => castTop (by first | (simp [entryFrame, mkF, argsToLocals, Value.category]; done)) k
 unfold fStart at hf
 generalize s₁.setTop (entryFrame m #[.ref b, .int q1] 2) = B0 at k0 ⊢
 have k_19 : Go p.tables e below B0 (sf s₁ m 1 #[rv b, iv q1] [.ref b]) := fun t q => by
  refine k0 t ?_
  refine s_aloadN X0.here hx (hb hby d24_0) rfl rfl ?_
  exact q
 obtain ⟨T20, X20, e20, st20⟩ := getF X0 hx hZ hown (host := "") (Or.inl (hw _ (wd 45 rfl))) Via.refl e0 (gt_b_start W0) (g := (mkF m 1 #[rv b, iv q1] [.ref b])) rfl rfl (hb hby d24_1)
 have k_21 : Go p.tables e below B0 (sf T20 m 5 #[rv b, iv q1] [.int q1, (.ref (ps 3))]) := fun t q => by
  refine k_19 t ?_
  refine st20 _ ?_
  show Steps _ _ _ (sf T20 m 4 #[rv b, iv q1] [(.ref (ps 3))]) _
  refine s_iloadN X20.here hx (hb hby d24_4) rfl ?_
  exact q
 obtain ⟨w22, c22, hf22⟩ := Option.bind_eq_some_iff.mp hf
 obtain ⟨cl22, Ar22, hin22, hat22⟩ := W0.rd c22
 have k_23 : Go p.tables e below B0 (sf T20 m 6 #[rv b, iv q1] [.int w22]) := fun t q => by
  refine k_21 t ?_
  refine X20.iaload hx (j := q1) (v := (.int w22)) (by rw [e20]; exact Ar22.1) (State.isArrayOf_alike hZ.alike Ar22.2.1) Ar22.2.2 hin22 hat22 (g := (mkF m 5 #[rv b, iv q1] [.int q1, (.ref (ps 3))])) rfl rfl (hb hby d24_5) _ ?_
  show Steps _ _ _ (sf T20 m 6 #[rv b, iv q1] [.int w22]) _
  exact q
 obtain rfl := Option.some.inj hf22
 obtain ⟨fs, hr, hrun, hended, hW, hsame⟩ := X20.leave (v := some (.int w22)) (fun h => by rw [Bd.returns] at h; cases h)
 refine ⟨_, _, k_23 _ ?_, hrun, hended, _, _, rfl, ?_, ⟨_, rfl⟩, hW, hsame.mono (by decide) (by decide)⟩
 ·exact retOut X20 hx Bd.returns rfl (Or.inl ⟨rfl, Or.inl rfl, _, rfl⟩) (hb hby d24_6) hr
 ·show QW Z n0 b d ps σ (some (.int w22)) _ T20.heap _
  rw [e20]
  exact ⟨rfl, N0, W0⟩
def fEnd (σ : St) (q1 : Int32) : Option (Int32 × St) := (rdA σ 4 q1).bind fun w27 => some (w27, σ)
set_option maxRecDepth 65536 in
set_option maxHeartbeats 40000000 in
theorem fEnd_ok (l : Launch) (Z : State) (a0 : Array Value) (hw : ∀ d ∈ tables_1, d.before a0 Z = true) (ws : List Jvm.Cond) (b d : Addr) (ps : Nat → Addr) (σ : St) (q1 : Int32) (h0 : Heap) (n0 : Nat) (W0 : Wd Z n0 h0 b d ps σ) (r : Int32 × St) (hf : fEnd σ q1 = some r) :
  MetFree l y_5 (head1 (Jvm.Cond.code y_5 prog_3_method_10_code 2 (some .int) :: ws) ({ frames := 0, cells := 0, slots := 0, locals := 0 } : Room)) (fun a U => a = #[.ref b, .int q1] ∧ Z.Warmed39 U.vm ∧ U.heap = h0) (fun _ _ _ _ _ => True) (fun _ U o U' => ∃ v L, o = .returned v ∧ QW Z n0 b d ps r.2 (some (.int r.1)) v U'.heap L ∧ FrameEnd U o U' L ({ frames := 0, cells := 0, slots := 0, locals := 0 } : Room).cells ({ frames := 0, cells := 0, slots := 0, locals := 0 } : Room).slots) := by
 refine MetFree.of_bodySF (plainFor_of_name pn_0) hisR ?_
 intro p e s m args below meth c s₁ Bd hml0 hP hK
 obtain ⟨rfl, hZ, hh⟩ := hP
 have hx := Bd.exec
 have hby := Bd.bytes
 have hml : c.maxLocals = 2 := hml0
 have hown : s.vm.findClass BLn = some m.cls := findClass_of_methodNamed Bd.named
 have hnm := (name_of_methodNamed Bd.named Bd.method).1
 have X0 : Stand p l e ({ frames := 0, cells := 0, slots := 0, locals := 0 } : Room) s m #[.ref b, .int q1] below meth c s₁ [] 0 0 := Stand.of_body Bd
 have e0 : s₁.heap = h0 := by rw [← hh, Bd.state]; rfl
 have N0 := Fr.nil n0
 have K0 := Keep.refl h0 []
 have k0 : Go p.tables e below (s₁.setTop (entryFrame m #[.ref b, .int q1] 2)) (sf s₁ m 0 #[rv b, iv q1] []) := fun t k => castTop (by first | (simp [entryFrame, mkF, argsToLocals, Value.category]; done)) k
 unfold fEnd at hf
 generalize s₁.setTop (entryFrame m #[.ref b, .int q1] 2) = B0 at k0 ⊢
 have k_24 : Go p.tables e below B0 (sf s₁ m 1 #[rv b, iv q1] [.ref b]) := fun t q => by
  refine k0 t ?_
  refine s_aloadN X0.here hx (hb hby d25_0) rfl rfl ?_
  exact q
 obtain ⟨T25, X25, e25, st25⟩ := getF X0 hx hZ hown (host := "") (Or.inl (hw _ (wd 47 rfl))) Via.refl e0 (gt_b_end W0) (g := (mkF m 1 #[rv b, iv q1] [.ref b])) rfl rfl (hb hby d25_1)
 have k_26 : Go p.tables e below B0 (sf T25 m 5 #[rv b, iv q1] [.int q1, (.ref (ps 4))]) := fun t q => by
  refine k_24 t ?_
  refine st25 _ ?_
  show Steps _ _ _ (sf T25 m 4 #[rv b, iv q1] [(.ref (ps 4))]) _
  refine s_iloadN X25.here hx (hb hby d25_4) rfl ?_
  exact q
 obtain ⟨w27, c27, hf27⟩ := Option.bind_eq_some_iff.mp hf
 obtain ⟨cl27, Ar27, hin27, hat27⟩ := W0.rd c27
 have k_28 : Go p.tables e below B0 (sf T25 m 6 #[rv b, iv q1] [.int w27]) := fun t q => by
  refine k_26 t ?_
  refine X25.iaload hx (j := q1) (v := (.int w27)) (by rw [e25]; exact Ar27.1) (State.isArrayOf_alike hZ.alike Ar27.2.1) Ar27.2.2 hin27 hat27 (g := (mkF m 5 #[rv b, iv q1] [.int q1, (.ref (ps 4))])) rfl rfl (hb hby d25_5) _ ?_
  show Steps _ _ _ (sf T25 m 6 #[rv b, iv q1] [.int w27]) _
  exact q
 obtain rfl := Option.some.inj hf27
 obtain ⟨fs, hr, hrun, hended, hW, hsame⟩ := X25.leave (v := some (.int w27)) (fun h => by rw [Bd.returns] at h; cases h)
 refine ⟨_, _, k_28 _ ?_, hrun, hended, _, _, rfl, ?_, ⟨_, rfl⟩, hW, hsame.mono (by decide) (by decide)⟩
 ·exact retOut X25 hx Bd.returns rfl (Or.inl ⟨rfl, Or.inl rfl, _, rfl⟩) (hb hby d25_6) hr
 ·show QW Z n0 b d ps σ (some (.int w27)) _ T25.heap _
  rw [e25]
  exact ⟨rfl, N0, W0⟩
def fState (σ : St) (q1 : Int32) : Option (Int32 × St) := (rdA σ 1 q1).bind fun w32 => some (w32, σ)
set_option maxRecDepth 65536 in
set_option maxHeartbeats 40000000 in
theorem fState_ok (l : Launch) (Z : State) (a0 : Array Value) (hw : ∀ d ∈ tables_1, d.before a0 Z = true) (ws : List Jvm.Cond) (b d : Addr) (ps : Nat → Addr) (σ : St) (q1 : Int32) (h0 : Heap) (n0 : Nat) (W0 : Wd Z n0 h0 b d ps σ) (r : Int32 × St) (hf : fState σ q1 = some r) :
  MetFree l y_6 (head1 (Jvm.Cond.code y_6 prog_3_method_11_code 2 (some .int) :: ws) ({ frames := 0, cells := 0, slots := 0, locals := 0 } : Room)) (fun a U => a = #[.ref b, .int q1] ∧ Z.Warmed39 U.vm ∧ U.heap = h0) (fun _ _ _ _ _ => True) (fun _ U o U' => ∃ v L, o = .returned v ∧ QW Z n0 b d ps r.2 (some (.int r.1)) v U'.heap L ∧ FrameEnd U o U' L ({ frames := 0, cells := 0, slots := 0, locals := 0 } : Room).cells ({ frames := 0, cells := 0, slots := 0, locals := 0 } : Room).slots) := by
 refine MetFree.of_bodySF (plainFor_of_name pn_0) hisR ?_
 intro p e s m args below meth c s₁ Bd hml0 hP hK
 obtain ⟨rfl, hZ, hh⟩ := hP
 have hx := Bd.exec
 have hby := Bd.bytes
 have hml : c.maxLocals = 2 := hml0
 have hown : s.vm.findClass BLn = some m.cls := findClass_of_methodNamed Bd.named
 have hnm := (name_of_methodNamed Bd.named Bd.method).1
 have X0 : Stand p l e ({ frames := 0, cells := 0, slots := 0, locals := 0 } : Room) s m #[.ref b, .int q1] below meth c s₁ [] 0 0 := Stand.of_body Bd
 have e0 : s₁.heap = h0 := by rw [← hh, Bd.state]; rfl
 have N0 := Fr.nil n0
 have K0 := Keep.refl h0 []
 have k0 : Go p.tables e below (s₁.setTop (entryFrame m #[.ref b, .int q1] 2)) (sf s₁ m 0 #[rv b, iv q1] []) := fun t k => castTop (by first | (simp [entryFrame, mkF, argsToLocals, Value.category]; done)) k
 unfold fState at hf
 generalize s₁.setTop (entryFrame m #[.ref b, .int q1] 2) = B0 at k0 ⊢
 have k_29 : Go p.tables e below B0 (sf s₁ m 1 #[rv b, iv q1] [.ref b]) := fun t q => by
  refine k0 t ?_
  refine s_aloadN X0.here hx (hb hby d26_0) rfl rfl ?_
  exact q
 obtain ⟨T30, X30, e30, st30⟩ := getF X0 hx hZ hown (host := "") (Or.inl (hw _ (wd 28 rfl))) Via.refl e0 (gt_b_states W0) (g := (mkF m 1 #[rv b, iv q1] [.ref b])) rfl rfl (hb hby d26_1)
 have k_31 : Go p.tables e below B0 (sf T30 m 5 #[rv b, iv q1] [.int q1, (.ref (ps 1))]) := fun t q => by
  refine k_29 t ?_
  refine st30 _ ?_
  show Steps _ _ _ (sf T30 m 4 #[rv b, iv q1] [(.ref (ps 1))]) _
  refine s_iloadN X30.here hx (hb hby d26_4) rfl ?_
  exact q
 obtain ⟨w32, c32, hf32⟩ := Option.bind_eq_some_iff.mp hf
 obtain ⟨cl32, Ar32, hin32, hat32⟩ := W0.rd c32
 have k_33 : Go p.tables e below B0 (sf T30 m 6 #[rv b, iv q1] [.int w32]) := fun t q => by
  refine k_31 t ?_
  refine X30.iaload hx (j := q1) (v := (.int w32)) (by rw [e30]; exact Ar32.1) (State.isArrayOf_alike hZ.alike Ar32.2.1) Ar32.2.2 hin32 hat32 (g := (mkF m 5 #[rv b, iv q1] [.int q1, (.ref (ps 1))])) rfl rfl (hb hby d26_5) _ ?_
  show Steps _ _ _ (sf T30 m 6 #[rv b, iv q1] [.int w32]) _
  exact q
 obtain rfl := Option.some.inj hf32
 obtain ⟨fs, hr, hrun, hended, hW, hsame⟩ := X30.leave (v := some (.int w32)) (fun h => by rw [Bd.returns] at h; cases h)
 refine ⟨_, _, k_33 _ ?_, hrun, hended, _, _, rfl, ?_, ⟨_, rfl⟩, hW, hsame.mono (by decide) (by decide)⟩
 ·exact retOut X30 hx Bd.returns rfl (Or.inl ⟨rfl, Or.inl rfl, _, rfl⟩) (hb hby d26_6) hr
 ·show QW Z n0 b d ps σ (some (.int w32)) _ T30.heap _
  rw [e30]
  exact ⟨rfl, N0, W0⟩
def fBal (σ : St) (q1 q2 : Int32) : Option (Int32 × St) := (rdA σ 12 q1).bind fun w37 => if ((2 : Int32) * w37) = q2 then (some ((1 : Int32), σ)) else (some ((0 : Int32), σ))
set_option maxRecDepth 65536 in
set_option maxHeartbeats 40000000 in
theorem fBal_ok (l : Launch) (Z : State) (a0 : Array Value) (hw : ∀ d ∈ tables_1, d.before a0 Z = true) (ws : List Jvm.Cond) (b d : Addr) (ps : Nat → Addr) (σ : St) (q1 q2 : Int32) (h0 : Heap) (n0 : Nat) (W0 : Wd Z n0 h0 b d ps σ) (r : Int32 × St) (hf : fBal σ q1 q2 = some r) :
  MetFree l y_7 (head1 (Jvm.Cond.code y_7 prog_1_method_8_code 3 (some .boolean) :: ws) ({ frames := 0, cells := 0, slots := 0, locals := 0 } : Room)) (fun a U => a = #[.ref d, .int q1, .int q2] ∧ Z.Warmed39 U.vm ∧ U.heap = h0) (fun _ _ _ _ _ => True) (fun _ U o U' => ∃ v L, o = .returned v ∧ QW Z n0 b d ps r.2 (some (.int r.1)) v U'.heap L ∧ FrameEnd U o U' L ({ frames := 0, cells := 0, slots := 0, locals := 0 } : Room).cells ({ frames := 0, cells := 0, slots := 0, locals := 0 } : Room).slots) := by
 refine MetFree.of_bodySF (plainFor_of_name pn_1) hisR ?_
 intro p e s m args below meth c s₁ Bd hml0 hP hK
 obtain ⟨rfl, hZ, hh⟩ := hP
 have hx := Bd.exec
 have hby := Bd.bytes
 have hml : c.maxLocals = 3 := hml0
 have hown : s.vm.findClass BSn = some m.cls := findClass_of_methodNamed Bd.named
 have hnm := (name_of_methodNamed Bd.named Bd.method).1
 have X0 : Stand p l e ({ frames := 0, cells := 0, slots := 0, locals := 0 } : Room) s m #[.ref d, .int q1, .int q2] below meth c s₁ [] 0 0 := Stand.of_body Bd
 have e0 : s₁.heap = h0 := by rw [← hh, Bd.state]; rfl
 have N0 := Fr.nil n0
 have K0 := Keep.refl h0 []
 have k0 : Go p.tables e below (s₁.setTop (entryFrame m #[.ref d, .int q1, .int q2] 3)) (sf s₁ m 0 #[rv d, iv q1, iv q2] []) := fun t k => castTop (by first | (simp [entryFrame, mkF, argsToLocals, Value.category]; done)) k
 unfold fBal at hf
 generalize s₁.setTop (entryFrame m #[.ref d, .int q1, .int q2] 3) = B0 at k0 ⊢
 have k_34 : Go p.tables e below B0 (sf s₁ m 2 #[rv d, iv q1, iv q2] [.ref d, .int 2]) := fun t q => by
  refine k0 t ?_
  refine s_iconst (x := 2) X0.here hx (hb hby d11_0) rfl ?_
  refine s_aloadN X0.here hx (hb hby d11_1) rfl rfl ?_
  exact q
 obtain ⟨T35, X35, e35, st35⟩ := getF X0 hx hZ hown (host := "") (Or.inl (hw _ (wd 79 rfl))) Via.refl e0 (gt_d_firstCount W0) (g := (mkF m 2 #[rv d, iv q1, iv q2] [.ref d, .int 2])) rfl rfl (hb hby d11_2)
 have k_36 : Go p.tables e below B0 (sf T35 m 6 #[rv d, iv q1, iv q2] [.int q1, (.ref (ps 12)), .int 2]) := fun t q => by
  refine k_34 t ?_
  refine st35 _ ?_
  show Steps _ _ _ (sf T35 m 5 #[rv d, iv q1, iv q2] [(.ref (ps 12)), .int 2]) _
  refine s_iloadN X35.here hx (hb hby d11_5) rfl ?_
  exact q
 obtain ⟨w37, c37, hf37⟩ := Option.bind_eq_some_iff.mp hf
 obtain ⟨cl37, Ar37, hin37, hat37⟩ := W0.rd c37
 have k_38 : Go p.tables e below B0 (sf T35 m 9 #[rv d, iv q1, iv q2] [.int q2, (.int ((2 : Int32) * w37))]) := fun t q => by
  refine k_36 t ?_
  refine X35.iaload hx (j := q1) (v := (.int w37)) (by rw [e35]; exact Ar37.1) (State.isArrayOf_alike hZ.alike Ar37.2.1) Ar37.2.2 hin37 hat37 (g := (mkF m 6 #[rv d, iv q1, iv q2] [.int q1, (.ref (ps 12)), .int 2])) rfl rfl (hb hby d11_6) _ ?_
  show Steps _ _ _ (sf T35 m 7 #[rv d, iv q1, iv q2] [.int w37, .int 2]) _
  refine s_imul X35.here hx (hb hby d11_7) ?_
  refine s_iloadN X35.here hx (hb hby d11_8) rfl ?_
  exact q
 by_cases hc39 : ((2 : Int32) * w37) = q2
 ·rw [if_pos hc39] at hf37
  have k_40 : Go p.tables e below B0 (sf T35 m 17 #[rv d, iv q1, iv q2] [.int 1]) := fun t q => by
   refine k_38 t ?_
   refine s_icmpNo X35.here hx (hb hby d11_9) (teq hc39).2 ?_
   refine s_iconst (x := 1) X35.here hx (hb hby d11_12) rfl ?_
   refine s_goto X35.here hx (pc' := 17) (hb hby d11_13) (by decide) (by decide) ?_
   exact q
  obtain rfl := Option.some.inj hf37
  obtain ⟨fs, hr, hrun, hended, hW, hsame⟩ := X35.leave (v := some (.int 1)) (fun h => by rw [Bd.returns] at h; cases h)
  refine ⟨_, _, k_40 _ ?_, hrun, hended, _, _, rfl, ?_, ⟨_, rfl⟩, hW, hsame.mono (by decide) (by decide)⟩
  ·exact retN X35 hx (t := .boolean) Bd.returns (by simp) (hb hby d11_17) hr
  ·show QW Z n0 b d ps σ (some (.int 1)) _ T35.heap _
   rw [e35]
   exact ⟨rfl, N0, W0⟩
 ·rw [if_neg hc39] at hf37
  have k_41 : Go p.tables e below B0 (sf T35 m 17 #[rv d, iv q1, iv q2] [.int 0]) := fun t q => by
   refine k_38 t ?_
   refine s_icmpYes X35.here hx (pc' := 16) (hb hby d11_9) (feq hc39).2 (by decide) (by decide) ?_
   refine s_iconst (x := 0) X35.here hx (hb hby d11_16) rfl ?_
   exact q
  obtain rfl := Option.some.inj hf37
  obtain ⟨fs, hr, hrun, hended, hW, hsame⟩ := X35.leave (v := some (.int 0)) (fun h => by rw [Bd.returns] at h; cases h)
  refine ⟨_, _, k_41 _ ?_, hrun, hended, _, _, rfl, ?_, ⟨_, rfl⟩, hW, hsame.mono (by decide) (by decide)⟩
  ·exact retN X35 hx (t := .boolean) Bd.returns (by simp) (hb hby d11_17) hr
  ·show QW Z n0 b d ps σ (some (.int 0)) _ T35.heap _
   rw [e35]
   exact ⟨rfl, N0, W0⟩
def fEnter (σ : St) (q1 : Int32) : Option (Int32 × St) := (rdA σ 12 q1).bind fun w45 => if w45 < (2 : Int32) then (some ((0 : Int32), σ)) else ((rdA σ 13 w45).bind fun w52 => (wrA σ 14 q1 w52).bind fun σ56 => (wrA σ56 15 q1 (-1 : Int32)).bind fun σ61 => if w52 = (-1 : Int32) then ((wrA σ61 13 w45 q1).bind fun σ68 => (some (wrI σ68 5 (mxI (rdI σ68 5) w45))).bind fun σ75 => some ((0 : Int32), σ75)) else ((wrA σ61 15 w52 q1).bind fun σ81 => (wrA σ81 13 w45 q1).bind fun σ86 => (some (wrI σ86 5 (mxI (rdI σ86 5) w45))).bind fun σ93 => some ((0 : Int32), σ93)))
set_option maxRecDepth 65536 in
set_option maxHeartbeats 40000000 in
theorem fEnter_ok (l : Launch) (Z : State) (a0 : Array Value) (hw : ∀ d ∈ tables_1, d.before a0 Z = true) (ws : List Jvm.Cond) (b d : Addr) (ps : Nat → Addr) (σ : St) (q1 : Int32) (h0 : Heap) (n0 : Nat) (W0 : Wd Z n0 h0 b d ps σ) (r : Int32 × St) (hf : fEnter σ q1 = some r) :
  MetFree l y_8 (head1 (Jvm.Cond.code y_8 prog_1_method_11_code 4 none :: ws) ({ frames := 1, cells := 0, slots := 0, locals := 14 } : Room)) (fun a U => a = #[.ref d, .int q1] ∧ Z.Warmed39 U.vm ∧ U.heap = h0) (fun _ _ _ _ _ => True) (fun _ U o U' => ∃ v L, o = .returned v ∧ QW Z n0 b d ps r.2 none v U'.heap L ∧ FrameEnd U o U' L ({ frames := 1, cells := 0, slots := 0, locals := 14 } : Room).cells ({ frames := 1, cells := 0, slots := 0, locals := 14 } : Room).slots) := by
 refine MetFree.of_bodySF (plainFor_of_name pn_1) hisR ?_
 intro p e s m args below meth c s₁ Bd hml0 hP hK
 obtain ⟨rfl, hZ, hh⟩ := hP
 have hx := Bd.exec
 have hby := Bd.bytes
 have hml : c.maxLocals = 4 := hml0
 have hown : s.vm.findClass BSn = some m.cls := findClass_of_methodNamed Bd.named
 have hnm := (name_of_methodNamed Bd.named Bd.method).1
 have X0 : Stand p l e ({ frames := 1, cells := 0, slots := 0, locals := 14 } : Room) s m #[.ref d, .int q1] below meth c s₁ [] 0 0 := Stand.of_body Bd
 have e0 : s₁.heap = h0 := by rw [← hh, Bd.state]; rfl
 have N0 := Fr.nil n0
 have K0 := Keep.refl h0 []
 have k0 : Go p.tables e below (s₁.setTop (entryFrame m #[.ref d, .int q1] 4)) (sf s₁ m 0 #[rv d, iv q1, nu, nu] []) := fun t k => castTop (by first | (simp [entryFrame, mkF, argsToLocals, Value.category]; done)) k
 unfold fEnter at hf
 generalize s₁.setTop (entryFrame m #[.ref d, .int q1] 4) = B0 at k0 ⊢
 have k_42 : Go p.tables e below B0 (sf s₁ m 1 #[rv d, iv q1, nu, nu] [.ref d]) := fun t q => by
  refine k0 t ?_
  refine s_aloadN X0.here hx (hb hby d12_0) rfl rfl ?_
  exact q
 obtain ⟨T43, X43, e43, st43⟩ := getF X0 hx hZ hown (host := "") (Or.inl (hw _ (wd 79 rfl))) Via.refl e0 (gt_d_firstCount W0) (g := (mkF m 1 #[rv d, iv q1, nu, nu] [.ref d])) rfl rfl (hb hby d12_1)
 have k_44 : Go p.tables e below B0 (sf T43 m 5 #[rv d, iv q1, nu, nu] [.int q1, (.ref (ps 12))]) := fun t q => by
  refine k_42 t ?_
  refine st43 _ ?_
  show Steps _ _ _ (sf T43 m 4 #[rv d, iv q1, nu, nu] [(.ref (ps 12))]) _
  refine s_iloadN X43.here hx (hb hby d12_4) rfl ?_
  exact q
 obtain ⟨w45, c45, hf45⟩ := Option.bind_eq_some_iff.mp hf
 obtain ⟨cl45, Ar45, hin45, hat45⟩ := W0.rd c45
 have k_46 : Go p.tables e below B0 (sf T43 m 9 #[rv d, iv q1, iv w45, nu] [.int 2, .int w45]) := fun t q => by
  refine k_44 t ?_
  refine X43.iaload hx (j := q1) (v := (.int w45)) (by rw [e43]; exact Ar45.1) (State.isArrayOf_alike hZ.alike Ar45.2.1) Ar45.2.2 hin45 hat45 (g := (mkF m 5 #[rv d, iv q1, nu, nu] [.int q1, (.ref (ps 12))])) rfl rfl (hb hby d12_5) _ ?_
  show Steps _ _ _ (sf T43 m 6 #[rv d, iv q1, nu, nu] [.int w45]) _
  refine s_istoreN X43.here hx (hb hby d12_6) (l' := #[rv d, iv q1, iv w45, nu]) rfl ?_
  refine s_iloadN X43.here hx (hb hby d12_7) rfl ?_
  refine s_iconst (x := 2) X43.here hx (hb hby d12_8) rfl ?_
  exact q
 by_cases hc47 : w45 < (2 : Int32)
 ·rw [if_pos hc47] at hf45
  have k_48 : Go p.tables e below B0 (sf T43 m 64 #[rv d, iv q1, iv w45, nu] []) := fun t q => by
   refine k_46 t ?_
   refine s_icmpYes X43.here hx (pc' := 64) (hb hby d12_9) (tlt hc47).1 (by decide) (by decide) ?_
   exact q
  obtain rfl := Option.some.inj hf45
  obtain ⟨fs, hr, hrun, hended, hW, hsame⟩ := X43.leave (v := none) (fun _ => rfl)
  refine ⟨_, _, k_48 _ ?_, hrun, hended, _, _, rfl, ?_, ⟨_, rfl⟩, hW, hsame.mono (by decide) (by decide)⟩
  ·exact X43.returnOut hx Bd.returns (hb hby d12_64) hr
  ·show QW Z n0 b d ps σ none _ T43.heap _
   rw [e43]
   exact ⟨rfl, N0, W0⟩
 ·rw [if_neg hc47] at hf45
  have k_49 : Go p.tables e below B0 (sf T43 m 13 #[rv d, iv q1, iv w45, nu] [.ref d]) := fun t q => by
   refine k_46 t ?_
   refine s_icmpNo X43.here hx (hb hby d12_9) (flt hc47).1 ?_
   refine s_aloadN X43.here hx (hb hby d12_12) rfl rfl ?_
   exact q
  obtain ⟨T50, X50, e50, st50⟩ := getF X43 hx hZ hown (host := "") (Or.inl (hw _ (wd 81 rfl))) Via.refl e43 (gt_d_bucket W0) (g := (mkF m 13 #[rv d, iv q1, iv w45, nu] [.ref d])) rfl rfl (hb hby d12_13)
  have k_51 : Go p.tables e below B0 (sf T50 m 17 #[rv d, iv q1, iv w45, nu] [.int w45, (.ref (ps 13))]) := fun t q => by
   refine k_49 t ?_
   refine st50 _ ?_
   show Steps _ _ _ (sf T50 m 16 #[rv d, iv q1, iv w45, nu] [(.ref (ps 13))]) _
   refine s_iloadN X50.here hx (hb hby d12_16) rfl ?_
   exact q
  obtain ⟨w52, c52, hf52⟩ := Option.bind_eq_some_iff.mp hf45
  obtain ⟨cl52, Ar52, hin52, hat52⟩ := W0.rd c52
  have k_53 : Go p.tables e below B0 (sf T50 m 20 #[rv d, iv q1, iv w45, iv w52] [.ref d]) := fun t q => by
   refine k_51 t ?_
   refine X50.iaload hx (j := w45) (v := (.int w52)) (by rw [e50]; exact Ar52.1) (State.isArrayOf_alike hZ.alike Ar52.2.1) Ar52.2.2 hin52 hat52 (g := (mkF m 17 #[rv d, iv q1, iv w45, nu] [.int w45, (.ref (ps 13))])) rfl rfl (hb hby d12_17) _ ?_
   show Steps _ _ _ (sf T50 m 18 #[rv d, iv q1, iv w45, nu] [.int w52]) _
   refine s_istoreN X50.here hx (hb hby d12_18) (l' := #[rv d, iv q1, iv w45, iv w52]) rfl ?_
   refine s_aloadN X50.here hx (hb hby d12_19) rfl rfl ?_
   exact q
  obtain ⟨T54, X54, e54, st54⟩ := getF X50 hx hZ hown (host := "") (Or.inl (hw _ (wd 83 rfl))) Via.refl e50 (gt_d_nextInBucket W0) (g := (mkF m 20 #[rv d, iv q1, iv w45, iv w52] [.ref d])) rfl rfl (hb hby d12_20)
  have k_55 : Go p.tables e below B0 (sf T54 m 25 #[rv d, iv q1, iv w45, iv w52] [.int w52, .int q1, (.ref (ps 14))]) := fun t q => by
   refine k_53 t ?_
   refine st54 _ ?_
   show Steps _ _ _ (sf T54 m 23 #[rv d, iv q1, iv w45, iv w52] [(.ref (ps 14))]) _
   refine s_iloadN X54.here hx (hb hby d12_23) rfl ?_
   refine s_iloadN X54.here hx (hb hby d12_24) rfl ?_
   exact q
  obtain ⟨σ56, c56, hf56⟩ := Option.bind_eq_some_iff.mp hf52
  obtain ⟨cl56, Ar56, hin56, gp56, nx56⟩ := W0.wr hw c56
  obtain ⟨T57, h57, X57, e57, W57, st57⟩ := stI X54 hx hZ e54 Ar56 (j := q1) hin56 (g := (mkF m 25 #[rv d, iv q1, iv w45, iv w52] [.int w52, .int q1, (.ref (ps 14))])) rfl rfl (hb hby d12_25)
  have w57 := nx56 _ W57
  have N57 := Fr.snoc X57 N0 gp56
  have k_58 : Go p.tables e below B0 (sf T57 m 27 #[rv d, iv q1, iv w45, iv w52] [.ref d]) := fun t q => by
   refine k_55 t ?_
   refine st57 _ ?_
   show Steps _ _ _ (sf T57 m 26 #[rv d, iv q1, iv w45, iv w52] []) _
   refine s_aloadN X57.here hx (hb hby d12_26) rfl rfl ?_
   exact q
  obtain ⟨T59, X59, e59, st59⟩ := getF X57 hx hZ hown (host := "") (Or.inl (hw _ (wd 85 rfl))) Via.refl e57 (gt_d_previousInBucket w57) (g := (mkF m 27 #[rv d, iv q1, iv w45, iv w52] [.ref d])) rfl rfl (hb hby d12_27)
  have k_60 : Go p.tables e below B0 (sf T59 m 32 #[rv d, iv q1, iv w45, iv w52] [(.int (-1 : Int32)), .int q1, (.ref (ps 15))]) := fun t q => by
   refine k_58 t ?_
   refine st59 _ ?_
   show Steps _ _ _ (sf T59 m 30 #[rv d, iv q1, iv w45, iv w52] [(.ref (ps 15))]) _
   refine s_iloadN X59.here hx (hb hby d12_30) rfl ?_
   refine s_iconst (x := -1) X59.here hx (hb hby d12_31) rfl ?_
   exact q
  obtain ⟨σ61, c61, hf61⟩ := Option.bind_eq_some_iff.mp hf56
  obtain ⟨cl61, Ar61, hin61, gp61, nx61⟩ := w57.wr hw c61
  obtain ⟨T62, h62, X62, e62, W62, st62⟩ := stI X59 hx hZ e59 Ar61 (j := q1) hin61 (g := (mkF m 32 #[rv d, iv q1, iv w45, iv w52] [(.int (-1 : Int32)), .int q1, (.ref (ps 15))])) rfl rfl (hb hby d12_32)
  have w62 := nx61 _ W62
  have N62 := Fr.snoc X62 N57 gp61
  have k_63 : Go p.tables e below B0 (sf T62 m 35 #[rv d, iv q1, iv w45, iv w52] [(.int (-1 : Int32)), .int w52]) := fun t q => by
   refine k_60 t ?_
   refine st62 _ ?_
   show Steps _ _ _ (sf T62 m 33 #[rv d, iv q1, iv w45, iv w52] []) _
   refine s_iloadN X62.here hx (hb hby d12_33) rfl ?_
   refine s_iconst (x := -1) X62.here hx (hb hby d12_34) rfl ?_
   exact q
  by_cases hc64 : w52 = (-1 : Int32)
  ·rw [if_pos hc64] at hf61
   have k_65 : Go p.tables e below B0 (sf T62 m 46 #[rv d, iv q1, iv w45, iv w52] [.ref d]) := fun t q => by
    refine k_63 t ?_
    refine s_icmpYes X62.here hx (pc' := 45) (hb hby d12_35) (teq hc64).1 (by decide) (by decide) ?_
    refine s_aloadN X62.here hx (hb hby d12_45) rfl rfl ?_
    exact q
   obtain ⟨T66, X66, e66, st66⟩ := getF X62 hx hZ hown (host := "") (Or.inl (hw _ (wd 81 rfl))) Via.refl e62 (gt_d_bucket w62) (g := (mkF m 46 #[rv d, iv q1, iv w45, iv w52] [.ref d])) rfl rfl (hb hby d12_46)
   have k_67 : Go p.tables e below B0 (sf T66 m 51 #[rv d, iv q1, iv w45, iv w52] [.int q1, .int w45, (.ref (ps 13))]) := fun t q => by
    refine k_65 t ?_
    refine st66 _ ?_
    show Steps _ _ _ (sf T66 m 49 #[rv d, iv q1, iv w45, iv w52] [(.ref (ps 13))]) _
    refine s_iloadN X66.here hx (hb hby d12_49) rfl ?_
    refine s_iloadN X66.here hx (hb hby d12_50) rfl ?_
    exact q
   obtain ⟨σ68, c68, hf68⟩ := Option.bind_eq_some_iff.mp hf61
   obtain ⟨cl68, Ar68, hin68, gp68, nx68⟩ := w62.wr hw c68
   obtain ⟨T69, h69, X69, e69, W69, st69⟩ := stI X66 hx hZ e66 Ar68 (j := w45) hin68 (g := (mkF m 51 #[rv d, iv q1, iv w45, iv w52] [.int q1, .int w45, (.ref (ps 13))])) rfl rfl (hb hby d12_51)
   have w69 := nx68 _ W69
   have N69 := Fr.snoc X69 N62 gp68
   have k_70 : Go p.tables e below B0 (sf T69 m 54 #[rv d, iv q1, iv w45, iv w52] [.ref d, .ref d]) := fun t q => by
    refine k_67 t ?_
    refine st69 _ ?_
    show Steps _ _ _ (sf T69 m 52 #[rv d, iv q1, iv w45, iv w52] []) _
    refine s_aloadN X69.here hx (hb hby d12_52) rfl rfl ?_
    refine s_aloadN X69.here hx (hb hby d12_53) rfl rfl ?_
    exact q
   obtain ⟨T71, X71, e71, st71⟩ := getF X69 hx hZ hown (host := "") (Or.inl (hw _ (wd 105 rfl))) Via.refl e69 (gt_d_highest w69) (g := (mkF m 54 #[rv d, iv q1, iv w45, iv w52] [.ref d, .ref d])) rfl rfl (hb hby d12_54)
   have k_72 : Go p.tables e below B0 (sf T71 m 58 #[rv d, iv q1, iv w45, iv w52] [.int w45, (.int (rdI σ68 5)), .ref d]) := fun t q => by
    refine k_70 t ?_
    refine st71 _ ?_
    show Steps _ _ _ (sf T71 m 57 #[rv d, iv q1, iv w45, iv w52] [(.int (rdI σ68 5)), .ref d]) _
    refine s_iloadN X71.here hx (hb hby d12_57) rfl ?_
    exact q
   obtain ⟨_, _, ⟨T73, L73, k73, n73⟩, -, X73, ⟨Lc73, hQ73, l73, y73, z73⟩, st73⟩ := Jvm.LawKit.callS X71 hx (y := y_0) hown (mvT hZ (hw _ (wd 68 rfl))) (mvT hZ (hw _ (wd 19 rfl))) (mvT hZ (hw _ (wd 16 rfl))) (mvT hZ (hw _ (wd 20 rfl))) (by decide) (backOf (W := 1) (m_max l Z a0 hw [] (rdI σ68 5) w45 h69 n0) hZ (hw _ (wd 20 rfl)) (hw _ (wd 16 rfl)) (by decide) (by decide)) (g := (mkF m 58 #[rv d, iv q1, iv w45, iv w52] [.int w45, (.int (rdI σ68 5)), .ref d])) rfl (by rw [hml]; rfl) (argsL := [(.int (rdI σ68 5)), .int w45]) (rest := [.ref d]) (lenOf pd_0 rfl) rfl (by show 2 * 0 + _ ≤ _; exact Nat.le_of_eq rfl) (hb hby d12_58) (fun _ _ => ⟨rfl, e71, (by decide : 0 + 0 ≤ _), (by decide : 0 + 0 ≤ _)⟩)
   dsimp only [Pt.U, Pt.locs, Pt.cells, Pt.slots] at X73 l73 y73 z73 st73 hQ73
   subst l73 y73 z73
   obtain ⟨rfl, N73q, e73⟩ := hQ73
   have N73 := Fr.app N69 N73q
   have k_74 : Go p.tables e below B0 (sf T73 m 61 #[rv d, iv q1, iv w45, iv w52] [(.int (mxI (rdI σ68 5) w45)), .ref d]) := fun t q => by
    refine k_72 t ?_
    refine st73 _ ?_
    show Steps _ _ _ (sf T73 m 61 #[rv d, iv q1, iv w45, iv w52] [(.int (mxI (rdI σ68 5) w45)), .ref d]) _
    exact q
   obtain ⟨σ75, c75, hf75⟩ := Option.bind_eq_some_iff.mp hf68
   obtain ⟨T76, h76, X76, e76, W76, st76⟩ := putF X73 hx hZ hown (host := "") (Or.inl (hw _ (wd 105 rfl))) Via.refl e73 (gt_d_highest w69) (w69.2.1.2.2.1) (Or.inl (hw _ (wd 106 rfl))) (hw _ (wd 56 rfl)) (ty := .int) (by decide) rfl rfl (g := (mkF m 61 #[rv d, iv q1, iv w45, iv w52] [(.int (mxI (rdI σ68 5) w45)), .ref d])) rfl rfl (hb hby d12_61)
   have N76 := Fr.snoc X76 N73 w69.2.2.2.1
   have w76 := pt_d_highest hw w69 W76
   rw [Option.some.inj c75] at w76
   have k_77 : Go p.tables e below B0 (sf T76 m 64 #[rv d, iv q1, iv w45, iv w52] []) := fun t q => by
    refine k_74 t ?_
    refine st76 _ ?_
    show Steps _ _ _ (sf T76 m 64 #[rv d, iv q1, iv w45, iv w52] []) _
    exact q
   obtain rfl := Option.some.inj hf75
   obtain ⟨fs, hr, hrun, hended, hW, hsame⟩ := X76.leave (v := none) (fun _ => rfl)
   refine ⟨_, _, k_77 _ ?_, hrun, hended, _, _, rfl, ?_, ⟨_, rfl⟩, hW, hsame.mono (by decide) (by decide)⟩
   ·exact X76.returnOut hx Bd.returns (hb hby d12_64) hr
   ·show QW Z n0 b d ps σ75 none _ T76.heap _
    rw [e76]
    exact ⟨rfl, N76, w76⟩
  ·rw [if_neg hc64] at hf61
   have k_78 : Go p.tables e below B0 (sf T62 m 39 #[rv d, iv q1, iv w45, iv w52] [.ref d]) := fun t q => by
    refine k_63 t ?_
    refine s_icmpNo X62.here hx (hb hby d12_35) (feq hc64).1 ?_
    refine s_aloadN X62.here hx (hb hby d12_38) rfl rfl ?_
    exact q
   obtain ⟨T79, X79, e79, st79⟩ := getF X62 hx hZ hown (host := "") (Or.inl (hw _ (wd 85 rfl))) Via.refl e62 (gt_d_previousInBucket w62) (g := (mkF m 39 #[rv d, iv q1, iv w45, iv w52] [.ref d])) rfl rfl (hb hby d12_39)
   have k_80 : Go p.tables e below B0 (sf T79 m 44 #[rv d, iv q1, iv w45, iv w52] [.int q1, .int w52, (.ref (ps 15))]) := fun t q => by
    refine k_78 t ?_
    refine st79 _ ?_
    show Steps _ _ _ (sf T79 m 42 #[rv d, iv q1, iv w45, iv w52] [(.ref (ps 15))]) _
    refine s_iloadN X79.here hx (hb hby d12_42) rfl ?_
    refine s_iloadN X79.here hx (hb hby d12_43) rfl ?_
    exact q
   obtain ⟨σ81, c81, hf81⟩ := Option.bind_eq_some_iff.mp hf61
   obtain ⟨cl81, Ar81, hin81, gp81, nx81⟩ := w62.wr hw c81
   obtain ⟨T82, h82, X82, e82, W82, st82⟩ := stI X79 hx hZ e79 Ar81 (j := w52) hin81 (g := (mkF m 44 #[rv d, iv q1, iv w45, iv w52] [.int q1, .int w52, (.ref (ps 15))])) rfl rfl (hb hby d12_44)
   have w82 := nx81 _ W82
   have N82 := Fr.snoc X82 N62 gp81
   have k_83 : Go p.tables e below B0 (sf T82 m 46 #[rv d, iv q1, iv w45, iv w52] [.ref d]) := fun t q => by
    refine k_80 t ?_
    refine st82 _ ?_
    show Steps _ _ _ (sf T82 m 45 #[rv d, iv q1, iv w45, iv w52] []) _
    refine s_aloadN X82.here hx (hb hby d12_45) rfl rfl ?_
    exact q
   obtain ⟨T84, X84, e84, st84⟩ := getF X82 hx hZ hown (host := "") (Or.inl (hw _ (wd 81 rfl))) Via.refl e82 (gt_d_bucket w82) (g := (mkF m 46 #[rv d, iv q1, iv w45, iv w52] [.ref d])) rfl rfl (hb hby d12_46)
   have k_85 : Go p.tables e below B0 (sf T84 m 51 #[rv d, iv q1, iv w45, iv w52] [.int q1, .int w45, (.ref (ps 13))]) := fun t q => by
    refine k_83 t ?_
    refine st84 _ ?_
    show Steps _ _ _ (sf T84 m 49 #[rv d, iv q1, iv w45, iv w52] [(.ref (ps 13))]) _
    refine s_iloadN X84.here hx (hb hby d12_49) rfl ?_
    refine s_iloadN X84.here hx (hb hby d12_50) rfl ?_
    exact q
   obtain ⟨σ86, c86, hf86⟩ := Option.bind_eq_some_iff.mp hf81
   obtain ⟨cl86, Ar86, hin86, gp86, nx86⟩ := w82.wr hw c86
   obtain ⟨T87, h87, X87, e87, W87, st87⟩ := stI X84 hx hZ e84 Ar86 (j := w45) hin86 (g := (mkF m 51 #[rv d, iv q1, iv w45, iv w52] [.int q1, .int w45, (.ref (ps 13))])) rfl rfl (hb hby d12_51)
   have w87 := nx86 _ W87
   have N87 := Fr.snoc X87 N82 gp86
   have k_88 : Go p.tables e below B0 (sf T87 m 54 #[rv d, iv q1, iv w45, iv w52] [.ref d, .ref d]) := fun t q => by
    refine k_85 t ?_
    refine st87 _ ?_
    show Steps _ _ _ (sf T87 m 52 #[rv d, iv q1, iv w45, iv w52] []) _
    refine s_aloadN X87.here hx (hb hby d12_52) rfl rfl ?_
    refine s_aloadN X87.here hx (hb hby d12_53) rfl rfl ?_
    exact q
   obtain ⟨T89, X89, e89, st89⟩ := getF X87 hx hZ hown (host := "") (Or.inl (hw _ (wd 105 rfl))) Via.refl e87 (gt_d_highest w87) (g := (mkF m 54 #[rv d, iv q1, iv w45, iv w52] [.ref d, .ref d])) rfl rfl (hb hby d12_54)
   have k_90 : Go p.tables e below B0 (sf T89 m 58 #[rv d, iv q1, iv w45, iv w52] [.int w45, (.int (rdI σ86 5)), .ref d]) := fun t q => by
    refine k_88 t ?_
    refine st89 _ ?_
    show Steps _ _ _ (sf T89 m 57 #[rv d, iv q1, iv w45, iv w52] [(.int (rdI σ86 5)), .ref d]) _
    refine s_iloadN X89.here hx (hb hby d12_57) rfl ?_
    exact q
   obtain ⟨_, _, ⟨T91, L91, k91, n91⟩, -, X91, ⟨Lc91, hQ91, l91, y91, z91⟩, st91⟩ := Jvm.LawKit.callS X89 hx (y := y_0) hown (mvT hZ (hw _ (wd 68 rfl))) (mvT hZ (hw _ (wd 19 rfl))) (mvT hZ (hw _ (wd 16 rfl))) (mvT hZ (hw _ (wd 20 rfl))) (by decide) (backOf (W := 1) (m_max l Z a0 hw [] (rdI σ86 5) w45 h87 n0) hZ (hw _ (wd 20 rfl)) (hw _ (wd 16 rfl)) (by decide) (by decide)) (g := (mkF m 58 #[rv d, iv q1, iv w45, iv w52] [.int w45, (.int (rdI σ86 5)), .ref d])) rfl (by rw [hml]; rfl) (argsL := [(.int (rdI σ86 5)), .int w45]) (rest := [.ref d]) (lenOf pd_0 rfl) rfl (by show 2 * 0 + _ ≤ _; exact Nat.le_of_eq rfl) (hb hby d12_58) (fun _ _ => ⟨rfl, e89, (by decide : 0 + 0 ≤ _), (by decide : 0 + 0 ≤ _)⟩)
   dsimp only [Pt.U, Pt.locs, Pt.cells, Pt.slots] at X91 l91 y91 z91 st91 hQ91
   subst l91 y91 z91
   obtain ⟨rfl, N91q, e91⟩ := hQ91
   have N91 := Fr.app N87 N91q
   have k_92 : Go p.tables e below B0 (sf T91 m 61 #[rv d, iv q1, iv w45, iv w52] [(.int (mxI (rdI σ86 5) w45)), .ref d]) := fun t q => by
    refine k_90 t ?_
    refine st91 _ ?_
    show Steps _ _ _ (sf T91 m 61 #[rv d, iv q1, iv w45, iv w52] [(.int (mxI (rdI σ86 5) w45)), .ref d]) _
    exact q
   obtain ⟨σ93, c93, hf93⟩ := Option.bind_eq_some_iff.mp hf86
   obtain ⟨T94, h94, X94, e94, W94, st94⟩ := putF X91 hx hZ hown (host := "") (Or.inl (hw _ (wd 105 rfl))) Via.refl e91 (gt_d_highest w87) (w87.2.1.2.2.1) (Or.inl (hw _ (wd 106 rfl))) (hw _ (wd 56 rfl)) (ty := .int) (by decide) rfl rfl (g := (mkF m 61 #[rv d, iv q1, iv w45, iv w52] [(.int (mxI (rdI σ86 5) w45)), .ref d])) rfl rfl (hb hby d12_61)
   have N94 := Fr.snoc X94 N91 w87.2.2.2.1
   have w94 := pt_d_highest hw w87 W94
   rw [Option.some.inj c93] at w94
   have k_95 : Go p.tables e below B0 (sf T94 m 64 #[rv d, iv q1, iv w45, iv w52] []) := fun t q => by
    refine k_92 t ?_
    refine st94 _ ?_
    show Steps _ _ _ (sf T94 m 64 #[rv d, iv q1, iv w45, iv w52] []) _
    exact q
   obtain rfl := Option.some.inj hf93
   obtain ⟨fs, hr, hrun, hended, hW, hsame⟩ := X94.leave (v := none) (fun _ => rfl)
   refine ⟨_, _, k_95 _ ?_, hrun, hended, _, _, rfl, ?_, ⟨_, rfl⟩, hW, hsame.mono (by decide) (by decide)⟩
   ·exact X94.returnOut hx Bd.returns (hb hby d12_64) hr
   ·show QW Z n0 b d ps σ93 none _ T94.heap _
    rw [e94]
    exact ⟨rfl, N94, w94⟩
def fLeave (σ : St) (q1 : Int32) : Option (Int32 × St) := (rdA σ 12 q1).bind fun w99 => if w99 < (2 : Int32) then (some ((0 : Int32), σ)) else ((rdA σ 15 q1).bind fun w106 => if w106 = (-1 : Int32) then ((rdA σ 14 q1).bind fun w114 => (wrA σ 13 w99 w114).bind fun σ116 => (rdA σ116 14 q1).bind fun w121 => if w121 = (-1 : Int32) then (some ((0 : Int32), σ116)) else ((rdA σ116 14 q1).bind fun w130 => (rdA σ116 15 q1).bind fun w134 => (wrA σ116 15 w130 w134).bind fun σ136 => some ((0 : Int32), σ136))) else ((rdA σ 15 q1).bind fun w144 => (rdA σ 14 q1).bind fun w148 => (wrA σ 14 w144 w148).bind fun σ150 => (rdA σ150 14 q1).bind fun w155 => if w155 = (-1 : Int32) then (some ((0 : Int32), σ150)) else ((rdA σ150 14 q1).bind fun w164 => (rdA σ150 15 q1).bind fun w168 => (wrA σ150 15 w164 w168).bind fun σ170 => some ((0 : Int32), σ170))))
set_option maxRecDepth 65536 in
set_option maxHeartbeats 40000000 in
theorem fLeave_ok (l : Launch) (Z : State) (a0 : Array Value) (hw : ∀ d ∈ tables_1, d.before a0 Z = true) (ws : List Jvm.Cond) (b d : Addr) (ps : Nat → Addr) (σ : St) (q1 : Int32) (h0 : Heap) (n0 : Nat) (W0 : Wd Z n0 h0 b d ps σ) (r : Int32 × St) (hf : fLeave σ q1 = some r) :
  MetFree l y_9 (head1 (Jvm.Cond.code y_9 prog_1_method_12_code 3 none :: ws) ({ frames := 0, cells := 0, slots := 0, locals := 0 } : Room)) (fun a U => a = #[.ref d, .int q1] ∧ Z.Warmed39 U.vm ∧ U.heap = h0) (fun _ _ _ _ _ => True) (fun _ U o U' => ∃ v L, o = .returned v ∧ QW Z n0 b d ps r.2 none v U'.heap L ∧ FrameEnd U o U' L ({ frames := 0, cells := 0, slots := 0, locals := 0 } : Room).cells ({ frames := 0, cells := 0, slots := 0, locals := 0 } : Room).slots) := by
 refine MetFree.of_bodySF (plainFor_of_name pn_1) hisR ?_
 intro p e s m args below meth c s₁ Bd hml0 hP hK
 obtain ⟨rfl, hZ, hh⟩ := hP
 have hx := Bd.exec
 have hby := Bd.bytes
 have hml : c.maxLocals = 3 := hml0
 have hown : s.vm.findClass BSn = some m.cls := findClass_of_methodNamed Bd.named
 have hnm := (name_of_methodNamed Bd.named Bd.method).1
 have X0 : Stand p l e ({ frames := 0, cells := 0, slots := 0, locals := 0 } : Room) s m #[.ref d, .int q1] below meth c s₁ [] 0 0 := Stand.of_body Bd
 have e0 : s₁.heap = h0 := by rw [← hh, Bd.state]; rfl
 have N0 := Fr.nil n0
 have K0 := Keep.refl h0 []
 have k0 : Go p.tables e below (s₁.setTop (entryFrame m #[.ref d, .int q1] 3)) (sf s₁ m 0 #[rv d, iv q1, nu] []) := fun t k => castTop (by first | (simp [entryFrame, mkF, argsToLocals, Value.category]; done)) k
 unfold fLeave at hf
 generalize s₁.setTop (entryFrame m #[.ref d, .int q1] 3) = B0 at k0 ⊢
 have k_96 : Go p.tables e below B0 (sf s₁ m 1 #[rv d, iv q1, nu] [.ref d]) := fun t q => by
  refine k0 t ?_
  refine s_aloadN X0.here hx (hb hby d23_0) rfl rfl ?_
  exact q
 obtain ⟨T97, X97, e97, st97⟩ := getF X0 hx hZ hown (host := "") (Or.inl (hw _ (wd 79 rfl))) Via.refl e0 (gt_d_firstCount W0) (g := (mkF m 1 #[rv d, iv q1, nu] [.ref d])) rfl rfl (hb hby d23_1)
 have k_98 : Go p.tables e below B0 (sf T97 m 5 #[rv d, iv q1, nu] [.int q1, (.ref (ps 12))]) := fun t q => by
  refine k_96 t ?_
  refine st97 _ ?_
  show Steps _ _ _ (sf T97 m 4 #[rv d, iv q1, nu] [(.ref (ps 12))]) _
  refine s_iloadN X97.here hx (hb hby d23_4) rfl ?_
  exact q
 obtain ⟨w99, c99, hf99⟩ := Option.bind_eq_some_iff.mp hf
 obtain ⟨cl99, Ar99, hin99, hat99⟩ := W0.rd c99
 have k_100 : Go p.tables e below B0 (sf T97 m 9 #[rv d, iv q1, iv w99] [.int 2, .int w99]) := fun t q => by
  refine k_98 t ?_
  refine X97.iaload hx (j := q1) (v := (.int w99)) (by rw [e97]; exact Ar99.1) (State.isArrayOf_alike hZ.alike Ar99.2.1) Ar99.2.2 hin99 hat99 (g := (mkF m 5 #[rv d, iv q1, nu] [.int q1, (.ref (ps 12))])) rfl rfl (hb hby d23_5) _ ?_
  show Steps _ _ _ (sf T97 m 6 #[rv d, iv q1, nu] [.int w99]) _
  refine s_istoreN X97.here hx (hb hby d23_6) (l' := #[rv d, iv q1, iv w99]) rfl ?_
  refine s_iloadN X97.here hx (hb hby d23_7) rfl ?_
  refine s_iconst (x := 2) X97.here hx (hb hby d23_8) rfl ?_
  exact q
 by_cases hc101 : w99 < (2 : Int32)
 ·rw [if_pos hc101] at hf99
  have k_102 : Go p.tables e below B0 (sf T97 m 81 #[rv d, iv q1, iv w99] []) := fun t q => by
   refine k_100 t ?_
   refine s_icmpYes X97.here hx (pc' := 81) (hb hby d23_9) (tlt hc101).1 (by decide) (by decide) ?_
   exact q
  obtain rfl := Option.some.inj hf99
  obtain ⟨fs, hr, hrun, hended, hW, hsame⟩ := X97.leave (v := none) (fun _ => rfl)
  refine ⟨_, _, k_102 _ ?_, hrun, hended, _, _, rfl, ?_, ⟨_, rfl⟩, hW, hsame.mono (by decide) (by decide)⟩
  ·exact X97.returnOut hx Bd.returns (hb hby d23_81) hr
  ·show QW Z n0 b d ps σ none _ T97.heap _
   rw [e97]
   exact ⟨rfl, N0, W0⟩
 ·rw [if_neg hc101] at hf99
  have k_103 : Go p.tables e below B0 (sf T97 m 13 #[rv d, iv q1, iv w99] [.ref d]) := fun t q => by
   refine k_100 t ?_
   refine s_icmpNo X97.here hx (hb hby d23_9) (flt hc101).1 ?_
   refine s_aloadN X97.here hx (hb hby d23_12) rfl rfl ?_
   exact q
  obtain ⟨T104, X104, e104, st104⟩ := getF X97 hx hZ hown (host := "") (Or.inl (hw _ (wd 85 rfl))) Via.refl e97 (gt_d_previousInBucket W0) (g := (mkF m 13 #[rv d, iv q1, iv w99] [.ref d])) rfl rfl (hb hby d23_13)
  have k_105 : Go p.tables e below B0 (sf T104 m 17 #[rv d, iv q1, iv w99] [.int q1, (.ref (ps 15))]) := fun t q => by
   refine k_103 t ?_
   refine st104 _ ?_
   show Steps _ _ _ (sf T104 m 16 #[rv d, iv q1, iv w99] [(.ref (ps 15))]) _
   refine s_iloadN X104.here hx (hb hby d23_16) rfl ?_
   exact q
  obtain ⟨w106, c106, hf106⟩ := Option.bind_eq_some_iff.mp hf99
  obtain ⟨cl106, Ar106, hin106, hat106⟩ := W0.rd c106
  have k_107 : Go p.tables e below B0 (sf T104 m 19 #[rv d, iv q1, iv w99] [(.int (-1 : Int32)), .int w106]) := fun t q => by
   refine k_105 t ?_
   refine X104.iaload hx (j := q1) (v := (.int w106)) (by rw [e104]; exact Ar106.1) (State.isArrayOf_alike hZ.alike Ar106.2.1) Ar106.2.2 hin106 hat106 (g := (mkF m 17 #[rv d, iv q1, iv w99] [.int q1, (.ref (ps 15))])) rfl rfl (hb hby d23_17) _ ?_
   show Steps _ _ _ (sf T104 m 18 #[rv d, iv q1, iv w99] [.int w106]) _
   refine s_iconst (x := -1) X104.here hx (hb hby d23_18) rfl ?_
   exact q
  by_cases hc108 : w106 = (-1 : Int32)
  ·rw [if_pos hc108] at hf106
   have k_109 : Go p.tables e below B0 (sf T104 m 23 #[rv d, iv q1, iv w99] [.ref d]) := fun t q => by
    refine k_107 t ?_
    refine s_icmpNo X104.here hx (hb hby d23_19) (teq hc108).2 ?_
    refine s_aloadN X104.here hx (hb hby d23_22) rfl rfl ?_
    exact q
   obtain ⟨T110, X110, e110, st110⟩ := getF X104 hx hZ hown (host := "") (Or.inl (hw _ (wd 81 rfl))) Via.refl e104 (gt_d_bucket W0) (g := (mkF m 23 #[rv d, iv q1, iv w99] [.ref d])) rfl rfl (hb hby d23_23)
   have k_111 : Go p.tables e below B0 (sf T110 m 28 #[rv d, iv q1, iv w99] [.ref d, .int w99, (.ref (ps 13))]) := fun t q => by
    refine k_109 t ?_
    refine st110 _ ?_
    show Steps _ _ _ (sf T110 m 26 #[rv d, iv q1, iv w99] [(.ref (ps 13))]) _
    refine s_iloadN X110.here hx (hb hby d23_26) rfl ?_
    refine s_aloadN X110.here hx (hb hby d23_27) rfl rfl ?_
    exact q
   obtain ⟨T112, X112, e112, st112⟩ := getF X110 hx hZ hown (host := "") (Or.inl (hw _ (wd 83 rfl))) Via.refl e110 (gt_d_nextInBucket W0) (g := (mkF m 28 #[rv d, iv q1, iv w99] [.ref d, .int w99, (.ref (ps 13))])) rfl rfl (hb hby d23_28)
   have k_113 : Go p.tables e below B0 (sf T112 m 32 #[rv d, iv q1, iv w99] [.int q1, (.ref (ps 14)), .int w99, (.ref (ps 13))]) := fun t q => by
    refine k_111 t ?_
    refine st112 _ ?_
    show Steps _ _ _ (sf T112 m 31 #[rv d, iv q1, iv w99] [(.ref (ps 14)), .int w99, (.ref (ps 13))]) _
    refine s_iloadN X112.here hx (hb hby d23_31) rfl ?_
    exact q
   obtain ⟨w114, c114, hf114⟩ := Option.bind_eq_some_iff.mp hf106
   obtain ⟨cl114, Ar114, hin114, hat114⟩ := W0.rd c114
   have k_115 : Go p.tables e below B0 (sf T112 m 33 #[rv d, iv q1, iv w99] [.int w114, .int w99, (.ref (ps 13))]) := fun t q => by
    refine k_113 t ?_
    refine X112.iaload hx (j := q1) (v := (.int w114)) (by rw [e112]; exact Ar114.1) (State.isArrayOf_alike hZ.alike Ar114.2.1) Ar114.2.2 hin114 hat114 (g := (mkF m 32 #[rv d, iv q1, iv w99] [.int q1, (.ref (ps 14)), .int w99, (.ref (ps 13))])) rfl rfl (hb hby d23_32) _ ?_
    show Steps _ _ _ (sf T112 m 33 #[rv d, iv q1, iv w99] [.int w114, .int w99, (.ref (ps 13))]) _
    exact q
   obtain ⟨σ116, c116, hf116⟩ := Option.bind_eq_some_iff.mp hf114
   obtain ⟨cl116, Ar116, hin116, gp116, nx116⟩ := W0.wr hw c116
   obtain ⟨T117, h117, X117, e117, W117, st117⟩ := stI X112 hx hZ e112 Ar116 (j := w99) hin116 (g := (mkF m 33 #[rv d, iv q1, iv w99] [.int w114, .int w99, (.ref (ps 13))])) rfl rfl (hb hby d23_33)
   have w117 := nx116 _ W117
   have N117 := Fr.snoc X117 N0 gp116
   have k_118 : Go p.tables e below B0 (sf T117 m 55 #[rv d, iv q1, iv w99] [.ref d]) := fun t q => by
    refine k_115 t ?_
    refine st117 _ ?_
    show Steps _ _ _ (sf T117 m 34 #[rv d, iv q1, iv w99] []) _
    refine s_goto X117.here hx (pc' := 54) (hb hby d23_34) (by decide) (by decide) ?_
    refine s_aloadN X117.here hx (hb hby d23_54) rfl rfl ?_
    exact q
   obtain ⟨T119, X119, e119, st119⟩ := getF X117 hx hZ hown (host := "") (Or.inl (hw _ (wd 83 rfl))) Via.refl e117 (gt_d_nextInBucket w117) (g := (mkF m 55 #[rv d, iv q1, iv w99] [.ref d])) rfl rfl (hb hby d23_55)
   have k_120 : Go p.tables e below B0 (sf T119 m 59 #[rv d, iv q1, iv w99] [.int q1, (.ref (ps 14))]) := fun t q => by
    refine k_118 t ?_
    refine st119 _ ?_
    show Steps _ _ _ (sf T119 m 58 #[rv d, iv q1, iv w99] [(.ref (ps 14))]) _
    refine s_iloadN X119.here hx (hb hby d23_58) rfl ?_
    exact q
   obtain ⟨w121, c121, hf121⟩ := Option.bind_eq_some_iff.mp hf116
   obtain ⟨cl121, Ar121, hin121, hat121⟩ := w117.rd c121
   have k_122 : Go p.tables e below B0 (sf T119 m 61 #[rv d, iv q1, iv w99] [(.int (-1 : Int32)), .int w121]) := fun t q => by
    refine k_120 t ?_
    refine X119.iaload hx (j := q1) (v := (.int w121)) (by rw [e119]; exact Ar121.1) (State.isArrayOf_alike hZ.alike Ar121.2.1) Ar121.2.2 hin121 hat121 (g := (mkF m 59 #[rv d, iv q1, iv w99] [.int q1, (.ref (ps 14))])) rfl rfl (hb hby d23_59) _ ?_
    show Steps _ _ _ (sf T119 m 60 #[rv d, iv q1, iv w99] [.int w121]) _
    refine s_iconst (x := -1) X119.here hx (hb hby d23_60) rfl ?_
    exact q
   by_cases hc123 : w121 = (-1 : Int32)
   ·rw [if_pos hc123] at hf121
    have k_124 : Go p.tables e below B0 (sf T119 m 81 #[rv d, iv q1, iv w99] []) := fun t q => by
     refine k_122 t ?_
     refine s_icmpYes X119.here hx (pc' := 81) (hb hby d23_61) (teq hc123).1 (by decide) (by decide) ?_
     exact q
    obtain rfl := Option.some.inj hf121
    obtain ⟨fs, hr, hrun, hended, hW, hsame⟩ := X119.leave (v := none) (fun _ => rfl)
    refine ⟨_, _, k_124 _ ?_, hrun, hended, _, _, rfl, ?_, ⟨_, rfl⟩, hW, hsame.mono (by decide) (by decide)⟩
    ·exact X119.returnOut hx Bd.returns (hb hby d23_81) hr
    ·show QW Z n0 b d ps σ116 none _ T119.heap _
     rw [e119]
     exact ⟨rfl, N117, w117⟩
   ·rw [if_neg hc123] at hf121
    have k_125 : Go p.tables e below B0 (sf T119 m 65 #[rv d, iv q1, iv w99] [.ref d]) := fun t q => by
     refine k_122 t ?_
     refine s_icmpNo X119.here hx (hb hby d23_61) (feq hc123).1 ?_
     refine s_aloadN X119.here hx (hb hby d23_64) rfl rfl ?_
     exact q
    obtain ⟨T126, X126, e126, st126⟩ := getF X119 hx hZ hown (host := "") (Or.inl (hw _ (wd 85 rfl))) Via.refl e119 (gt_d_previousInBucket w117) (g := (mkF m 65 #[rv d, iv q1, iv w99] [.ref d])) rfl rfl (hb hby d23_65)
    have k_127 : Go p.tables e below B0 (sf T126 m 69 #[rv d, iv q1, iv w99] [.ref d, (.ref (ps 15))]) := fun t q => by
     refine k_125 t ?_
     refine st126 _ ?_
     show Steps _ _ _ (sf T126 m 68 #[rv d, iv q1, iv w99] [(.ref (ps 15))]) _
     refine s_aloadN X126.here hx (hb hby d23_68) rfl rfl ?_
     exact q
    obtain ⟨T128, X128, e128, st128⟩ := getF X126 hx hZ hown (host := "") (Or.inl (hw _ (wd 83 rfl))) Via.refl e126 (gt_d_nextInBucket w117) (g := (mkF m 69 #[rv d, iv q1, iv w99] [.ref d, (.ref (ps 15))])) rfl rfl (hb hby d23_69)
    have k_129 : Go p.tables e below B0 (sf T128 m 73 #[rv d, iv q1, iv w99] [.int q1, (.ref (ps 14)), (.ref (ps 15))]) := fun t q => by
     refine k_127 t ?_
     refine st128 _ ?_
     show Steps _ _ _ (sf T128 m 72 #[rv d, iv q1, iv w99] [(.ref (ps 14)), (.ref (ps 15))]) _
     refine s_iloadN X128.here hx (hb hby d23_72) rfl ?_
     exact q
    obtain ⟨w130, c130, hf130⟩ := Option.bind_eq_some_iff.mp hf121
    obtain ⟨cl130, Ar130, hin130, hat130⟩ := w117.rd c130
    have k_131 : Go p.tables e below B0 (sf T128 m 75 #[rv d, iv q1, iv w99] [.ref d, .int w130, (.ref (ps 15))]) := fun t q => by
     refine k_129 t ?_
     refine X128.iaload hx (j := q1) (v := (.int w130)) (by rw [e128]; exact Ar130.1) (State.isArrayOf_alike hZ.alike Ar130.2.1) Ar130.2.2 hin130 hat130 (g := (mkF m 73 #[rv d, iv q1, iv w99] [.int q1, (.ref (ps 14)), (.ref (ps 15))])) rfl rfl (hb hby d23_73) _ ?_
     show Steps _ _ _ (sf T128 m 74 #[rv d, iv q1, iv w99] [.int w130, (.ref (ps 15))]) _
     refine s_aloadN X128.here hx (hb hby d23_74) rfl rfl ?_
     exact q
    obtain ⟨T132, X132, e132, st132⟩ := getF X128 hx hZ hown (host := "") (Or.inl (hw _ (wd 85 rfl))) Via.refl e128 (gt_d_previousInBucket w117) (g := (mkF m 75 #[rv d, iv q1, iv w99] [.ref d, .int w130, (.ref (ps 15))])) rfl rfl (hb hby d23_75)
    have k_133 : Go p.tables e below B0 (sf T132 m 79 #[rv d, iv q1, iv w99] [.int q1, (.ref (ps 15)), .int w130, (.ref (ps 15))]) := fun t q => by
     refine k_131 t ?_
     refine st132 _ ?_
     show Steps _ _ _ (sf T132 m 78 #[rv d, iv q1, iv w99] [(.ref (ps 15)), .int w130, (.ref (ps 15))]) _
     refine s_iloadN X132.here hx (hb hby d23_78) rfl ?_
     exact q
    obtain ⟨w134, c134, hf134⟩ := Option.bind_eq_some_iff.mp hf130
    obtain ⟨cl134, Ar134, hin134, hat134⟩ := w117.rd c134
    have k_135 : Go p.tables e below B0 (sf T132 m 80 #[rv d, iv q1, iv w99] [.int w134, .int w130, (.ref (ps 15))]) := fun t q => by
     refine k_133 t ?_
     refine X132.iaload hx (j := q1) (v := (.int w134)) (by rw [e132]; exact Ar134.1) (State.isArrayOf_alike hZ.alike Ar134.2.1) Ar134.2.2 hin134 hat134 (g := (mkF m 79 #[rv d, iv q1, iv w99] [.int q1, (.ref (ps 15)), .int w130, (.ref (ps 15))])) rfl rfl (hb hby d23_79) _ ?_
     show Steps _ _ _ (sf T132 m 80 #[rv d, iv q1, iv w99] [.int w134, .int w130, (.ref (ps 15))]) _
     exact q
    obtain ⟨σ136, c136, hf136⟩ := Option.bind_eq_some_iff.mp hf134
    obtain ⟨cl136, Ar136, hin136, gp136, nx136⟩ := w117.wr hw c136
    obtain ⟨T137, h137, X137, e137, W137, st137⟩ := stI X132 hx hZ e132 Ar136 (j := w130) hin136 (g := (mkF m 80 #[rv d, iv q1, iv w99] [.int w134, .int w130, (.ref (ps 15))])) rfl rfl (hb hby d23_80)
    have w137 := nx136 _ W137
    have N137 := Fr.snoc X137 N117 gp136
    have k_138 : Go p.tables e below B0 (sf T137 m 81 #[rv d, iv q1, iv w99] []) := fun t q => by
     refine k_135 t ?_
     refine st137 _ ?_
     show Steps _ _ _ (sf T137 m 81 #[rv d, iv q1, iv w99] []) _
     exact q
    obtain rfl := Option.some.inj hf136
    obtain ⟨fs, hr, hrun, hended, hW, hsame⟩ := X137.leave (v := none) (fun _ => rfl)
    refine ⟨_, _, k_138 _ ?_, hrun, hended, _, _, rfl, ?_, ⟨_, rfl⟩, hW, hsame.mono (by decide) (by decide)⟩
    ·exact X137.returnOut hx Bd.returns (hb hby d23_81) hr
    ·show QW Z n0 b d ps σ136 none _ T137.heap _
     rw [e137]
     exact ⟨rfl, N137, w137⟩
  ·rw [if_neg hc108] at hf106
   have k_139 : Go p.tables e below B0 (sf T104 m 38 #[rv d, iv q1, iv w99] [.ref d]) := fun t q => by
    refine k_107 t ?_
    refine s_icmpYes X104.here hx (pc' := 37) (hb hby d23_19) (feq hc108).2 (by decide) (by decide) ?_
    refine s_aloadN X104.here hx (hb hby d23_37) rfl rfl ?_
    exact q
   obtain ⟨T140, X140, e140, st140⟩ := getF X104 hx hZ hown (host := "") (Or.inl (hw _ (wd 83 rfl))) Via.refl e104 (gt_d_nextInBucket W0) (g := (mkF m 38 #[rv d, iv q1, iv w99] [.ref d])) rfl rfl (hb hby d23_38)
   have k_141 : Go p.tables e below B0 (sf T140 m 42 #[rv d, iv q1, iv w99] [.ref d, (.ref (ps 14))]) := fun t q => by
    refine k_139 t ?_
    refine st140 _ ?_
    show Steps _ _ _ (sf T140 m 41 #[rv d, iv q1, iv w99] [(.ref (ps 14))]) _
    refine s_aloadN X140.here hx (hb hby d23_41) rfl rfl ?_
    exact q
   obtain ⟨T142, X142, e142, st142⟩ := getF X140 hx hZ hown (host := "") (Or.inl (hw _ (wd 85 rfl))) Via.refl e140 (gt_d_previousInBucket W0) (g := (mkF m 42 #[rv d, iv q1, iv w99] [.ref d, (.ref (ps 14))])) rfl rfl (hb hby d23_42)
   have k_143 : Go p.tables e below B0 (sf T142 m 46 #[rv d, iv q1, iv w99] [.int q1, (.ref (ps 15)), (.ref (ps 14))]) := fun t q => by
    refine k_141 t ?_
    refine st142 _ ?_
    show Steps _ _ _ (sf T142 m 45 #[rv d, iv q1, iv w99] [(.ref (ps 15)), (.ref (ps 14))]) _
    refine s_iloadN X142.here hx (hb hby d23_45) rfl ?_
    exact q
   obtain ⟨w144, c144, hf144⟩ := Option.bind_eq_some_iff.mp hf106
   obtain ⟨cl144, Ar144, hin144, hat144⟩ := W0.rd c144
   have k_145 : Go p.tables e below B0 (sf T142 m 48 #[rv d, iv q1, iv w99] [.ref d, .int w144, (.ref (ps 14))]) := fun t q => by
    refine k_143 t ?_
    refine X142.iaload hx (j := q1) (v := (.int w144)) (by rw [e142]; exact Ar144.1) (State.isArrayOf_alike hZ.alike Ar144.2.1) Ar144.2.2 hin144 hat144 (g := (mkF m 46 #[rv d, iv q1, iv w99] [.int q1, (.ref (ps 15)), (.ref (ps 14))])) rfl rfl (hb hby d23_46) _ ?_
    show Steps _ _ _ (sf T142 m 47 #[rv d, iv q1, iv w99] [.int w144, (.ref (ps 14))]) _
    refine s_aloadN X142.here hx (hb hby d23_47) rfl rfl ?_
    exact q
   obtain ⟨T146, X146, e146, st146⟩ := getF X142 hx hZ hown (host := "") (Or.inl (hw _ (wd 83 rfl))) Via.refl e142 (gt_d_nextInBucket W0) (g := (mkF m 48 #[rv d, iv q1, iv w99] [.ref d, .int w144, (.ref (ps 14))])) rfl rfl (hb hby d23_48)
   have k_147 : Go p.tables e below B0 (sf T146 m 52 #[rv d, iv q1, iv w99] [.int q1, (.ref (ps 14)), .int w144, (.ref (ps 14))]) := fun t q => by
    refine k_145 t ?_
    refine st146 _ ?_
    show Steps _ _ _ (sf T146 m 51 #[rv d, iv q1, iv w99] [(.ref (ps 14)), .int w144, (.ref (ps 14))]) _
    refine s_iloadN X146.here hx (hb hby d23_51) rfl ?_
    exact q
   obtain ⟨w148, c148, hf148⟩ := Option.bind_eq_some_iff.mp hf144
   obtain ⟨cl148, Ar148, hin148, hat148⟩ := W0.rd c148
   have k_149 : Go p.tables e below B0 (sf T146 m 53 #[rv d, iv q1, iv w99] [.int w148, .int w144, (.ref (ps 14))]) := fun t q => by
    refine k_147 t ?_
    refine X146.iaload hx (j := q1) (v := (.int w148)) (by rw [e146]; exact Ar148.1) (State.isArrayOf_alike hZ.alike Ar148.2.1) Ar148.2.2 hin148 hat148 (g := (mkF m 52 #[rv d, iv q1, iv w99] [.int q1, (.ref (ps 14)), .int w144, (.ref (ps 14))])) rfl rfl (hb hby d23_52) _ ?_
    show Steps _ _ _ (sf T146 m 53 #[rv d, iv q1, iv w99] [.int w148, .int w144, (.ref (ps 14))]) _
    exact q
   obtain ⟨σ150, c150, hf150⟩ := Option.bind_eq_some_iff.mp hf148
   obtain ⟨cl150, Ar150, hin150, gp150, nx150⟩ := W0.wr hw c150
   obtain ⟨T151, h151, X151, e151, W151, st151⟩ := stI X146 hx hZ e146 Ar150 (j := w144) hin150 (g := (mkF m 53 #[rv d, iv q1, iv w99] [.int w148, .int w144, (.ref (ps 14))])) rfl rfl (hb hby d23_53)
   have w151 := nx150 _ W151
   have N151 := Fr.snoc X151 N0 gp150
   have k_152 : Go p.tables e below B0 (sf T151 m 55 #[rv d, iv q1, iv w99] [.ref d]) := fun t q => by
    refine k_149 t ?_
    refine st151 _ ?_
    show Steps _ _ _ (sf T151 m 54 #[rv d, iv q1, iv w99] []) _
    refine s_aloadN X151.here hx (hb hby d23_54) rfl rfl ?_
    exact q
   obtain ⟨T153, X153, e153, st153⟩ := getF X151 hx hZ hown (host := "") (Or.inl (hw _ (wd 83 rfl))) Via.refl e151 (gt_d_nextInBucket w151) (g := (mkF m 55 #[rv d, iv q1, iv w99] [.ref d])) rfl rfl (hb hby d23_55)
   have k_154 : Go p.tables e below B0 (sf T153 m 59 #[rv d, iv q1, iv w99] [.int q1, (.ref (ps 14))]) := fun t q => by
    refine k_152 t ?_
    refine st153 _ ?_
    show Steps _ _ _ (sf T153 m 58 #[rv d, iv q1, iv w99] [(.ref (ps 14))]) _
    refine s_iloadN X153.here hx (hb hby d23_58) rfl ?_
    exact q
   obtain ⟨w155, c155, hf155⟩ := Option.bind_eq_some_iff.mp hf150
   obtain ⟨cl155, Ar155, hin155, hat155⟩ := w151.rd c155
   have k_156 : Go p.tables e below B0 (sf T153 m 61 #[rv d, iv q1, iv w99] [(.int (-1 : Int32)), .int w155]) := fun t q => by
    refine k_154 t ?_
    refine X153.iaload hx (j := q1) (v := (.int w155)) (by rw [e153]; exact Ar155.1) (State.isArrayOf_alike hZ.alike Ar155.2.1) Ar155.2.2 hin155 hat155 (g := (mkF m 59 #[rv d, iv q1, iv w99] [.int q1, (.ref (ps 14))])) rfl rfl (hb hby d23_59) _ ?_
    show Steps _ _ _ (sf T153 m 60 #[rv d, iv q1, iv w99] [.int w155]) _
    refine s_iconst (x := -1) X153.here hx (hb hby d23_60) rfl ?_
    exact q
   by_cases hc157 : w155 = (-1 : Int32)
   ·rw [if_pos hc157] at hf155
    have k_158 : Go p.tables e below B0 (sf T153 m 81 #[rv d, iv q1, iv w99] []) := fun t q => by
     refine k_156 t ?_
     refine s_icmpYes X153.here hx (pc' := 81) (hb hby d23_61) (teq hc157).1 (by decide) (by decide) ?_
     exact q
    obtain rfl := Option.some.inj hf155
    obtain ⟨fs, hr, hrun, hended, hW, hsame⟩ := X153.leave (v := none) (fun _ => rfl)
    refine ⟨_, _, k_158 _ ?_, hrun, hended, _, _, rfl, ?_, ⟨_, rfl⟩, hW, hsame.mono (by decide) (by decide)⟩
    ·exact X153.returnOut hx Bd.returns (hb hby d23_81) hr
    ·show QW Z n0 b d ps σ150 none _ T153.heap _
     rw [e153]
     exact ⟨rfl, N151, w151⟩
   ·rw [if_neg hc157] at hf155
    have k_159 : Go p.tables e below B0 (sf T153 m 65 #[rv d, iv q1, iv w99] [.ref d]) := fun t q => by
     refine k_156 t ?_
     refine s_icmpNo X153.here hx (hb hby d23_61) (feq hc157).1 ?_
     refine s_aloadN X153.here hx (hb hby d23_64) rfl rfl ?_
     exact q
    obtain ⟨T160, X160, e160, st160⟩ := getF X153 hx hZ hown (host := "") (Or.inl (hw _ (wd 85 rfl))) Via.refl e153 (gt_d_previousInBucket w151) (g := (mkF m 65 #[rv d, iv q1, iv w99] [.ref d])) rfl rfl (hb hby d23_65)
    have k_161 : Go p.tables e below B0 (sf T160 m 69 #[rv d, iv q1, iv w99] [.ref d, (.ref (ps 15))]) := fun t q => by
     refine k_159 t ?_
     refine st160 _ ?_
     show Steps _ _ _ (sf T160 m 68 #[rv d, iv q1, iv w99] [(.ref (ps 15))]) _
     refine s_aloadN X160.here hx (hb hby d23_68) rfl rfl ?_
     exact q
    obtain ⟨T162, X162, e162, st162⟩ := getF X160 hx hZ hown (host := "") (Or.inl (hw _ (wd 83 rfl))) Via.refl e160 (gt_d_nextInBucket w151) (g := (mkF m 69 #[rv d, iv q1, iv w99] [.ref d, (.ref (ps 15))])) rfl rfl (hb hby d23_69)
    have k_163 : Go p.tables e below B0 (sf T162 m 73 #[rv d, iv q1, iv w99] [.int q1, (.ref (ps 14)), (.ref (ps 15))]) := fun t q => by
     refine k_161 t ?_
     refine st162 _ ?_
     show Steps _ _ _ (sf T162 m 72 #[rv d, iv q1, iv w99] [(.ref (ps 14)), (.ref (ps 15))]) _
     refine s_iloadN X162.here hx (hb hby d23_72) rfl ?_
     exact q
    obtain ⟨w164, c164, hf164⟩ := Option.bind_eq_some_iff.mp hf155
    obtain ⟨cl164, Ar164, hin164, hat164⟩ := w151.rd c164
    have k_165 : Go p.tables e below B0 (sf T162 m 75 #[rv d, iv q1, iv w99] [.ref d, .int w164, (.ref (ps 15))]) := fun t q => by
     refine k_163 t ?_
     refine X162.iaload hx (j := q1) (v := (.int w164)) (by rw [e162]; exact Ar164.1) (State.isArrayOf_alike hZ.alike Ar164.2.1) Ar164.2.2 hin164 hat164 (g := (mkF m 73 #[rv d, iv q1, iv w99] [.int q1, (.ref (ps 14)), (.ref (ps 15))])) rfl rfl (hb hby d23_73) _ ?_
     show Steps _ _ _ (sf T162 m 74 #[rv d, iv q1, iv w99] [.int w164, (.ref (ps 15))]) _
     refine s_aloadN X162.here hx (hb hby d23_74) rfl rfl ?_
     exact q
    obtain ⟨T166, X166, e166, st166⟩ := getF X162 hx hZ hown (host := "") (Or.inl (hw _ (wd 85 rfl))) Via.refl e162 (gt_d_previousInBucket w151) (g := (mkF m 75 #[rv d, iv q1, iv w99] [.ref d, .int w164, (.ref (ps 15))])) rfl rfl (hb hby d23_75)
    have k_167 : Go p.tables e below B0 (sf T166 m 79 #[rv d, iv q1, iv w99] [.int q1, (.ref (ps 15)), .int w164, (.ref (ps 15))]) := fun t q => by
     refine k_165 t ?_
     refine st166 _ ?_
     show Steps _ _ _ (sf T166 m 78 #[rv d, iv q1, iv w99] [(.ref (ps 15)), .int w164, (.ref (ps 15))]) _
     refine s_iloadN X166.here hx (hb hby d23_78) rfl ?_
     exact q
    obtain ⟨w168, c168, hf168⟩ := Option.bind_eq_some_iff.mp hf164
    obtain ⟨cl168, Ar168, hin168, hat168⟩ := w151.rd c168
    have k_169 : Go p.tables e below B0 (sf T166 m 80 #[rv d, iv q1, iv w99] [.int w168, .int w164, (.ref (ps 15))]) := fun t q => by
     refine k_167 t ?_
     refine X166.iaload hx (j := q1) (v := (.int w168)) (by rw [e166]; exact Ar168.1) (State.isArrayOf_alike hZ.alike Ar168.2.1) Ar168.2.2 hin168 hat168 (g := (mkF m 79 #[rv d, iv q1, iv w99] [.int q1, (.ref (ps 15)), .int w164, (.ref (ps 15))])) rfl rfl (hb hby d23_79) _ ?_
     show Steps _ _ _ (sf T166 m 80 #[rv d, iv q1, iv w99] [.int w168, .int w164, (.ref (ps 15))]) _
     exact q
    obtain ⟨σ170, c170, hf170⟩ := Option.bind_eq_some_iff.mp hf168
    obtain ⟨cl170, Ar170, hin170, gp170, nx170⟩ := w151.wr hw c170
    obtain ⟨T171, h171, X171, e171, W171, st171⟩ := stI X166 hx hZ e166 Ar170 (j := w164) hin170 (g := (mkF m 80 #[rv d, iv q1, iv w99] [.int w168, .int w164, (.ref (ps 15))])) rfl rfl (hb hby d23_80)
    have w171 := nx170 _ W171
    have N171 := Fr.snoc X171 N151 gp170
    have k_172 : Go p.tables e below B0 (sf T171 m 81 #[rv d, iv q1, iv w99] []) := fun t q => by
     refine k_169 t ?_
     refine st171 _ ?_
     show Steps _ _ _ (sf T171 m 81 #[rv d, iv q1, iv w99] []) _
     exact q
    obtain rfl := Option.some.inj hf170
    obtain ⟨fs, hr, hrun, hended, hW, hsame⟩ := X171.leave (v := none) (fun _ => rfl)
    refine ⟨_, _, k_172 _ ?_, hrun, hended, _, _, rfl, ?_, ⟨_, rfl⟩, hW, hsame.mono (by decide) (by decide)⟩
    ·exact X171.returnOut hx Bd.returns (hb hby d23_81) hr
    ·show QW Z n0 b d ps σ170 none _ T171.heap _
     rw [e171]
     exact ⟨rfl, N171, w171⟩
def fLink (σ : St) (q1 q2 : Int32) : Option (Int32 × St) := (rdA σ 11 (((2 : Int32) * q2) + (if q1 < (rdI σ 3) then (0 : Int32) else (1 : Int32)))).bind fun w180 => (wrA σ 9 q1 w180).bind fun σ184 => (wrA σ184 10 q1 (-1 : Int32)).bind fun σ189 => if w180 = (-1 : Int32) then ((wrA σ189 11 (((2 : Int32) * q2) + (if q1 < (rdI σ 3) then (0 : Int32) else (1 : Int32))) q1).bind fun σ196 => some ((0 : Int32), σ196)) else ((wrA σ189 10 w180 q1).bind fun σ202 => (wrA σ202 11 (((2 : Int32) * q2) + (if q1 < (rdI σ 3) then (0 : Int32) else (1 : Int32))) q1).bind fun σ207 => some ((0 : Int32), σ207))
set_option maxRecDepth 65536 in
set_option maxHeartbeats 40000000 in
theorem fLink_ok (l : Launch) (Z : State) (a0 : Array Value) (hw : ∀ d ∈ tables_1, d.before a0 Z = true) (ws : List Jvm.Cond) (b d : Addr) (ps : Nat → Addr) (σ : St) (q1 q2 : Int32) (h0 : Heap) (n0 : Nat) (W0 : Wd Z n0 h0 b d ps σ) (r : Int32 × St) (hf : fLink σ q1 q2 = some r) :
  MetFree l y_10 (head1 (Jvm.Cond.code y_10 prog_1_method_9_code 5 none :: ws) ({ frames := 0, cells := 0, slots := 0, locals := 0 } : Room)) (fun a U => a = #[.ref d, .int q1, .int q2] ∧ Z.Warmed39 U.vm ∧ U.heap = h0) (fun _ _ _ _ _ => True) (fun _ U o U' => ∃ v L, o = .returned v ∧ QW Z n0 b d ps r.2 none v U'.heap L ∧ FrameEnd U o U' L ({ frames := 0, cells := 0, slots := 0, locals := 0 } : Room).cells ({ frames := 0, cells := 0, slots := 0, locals := 0 } : Room).slots) := by
 refine MetFree.of_bodySF (plainFor_of_name pn_1) hisR ?_
 intro p e s m args below meth c s₁ Bd hml0 hP hK
 obtain ⟨rfl, hZ, hh⟩ := hP
 have hx := Bd.exec
 have hby := Bd.bytes
 have hml : c.maxLocals = 5 := hml0
 have hown : s.vm.findClass BSn = some m.cls := findClass_of_methodNamed Bd.named
 have hnm := (name_of_methodNamed Bd.named Bd.method).1
 have X0 : Stand p l e ({ frames := 0, cells := 0, slots := 0, locals := 0 } : Room) s m #[.ref d, .int q1, .int q2] below meth c s₁ [] 0 0 := Stand.of_body Bd
 have e0 : s₁.heap = h0 := by rw [← hh, Bd.state]; rfl
 have N0 := Fr.nil n0
 have K0 := Keep.refl h0 []
 have k0 : Go p.tables e below (s₁.setTop (entryFrame m #[.ref d, .int q1, .int q2] 5)) (sf s₁ m 0 #[rv d, iv q1, iv q2, nu, nu] []) := fun t k => castTop (by first | (simp [entryFrame, mkF, argsToLocals, Value.category]; done)) k
 unfold fLink at hf
 generalize s₁.setTop (entryFrame m #[.ref d, .int q1, .int q2] 5) = B0 at k0 ⊢
 have k_173 : Go p.tables e below B0 (sf s₁ m 5 #[rv d, iv q1, iv q2, nu, nu] [.ref d, .int q1, (.int ((2 : Int32) * q2))]) := fun t q => by
  refine k0 t ?_
  refine s_iconst (x := 2) X0.here hx (hb hby d18_0) rfl ?_
  refine s_iloadN X0.here hx (hb hby d18_1) rfl ?_
  refine s_imul X0.here hx (hb hby d18_2) ?_
  refine s_iloadN X0.here hx (hb hby d18_3) rfl ?_
  refine s_aloadN X0.here hx (hb hby d18_4) rfl rfl ?_
  exact q
 obtain ⟨T174, X174, e174, st174⟩ := getF X0 hx hZ hown (host := "") (Or.inl (hw _ (wd 71 rfl))) Via.refl e0 (gt_d_secondStart W0) (g := (mkF m 5 #[rv d, iv q1, iv q2, nu, nu] [.ref d, .int q1, (.int ((2 : Int32) * q2))])) rfl rfl (hb hby d18_5)
 have k_175 : Go p.tables e below B0 (sf T174 m 8 #[rv d, iv q1, iv q2, nu, nu] [(.int (rdI σ 3)), .int q1, (.int ((2 : Int32) * q2))]) := fun t q => by
  refine k_173 t ?_
  refine st174 _ ?_
  show Steps _ _ _ (sf T174 m 8 #[rv d, iv q1, iv q2, nu, nu] [(.int (rdI σ 3)), .int q1, (.int ((2 : Int32) * q2))]) _
  exact q
 have k_176 : Go p.tables e below B0 (sf T174 m 16 #[rv d, iv q1, iv q2, nu, nu] [(.int (if q1 < (rdI σ 3) then (0 : Int32) else (1 : Int32))), (.int ((2 : Int32) * q2))]) := by
  by_cases hc176 : q1 < (rdI σ 3)
  ·rw [if_pos hc176]; exact fun t q => by
    refine k_175 t ?_
    refine s_icmpNo X174.here hx (hb hby d18_8) (tlt hc176).2.1 ?_
    refine s_iconst (x := 0) X174.here hx (hb hby d18_11) rfl ?_
    refine s_goto X174.here hx (pc' := 16) (hb hby d18_12) (by decide) (by decide) ?_
    exact q
  ·rw [if_neg hc176]; exact fun t q => by
    refine k_175 t ?_
    refine s_icmpYes X174.here hx (pc' := 15) (hb hby d18_8) (flt hc176).2.1 (by decide) (by decide) ?_
    refine s_iconst (x := 1) X174.here hx (hb hby d18_15) rfl ?_
    exact q
 have k_177 : Go p.tables e below B0 (sf T174 m 19 #[rv d, iv q1, iv q2, .val (.int (((2 : Int32) * q2) + (if q1 < (rdI σ 3) then (0 : Int32) else (1 : Int32)))), nu] [.ref d]) := fun t q => by
  refine k_176 t ?_
  refine s_iadd X174.here hx (hb hby d18_16) ?_
  refine s_istoreN X174.here hx (hb hby d18_17) (l' := #[rv d, iv q1, iv q2, .val (.int (((2 : Int32) * q2) + (if q1 < (rdI σ 3) then (0 : Int32) else (1 : Int32)))), nu]) rfl ?_
  refine s_aloadN X174.here hx (hb hby d18_18) rfl rfl ?_
  exact q
 obtain ⟨T178, X178, e178, st178⟩ := getF X174 hx hZ hown (host := "") (Or.inl (hw _ (wd 77 rfl))) Via.refl e174 (gt_d_first W0) (g := (mkF m 19 #[rv d, iv q1, iv q2, .val (.int (((2 : Int32) * q2) + (if q1 < (rdI σ 3) then (0 : Int32) else (1 : Int32)))), nu] [.ref d])) rfl rfl (hb hby d18_19)
 have k_179 : Go p.tables e below B0 (sf T178 m 23 #[rv d, iv q1, iv q2, .val (.int (((2 : Int32) * q2) + (if q1 < (rdI σ 3) then (0 : Int32) else (1 : Int32)))), nu] [(.int (((2 : Int32) * q2) + (if q1 < (rdI σ 3) then (0 : Int32) else (1 : Int32)))), (.ref (ps 11))]) := fun t q => by
  refine k_177 t ?_
  refine st178 _ ?_
  show Steps _ _ _ (sf T178 m 22 #[rv d, iv q1, iv q2, .val (.int (((2 : Int32) * q2) + (if q1 < (rdI σ 3) then (0 : Int32) else (1 : Int32)))), nu] [(.ref (ps 11))]) _
  refine s_iloadN X178.here hx (hb hby d18_22) rfl ?_
  exact q
 obtain ⟨w180, c180, hf180⟩ := Option.bind_eq_some_iff.mp hf
 obtain ⟨cl180, Ar180, hin180, hat180⟩ := W0.rd c180
 have k_181 : Go p.tables e below B0 (sf T178 m 27 #[rv d, iv q1, iv q2, .val (.int (((2 : Int32) * q2) + (if q1 < (rdI σ 3) then (0 : Int32) else (1 : Int32)))), iv w180] [.ref d]) := fun t q => by
  refine k_179 t ?_
  refine X178.iaload hx (j := (((2 : Int32) * q2) + (if q1 < (rdI σ 3) then (0 : Int32) else (1 : Int32)))) (v := (.int w180)) (by rw [e178]; exact Ar180.1) (State.isArrayOf_alike hZ.alike Ar180.2.1) Ar180.2.2 hin180 hat180 (g := (mkF m 23 #[rv d, iv q1, iv q2, .val (.int (((2 : Int32) * q2) + (if q1 < (rdI σ 3) then (0 : Int32) else (1 : Int32)))), nu] [(.int (((2 : Int32) * q2) + (if q1 < (rdI σ 3) then (0 : Int32) else (1 : Int32)))), (.ref (ps 11))])) rfl rfl (hb hby d18_23) _ ?_
  show Steps _ _ _ (sf T178 m 24 #[rv d, iv q1, iv q2, .val (.int (((2 : Int32) * q2) + (if q1 < (rdI σ 3) then (0 : Int32) else (1 : Int32)))), nu] [.int w180]) _
  refine s_istore X178.here hx (hb hby d18_24) (l' := #[rv d, iv q1, iv q2, .val (.int (((2 : Int32) * q2) + (if q1 < (rdI σ 3) then (0 : Int32) else (1 : Int32)))), iv w180]) rfl ?_
  refine s_aloadN X178.here hx (hb hby d18_26) rfl rfl ?_
  exact q
 obtain ⟨T182, X182, e182, st182⟩ := getF X178 hx hZ hown (host := "") (Or.inl (hw _ (wd 73 rfl))) Via.refl e178 (gt_d_next W0) (g := (mkF m 27 #[rv d, iv q1, iv q2, .val (.int (((2 : Int32) * q2) + (if q1 < (rdI σ 3) then (0 : Int32) else (1 : Int32)))), iv w180] [.ref d])) rfl rfl (hb hby d18_27)
 have k_183 : Go p.tables e below B0 (sf T182 m 33 #[rv d, iv q1, iv q2, .val (.int (((2 : Int32) * q2) + (if q1 < (rdI σ 3) then (0 : Int32) else (1 : Int32)))), iv w180] [.int w180, .int q1, (.ref (ps 9))]) := fun t q => by
  refine k_181 t ?_
  refine st182 _ ?_
  show Steps _ _ _ (sf T182 m 30 #[rv d, iv q1, iv q2, .val (.int (((2 : Int32) * q2) + (if q1 < (rdI σ 3) then (0 : Int32) else (1 : Int32)))), iv w180] [(.ref (ps 9))]) _
  refine s_iloadN X182.here hx (hb hby d18_30) rfl ?_
  refine s_iload X182.here hx (hb hby d18_31) rfl ?_
  exact q
 obtain ⟨σ184, c184, hf184⟩ := Option.bind_eq_some_iff.mp hf180
 obtain ⟨cl184, Ar184, hin184, gp184, nx184⟩ := W0.wr hw c184
 obtain ⟨T185, h185, X185, e185, W185, st185⟩ := stI X182 hx hZ e182 Ar184 (j := q1) hin184 (g := (mkF m 33 #[rv d, iv q1, iv q2, .val (.int (((2 : Int32) * q2) + (if q1 < (rdI σ 3) then (0 : Int32) else (1 : Int32)))), iv w180] [.int w180, .int q1, (.ref (ps 9))])) rfl rfl (hb hby d18_33)
 have w185 := nx184 _ W185
 have N185 := Fr.snoc X185 N0 gp184
 have k_186 : Go p.tables e below B0 (sf T185 m 35 #[rv d, iv q1, iv q2, .val (.int (((2 : Int32) * q2) + (if q1 < (rdI σ 3) then (0 : Int32) else (1 : Int32)))), iv w180] [.ref d]) := fun t q => by
  refine k_183 t ?_
  refine st185 _ ?_
  show Steps _ _ _ (sf T185 m 34 #[rv d, iv q1, iv q2, .val (.int (((2 : Int32) * q2) + (if q1 < (rdI σ 3) then (0 : Int32) else (1 : Int32)))), iv w180] []) _
  refine s_aloadN X185.here hx (hb hby d18_34) rfl rfl ?_
  exact q
 obtain ⟨T187, X187, e187, st187⟩ := getF X185 hx hZ hown (host := "") (Or.inl (hw _ (wd 75 rfl))) Via.refl e185 (gt_d_previous w185) (g := (mkF m 35 #[rv d, iv q1, iv q2, .val (.int (((2 : Int32) * q2) + (if q1 < (rdI σ 3) then (0 : Int32) else (1 : Int32)))), iv w180] [.ref d])) rfl rfl (hb hby d18_35)
 have k_188 : Go p.tables e below B0 (sf T187 m 40 #[rv d, iv q1, iv q2, .val (.int (((2 : Int32) * q2) + (if q1 < (rdI σ 3) then (0 : Int32) else (1 : Int32)))), iv w180] [(.int (-1 : Int32)), .int q1, (.ref (ps 10))]) := fun t q => by
  refine k_186 t ?_
  refine st187 _ ?_
  show Steps _ _ _ (sf T187 m 38 #[rv d, iv q1, iv q2, .val (.int (((2 : Int32) * q2) + (if q1 < (rdI σ 3) then (0 : Int32) else (1 : Int32)))), iv w180] [(.ref (ps 10))]) _
  refine s_iloadN X187.here hx (hb hby d18_38) rfl ?_
  refine s_iconst (x := -1) X187.here hx (hb hby d18_39) rfl ?_
  exact q
 obtain ⟨σ189, c189, hf189⟩ := Option.bind_eq_some_iff.mp hf184
 obtain ⟨cl189, Ar189, hin189, gp189, nx189⟩ := w185.wr hw c189
 obtain ⟨T190, h190, X190, e190, W190, st190⟩ := stI X187 hx hZ e187 Ar189 (j := q1) hin189 (g := (mkF m 40 #[rv d, iv q1, iv q2, .val (.int (((2 : Int32) * q2) + (if q1 < (rdI σ 3) then (0 : Int32) else (1 : Int32)))), iv w180] [(.int (-1 : Int32)), .int q1, (.ref (ps 10))])) rfl rfl (hb hby d18_40)
 have w190 := nx189 _ W190
 have N190 := Fr.snoc X190 N185 gp189
 have k_191 : Go p.tables e below B0 (sf T190 m 44 #[rv d, iv q1, iv q2, .val (.int (((2 : Int32) * q2) + (if q1 < (rdI σ 3) then (0 : Int32) else (1 : Int32)))), iv w180] [(.int (-1 : Int32)), .int w180]) := fun t q => by
  refine k_188 t ?_
  refine st190 _ ?_
  show Steps _ _ _ (sf T190 m 41 #[rv d, iv q1, iv q2, .val (.int (((2 : Int32) * q2) + (if q1 < (rdI σ 3) then (0 : Int32) else (1 : Int32)))), iv w180] []) _
  refine s_iload X190.here hx (hb hby d18_41) rfl ?_
  refine s_iconst (x := -1) X190.here hx (hb hby d18_43) rfl ?_
  exact q
 by_cases hc192 : w180 = (-1 : Int32)
 ·rw [if_pos hc192] at hf189
  have k_193 : Go p.tables e below B0 (sf T190 m 56 #[rv d, iv q1, iv q2, .val (.int (((2 : Int32) * q2) + (if q1 < (rdI σ 3) then (0 : Int32) else (1 : Int32)))), iv w180] [.ref d]) := fun t q => by
   refine k_191 t ?_
   refine s_icmpYes X190.here hx (pc' := 55) (hb hby d18_44) (teq hc192).1 (by decide) (by decide) ?_
   refine s_aloadN X190.here hx (hb hby d18_55) rfl rfl ?_
   exact q
  obtain ⟨T194, X194, e194, st194⟩ := getF X190 hx hZ hown (host := "") (Or.inl (hw _ (wd 77 rfl))) Via.refl e190 (gt_d_first w190) (g := (mkF m 56 #[rv d, iv q1, iv q2, .val (.int (((2 : Int32) * q2) + (if q1 < (rdI σ 3) then (0 : Int32) else (1 : Int32)))), iv w180] [.ref d])) rfl rfl (hb hby d18_56)
  have k_195 : Go p.tables e below B0 (sf T194 m 61 #[rv d, iv q1, iv q2, .val (.int (((2 : Int32) * q2) + (if q1 < (rdI σ 3) then (0 : Int32) else (1 : Int32)))), iv w180] [.int q1, (.int (((2 : Int32) * q2) + (if q1 < (rdI σ 3) then (0 : Int32) else (1 : Int32)))), (.ref (ps 11))]) := fun t q => by
   refine k_193 t ?_
   refine st194 _ ?_
   show Steps _ _ _ (sf T194 m 59 #[rv d, iv q1, iv q2, .val (.int (((2 : Int32) * q2) + (if q1 < (rdI σ 3) then (0 : Int32) else (1 : Int32)))), iv w180] [(.ref (ps 11))]) _
   refine s_iloadN X194.here hx (hb hby d18_59) rfl ?_
   refine s_iloadN X194.here hx (hb hby d18_60) rfl ?_
   exact q
  obtain ⟨σ196, c196, hf196⟩ := Option.bind_eq_some_iff.mp hf189
  obtain ⟨cl196, Ar196, hin196, gp196, nx196⟩ := w190.wr hw c196
  obtain ⟨T197, h197, X197, e197, W197, st197⟩ := stI X194 hx hZ e194 Ar196 (j := (((2 : Int32) * q2) + (if q1 < (rdI σ 3) then (0 : Int32) else (1 : Int32)))) hin196 (g := (mkF m 61 #[rv d, iv q1, iv q2, .val (.int (((2 : Int32) * q2) + (if q1 < (rdI σ 3) then (0 : Int32) else (1 : Int32)))), iv w180] [.int q1, (.int (((2 : Int32) * q2) + (if q1 < (rdI σ 3) then (0 : Int32) else (1 : Int32)))), (.ref (ps 11))])) rfl rfl (hb hby d18_61)
  have w197 := nx196 _ W197
  have N197 := Fr.snoc X197 N190 gp196
  have k_198 : Go p.tables e below B0 (sf T197 m 62 #[rv d, iv q1, iv q2, .val (.int (((2 : Int32) * q2) + (if q1 < (rdI σ 3) then (0 : Int32) else (1 : Int32)))), iv w180] []) := fun t q => by
   refine k_195 t ?_
   refine st197 _ ?_
   show Steps _ _ _ (sf T197 m 62 #[rv d, iv q1, iv q2, .val (.int (((2 : Int32) * q2) + (if q1 < (rdI σ 3) then (0 : Int32) else (1 : Int32)))), iv w180] []) _
   exact q
  obtain rfl := Option.some.inj hf196
  obtain ⟨fs, hr, hrun, hended, hW, hsame⟩ := X197.leave (v := none) (fun _ => rfl)
  refine ⟨_, _, k_198 _ ?_, hrun, hended, _, _, rfl, ?_, ⟨_, rfl⟩, hW, hsame.mono (by decide) (by decide)⟩
  ·exact X197.returnOut hx Bd.returns (hb hby d18_62) hr
  ·show QW Z n0 b d ps σ196 none _ T197.heap _
   rw [e197]
   exact ⟨rfl, N197, w197⟩
 ·rw [if_neg hc192] at hf189
  have k_199 : Go p.tables e below B0 (sf T190 m 48 #[rv d, iv q1, iv q2, .val (.int (((2 : Int32) * q2) + (if q1 < (rdI σ 3) then (0 : Int32) else (1 : Int32)))), iv w180] [.ref d]) := fun t q => by
   refine k_191 t ?_
   refine s_icmpNo X190.here hx (hb hby d18_44) (feq hc192).1 ?_
   refine s_aloadN X190.here hx (hb hby d18_47) rfl rfl ?_
   exact q
  obtain ⟨T200, X200, e200, st200⟩ := getF X190 hx hZ hown (host := "") (Or.inl (hw _ (wd 75 rfl))) Via.refl e190 (gt_d_previous w190) (g := (mkF m 48 #[rv d, iv q1, iv q2, .val (.int (((2 : Int32) * q2) + (if q1 < (rdI σ 3) then (0 : Int32) else (1 : Int32)))), iv w180] [.ref d])) rfl rfl (hb hby d18_48)
  have k_201 : Go p.tables e below B0 (sf T200 m 54 #[rv d, iv q1, iv q2, .val (.int (((2 : Int32) * q2) + (if q1 < (rdI σ 3) then (0 : Int32) else (1 : Int32)))), iv w180] [.int q1, .int w180, (.ref (ps 10))]) := fun t q => by
   refine k_199 t ?_
   refine st200 _ ?_
   show Steps _ _ _ (sf T200 m 51 #[rv d, iv q1, iv q2, .val (.int (((2 : Int32) * q2) + (if q1 < (rdI σ 3) then (0 : Int32) else (1 : Int32)))), iv w180] [(.ref (ps 10))]) _
   refine s_iload X200.here hx (hb hby d18_51) rfl ?_
   refine s_iloadN X200.here hx (hb hby d18_53) rfl ?_
   exact q
  obtain ⟨σ202, c202, hf202⟩ := Option.bind_eq_some_iff.mp hf189
  obtain ⟨cl202, Ar202, hin202, gp202, nx202⟩ := w190.wr hw c202
  obtain ⟨T203, h203, X203, e203, W203, st203⟩ := stI X200 hx hZ e200 Ar202 (j := w180) hin202 (g := (mkF m 54 #[rv d, iv q1, iv q2, .val (.int (((2 : Int32) * q2) + (if q1 < (rdI σ 3) then (0 : Int32) else (1 : Int32)))), iv w180] [.int q1, .int w180, (.ref (ps 10))])) rfl rfl (hb hby d18_54)
  have w203 := nx202 _ W203
  have N203 := Fr.snoc X203 N190 gp202
  have k_204 : Go p.tables e below B0 (sf T203 m 56 #[rv d, iv q1, iv q2, .val (.int (((2 : Int32) * q2) + (if q1 < (rdI σ 3) then (0 : Int32) else (1 : Int32)))), iv w180] [.ref d]) := fun t q => by
   refine k_201 t ?_
   refine st203 _ ?_
   show Steps _ _ _ (sf T203 m 55 #[rv d, iv q1, iv q2, .val (.int (((2 : Int32) * q2) + (if q1 < (rdI σ 3) then (0 : Int32) else (1 : Int32)))), iv w180] []) _
   refine s_aloadN X203.here hx (hb hby d18_55) rfl rfl ?_
   exact q
  obtain ⟨T205, X205, e205, st205⟩ := getF X203 hx hZ hown (host := "") (Or.inl (hw _ (wd 77 rfl))) Via.refl e203 (gt_d_first w203) (g := (mkF m 56 #[rv d, iv q1, iv q2, .val (.int (((2 : Int32) * q2) + (if q1 < (rdI σ 3) then (0 : Int32) else (1 : Int32)))), iv w180] [.ref d])) rfl rfl (hb hby d18_56)
  have k_206 : Go p.tables e below B0 (sf T205 m 61 #[rv d, iv q1, iv q2, .val (.int (((2 : Int32) * q2) + (if q1 < (rdI σ 3) then (0 : Int32) else (1 : Int32)))), iv w180] [.int q1, (.int (((2 : Int32) * q2) + (if q1 < (rdI σ 3) then (0 : Int32) else (1 : Int32)))), (.ref (ps 11))]) := fun t q => by
   refine k_204 t ?_
   refine st205 _ ?_
   show Steps _ _ _ (sf T205 m 59 #[rv d, iv q1, iv q2, .val (.int (((2 : Int32) * q2) + (if q1 < (rdI σ 3) then (0 : Int32) else (1 : Int32)))), iv w180] [(.ref (ps 11))]) _
   refine s_iloadN X205.here hx (hb hby d18_59) rfl ?_
   refine s_iloadN X205.here hx (hb hby d18_60) rfl ?_
   exact q
  obtain ⟨σ207, c207, hf207⟩ := Option.bind_eq_some_iff.mp hf202
  obtain ⟨cl207, Ar207, hin207, gp207, nx207⟩ := w203.wr hw c207
  obtain ⟨T208, h208, X208, e208, W208, st208⟩ := stI X205 hx hZ e205 Ar207 (j := (((2 : Int32) * q2) + (if q1 < (rdI σ 3) then (0 : Int32) else (1 : Int32)))) hin207 (g := (mkF m 61 #[rv d, iv q1, iv q2, .val (.int (((2 : Int32) * q2) + (if q1 < (rdI σ 3) then (0 : Int32) else (1 : Int32)))), iv w180] [.int q1, (.int (((2 : Int32) * q2) + (if q1 < (rdI σ 3) then (0 : Int32) else (1 : Int32)))), (.ref (ps 11))])) rfl rfl (hb hby d18_61)
  have w208 := nx207 _ W208
  have N208 := Fr.snoc X208 N203 gp207
  have k_209 : Go p.tables e below B0 (sf T208 m 62 #[rv d, iv q1, iv q2, .val (.int (((2 : Int32) * q2) + (if q1 < (rdI σ 3) then (0 : Int32) else (1 : Int32)))), iv w180] []) := fun t q => by
   refine k_206 t ?_
   refine st208 _ ?_
   show Steps _ _ _ (sf T208 m 62 #[rv d, iv q1, iv q2, .val (.int (((2 : Int32) * q2) + (if q1 < (rdI σ 3) then (0 : Int32) else (1 : Int32)))), iv w180] []) _
   exact q
  obtain rfl := Option.some.inj hf207
  obtain ⟨fs, hr, hrun, hended, hW, hsame⟩ := X208.leave (v := none) (fun _ => rfl)
  refine ⟨_, _, k_209 _ ?_, hrun, hended, _, _, rfl, ?_, ⟨_, rfl⟩, hW, hsame.mono (by decide) (by decide)⟩
  ·exact X208.returnOut hx Bd.returns (hb hby d18_62) hr
  ·show QW Z n0 b d ps σ207 none _ T208.heap _
   rw [e208]
   exact ⟨rfl, N208, w208⟩
def fUnlink (σ : St) (q1 q2 : Int32) : Option (Int32 × St) := (rdA σ 10 q1).bind fun w213 => if w213 = (-1 : Int32) then ((rdA σ 9 q1).bind fun w225 => (wrA σ 11 (((2 : Int32) * q2) + (if q1 < (rdI σ 3) then (0 : Int32) else (1 : Int32))) w225).bind fun σ227 => (rdA σ227 9 q1).bind fun w232 => if w232 = (-1 : Int32) then (some ((0 : Int32), σ227)) else ((rdA σ227 9 q1).bind fun w241 => (rdA σ227 10 q1).bind fun w245 => (wrA σ227 10 w241 w245).bind fun σ247 => some ((0 : Int32), σ247))) else ((rdA σ 10 q1).bind fun w255 => (rdA σ 9 q1).bind fun w259 => (wrA σ 9 w255 w259).bind fun σ261 => (rdA σ261 9 q1).bind fun w266 => if w266 = (-1 : Int32) then (some ((0 : Int32), σ261)) else ((rdA σ261 9 q1).bind fun w275 => (rdA σ261 10 q1).bind fun w279 => (wrA σ261 10 w275 w279).bind fun σ281 => some ((0 : Int32), σ281)))
set_option maxRecDepth 65536 in
set_option maxHeartbeats 40000000 in
theorem fUnlink_ok (l : Launch) (Z : State) (a0 : Array Value) (hw : ∀ d ∈ tables_1, d.before a0 Z = true) (ws : List Jvm.Cond) (b d : Addr) (ps : Nat → Addr) (σ : St) (q1 q2 : Int32) (h0 : Heap) (n0 : Nat) (W0 : Wd Z n0 h0 b d ps σ) (r : Int32 × St) (hf : fUnlink σ q1 q2 = some r) :
  MetFree l y_11 (head1 (Jvm.Cond.code y_11 prog_1_method_10_code 3 none :: ws) ({ frames := 0, cells := 0, slots := 0, locals := 0 } : Room)) (fun a U => a = #[.ref d, .int q1, .int q2] ∧ Z.Warmed39 U.vm ∧ U.heap = h0) (fun _ _ _ _ _ => True) (fun _ U o U' => ∃ v L, o = .returned v ∧ QW Z n0 b d ps r.2 none v U'.heap L ∧ FrameEnd U o U' L ({ frames := 0, cells := 0, slots := 0, locals := 0 } : Room).cells ({ frames := 0, cells := 0, slots := 0, locals := 0 } : Room).slots) := by
 refine MetFree.of_bodySF (plainFor_of_name pn_1) hisR ?_
 intro p e s m args below meth c s₁ Bd hml0 hP hK
 obtain ⟨rfl, hZ, hh⟩ := hP
 have hx := Bd.exec
 have hby := Bd.bytes
 have hml : c.maxLocals = 3 := hml0
 have hown : s.vm.findClass BSn = some m.cls := findClass_of_methodNamed Bd.named
 have hnm := (name_of_methodNamed Bd.named Bd.method).1
 have X0 : Stand p l e ({ frames := 0, cells := 0, slots := 0, locals := 0 } : Room) s m #[.ref d, .int q1, .int q2] below meth c s₁ [] 0 0 := Stand.of_body Bd
 have e0 : s₁.heap = h0 := by rw [← hh, Bd.state]; rfl
 have N0 := Fr.nil n0
 have K0 := Keep.refl h0 []
 have k0 : Go p.tables e below (s₁.setTop (entryFrame m #[.ref d, .int q1, .int q2] 3)) (sf s₁ m 0 #[rv d, iv q1, iv q2] []) := fun t k => castTop (by first | (simp [entryFrame, mkF, argsToLocals, Value.category]; done)) k
 unfold fUnlink at hf
 generalize s₁.setTop (entryFrame m #[.ref d, .int q1, .int q2] 3) = B0 at k0 ⊢
 have k_210 : Go p.tables e below B0 (sf s₁ m 1 #[rv d, iv q1, iv q2] [.ref d]) := fun t q => by
  refine k0 t ?_
  refine s_aloadN X0.here hx (hb hby d27_0) rfl rfl ?_
  exact q
 obtain ⟨T211, X211, e211, st211⟩ := getF X0 hx hZ hown (host := "") (Or.inl (hw _ (wd 75 rfl))) Via.refl e0 (gt_d_previous W0) (g := (mkF m 1 #[rv d, iv q1, iv q2] [.ref d])) rfl rfl (hb hby d27_1)
 have k_212 : Go p.tables e below B0 (sf T211 m 5 #[rv d, iv q1, iv q2] [.int q1, (.ref (ps 10))]) := fun t q => by
  refine k_210 t ?_
  refine st211 _ ?_
  show Steps _ _ _ (sf T211 m 4 #[rv d, iv q1, iv q2] [(.ref (ps 10))]) _
  refine s_iloadN X211.here hx (hb hby d27_4) rfl ?_
  exact q
 obtain ⟨w213, c213, hf213⟩ := Option.bind_eq_some_iff.mp hf
 obtain ⟨cl213, Ar213, hin213, hat213⟩ := W0.rd c213
 have k_214 : Go p.tables e below B0 (sf T211 m 7 #[rv d, iv q1, iv q2] [(.int (-1 : Int32)), .int w213]) := fun t q => by
  refine k_212 t ?_
  refine X211.iaload hx (j := q1) (v := (.int w213)) (by rw [e211]; exact Ar213.1) (State.isArrayOf_alike hZ.alike Ar213.2.1) Ar213.2.2 hin213 hat213 (g := (mkF m 5 #[rv d, iv q1, iv q2] [.int q1, (.ref (ps 10))])) rfl rfl (hb hby d27_5) _ ?_
  show Steps _ _ _ (sf T211 m 6 #[rv d, iv q1, iv q2] [.int w213]) _
  refine s_iconst (x := -1) X211.here hx (hb hby d27_6) rfl ?_
  exact q
 by_cases hc215 : w213 = (-1 : Int32)
 ·rw [if_pos hc215] at hf213
  have k_216 : Go p.tables e below B0 (sf T211 m 11 #[rv d, iv q1, iv q2] [.ref d]) := fun t q => by
   refine k_214 t ?_
   refine s_icmpNo X211.here hx (hb hby d27_7) (teq hc215).2 ?_
   refine s_aloadN X211.here hx (hb hby d27_10) rfl rfl ?_
   exact q
  obtain ⟨T217, X217, e217, st217⟩ := getF X211 hx hZ hown (host := "") (Or.inl (hw _ (wd 77 rfl))) Via.refl e211 (gt_d_first W0) (g := (mkF m 11 #[rv d, iv q1, iv q2] [.ref d])) rfl rfl (hb hby d27_11)
  have k_218 : Go p.tables e below B0 (sf T217 m 19 #[rv d, iv q1, iv q2] [.ref d, .int q1, (.int ((2 : Int32) * q2)), (.ref (ps 11))]) := fun t q => by
   refine k_216 t ?_
   refine st217 _ ?_
   show Steps _ _ _ (sf T217 m 14 #[rv d, iv q1, iv q2] [(.ref (ps 11))]) _
   refine s_iconst (x := 2) X217.here hx (hb hby d27_14) rfl ?_
   refine s_iloadN X217.here hx (hb hby d27_15) rfl ?_
   refine s_imul X217.here hx (hb hby d27_16) ?_
   refine s_iloadN X217.here hx (hb hby d27_17) rfl ?_
   refine s_aloadN X217.here hx (hb hby d27_18) rfl rfl ?_
   exact q
  obtain ⟨T219, X219, e219, st219⟩ := getF X217 hx hZ hown (host := "") (Or.inl (hw _ (wd 71 rfl))) Via.refl e217 (gt_d_secondStart W0) (g := (mkF m 19 #[rv d, iv q1, iv q2] [.ref d, .int q1, (.int ((2 : Int32) * q2)), (.ref (ps 11))])) rfl rfl (hb hby d27_19)
  have k_220 : Go p.tables e below B0 (sf T219 m 22 #[rv d, iv q1, iv q2] [(.int (rdI σ 3)), .int q1, (.int ((2 : Int32) * q2)), (.ref (ps 11))]) := fun t q => by
   refine k_218 t ?_
   refine st219 _ ?_
   show Steps _ _ _ (sf T219 m 22 #[rv d, iv q1, iv q2] [(.int (rdI σ 3)), .int q1, (.int ((2 : Int32) * q2)), (.ref (ps 11))]) _
   exact q
  have k_221 : Go p.tables e below B0 (sf T219 m 30 #[rv d, iv q1, iv q2] [(.int (if q1 < (rdI σ 3) then (0 : Int32) else (1 : Int32))), (.int ((2 : Int32) * q2)), (.ref (ps 11))]) := by
   by_cases hc221 : q1 < (rdI σ 3)
   ·rw [if_pos hc221]; exact fun t q => by
     refine k_220 t ?_
     refine s_icmpNo X219.here hx (hb hby d27_22) (tlt hc221).2.1 ?_
     refine s_iconst (x := 0) X219.here hx (hb hby d27_25) rfl ?_
     refine s_goto X219.here hx (pc' := 30) (hb hby d27_26) (by decide) (by decide) ?_
     exact q
   ·rw [if_neg hc221]; exact fun t q => by
     refine k_220 t ?_
     refine s_icmpYes X219.here hx (pc' := 29) (hb hby d27_22) (flt hc221).2.1 (by decide) (by decide) ?_
     refine s_iconst (x := 1) X219.here hx (hb hby d27_29) rfl ?_
     exact q
  have k_222 : Go p.tables e below B0 (sf T219 m 32 #[rv d, iv q1, iv q2] [.ref d, (.int (((2 : Int32) * q2) + (if q1 < (rdI σ 3) then (0 : Int32) else (1 : Int32)))), (.ref (ps 11))]) := fun t q => by
   refine k_221 t ?_
   refine s_iadd X219.here hx (hb hby d27_30) ?_
   refine s_aloadN X219.here hx (hb hby d27_31) rfl rfl ?_
   exact q
  obtain ⟨T223, X223, e223, st223⟩ := getF X219 hx hZ hown (host := "") (Or.inl (hw _ (wd 73 rfl))) Via.refl e219 (gt_d_next W0) (g := (mkF m 32 #[rv d, iv q1, iv q2] [.ref d, (.int (((2 : Int32) * q2) + (if q1 < (rdI σ 3) then (0 : Int32) else (1 : Int32)))), (.ref (ps 11))])) rfl rfl (hb hby d27_32)
  have k_224 : Go p.tables e below B0 (sf T223 m 36 #[rv d, iv q1, iv q2] [.int q1, (.ref (ps 9)), (.int (((2 : Int32) * q2) + (if q1 < (rdI σ 3) then (0 : Int32) else (1 : Int32)))), (.ref (ps 11))]) := fun t q => by
   refine k_222 t ?_
   refine st223 _ ?_
   show Steps _ _ _ (sf T223 m 35 #[rv d, iv q1, iv q2] [(.ref (ps 9)), (.int (((2 : Int32) * q2) + (if q1 < (rdI σ 3) then (0 : Int32) else (1 : Int32)))), (.ref (ps 11))]) _
   refine s_iloadN X223.here hx (hb hby d27_35) rfl ?_
   exact q
  obtain ⟨w225, c225, hf225⟩ := Option.bind_eq_some_iff.mp hf213
  obtain ⟨cl225, Ar225, hin225, hat225⟩ := W0.rd c225
  have k_226 : Go p.tables e below B0 (sf T223 m 37 #[rv d, iv q1, iv q2] [.int w225, (.int (((2 : Int32) * q2) + (if q1 < (rdI σ 3) then (0 : Int32) else (1 : Int32)))), (.ref (ps 11))]) := fun t q => by
   refine k_224 t ?_
   refine X223.iaload hx (j := q1) (v := (.int w225)) (by rw [e223]; exact Ar225.1) (State.isArrayOf_alike hZ.alike Ar225.2.1) Ar225.2.2 hin225 hat225 (g := (mkF m 36 #[rv d, iv q1, iv q2] [.int q1, (.ref (ps 9)), (.int (((2 : Int32) * q2) + (if q1 < (rdI σ 3) then (0 : Int32) else (1 : Int32)))), (.ref (ps 11))])) rfl rfl (hb hby d27_36) _ ?_
   show Steps _ _ _ (sf T223 m 37 #[rv d, iv q1, iv q2] [.int w225, (.int (((2 : Int32) * q2) + (if q1 < (rdI σ 3) then (0 : Int32) else (1 : Int32)))), (.ref (ps 11))]) _
   exact q
  obtain ⟨σ227, c227, hf227⟩ := Option.bind_eq_some_iff.mp hf225
  obtain ⟨cl227, Ar227, hin227, gp227, nx227⟩ := W0.wr hw c227
  obtain ⟨T228, h228, X228, e228, W228, st228⟩ := stI X223 hx hZ e223 Ar227 (j := (((2 : Int32) * q2) + (if q1 < (rdI σ 3) then (0 : Int32) else (1 : Int32)))) hin227 (g := (mkF m 37 #[rv d, iv q1, iv q2] [.int w225, (.int (((2 : Int32) * q2) + (if q1 < (rdI σ 3) then (0 : Int32) else (1 : Int32)))), (.ref (ps 11))])) rfl rfl (hb hby d27_37)
  have w228 := nx227 _ W228
  have N228 := Fr.snoc X228 N0 gp227
  have k_229 : Go p.tables e below B0 (sf T228 m 59 #[rv d, iv q1, iv q2] [.ref d]) := fun t q => by
   refine k_226 t ?_
   refine st228 _ ?_
   show Steps _ _ _ (sf T228 m 38 #[rv d, iv q1, iv q2] []) _
   refine s_goto X228.here hx (pc' := 58) (hb hby d27_38) (by decide) (by decide) ?_
   refine s_aloadN X228.here hx (hb hby d27_58) rfl rfl ?_
   exact q
  obtain ⟨T230, X230, e230, st230⟩ := getF X228 hx hZ hown (host := "") (Or.inl (hw _ (wd 73 rfl))) Via.refl e228 (gt_d_next w228) (g := (mkF m 59 #[rv d, iv q1, iv q2] [.ref d])) rfl rfl (hb hby d27_59)
  have k_231 : Go p.tables e below B0 (sf T230 m 63 #[rv d, iv q1, iv q2] [.int q1, (.ref (ps 9))]) := fun t q => by
   refine k_229 t ?_
   refine st230 _ ?_
   show Steps _ _ _ (sf T230 m 62 #[rv d, iv q1, iv q2] [(.ref (ps 9))]) _
   refine s_iloadN X230.here hx (hb hby d27_62) rfl ?_
   exact q
  obtain ⟨w232, c232, hf232⟩ := Option.bind_eq_some_iff.mp hf227
  obtain ⟨cl232, Ar232, hin232, hat232⟩ := w228.rd c232
  have k_233 : Go p.tables e below B0 (sf T230 m 65 #[rv d, iv q1, iv q2] [(.int (-1 : Int32)), .int w232]) := fun t q => by
   refine k_231 t ?_
   refine X230.iaload hx (j := q1) (v := (.int w232)) (by rw [e230]; exact Ar232.1) (State.isArrayOf_alike hZ.alike Ar232.2.1) Ar232.2.2 hin232 hat232 (g := (mkF m 63 #[rv d, iv q1, iv q2] [.int q1, (.ref (ps 9))])) rfl rfl (hb hby d27_63) _ ?_
   show Steps _ _ _ (sf T230 m 64 #[rv d, iv q1, iv q2] [.int w232]) _
   refine s_iconst (x := -1) X230.here hx (hb hby d27_64) rfl ?_
   exact q
  by_cases hc234 : w232 = (-1 : Int32)
  ·rw [if_pos hc234] at hf232
   have k_235 : Go p.tables e below B0 (sf T230 m 85 #[rv d, iv q1, iv q2] []) := fun t q => by
    refine k_233 t ?_
    refine s_icmpYes X230.here hx (pc' := 85) (hb hby d27_65) (teq hc234).1 (by decide) (by decide) ?_
    exact q
   obtain rfl := Option.some.inj hf232
   obtain ⟨fs, hr, hrun, hended, hW, hsame⟩ := X230.leave (v := none) (fun _ => rfl)
   refine ⟨_, _, k_235 _ ?_, hrun, hended, _, _, rfl, ?_, ⟨_, rfl⟩, hW, hsame.mono (by decide) (by decide)⟩
   ·exact X230.returnOut hx Bd.returns (hb hby d27_85) hr
   ·show QW Z n0 b d ps σ227 none _ T230.heap _
    rw [e230]
    exact ⟨rfl, N228, w228⟩
  ·rw [if_neg hc234] at hf232
   have k_236 : Go p.tables e below B0 (sf T230 m 69 #[rv d, iv q1, iv q2] [.ref d]) := fun t q => by
    refine k_233 t ?_
    refine s_icmpNo X230.here hx (hb hby d27_65) (feq hc234).1 ?_
    refine s_aloadN X230.here hx (hb hby d27_68) rfl rfl ?_
    exact q
   obtain ⟨T237, X237, e237, st237⟩ := getF X230 hx hZ hown (host := "") (Or.inl (hw _ (wd 75 rfl))) Via.refl e230 (gt_d_previous w228) (g := (mkF m 69 #[rv d, iv q1, iv q2] [.ref d])) rfl rfl (hb hby d27_69)
   have k_238 : Go p.tables e below B0 (sf T237 m 73 #[rv d, iv q1, iv q2] [.ref d, (.ref (ps 10))]) := fun t q => by
    refine k_236 t ?_
    refine st237 _ ?_
    show Steps _ _ _ (sf T237 m 72 #[rv d, iv q1, iv q2] [(.ref (ps 10))]) _
    refine s_aloadN X237.here hx (hb hby d27_72) rfl rfl ?_
    exact q
   obtain ⟨T239, X239, e239, st239⟩ := getF X237 hx hZ hown (host := "") (Or.inl (hw _ (wd 73 rfl))) Via.refl e237 (gt_d_next w228) (g := (mkF m 73 #[rv d, iv q1, iv q2] [.ref d, (.ref (ps 10))])) rfl rfl (hb hby d27_73)
   have k_240 : Go p.tables e below B0 (sf T239 m 77 #[rv d, iv q1, iv q2] [.int q1, (.ref (ps 9)), (.ref (ps 10))]) := fun t q => by
    refine k_238 t ?_
    refine st239 _ ?_
    show Steps _ _ _ (sf T239 m 76 #[rv d, iv q1, iv q2] [(.ref (ps 9)), (.ref (ps 10))]) _
    refine s_iloadN X239.here hx (hb hby d27_76) rfl ?_
    exact q
   obtain ⟨w241, c241, hf241⟩ := Option.bind_eq_some_iff.mp hf232
   obtain ⟨cl241, Ar241, hin241, hat241⟩ := w228.rd c241
   have k_242 : Go p.tables e below B0 (sf T239 m 79 #[rv d, iv q1, iv q2] [.ref d, .int w241, (.ref (ps 10))]) := fun t q => by
    refine k_240 t ?_
    refine X239.iaload hx (j := q1) (v := (.int w241)) (by rw [e239]; exact Ar241.1) (State.isArrayOf_alike hZ.alike Ar241.2.1) Ar241.2.2 hin241 hat241 (g := (mkF m 77 #[rv d, iv q1, iv q2] [.int q1, (.ref (ps 9)), (.ref (ps 10))])) rfl rfl (hb hby d27_77) _ ?_
    show Steps _ _ _ (sf T239 m 78 #[rv d, iv q1, iv q2] [.int w241, (.ref (ps 10))]) _
    refine s_aloadN X239.here hx (hb hby d27_78) rfl rfl ?_
    exact q
   obtain ⟨T243, X243, e243, st243⟩ := getF X239 hx hZ hown (host := "") (Or.inl (hw _ (wd 75 rfl))) Via.refl e239 (gt_d_previous w228) (g := (mkF m 79 #[rv d, iv q1, iv q2] [.ref d, .int w241, (.ref (ps 10))])) rfl rfl (hb hby d27_79)
   have k_244 : Go p.tables e below B0 (sf T243 m 83 #[rv d, iv q1, iv q2] [.int q1, (.ref (ps 10)), .int w241, (.ref (ps 10))]) := fun t q => by
    refine k_242 t ?_
    refine st243 _ ?_
    show Steps _ _ _ (sf T243 m 82 #[rv d, iv q1, iv q2] [(.ref (ps 10)), .int w241, (.ref (ps 10))]) _
    refine s_iloadN X243.here hx (hb hby d27_82) rfl ?_
    exact q
   obtain ⟨w245, c245, hf245⟩ := Option.bind_eq_some_iff.mp hf241
   obtain ⟨cl245, Ar245, hin245, hat245⟩ := w228.rd c245
   have k_246 : Go p.tables e below B0 (sf T243 m 84 #[rv d, iv q1, iv q2] [.int w245, .int w241, (.ref (ps 10))]) := fun t q => by
    refine k_244 t ?_
    refine X243.iaload hx (j := q1) (v := (.int w245)) (by rw [e243]; exact Ar245.1) (State.isArrayOf_alike hZ.alike Ar245.2.1) Ar245.2.2 hin245 hat245 (g := (mkF m 83 #[rv d, iv q1, iv q2] [.int q1, (.ref (ps 10)), .int w241, (.ref (ps 10))])) rfl rfl (hb hby d27_83) _ ?_
    show Steps _ _ _ (sf T243 m 84 #[rv d, iv q1, iv q2] [.int w245, .int w241, (.ref (ps 10))]) _
    exact q
   obtain ⟨σ247, c247, hf247⟩ := Option.bind_eq_some_iff.mp hf245
   obtain ⟨cl247, Ar247, hin247, gp247, nx247⟩ := w228.wr hw c247
   obtain ⟨T248, h248, X248, e248, W248, st248⟩ := stI X243 hx hZ e243 Ar247 (j := w241) hin247 (g := (mkF m 84 #[rv d, iv q1, iv q2] [.int w245, .int w241, (.ref (ps 10))])) rfl rfl (hb hby d27_84)
   have w248 := nx247 _ W248
   have N248 := Fr.snoc X248 N228 gp247
   have k_249 : Go p.tables e below B0 (sf T248 m 85 #[rv d, iv q1, iv q2] []) := fun t q => by
    refine k_246 t ?_
    refine st248 _ ?_
    show Steps _ _ _ (sf T248 m 85 #[rv d, iv q1, iv q2] []) _
    exact q
   obtain rfl := Option.some.inj hf247
   obtain ⟨fs, hr, hrun, hended, hW, hsame⟩ := X248.leave (v := none) (fun _ => rfl)
   refine ⟨_, _, k_249 _ ?_, hrun, hended, _, _, rfl, ?_, ⟨_, rfl⟩, hW, hsame.mono (by decide) (by decide)⟩
   ·exact X248.returnOut hx Bd.returns (hb hby d27_85) hr
   ·show QW Z n0 b d ps σ247 none _ T248.heap _
    rw [e248]
    exact ⟨rfl, N248, w248⟩
 ·rw [if_neg hc215] at hf213
  have k_250 : Go p.tables e below B0 (sf T211 m 42 #[rv d, iv q1, iv q2] [.ref d]) := fun t q => by
   refine k_214 t ?_
   refine s_icmpYes X211.here hx (pc' := 41) (hb hby d27_7) (feq hc215).2 (by decide) (by decide) ?_
   refine s_aloadN X211.here hx (hb hby d27_41) rfl rfl ?_
   exact q
  obtain ⟨T251, X251, e251, st251⟩ := getF X211 hx hZ hown (host := "") (Or.inl (hw _ (wd 73 rfl))) Via.refl e211 (gt_d_next W0) (g := (mkF m 42 #[rv d, iv q1, iv q2] [.ref d])) rfl rfl (hb hby d27_42)
  have k_252 : Go p.tables e below B0 (sf T251 m 46 #[rv d, iv q1, iv q2] [.ref d, (.ref (ps 9))]) := fun t q => by
   refine k_250 t ?_
   refine st251 _ ?_
   show Steps _ _ _ (sf T251 m 45 #[rv d, iv q1, iv q2] [(.ref (ps 9))]) _
   refine s_aloadN X251.here hx (hb hby d27_45) rfl rfl ?_
   exact q
  obtain ⟨T253, X253, e253, st253⟩ := getF X251 hx hZ hown (host := "") (Or.inl (hw _ (wd 75 rfl))) Via.refl e251 (gt_d_previous W0) (g := (mkF m 46 #[rv d, iv q1, iv q2] [.ref d, (.ref (ps 9))])) rfl rfl (hb hby d27_46)
  have k_254 : Go p.tables e below B0 (sf T253 m 50 #[rv d, iv q1, iv q2] [.int q1, (.ref (ps 10)), (.ref (ps 9))]) := fun t q => by
   refine k_252 t ?_
   refine st253 _ ?_
   show Steps _ _ _ (sf T253 m 49 #[rv d, iv q1, iv q2] [(.ref (ps 10)), (.ref (ps 9))]) _
   refine s_iloadN X253.here hx (hb hby d27_49) rfl ?_
   exact q
  obtain ⟨w255, c255, hf255⟩ := Option.bind_eq_some_iff.mp hf213
  obtain ⟨cl255, Ar255, hin255, hat255⟩ := W0.rd c255
  have k_256 : Go p.tables e below B0 (sf T253 m 52 #[rv d, iv q1, iv q2] [.ref d, .int w255, (.ref (ps 9))]) := fun t q => by
   refine k_254 t ?_
   refine X253.iaload hx (j := q1) (v := (.int w255)) (by rw [e253]; exact Ar255.1) (State.isArrayOf_alike hZ.alike Ar255.2.1) Ar255.2.2 hin255 hat255 (g := (mkF m 50 #[rv d, iv q1, iv q2] [.int q1, (.ref (ps 10)), (.ref (ps 9))])) rfl rfl (hb hby d27_50) _ ?_
   show Steps _ _ _ (sf T253 m 51 #[rv d, iv q1, iv q2] [.int w255, (.ref (ps 9))]) _
   refine s_aloadN X253.here hx (hb hby d27_51) rfl rfl ?_
   exact q
  obtain ⟨T257, X257, e257, st257⟩ := getF X253 hx hZ hown (host := "") (Or.inl (hw _ (wd 73 rfl))) Via.refl e253 (gt_d_next W0) (g := (mkF m 52 #[rv d, iv q1, iv q2] [.ref d, .int w255, (.ref (ps 9))])) rfl rfl (hb hby d27_52)
  have k_258 : Go p.tables e below B0 (sf T257 m 56 #[rv d, iv q1, iv q2] [.int q1, (.ref (ps 9)), .int w255, (.ref (ps 9))]) := fun t q => by
   refine k_256 t ?_
   refine st257 _ ?_
   show Steps _ _ _ (sf T257 m 55 #[rv d, iv q1, iv q2] [(.ref (ps 9)), .int w255, (.ref (ps 9))]) _
   refine s_iloadN X257.here hx (hb hby d27_55) rfl ?_
   exact q
  obtain ⟨w259, c259, hf259⟩ := Option.bind_eq_some_iff.mp hf255
  obtain ⟨cl259, Ar259, hin259, hat259⟩ := W0.rd c259
  have k_260 : Go p.tables e below B0 (sf T257 m 57 #[rv d, iv q1, iv q2] [.int w259, .int w255, (.ref (ps 9))]) := fun t q => by
   refine k_258 t ?_
   refine X257.iaload hx (j := q1) (v := (.int w259)) (by rw [e257]; exact Ar259.1) (State.isArrayOf_alike hZ.alike Ar259.2.1) Ar259.2.2 hin259 hat259 (g := (mkF m 56 #[rv d, iv q1, iv q2] [.int q1, (.ref (ps 9)), .int w255, (.ref (ps 9))])) rfl rfl (hb hby d27_56) _ ?_
   show Steps _ _ _ (sf T257 m 57 #[rv d, iv q1, iv q2] [.int w259, .int w255, (.ref (ps 9))]) _
   exact q
  obtain ⟨σ261, c261, hf261⟩ := Option.bind_eq_some_iff.mp hf259
  obtain ⟨cl261, Ar261, hin261, gp261, nx261⟩ := W0.wr hw c261
  obtain ⟨T262, h262, X262, e262, W262, st262⟩ := stI X257 hx hZ e257 Ar261 (j := w255) hin261 (g := (mkF m 57 #[rv d, iv q1, iv q2] [.int w259, .int w255, (.ref (ps 9))])) rfl rfl (hb hby d27_57)
  have w262 := nx261 _ W262
  have N262 := Fr.snoc X262 N0 gp261
  have k_263 : Go p.tables e below B0 (sf T262 m 59 #[rv d, iv q1, iv q2] [.ref d]) := fun t q => by
   refine k_260 t ?_
   refine st262 _ ?_
   show Steps _ _ _ (sf T262 m 58 #[rv d, iv q1, iv q2] []) _
   refine s_aloadN X262.here hx (hb hby d27_58) rfl rfl ?_
   exact q
  obtain ⟨T264, X264, e264, st264⟩ := getF X262 hx hZ hown (host := "") (Or.inl (hw _ (wd 73 rfl))) Via.refl e262 (gt_d_next w262) (g := (mkF m 59 #[rv d, iv q1, iv q2] [.ref d])) rfl rfl (hb hby d27_59)
  have k_265 : Go p.tables e below B0 (sf T264 m 63 #[rv d, iv q1, iv q2] [.int q1, (.ref (ps 9))]) := fun t q => by
   refine k_263 t ?_
   refine st264 _ ?_
   show Steps _ _ _ (sf T264 m 62 #[rv d, iv q1, iv q2] [(.ref (ps 9))]) _
   refine s_iloadN X264.here hx (hb hby d27_62) rfl ?_
   exact q
  obtain ⟨w266, c266, hf266⟩ := Option.bind_eq_some_iff.mp hf261
  obtain ⟨cl266, Ar266, hin266, hat266⟩ := w262.rd c266
  have k_267 : Go p.tables e below B0 (sf T264 m 65 #[rv d, iv q1, iv q2] [(.int (-1 : Int32)), .int w266]) := fun t q => by
   refine k_265 t ?_
   refine X264.iaload hx (j := q1) (v := (.int w266)) (by rw [e264]; exact Ar266.1) (State.isArrayOf_alike hZ.alike Ar266.2.1) Ar266.2.2 hin266 hat266 (g := (mkF m 63 #[rv d, iv q1, iv q2] [.int q1, (.ref (ps 9))])) rfl rfl (hb hby d27_63) _ ?_
   show Steps _ _ _ (sf T264 m 64 #[rv d, iv q1, iv q2] [.int w266]) _
   refine s_iconst (x := -1) X264.here hx (hb hby d27_64) rfl ?_
   exact q
  by_cases hc268 : w266 = (-1 : Int32)
  ·rw [if_pos hc268] at hf266
   have k_269 : Go p.tables e below B0 (sf T264 m 85 #[rv d, iv q1, iv q2] []) := fun t q => by
    refine k_267 t ?_
    refine s_icmpYes X264.here hx (pc' := 85) (hb hby d27_65) (teq hc268).1 (by decide) (by decide) ?_
    exact q
   obtain rfl := Option.some.inj hf266
   obtain ⟨fs, hr, hrun, hended, hW, hsame⟩ := X264.leave (v := none) (fun _ => rfl)
   refine ⟨_, _, k_269 _ ?_, hrun, hended, _, _, rfl, ?_, ⟨_, rfl⟩, hW, hsame.mono (by decide) (by decide)⟩
   ·exact X264.returnOut hx Bd.returns (hb hby d27_85) hr
   ·show QW Z n0 b d ps σ261 none _ T264.heap _
    rw [e264]
    exact ⟨rfl, N262, w262⟩
  ·rw [if_neg hc268] at hf266
   have k_270 : Go p.tables e below B0 (sf T264 m 69 #[rv d, iv q1, iv q2] [.ref d]) := fun t q => by
    refine k_267 t ?_
    refine s_icmpNo X264.here hx (hb hby d27_65) (feq hc268).1 ?_
    refine s_aloadN X264.here hx (hb hby d27_68) rfl rfl ?_
    exact q
   obtain ⟨T271, X271, e271, st271⟩ := getF X264 hx hZ hown (host := "") (Or.inl (hw _ (wd 75 rfl))) Via.refl e264 (gt_d_previous w262) (g := (mkF m 69 #[rv d, iv q1, iv q2] [.ref d])) rfl rfl (hb hby d27_69)
   have k_272 : Go p.tables e below B0 (sf T271 m 73 #[rv d, iv q1, iv q2] [.ref d, (.ref (ps 10))]) := fun t q => by
    refine k_270 t ?_
    refine st271 _ ?_
    show Steps _ _ _ (sf T271 m 72 #[rv d, iv q1, iv q2] [(.ref (ps 10))]) _
    refine s_aloadN X271.here hx (hb hby d27_72) rfl rfl ?_
    exact q
   obtain ⟨T273, X273, e273, st273⟩ := getF X271 hx hZ hown (host := "") (Or.inl (hw _ (wd 73 rfl))) Via.refl e271 (gt_d_next w262) (g := (mkF m 73 #[rv d, iv q1, iv q2] [.ref d, (.ref (ps 10))])) rfl rfl (hb hby d27_73)
   have k_274 : Go p.tables e below B0 (sf T273 m 77 #[rv d, iv q1, iv q2] [.int q1, (.ref (ps 9)), (.ref (ps 10))]) := fun t q => by
    refine k_272 t ?_
    refine st273 _ ?_
    show Steps _ _ _ (sf T273 m 76 #[rv d, iv q1, iv q2] [(.ref (ps 9)), (.ref (ps 10))]) _
    refine s_iloadN X273.here hx (hb hby d27_76) rfl ?_
    exact q
   obtain ⟨w275, c275, hf275⟩ := Option.bind_eq_some_iff.mp hf266
   obtain ⟨cl275, Ar275, hin275, hat275⟩ := w262.rd c275
   have k_276 : Go p.tables e below B0 (sf T273 m 79 #[rv d, iv q1, iv q2] [.ref d, .int w275, (.ref (ps 10))]) := fun t q => by
    refine k_274 t ?_
    refine X273.iaload hx (j := q1) (v := (.int w275)) (by rw [e273]; exact Ar275.1) (State.isArrayOf_alike hZ.alike Ar275.2.1) Ar275.2.2 hin275 hat275 (g := (mkF m 77 #[rv d, iv q1, iv q2] [.int q1, (.ref (ps 9)), (.ref (ps 10))])) rfl rfl (hb hby d27_77) _ ?_
    show Steps _ _ _ (sf T273 m 78 #[rv d, iv q1, iv q2] [.int w275, (.ref (ps 10))]) _
    refine s_aloadN X273.here hx (hb hby d27_78) rfl rfl ?_
    exact q
   obtain ⟨T277, X277, e277, st277⟩ := getF X273 hx hZ hown (host := "") (Or.inl (hw _ (wd 75 rfl))) Via.refl e273 (gt_d_previous w262) (g := (mkF m 79 #[rv d, iv q1, iv q2] [.ref d, .int w275, (.ref (ps 10))])) rfl rfl (hb hby d27_79)
   have k_278 : Go p.tables e below B0 (sf T277 m 83 #[rv d, iv q1, iv q2] [.int q1, (.ref (ps 10)), .int w275, (.ref (ps 10))]) := fun t q => by
    refine k_276 t ?_
    refine st277 _ ?_
    show Steps _ _ _ (sf T277 m 82 #[rv d, iv q1, iv q2] [(.ref (ps 10)), .int w275, (.ref (ps 10))]) _
    refine s_iloadN X277.here hx (hb hby d27_82) rfl ?_
    exact q
   obtain ⟨w279, c279, hf279⟩ := Option.bind_eq_some_iff.mp hf275
   obtain ⟨cl279, Ar279, hin279, hat279⟩ := w262.rd c279
   have k_280 : Go p.tables e below B0 (sf T277 m 84 #[rv d, iv q1, iv q2] [.int w279, .int w275, (.ref (ps 10))]) := fun t q => by
    refine k_278 t ?_
    refine X277.iaload hx (j := q1) (v := (.int w279)) (by rw [e277]; exact Ar279.1) (State.isArrayOf_alike hZ.alike Ar279.2.1) Ar279.2.2 hin279 hat279 (g := (mkF m 83 #[rv d, iv q1, iv q2] [.int q1, (.ref (ps 10)), .int w275, (.ref (ps 10))])) rfl rfl (hb hby d27_83) _ ?_
    show Steps _ _ _ (sf T277 m 84 #[rv d, iv q1, iv q2] [.int w279, .int w275, (.ref (ps 10))]) _
    exact q
   obtain ⟨σ281, c281, hf281⟩ := Option.bind_eq_some_iff.mp hf279
   obtain ⟨cl281, Ar281, hin281, gp281, nx281⟩ := w262.wr hw c281
   obtain ⟨T282, h282, X282, e282, W282, st282⟩ := stI X277 hx hZ e277 Ar281 (j := w275) hin281 (g := (mkF m 84 #[rv d, iv q1, iv q2] [.int w279, .int w275, (.ref (ps 10))])) rfl rfl (hb hby d27_84)
   have w282 := nx281 _ W282
   have N282 := Fr.snoc X282 N262 gp281
   have k_283 : Go p.tables e below B0 (sf T282 m 85 #[rv d, iv q1, iv q2] []) := fun t q => by
    refine k_280 t ?_
    refine st282 _ ?_
    show Steps _ _ _ (sf T282 m 85 #[rv d, iv q1, iv q2] []) _
    exact q
   obtain rfl := Option.some.inj hf281
   obtain ⟨fs, hr, hrun, hended, hW, hsame⟩ := X282.leave (v := none) (fun _ => rfl)
   refine ⟨_, _, k_283 _ ?_, hrun, hended, _, _, rfl, ?_, ⟨_, rfl⟩, hW, hsame.mono (by decide) (by decide)⟩
   ·exact X282.returnOut hx Bd.returns (hb hby d27_85) hr
   ·show QW Z n0 b d ps σ281 none _ T282.heap _
    rw [e282]
    exact ⟨rfl, N282, w282⟩
def fMark (σ : St) (q1 : Int32) : Option (Int32 × St) := (rdA σ 2 q1).bind fun w287 => (rdA σ 7 w287).bind fun w291 => (rdA σ 3 w287).bind fun w295 => if w291 = w295 then ((wrA σ 8 (rdI σ 1) w287).bind fun σ303 => (some (wrI σ303 1 ((rdI σ303 1) + (1 : Int32)))).bind fun σ308 => (rdA σ308 7 w287).bind fun w313 => (wrA σ308 7 w287 (w313 + (1 : Int32))).bind fun σ315 => (wrA σ315 6 (rdI σ315 0) q1).bind fun σ322 => (some (wrI σ322 0 ((rdI σ322 0) + (1 : Int32)))).bind fun σ327 => some ((0 : Int32), σ327)) else ((rdA σ 7 w287).bind fun w333 => (wrA σ 7 w287 (w333 + (1 : Int32))).bind fun σ335 => (wrA σ335 6 (rdI σ335 0) q1).bind fun σ342 => (some (wrI σ342 0 ((rdI σ342 0) + (1 : Int32)))).bind fun σ347 => some ((0 : Int32), σ347))
set_option maxRecDepth 65536 in
set_option maxHeartbeats 40000000 in
theorem fMark_ok (l : Launch) (Z : State) (a0 : Array Value) (hw : ∀ d ∈ tables_1, d.before a0 Z = true) (ws : List Jvm.Cond) (b d : Addr) (ps : Nat → Addr) (σ : St) (q1 : Int32) (h0 : Heap) (n0 : Nat) (W0 : Wd Z n0 h0 b d ps σ) (r : Int32 × St) (hf : fMark σ q1 = some r) :
  MetFree l y_12 (head1 (Jvm.Cond.code y_12 prog_3_method_12_code 3 none :: ws) ({ frames := 0, cells := 0, slots := 0, locals := 0 } : Room)) (fun a U => a = #[.ref b, .int q1] ∧ Z.Warmed39 U.vm ∧ U.heap = h0) (fun _ _ _ _ _ => True) (fun _ U o U' => ∃ v L, o = .returned v ∧ QW Z n0 b d ps r.2 none v U'.heap L ∧ FrameEnd U o U' L ({ frames := 0, cells := 0, slots := 0, locals := 0 } : Room).cells ({ frames := 0, cells := 0, slots := 0, locals := 0 } : Room).slots) := by
 refine MetFree.of_bodySF (plainFor_of_name pn_0) hisR ?_
 intro p e s m args below meth c s₁ Bd hml0 hP hK
 obtain ⟨rfl, hZ, hh⟩ := hP
 have hx := Bd.exec
 have hby := Bd.bytes
 have hml : c.maxLocals = 3 := hml0
 have hown : s.vm.findClass BLn = some m.cls := findClass_of_methodNamed Bd.named
 have hnm := (name_of_methodNamed Bd.named Bd.method).1
 have X0 : Stand p l e ({ frames := 0, cells := 0, slots := 0, locals := 0 } : Room) s m #[.ref b, .int q1] below meth c s₁ [] 0 0 := Stand.of_body Bd
 have e0 : s₁.heap = h0 := by rw [← hh, Bd.state]; rfl
 have N0 := Fr.nil n0
 have K0 := Keep.refl h0 []
 have k0 : Go p.tables e below (s₁.setTop (entryFrame m #[.ref b, .int q1] 3)) (sf s₁ m 0 #[rv b, iv q1, nu] []) := fun t k => castTop (by first | (simp [entryFrame, mkF, argsToLocals, Value.category]; done)) k
 unfold fMark at hf
 generalize s₁.setTop (entryFrame m #[.ref b, .int q1] 3) = B0 at k0 ⊢
 have k_284 : Go p.tables e below B0 (sf s₁ m 1 #[rv b, iv q1, nu] [.ref b]) := fun t q => by
  refine k0 t ?_
  refine s_aloadN X0.here hx (hb hby d19_0) rfl rfl ?_
  exact q
 obtain ⟨T285, X285, e285, st285⟩ := getF X0 hx hZ hown (host := "") (Or.inl (hw _ (wd 41 rfl))) Via.refl e0 (gt_b_blockOf W0) (g := (mkF m 1 #[rv b, iv q1, nu] [.ref b])) rfl rfl (hb hby d19_1)
 have k_286 : Go p.tables e below B0 (sf T285 m 5 #[rv b, iv q1, nu] [.int q1, (.ref (ps 2))]) := fun t q => by
  refine k_284 t ?_
  refine st285 _ ?_
  show Steps _ _ _ (sf T285 m 4 #[rv b, iv q1, nu] [(.ref (ps 2))]) _
  refine s_iloadN X285.here hx (hb hby d19_4) rfl ?_
  exact q
 obtain ⟨w287, c287, hf287⟩ := Option.bind_eq_some_iff.mp hf
 obtain ⟨cl287, Ar287, hin287, hat287⟩ := W0.rd c287
 have k_288 : Go p.tables e below B0 (sf T285 m 8 #[rv b, iv q1, iv w287] [.ref b]) := fun t q => by
  refine k_286 t ?_
  refine X285.iaload hx (j := q1) (v := (.int w287)) (by rw [e285]; exact Ar287.1) (State.isArrayOf_alike hZ.alike Ar287.2.1) Ar287.2.2 hin287 hat287 (g := (mkF m 5 #[rv b, iv q1, nu] [.int q1, (.ref (ps 2))])) rfl rfl (hb hby d19_5) _ ?_
  show Steps _ _ _ (sf T285 m 6 #[rv b, iv q1, nu] [.int w287]) _
  refine s_istoreN X285.here hx (hb hby d19_6) (l' := #[rv b, iv q1, iv w287]) rfl ?_
  refine s_aloadN X285.here hx (hb hby d19_7) rfl rfl ?_
  exact q
 obtain ⟨T289, X289, e289, st289⟩ := getF X285 hx hZ hown (host := "") (Or.inl (hw _ (wd 49 rfl))) Via.refl e285 (gt_b_markedEnd W0) (g := (mkF m 8 #[rv b, iv q1, iv w287] [.ref b])) rfl rfl (hb hby d19_8)
 have k_290 : Go p.tables e below B0 (sf T289 m 12 #[rv b, iv q1, iv w287] [.int w287, (.ref (ps 7))]) := fun t q => by
  refine k_288 t ?_
  refine st289 _ ?_
  show Steps _ _ _ (sf T289 m 11 #[rv b, iv q1, iv w287] [(.ref (ps 7))]) _
  refine s_iloadN X289.here hx (hb hby d19_11) rfl ?_
  exact q
 obtain ⟨w291, c291, hf291⟩ := Option.bind_eq_some_iff.mp hf287
 obtain ⟨cl291, Ar291, hin291, hat291⟩ := W0.rd c291
 have k_292 : Go p.tables e below B0 (sf T289 m 14 #[rv b, iv q1, iv w287] [.ref b, .int w291]) := fun t q => by
  refine k_290 t ?_
  refine X289.iaload hx (j := w287) (v := (.int w291)) (by rw [e289]; exact Ar291.1) (State.isArrayOf_alike hZ.alike Ar291.2.1) Ar291.2.2 hin291 hat291 (g := (mkF m 12 #[rv b, iv q1, iv w287] [.int w287, (.ref (ps 7))])) rfl rfl (hb hby d19_12) _ ?_
  show Steps _ _ _ (sf T289 m 13 #[rv b, iv q1, iv w287] [.int w291]) _
  refine s_aloadN X289.here hx (hb hby d19_13) rfl rfl ?_
  exact q
 obtain ⟨T293, X293, e293, st293⟩ := getF X289 hx hZ hown (host := "") (Or.inl (hw _ (wd 45 rfl))) Via.refl e289 (gt_b_start W0) (g := (mkF m 14 #[rv b, iv q1, iv w287] [.ref b, .int w291])) rfl rfl (hb hby d19_14)
 have k_294 : Go p.tables e below B0 (sf T293 m 18 #[rv b, iv q1, iv w287] [.int w287, (.ref (ps 3)), .int w291]) := fun t q => by
  refine k_292 t ?_
  refine st293 _ ?_
  show Steps _ _ _ (sf T293 m 17 #[rv b, iv q1, iv w287] [(.ref (ps 3)), .int w291]) _
  refine s_iloadN X293.here hx (hb hby d19_17) rfl ?_
  exact q
 obtain ⟨w295, c295, hf295⟩ := Option.bind_eq_some_iff.mp hf291
 obtain ⟨cl295, Ar295, hin295, hat295⟩ := W0.rd c295
 have k_296 : Go p.tables e below B0 (sf T293 m 19 #[rv b, iv q1, iv w287] [.int w295, .int w291]) := fun t q => by
  refine k_294 t ?_
  refine X293.iaload hx (j := w287) (v := (.int w295)) (by rw [e293]; exact Ar295.1) (State.isArrayOf_alike hZ.alike Ar295.2.1) Ar295.2.2 hin295 hat295 (g := (mkF m 18 #[rv b, iv q1, iv w287] [.int w287, (.ref (ps 3)), .int w291])) rfl rfl (hb hby d19_18) _ ?_
  show Steps _ _ _ (sf T293 m 19 #[rv b, iv q1, iv w287] [.int w295, .int w291]) _
  exact q
 by_cases hc297 : w291 = w295
 ·rw [if_pos hc297] at hf295
  have k_298 : Go p.tables e below B0 (sf T293 m 23 #[rv b, iv q1, iv w287] [.ref b]) := fun t q => by
   refine k_296 t ?_
   refine s_icmpNo X293.here hx (hb hby d19_19) (teq hc297).2 ?_
   refine s_aloadN X293.here hx (hb hby d19_22) rfl rfl ?_
   exact q
  obtain ⟨T299, X299, e299, st299⟩ := getF X293 hx hZ hown (host := "") (Or.inl (hw _ (wd 51 rfl))) Via.refl e293 (gt_b_touched W0) (g := (mkF m 23 #[rv b, iv q1, iv w287] [.ref b])) rfl rfl (hb hby d19_23)
  have k_300 : Go p.tables e below B0 (sf T299 m 27 #[rv b, iv q1, iv w287] [.ref b, (.ref (ps 8))]) := fun t q => by
   refine k_298 t ?_
   refine st299 _ ?_
   show Steps _ _ _ (sf T299 m 26 #[rv b, iv q1, iv w287] [(.ref (ps 8))]) _
   refine s_aloadN X299.here hx (hb hby d19_26) rfl rfl ?_
   exact q
  obtain ⟨T301, X301, e301, st301⟩ := getF X299 hx hZ hown (host := "") (Or.inl (hw _ (wd 116 rfl))) Via.refl e299 (gt_b_touchedCount W0) (g := (mkF m 27 #[rv b, iv q1, iv w287] [.ref b, (.ref (ps 8))])) rfl rfl (hb hby d19_27)
  have k_302 : Go p.tables e below B0 (sf T301 m 31 #[rv b, iv q1, iv w287] [.int w287, (.int (rdI σ 1)), (.ref (ps 8))]) := fun t q => by
   refine k_300 t ?_
   refine st301 _ ?_
   show Steps _ _ _ (sf T301 m 30 #[rv b, iv q1, iv w287] [(.int (rdI σ 1)), (.ref (ps 8))]) _
   refine s_iloadN X301.here hx (hb hby d19_30) rfl ?_
   exact q
  obtain ⟨σ303, c303, hf303⟩ := Option.bind_eq_some_iff.mp hf295
  obtain ⟨cl303, Ar303, hin303, gp303, nx303⟩ := W0.wr hw c303
  obtain ⟨T304, h304, X304, e304, W304, st304⟩ := stI X301 hx hZ e301 Ar303 (j := (rdI σ 1)) hin303 (g := (mkF m 31 #[rv b, iv q1, iv w287] [.int w287, (.int (rdI σ 1)), (.ref (ps 8))])) rfl rfl (hb hby d19_31)
  have w304 := nx303 _ W304
  have N304 := Fr.snoc X304 N0 gp303
  have k_305 : Go p.tables e below B0 (sf T304 m 34 #[rv b, iv q1, iv w287] [.ref b, .ref b]) := fun t q => by
   refine k_302 t ?_
   refine st304 _ ?_
   show Steps _ _ _ (sf T304 m 32 #[rv b, iv q1, iv w287] []) _
   refine s_aloadN X304.here hx (hb hby d19_32) rfl rfl ?_
   refine s_dup X304.here hx (hb hby d19_33) rfl ?_
   exact q
  obtain ⟨T306, X306, e306, st306⟩ := getF X304 hx hZ hown (host := "") (Or.inl (hw _ (wd 116 rfl))) Via.refl e304 (gt_b_touchedCount w304) (g := (mkF m 34 #[rv b, iv q1, iv w287] [.ref b, .ref b])) rfl rfl (hb hby d19_34)
  have k_307 : Go p.tables e below B0 (sf T306 m 39 #[rv b, iv q1, iv w287] [(.int ((rdI σ303 1) + (1 : Int32))), .ref b]) := fun t q => by
   refine k_305 t ?_
   refine st306 _ ?_
   show Steps _ _ _ (sf T306 m 37 #[rv b, iv q1, iv w287] [(.int (rdI σ303 1)), .ref b]) _
   refine s_iconst (x := 1) X306.here hx (hb hby d19_37) rfl ?_
   refine s_iadd X306.here hx (hb hby d19_38) ?_
   exact q
  obtain ⟨σ308, c308, hf308⟩ := Option.bind_eq_some_iff.mp hf303
  obtain ⟨T309, h309, X309, e309, W309, st309⟩ := putF X306 hx hZ hown (host := "") (Or.inl (hw _ (wd 116 rfl))) Via.refl e306 (gt_b_touchedCount w304) (w304.2.1.2.1) (Or.inl (hw _ (wd 117 rfl))) (hw _ (wd 2 rfl)) (ty := .int) (by decide) rfl rfl (g := (mkF m 39 #[rv b, iv q1, iv w287] [(.int ((rdI σ303 1) + (1 : Int32))), .ref b])) rfl rfl (hb hby d19_39)
  have N309 := Fr.snoc X309 N304 w304.2.2.1
  have w309 := pt_b_touchedCount hw w304 W309
  rw [Option.some.inj c308] at w309
  have k_310 : Go p.tables e below B0 (sf T309 m 43 #[rv b, iv q1, iv w287] [.ref b]) := fun t q => by
   refine k_307 t ?_
   refine st309 _ ?_
   show Steps _ _ _ (sf T309 m 42 #[rv b, iv q1, iv w287] []) _
   refine s_aloadN X309.here hx (hb hby d19_42) rfl rfl ?_
   exact q
  obtain ⟨T311, X311, e311, st311⟩ := getF X309 hx hZ hown (host := "") (Or.inl (hw _ (wd 49 rfl))) Via.refl e309 (gt_b_markedEnd w309) (g := (mkF m 43 #[rv b, iv q1, iv w287] [.ref b])) rfl rfl (hb hby d19_43)
  have k_312 : Go p.tables e below B0 (sf T311 m 48 #[rv b, iv q1, iv w287] [.int w287, (.ref (ps 7)), .int w287, (.ref (ps 7))]) := fun t q => by
   refine k_310 t ?_
   refine st311 _ ?_
   show Steps _ _ _ (sf T311 m 46 #[rv b, iv q1, iv w287] [(.ref (ps 7))]) _
   refine s_iloadN X311.here hx (hb hby d19_46) rfl ?_
   refine s_dup2 X311.here hx (hb hby d19_47) rfl rfl ?_
   exact q
  obtain ⟨w313, c313, hf313⟩ := Option.bind_eq_some_iff.mp hf308
  obtain ⟨cl313, Ar313, hin313, hat313⟩ := w309.rd c313
  have k_314 : Go p.tables e below B0 (sf T311 m 51 #[rv b, iv q1, iv w287] [(.int (w313 + (1 : Int32))), .int w287, (.ref (ps 7))]) := fun t q => by
   refine k_312 t ?_
   refine X311.iaload hx (j := w287) (v := (.int w313)) (by rw [e311]; exact Ar313.1) (State.isArrayOf_alike hZ.alike Ar313.2.1) Ar313.2.2 hin313 hat313 (g := (mkF m 48 #[rv b, iv q1, iv w287] [.int w287, (.ref (ps 7)), .int w287, (.ref (ps 7))])) rfl rfl (hb hby d19_48) _ ?_
   show Steps _ _ _ (sf T311 m 49 #[rv b, iv q1, iv w287] [.int w313, .int w287, (.ref (ps 7))]) _
   refine s_iconst (x := 1) X311.here hx (hb hby d19_49) rfl ?_
   refine s_iadd X311.here hx (hb hby d19_50) ?_
   exact q
  obtain ⟨σ315, c315, hf315⟩ := Option.bind_eq_some_iff.mp hf313
  obtain ⟨cl315, Ar315, hin315, gp315, nx315⟩ := w309.wr hw c315
  obtain ⟨T316, h316, X316, e316, W316, st316⟩ := stI X311 hx hZ e311 Ar315 (j := w287) hin315 (g := (mkF m 51 #[rv b, iv q1, iv w287] [(.int (w313 + (1 : Int32))), .int w287, (.ref (ps 7))])) rfl rfl (hb hby d19_51)
  have w316 := nx315 _ W316
  have N316 := Fr.snoc X316 N309 gp315
  have k_317 : Go p.tables e below B0 (sf T316 m 53 #[rv b, iv q1, iv w287] [.ref b]) := fun t q => by
   refine k_314 t ?_
   refine st316 _ ?_
   show Steps _ _ _ (sf T316 m 52 #[rv b, iv q1, iv w287] []) _
   refine s_aloadN X316.here hx (hb hby d19_52) rfl rfl ?_
   exact q
  obtain ⟨T318, X318, e318, st318⟩ := getF X316 hx hZ hown (host := "") (Or.inl (hw _ (wd 43 rfl))) Via.refl e316 (gt_b_marked w316) (g := (mkF m 53 #[rv b, iv q1, iv w287] [.ref b])) rfl rfl (hb hby d19_53)
  have k_319 : Go p.tables e below B0 (sf T318 m 57 #[rv b, iv q1, iv w287] [.ref b, (.ref (ps 6))]) := fun t q => by
   refine k_317 t ?_
   refine st318 _ ?_
   show Steps _ _ _ (sf T318 m 56 #[rv b, iv q1, iv w287] [(.ref (ps 6))]) _
   refine s_aloadN X318.here hx (hb hby d19_56) rfl rfl ?_
   exact q
  obtain ⟨T320, X320, e320, st320⟩ := getF X318 hx hZ hown (host := "") (Or.inl (hw _ (wd 118 rfl))) Via.refl e318 (gt_b_markedCount w316) (g := (mkF m 57 #[rv b, iv q1, iv w287] [.ref b, (.ref (ps 6))])) rfl rfl (hb hby d19_57)
  have k_321 : Go p.tables e below B0 (sf T320 m 61 #[rv b, iv q1, iv w287] [.int q1, (.int (rdI σ315 0)), (.ref (ps 6))]) := fun t q => by
   refine k_319 t ?_
   refine st320 _ ?_
   show Steps _ _ _ (sf T320 m 60 #[rv b, iv q1, iv w287] [(.int (rdI σ315 0)), (.ref (ps 6))]) _
   refine s_iloadN X320.here hx (hb hby d19_60) rfl ?_
   exact q
  obtain ⟨σ322, c322, hf322⟩ := Option.bind_eq_some_iff.mp hf315
  obtain ⟨cl322, Ar322, hin322, gp322, nx322⟩ := w316.wr hw c322
  obtain ⟨T323, h323, X323, e323, W323, st323⟩ := stI X320 hx hZ e320 Ar322 (j := (rdI σ315 0)) hin322 (g := (mkF m 61 #[rv b, iv q1, iv w287] [.int q1, (.int (rdI σ315 0)), (.ref (ps 6))])) rfl rfl (hb hby d19_61)
  have w323 := nx322 _ W323
  have N323 := Fr.snoc X323 N316 gp322
  have k_324 : Go p.tables e below B0 (sf T323 m 64 #[rv b, iv q1, iv w287] [.ref b, .ref b]) := fun t q => by
   refine k_321 t ?_
   refine st323 _ ?_
   show Steps _ _ _ (sf T323 m 62 #[rv b, iv q1, iv w287] []) _
   refine s_aloadN X323.here hx (hb hby d19_62) rfl rfl ?_
   refine s_dup X323.here hx (hb hby d19_63) rfl ?_
   exact q
  obtain ⟨T325, X325, e325, st325⟩ := getF X323 hx hZ hown (host := "") (Or.inl (hw _ (wd 118 rfl))) Via.refl e323 (gt_b_markedCount w323) (g := (mkF m 64 #[rv b, iv q1, iv w287] [.ref b, .ref b])) rfl rfl (hb hby d19_64)
  have k_326 : Go p.tables e below B0 (sf T325 m 69 #[rv b, iv q1, iv w287] [(.int ((rdI σ322 0) + (1 : Int32))), .ref b]) := fun t q => by
   refine k_324 t ?_
   refine st325 _ ?_
   show Steps _ _ _ (sf T325 m 67 #[rv b, iv q1, iv w287] [(.int (rdI σ322 0)), .ref b]) _
   refine s_iconst (x := 1) X325.here hx (hb hby d19_67) rfl ?_
   refine s_iadd X325.here hx (hb hby d19_68) ?_
   exact q
  obtain ⟨σ327, c327, hf327⟩ := Option.bind_eq_some_iff.mp hf322
  obtain ⟨T328, h328, X328, e328, W328, st328⟩ := putF X325 hx hZ hown (host := "") (Or.inl (hw _ (wd 118 rfl))) Via.refl e325 (gt_b_markedCount w323) (w323.2.1.2.1) (Or.inl (hw _ (wd 119 rfl))) (hw _ (wd 2 rfl)) (ty := .int) (by decide) rfl rfl (g := (mkF m 69 #[rv b, iv q1, iv w287] [(.int ((rdI σ322 0) + (1 : Int32))), .ref b])) rfl rfl (hb hby d19_69)
  have N328 := Fr.snoc X328 N323 w323.2.2.1
  have w328 := pt_b_markedCount hw w323 W328
  rw [Option.some.inj c327] at w328
  have k_329 : Go p.tables e below B0 (sf T328 m 72 #[rv b, iv q1, iv w287] []) := fun t q => by
   refine k_326 t ?_
   refine st328 _ ?_
   show Steps _ _ _ (sf T328 m 72 #[rv b, iv q1, iv w287] []) _
   exact q
  obtain rfl := Option.some.inj hf327
  obtain ⟨fs, hr, hrun, hended, hW, hsame⟩ := X328.leave (v := none) (fun _ => rfl)
  refine ⟨_, _, k_329 _ ?_, hrun, hended, _, _, rfl, ?_, ⟨_, rfl⟩, hW, hsame.mono (by decide) (by decide)⟩
  ·exact X328.returnOut hx Bd.returns (hb hby d19_72) hr
  ·show QW Z n0 b d ps σ327 none _ T328.heap _
   rw [e328]
   exact ⟨rfl, N328, w328⟩
 ·rw [if_neg hc297] at hf295
  have k_330 : Go p.tables e below B0 (sf T293 m 43 #[rv b, iv q1, iv w287] [.ref b]) := fun t q => by
   refine k_296 t ?_
   refine s_icmpYes X293.here hx (pc' := 42) (hb hby d19_19) (feq hc297).2 (by decide) (by decide) ?_
   refine s_aloadN X293.here hx (hb hby d19_42) rfl rfl ?_
   exact q
  obtain ⟨T331, X331, e331, st331⟩ := getF X293 hx hZ hown (host := "") (Or.inl (hw _ (wd 49 rfl))) Via.refl e293 (gt_b_markedEnd W0) (g := (mkF m 43 #[rv b, iv q1, iv w287] [.ref b])) rfl rfl (hb hby d19_43)
  have k_332 : Go p.tables e below B0 (sf T331 m 48 #[rv b, iv q1, iv w287] [.int w287, (.ref (ps 7)), .int w287, (.ref (ps 7))]) := fun t q => by
   refine k_330 t ?_
   refine st331 _ ?_
   show Steps _ _ _ (sf T331 m 46 #[rv b, iv q1, iv w287] [(.ref (ps 7))]) _
   refine s_iloadN X331.here hx (hb hby d19_46) rfl ?_
   refine s_dup2 X331.here hx (hb hby d19_47) rfl rfl ?_
   exact q
  obtain ⟨w333, c333, hf333⟩ := Option.bind_eq_some_iff.mp hf295
  obtain ⟨cl333, Ar333, hin333, hat333⟩ := W0.rd c333
  have k_334 : Go p.tables e below B0 (sf T331 m 51 #[rv b, iv q1, iv w287] [(.int (w333 + (1 : Int32))), .int w287, (.ref (ps 7))]) := fun t q => by
   refine k_332 t ?_
   refine X331.iaload hx (j := w287) (v := (.int w333)) (by rw [e331]; exact Ar333.1) (State.isArrayOf_alike hZ.alike Ar333.2.1) Ar333.2.2 hin333 hat333 (g := (mkF m 48 #[rv b, iv q1, iv w287] [.int w287, (.ref (ps 7)), .int w287, (.ref (ps 7))])) rfl rfl (hb hby d19_48) _ ?_
   show Steps _ _ _ (sf T331 m 49 #[rv b, iv q1, iv w287] [.int w333, .int w287, (.ref (ps 7))]) _
   refine s_iconst (x := 1) X331.here hx (hb hby d19_49) rfl ?_
   refine s_iadd X331.here hx (hb hby d19_50) ?_
   exact q
  obtain ⟨σ335, c335, hf335⟩ := Option.bind_eq_some_iff.mp hf333
  obtain ⟨cl335, Ar335, hin335, gp335, nx335⟩ := W0.wr hw c335
  obtain ⟨T336, h336, X336, e336, W336, st336⟩ := stI X331 hx hZ e331 Ar335 (j := w287) hin335 (g := (mkF m 51 #[rv b, iv q1, iv w287] [(.int (w333 + (1 : Int32))), .int w287, (.ref (ps 7))])) rfl rfl (hb hby d19_51)
  have w336 := nx335 _ W336
  have N336 := Fr.snoc X336 N0 gp335
  have k_337 : Go p.tables e below B0 (sf T336 m 53 #[rv b, iv q1, iv w287] [.ref b]) := fun t q => by
   refine k_334 t ?_
   refine st336 _ ?_
   show Steps _ _ _ (sf T336 m 52 #[rv b, iv q1, iv w287] []) _
   refine s_aloadN X336.here hx (hb hby d19_52) rfl rfl ?_
   exact q
  obtain ⟨T338, X338, e338, st338⟩ := getF X336 hx hZ hown (host := "") (Or.inl (hw _ (wd 43 rfl))) Via.refl e336 (gt_b_marked w336) (g := (mkF m 53 #[rv b, iv q1, iv w287] [.ref b])) rfl rfl (hb hby d19_53)
  have k_339 : Go p.tables e below B0 (sf T338 m 57 #[rv b, iv q1, iv w287] [.ref b, (.ref (ps 6))]) := fun t q => by
   refine k_337 t ?_
   refine st338 _ ?_
   show Steps _ _ _ (sf T338 m 56 #[rv b, iv q1, iv w287] [(.ref (ps 6))]) _
   refine s_aloadN X338.here hx (hb hby d19_56) rfl rfl ?_
   exact q
  obtain ⟨T340, X340, e340, st340⟩ := getF X338 hx hZ hown (host := "") (Or.inl (hw _ (wd 118 rfl))) Via.refl e338 (gt_b_markedCount w336) (g := (mkF m 57 #[rv b, iv q1, iv w287] [.ref b, (.ref (ps 6))])) rfl rfl (hb hby d19_57)
  have k_341 : Go p.tables e below B0 (sf T340 m 61 #[rv b, iv q1, iv w287] [.int q1, (.int (rdI σ335 0)), (.ref (ps 6))]) := fun t q => by
   refine k_339 t ?_
   refine st340 _ ?_
   show Steps _ _ _ (sf T340 m 60 #[rv b, iv q1, iv w287] [(.int (rdI σ335 0)), (.ref (ps 6))]) _
   refine s_iloadN X340.here hx (hb hby d19_60) rfl ?_
   exact q
  obtain ⟨σ342, c342, hf342⟩ := Option.bind_eq_some_iff.mp hf335
  obtain ⟨cl342, Ar342, hin342, gp342, nx342⟩ := w336.wr hw c342
  obtain ⟨T343, h343, X343, e343, W343, st343⟩ := stI X340 hx hZ e340 Ar342 (j := (rdI σ335 0)) hin342 (g := (mkF m 61 #[rv b, iv q1, iv w287] [.int q1, (.int (rdI σ335 0)), (.ref (ps 6))])) rfl rfl (hb hby d19_61)
  have w343 := nx342 _ W343
  have N343 := Fr.snoc X343 N336 gp342
  have k_344 : Go p.tables e below B0 (sf T343 m 64 #[rv b, iv q1, iv w287] [.ref b, .ref b]) := fun t q => by
   refine k_341 t ?_
   refine st343 _ ?_
   show Steps _ _ _ (sf T343 m 62 #[rv b, iv q1, iv w287] []) _
   refine s_aloadN X343.here hx (hb hby d19_62) rfl rfl ?_
   refine s_dup X343.here hx (hb hby d19_63) rfl ?_
   exact q
  obtain ⟨T345, X345, e345, st345⟩ := getF X343 hx hZ hown (host := "") (Or.inl (hw _ (wd 118 rfl))) Via.refl e343 (gt_b_markedCount w343) (g := (mkF m 64 #[rv b, iv q1, iv w287] [.ref b, .ref b])) rfl rfl (hb hby d19_64)
  have k_346 : Go p.tables e below B0 (sf T345 m 69 #[rv b, iv q1, iv w287] [(.int ((rdI σ342 0) + (1 : Int32))), .ref b]) := fun t q => by
   refine k_344 t ?_
   refine st345 _ ?_
   show Steps _ _ _ (sf T345 m 67 #[rv b, iv q1, iv w287] [(.int (rdI σ342 0)), .ref b]) _
   refine s_iconst (x := 1) X345.here hx (hb hby d19_67) rfl ?_
   refine s_iadd X345.here hx (hb hby d19_68) ?_
   exact q
  obtain ⟨σ347, c347, hf347⟩ := Option.bind_eq_some_iff.mp hf342
  obtain ⟨T348, h348, X348, e348, W348, st348⟩ := putF X345 hx hZ hown (host := "") (Or.inl (hw _ (wd 118 rfl))) Via.refl e345 (gt_b_markedCount w343) (w343.2.1.2.1) (Or.inl (hw _ (wd 119 rfl))) (hw _ (wd 2 rfl)) (ty := .int) (by decide) rfl rfl (g := (mkF m 69 #[rv b, iv q1, iv w287] [(.int ((rdI σ342 0) + (1 : Int32))), .ref b])) rfl rfl (hb hby d19_69)
  have N348 := Fr.snoc X348 N343 w343.2.2.1
  have w348 := pt_b_markedCount hw w343 W348
  rw [Option.some.inj c347] at w348
  have k_349 : Go p.tables e below B0 (sf T348 m 72 #[rv b, iv q1, iv w287] []) := fun t q => by
   refine k_346 t ?_
   refine st348 _ ?_
   show Steps _ _ _ (sf T348 m 72 #[rv b, iv q1, iv w287] []) _
   exact q
  obtain rfl := Option.some.inj hf347
  obtain ⟨fs, hr, hrun, hended, hW, hsame⟩ := X348.leave (v := none) (fun _ => rfl)
  refine ⟨_, _, k_349 _ ?_, hrun, hended, _, _, rfl, ?_, ⟨_, rfl⟩, hW, hsame.mono (by decide) (by decide)⟩
  ·exact X348.returnOut hx Bd.returns (hb hby d19_72) hr
  ·show QW Z n0 b d ps σ347 none _ T348.heap _
   rw [e348]
   exact ⟨rfl, N348, w348⟩
def fFull_L0  : Nat → St → Option (Int32 × St)
 | 0, _ => none
 | n + 1, σl350 => if (rdI σl350 5) < (2 : Int32) then (some ((-1 : Int32), σl350)) else ((rdA σl350 13 (rdI σl350 5)).bind fun w363 => if w363 = (-1 : Int32) then ((some (wrI σl350 5 ((rdI σl350 5) - (1 : Int32)))).bind fun σ369 => fFull_L0  n σ369 ) else ((rdA σl350 13 (rdI σl350 5)).bind fun w379 => some (w379, σl350)))
def fFull (σ : St)  : Option (Int32 × St) := fFull_L0  20 σ 
set_option maxRecDepth 65536 in
set_option maxHeartbeats 40000000 in
theorem fFull_ok (l : Launch) (Z : State) (a0 : Array Value) (hw : ∀ d ∈ tables_1, d.before a0 Z = true) (ws : List Jvm.Cond) (b d : Addr) (ps : Nat → Addr) (σ : St)  (h0 : Heap) (n0 : Nat) (W0 : Wd Z n0 h0 b d ps σ) (r : Int32 × St) (hf : fFull σ  = some r) :
  MetFree l y_13 (head1 (Jvm.Cond.code y_13 prog_1_method_3_code 1 (some .int) :: ws) ({ frames := 0, cells := 0, slots := 0, locals := 0 } : Room)) (fun a U => a = #[.ref d] ∧ Z.Warmed39 U.vm ∧ U.heap = h0) (fun _ _ _ _ _ => True) (fun _ U o U' => ∃ v L, o = .returned v ∧ QW Z n0 b d ps r.2 (some (.int r.1)) v U'.heap L ∧ FrameEnd U o U' L ({ frames := 0, cells := 0, slots := 0, locals := 0 } : Room).cells ({ frames := 0, cells := 0, slots := 0, locals := 0 } : Room).slots) := by
 refine MetFree.of_bodySF (plainFor_of_name pn_1) hisR ?_
 intro p e s m args below meth c s₁ Bd hml0 hP hK
 obtain ⟨rfl, hZ, hh⟩ := hP
 have hx := Bd.exec
 have hby := Bd.bytes
 have hml : c.maxLocals = 1 := hml0
 have hown : s.vm.findClass BSn = some m.cls := findClass_of_methodNamed Bd.named
 have hnm := (name_of_methodNamed Bd.named Bd.method).1
 have X0 : Stand p l e ({ frames := 0, cells := 0, slots := 0, locals := 0 } : Room) s m #[.ref d] below meth c s₁ [] 0 0 := Stand.of_body Bd
 have e0 : s₁.heap = h0 := by rw [← hh, Bd.state]; rfl
 have N0 := Fr.nil n0
 have K0 := Keep.refl h0 []
 have k0 : Go p.tables e below (s₁.setTop (entryFrame m #[.ref d] 1)) (sf s₁ m 0 #[rv d] []) := fun t k => castTop (by first | (simp [entryFrame, mkF, argsToLocals, Value.category]; done)) k
 unfold fFull at hf
 generalize s₁.setTop (entryFrame m #[.ref d] 1) = B0 at k0 ⊢
 have lp0 : ∀ (n : Nat) (σl350 : St)   (Tl350 : State) (Ll350 : List Loc), Stand p l e ({ frames := 0, cells := 0, slots := 0, locals := 0 } : Room) s m #[.ref d] below meth c Tl350 Ll350 0 0 → Fr n0 Ll350 → Wd Z n0 Tl350.heap b d ps σl350 → Go p.tables e below B0 (sf Tl350 m 0 #[rv d] []) → fFull_L0 n σl350  = some r → ∃ s₂ o, Steps p.tables e below B0 s₂ ∧ s₂.status = .running ∧ Ended s₂ below o ∧ (∃ v L, o = .returned v ∧ QW Z n0 b d ps r.2 (some (.int r.1)) v s₂.heap L ∧ FrameEnd s o s₂ L ({ frames := 0, cells := 0, slots := 0, locals := 0 } : Room).cells ({ frames := 0, cells := 0, slots := 0, locals := 0 } : Room).slots) := by
  intro n
  induction n with
  | zero => intro σl350   Tl350 Ll350 Xl350 Nl350 Wl350  kl350 hl350; cases hl350
  | succ n ih =>
   intro σl350   Tl350 Ll350 Xl350 Nl350 Wl350  kl350 hl350
   rw [fFull_L0] at hl350
   have k_351 : Go p.tables e below B0 (sf Tl350 m 1 #[rv d] [.ref d]) := fun t q => by
    refine kl350 t ?_
    refine s_aloadN Xl350.here hx (hb hby d13_0) rfl rfl ?_
    exact q
   obtain ⟨T352, X352, e352, st352⟩ := getF Xl350 hx hZ hown (host := "") (Or.inl (hw _ (wd 105 rfl))) Via.refl (rfl : Tl350.heap = _) (gt_d_highest Wl350) (g := (mkF m 1 #[rv d] [.ref d])) rfl rfl (hb hby d13_1)
   have k_353 : Go p.tables e below B0 (sf T352 m 5 #[rv d] [.int 2, (.int (rdI σl350 5))]) := fun t q => by
    refine k_351 t ?_
    refine st352 _ ?_
    show Steps _ _ _ (sf T352 m 4 #[rv d] [(.int (rdI σl350 5))]) _
    refine s_iconst (x := 2) X352.here hx (hb hby d13_4) rfl ?_
    exact q
   by_cases hc354 : (rdI σl350 5) < (2 : Int32)
   ·rw [if_pos hc354] at hl350
    have k_355 : Go p.tables e below B0 (sf T352 m 35 #[rv d] [.ref d]) := fun t q => by
     refine k_353 t ?_
     refine s_icmpYes X352.here hx (pc' := 34) (hb hby d13_5) (tlt hc354).1 (by decide) (by decide) ?_
     refine s_aloadN X352.here hx (hb hby d13_34) rfl rfl ?_
     exact q
    obtain ⟨T356, X356, e356, st356⟩ := getF X352 hx hZ hown (host := "") (Or.inl (hw _ (wd 105 rfl))) Via.refl e352 (gt_d_highest Wl350) (g := (mkF m 35 #[rv d] [.ref d])) rfl rfl (hb hby d13_35)
    have k_357 : Go p.tables e below B0 (sf T356 m 55 #[rv d] [(.int (-1 : Int32))]) := fun t q => by
     refine k_355 t ?_
     refine st356 _ ?_
     show Steps _ _ _ (sf T356 m 38 #[rv d] [(.int (rdI σl350 5))]) _
     refine s_iconst (x := 2) X356.here hx (hb hby d13_38) rfl ?_
     refine s_icmpYes X356.here hx (pc' := 54) (hb hby d13_39) (tlt hc354).1 (by decide) (by decide) ?_
     refine s_iconst (x := -1) X356.here hx (hb hby d13_54) rfl ?_
     exact q
    obtain rfl := Option.some.inj hl350
    obtain ⟨fs, hr, hrun, hended, hW, hsame⟩ := X356.leave (v := some (.int (-1 : Int32))) (fun h => by rw [Bd.returns] at h; cases h)
    refine ⟨_, _, k_357 _ ?_, hrun, hended, _, _, rfl, ?_, ⟨_, rfl⟩, hW, hsame.mono (by decide) (by decide)⟩
    ·exact retOut X356 hx Bd.returns rfl (Or.inl ⟨rfl, Or.inl rfl, _, rfl⟩) (hb hby d13_55) hr
    ·show QW Z n0 b d ps σl350 (some (.int (-1 : Int32))) _ T356.heap _
     rw [e356]
     exact ⟨rfl, Nl350, Wl350⟩
   ·rw [if_neg hc354] at hl350
    have k_358 : Go p.tables e below B0 (sf T352 m 9 #[rv d] [.ref d]) := fun t q => by
     refine k_353 t ?_
     refine s_icmpNo X352.here hx (hb hby d13_5) (flt hc354).1 ?_
     refine s_aloadN X352.here hx (hb hby d13_8) rfl rfl ?_
     exact q
    obtain ⟨T359, X359, e359, st359⟩ := getF X352 hx hZ hown (host := "") (Or.inl (hw _ (wd 81 rfl))) Via.refl e352 (gt_d_bucket Wl350) (g := (mkF m 9 #[rv d] [.ref d])) rfl rfl (hb hby d13_9)
    have k_360 : Go p.tables e below B0 (sf T359 m 13 #[rv d] [.ref d, (.ref (ps 13))]) := fun t q => by
     refine k_358 t ?_
     refine st359 _ ?_
     show Steps _ _ _ (sf T359 m 12 #[rv d] [(.ref (ps 13))]) _
     refine s_aloadN X359.here hx (hb hby d13_12) rfl rfl ?_
     exact q
    obtain ⟨T361, X361, e361, st361⟩ := getF X359 hx hZ hown (host := "") (Or.inl (hw _ (wd 105 rfl))) Via.refl e359 (gt_d_highest Wl350) (g := (mkF m 13 #[rv d] [.ref d, (.ref (ps 13))])) rfl rfl (hb hby d13_13)
    have k_362 : Go p.tables e below B0 (sf T361 m 16 #[rv d] [(.int (rdI σl350 5)), (.ref (ps 13))]) := fun t q => by
     refine k_360 t ?_
     refine st361 _ ?_
     show Steps _ _ _ (sf T361 m 16 #[rv d] [(.int (rdI σl350 5)), (.ref (ps 13))]) _
     exact q
    obtain ⟨w363, c363, hf363⟩ := Option.bind_eq_some_iff.mp hl350
    obtain ⟨cl363, Ar363, hin363, hat363⟩ := Wl350.rd c363
    have k_364 : Go p.tables e below B0 (sf T361 m 18 #[rv d] [(.int (-1 : Int32)), .int w363]) := fun t q => by
     refine k_362 t ?_
     refine X361.iaload hx (j := (rdI σl350 5)) (v := (.int w363)) (by rw [e361]; exact Ar363.1) (State.isArrayOf_alike hZ.alike Ar363.2.1) Ar363.2.2 hin363 hat363 (g := (mkF m 16 #[rv d] [(.int (rdI σl350 5)), (.ref (ps 13))])) rfl rfl (hb hby d13_16) _ ?_
     show Steps _ _ _ (sf T361 m 17 #[rv d] [.int w363]) _
     refine s_iconst (x := -1) X361.here hx (hb hby d13_17) rfl ?_
     exact q
    by_cases hc365 : w363 = (-1 : Int32)
    ·rw [if_pos hc365] at hf363
     have k_366 : Go p.tables e below B0 (sf T361 m 23 #[rv d] [.ref d, .ref d]) := fun t q => by
      refine k_364 t ?_
      refine s_icmpNo X361.here hx (hb hby d13_18) (teq hc365).2 ?_
      refine s_aloadN X361.here hx (hb hby d13_21) rfl rfl ?_
      refine s_dup X361.here hx (hb hby d13_22) rfl ?_
      exact q
     obtain ⟨T367, X367, e367, st367⟩ := getF X361 hx hZ hown (host := "") (Or.inl (hw _ (wd 105 rfl))) Via.refl e361 (gt_d_highest Wl350) (g := (mkF m 23 #[rv d] [.ref d, .ref d])) rfl rfl (hb hby d13_23)
     have k_368 : Go p.tables e below B0 (sf T367 m 28 #[rv d] [(.int ((rdI σl350 5) - (1 : Int32))), .ref d]) := fun t q => by
      refine k_366 t ?_
      refine st367 _ ?_
      show Steps _ _ _ (sf T367 m 26 #[rv d] [(.int (rdI σl350 5)), .ref d]) _
      refine s_iconst (x := 1) X367.here hx (hb hby d13_26) rfl ?_
      refine s_isub X367.here hx (hb hby d13_27) ?_
      exact q
     obtain ⟨σ369, c369, hf369⟩ := Option.bind_eq_some_iff.mp hf363
     obtain ⟨T370, h370, X370, e370, W370, st370⟩ := putF X367 hx hZ hown (host := "") (Or.inl (hw _ (wd 105 rfl))) Via.refl e367 (gt_d_highest Wl350) (Wl350.2.1.2.2.1) (Or.inl (hw _ (wd 106 rfl))) (hw _ (wd 56 rfl)) (ty := .int) (by decide) rfl rfl (g := (mkF m 28 #[rv d] [(.int ((rdI σl350 5) - (1 : Int32))), .ref d])) rfl rfl (hb hby d13_28)
     have N370 := Fr.snoc X370 Nl350 Wl350.2.2.2.1
     have w370 := pt_d_highest hw Wl350 W370
     rw [Option.some.inj c369] at w370
     have k_371 : Go p.tables e below B0 (sf T370 m 0 #[rv d] []) := fun t q => by
      refine k_368 t ?_
      refine st370 _ ?_
      show Steps _ _ _ (sf T370 m 31 #[rv d] []) _
      refine s_goto X370.here hx (pc' := 0) (hb hby d13_31) (by decide) (by decide) ?_
      exact q
     exact ih σ369   T370 _ X370 N370 (by rw [e370]; exact w370)  k_371 hf369
    ·rw [if_neg hc365] at hf363
     have k_372 : Go p.tables e below B0 (sf T361 m 35 #[rv d] [.ref d]) := fun t q => by
      refine k_364 t ?_
      refine s_icmpYes X361.here hx (pc' := 34) (hb hby d13_18) (feq hc365).2 (by decide) (by decide) ?_
      refine s_aloadN X361.here hx (hb hby d13_34) rfl rfl ?_
      exact q
     obtain ⟨T373, X373, e373, st373⟩ := getF X361 hx hZ hown (host := "") (Or.inl (hw _ (wd 105 rfl))) Via.refl e361 (gt_d_highest Wl350) (g := (mkF m 35 #[rv d] [.ref d])) rfl rfl (hb hby d13_35)
     have k_374 : Go p.tables e below B0 (sf T373 m 43 #[rv d] [.ref d]) := fun t q => by
      refine k_372 t ?_
      refine st373 _ ?_
      show Steps _ _ _ (sf T373 m 38 #[rv d] [(.int (rdI σl350 5))]) _
      refine s_iconst (x := 2) X373.here hx (hb hby d13_38) rfl ?_
      refine s_icmpNo X373.here hx (hb hby d13_39) (flt hc354).1 ?_
      refine s_aloadN X373.here hx (hb hby d13_42) rfl rfl ?_
      exact q
     obtain ⟨T375, X375, e375, st375⟩ := getF X373 hx hZ hown (host := "") (Or.inl (hw _ (wd 81 rfl))) Via.refl e373 (gt_d_bucket Wl350) (g := (mkF m 43 #[rv d] [.ref d])) rfl rfl (hb hby d13_43)
     have k_376 : Go p.tables e below B0 (sf T375 m 47 #[rv d] [.ref d, (.ref (ps 13))]) := fun t q => by
      refine k_374 t ?_
      refine st375 _ ?_
      show Steps _ _ _ (sf T375 m 46 #[rv d] [(.ref (ps 13))]) _
      refine s_aloadN X375.here hx (hb hby d13_46) rfl rfl ?_
      exact q
     obtain ⟨T377, X377, e377, st377⟩ := getF X375 hx hZ hown (host := "") (Or.inl (hw _ (wd 105 rfl))) Via.refl e375 (gt_d_highest Wl350) (g := (mkF m 47 #[rv d] [.ref d, (.ref (ps 13))])) rfl rfl (hb hby d13_47)
     have k_378 : Go p.tables e below B0 (sf T377 m 50 #[rv d] [(.int (rdI σl350 5)), (.ref (ps 13))]) := fun t q => by
      refine k_376 t ?_
      refine st377 _ ?_
      show Steps _ _ _ (sf T377 m 50 #[rv d] [(.int (rdI σl350 5)), (.ref (ps 13))]) _
      exact q
     obtain ⟨w379, c379, hf379⟩ := Option.bind_eq_some_iff.mp hf363
     obtain ⟨cl379, Ar379, hin379, hat379⟩ := Wl350.rd c379
     have k_380 : Go p.tables e below B0 (sf T377 m 55 #[rv d] [.int w379]) := fun t q => by
      refine k_378 t ?_
      refine X377.iaload hx (j := (rdI σl350 5)) (v := (.int w379)) (by rw [e377]; exact Ar379.1) (State.isArrayOf_alike hZ.alike Ar379.2.1) Ar379.2.2 hin379 hat379 (g := (mkF m 50 #[rv d] [(.int (rdI σl350 5)), (.ref (ps 13))])) rfl rfl (hb hby d13_50) _ ?_
      show Steps _ _ _ (sf T377 m 51 #[rv d] [.int w379]) _
      refine s_goto X377.here hx (pc' := 55) (hb hby d13_51) (by decide) (by decide) ?_
      exact q
     obtain rfl := Option.some.inj hf379
     obtain ⟨fs, hr, hrun, hended, hW, hsame⟩ := X377.leave (v := some (.int w379)) (fun h => by rw [Bd.returns] at h; cases h)
     refine ⟨_, _, k_380 _ ?_, hrun, hended, _, _, rfl, ?_, ⟨_, rfl⟩, hW, hsame.mono (by decide) (by decide)⟩
     ·exact retOut X377 hx Bd.returns rfl (Or.inl ⟨rfl, Or.inl rfl, _, rfl⟩) (hb hby d13_55) hr
     ·show QW Z n0 b d ps σl350 (some (.int w379)) _ T377.heap _
      rw [e377]
      exact ⟨rfl, Nl350, Wl350⟩
 exact lp0 20 σ   s₁ _ X0 N0 (by rw [e0]; exact W0)  k0 hf
set_option maxRecDepth 65536 in
set_option maxHeartbeats 40000000 in
theorem wroom (l : Launch) (Z : State) (a0 : Array Value) (hw : ∀ d ∈ tables_1, d.before a0 Z = true) (ws : List Jvm.Cond) (a1 : Addr) (q1 q2 : Int32) (cz : Cell) (h0 : Heap) (n0 : Nat)  (Az : Arr Z h0 a1 cz .int) (hlt : q1 < cz.slots.size.toInt32) :
  MetFree l y_14 (head1 (Jvm.Cond.code y_14 prog_3_method_3_code 3 (some (.array .int)) :: ws) ({ frames := 0, cells := 0, slots := 0, locals := 0 } : Room)) (fun a U => a = #[.ref a1, .int q1, .int q2] ∧ Z.Warmed39 U.vm ∧ U.heap = h0) (fun _ _ _ _ _ => True) (fun _ U o U' => ∃ v L, o = .returned v ∧ QV (some (.ref a1)) h0 n0 v U'.heap L ∧ FrameEnd U o U' L ({ frames := 0, cells := 0, slots := 0, locals := 0 } : Room).cells ({ frames := 0, cells := 0, slots := 0, locals := 0 } : Room).slots) := by
 refine MetFree.of_bodySF (plainFor_of_name pn_0) hisR ?_
 intro p e s m args below meth c s₁ Bd hml0 hP hK
 obtain ⟨rfl, hZ, hh⟩ := hP
 have hx := Bd.exec
 have hby := Bd.bytes
 have hml : c.maxLocals = 3 := hml0
 have hown : s.vm.findClass BLn = some m.cls := findClass_of_methodNamed Bd.named
 have hnm := (name_of_methodNamed Bd.named Bd.method).1
 have X0 : Stand p l e ({ frames := 0, cells := 0, slots := 0, locals := 0 } : Room) s m #[.ref a1, .int q1, .int q2] below meth c s₁ [] 0 0 := Stand.of_body Bd
 have e0 : s₁.heap = h0 := by rw [← hh, Bd.state]; rfl
 have N0 := Fr.nil n0
 have K0 := Keep.refl h0 []
 have k0 : Go p.tables e below (s₁.setTop (entryFrame m #[.ref a1, .int q1, .int q2] 3)) (sf s₁ m 0 #[rv a1, iv q1, iv q2] []) := fun t k => castTop (by first | rfl | (simp [entryFrame, mkF, argsToLocals, Value.category]; done)) k
 have k_381 : Go p.tables e below (s₁.setTop (entryFrame m #[.ref a1, .int q1, .int q2] 3)) (sf s₁ m 2 #[rv a1, iv q1, iv q2] [.ref a1, .int q1]) := fun t q => by
  refine k0 t ?_
  refine XS.iloadN X0.here hx rfl (hb hby d20_0) rfl ?_
  show Steps _ _ _ (sf s₁ m 1 #[rv a1, iv q1, iv q2] [.int q1]) _
  refine XS.aloadN X0.here hx rfl (hb hby d20_1) rfl rfl ?_
  show Steps _ _ _ (sf s₁ m 2 #[rv a1, iv q1, iv q2] [.ref a1, .int q1]) _
  exact q
 have k_382 : Go p.tables e below (s₁.setTop (entryFrame m #[.ref a1, .int q1, .int q2] 3)) (sf s₁ m 22 #[rv a1, iv q1, iv q2] [.ref a1]) := fun t q => by
  refine k_381 t ?_
  refine X0.arraylength hx (by rw [e0]; exact Az.1) (State.isArrayOf_alike hZ.alike Az.2.1) (g := (mkF m 2 #[rv a1, iv q1, iv q2] [.ref a1, .int q1])) rfl rfl (hb hby d20_2) _ ?_
  show Steps _ _ _ (sf s₁ m 3 #[rv a1, iv q1, iv q2] [(.int cz.slots.size.toInt32), .int q1]) _
  refine XS.icmpNo X0.here hx rfl (hb hby d20_3) rfl (tlt hlt).2.1 ?_
  show Steps _ _ _ (sf s₁ m 6 #[rv a1, iv q1, iv q2] []) _
  refine XS.aloadN X0.here hx rfl (hb hby d20_6) rfl rfl ?_
  show Steps _ _ _ (sf s₁ m 7 #[rv a1, iv q1, iv q2] [.ref a1]) _
  refine XS.goto X0.here hx rfl (pc0 := 7) (pc' := 22) rfl (hb hby d20_7) (by decide) (by decide) ?_
  show Steps _ _ _ (sf s₁ m 22 #[rv a1, iv q1, iv q2] [.ref a1]) _
  exact q
 obtain ⟨fs, hr, hrun, hended, hW, hsame⟩ := X0.leave (v := some (.ref a1)) (fun h => by rw [Bd.returns] at h; cases h)
 refine ⟨_, _, k_382 _ ?_, hrun, hended, _, _, rfl, ?_, ⟨_, rfl⟩, hW, hsame.mono (by decide) (by decide)⟩
 ·exact retOut X0 hx Bd.returns rfl (Or.inr (Or.inr (Or.inr (Or.inr ⟨rfl, rfl, rfl⟩)))) (hb hby d20_22) hr
 ·show QV (some (.ref a1)) h0 n0 _ s₁.heap _
  rw [e0]
  exact ⟨rfl, N0, rfl⟩
def fSplitOff_L143 (q1 q2 : Int32) : Nat → St → Int32 → Int32 → Int32 → Option (Int32 × St)
 | 0, _, _, _, _ => none
 | n + 1, σl383, c3_383, c4_383, c5_383 => (fEnd σl383 q2).bind fun z387 => if c5_383 < z387.1 then ((fState z387.2 c5_383).bind fun z394 => (fUnlink z394.2 z394.1 q1).bind fun z397 => (fLink z397.2 z394.1 q2).bind fun z400 => fSplitOff_L143 q1 q2 n z400.2 c3_383 (c4_383 + (if z394.1 < (rdI z400.2 3) then (1 : Int32) else (0 : Int32))) (c5_383 + (1 : Int32))) else ((wrA z387.2 12 q2 c4_383).bind fun σ410 => (rdA σ410 12 q1).bind fun w415 => (wrA σ410 12 q1 (w415 - c4_383)).bind fun σ417 => (fSize σ417 q1).bind fun z426 => (fBal z426.2 q1 z426.1).bind fun z429 => (fSize z429.2 q2).bind fun z436 => (fBal z436.2 q2 z436.1).bind fun z439 => (some (wrI z439.2 4 ((rdI σ417 4) + (((if c3_383 = (0 : Int32) then (-1 : Int32) else (0 : Int32)) + (if z429.1 = (0 : Int32) then (1 : Int32) else (0 : Int32))) + (if z439.1 = (0 : Int32) then (1 : Int32) else (0 : Int32)))))).bind fun σ444 => (fEnter σ444 q1).bind fun z447 => (fEnter z447.2 q2).bind fun z450 => some ((0 : Int32), z450.2))
def fSplitOff (σ : St) (q1 q2 : Int32) : Option (Int32 × St) := (fSize σ q1).bind fun z456 => (fSize z456.2 q2).bind fun z461 => (fBal z461.2 q1 (z456.1 + z461.1)).bind fun z464 => (fLeave z464.2 q1).bind fun z467 => (fCount z467.2 ).bind fun z474 => (guardI ((((2 : Int32) * q2) + (1 : Int32)) < lenA z474.2 11)).bind fun u477 => (fCount z474.2 ).bind fun z486 => (guardI (q2 < lenA z486.2 12)).bind fun u489 => (fCount z486.2 ).bind fun z498 => (guardI (q2 < lenA z498.2 14)).bind fun u501 => (fCount z498.2 ).bind fun z510 => (guardI (q2 < lenA z510.2 15)).bind fun u513 => (wrA z510.2 11 ((2 : Int32) * q2) (-1 : Int32)).bind fun σ520 => (wrA σ520 11 (((2 : Int32) * q2) + (1 : Int32)) (-1 : Int32)).bind fun σ525 => (fStart σ525 q2).bind fun z530 => fSplitOff_L143 q1 q2 20 z530.2 z464.1 (0 : Int32) z530.1
set_option maxRecDepth 65536 in
set_option maxHeartbeats 40000000 in
theorem fSplitOff_ok (l : Launch) (Z : State) (a0 : Array Value) (hw : ∀ d ∈ tables_1, d.before a0 Z = true) (ws : List Jvm.Cond) (b d : Addr) (ps : Nat → Addr) (σ : St) (q1 q2 : Int32) (h0 : Heap) (n0 : Nat) (W0 : Wd Z n0 h0 b d ps σ) (r : Int32 × St) (hf : fSplitOff σ q1 q2 = some r) :
  MetFree l y_15 (head1 (Jvm.Cond.code y_15 prog_1_method_6_code 7 none :: ws) ({ frames := 2, cells := 0, slots := 0, locals := 29 } : Room)) (fun a U => a = #[.ref d, .int q1, .int q2] ∧ Z.Warmed39 U.vm ∧ U.heap = h0) (fun _ _ _ _ _ => True) (fun _ U o U' => ∃ v L, o = .returned v ∧ QW Z n0 b d ps r.2 none v U'.heap L ∧ FrameEnd U o U' L ({ frames := 2, cells := 0, slots := 0, locals := 29 } : Room).cells ({ frames := 2, cells := 0, slots := 0, locals := 29 } : Room).slots) := by
 refine MetFree.of_bodySF (plainFor_of_name pn_1) hisR ?_
 intro p e s m args below meth c s₁ Bd hml0 hP hK
 obtain ⟨rfl, hZ, hh⟩ := hP
 have hx := Bd.exec
 have hby := Bd.bytes
 have hml : c.maxLocals = 7 := hml0
 have hown : s.vm.findClass BSn = some m.cls := findClass_of_methodNamed Bd.named
 have hnm := (name_of_methodNamed Bd.named Bd.method).1
 have X0 : Stand p l e ({ frames := 2, cells := 0, slots := 0, locals := 29 } : Room) s m #[.ref d, .int q1, .int q2] below meth c s₁ [] 0 0 := Stand.of_body Bd
 have e0 : s₁.heap = h0 := by rw [← hh, Bd.state]; rfl
 have N0 := Fr.nil n0
 have K0 := Keep.refl h0 []
 have k0 : Go p.tables e below (s₁.setTop (entryFrame m #[.ref d, .int q1, .int q2] 7)) (sf s₁ m 0 #[rv d, iv q1, iv q2, nu, nu, nu, nu] []) := fun t k => castTop (by first | (simp [entryFrame, mkF, argsToLocals, Value.category]; done)) k
 unfold fSplitOff at hf
 generalize s₁.setTop (entryFrame m #[.ref d, .int q1, .int q2] 7) = B0 at k0 ⊢
 have lp143 : ∀ (n : Nat) (σl383 : St) (c3_383 : Int32)(c4_383 : Int32)(c5_383 : Int32) (u6_383 : Slot) (Tl383 : State) (Ll383 : List Loc), Stand p l e ({ frames := 2, cells := 0, slots := 0, locals := 29 } : Room) s m #[.ref d, .int q1, .int q2] below meth c Tl383 Ll383 0 0 → Fr n0 Ll383 → Wd Z n0 Tl383.heap b d ps σl383 → (u6_383 = nu ∨ ∃ w, u6_383 = .val w ∧ w.category = 1) → Go p.tables e below B0 (sf Tl383 m 143 #[rv d, iv q1, iv q2, iv c3_383, iv c4_383, iv c5_383, u6_383] []) → fSplitOff_L143 q1 q2 n σl383 c3_383 c4_383 c5_383 = some r → ∃ s₂ o, Steps p.tables e below B0 s₂ ∧ s₂.status = .running ∧ Ended s₂ below o ∧ (∃ v L, o = .returned v ∧ QW Z n0 b d ps r.2 none v s₂.heap L ∧ FrameEnd s o s₂ L ({ frames := 2, cells := 0, slots := 0, locals := 29 } : Room).cells ({ frames := 2, cells := 0, slots := 0, locals := 29 } : Room).slots) := by
  intro n
  induction n with
  | zero => intro σl383 c3_383 c4_383 c5_383 u6_383 Tl383 Ll383 Xl383 Nl383 Wl383 hu6_383 kl383 hl383; cases hl383
  | succ n ih =>
   intro σl383 c3_383 c4_383 c5_383 u6_383 Tl383 Ll383 Xl383 Nl383 Wl383 hu6_383 kl383 hl383
   rw [fSplitOff_L143] at hl383
   have k_384 : Go p.tables e below B0 (sf Tl383 m 146 #[rv d, iv q1, iv q2, iv c3_383, iv c4_383, iv c5_383, u6_383] [.ref d, .int c5_383]) := fun t q => by
    refine kl383 t ?_
    refine s_iload Xl383.here hx (hb hby d21_143) rfl ?_
    refine s_aloadN Xl383.here hx (hb hby d21_145) rfl rfl ?_
    exact q
   obtain ⟨T385, X385, e385, st385⟩ := getF Xl383 hx hZ hown (host := "") (Or.inl (hw _ (wd 69 rfl))) Via.refl (rfl : Tl383.heap = _) (gt_d_blocks Wl383) (g := (mkF m 146 #[rv d, iv q1, iv q2, iv c3_383, iv c4_383, iv c5_383, u6_383] [.ref d, .int c5_383])) rfl rfl (hb hby d21_146)
   have k_386 : Go p.tables e below B0 (sf T385 m 150 #[rv d, iv q1, iv q2, iv c3_383, iv c4_383, iv c5_383, u6_383] [.int q2, .ref b, .int c5_383]) := fun t q => by
    refine k_384 t ?_
    refine st385 _ ?_
    show Steps _ _ _ (sf T385 m 149 #[rv d, iv q1, iv q2, iv c3_383, iv c4_383, iv c5_383, u6_383] [.ref b, .int c5_383]) _
    refine s_iloadN X385.here hx (hb hby d21_149) rfl ?_
    exact q
   obtain ⟨z387, c387, hf387⟩ := Option.bind_eq_some_iff.mp hl383
   obtain ⟨cq388, kq388, q388a, q388b, q388c⟩ := isOf hZ e385 (Wl383.2.1.2.1)
   obtain ⟨_, _, ⟨T388, L388, k388, n388⟩, -, X388, ⟨Lc388, hQ388, l388, y388, z388⟩, st388⟩ := X385.virtualBack hx (y := y_5) (z := y_5) hown (mvT hZ (hw _ (wd 162 rfl))) (mvT hZ (hw _ (wd 163 rfl))) (notFace_of_selects (args := #[]) (mvT hZ (hw _ (wd 165 rfl)))) (mvT hZ (hw _ (wd 165 rfl))) (mvT hZ (hw _ (wd 164 rfl))) (by decide) (backOf (W := 1) (fEnd_ok l Z a0 hw [] b d ps σl383 q2 Tl383.heap n0 Wl383 z387 c387) hZ (hw _ (wd 166 rfl)) (hw _ (wd 3 rfl)) (by decide) (by decide)) q388a q388c (g := (mkF m 150 #[rv d, iv q1, iv q2, iv c3_383, iv c4_383, iv c5_383, u6_383] [.int q2, .ref b, .int c5_383])) rfl (by rw [hml]; rfl) (Steps.refl _) (argsL := [.int q2]) (rest := [.int c5_383]) (lenOf pd_1 rfl) rfl (by show 2 * 0 + _ ≤ _; exact Nat.le_of_eq rfl) (hb hby d21_150) (fun _ _ => ⟨rfl, e385, (by decide : 0 + 0 ≤ _), (by decide : 0 + 0 ≤ _)⟩)
   dsimp only [Pt.U, Pt.locs, Pt.cells, Pt.slots] at X388 l388 y388 z388 st388 hQ388
   subst l388 y388 z388
   obtain ⟨rfl, N388q, w388⟩ := hQ388
   have N388 := Fr.app Nl383 N388q
   have k_389 : Go p.tables e below B0 (sf T388 m 153 #[rv d, iv q1, iv q2, iv c3_383, iv c4_383, iv c5_383, u6_383] [(.int z387.1), .int c5_383]) := fun t q => by
    refine k_386 t ?_
    refine st388.trans ?_
    show Steps _ _ _ (sf T388 m 153 #[rv d, iv q1, iv q2, iv c3_383, iv c4_383, iv c5_383, u6_383] [(.int z387.1), .int c5_383]) _
    exact q
   by_cases hc390 : c5_383 < z387.1
   ·rw [if_pos hc390] at hf387
    have k_391 : Go p.tables e below B0 (sf T388 m 157 #[rv d, iv q1, iv q2, iv c3_383, iv c4_383, iv c5_383, u6_383] [.ref d]) := fun t q => by
     refine k_389 t ?_
     refine s_icmpNo X388.here hx (hb hby d21_153) (tlt hc390).2.1 ?_
     refine s_aloadN X388.here hx (hb hby d21_156) rfl rfl ?_
     exact q
    obtain ⟨T392, X392, e392, st392⟩ := getF X388 hx hZ hown (host := "") (Or.inl (hw _ (wd 69 rfl))) Via.refl (rfl : T388.heap = _) (gt_d_blocks w388) (g := (mkF m 157 #[rv d, iv q1, iv q2, iv c3_383, iv c4_383, iv c5_383, u6_383] [.ref d])) rfl rfl (hb hby d21_157)
    have k_393 : Go p.tables e below B0 (sf T392 m 162 #[rv d, iv q1, iv q2, iv c3_383, iv c4_383, iv c5_383, u6_383] [.int c5_383, .ref b]) := fun t q => by
     refine k_391 t ?_
     refine st392 _ ?_
     show Steps _ _ _ (sf T392 m 160 #[rv d, iv q1, iv q2, iv c3_383, iv c4_383, iv c5_383, u6_383] [.ref b]) _
     refine s_iload X392.here hx (hb hby d21_160) rfl ?_
     exact q
    obtain ⟨z394, c394, hf394⟩ := Option.bind_eq_some_iff.mp hf387
    obtain ⟨cq395, kq395, q395a, q395b, q395c⟩ := isOf hZ e392 (w388.2.1.2.1)
    obtain ⟨_, _, ⟨T395, L395, k395, n395⟩, -, X395, ⟨Lc395, hQ395, l395, y395, z395⟩, st395⟩ := X392.virtualBack hx (y := y_6) (z := y_6) hown (mvT hZ (hw _ (wd 167 rfl))) (mvT hZ (hw _ (wd 168 rfl))) (notFace_of_selects (args := #[]) (mvT hZ (hw _ (wd 170 rfl)))) (mvT hZ (hw _ (wd 170 rfl))) (mvT hZ (hw _ (wd 169 rfl))) (by decide) (backOf (W := 0) (fState_ok l Z a0 hw [] b d ps z387.2 c5_383 T388.heap n0 w388 z394 c394) hZ (hw _ (wd 171 rfl)) (hw _ (wd 3 rfl)) (by decide) (by decide)) q395a q395c (g := (mkF m 162 #[rv d, iv q1, iv q2, iv c3_383, iv c4_383, iv c5_383, u6_383] [.int c5_383, .ref b])) rfl (by rw [hml]; rfl) (Steps.refl _) (argsL := [.int c5_383]) (rest := []) (lenOf pd_1 rfl) rfl (by show 2 * 0 + _ ≤ _; exact Nat.le_of_eq rfl) (hb hby d21_162) (fun _ _ => ⟨rfl, e392, (by decide : 0 + 0 ≤ _), (by decide : 0 + 0 ≤ _)⟩)
    dsimp only [Pt.U, Pt.locs, Pt.cells, Pt.slots] at X395 l395 y395 z395 st395 hQ395
    subst l395 y395 z395
    obtain ⟨rfl, N395q, w395⟩ := hQ395
    have N395 := Fr.app N388 N395q
    have k_396 : Go p.tables e below B0 (sf T395 m 171 #[rv d, iv q1, iv q2, iv c3_383, iv c4_383, iv c5_383, .val (.int z394.1)] [.int q1, (.int z394.1), .ref d]) := fun t q => by
     refine k_393 t ?_
     refine st395.trans ?_
     show Steps _ _ _ (sf T395 m 165 #[rv d, iv q1, iv q2, iv c3_383, iv c4_383, iv c5_383, u6_383] [(.int z394.1)]) _
     refine XS.istoreS X395.here hx rfl (hb hby d21_165) rfl rfl hu6_383 ?_
     show Steps _ _ _ (sf T395 m 167 #[rv d, iv q1, iv q2, iv c3_383, iv c4_383, iv c5_383, .val (.int z394.1)] []) _
     refine s_aloadN X395.here hx (hb hby d21_167) rfl rfl ?_
     refine s_iload X395.here hx (hb hby d21_168) rfl ?_
     refine s_iloadN X395.here hx (hb hby d21_170) rfl ?_
     exact q
    obtain ⟨z397, c397, hf397⟩ := Option.bind_eq_some_iff.mp hf394
    obtain ⟨cq398, q398, q398'⟩ := Exa.cell (w395.2.1.2.2.1)
    obtain ⟨_, _, ⟨T398, L398, k398, n398⟩, -, X398, ⟨Lc398, hQ398, l398, y398, z398⟩, st398⟩ := X395.privateBack hx (y := y_11) hown (mvT hZ (hw _ (wd 172 rfl))) (mvT hZ (hw _ (wd 173 rfl))) (own_selects hZ (hw _ (wd 56 rfl)) (mvP hZ (hw _ (wd 174 rfl)) (args := #[])) (mvT hZ (hw _ (wd 173 rfl))) (by decide)) (Cond.privateMethod_at (mvP hZ (hw _ (wd 174 rfl)) (args := #[]))) (mvT hZ (hw _ (wd 175 rfl))) (by decide) (backOf (W := 0) (fUnlink_ok l Z a0 hw [] b d ps z394.2 z394.1 q1 T395.heap n0 w395 z397 c397) hZ (hw _ (wd 175 rfl)) (hw _ (wd 57 rfl)) (by decide) (by decide)) (g := (mkF m 171 #[rv d, iv q1, iv q2, iv c3_383, iv c4_383, iv c5_383, .val (.int z394.1)] [.int q1, (.int z394.1), .ref d])) rfl (by rw [hml]; rfl) (Steps.refl _) (a := d) q398 q398' (argsL := [(.int z394.1), .int q1]) (rest := []) (lenOf pd_2 rfl) rfl (by show 2 * 0 + _ ≤ _; exact Nat.le_of_eq rfl) (hb hby d21_171) (fun _ _ => ⟨rfl, (rfl : T395.heap = _), (by decide : 0 + 0 ≤ _), (by decide : 0 + 0 ≤ _)⟩)
    dsimp only [Pt.U, Pt.locs, Pt.cells, Pt.slots] at X398 l398 y398 z398 st398 hQ398
    subst l398 y398 z398
    obtain ⟨rfl, N398q, w398⟩ := hQ398
    have N398 := Fr.app N395 N398q
    have k_399 : Go p.tables e below B0 (sf T398 m 178 #[rv d, iv q1, iv q2, iv c3_383, iv c4_383, iv c5_383, .val (.int z394.1)] [.int q2, (.int z394.1), .ref d]) := fun t q => by
     refine k_396 t ?_
     refine st398.trans ?_
     show Steps _ _ _ (sf T398 m 174 #[rv d, iv q1, iv q2, iv c3_383, iv c4_383, iv c5_383, .val (.int z394.1)] []) _
     refine s_aloadN X398.here hx (hb hby d21_174) rfl rfl ?_
     refine s_iload X398.here hx (hb hby d21_175) rfl ?_
     refine s_iloadN X398.here hx (hb hby d21_177) rfl ?_
     exact q
    obtain ⟨z400, c400, hf400⟩ := Option.bind_eq_some_iff.mp hf397
    obtain ⟨cq401, q401, q401'⟩ := Exa.cell (w398.2.1.2.2.1)
    obtain ⟨_, _, ⟨T401, L401, k401, n401⟩, -, X401, ⟨Lc401, hQ401, l401, y401, z401⟩, st401⟩ := X398.privateBack hx (y := y_10) hown (mvT hZ (hw _ (wd 126 rfl))) (mvT hZ (hw _ (wd 127 rfl))) (own_selects hZ (hw _ (wd 56 rfl)) (mvP hZ (hw _ (wd 128 rfl)) (args := #[])) (mvT hZ (hw _ (wd 127 rfl))) (by decide)) (Cond.privateMethod_at (mvP hZ (hw _ (wd 128 rfl)) (args := #[]))) (mvT hZ (hw _ (wd 129 rfl))) (by decide) (backOf (W := 0) (fLink_ok l Z a0 hw [] b d ps z397.2 z394.1 q2 T398.heap n0 w398 z400 c400) hZ (hw _ (wd 129 rfl)) (hw _ (wd 57 rfl)) (by decide) (by decide)) (g := (mkF m 178 #[rv d, iv q1, iv q2, iv c3_383, iv c4_383, iv c5_383, .val (.int z394.1)] [.int q2, (.int z394.1), .ref d])) rfl (by rw [hml]; rfl) (Steps.refl _) (a := d) q401 q401' (argsL := [(.int z394.1), .int q2]) (rest := []) (lenOf pd_2 rfl) rfl (by show 2 * 0 + _ ≤ _; exact Nat.le_of_eq rfl) (hb hby d21_178) (fun _ _ => ⟨rfl, (rfl : T398.heap = _), (by decide : 0 + 0 ≤ _), (by decide : 0 + 0 ≤ _)⟩)
    dsimp only [Pt.U, Pt.locs, Pt.cells, Pt.slots] at X401 l401 y401 z401 st401 hQ401
    subst l401 y401 z401
    obtain ⟨rfl, N401q, w401⟩ := hQ401
    have N401 := Fr.app N398 N401q
    have k_402 : Go p.tables e below B0 (sf T401 m 186 #[rv d, iv q1, iv q2, iv c3_383, iv c4_383, iv c5_383, .val (.int z394.1)] [.ref d, (.int z394.1), .int c4_383]) := fun t q => by
     refine k_399 t ?_
     refine st401.trans ?_
     show Steps _ _ _ (sf T401 m 181 #[rv d, iv q1, iv q2, iv c3_383, iv c4_383, iv c5_383, .val (.int z394.1)] []) _
     refine s_iload X401.here hx (hb hby d21_181) rfl ?_
     refine s_iload X401.here hx (hb hby d21_183) rfl ?_
     refine s_aloadN X401.here hx (hb hby d21_185) rfl rfl ?_
     exact q
    obtain ⟨T403, X403, e403, st403⟩ := getF X401 hx hZ hown (host := "") (Or.inl (hw _ (wd 71 rfl))) Via.refl (rfl : T401.heap = _) (gt_d_secondStart w401) (g := (mkF m 186 #[rv d, iv q1, iv q2, iv c3_383, iv c4_383, iv c5_383, .val (.int z394.1)] [.ref d, (.int z394.1), .int c4_383])) rfl rfl (hb hby d21_186)
    have k_404 : Go p.tables e below B0 (sf T403 m 189 #[rv d, iv q1, iv q2, iv c3_383, iv c4_383, iv c5_383, .val (.int z394.1)] [(.int (rdI z400.2 3)), (.int z394.1), .int c4_383]) := fun t q => by
     refine k_402 t ?_
     refine st403 _ ?_
     show Steps _ _ _ (sf T403 m 189 #[rv d, iv q1, iv q2, iv c3_383, iv c4_383, iv c5_383, .val (.int z394.1)] [(.int (rdI z400.2 3)), (.int z394.1), .int c4_383]) _
     exact q
    have k_405 : Go p.tables e below B0 (sf T403 m 197 #[rv d, iv q1, iv q2, iv c3_383, iv c4_383, iv c5_383, .val (.int z394.1)] [(.int (if z394.1 < (rdI z400.2 3) then (1 : Int32) else (0 : Int32))), .int c4_383]) := by
     by_cases hc405 : z394.1 < (rdI z400.2 3)
     ·rw [if_pos hc405]; exact fun t q => by
       refine k_404 t ?_
       refine s_icmpNo X403.here hx (hb hby d21_189) (tlt hc405).2.1 ?_
       refine s_iconst (x := 1) X403.here hx (hb hby d21_192) rfl ?_
       refine s_goto X403.here hx (pc' := 197) (hb hby d21_193) (by decide) (by decide) ?_
       exact q
     ·rw [if_neg hc405]; exact fun t q => by
       refine k_404 t ?_
       refine s_icmpYes X403.here hx (pc' := 196) (hb hby d21_189) (flt hc405).2.1 (by decide) (by decide) ?_
       refine s_iconst (x := 0) X403.here hx (hb hby d21_196) rfl ?_
       exact q
    have k_406 : Go p.tables e below B0 (sf T403 m 143 #[rv d, iv q1, iv q2, iv c3_383, .val (.int (c4_383 + (if z394.1 < (rdI z400.2 3) then (1 : Int32) else (0 : Int32)))), .val (.int (c5_383 + (1 : Int32))), .val (.int z394.1)] []) := fun t q => by
     refine k_405 t ?_
     refine s_iadd X403.here hx (hb hby d21_197) ?_
     refine s_istore X403.here hx (hb hby d21_198) (l' := #[rv d, iv q1, iv q2, iv c3_383, .val (.int (c4_383 + (if z394.1 < (rdI z400.2 3) then (1 : Int32) else (0 : Int32)))), iv c5_383, .val (.int z394.1)]) rfl ?_
     refine s_iinc X403.here hx (hb hby d21_200) rfl (l' := #[rv d, iv q1, iv q2, iv c3_383, .val (.int (c4_383 + (if z394.1 < (rdI z400.2 3) then (1 : Int32) else (0 : Int32)))), .val (.int (c5_383 + (1 : Int32))), .val (.int z394.1)]) rfl ?_
     refine s_goto X403.here hx (pc' := 143) (hb hby d21_203) (by decide) (by decide) ?_
     exact q
    exact ih z400.2 c3_383 (c4_383 + (if z394.1 < (rdI z400.2 3) then (1 : Int32) else (0 : Int32))) (c5_383 + (1 : Int32)) (.val (.int z394.1)) T403 _ X403 N401 (by rw [e403]; exact w401) (Or.inr ⟨_, rfl, rfl⟩) k_406 hf400
   ·rw [if_neg hc390] at hf387
    have k_407 : Go p.tables e below B0 (sf T388 m 207 #[rv d, iv q1, iv q2, iv c3_383, iv c4_383, iv c5_383, u6_383] [.ref d]) := fun t q => by
     refine k_389 t ?_
     refine s_icmpYes X388.here hx (pc' := 206) (hb hby d21_153) (flt hc390).2.1 (by decide) (by decide) ?_
     refine s_aloadN X388.here hx (hb hby d21_206) rfl rfl ?_
     exact q
    obtain ⟨T408, X408, e408, st408⟩ := getF X388 hx hZ hown (host := "") (Or.inl (hw _ (wd 79 rfl))) Via.refl (rfl : T388.heap = _) (gt_d_firstCount w388) (g := (mkF m 207 #[rv d, iv q1, iv q2, iv c3_383, iv c4_383, iv c5_383, u6_383] [.ref d])) rfl rfl (hb hby d21_207)
    have k_409 : Go p.tables e below B0 (sf T408 m 213 #[rv d, iv q1, iv q2, iv c3_383, iv c4_383, iv c5_383, u6_383] [.int c4_383, .int q2, (.ref (ps 12))]) := fun t q => by
     refine k_407 t ?_
     refine st408 _ ?_
     show Steps _ _ _ (sf T408 m 210 #[rv d, iv q1, iv q2, iv c3_383, iv c4_383, iv c5_383, u6_383] [(.ref (ps 12))]) _
     refine s_iloadN X408.here hx (hb hby d21_210) rfl ?_
     refine s_iload X408.here hx (hb hby d21_211) rfl ?_
     exact q
    obtain ⟨σ410, c410, hf410⟩ := Option.bind_eq_some_iff.mp hf387
    obtain ⟨cl410, Ar410, hin410, gp410, nx410⟩ := w388.wr hw c410
    obtain ⟨T411, h411, X411, e411, W411, st411⟩ := stI X408 hx hZ e408 Ar410 (j := q2) hin410 (g := (mkF m 213 #[rv d, iv q1, iv q2, iv c3_383, iv c4_383, iv c5_383, u6_383] [.int c4_383, .int q2, (.ref (ps 12))])) rfl rfl (hb hby d21_213)
    have w411 := nx410 _ W411
    have N411 := Fr.snoc X411 N388 gp410
    have k_412 : Go p.tables e below B0 (sf T411 m 215 #[rv d, iv q1, iv q2, iv c3_383, iv c4_383, iv c5_383, u6_383] [.ref d]) := fun t q => by
     refine k_409 t ?_
     refine st411 _ ?_
     show Steps _ _ _ (sf T411 m 214 #[rv d, iv q1, iv q2, iv c3_383, iv c4_383, iv c5_383, u6_383] []) _
     refine s_aloadN X411.here hx (hb hby d21_214) rfl rfl ?_
     exact q
    obtain ⟨T413, X413, e413, st413⟩ := getF X411 hx hZ hown (host := "") (Or.inl (hw _ (wd 79 rfl))) Via.refl e411 (gt_d_firstCount w411) (g := (mkF m 215 #[rv d, iv q1, iv q2, iv c3_383, iv c4_383, iv c5_383, u6_383] [.ref d])) rfl rfl (hb hby d21_215)
    have k_414 : Go p.tables e below B0 (sf T413 m 220 #[rv d, iv q1, iv q2, iv c3_383, iv c4_383, iv c5_383, u6_383] [.int q1, (.ref (ps 12)), .int q1, (.ref (ps 12))]) := fun t q => by
     refine k_412 t ?_
     refine st413 _ ?_
     show Steps _ _ _ (sf T413 m 218 #[rv d, iv q1, iv q2, iv c3_383, iv c4_383, iv c5_383, u6_383] [(.ref (ps 12))]) _
     refine s_iloadN X413.here hx (hb hby d21_218) rfl ?_
     refine s_dup2 X413.here hx (hb hby d21_219) rfl rfl ?_
     exact q
    obtain ⟨w415, c415, hf415⟩ := Option.bind_eq_some_iff.mp hf410
    obtain ⟨cl415, Ar415, hin415, hat415⟩ := w411.rd c415
    have k_416 : Go p.tables e below B0 (sf T413 m 224 #[rv d, iv q1, iv q2, iv c3_383, iv c4_383, iv c5_383, u6_383] [(.int (w415 - c4_383)), .int q1, (.ref (ps 12))]) := fun t q => by
     refine k_414 t ?_
     refine X413.iaload hx (j := q1) (v := (.int w415)) (by rw [e413]; exact Ar415.1) (State.isArrayOf_alike hZ.alike Ar415.2.1) Ar415.2.2 hin415 hat415 (g := (mkF m 220 #[rv d, iv q1, iv q2, iv c3_383, iv c4_383, iv c5_383, u6_383] [.int q1, (.ref (ps 12)), .int q1, (.ref (ps 12))])) rfl rfl (hb hby d21_220) _ ?_
     show Steps _ _ _ (sf T413 m 221 #[rv d, iv q1, iv q2, iv c3_383, iv c4_383, iv c5_383, u6_383] [.int w415, .int q1, (.ref (ps 12))]) _
     refine s_iload X413.here hx (hb hby d21_221) rfl ?_
     refine s_isub X413.here hx (hb hby d21_223) ?_
     exact q
    obtain ⟨σ417, c417, hf417⟩ := Option.bind_eq_some_iff.mp hf415
    obtain ⟨cl417, Ar417, hin417, gp417, nx417⟩ := w411.wr hw c417
    obtain ⟨T418, h418, X418, e418, W418, st418⟩ := stI X413 hx hZ e413 Ar417 (j := q1) hin417 (g := (mkF m 224 #[rv d, iv q1, iv q2, iv c3_383, iv c4_383, iv c5_383, u6_383] [(.int (w415 - c4_383)), .int q1, (.ref (ps 12))])) rfl rfl (hb hby d21_224)
    have w418 := nx417 _ W418
    have N418 := Fr.snoc X418 N411 gp417
    have k_419 : Go p.tables e below B0 (sf T418 m 227 #[rv d, iv q1, iv q2, iv c3_383, iv c4_383, iv c5_383, u6_383] [.ref d, .ref d]) := fun t q => by
     refine k_416 t ?_
     refine st418 _ ?_
     show Steps _ _ _ (sf T418 m 225 #[rv d, iv q1, iv q2, iv c3_383, iv c4_383, iv c5_383, u6_383] []) _
     refine s_aloadN X418.here hx (hb hby d21_225) rfl rfl ?_
     refine s_dup X418.here hx (hb hby d21_226) rfl ?_
     exact q
    obtain ⟨T420, X420, e420, st420⟩ := getF X418 hx hZ hown (host := "") (Or.inl (hw _ (wd 94 rfl))) Via.refl e418 (gt_d_unevenCount w418) (g := (mkF m 227 #[rv d, iv q1, iv q2, iv c3_383, iv c4_383, iv c5_383, u6_383] [.ref d, .ref d])) rfl rfl (hb hby d21_227)
    have k_421 : Go p.tables e below B0 (sf T420 m 231 #[rv d, iv q1, iv q2, iv c3_383, iv c4_383, iv c5_383, u6_383] [.int c3_383, (.int (rdI σ417 4)), .ref d]) := fun t q => by
     refine k_419 t ?_
     refine st420 _ ?_
     show Steps _ _ _ (sf T420 m 230 #[rv d, iv q1, iv q2, iv c3_383, iv c4_383, iv c5_383, u6_383] [(.int (rdI σ417 4)), .ref d]) _
     refine s_iloadN X420.here hx (hb hby d21_230) rfl ?_
     exact q
    have k_422 : Go p.tables e below B0 (sf T420 m 239 #[rv d, iv q1, iv q2, iv c3_383, iv c4_383, iv c5_383, u6_383] [(.int (if c3_383 = (0 : Int32) then (-1 : Int32) else (0 : Int32))), (.int (rdI σ417 4)), .ref d]) := by
     by_cases hc422 : c3_383 = (0 : Int32)
     ·rw [if_pos hc422]; exact fun t q => by
       refine k_421 t ?_
       refine s_ifYes X420.here hx (pc' := 238) (hb hby d21_231) ((if0 _ _).trans (teq hc422).1) (by decide) (by decide) ?_
       refine s_iconst (x := -1) X420.here hx (hb hby d21_238) rfl ?_
       exact q
     ·rw [if_neg hc422]; exact fun t q => by
       refine k_421 t ?_
       refine s_ifNo X420.here hx (hb hby d21_231) ((if0 _ _).trans (feq hc422).1) ?_
       refine s_iconst (x := 0) X420.here hx (hb hby d21_234) rfl ?_
       refine s_goto X420.here hx (pc' := 239) (hb hby d21_235) (by decide) (by decide) ?_
       exact q
    have k_423 : Go p.tables e below B0 (sf T420 m 242 #[rv d, iv q1, iv q2, iv c3_383, iv c4_383, iv c5_383, u6_383] [.ref d, .int q1, .ref d, (.int (if c3_383 = (0 : Int32) then (-1 : Int32) else (0 : Int32))), (.int (rdI σ417 4)), .ref d]) := fun t q => by
     refine k_422 t ?_
     refine s_aloadN X420.here hx (hb hby d21_239) rfl rfl ?_
     refine s_iloadN X420.here hx (hb hby d21_240) rfl ?_
     refine s_aloadN X420.here hx (hb hby d21_241) rfl rfl ?_
     exact q
    obtain ⟨T424, X424, e424, st424⟩ := getF X420 hx hZ hown (host := "") (Or.inl (hw _ (wd 69 rfl))) Via.refl e420 (gt_d_blocks w418) (g := (mkF m 242 #[rv d, iv q1, iv q2, iv c3_383, iv c4_383, iv c5_383, u6_383] [.ref d, .int q1, .ref d, (.int (if c3_383 = (0 : Int32) then (-1 : Int32) else (0 : Int32))), (.int (rdI σ417 4)), .ref d])) rfl rfl (hb hby d21_242)
    have k_425 : Go p.tables e below B0 (sf T424 m 246 #[rv d, iv q1, iv q2, iv c3_383, iv c4_383, iv c5_383, u6_383] [.int q1, .ref b, .int q1, .ref d, (.int (if c3_383 = (0 : Int32) then (-1 : Int32) else (0 : Int32))), (.int (rdI σ417 4)), .ref d]) := fun t q => by
     refine k_423 t ?_
     refine st424 _ ?_
     show Steps _ _ _ (sf T424 m 245 #[rv d, iv q1, iv q2, iv c3_383, iv c4_383, iv c5_383, u6_383] [.ref b, .int q1, .ref d, (.int (if c3_383 = (0 : Int32) then (-1 : Int32) else (0 : Int32))), (.int (rdI σ417 4)), .ref d]) _
     refine s_iloadN X424.here hx (hb hby d21_245) rfl ?_
     exact q
    obtain ⟨z426, c426, hf426⟩ := Option.bind_eq_some_iff.mp hf417
    obtain ⟨cq427, kq427, q427a, q427b, q427c⟩ := isOf hZ e424 (w418.2.1.2.1)
    obtain ⟨_, _, ⟨T427, L427, k427, n427⟩, -, X427, ⟨Lc427, hQ427, l427, y427, z427⟩, st427⟩ := X424.virtualBack hx (y := y_3) (z := y_3) hown (mvT hZ (hw _ (wd 147 rfl))) (mvT hZ (hw _ (wd 148 rfl))) (notFace_of_selects (args := #[]) (mvT hZ (hw _ (wd 150 rfl)))) (mvT hZ (hw _ (wd 150 rfl))) (mvT hZ (hw _ (wd 149 rfl))) (by decide) (backOf (W := 5) (fSize_ok l Z a0 hw [] b d ps σ417 q1 h418 n0 w418 z426 c426) hZ (hw _ (wd 151 rfl)) (hw _ (wd 3 rfl)) (by decide) (by decide)) q427a q427c (g := (mkF m 246 #[rv d, iv q1, iv q2, iv c3_383, iv c4_383, iv c5_383, u6_383] [.int q1, .ref b, .int q1, .ref d, (.int (if c3_383 = (0 : Int32) then (-1 : Int32) else (0 : Int32))), (.int (rdI σ417 4)), .ref d])) rfl (by rw [hml]; rfl) (Steps.refl _) (argsL := [.int q1]) (rest := [.int q1, .ref d, (.int (if c3_383 = (0 : Int32) then (-1 : Int32) else (0 : Int32))), (.int (rdI σ417 4)), .ref d]) (lenOf pd_1 rfl) rfl (by show 2 * 0 + _ ≤ _; exact Nat.le_of_eq rfl) (hb hby d21_246) (fun _ _ => ⟨rfl, e424, (by decide : 0 + 0 ≤ _), (by decide : 0 + 0 ≤ _)⟩)
    dsimp only [Pt.U, Pt.locs, Pt.cells, Pt.slots] at X427 l427 y427 z427 st427 hQ427
    subst l427 y427 z427
    obtain ⟨rfl, N427q, w427⟩ := hQ427
    have N427 := Fr.app N418 N427q
    have k_428 : Go p.tables e below B0 (sf T427 m 249 #[rv d, iv q1, iv q2, iv c3_383, iv c4_383, iv c5_383, u6_383] [(.int z426.1), .int q1, .ref d, (.int (if c3_383 = (0 : Int32) then (-1 : Int32) else (0 : Int32))), (.int (rdI σ417 4)), .ref d]) := fun t q => by
     refine k_425 t ?_
     refine st427.trans ?_
     show Steps _ _ _ (sf T427 m 249 #[rv d, iv q1, iv q2, iv c3_383, iv c4_383, iv c5_383, u6_383] [(.int z426.1), .int q1, .ref d, (.int (if c3_383 = (0 : Int32) then (-1 : Int32) else (0 : Int32))), (.int (rdI σ417 4)), .ref d]) _
     exact q
    obtain ⟨z429, c429, hf429⟩ := Option.bind_eq_some_iff.mp hf426
    obtain ⟨cq430, q430, q430'⟩ := Exa.cell (w427.2.1.2.2.1)
    obtain ⟨_, _, ⟨T430, L430, k430, n430⟩, -, X430, ⟨Lc430, hQ430, l430, y430, z430⟩, st430⟩ := X427.privateBack hx (y := y_7) hown (mvT hZ (hw _ (wd 90 rfl))) (mvT hZ (hw _ (wd 91 rfl))) (own_selects hZ (hw _ (wd 56 rfl)) (mvP hZ (hw _ (wd 92 rfl)) (args := #[])) (mvT hZ (hw _ (wd 91 rfl))) (by decide)) (Cond.privateMethod_at (mvP hZ (hw _ (wd 92 rfl)) (args := #[]))) (mvT hZ (hw _ (wd 93 rfl))) (by decide) (backOf (W := 3) (fBal_ok l Z a0 hw [] b d ps z426.2 q1 z426.1 T427.heap n0 w427 z429 c429) hZ (hw _ (wd 93 rfl)) (hw _ (wd 57 rfl)) (by decide) (by decide)) (g := (mkF m 249 #[rv d, iv q1, iv q2, iv c3_383, iv c4_383, iv c5_383, u6_383] [(.int z426.1), .int q1, .ref d, (.int (if c3_383 = (0 : Int32) then (-1 : Int32) else (0 : Int32))), (.int (rdI σ417 4)), .ref d])) rfl (by rw [hml]; rfl) (Steps.refl _) (a := d) q430 q430' (argsL := [.int q1, (.int z426.1)]) (rest := [(.int (if c3_383 = (0 : Int32) then (-1 : Int32) else (0 : Int32))), (.int (rdI σ417 4)), .ref d]) (lenOf pd_3 rfl) rfl (by show 2 * 0 + _ ≤ _; exact Nat.le_of_eq rfl) (hb hby d21_249) (fun _ _ => ⟨rfl, (rfl : T427.heap = _), (by decide : 0 + 0 ≤ _), (by decide : 0 + 0 ≤ _)⟩)
    dsimp only [Pt.U, Pt.locs, Pt.cells, Pt.slots] at X430 l430 y430 z430 st430 hQ430
    subst l430 y430 z430
    obtain ⟨rfl, N430q, w430⟩ := hQ430
    have N430 := Fr.app N427 N430q
    have k_431 : Go p.tables e below B0 (sf T430 m 252 #[rv d, iv q1, iv q2, iv c3_383, iv c4_383, iv c5_383, u6_383] [(.int z429.1), (.int (if c3_383 = (0 : Int32) then (-1 : Int32) else (0 : Int32))), (.int (rdI σ417 4)), .ref d]) := fun t q => by
     refine k_428 t ?_
     refine st430.trans ?_
     show Steps _ _ _ (sf T430 m 252 #[rv d, iv q1, iv q2, iv c3_383, iv c4_383, iv c5_383, u6_383] [(.int z429.1), (.int (if c3_383 = (0 : Int32) then (-1 : Int32) else (0 : Int32))), (.int (rdI σ417 4)), .ref d]) _
     exact q
    have k_432 : Go p.tables e below B0 (sf T430 m 260 #[rv d, iv q1, iv q2, iv c3_383, iv c4_383, iv c5_383, u6_383] [(.int (if z429.1 = (0 : Int32) then (1 : Int32) else (0 : Int32))), (.int (if c3_383 = (0 : Int32) then (-1 : Int32) else (0 : Int32))), (.int (rdI σ417 4)), .ref d]) := by
     by_cases hc432 : z429.1 = (0 : Int32)
     ·rw [if_pos hc432]; exact fun t q => by
       refine k_431 t ?_
       refine s_ifYes X430.here hx (pc' := 259) (hb hby d21_252) ((if0 _ _).trans (teq hc432).1) (by decide) (by decide) ?_
       refine s_iconst (x := 1) X430.here hx (hb hby d21_259) rfl ?_
       exact q
     ·rw [if_neg hc432]; exact fun t q => by
       refine k_431 t ?_
       refine s_ifNo X430.here hx (hb hby d21_252) ((if0 _ _).trans (feq hc432).1) ?_
       refine s_iconst (x := 0) X430.here hx (hb hby d21_255) rfl ?_
       refine s_goto X430.here hx (pc' := 260) (hb hby d21_256) (by decide) (by decide) ?_
       exact q
    have k_433 : Go p.tables e below B0 (sf T430 m 264 #[rv d, iv q1, iv q2, iv c3_383, iv c4_383, iv c5_383, u6_383] [.ref d, .int q2, .ref d, (.int ((if c3_383 = (0 : Int32) then (-1 : Int32) else (0 : Int32)) + (if z429.1 = (0 : Int32) then (1 : Int32) else (0 : Int32)))), (.int (rdI σ417 4)), .ref d]) := fun t q => by
     refine k_432 t ?_
     refine s_iadd X430.here hx (hb hby d21_260) ?_
     refine s_aloadN X430.here hx (hb hby d21_261) rfl rfl ?_
     refine s_iloadN X430.here hx (hb hby d21_262) rfl ?_
     refine s_aloadN X430.here hx (hb hby d21_263) rfl rfl ?_
     exact q
    obtain ⟨T434, X434, e434, st434⟩ := getF X430 hx hZ hown (host := "") (Or.inl (hw _ (wd 69 rfl))) Via.refl (rfl : T430.heap = _) (gt_d_blocks w430) (g := (mkF m 264 #[rv d, iv q1, iv q2, iv c3_383, iv c4_383, iv c5_383, u6_383] [.ref d, .int q2, .ref d, (.int ((if c3_383 = (0 : Int32) then (-1 : Int32) else (0 : Int32)) + (if z429.1 = (0 : Int32) then (1 : Int32) else (0 : Int32)))), (.int (rdI σ417 4)), .ref d])) rfl rfl (hb hby d21_264)
    have k_435 : Go p.tables e below B0 (sf T434 m 268 #[rv d, iv q1, iv q2, iv c3_383, iv c4_383, iv c5_383, u6_383] [.int q2, .ref b, .int q2, .ref d, (.int ((if c3_383 = (0 : Int32) then (-1 : Int32) else (0 : Int32)) + (if z429.1 = (0 : Int32) then (1 : Int32) else (0 : Int32)))), (.int (rdI σ417 4)), .ref d]) := fun t q => by
     refine k_433 t ?_
     refine st434 _ ?_
     show Steps _ _ _ (sf T434 m 267 #[rv d, iv q1, iv q2, iv c3_383, iv c4_383, iv c5_383, u6_383] [.ref b, .int q2, .ref d, (.int ((if c3_383 = (0 : Int32) then (-1 : Int32) else (0 : Int32)) + (if z429.1 = (0 : Int32) then (1 : Int32) else (0 : Int32)))), (.int (rdI σ417 4)), .ref d]) _
     refine s_iloadN X434.here hx (hb hby d21_267) rfl ?_
     exact q
    obtain ⟨z436, c436, hf436⟩ := Option.bind_eq_some_iff.mp hf429
    obtain ⟨cq437, kq437, q437a, q437b, q437c⟩ := isOf hZ e434 (w430.2.1.2.1)
    obtain ⟨_, _, ⟨T437, L437, k437, n437⟩, -, X437, ⟨Lc437, hQ437, l437, y437, z437⟩, st437⟩ := X434.virtualBack hx (y := y_3) (z := y_3) hown (mvT hZ (hw _ (wd 147 rfl))) (mvT hZ (hw _ (wd 148 rfl))) (notFace_of_selects (args := #[]) (mvT hZ (hw _ (wd 150 rfl)))) (mvT hZ (hw _ (wd 150 rfl))) (mvT hZ (hw _ (wd 149 rfl))) (by decide) (backOf (W := 5) (fSize_ok l Z a0 hw [] b d ps z429.2 q2 T430.heap n0 w430 z436 c436) hZ (hw _ (wd 151 rfl)) (hw _ (wd 3 rfl)) (by decide) (by decide)) q437a q437c (g := (mkF m 268 #[rv d, iv q1, iv q2, iv c3_383, iv c4_383, iv c5_383, u6_383] [.int q2, .ref b, .int q2, .ref d, (.int ((if c3_383 = (0 : Int32) then (-1 : Int32) else (0 : Int32)) + (if z429.1 = (0 : Int32) then (1 : Int32) else (0 : Int32)))), (.int (rdI σ417 4)), .ref d])) rfl (by rw [hml]; rfl) (Steps.refl _) (argsL := [.int q2]) (rest := [.int q2, .ref d, (.int ((if c3_383 = (0 : Int32) then (-1 : Int32) else (0 : Int32)) + (if z429.1 = (0 : Int32) then (1 : Int32) else (0 : Int32)))), (.int (rdI σ417 4)), .ref d]) (lenOf pd_1 rfl) rfl (by show 2 * 0 + _ ≤ _; exact Nat.le_of_eq rfl) (hb hby d21_268) (fun _ _ => ⟨rfl, e434, (by decide : 0 + 0 ≤ _), (by decide : 0 + 0 ≤ _)⟩)
    dsimp only [Pt.U, Pt.locs, Pt.cells, Pt.slots] at X437 l437 y437 z437 st437 hQ437
    subst l437 y437 z437
    obtain ⟨rfl, N437q, w437⟩ := hQ437
    have N437 := Fr.app N430 N437q
    have k_438 : Go p.tables e below B0 (sf T437 m 271 #[rv d, iv q1, iv q2, iv c3_383, iv c4_383, iv c5_383, u6_383] [(.int z436.1), .int q2, .ref d, (.int ((if c3_383 = (0 : Int32) then (-1 : Int32) else (0 : Int32)) + (if z429.1 = (0 : Int32) then (1 : Int32) else (0 : Int32)))), (.int (rdI σ417 4)), .ref d]) := fun t q => by
     refine k_435 t ?_
     refine st437.trans ?_
     show Steps _ _ _ (sf T437 m 271 #[rv d, iv q1, iv q2, iv c3_383, iv c4_383, iv c5_383, u6_383] [(.int z436.1), .int q2, .ref d, (.int ((if c3_383 = (0 : Int32) then (-1 : Int32) else (0 : Int32)) + (if z429.1 = (0 : Int32) then (1 : Int32) else (0 : Int32)))), (.int (rdI σ417 4)), .ref d]) _
     exact q
    obtain ⟨z439, c439, hf439⟩ := Option.bind_eq_some_iff.mp hf436
    obtain ⟨cq440, q440, q440'⟩ := Exa.cell (w437.2.1.2.2.1)
    obtain ⟨_, _, ⟨T440, L440, k440, n440⟩, -, X440, ⟨Lc440, hQ440, l440, y440, z440⟩, st440⟩ := X437.privateBack hx (y := y_7) hown (mvT hZ (hw _ (wd 90 rfl))) (mvT hZ (hw _ (wd 91 rfl))) (own_selects hZ (hw _ (wd 56 rfl)) (mvP hZ (hw _ (wd 92 rfl)) (args := #[])) (mvT hZ (hw _ (wd 91 rfl))) (by decide)) (Cond.privateMethod_at (mvP hZ (hw _ (wd 92 rfl)) (args := #[]))) (mvT hZ (hw _ (wd 93 rfl))) (by decide) (backOf (W := 3) (fBal_ok l Z a0 hw [] b d ps z436.2 q2 z436.1 T437.heap n0 w437 z439 c439) hZ (hw _ (wd 93 rfl)) (hw _ (wd 57 rfl)) (by decide) (by decide)) (g := (mkF m 271 #[rv d, iv q1, iv q2, iv c3_383, iv c4_383, iv c5_383, u6_383] [(.int z436.1), .int q2, .ref d, (.int ((if c3_383 = (0 : Int32) then (-1 : Int32) else (0 : Int32)) + (if z429.1 = (0 : Int32) then (1 : Int32) else (0 : Int32)))), (.int (rdI σ417 4)), .ref d])) rfl (by rw [hml]; rfl) (Steps.refl _) (a := d) q440 q440' (argsL := [.int q2, (.int z436.1)]) (rest := [(.int ((if c3_383 = (0 : Int32) then (-1 : Int32) else (0 : Int32)) + (if z429.1 = (0 : Int32) then (1 : Int32) else (0 : Int32)))), (.int (rdI σ417 4)), .ref d]) (lenOf pd_3 rfl) rfl (by show 2 * 0 + _ ≤ _; exact Nat.le_of_eq rfl) (hb hby d21_271) (fun _ _ => ⟨rfl, (rfl : T437.heap = _), (by decide : 0 + 0 ≤ _), (by decide : 0 + 0 ≤ _)⟩)
    dsimp only [Pt.U, Pt.locs, Pt.cells, Pt.slots] at X440 l440 y440 z440 st440 hQ440
    subst l440 y440 z440
    obtain ⟨rfl, N440q, w440⟩ := hQ440
    have N440 := Fr.app N437 N440q
    have k_441 : Go p.tables e below B0 (sf T440 m 274 #[rv d, iv q1, iv q2, iv c3_383, iv c4_383, iv c5_383, u6_383] [(.int z439.1), (.int ((if c3_383 = (0 : Int32) then (-1 : Int32) else (0 : Int32)) + (if z429.1 = (0 : Int32) then (1 : Int32) else (0 : Int32)))), (.int (rdI σ417 4)), .ref d]) := fun t q => by
     refine k_438 t ?_
     refine st440.trans ?_
     show Steps _ _ _ (sf T440 m 274 #[rv d, iv q1, iv q2, iv c3_383, iv c4_383, iv c5_383, u6_383] [(.int z439.1), (.int ((if c3_383 = (0 : Int32) then (-1 : Int32) else (0 : Int32)) + (if z429.1 = (0 : Int32) then (1 : Int32) else (0 : Int32)))), (.int (rdI σ417 4)), .ref d]) _
     exact q
    have k_442 : Go p.tables e below B0 (sf T440 m 282 #[rv d, iv q1, iv q2, iv c3_383, iv c4_383, iv c5_383, u6_383] [(.int (if z439.1 = (0 : Int32) then (1 : Int32) else (0 : Int32))), (.int ((if c3_383 = (0 : Int32) then (-1 : Int32) else (0 : Int32)) + (if z429.1 = (0 : Int32) then (1 : Int32) else (0 : Int32)))), (.int (rdI σ417 4)), .ref d]) := by
     by_cases hc442 : z439.1 = (0 : Int32)
     ·rw [if_pos hc442]; exact fun t q => by
       refine k_441 t ?_
       refine s_ifYes X440.here hx (pc' := 281) (hb hby d21_274) ((if0 _ _).trans (teq hc442).1) (by decide) (by decide) ?_
       refine s_iconst (x := 1) X440.here hx (hb hby d21_281) rfl ?_
       exact q
     ·rw [if_neg hc442]; exact fun t q => by
       refine k_441 t ?_
       refine s_ifNo X440.here hx (hb hby d21_274) ((if0 _ _).trans (feq hc442).1) ?_
       refine s_iconst (x := 0) X440.here hx (hb hby d21_277) rfl ?_
       refine s_goto X440.here hx (pc' := 282) (hb hby d21_278) (by decide) (by decide) ?_
       exact q
    have k_443 : Go p.tables e below B0 (sf T440 m 284 #[rv d, iv q1, iv q2, iv c3_383, iv c4_383, iv c5_383, u6_383] [(.int ((rdI σ417 4) + (((if c3_383 = (0 : Int32) then (-1 : Int32) else (0 : Int32)) + (if z429.1 = (0 : Int32) then (1 : Int32) else (0 : Int32))) + (if z439.1 = (0 : Int32) then (1 : Int32) else (0 : Int32))))), .ref d]) := fun t q => by
     refine k_442 t ?_
     refine s_iadd X440.here hx (hb hby d21_282) ?_
     refine s_iadd X440.here hx (hb hby d21_283) ?_
     exact q
    obtain ⟨σ444, c444, hf444⟩ := Option.bind_eq_some_iff.mp hf439
    obtain ⟨T445, h445, X445, e445, W445, st445⟩ := putF X440 hx hZ hown (host := "") (Or.inl (hw _ (wd 94 rfl))) Via.refl (rfl : T440.heap = _) (gt_d_unevenCount w440) (w440.2.1.2.2.1) (Or.inl (hw _ (wd 95 rfl))) (hw _ (wd 56 rfl)) (ty := .int) (by decide) rfl rfl (g := (mkF m 284 #[rv d, iv q1, iv q2, iv c3_383, iv c4_383, iv c5_383, u6_383] [(.int ((rdI σ417 4) + (((if c3_383 = (0 : Int32) then (-1 : Int32) else (0 : Int32)) + (if z429.1 = (0 : Int32) then (1 : Int32) else (0 : Int32))) + (if z439.1 = (0 : Int32) then (1 : Int32) else (0 : Int32))))), .ref d])) rfl rfl (hb hby d21_284)
    have N445 := Fr.snoc X445 N440 w440.2.2.2.1
    have w445 := pt_d_unevenCount hw w440 W445
    rw [Option.some.inj c444] at w445
    have k_446 : Go p.tables e below B0 (sf T445 m 289 #[rv d, iv q1, iv q2, iv c3_383, iv c4_383, iv c5_383, u6_383] [.int q1, .ref d]) := fun t q => by
     refine k_443 t ?_
     refine st445 _ ?_
     show Steps _ _ _ (sf T445 m 287 #[rv d, iv q1, iv q2, iv c3_383, iv c4_383, iv c5_383, u6_383] []) _
     refine s_aloadN X445.here hx (hb hby d21_287) rfl rfl ?_
     refine s_iloadN X445.here hx (hb hby d21_288) rfl ?_
     exact q
    obtain ⟨z447, c447, hf447⟩ := Option.bind_eq_some_iff.mp hf444
    obtain ⟨cq448, q448, q448'⟩ := Exa.cell (w445.2.1.2.2.1)
    obtain ⟨_, _, ⟨T448, L448, k448, n448⟩, -, X448, ⟨Lc448, hQ448, l448, y448, z448⟩, st448⟩ := X445.privateBack hx (y := y_8) hown (mvT hZ (hw _ (wd 96 rfl))) (mvT hZ (hw _ (wd 97 rfl))) (own_selects hZ (hw _ (wd 56 rfl)) (mvP hZ (hw _ (wd 98 rfl)) (args := #[])) (mvT hZ (hw _ (wd 97 rfl))) (by decide)) (Cond.privateMethod_at (mvP hZ (hw _ (wd 98 rfl)) (args := #[]))) (mvT hZ (hw _ (wd 99 rfl))) (by decide) (backOf (W := 0) (fEnter_ok l Z a0 hw [] b d ps σ444 q1 h445 n0 w445 z447 c447) hZ (hw _ (wd 99 rfl)) (hw _ (wd 57 rfl)) (by decide) (by decide)) (g := (mkF m 289 #[rv d, iv q1, iv q2, iv c3_383, iv c4_383, iv c5_383, u6_383] [.int q1, .ref d])) rfl (by rw [hml]; rfl) (Steps.refl _) (a := d) (by rw [e445]; exact q448) q448' (argsL := [.int q1]) (rest := []) (lenOf pd_4 rfl) rfl (by show 2 * 0 + _ ≤ _; exact Nat.le_of_eq rfl) (hb hby d21_289) (fun _ _ => ⟨rfl, e445, (by decide : 0 + 0 ≤ _), (by decide : 0 + 0 ≤ _)⟩)
    dsimp only [Pt.U, Pt.locs, Pt.cells, Pt.slots] at X448 l448 y448 z448 st448 hQ448
    subst l448 y448 z448
    obtain ⟨rfl, N448q, w448⟩ := hQ448
    have N448 := Fr.app N445 N448q
    have k_449 : Go p.tables e below B0 (sf T448 m 294 #[rv d, iv q1, iv q2, iv c3_383, iv c4_383, iv c5_383, u6_383] [.int q2, .ref d]) := fun t q => by
     refine k_446 t ?_
     refine st448.trans ?_
     show Steps _ _ _ (sf T448 m 292 #[rv d, iv q1, iv q2, iv c3_383, iv c4_383, iv c5_383, u6_383] []) _
     refine s_aloadN X448.here hx (hb hby d21_292) rfl rfl ?_
     refine s_iloadN X448.here hx (hb hby d21_293) rfl ?_
     exact q
    obtain ⟨z450, c450, hf450⟩ := Option.bind_eq_some_iff.mp hf447
    obtain ⟨cq451, q451, q451'⟩ := Exa.cell (w448.2.1.2.2.1)
    obtain ⟨_, _, ⟨T451, L451, k451, n451⟩, -, X451, ⟨Lc451, hQ451, l451, y451, z451⟩, st451⟩ := X448.privateBack hx (y := y_8) hown (mvT hZ (hw _ (wd 96 rfl))) (mvT hZ (hw _ (wd 97 rfl))) (own_selects hZ (hw _ (wd 56 rfl)) (mvP hZ (hw _ (wd 98 rfl)) (args := #[])) (mvT hZ (hw _ (wd 97 rfl))) (by decide)) (Cond.privateMethod_at (mvP hZ (hw _ (wd 98 rfl)) (args := #[]))) (mvT hZ (hw _ (wd 99 rfl))) (by decide) (backOf (W := 0) (fEnter_ok l Z a0 hw [] b d ps z447.2 q2 T448.heap n0 w448 z450 c450) hZ (hw _ (wd 99 rfl)) (hw _ (wd 57 rfl)) (by decide) (by decide)) (g := (mkF m 294 #[rv d, iv q1, iv q2, iv c3_383, iv c4_383, iv c5_383, u6_383] [.int q2, .ref d])) rfl (by rw [hml]; rfl) (Steps.refl _) (a := d) q451 q451' (argsL := [.int q2]) (rest := []) (lenOf pd_4 rfl) rfl (by show 2 * 0 + _ ≤ _; exact Nat.le_of_eq rfl) (hb hby d21_294) (fun _ _ => ⟨rfl, (rfl : T448.heap = _), (by decide : 0 + 0 ≤ _), (by decide : 0 + 0 ≤ _)⟩)
    dsimp only [Pt.U, Pt.locs, Pt.cells, Pt.slots] at X451 l451 y451 z451 st451 hQ451
    subst l451 y451 z451
    obtain ⟨rfl, N451q, w451⟩ := hQ451
    have N451 := Fr.app N448 N451q
    have k_452 : Go p.tables e below B0 (sf T451 m 297 #[rv d, iv q1, iv q2, iv c3_383, iv c4_383, iv c5_383, u6_383] []) := fun t q => by
     refine k_449 t ?_
     refine st451.trans ?_
     show Steps _ _ _ (sf T451 m 297 #[rv d, iv q1, iv q2, iv c3_383, iv c4_383, iv c5_383, u6_383] []) _
     exact q
    obtain rfl := Option.some.inj hf450
    obtain ⟨fs, hr, hrun, hended, hW, hsame⟩ := X451.leave (v := none) (fun _ => rfl)
    refine ⟨_, _, k_452 _ ?_, hrun, hended, _, _, rfl, ?_, ⟨_, rfl⟩, hW, hsame.mono (by decide) (by decide)⟩
    ·exact X451.returnOut hx Bd.returns (hb hby d21_297) hr
    ·show QW Z n0 b d ps z450.2 none _ T451.heap _
     exact ⟨rfl, N451, w451⟩
 have k_453 : Go p.tables e below B0 (sf s₁ m 3 #[rv d, iv q1, iv q2, nu, nu, nu, nu] [.ref d, .int q1, .ref d]) := fun t q => by
  refine k0 t ?_
  refine s_aloadN X0.here hx (hb hby d21_0) rfl rfl ?_
  refine s_iloadN X0.here hx (hb hby d21_1) rfl ?_
  refine s_aloadN X0.here hx (hb hby d21_2) rfl rfl ?_
  exact q
 obtain ⟨T454, X454, e454, st454⟩ := getF X0 hx hZ hown (host := "") (Or.inl (hw _ (wd 69 rfl))) Via.refl e0 (gt_d_blocks W0) (g := (mkF m 3 #[rv d, iv q1, iv q2, nu, nu, nu, nu] [.ref d, .int q1, .ref d])) rfl rfl (hb hby d21_3)
 have k_455 : Go p.tables e below B0 (sf T454 m 7 #[rv d, iv q1, iv q2, nu, nu, nu, nu] [.int q1, .ref b, .int q1, .ref d]) := fun t q => by
  refine k_453 t ?_
  refine st454 _ ?_
  show Steps _ _ _ (sf T454 m 6 #[rv d, iv q1, iv q2, nu, nu, nu, nu] [.ref b, .int q1, .ref d]) _
  refine s_iloadN X454.here hx (hb hby d21_6) rfl ?_
  exact q
 obtain ⟨z456, c456, hf456⟩ := Option.bind_eq_some_iff.mp hf
 obtain ⟨cq457, kq457, q457a, q457b, q457c⟩ := isOf hZ e454 (W0.2.1.2.1)
 obtain ⟨_, _, ⟨T457, L457, k457, n457⟩, -, X457, ⟨Lc457, hQ457, l457, y457, z457⟩, st457⟩ := X454.virtualBack hx (y := y_3) (z := y_3) hown (mvT hZ (hw _ (wd 147 rfl))) (mvT hZ (hw _ (wd 148 rfl))) (notFace_of_selects (args := #[]) (mvT hZ (hw _ (wd 150 rfl)))) (mvT hZ (hw _ (wd 150 rfl))) (mvT hZ (hw _ (wd 149 rfl))) (by decide) (backOf (W := 2) (fSize_ok l Z a0 hw [] b d ps σ q1 h0 n0 W0 z456 c456) hZ (hw _ (wd 151 rfl)) (hw _ (wd 3 rfl)) (by decide) (by decide)) q457a q457c (g := (mkF m 7 #[rv d, iv q1, iv q2, nu, nu, nu, nu] [.int q1, .ref b, .int q1, .ref d])) rfl (by rw [hml]; rfl) (Steps.refl _) (argsL := [.int q1]) (rest := [.int q1, .ref d]) (lenOf pd_1 rfl) rfl (by show 2 * 0 + _ ≤ _; exact Nat.le_of_eq rfl) (hb hby d21_7) (fun _ _ => ⟨rfl, e454, (by decide : 0 + 0 ≤ _), (by decide : 0 + 0 ≤ _)⟩)
 dsimp only [Pt.U, Pt.locs, Pt.cells, Pt.slots] at X457 l457 y457 z457 st457 hQ457
 subst l457 y457 z457
 obtain ⟨rfl, N457q, w457⟩ := hQ457
 have N457 := Fr.app N0 N457q
 have k_458 : Go p.tables e below B0 (sf T457 m 11 #[rv d, iv q1, iv q2, nu, nu, nu, nu] [.ref d, (.int z456.1), .int q1, .ref d]) := fun t q => by
  refine k_455 t ?_
  refine st457.trans ?_
  show Steps _ _ _ (sf T457 m 10 #[rv d, iv q1, iv q2, nu, nu, nu, nu] [(.int z456.1), .int q1, .ref d]) _
  refine s_aloadN X457.here hx (hb hby d21_10) rfl rfl ?_
  exact q
 obtain ⟨T459, X459, e459, st459⟩ := getF X457 hx hZ hown (host := "") (Or.inl (hw _ (wd 69 rfl))) Via.refl (rfl : T457.heap = _) (gt_d_blocks w457) (g := (mkF m 11 #[rv d, iv q1, iv q2, nu, nu, nu, nu] [.ref d, (.int z456.1), .int q1, .ref d])) rfl rfl (hb hby d21_11)
 have k_460 : Go p.tables e below B0 (sf T459 m 15 #[rv d, iv q1, iv q2, nu, nu, nu, nu] [.int q2, .ref b, (.int z456.1), .int q1, .ref d]) := fun t q => by
  refine k_458 t ?_
  refine st459 _ ?_
  show Steps _ _ _ (sf T459 m 14 #[rv d, iv q1, iv q2, nu, nu, nu, nu] [.ref b, (.int z456.1), .int q1, .ref d]) _
  refine s_iloadN X459.here hx (hb hby d21_14) rfl ?_
  exact q
 obtain ⟨z461, c461, hf461⟩ := Option.bind_eq_some_iff.mp hf456
 obtain ⟨cq462, kq462, q462a, q462b, q462c⟩ := isOf hZ e459 (w457.2.1.2.1)
 obtain ⟨_, _, ⟨T462, L462, k462, n462⟩, -, X462, ⟨Lc462, hQ462, l462, y462, z462⟩, st462⟩ := X459.virtualBack hx (y := y_3) (z := y_3) hown (mvT hZ (hw _ (wd 147 rfl))) (mvT hZ (hw _ (wd 148 rfl))) (notFace_of_selects (args := #[]) (mvT hZ (hw _ (wd 150 rfl)))) (mvT hZ (hw _ (wd 150 rfl))) (mvT hZ (hw _ (wd 149 rfl))) (by decide) (backOf (W := 3) (fSize_ok l Z a0 hw [] b d ps z456.2 q2 T457.heap n0 w457 z461 c461) hZ (hw _ (wd 151 rfl)) (hw _ (wd 3 rfl)) (by decide) (by decide)) q462a q462c (g := (mkF m 15 #[rv d, iv q1, iv q2, nu, nu, nu, nu] [.int q2, .ref b, (.int z456.1), .int q1, .ref d])) rfl (by rw [hml]; rfl) (Steps.refl _) (argsL := [.int q2]) (rest := [(.int z456.1), .int q1, .ref d]) (lenOf pd_1 rfl) rfl (by show 2 * 0 + _ ≤ _; exact Nat.le_of_eq rfl) (hb hby d21_15) (fun _ _ => ⟨rfl, e459, (by decide : 0 + 0 ≤ _), (by decide : 0 + 0 ≤ _)⟩)
 dsimp only [Pt.U, Pt.locs, Pt.cells, Pt.slots] at X462 l462 y462 z462 st462 hQ462
 subst l462 y462 z462
 obtain ⟨rfl, N462q, w462⟩ := hQ462
 have N462 := Fr.app N457 N462q
 have k_463 : Go p.tables e below B0 (sf T462 m 19 #[rv d, iv q1, iv q2, nu, nu, nu, nu] [(.int (z456.1 + z461.1)), .int q1, .ref d]) := fun t q => by
  refine k_460 t ?_
  refine st462.trans ?_
  show Steps _ _ _ (sf T462 m 18 #[rv d, iv q1, iv q2, nu, nu, nu, nu] [(.int z461.1), (.int z456.1), .int q1, .ref d]) _
  refine s_iadd X462.here hx (hb hby d21_18) ?_
  exact q
 obtain ⟨z464, c464, hf464⟩ := Option.bind_eq_some_iff.mp hf461
 obtain ⟨cq465, q465, q465'⟩ := Exa.cell (w462.2.1.2.2.1)
 obtain ⟨_, _, ⟨T465, L465, k465, n465⟩, -, X465, ⟨Lc465, hQ465, l465, y465, z465⟩, st465⟩ := X462.privateBack hx (y := y_7) hown (mvT hZ (hw _ (wd 90 rfl))) (mvT hZ (hw _ (wd 91 rfl))) (own_selects hZ (hw _ (wd 56 rfl)) (mvP hZ (hw _ (wd 92 rfl)) (args := #[])) (mvT hZ (hw _ (wd 91 rfl))) (by decide)) (Cond.privateMethod_at (mvP hZ (hw _ (wd 92 rfl)) (args := #[]))) (mvT hZ (hw _ (wd 93 rfl))) (by decide) (backOf (W := 0) (fBal_ok l Z a0 hw [] b d ps z461.2 q1 (z456.1 + z461.1) T462.heap n0 w462 z464 c464) hZ (hw _ (wd 93 rfl)) (hw _ (wd 57 rfl)) (by decide) (by decide)) (g := (mkF m 19 #[rv d, iv q1, iv q2, nu, nu, nu, nu] [(.int (z456.1 + z461.1)), .int q1, .ref d])) rfl (by rw [hml]; rfl) (Steps.refl _) (a := d) q465 q465' (argsL := [.int q1, (.int (z456.1 + z461.1))]) (rest := []) (lenOf pd_3 rfl) rfl (by show 2 * 0 + _ ≤ _; exact Nat.le_of_eq rfl) (hb hby d21_19) (fun _ _ => ⟨rfl, (rfl : T462.heap = _), (by decide : 0 + 0 ≤ _), (by decide : 0 + 0 ≤ _)⟩)
 dsimp only [Pt.U, Pt.locs, Pt.cells, Pt.slots] at X465 l465 y465 z465 st465 hQ465
 subst l465 y465 z465
 obtain ⟨rfl, N465q, w465⟩ := hQ465
 have N465 := Fr.app N462 N465q
 have k_466 : Go p.tables e below B0 (sf T465 m 25 #[rv d, iv q1, iv q2, .val (.int z464.1), nu, nu, nu] [.int q1, .ref d]) := fun t q => by
  refine k_463 t ?_
  refine st465.trans ?_
  show Steps _ _ _ (sf T465 m 22 #[rv d, iv q1, iv q2, nu, nu, nu, nu] [(.int z464.1)]) _
  refine s_istoreN X465.here hx (hb hby d21_22) (l' := #[rv d, iv q1, iv q2, .val (.int z464.1), nu, nu, nu]) rfl ?_
  refine s_aloadN X465.here hx (hb hby d21_23) rfl rfl ?_
  refine s_iloadN X465.here hx (hb hby d21_24) rfl ?_
  exact q
 obtain ⟨z467, c467, hf467⟩ := Option.bind_eq_some_iff.mp hf464
 obtain ⟨cq468, q468, q468'⟩ := Exa.cell (w465.2.1.2.2.1)
 obtain ⟨_, _, ⟨T468, L468, k468, n468⟩, -, X468, ⟨Lc468, hQ468, l468, y468, z468⟩, st468⟩ := X465.privateBack hx (y := y_9) hown (mvT hZ (hw _ (wd 152 rfl))) (mvT hZ (hw _ (wd 153 rfl))) (own_selects hZ (hw _ (wd 56 rfl)) (mvP hZ (hw _ (wd 154 rfl)) (args := #[])) (mvT hZ (hw _ (wd 153 rfl))) (by decide)) (Cond.privateMethod_at (mvP hZ (hw _ (wd 154 rfl)) (args := #[]))) (mvT hZ (hw _ (wd 155 rfl))) (by decide) (backOf (W := 0) (fLeave_ok l Z a0 hw [] b d ps z464.2 q1 T465.heap n0 w465 z467 c467) hZ (hw _ (wd 155 rfl)) (hw _ (wd 57 rfl)) (by decide) (by decide)) (g := (mkF m 25 #[rv d, iv q1, iv q2, .val (.int z464.1), nu, nu, nu] [.int q1, .ref d])) rfl (by rw [hml]; rfl) (Steps.refl _) (a := d) q468 q468' (argsL := [.int q1]) (rest := []) (lenOf pd_4 rfl) rfl (by show 2 * 0 + _ ≤ _; exact Nat.le_of_eq rfl) (hb hby d21_25) (fun _ _ => ⟨rfl, (rfl : T465.heap = _), (by decide : 0 + 0 ≤ _), (by decide : 0 + 0 ≤ _)⟩)
 dsimp only [Pt.U, Pt.locs, Pt.cells, Pt.slots] at X468 l468 y468 z468 st468 hQ468
 subst l468 y468 z468
 obtain ⟨rfl, N468q, w468⟩ := hQ468
 have N468 := Fr.app N465 N468q
 have k_469 : Go p.tables e below B0 (sf T468 m 30 #[rv d, iv q1, iv q2, .val (.int z464.1), nu, nu, nu] [.ref d, .ref d]) := fun t q => by
  refine k_466 t ?_
  refine st468.trans ?_
  show Steps _ _ _ (sf T468 m 28 #[rv d, iv q1, iv q2, .val (.int z464.1), nu, nu, nu] []) _
  refine s_aloadN X468.here hx (hb hby d21_28) rfl rfl ?_
  refine s_aloadN X468.here hx (hb hby d21_29) rfl rfl ?_
  exact q
 obtain ⟨T470, X470, e470, st470⟩ := getF X468 hx hZ hown (host := "") (Or.inl (hw _ (wd 77 rfl))) Via.refl (rfl : T468.heap = _) (gt_d_first w468) (g := (mkF m 30 #[rv d, iv q1, iv q2, .val (.int z464.1), nu, nu, nu] [.ref d, .ref d])) rfl rfl (hb hby d21_30)
 have k_471 : Go p.tables e below B0 (sf T470 m 40 #[rv d, iv q1, iv q2, .val (.int z464.1), nu, nu, nu] [.ref d, .int 2, (.int (((2 : Int32) * q2) + (1 : Int32))), (.ref (ps 11)), .ref d]) := fun t q => by
  refine k_469 t ?_
  refine st470 _ ?_
  show Steps _ _ _ (sf T470 m 33 #[rv d, iv q1, iv q2, .val (.int z464.1), nu, nu, nu] [(.ref (ps 11)), .ref d]) _
  refine s_iconst (x := 2) X470.here hx (hb hby d21_33) rfl ?_
  refine s_iloadN X470.here hx (hb hby d21_34) rfl ?_
  refine s_imul X470.here hx (hb hby d21_35) ?_
  refine s_iconst (x := 1) X470.here hx (hb hby d21_36) rfl ?_
  refine s_iadd X470.here hx (hb hby d21_37) ?_
  refine s_iconst (x := 2) X470.here hx (hb hby d21_38) rfl ?_
  refine s_aloadN X470.here hx (hb hby d21_39) rfl rfl ?_
  exact q
 obtain ⟨T472, X472, e472, st472⟩ := getF X470 hx hZ hown (host := "") (Or.inl (hw _ (wd 69 rfl))) Via.refl e470 (gt_d_blocks w468) (g := (mkF m 40 #[rv d, iv q1, iv q2, .val (.int z464.1), nu, nu, nu] [.ref d, .int 2, (.int (((2 : Int32) * q2) + (1 : Int32))), (.ref (ps 11)), .ref d])) rfl rfl (hb hby d21_40)
 have k_473 : Go p.tables e below B0 (sf T472 m 43 #[rv d, iv q1, iv q2, .val (.int z464.1), nu, nu, nu] [.ref b, .int 2, (.int (((2 : Int32) * q2) + (1 : Int32))), (.ref (ps 11)), .ref d]) := fun t q => by
  refine k_471 t ?_
  refine st472 _ ?_
  show Steps _ _ _ (sf T472 m 43 #[rv d, iv q1, iv q2, .val (.int z464.1), nu, nu, nu] [.ref b, .int 2, (.int (((2 : Int32) * q2) + (1 : Int32))), (.ref (ps 11)), .ref d]) _
  exact q
 obtain ⟨z474, c474, hf474⟩ := Option.bind_eq_some_iff.mp hf467
 obtain ⟨cq475, kq475, q475a, q475b, q475c⟩ := isOf hZ e472 (w468.2.1.2.1)
 obtain ⟨_, _, ⟨T475, L475, k475, n475⟩, -, X475, ⟨Lc475, hQ475, l475, y475, z475⟩, st475⟩ := X472.virtualBack hx (y := y_2) (z := y_2) hown (mvT hZ (hw _ (wd 62 rfl))) (mvT hZ (hw _ (wd 63 rfl))) (notFace_of_selects (args := #[]) (mvT hZ (hw _ (wd 65 rfl)))) (mvT hZ (hw _ (wd 65 rfl))) (mvT hZ (hw _ (wd 64 rfl))) (by decide) (backOf (W := 4) (fCount_ok l Z a0 hw [] b d ps z467.2  T468.heap n0 w468 z474 c474) hZ (hw _ (wd 66 rfl)) (hw _ (wd 3 rfl)) (by decide) (by decide)) q475a q475c (g := (mkF m 43 #[rv d, iv q1, iv q2, .val (.int z464.1), nu, nu, nu] [.ref b, .int 2, (.int (((2 : Int32) * q2) + (1 : Int32))), (.ref (ps 11)), .ref d])) rfl (by rw [hml]; rfl) (Steps.refl _) (argsL := []) (rest := [.int 2, (.int (((2 : Int32) * q2) + (1 : Int32))), (.ref (ps 11)), .ref d]) (lenOf pd_5 rfl) rfl (by show 2 * 0 + _ ≤ _; exact Nat.le_of_eq rfl) (hb hby d21_43) (fun _ _ => ⟨rfl, e472, (by decide : 0 + 0 ≤ _), (by decide : 0 + 0 ≤ _)⟩)
 dsimp only [Pt.U, Pt.locs, Pt.cells, Pt.slots] at X475 l475 y475 z475 st475 hQ475
 subst l475 y475 z475
 obtain ⟨rfl, N475q, w475⟩ := hQ475
 have N475 := Fr.app N468 N475q
 have k_476 : Go p.tables e below B0 (sf T475 m 47 #[rv d, iv q1, iv q2, .val (.int z464.1), nu, nu, nu] [(.int ((2 : Int32) * z474.1)), (.int (((2 : Int32) * q2) + (1 : Int32))), (.ref (ps 11)), .ref d]) := fun t q => by
  refine k_473 t ?_
  refine st475.trans ?_
  show Steps _ _ _ (sf T475 m 46 #[rv d, iv q1, iv q2, .val (.int z464.1), nu, nu, nu] [(.int z474.1), .int 2, (.int (((2 : Int32) * q2) + (1 : Int32))), (.ref (ps 11)), .ref d]) _
  refine s_imul X475.here hx (hb hby d21_46) ?_
  exact q
 obtain ⟨u477, c477, hf477⟩ := Option.bind_eq_some_iff.mp hf474
 obtain ⟨cl477, Ar477, ln477⟩ := w475.len (i := 11) (by decide)
 obtain ⟨_, _, ⟨T478, L478, k478, n478⟩, -, X478, ⟨Lc478, hQ478, l478, y478, z478⟩, st478⟩ := Jvm.LawKit.callS X475 hx (y := y_14) hown (mvT hZ (hw _ (wd 156 rfl))) (mvT hZ (hw _ (wd 136 rfl))) (mvT hZ (hw _ (wd 3 rfl))) (mvT hZ (hw _ (wd 137 rfl))) (by decide) (backOf (W := 1) (wroom l Z a0 hw [] (ps 11) (((2 : Int32) * q2) + (1 : Int32)) ((2 : Int32) * z474.1) cl477 T475.heap n0 Ar477 (by rw [ln477]; exact guardI_spec c477)) hZ (hw _ (wd 137 rfl)) (hw _ (wd 3 rfl)) (by decide) (by decide)) (g := (mkF m 47 #[rv d, iv q1, iv q2, .val (.int z464.1), nu, nu, nu] [(.int ((2 : Int32) * z474.1)), (.int (((2 : Int32) * q2) + (1 : Int32))), (.ref (ps 11)), .ref d])) rfl (by rw [hml]; rfl) (argsL := [(.ref (ps 11)), (.int (((2 : Int32) * q2) + (1 : Int32))), (.int ((2 : Int32) * z474.1))]) (rest := [.ref d]) (lenOf pd_6 rfl) rfl (by show 2 * 0 + _ ≤ _; exact Nat.le_of_eq rfl) (hb hby d21_47) (fun _ _ => ⟨rfl, (rfl : T475.heap = _), (by decide : 0 + 0 ≤ _), (by decide : 0 + 0 ≤ _)⟩)
 dsimp only [Pt.U, Pt.locs, Pt.cells, Pt.slots] at X478 l478 y478 z478 st478 hQ478
 subst l478 y478 z478
 obtain ⟨rfl, N478q, e478⟩ := hQ478
 have N478 := Fr.app N475 N478q
 have k_479 : Go p.tables e below B0 (sf T478 m 50 #[rv d, iv q1, iv q2, .val (.int z464.1), nu, nu, nu] [(.ref (ps 11)), .ref d]) := fun t q => by
  refine k_476 t ?_
  refine st478 _ ?_
  show Steps _ _ _ (sf T478 m 50 #[rv d, iv q1, iv q2, .val (.int z464.1), nu, nu, nu] [(.ref (ps 11)), .ref d]) _
  exact q
 obtain ⟨T480, h480, X480, e480, W480, st480⟩ := putF X478 hx hZ hown (host := "") (Or.inl (hw _ (wd 77 rfl))) Via.refl e478 (gt_d_first w475) (w475.2.1.2.2.1) (Or.inl (hw _ (wd 78 rfl))) (hw _ (wd 56 rfl)) (ty := (.array .int)) (by decide) rfl rfl (g := (mkF m 50 #[rv d, iv q1, iv q2, .val (.int z464.1), nu, nu, nu] [(.ref (ps 11)), .ref d])) rfl rfl (hb hby d21_50)
 have N480 := Fr.snoc X480 N478 w475.2.2.2.1
 have w480 := pt_d_first hw w475 W480
 have k_481 : Go p.tables e below B0 (sf T480 m 55 #[rv d, iv q1, iv q2, .val (.int z464.1), nu, nu, nu] [.ref d, .ref d]) := fun t q => by
  refine k_479 t ?_
  refine st480 _ ?_
  show Steps _ _ _ (sf T480 m 53 #[rv d, iv q1, iv q2, .val (.int z464.1), nu, nu, nu] []) _
  refine s_aloadN X480.here hx (hb hby d21_53) rfl rfl ?_
  refine s_aloadN X480.here hx (hb hby d21_54) rfl rfl ?_
  exact q
 obtain ⟨T482, X482, e482, st482⟩ := getF X480 hx hZ hown (host := "") (Or.inl (hw _ (wd 79 rfl))) Via.refl e480 (gt_d_firstCount w480) (g := (mkF m 55 #[rv d, iv q1, iv q2, .val (.int z464.1), nu, nu, nu] [.ref d, .ref d])) rfl rfl (hb hby d21_55)
 have k_483 : Go p.tables e below B0 (sf T482 m 60 #[rv d, iv q1, iv q2, .val (.int z464.1), nu, nu, nu] [.ref d, .int q2, (.ref (ps 12)), .ref d]) := fun t q => by
  refine k_481 t ?_
  refine st482 _ ?_
  show Steps _ _ _ (sf T482 m 58 #[rv d, iv q1, iv q2, .val (.int z464.1), nu, nu, nu] [(.ref (ps 12)), .ref d]) _
  refine s_iloadN X482.here hx (hb hby d21_58) rfl ?_
  refine s_aloadN X482.here hx (hb hby d21_59) rfl rfl ?_
  exact q
 obtain ⟨T484, X484, e484, st484⟩ := getF X482 hx hZ hown (host := "") (Or.inl (hw _ (wd 69 rfl))) Via.refl e482 (gt_d_blocks w480) (g := (mkF m 60 #[rv d, iv q1, iv q2, .val (.int z464.1), nu, nu, nu] [.ref d, .int q2, (.ref (ps 12)), .ref d])) rfl rfl (hb hby d21_60)
 have k_485 : Go p.tables e below B0 (sf T484 m 63 #[rv d, iv q1, iv q2, .val (.int z464.1), nu, nu, nu] [.ref b, .int q2, (.ref (ps 12)), .ref d]) := fun t q => by
  refine k_483 t ?_
  refine st484 _ ?_
  show Steps _ _ _ (sf T484 m 63 #[rv d, iv q1, iv q2, .val (.int z464.1), nu, nu, nu] [.ref b, .int q2, (.ref (ps 12)), .ref d]) _
  exact q
 obtain ⟨z486, c486, hf486⟩ := Option.bind_eq_some_iff.mp hf477
 obtain ⟨cq487, kq487, q487a, q487b, q487c⟩ := isOf hZ e484 (w480.2.1.2.1)
 obtain ⟨_, _, ⟨T487, L487, k487, n487⟩, -, X487, ⟨Lc487, hQ487, l487, y487, z487⟩, st487⟩ := X484.virtualBack hx (y := y_2) (z := y_2) hown (mvT hZ (hw _ (wd 62 rfl))) (mvT hZ (hw _ (wd 63 rfl))) (notFace_of_selects (args := #[]) (mvT hZ (hw _ (wd 65 rfl)))) (mvT hZ (hw _ (wd 65 rfl))) (mvT hZ (hw _ (wd 64 rfl))) (by decide) (backOf (W := 3) (fCount_ok l Z a0 hw [] b d ps z474.2  h480 n0 w480 z486 c486) hZ (hw _ (wd 66 rfl)) (hw _ (wd 3 rfl)) (by decide) (by decide)) q487a q487c (g := (mkF m 63 #[rv d, iv q1, iv q2, .val (.int z464.1), nu, nu, nu] [.ref b, .int q2, (.ref (ps 12)), .ref d])) rfl (by rw [hml]; rfl) (Steps.refl _) (argsL := []) (rest := [.int q2, (.ref (ps 12)), .ref d]) (lenOf pd_5 rfl) rfl (by show 2 * 0 + _ ≤ _; exact Nat.le_of_eq rfl) (hb hby d21_63) (fun _ _ => ⟨rfl, e484, (by decide : 0 + 0 ≤ _), (by decide : 0 + 0 ≤ _)⟩)
 dsimp only [Pt.U, Pt.locs, Pt.cells, Pt.slots] at X487 l487 y487 z487 st487 hQ487
 subst l487 y487 z487
 obtain ⟨rfl, N487q, w487⟩ := hQ487
 have N487 := Fr.app N480 N487q
 have k_488 : Go p.tables e below B0 (sf T487 m 66 #[rv d, iv q1, iv q2, .val (.int z464.1), nu, nu, nu] [(.int z486.1), .int q2, (.ref (ps 12)), .ref d]) := fun t q => by
  refine k_485 t ?_
  refine st487.trans ?_
  show Steps _ _ _ (sf T487 m 66 #[rv d, iv q1, iv q2, .val (.int z464.1), nu, nu, nu] [(.int z486.1), .int q2, (.ref (ps 12)), .ref d]) _
  exact q
 obtain ⟨u489, c489, hf489⟩ := Option.bind_eq_some_iff.mp hf486
 obtain ⟨cl489, Ar489, ln489⟩ := w487.len (i := 12) (by decide)
 obtain ⟨_, _, ⟨T490, L490, k490, n490⟩, -, X490, ⟨Lc490, hQ490, l490, y490, z490⟩, st490⟩ := Jvm.LawKit.callS X487 hx (y := y_14) hown (mvT hZ (hw _ (wd 156 rfl))) (mvT hZ (hw _ (wd 136 rfl))) (mvT hZ (hw _ (wd 3 rfl))) (mvT hZ (hw _ (wd 137 rfl))) (by decide) (backOf (W := 1) (wroom l Z a0 hw [] (ps 12) q2 z486.1 cl489 T487.heap n0 Ar489 (by rw [ln489]; exact guardI_spec c489)) hZ (hw _ (wd 137 rfl)) (hw _ (wd 3 rfl)) (by decide) (by decide)) (g := (mkF m 66 #[rv d, iv q1, iv q2, .val (.int z464.1), nu, nu, nu] [(.int z486.1), .int q2, (.ref (ps 12)), .ref d])) rfl (by rw [hml]; rfl) (argsL := [(.ref (ps 12)), .int q2, (.int z486.1)]) (rest := [.ref d]) (lenOf pd_6 rfl) rfl (by show 2 * 0 + _ ≤ _; exact Nat.le_of_eq rfl) (hb hby d21_66) (fun _ _ => ⟨rfl, (rfl : T487.heap = _), (by decide : 0 + 0 ≤ _), (by decide : 0 + 0 ≤ _)⟩)
 dsimp only [Pt.U, Pt.locs, Pt.cells, Pt.slots] at X490 l490 y490 z490 st490 hQ490
 subst l490 y490 z490
 obtain ⟨rfl, N490q, e490⟩ := hQ490
 have N490 := Fr.app N487 N490q
 have k_491 : Go p.tables e below B0 (sf T490 m 69 #[rv d, iv q1, iv q2, .val (.int z464.1), nu, nu, nu] [(.ref (ps 12)), .ref d]) := fun t q => by
  refine k_488 t ?_
  refine st490 _ ?_
  show Steps _ _ _ (sf T490 m 69 #[rv d, iv q1, iv q2, .val (.int z464.1), nu, nu, nu] [(.ref (ps 12)), .ref d]) _
  exact q
 obtain ⟨T492, h492, X492, e492, W492, st492⟩ := putF X490 hx hZ hown (host := "") (Or.inl (hw _ (wd 79 rfl))) Via.refl e490 (gt_d_firstCount w487) (w487.2.1.2.2.1) (Or.inl (hw _ (wd 80 rfl))) (hw _ (wd 56 rfl)) (ty := (.array .int)) (by decide) rfl rfl (g := (mkF m 69 #[rv d, iv q1, iv q2, .val (.int z464.1), nu, nu, nu] [(.ref (ps 12)), .ref d])) rfl rfl (hb hby d21_69)
 have N492 := Fr.snoc X492 N490 w487.2.2.2.1
 have w492 := pt_d_firstCount hw w487 W492
 have k_493 : Go p.tables e below B0 (sf T492 m 74 #[rv d, iv q1, iv q2, .val (.int z464.1), nu, nu, nu] [.ref d, .ref d]) := fun t q => by
  refine k_491 t ?_
  refine st492 _ ?_
  show Steps _ _ _ (sf T492 m 72 #[rv d, iv q1, iv q2, .val (.int z464.1), nu, nu, nu] []) _
  refine s_aloadN X492.here hx (hb hby d21_72) rfl rfl ?_
  refine s_aloadN X492.here hx (hb hby d21_73) rfl rfl ?_
  exact q
 obtain ⟨T494, X494, e494, st494⟩ := getF X492 hx hZ hown (host := "") (Or.inl (hw _ (wd 83 rfl))) Via.refl e492 (gt_d_nextInBucket w492) (g := (mkF m 74 #[rv d, iv q1, iv q2, .val (.int z464.1), nu, nu, nu] [.ref d, .ref d])) rfl rfl (hb hby d21_74)
 have k_495 : Go p.tables e below B0 (sf T494 m 79 #[rv d, iv q1, iv q2, .val (.int z464.1), nu, nu, nu] [.ref d, .int q2, (.ref (ps 14)), .ref d]) := fun t q => by
  refine k_493 t ?_
  refine st494 _ ?_
  show Steps _ _ _ (sf T494 m 77 #[rv d, iv q1, iv q2, .val (.int z464.1), nu, nu, nu] [(.ref (ps 14)), .ref d]) _
  refine s_iloadN X494.here hx (hb hby d21_77) rfl ?_
  refine s_aloadN X494.here hx (hb hby d21_78) rfl rfl ?_
  exact q
 obtain ⟨T496, X496, e496, st496⟩ := getF X494 hx hZ hown (host := "") (Or.inl (hw _ (wd 69 rfl))) Via.refl e494 (gt_d_blocks w492) (g := (mkF m 79 #[rv d, iv q1, iv q2, .val (.int z464.1), nu, nu, nu] [.ref d, .int q2, (.ref (ps 14)), .ref d])) rfl rfl (hb hby d21_79)
 have k_497 : Go p.tables e below B0 (sf T496 m 82 #[rv d, iv q1, iv q2, .val (.int z464.1), nu, nu, nu] [.ref b, .int q2, (.ref (ps 14)), .ref d]) := fun t q => by
  refine k_495 t ?_
  refine st496 _ ?_
  show Steps _ _ _ (sf T496 m 82 #[rv d, iv q1, iv q2, .val (.int z464.1), nu, nu, nu] [.ref b, .int q2, (.ref (ps 14)), .ref d]) _
  exact q
 obtain ⟨z498, c498, hf498⟩ := Option.bind_eq_some_iff.mp hf489
 obtain ⟨cq499, kq499, q499a, q499b, q499c⟩ := isOf hZ e496 (w492.2.1.2.1)
 obtain ⟨_, _, ⟨T499, L499, k499, n499⟩, -, X499, ⟨Lc499, hQ499, l499, y499, z499⟩, st499⟩ := X496.virtualBack hx (y := y_2) (z := y_2) hown (mvT hZ (hw _ (wd 62 rfl))) (mvT hZ (hw _ (wd 63 rfl))) (notFace_of_selects (args := #[]) (mvT hZ (hw _ (wd 65 rfl)))) (mvT hZ (hw _ (wd 65 rfl))) (mvT hZ (hw _ (wd 64 rfl))) (by decide) (backOf (W := 3) (fCount_ok l Z a0 hw [] b d ps z486.2  h492 n0 w492 z498 c498) hZ (hw _ (wd 66 rfl)) (hw _ (wd 3 rfl)) (by decide) (by decide)) q499a q499c (g := (mkF m 82 #[rv d, iv q1, iv q2, .val (.int z464.1), nu, nu, nu] [.ref b, .int q2, (.ref (ps 14)), .ref d])) rfl (by rw [hml]; rfl) (Steps.refl _) (argsL := []) (rest := [.int q2, (.ref (ps 14)), .ref d]) (lenOf pd_5 rfl) rfl (by show 2 * 0 + _ ≤ _; exact Nat.le_of_eq rfl) (hb hby d21_82) (fun _ _ => ⟨rfl, e496, (by decide : 0 + 0 ≤ _), (by decide : 0 + 0 ≤ _)⟩)
 dsimp only [Pt.U, Pt.locs, Pt.cells, Pt.slots] at X499 l499 y499 z499 st499 hQ499
 subst l499 y499 z499
 obtain ⟨rfl, N499q, w499⟩ := hQ499
 have N499 := Fr.app N492 N499q
 have k_500 : Go p.tables e below B0 (sf T499 m 85 #[rv d, iv q1, iv q2, .val (.int z464.1), nu, nu, nu] [(.int z498.1), .int q2, (.ref (ps 14)), .ref d]) := fun t q => by
  refine k_497 t ?_
  refine st499.trans ?_
  show Steps _ _ _ (sf T499 m 85 #[rv d, iv q1, iv q2, .val (.int z464.1), nu, nu, nu] [(.int z498.1), .int q2, (.ref (ps 14)), .ref d]) _
  exact q
 obtain ⟨u501, c501, hf501⟩ := Option.bind_eq_some_iff.mp hf498
 obtain ⟨cl501, Ar501, ln501⟩ := w499.len (i := 14) (by decide)
 obtain ⟨_, _, ⟨T502, L502, k502, n502⟩, -, X502, ⟨Lc502, hQ502, l502, y502, z502⟩, st502⟩ := Jvm.LawKit.callS X499 hx (y := y_14) hown (mvT hZ (hw _ (wd 156 rfl))) (mvT hZ (hw _ (wd 136 rfl))) (mvT hZ (hw _ (wd 3 rfl))) (mvT hZ (hw _ (wd 137 rfl))) (by decide) (backOf (W := 1) (wroom l Z a0 hw [] (ps 14) q2 z498.1 cl501 T499.heap n0 Ar501 (by rw [ln501]; exact guardI_spec c501)) hZ (hw _ (wd 137 rfl)) (hw _ (wd 3 rfl)) (by decide) (by decide)) (g := (mkF m 85 #[rv d, iv q1, iv q2, .val (.int z464.1), nu, nu, nu] [(.int z498.1), .int q2, (.ref (ps 14)), .ref d])) rfl (by rw [hml]; rfl) (argsL := [(.ref (ps 14)), .int q2, (.int z498.1)]) (rest := [.ref d]) (lenOf pd_6 rfl) rfl (by show 2 * 0 + _ ≤ _; exact Nat.le_of_eq rfl) (hb hby d21_85) (fun _ _ => ⟨rfl, (rfl : T499.heap = _), (by decide : 0 + 0 ≤ _), (by decide : 0 + 0 ≤ _)⟩)
 dsimp only [Pt.U, Pt.locs, Pt.cells, Pt.slots] at X502 l502 y502 z502 st502 hQ502
 subst l502 y502 z502
 obtain ⟨rfl, N502q, e502⟩ := hQ502
 have N502 := Fr.app N499 N502q
 have k_503 : Go p.tables e below B0 (sf T502 m 88 #[rv d, iv q1, iv q2, .val (.int z464.1), nu, nu, nu] [(.ref (ps 14)), .ref d]) := fun t q => by
  refine k_500 t ?_
  refine st502 _ ?_
  show Steps _ _ _ (sf T502 m 88 #[rv d, iv q1, iv q2, .val (.int z464.1), nu, nu, nu] [(.ref (ps 14)), .ref d]) _
  exact q
 obtain ⟨T504, h504, X504, e504, W504, st504⟩ := putF X502 hx hZ hown (host := "") (Or.inl (hw _ (wd 83 rfl))) Via.refl e502 (gt_d_nextInBucket w499) (w499.2.1.2.2.1) (Or.inl (hw _ (wd 84 rfl))) (hw _ (wd 56 rfl)) (ty := (.array .int)) (by decide) rfl rfl (g := (mkF m 88 #[rv d, iv q1, iv q2, .val (.int z464.1), nu, nu, nu] [(.ref (ps 14)), .ref d])) rfl rfl (hb hby d21_88)
 have N504 := Fr.snoc X504 N502 w499.2.2.2.1
 have w504 := pt_d_nextInBucket hw w499 W504
 have k_505 : Go p.tables e below B0 (sf T504 m 93 #[rv d, iv q1, iv q2, .val (.int z464.1), nu, nu, nu] [.ref d, .ref d]) := fun t q => by
  refine k_503 t ?_
  refine st504 _ ?_
  show Steps _ _ _ (sf T504 m 91 #[rv d, iv q1, iv q2, .val (.int z464.1), nu, nu, nu] []) _
  refine s_aloadN X504.here hx (hb hby d21_91) rfl rfl ?_
  refine s_aloadN X504.here hx (hb hby d21_92) rfl rfl ?_
  exact q
 obtain ⟨T506, X506, e506, st506⟩ := getF X504 hx hZ hown (host := "") (Or.inl (hw _ (wd 85 rfl))) Via.refl e504 (gt_d_previousInBucket w504) (g := (mkF m 93 #[rv d, iv q1, iv q2, .val (.int z464.1), nu, nu, nu] [.ref d, .ref d])) rfl rfl (hb hby d21_93)
 have k_507 : Go p.tables e below B0 (sf T506 m 98 #[rv d, iv q1, iv q2, .val (.int z464.1), nu, nu, nu] [.ref d, .int q2, (.ref (ps 15)), .ref d]) := fun t q => by
  refine k_505 t ?_
  refine st506 _ ?_
  show Steps _ _ _ (sf T506 m 96 #[rv d, iv q1, iv q2, .val (.int z464.1), nu, nu, nu] [(.ref (ps 15)), .ref d]) _
  refine s_iloadN X506.here hx (hb hby d21_96) rfl ?_
  refine s_aloadN X506.here hx (hb hby d21_97) rfl rfl ?_
  exact q
 obtain ⟨T508, X508, e508, st508⟩ := getF X506 hx hZ hown (host := "") (Or.inl (hw _ (wd 69 rfl))) Via.refl e506 (gt_d_blocks w504) (g := (mkF m 98 #[rv d, iv q1, iv q2, .val (.int z464.1), nu, nu, nu] [.ref d, .int q2, (.ref (ps 15)), .ref d])) rfl rfl (hb hby d21_98)
 have k_509 : Go p.tables e below B0 (sf T508 m 101 #[rv d, iv q1, iv q2, .val (.int z464.1), nu, nu, nu] [.ref b, .int q2, (.ref (ps 15)), .ref d]) := fun t q => by
  refine k_507 t ?_
  refine st508 _ ?_
  show Steps _ _ _ (sf T508 m 101 #[rv d, iv q1, iv q2, .val (.int z464.1), nu, nu, nu] [.ref b, .int q2, (.ref (ps 15)), .ref d]) _
  exact q
 obtain ⟨z510, c510, hf510⟩ := Option.bind_eq_some_iff.mp hf501
 obtain ⟨cq511, kq511, q511a, q511b, q511c⟩ := isOf hZ e508 (w504.2.1.2.1)
 obtain ⟨_, _, ⟨T511, L511, k511, n511⟩, -, X511, ⟨Lc511, hQ511, l511, y511, z511⟩, st511⟩ := X508.virtualBack hx (y := y_2) (z := y_2) hown (mvT hZ (hw _ (wd 62 rfl))) (mvT hZ (hw _ (wd 63 rfl))) (notFace_of_selects (args := #[]) (mvT hZ (hw _ (wd 65 rfl)))) (mvT hZ (hw _ (wd 65 rfl))) (mvT hZ (hw _ (wd 64 rfl))) (by decide) (backOf (W := 3) (fCount_ok l Z a0 hw [] b d ps z498.2  h504 n0 w504 z510 c510) hZ (hw _ (wd 66 rfl)) (hw _ (wd 3 rfl)) (by decide) (by decide)) q511a q511c (g := (mkF m 101 #[rv d, iv q1, iv q2, .val (.int z464.1), nu, nu, nu] [.ref b, .int q2, (.ref (ps 15)), .ref d])) rfl (by rw [hml]; rfl) (Steps.refl _) (argsL := []) (rest := [.int q2, (.ref (ps 15)), .ref d]) (lenOf pd_5 rfl) rfl (by show 2 * 0 + _ ≤ _; exact Nat.le_of_eq rfl) (hb hby d21_101) (fun _ _ => ⟨rfl, e508, (by decide : 0 + 0 ≤ _), (by decide : 0 + 0 ≤ _)⟩)
 dsimp only [Pt.U, Pt.locs, Pt.cells, Pt.slots] at X511 l511 y511 z511 st511 hQ511
 subst l511 y511 z511
 obtain ⟨rfl, N511q, w511⟩ := hQ511
 have N511 := Fr.app N504 N511q
 have k_512 : Go p.tables e below B0 (sf T511 m 104 #[rv d, iv q1, iv q2, .val (.int z464.1), nu, nu, nu] [(.int z510.1), .int q2, (.ref (ps 15)), .ref d]) := fun t q => by
  refine k_509 t ?_
  refine st511.trans ?_
  show Steps _ _ _ (sf T511 m 104 #[rv d, iv q1, iv q2, .val (.int z464.1), nu, nu, nu] [(.int z510.1), .int q2, (.ref (ps 15)), .ref d]) _
  exact q
 obtain ⟨u513, c513, hf513⟩ := Option.bind_eq_some_iff.mp hf510
 obtain ⟨cl513, Ar513, ln513⟩ := w511.len (i := 15) (by decide)
 obtain ⟨_, _, ⟨T514, L514, k514, n514⟩, -, X514, ⟨Lc514, hQ514, l514, y514, z514⟩, st514⟩ := Jvm.LawKit.callS X511 hx (y := y_14) hown (mvT hZ (hw _ (wd 156 rfl))) (mvT hZ (hw _ (wd 136 rfl))) (mvT hZ (hw _ (wd 3 rfl))) (mvT hZ (hw _ (wd 137 rfl))) (by decide) (backOf (W := 1) (wroom l Z a0 hw [] (ps 15) q2 z510.1 cl513 T511.heap n0 Ar513 (by rw [ln513]; exact guardI_spec c513)) hZ (hw _ (wd 137 rfl)) (hw _ (wd 3 rfl)) (by decide) (by decide)) (g := (mkF m 104 #[rv d, iv q1, iv q2, .val (.int z464.1), nu, nu, nu] [(.int z510.1), .int q2, (.ref (ps 15)), .ref d])) rfl (by rw [hml]; rfl) (argsL := [(.ref (ps 15)), .int q2, (.int z510.1)]) (rest := [.ref d]) (lenOf pd_6 rfl) rfl (by show 2 * 0 + _ ≤ _; exact Nat.le_of_eq rfl) (hb hby d21_104) (fun _ _ => ⟨rfl, (rfl : T511.heap = _), (by decide : 0 + 0 ≤ _), (by decide : 0 + 0 ≤ _)⟩)
 dsimp only [Pt.U, Pt.locs, Pt.cells, Pt.slots] at X514 l514 y514 z514 st514 hQ514
 subst l514 y514 z514
 obtain ⟨rfl, N514q, e514⟩ := hQ514
 have N514 := Fr.app N511 N514q
 have k_515 : Go p.tables e below B0 (sf T514 m 107 #[rv d, iv q1, iv q2, .val (.int z464.1), nu, nu, nu] [(.ref (ps 15)), .ref d]) := fun t q => by
  refine k_512 t ?_
  refine st514 _ ?_
  show Steps _ _ _ (sf T514 m 107 #[rv d, iv q1, iv q2, .val (.int z464.1), nu, nu, nu] [(.ref (ps 15)), .ref d]) _
  exact q
 obtain ⟨T516, h516, X516, e516, W516, st516⟩ := putF X514 hx hZ hown (host := "") (Or.inl (hw _ (wd 85 rfl))) Via.refl e514 (gt_d_previousInBucket w511) (w511.2.1.2.2.1) (Or.inl (hw _ (wd 86 rfl))) (hw _ (wd 56 rfl)) (ty := (.array .int)) (by decide) rfl rfl (g := (mkF m 107 #[rv d, iv q1, iv q2, .val (.int z464.1), nu, nu, nu] [(.ref (ps 15)), .ref d])) rfl rfl (hb hby d21_107)
 have N516 := Fr.snoc X516 N514 w511.2.2.2.1
 have w516 := pt_d_previousInBucket hw w511 W516
 have k_517 : Go p.tables e below B0 (sf T516 m 111 #[rv d, iv q1, iv q2, .val (.int z464.1), nu, nu, nu] [.ref d]) := fun t q => by
  refine k_515 t ?_
  refine st516 _ ?_
  show Steps _ _ _ (sf T516 m 110 #[rv d, iv q1, iv q2, .val (.int z464.1), nu, nu, nu] []) _
  refine s_aloadN X516.here hx (hb hby d21_110) rfl rfl ?_
  exact q
 obtain ⟨T518, X518, e518, st518⟩ := getF X516 hx hZ hown (host := "") (Or.inl (hw _ (wd 77 rfl))) Via.refl e516 (gt_d_first w516) (g := (mkF m 111 #[rv d, iv q1, iv q2, .val (.int z464.1), nu, nu, nu] [.ref d])) rfl rfl (hb hby d21_111)
 have k_519 : Go p.tables e below B0 (sf T518 m 118 #[rv d, iv q1, iv q2, .val (.int z464.1), nu, nu, nu] [(.int (-1 : Int32)), (.int ((2 : Int32) * q2)), (.ref (ps 11))]) := fun t q => by
  refine k_517 t ?_
  refine st518 _ ?_
  show Steps _ _ _ (sf T518 m 114 #[rv d, iv q1, iv q2, .val (.int z464.1), nu, nu, nu] [(.ref (ps 11))]) _
  refine s_iconst (x := 2) X518.here hx (hb hby d21_114) rfl ?_
  refine s_iloadN X518.here hx (hb hby d21_115) rfl ?_
  refine s_imul X518.here hx (hb hby d21_116) ?_
  refine s_iconst (x := -1) X518.here hx (hb hby d21_117) rfl ?_
  exact q
 obtain ⟨σ520, c520, hf520⟩ := Option.bind_eq_some_iff.mp hf513
 obtain ⟨cl520, Ar520, hin520, gp520, nx520⟩ := w516.wr hw c520
 obtain ⟨T521, h521, X521, e521, W521, st521⟩ := stI X518 hx hZ e518 Ar520 (j := ((2 : Int32) * q2)) hin520 (g := (mkF m 118 #[rv d, iv q1, iv q2, .val (.int z464.1), nu, nu, nu] [(.int (-1 : Int32)), (.int ((2 : Int32) * q2)), (.ref (ps 11))])) rfl rfl (hb hby d21_118)
 have w521 := nx520 _ W521
 have N521 := Fr.snoc X521 N516 gp520
 have k_522 : Go p.tables e below B0 (sf T521 m 120 #[rv d, iv q1, iv q2, .val (.int z464.1), nu, nu, nu] [.ref d]) := fun t q => by
  refine k_519 t ?_
  refine st521 _ ?_
  show Steps _ _ _ (sf T521 m 119 #[rv d, iv q1, iv q2, .val (.int z464.1), nu, nu, nu] []) _
  refine s_aloadN X521.here hx (hb hby d21_119) rfl rfl ?_
  exact q
 obtain ⟨T523, X523, e523, st523⟩ := getF X521 hx hZ hown (host := "") (Or.inl (hw _ (wd 77 rfl))) Via.refl e521 (gt_d_first w521) (g := (mkF m 120 #[rv d, iv q1, iv q2, .val (.int z464.1), nu, nu, nu] [.ref d])) rfl rfl (hb hby d21_120)
 have k_524 : Go p.tables e below B0 (sf T523 m 129 #[rv d, iv q1, iv q2, .val (.int z464.1), nu, nu, nu] [(.int (-1 : Int32)), (.int (((2 : Int32) * q2) + (1 : Int32))), (.ref (ps 11))]) := fun t q => by
  refine k_522 t ?_
  refine st523 _ ?_
  show Steps _ _ _ (sf T523 m 123 #[rv d, iv q1, iv q2, .val (.int z464.1), nu, nu, nu] [(.ref (ps 11))]) _
  refine s_iconst (x := 2) X523.here hx (hb hby d21_123) rfl ?_
  refine s_iloadN X523.here hx (hb hby d21_124) rfl ?_
  refine s_imul X523.here hx (hb hby d21_125) ?_
  refine s_iconst (x := 1) X523.here hx (hb hby d21_126) rfl ?_
  refine s_iadd X523.here hx (hb hby d21_127) ?_
  refine s_iconst (x := -1) X523.here hx (hb hby d21_128) rfl ?_
  exact q
 obtain ⟨σ525, c525, hf525⟩ := Option.bind_eq_some_iff.mp hf520
 obtain ⟨cl525, Ar525, hin525, gp525, nx525⟩ := w521.wr hw c525
 obtain ⟨T526, h526, X526, e526, W526, st526⟩ := stI X523 hx hZ e523 Ar525 (j := (((2 : Int32) * q2) + (1 : Int32))) hin525 (g := (mkF m 129 #[rv d, iv q1, iv q2, .val (.int z464.1), nu, nu, nu] [(.int (-1 : Int32)), (.int (((2 : Int32) * q2) + (1 : Int32))), (.ref (ps 11))])) rfl rfl (hb hby d21_129)
 have w526 := nx525 _ W526
 have N526 := Fr.snoc X526 N521 gp525
 have k_527 : Go p.tables e below B0 (sf T526 m 134 #[rv d, iv q1, iv q2, .val (.int z464.1), iv 0, nu, nu] [.ref d]) := fun t q => by
  refine k_524 t ?_
  refine st526 _ ?_
  show Steps _ _ _ (sf T526 m 130 #[rv d, iv q1, iv q2, .val (.int z464.1), nu, nu, nu] []) _
  refine s_iconst (x := 0) X526.here hx (hb hby d21_130) rfl ?_
  refine s_istore X526.here hx (hb hby d21_131) (l' := #[rv d, iv q1, iv q2, .val (.int z464.1), iv 0, nu, nu]) rfl ?_
  refine s_aloadN X526.here hx (hb hby d21_133) rfl rfl ?_
  exact q
 obtain ⟨T528, X528, e528, st528⟩ := getF X526 hx hZ hown (host := "") (Or.inl (hw _ (wd 69 rfl))) Via.refl e526 (gt_d_blocks w526) (g := (mkF m 134 #[rv d, iv q1, iv q2, .val (.int z464.1), iv 0, nu, nu] [.ref d])) rfl rfl (hb hby d21_134)
 have k_529 : Go p.tables e below B0 (sf T528 m 138 #[rv d, iv q1, iv q2, .val (.int z464.1), iv 0, nu, nu] [.int q2, .ref b]) := fun t q => by
  refine k_527 t ?_
  refine st528 _ ?_
  show Steps _ _ _ (sf T528 m 137 #[rv d, iv q1, iv q2, .val (.int z464.1), iv 0, nu, nu] [.ref b]) _
  refine s_iloadN X528.here hx (hb hby d21_137) rfl ?_
  exact q
 obtain ⟨z530, c530, hf530⟩ := Option.bind_eq_some_iff.mp hf525
 obtain ⟨cq531, kq531, q531a, q531b, q531c⟩ := isOf hZ e528 (w526.2.1.2.1)
 obtain ⟨_, _, ⟨T531, L531, k531, n531⟩, -, X531, ⟨Lc531, hQ531, l531, y531, z531⟩, st531⟩ := X528.virtualBack hx (y := y_4) (z := y_4) hown (mvT hZ (hw _ (wd 157 rfl))) (mvT hZ (hw _ (wd 158 rfl))) (notFace_of_selects (args := #[]) (mvT hZ (hw _ (wd 160 rfl)))) (mvT hZ (hw _ (wd 160 rfl))) (mvT hZ (hw _ (wd 159 rfl))) (by decide) (backOf (W := 0) (fStart_ok l Z a0 hw [] b d ps σ525 q2 h526 n0 w526 z530 c530) hZ (hw _ (wd 161 rfl)) (hw _ (wd 3 rfl)) (by decide) (by decide)) q531a q531c (g := (mkF m 138 #[rv d, iv q1, iv q2, .val (.int z464.1), iv 0, nu, nu] [.int q2, .ref b])) rfl (by rw [hml]; rfl) (Steps.refl _) (argsL := [.int q2]) (rest := []) (lenOf pd_1 rfl) rfl (by show 2 * 0 + _ ≤ _; exact Nat.le_of_eq rfl) (hb hby d21_138) (fun _ _ => ⟨rfl, e528, (by decide : 0 + 0 ≤ _), (by decide : 0 + 0 ≤ _)⟩)
 dsimp only [Pt.U, Pt.locs, Pt.cells, Pt.slots] at X531 l531 y531 z531 st531 hQ531
 subst l531 y531 z531
 obtain ⟨rfl, N531q, w531⟩ := hQ531
 have N531 := Fr.app N526 N531q
 have k_532 : Go p.tables e below B0 (sf T531 m 143 #[rv d, iv q1, iv q2, .val (.int z464.1), iv 0, .val (.int z530.1), nu] []) := fun t q => by
  refine k_529 t ?_
  refine st531.trans ?_
  show Steps _ _ _ (sf T531 m 141 #[rv d, iv q1, iv q2, .val (.int z464.1), iv 0, nu, nu] [(.int z530.1)]) _
  refine s_istore X531.here hx (hb hby d21_141) (l' := #[rv d, iv q1, iv q2, .val (.int z464.1), iv 0, .val (.int z530.1), nu]) rfl ?_
  exact q
 exact lp143 20 z530.2 z464.1 (0 : Int32) z530.1 (nu) T531 _ X531 N531 w531 (Or.inl rfl) k_532 hf530
def fRejoin_L71 (q1 q2 : Int32) : Nat → St → Int32 → Option (Int32 × St)
 | 0, _, _ => none
 | n + 1, σl533, c3_533 => (fEnd σl533 q2).bind fun z537 => if c3_533 < z537.1 then ((fState z537.2 c3_533).bind fun z544 => (fLink z544.2 z544.1 q1).bind fun z547 => fRejoin_L71 q1 q2 n z547.2 (c3_533 + (1 : Int32))) else ((rdA z537.2 12 q1).bind fun w553 => (rdA z537.2 12 q2).bind fun w557 => (wrA z537.2 12 q1 (w553 + w557)).bind fun σ559 => (fSize σ559 q1).bind fun z566 => (fSize z566.2 q2).bind fun z571 => (fBal z571.2 q1 (z566.1 + z571.1)).bind fun z574 => (some (wrI z574.2 4 ((rdI σ559 4) + (if z574.1 = (0 : Int32) then (1 : Int32) else (0 : Int32))))).bind fun σ579 => (fEnter σ579 q1).bind fun z582 => some ((0 : Int32), z582.2))
def fRejoin (σ : St) (q1 q2 : Int32) : Option (Int32 × St) := (fSize σ q1).bind fun z590 => (fBal z590.2 q1 z590.1).bind fun z593 => (fSize z593.2 q2).bind fun z600 => (fBal z600.2 q2 z600.1).bind fun z603 => (some (wrI z603.2 4 ((rdI σ 4) - ((if z593.1 = (0 : Int32) then (1 : Int32) else (0 : Int32)) + (if z603.1 = (0 : Int32) then (1 : Int32) else (0 : Int32)))))).bind fun σ608 => (fLeave σ608 q1).bind fun z611 => (fLeave z611.2 q2).bind fun z614 => (fStart z614.2 q2).bind fun z619 => fRejoin_L71 q1 q2 20 z619.2 z619.1
set_option maxRecDepth 65536 in
set_option maxHeartbeats 40000000 in
theorem fRejoin_ok (l : Launch) (Z : State) (a0 : Array Value) (hw : ∀ d ∈ tables_1, d.before a0 Z = true) (ws : List Jvm.Cond) (b d : Addr) (ps : Nat → Addr) (σ : St) (q1 q2 : Int32) (h0 : Heap) (n0 : Nat) (W0 : Wd Z n0 h0 b d ps σ) (r : Int32 × St) (hf : fRejoin σ q1 q2 = some r) :
  MetFree l y_16 (head1 (Jvm.Cond.code y_16 prog_1_method_7_code 4 none :: ws) ({ frames := 2, cells := 0, slots := 0, locals := 29 } : Room)) (fun a U => a = #[.ref d, .int q1, .int q2] ∧ Z.Warmed39 U.vm ∧ U.heap = h0) (fun _ _ _ _ _ => True) (fun _ U o U' => ∃ v L, o = .returned v ∧ QW Z n0 b d ps r.2 none v U'.heap L ∧ FrameEnd U o U' L ({ frames := 2, cells := 0, slots := 0, locals := 29 } : Room).cells ({ frames := 2, cells := 0, slots := 0, locals := 29 } : Room).slots) := by
 refine MetFree.of_bodySF (plainFor_of_name pn_1) hisR ?_
 intro p e s m args below meth c s₁ Bd hml0 hP hK
 obtain ⟨rfl, hZ, hh⟩ := hP
 have hx := Bd.exec
 have hby := Bd.bytes
 have hml : c.maxLocals = 4 := hml0
 have hown : s.vm.findClass BSn = some m.cls := findClass_of_methodNamed Bd.named
 have hnm := (name_of_methodNamed Bd.named Bd.method).1
 have X0 : Stand p l e ({ frames := 2, cells := 0, slots := 0, locals := 29 } : Room) s m #[.ref d, .int q1, .int q2] below meth c s₁ [] 0 0 := Stand.of_body Bd
 have e0 : s₁.heap = h0 := by rw [← hh, Bd.state]; rfl
 have N0 := Fr.nil n0
 have K0 := Keep.refl h0 []
 have k0 : Go p.tables e below (s₁.setTop (entryFrame m #[.ref d, .int q1, .int q2] 4)) (sf s₁ m 0 #[rv d, iv q1, iv q2, nu] []) := fun t k => castTop (by first | (simp [entryFrame, mkF, argsToLocals, Value.category]; done)) k
 unfold fRejoin at hf
 generalize s₁.setTop (entryFrame m #[.ref d, .int q1, .int q2] 4) = B0 at k0 ⊢
 have lp71 : ∀ (n : Nat) (σl533 : St) (c3_533 : Int32)  (Tl533 : State) (Ll533 : List Loc), Stand p l e ({ frames := 2, cells := 0, slots := 0, locals := 29 } : Room) s m #[.ref d, .int q1, .int q2] below meth c Tl533 Ll533 0 0 → Fr n0 Ll533 → Wd Z n0 Tl533.heap b d ps σl533 → Go p.tables e below B0 (sf Tl533 m 71 #[rv d, iv q1, iv q2, iv c3_533] []) → fRejoin_L71 q1 q2 n σl533 c3_533 = some r → ∃ s₂ o, Steps p.tables e below B0 s₂ ∧ s₂.status = .running ∧ Ended s₂ below o ∧ (∃ v L, o = .returned v ∧ QW Z n0 b d ps r.2 none v s₂.heap L ∧ FrameEnd s o s₂ L ({ frames := 2, cells := 0, slots := 0, locals := 29 } : Room).cells ({ frames := 2, cells := 0, slots := 0, locals := 29 } : Room).slots) := by
  intro n
  induction n with
  | zero => intro σl533 c3_533  Tl533 Ll533 Xl533 Nl533 Wl533  kl533 hl533; cases hl533
  | succ n ih =>
   intro σl533 c3_533  Tl533 Ll533 Xl533 Nl533 Wl533  kl533 hl533
   rw [fRejoin_L71] at hl533
   have k_534 : Go p.tables e below B0 (sf Tl533 m 73 #[rv d, iv q1, iv q2, iv c3_533] [.ref d, .int c3_533]) := fun t q => by
    refine kl533 t ?_
    refine s_iloadN Xl533.here hx (hb hby d28_71) rfl ?_
    refine s_aloadN Xl533.here hx (hb hby d28_72) rfl rfl ?_
    exact q
   obtain ⟨T535, X535, e535, st535⟩ := getF Xl533 hx hZ hown (host := "") (Or.inl (hw _ (wd 69 rfl))) Via.refl (rfl : Tl533.heap = _) (gt_d_blocks Wl533) (g := (mkF m 73 #[rv d, iv q1, iv q2, iv c3_533] [.ref d, .int c3_533])) rfl rfl (hb hby d28_73)
   have k_536 : Go p.tables e below B0 (sf T535 m 77 #[rv d, iv q1, iv q2, iv c3_533] [.int q2, .ref b, .int c3_533]) := fun t q => by
    refine k_534 t ?_
    refine st535 _ ?_
    show Steps _ _ _ (sf T535 m 76 #[rv d, iv q1, iv q2, iv c3_533] [.ref b, .int c3_533]) _
    refine s_iloadN X535.here hx (hb hby d28_76) rfl ?_
    exact q
   obtain ⟨z537, c537, hf537⟩ := Option.bind_eq_some_iff.mp hl533
   obtain ⟨cq538, kq538, q538a, q538b, q538c⟩ := isOf hZ e535 (Wl533.2.1.2.1)
   obtain ⟨_, _, ⟨T538, L538, k538, n538⟩, -, X538, ⟨Lc538, hQ538, l538, y538, z538⟩, st538⟩ := X535.virtualBack hx (y := y_5) (z := y_5) hown (mvT hZ (hw _ (wd 162 rfl))) (mvT hZ (hw _ (wd 163 rfl))) (notFace_of_selects (args := #[]) (mvT hZ (hw _ (wd 165 rfl)))) (mvT hZ (hw _ (wd 165 rfl))) (mvT hZ (hw _ (wd 164 rfl))) (by decide) (backOf (W := 1) (fEnd_ok l Z a0 hw [] b d ps σl533 q2 Tl533.heap n0 Wl533 z537 c537) hZ (hw _ (wd 166 rfl)) (hw _ (wd 3 rfl)) (by decide) (by decide)) q538a q538c (g := (mkF m 77 #[rv d, iv q1, iv q2, iv c3_533] [.int q2, .ref b, .int c3_533])) rfl (by rw [hml]; rfl) (Steps.refl _) (argsL := [.int q2]) (rest := [.int c3_533]) (lenOf pd_1 rfl) rfl (by show 2 * 0 + _ ≤ _; exact Nat.le_of_eq rfl) (hb hby d28_77) (fun _ _ => ⟨rfl, e535, (by decide : 0 + 0 ≤ _), (by decide : 0 + 0 ≤ _)⟩)
   dsimp only [Pt.U, Pt.locs, Pt.cells, Pt.slots] at X538 l538 y538 z538 st538 hQ538
   subst l538 y538 z538
   obtain ⟨rfl, N538q, w538⟩ := hQ538
   have N538 := Fr.app Nl533 N538q
   have k_539 : Go p.tables e below B0 (sf T538 m 80 #[rv d, iv q1, iv q2, iv c3_533] [(.int z537.1), .int c3_533]) := fun t q => by
    refine k_536 t ?_
    refine st538.trans ?_
    show Steps _ _ _ (sf T538 m 80 #[rv d, iv q1, iv q2, iv c3_533] [(.int z537.1), .int c3_533]) _
    exact q
   by_cases hc540 : c3_533 < z537.1
   ·rw [if_pos hc540] at hf537
    have k_541 : Go p.tables e below B0 (sf T538 m 85 #[rv d, iv q1, iv q2, iv c3_533] [.ref d, .ref d]) := fun t q => by
     refine k_539 t ?_
     refine s_icmpNo X538.here hx (hb hby d28_80) (tlt hc540).2.1 ?_
     refine s_aloadN X538.here hx (hb hby d28_83) rfl rfl ?_
     refine s_aloadN X538.here hx (hb hby d28_84) rfl rfl ?_
     exact q
    obtain ⟨T542, X542, e542, st542⟩ := getF X538 hx hZ hown (host := "") (Or.inl (hw _ (wd 69 rfl))) Via.refl (rfl : T538.heap = _) (gt_d_blocks w538) (g := (mkF m 85 #[rv d, iv q1, iv q2, iv c3_533] [.ref d, .ref d])) rfl rfl (hb hby d28_85)
    have k_543 : Go p.tables e below B0 (sf T542 m 89 #[rv d, iv q1, iv q2, iv c3_533] [.int c3_533, .ref b, .ref d]) := fun t q => by
     refine k_541 t ?_
     refine st542 _ ?_
     show Steps _ _ _ (sf T542 m 88 #[rv d, iv q1, iv q2, iv c3_533] [.ref b, .ref d]) _
     refine s_iloadN X542.here hx (hb hby d28_88) rfl ?_
     exact q
    obtain ⟨z544, c544, hf544⟩ := Option.bind_eq_some_iff.mp hf537
    obtain ⟨cq545, kq545, q545a, q545b, q545c⟩ := isOf hZ e542 (w538.2.1.2.1)
    obtain ⟨_, _, ⟨T545, L545, k545, n545⟩, -, X545, ⟨Lc545, hQ545, l545, y545, z545⟩, st545⟩ := X542.virtualBack hx (y := y_6) (z := y_6) hown (mvT hZ (hw _ (wd 167 rfl))) (mvT hZ (hw _ (wd 168 rfl))) (notFace_of_selects (args := #[]) (mvT hZ (hw _ (wd 170 rfl)))) (mvT hZ (hw _ (wd 170 rfl))) (mvT hZ (hw _ (wd 169 rfl))) (by decide) (backOf (W := 1) (fState_ok l Z a0 hw [] b d ps z537.2 c3_533 T538.heap n0 w538 z544 c544) hZ (hw _ (wd 171 rfl)) (hw _ (wd 3 rfl)) (by decide) (by decide)) q545a q545c (g := (mkF m 89 #[rv d, iv q1, iv q2, iv c3_533] [.int c3_533, .ref b, .ref d])) rfl (by rw [hml]; rfl) (Steps.refl _) (argsL := [.int c3_533]) (rest := [.ref d]) (lenOf pd_1 rfl) rfl (by show 2 * 0 + _ ≤ _; exact Nat.le_of_eq rfl) (hb hby d28_89) (fun _ _ => ⟨rfl, e542, (by decide : 0 + 0 ≤ _), (by decide : 0 + 0 ≤ _)⟩)
    dsimp only [Pt.U, Pt.locs, Pt.cells, Pt.slots] at X545 l545 y545 z545 st545 hQ545
    subst l545 y545 z545
    obtain ⟨rfl, N545q, w545⟩ := hQ545
    have N545 := Fr.app N538 N545q
    have k_546 : Go p.tables e below B0 (sf T545 m 93 #[rv d, iv q1, iv q2, iv c3_533] [.int q1, (.int z544.1), .ref d]) := fun t q => by
     refine k_543 t ?_
     refine st545.trans ?_
     show Steps _ _ _ (sf T545 m 92 #[rv d, iv q1, iv q2, iv c3_533] [(.int z544.1), .ref d]) _
     refine s_iloadN X545.here hx (hb hby d28_92) rfl ?_
     exact q
    obtain ⟨z547, c547, hf547⟩ := Option.bind_eq_some_iff.mp hf544
    obtain ⟨cq548, q548, q548'⟩ := Exa.cell (w545.2.1.2.2.1)
    obtain ⟨_, _, ⟨T548, L548, k548, n548⟩, -, X548, ⟨Lc548, hQ548, l548, y548, z548⟩, st548⟩ := X545.privateBack hx (y := y_10) hown (mvT hZ (hw _ (wd 126 rfl))) (mvT hZ (hw _ (wd 127 rfl))) (own_selects hZ (hw _ (wd 56 rfl)) (mvP hZ (hw _ (wd 128 rfl)) (args := #[])) (mvT hZ (hw _ (wd 127 rfl))) (by decide)) (Cond.privateMethod_at (mvP hZ (hw _ (wd 128 rfl)) (args := #[]))) (mvT hZ (hw _ (wd 129 rfl))) (by decide) (backOf (W := 0) (fLink_ok l Z a0 hw [] b d ps z544.2 z544.1 q1 T545.heap n0 w545 z547 c547) hZ (hw _ (wd 129 rfl)) (hw _ (wd 57 rfl)) (by decide) (by decide)) (g := (mkF m 93 #[rv d, iv q1, iv q2, iv c3_533] [.int q1, (.int z544.1), .ref d])) rfl (by rw [hml]; rfl) (Steps.refl _) (a := d) q548 q548' (argsL := [(.int z544.1), .int q1]) (rest := []) (lenOf pd_2 rfl) rfl (by show 2 * 0 + _ ≤ _; exact Nat.le_of_eq rfl) (hb hby d28_93) (fun _ _ => ⟨rfl, (rfl : T545.heap = _), (by decide : 0 + 0 ≤ _), (by decide : 0 + 0 ≤ _)⟩)
    dsimp only [Pt.U, Pt.locs, Pt.cells, Pt.slots] at X548 l548 y548 z548 st548 hQ548
    subst l548 y548 z548
    obtain ⟨rfl, N548q, w548⟩ := hQ548
    have N548 := Fr.app N545 N548q
    have k_549 : Go p.tables e below B0 (sf T548 m 71 #[rv d, iv q1, iv q2, .val (.int (c3_533 + (1 : Int32)))] []) := fun t q => by
     refine k_546 t ?_
     refine st548.trans ?_
     show Steps _ _ _ (sf T548 m 96 #[rv d, iv q1, iv q2, iv c3_533] []) _
     refine s_iinc X548.here hx (hb hby d28_96) rfl (l' := #[rv d, iv q1, iv q2, .val (.int (c3_533 + (1 : Int32)))]) rfl ?_
     refine s_goto X548.here hx (pc' := 71) (hb hby d28_99) (by decide) (by decide) ?_
     exact q
    exact ih z547.2 (c3_533 + (1 : Int32))  T548 _ X548 N548 w548  k_549 hf547
   ·rw [if_neg hc540] at hf537
    have k_550 : Go p.tables e below B0 (sf T538 m 103 #[rv d, iv q1, iv q2, iv c3_533] [.ref d]) := fun t q => by
     refine k_539 t ?_
     refine s_icmpYes X538.here hx (pc' := 102) (hb hby d28_80) (flt hc540).2.1 (by decide) (by decide) ?_
     refine s_aloadN X538.here hx (hb hby d28_102) rfl rfl ?_
     exact q
    obtain ⟨T551, X551, e551, st551⟩ := getF X538 hx hZ hown (host := "") (Or.inl (hw _ (wd 79 rfl))) Via.refl (rfl : T538.heap = _) (gt_d_firstCount w538) (g := (mkF m 103 #[rv d, iv q1, iv q2, iv c3_533] [.ref d])) rfl rfl (hb hby d28_103)
    have k_552 : Go p.tables e below B0 (sf T551 m 108 #[rv d, iv q1, iv q2, iv c3_533] [.int q1, (.ref (ps 12)), .int q1, (.ref (ps 12))]) := fun t q => by
     refine k_550 t ?_
     refine st551 _ ?_
     show Steps _ _ _ (sf T551 m 106 #[rv d, iv q1, iv q2, iv c3_533] [(.ref (ps 12))]) _
     refine s_iloadN X551.here hx (hb hby d28_106) rfl ?_
     refine s_dup2 X551.here hx (hb hby d28_107) rfl rfl ?_
     exact q
    obtain ⟨w553, c553, hf553⟩ := Option.bind_eq_some_iff.mp hf537
    obtain ⟨cl553, Ar553, hin553, hat553⟩ := w538.rd c553
    have k_554 : Go p.tables e below B0 (sf T551 m 110 #[rv d, iv q1, iv q2, iv c3_533] [.ref d, .int w553, .int q1, (.ref (ps 12))]) := fun t q => by
     refine k_552 t ?_
     refine X551.iaload hx (j := q1) (v := (.int w553)) (by rw [e551]; exact Ar553.1) (State.isArrayOf_alike hZ.alike Ar553.2.1) Ar553.2.2 hin553 hat553 (g := (mkF m 108 #[rv d, iv q1, iv q2, iv c3_533] [.int q1, (.ref (ps 12)), .int q1, (.ref (ps 12))])) rfl rfl (hb hby d28_108) _ ?_
     show Steps _ _ _ (sf T551 m 109 #[rv d, iv q1, iv q2, iv c3_533] [.int w553, .int q1, (.ref (ps 12))]) _
     refine s_aloadN X551.here hx (hb hby d28_109) rfl rfl ?_
     exact q
    obtain ⟨T555, X555, e555, st555⟩ := getF X551 hx hZ hown (host := "") (Or.inl (hw _ (wd 79 rfl))) Via.refl e551 (gt_d_firstCount w538) (g := (mkF m 110 #[rv d, iv q1, iv q2, iv c3_533] [.ref d, .int w553, .int q1, (.ref (ps 12))])) rfl rfl (hb hby d28_110)
    have k_556 : Go p.tables e below B0 (sf T555 m 114 #[rv d, iv q1, iv q2, iv c3_533] [.int q2, (.ref (ps 12)), .int w553, .int q1, (.ref (ps 12))]) := fun t q => by
     refine k_554 t ?_
     refine st555 _ ?_
     show Steps _ _ _ (sf T555 m 113 #[rv d, iv q1, iv q2, iv c3_533] [(.ref (ps 12)), .int w553, .int q1, (.ref (ps 12))]) _
     refine s_iloadN X555.here hx (hb hby d28_113) rfl ?_
     exact q
    obtain ⟨w557, c557, hf557⟩ := Option.bind_eq_some_iff.mp hf553
    obtain ⟨cl557, Ar557, hin557, hat557⟩ := w538.rd c557
    have k_558 : Go p.tables e below B0 (sf T555 m 116 #[rv d, iv q1, iv q2, iv c3_533] [(.int (w553 + w557)), .int q1, (.ref (ps 12))]) := fun t q => by
     refine k_556 t ?_
     refine X555.iaload hx (j := q2) (v := (.int w557)) (by rw [e555]; exact Ar557.1) (State.isArrayOf_alike hZ.alike Ar557.2.1) Ar557.2.2 hin557 hat557 (g := (mkF m 114 #[rv d, iv q1, iv q2, iv c3_533] [.int q2, (.ref (ps 12)), .int w553, .int q1, (.ref (ps 12))])) rfl rfl (hb hby d28_114) _ ?_
     show Steps _ _ _ (sf T555 m 115 #[rv d, iv q1, iv q2, iv c3_533] [.int w557, .int w553, .int q1, (.ref (ps 12))]) _
     refine s_iadd X555.here hx (hb hby d28_115) ?_
     exact q
    obtain ⟨σ559, c559, hf559⟩ := Option.bind_eq_some_iff.mp hf557
    obtain ⟨cl559, Ar559, hin559, gp559, nx559⟩ := w538.wr hw c559
    obtain ⟨T560, h560, X560, e560, W560, st560⟩ := stI X555 hx hZ e555 Ar559 (j := q1) hin559 (g := (mkF m 116 #[rv d, iv q1, iv q2, iv c3_533] [(.int (w553 + w557)), .int q1, (.ref (ps 12))])) rfl rfl (hb hby d28_116)
    have w560 := nx559 _ W560
    have N560 := Fr.snoc X560 N538 gp559
    have k_561 : Go p.tables e below B0 (sf T560 m 119 #[rv d, iv q1, iv q2, iv c3_533] [.ref d, .ref d]) := fun t q => by
     refine k_558 t ?_
     refine st560 _ ?_
     show Steps _ _ _ (sf T560 m 117 #[rv d, iv q1, iv q2, iv c3_533] []) _
     refine s_aloadN X560.here hx (hb hby d28_117) rfl rfl ?_
     refine s_dup X560.here hx (hb hby d28_118) rfl ?_
     exact q
    obtain ⟨T562, X562, e562, st562⟩ := getF X560 hx hZ hown (host := "") (Or.inl (hw _ (wd 94 rfl))) Via.refl e560 (gt_d_unevenCount w560) (g := (mkF m 119 #[rv d, iv q1, iv q2, iv c3_533] [.ref d, .ref d])) rfl rfl (hb hby d28_119)
    have k_563 : Go p.tables e below B0 (sf T562 m 125 #[rv d, iv q1, iv q2, iv c3_533] [.ref d, .int q1, .ref d, (.int (rdI σ559 4)), .ref d]) := fun t q => by
     refine k_561 t ?_
     refine st562 _ ?_
     show Steps _ _ _ (sf T562 m 122 #[rv d, iv q1, iv q2, iv c3_533] [(.int (rdI σ559 4)), .ref d]) _
     refine s_aloadN X562.here hx (hb hby d28_122) rfl rfl ?_
     refine s_iloadN X562.here hx (hb hby d28_123) rfl ?_
     refine s_aloadN X562.here hx (hb hby d28_124) rfl rfl ?_
     exact q
    obtain ⟨T564, X564, e564, st564⟩ := getF X562 hx hZ hown (host := "") (Or.inl (hw _ (wd 69 rfl))) Via.refl e562 (gt_d_blocks w560) (g := (mkF m 125 #[rv d, iv q1, iv q2, iv c3_533] [.ref d, .int q1, .ref d, (.int (rdI σ559 4)), .ref d])) rfl rfl (hb hby d28_125)
    have k_565 : Go p.tables e below B0 (sf T564 m 129 #[rv d, iv q1, iv q2, iv c3_533] [.int q1, .ref b, .int q1, .ref d, (.int (rdI σ559 4)), .ref d]) := fun t q => by
     refine k_563 t ?_
     refine st564 _ ?_
     show Steps _ _ _ (sf T564 m 128 #[rv d, iv q1, iv q2, iv c3_533] [.ref b, .int q1, .ref d, (.int (rdI σ559 4)), .ref d]) _
     refine s_iloadN X564.here hx (hb hby d28_128) rfl ?_
     exact q
    obtain ⟨z566, c566, hf566⟩ := Option.bind_eq_some_iff.mp hf559
    obtain ⟨cq567, kq567, q567a, q567b, q567c⟩ := isOf hZ e564 (w560.2.1.2.1)
    obtain ⟨_, _, ⟨T567, L567, k567, n567⟩, -, X567, ⟨Lc567, hQ567, l567, y567, z567⟩, st567⟩ := X564.virtualBack hx (y := y_3) (z := y_3) hown (mvT hZ (hw _ (wd 147 rfl))) (mvT hZ (hw _ (wd 148 rfl))) (notFace_of_selects (args := #[]) (mvT hZ (hw _ (wd 150 rfl)))) (mvT hZ (hw _ (wd 150 rfl))) (mvT hZ (hw _ (wd 149 rfl))) (by decide) (backOf (W := 4) (fSize_ok l Z a0 hw [] b d ps σ559 q1 h560 n0 w560 z566 c566) hZ (hw _ (wd 151 rfl)) (hw _ (wd 3 rfl)) (by decide) (by decide)) q567a q567c (g := (mkF m 129 #[rv d, iv q1, iv q2, iv c3_533] [.int q1, .ref b, .int q1, .ref d, (.int (rdI σ559 4)), .ref d])) rfl (by rw [hml]; rfl) (Steps.refl _) (argsL := [.int q1]) (rest := [.int q1, .ref d, (.int (rdI σ559 4)), .ref d]) (lenOf pd_1 rfl) rfl (by show 2 * 0 + _ ≤ _; exact Nat.le_of_eq rfl) (hb hby d28_129) (fun _ _ => ⟨rfl, e564, (by decide : 0 + 0 ≤ _), (by decide : 0 + 0 ≤ _)⟩)
    dsimp only [Pt.U, Pt.locs, Pt.cells, Pt.slots] at X567 l567 y567 z567 st567 hQ567
    subst l567 y567 z567
    obtain ⟨rfl, N567q, w567⟩ := hQ567
    have N567 := Fr.app N560 N567q
    have k_568 : Go p.tables e below B0 (sf T567 m 133 #[rv d, iv q1, iv q2, iv c3_533] [.ref d, (.int z566.1), .int q1, .ref d, (.int (rdI σ559 4)), .ref d]) := fun t q => by
     refine k_565 t ?_
     refine st567.trans ?_
     show Steps _ _ _ (sf T567 m 132 #[rv d, iv q1, iv q2, iv c3_533] [(.int z566.1), .int q1, .ref d, (.int (rdI σ559 4)), .ref d]) _
     refine s_aloadN X567.here hx (hb hby d28_132) rfl rfl ?_
     exact q
    obtain ⟨T569, X569, e569, st569⟩ := getF X567 hx hZ hown (host := "") (Or.inl (hw _ (wd 69 rfl))) Via.refl (rfl : T567.heap = _) (gt_d_blocks w567) (g := (mkF m 133 #[rv d, iv q1, iv q2, iv c3_533] [.ref d, (.int z566.1), .int q1, .ref d, (.int (rdI σ559 4)), .ref d])) rfl rfl (hb hby d28_133)
    have k_570 : Go p.tables e below B0 (sf T569 m 137 #[rv d, iv q1, iv q2, iv c3_533] [.int q2, .ref b, (.int z566.1), .int q1, .ref d, (.int (rdI σ559 4)), .ref d]) := fun t q => by
     refine k_568 t ?_
     refine st569 _ ?_
     show Steps _ _ _ (sf T569 m 136 #[rv d, iv q1, iv q2, iv c3_533] [.ref b, (.int z566.1), .int q1, .ref d, (.int (rdI σ559 4)), .ref d]) _
     refine s_iloadN X569.here hx (hb hby d28_136) rfl ?_
     exact q
    obtain ⟨z571, c571, hf571⟩ := Option.bind_eq_some_iff.mp hf566
    obtain ⟨cq572, kq572, q572a, q572b, q572c⟩ := isOf hZ e569 (w567.2.1.2.1)
    obtain ⟨_, _, ⟨T572, L572, k572, n572⟩, -, X572, ⟨Lc572, hQ572, l572, y572, z572⟩, st572⟩ := X569.virtualBack hx (y := y_3) (z := y_3) hown (mvT hZ (hw _ (wd 147 rfl))) (mvT hZ (hw _ (wd 148 rfl))) (notFace_of_selects (args := #[]) (mvT hZ (hw _ (wd 150 rfl)))) (mvT hZ (hw _ (wd 150 rfl))) (mvT hZ (hw _ (wd 149 rfl))) (by decide) (backOf (W := 5) (fSize_ok l Z a0 hw [] b d ps z566.2 q2 T567.heap n0 w567 z571 c571) hZ (hw _ (wd 151 rfl)) (hw _ (wd 3 rfl)) (by decide) (by decide)) q572a q572c (g := (mkF m 137 #[rv d, iv q1, iv q2, iv c3_533] [.int q2, .ref b, (.int z566.1), .int q1, .ref d, (.int (rdI σ559 4)), .ref d])) rfl (by rw [hml]; rfl) (Steps.refl _) (argsL := [.int q2]) (rest := [(.int z566.1), .int q1, .ref d, (.int (rdI σ559 4)), .ref d]) (lenOf pd_1 rfl) rfl (by show 2 * 0 + _ ≤ _; exact Nat.le_of_eq rfl) (hb hby d28_137) (fun _ _ => ⟨rfl, e569, (by decide : 0 + 0 ≤ _), (by decide : 0 + 0 ≤ _)⟩)
    dsimp only [Pt.U, Pt.locs, Pt.cells, Pt.slots] at X572 l572 y572 z572 st572 hQ572
    subst l572 y572 z572
    obtain ⟨rfl, N572q, w572⟩ := hQ572
    have N572 := Fr.app N567 N572q
    have k_573 : Go p.tables e below B0 (sf T572 m 141 #[rv d, iv q1, iv q2, iv c3_533] [(.int (z566.1 + z571.1)), .int q1, .ref d, (.int (rdI σ559 4)), .ref d]) := fun t q => by
     refine k_570 t ?_
     refine st572.trans ?_
     show Steps _ _ _ (sf T572 m 140 #[rv d, iv q1, iv q2, iv c3_533] [(.int z571.1), (.int z566.1), .int q1, .ref d, (.int (rdI σ559 4)), .ref d]) _
     refine s_iadd X572.here hx (hb hby d28_140) ?_
     exact q
    obtain ⟨z574, c574, hf574⟩ := Option.bind_eq_some_iff.mp hf571
    obtain ⟨cq575, q575, q575'⟩ := Exa.cell (w572.2.1.2.2.1)
    obtain ⟨_, _, ⟨T575, L575, k575, n575⟩, -, X575, ⟨Lc575, hQ575, l575, y575, z575⟩, st575⟩ := X572.privateBack hx (y := y_7) hown (mvT hZ (hw _ (wd 90 rfl))) (mvT hZ (hw _ (wd 91 rfl))) (own_selects hZ (hw _ (wd 56 rfl)) (mvP hZ (hw _ (wd 92 rfl)) (args := #[])) (mvT hZ (hw _ (wd 91 rfl))) (by decide)) (Cond.privateMethod_at (mvP hZ (hw _ (wd 92 rfl)) (args := #[]))) (mvT hZ (hw _ (wd 93 rfl))) (by decide) (backOf (W := 2) (fBal_ok l Z a0 hw [] b d ps z571.2 q1 (z566.1 + z571.1) T572.heap n0 w572 z574 c574) hZ (hw _ (wd 93 rfl)) (hw _ (wd 57 rfl)) (by decide) (by decide)) (g := (mkF m 141 #[rv d, iv q1, iv q2, iv c3_533] [(.int (z566.1 + z571.1)), .int q1, .ref d, (.int (rdI σ559 4)), .ref d])) rfl (by rw [hml]; rfl) (Steps.refl _) (a := d) q575 q575' (argsL := [.int q1, (.int (z566.1 + z571.1))]) (rest := [(.int (rdI σ559 4)), .ref d]) (lenOf pd_3 rfl) rfl (by show 2 * 0 + _ ≤ _; exact Nat.le_of_eq rfl) (hb hby d28_141) (fun _ _ => ⟨rfl, (rfl : T572.heap = _), (by decide : 0 + 0 ≤ _), (by decide : 0 + 0 ≤ _)⟩)
    dsimp only [Pt.U, Pt.locs, Pt.cells, Pt.slots] at X575 l575 y575 z575 st575 hQ575
    subst l575 y575 z575
    obtain ⟨rfl, N575q, w575⟩ := hQ575
    have N575 := Fr.app N572 N575q
    have k_576 : Go p.tables e below B0 (sf T575 m 144 #[rv d, iv q1, iv q2, iv c3_533] [(.int z574.1), (.int (rdI σ559 4)), .ref d]) := fun t q => by
     refine k_573 t ?_
     refine st575.trans ?_
     show Steps _ _ _ (sf T575 m 144 #[rv d, iv q1, iv q2, iv c3_533] [(.int z574.1), (.int (rdI σ559 4)), .ref d]) _
     exact q
    have k_577 : Go p.tables e below B0 (sf T575 m 152 #[rv d, iv q1, iv q2, iv c3_533] [(.int (if z574.1 = (0 : Int32) then (1 : Int32) else (0 : Int32))), (.int (rdI σ559 4)), .ref d]) := by
     by_cases hc577 : z574.1 = (0 : Int32)
     ·rw [if_pos hc577]; exact fun t q => by
       refine k_576 t ?_
       refine s_ifYes X575.here hx (pc' := 151) (hb hby d28_144) ((if0 _ _).trans (teq hc577).1) (by decide) (by decide) ?_
       refine s_iconst (x := 1) X575.here hx (hb hby d28_151) rfl ?_
       exact q
     ·rw [if_neg hc577]; exact fun t q => by
       refine k_576 t ?_
       refine s_ifNo X575.here hx (hb hby d28_144) ((if0 _ _).trans (feq hc577).1) ?_
       refine s_iconst (x := 0) X575.here hx (hb hby d28_147) rfl ?_
       refine s_goto X575.here hx (pc' := 152) (hb hby d28_148) (by decide) (by decide) ?_
       exact q
    have k_578 : Go p.tables e below B0 (sf T575 m 153 #[rv d, iv q1, iv q2, iv c3_533] [(.int ((rdI σ559 4) + (if z574.1 = (0 : Int32) then (1 : Int32) else (0 : Int32)))), .ref d]) := fun t q => by
     refine k_577 t ?_
     refine s_iadd X575.here hx (hb hby d28_152) ?_
     exact q
    obtain ⟨σ579, c579, hf579⟩ := Option.bind_eq_some_iff.mp hf574
    obtain ⟨T580, h580, X580, e580, W580, st580⟩ := putF X575 hx hZ hown (host := "") (Or.inl (hw _ (wd 94 rfl))) Via.refl (rfl : T575.heap = _) (gt_d_unevenCount w575) (w575.2.1.2.2.1) (Or.inl (hw _ (wd 95 rfl))) (hw _ (wd 56 rfl)) (ty := .int) (by decide) rfl rfl (g := (mkF m 153 #[rv d, iv q1, iv q2, iv c3_533] [(.int ((rdI σ559 4) + (if z574.1 = (0 : Int32) then (1 : Int32) else (0 : Int32)))), .ref d])) rfl rfl (hb hby d28_153)
    have N580 := Fr.snoc X580 N575 w575.2.2.2.1
    have w580 := pt_d_unevenCount hw w575 W580
    rw [Option.some.inj c579] at w580
    have k_581 : Go p.tables e below B0 (sf T580 m 158 #[rv d, iv q1, iv q2, iv c3_533] [.int q1, .ref d]) := fun t q => by
     refine k_578 t ?_
     refine st580 _ ?_
     show Steps _ _ _ (sf T580 m 156 #[rv d, iv q1, iv q2, iv c3_533] []) _
     refine s_aloadN X580.here hx (hb hby d28_156) rfl rfl ?_
     refine s_iloadN X580.here hx (hb hby d28_157) rfl ?_
     exact q
    obtain ⟨z582, c582, hf582⟩ := Option.bind_eq_some_iff.mp hf579
    obtain ⟨cq583, q583, q583'⟩ := Exa.cell (w580.2.1.2.2.1)
    obtain ⟨_, _, ⟨T583, L583, k583, n583⟩, -, X583, ⟨Lc583, hQ583, l583, y583, z583⟩, st583⟩ := X580.privateBack hx (y := y_8) hown (mvT hZ (hw _ (wd 96 rfl))) (mvT hZ (hw _ (wd 97 rfl))) (own_selects hZ (hw _ (wd 56 rfl)) (mvP hZ (hw _ (wd 98 rfl)) (args := #[])) (mvT hZ (hw _ (wd 97 rfl))) (by decide)) (Cond.privateMethod_at (mvP hZ (hw _ (wd 98 rfl)) (args := #[]))) (mvT hZ (hw _ (wd 99 rfl))) (by decide) (backOf (W := 0) (fEnter_ok l Z a0 hw [] b d ps σ579 q1 h580 n0 w580 z582 c582) hZ (hw _ (wd 99 rfl)) (hw _ (wd 57 rfl)) (by decide) (by decide)) (g := (mkF m 158 #[rv d, iv q1, iv q2, iv c3_533] [.int q1, .ref d])) rfl (by rw [hml]; rfl) (Steps.refl _) (a := d) (by rw [e580]; exact q583) q583' (argsL := [.int q1]) (rest := []) (lenOf pd_4 rfl) rfl (by show 2 * 0 + _ ≤ _; exact Nat.le_of_eq rfl) (hb hby d28_158) (fun _ _ => ⟨rfl, e580, (by decide : 0 + 0 ≤ _), (by decide : 0 + 0 ≤ _)⟩)
    dsimp only [Pt.U, Pt.locs, Pt.cells, Pt.slots] at X583 l583 y583 z583 st583 hQ583
    subst l583 y583 z583
    obtain ⟨rfl, N583q, w583⟩ := hQ583
    have N583 := Fr.app N580 N583q
    have k_584 : Go p.tables e below B0 (sf T583 m 161 #[rv d, iv q1, iv q2, iv c3_533] []) := fun t q => by
     refine k_581 t ?_
     refine st583.trans ?_
     show Steps _ _ _ (sf T583 m 161 #[rv d, iv q1, iv q2, iv c3_533] []) _
     exact q
    obtain rfl := Option.some.inj hf582
    obtain ⟨fs, hr, hrun, hended, hW, hsame⟩ := X583.leave (v := none) (fun _ => rfl)
    refine ⟨_, _, k_584 _ ?_, hrun, hended, _, _, rfl, ?_, ⟨_, rfl⟩, hW, hsame.mono (by decide) (by decide)⟩
    ·exact X583.returnOut hx Bd.returns (hb hby d28_161) hr
    ·show QW Z n0 b d ps z582.2 none _ T583.heap _
     exact ⟨rfl, N583, w583⟩
 have k_585 : Go p.tables e below B0 (sf s₁ m 2 #[rv d, iv q1, iv q2, nu] [.ref d, .ref d]) := fun t q => by
  refine k0 t ?_
  refine s_aloadN X0.here hx (hb hby d28_0) rfl rfl ?_
  refine s_dup X0.here hx (hb hby d28_1) rfl ?_
  exact q
 obtain ⟨T586, X586, e586, st586⟩ := getF X0 hx hZ hown (host := "") (Or.inl (hw _ (wd 94 rfl))) Via.refl e0 (gt_d_unevenCount W0) (g := (mkF m 2 #[rv d, iv q1, iv q2, nu] [.ref d, .ref d])) rfl rfl (hb hby d28_2)
 have k_587 : Go p.tables e below B0 (sf T586 m 8 #[rv d, iv q1, iv q2, nu] [.ref d, .int q1, .ref d, (.int (rdI σ 4)), .ref d]) := fun t q => by
  refine k_585 t ?_
  refine st586 _ ?_
  show Steps _ _ _ (sf T586 m 5 #[rv d, iv q1, iv q2, nu] [(.int (rdI σ 4)), .ref d]) _
  refine s_aloadN X586.here hx (hb hby d28_5) rfl rfl ?_
  refine s_iloadN X586.here hx (hb hby d28_6) rfl ?_
  refine s_aloadN X586.here hx (hb hby d28_7) rfl rfl ?_
  exact q
 obtain ⟨T588, X588, e588, st588⟩ := getF X586 hx hZ hown (host := "") (Or.inl (hw _ (wd 69 rfl))) Via.refl e586 (gt_d_blocks W0) (g := (mkF m 8 #[rv d, iv q1, iv q2, nu] [.ref d, .int q1, .ref d, (.int (rdI σ 4)), .ref d])) rfl rfl (hb hby d28_8)
 have k_589 : Go p.tables e below B0 (sf T588 m 12 #[rv d, iv q1, iv q2, nu] [.int q1, .ref b, .int q1, .ref d, (.int (rdI σ 4)), .ref d]) := fun t q => by
  refine k_587 t ?_
  refine st588 _ ?_
  show Steps _ _ _ (sf T588 m 11 #[rv d, iv q1, iv q2, nu] [.ref b, .int q1, .ref d, (.int (rdI σ 4)), .ref d]) _
  refine s_iloadN X588.here hx (hb hby d28_11) rfl ?_
  exact q
 obtain ⟨z590, c590, hf590⟩ := Option.bind_eq_some_iff.mp hf
 obtain ⟨cq591, kq591, q591a, q591b, q591c⟩ := isOf hZ e588 (W0.2.1.2.1)
 obtain ⟨_, _, ⟨T591, L591, k591, n591⟩, -, X591, ⟨Lc591, hQ591, l591, y591, z591⟩, st591⟩ := X588.virtualBack hx (y := y_3) (z := y_3) hown (mvT hZ (hw _ (wd 147 rfl))) (mvT hZ (hw _ (wd 148 rfl))) (notFace_of_selects (args := #[]) (mvT hZ (hw _ (wd 150 rfl)))) (mvT hZ (hw _ (wd 150 rfl))) (mvT hZ (hw _ (wd 149 rfl))) (by decide) (backOf (W := 4) (fSize_ok l Z a0 hw [] b d ps σ q1 h0 n0 W0 z590 c590) hZ (hw _ (wd 151 rfl)) (hw _ (wd 3 rfl)) (by decide) (by decide)) q591a q591c (g := (mkF m 12 #[rv d, iv q1, iv q2, nu] [.int q1, .ref b, .int q1, .ref d, (.int (rdI σ 4)), .ref d])) rfl (by rw [hml]; rfl) (Steps.refl _) (argsL := [.int q1]) (rest := [.int q1, .ref d, (.int (rdI σ 4)), .ref d]) (lenOf pd_1 rfl) rfl (by show 2 * 0 + _ ≤ _; exact Nat.le_of_eq rfl) (hb hby d28_12) (fun _ _ => ⟨rfl, e588, (by decide : 0 + 0 ≤ _), (by decide : 0 + 0 ≤ _)⟩)
 dsimp only [Pt.U, Pt.locs, Pt.cells, Pt.slots] at X591 l591 y591 z591 st591 hQ591
 subst l591 y591 z591
 obtain ⟨rfl, N591q, w591⟩ := hQ591
 have N591 := Fr.app N0 N591q
 have k_592 : Go p.tables e below B0 (sf T591 m 15 #[rv d, iv q1, iv q2, nu] [(.int z590.1), .int q1, .ref d, (.int (rdI σ 4)), .ref d]) := fun t q => by
  refine k_589 t ?_
  refine st591.trans ?_
  show Steps _ _ _ (sf T591 m 15 #[rv d, iv q1, iv q2, nu] [(.int z590.1), .int q1, .ref d, (.int (rdI σ 4)), .ref d]) _
  exact q
 obtain ⟨z593, c593, hf593⟩ := Option.bind_eq_some_iff.mp hf590
 obtain ⟨cq594, q594, q594'⟩ := Exa.cell (w591.2.1.2.2.1)
 obtain ⟨_, _, ⟨T594, L594, k594, n594⟩, -, X594, ⟨Lc594, hQ594, l594, y594, z594⟩, st594⟩ := X591.privateBack hx (y := y_7) hown (mvT hZ (hw _ (wd 90 rfl))) (mvT hZ (hw _ (wd 91 rfl))) (own_selects hZ (hw _ (wd 56 rfl)) (mvP hZ (hw _ (wd 92 rfl)) (args := #[])) (mvT hZ (hw _ (wd 91 rfl))) (by decide)) (Cond.privateMethod_at (mvP hZ (hw _ (wd 92 rfl)) (args := #[]))) (mvT hZ (hw _ (wd 93 rfl))) (by decide) (backOf (W := 2) (fBal_ok l Z a0 hw [] b d ps z590.2 q1 z590.1 T591.heap n0 w591 z593 c593) hZ (hw _ (wd 93 rfl)) (hw _ (wd 57 rfl)) (by decide) (by decide)) (g := (mkF m 15 #[rv d, iv q1, iv q2, nu] [(.int z590.1), .int q1, .ref d, (.int (rdI σ 4)), .ref d])) rfl (by rw [hml]; rfl) (Steps.refl _) (a := d) q594 q594' (argsL := [.int q1, (.int z590.1)]) (rest := [(.int (rdI σ 4)), .ref d]) (lenOf pd_3 rfl) rfl (by show 2 * 0 + _ ≤ _; exact Nat.le_of_eq rfl) (hb hby d28_15) (fun _ _ => ⟨rfl, (rfl : T591.heap = _), (by decide : 0 + 0 ≤ _), (by decide : 0 + 0 ≤ _)⟩)
 dsimp only [Pt.U, Pt.locs, Pt.cells, Pt.slots] at X594 l594 y594 z594 st594 hQ594
 subst l594 y594 z594
 obtain ⟨rfl, N594q, w594⟩ := hQ594
 have N594 := Fr.app N591 N594q
 have k_595 : Go p.tables e below B0 (sf T594 m 18 #[rv d, iv q1, iv q2, nu] [(.int z593.1), (.int (rdI σ 4)), .ref d]) := fun t q => by
  refine k_592 t ?_
  refine st594.trans ?_
  show Steps _ _ _ (sf T594 m 18 #[rv d, iv q1, iv q2, nu] [(.int z593.1), (.int (rdI σ 4)), .ref d]) _
  exact q
 have k_596 : Go p.tables e below B0 (sf T594 m 26 #[rv d, iv q1, iv q2, nu] [(.int (if z593.1 = (0 : Int32) then (1 : Int32) else (0 : Int32))), (.int (rdI σ 4)), .ref d]) := by
  by_cases hc596 : z593.1 = (0 : Int32)
  ·rw [if_pos hc596]; exact fun t q => by
    refine k_595 t ?_
    refine s_ifYes X594.here hx (pc' := 25) (hb hby d28_18) ((if0 _ _).trans (teq hc596).1) (by decide) (by decide) ?_
    refine s_iconst (x := 1) X594.here hx (hb hby d28_25) rfl ?_
    exact q
  ·rw [if_neg hc596]; exact fun t q => by
    refine k_595 t ?_
    refine s_ifNo X594.here hx (hb hby d28_18) ((if0 _ _).trans (feq hc596).1) ?_
    refine s_iconst (x := 0) X594.here hx (hb hby d28_21) rfl ?_
    refine s_goto X594.here hx (pc' := 26) (hb hby d28_22) (by decide) (by decide) ?_
    exact q
 have k_597 : Go p.tables e below B0 (sf T594 m 29 #[rv d, iv q1, iv q2, nu] [.ref d, .int q2, .ref d, (.int (if z593.1 = (0 : Int32) then (1 : Int32) else (0 : Int32))), (.int (rdI σ 4)), .ref d]) := fun t q => by
  refine k_596 t ?_
  refine s_aloadN X594.here hx (hb hby d28_26) rfl rfl ?_
  refine s_iloadN X594.here hx (hb hby d28_27) rfl ?_
  refine s_aloadN X594.here hx (hb hby d28_28) rfl rfl ?_
  exact q
 obtain ⟨T598, X598, e598, st598⟩ := getF X594 hx hZ hown (host := "") (Or.inl (hw _ (wd 69 rfl))) Via.refl (rfl : T594.heap = _) (gt_d_blocks w594) (g := (mkF m 29 #[rv d, iv q1, iv q2, nu] [.ref d, .int q2, .ref d, (.int (if z593.1 = (0 : Int32) then (1 : Int32) else (0 : Int32))), (.int (rdI σ 4)), .ref d])) rfl rfl (hb hby d28_29)
 have k_599 : Go p.tables e below B0 (sf T598 m 33 #[rv d, iv q1, iv q2, nu] [.int q2, .ref b, .int q2, .ref d, (.int (if z593.1 = (0 : Int32) then (1 : Int32) else (0 : Int32))), (.int (rdI σ 4)), .ref d]) := fun t q => by
  refine k_597 t ?_
  refine st598 _ ?_
  show Steps _ _ _ (sf T598 m 32 #[rv d, iv q1, iv q2, nu] [.ref b, .int q2, .ref d, (.int (if z593.1 = (0 : Int32) then (1 : Int32) else (0 : Int32))), (.int (rdI σ 4)), .ref d]) _
  refine s_iloadN X598.here hx (hb hby d28_32) rfl ?_
  exact q
 obtain ⟨z600, c600, hf600⟩ := Option.bind_eq_some_iff.mp hf593
 obtain ⟨cq601, kq601, q601a, q601b, q601c⟩ := isOf hZ e598 (w594.2.1.2.1)
 obtain ⟨_, _, ⟨T601, L601, k601, n601⟩, -, X601, ⟨Lc601, hQ601, l601, y601, z601⟩, st601⟩ := X598.virtualBack hx (y := y_3) (z := y_3) hown (mvT hZ (hw _ (wd 147 rfl))) (mvT hZ (hw _ (wd 148 rfl))) (notFace_of_selects (args := #[]) (mvT hZ (hw _ (wd 150 rfl)))) (mvT hZ (hw _ (wd 150 rfl))) (mvT hZ (hw _ (wd 149 rfl))) (by decide) (backOf (W := 5) (fSize_ok l Z a0 hw [] b d ps z593.2 q2 T594.heap n0 w594 z600 c600) hZ (hw _ (wd 151 rfl)) (hw _ (wd 3 rfl)) (by decide) (by decide)) q601a q601c (g := (mkF m 33 #[rv d, iv q1, iv q2, nu] [.int q2, .ref b, .int q2, .ref d, (.int (if z593.1 = (0 : Int32) then (1 : Int32) else (0 : Int32))), (.int (rdI σ 4)), .ref d])) rfl (by rw [hml]; rfl) (Steps.refl _) (argsL := [.int q2]) (rest := [.int q2, .ref d, (.int (if z593.1 = (0 : Int32) then (1 : Int32) else (0 : Int32))), (.int (rdI σ 4)), .ref d]) (lenOf pd_1 rfl) rfl (by show 2 * 0 + _ ≤ _; exact Nat.le_of_eq rfl) (hb hby d28_33) (fun _ _ => ⟨rfl, e598, (by decide : 0 + 0 ≤ _), (by decide : 0 + 0 ≤ _)⟩)
 dsimp only [Pt.U, Pt.locs, Pt.cells, Pt.slots] at X601 l601 y601 z601 st601 hQ601
 subst l601 y601 z601
 obtain ⟨rfl, N601q, w601⟩ := hQ601
 have N601 := Fr.app N594 N601q
 have k_602 : Go p.tables e below B0 (sf T601 m 36 #[rv d, iv q1, iv q2, nu] [(.int z600.1), .int q2, .ref d, (.int (if z593.1 = (0 : Int32) then (1 : Int32) else (0 : Int32))), (.int (rdI σ 4)), .ref d]) := fun t q => by
  refine k_599 t ?_
  refine st601.trans ?_
  show Steps _ _ _ (sf T601 m 36 #[rv d, iv q1, iv q2, nu] [(.int z600.1), .int q2, .ref d, (.int (if z593.1 = (0 : Int32) then (1 : Int32) else (0 : Int32))), (.int (rdI σ 4)), .ref d]) _
  exact q
 obtain ⟨z603, c603, hf603⟩ := Option.bind_eq_some_iff.mp hf600
 obtain ⟨cq604, q604, q604'⟩ := Exa.cell (w601.2.1.2.2.1)
 obtain ⟨_, _, ⟨T604, L604, k604, n604⟩, -, X604, ⟨Lc604, hQ604, l604, y604, z604⟩, st604⟩ := X601.privateBack hx (y := y_7) hown (mvT hZ (hw _ (wd 90 rfl))) (mvT hZ (hw _ (wd 91 rfl))) (own_selects hZ (hw _ (wd 56 rfl)) (mvP hZ (hw _ (wd 92 rfl)) (args := #[])) (mvT hZ (hw _ (wd 91 rfl))) (by decide)) (Cond.privateMethod_at (mvP hZ (hw _ (wd 92 rfl)) (args := #[]))) (mvT hZ (hw _ (wd 93 rfl))) (by decide) (backOf (W := 3) (fBal_ok l Z a0 hw [] b d ps z600.2 q2 z600.1 T601.heap n0 w601 z603 c603) hZ (hw _ (wd 93 rfl)) (hw _ (wd 57 rfl)) (by decide) (by decide)) (g := (mkF m 36 #[rv d, iv q1, iv q2, nu] [(.int z600.1), .int q2, .ref d, (.int (if z593.1 = (0 : Int32) then (1 : Int32) else (0 : Int32))), (.int (rdI σ 4)), .ref d])) rfl (by rw [hml]; rfl) (Steps.refl _) (a := d) q604 q604' (argsL := [.int q2, (.int z600.1)]) (rest := [(.int (if z593.1 = (0 : Int32) then (1 : Int32) else (0 : Int32))), (.int (rdI σ 4)), .ref d]) (lenOf pd_3 rfl) rfl (by show 2 * 0 + _ ≤ _; exact Nat.le_of_eq rfl) (hb hby d28_36) (fun _ _ => ⟨rfl, (rfl : T601.heap = _), (by decide : 0 + 0 ≤ _), (by decide : 0 + 0 ≤ _)⟩)
 dsimp only [Pt.U, Pt.locs, Pt.cells, Pt.slots] at X604 l604 y604 z604 st604 hQ604
 subst l604 y604 z604
 obtain ⟨rfl, N604q, w604⟩ := hQ604
 have N604 := Fr.app N601 N604q
 have k_605 : Go p.tables e below B0 (sf T604 m 39 #[rv d, iv q1, iv q2, nu] [(.int z603.1), (.int (if z593.1 = (0 : Int32) then (1 : Int32) else (0 : Int32))), (.int (rdI σ 4)), .ref d]) := fun t q => by
  refine k_602 t ?_
  refine st604.trans ?_
  show Steps _ _ _ (sf T604 m 39 #[rv d, iv q1, iv q2, nu] [(.int z603.1), (.int (if z593.1 = (0 : Int32) then (1 : Int32) else (0 : Int32))), (.int (rdI σ 4)), .ref d]) _
  exact q
 have k_606 : Go p.tables e below B0 (sf T604 m 47 #[rv d, iv q1, iv q2, nu] [(.int (if z603.1 = (0 : Int32) then (1 : Int32) else (0 : Int32))), (.int (if z593.1 = (0 : Int32) then (1 : Int32) else (0 : Int32))), (.int (rdI σ 4)), .ref d]) := by
  by_cases hc606 : z603.1 = (0 : Int32)
  ·rw [if_pos hc606]; exact fun t q => by
    refine k_605 t ?_
    refine s_ifYes X604.here hx (pc' := 46) (hb hby d28_39) ((if0 _ _).trans (teq hc606).1) (by decide) (by decide) ?_
    refine s_iconst (x := 1) X604.here hx (hb hby d28_46) rfl ?_
    exact q
  ·rw [if_neg hc606]; exact fun t q => by
    refine k_605 t ?_
    refine s_ifNo X604.here hx (hb hby d28_39) ((if0 _ _).trans (feq hc606).1) ?_
    refine s_iconst (x := 0) X604.here hx (hb hby d28_42) rfl ?_
    refine s_goto X604.here hx (pc' := 47) (hb hby d28_43) (by decide) (by decide) ?_
    exact q
 have k_607 : Go p.tables e below B0 (sf T604 m 49 #[rv d, iv q1, iv q2, nu] [(.int ((rdI σ 4) - ((if z593.1 = (0 : Int32) then (1 : Int32) else (0 : Int32)) + (if z603.1 = (0 : Int32) then (1 : Int32) else (0 : Int32))))), .ref d]) := fun t q => by
  refine k_606 t ?_
  refine s_iadd X604.here hx (hb hby d28_47) ?_
  refine s_isub X604.here hx (hb hby d28_48) ?_
  exact q
 obtain ⟨σ608, c608, hf608⟩ := Option.bind_eq_some_iff.mp hf603
 obtain ⟨T609, h609, X609, e609, W609, st609⟩ := putF X604 hx hZ hown (host := "") (Or.inl (hw _ (wd 94 rfl))) Via.refl (rfl : T604.heap = _) (gt_d_unevenCount w604) (w604.2.1.2.2.1) (Or.inl (hw _ (wd 95 rfl))) (hw _ (wd 56 rfl)) (ty := .int) (by decide) rfl rfl (g := (mkF m 49 #[rv d, iv q1, iv q2, nu] [(.int ((rdI σ 4) - ((if z593.1 = (0 : Int32) then (1 : Int32) else (0 : Int32)) + (if z603.1 = (0 : Int32) then (1 : Int32) else (0 : Int32))))), .ref d])) rfl rfl (hb hby d28_49)
 have N609 := Fr.snoc X609 N604 w604.2.2.2.1
 have w609 := pt_d_unevenCount hw w604 W609
 rw [Option.some.inj c608] at w609
 have k_610 : Go p.tables e below B0 (sf T609 m 54 #[rv d, iv q1, iv q2, nu] [.int q1, .ref d]) := fun t q => by
  refine k_607 t ?_
  refine st609 _ ?_
  show Steps _ _ _ (sf T609 m 52 #[rv d, iv q1, iv q2, nu] []) _
  refine s_aloadN X609.here hx (hb hby d28_52) rfl rfl ?_
  refine s_iloadN X609.here hx (hb hby d28_53) rfl ?_
  exact q
 obtain ⟨z611, c611, hf611⟩ := Option.bind_eq_some_iff.mp hf608
 obtain ⟨cq612, q612, q612'⟩ := Exa.cell (w609.2.1.2.2.1)
 obtain ⟨_, _, ⟨T612, L612, k612, n612⟩, -, X612, ⟨Lc612, hQ612, l612, y612, z612⟩, st612⟩ := X609.privateBack hx (y := y_9) hown (mvT hZ (hw _ (wd 152 rfl))) (mvT hZ (hw _ (wd 153 rfl))) (own_selects hZ (hw _ (wd 56 rfl)) (mvP hZ (hw _ (wd 154 rfl)) (args := #[])) (mvT hZ (hw _ (wd 153 rfl))) (by decide)) (Cond.privateMethod_at (mvP hZ (hw _ (wd 154 rfl)) (args := #[]))) (mvT hZ (hw _ (wd 155 rfl))) (by decide) (backOf (W := 0) (fLeave_ok l Z a0 hw [] b d ps σ608 q1 h609 n0 w609 z611 c611) hZ (hw _ (wd 155 rfl)) (hw _ (wd 57 rfl)) (by decide) (by decide)) (g := (mkF m 54 #[rv d, iv q1, iv q2, nu] [.int q1, .ref d])) rfl (by rw [hml]; rfl) (Steps.refl _) (a := d) (by rw [e609]; exact q612) q612' (argsL := [.int q1]) (rest := []) (lenOf pd_4 rfl) rfl (by show 2 * 0 + _ ≤ _; exact Nat.le_of_eq rfl) (hb hby d28_54) (fun _ _ => ⟨rfl, e609, (by decide : 0 + 0 ≤ _), (by decide : 0 + 0 ≤ _)⟩)
 dsimp only [Pt.U, Pt.locs, Pt.cells, Pt.slots] at X612 l612 y612 z612 st612 hQ612
 subst l612 y612 z612
 obtain ⟨rfl, N612q, w612⟩ := hQ612
 have N612 := Fr.app N609 N612q
 have k_613 : Go p.tables e below B0 (sf T612 m 59 #[rv d, iv q1, iv q2, nu] [.int q2, .ref d]) := fun t q => by
  refine k_610 t ?_
  refine st612.trans ?_
  show Steps _ _ _ (sf T612 m 57 #[rv d, iv q1, iv q2, nu] []) _
  refine s_aloadN X612.here hx (hb hby d28_57) rfl rfl ?_
  refine s_iloadN X612.here hx (hb hby d28_58) rfl ?_
  exact q
 obtain ⟨z614, c614, hf614⟩ := Option.bind_eq_some_iff.mp hf611
 obtain ⟨cq615, q615, q615'⟩ := Exa.cell (w612.2.1.2.2.1)
 obtain ⟨_, _, ⟨T615, L615, k615, n615⟩, -, X615, ⟨Lc615, hQ615, l615, y615, z615⟩, st615⟩ := X612.privateBack hx (y := y_9) hown (mvT hZ (hw _ (wd 152 rfl))) (mvT hZ (hw _ (wd 153 rfl))) (own_selects hZ (hw _ (wd 56 rfl)) (mvP hZ (hw _ (wd 154 rfl)) (args := #[])) (mvT hZ (hw _ (wd 153 rfl))) (by decide)) (Cond.privateMethod_at (mvP hZ (hw _ (wd 154 rfl)) (args := #[]))) (mvT hZ (hw _ (wd 155 rfl))) (by decide) (backOf (W := 0) (fLeave_ok l Z a0 hw [] b d ps z611.2 q2 T612.heap n0 w612 z614 c614) hZ (hw _ (wd 155 rfl)) (hw _ (wd 57 rfl)) (by decide) (by decide)) (g := (mkF m 59 #[rv d, iv q1, iv q2, nu] [.int q2, .ref d])) rfl (by rw [hml]; rfl) (Steps.refl _) (a := d) q615 q615' (argsL := [.int q2]) (rest := []) (lenOf pd_4 rfl) rfl (by show 2 * 0 + _ ≤ _; exact Nat.le_of_eq rfl) (hb hby d28_59) (fun _ _ => ⟨rfl, (rfl : T612.heap = _), (by decide : 0 + 0 ≤ _), (by decide : 0 + 0 ≤ _)⟩)
 dsimp only [Pt.U, Pt.locs, Pt.cells, Pt.slots] at X615 l615 y615 z615 st615 hQ615
 subst l615 y615 z615
 obtain ⟨rfl, N615q, w615⟩ := hQ615
 have N615 := Fr.app N612 N615q
 have k_616 : Go p.tables e below B0 (sf T615 m 63 #[rv d, iv q1, iv q2, nu] [.ref d]) := fun t q => by
  refine k_613 t ?_
  refine st615.trans ?_
  show Steps _ _ _ (sf T615 m 62 #[rv d, iv q1, iv q2, nu] []) _
  refine s_aloadN X615.here hx (hb hby d28_62) rfl rfl ?_
  exact q
 obtain ⟨T617, X617, e617, st617⟩ := getF X615 hx hZ hown (host := "") (Or.inl (hw _ (wd 69 rfl))) Via.refl (rfl : T615.heap = _) (gt_d_blocks w615) (g := (mkF m 63 #[rv d, iv q1, iv q2, nu] [.ref d])) rfl rfl (hb hby d28_63)
 have k_618 : Go p.tables e below B0 (sf T617 m 67 #[rv d, iv q1, iv q2, nu] [.int q2, .ref b]) := fun t q => by
  refine k_616 t ?_
  refine st617 _ ?_
  show Steps _ _ _ (sf T617 m 66 #[rv d, iv q1, iv q2, nu] [.ref b]) _
  refine s_iloadN X617.here hx (hb hby d28_66) rfl ?_
  exact q
 obtain ⟨z619, c619, hf619⟩ := Option.bind_eq_some_iff.mp hf614
 obtain ⟨cq620, kq620, q620a, q620b, q620c⟩ := isOf hZ e617 (w615.2.1.2.1)
 obtain ⟨_, _, ⟨T620, L620, k620, n620⟩, -, X620, ⟨Lc620, hQ620, l620, y620, z620⟩, st620⟩ := X617.virtualBack hx (y := y_4) (z := y_4) hown (mvT hZ (hw _ (wd 157 rfl))) (mvT hZ (hw _ (wd 158 rfl))) (notFace_of_selects (args := #[]) (mvT hZ (hw _ (wd 160 rfl)))) (mvT hZ (hw _ (wd 160 rfl))) (mvT hZ (hw _ (wd 159 rfl))) (by decide) (backOf (W := 0) (fStart_ok l Z a0 hw [] b d ps z614.2 q2 T615.heap n0 w615 z619 c619) hZ (hw _ (wd 161 rfl)) (hw _ (wd 3 rfl)) (by decide) (by decide)) q620a q620c (g := (mkF m 67 #[rv d, iv q1, iv q2, nu] [.int q2, .ref b])) rfl (by rw [hml]; rfl) (Steps.refl _) (argsL := [.int q2]) (rest := []) (lenOf pd_1 rfl) rfl (by show 2 * 0 + _ ≤ _; exact Nat.le_of_eq rfl) (hb hby d28_67) (fun _ _ => ⟨rfl, e617, (by decide : 0 + 0 ≤ _), (by decide : 0 + 0 ≤ _)⟩)
 dsimp only [Pt.U, Pt.locs, Pt.cells, Pt.slots] at X620 l620 y620 z620 st620 hQ620
 subst l620 y620 z620
 obtain ⟨rfl, N620q, w620⟩ := hQ620
 have N620 := Fr.app N615 N620q
 have k_621 : Go p.tables e below B0 (sf T620 m 71 #[rv d, iv q1, iv q2, .val (.int z619.1)] []) := fun t q => by
  refine k_618 t ?_
  refine st620.trans ?_
  show Steps _ _ _ (sf T620 m 70 #[rv d, iv q1, iv q2, nu] [(.int z619.1)]) _
  refine s_istoreN X620.here hx (hb hby d28_70) (l' := #[rv d, iv q1, iv q2, .val (.int z619.1)]) rfl ?_
  exact q
 exact lp71 20 z619.2 z619.1  T620 _ X620 N620 w620  k_621 hf619
def fSplit_L339  : Nat → St → Int32 → Int32 → Int32 → Int32 → Option (Int32 × St)
 | 0, _, _, _, _, _ => none
 | n + 1, σl622, c3_622, c4_622, c5_622, c6_622 => (rdA σl622 4 c5_622).bind fun w626 => if c6_622 < w626 then ((rdA σl622 1 c6_622).bind fun w634 => (wrA σl622 2 w634 c5_622).bind fun σ636 => fSplit_L339  n σ636 c3_622 c4_622 c5_622 (c6_622 + (1 : Int32))) else ((fSplitOff σl622 c3_622 c5_622).bind fun z640 => (rdA z640.2 3 c3_622).bind fun w647 => (wrA z640.2 7 c3_622 w647).bind fun σ649 => if (1 : Int32) < (rdI σ649 1) then (none) else ((some (wrI σ649 1 (0 : Int32))).bind fun σ657 => some ((0 : Int32), σ657)))
def fSplit_L56  : Nat → St → Int32 → Option (Int32 × St)
 | 0, _, _ => none
 | n + 1, σl660, c2_660 => if c2_660 < (rdI σl660 0) then ((rdA σl660 6 c2_660).bind fun w668 => (rdA σl660 2 w668).bind fun w672 => (rdA σl660 7 w672).bind fun w676 => if w676 = (-1 : Int32) then (fSplit_L56  n σl660 (c2_660 + (1 : Int32))) else ((rdA σl660 1 w676).bind fun w683 => (rdA σl660 5 w668).bind fun w689 => (wrA σl660 1 w689 w683).bind fun σ691 => (rdA σ691 5 w668).bind fun w698 => (wrA σ691 5 w683 w698).bind fun σ700 => (wrA σ700 1 w676 w668).bind fun σ705 => (wrA σ705 5 w668 w676).bind fun σ710 => (wrA σ710 7 w672 (w676 + (1 : Int32))).bind fun σ715 => fSplit_L56  n σ715 (c2_660 + (1 : Int32)))) else ((some (wrI σl660 0 (0 : Int32))).bind fun σ719 => if (0 : Int32) < (rdI σ719 1) then ((rdA σ719 8 (0 : Int32)).bind fun w728 => (rdA σ719 7 w728).bind fun w732 => if w732 = (-1 : Int32) then ((rdA σ719 3 w728).bind fun w740 => (wrA σ719 7 w728 w740).bind fun σ742 => if (1 : Int32) < (rdI σ742 1) then (none) else ((some (wrI σ742 1 (0 : Int32))).bind fun σ750 => some ((0 : Int32), σ750))) else ((some (wrI σ719 2 ((rdI σ719 2) + (1 : Int32)))).bind fun σ758 => (guardI ((rdI σ719 2) < lenA σ758 3)).bind fun u767 => (guardI ((rdI σ719 2) < lenA σ758 4)).bind fun u778 => (guardI ((rdI σ719 2) < lenA σ758 7)).bind fun u789 => (guardI ((rdI σ719 2) < lenA σ758 8)).bind fun u800 => (rdA σ758 3 w728).bind fun w809 => (wrA σ758 3 (rdI σ719 2) w809).bind fun σ811 => (wrA σ811 4 (rdI σ719 2) w732).bind fun σ816 => (rdA σ816 3 (rdI σ719 2)).bind fun w823 => (wrA σ816 7 (rdI σ719 2) w823).bind fun σ825 => (wrA σ825 3 w728 w732).bind fun σ830 => (rdA σ830 3 (rdI σ719 2)).bind fun w835 => fSplit_L339  20 σ830 w728 w732 (rdI σ719 2) w835)) else ((some (wrI σ719 1 (0 : Int32))).bind fun σ838 => some ((0 : Int32), σ838)))
def fSplit (σ : St)  : Option (Int32 × St) := if (0 : Int32) < (rdI σ 1) then ((rdA σ 8 (0 : Int32)).bind fun w848 => (rdA σ 7 w848).bind fun w854 => (rdA σ 4 w848).bind fun w858 => if w854 = w858 then ((wrA σ 7 w848 (-1 : Int32)).bind fun σ862 => if (1 : Int32) < (rdI σ862 1) then (none) else (fSplit_L56  20 σ862 (0 : Int32))) else ((rdA σ 3 w848).bind fun w873 => (wrA σ 7 w848 w873).bind fun σ875 => if (1 : Int32) < (rdI σ875 1) then (none) else (fSplit_L56  20 σ875 (0 : Int32)))) else (fSplit_L56  20 σ (0 : Int32))
set_option maxRecDepth 65536 in
set_option maxHeartbeats 40000000 in
theorem fSplit_ok (l : Launch) (Z : State) (a0 : Array Value) (hw : ∀ d ∈ tables_1, d.before a0 Z = true) (ws : List Jvm.Cond) (b d : Addr) (ps : Nat → Addr) (σ : St)  (h0 : Heap) (n0 : Nat) (W0 : Wd Z n0 h0 b d ps σ) (r : Int32 × St) (hf : fSplit σ  = some r) :
  MetFree l y_18 (head1 (Jvm.Cond.code y_18 prog_3_method_13_code 7 none :: ws) ({ frames := 3, cells := 0, slots := 0, locals := 47 } : Room)) (fun a U => a = #[.ref b, .ref d] ∧ Z.Warmed39 U.vm ∧ U.heap = h0) (fun _ _ _ _ _ => True) (fun _ U o U' => ∃ v L, o = .returned v ∧ QW Z n0 b d ps r.2 none v U'.heap L ∧ FrameEnd U o U' L ({ frames := 3, cells := 0, slots := 0, locals := 47 } : Room).cells ({ frames := 3, cells := 0, slots := 0, locals := 47 } : Room).slots) := by
 refine MetFree.of_bodySF (plainFor_of_name pn_0) hisR ?_
 intro p e s m args below meth c s₁ Bd hml0 hP hK
 obtain ⟨rfl, hZ, hh⟩ := hP
 have hx := Bd.exec
 have hby := Bd.bytes
 have hml : c.maxLocals = 7 := hml0
 have hown : s.vm.findClass BLn = some m.cls := findClass_of_methodNamed Bd.named
 have hnm := (name_of_methodNamed Bd.named Bd.method).1
 have X0 : Stand p l e ({ frames := 3, cells := 0, slots := 0, locals := 47 } : Room) s m #[.ref b, .ref d] below meth c s₁ [] 0 0 := Stand.of_body Bd
 have e0 : s₁.heap = h0 := by rw [← hh, Bd.state]; rfl
 have N0 := Fr.nil n0
 have K0 := Keep.refl h0 []
 have k0 : Go p.tables e below (s₁.setTop (entryFrame m #[.ref b, .ref d] 7)) (sf s₁ m 0 #[rv b, rv d, nu, nu, nu, nu, nu] []) := fun t k => castTop (by first | (simp [entryFrame, mkF, argsToLocals, Value.category]; done)) k
 unfold fSplit at hf
 generalize s₁.setTop (entryFrame m #[.ref b, .ref d] 7) = B0 at k0 ⊢
 have lp339 : ∀ (n : Nat) (σl622 : St) (c3_622 : Int32)(c4_622 : Int32)(c5_622 : Int32)(c6_622 : Int32)  (Tl622 : State) (Ll622 : List Loc), Stand p l e ({ frames := 3, cells := 0, slots := 0, locals := 47 } : Room) s m #[.ref b, .ref d] below meth c Tl622 Ll622 0 0 → Fr n0 Ll622 → Wd Z n0 Tl622.heap b d ps σl622 → Go p.tables e below B0 (sf Tl622 m 339 #[rv b, rv d, iv 0, iv c3_622, iv c4_622, iv c5_622, iv c6_622] []) → fSplit_L339 n σl622 c3_622 c4_622 c5_622 c6_622 = some r → ∃ s₂ o, Steps p.tables e below B0 s₂ ∧ s₂.status = .running ∧ Ended s₂ below o ∧ (∃ v L, o = .returned v ∧ QW Z n0 b d ps r.2 none v s₂.heap L ∧ FrameEnd s o s₂ L ({ frames := 3, cells := 0, slots := 0, locals := 47 } : Room).cells ({ frames := 3, cells := 0, slots := 0, locals := 47 } : Room).slots) := by
  intro n
  induction n with
  | zero => intro σl622 c3_622 c4_622 c5_622 c6_622  Tl622 Ll622 Xl622 Nl622 Wl622  kl622 hl622; cases hl622
  | succ n ih =>
   intro σl622 c3_622 c4_622 c5_622 c6_622  Tl622 Ll622 Xl622 Nl622 Wl622  kl622 hl622
   rw [fSplit_L339] at hl622
   have k_623 : Go p.tables e below B0 (sf Tl622 m 342 #[rv b, rv d, iv 0, iv c3_622, iv c4_622, iv c5_622, iv c6_622] [.ref b, .int c6_622]) := fun t q => by
    refine kl622 t ?_
    refine s_iload Xl622.here hx (hb hby d15_339) rfl ?_
    refine s_aloadN Xl622.here hx (hb hby d15_341) rfl rfl ?_
    exact q
   obtain ⟨T624, X624, e624, st624⟩ := getF Xl622 hx hZ hown (host := "") (Or.inl (hw _ (wd 47 rfl))) Via.refl (rfl : Tl622.heap = _) (gt_b_end Wl622) (g := (mkF m 342 #[rv b, rv d, iv 0, iv c3_622, iv c4_622, iv c5_622, iv c6_622] [.ref b, .int c6_622])) rfl rfl (hb hby d15_342)
   have k_625 : Go p.tables e below B0 (sf T624 m 347 #[rv b, rv d, iv 0, iv c3_622, iv c4_622, iv c5_622, iv c6_622] [.int c5_622, (.ref (ps 4)), .int c6_622]) := fun t q => by
    refine k_623 t ?_
    refine st624 _ ?_
    show Steps _ _ _ (sf T624 m 345 #[rv b, rv d, iv 0, iv c3_622, iv c4_622, iv c5_622, iv c6_622] [(.ref (ps 4)), .int c6_622]) _
    refine s_iload X624.here hx (hb hby d15_345) rfl ?_
    exact q
   obtain ⟨w626, c626, hf626⟩ := Option.bind_eq_some_iff.mp hl622
   obtain ⟨cl626, Ar626, hin626, hat626⟩ := Wl622.rd c626
   have k_627 : Go p.tables e below B0 (sf T624 m 348 #[rv b, rv d, iv 0, iv c3_622, iv c4_622, iv c5_622, iv c6_622] [.int w626, .int c6_622]) := fun t q => by
    refine k_625 t ?_
    refine X624.iaload hx (j := c5_622) (v := (.int w626)) (by rw [e624]; exact Ar626.1) (State.isArrayOf_alike hZ.alike Ar626.2.1) Ar626.2.2 hin626 hat626 (g := (mkF m 347 #[rv b, rv d, iv 0, iv c3_622, iv c4_622, iv c5_622, iv c6_622] [.int c5_622, (.ref (ps 4)), .int c6_622])) rfl rfl (hb hby d15_347) _ ?_
    show Steps _ _ _ (sf T624 m 348 #[rv b, rv d, iv 0, iv c3_622, iv c4_622, iv c5_622, iv c6_622] [.int w626, .int c6_622]) _
    exact q
   by_cases hc628 : c6_622 < w626
   ·rw [if_pos hc628] at hf626
    have k_629 : Go p.tables e below B0 (sf T624 m 352 #[rv b, rv d, iv 0, iv c3_622, iv c4_622, iv c5_622, iv c6_622] [.ref b]) := fun t q => by
     refine k_627 t ?_
     refine s_icmpNo X624.here hx (hb hby d15_348) (tlt hc628).2.1 ?_
     refine s_aloadN X624.here hx (hb hby d15_351) rfl rfl ?_
     exact q
    obtain ⟨T630, X630, e630, st630⟩ := getF X624 hx hZ hown (host := "") (Or.inl (hw _ (wd 41 rfl))) Via.refl e624 (gt_b_blockOf Wl622) (g := (mkF m 352 #[rv b, rv d, iv 0, iv c3_622, iv c4_622, iv c5_622, iv c6_622] [.ref b])) rfl rfl (hb hby d15_352)
    have k_631 : Go p.tables e below B0 (sf T630 m 356 #[rv b, rv d, iv 0, iv c3_622, iv c4_622, iv c5_622, iv c6_622] [.ref b, (.ref (ps 2))]) := fun t q => by
     refine k_629 t ?_
     refine st630 _ ?_
     show Steps _ _ _ (sf T630 m 355 #[rv b, rv d, iv 0, iv c3_622, iv c4_622, iv c5_622, iv c6_622] [(.ref (ps 2))]) _
     refine s_aloadN X630.here hx (hb hby d15_355) rfl rfl ?_
     exact q
    obtain ⟨T632, X632, e632, st632⟩ := getF X630 hx hZ hown (host := "") (Or.inl (hw _ (wd 28 rfl))) Via.refl e630 (gt_b_states Wl622) (g := (mkF m 356 #[rv b, rv d, iv 0, iv c3_622, iv c4_622, iv c5_622, iv c6_622] [.ref b, (.ref (ps 2))])) rfl rfl (hb hby d15_356)
    have k_633 : Go p.tables e below B0 (sf T632 m 361 #[rv b, rv d, iv 0, iv c3_622, iv c4_622, iv c5_622, iv c6_622] [.int c6_622, (.ref (ps 1)), (.ref (ps 2))]) := fun t q => by
     refine k_631 t ?_
     refine st632 _ ?_
     show Steps _ _ _ (sf T632 m 359 #[rv b, rv d, iv 0, iv c3_622, iv c4_622, iv c5_622, iv c6_622] [(.ref (ps 1)), (.ref (ps 2))]) _
     refine s_iload X632.here hx (hb hby d15_359) rfl ?_
     exact q
    obtain ⟨w634, c634, hf634⟩ := Option.bind_eq_some_iff.mp hf626
    obtain ⟨cl634, Ar634, hin634, hat634⟩ := Wl622.rd c634
    have k_635 : Go p.tables e below B0 (sf T632 m 364 #[rv b, rv d, iv 0, iv c3_622, iv c4_622, iv c5_622, iv c6_622] [.int c5_622, .int w634, (.ref (ps 2))]) := fun t q => by
     refine k_633 t ?_
     refine X632.iaload hx (j := c6_622) (v := (.int w634)) (by rw [e632]; exact Ar634.1) (State.isArrayOf_alike hZ.alike Ar634.2.1) Ar634.2.2 hin634 hat634 (g := (mkF m 361 #[rv b, rv d, iv 0, iv c3_622, iv c4_622, iv c5_622, iv c6_622] [.int c6_622, (.ref (ps 1)), (.ref (ps 2))])) rfl rfl (hb hby d15_361) _ ?_
     show Steps _ _ _ (sf T632 m 362 #[rv b, rv d, iv 0, iv c3_622, iv c4_622, iv c5_622, iv c6_622] [.int w634, (.ref (ps 2))]) _
     refine s_iload X632.here hx (hb hby d15_362) rfl ?_
     exact q
    obtain ⟨σ636, c636, hf636⟩ := Option.bind_eq_some_iff.mp hf634
    obtain ⟨cl636, Ar636, hin636, gp636, nx636⟩ := Wl622.wr hw c636
    obtain ⟨T637, h637, X637, e637, W637, st637⟩ := stI X632 hx hZ e632 Ar636 (j := w634) hin636 (g := (mkF m 364 #[rv b, rv d, iv 0, iv c3_622, iv c4_622, iv c5_622, iv c6_622] [.int c5_622, .int w634, (.ref (ps 2))])) rfl rfl (hb hby d15_364)
    have w637 := nx636 _ W637
    have N637 := Fr.snoc X637 Nl622 gp636
    have k_638 : Go p.tables e below B0 (sf T637 m 339 #[rv b, rv d, iv 0, iv c3_622, iv c4_622, iv c5_622, .val (.int (c6_622 + (1 : Int32)))] []) := fun t q => by
     refine k_635 t ?_
     refine st637 _ ?_
     show Steps _ _ _ (sf T637 m 365 #[rv b, rv d, iv 0, iv c3_622, iv c4_622, iv c5_622, iv c6_622] []) _
     refine s_iinc X637.here hx (hb hby d15_365) rfl (l' := #[rv b, rv d, iv 0, iv c3_622, iv c4_622, iv c5_622, .val (.int (c6_622 + (1 : Int32)))]) rfl ?_
     refine s_goto X637.here hx (pc' := 339) (hb hby d15_368) (by decide) (by decide) ?_
     exact q
    exact ih σ636 c3_622 c4_622 c5_622 (c6_622 + (1 : Int32))  T637 _ X637 N637 (by rw [e637]; exact w637)  k_638 hf636
   ·rw [if_neg hc628] at hf626
    have k_639 : Go p.tables e below B0 (sf T624 m 375 #[rv b, rv d, iv 0, iv c3_622, iv c4_622, iv c5_622, iv c6_622] [.int c5_622, .int c3_622, .ref d]) := fun t q => by
     refine k_627 t ?_
     refine s_icmpYes X624.here hx (pc' := 371) (hb hby d15_348) (flt hc628).2.1 (by decide) (by decide) ?_
     refine s_aloadN X624.here hx (hb hby d15_371) rfl rfl ?_
     refine s_iloadN X624.here hx (hb hby d15_372) rfl ?_
     refine s_iload X624.here hx (hb hby d15_373) rfl ?_
     exact q
    obtain ⟨z640, c640, hf640⟩ := Option.bind_eq_some_iff.mp hf626
    obtain ⟨cq641, kq641, q641a, q641b, q641c⟩ := isOf hZ e624 (Wl622.2.1.2.2.1)
    obtain ⟨_, _, ⟨T641, L641, k641, n641⟩, -, X641, ⟨Lc641, hQ641, l641, y641, z641⟩, st641⟩ := X624.interfaceBack hx (xi := y_17) (y := y_15) hown (mvT hZ (hw _ (wd 138 rfl))) (mvT hZ (hw _ (wd 139 rfl))) (mvT hZ (hw _ (wd 140 rfl))) (mvT hZ (hw _ (wd 141 rfl))) (mvT hZ (hw _ (wd 142 rfl))) (mvT hZ (hw _ (wd 143 rfl))) (mvT hZ (hw _ (wd 144 rfl))) (mvT hZ (hw _ (wd 145 rfl))) (by decide) (backOf (W := 0) (fSplitOff_ok l Z a0 hw [] b d ps σl622 c3_622 c5_622 Tl622.heap n0 Wl622 z640 c640) hZ (hw _ (wd 146 rfl)) (hw _ (wd 57 rfl)) (by decide) (by decide)) q641a q641b q641c (g := (mkF m 375 #[rv b, rv d, iv 0, iv c3_622, iv c4_622, iv c5_622, iv c6_622] [.int c5_622, .int c3_622, .ref d])) rfl (by rw [hml]; rfl) (Steps.refl _) (argsL := [.int c3_622, .int c5_622]) (rest := []) (lenOf pd_2 rfl) rfl (by show 2 * 0 + _ ≤ _; exact Nat.le_of_eq rfl) (hb hby d15_375) (fun _ _ => ⟨rfl, e624, (by decide : 0 + 0 ≤ _), (by decide : 0 + 0 ≤ _)⟩)
    dsimp only [Pt.U, Pt.locs, Pt.cells, Pt.slots] at X641 l641 y641 z641 st641 hQ641
    subst l641 y641 z641
    obtain ⟨rfl, N641q, w641⟩ := hQ641
    have N641 := Fr.app Nl622 N641q
    have k_642 : Go p.tables e below B0 (sf T641 m 381 #[rv b, rv d, iv 0, iv c3_622, iv c4_622, iv c5_622, iv c6_622] [.ref b]) := fun t q => by
     refine k_639 t ?_
     refine st641.trans ?_
     show Steps _ _ _ (sf T641 m 380 #[rv b, rv d, iv 0, iv c3_622, iv c4_622, iv c5_622, iv c6_622] []) _
     refine s_aloadN X641.here hx (hb hby d15_380) rfl rfl ?_
     exact q
    obtain ⟨T643, X643, e643, st643⟩ := getF X641 hx hZ hown (host := "") (Or.inl (hw _ (wd 49 rfl))) Via.refl (rfl : T641.heap = _) (gt_b_markedEnd w641) (g := (mkF m 381 #[rv b, rv d, iv 0, iv c3_622, iv c4_622, iv c5_622, iv c6_622] [.ref b])) rfl rfl (hb hby d15_381)
    have k_644 : Go p.tables e below B0 (sf T643 m 386 #[rv b, rv d, iv 0, iv c3_622, iv c4_622, iv c5_622, iv c6_622] [.ref b, .int c3_622, (.ref (ps 7))]) := fun t q => by
     refine k_642 t ?_
     refine st643 _ ?_
     show Steps _ _ _ (sf T643 m 384 #[rv b, rv d, iv 0, iv c3_622, iv c4_622, iv c5_622, iv c6_622] [(.ref (ps 7))]) _
     refine s_iloadN X643.here hx (hb hby d15_384) rfl ?_
     refine s_aloadN X643.here hx (hb hby d15_385) rfl rfl ?_
     exact q
    obtain ⟨T645, X645, e645, st645⟩ := getF X643 hx hZ hown (host := "") (Or.inl (hw _ (wd 45 rfl))) Via.refl e643 (gt_b_start w641) (g := (mkF m 386 #[rv b, rv d, iv 0, iv c3_622, iv c4_622, iv c5_622, iv c6_622] [.ref b, .int c3_622, (.ref (ps 7))])) rfl rfl (hb hby d15_386)
    have k_646 : Go p.tables e below B0 (sf T645 m 390 #[rv b, rv d, iv 0, iv c3_622, iv c4_622, iv c5_622, iv c6_622] [.int c3_622, (.ref (ps 3)), .int c3_622, (.ref (ps 7))]) := fun t q => by
     refine k_644 t ?_
     refine st645 _ ?_
     show Steps _ _ _ (sf T645 m 389 #[rv b, rv d, iv 0, iv c3_622, iv c4_622, iv c5_622, iv c6_622] [(.ref (ps 3)), .int c3_622, (.ref (ps 7))]) _
     refine s_iloadN X645.here hx (hb hby d15_389) rfl ?_
     exact q
    obtain ⟨w647, c647, hf647⟩ := Option.bind_eq_some_iff.mp hf640
    obtain ⟨cl647, Ar647, hin647, hat647⟩ := w641.rd c647
    have k_648 : Go p.tables e below B0 (sf T645 m 391 #[rv b, rv d, iv 0, iv c3_622, iv c4_622, iv c5_622, iv c6_622] [.int w647, .int c3_622, (.ref (ps 7))]) := fun t q => by
     refine k_646 t ?_
     refine X645.iaload hx (j := c3_622) (v := (.int w647)) (by rw [e645]; exact Ar647.1) (State.isArrayOf_alike hZ.alike Ar647.2.1) Ar647.2.2 hin647 hat647 (g := (mkF m 390 #[rv b, rv d, iv 0, iv c3_622, iv c4_622, iv c5_622, iv c6_622] [.int c3_622, (.ref (ps 3)), .int c3_622, (.ref (ps 7))])) rfl rfl (hb hby d15_390) _ ?_
     show Steps _ _ _ (sf T645 m 391 #[rv b, rv d, iv 0, iv c3_622, iv c4_622, iv c5_622, iv c6_622] [.int w647, .int c3_622, (.ref (ps 7))]) _
     exact q
    obtain ⟨σ649, c649, hf649⟩ := Option.bind_eq_some_iff.mp hf647
    obtain ⟨cl649, Ar649, hin649, gp649, nx649⟩ := w641.wr hw c649
    obtain ⟨T650, h650, X650, e650, W650, st650⟩ := stI X645 hx hZ e645 Ar649 (j := c3_622) hin649 (g := (mkF m 391 #[rv b, rv d, iv 0, iv c3_622, iv c4_622, iv c5_622, iv c6_622] [.int w647, .int c3_622, (.ref (ps 7))])) rfl rfl (hb hby d15_391)
    have w650 := nx649 _ W650
    have N650 := Fr.snoc X650 N641 gp649
    have k_651 : Go p.tables e below B0 (sf T650 m 171 #[rv b, rv d, iv 1, iv c3_622, iv c4_622, iv c5_622, iv c6_622] [.ref b, .int 1]) := fun t q => by
     refine k_648 t ?_
     refine st650 _ ?_
     show Steps _ _ _ (sf T650 m 392 #[rv b, rv d, iv 0, iv c3_622, iv c4_622, iv c5_622, iv c6_622] []) _
     refine s_iinc X650.here hx (hb hby d15_392) rfl (l' := #[rv b, rv d, .val (.int ((0 : Int32) + (1 : Int32))), iv c3_622, iv c4_622, iv c5_622, iv c6_622]) rfl ?_
     rw [show ((0 : Int32) + (1 : Int32)) = (1 : Int32) from by decide]
     show Steps _ _ _ (sf T650 m 395 #[rv b, rv d, iv 1, iv c3_622, iv c4_622, iv c5_622, iv c6_622] []) _
     refine s_goto X650.here hx (pc' := 169) (hb hby d15_395) (by decide) (by decide) ?_
     refine s_iloadN X650.here hx (hb hby d15_169) rfl ?_
     refine s_aloadN X650.here hx (hb hby d15_170) rfl rfl ?_
     exact q
    obtain ⟨T652, X652, e652, st652⟩ := getF X650 hx hZ hown (host := "") (Or.inl (hw _ (wd 116 rfl))) Via.refl e650 (gt_b_touchedCount w650) (g := (mkF m 171 #[rv b, rv d, iv 1, iv c3_622, iv c4_622, iv c5_622, iv c6_622] [.ref b, .int 1])) rfl rfl (hb hby d15_171)
    have k_653 : Go p.tables e below B0 (sf T652 m 174 #[rv b, rv d, iv 1, iv c3_622, iv c4_622, iv c5_622, iv c6_622] [(.int (rdI σ649 1)), .int 1]) := fun t q => by
     refine k_651 t ?_
     refine st652 _ ?_
     show Steps _ _ _ (sf T652 m 174 #[rv b, rv d, iv 1, iv c3_622, iv c4_622, iv c5_622, iv c6_622] [(.int (rdI σ649 1)), .int 1]) _
     exact q
    by_cases hc654 : (1 : Int32) < (rdI σ649 1)
    ·rw [if_pos hc654] at hf649
     have k_655 : Go p.tables e below B0 (sf T652 m 177 #[rv b, rv d, iv 1, iv c3_622, iv c4_622, iv c5_622, iv c6_622] []) := fun t q => by
      refine k_653 t ?_
      refine s_icmpNo X652.here hx (hb hby d15_174) (tlt hc654).2.1 ?_
      exact q
     cases hf649
    ·rw [if_neg hc654] at hf649
     have k_656 : Go p.tables e below B0 (sf T652 m 400 #[rv b, rv d, iv 1, iv c3_622, iv c4_622, iv c5_622, iv c6_622] [.int 0, .ref b]) := fun t q => by
      refine k_653 t ?_
      refine s_icmpYes X652.here hx (pc' := 398) (hb hby d15_174) (flt hc654).2.1 (by decide) (by decide) ?_
      refine s_aloadN X652.here hx (hb hby d15_398) rfl rfl ?_
      refine s_iconst (x := 0) X652.here hx (hb hby d15_399) rfl ?_
      exact q
     obtain ⟨σ657, c657, hf657⟩ := Option.bind_eq_some_iff.mp hf649
     obtain ⟨T658, h658, X658, e658, W658, st658⟩ := putF X652 hx hZ hown (host := "") (Or.inl (hw _ (wd 116 rfl))) Via.refl e652 (gt_b_touchedCount w650) (w650.2.1.2.1) (Or.inl (hw _ (wd 117 rfl))) (hw _ (wd 2 rfl)) (ty := .int) (by decide) rfl rfl (g := (mkF m 400 #[rv b, rv d, iv 1, iv c3_622, iv c4_622, iv c5_622, iv c6_622] [.int 0, .ref b])) rfl rfl (hb hby d15_400)
     have N658 := Fr.snoc X658 N650 w650.2.2.1
     have w658 := pt_b_touchedCount hw w650 W658
     rw [Option.some.inj c657] at w658
     have k_659 : Go p.tables e below B0 (sf T658 m 403 #[rv b, rv d, iv 1, iv c3_622, iv c4_622, iv c5_622, iv c6_622] []) := fun t q => by
      refine k_656 t ?_
      refine st658 _ ?_
      show Steps _ _ _ (sf T658 m 403 #[rv b, rv d, iv 1, iv c3_622, iv c4_622, iv c5_622, iv c6_622] []) _
      exact q
     obtain rfl := Option.some.inj hf657
     obtain ⟨fs, hr, hrun, hended, hW, hsame⟩ := X658.leave (v := none) (fun _ => rfl)
     refine ⟨_, _, k_659 _ ?_, hrun, hended, _, _, rfl, ?_, ⟨_, rfl⟩, hW, hsame.mono (by decide) (by decide)⟩
     ·exact X658.returnOut hx Bd.returns (hb hby d15_403) hr
     ·show QW Z n0 b d ps σ657 none _ T658.heap _
      rw [e658]
      exact ⟨rfl, N658, w658⟩
 have lp56 : ∀ (n : Nat) (σl660 : St) (c2_660 : Int32) (u3_660 : Slot)(u4_660 : Slot)(u5_660 : Slot)(u6_660 : Slot) (Tl660 : State) (Ll660 : List Loc), Stand p l e ({ frames := 3, cells := 0, slots := 0, locals := 47 } : Room) s m #[.ref b, .ref d] below meth c Tl660 Ll660 0 0 → Fr n0 Ll660 → Wd Z n0 Tl660.heap b d ps σl660 → (u3_660 = nu ∨ ∃ w, u3_660 = .val w ∧ w.category = 1) → (u4_660 = nu ∨ ∃ w, u4_660 = .val w ∧ w.category = 1) → (u5_660 = nu ∨ ∃ w, u5_660 = .val w ∧ w.category = 1) → (u6_660 = nu ∨ ∃ w, u6_660 = .val w ∧ w.category = 1) → Go p.tables e below B0 (sf Tl660 m 56 #[rv b, rv d, iv c2_660, u3_660, u4_660, u5_660, u6_660] []) → fSplit_L56 n σl660 c2_660 = some r → ∃ s₂ o, Steps p.tables e below B0 s₂ ∧ s₂.status = .running ∧ Ended s₂ below o ∧ (∃ v L, o = .returned v ∧ QW Z n0 b d ps r.2 none v s₂.heap L ∧ FrameEnd s o s₂ L ({ frames := 3, cells := 0, slots := 0, locals := 47 } : Room).cells ({ frames := 3, cells := 0, slots := 0, locals := 47 } : Room).slots) := by
  intro n
  induction n with
  | zero => intro σl660 c2_660 u3_660 u4_660 u5_660 u6_660 Tl660 Ll660 Xl660 Nl660 Wl660 hu3_660 hu4_660 hu5_660 hu6_660 kl660 hl660; cases hl660
  | succ n ih =>
   intro σl660 c2_660 u3_660 u4_660 u5_660 u6_660 Tl660 Ll660 Xl660 Nl660 Wl660 hu3_660 hu4_660 hu5_660 hu6_660 kl660 hl660
   rw [fSplit_L56] at hl660
   have k_661 : Go p.tables e below B0 (sf Tl660 m 58 #[rv b, rv d, iv c2_660, u3_660, u4_660, u5_660, u6_660] [.ref b, .int c2_660]) := fun t q => by
    refine kl660 t ?_
    refine s_iloadN Xl660.here hx (hb hby d15_56) rfl ?_
    refine s_aloadN Xl660.here hx (hb hby d15_57) rfl rfl ?_
    exact q
   obtain ⟨T662, X662, e662, st662⟩ := getF Xl660 hx hZ hown (host := "") (Or.inl (hw _ (wd 118 rfl))) Via.refl (rfl : Tl660.heap = _) (gt_b_markedCount Wl660) (g := (mkF m 58 #[rv b, rv d, iv c2_660, u3_660, u4_660, u5_660, u6_660] [.ref b, .int c2_660])) rfl rfl (hb hby d15_58)
   have k_663 : Go p.tables e below B0 (sf T662 m 61 #[rv b, rv d, iv c2_660, u3_660, u4_660, u5_660, u6_660] [(.int (rdI σl660 0)), .int c2_660]) := fun t q => by
    refine k_661 t ?_
    refine st662 _ ?_
    show Steps _ _ _ (sf T662 m 61 #[rv b, rv d, iv c2_660, u3_660, u4_660, u5_660, u6_660] [(.int (rdI σl660 0)), .int c2_660]) _
    exact q
   by_cases hc664 : c2_660 < (rdI σl660 0)
   ·rw [if_pos hc664] at hl660
    have k_665 : Go p.tables e below B0 (sf T662 m 65 #[rv b, rv d, iv c2_660, u3_660, u4_660, u5_660, u6_660] [.ref b]) := fun t q => by
     refine k_663 t ?_
     refine s_icmpNo X662.here hx (hb hby d15_61) (tlt hc664).2.1 ?_
     refine s_aloadN X662.here hx (hb hby d15_64) rfl rfl ?_
     exact q
    obtain ⟨T666, X666, e666, st666⟩ := getF X662 hx hZ hown (host := "") (Or.inl (hw _ (wd 43 rfl))) Via.refl e662 (gt_b_marked Wl660) (g := (mkF m 65 #[rv b, rv d, iv c2_660, u3_660, u4_660, u5_660, u6_660] [.ref b])) rfl rfl (hb hby d15_65)
    have k_667 : Go p.tables e below B0 (sf T666 m 69 #[rv b, rv d, iv c2_660, u3_660, u4_660, u5_660, u6_660] [.int c2_660, (.ref (ps 6))]) := fun t q => by
     refine k_665 t ?_
     refine st666 _ ?_
     show Steps _ _ _ (sf T666 m 68 #[rv b, rv d, iv c2_660, u3_660, u4_660, u5_660, u6_660] [(.ref (ps 6))]) _
     refine s_iloadN X666.here hx (hb hby d15_68) rfl ?_
     exact q
    obtain ⟨w668, c668, hf668⟩ := Option.bind_eq_some_iff.mp hl660
    obtain ⟨cl668, Ar668, hin668, hat668⟩ := Wl660.rd c668
    have k_669 : Go p.tables e below B0 (sf T666 m 72 #[rv b, rv d, iv c2_660, iv w668, u4_660, u5_660, u6_660] [.ref b]) := fun t q => by
     refine k_667 t ?_
     refine X666.iaload hx (j := c2_660) (v := (.int w668)) (by rw [e666]; exact Ar668.1) (State.isArrayOf_alike hZ.alike Ar668.2.1) Ar668.2.2 hin668 hat668 (g := (mkF m 69 #[rv b, rv d, iv c2_660, u3_660, u4_660, u5_660, u6_660] [.int c2_660, (.ref (ps 6))])) rfl rfl (hb hby d15_69) _ ?_
     show Steps _ _ _ (sf T666 m 70 #[rv b, rv d, iv c2_660, u3_660, u4_660, u5_660, u6_660] [.int w668]) _
     refine XS.istoreNS X666.here hx rfl (hb hby d15_70) rfl rfl hu3_660 ?_
     show Steps _ _ _ (sf T666 m 71 #[rv b, rv d, iv c2_660, iv w668, u4_660, u5_660, u6_660] []) _
     refine s_aloadN X666.here hx (hb hby d15_71) rfl rfl ?_
     exact q
    obtain ⟨T670, X670, e670, st670⟩ := getF X666 hx hZ hown (host := "") (Or.inl (hw _ (wd 41 rfl))) Via.refl e666 (gt_b_blockOf Wl660) (g := (mkF m 72 #[rv b, rv d, iv c2_660, iv w668, u4_660, u5_660, u6_660] [.ref b])) rfl rfl (hb hby d15_72)
    have k_671 : Go p.tables e below B0 (sf T670 m 76 #[rv b, rv d, iv c2_660, iv w668, u4_660, u5_660, u6_660] [.int w668, (.ref (ps 2))]) := fun t q => by
     refine k_669 t ?_
     refine st670 _ ?_
     show Steps _ _ _ (sf T670 m 75 #[rv b, rv d, iv c2_660, iv w668, u4_660, u5_660, u6_660] [(.ref (ps 2))]) _
     refine s_iloadN X670.here hx (hb hby d15_75) rfl ?_
     exact q
    obtain ⟨w672, c672, hf672⟩ := Option.bind_eq_some_iff.mp hf668
    obtain ⟨cl672, Ar672, hin672, hat672⟩ := Wl660.rd c672
    have k_673 : Go p.tables e below B0 (sf T670 m 80 #[rv b, rv d, iv c2_660, iv w668, iv w672, u5_660, u6_660] [.ref b]) := fun t q => by
     refine k_671 t ?_
     refine X670.iaload hx (j := w668) (v := (.int w672)) (by rw [e670]; exact Ar672.1) (State.isArrayOf_alike hZ.alike Ar672.2.1) Ar672.2.2 hin672 hat672 (g := (mkF m 76 #[rv b, rv d, iv c2_660, iv w668, u4_660, u5_660, u6_660] [.int w668, (.ref (ps 2))])) rfl rfl (hb hby d15_76) _ ?_
     show Steps _ _ _ (sf T670 m 77 #[rv b, rv d, iv c2_660, iv w668, u4_660, u5_660, u6_660] [.int w672]) _
     refine XS.istoreS X670.here hx rfl (hb hby d15_77) rfl rfl hu4_660 ?_
     show Steps _ _ _ (sf T670 m 79 #[rv b, rv d, iv c2_660, iv w668, iv w672, u5_660, u6_660] []) _
     refine s_aloadN X670.here hx (hb hby d15_79) rfl rfl ?_
     exact q
    obtain ⟨T674, X674, e674, st674⟩ := getF X670 hx hZ hown (host := "") (Or.inl (hw _ (wd 49 rfl))) Via.refl e670 (gt_b_markedEnd Wl660) (g := (mkF m 80 #[rv b, rv d, iv c2_660, iv w668, iv w672, u5_660, u6_660] [.ref b])) rfl rfl (hb hby d15_80)
    have k_675 : Go p.tables e below B0 (sf T674 m 85 #[rv b, rv d, iv c2_660, iv w668, iv w672, u5_660, u6_660] [.int w672, (.ref (ps 7))]) := fun t q => by
     refine k_673 t ?_
     refine st674 _ ?_
     show Steps _ _ _ (sf T674 m 83 #[rv b, rv d, iv c2_660, iv w668, iv w672, u5_660, u6_660] [(.ref (ps 7))]) _
     refine s_iload X674.here hx (hb hby d15_83) rfl ?_
     exact q
    obtain ⟨w676, c676, hf676⟩ := Option.bind_eq_some_iff.mp hf672
    obtain ⟨cl676, Ar676, hin676, hat676⟩ := Wl660.rd c676
    have k_677 : Go p.tables e below B0 (sf T674 m 91 #[rv b, rv d, iv c2_660, iv w668, iv w672, iv w676, u6_660] [(.int (-1 : Int32)), .int w676]) := fun t q => by
     refine k_675 t ?_
     refine X674.iaload hx (j := w672) (v := (.int w676)) (by rw [e674]; exact Ar676.1) (State.isArrayOf_alike hZ.alike Ar676.2.1) Ar676.2.2 hin676 hat676 (g := (mkF m 85 #[rv b, rv d, iv c2_660, iv w668, iv w672, u5_660, u6_660] [.int w672, (.ref (ps 7))])) rfl rfl (hb hby d15_85) _ ?_
     show Steps _ _ _ (sf T674 m 86 #[rv b, rv d, iv c2_660, iv w668, iv w672, u5_660, u6_660] [.int w676]) _
     refine XS.istoreS X674.here hx rfl (hb hby d15_86) rfl rfl hu5_660 ?_
     show Steps _ _ _ (sf T674 m 88 #[rv b, rv d, iv c2_660, iv w668, iv w672, iv w676, u6_660] []) _
     refine s_iload X674.here hx (hb hby d15_88) rfl ?_
     refine s_iconst (x := -1) X674.here hx (hb hby d15_90) rfl ?_
     exact q
    by_cases hc678 : w676 = (-1 : Int32)
    ·rw [if_pos hc678] at hf676
     have k_679 : Go p.tables e below B0 (sf T674 m 56 #[rv b, rv d, .val (.int (c2_660 + (1 : Int32))), iv w668, iv w672, iv w676, u6_660] []) := fun t q => by
      refine k_677 t ?_
      refine s_icmpYes X674.here hx (pc' := 156) (hb hby d15_91) (teq hc678).1 (by decide) (by decide) ?_
      refine s_iinc X674.here hx (hb hby d15_156) rfl (l' := #[rv b, rv d, .val (.int (c2_660 + (1 : Int32))), iv w668, iv w672, iv w676, u6_660]) rfl ?_
      refine s_goto X674.here hx (pc' := 56) (hb hby d15_159) (by decide) (by decide) ?_
      exact q
     exact ih σl660 (c2_660 + (1 : Int32)) (iv w668) (iv w672) (iv w676) u6_660 T674 _ X674 Nl660 (by rw [e674]; exact Wl660) (Or.inr ⟨_, rfl, rfl⟩) (Or.inr ⟨_, rfl, rfl⟩) (Or.inr ⟨_, rfl, rfl⟩) hu6_660 k_679 hf676
    ·rw [if_neg hc678] at hf676
     have k_680 : Go p.tables e below B0 (sf T674 m 95 #[rv b, rv d, iv c2_660, iv w668, iv w672, iv w676, u6_660] [.ref b]) := fun t q => by
      refine k_677 t ?_
      refine s_icmpNo X674.here hx (hb hby d15_91) (feq hc678).1 ?_
      refine s_aloadN X674.here hx (hb hby d15_94) rfl rfl ?_
      exact q
     obtain ⟨T681, X681, e681, st681⟩ := getF X674 hx hZ hown (host := "") (Or.inl (hw _ (wd 28 rfl))) Via.refl e674 (gt_b_states Wl660) (g := (mkF m 95 #[rv b, rv d, iv c2_660, iv w668, iv w672, iv w676, u6_660] [.ref b])) rfl rfl (hb hby d15_95)
     have k_682 : Go p.tables e below B0 (sf T681 m 100 #[rv b, rv d, iv c2_660, iv w668, iv w672, iv w676, u6_660] [.int w676, (.ref (ps 1))]) := fun t q => by
      refine k_680 t ?_
      refine st681 _ ?_
      show Steps _ _ _ (sf T681 m 98 #[rv b, rv d, iv c2_660, iv w668, iv w672, iv w676, u6_660] [(.ref (ps 1))]) _
      refine s_iload X681.here hx (hb hby d15_98) rfl ?_
      exact q
     obtain ⟨w683, c683, hf683⟩ := Option.bind_eq_some_iff.mp hf676
     obtain ⟨cl683, Ar683, hin683, hat683⟩ := Wl660.rd c683
     have k_684 : Go p.tables e below B0 (sf T681 m 104 #[rv b, rv d, iv c2_660, iv w668, iv w672, iv w676, iv w683] [.ref b]) := fun t q => by
      refine k_682 t ?_
      refine X681.iaload hx (j := w676) (v := (.int w683)) (by rw [e681]; exact Ar683.1) (State.isArrayOf_alike hZ.alike Ar683.2.1) Ar683.2.2 hin683 hat683 (g := (mkF m 100 #[rv b, rv d, iv c2_660, iv w668, iv w672, iv w676, u6_660] [.int w676, (.ref (ps 1))])) rfl rfl (hb hby d15_100) _ ?_
      show Steps _ _ _ (sf T681 m 101 #[rv b, rv d, iv c2_660, iv w668, iv w672, iv w676, u6_660] [.int w683]) _
      refine XS.istoreS X681.here hx rfl (hb hby d15_101) rfl rfl hu6_660 ?_
      show Steps _ _ _ (sf T681 m 103 #[rv b, rv d, iv c2_660, iv w668, iv w672, iv w676, iv w683] []) _
      refine s_aloadN X681.here hx (hb hby d15_103) rfl rfl ?_
      exact q
     obtain ⟨T685, X685, e685, st685⟩ := getF X681 hx hZ hown (host := "") (Or.inl (hw _ (wd 28 rfl))) Via.refl e681 (gt_b_states Wl660) (g := (mkF m 104 #[rv b, rv d, iv c2_660, iv w668, iv w672, iv w676, iv w683] [.ref b])) rfl rfl (hb hby d15_104)
     have k_686 : Go p.tables e below B0 (sf T685 m 108 #[rv b, rv d, iv c2_660, iv w668, iv w672, iv w676, iv w683] [.ref b, (.ref (ps 1))]) := fun t q => by
      refine k_684 t ?_
      refine st685 _ ?_
      show Steps _ _ _ (sf T685 m 107 #[rv b, rv d, iv c2_660, iv w668, iv w672, iv w676, iv w683] [(.ref (ps 1))]) _
      refine s_aloadN X685.here hx (hb hby d15_107) rfl rfl ?_
      exact q
     obtain ⟨T687, X687, e687, st687⟩ := getF X685 hx hZ hown (host := "") (Or.inl (hw _ (wd 39 rfl))) Via.refl e685 (gt_b_placeOf Wl660) (g := (mkF m 108 #[rv b, rv d, iv c2_660, iv w668, iv w672, iv w676, iv w683] [.ref b, (.ref (ps 1))])) rfl rfl (hb hby d15_108)
     have k_688 : Go p.tables e below B0 (sf T687 m 112 #[rv b, rv d, iv c2_660, iv w668, iv w672, iv w676, iv w683] [.int w668, (.ref (ps 5)), (.ref (ps 1))]) := fun t q => by
      refine k_686 t ?_
      refine st687 _ ?_
      show Steps _ _ _ (sf T687 m 111 #[rv b, rv d, iv c2_660, iv w668, iv w672, iv w676, iv w683] [(.ref (ps 5)), (.ref (ps 1))]) _
      refine s_iloadN X687.here hx (hb hby d15_111) rfl ?_
      exact q
     obtain ⟨w689, c689, hf689⟩ := Option.bind_eq_some_iff.mp hf683
     obtain ⟨cl689, Ar689, hin689, hat689⟩ := Wl660.rd c689
     have k_690 : Go p.tables e below B0 (sf T687 m 115 #[rv b, rv d, iv c2_660, iv w668, iv w672, iv w676, iv w683] [.int w683, .int w689, (.ref (ps 1))]) := fun t q => by
      refine k_688 t ?_
      refine X687.iaload hx (j := w668) (v := (.int w689)) (by rw [e687]; exact Ar689.1) (State.isArrayOf_alike hZ.alike Ar689.2.1) Ar689.2.2 hin689 hat689 (g := (mkF m 112 #[rv b, rv d, iv c2_660, iv w668, iv w672, iv w676, iv w683] [.int w668, (.ref (ps 5)), (.ref (ps 1))])) rfl rfl (hb hby d15_112) _ ?_
      show Steps _ _ _ (sf T687 m 113 #[rv b, rv d, iv c2_660, iv w668, iv w672, iv w676, iv w683] [.int w689, (.ref (ps 1))]) _
      refine s_iload X687.here hx (hb hby d15_113) rfl ?_
      exact q
     obtain ⟨σ691, c691, hf691⟩ := Option.bind_eq_some_iff.mp hf689
     obtain ⟨cl691, Ar691, hin691, gp691, nx691⟩ := Wl660.wr hw c691
     obtain ⟨T692, h692, X692, e692, W692, st692⟩ := stI X687 hx hZ e687 Ar691 (j := w689) hin691 (g := (mkF m 115 #[rv b, rv d, iv c2_660, iv w668, iv w672, iv w676, iv w683] [.int w683, .int w689, (.ref (ps 1))])) rfl rfl (hb hby d15_115)
     have w692 := nx691 _ W692
     have N692 := Fr.snoc X692 Nl660 gp691
     have k_693 : Go p.tables e below B0 (sf T692 m 117 #[rv b, rv d, iv c2_660, iv w668, iv w672, iv w676, iv w683] [.ref b]) := fun t q => by
      refine k_690 t ?_
      refine st692 _ ?_
      show Steps _ _ _ (sf T692 m 116 #[rv b, rv d, iv c2_660, iv w668, iv w672, iv w676, iv w683] []) _
      refine s_aloadN X692.here hx (hb hby d15_116) rfl rfl ?_
      exact q
     obtain ⟨T694, X694, e694, st694⟩ := getF X692 hx hZ hown (host := "") (Or.inl (hw _ (wd 39 rfl))) Via.refl e692 (gt_b_placeOf w692) (g := (mkF m 117 #[rv b, rv d, iv c2_660, iv w668, iv w672, iv w676, iv w683] [.ref b])) rfl rfl (hb hby d15_117)
     have k_695 : Go p.tables e below B0 (sf T694 m 123 #[rv b, rv d, iv c2_660, iv w668, iv w672, iv w676, iv w683] [.ref b, .int w683, (.ref (ps 5))]) := fun t q => by
      refine k_693 t ?_
      refine st694 _ ?_
      show Steps _ _ _ (sf T694 m 120 #[rv b, rv d, iv c2_660, iv w668, iv w672, iv w676, iv w683] [(.ref (ps 5))]) _
      refine s_iload X694.here hx (hb hby d15_120) rfl ?_
      refine s_aloadN X694.here hx (hb hby d15_122) rfl rfl ?_
      exact q
     obtain ⟨T696, X696, e696, st696⟩ := getF X694 hx hZ hown (host := "") (Or.inl (hw _ (wd 39 rfl))) Via.refl e694 (gt_b_placeOf w692) (g := (mkF m 123 #[rv b, rv d, iv c2_660, iv w668, iv w672, iv w676, iv w683] [.ref b, .int w683, (.ref (ps 5))])) rfl rfl (hb hby d15_123)
     have k_697 : Go p.tables e below B0 (sf T696 m 127 #[rv b, rv d, iv c2_660, iv w668, iv w672, iv w676, iv w683] [.int w668, (.ref (ps 5)), .int w683, (.ref (ps 5))]) := fun t q => by
      refine k_695 t ?_
      refine st696 _ ?_
      show Steps _ _ _ (sf T696 m 126 #[rv b, rv d, iv c2_660, iv w668, iv w672, iv w676, iv w683] [(.ref (ps 5)), .int w683, (.ref (ps 5))]) _
      refine s_iloadN X696.here hx (hb hby d15_126) rfl ?_
      exact q
     obtain ⟨w698, c698, hf698⟩ := Option.bind_eq_some_iff.mp hf691
     obtain ⟨cl698, Ar698, hin698, hat698⟩ := w692.rd c698
     have k_699 : Go p.tables e below B0 (sf T696 m 128 #[rv b, rv d, iv c2_660, iv w668, iv w672, iv w676, iv w683] [.int w698, .int w683, (.ref (ps 5))]) := fun t q => by
      refine k_697 t ?_
      refine X696.iaload hx (j := w668) (v := (.int w698)) (by rw [e696]; exact Ar698.1) (State.isArrayOf_alike hZ.alike Ar698.2.1) Ar698.2.2 hin698 hat698 (g := (mkF m 127 #[rv b, rv d, iv c2_660, iv w668, iv w672, iv w676, iv w683] [.int w668, (.ref (ps 5)), .int w683, (.ref (ps 5))])) rfl rfl (hb hby d15_127) _ ?_
      show Steps _ _ _ (sf T696 m 128 #[rv b, rv d, iv c2_660, iv w668, iv w672, iv w676, iv w683] [.int w698, .int w683, (.ref (ps 5))]) _
      exact q
     obtain ⟨σ700, c700, hf700⟩ := Option.bind_eq_some_iff.mp hf698
     obtain ⟨cl700, Ar700, hin700, gp700, nx700⟩ := w692.wr hw c700
     obtain ⟨T701, h701, X701, e701, W701, st701⟩ := stI X696 hx hZ e696 Ar700 (j := w683) hin700 (g := (mkF m 128 #[rv b, rv d, iv c2_660, iv w668, iv w672, iv w676, iv w683] [.int w698, .int w683, (.ref (ps 5))])) rfl rfl (hb hby d15_128)
     have w701 := nx700 _ W701
     have N701 := Fr.snoc X701 N692 gp700
     have k_702 : Go p.tables e below B0 (sf T701 m 130 #[rv b, rv d, iv c2_660, iv w668, iv w672, iv w676, iv w683] [.ref b]) := fun t q => by
      refine k_699 t ?_
      refine st701 _ ?_
      show Steps _ _ _ (sf T701 m 129 #[rv b, rv d, iv c2_660, iv w668, iv w672, iv w676, iv w683] []) _
      refine s_aloadN X701.here hx (hb hby d15_129) rfl rfl ?_
      exact q
     obtain ⟨T703, X703, e703, st703⟩ := getF X701 hx hZ hown (host := "") (Or.inl (hw _ (wd 28 rfl))) Via.refl e701 (gt_b_states w701) (g := (mkF m 130 #[rv b, rv d, iv c2_660, iv w668, iv w672, iv w676, iv w683] [.ref b])) rfl rfl (hb hby d15_130)
     have k_704 : Go p.tables e below B0 (sf T703 m 136 #[rv b, rv d, iv c2_660, iv w668, iv w672, iv w676, iv w683] [.int w668, .int w676, (.ref (ps 1))]) := fun t q => by
      refine k_702 t ?_
      refine st703 _ ?_
      show Steps _ _ _ (sf T703 m 133 #[rv b, rv d, iv c2_660, iv w668, iv w672, iv w676, iv w683] [(.ref (ps 1))]) _
      refine s_iload X703.here hx (hb hby d15_133) rfl ?_
      refine s_iloadN X703.here hx (hb hby d15_135) rfl ?_
      exact q
     obtain ⟨σ705, c705, hf705⟩ := Option.bind_eq_some_iff.mp hf700
     obtain ⟨cl705, Ar705, hin705, gp705, nx705⟩ := w701.wr hw c705
     obtain ⟨T706, h706, X706, e706, W706, st706⟩ := stI X703 hx hZ e703 Ar705 (j := w676) hin705 (g := (mkF m 136 #[rv b, rv d, iv c2_660, iv w668, iv w672, iv w676, iv w683] [.int w668, .int w676, (.ref (ps 1))])) rfl rfl (hb hby d15_136)
     have w706 := nx705 _ W706
     have N706 := Fr.snoc X706 N701 gp705
     have k_707 : Go p.tables e below B0 (sf T706 m 138 #[rv b, rv d, iv c2_660, iv w668, iv w672, iv w676, iv w683] [.ref b]) := fun t q => by
      refine k_704 t ?_
      refine st706 _ ?_
      show Steps _ _ _ (sf T706 m 137 #[rv b, rv d, iv c2_660, iv w668, iv w672, iv w676, iv w683] []) _
      refine s_aloadN X706.here hx (hb hby d15_137) rfl rfl ?_
      exact q
     obtain ⟨T708, X708, e708, st708⟩ := getF X706 hx hZ hown (host := "") (Or.inl (hw _ (wd 39 rfl))) Via.refl e706 (gt_b_placeOf w706) (g := (mkF m 138 #[rv b, rv d, iv c2_660, iv w668, iv w672, iv w676, iv w683] [.ref b])) rfl rfl (hb hby d15_138)
     have k_709 : Go p.tables e below B0 (sf T708 m 144 #[rv b, rv d, iv c2_660, iv w668, iv w672, iv w676, iv w683] [.int w676, .int w668, (.ref (ps 5))]) := fun t q => by
      refine k_707 t ?_
      refine st708 _ ?_
      show Steps _ _ _ (sf T708 m 141 #[rv b, rv d, iv c2_660, iv w668, iv w672, iv w676, iv w683] [(.ref (ps 5))]) _
      refine s_iloadN X708.here hx (hb hby d15_141) rfl ?_
      refine s_iload X708.here hx (hb hby d15_142) rfl ?_
      exact q
     obtain ⟨σ710, c710, hf710⟩ := Option.bind_eq_some_iff.mp hf705
     obtain ⟨cl710, Ar710, hin710, gp710, nx710⟩ := w706.wr hw c710
     obtain ⟨T711, h711, X711, e711, W711, st711⟩ := stI X708 hx hZ e708 Ar710 (j := w668) hin710 (g := (mkF m 144 #[rv b, rv d, iv c2_660, iv w668, iv w672, iv w676, iv w683] [.int w676, .int w668, (.ref (ps 5))])) rfl rfl (hb hby d15_144)
     have w711 := nx710 _ W711
     have N711 := Fr.snoc X711 N706 gp710
     have k_712 : Go p.tables e below B0 (sf T711 m 146 #[rv b, rv d, iv c2_660, iv w668, iv w672, iv w676, iv w683] [.ref b]) := fun t q => by
      refine k_709 t ?_
      refine st711 _ ?_
      show Steps _ _ _ (sf T711 m 145 #[rv b, rv d, iv c2_660, iv w668, iv w672, iv w676, iv w683] []) _
      refine s_aloadN X711.here hx (hb hby d15_145) rfl rfl ?_
      exact q
     obtain ⟨T713, X713, e713, st713⟩ := getF X711 hx hZ hown (host := "") (Or.inl (hw _ (wd 49 rfl))) Via.refl e711 (gt_b_markedEnd w711) (g := (mkF m 146 #[rv b, rv d, iv c2_660, iv w668, iv w672, iv w676, iv w683] [.ref b])) rfl rfl (hb hby d15_146)
     have k_714 : Go p.tables e below B0 (sf T713 m 155 #[rv b, rv d, iv c2_660, iv w668, iv w672, iv w676, iv w683] [(.int (w676 + (1 : Int32))), .int w672, (.ref (ps 7))]) := fun t q => by
      refine k_712 t ?_
      refine st713 _ ?_
      show Steps _ _ _ (sf T713 m 149 #[rv b, rv d, iv c2_660, iv w668, iv w672, iv w676, iv w683] [(.ref (ps 7))]) _
      refine s_iload X713.here hx (hb hby d15_149) rfl ?_
      refine s_iload X713.here hx (hb hby d15_151) rfl ?_
      refine s_iconst (x := 1) X713.here hx (hb hby d15_153) rfl ?_
      refine s_iadd X713.here hx (hb hby d15_154) ?_
      exact q
     obtain ⟨σ715, c715, hf715⟩ := Option.bind_eq_some_iff.mp hf710
     obtain ⟨cl715, Ar715, hin715, gp715, nx715⟩ := w711.wr hw c715
     obtain ⟨T716, h716, X716, e716, W716, st716⟩ := stI X713 hx hZ e713 Ar715 (j := w672) hin715 (g := (mkF m 155 #[rv b, rv d, iv c2_660, iv w668, iv w672, iv w676, iv w683] [(.int (w676 + (1 : Int32))), .int w672, (.ref (ps 7))])) rfl rfl (hb hby d15_155)
     have w716 := nx715 _ W716
     have N716 := Fr.snoc X716 N711 gp715
     have k_717 : Go p.tables e below B0 (sf T716 m 56 #[rv b, rv d, .val (.int (c2_660 + (1 : Int32))), iv w668, iv w672, iv w676, iv w683] []) := fun t q => by
      refine k_714 t ?_
      refine st716 _ ?_
      show Steps _ _ _ (sf T716 m 156 #[rv b, rv d, iv c2_660, iv w668, iv w672, iv w676, iv w683] []) _
      refine s_iinc X716.here hx (hb hby d15_156) rfl (l' := #[rv b, rv d, .val (.int (c2_660 + (1 : Int32))), iv w668, iv w672, iv w676, iv w683]) rfl ?_
      refine s_goto X716.here hx (pc' := 56) (hb hby d15_159) (by decide) (by decide) ?_
      exact q
     exact ih σ715 (c2_660 + (1 : Int32)) (iv w668) (iv w672) (iv w676) (iv w683) T716 _ X716 N716 (by rw [e716]; exact w716) (Or.inr ⟨_, rfl, rfl⟩) (Or.inr ⟨_, rfl, rfl⟩) (Or.inr ⟨_, rfl, rfl⟩) (Or.inr ⟨_, rfl, rfl⟩) k_717 hf715
   ·rw [if_neg hc664] at hl660
    have k_718 : Go p.tables e below B0 (sf T662 m 164 #[rv b, rv d, iv c2_660, u3_660, u4_660, u5_660, u6_660] [.int 0, .ref b]) := fun t q => by
     refine k_663 t ?_
     refine s_icmpYes X662.here hx (pc' := 162) (hb hby d15_61) (flt hc664).2.1 (by decide) (by decide) ?_
     refine s_aloadN X662.here hx (hb hby d15_162) rfl rfl ?_
     refine s_iconst (x := 0) X662.here hx (hb hby d15_163) rfl ?_
     exact q
    obtain ⟨σ719, c719, hf719⟩ := Option.bind_eq_some_iff.mp hl660
    obtain ⟨T720, h720, X720, e720, W720, st720⟩ := putF X662 hx hZ hown (host := "") (Or.inl (hw _ (wd 118 rfl))) Via.refl e662 (gt_b_markedCount Wl660) (Wl660.2.1.2.1) (Or.inl (hw _ (wd 119 rfl))) (hw _ (wd 2 rfl)) (ty := .int) (by decide) rfl rfl (g := (mkF m 164 #[rv b, rv d, iv c2_660, u3_660, u4_660, u5_660, u6_660] [.int 0, .ref b])) rfl rfl (hb hby d15_164)
    have N720 := Fr.snoc X720 Nl660 Wl660.2.2.1
    have w720 := pt_b_markedCount hw Wl660 W720
    rw [Option.some.inj c719] at w720
    have k_721 : Go p.tables e below B0 (sf T720 m 171 #[rv b, rv d, iv 0, u3_660, u4_660, u5_660, u6_660] [.ref b, .int 0]) := fun t q => by
     refine k_718 t ?_
     refine st720 _ ?_
     show Steps _ _ _ (sf T720 m 167 #[rv b, rv d, iv c2_660, u3_660, u4_660, u5_660, u6_660] []) _
     refine s_iconst (x := 0) X720.here hx (hb hby d15_167) rfl ?_
     refine s_istoreN X720.here hx (hb hby d15_168) (l' := #[rv b, rv d, iv 0, u3_660, u4_660, u5_660, u6_660]) rfl ?_
     refine s_iloadN X720.here hx (hb hby d15_169) rfl ?_
     refine s_aloadN X720.here hx (hb hby d15_170) rfl rfl ?_
     exact q
    obtain ⟨T722, X722, e722, st722⟩ := getF X720 hx hZ hown (host := "") (Or.inl (hw _ (wd 116 rfl))) Via.refl e720 (gt_b_touchedCount w720) (g := (mkF m 171 #[rv b, rv d, iv 0, u3_660, u4_660, u5_660, u6_660] [.ref b, .int 0])) rfl rfl (hb hby d15_171)
    have k_723 : Go p.tables e below B0 (sf T722 m 174 #[rv b, rv d, iv 0, u3_660, u4_660, u5_660, u6_660] [(.int (rdI σ719 1)), .int 0]) := fun t q => by
     refine k_721 t ?_
     refine st722 _ ?_
     show Steps _ _ _ (sf T722 m 174 #[rv b, rv d, iv 0, u3_660, u4_660, u5_660, u6_660] [(.int (rdI σ719 1)), .int 0]) _
     exact q
    by_cases hc724 : (0 : Int32) < (rdI σ719 1)
    ·rw [if_pos hc724] at hf719
     have k_725 : Go p.tables e below B0 (sf T722 m 178 #[rv b, rv d, iv 0, u3_660, u4_660, u5_660, u6_660] [.ref b]) := fun t q => by
      refine k_723 t ?_
      refine s_icmpNo X722.here hx (hb hby d15_174) (tlt hc724).2.1 ?_
      refine s_aloadN X722.here hx (hb hby d15_177) rfl rfl ?_
      exact q
     obtain ⟨T726, X726, e726, st726⟩ := getF X722 hx hZ hown (host := "") (Or.inl (hw _ (wd 51 rfl))) Via.refl e722 (gt_b_touched w720) (g := (mkF m 178 #[rv b, rv d, iv 0, u3_660, u4_660, u5_660, u6_660] [.ref b])) rfl rfl (hb hby d15_178)
     have k_727 : Go p.tables e below B0 (sf T726 m 182 #[rv b, rv d, iv 0, u3_660, u4_660, u5_660, u6_660] [.int 0, (.ref (ps 8))]) := fun t q => by
      refine k_725 t ?_
      refine st726 _ ?_
      show Steps _ _ _ (sf T726 m 181 #[rv b, rv d, iv 0, u3_660, u4_660, u5_660, u6_660] [(.ref (ps 8))]) _
      refine s_iloadN X726.here hx (hb hby d15_181) rfl ?_
      exact q
     obtain ⟨w728, c728, hf728⟩ := Option.bind_eq_some_iff.mp hf719
     obtain ⟨cl728, Ar728, hin728, hat728⟩ := w720.rd c728
     have k_729 : Go p.tables e below B0 (sf T726 m 185 #[rv b, rv d, iv 0, iv w728, u4_660, u5_660, u6_660] [.ref b]) := fun t q => by
      refine k_727 t ?_
      refine X726.iaload hx (j := (0 : Int32)) (v := (.int w728)) (by rw [e726]; exact Ar728.1) (State.isArrayOf_alike hZ.alike Ar728.2.1) Ar728.2.2 hin728 hat728 (g := (mkF m 182 #[rv b, rv d, iv 0, u3_660, u4_660, u5_660, u6_660] [.int 0, (.ref (ps 8))])) rfl rfl (hb hby d15_182) _ ?_
      show Steps _ _ _ (sf T726 m 183 #[rv b, rv d, iv 0, u3_660, u4_660, u5_660, u6_660] [.int w728]) _
      refine XS.istoreNS X726.here hx rfl (hb hby d15_183) rfl rfl hu3_660 ?_
      show Steps _ _ _ (sf T726 m 184 #[rv b, rv d, iv 0, iv w728, u4_660, u5_660, u6_660] []) _
      refine s_aloadN X726.here hx (hb hby d15_184) rfl rfl ?_
      exact q
     obtain ⟨T730, X730, e730, st730⟩ := getF X726 hx hZ hown (host := "") (Or.inl (hw _ (wd 49 rfl))) Via.refl e726 (gt_b_markedEnd w720) (g := (mkF m 185 #[rv b, rv d, iv 0, iv w728, u4_660, u5_660, u6_660] [.ref b])) rfl rfl (hb hby d15_185)
     have k_731 : Go p.tables e below B0 (sf T730 m 189 #[rv b, rv d, iv 0, iv w728, u4_660, u5_660, u6_660] [.int w728, (.ref (ps 7))]) := fun t q => by
      refine k_729 t ?_
      refine st730 _ ?_
      show Steps _ _ _ (sf T730 m 188 #[rv b, rv d, iv 0, iv w728, u4_660, u5_660, u6_660] [(.ref (ps 7))]) _
      refine s_iloadN X730.here hx (hb hby d15_188) rfl ?_
      exact q
     obtain ⟨w732, c732, hf732⟩ := Option.bind_eq_some_iff.mp hf728
     obtain ⟨cl732, Ar732, hin732, hat732⟩ := w720.rd c732
     have k_733 : Go p.tables e below B0 (sf T730 m 195 #[rv b, rv d, iv 0, iv w728, iv w732, u5_660, u6_660] [(.int (-1 : Int32)), .int w732]) := fun t q => by
      refine k_731 t ?_
      refine X730.iaload hx (j := w728) (v := (.int w732)) (by rw [e730]; exact Ar732.1) (State.isArrayOf_alike hZ.alike Ar732.2.1) Ar732.2.2 hin732 hat732 (g := (mkF m 189 #[rv b, rv d, iv 0, iv w728, u4_660, u5_660, u6_660] [.int w728, (.ref (ps 7))])) rfl rfl (hb hby d15_189) _ ?_
      show Steps _ _ _ (sf T730 m 190 #[rv b, rv d, iv 0, iv w728, u4_660, u5_660, u6_660] [.int w732]) _
      refine XS.istoreS X730.here hx rfl (hb hby d15_190) rfl rfl hu4_660 ?_
      show Steps _ _ _ (sf T730 m 192 #[rv b, rv d, iv 0, iv w728, iv w732, u5_660, u6_660] []) _
      refine s_iload X730.here hx (hb hby d15_192) rfl ?_
      refine s_iconst (x := -1) X730.here hx (hb hby d15_194) rfl ?_
      exact q
     by_cases hc734 : w732 = (-1 : Int32)
     ·rw [if_pos hc734] at hf732
      have k_735 : Go p.tables e below B0 (sf T730 m 381 #[rv b, rv d, iv 0, iv w728, iv w732, u5_660, u6_660] [.ref b]) := fun t q => by
       refine k_733 t ?_
       refine s_icmpYes X730.here hx (pc' := 380) (hb hby d15_195) (teq hc734).1 (by decide) (by decide) ?_
       refine s_aloadN X730.here hx (hb hby d15_380) rfl rfl ?_
       exact q
      obtain ⟨T736, X736, e736, st736⟩ := getF X730 hx hZ hown (host := "") (Or.inl (hw _ (wd 49 rfl))) Via.refl e730 (gt_b_markedEnd w720) (g := (mkF m 381 #[rv b, rv d, iv 0, iv w728, iv w732, u5_660, u6_660] [.ref b])) rfl rfl (hb hby d15_381)
      have k_737 : Go p.tables e below B0 (sf T736 m 386 #[rv b, rv d, iv 0, iv w728, iv w732, u5_660, u6_660] [.ref b, .int w728, (.ref (ps 7))]) := fun t q => by
       refine k_735 t ?_
       refine st736 _ ?_
       show Steps _ _ _ (sf T736 m 384 #[rv b, rv d, iv 0, iv w728, iv w732, u5_660, u6_660] [(.ref (ps 7))]) _
       refine s_iloadN X736.here hx (hb hby d15_384) rfl ?_
       refine s_aloadN X736.here hx (hb hby d15_385) rfl rfl ?_
       exact q
      obtain ⟨T738, X738, e738, st738⟩ := getF X736 hx hZ hown (host := "") (Or.inl (hw _ (wd 45 rfl))) Via.refl e736 (gt_b_start w720) (g := (mkF m 386 #[rv b, rv d, iv 0, iv w728, iv w732, u5_660, u6_660] [.ref b, .int w728, (.ref (ps 7))])) rfl rfl (hb hby d15_386)
      have k_739 : Go p.tables e below B0 (sf T738 m 390 #[rv b, rv d, iv 0, iv w728, iv w732, u5_660, u6_660] [.int w728, (.ref (ps 3)), .int w728, (.ref (ps 7))]) := fun t q => by
       refine k_737 t ?_
       refine st738 _ ?_
       show Steps _ _ _ (sf T738 m 389 #[rv b, rv d, iv 0, iv w728, iv w732, u5_660, u6_660] [(.ref (ps 3)), .int w728, (.ref (ps 7))]) _
       refine s_iloadN X738.here hx (hb hby d15_389) rfl ?_
       exact q
      obtain ⟨w740, c740, hf740⟩ := Option.bind_eq_some_iff.mp hf732
      obtain ⟨cl740, Ar740, hin740, hat740⟩ := w720.rd c740
      have k_741 : Go p.tables e below B0 (sf T738 m 391 #[rv b, rv d, iv 0, iv w728, iv w732, u5_660, u6_660] [.int w740, .int w728, (.ref (ps 7))]) := fun t q => by
       refine k_739 t ?_
       refine X738.iaload hx (j := w728) (v := (.int w740)) (by rw [e738]; exact Ar740.1) (State.isArrayOf_alike hZ.alike Ar740.2.1) Ar740.2.2 hin740 hat740 (g := (mkF m 390 #[rv b, rv d, iv 0, iv w728, iv w732, u5_660, u6_660] [.int w728, (.ref (ps 3)), .int w728, (.ref (ps 7))])) rfl rfl (hb hby d15_390) _ ?_
       show Steps _ _ _ (sf T738 m 391 #[rv b, rv d, iv 0, iv w728, iv w732, u5_660, u6_660] [.int w740, .int w728, (.ref (ps 7))]) _
       exact q
      obtain ⟨σ742, c742, hf742⟩ := Option.bind_eq_some_iff.mp hf740
      obtain ⟨cl742, Ar742, hin742, gp742, nx742⟩ := w720.wr hw c742
      obtain ⟨T743, h743, X743, e743, W743, st743⟩ := stI X738 hx hZ e738 Ar742 (j := w728) hin742 (g := (mkF m 391 #[rv b, rv d, iv 0, iv w728, iv w732, u5_660, u6_660] [.int w740, .int w728, (.ref (ps 7))])) rfl rfl (hb hby d15_391)
      have w743 := nx742 _ W743
      have N743 := Fr.snoc X743 N720 gp742
      have k_744 : Go p.tables e below B0 (sf T743 m 171 #[rv b, rv d, iv 1, iv w728, iv w732, u5_660, u6_660] [.ref b, .int 1]) := fun t q => by
       refine k_741 t ?_
       refine st743 _ ?_
       show Steps _ _ _ (sf T743 m 392 #[rv b, rv d, iv 0, iv w728, iv w732, u5_660, u6_660] []) _
       refine s_iinc X743.here hx (hb hby d15_392) rfl (l' := #[rv b, rv d, .val (.int ((0 : Int32) + (1 : Int32))), iv w728, iv w732, u5_660, u6_660]) rfl ?_
       rw [show ((0 : Int32) + (1 : Int32)) = (1 : Int32) from by decide]
       show Steps _ _ _ (sf T743 m 395 #[rv b, rv d, iv 1, iv w728, iv w732, u5_660, u6_660] []) _
       refine s_goto X743.here hx (pc' := 169) (hb hby d15_395) (by decide) (by decide) ?_
       refine s_iloadN X743.here hx (hb hby d15_169) rfl ?_
       refine s_aloadN X743.here hx (hb hby d15_170) rfl rfl ?_
       exact q
      obtain ⟨T745, X745, e745, st745⟩ := getF X743 hx hZ hown (host := "") (Or.inl (hw _ (wd 116 rfl))) Via.refl e743 (gt_b_touchedCount w743) (g := (mkF m 171 #[rv b, rv d, iv 1, iv w728, iv w732, u5_660, u6_660] [.ref b, .int 1])) rfl rfl (hb hby d15_171)
      have k_746 : Go p.tables e below B0 (sf T745 m 174 #[rv b, rv d, iv 1, iv w728, iv w732, u5_660, u6_660] [(.int (rdI σ742 1)), .int 1]) := fun t q => by
       refine k_744 t ?_
       refine st745 _ ?_
       show Steps _ _ _ (sf T745 m 174 #[rv b, rv d, iv 1, iv w728, iv w732, u5_660, u6_660] [(.int (rdI σ742 1)), .int 1]) _
       exact q
      by_cases hc747 : (1 : Int32) < (rdI σ742 1)
      ·rw [if_pos hc747] at hf742
       have k_748 : Go p.tables e below B0 (sf T745 m 177 #[rv b, rv d, iv 1, iv w728, iv w732, u5_660, u6_660] []) := fun t q => by
        refine k_746 t ?_
        refine s_icmpNo X745.here hx (hb hby d15_174) (tlt hc747).2.1 ?_
        exact q
       cases hf742
      ·rw [if_neg hc747] at hf742
       have k_749 : Go p.tables e below B0 (sf T745 m 400 #[rv b, rv d, iv 1, iv w728, iv w732, u5_660, u6_660] [.int 0, .ref b]) := fun t q => by
        refine k_746 t ?_
        refine s_icmpYes X745.here hx (pc' := 398) (hb hby d15_174) (flt hc747).2.1 (by decide) (by decide) ?_
        refine s_aloadN X745.here hx (hb hby d15_398) rfl rfl ?_
        refine s_iconst (x := 0) X745.here hx (hb hby d15_399) rfl ?_
        exact q
       obtain ⟨σ750, c750, hf750⟩ := Option.bind_eq_some_iff.mp hf742
       obtain ⟨T751, h751, X751, e751, W751, st751⟩ := putF X745 hx hZ hown (host := "") (Or.inl (hw _ (wd 116 rfl))) Via.refl e745 (gt_b_touchedCount w743) (w743.2.1.2.1) (Or.inl (hw _ (wd 117 rfl))) (hw _ (wd 2 rfl)) (ty := .int) (by decide) rfl rfl (g := (mkF m 400 #[rv b, rv d, iv 1, iv w728, iv w732, u5_660, u6_660] [.int 0, .ref b])) rfl rfl (hb hby d15_400)
       have N751 := Fr.snoc X751 N743 w743.2.2.1
       have w751 := pt_b_touchedCount hw w743 W751
       rw [Option.some.inj c750] at w751
       have k_752 : Go p.tables e below B0 (sf T751 m 403 #[rv b, rv d, iv 1, iv w728, iv w732, u5_660, u6_660] []) := fun t q => by
        refine k_749 t ?_
        refine st751 _ ?_
        show Steps _ _ _ (sf T751 m 403 #[rv b, rv d, iv 1, iv w728, iv w732, u5_660, u6_660] []) _
        exact q
       obtain rfl := Option.some.inj hf750
       obtain ⟨fs, hr, hrun, hended, hW, hsame⟩ := X751.leave (v := none) (fun _ => rfl)
       refine ⟨_, _, k_752 _ ?_, hrun, hended, _, _, rfl, ?_, ⟨_, rfl⟩, hW, hsame.mono (by decide) (by decide)⟩
       ·exact X751.returnOut hx Bd.returns (hb hby d15_403) hr
       ·show QW Z n0 b d ps σ750 none _ T751.heap _
        rw [e751]
        exact ⟨rfl, N751, w751⟩
     ·rw [if_neg hc734] at hf732
      have k_753 : Go p.tables e below B0 (sf T730 m 199 #[rv b, rv d, iv 0, iv w728, iv w732, u5_660, u6_660] [.ref b]) := fun t q => by
       refine k_733 t ?_
       refine s_icmpNo X730.here hx (hb hby d15_195) (feq hc734).1 ?_
       refine s_aloadN X730.here hx (hb hby d15_198) rfl rfl ?_
       exact q
      obtain ⟨T754, X754, e754, st754⟩ := getF X730 hx hZ hown (host := "") (Or.inl (hw _ (wd 53 rfl))) Via.refl e730 (gt_b_blockCount w720) (g := (mkF m 199 #[rv b, rv d, iv 0, iv w728, iv w732, u5_660, u6_660] [.ref b])) rfl rfl (hb hby d15_199)
      have k_755 : Go p.tables e below B0 (sf T754 m 206 #[rv b, rv d, iv 0, iv w728, iv w732, .val (.int (rdI σ719 2)), u6_660] [.ref b, .ref b]) := fun t q => by
       refine k_753 t ?_
       refine st754 _ ?_
       show Steps _ _ _ (sf T754 m 202 #[rv b, rv d, iv 0, iv w728, iv w732, u5_660, u6_660] [(.int (rdI σ719 2))]) _
       refine XS.istoreS X754.here hx rfl (hb hby d15_202) rfl rfl hu5_660 ?_
       show Steps _ _ _ (sf T754 m 204 #[rv b, rv d, iv 0, iv w728, iv w732, .val (.int (rdI σ719 2)), u6_660] []) _
       refine s_aloadN X754.here hx (hb hby d15_204) rfl rfl ?_
       refine s_dup X754.here hx (hb hby d15_205) rfl ?_
       exact q
      obtain ⟨T756, X756, e756, st756⟩ := getF X754 hx hZ hown (host := "") (Or.inl (hw _ (wd 53 rfl))) Via.refl e754 (gt_b_blockCount w720) (g := (mkF m 206 #[rv b, rv d, iv 0, iv w728, iv w732, .val (.int (rdI σ719 2)), u6_660] [.ref b, .ref b])) rfl rfl (hb hby d15_206)
      have k_757 : Go p.tables e below B0 (sf T756 m 211 #[rv b, rv d, iv 0, iv w728, iv w732, .val (.int (rdI σ719 2)), u6_660] [(.int ((rdI σ719 2) + (1 : Int32))), .ref b]) := fun t q => by
       refine k_755 t ?_
       refine st756 _ ?_
       show Steps _ _ _ (sf T756 m 209 #[rv b, rv d, iv 0, iv w728, iv w732, .val (.int (rdI σ719 2)), u6_660] [(.int (rdI σ719 2)), .ref b]) _
       refine s_iconst (x := 1) X756.here hx (hb hby d15_209) rfl ?_
       refine s_iadd X756.here hx (hb hby d15_210) ?_
       exact q
      obtain ⟨σ758, c758, hf758⟩ := Option.bind_eq_some_iff.mp hf732
      obtain ⟨T759, h759, X759, e759, W759, st759⟩ := putF X756 hx hZ hown (host := "") (Or.inl (hw _ (wd 53 rfl))) Via.refl e756 (gt_b_blockCount w720) (w720.2.1.2.1) (Or.inl (hw _ (wd 54 rfl))) (hw _ (wd 2 rfl)) (ty := .int) (by decide) rfl rfl (g := (mkF m 211 #[rv b, rv d, iv 0, iv w728, iv w732, .val (.int (rdI σ719 2)), u6_660] [(.int ((rdI σ719 2) + (1 : Int32))), .ref b])) rfl rfl (hb hby d15_211)
      have N759 := Fr.snoc X759 N720 w720.2.2.1
      have w759 := pt_b_blockCount hw w720 W759
      rw [Option.some.inj c758] at w759
      have k_760 : Go p.tables e below B0 (sf T759 m 216 #[rv b, rv d, iv 0, iv w728, iv w732, .val (.int (rdI σ719 2)), u6_660] [.ref b, .ref b]) := fun t q => by
       refine k_757 t ?_
       refine st759 _ ?_
       show Steps _ _ _ (sf T759 m 214 #[rv b, rv d, iv 0, iv w728, iv w732, .val (.int (rdI σ719 2)), u6_660] []) _
       refine s_aloadN X759.here hx (hb hby d15_214) rfl rfl ?_
       refine s_aloadN X759.here hx (hb hby d15_215) rfl rfl ?_
       exact q
      obtain ⟨T761, X761, e761, st761⟩ := getF X759 hx hZ hown (host := "") (Or.inl (hw _ (wd 45 rfl))) Via.refl e759 (gt_b_start w759) (g := (mkF m 216 #[rv b, rv d, iv 0, iv w728, iv w732, .val (.int (rdI σ719 2)), u6_660] [.ref b, .ref b])) rfl rfl (hb hby d15_216)
      have k_762 : Go p.tables e below B0 (sf T761 m 222 #[rv b, rv d, iv 0, iv w728, iv w732, .val (.int (rdI σ719 2)), u6_660] [.ref b, (.int (rdI σ719 2)), (.ref (ps 3)), .ref b]) := fun t q => by
       refine k_760 t ?_
       refine st761 _ ?_
       show Steps _ _ _ (sf T761 m 219 #[rv b, rv d, iv 0, iv w728, iv w732, .val (.int (rdI σ719 2)), u6_660] [(.ref (ps 3)), .ref b]) _
       refine s_iload X761.here hx (hb hby d15_219) rfl ?_
       refine s_aloadN X761.here hx (hb hby d15_221) rfl rfl ?_
       exact q
      obtain ⟨T763, X763, e763, st763⟩ := getF X761 hx hZ hown (host := "") (Or.inl (hw _ (wd 28 rfl))) Via.refl e761 (gt_b_states w759) (g := (mkF m 222 #[rv b, rv d, iv 0, iv w728, iv w732, .val (.int (rdI σ719 2)), u6_660] [.ref b, (.int (rdI σ719 2)), (.ref (ps 3)), .ref b])) rfl rfl (hb hby d15_222)
      have k_764 : Go p.tables e below B0 (sf T763 m 225 #[rv b, rv d, iv 0, iv w728, iv w732, .val (.int (rdI σ719 2)), u6_660] [(.ref (ps 1)), (.int (rdI σ719 2)), (.ref (ps 3)), .ref b]) := fun t q => by
       refine k_762 t ?_
       refine st763 _ ?_
       show Steps _ _ _ (sf T763 m 225 #[rv b, rv d, iv 0, iv w728, iv w732, .val (.int (rdI σ719 2)), u6_660] [(.ref (ps 1)), (.int (rdI σ719 2)), (.ref (ps 3)), .ref b]) _
       exact q
      obtain ⟨cl765, Ar765, ln765⟩ := w759.len (i := 1) (by decide)
      have k_766 : Go p.tables e below B0 (sf T763 m 226 #[rv b, rv d, iv 0, iv w728, iv w732, .val (.int (rdI σ719 2)), u6_660] [(.int (lenA σ758 1)), (.int (rdI σ719 2)), (.ref (ps 3)), .ref b]) := fun t q => by
       refine k_764 t ?_
       refine X763.arraylength hx (by rw [e763]; exact Ar765.1) (State.isArrayOf_alike hZ.alike Ar765.2.1) (g := (mkF m 225 #[rv b, rv d, iv 0, iv w728, iv w732, .val (.int (rdI σ719 2)), u6_660] [(.ref (ps 1)), (.int (rdI σ719 2)), (.ref (ps 3)), .ref b])) rfl rfl (hb hby d15_225) _ ?_
       rw [ln765]
       show Steps _ _ _ (sf T763 m 226 #[rv b, rv d, iv 0, iv w728, iv w732, .val (.int (rdI σ719 2)), u6_660] [(.int (lenA σ758 1)), (.int (rdI σ719 2)), (.ref (ps 3)), .ref b]) _
       exact q
      obtain ⟨u767, c767, hf767⟩ := Option.bind_eq_some_iff.mp hf758
      obtain ⟨cl767, Ar767, ln767⟩ := w759.len (i := 3) (by decide)
      obtain ⟨_, _, ⟨T768, L768, k768, n768⟩, -, X768, ⟨Lc768, hQ768, l768, y768, z768⟩, st768⟩ := Jvm.LawKit.callS X763 hx (y := y_14) hown (mvT hZ (hw _ (wd 135 rfl))) (mvT hZ (hw _ (wd 136 rfl))) (mvT hZ (hw _ (wd 3 rfl))) (mvT hZ (hw _ (wd 137 rfl))) (by decide) (backOf (W := 1) (wroom l Z a0 hw [] (ps 3) (rdI σ719 2) (lenA σ758 1) cl767 h759 n0 Ar767 (by rw [ln767]; exact guardI_spec c767)) hZ (hw _ (wd 137 rfl)) (hw _ (wd 3 rfl)) (by decide) (by decide)) (g := (mkF m 226 #[rv b, rv d, iv 0, iv w728, iv w732, .val (.int (rdI σ719 2)), u6_660] [(.int (lenA σ758 1)), (.int (rdI σ719 2)), (.ref (ps 3)), .ref b])) rfl (by rw [hml]; rfl) (argsL := [(.ref (ps 3)), (.int (rdI σ719 2)), (.int (lenA σ758 1))]) (rest := [.ref b]) (lenOf pd_6 rfl) rfl (by show 2 * 0 + _ ≤ _; exact Nat.le_of_eq rfl) (hb hby d15_226) (fun _ _ => ⟨rfl, e763, (by decide : 0 + 0 ≤ _), (by decide : 0 + 0 ≤ _)⟩)
      dsimp only [Pt.U, Pt.locs, Pt.cells, Pt.slots] at X768 l768 y768 z768 st768 hQ768
      subst l768 y768 z768
      obtain ⟨rfl, N768q, e768⟩ := hQ768
      have N768 := Fr.app N759 N768q
      have k_769 : Go p.tables e below B0 (sf T768 m 229 #[rv b, rv d, iv 0, iv w728, iv w732, .val (.int (rdI σ719 2)), u6_660] [(.ref (ps 3)), .ref b]) := fun t q => by
       refine k_766 t ?_
       refine st768 _ ?_
       show Steps _ _ _ (sf T768 m 229 #[rv b, rv d, iv 0, iv w728, iv w732, .val (.int (rdI σ719 2)), u6_660] [(.ref (ps 3)), .ref b]) _
       exact q
      obtain ⟨T770, h770, X770, e770, W770, st770⟩ := putF X768 hx hZ hown (host := "") (Or.inl (hw _ (wd 45 rfl))) Via.refl e768 (gt_b_start w759) (w759.2.1.2.1) (Or.inl (hw _ (wd 46 rfl))) (hw _ (wd 2 rfl)) (ty := (.array .int)) (by decide) rfl rfl (g := (mkF m 229 #[rv b, rv d, iv 0, iv w728, iv w732, .val (.int (rdI σ719 2)), u6_660] [(.ref (ps 3)), .ref b])) rfl rfl (hb hby d15_229)
      have N770 := Fr.snoc X770 N768 w759.2.2.1
      have w770 := pt_b_start hw w759 W770
      have k_771 : Go p.tables e below B0 (sf T770 m 234 #[rv b, rv d, iv 0, iv w728, iv w732, .val (.int (rdI σ719 2)), u6_660] [.ref b, .ref b]) := fun t q => by
       refine k_769 t ?_
       refine st770 _ ?_
       show Steps _ _ _ (sf T770 m 232 #[rv b, rv d, iv 0, iv w728, iv w732, .val (.int (rdI σ719 2)), u6_660] []) _
       refine s_aloadN X770.here hx (hb hby d15_232) rfl rfl ?_
       refine s_aloadN X770.here hx (hb hby d15_233) rfl rfl ?_
       exact q
      obtain ⟨T772, X772, e772, st772⟩ := getF X770 hx hZ hown (host := "") (Or.inl (hw _ (wd 47 rfl))) Via.refl e770 (gt_b_end w770) (g := (mkF m 234 #[rv b, rv d, iv 0, iv w728, iv w732, .val (.int (rdI σ719 2)), u6_660] [.ref b, .ref b])) rfl rfl (hb hby d15_234)
      have k_773 : Go p.tables e below B0 (sf T772 m 240 #[rv b, rv d, iv 0, iv w728, iv w732, .val (.int (rdI σ719 2)), u6_660] [.ref b, (.int (rdI σ719 2)), (.ref (ps 4)), .ref b]) := fun t q => by
       refine k_771 t ?_
       refine st772 _ ?_
       show Steps _ _ _ (sf T772 m 237 #[rv b, rv d, iv 0, iv w728, iv w732, .val (.int (rdI σ719 2)), u6_660] [(.ref (ps 4)), .ref b]) _
       refine s_iload X772.here hx (hb hby d15_237) rfl ?_
       refine s_aloadN X772.here hx (hb hby d15_239) rfl rfl ?_
       exact q
      obtain ⟨T774, X774, e774, st774⟩ := getF X772 hx hZ hown (host := "") (Or.inl (hw _ (wd 28 rfl))) Via.refl e772 (gt_b_states w770) (g := (mkF m 240 #[rv b, rv d, iv 0, iv w728, iv w732, .val (.int (rdI σ719 2)), u6_660] [.ref b, (.int (rdI σ719 2)), (.ref (ps 4)), .ref b])) rfl rfl (hb hby d15_240)
      have k_775 : Go p.tables e below B0 (sf T774 m 243 #[rv b, rv d, iv 0, iv w728, iv w732, .val (.int (rdI σ719 2)), u6_660] [(.ref (ps 1)), (.int (rdI σ719 2)), (.ref (ps 4)), .ref b]) := fun t q => by
       refine k_773 t ?_
       refine st774 _ ?_
       show Steps _ _ _ (sf T774 m 243 #[rv b, rv d, iv 0, iv w728, iv w732, .val (.int (rdI σ719 2)), u6_660] [(.ref (ps 1)), (.int (rdI σ719 2)), (.ref (ps 4)), .ref b]) _
       exact q
      obtain ⟨cl776, Ar776, ln776⟩ := w770.len (i := 1) (by decide)
      have k_777 : Go p.tables e below B0 (sf T774 m 244 #[rv b, rv d, iv 0, iv w728, iv w732, .val (.int (rdI σ719 2)), u6_660] [(.int (lenA σ758 1)), (.int (rdI σ719 2)), (.ref (ps 4)), .ref b]) := fun t q => by
       refine k_775 t ?_
       refine X774.arraylength hx (by rw [e774]; exact Ar776.1) (State.isArrayOf_alike hZ.alike Ar776.2.1) (g := (mkF m 243 #[rv b, rv d, iv 0, iv w728, iv w732, .val (.int (rdI σ719 2)), u6_660] [(.ref (ps 1)), (.int (rdI σ719 2)), (.ref (ps 4)), .ref b])) rfl rfl (hb hby d15_243) _ ?_
       rw [ln776]
       show Steps _ _ _ (sf T774 m 244 #[rv b, rv d, iv 0, iv w728, iv w732, .val (.int (rdI σ719 2)), u6_660] [(.int (lenA σ758 1)), (.int (rdI σ719 2)), (.ref (ps 4)), .ref b]) _
       exact q
      obtain ⟨u778, c778, hf778⟩ := Option.bind_eq_some_iff.mp hf767
      obtain ⟨cl778, Ar778, ln778⟩ := w770.len (i := 4) (by decide)
      obtain ⟨_, _, ⟨T779, L779, k779, n779⟩, -, X779, ⟨Lc779, hQ779, l779, y779, z779⟩, st779⟩ := Jvm.LawKit.callS X774 hx (y := y_14) hown (mvT hZ (hw _ (wd 135 rfl))) (mvT hZ (hw _ (wd 136 rfl))) (mvT hZ (hw _ (wd 3 rfl))) (mvT hZ (hw _ (wd 137 rfl))) (by decide) (backOf (W := 1) (wroom l Z a0 hw [] (ps 4) (rdI σ719 2) (lenA σ758 1) cl778 h770 n0 Ar778 (by rw [ln778]; exact guardI_spec c778)) hZ (hw _ (wd 137 rfl)) (hw _ (wd 3 rfl)) (by decide) (by decide)) (g := (mkF m 244 #[rv b, rv d, iv 0, iv w728, iv w732, .val (.int (rdI σ719 2)), u6_660] [(.int (lenA σ758 1)), (.int (rdI σ719 2)), (.ref (ps 4)), .ref b])) rfl (by rw [hml]; rfl) (argsL := [(.ref (ps 4)), (.int (rdI σ719 2)), (.int (lenA σ758 1))]) (rest := [.ref b]) (lenOf pd_6 rfl) rfl (by show 2 * 0 + _ ≤ _; exact Nat.le_of_eq rfl) (hb hby d15_244) (fun _ _ => ⟨rfl, e774, (by decide : 0 + 0 ≤ _), (by decide : 0 + 0 ≤ _)⟩)
      dsimp only [Pt.U, Pt.locs, Pt.cells, Pt.slots] at X779 l779 y779 z779 st779 hQ779
      subst l779 y779 z779
      obtain ⟨rfl, N779q, e779⟩ := hQ779
      have N779 := Fr.app N770 N779q
      have k_780 : Go p.tables e below B0 (sf T779 m 247 #[rv b, rv d, iv 0, iv w728, iv w732, .val (.int (rdI σ719 2)), u6_660] [(.ref (ps 4)), .ref b]) := fun t q => by
       refine k_777 t ?_
       refine st779 _ ?_
       show Steps _ _ _ (sf T779 m 247 #[rv b, rv d, iv 0, iv w728, iv w732, .val (.int (rdI σ719 2)), u6_660] [(.ref (ps 4)), .ref b]) _
       exact q
      obtain ⟨T781, h781, X781, e781, W781, st781⟩ := putF X779 hx hZ hown (host := "") (Or.inl (hw _ (wd 47 rfl))) Via.refl e779 (gt_b_end w770) (w770.2.1.2.1) (Or.inl (hw _ (wd 48 rfl))) (hw _ (wd 2 rfl)) (ty := (.array .int)) (by decide) rfl rfl (g := (mkF m 247 #[rv b, rv d, iv 0, iv w728, iv w732, .val (.int (rdI σ719 2)), u6_660] [(.ref (ps 4)), .ref b])) rfl rfl (hb hby d15_247)
      have N781 := Fr.snoc X781 N779 w770.2.2.1
      have w781 := pt_b_end hw w770 W781
      have k_782 : Go p.tables e below B0 (sf T781 m 252 #[rv b, rv d, iv 0, iv w728, iv w732, .val (.int (rdI σ719 2)), u6_660] [.ref b, .ref b]) := fun t q => by
       refine k_780 t ?_
       refine st781 _ ?_
       show Steps _ _ _ (sf T781 m 250 #[rv b, rv d, iv 0, iv w728, iv w732, .val (.int (rdI σ719 2)), u6_660] []) _
       refine s_aloadN X781.here hx (hb hby d15_250) rfl rfl ?_
       refine s_aloadN X781.here hx (hb hby d15_251) rfl rfl ?_
       exact q
      obtain ⟨T783, X783, e783, st783⟩ := getF X781 hx hZ hown (host := "") (Or.inl (hw _ (wd 49 rfl))) Via.refl e781 (gt_b_markedEnd w781) (g := (mkF m 252 #[rv b, rv d, iv 0, iv w728, iv w732, .val (.int (rdI σ719 2)), u6_660] [.ref b, .ref b])) rfl rfl (hb hby d15_252)
      have k_784 : Go p.tables e below B0 (sf T783 m 258 #[rv b, rv d, iv 0, iv w728, iv w732, .val (.int (rdI σ719 2)), u6_660] [.ref b, (.int (rdI σ719 2)), (.ref (ps 7)), .ref b]) := fun t q => by
       refine k_782 t ?_
       refine st783 _ ?_
       show Steps _ _ _ (sf T783 m 255 #[rv b, rv d, iv 0, iv w728, iv w732, .val (.int (rdI σ719 2)), u6_660] [(.ref (ps 7)), .ref b]) _
       refine s_iload X783.here hx (hb hby d15_255) rfl ?_
       refine s_aloadN X783.here hx (hb hby d15_257) rfl rfl ?_
       exact q
      obtain ⟨T785, X785, e785, st785⟩ := getF X783 hx hZ hown (host := "") (Or.inl (hw _ (wd 28 rfl))) Via.refl e783 (gt_b_states w781) (g := (mkF m 258 #[rv b, rv d, iv 0, iv w728, iv w732, .val (.int (rdI σ719 2)), u6_660] [.ref b, (.int (rdI σ719 2)), (.ref (ps 7)), .ref b])) rfl rfl (hb hby d15_258)
      have k_786 : Go p.tables e below B0 (sf T785 m 261 #[rv b, rv d, iv 0, iv w728, iv w732, .val (.int (rdI σ719 2)), u6_660] [(.ref (ps 1)), (.int (rdI σ719 2)), (.ref (ps 7)), .ref b]) := fun t q => by
       refine k_784 t ?_
       refine st785 _ ?_
       show Steps _ _ _ (sf T785 m 261 #[rv b, rv d, iv 0, iv w728, iv w732, .val (.int (rdI σ719 2)), u6_660] [(.ref (ps 1)), (.int (rdI σ719 2)), (.ref (ps 7)), .ref b]) _
       exact q
      obtain ⟨cl787, Ar787, ln787⟩ := w781.len (i := 1) (by decide)
      have k_788 : Go p.tables e below B0 (sf T785 m 262 #[rv b, rv d, iv 0, iv w728, iv w732, .val (.int (rdI σ719 2)), u6_660] [(.int (lenA σ758 1)), (.int (rdI σ719 2)), (.ref (ps 7)), .ref b]) := fun t q => by
       refine k_786 t ?_
       refine X785.arraylength hx (by rw [e785]; exact Ar787.1) (State.isArrayOf_alike hZ.alike Ar787.2.1) (g := (mkF m 261 #[rv b, rv d, iv 0, iv w728, iv w732, .val (.int (rdI σ719 2)), u6_660] [(.ref (ps 1)), (.int (rdI σ719 2)), (.ref (ps 7)), .ref b])) rfl rfl (hb hby d15_261) _ ?_
       rw [ln787]
       show Steps _ _ _ (sf T785 m 262 #[rv b, rv d, iv 0, iv w728, iv w732, .val (.int (rdI σ719 2)), u6_660] [(.int (lenA σ758 1)), (.int (rdI σ719 2)), (.ref (ps 7)), .ref b]) _
       exact q
      obtain ⟨u789, c789, hf789⟩ := Option.bind_eq_some_iff.mp hf778
      obtain ⟨cl789, Ar789, ln789⟩ := w781.len (i := 7) (by decide)
      obtain ⟨_, _, ⟨T790, L790, k790, n790⟩, -, X790, ⟨Lc790, hQ790, l790, y790, z790⟩, st790⟩ := Jvm.LawKit.callS X785 hx (y := y_14) hown (mvT hZ (hw _ (wd 135 rfl))) (mvT hZ (hw _ (wd 136 rfl))) (mvT hZ (hw _ (wd 3 rfl))) (mvT hZ (hw _ (wd 137 rfl))) (by decide) (backOf (W := 1) (wroom l Z a0 hw [] (ps 7) (rdI σ719 2) (lenA σ758 1) cl789 h781 n0 Ar789 (by rw [ln789]; exact guardI_spec c789)) hZ (hw _ (wd 137 rfl)) (hw _ (wd 3 rfl)) (by decide) (by decide)) (g := (mkF m 262 #[rv b, rv d, iv 0, iv w728, iv w732, .val (.int (rdI σ719 2)), u6_660] [(.int (lenA σ758 1)), (.int (rdI σ719 2)), (.ref (ps 7)), .ref b])) rfl (by rw [hml]; rfl) (argsL := [(.ref (ps 7)), (.int (rdI σ719 2)), (.int (lenA σ758 1))]) (rest := [.ref b]) (lenOf pd_6 rfl) rfl (by show 2 * 0 + _ ≤ _; exact Nat.le_of_eq rfl) (hb hby d15_262) (fun _ _ => ⟨rfl, e785, (by decide : 0 + 0 ≤ _), (by decide : 0 + 0 ≤ _)⟩)
      dsimp only [Pt.U, Pt.locs, Pt.cells, Pt.slots] at X790 l790 y790 z790 st790 hQ790
      subst l790 y790 z790
      obtain ⟨rfl, N790q, e790⟩ := hQ790
      have N790 := Fr.app N781 N790q
      have k_791 : Go p.tables e below B0 (sf T790 m 265 #[rv b, rv d, iv 0, iv w728, iv w732, .val (.int (rdI σ719 2)), u6_660] [(.ref (ps 7)), .ref b]) := fun t q => by
       refine k_788 t ?_
       refine st790 _ ?_
       show Steps _ _ _ (sf T790 m 265 #[rv b, rv d, iv 0, iv w728, iv w732, .val (.int (rdI σ719 2)), u6_660] [(.ref (ps 7)), .ref b]) _
       exact q
      obtain ⟨T792, h792, X792, e792, W792, st792⟩ := putF X790 hx hZ hown (host := "") (Or.inl (hw _ (wd 49 rfl))) Via.refl e790 (gt_b_markedEnd w781) (w781.2.1.2.1) (Or.inl (hw _ (wd 50 rfl))) (hw _ (wd 2 rfl)) (ty := (.array .int)) (by decide) rfl rfl (g := (mkF m 265 #[rv b, rv d, iv 0, iv w728, iv w732, .val (.int (rdI σ719 2)), u6_660] [(.ref (ps 7)), .ref b])) rfl rfl (hb hby d15_265)
      have N792 := Fr.snoc X792 N790 w781.2.2.1
      have w792 := pt_b_markedEnd hw w781 W792
      have k_793 : Go p.tables e below B0 (sf T792 m 270 #[rv b, rv d, iv 0, iv w728, iv w732, .val (.int (rdI σ719 2)), u6_660] [.ref b, .ref b]) := fun t q => by
       refine k_791 t ?_
       refine st792 _ ?_
       show Steps _ _ _ (sf T792 m 268 #[rv b, rv d, iv 0, iv w728, iv w732, .val (.int (rdI σ719 2)), u6_660] []) _
       refine s_aloadN X792.here hx (hb hby d15_268) rfl rfl ?_
       refine s_aloadN X792.here hx (hb hby d15_269) rfl rfl ?_
       exact q
      obtain ⟨T794, X794, e794, st794⟩ := getF X792 hx hZ hown (host := "") (Or.inl (hw _ (wd 51 rfl))) Via.refl e792 (gt_b_touched w792) (g := (mkF m 270 #[rv b, rv d, iv 0, iv w728, iv w732, .val (.int (rdI σ719 2)), u6_660] [.ref b, .ref b])) rfl rfl (hb hby d15_270)
      have k_795 : Go p.tables e below B0 (sf T794 m 276 #[rv b, rv d, iv 0, iv w728, iv w732, .val (.int (rdI σ719 2)), u6_660] [.ref b, (.int (rdI σ719 2)), (.ref (ps 8)), .ref b]) := fun t q => by
       refine k_793 t ?_
       refine st794 _ ?_
       show Steps _ _ _ (sf T794 m 273 #[rv b, rv d, iv 0, iv w728, iv w732, .val (.int (rdI σ719 2)), u6_660] [(.ref (ps 8)), .ref b]) _
       refine s_iload X794.here hx (hb hby d15_273) rfl ?_
       refine s_aloadN X794.here hx (hb hby d15_275) rfl rfl ?_
       exact q
      obtain ⟨T796, X796, e796, st796⟩ := getF X794 hx hZ hown (host := "") (Or.inl (hw _ (wd 28 rfl))) Via.refl e794 (gt_b_states w792) (g := (mkF m 276 #[rv b, rv d, iv 0, iv w728, iv w732, .val (.int (rdI σ719 2)), u6_660] [.ref b, (.int (rdI σ719 2)), (.ref (ps 8)), .ref b])) rfl rfl (hb hby d15_276)
      have k_797 : Go p.tables e below B0 (sf T796 m 279 #[rv b, rv d, iv 0, iv w728, iv w732, .val (.int (rdI σ719 2)), u6_660] [(.ref (ps 1)), (.int (rdI σ719 2)), (.ref (ps 8)), .ref b]) := fun t q => by
       refine k_795 t ?_
       refine st796 _ ?_
       show Steps _ _ _ (sf T796 m 279 #[rv b, rv d, iv 0, iv w728, iv w732, .val (.int (rdI σ719 2)), u6_660] [(.ref (ps 1)), (.int (rdI σ719 2)), (.ref (ps 8)), .ref b]) _
       exact q
      obtain ⟨cl798, Ar798, ln798⟩ := w792.len (i := 1) (by decide)
      have k_799 : Go p.tables e below B0 (sf T796 m 280 #[rv b, rv d, iv 0, iv w728, iv w732, .val (.int (rdI σ719 2)), u6_660] [(.int (lenA σ758 1)), (.int (rdI σ719 2)), (.ref (ps 8)), .ref b]) := fun t q => by
       refine k_797 t ?_
       refine X796.arraylength hx (by rw [e796]; exact Ar798.1) (State.isArrayOf_alike hZ.alike Ar798.2.1) (g := (mkF m 279 #[rv b, rv d, iv 0, iv w728, iv w732, .val (.int (rdI σ719 2)), u6_660] [(.ref (ps 1)), (.int (rdI σ719 2)), (.ref (ps 8)), .ref b])) rfl rfl (hb hby d15_279) _ ?_
       rw [ln798]
       show Steps _ _ _ (sf T796 m 280 #[rv b, rv d, iv 0, iv w728, iv w732, .val (.int (rdI σ719 2)), u6_660] [(.int (lenA σ758 1)), (.int (rdI σ719 2)), (.ref (ps 8)), .ref b]) _
       exact q
      obtain ⟨u800, c800, hf800⟩ := Option.bind_eq_some_iff.mp hf789
      obtain ⟨cl800, Ar800, ln800⟩ := w792.len (i := 8) (by decide)
      obtain ⟨_, _, ⟨T801, L801, k801, n801⟩, -, X801, ⟨Lc801, hQ801, l801, y801, z801⟩, st801⟩ := Jvm.LawKit.callS X796 hx (y := y_14) hown (mvT hZ (hw _ (wd 135 rfl))) (mvT hZ (hw _ (wd 136 rfl))) (mvT hZ (hw _ (wd 3 rfl))) (mvT hZ (hw _ (wd 137 rfl))) (by decide) (backOf (W := 1) (wroom l Z a0 hw [] (ps 8) (rdI σ719 2) (lenA σ758 1) cl800 h792 n0 Ar800 (by rw [ln800]; exact guardI_spec c800)) hZ (hw _ (wd 137 rfl)) (hw _ (wd 3 rfl)) (by decide) (by decide)) (g := (mkF m 280 #[rv b, rv d, iv 0, iv w728, iv w732, .val (.int (rdI σ719 2)), u6_660] [(.int (lenA σ758 1)), (.int (rdI σ719 2)), (.ref (ps 8)), .ref b])) rfl (by rw [hml]; rfl) (argsL := [(.ref (ps 8)), (.int (rdI σ719 2)), (.int (lenA σ758 1))]) (rest := [.ref b]) (lenOf pd_6 rfl) rfl (by show 2 * 0 + _ ≤ _; exact Nat.le_of_eq rfl) (hb hby d15_280) (fun _ _ => ⟨rfl, e796, (by decide : 0 + 0 ≤ _), (by decide : 0 + 0 ≤ _)⟩)
      dsimp only [Pt.U, Pt.locs, Pt.cells, Pt.slots] at X801 l801 y801 z801 st801 hQ801
      subst l801 y801 z801
      obtain ⟨rfl, N801q, e801⟩ := hQ801
      have N801 := Fr.app N792 N801q
      have k_802 : Go p.tables e below B0 (sf T801 m 283 #[rv b, rv d, iv 0, iv w728, iv w732, .val (.int (rdI σ719 2)), u6_660] [(.ref (ps 8)), .ref b]) := fun t q => by
       refine k_799 t ?_
       refine st801 _ ?_
       show Steps _ _ _ (sf T801 m 283 #[rv b, rv d, iv 0, iv w728, iv w732, .val (.int (rdI σ719 2)), u6_660] [(.ref (ps 8)), .ref b]) _
       exact q
      obtain ⟨T803, h803, X803, e803, W803, st803⟩ := putF X801 hx hZ hown (host := "") (Or.inl (hw _ (wd 51 rfl))) Via.refl e801 (gt_b_touched w792) (w792.2.1.2.1) (Or.inl (hw _ (wd 52 rfl))) (hw _ (wd 2 rfl)) (ty := (.array .int)) (by decide) rfl rfl (g := (mkF m 283 #[rv b, rv d, iv 0, iv w728, iv w732, .val (.int (rdI σ719 2)), u6_660] [(.ref (ps 8)), .ref b])) rfl rfl (hb hby d15_283)
      have N803 := Fr.snoc X803 N801 w792.2.2.1
      have w803 := pt_b_touched hw w792 W803
      have k_804 : Go p.tables e below B0 (sf T803 m 287 #[rv b, rv d, iv 0, iv w728, iv w732, .val (.int (rdI σ719 2)), u6_660] [.ref b]) := fun t q => by
       refine k_802 t ?_
       refine st803 _ ?_
       show Steps _ _ _ (sf T803 m 286 #[rv b, rv d, iv 0, iv w728, iv w732, .val (.int (rdI σ719 2)), u6_660] []) _
       refine s_aloadN X803.here hx (hb hby d15_286) rfl rfl ?_
       exact q
      obtain ⟨T805, X805, e805, st805⟩ := getF X803 hx hZ hown (host := "") (Or.inl (hw _ (wd 45 rfl))) Via.refl e803 (gt_b_start w803) (g := (mkF m 287 #[rv b, rv d, iv 0, iv w728, iv w732, .val (.int (rdI σ719 2)), u6_660] [.ref b])) rfl rfl (hb hby d15_287)
      have k_806 : Go p.tables e below B0 (sf T805 m 293 #[rv b, rv d, iv 0, iv w728, iv w732, .val (.int (rdI σ719 2)), u6_660] [.ref b, (.int (rdI σ719 2)), (.ref (ps 3))]) := fun t q => by
       refine k_804 t ?_
       refine st805 _ ?_
       show Steps _ _ _ (sf T805 m 290 #[rv b, rv d, iv 0, iv w728, iv w732, .val (.int (rdI σ719 2)), u6_660] [(.ref (ps 3))]) _
       refine s_iload X805.here hx (hb hby d15_290) rfl ?_
       refine s_aloadN X805.here hx (hb hby d15_292) rfl rfl ?_
       exact q
      obtain ⟨T807, X807, e807, st807⟩ := getF X805 hx hZ hown (host := "") (Or.inl (hw _ (wd 45 rfl))) Via.refl e805 (gt_b_start w803) (g := (mkF m 293 #[rv b, rv d, iv 0, iv w728, iv w732, .val (.int (rdI σ719 2)), u6_660] [.ref b, (.int (rdI σ719 2)), (.ref (ps 3))])) rfl rfl (hb hby d15_293)
      have k_808 : Go p.tables e below B0 (sf T807 m 297 #[rv b, rv d, iv 0, iv w728, iv w732, .val (.int (rdI σ719 2)), u6_660] [.int w728, (.ref (ps 3)), (.int (rdI σ719 2)), (.ref (ps 3))]) := fun t q => by
       refine k_806 t ?_
       refine st807 _ ?_
       show Steps _ _ _ (sf T807 m 296 #[rv b, rv d, iv 0, iv w728, iv w732, .val (.int (rdI σ719 2)), u6_660] [(.ref (ps 3)), (.int (rdI σ719 2)), (.ref (ps 3))]) _
       refine s_iloadN X807.here hx (hb hby d15_296) rfl ?_
       exact q
      obtain ⟨w809, c809, hf809⟩ := Option.bind_eq_some_iff.mp hf800
      obtain ⟨cl809, Ar809, hin809, hat809⟩ := w803.rd c809
      have k_810 : Go p.tables e below B0 (sf T807 m 298 #[rv b, rv d, iv 0, iv w728, iv w732, .val (.int (rdI σ719 2)), u6_660] [.int w809, (.int (rdI σ719 2)), (.ref (ps 3))]) := fun t q => by
       refine k_808 t ?_
       refine X807.iaload hx (j := w728) (v := (.int w809)) (by rw [e807]; exact Ar809.1) (State.isArrayOf_alike hZ.alike Ar809.2.1) Ar809.2.2 hin809 hat809 (g := (mkF m 297 #[rv b, rv d, iv 0, iv w728, iv w732, .val (.int (rdI σ719 2)), u6_660] [.int w728, (.ref (ps 3)), (.int (rdI σ719 2)), (.ref (ps 3))])) rfl rfl (hb hby d15_297) _ ?_
       show Steps _ _ _ (sf T807 m 298 #[rv b, rv d, iv 0, iv w728, iv w732, .val (.int (rdI σ719 2)), u6_660] [.int w809, (.int (rdI σ719 2)), (.ref (ps 3))]) _
       exact q
      obtain ⟨σ811, c811, hf811⟩ := Option.bind_eq_some_iff.mp hf809
      obtain ⟨cl811, Ar811, hin811, gp811, nx811⟩ := w803.wr hw c811
      obtain ⟨T812, h812, X812, e812, W812, st812⟩ := stI X807 hx hZ e807 Ar811 (j := (rdI σ719 2)) hin811 (g := (mkF m 298 #[rv b, rv d, iv 0, iv w728, iv w732, .val (.int (rdI σ719 2)), u6_660] [.int w809, (.int (rdI σ719 2)), (.ref (ps 3))])) rfl rfl (hb hby d15_298)
      have w812 := nx811 _ W812
      have N812 := Fr.snoc X812 N803 gp811
      have k_813 : Go p.tables e below B0 (sf T812 m 300 #[rv b, rv d, iv 0, iv w728, iv w732, .val (.int (rdI σ719 2)), u6_660] [.ref b]) := fun t q => by
       refine k_810 t ?_
       refine st812 _ ?_
       show Steps _ _ _ (sf T812 m 299 #[rv b, rv d, iv 0, iv w728, iv w732, .val (.int (rdI σ719 2)), u6_660] []) _
       refine s_aloadN X812.here hx (hb hby d15_299) rfl rfl ?_
       exact q
      obtain ⟨T814, X814, e814, st814⟩ := getF X812 hx hZ hown (host := "") (Or.inl (hw _ (wd 47 rfl))) Via.refl e812 (gt_b_end w812) (g := (mkF m 300 #[rv b, rv d, iv 0, iv w728, iv w732, .val (.int (rdI σ719 2)), u6_660] [.ref b])) rfl rfl (hb hby d15_300)
      have k_815 : Go p.tables e below B0 (sf T814 m 307 #[rv b, rv d, iv 0, iv w728, iv w732, .val (.int (rdI σ719 2)), u6_660] [.int w732, (.int (rdI σ719 2)), (.ref (ps 4))]) := fun t q => by
       refine k_813 t ?_
       refine st814 _ ?_
       show Steps _ _ _ (sf T814 m 303 #[rv b, rv d, iv 0, iv w728, iv w732, .val (.int (rdI σ719 2)), u6_660] [(.ref (ps 4))]) _
       refine s_iload X814.here hx (hb hby d15_303) rfl ?_
       refine s_iload X814.here hx (hb hby d15_305) rfl ?_
       exact q
      obtain ⟨σ816, c816, hf816⟩ := Option.bind_eq_some_iff.mp hf811
      obtain ⟨cl816, Ar816, hin816, gp816, nx816⟩ := w812.wr hw c816
      obtain ⟨T817, h817, X817, e817, W817, st817⟩ := stI X814 hx hZ e814 Ar816 (j := (rdI σ719 2)) hin816 (g := (mkF m 307 #[rv b, rv d, iv 0, iv w728, iv w732, .val (.int (rdI σ719 2)), u6_660] [.int w732, (.int (rdI σ719 2)), (.ref (ps 4))])) rfl rfl (hb hby d15_307)
      have w817 := nx816 _ W817
      have N817 := Fr.snoc X817 N812 gp816
      have k_818 : Go p.tables e below B0 (sf T817 m 309 #[rv b, rv d, iv 0, iv w728, iv w732, .val (.int (rdI σ719 2)), u6_660] [.ref b]) := fun t q => by
       refine k_815 t ?_
       refine st817 _ ?_
       show Steps _ _ _ (sf T817 m 308 #[rv b, rv d, iv 0, iv w728, iv w732, .val (.int (rdI σ719 2)), u6_660] []) _
       refine s_aloadN X817.here hx (hb hby d15_308) rfl rfl ?_
       exact q
      obtain ⟨T819, X819, e819, st819⟩ := getF X817 hx hZ hown (host := "") (Or.inl (hw _ (wd 49 rfl))) Via.refl e817 (gt_b_markedEnd w817) (g := (mkF m 309 #[rv b, rv d, iv 0, iv w728, iv w732, .val (.int (rdI σ719 2)), u6_660] [.ref b])) rfl rfl (hb hby d15_309)
      have k_820 : Go p.tables e below B0 (sf T819 m 315 #[rv b, rv d, iv 0, iv w728, iv w732, .val (.int (rdI σ719 2)), u6_660] [.ref b, (.int (rdI σ719 2)), (.ref (ps 7))]) := fun t q => by
       refine k_818 t ?_
       refine st819 _ ?_
       show Steps _ _ _ (sf T819 m 312 #[rv b, rv d, iv 0, iv w728, iv w732, .val (.int (rdI σ719 2)), u6_660] [(.ref (ps 7))]) _
       refine s_iload X819.here hx (hb hby d15_312) rfl ?_
       refine s_aloadN X819.here hx (hb hby d15_314) rfl rfl ?_
       exact q
      obtain ⟨T821, X821, e821, st821⟩ := getF X819 hx hZ hown (host := "") (Or.inl (hw _ (wd 45 rfl))) Via.refl e819 (gt_b_start w817) (g := (mkF m 315 #[rv b, rv d, iv 0, iv w728, iv w732, .val (.int (rdI σ719 2)), u6_660] [.ref b, (.int (rdI σ719 2)), (.ref (ps 7))])) rfl rfl (hb hby d15_315)
      have k_822 : Go p.tables e below B0 (sf T821 m 320 #[rv b, rv d, iv 0, iv w728, iv w732, .val (.int (rdI σ719 2)), u6_660] [(.int (rdI σ719 2)), (.ref (ps 3)), (.int (rdI σ719 2)), (.ref (ps 7))]) := fun t q => by
       refine k_820 t ?_
       refine st821 _ ?_
       show Steps _ _ _ (sf T821 m 318 #[rv b, rv d, iv 0, iv w728, iv w732, .val (.int (rdI σ719 2)), u6_660] [(.ref (ps 3)), (.int (rdI σ719 2)), (.ref (ps 7))]) _
       refine s_iload X821.here hx (hb hby d15_318) rfl ?_
       exact q
      obtain ⟨w823, c823, hf823⟩ := Option.bind_eq_some_iff.mp hf816
      obtain ⟨cl823, Ar823, hin823, hat823⟩ := w817.rd c823
      have k_824 : Go p.tables e below B0 (sf T821 m 321 #[rv b, rv d, iv 0, iv w728, iv w732, .val (.int (rdI σ719 2)), u6_660] [.int w823, (.int (rdI σ719 2)), (.ref (ps 7))]) := fun t q => by
       refine k_822 t ?_
       refine X821.iaload hx (j := (rdI σ719 2)) (v := (.int w823)) (by rw [e821]; exact Ar823.1) (State.isArrayOf_alike hZ.alike Ar823.2.1) Ar823.2.2 hin823 hat823 (g := (mkF m 320 #[rv b, rv d, iv 0, iv w728, iv w732, .val (.int (rdI σ719 2)), u6_660] [(.int (rdI σ719 2)), (.ref (ps 3)), (.int (rdI σ719 2)), (.ref (ps 7))])) rfl rfl (hb hby d15_320) _ ?_
       show Steps _ _ _ (sf T821 m 321 #[rv b, rv d, iv 0, iv w728, iv w732, .val (.int (rdI σ719 2)), u6_660] [.int w823, (.int (rdI σ719 2)), (.ref (ps 7))]) _
       exact q
      obtain ⟨σ825, c825, hf825⟩ := Option.bind_eq_some_iff.mp hf823
      obtain ⟨cl825, Ar825, hin825, gp825, nx825⟩ := w817.wr hw c825
      obtain ⟨T826, h826, X826, e826, W826, st826⟩ := stI X821 hx hZ e821 Ar825 (j := (rdI σ719 2)) hin825 (g := (mkF m 321 #[rv b, rv d, iv 0, iv w728, iv w732, .val (.int (rdI σ719 2)), u6_660] [.int w823, (.int (rdI σ719 2)), (.ref (ps 7))])) rfl rfl (hb hby d15_321)
      have w826 := nx825 _ W826
      have N826 := Fr.snoc X826 N817 gp825
      have k_827 : Go p.tables e below B0 (sf T826 m 323 #[rv b, rv d, iv 0, iv w728, iv w732, .val (.int (rdI σ719 2)), u6_660] [.ref b]) := fun t q => by
       refine k_824 t ?_
       refine st826 _ ?_
       show Steps _ _ _ (sf T826 m 322 #[rv b, rv d, iv 0, iv w728, iv w732, .val (.int (rdI σ719 2)), u6_660] []) _
       refine s_aloadN X826.here hx (hb hby d15_322) rfl rfl ?_
       exact q
      obtain ⟨T828, X828, e828, st828⟩ := getF X826 hx hZ hown (host := "") (Or.inl (hw _ (wd 45 rfl))) Via.refl e826 (gt_b_start w826) (g := (mkF m 323 #[rv b, rv d, iv 0, iv w728, iv w732, .val (.int (rdI σ719 2)), u6_660] [.ref b])) rfl rfl (hb hby d15_323)
      have k_829 : Go p.tables e below B0 (sf T828 m 329 #[rv b, rv d, iv 0, iv w728, iv w732, .val (.int (rdI σ719 2)), u6_660] [.int w732, .int w728, (.ref (ps 3))]) := fun t q => by
       refine k_827 t ?_
       refine st828 _ ?_
       show Steps _ _ _ (sf T828 m 326 #[rv b, rv d, iv 0, iv w728, iv w732, .val (.int (rdI σ719 2)), u6_660] [(.ref (ps 3))]) _
       refine s_iloadN X828.here hx (hb hby d15_326) rfl ?_
       refine s_iload X828.here hx (hb hby d15_327) rfl ?_
       exact q
      obtain ⟨σ830, c830, hf830⟩ := Option.bind_eq_some_iff.mp hf825
      obtain ⟨cl830, Ar830, hin830, gp830, nx830⟩ := w826.wr hw c830
      obtain ⟨T831, h831, X831, e831, W831, st831⟩ := stI X828 hx hZ e828 Ar830 (j := w728) hin830 (g := (mkF m 329 #[rv b, rv d, iv 0, iv w728, iv w732, .val (.int (rdI σ719 2)), u6_660] [.int w732, .int w728, (.ref (ps 3))])) rfl rfl (hb hby d15_329)
      have w831 := nx830 _ W831
      have N831 := Fr.snoc X831 N826 gp830
      have k_832 : Go p.tables e below B0 (sf T831 m 331 #[rv b, rv d, iv 0, iv w728, iv w732, .val (.int (rdI σ719 2)), u6_660] [.ref b]) := fun t q => by
       refine k_829 t ?_
       refine st831 _ ?_
       show Steps _ _ _ (sf T831 m 330 #[rv b, rv d, iv 0, iv w728, iv w732, .val (.int (rdI σ719 2)), u6_660] []) _
       refine s_aloadN X831.here hx (hb hby d15_330) rfl rfl ?_
       exact q
      obtain ⟨T833, X833, e833, st833⟩ := getF X831 hx hZ hown (host := "") (Or.inl (hw _ (wd 45 rfl))) Via.refl e831 (gt_b_start w831) (g := (mkF m 331 #[rv b, rv d, iv 0, iv w728, iv w732, .val (.int (rdI σ719 2)), u6_660] [.ref b])) rfl rfl (hb hby d15_331)
      have k_834 : Go p.tables e below B0 (sf T833 m 336 #[rv b, rv d, iv 0, iv w728, iv w732, .val (.int (rdI σ719 2)), u6_660] [(.int (rdI σ719 2)), (.ref (ps 3))]) := fun t q => by
       refine k_832 t ?_
       refine st833 _ ?_
       show Steps _ _ _ (sf T833 m 334 #[rv b, rv d, iv 0, iv w728, iv w732, .val (.int (rdI σ719 2)), u6_660] [(.ref (ps 3))]) _
       refine s_iload X833.here hx (hb hby d15_334) rfl ?_
       exact q
      obtain ⟨w835, c835, hf835⟩ := Option.bind_eq_some_iff.mp hf830
      obtain ⟨cl835, Ar835, hin835, hat835⟩ := w831.rd c835
      have k_836 : Go p.tables e below B0 (sf T833 m 339 #[rv b, rv d, iv 0, iv w728, iv w732, .val (.int (rdI σ719 2)), iv w835] []) := fun t q => by
       refine k_834 t ?_
       refine X833.iaload hx (j := (rdI σ719 2)) (v := (.int w835)) (by rw [e833]; exact Ar835.1) (State.isArrayOf_alike hZ.alike Ar835.2.1) Ar835.2.2 hin835 hat835 (g := (mkF m 336 #[rv b, rv d, iv 0, iv w728, iv w732, .val (.int (rdI σ719 2)), u6_660] [(.int (rdI σ719 2)), (.ref (ps 3))])) rfl rfl (hb hby d15_336) _ ?_
       show Steps _ _ _ (sf T833 m 337 #[rv b, rv d, iv 0, iv w728, iv w732, .val (.int (rdI σ719 2)), u6_660] [.int w835]) _
       refine XS.istoreS X833.here hx rfl (hb hby d15_337) rfl rfl hu6_660 ?_
       show Steps _ _ _ (sf T833 m 339 #[rv b, rv d, iv 0, iv w728, iv w732, .val (.int (rdI σ719 2)), iv w835] []) _
       exact q
      exact lp339 20 σ830 w728 w732 (rdI σ719 2) w835  T833 _ X833 N831 (by rw [e833]; exact w831)  k_836 hf835
    ·rw [if_neg hc724] at hf719
     have k_837 : Go p.tables e below B0 (sf T722 m 400 #[rv b, rv d, iv 0, u3_660, u4_660, u5_660, u6_660] [.int 0, .ref b]) := fun t q => by
      refine k_723 t ?_
      refine s_icmpYes X722.here hx (pc' := 398) (hb hby d15_174) (flt hc724).2.1 (by decide) (by decide) ?_
      refine s_aloadN X722.here hx (hb hby d15_398) rfl rfl ?_
      refine s_iconst (x := 0) X722.here hx (hb hby d15_399) rfl ?_
      exact q
     obtain ⟨σ838, c838, hf838⟩ := Option.bind_eq_some_iff.mp hf719
     obtain ⟨T839, h839, X839, e839, W839, st839⟩ := putF X722 hx hZ hown (host := "") (Or.inl (hw _ (wd 116 rfl))) Via.refl e722 (gt_b_touchedCount w720) (w720.2.1.2.1) (Or.inl (hw _ (wd 117 rfl))) (hw _ (wd 2 rfl)) (ty := .int) (by decide) rfl rfl (g := (mkF m 400 #[rv b, rv d, iv 0, u3_660, u4_660, u5_660, u6_660] [.int 0, .ref b])) rfl rfl (hb hby d15_400)
     have N839 := Fr.snoc X839 N720 w720.2.2.1
     have w839 := pt_b_touchedCount hw w720 W839
     rw [Option.some.inj c838] at w839
     have k_840 : Go p.tables e below B0 (sf T839 m 403 #[rv b, rv d, iv 0, u3_660, u4_660, u5_660, u6_660] []) := fun t q => by
      refine k_837 t ?_
      refine st839 _ ?_
      show Steps _ _ _ (sf T839 m 403 #[rv b, rv d, iv 0, u3_660, u4_660, u5_660, u6_660] []) _
      exact q
     obtain rfl := Option.some.inj hf838
     obtain ⟨fs, hr, hrun, hended, hW, hsame⟩ := X839.leave (v := none) (fun _ => rfl)
     refine ⟨_, _, k_840 _ ?_, hrun, hended, _, _, rfl, ?_, ⟨_, rfl⟩, hW, hsame.mono (by decide) (by decide)⟩
     ·exact X839.returnOut hx Bd.returns (hb hby d15_403) hr
     ·show QW Z n0 b d ps σ838 none _ T839.heap _
      rw [e839]
      exact ⟨rfl, N839, w839⟩
 have k_841 : Go p.tables e below B0 (sf s₁ m 4 #[rv b, rv d, iv 0, nu, nu, nu, nu] [.ref b, .int 0]) := fun t q => by
  refine k0 t ?_
  refine s_iconst (x := 0) X0.here hx (hb hby d15_0) rfl ?_
  refine s_istoreN X0.here hx (hb hby d15_1) (l' := #[rv b, rv d, iv 0, nu, nu, nu, nu]) rfl ?_
  refine s_iloadN X0.here hx (hb hby d15_2) rfl ?_
  refine s_aloadN X0.here hx (hb hby d15_3) rfl rfl ?_
  exact q
 obtain ⟨T842, X842, e842, st842⟩ := getF X0 hx hZ hown (host := "") (Or.inl (hw _ (wd 116 rfl))) Via.refl e0 (gt_b_touchedCount W0) (g := (mkF m 4 #[rv b, rv d, iv 0, nu, nu, nu, nu] [.ref b, .int 0])) rfl rfl (hb hby d15_4)
 have k_843 : Go p.tables e below B0 (sf T842 m 7 #[rv b, rv d, iv 0, nu, nu, nu, nu] [(.int (rdI σ 1)), .int 0]) := fun t q => by
  refine k_841 t ?_
  refine st842 _ ?_
  show Steps _ _ _ (sf T842 m 7 #[rv b, rv d, iv 0, nu, nu, nu, nu] [(.int (rdI σ 1)), .int 0]) _
  exact q
 by_cases hc844 : (0 : Int32) < (rdI σ 1)
 ·rw [if_pos hc844] at hf
  have k_845 : Go p.tables e below B0 (sf T842 m 11 #[rv b, rv d, iv 0, nu, nu, nu, nu] [.ref b]) := fun t q => by
   refine k_843 t ?_
   refine s_icmpNo X842.here hx (hb hby d15_7) (tlt hc844).2.1 ?_
   refine s_aloadN X842.here hx (hb hby d15_10) rfl rfl ?_
   exact q
  obtain ⟨T846, X846, e846, st846⟩ := getF X842 hx hZ hown (host := "") (Or.inl (hw _ (wd 51 rfl))) Via.refl e842 (gt_b_touched W0) (g := (mkF m 11 #[rv b, rv d, iv 0, nu, nu, nu, nu] [.ref b])) rfl rfl (hb hby d15_11)
  have k_847 : Go p.tables e below B0 (sf T846 m 15 #[rv b, rv d, iv 0, nu, nu, nu, nu] [.int 0, (.ref (ps 8))]) := fun t q => by
   refine k_845 t ?_
   refine st846 _ ?_
   show Steps _ _ _ (sf T846 m 14 #[rv b, rv d, iv 0, nu, nu, nu, nu] [(.ref (ps 8))]) _
   refine s_iloadN X846.here hx (hb hby d15_14) rfl ?_
   exact q
  obtain ⟨w848, c848, hf848⟩ := Option.bind_eq_some_iff.mp hf
  obtain ⟨cl848, Ar848, hin848, hat848⟩ := W0.rd c848
  have k_849 : Go p.tables e below B0 (sf T846 m 18 #[rv b, rv d, iv 0, iv w848, nu, nu, nu] [.ref b]) := fun t q => by
   refine k_847 t ?_
   refine X846.iaload hx (j := (0 : Int32)) (v := (.int w848)) (by rw [e846]; exact Ar848.1) (State.isArrayOf_alike hZ.alike Ar848.2.1) Ar848.2.2 hin848 hat848 (g := (mkF m 15 #[rv b, rv d, iv 0, nu, nu, nu, nu] [.int 0, (.ref (ps 8))])) rfl rfl (hb hby d15_15) _ ?_
   show Steps _ _ _ (sf T846 m 16 #[rv b, rv d, iv 0, nu, nu, nu, nu] [.int w848]) _
   refine s_istoreN X846.here hx (hb hby d15_16) (l' := #[rv b, rv d, iv 0, iv w848, nu, nu, nu]) rfl ?_
   refine s_aloadN X846.here hx (hb hby d15_17) rfl rfl ?_
   exact q
  obtain ⟨T850, X850, e850, st850⟩ := getF X846 hx hZ hown (host := "") (Or.inl (hw _ (wd 49 rfl))) Via.refl e846 (gt_b_markedEnd W0) (g := (mkF m 18 #[rv b, rv d, iv 0, iv w848, nu, nu, nu] [.ref b])) rfl rfl (hb hby d15_18)
  have k_851 : Go p.tables e below B0 (sf T850 m 23 #[rv b, rv d, iv 0, iv w848, nu, nu, nu] [.ref b, .int w848, (.ref (ps 7))]) := fun t q => by
   refine k_849 t ?_
   refine st850 _ ?_
   show Steps _ _ _ (sf T850 m 21 #[rv b, rv d, iv 0, iv w848, nu, nu, nu] [(.ref (ps 7))]) _
   refine s_iloadN X850.here hx (hb hby d15_21) rfl ?_
   refine s_aloadN X850.here hx (hb hby d15_22) rfl rfl ?_
   exact q
  obtain ⟨T852, X852, e852, st852⟩ := getF X850 hx hZ hown (host := "") (Or.inl (hw _ (wd 49 rfl))) Via.refl e850 (gt_b_markedEnd W0) (g := (mkF m 23 #[rv b, rv d, iv 0, iv w848, nu, nu, nu] [.ref b, .int w848, (.ref (ps 7))])) rfl rfl (hb hby d15_23)
  have k_853 : Go p.tables e below B0 (sf T852 m 27 #[rv b, rv d, iv 0, iv w848, nu, nu, nu] [.int w848, (.ref (ps 7)), .int w848, (.ref (ps 7))]) := fun t q => by
   refine k_851 t ?_
   refine st852 _ ?_
   show Steps _ _ _ (sf T852 m 26 #[rv b, rv d, iv 0, iv w848, nu, nu, nu] [(.ref (ps 7)), .int w848, (.ref (ps 7))]) _
   refine s_iloadN X852.here hx (hb hby d15_26) rfl ?_
   exact q
  obtain ⟨w854, c854, hf854⟩ := Option.bind_eq_some_iff.mp hf848
  obtain ⟨cl854, Ar854, hin854, hat854⟩ := W0.rd c854
  have k_855 : Go p.tables e below B0 (sf T852 m 29 #[rv b, rv d, iv 0, iv w848, nu, nu, nu] [.ref b, .int w854, .int w848, (.ref (ps 7))]) := fun t q => by
   refine k_853 t ?_
   refine X852.iaload hx (j := w848) (v := (.int w854)) (by rw [e852]; exact Ar854.1) (State.isArrayOf_alike hZ.alike Ar854.2.1) Ar854.2.2 hin854 hat854 (g := (mkF m 27 #[rv b, rv d, iv 0, iv w848, nu, nu, nu] [.int w848, (.ref (ps 7)), .int w848, (.ref (ps 7))])) rfl rfl (hb hby d15_27) _ ?_
   show Steps _ _ _ (sf T852 m 28 #[rv b, rv d, iv 0, iv w848, nu, nu, nu] [.int w854, .int w848, (.ref (ps 7))]) _
   refine s_aloadN X852.here hx (hb hby d15_28) rfl rfl ?_
   exact q
  obtain ⟨T856, X856, e856, st856⟩ := getF X852 hx hZ hown (host := "") (Or.inl (hw _ (wd 47 rfl))) Via.refl e852 (gt_b_end W0) (g := (mkF m 29 #[rv b, rv d, iv 0, iv w848, nu, nu, nu] [.ref b, .int w854, .int w848, (.ref (ps 7))])) rfl rfl (hb hby d15_29)
  have k_857 : Go p.tables e below B0 (sf T856 m 33 #[rv b, rv d, iv 0, iv w848, nu, nu, nu] [.int w848, (.ref (ps 4)), .int w854, .int w848, (.ref (ps 7))]) := fun t q => by
   refine k_855 t ?_
   refine st856 _ ?_
   show Steps _ _ _ (sf T856 m 32 #[rv b, rv d, iv 0, iv w848, nu, nu, nu] [(.ref (ps 4)), .int w854, .int w848, (.ref (ps 7))]) _
   refine s_iloadN X856.here hx (hb hby d15_32) rfl ?_
   exact q
  obtain ⟨w858, c858, hf858⟩ := Option.bind_eq_some_iff.mp hf854
  obtain ⟨cl858, Ar858, hin858, hat858⟩ := W0.rd c858
  have k_859 : Go p.tables e below B0 (sf T856 m 34 #[rv b, rv d, iv 0, iv w848, nu, nu, nu] [.int w858, .int w854, .int w848, (.ref (ps 7))]) := fun t q => by
   refine k_857 t ?_
   refine X856.iaload hx (j := w848) (v := (.int w858)) (by rw [e856]; exact Ar858.1) (State.isArrayOf_alike hZ.alike Ar858.2.1) Ar858.2.2 hin858 hat858 (g := (mkF m 33 #[rv b, rv d, iv 0, iv w848, nu, nu, nu] [.int w848, (.ref (ps 4)), .int w854, .int w848, (.ref (ps 7))])) rfl rfl (hb hby d15_33) _ ?_
   show Steps _ _ _ (sf T856 m 34 #[rv b, rv d, iv 0, iv w848, nu, nu, nu] [.int w858, .int w854, .int w848, (.ref (ps 7))]) _
   exact q
  by_cases hc860 : w854 = w858
  ·rw [if_pos hc860] at hf858
   have k_861 : Go p.tables e below B0 (sf T856 m 47 #[rv b, rv d, iv 0, iv w848, nu, nu, nu] [(.int (-1 : Int32)), .int w848, (.ref (ps 7))]) := fun t q => by
    refine k_859 t ?_
    refine s_icmpNo X856.here hx (hb hby d15_34) (teq hc860).2 ?_
    refine s_iconst (x := -1) X856.here hx (hb hby d15_37) rfl ?_
    refine s_goto X856.here hx (pc' := 47) (hb hby d15_38) (by decide) (by decide) ?_
    exact q
   obtain ⟨σ862, c862, hf862⟩ := Option.bind_eq_some_iff.mp hf858
   obtain ⟨cl862, Ar862, hin862, gp862, nx862⟩ := W0.wr hw c862
   obtain ⟨T863, h863, X863, e863, W863, st863⟩ := stI X856 hx hZ e856 Ar862 (j := w848) hin862 (g := (mkF m 47 #[rv b, rv d, iv 0, iv w848, nu, nu, nu] [(.int (-1 : Int32)), .int w848, (.ref (ps 7))])) rfl rfl (hb hby d15_47)
   have w863 := nx862 _ W863
   have N863 := Fr.snoc X863 N0 gp862
   have k_864 : Go p.tables e below B0 (sf T863 m 4 #[rv b, rv d, iv 1, iv w848, nu, nu, nu] [.ref b, .int 1]) := fun t q => by
    refine k_861 t ?_
    refine st863 _ ?_
    show Steps _ _ _ (sf T863 m 48 #[rv b, rv d, iv 0, iv w848, nu, nu, nu] []) _
    refine s_iinc X863.here hx (hb hby d15_48) rfl (l' := #[rv b, rv d, .val (.int ((0 : Int32) + (1 : Int32))), iv w848, nu, nu, nu]) rfl ?_
    rw [show ((0 : Int32) + (1 : Int32)) = (1 : Int32) from by decide]
    show Steps _ _ _ (sf T863 m 51 #[rv b, rv d, iv 1, iv w848, nu, nu, nu] []) _
    refine s_goto X863.here hx (pc' := 2) (hb hby d15_51) (by decide) (by decide) ?_
    refine s_iloadN X863.here hx (hb hby d15_2) rfl ?_
    refine s_aloadN X863.here hx (hb hby d15_3) rfl rfl ?_
    exact q
   obtain ⟨T865, X865, e865, st865⟩ := getF X863 hx hZ hown (host := "") (Or.inl (hw _ (wd 116 rfl))) Via.refl e863 (gt_b_touchedCount w863) (g := (mkF m 4 #[rv b, rv d, iv 1, iv w848, nu, nu, nu] [.ref b, .int 1])) rfl rfl (hb hby d15_4)
   have k_866 : Go p.tables e below B0 (sf T865 m 7 #[rv b, rv d, iv 1, iv w848, nu, nu, nu] [(.int (rdI σ862 1)), .int 1]) := fun t q => by
    refine k_864 t ?_
    refine st865 _ ?_
    show Steps _ _ _ (sf T865 m 7 #[rv b, rv d, iv 1, iv w848, nu, nu, nu] [(.int (rdI σ862 1)), .int 1]) _
    exact q
   by_cases hc867 : (1 : Int32) < (rdI σ862 1)
   ·rw [if_pos hc867] at hf862
    have k_868 : Go p.tables e below B0 (sf T865 m 10 #[rv b, rv d, iv 1, iv w848, nu, nu, nu] []) := fun t q => by
     refine k_866 t ?_
     refine s_icmpNo X865.here hx (hb hby d15_7) (tlt hc867).2.1 ?_
     exact q
    cases hf862
   ·rw [if_neg hc867] at hf862
    have k_869 : Go p.tables e below B0 (sf T865 m 56 #[rv b, rv d, iv 0, iv w848, nu, nu, nu] []) := fun t q => by
     refine k_866 t ?_
     refine s_icmpYes X865.here hx (pc' := 54) (hb hby d15_7) (flt hc867).2.1 (by decide) (by decide) ?_
     refine s_iconst (x := 0) X865.here hx (hb hby d15_54) rfl ?_
     refine s_istoreN X865.here hx (hb hby d15_55) (l' := #[rv b, rv d, iv 0, iv w848, nu, nu, nu]) rfl ?_
     exact q
    exact lp56 20 σ862 (0 : Int32) (iv w848) (nu) (nu) (nu) T865 _ X865 N863 (by rw [e865]; exact w863) (Or.inr ⟨_, rfl, rfl⟩) (Or.inl rfl) (Or.inl rfl) (Or.inl rfl) k_869 hf862
  ·rw [if_neg hc860] at hf858
   have k_870 : Go p.tables e below B0 (sf T856 m 42 #[rv b, rv d, iv 0, iv w848, nu, nu, nu] [.ref b, .int w848, (.ref (ps 7))]) := fun t q => by
    refine k_859 t ?_
    refine s_icmpYes X856.here hx (pc' := 41) (hb hby d15_34) (feq hc860).2 (by decide) (by decide) ?_
    refine s_aloadN X856.here hx (hb hby d15_41) rfl rfl ?_
    exact q
   obtain ⟨T871, X871, e871, st871⟩ := getF X856 hx hZ hown (host := "") (Or.inl (hw _ (wd 45 rfl))) Via.refl e856 (gt_b_start W0) (g := (mkF m 42 #[rv b, rv d, iv 0, iv w848, nu, nu, nu] [.ref b, .int w848, (.ref (ps 7))])) rfl rfl (hb hby d15_42)
   have k_872 : Go p.tables e below B0 (sf T871 m 46 #[rv b, rv d, iv 0, iv w848, nu, nu, nu] [.int w848, (.ref (ps 3)), .int w848, (.ref (ps 7))]) := fun t q => by
    refine k_870 t ?_
    refine st871 _ ?_
    show Steps _ _ _ (sf T871 m 45 #[rv b, rv d, iv 0, iv w848, nu, nu, nu] [(.ref (ps 3)), .int w848, (.ref (ps 7))]) _
    refine s_iloadN X871.here hx (hb hby d15_45) rfl ?_
    exact q
   obtain ⟨w873, c873, hf873⟩ := Option.bind_eq_some_iff.mp hf858
   obtain ⟨cl873, Ar873, hin873, hat873⟩ := W0.rd c873
   have k_874 : Go p.tables e below B0 (sf T871 m 47 #[rv b, rv d, iv 0, iv w848, nu, nu, nu] [.int w873, .int w848, (.ref (ps 7))]) := fun t q => by
    refine k_872 t ?_
    refine X871.iaload hx (j := w848) (v := (.int w873)) (by rw [e871]; exact Ar873.1) (State.isArrayOf_alike hZ.alike Ar873.2.1) Ar873.2.2 hin873 hat873 (g := (mkF m 46 #[rv b, rv d, iv 0, iv w848, nu, nu, nu] [.int w848, (.ref (ps 3)), .int w848, (.ref (ps 7))])) rfl rfl (hb hby d15_46) _ ?_
    show Steps _ _ _ (sf T871 m 47 #[rv b, rv d, iv 0, iv w848, nu, nu, nu] [.int w873, .int w848, (.ref (ps 7))]) _
    exact q
   obtain ⟨σ875, c875, hf875⟩ := Option.bind_eq_some_iff.mp hf873
   obtain ⟨cl875, Ar875, hin875, gp875, nx875⟩ := W0.wr hw c875
   obtain ⟨T876, h876, X876, e876, W876, st876⟩ := stI X871 hx hZ e871 Ar875 (j := w848) hin875 (g := (mkF m 47 #[rv b, rv d, iv 0, iv w848, nu, nu, nu] [.int w873, .int w848, (.ref (ps 7))])) rfl rfl (hb hby d15_47)
   have w876 := nx875 _ W876
   have N876 := Fr.snoc X876 N0 gp875
   have k_877 : Go p.tables e below B0 (sf T876 m 4 #[rv b, rv d, iv 1, iv w848, nu, nu, nu] [.ref b, .int 1]) := fun t q => by
    refine k_874 t ?_
    refine st876 _ ?_
    show Steps _ _ _ (sf T876 m 48 #[rv b, rv d, iv 0, iv w848, nu, nu, nu] []) _
    refine s_iinc X876.here hx (hb hby d15_48) rfl (l' := #[rv b, rv d, .val (.int ((0 : Int32) + (1 : Int32))), iv w848, nu, nu, nu]) rfl ?_
    rw [show ((0 : Int32) + (1 : Int32)) = (1 : Int32) from by decide]
    show Steps _ _ _ (sf T876 m 51 #[rv b, rv d, iv 1, iv w848, nu, nu, nu] []) _
    refine s_goto X876.here hx (pc' := 2) (hb hby d15_51) (by decide) (by decide) ?_
    refine s_iloadN X876.here hx (hb hby d15_2) rfl ?_
    refine s_aloadN X876.here hx (hb hby d15_3) rfl rfl ?_
    exact q
   obtain ⟨T878, X878, e878, st878⟩ := getF X876 hx hZ hown (host := "") (Or.inl (hw _ (wd 116 rfl))) Via.refl e876 (gt_b_touchedCount w876) (g := (mkF m 4 #[rv b, rv d, iv 1, iv w848, nu, nu, nu] [.ref b, .int 1])) rfl rfl (hb hby d15_4)
   have k_879 : Go p.tables e below B0 (sf T878 m 7 #[rv b, rv d, iv 1, iv w848, nu, nu, nu] [(.int (rdI σ875 1)), .int 1]) := fun t q => by
    refine k_877 t ?_
    refine st878 _ ?_
    show Steps _ _ _ (sf T878 m 7 #[rv b, rv d, iv 1, iv w848, nu, nu, nu] [(.int (rdI σ875 1)), .int 1]) _
    exact q
   by_cases hc880 : (1 : Int32) < (rdI σ875 1)
   ·rw [if_pos hc880] at hf875
    have k_881 : Go p.tables e below B0 (sf T878 m 10 #[rv b, rv d, iv 1, iv w848, nu, nu, nu] []) := fun t q => by
     refine k_879 t ?_
     refine s_icmpNo X878.here hx (hb hby d15_7) (tlt hc880).2.1 ?_
     exact q
    cases hf875
   ·rw [if_neg hc880] at hf875
    have k_882 : Go p.tables e below B0 (sf T878 m 56 #[rv b, rv d, iv 0, iv w848, nu, nu, nu] []) := fun t q => by
     refine k_879 t ?_
     refine s_icmpYes X878.here hx (pc' := 54) (hb hby d15_7) (flt hc880).2.1 (by decide) (by decide) ?_
     refine s_iconst (x := 0) X878.here hx (hb hby d15_54) rfl ?_
     refine s_istoreN X878.here hx (hb hby d15_55) (l' := #[rv b, rv d, iv 0, iv w848, nu, nu, nu]) rfl ?_
     exact q
    exact lp56 20 σ875 (0 : Int32) (iv w848) (nu) (nu) (nu) T878 _ X878 N876 (by rw [e878]; exact w876) (Or.inr ⟨_, rfl, rfl⟩) (Or.inl rfl) (Or.inl rfl) (Or.inl rfl) k_882 hf875
 ·rw [if_neg hc844] at hf
  have k_883 : Go p.tables e below B0 (sf T842 m 56 #[rv b, rv d, iv 0, nu, nu, nu, nu] []) := fun t q => by
   refine k_843 t ?_
   refine s_icmpYes X842.here hx (pc' := 54) (hb hby d15_7) (flt hc844).2.1 (by decide) (by decide) ?_
   refine s_iconst (x := 0) X842.here hx (hb hby d15_54) rfl ?_
   refine s_istoreN X842.here hx (hb hby d15_55) (l' := #[rv b, rv d, iv 0, nu, nu, nu, nu]) rfl ?_
   exact q
  exact lp56 20 σ (0 : Int32) (nu) (nu) (nu) (nu) T842 _ X842 N0 (by rw [e842]; exact W0) (Or.inl rfl) (Or.inl rfl) (Or.inl rfl) (Or.inl rfl) k_883 hf
def fMarkIf (σ : St) (q1 q2 : Int32) : Option (Int32 × St) := if (((q1.toUInt32 >>> (q2 &&& 31).toUInt32).toInt32) &&& (1 : Int32)) = (0 : Int32) then (some ((0 : Int32), σ)) else ((fMark σ q2).bind fun z888 => some ((0 : Int32), z888.2))
set_option maxRecDepth 65536 in
set_option maxHeartbeats 40000000 in
theorem fMarkIf_ok (l : Launch) (Z : State) (a0 : Array Value) (hw : ∀ d ∈ tables_1, d.before a0 Z = true) (ws : List Jvm.Cond) (b d : Addr) (ps : Nat → Addr) (σ : St) (q1 q2 : Int32) (h0 : Heap) (n0 : Nat) (W0 : Wd Z n0 h0 b d ps σ) (r : Int32 × St) (hf : fMarkIf σ q1 q2 = some r) :
  MetFree l y_19 (head1 (Jvm.Cond.code y_19 method_3_code 3 none :: ws) ({ frames := 1, cells := 0, slots := 0, locals := 14 } : Room)) (fun a U => a = #[.ref b, .int q1, .int q2] ∧ Z.Warmed39 U.vm ∧ U.heap = h0) (fun _ _ _ _ _ => True) (fun _ U o U' => ∃ v L, o = .returned v ∧ QW Z n0 b d ps r.2 none v U'.heap L ∧ FrameEnd U o U' L ({ frames := 1, cells := 0, slots := 0, locals := 14 } : Room).cells ({ frames := 1, cells := 0, slots := 0, locals := 14 } : Room).slots) := by
 refine MetFree.of_bodySF (plainFor_of_name pn_2) hisR ?_
 intro p e s m args below meth c s₁ Bd hml0 hP hK
 obtain ⟨rfl, hZ, hh⟩ := hP
 have hx := Bd.exec
 have hby := Bd.bytes
 have hml : c.maxLocals = 3 := hml0
 have hown : s.vm.findClass "com/example/states_into_classes/statesintoclasses/engine/BlockSidesFullestPinLaw" = some m.cls := findClass_of_methodNamed Bd.named
 have hnm := (name_of_methodNamed Bd.named Bd.method).1
 have X0 : Stand p l e ({ frames := 1, cells := 0, slots := 0, locals := 14 } : Room) s m #[.ref b, .int q1, .int q2] below meth c s₁ [] 0 0 := Stand.of_body Bd
 have e0 : s₁.heap = h0 := by rw [← hh, Bd.state]; rfl
 have N0 := Fr.nil n0
 have K0 := Keep.refl h0 []
 have k0 : Go p.tables e below (s₁.setTop (entryFrame m #[.ref b, .int q1, .int q2] 3)) (sf s₁ m 0 #[rv b, iv q1, iv q2] []) := fun t k => castTop (by first | (simp [entryFrame, mkF, argsToLocals, Value.category]; done)) k
 unfold fMarkIf at hf
 generalize s₁.setTop (entryFrame m #[.ref b, .int q1, .int q2] 3) = B0 at k0 ⊢
 have k_884 : Go p.tables e below B0 (sf s₁ m 5 #[rv b, iv q1, iv q2] [(.int (((q1.toUInt32 >>> (q2 &&& 31).toUInt32).toInt32) &&& (1 : Int32)))]) := fun t q => by
  refine k0 t ?_
  refine s_iloadN X0.here hx (hb hby d14_0) rfl ?_
  refine s_iloadN X0.here hx (hb hby d14_1) rfl ?_
  refine s_iushr X0.here hx (hb hby d14_2) ?_
  refine s_iconst (x := 1) X0.here hx (hb hby d14_3) rfl ?_
  refine s_iand X0.here hx (hb hby d14_4) ?_
  exact q
 by_cases hc885 : (((q1.toUInt32 >>> (q2 &&& 31).toUInt32).toInt32) &&& (1 : Int32)) = (0 : Int32)
 ·rw [if_pos hc885] at hf
  have k_886 : Go p.tables e below B0 (sf s₁ m 13 #[rv b, iv q1, iv q2] []) := fun t q => by
   refine k_884 t ?_
   refine s_ifYes X0.here hx (pc' := 13) (hb hby d14_5) ((if0 _ _).trans (teq hc885).1) (by decide) (by decide) ?_
   exact q
  obtain rfl := Option.some.inj hf
  obtain ⟨fs, hr, hrun, hended, hW, hsame⟩ := X0.leave (v := none) (fun _ => rfl)
  refine ⟨_, _, k_886 _ ?_, hrun, hended, _, _, rfl, ?_, ⟨_, rfl⟩, hW, hsame.mono (by decide) (by decide)⟩
  ·exact X0.returnOut hx Bd.returns (hb hby d14_13) hr
  ·show QW Z n0 b d ps σ none _ s₁.heap _
   rw [e0]
   exact ⟨rfl, N0, W0⟩
 ·rw [if_neg hc885] at hf
  have k_887 : Go p.tables e below B0 (sf s₁ m 10 #[rv b, iv q1, iv q2] [.int q2, .ref b]) := fun t q => by
   refine k_884 t ?_
   refine s_ifNo X0.here hx (hb hby d14_5) ((if0 _ _).trans (feq hc885).1) ?_
   refine s_aloadN X0.here hx (hb hby d14_8) rfl rfl ?_
   refine s_iloadN X0.here hx (hb hby d14_9) rfl ?_
   exact q
  obtain ⟨z888, c888, hf888⟩ := Option.bind_eq_some_iff.mp hf
  obtain ⟨cq889, kq889, q889a, q889b, q889c⟩ := isOf hZ e0 (W0.2.1.2.1)
  obtain ⟨_, _, ⟨T889, L889, k889, n889⟩, -, X889, ⟨Lc889, hQ889, l889, y889, z889⟩, st889⟩ := X0.virtualBack hx (y := y_12) (z := y_12) hown (mvT hZ (hw _ (wd 130 rfl))) (mvT hZ (hw _ (wd 131 rfl))) (notFace_of_selects (args := #[]) (mvT hZ (hw _ (wd 133 rfl)))) (mvT hZ (hw _ (wd 133 rfl))) (mvT hZ (hw _ (wd 132 rfl))) (by decide) (backOf (W := 0) (fMark_ok l Z a0 hw [] b d ps σ q2 h0 n0 W0 z888 c888) hZ (hw _ (wd 134 rfl)) (hw _ (wd 3 rfl)) (by decide) (by decide)) q889a q889c (g := (mkF m 10 #[rv b, iv q1, iv q2] [.int q2, .ref b])) rfl (by rw [hml]; rfl) (Steps.refl _) (argsL := [.int q2]) (rest := []) (lenOf pd_4 rfl) rfl (by show 2 * 0 + _ ≤ _; exact Nat.le_of_eq rfl) (hb hby d14_10) (fun _ _ => ⟨rfl, e0, (by decide : 0 + 0 ≤ _), (by decide : 0 + 0 ≤ _)⟩)
  dsimp only [Pt.U, Pt.locs, Pt.cells, Pt.slots] at X889 l889 y889 z889 st889 hQ889
  subst l889 y889 z889
  obtain ⟨rfl, N889q, w889⟩ := hQ889
  have N889 := Fr.app N0 N889q
  have k_890 : Go p.tables e below B0 (sf T889 m 13 #[rv b, iv q1, iv q2] []) := fun t q => by
   refine k_887 t ?_
   refine st889.trans ?_
   show Steps _ _ _ (sf T889 m 13 #[rv b, iv q1, iv q2] []) _
   exact q
  obtain rfl := Option.some.inj hf888
  obtain ⟨fs, hr, hrun, hended, hW, hsame⟩ := X889.leave (v := none) (fun _ => rfl)
  refine ⟨_, _, k_890 _ ?_, hrun, hended, _, _, rfl, ?_, ⟨_, rfl⟩, hW, hsame.mono (by decide) (by decide)⟩
  ·exact X889.returnOut hx Bd.returns (hb hby d14_13) hr
  ·show QW Z n0 b d ps z888.2 none _ T889.heap _
   exact ⟨rfl, N889, w889⟩
def QF (Z : State) (n0 : Nat) (a : Addr) (h0 : Heap) (τ : St) (v : Option Value) (h : Heap) (L : List Loc) : Prop := v = none ∧ Fr n0 L ∧ Keep h0 h [a] ∧ WC Z n0 h (psX (fun _ => (0 : Addr)) 0 [a]) 1 τ
set_option maxRecDepth 65536 in
set_option maxHeartbeats 40000000 in
theorem rngck (l : Launch) (Z : State) (a0 : Array Value) (hw : ∀ d ∈ tables_1, d.before a0 Z = true) (ws : List Jvm.Cond) (q1 q2 q3 : Int32) (h0 : Heap) (n0 : Nat)  (hg : ¬ q3 < q2 ∧ ¬ q2 < 0 ∧ ¬ q1 < q3) :
  MetFree l y_20 (head1 (Jvm.Cond.code y_20 jdk_65_method_30_code 3 none :: ws) ({ frames := 0, cells := 0, slots := 0, locals := 0 } : Room)) (fun a U => a = #[.int q1, .int q2, .int q3] ∧ Z.Warmed39 U.vm ∧ U.heap = h0) (fun _ _ _ _ _ => True) (fun _ U o U' => ∃ v L, o = .returned v ∧ QV none h0 n0 v U'.heap L ∧ FrameEnd U o U' L ({ frames := 0, cells := 0, slots := 0, locals := 0 } : Room).cells ({ frames := 0, cells := 0, slots := 0, locals := 0 } : Room).slots) := by
 refine MetFree.of_bodySF (plainFor_of_name pn_3) hisR ?_
 intro p e s m args below meth c s₁ Bd hml0 hP hK
 obtain ⟨rfl, hZ, hh⟩ := hP
 have hx := Bd.exec
 have hby := Bd.bytes
 have hml : c.maxLocals = 3 := hml0
 have hown : s.vm.findClass "java/util/Arrays" = some m.cls := findClass_of_methodNamed Bd.named
 have hnm := (name_of_methodNamed Bd.named Bd.method).1
 have X0 : Stand p l e ({ frames := 0, cells := 0, slots := 0, locals := 0 } : Room) s m #[.int q1, .int q2, .int q3] below meth c s₁ [] 0 0 := Stand.of_body Bd
 have e0 : s₁.heap = h0 := by rw [← hh, Bd.state]; rfl
 have N0 := Fr.nil n0
 have K0 := Keep.refl h0 []
 have k0 : Go p.tables e below (s₁.setTop (entryFrame m #[.int q1, .int q2, .int q3] 3)) (sf s₁ m 0 #[iv q1, iv q2, iv q3] []) := fun t k => castTop (by first | rfl | (simp [entryFrame, mkF, argsToLocals, Value.category]; done)) k
 have k_891 : Go p.tables e below (s₁.setTop (entryFrame m #[.int q1, .int q2, .int q3] 3)) (sf s₁ m 73 #[iv q1, iv q2, iv q3] []) := fun t q => by
  refine k0 t ?_
  refine XS.iloadN X0.here hx rfl (hb hby d7_0) rfl ?_
  show Steps _ _ _ (sf s₁ m 1 #[iv q1, iv q2, iv q3] [.int q2]) _
  refine XS.iloadN X0.here hx rfl (hb hby d7_1) rfl ?_
  show Steps _ _ _ (sf s₁ m 2 #[iv q1, iv q2, iv q3] [.int q3, .int q2]) _
  refine XS.icmpYes X0.here hx rfl (pc0 := 2) (pc' := 46) rfl (hb hby d7_2) rfl (flt hg.1).2.2.2 (by decide) (by decide) ?_
  show Steps _ _ _ (sf s₁ m 46 #[iv q1, iv q2, iv q3] []) _
  refine XS.iloadN X0.here hx rfl (hb hby d7_46) rfl ?_
  show Steps _ _ _ (sf s₁ m 47 #[iv q1, iv q2, iv q3] [.int q2]) _
  refine XS.ifYes X0.here hx rfl (pc0 := 47) (pc' := 59) rfl (hb hby d7_47) rfl ((if0 _ _).trans (flt hg.2.1).2.1) (by decide) (by decide) ?_
  show Steps _ _ _ (sf s₁ m 59 #[iv q1, iv q2, iv q3] []) _
  refine XS.iloadN X0.here hx rfl (hb hby d7_59) rfl ?_
  show Steps _ _ _ (sf s₁ m 60 #[iv q1, iv q2, iv q3] [.int q3]) _
  refine XS.iloadN X0.here hx rfl (hb hby d7_60) rfl ?_
  show Steps _ _ _ (sf s₁ m 61 #[iv q1, iv q2, iv q3] [.int q1, .int q3]) _
  refine XS.icmpYes X0.here hx rfl (pc0 := 61) (pc' := 73) rfl (hb hby d7_61) rfl (flt hg.2.2).2.2.2 (by decide) (by decide) ?_
  show Steps _ _ _ (sf s₁ m 73 #[iv q1, iv q2, iv q3] []) _
  exact q
 obtain ⟨fs, hr, hrun, hended, hW, hsame⟩ := X0.leave (v := none) (fun _ => rfl)
 refine ⟨_, _, k_891 _ ?_, hrun, hended, _, _, rfl, ?_, ⟨_, rfl⟩, hW, hsame.mono (by decide) (by decide)⟩
 ·exact X0.returnOut hx Bd.returns (hb hby d7_73) hr
 ·show QV none h0 n0 _ s₁.heap _
  rw [e0]
  exact ⟨rfl, N0, rfl⟩
def fFill2_L5 (q1 : Int32) : Nat → St → Int32 → Int32 → Option (Int32 × St)
 | 0, _, _, _ => none
 | n + 1, σl895, c2_895, c3_895 => if c2_895 < c3_895 then ((wrA σl895 0 c2_895 q1).bind fun σ899 => fFill2_L5 q1 n σ899 (c2_895 + (1 : Int32)) c3_895) else (some ((0 : Int32), σl895))
def fFill2 (σ : St) (q1 : Int32) : Option (Int32 × St) := fFill2_L5 q1 20 σ (0 : Int32) (lenA σ 0)
set_option maxRecDepth 65536 in
set_option maxHeartbeats 40000000 in
theorem fFill2_ok (l : Launch) (Z : State) (a0 : Array Value) (hw : ∀ d ∈ tables_1, d.before a0 Z = true) (ws : List Jvm.Cond) (a1 : Addr) (σ : St) (q1 : Int32) (h0 : Heap) (n0 : Nat) (Z0 : n0 ≤ h0.size) (W0 : WC Z n0 h0 (psX (fun _ => (0 : Addr)) 0 [a1]) 1 σ) (r : Int32 × St) (hf : fFill2 σ q1 = some r) :
  MetFree l y_21 (head1 (Jvm.Cond.code y_21 jdk_65_method_103_code 4 none :: ws) ({ frames := 0, cells := 0, slots := 0, locals := 0 } : Room)) (fun a U => a = #[.ref a1, .int q1] ∧ Z.Warmed39 U.vm ∧ U.heap = h0) (fun _ _ _ _ _ => True) (fun _ U o U' => ∃ v L, o = .returned v ∧ QF Z n0 a1 h0 r.2 v U'.heap L ∧ FrameEnd U o U' L ({ frames := 0, cells := 0, slots := 0, locals := 0 } : Room).cells ({ frames := 0, cells := 0, slots := 0, locals := 0 } : Room).slots) := by
 refine MetFree.of_bodySF (plainFor_of_name pn_3) hisR ?_
 intro p e s m args below meth c s₁ Bd hml0 hP hK
 obtain ⟨rfl, hZ, hh⟩ := hP
 have hx := Bd.exec
 have hby := Bd.bytes
 have hml : c.maxLocals = 4 := hml0
 have hown : s.vm.findClass "java/util/Arrays" = some m.cls := findClass_of_methodNamed Bd.named
 have hnm := (name_of_methodNamed Bd.named Bd.method).1
 have X0 : Stand p l e ({ frames := 0, cells := 0, slots := 0, locals := 0 } : Room) s m #[.ref a1, .int q1] below meth c s₁ [] 0 0 := Stand.of_body Bd
 have e0 : s₁.heap = h0 := by rw [← hh, Bd.state]; rfl
 have N0 := Fr.nil n0
 have K0 := Keep.refl h0 [a1]
 have k0 : Go p.tables e below (s₁.setTop (entryFrame m #[.ref a1, .int q1] 4)) (sf s₁ m 0 #[rv a1, iv q1, nu, nu] []) := fun t k => castTop (by first | (simp [entryFrame, mkF, argsToLocals, Value.category]; done)) k
 unfold fFill2 at hf
 generalize s₁.setTop (entryFrame m #[.ref a1, .int q1] 4) = B0 at k0 ⊢
 have k_892 : Go p.tables e below B0 (sf s₁ m 3 #[rv a1, iv q1, iv 0, nu] [.ref a1]) := fun t q => by
  refine k0 t ?_
  refine s_iconst (x := 0) X0.here hx (hb hby d10_0) rfl ?_
  refine s_istoreN X0.here hx (hb hby d10_1) (l' := #[rv a1, iv q1, iv 0, nu]) rfl ?_
  refine s_aloadN X0.here hx (hb hby d10_2) rfl rfl ?_
  exact q
 obtain ⟨cl893, Ar893', ln893⟩ := W0.len (i := 0) (by decide)
 have Ar893 : Arr Z h0 a1 cl893 .int := Ar893'
 have k_894 : Go p.tables e below B0 (sf s₁ m 5 #[rv a1, iv q1, iv 0, .val (.int (lenA σ 0))] []) := fun t q => by
  refine k_892 t ?_
  refine X0.arraylength hx (by rw [e0]; exact Ar893.1) (State.isArrayOf_alike hZ.alike Ar893.2.1) (g := (mkF m 3 #[rv a1, iv q1, iv 0, nu] [.ref a1])) rfl rfl (hb hby d10_3) _ ?_
  rw [ln893]
  show Steps _ _ _ (sf s₁ m 4 #[rv a1, iv q1, iv 0, nu] [(.int (lenA σ 0))]) _
  refine s_istoreN X0.here hx (hb hby d10_4) (l' := #[rv a1, iv q1, iv 0, .val (.int (lenA σ 0))]) rfl ?_
  exact q
 have lp5 : ∀ (n : Nat) (σl895 : St) (c2_895 : Int32)(c3_895 : Int32)  (Tl895 : State) (Ll895 : List Loc), Stand p l e ({ frames := 0, cells := 0, slots := 0, locals := 0 } : Room) s m #[.ref a1, .int q1] below meth c Tl895 Ll895 0 0 → Fr n0 Ll895 → WC Z n0 Tl895.heap (psX (fun _ => (0 : Addr)) 0 [a1]) 1 σl895 → n0 ≤ Tl895.heap.size → Keep h0 Tl895.heap [a1] → Go p.tables e below B0 (sf Tl895 m 5 #[rv a1, iv q1, iv c2_895, iv c3_895] []) → fFill2_L5 q1 n σl895 c2_895 c3_895 = some r → ∃ s₂ o, Steps p.tables e below B0 s₂ ∧ s₂.status = .running ∧ Ended s₂ below o ∧ (∃ v L, o = .returned v ∧ QF Z n0 a1 h0 r.2 v s₂.heap L ∧ FrameEnd s o s₂ L ({ frames := 0, cells := 0, slots := 0, locals := 0 } : Room).cells ({ frames := 0, cells := 0, slots := 0, locals := 0 } : Room).slots) := by
  intro n
  induction n with
  | zero => intro σl895 c2_895 c3_895  Tl895 Ll895 Xl895 Nl895 Wl895 zl895 Kl895   kl895 hl895; cases hl895
  | succ n ih =>
   intro σl895 c2_895 c3_895  Tl895 Ll895 Xl895 Nl895 Wl895 zl895 Kl895   kl895 hl895
   rw [fFill2_L5] at hl895
   have k_896 : Go p.tables e below B0 (sf Tl895 m 7 #[rv a1, iv q1, iv c2_895, iv c3_895] [.int c3_895, .int c2_895]) := fun t q => by
    refine kl895 t ?_
    refine s_iloadN Xl895.here hx (hb hby d10_5) rfl ?_
    refine s_iloadN Xl895.here hx (hb hby d10_6) rfl ?_
    exact q
   by_cases hc897 : c2_895 < c3_895
   ·rw [if_pos hc897] at hl895
    have k_898 : Go p.tables e below B0 (sf Tl895 m 13 #[rv a1, iv q1, iv c2_895, iv c3_895] [.int q1, .int c2_895, .ref a1]) := fun t q => by
     refine k_896 t ?_
     refine s_icmpNo Xl895.here hx (hb hby d10_7) (tlt hc897).2.1 ?_
     refine s_aloadN Xl895.here hx (hb hby d10_10) rfl rfl ?_
     refine s_iloadN Xl895.here hx (hb hby d10_11) rfl ?_
     refine s_iloadN Xl895.here hx (hb hby d10_12) rfl ?_
     exact q
    obtain ⟨σ899, c899, hf899⟩ := Option.bind_eq_some_iff.mp hl895
    obtain ⟨cl899, Ar899', hin899, gp899', nx899⟩ := Wl895.wr c899
    have Ar899 : Arr Z Tl895.heap a1 cl899 .int := Ar899'
    have gp899 : n0 ≤ a1 := gp899'
    obtain ⟨T900, h900, X900, e900, W900, st900⟩ := stI Xl895 hx hZ (rfl : Tl895.heap = _) Ar899 (j := c2_895) hin899 (g := (mkF m 13 #[rv a1, iv q1, iv c2_895, iv c3_895] [.int q1, .int c2_895, .ref a1])) rfl rfl (hb hby d10_13)
    have w900 := nx899 _ W900
    have N900 := Fr.snoc X900 Nl895 gp899
    have zl_901 := Nat.le_trans zl895 (Nat.le_of_eq (Wr.size W900).symm)
    have K_900 := Kl895.wr W900 (Or.inl (List.mem_of_getElem? (i := 0) rfl))
    have k_902 : Go p.tables e below B0 (sf T900 m 5 #[rv a1, iv q1, .val (.int (c2_895 + (1 : Int32))), iv c3_895] []) := fun t q => by
     refine k_898 t ?_
     refine st900 _ ?_
     show Steps _ _ _ (sf T900 m 14 #[rv a1, iv q1, iv c2_895, iv c3_895] []) _
     refine s_iinc X900.here hx (hb hby d10_14) rfl (l' := #[rv a1, iv q1, .val (.int (c2_895 + (1 : Int32))), iv c3_895]) rfl ?_
     refine s_goto X900.here hx (pc' := 5) (hb hby d10_17) (by decide) (by decide) ?_
     exact q
    exact ih σ899 (c2_895 + (1 : Int32)) c3_895  T900 _ X900 N900 (by rw [e900]; exact w900) (by rw [e900]; exact zl_901) (by rw [e900]; exact K_900)   k_902 hf899
   ·rw [if_neg hc897] at hl895
    have k_903 : Go p.tables e below B0 (sf Tl895 m 20 #[rv a1, iv q1, iv c2_895, iv c3_895] []) := fun t q => by
     refine k_896 t ?_
     refine s_icmpYes Xl895.here hx (pc' := 20) (hb hby d10_7) (flt hc897).2.1 (by decide) (by decide) ?_
     exact q
    obtain rfl := Option.some.inj hl895
    obtain ⟨fs, hr, hrun, hended, hW, hsame⟩ := Xl895.leave (v := none) (fun _ => rfl)
    refine ⟨_, _, k_903 _ ?_, hrun, hended, _, _, rfl, ?_, ⟨_, rfl⟩, hW, hsame.mono (by decide) (by decide)⟩
    ·exact Xl895.returnOut hx Bd.returns (hb hby d10_20) hr
    ·show QF Z n0 a1 h0 σl895 none Tl895.heap _
     exact ⟨rfl, Nl895, Kl895, Wl895⟩
 exact lp5 20 σ (0 : Int32) (lenA σ 0)  s₁ _ X0 N0 (by rw [e0]; exact W0) (by rw [e0]; exact Z0) (by rw [e0]; exact K0)   k_894 hf
def fFill4_L10 (q1 q2 q3 : Int32) : Nat → St → Int32 → Option (Int32 × St)
 | 0, _, _ => none
 | n + 1, σl910, c4_910 => if c4_910 < q2 then ((wrA σl910 0 c4_910 q3).bind fun σ914 => fFill4_L10 q1 q2 q3 n σ914 (c4_910 + (1 : Int32))) else (some ((0 : Int32), σl910))
def fFill4 (σ : St) (q1 q2 q3 : Int32) : Option (Int32 × St) := (guardI (¬ q2 < q1 ∧ ¬ q1 < 0 ∧ ¬ (lenA σ 0) < q2)).bind fun u907 => fFill4_L10 q1 q2 q3 20 σ q1
set_option maxRecDepth 65536 in
set_option maxHeartbeats 40000000 in
theorem fFill4_ok (l : Launch) (Z : State) (a0 : Array Value) (hw : ∀ d ∈ tables_1, d.before a0 Z = true) (ws : List Jvm.Cond) (a1 : Addr) (σ : St) (q1 q2 q3 : Int32) (h0 : Heap) (n0 : Nat) (Z0 : n0 ≤ h0.size) (W0 : WC Z n0 h0 (psX (fun _ => (0 : Addr)) 0 [a1]) 1 σ) (r : Int32 × St) (hf : fFill4 σ q1 q2 q3 = some r) :
  MetFree l y_22 (head1 (Jvm.Cond.code y_22 jdk_65_method_104_code 5 none :: ws) ({ frames := 1, cells := 0, slots := 0, locals := 14 } : Room)) (fun a U => a = #[.ref a1, .int q1, .int q2, .int q3] ∧ Z.Warmed39 U.vm ∧ U.heap = h0) (fun _ _ _ _ _ => True) (fun _ U o U' => ∃ v L, o = .returned v ∧ QF Z n0 a1 h0 r.2 v U'.heap L ∧ FrameEnd U o U' L ({ frames := 1, cells := 0, slots := 0, locals := 14 } : Room).cells ({ frames := 1, cells := 0, slots := 0, locals := 14 } : Room).slots) := by
 refine MetFree.of_bodySF (plainFor_of_name pn_3) hisR ?_
 intro p e s m args below meth c s₁ Bd hml0 hP hK
 obtain ⟨rfl, hZ, hh⟩ := hP
 have hx := Bd.exec
 have hby := Bd.bytes
 have hml : c.maxLocals = 5 := hml0
 have hown : s.vm.findClass "java/util/Arrays" = some m.cls := findClass_of_methodNamed Bd.named
 have hnm := (name_of_methodNamed Bd.named Bd.method).1
 have X0 : Stand p l e ({ frames := 1, cells := 0, slots := 0, locals := 14 } : Room) s m #[.ref a1, .int q1, .int q2, .int q3] below meth c s₁ [] 0 0 := Stand.of_body Bd
 have e0 : s₁.heap = h0 := by rw [← hh, Bd.state]; rfl
 have N0 := Fr.nil n0
 have K0 := Keep.refl h0 [a1]
 have k0 : Go p.tables e below (s₁.setTop (entryFrame m #[.ref a1, .int q1, .int q2, .int q3] 5)) (sf s₁ m 0 #[rv a1, iv q1, iv q2, iv q3, nu] []) := fun t k => castTop (by first | (simp [entryFrame, mkF, argsToLocals, Value.category]; done)) k
 unfold fFill4 at hf
 generalize s₁.setTop (entryFrame m #[.ref a1, .int q1, .int q2, .int q3] 5) = B0 at k0 ⊢
 have k_904 : Go p.tables e below B0 (sf s₁ m 1 #[rv a1, iv q1, iv q2, iv q3, nu] [.ref a1]) := fun t q => by
  refine k0 t ?_
  refine s_aloadN X0.here hx (hb hby d6_0) rfl rfl ?_
  exact q
 obtain ⟨cl905, Ar905', ln905⟩ := W0.len (i := 0) (by decide)
 have Ar905 : Arr Z h0 a1 cl905 .int := Ar905'
 have k_906 : Go p.tables e below B0 (sf s₁ m 4 #[rv a1, iv q1, iv q2, iv q3, nu] [.int q2, .int q1, (.int (lenA σ 0))]) := fun t q => by
  refine k_904 t ?_
  refine X0.arraylength hx (by rw [e0]; exact Ar905.1) (State.isArrayOf_alike hZ.alike Ar905.2.1) (g := (mkF m 1 #[rv a1, iv q1, iv q2, iv q3, nu] [.ref a1])) rfl rfl (hb hby d6_1) _ ?_
  rw [ln905]
  show Steps _ _ _ (sf s₁ m 2 #[rv a1, iv q1, iv q2, iv q3, nu] [(.int (lenA σ 0))]) _
  refine s_iloadN X0.here hx (hb hby d6_2) rfl ?_
  refine s_iloadN X0.here hx (hb hby d6_3) rfl ?_
  exact q
 obtain ⟨u907, c907, hf907⟩ := Option.bind_eq_some_iff.mp hf
 obtain ⟨_, _, ⟨T908, L908, k908, n908⟩, -, X908, ⟨Lc908, hQ908, l908, y908, z908⟩, st908⟩ := Jvm.LawKit.callS X0 hx (y := y_20) hown (mvT hZ (hw _ (wd 25 rfl))) (mvT hZ (hw _ (wd 26 rfl))) (mvT hZ (hw _ (wd 23 rfl))) (mvT hZ (hw _ (wd 27 rfl))) (by decide) (backOf (W := 0) (rngck l Z a0 hw [] (lenA σ 0) q1 q2 h0 n0 (guardI_spec c907)) hZ (hw _ (wd 27 rfl)) (hw _ (wd 23 rfl)) (by decide) (by decide)) (g := (mkF m 4 #[rv a1, iv q1, iv q2, iv q3, nu] [.int q2, .int q1, (.int (lenA σ 0))])) rfl (by rw [hml]; rfl) (argsL := [(.int (lenA σ 0)), .int q1, .int q2]) (rest := []) (lenOf pd_7 rfl) rfl (by show 2 * 0 + _ ≤ _; exact Nat.le_of_eq rfl) (hb hby d6_4) (fun _ _ => ⟨rfl, e0, (by decide : 0 + 0 ≤ _), (by decide : 0 + 0 ≤ _)⟩)
 dsimp only [Pt.U, Pt.locs, Pt.cells, Pt.slots] at X908 l908 y908 z908 st908 hQ908
 subst l908 y908 z908
 obtain ⟨rfl, N908q, e908⟩ := hQ908
 have N908 := Fr.app N0 N908q
 have k_909 : Go p.tables e below B0 (sf T908 m 10 #[rv a1, iv q1, iv q2, iv q3, iv q1] []) := fun t q => by
  refine k_906 t ?_
  refine st908 _ ?_
  show Steps _ _ _ (sf T908 m 7 #[rv a1, iv q1, iv q2, iv q3, nu] []) _
  refine s_iloadN X908.here hx (hb hby d6_7) rfl ?_
  refine s_istore X908.here hx (hb hby d6_8) (l' := #[rv a1, iv q1, iv q2, iv q3, iv q1]) rfl ?_
  exact q
 have lp10 : ∀ (n : Nat) (σl910 : St) (c4_910 : Int32)  (Tl910 : State) (Ll910 : List Loc), Stand p l e ({ frames := 1, cells := 0, slots := 0, locals := 14 } : Room) s m #[.ref a1, .int q1, .int q2, .int q3] below meth c Tl910 Ll910 0 0 → Fr n0 Ll910 → WC Z n0 Tl910.heap (psX (fun _ => (0 : Addr)) 0 [a1]) 1 σl910 → n0 ≤ Tl910.heap.size → Keep h0 Tl910.heap [a1] → Go p.tables e below B0 (sf Tl910 m 10 #[rv a1, iv q1, iv q2, iv q3, iv c4_910] []) → fFill4_L10 q1 q2 q3 n σl910 c4_910 = some r → ∃ s₂ o, Steps p.tables e below B0 s₂ ∧ s₂.status = .running ∧ Ended s₂ below o ∧ (∃ v L, o = .returned v ∧ QF Z n0 a1 h0 r.2 v s₂.heap L ∧ FrameEnd s o s₂ L ({ frames := 1, cells := 0, slots := 0, locals := 14 } : Room).cells ({ frames := 1, cells := 0, slots := 0, locals := 14 } : Room).slots) := by
  intro n
  induction n with
  | zero => intro σl910 c4_910  Tl910 Ll910 Xl910 Nl910 Wl910 zl910 Kl910   kl910 hl910; cases hl910
  | succ n ih =>
   intro σl910 c4_910  Tl910 Ll910 Xl910 Nl910 Wl910 zl910 Kl910   kl910 hl910
   rw [fFill4_L10] at hl910
   have k_911 : Go p.tables e below B0 (sf Tl910 m 13 #[rv a1, iv q1, iv q2, iv q3, iv c4_910] [.int q2, .int c4_910]) := fun t q => by
    refine kl910 t ?_
    refine s_iload Xl910.here hx (hb hby d6_10) rfl ?_
    refine s_iloadN Xl910.here hx (hb hby d6_12) rfl ?_
    exact q
   by_cases hc912 : c4_910 < q2
   ·rw [if_pos hc912] at hl910
    have k_913 : Go p.tables e below B0 (sf Tl910 m 20 #[rv a1, iv q1, iv q2, iv q3, iv c4_910] [.int q3, .int c4_910, .ref a1]) := fun t q => by
     refine k_911 t ?_
     refine s_icmpNo Xl910.here hx (hb hby d6_13) (tlt hc912).2.1 ?_
     refine s_aloadN Xl910.here hx (hb hby d6_16) rfl rfl ?_
     refine s_iload Xl910.here hx (hb hby d6_17) rfl ?_
     refine s_iloadN Xl910.here hx (hb hby d6_19) rfl ?_
     exact q
    obtain ⟨σ914, c914, hf914⟩ := Option.bind_eq_some_iff.mp hl910
    obtain ⟨cl914, Ar914', hin914, gp914', nx914⟩ := Wl910.wr c914
    have Ar914 : Arr Z Tl910.heap a1 cl914 .int := Ar914'
    have gp914 : n0 ≤ a1 := gp914'
    obtain ⟨T915, h915, X915, e915, W915, st915⟩ := stI Xl910 hx hZ (rfl : Tl910.heap = _) Ar914 (j := c4_910) hin914 (g := (mkF m 20 #[rv a1, iv q1, iv q2, iv q3, iv c4_910] [.int q3, .int c4_910, .ref a1])) rfl rfl (hb hby d6_20)
    have w915 := nx914 _ W915
    have N915 := Fr.snoc X915 Nl910 gp914
    have zl_916 := Nat.le_trans zl910 (Nat.le_of_eq (Wr.size W915).symm)
    have K_915 := Kl910.wr W915 (Or.inl (List.mem_of_getElem? (i := 0) rfl))
    have k_917 : Go p.tables e below B0 (sf T915 m 10 #[rv a1, iv q1, iv q2, iv q3, .val (.int (c4_910 + (1 : Int32)))] []) := fun t q => by
     refine k_913 t ?_
     refine st915 _ ?_
     show Steps _ _ _ (sf T915 m 21 #[rv a1, iv q1, iv q2, iv q3, iv c4_910] []) _
     refine s_iinc X915.here hx (hb hby d6_21) rfl (l' := #[rv a1, iv q1, iv q2, iv q3, .val (.int (c4_910 + (1 : Int32)))]) rfl ?_
     refine s_goto X915.here hx (pc' := 10) (hb hby d6_24) (by decide) (by decide) ?_
     exact q
    exact ih σ914 (c4_910 + (1 : Int32))  T915 _ X915 N915 (by rw [e915]; exact w915) (by rw [e915]; exact zl_916) (by rw [e915]; exact K_915)   k_917 hf914
   ·rw [if_neg hc912] at hl910
    have k_918 : Go p.tables e below B0 (sf Tl910 m 27 #[rv a1, iv q1, iv q2, iv q3, iv c4_910] []) := fun t q => by
     refine k_911 t ?_
     refine s_icmpYes Xl910.here hx (pc' := 27) (hb hby d6_13) (flt hc912).2.1 (by decide) (by decide) ?_
     exact q
    obtain rfl := Option.some.inj hl910
    obtain ⟨fs, hr, hrun, hended, hW, hsame⟩ := Xl910.leave (v := none) (fun _ => rfl)
    refine ⟨_, _, k_918 _ ?_, hrun, hended, _, _, rfl, ?_, ⟨_, rfl⟩, hW, hsame.mono (by decide) (by decide)⟩
    ·exact Xl910.returnOut hx Bd.returns (hb hby d6_27) hr
    ·show QF Z n0 a1 h0 σl910 none Tl910.heap _
     exact ⟨rfl, Nl910, Kl910, Wl910⟩
 exact lp10 20 σ q1  T908 _ X908 N908 (by rw [e908]; exact W0) (by rw [e908]; exact Z0) (by rw [e908]; exact K0)   k_909 hf907
def QB (Z : State) (n0 : Nat) (a : Addr) (r : Int32 × St) (v : Option Value) (h : Heap) (L : List Loc) : Prop := v = none ∧ Fr n0 L ∧ ∃ ps : Nat → Addr, WC Z n0 h ps 9 r.2 ∧ n0 ≤ h.size ∧ Exa Z h a BLn ∧ Fld Z h a BLn "states" "[I" (.ref (ps 1)) ∧ Fld Z h a BLn "placeOf" "[I" (.ref (ps 5)) ∧ Fld Z h a BLn "blockOf" "[I" (.ref (ps 2)) ∧ Fld Z h a BLn "marked" "[I" (.ref (ps 6)) ∧ Fld Z h a BLn "start" "[I" (.ref (ps 3)) ∧ Fld Z h a BLn "end" "[I" (.ref (ps 4)) ∧ Fld Z h a BLn "markedEnd" "[I" (.ref (ps 7)) ∧ Fld Z h a BLn "touched" "[I" (.ref (ps 8)) ∧ Fld Z h a BLn "markedCount" "I" (.int 0) ∧ Fld Z h a BLn "touchedCount" "I" (.int 0) ∧ Fld Z h a BLn "blockCount" "I" (.int (r.1))
def fB2_L37  : Nat → St → Int32 → Int32 → Int32 → Int32 → Option (Int32 × St)
 | 0, _, _, _, _, _ => none
 | n + 1, σl949, c2_949, c3_949, c4_949, c6_949 => if c6_949 < c2_949 then ((wrA σl949 1 c6_949 c6_949).bind fun σ953 => fB2_L37  n σ953 c2_949 c3_949 c4_949 (c6_949 + (1 : Int32))) else ((guardI (¬ c2_949 < 0 ∧ (c2_949).toNatClampNeg ≤ 7)).bind fun u971 => (some (σl949.1 ++ [List.replicate (c2_949).toNatClampNeg 0], σl949.2)).bind fun σ973 => (guardI (¬ c4_949 < 0 ∧ (c4_949).toNatClampNeg ≤ 7)).bind fun u989 => (some (σ973.1 ++ [List.replicate (c4_949).toNatClampNeg 0], σ973.2)).bind fun σ991 => (guardI (¬ c4_949 < 0 ∧ (c4_949).toNatClampNeg ≤ 7)).bind fun u1008 => (some (σ991.1 ++ [List.replicate (c4_949).toNatClampNeg 0], σ991.2)).bind fun σ1010 => if (0 : Int32) < c3_949 then ((rdA σ1010 0 (0 : Int32)).bind fun w1030 => (wrA σ1010 3 (0 : Int32) w1030).bind fun σ1032 => (rdA σ1032 0 (1 : Int32)).bind fun w1052 => (wrA σ1032 4 (0 : Int32) w1052).bind fun σ1054 => (rdA σ1054 3 (0 : Int32)).bind fun w1074 => (rdA σ1054 4 (0 : Int32)).bind fun w1076 => (fFill4 ([arr σ1054 2], []) w1074 w1076 (0 : Int32)).bind fun z1078 => (some (σ1054.1.set 2 (arr z1078.2 0), σ1054.2)).bind fun σ1080 => if (1 : Int32) < c3_949 then (none) else ((guardI ((arr σ1080 1).length ≤ 7)).bind fun u1121 => (some (σ1080.1 ++ [arr σ1080 1], σ1080.2)).bind fun σ1124 => (guardI (¬ c2_949 < 0 ∧ (c2_949).toNatClampNeg ≤ 7)).bind fun u1185 => (some (σ1124.1 ++ [List.replicate (c2_949).toNatClampNeg 0], σ1124.2)).bind fun σ1187 => (guardI ((arr σ1187 3).length ≤ 7)).bind fun u1270 => (some (σ1187.1 ++ [arr σ1187 3], σ1187.2)).bind fun σ1273 => (guardI (¬ c4_949 < 0 ∧ (c4_949).toNatClampNeg ≤ 7)).bind fun u1318 => (some (σ1273.1 ++ [List.replicate (c4_949).toNatClampNeg 0], σ1273.2)).bind fun σ1320 => some (c3_949, σ1320))) else ((guardI ((arr σ1010 1).length ≤ 7)).bind fun u1408 => (some (σ1010.1 ++ [arr σ1010 1], σ1010.2)).bind fun σ1411 => (guardI (¬ c2_949 < 0 ∧ (c2_949).toNatClampNeg ≤ 7)).bind fun u1472 => (some (σ1411.1 ++ [List.replicate (c2_949).toNatClampNeg 0], σ1411.2)).bind fun σ1474 => (guardI ((arr σ1474 3).length ≤ 7)).bind fun u1557 => (some (σ1474.1 ++ [arr σ1474 3], σ1474.2)).bind fun σ1560 => (guardI (¬ c4_949 < 0 ∧ (c4_949).toNatClampNeg ≤ 7)).bind fun u1605 => (some (σ1560.1 ++ [List.replicate (c4_949).toNatClampNeg 0], σ1560.2)).bind fun σ1607 => some (c3_949, σ1607)))
def fB2 (σ : St)  : Option (Int32 × St) := (rdA σ 0 ((lenA σ 0) - (1 : Int32))).bind fun w924 => (guardI (¬ w924 < 0 ∧ (w924).toNatClampNeg ≤ 7)).bind fun u932 => (some (σ.1 ++ [List.replicate (w924).toNatClampNeg 0], σ.2)).bind fun σ934 => fB2_L37  20 σ934 w924 ((lenA σ 0) - (1 : Int32)) (mxI ((lenA σ 0) - (1 : Int32)) (mnI w924 (1024 : Int32))) (0 : Int32)
set_option maxRecDepth 65536 in
set_option maxHeartbeats 40000000 in
theorem fB2_ok (l : Launch) (Z : State) (a0 : Array Value) (hw : ∀ d ∈ tables_1, d.before a0 Z = true) (ws : List Jvm.Cond) (a1 a2 : Addr) (σ : St) (h0 : Heap) (n0 : Nat) (Z0 : n0 ≤ h0.size) (W0 : WC Z n0 h0 (psX (fun _ => (0 : Addr)) 0 [a2]) 1 σ) (E0 : Exa Z h0 a1 BLn) (F0_states : Fld Z h0 a1 BLn "states" "[I" .null) (F0_placeOf : Fld Z h0 a1 BLn "placeOf" "[I" .null) (F0_blockOf : Fld Z h0 a1 BLn "blockOf" "[I" .null) (F0_marked : Fld Z h0 a1 BLn "marked" "[I" .null) (F0_start : Fld Z h0 a1 BLn "start" "[I" .null) (F0_end : Fld Z h0 a1 BLn "end" "[I" .null) (F0_markedEnd : Fld Z h0 a1 BLn "markedEnd" "[I" .null) (F0_touched : Fld Z h0 a1 BLn "touched" "[I" .null) (F0_markedCount : Fld Z h0 a1 BLn "markedCount" "I" (.int 0)) (F0_touchedCount : Fld Z h0 a1 BLn "touchedCount" "I" (.int 0)) (F0_blockCount : Fld Z h0 a1 BLn "blockCount" "I" (.int 0)) (g0 : n0 ≤ a1) (r : Int32 × St) (hf : fB2 σ = some r) :
  MetFree l y_23 (head1 (Jvm.Cond.code y_23 prog_3_method_2_code 10 none :: ws) ({ frames := 2, cells := 8, slots := 56, locals := 30 } : Room)) (fun a U => a = #[.ref a1, .ref a2] ∧ Z.Warmed39 U.vm ∧ U.heap = h0) (fun _ _ _ _ _ => True) (fun _ U o U' => ∃ v L, o = .returned v ∧ QB Z n0 a1 r v U'.heap L ∧ FrameEnd U o U' L ({ frames := 2, cells := 8, slots := 56, locals := 30 } : Room).cells ({ frames := 2, cells := 8, slots := 56, locals := 30 } : Room).slots) := by
 refine MetFree.of_bodySF (plainFor_of_name pn_0) hisR ?_
 intro p e s m args below meth c s₁ Bd hml0 hP hK
 obtain ⟨rfl, hZ, hh⟩ := hP
 have hx := Bd.exec
 have hby := Bd.bytes
 have hml : c.maxLocals = 10 := hml0
 have hown : s.vm.findClass BLn = some m.cls := findClass_of_methodNamed Bd.named
 have hnm := (name_of_methodNamed Bd.named Bd.method).1
 have X0 : Stand p l e ({ frames := 2, cells := 8, slots := 56, locals := 30 } : Room) s m #[.ref a1, .ref a2] below meth c s₁ [] 0 0 := Stand.of_body Bd
 have e0 : s₁.heap = h0 := by rw [← hh, Bd.state]; rfl
 have N0 := Fr.nil n0
 have K0 := Keep.refl h0 []
 have k0 : Go p.tables e below (s₁.setTop (entryFrame m #[.ref a1, .ref a2] 10)) (sf s₁ m 0 #[rv a1, rv a2, nu, nu, nu, nu, nu, nu, nu, nu] []) := fun t k => castTop (by first | (simp [entryFrame, mkF, argsToLocals, Value.category]; done)) k
 unfold fB2 at hf
 generalize s₁.setTop (entryFrame m #[.ref a1, .ref a2] 10) = B0 at k0 ⊢
 have k_919 : Go p.tables e below B0 (sf s₁ m 1 #[rv a1, rv a2, nu, nu, nu, nu, nu, nu, nu, nu] [.ref a1]) := fun t q => by
  refine k0 t ?_
  refine s_aloadN X0.here hx (hb hby d2_0) rfl rfl ?_
  exact q
 obtain ⟨T920, X920, e920, st920⟩ := initO X0 hx hZ hown (hw _ (wd 11 rfl)) (hw _ (wd 12 rfl)) (hw _ (wd 13 rfl)) e0 (g := (mkF m 1 #[rv a1, rv a2, nu, nu, nu, nu, nu, nu, nu, nu] [.ref a1])) rfl (by rw [hml]; rfl) rfl (hb hby d2_1) (by decide) (W := 0) (by show 2 * 0 + _ ≤ _; exact Nat.le_of_eq rfl) (by decide)
 have k_921 : Go p.tables e below B0 (sf T920 m 6 #[rv a1, rv a2, nu, nu, nu, nu, nu, nu, nu, nu] [.ref a2, .ref a2]) := fun t q => by
  refine k_919 t ?_
  refine st920 _ ?_
  show Steps _ _ _ (sf T920 m 4 #[rv a1, rv a2, nu, nu, nu, nu, nu, nu, nu, nu] []) _
  refine s_aloadN X920.here hx (hb hby d2_4) rfl rfl ?_
  refine s_aloadN X920.here hx (hb hby d2_5) rfl rfl ?_
  exact q
 obtain ⟨cl922, Ar922', ln922⟩ := W0.len (i := 0) (by decide)
 have Ar922 : Arr Z h0 a2 cl922 .int := Ar922'
 have k_923 : Go p.tables e below B0 (sf T920 m 9 #[rv a1, rv a2, nu, nu, nu, nu, nu, nu, nu, nu] [(.int ((lenA σ 0) - (1 : Int32))), .ref a2]) := fun t q => by
  refine k_921 t ?_
  refine X920.arraylength hx (by rw [e920]; exact Ar922.1) (State.isArrayOf_alike hZ.alike Ar922.2.1) (g := (mkF m 6 #[rv a1, rv a2, nu, nu, nu, nu, nu, nu, nu, nu] [.ref a2, .ref a2])) rfl rfl (hb hby d2_6) _ ?_
  rw [ln922]
  show Steps _ _ _ (sf T920 m 7 #[rv a1, rv a2, nu, nu, nu, nu, nu, nu, nu, nu] [(.int (lenA σ 0)), .ref a2]) _
  refine s_iconst (x := 1) X920.here hx (hb hby d2_7) rfl ?_
  refine s_isub X920.here hx (hb hby d2_8) ?_
  exact q
 obtain ⟨w924, c924, hf924⟩ := Option.bind_eq_some_iff.mp hf
 obtain ⟨cl924, Ar924', hin924, hat924⟩ := W0.rd c924
 have Ar924 : Arr Z h0 a2 cl924 .int := Ar924'
 have k_925 : Go p.tables e below B0 (sf T920 m 12 #[rv a1, rv a2, iv w924, nu, nu, nu, nu, nu, nu, nu] [.ref a2]) := fun t q => by
  refine k_923 t ?_
  refine X920.iaload hx (j := ((lenA σ 0) - (1 : Int32))) (v := (.int w924)) (by rw [e920]; exact Ar924.1) (State.isArrayOf_alike hZ.alike Ar924.2.1) Ar924.2.2 hin924 hat924 (g := (mkF m 9 #[rv a1, rv a2, nu, nu, nu, nu, nu, nu, nu, nu] [(.int ((lenA σ 0) - (1 : Int32))), .ref a2])) rfl rfl (hb hby d2_9) _ ?_
  show Steps _ _ _ (sf T920 m 10 #[rv a1, rv a2, nu, nu, nu, nu, nu, nu, nu, nu] [.int w924]) _
  refine s_istoreN X920.here hx (hb hby d2_10) (l' := #[rv a1, rv a2, iv w924, nu, nu, nu, nu, nu, nu, nu]) rfl ?_
  refine s_aloadN X920.here hx (hb hby d2_11) rfl rfl ?_
  exact q
 obtain ⟨cl926, Ar926', ln926⟩ := W0.len (i := 0) (by decide)
 have Ar926 : Arr Z h0 a2 cl926 .int := Ar926'
 have k_927 : Go p.tables e below B0 (sf T920 m 21 #[rv a1, rv a2, iv w924, .val (.int ((lenA σ 0) - (1 : Int32))), nu, nu, nu, nu, nu, nu] [.int 1024, .int w924, (.int ((lenA σ 0) - (1 : Int32)))]) := fun t q => by
  refine k_925 t ?_
  refine X920.arraylength hx (by rw [e920]; exact Ar926.1) (State.isArrayOf_alike hZ.alike Ar926.2.1) (g := (mkF m 12 #[rv a1, rv a2, iv w924, nu, nu, nu, nu, nu, nu, nu] [.ref a2])) rfl rfl (hb hby d2_12) _ ?_
  rw [ln926]
  show Steps _ _ _ (sf T920 m 13 #[rv a1, rv a2, iv w924, nu, nu, nu, nu, nu, nu, nu] [(.int (lenA σ 0))]) _
  refine s_iconst (x := 1) X920.here hx (hb hby d2_13) rfl ?_
  refine s_isub X920.here hx (hb hby d2_14) ?_
  refine s_istoreN X920.here hx (hb hby d2_15) (l' := #[rv a1, rv a2, iv w924, .val (.int ((lenA σ 0) - (1 : Int32))), nu, nu, nu, nu, nu, nu]) rfl ?_
  refine s_iloadN X920.here hx (hb hby d2_16) rfl ?_
  refine s_iloadN X920.here hx (hb hby d2_17) rfl ?_
  refine s_sipush (x := 1024) X920.here hx (hb hby d2_18) rfl ?_
  exact q
 obtain ⟨_, _, ⟨T928, L928, k928, n928⟩, -, X928, ⟨Lc928, hQ928, l928, y928, z928⟩, st928⟩ := Jvm.LawKit.callS X920 hx (y := y_1) hown (mvT hZ (hw _ (wd 14 rfl))) (mvT hZ (hw _ (wd 15 rfl))) (mvT hZ (hw _ (wd 16 rfl))) (mvT hZ (hw _ (wd 17 rfl))) (by decide) (backOf (W := 1) (m_min l Z a0 hw [] w924 (1024 : Int32) h0 n0) hZ (hw _ (wd 17 rfl)) (hw _ (wd 16 rfl)) (by decide) (by decide)) (g := (mkF m 21 #[rv a1, rv a2, iv w924, .val (.int ((lenA σ 0) - (1 : Int32))), nu, nu, nu, nu, nu, nu] [.int 1024, .int w924, (.int ((lenA σ 0) - (1 : Int32)))])) rfl (by rw [hml]; rfl) (argsL := [.int w924, .int 1024]) (rest := [(.int ((lenA σ 0) - (1 : Int32)))]) (lenOf pd_0 rfl) rfl (by show 2 * 0 + _ ≤ _; exact Nat.le_of_eq rfl) (hb hby d2_21) (fun _ _ => ⟨rfl, e920, (by decide : 0 + 0 ≤ _), (by decide : 0 + 0 ≤ _)⟩)
 dsimp only [Pt.U, Pt.locs, Pt.cells, Pt.slots] at X928 l928 y928 z928 st928 hQ928
 subst l928 y928 z928
 obtain ⟨rfl, N928q, e928⟩ := hQ928
 have N928 := Fr.app N0 N928q
 have k_929 : Go p.tables e below B0 (sf T928 m 24 #[rv a1, rv a2, iv w924, .val (.int ((lenA σ 0) - (1 : Int32))), nu, nu, nu, nu, nu, nu] [(.int (mnI w924 (1024 : Int32))), (.int ((lenA σ 0) - (1 : Int32)))]) := fun t q => by
  refine k_927 t ?_
  refine st928 _ ?_
  show Steps _ _ _ (sf T928 m 24 #[rv a1, rv a2, iv w924, .val (.int ((lenA σ 0) - (1 : Int32))), nu, nu, nu, nu, nu, nu] [(.int (mnI w924 (1024 : Int32))), (.int ((lenA σ 0) - (1 : Int32)))]) _
  exact q
 obtain ⟨_, _, ⟨T930, L930, k930, n930⟩, -, X930, ⟨Lc930, hQ930, l930, y930, z930⟩, st930⟩ := Jvm.LawKit.callS X928 hx (y := y_0) hown (mvT hZ (hw _ (wd 18 rfl))) (mvT hZ (hw _ (wd 19 rfl))) (mvT hZ (hw _ (wd 16 rfl))) (mvT hZ (hw _ (wd 20 rfl))) (by decide) (backOf (W := 0) (m_max l Z a0 hw [] ((lenA σ 0) - (1 : Int32)) (mnI w924 (1024 : Int32)) h0 n0) hZ (hw _ (wd 20 rfl)) (hw _ (wd 16 rfl)) (by decide) (by decide)) (g := (mkF m 24 #[rv a1, rv a2, iv w924, .val (.int ((lenA σ 0) - (1 : Int32))), nu, nu, nu, nu, nu, nu] [(.int (mnI w924 (1024 : Int32))), (.int ((lenA σ 0) - (1 : Int32)))])) rfl (by rw [hml]; rfl) (argsL := [(.int ((lenA σ 0) - (1 : Int32))), (.int (mnI w924 (1024 : Int32)))]) (rest := []) (lenOf pd_0 rfl) rfl (by show 2 * 0 + _ ≤ _; exact Nat.le_of_eq rfl) (hb hby d2_24) (fun _ _ => ⟨rfl, e928, (by decide : 0 + 0 ≤ _), (by decide : 0 + 0 ≤ _)⟩)
 dsimp only [Pt.U, Pt.locs, Pt.cells, Pt.slots] at X930 l930 y930 z930 st930 hQ930
 subst l930 y930 z930
 obtain ⟨rfl, N930q, e930⟩ := hQ930
 have N930 := Fr.app N928 N930q
 have k_931 : Go p.tables e below B0 (sf T930 m 30 #[rv a1, rv a2, iv w924, .val (.int ((lenA σ 0) - (1 : Int32))), .val (.int (mxI ((lenA σ 0) - (1 : Int32)) (mnI w924 (1024 : Int32)))), nu, nu, nu, nu, nu] [.int w924]) := fun t q => by
  refine k_929 t ?_
  refine st930 _ ?_
  show Steps _ _ _ (sf T930 m 27 #[rv a1, rv a2, iv w924, .val (.int ((lenA σ 0) - (1 : Int32))), nu, nu, nu, nu, nu, nu] [(.int (mxI ((lenA σ 0) - (1 : Int32)) (mnI w924 (1024 : Int32))))]) _
  refine s_istore X930.here hx (hb hby d2_27) (l' := #[rv a1, rv a2, iv w924, .val (.int ((lenA σ 0) - (1 : Int32))), .val (.int (mxI ((lenA σ 0) - (1 : Int32)) (mnI w924 (1024 : Int32)))), nu, nu, nu, nu, nu]) rfl ?_
  refine s_iloadN X930.here hx (hb hby d2_29) rfl ?_
  exact q
 obtain ⟨u932, c932, hf932⟩ := Option.bind_eq_some_iff.mp hf924
 obtain ⟨T933, h933, kc933, X933, e933, E933, A933, XA933, st933⟩ := newPE X930 hx hZ (hw _ (wd 7 rfl)) e930 (g := (mkF m 30 #[rv a1, rv a2, iv w924, .val (.int ((lenA σ 0) - (1 : Int32))), .val (.int (mxI ((lenA σ 0) - (1 : Int32)) (mnI w924 (1024 : Int32)))), nu, nu, nu, nu, nu] [.int w924])) rfl (hb hby d2_30) rfl (guardI_spec c932).1 (cap := 7) (guardI_spec c932).2 (by decide) (by decide) (by decide) (ad := "[I") (by decide)
 obtain ⟨b933, g933⟩ : ∃ z, z = h0.size := ⟨_, rfl⟩
 rw [← g933] at A933 XA933 st933
 obtain ⟨σ934, c934, hf934⟩ := Option.bind_eq_some_iff.mp hf932
 have w933 := WC.snocX W0 E933 (IA.new A933 (guardI_spec c932).1) g933 Z0
 rw [Option.some.inj c934] at w933
 have w933 : WC Z n0 h933 (psX (fun _ => (0 : Addr)) 0 [a2, b933]) 2 σ934 := w933
 have f_935 := Exa.ext E933 E0
 have f_936 := Fld.ext E933 F0_states
 have f_937 := Fld.ext E933 F0_placeOf
 have f_938 := Fld.ext E933 F0_blockOf
 have f_939 := Fld.ext E933 F0_marked
 have f_940 := Fld.ext E933 F0_start
 have f_941 := Fld.ext E933 F0_end
 have f_942 := Fld.ext E933 F0_markedEnd
 have f_943 := Fld.ext E933 F0_touched
 have f_944 := Fld.ext E933 F0_markedCount
 have f_945 := Fld.ext E933 F0_touchedCount
 have f_946 := Fld.ext E933 F0_blockCount
 have zl_947 := Nat.le_trans Z0 E933.1
 have k_948 : Go p.tables e below B0 (sf T933 m 37 #[rv a1, rv a2, iv w924, .val (.int ((lenA σ 0) - (1 : Int32))), .val (.int (mxI ((lenA σ 0) - (1 : Int32)) (mnI w924 (1024 : Int32)))), rv b933, iv 0, nu, nu, nu] []) := fun t q => by
  refine k_931 t ?_
  refine st933 _ ?_
  show Steps _ _ _ (sf T933 m 32 #[rv a1, rv a2, iv w924, .val (.int ((lenA σ 0) - (1 : Int32))), .val (.int (mxI ((lenA σ 0) - (1 : Int32)) (mnI w924 (1024 : Int32)))), nu, nu, nu, nu, nu] [.ref b933]) _
  refine s_astore X933.here hx (hb hby d2_32) rfl (l' := #[rv a1, rv a2, iv w924, .val (.int ((lenA σ 0) - (1 : Int32))), .val (.int (mxI ((lenA σ 0) - (1 : Int32)) (mnI w924 (1024 : Int32)))), rv b933, nu, nu, nu, nu]) rfl ?_
  refine s_iconst (x := 0) X933.here hx (hb hby d2_34) rfl ?_
  refine s_istore X933.here hx (hb hby d2_35) (l' := #[rv a1, rv a2, iv w924, .val (.int ((lenA σ 0) - (1 : Int32))), .val (.int (mxI ((lenA σ 0) - (1 : Int32)) (mnI w924 (1024 : Int32)))), rv b933, iv 0, nu, nu, nu]) rfl ?_
  exact q
 have lp37 : ∀ (n : Nat) (σl949 : St) (c2_949 : Int32)(c3_949 : Int32)(c4_949 : Int32)(c6_949 : Int32)  (Tl949 : State) (Ll949 : List Loc), Stand p l e ({ frames := 2, cells := 8, slots := 56, locals := 30 } : Room) s m #[.ref a1, .ref a2] below meth c Tl949 Ll949 1 7 → Fr n0 Ll949 → WC Z n0 Tl949.heap (psX (fun _ => (0 : Addr)) 0 [a2, b933]) 2 σl949 → n0 ≤ Tl949.heap.size → Exa Z Tl949.heap a1 BLn → Fld Z Tl949.heap a1 BLn "states" "[I" .null → Fld Z Tl949.heap a1 BLn "placeOf" "[I" .null → Fld Z Tl949.heap a1 BLn "blockOf" "[I" .null → Fld Z Tl949.heap a1 BLn "marked" "[I" .null → Fld Z Tl949.heap a1 BLn "start" "[I" .null → Fld Z Tl949.heap a1 BLn "end" "[I" .null → Fld Z Tl949.heap a1 BLn "markedEnd" "[I" .null → Fld Z Tl949.heap a1 BLn "touched" "[I" .null → Fld Z Tl949.heap a1 BLn "markedCount" "I" (.int 0) → Fld Z Tl949.heap a1 BLn "touchedCount" "I" (.int 0) → Fld Z Tl949.heap a1 BLn "blockCount" "I" (.int 0) → Exa Z Tl949.heap b933 "[I" → Go p.tables e below B0 (sf Tl949 m 37 #[rv a1, rv a2, iv c2_949, iv c3_949, iv c4_949, rv b933, iv c6_949, nu, nu, nu] []) → fB2_L37 n σl949 c2_949 c3_949 c4_949 c6_949 = some r → ∃ s₂ o, Steps p.tables e below B0 s₂ ∧ s₂.status = .running ∧ Ended s₂ below o ∧ (∃ v L, o = .returned v ∧ QB Z n0 a1 r v s₂.heap L ∧ FrameEnd s o s₂ L ({ frames := 2, cells := 8, slots := 56, locals := 30 } : Room).cells ({ frames := 2, cells := 8, slots := 56, locals := 30 } : Room).slots) := by
  intro n
  induction n with
  | zero => intro σl949 c2_949 c3_949 c4_949 c6_949  Tl949 Ll949 Xl949 Nl949 Wl949 zl949  fl949_0 fl949_1 fl949_2 fl949_3 fl949_4 fl949_5 fl949_6 fl949_7 fl949_8 fl949_9 fl949_10 fl949_11 fl949_12  kl949 hl949; cases hl949
  | succ n ih =>
   intro σl949 c2_949 c3_949 c4_949 c6_949  Tl949 Ll949 Xl949 Nl949 Wl949 zl949  fl949_0 fl949_1 fl949_2 fl949_3 fl949_4 fl949_5 fl949_6 fl949_7 fl949_8 fl949_9 fl949_10 fl949_11 fl949_12  kl949 hl949
   rw [fB2_L37] at hl949
   have k_950 : Go p.tables e below B0 (sf Tl949 m 40 #[rv a1, rv a2, iv c2_949, iv c3_949, iv c4_949, rv b933, iv c6_949, nu, nu, nu] [.int c2_949, .int c6_949]) := fun t q => by
    refine kl949 t ?_
    refine s_iload Xl949.here hx (hb hby d2_37) rfl ?_
    refine s_iloadN Xl949.here hx (hb hby d2_39) rfl ?_
    exact q
   by_cases hc951 : c6_949 < c2_949
   ·rw [if_pos hc951] at hl949
    have k_952 : Go p.tables e below B0 (sf Tl949 m 49 #[rv a1, rv a2, iv c2_949, iv c3_949, iv c4_949, rv b933, iv c6_949, nu, nu, nu] [.int c6_949, .int c6_949, .ref b933]) := fun t q => by
     refine k_950 t ?_
     refine s_icmpNo Xl949.here hx (hb hby d2_40) (tlt hc951).2.1 ?_
     refine s_aload Xl949.here hx (hb hby d2_43) rfl rfl ?_
     refine s_iload Xl949.here hx (hb hby d2_45) rfl ?_
     refine s_iload Xl949.here hx (hb hby d2_47) rfl ?_
     exact q
    obtain ⟨σ953, c953, hf953⟩ := Option.bind_eq_some_iff.mp hl949
    obtain ⟨cl953, Ar953', hin953, gp953', nx953⟩ := Wl949.wr c953
    have Ar953 : Arr Z Tl949.heap b933 cl953 .int := Ar953'
    have gp953 : n0 ≤ b933 := gp953'
    obtain ⟨T954, h954, X954, e954, W954, st954⟩ := stI Xl949 hx hZ (rfl : Tl949.heap = _) Ar953 (j := c6_949) hin953 (g := (mkF m 49 #[rv a1, rv a2, iv c2_949, iv c3_949, iv c4_949, rv b933, iv c6_949, nu, nu, nu] [.int c6_949, .int c6_949, .ref b933])) rfl rfl (hb hby d2_49)
    have w954 := nx953 _ W954
    have N954 := Fr.snoc X954 Nl949 gp953
    have f_955 := Exa.wr W954 fl949_0
    have f_956 := Fld.other W954 fl949_1 (Or.inl (ne_arr fl949_0 (hw _ (wd 2 rfl)) Ar953))
    have f_957 := Fld.other W954 fl949_2 (Or.inl (ne_arr fl949_0 (hw _ (wd 2 rfl)) Ar953))
    have f_958 := Fld.other W954 fl949_3 (Or.inl (ne_arr fl949_0 (hw _ (wd 2 rfl)) Ar953))
    have f_959 := Fld.other W954 fl949_4 (Or.inl (ne_arr fl949_0 (hw _ (wd 2 rfl)) Ar953))
    have f_960 := Fld.other W954 fl949_5 (Or.inl (ne_arr fl949_0 (hw _ (wd 2 rfl)) Ar953))
    have f_961 := Fld.other W954 fl949_6 (Or.inl (ne_arr fl949_0 (hw _ (wd 2 rfl)) Ar953))
    have f_962 := Fld.other W954 fl949_7 (Or.inl (ne_arr fl949_0 (hw _ (wd 2 rfl)) Ar953))
    have f_963 := Fld.other W954 fl949_8 (Or.inl (ne_arr fl949_0 (hw _ (wd 2 rfl)) Ar953))
    have f_964 := Fld.other W954 fl949_9 (Or.inl (ne_arr fl949_0 (hw _ (wd 2 rfl)) Ar953))
    have f_965 := Fld.other W954 fl949_10 (Or.inl (ne_arr fl949_0 (hw _ (wd 2 rfl)) Ar953))
    have f_966 := Fld.other W954 fl949_11 (Or.inl (ne_arr fl949_0 (hw _ (wd 2 rfl)) Ar953))
    have f_967 := Exa.wr W954 fl949_12
    have zl_968 := Nat.le_trans zl949 (Nat.le_of_eq (Wr.size W954).symm)
    have k_969 : Go p.tables e below B0 (sf T954 m 37 #[rv a1, rv a2, iv c2_949, iv c3_949, iv c4_949, rv b933, .val (.int (c6_949 + (1 : Int32))), nu, nu, nu] []) := fun t q => by
     refine k_952 t ?_
     refine st954 _ ?_
     show Steps _ _ _ (sf T954 m 50 #[rv a1, rv a2, iv c2_949, iv c3_949, iv c4_949, rv b933, iv c6_949, nu, nu, nu] []) _
     refine s_iinc X954.here hx (hb hby d2_50) rfl (l' := #[rv a1, rv a2, iv c2_949, iv c3_949, iv c4_949, rv b933, .val (.int (c6_949 + (1 : Int32))), nu, nu, nu]) rfl ?_
     refine s_goto X954.here hx (pc' := 37) (hb hby d2_53) (by decide) (by decide) ?_
     exact q
    exact ih σ953 c2_949 c3_949 c4_949 (c6_949 + (1 : Int32))  T954 _ X954 N954 (by rw [e954]; exact w954) (by rw [e954]; exact zl_968)  (by rw [e954]; exact f_955) (by rw [e954]; exact f_956) (by rw [e954]; exact f_957) (by rw [e954]; exact f_958) (by rw [e954]; exact f_959) (by rw [e954]; exact f_960) (by rw [e954]; exact f_961) (by rw [e954]; exact f_962) (by rw [e954]; exact f_963) (by rw [e954]; exact f_964) (by rw [e954]; exact f_965) (by rw [e954]; exact f_966) (by rw [e954]; exact f_967)  k_969 hf953
   ·rw [if_neg hc951] at hl949
    have k_970 : Go p.tables e below B0 (sf Tl949 m 57 #[rv a1, rv a2, iv c2_949, iv c3_949, iv c4_949, rv b933, iv c6_949, nu, nu, nu] [.int c2_949]) := fun t q => by
     refine k_950 t ?_
     refine s_icmpYes Xl949.here hx (pc' := 56) (hb hby d2_40) (flt hc951).2.1 (by decide) (by decide) ?_
     refine s_iloadN Xl949.here hx (hb hby d2_56) rfl ?_
     exact q
    obtain ⟨u971, c971, hf971⟩ := Option.bind_eq_some_iff.mp hl949
    obtain ⟨T972, h972, kc972, X972, e972, E972, A972, XA972, st972⟩ := newPE Xl949 hx hZ (hw _ (wd 7 rfl)) (rfl : Tl949.heap = _) (g := (mkF m 57 #[rv a1, rv a2, iv c2_949, iv c3_949, iv c4_949, rv b933, iv c6_949, nu, nu, nu] [.int c2_949])) rfl (hb hby d2_57) rfl (guardI_spec c971).1 (cap := 7) (guardI_spec c971).2 (by decide) (by decide) (by decide) (ad := "[I") (by decide)
    obtain ⟨b972, g972⟩ : ∃ z, z = Tl949.heap.size := ⟨_, rfl⟩
    rw [← g972] at A972 XA972 st972
    obtain ⟨σ973, c973, hf973⟩ := Option.bind_eq_some_iff.mp hf971
    have w972 := WC.snocX Wl949 E972 (IA.new A972 (guardI_spec c971).1) g972 zl949
    rw [Option.some.inj c973] at w972
    have w972 : WC Z n0 h972 (psX (fun _ => (0 : Addr)) 0 [a2, b933, b972]) 3 σ973 := w972
    have f_974 := Exa.ext E972 fl949_0
    have f_975 := Fld.ext E972 fl949_1
    have f_976 := Fld.ext E972 fl949_2
    have f_977 := Fld.ext E972 fl949_3
    have f_978 := Fld.ext E972 fl949_4
    have f_979 := Fld.ext E972 fl949_5
    have f_980 := Fld.ext E972 fl949_6
    have f_981 := Fld.ext E972 fl949_7
    have f_982 := Fld.ext E972 fl949_8
    have f_983 := Fld.ext E972 fl949_9
    have f_984 := Fld.ext E972 fl949_10
    have f_985 := Fld.ext E972 fl949_11
    have f_986 := Exa.ext E972 fl949_12
    have zl_987 := Nat.le_trans zl949 E972.1
    have k_988 : Go p.tables e below B0 (sf T972 m 63 #[rv a1, rv a2, iv c2_949, iv c3_949, iv c4_949, rv b933, rv b972, nu, nu, nu] [.int c4_949]) := fun t q => by
     refine k_970 t ?_
     refine st972 _ ?_
     show Steps _ _ _ (sf T972 m 59 #[rv a1, rv a2, iv c2_949, iv c3_949, iv c4_949, rv b933, iv c6_949, nu, nu, nu] [.ref b972]) _
     refine s_astore X972.here hx (hb hby d2_59) rfl (l' := #[rv a1, rv a2, iv c2_949, iv c3_949, iv c4_949, rv b933, rv b972, nu, nu, nu]) rfl ?_
     refine s_iload X972.here hx (hb hby d2_61) rfl ?_
     exact q
    obtain ⟨u989, c989, hf989⟩ := Option.bind_eq_some_iff.mp hf973
    obtain ⟨T990, h990, kc990, X990, e990, E990, A990, XA990, st990⟩ := newPE X972 hx hZ (hw _ (wd 7 rfl)) e972 (g := (mkF m 63 #[rv a1, rv a2, iv c2_949, iv c3_949, iv c4_949, rv b933, rv b972, nu, nu, nu] [.int c4_949])) rfl (hb hby d2_63) rfl (guardI_spec c989).1 (cap := 7) (guardI_spec c989).2 (by decide) (by decide) (by decide) (ad := "[I") (by decide)
    obtain ⟨b990, g990⟩ : ∃ z, z = h972.size := ⟨_, rfl⟩
    rw [← g990] at A990 XA990 st990
    obtain ⟨σ991, c991, hf991⟩ := Option.bind_eq_some_iff.mp hf989
    have w990 := WC.snocX w972 E990 (IA.new A990 (guardI_spec c989).1) g990 zl_987
    rw [Option.some.inj c991] at w990
    have w990 : WC Z n0 h990 (psX (fun _ => (0 : Addr)) 0 [a2, b933, b972, b990]) 4 σ991 := w990
    have f_992 := Exa.ext E990 f_974
    have f_993 := Fld.ext E990 f_975
    have f_994 := Fld.ext E990 f_976
    have f_995 := Fld.ext E990 f_977
    have f_996 := Fld.ext E990 f_978
    have f_997 := Fld.ext E990 f_979
    have f_998 := Fld.ext E990 f_980
    have f_999 := Fld.ext E990 f_981
    have f_1000 := Fld.ext E990 f_982
    have f_1001 := Fld.ext E990 f_983
    have f_1002 := Fld.ext E990 f_984
    have f_1003 := Fld.ext E990 f_985
    have f_1004 := Exa.ext E990 f_986
    have f_1005 := Exa.ext E990 XA972
    have zl_1006 := Nat.le_trans zl_987 E990.1
    have k_1007 : Go p.tables e below B0 (sf T990 m 69 #[rv a1, rv a2, iv c2_949, iv c3_949, iv c4_949, rv b933, rv b972, rv b990, nu, nu] [.int c4_949]) := fun t q => by
     refine k_988 t ?_
     refine st990 _ ?_
     show Steps _ _ _ (sf T990 m 65 #[rv a1, rv a2, iv c2_949, iv c3_949, iv c4_949, rv b933, rv b972, nu, nu, nu] [.ref b990]) _
     refine s_astore X990.here hx (hb hby d2_65) rfl (l' := #[rv a1, rv a2, iv c2_949, iv c3_949, iv c4_949, rv b933, rv b972, rv b990, nu, nu]) rfl ?_
     refine s_iload X990.here hx (hb hby d2_67) rfl ?_
     exact q
    obtain ⟨u1008, c1008, hf1008⟩ := Option.bind_eq_some_iff.mp hf991
    obtain ⟨T1009, h1009, kc1009, X1009, e1009, E1009, A1009, XA1009, st1009⟩ := newPE X990 hx hZ (hw _ (wd 7 rfl)) e990 (g := (mkF m 69 #[rv a1, rv a2, iv c2_949, iv c3_949, iv c4_949, rv b933, rv b972, rv b990, nu, nu] [.int c4_949])) rfl (hb hby d2_69) rfl (guardI_spec c1008).1 (cap := 7) (guardI_spec c1008).2 (by decide) (by decide) (by decide) (ad := "[I") (by decide)
    obtain ⟨b1009, g1009⟩ : ∃ z, z = h990.size := ⟨_, rfl⟩
    rw [← g1009] at A1009 XA1009 st1009
    obtain ⟨σ1010, c1010, hf1010⟩ := Option.bind_eq_some_iff.mp hf1008
    have w1009 := WC.snocX w990 E1009 (IA.new A1009 (guardI_spec c1008).1) g1009 zl_1006
    rw [Option.some.inj c1010] at w1009
    have w1009 : WC Z n0 h1009 (psX (fun _ => (0 : Addr)) 0 [a2, b933, b972, b990, b1009]) 5 σ1010 := w1009
    have f_1011 := Exa.ext E1009 f_992
    have f_1012 := Fld.ext E1009 f_993
    have f_1013 := Fld.ext E1009 f_994
    have f_1014 := Fld.ext E1009 f_995
    have f_1015 := Fld.ext E1009 f_996
    have f_1016 := Fld.ext E1009 f_997
    have f_1017 := Fld.ext E1009 f_998
    have f_1018 := Fld.ext E1009 f_999
    have f_1019 := Fld.ext E1009 f_1000
    have f_1020 := Fld.ext E1009 f_1001
    have f_1021 := Fld.ext E1009 f_1002
    have f_1022 := Fld.ext E1009 f_1003
    have f_1023 := Exa.ext E1009 f_1004
    have f_1024 := Exa.ext E1009 f_1005
    have f_1025 := Exa.ext E1009 XA990
    have zl_1026 := Nat.le_trans zl_1006 E1009.1
    have k_1027 : Go p.tables e below B0 (sf T1009 m 79 #[rv a1, rv a2, iv c2_949, iv c3_949, iv c4_949, rv b933, rv b972, rv b990, rv b1009, iv 0] [.int c3_949, .int 0]) := fun t q => by
     refine k_1007 t ?_
     refine st1009 _ ?_
     show Steps _ _ _ (sf T1009 m 71 #[rv a1, rv a2, iv c2_949, iv c3_949, iv c4_949, rv b933, rv b972, rv b990, nu, nu] [.ref b1009]) _
     refine s_astore X1009.here hx (hb hby d2_71) rfl (l' := #[rv a1, rv a2, iv c2_949, iv c3_949, iv c4_949, rv b933, rv b972, rv b990, rv b1009, nu]) rfl ?_
     refine s_iconst (x := 0) X1009.here hx (hb hby d2_73) rfl ?_
     refine s_istore X1009.here hx (hb hby d2_74) (l' := #[rv a1, rv a2, iv c2_949, iv c3_949, iv c4_949, rv b933, rv b972, rv b990, rv b1009, iv 0]) rfl ?_
     refine s_iload X1009.here hx (hb hby d2_76) rfl ?_
     refine s_iloadN X1009.here hx (hb hby d2_78) rfl ?_
     exact q
    by_cases hc1028 : (0 : Int32) < c3_949
    ·rw [if_pos hc1028] at hf1010
     have k_1029 : Go p.tables e below B0 (sf T1009 m 89 #[rv a1, rv a2, iv c2_949, iv c3_949, iv c4_949, rv b933, rv b972, rv b990, rv b1009, iv 0] [.int 0, .ref a2, .int 0, .ref b990]) := fun t q => by
      refine k_1027 t ?_
      refine s_icmpNo X1009.here hx (hb hby d2_79) (tlt hc1028).2.1 ?_
      refine s_aload X1009.here hx (hb hby d2_82) rfl rfl ?_
      refine s_iload X1009.here hx (hb hby d2_84) rfl ?_
      refine s_aloadN X1009.here hx (hb hby d2_86) rfl rfl ?_
      refine s_iload X1009.here hx (hb hby d2_87) rfl ?_
      exact q
     obtain ⟨w1030, c1030, hf1030⟩ := Option.bind_eq_some_iff.mp hf1010
     obtain ⟨cl1030, Ar1030', hin1030, hat1030⟩ := w1009.rd c1030
     have Ar1030 : Arr Z h1009 a2 cl1030 .int := Ar1030'
     have k_1031 : Go p.tables e below B0 (sf T1009 m 90 #[rv a1, rv a2, iv c2_949, iv c3_949, iv c4_949, rv b933, rv b972, rv b990, rv b1009, iv 0] [.int w1030, .int 0, .ref b990]) := fun t q => by
      refine k_1029 t ?_
      refine X1009.iaload hx (j := (0 : Int32)) (v := (.int w1030)) (by rw [e1009]; exact Ar1030.1) (State.isArrayOf_alike hZ.alike Ar1030.2.1) Ar1030.2.2 hin1030 hat1030 (g := (mkF m 89 #[rv a1, rv a2, iv c2_949, iv c3_949, iv c4_949, rv b933, rv b972, rv b990, rv b1009, iv 0] [.int 0, .ref a2, .int 0, .ref b990])) rfl rfl (hb hby d2_89) _ ?_
      show Steps _ _ _ (sf T1009 m 90 #[rv a1, rv a2, iv c2_949, iv c3_949, iv c4_949, rv b933, rv b972, rv b990, rv b1009, iv 0] [.int w1030, .int 0, .ref b990]) _
      exact q
     obtain ⟨σ1032, c1032, hf1032⟩ := Option.bind_eq_some_iff.mp hf1030
     obtain ⟨cl1032, Ar1032', hin1032, gp1032', nx1032⟩ := w1009.wr c1032
     have Ar1032 : Arr Z h1009 b990 cl1032 .int := Ar1032'
     have gp1032 : n0 ≤ b990 := gp1032'
     obtain ⟨T1033, h1033, X1033, e1033, W1033, st1033⟩ := stI X1009 hx hZ e1009 Ar1032 (j := (0 : Int32)) hin1032 (g := (mkF m 90 #[rv a1, rv a2, iv c2_949, iv c3_949, iv c4_949, rv b933, rv b972, rv b990, rv b1009, iv 0] [.int w1030, .int 0, .ref b990])) rfl rfl (hb hby d2_90)
     have w1033 := nx1032 _ W1033
     have N1033 := Fr.snoc X1033 Nl949 gp1032
     have f_1034 := Exa.wr W1033 f_1011
     have f_1035 := Fld.other W1033 f_1012 (Or.inl (ne_arr f_1011 (hw _ (wd 2 rfl)) Ar1032))
     have f_1036 := Fld.other W1033 f_1013 (Or.inl (ne_arr f_1011 (hw _ (wd 2 rfl)) Ar1032))
     have f_1037 := Fld.other W1033 f_1014 (Or.inl (ne_arr f_1011 (hw _ (wd 2 rfl)) Ar1032))
     have f_1038 := Fld.other W1033 f_1015 (Or.inl (ne_arr f_1011 (hw _ (wd 2 rfl)) Ar1032))
     have f_1039 := Fld.other W1033 f_1016 (Or.inl (ne_arr f_1011 (hw _ (wd 2 rfl)) Ar1032))
     have f_1040 := Fld.other W1033 f_1017 (Or.inl (ne_arr f_1011 (hw _ (wd 2 rfl)) Ar1032))
     have f_1041 := Fld.other W1033 f_1018 (Or.inl (ne_arr f_1011 (hw _ (wd 2 rfl)) Ar1032))
     have f_1042 := Fld.other W1033 f_1019 (Or.inl (ne_arr f_1011 (hw _ (wd 2 rfl)) Ar1032))
     have f_1043 := Fld.other W1033 f_1020 (Or.inl (ne_arr f_1011 (hw _ (wd 2 rfl)) Ar1032))
     have f_1044 := Fld.other W1033 f_1021 (Or.inl (ne_arr f_1011 (hw _ (wd 2 rfl)) Ar1032))
     have f_1045 := Fld.other W1033 f_1022 (Or.inl (ne_arr f_1011 (hw _ (wd 2 rfl)) Ar1032))
     have f_1046 := Exa.wr W1033 f_1023
     have f_1047 := Exa.wr W1033 f_1024
     have f_1048 := Exa.wr W1033 f_1025
     have f_1049 := Exa.wr W1033 XA1009
     have zl_1050 := Nat.le_trans zl_1026 (Nat.le_of_eq (Wr.size W1033).symm)
     have k_1051 : Go p.tables e below B0 (sf T1033 m 100 #[rv a1, rv a2, iv c2_949, iv c3_949, iv c4_949, rv b933, rv b972, rv b990, rv b1009, iv 0] [.int 1, .ref a2, .int 0, .ref b1009]) := fun t q => by
      refine k_1031 t ?_
      refine st1033 _ ?_
      show Steps _ _ _ (sf T1033 m 91 #[rv a1, rv a2, iv c2_949, iv c3_949, iv c4_949, rv b933, rv b972, rv b990, rv b1009, iv 0] []) _
      refine s_aload X1033.here hx (hb hby d2_91) rfl rfl ?_
      refine s_iload X1033.here hx (hb hby d2_93) rfl ?_
      refine s_aloadN X1033.here hx (hb hby d2_95) rfl rfl ?_
      refine s_iload X1033.here hx (hb hby d2_96) rfl ?_
      refine s_iconst (x := 1) X1033.here hx (hb hby d2_98) rfl ?_
      refine s_iadd X1033.here hx (hb hby d2_99) ?_
      rw [show ((0 : Int32) + (1 : Int32)) = (1 : Int32) from by decide]
      show Steps _ _ _ (sf T1033 m 100 #[rv a1, rv a2, iv c2_949, iv c3_949, iv c4_949, rv b933, rv b972, rv b990, rv b1009, iv 0] [.int 1, .ref a2, .int 0, .ref b1009]) _
      exact q
     obtain ⟨w1052, c1052, hf1052⟩ := Option.bind_eq_some_iff.mp hf1032
     obtain ⟨cl1052, Ar1052', hin1052, hat1052⟩ := w1033.rd c1052
     have Ar1052 : Arr Z h1033 a2 cl1052 .int := Ar1052'
     have k_1053 : Go p.tables e below B0 (sf T1033 m 101 #[rv a1, rv a2, iv c2_949, iv c3_949, iv c4_949, rv b933, rv b972, rv b990, rv b1009, iv 0] [.int w1052, .int 0, .ref b1009]) := fun t q => by
      refine k_1051 t ?_
      refine X1033.iaload hx (j := (1 : Int32)) (v := (.int w1052)) (by rw [e1033]; exact Ar1052.1) (State.isArrayOf_alike hZ.alike Ar1052.2.1) Ar1052.2.2 hin1052 hat1052 (g := (mkF m 100 #[rv a1, rv a2, iv c2_949, iv c3_949, iv c4_949, rv b933, rv b972, rv b990, rv b1009, iv 0] [.int 1, .ref a2, .int 0, .ref b1009])) rfl rfl (hb hby d2_100) _ ?_
      show Steps _ _ _ (sf T1033 m 101 #[rv a1, rv a2, iv c2_949, iv c3_949, iv c4_949, rv b933, rv b972, rv b990, rv b1009, iv 0] [.int w1052, .int 0, .ref b1009]) _
      exact q
     obtain ⟨σ1054, c1054, hf1054⟩ := Option.bind_eq_some_iff.mp hf1052
     obtain ⟨cl1054, Ar1054', hin1054, gp1054', nx1054⟩ := w1033.wr c1054
     have Ar1054 : Arr Z h1033 b1009 cl1054 .int := Ar1054'
     have gp1054 : n0 ≤ b1009 := gp1054'
     obtain ⟨T1055, h1055, X1055, e1055, W1055, st1055⟩ := stI X1033 hx hZ e1033 Ar1054 (j := (0 : Int32)) hin1054 (g := (mkF m 101 #[rv a1, rv a2, iv c2_949, iv c3_949, iv c4_949, rv b933, rv b972, rv b990, rv b1009, iv 0] [.int w1052, .int 0, .ref b1009])) rfl rfl (hb hby d2_101)
     have w1055 := nx1054 _ W1055
     have N1055 := Fr.snoc X1055 N1033 gp1054
     have f_1056 := Exa.wr W1055 f_1034
     have f_1057 := Fld.other W1055 f_1035 (Or.inl (ne_arr f_1034 (hw _ (wd 2 rfl)) Ar1054))
     have f_1058 := Fld.other W1055 f_1036 (Or.inl (ne_arr f_1034 (hw _ (wd 2 rfl)) Ar1054))
     have f_1059 := Fld.other W1055 f_1037 (Or.inl (ne_arr f_1034 (hw _ (wd 2 rfl)) Ar1054))
     have f_1060 := Fld.other W1055 f_1038 (Or.inl (ne_arr f_1034 (hw _ (wd 2 rfl)) Ar1054))
     have f_1061 := Fld.other W1055 f_1039 (Or.inl (ne_arr f_1034 (hw _ (wd 2 rfl)) Ar1054))
     have f_1062 := Fld.other W1055 f_1040 (Or.inl (ne_arr f_1034 (hw _ (wd 2 rfl)) Ar1054))
     have f_1063 := Fld.other W1055 f_1041 (Or.inl (ne_arr f_1034 (hw _ (wd 2 rfl)) Ar1054))
     have f_1064 := Fld.other W1055 f_1042 (Or.inl (ne_arr f_1034 (hw _ (wd 2 rfl)) Ar1054))
     have f_1065 := Fld.other W1055 f_1043 (Or.inl (ne_arr f_1034 (hw _ (wd 2 rfl)) Ar1054))
     have f_1066 := Fld.other W1055 f_1044 (Or.inl (ne_arr f_1034 (hw _ (wd 2 rfl)) Ar1054))
     have f_1067 := Fld.other W1055 f_1045 (Or.inl (ne_arr f_1034 (hw _ (wd 2 rfl)) Ar1054))
     have f_1068 := Exa.wr W1055 f_1046
     have f_1069 := Exa.wr W1055 f_1047
     have f_1070 := Exa.wr W1055 f_1048
     have f_1071 := Exa.wr W1055 f_1049
     have zl_1072 := Nat.le_trans zl_1050 (Nat.le_of_eq (Wr.size W1055).symm)
     have k_1073 : Go p.tables e below B0 (sf T1055 m 108 #[rv a1, rv a2, iv c2_949, iv c3_949, iv c4_949, rv b933, rv b972, rv b990, rv b1009, iv 0] [.int 0, .ref b990, .ref b972]) := fun t q => by
      refine k_1053 t ?_
      refine st1055 _ ?_
      show Steps _ _ _ (sf T1055 m 102 #[rv a1, rv a2, iv c2_949, iv c3_949, iv c4_949, rv b933, rv b972, rv b990, rv b1009, iv 0] []) _
      refine s_aload X1055.here hx (hb hby d2_102) rfl rfl ?_
      refine s_aload X1055.here hx (hb hby d2_104) rfl rfl ?_
      refine s_iload X1055.here hx (hb hby d2_106) rfl ?_
      exact q
     obtain ⟨w1074, c1074, hf1074⟩ := Option.bind_eq_some_iff.mp hf1054
     obtain ⟨cl1074, Ar1074', hin1074, hat1074⟩ := w1055.rd c1074
     have Ar1074 : Arr Z h1055 b990 cl1074 .int := Ar1074'
     have k_1075 : Go p.tables e below B0 (sf T1055 m 113 #[rv a1, rv a2, iv c2_949, iv c3_949, iv c4_949, rv b933, rv b972, rv b990, rv b1009, iv 0] [.int 0, .ref b1009, .int w1074, .ref b972]) := fun t q => by
      refine k_1073 t ?_
      refine X1055.iaload hx (j := (0 : Int32)) (v := (.int w1074)) (by rw [e1055]; exact Ar1074.1) (State.isArrayOf_alike hZ.alike Ar1074.2.1) Ar1074.2.2 hin1074 hat1074 (g := (mkF m 108 #[rv a1, rv a2, iv c2_949, iv c3_949, iv c4_949, rv b933, rv b972, rv b990, rv b1009, iv 0] [.int 0, .ref b990, .ref b972])) rfl rfl (hb hby d2_108) _ ?_
      show Steps _ _ _ (sf T1055 m 109 #[rv a1, rv a2, iv c2_949, iv c3_949, iv c4_949, rv b933, rv b972, rv b990, rv b1009, iv 0] [.int w1074, .ref b972]) _
      refine s_aload X1055.here hx (hb hby d2_109) rfl rfl ?_
      refine s_iload X1055.here hx (hb hby d2_111) rfl ?_
      exact q
     obtain ⟨w1076, c1076, hf1076⟩ := Option.bind_eq_some_iff.mp hf1074
     obtain ⟨cl1076, Ar1076', hin1076, hat1076⟩ := w1055.rd c1076
     have Ar1076 : Arr Z h1055 b1009 cl1076 .int := Ar1076'
     have k_1077 : Go p.tables e below B0 (sf T1055 m 116 #[rv a1, rv a2, iv c2_949, iv c3_949, iv c4_949, rv b933, rv b972, rv b990, rv b1009, iv 0] [.int 0, .int w1076, .int w1074, .ref b972]) := fun t q => by
      refine k_1075 t ?_
      refine X1055.iaload hx (j := (0 : Int32)) (v := (.int w1076)) (by rw [e1055]; exact Ar1076.1) (State.isArrayOf_alike hZ.alike Ar1076.2.1) Ar1076.2.2 hin1076 hat1076 (g := (mkF m 113 #[rv a1, rv a2, iv c2_949, iv c3_949, iv c4_949, rv b933, rv b972, rv b990, rv b1009, iv 0] [.int 0, .ref b1009, .int w1074, .ref b972])) rfl rfl (hb hby d2_113) _ ?_
      show Steps _ _ _ (sf T1055 m 114 #[rv a1, rv a2, iv c2_949, iv c3_949, iv c4_949, rv b933, rv b972, rv b990, rv b1009, iv 0] [.int w1076, .int w1074, .ref b972]) _
      refine s_iload X1055.here hx (hb hby d2_114) rfl ?_
      exact q
     obtain ⟨z1078, c1078, hf1078⟩ := Option.bind_eq_some_iff.mp hf1076
     obtain ⟨_, _, ⟨T1079, L1079, k1079, n1079⟩, -, X1079, ⟨Lc1079, hQ1079, l1079, y1079, z1079⟩, st1079⟩ := Jvm.LawKit.callS X1055 hx (y := y_22) hown (mvT hZ (hw _ (wd 21 rfl))) (mvT hZ (hw _ (wd 22 rfl))) (mvT hZ (hw _ (wd 23 rfl))) (mvT hZ (hw _ (wd 24 rfl))) (by decide) (backOf (W := 0) (fFill4_ok l Z a0 hw [] b972 ([arr σ1054 2], []) w1074 w1076 (0 : Int32) h1055 n0 zl_1072 (WC.one (i := 2) w1055 (by decide)) z1078 c1078) hZ (hw _ (wd 24 rfl)) (hw _ (wd 23 rfl)) (by decide) (by decide)) (g := (mkF m 116 #[rv a1, rv a2, iv c2_949, iv c3_949, iv c4_949, rv b933, rv b972, rv b990, rv b1009, iv 0] [.int 0, .int w1076, .int w1074, .ref b972])) rfl (by rw [hml]; rfl) (argsL := [.ref b972, .int w1074, .int w1076, .int 0]) (rest := []) (lenOf pd_8 rfl) rfl (by show 2 * 0 + _ ≤ _; exact Nat.le_of_eq rfl) (hb hby d2_116) (fun _ _ => ⟨rfl, e1055, (by decide : 4 + 0 ≤ _), (by decide : 28 + 0 ≤ _)⟩)
     dsimp only [Pt.U, Pt.locs, Pt.cells, Pt.slots] at X1079 l1079 y1079 z1079 st1079 hQ1079
     subst l1079 y1079 z1079
     obtain ⟨rfl, N1079q, K1079, V1079⟩ := hQ1079
     have N1079 := Fr.app N1055 N1079q
     obtain ⟨σ1080, c1080, hf1080⟩ := Option.bind_eq_some_iff.mp hf1078
     have w1079 := WC.keep (i := 2) w1055 (by decide) K1079 V1079
     rw [Option.some.inj c1080] at w1079
     obtain ⟨cq1079, Aq1079', -, -⟩ := w1055.at (i := 2) (by decide)
     have Aq1079 : Arr Z h1055 b972 cq1079 .int := Aq1079'
     have f_1081 := Exa.keep f_1056 K1079
     have f_1082 := Fld.keep f_1057 K1079 (ninS (ne_arr f_1056 (hw _ (wd 2 rfl)) Aq1079) nin0)
     have f_1083 := Fld.keep f_1058 K1079 (ninS (ne_arr f_1056 (hw _ (wd 2 rfl)) Aq1079) nin0)
     have f_1084 := Fld.keep f_1059 K1079 (ninS (ne_arr f_1056 (hw _ (wd 2 rfl)) Aq1079) nin0)
     have f_1085 := Fld.keep f_1060 K1079 (ninS (ne_arr f_1056 (hw _ (wd 2 rfl)) Aq1079) nin0)
     have f_1086 := Fld.keep f_1061 K1079 (ninS (ne_arr f_1056 (hw _ (wd 2 rfl)) Aq1079) nin0)
     have f_1087 := Fld.keep f_1062 K1079 (ninS (ne_arr f_1056 (hw _ (wd 2 rfl)) Aq1079) nin0)
     have f_1088 := Fld.keep f_1063 K1079 (ninS (ne_arr f_1056 (hw _ (wd 2 rfl)) Aq1079) nin0)
     have f_1089 := Fld.keep f_1064 K1079 (ninS (ne_arr f_1056 (hw _ (wd 2 rfl)) Aq1079) nin0)
     have f_1090 := Fld.keep f_1065 K1079 (ninS (ne_arr f_1056 (hw _ (wd 2 rfl)) Aq1079) nin0)
     have f_1091 := Fld.keep f_1066 K1079 (ninS (ne_arr f_1056 (hw _ (wd 2 rfl)) Aq1079) nin0)
     have f_1092 := Fld.keep f_1067 K1079 (ninS (ne_arr f_1056 (hw _ (wd 2 rfl)) Aq1079) nin0)
     have f_1093 := Exa.keep f_1068 K1079
     have f_1094 := Exa.keep f_1069 K1079
     have f_1095 := Exa.keep f_1070 K1079
     have f_1096 := Exa.keep f_1071 K1079
     have zl_1097 := Nat.le_trans zl_1072 K1079.1
     have k_1098 : Go p.tables e below B0 (sf T1079 m 79 #[rv a1, rv a2, iv c2_949, iv c3_949, iv c4_949, rv b933, rv b972, rv b990, rv b1009, iv 1] [.int c3_949, .int 1]) := fun t q => by
      refine k_1077 t ?_
      refine st1079 _ ?_
      show Steps _ _ _ (sf T1079 m 119 #[rv a1, rv a2, iv c2_949, iv c3_949, iv c4_949, rv b933, rv b972, rv b990, rv b1009, iv 0] []) _
      refine s_iinc X1079.here hx (hb hby d2_119) rfl (l' := #[rv a1, rv a2, iv c2_949, iv c3_949, iv c4_949, rv b933, rv b972, rv b990, rv b1009, .val (.int ((0 : Int32) + (1 : Int32)))]) rfl ?_
      rw [show ((0 : Int32) + (1 : Int32)) = (1 : Int32) from by decide]
      show Steps _ _ _ (sf T1079 m 122 #[rv a1, rv a2, iv c2_949, iv c3_949, iv c4_949, rv b933, rv b972, rv b990, rv b1009, iv 1] []) _
      refine s_goto X1079.here hx (pc' := 76) (hb hby d2_122) (by decide) (by decide) ?_
      refine s_iload X1079.here hx (hb hby d2_76) rfl ?_
      refine s_iloadN X1079.here hx (hb hby d2_78) rfl ?_
      exact q
     by_cases hc1099 : (1 : Int32) < c3_949
     ·rw [if_pos hc1099] at hf1080
      have k_1100 : Go p.tables e below B0 (sf T1079 m 82 #[rv a1, rv a2, iv c2_949, iv c3_949, iv c4_949, rv b933, rv b972, rv b990, rv b1009, iv 1] []) := fun t q => by
       refine k_1098 t ?_
       refine s_icmpNo X1079.here hx (hb hby d2_79) (tlt hc1099).2.1 ?_
       exact q
      cases hf1080
     ·rw [if_neg hc1099] at hf1080
      have k_1101 : Go p.tables e below B0 (sf T1079 m 128 #[rv a1, rv a2, iv c2_949, iv c3_949, iv c4_949, rv b933, rv b972, rv b990, rv b1009, iv 1] [.ref b933, .ref a1]) := fun t q => by
       refine k_1098 t ?_
       refine s_icmpYes X1079.here hx (pc' := 125) (hb hby d2_79) (flt hc1099).2.1 (by decide) (by decide) ?_
       refine s_aloadN X1079.here hx (hb hby d2_125) rfl rfl ?_
       refine s_aload X1079.here hx (hb hby d2_126) rfl rfl ?_
       exact q
      obtain ⟨T1102, h1102, X1102, e1102, W1102, st1102⟩ := putF X1079 hx hZ hown (host := "") (Or.inl (hw _ (wd 28 rfl))) Via.refl (rfl : T1079.heap = _) f_1082 f_1081 (Or.inr ⟨(hw _ (wd 29 rfl)), rfl, hnm⟩) (hw _ (wd 2 rfl)) (ty := (.array .int)) (by decide) rfl rfl (g := (mkF m 128 #[rv a1, rv a2, iv c2_949, iv c3_949, iv c4_949, rv b933, rv b972, rv b990, rv b1009, iv 1] [.ref b933, .ref a1])) rfl rfl (hb hby d2_128)
      have N1102 := Fr.snoc X1102 N1079 g0
      have w1102 := w1079.wrO f_1081 (hw _ (wd 2 rfl)) W1102
      have f_1103 := Exa.wr W1102 f_1081
      have f_1104 := Fld.same W1102 f_1082
      have f_1105 := foaa W1102 f_1083 (Or.inr (hw _ (wd 40 rfl))) (Or.inr (hw _ (wd 29 rfl))) (by decide)
      have f_1106 := foaa W1102 f_1084 (Or.inr (hw _ (wd 42 rfl))) (Or.inr (hw _ (wd 29 rfl))) (by decide)
      have f_1107 := foaa W1102 f_1085 (Or.inr (hw _ (wd 44 rfl))) (Or.inr (hw _ (wd 29 rfl))) (by decide)
      have f_1108 := foaa W1102 f_1086 (Or.inl (hw _ (wd 46 rfl))) (Or.inr (hw _ (wd 29 rfl))) (by decide)
      have f_1109 := foaa W1102 f_1087 (Or.inl (hw _ (wd 48 rfl))) (Or.inr (hw _ (wd 29 rfl))) (by decide)
      have f_1110 := foaa W1102 f_1088 (Or.inl (hw _ (wd 50 rfl))) (Or.inr (hw _ (wd 29 rfl))) (by decide)
      have f_1111 := foaa W1102 f_1089 (Or.inl (hw _ (wd 52 rfl))) (Or.inr (hw _ (wd 29 rfl))) (by decide)
      have f_1112 := foia W1102 f_1090 (Or.inl (hw _ (wd 119 rfl))) (Or.inr (hw _ (wd 29 rfl))) (by decide)
      have f_1113 := foia W1102 f_1091 (Or.inl (hw _ (wd 117 rfl))) (Or.inr (hw _ (wd 29 rfl))) (by decide)
      have f_1114 := foia W1102 f_1092 (Or.inl (hw _ (wd 54 rfl))) (Or.inr (hw _ (wd 29 rfl))) (by decide)
      have f_1115 := Exa.wr W1102 f_1093
      have f_1116 := Exa.wr W1102 f_1094
      have f_1117 := Exa.wr W1102 f_1095
      have f_1118 := Exa.wr W1102 f_1096
      have zl_1119 := Nat.le_trans zl_1097 (Nat.le_of_eq (Wr.size W1102).symm)
      have k_1120 : Go p.tables e below B0 (sf T1102 m 134 #[rv a1, rv a2, iv c2_949, iv c3_949, iv c4_949, rv b933, rv b972, rv b990, rv b1009, iv 1] [.ref b933, .ref a1]) := fun t q => by
       refine k_1101 t ?_
       refine st1102 _ ?_
       show Steps _ _ _ (sf T1102 m 131 #[rv a1, rv a2, iv c2_949, iv c3_949, iv c4_949, rv b933, rv b972, rv b990, rv b1009, iv 1] []) _
       refine s_aloadN X1102.here hx (hb hby d2_131) rfl rfl ?_
       refine s_aload X1102.here hx (hb hby d2_132) rfl rfl ?_
       exact q
      obtain ⟨u1121, c1121, hf1121⟩ := Option.bind_eq_some_iff.mp hf1080
      obtain ⟨cl1122, Ar1122', sl1122, ln1122⟩ := w1102.at (i := 1) (by decide)
      have Ar1122 : Arr Z h1102 b933 cl1122 .int := Ar1122'
      obtain ⟨T1123, h1123, X1123, e1123, E1123, A1123, XA1123, st1123⟩ := cloneA X1102 hx hZ hown (hw _ (wd 30 rfl)) (hw _ (wd 31 rfl)) (hw _ (wd 35 rfl)) (hw _ (wd 33 rfl)) (hw _ (wd 34 rfl)) (hw _ (wd 36 rfl)) e1102 Ar1122 f_1115 (own_fitC Ar1122 sl1122) (g := (mkF m 134 #[rv a1, rv a2, iv c2_949, iv c3_949, iv c4_949, rv b933, rv b972, rv b990, rv b1009, iv 1] [.ref b933, .ref a1])) rfl (by rw [hml]; rfl) rfl (hb hby d2_134) (by decide) (W := 1) (by show 2 * 0 + _ ≤ _; exact Nat.le_of_eq rfl) (by decide) (cap := 7) (by rw [IA.size sl1122]; exact guardI_spec c1121) (by decide) (by decide)
      obtain ⟨b1123, g1123⟩ : ∃ z, z = h1102.size := ⟨_, rfl⟩
      rw [← g1123] at A1123 XA1123 st1123
      obtain ⟨σ1124, c1124, hf1124⟩ := Option.bind_eq_some_iff.mp hf1121
      have w1123 := WC.snocX w1102 E1123 ⟨_, A1123, sl1122, ln1122⟩ g1123 zl_1119
      rw [Option.some.inj c1124] at w1123
      have w1123 : WC Z n0 h1123 (psX (fun _ => (0 : Addr)) 0 [a2, b933, b972, b990, b1009, b1123]) 6 σ1124 := w1123
      have f_1125 := Exa.ext E1123 f_1103
      have f_1126 := Fld.ext E1123 f_1104
      have f_1127 := Fld.ext E1123 f_1105
      have f_1128 := Fld.ext E1123 f_1106
      have f_1129 := Fld.ext E1123 f_1107
      have f_1130 := Fld.ext E1123 f_1108
      have f_1131 := Fld.ext E1123 f_1109
      have f_1132 := Fld.ext E1123 f_1110
      have f_1133 := Fld.ext E1123 f_1111
      have f_1134 := Fld.ext E1123 f_1112
      have f_1135 := Fld.ext E1123 f_1113
      have f_1136 := Fld.ext E1123 f_1114
      have f_1137 := Exa.ext E1123 f_1115
      have f_1138 := Exa.ext E1123 f_1116
      have f_1139 := Exa.ext E1123 f_1117
      have f_1140 := Exa.ext E1123 f_1118
      have zl_1141 := Nat.le_trans zl_1119 E1123.1
      have k_1142 : Go p.tables e below B0 (sf T1123 m 137 #[rv a1, rv a2, iv c2_949, iv c3_949, iv c4_949, rv b933, rv b972, rv b990, rv b1009, iv 1] [.ref b1123, .ref a1]) := fun t q => by
       refine k_1120 t ?_
       refine st1123 _ ?_
       show Steps _ _ _ (sf T1123 m 137 #[rv a1, rv a2, iv c2_949, iv c3_949, iv c4_949, rv b933, rv b972, rv b990, rv b1009, iv 1] [.ref b1123, .ref a1]) _
       exact q
      obtain ⟨T1143, X1143, e1143, st1143⟩ := castY X1123 hx hZ hown (hw _ (wd 37 rfl)) e1123 (Ins.self XA1123) (g := (mkF m 137 #[rv a1, rv a2, iv c2_949, iv c3_949, iv c4_949, rv b933, rv b972, rv b990, rv b1009, iv 1] [.ref b1123, .ref a1])) rfl rfl (hb hby d2_137)
      have k_1144 : Go p.tables e below B0 (sf T1143 m 140 #[rv a1, rv a2, iv c2_949, iv c3_949, iv c4_949, rv b933, rv b972, rv b990, rv b1009, iv 1] [.ref b1123, .ref a1]) := fun t q => by
       refine k_1142 t ?_
       refine st1143 _ ?_
       show Steps _ _ _ (sf T1143 m 140 #[rv a1, rv a2, iv c2_949, iv c3_949, iv c4_949, rv b933, rv b972, rv b990, rv b1009, iv 1] [.ref b1123, .ref a1]) _
       exact q
      obtain ⟨T1145, h1145, X1145, e1145, W1145, st1145⟩ := putF X1143 hx hZ hown (host := "") (Or.inl (hw _ (wd 39 rfl))) Via.refl e1143 f_1127 f_1125 (Or.inr ⟨(hw _ (wd 40 rfl)), rfl, hnm⟩) (hw _ (wd 2 rfl)) (ty := (.array .int)) (by decide) rfl rfl (g := (mkF m 140 #[rv a1, rv a2, iv c2_949, iv c3_949, iv c4_949, rv b933, rv b972, rv b990, rv b1009, iv 1] [.ref b1123, .ref a1])) rfl rfl (hb hby d2_140)
      have N1145 := Fr.snoc X1145 N1102 g0
      have w1145 := w1123.wrO f_1125 (hw _ (wd 2 rfl)) W1145
      have f_1146 := Exa.wr W1145 f_1125
      have f_1147 := foaa W1145 f_1126 (Or.inr (hw _ (wd 29 rfl))) (Or.inr (hw _ (wd 40 rfl))) (by decide)
      have f_1148 := Fld.same W1145 f_1127
      have f_1149 := foaa W1145 f_1128 (Or.inr (hw _ (wd 42 rfl))) (Or.inr (hw _ (wd 40 rfl))) (by decide)
      have f_1150 := foaa W1145 f_1129 (Or.inr (hw _ (wd 44 rfl))) (Or.inr (hw _ (wd 40 rfl))) (by decide)
      have f_1151 := foaa W1145 f_1130 (Or.inl (hw _ (wd 46 rfl))) (Or.inr (hw _ (wd 40 rfl))) (by decide)
      have f_1152 := foaa W1145 f_1131 (Or.inl (hw _ (wd 48 rfl))) (Or.inr (hw _ (wd 40 rfl))) (by decide)
      have f_1153 := foaa W1145 f_1132 (Or.inl (hw _ (wd 50 rfl))) (Or.inr (hw _ (wd 40 rfl))) (by decide)
      have f_1154 := foaa W1145 f_1133 (Or.inl (hw _ (wd 52 rfl))) (Or.inr (hw _ (wd 40 rfl))) (by decide)
      have f_1155 := foia W1145 f_1134 (Or.inl (hw _ (wd 119 rfl))) (Or.inr (hw _ (wd 40 rfl))) (by decide)
      have f_1156 := foia W1145 f_1135 (Or.inl (hw _ (wd 117 rfl))) (Or.inr (hw _ (wd 40 rfl))) (by decide)
      have f_1157 := foia W1145 f_1136 (Or.inl (hw _ (wd 54 rfl))) (Or.inr (hw _ (wd 40 rfl))) (by decide)
      have f_1158 := Exa.wr W1145 f_1137
      have f_1159 := Exa.wr W1145 f_1138
      have f_1160 := Exa.wr W1145 f_1139
      have f_1161 := Exa.wr W1145 f_1140
      have f_1162 := Exa.wr W1145 XA1123
      have zl_1163 := Nat.le_trans zl_1141 (Nat.le_of_eq (Wr.size W1145).symm)
      have k_1164 : Go p.tables e below B0 (sf T1145 m 146 #[rv a1, rv a2, iv c2_949, iv c3_949, iv c4_949, rv b933, rv b972, rv b990, rv b1009, iv 1] [.ref b972, .ref a1]) := fun t q => by
       refine k_1144 t ?_
       refine st1145 _ ?_
       show Steps _ _ _ (sf T1145 m 143 #[rv a1, rv a2, iv c2_949, iv c3_949, iv c4_949, rv b933, rv b972, rv b990, rv b1009, iv 1] []) _
       refine s_aloadN X1145.here hx (hb hby d2_143) rfl rfl ?_
       refine s_aload X1145.here hx (hb hby d2_144) rfl rfl ?_
       exact q
      obtain ⟨T1165, h1165, X1165, e1165, W1165, st1165⟩ := putF X1145 hx hZ hown (host := "") (Or.inl (hw _ (wd 41 rfl))) Via.refl e1145 f_1149 f_1146 (Or.inr ⟨(hw _ (wd 42 rfl)), rfl, hnm⟩) (hw _ (wd 2 rfl)) (ty := (.array .int)) (by decide) rfl rfl (g := (mkF m 146 #[rv a1, rv a2, iv c2_949, iv c3_949, iv c4_949, rv b933, rv b972, rv b990, rv b1009, iv 1] [.ref b972, .ref a1])) rfl rfl (hb hby d2_146)
      have N1165 := Fr.snoc X1165 N1145 g0
      have w1165 := w1145.wrO f_1146 (hw _ (wd 2 rfl)) W1165
      have f_1166 := Exa.wr W1165 f_1146
      have f_1167 := foaa W1165 f_1147 (Or.inr (hw _ (wd 29 rfl))) (Or.inr (hw _ (wd 42 rfl))) (by decide)
      have f_1168 := foaa W1165 f_1148 (Or.inr (hw _ (wd 40 rfl))) (Or.inr (hw _ (wd 42 rfl))) (by decide)
      have f_1169 := Fld.same W1165 f_1149
      have f_1170 := foaa W1165 f_1150 (Or.inr (hw _ (wd 44 rfl))) (Or.inr (hw _ (wd 42 rfl))) (by decide)
      have f_1171 := foaa W1165 f_1151 (Or.inl (hw _ (wd 46 rfl))) (Or.inr (hw _ (wd 42 rfl))) (by decide)
      have f_1172 := foaa W1165 f_1152 (Or.inl (hw _ (wd 48 rfl))) (Or.inr (hw _ (wd 42 rfl))) (by decide)
      have f_1173 := foaa W1165 f_1153 (Or.inl (hw _ (wd 50 rfl))) (Or.inr (hw _ (wd 42 rfl))) (by decide)
      have f_1174 := foaa W1165 f_1154 (Or.inl (hw _ (wd 52 rfl))) (Or.inr (hw _ (wd 42 rfl))) (by decide)
      have f_1175 := foia W1165 f_1155 (Or.inl (hw _ (wd 119 rfl))) (Or.inr (hw _ (wd 42 rfl))) (by decide)
      have f_1176 := foia W1165 f_1156 (Or.inl (hw _ (wd 117 rfl))) (Or.inr (hw _ (wd 42 rfl))) (by decide)
      have f_1177 := foia W1165 f_1157 (Or.inl (hw _ (wd 54 rfl))) (Or.inr (hw _ (wd 42 rfl))) (by decide)
      have f_1178 := Exa.wr W1165 f_1158
      have f_1179 := Exa.wr W1165 f_1159
      have f_1180 := Exa.wr W1165 f_1160
      have f_1181 := Exa.wr W1165 f_1161
      have f_1182 := Exa.wr W1165 f_1162
      have zl_1183 := Nat.le_trans zl_1163 (Nat.le_of_eq (Wr.size W1165).symm)
      have k_1184 : Go p.tables e below B0 (sf T1165 m 151 #[rv a1, rv a2, iv c2_949, iv c3_949, iv c4_949, rv b933, rv b972, rv b990, rv b1009, iv 1] [.int c2_949, .ref a1]) := fun t q => by
       refine k_1164 t ?_
       refine st1165 _ ?_
       show Steps _ _ _ (sf T1165 m 149 #[rv a1, rv a2, iv c2_949, iv c3_949, iv c4_949, rv b933, rv b972, rv b990, rv b1009, iv 1] []) _
       refine s_aloadN X1165.here hx (hb hby d2_149) rfl rfl ?_
       refine s_iloadN X1165.here hx (hb hby d2_150) rfl ?_
       exact q
      obtain ⟨u1185, c1185, hf1185⟩ := Option.bind_eq_some_iff.mp hf1124
      obtain ⟨T1186, h1186, kc1186, X1186, e1186, E1186, A1186, XA1186, st1186⟩ := newPE X1165 hx hZ (hw _ (wd 7 rfl)) e1165 (g := (mkF m 151 #[rv a1, rv a2, iv c2_949, iv c3_949, iv c4_949, rv b933, rv b972, rv b990, rv b1009, iv 1] [.int c2_949, .ref a1])) rfl (hb hby d2_151) rfl (guardI_spec c1185).1 (cap := 7) (guardI_spec c1185).2 (by decide) (by decide) (by decide) (ad := "[I") (by decide)
      obtain ⟨b1186, g1186⟩ : ∃ z, z = h1165.size := ⟨_, rfl⟩
      rw [← g1186] at A1186 XA1186 st1186
      obtain ⟨σ1187, c1187, hf1187⟩ := Option.bind_eq_some_iff.mp hf1185
      have w1186 := WC.snocX w1165 E1186 (IA.new A1186 (guardI_spec c1185).1) g1186 zl_1183
      rw [Option.some.inj c1187] at w1186
      have w1186 : WC Z n0 h1186 (psX (fun _ => (0 : Addr)) 0 [a2, b933, b972, b990, b1009, b1123, b1186]) 7 σ1187 := w1186
      have f_1188 := Exa.ext E1186 f_1166
      have f_1189 := Fld.ext E1186 f_1167
      have f_1190 := Fld.ext E1186 f_1168
      have f_1191 := Fld.ext E1186 f_1169
      have f_1192 := Fld.ext E1186 f_1170
      have f_1193 := Fld.ext E1186 f_1171
      have f_1194 := Fld.ext E1186 f_1172
      have f_1195 := Fld.ext E1186 f_1173
      have f_1196 := Fld.ext E1186 f_1174
      have f_1197 := Fld.ext E1186 f_1175
      have f_1198 := Fld.ext E1186 f_1176
      have f_1199 := Fld.ext E1186 f_1177
      have f_1200 := Exa.ext E1186 f_1178
      have f_1201 := Exa.ext E1186 f_1179
      have f_1202 := Exa.ext E1186 f_1180
      have f_1203 := Exa.ext E1186 f_1181
      have f_1204 := Exa.ext E1186 f_1182
      have zl_1205 := Nat.le_trans zl_1183 E1186.1
      have k_1206 : Go p.tables e below B0 (sf T1186 m 153 #[rv a1, rv a2, iv c2_949, iv c3_949, iv c4_949, rv b933, rv b972, rv b990, rv b1009, iv 1] [.ref b1186, .ref a1]) := fun t q => by
       refine k_1184 t ?_
       refine st1186 _ ?_
       show Steps _ _ _ (sf T1186 m 153 #[rv a1, rv a2, iv c2_949, iv c3_949, iv c4_949, rv b933, rv b972, rv b990, rv b1009, iv 1] [.ref b1186, .ref a1]) _
       exact q
      obtain ⟨T1207, h1207, X1207, e1207, W1207, st1207⟩ := putF X1186 hx hZ hown (host := "") (Or.inl (hw _ (wd 43 rfl))) Via.refl e1186 f_1192 f_1188 (Or.inr ⟨(hw _ (wd 44 rfl)), rfl, hnm⟩) (hw _ (wd 2 rfl)) (ty := (.array .int)) (by decide) rfl rfl (g := (mkF m 153 #[rv a1, rv a2, iv c2_949, iv c3_949, iv c4_949, rv b933, rv b972, rv b990, rv b1009, iv 1] [.ref b1186, .ref a1])) rfl rfl (hb hby d2_153)
      have N1207 := Fr.snoc X1207 N1165 g0
      have w1207 := w1186.wrO f_1188 (hw _ (wd 2 rfl)) W1207
      have f_1208 := Exa.wr W1207 f_1188
      have f_1209 := foaa W1207 f_1189 (Or.inr (hw _ (wd 29 rfl))) (Or.inr (hw _ (wd 44 rfl))) (by decide)
      have f_1210 := foaa W1207 f_1190 (Or.inr (hw _ (wd 40 rfl))) (Or.inr (hw _ (wd 44 rfl))) (by decide)
      have f_1211 := foaa W1207 f_1191 (Or.inr (hw _ (wd 42 rfl))) (Or.inr (hw _ (wd 44 rfl))) (by decide)
      have f_1212 := Fld.same W1207 f_1192
      have f_1213 := foaa W1207 f_1193 (Or.inl (hw _ (wd 46 rfl))) (Or.inr (hw _ (wd 44 rfl))) (by decide)
      have f_1214 := foaa W1207 f_1194 (Or.inl (hw _ (wd 48 rfl))) (Or.inr (hw _ (wd 44 rfl))) (by decide)
      have f_1215 := foaa W1207 f_1195 (Or.inl (hw _ (wd 50 rfl))) (Or.inr (hw _ (wd 44 rfl))) (by decide)
      have f_1216 := foaa W1207 f_1196 (Or.inl (hw _ (wd 52 rfl))) (Or.inr (hw _ (wd 44 rfl))) (by decide)
      have f_1217 := foia W1207 f_1197 (Or.inl (hw _ (wd 119 rfl))) (Or.inr (hw _ (wd 44 rfl))) (by decide)
      have f_1218 := foia W1207 f_1198 (Or.inl (hw _ (wd 117 rfl))) (Or.inr (hw _ (wd 44 rfl))) (by decide)
      have f_1219 := foia W1207 f_1199 (Or.inl (hw _ (wd 54 rfl))) (Or.inr (hw _ (wd 44 rfl))) (by decide)
      have f_1220 := Exa.wr W1207 f_1200
      have f_1221 := Exa.wr W1207 f_1201
      have f_1222 := Exa.wr W1207 f_1202
      have f_1223 := Exa.wr W1207 f_1203
      have f_1224 := Exa.wr W1207 f_1204
      have f_1225 := Exa.wr W1207 XA1186
      have zl_1226 := Nat.le_trans zl_1205 (Nat.le_of_eq (Wr.size W1207).symm)
      have k_1227 : Go p.tables e below B0 (sf T1207 m 159 #[rv a1, rv a2, iv c2_949, iv c3_949, iv c4_949, rv b933, rv b972, rv b990, rv b1009, iv 1] [.ref b990, .ref a1]) := fun t q => by
       refine k_1206 t ?_
       refine st1207 _ ?_
       show Steps _ _ _ (sf T1207 m 156 #[rv a1, rv a2, iv c2_949, iv c3_949, iv c4_949, rv b933, rv b972, rv b990, rv b1009, iv 1] []) _
       refine s_aloadN X1207.here hx (hb hby d2_156) rfl rfl ?_
       refine s_aload X1207.here hx (hb hby d2_157) rfl rfl ?_
       exact q
      obtain ⟨T1228, h1228, X1228, e1228, W1228, st1228⟩ := putF X1207 hx hZ hown (host := "") (Or.inl (hw _ (wd 45 rfl))) Via.refl e1207 f_1213 f_1208 (Or.inl (hw _ (wd 46 rfl))) (hw _ (wd 2 rfl)) (ty := (.array .int)) (by decide) rfl rfl (g := (mkF m 159 #[rv a1, rv a2, iv c2_949, iv c3_949, iv c4_949, rv b933, rv b972, rv b990, rv b1009, iv 1] [.ref b990, .ref a1])) rfl rfl (hb hby d2_159)
      have N1228 := Fr.snoc X1228 N1207 g0
      have w1228 := w1207.wrO f_1208 (hw _ (wd 2 rfl)) W1228
      have f_1229 := Exa.wr W1228 f_1208
      have f_1230 := foaa W1228 f_1209 (Or.inr (hw _ (wd 29 rfl))) (Or.inl (hw _ (wd 46 rfl))) (by decide)
      have f_1231 := foaa W1228 f_1210 (Or.inr (hw _ (wd 40 rfl))) (Or.inl (hw _ (wd 46 rfl))) (by decide)
      have f_1232 := foaa W1228 f_1211 (Or.inr (hw _ (wd 42 rfl))) (Or.inl (hw _ (wd 46 rfl))) (by decide)
      have f_1233 := foaa W1228 f_1212 (Or.inr (hw _ (wd 44 rfl))) (Or.inl (hw _ (wd 46 rfl))) (by decide)
      have f_1234 := Fld.same W1228 f_1213
      have f_1235 := foaa W1228 f_1214 (Or.inl (hw _ (wd 48 rfl))) (Or.inl (hw _ (wd 46 rfl))) (by decide)
      have f_1236 := foaa W1228 f_1215 (Or.inl (hw _ (wd 50 rfl))) (Or.inl (hw _ (wd 46 rfl))) (by decide)
      have f_1237 := foaa W1228 f_1216 (Or.inl (hw _ (wd 52 rfl))) (Or.inl (hw _ (wd 46 rfl))) (by decide)
      have f_1238 := foia W1228 f_1217 (Or.inl (hw _ (wd 119 rfl))) (Or.inl (hw _ (wd 46 rfl))) (by decide)
      have f_1239 := foia W1228 f_1218 (Or.inl (hw _ (wd 117 rfl))) (Or.inl (hw _ (wd 46 rfl))) (by decide)
      have f_1240 := foia W1228 f_1219 (Or.inl (hw _ (wd 54 rfl))) (Or.inl (hw _ (wd 46 rfl))) (by decide)
      have f_1241 := Exa.wr W1228 f_1220
      have f_1242 := Exa.wr W1228 f_1221
      have f_1243 := Exa.wr W1228 f_1222
      have f_1244 := Exa.wr W1228 f_1223
      have f_1245 := Exa.wr W1228 f_1224
      have f_1246 := Exa.wr W1228 f_1225
      have zl_1247 := Nat.le_trans zl_1226 (Nat.le_of_eq (Wr.size W1228).symm)
      have k_1248 : Go p.tables e below B0 (sf T1228 m 165 #[rv a1, rv a2, iv c2_949, iv c3_949, iv c4_949, rv b933, rv b972, rv b990, rv b1009, iv 1] [.ref b1009, .ref a1]) := fun t q => by
       refine k_1227 t ?_
       refine st1228 _ ?_
       show Steps _ _ _ (sf T1228 m 162 #[rv a1, rv a2, iv c2_949, iv c3_949, iv c4_949, rv b933, rv b972, rv b990, rv b1009, iv 1] []) _
       refine s_aloadN X1228.here hx (hb hby d2_162) rfl rfl ?_
       refine s_aload X1228.here hx (hb hby d2_163) rfl rfl ?_
       exact q
      obtain ⟨T1249, h1249, X1249, e1249, W1249, st1249⟩ := putF X1228 hx hZ hown (host := "") (Or.inl (hw _ (wd 47 rfl))) Via.refl e1228 f_1235 f_1229 (Or.inl (hw _ (wd 48 rfl))) (hw _ (wd 2 rfl)) (ty := (.array .int)) (by decide) rfl rfl (g := (mkF m 165 #[rv a1, rv a2, iv c2_949, iv c3_949, iv c4_949, rv b933, rv b972, rv b990, rv b1009, iv 1] [.ref b1009, .ref a1])) rfl rfl (hb hby d2_165)
      have N1249 := Fr.snoc X1249 N1228 g0
      have w1249 := w1228.wrO f_1229 (hw _ (wd 2 rfl)) W1249
      have f_1250 := Exa.wr W1249 f_1229
      have f_1251 := foaa W1249 f_1230 (Or.inr (hw _ (wd 29 rfl))) (Or.inl (hw _ (wd 48 rfl))) (by decide)
      have f_1252 := foaa W1249 f_1231 (Or.inr (hw _ (wd 40 rfl))) (Or.inl (hw _ (wd 48 rfl))) (by decide)
      have f_1253 := foaa W1249 f_1232 (Or.inr (hw _ (wd 42 rfl))) (Or.inl (hw _ (wd 48 rfl))) (by decide)
      have f_1254 := foaa W1249 f_1233 (Or.inr (hw _ (wd 44 rfl))) (Or.inl (hw _ (wd 48 rfl))) (by decide)
      have f_1255 := foaa W1249 f_1234 (Or.inl (hw _ (wd 46 rfl))) (Or.inl (hw _ (wd 48 rfl))) (by decide)
      have f_1256 := Fld.same W1249 f_1235
      have f_1257 := foaa W1249 f_1236 (Or.inl (hw _ (wd 50 rfl))) (Or.inl (hw _ (wd 48 rfl))) (by decide)
      have f_1258 := foaa W1249 f_1237 (Or.inl (hw _ (wd 52 rfl))) (Or.inl (hw _ (wd 48 rfl))) (by decide)
      have f_1259 := foia W1249 f_1238 (Or.inl (hw _ (wd 119 rfl))) (Or.inl (hw _ (wd 48 rfl))) (by decide)
      have f_1260 := foia W1249 f_1239 (Or.inl (hw _ (wd 117 rfl))) (Or.inl (hw _ (wd 48 rfl))) (by decide)
      have f_1261 := foia W1249 f_1240 (Or.inl (hw _ (wd 54 rfl))) (Or.inl (hw _ (wd 48 rfl))) (by decide)
      have f_1262 := Exa.wr W1249 f_1241
      have f_1263 := Exa.wr W1249 f_1242
      have f_1264 := Exa.wr W1249 f_1243
      have f_1265 := Exa.wr W1249 f_1244
      have f_1266 := Exa.wr W1249 f_1245
      have f_1267 := Exa.wr W1249 f_1246
      have zl_1268 := Nat.le_trans zl_1247 (Nat.le_of_eq (Wr.size W1249).symm)
      have k_1269 : Go p.tables e below B0 (sf T1249 m 171 #[rv a1, rv a2, iv c2_949, iv c3_949, iv c4_949, rv b933, rv b972, rv b990, rv b1009, iv 1] [.ref b990, .ref a1]) := fun t q => by
       refine k_1248 t ?_
       refine st1249 _ ?_
       show Steps _ _ _ (sf T1249 m 168 #[rv a1, rv a2, iv c2_949, iv c3_949, iv c4_949, rv b933, rv b972, rv b990, rv b1009, iv 1] []) _
       refine s_aloadN X1249.here hx (hb hby d2_168) rfl rfl ?_
       refine s_aload X1249.here hx (hb hby d2_169) rfl rfl ?_
       exact q
      obtain ⟨u1270, c1270, hf1270⟩ := Option.bind_eq_some_iff.mp hf1187
      obtain ⟨cl1271, Ar1271', sl1271, ln1271⟩ := w1249.at (i := 3) (by decide)
      have Ar1271 : Arr Z h1249 b990 cl1271 .int := Ar1271'
      obtain ⟨T1272, h1272, X1272, e1272, E1272, A1272, XA1272, st1272⟩ := cloneA X1249 hx hZ hown (hw _ (wd 30 rfl)) (hw _ (wd 31 rfl)) (hw _ (wd 35 rfl)) (hw _ (wd 33 rfl)) (hw _ (wd 34 rfl)) (hw _ (wd 36 rfl)) e1249 Ar1271 f_1264 (own_fitC Ar1271 sl1271) (g := (mkF m 171 #[rv a1, rv a2, iv c2_949, iv c3_949, iv c4_949, rv b933, rv b972, rv b990, rv b1009, iv 1] [.ref b990, .ref a1])) rfl (by rw [hml]; rfl) rfl (hb hby d2_171) (by decide) (W := 1) (by show 2 * 0 + _ ≤ _; exact Nat.le_of_eq rfl) (by decide) (cap := 7) (by rw [IA.size sl1271]; exact guardI_spec c1270) (by decide) (by decide)
      obtain ⟨b1272, g1272⟩ : ∃ z, z = h1249.size := ⟨_, rfl⟩
      rw [← g1272] at A1272 XA1272 st1272
      obtain ⟨σ1273, c1273, hf1273⟩ := Option.bind_eq_some_iff.mp hf1270
      have w1272 := WC.snocX w1249 E1272 ⟨_, A1272, sl1271, ln1271⟩ g1272 zl_1268
      rw [Option.some.inj c1273] at w1272
      have w1272 : WC Z n0 h1272 (psX (fun _ => (0 : Addr)) 0 [a2, b933, b972, b990, b1009, b1123, b1186, b1272]) 8 σ1273 := w1272
      have f_1274 := Exa.ext E1272 f_1250
      have f_1275 := Fld.ext E1272 f_1251
      have f_1276 := Fld.ext E1272 f_1252
      have f_1277 := Fld.ext E1272 f_1253
      have f_1278 := Fld.ext E1272 f_1254
      have f_1279 := Fld.ext E1272 f_1255
      have f_1280 := Fld.ext E1272 f_1256
      have f_1281 := Fld.ext E1272 f_1257
      have f_1282 := Fld.ext E1272 f_1258
      have f_1283 := Fld.ext E1272 f_1259
      have f_1284 := Fld.ext E1272 f_1260
      have f_1285 := Fld.ext E1272 f_1261
      have f_1286 := Exa.ext E1272 f_1262
      have f_1287 := Exa.ext E1272 f_1263
      have f_1288 := Exa.ext E1272 f_1264
      have f_1289 := Exa.ext E1272 f_1265
      have f_1290 := Exa.ext E1272 f_1266
      have f_1291 := Exa.ext E1272 f_1267
      have zl_1292 := Nat.le_trans zl_1268 E1272.1
      have k_1293 : Go p.tables e below B0 (sf T1272 m 174 #[rv a1, rv a2, iv c2_949, iv c3_949, iv c4_949, rv b933, rv b972, rv b990, rv b1009, iv 1] [.ref b1272, .ref a1]) := fun t q => by
       refine k_1269 t ?_
       refine st1272 _ ?_
       show Steps _ _ _ (sf T1272 m 174 #[rv a1, rv a2, iv c2_949, iv c3_949, iv c4_949, rv b933, rv b972, rv b990, rv b1009, iv 1] [.ref b1272, .ref a1]) _
       exact q
      obtain ⟨T1294, X1294, e1294, st1294⟩ := castY X1272 hx hZ hown (hw _ (wd 37 rfl)) e1272 (Ins.self XA1272) (g := (mkF m 174 #[rv a1, rv a2, iv c2_949, iv c3_949, iv c4_949, rv b933, rv b972, rv b990, rv b1009, iv 1] [.ref b1272, .ref a1])) rfl rfl (hb hby d2_174)
      have k_1295 : Go p.tables e below B0 (sf T1294 m 177 #[rv a1, rv a2, iv c2_949, iv c3_949, iv c4_949, rv b933, rv b972, rv b990, rv b1009, iv 1] [.ref b1272, .ref a1]) := fun t q => by
       refine k_1293 t ?_
       refine st1294 _ ?_
       show Steps _ _ _ (sf T1294 m 177 #[rv a1, rv a2, iv c2_949, iv c3_949, iv c4_949, rv b933, rv b972, rv b990, rv b1009, iv 1] [.ref b1272, .ref a1]) _
       exact q
      obtain ⟨T1296, h1296, X1296, e1296, W1296, st1296⟩ := putF X1294 hx hZ hown (host := "") (Or.inl (hw _ (wd 49 rfl))) Via.refl e1294 f_1281 f_1274 (Or.inl (hw _ (wd 50 rfl))) (hw _ (wd 2 rfl)) (ty := (.array .int)) (by decide) rfl rfl (g := (mkF m 177 #[rv a1, rv a2, iv c2_949, iv c3_949, iv c4_949, rv b933, rv b972, rv b990, rv b1009, iv 1] [.ref b1272, .ref a1])) rfl rfl (hb hby d2_177)
      have N1296 := Fr.snoc X1296 N1249 g0
      have w1296 := w1272.wrO f_1274 (hw _ (wd 2 rfl)) W1296
      have f_1297 := Exa.wr W1296 f_1274
      have f_1298 := foaa W1296 f_1275 (Or.inr (hw _ (wd 29 rfl))) (Or.inl (hw _ (wd 50 rfl))) (by decide)
      have f_1299 := foaa W1296 f_1276 (Or.inr (hw _ (wd 40 rfl))) (Or.inl (hw _ (wd 50 rfl))) (by decide)
      have f_1300 := foaa W1296 f_1277 (Or.inr (hw _ (wd 42 rfl))) (Or.inl (hw _ (wd 50 rfl))) (by decide)
      have f_1301 := foaa W1296 f_1278 (Or.inr (hw _ (wd 44 rfl))) (Or.inl (hw _ (wd 50 rfl))) (by decide)
      have f_1302 := foaa W1296 f_1279 (Or.inl (hw _ (wd 46 rfl))) (Or.inl (hw _ (wd 50 rfl))) (by decide)
      have f_1303 := foaa W1296 f_1280 (Or.inl (hw _ (wd 48 rfl))) (Or.inl (hw _ (wd 50 rfl))) (by decide)
      have f_1304 := Fld.same W1296 f_1281
      have f_1305 := foaa W1296 f_1282 (Or.inl (hw _ (wd 52 rfl))) (Or.inl (hw _ (wd 50 rfl))) (by decide)
      have f_1306 := foia W1296 f_1283 (Or.inl (hw _ (wd 119 rfl))) (Or.inl (hw _ (wd 50 rfl))) (by decide)
      have f_1307 := foia W1296 f_1284 (Or.inl (hw _ (wd 117 rfl))) (Or.inl (hw _ (wd 50 rfl))) (by decide)
      have f_1308 := foia W1296 f_1285 (Or.inl (hw _ (wd 54 rfl))) (Or.inl (hw _ (wd 50 rfl))) (by decide)
      have f_1309 := Exa.wr W1296 f_1286
      have f_1310 := Exa.wr W1296 f_1287
      have f_1311 := Exa.wr W1296 f_1288
      have f_1312 := Exa.wr W1296 f_1289
      have f_1313 := Exa.wr W1296 f_1290
      have f_1314 := Exa.wr W1296 f_1291
      have f_1315 := Exa.wr W1296 XA1272
      have zl_1316 := Nat.le_trans zl_1292 (Nat.le_of_eq (Wr.size W1296).symm)
      have k_1317 : Go p.tables e below B0 (sf T1296 m 183 #[rv a1, rv a2, iv c2_949, iv c3_949, iv c4_949, rv b933, rv b972, rv b990, rv b1009, iv 1] [.int c4_949, .ref a1]) := fun t q => by
       refine k_1295 t ?_
       refine st1296 _ ?_
       show Steps _ _ _ (sf T1296 m 180 #[rv a1, rv a2, iv c2_949, iv c3_949, iv c4_949, rv b933, rv b972, rv b990, rv b1009, iv 1] []) _
       refine s_aloadN X1296.here hx (hb hby d2_180) rfl rfl ?_
       refine s_iload X1296.here hx (hb hby d2_181) rfl ?_
       exact q
      obtain ⟨u1318, c1318, hf1318⟩ := Option.bind_eq_some_iff.mp hf1273
      obtain ⟨T1319, h1319, kc1319, X1319, e1319, E1319, A1319, XA1319, st1319⟩ := newPE X1296 hx hZ (hw _ (wd 7 rfl)) e1296 (g := (mkF m 183 #[rv a1, rv a2, iv c2_949, iv c3_949, iv c4_949, rv b933, rv b972, rv b990, rv b1009, iv 1] [.int c4_949, .ref a1])) rfl (hb hby d2_183) rfl (guardI_spec c1318).1 (cap := 7) (guardI_spec c1318).2 (by decide) (by decide) (by decide) (ad := "[I") (by decide)
      obtain ⟨b1319, g1319⟩ : ∃ z, z = h1296.size := ⟨_, rfl⟩
      rw [← g1319] at A1319 XA1319 st1319
      obtain ⟨σ1320, c1320, hf1320⟩ := Option.bind_eq_some_iff.mp hf1318
      have w1319 := WC.snocX w1296 E1319 (IA.new A1319 (guardI_spec c1318).1) g1319 zl_1316
      rw [Option.some.inj c1320] at w1319
      have w1319 : WC Z n0 h1319 (psX (fun _ => (0 : Addr)) 0 [a2, b933, b972, b990, b1009, b1123, b1186, b1272, b1319]) 9 σ1320 := w1319
      have f_1321 := Exa.ext E1319 f_1297
      have f_1322 := Fld.ext E1319 f_1298
      have f_1323 := Fld.ext E1319 f_1299
      have f_1324 := Fld.ext E1319 f_1300
      have f_1325 := Fld.ext E1319 f_1301
      have f_1326 := Fld.ext E1319 f_1302
      have f_1327 := Fld.ext E1319 f_1303
      have f_1328 := Fld.ext E1319 f_1304
      have f_1329 := Fld.ext E1319 f_1305
      have f_1330 := Fld.ext E1319 f_1306
      have f_1331 := Fld.ext E1319 f_1307
      have f_1332 := Fld.ext E1319 f_1308
      have f_1333 := Exa.ext E1319 f_1309
      have f_1334 := Exa.ext E1319 f_1310
      have f_1335 := Exa.ext E1319 f_1311
      have f_1336 := Exa.ext E1319 f_1312
      have f_1337 := Exa.ext E1319 f_1313
      have f_1338 := Exa.ext E1319 f_1314
      have f_1339 := Exa.ext E1319 f_1315
      have zl_1340 := Nat.le_trans zl_1316 E1319.1
      have k_1341 : Go p.tables e below B0 (sf T1319 m 185 #[rv a1, rv a2, iv c2_949, iv c3_949, iv c4_949, rv b933, rv b972, rv b990, rv b1009, iv 1] [.ref b1319, .ref a1]) := fun t q => by
       refine k_1317 t ?_
       refine st1319 _ ?_
       show Steps _ _ _ (sf T1319 m 185 #[rv a1, rv a2, iv c2_949, iv c3_949, iv c4_949, rv b933, rv b972, rv b990, rv b1009, iv 1] [.ref b1319, .ref a1]) _
       exact q
      obtain ⟨T1342, h1342, X1342, e1342, W1342, st1342⟩ := putF X1319 hx hZ hown (host := "") (Or.inl (hw _ (wd 51 rfl))) Via.refl e1319 f_1329 f_1321 (Or.inl (hw _ (wd 52 rfl))) (hw _ (wd 2 rfl)) (ty := (.array .int)) (by decide) rfl rfl (g := (mkF m 185 #[rv a1, rv a2, iv c2_949, iv c3_949, iv c4_949, rv b933, rv b972, rv b990, rv b1009, iv 1] [.ref b1319, .ref a1])) rfl rfl (hb hby d2_185)
      have N1342 := Fr.snoc X1342 N1296 g0
      have w1342 := w1319.wrO f_1321 (hw _ (wd 2 rfl)) W1342
      have f_1343 := Exa.wr W1342 f_1321
      have f_1344 := foaa W1342 f_1322 (Or.inr (hw _ (wd 29 rfl))) (Or.inl (hw _ (wd 52 rfl))) (by decide)
      have f_1345 := foaa W1342 f_1323 (Or.inr (hw _ (wd 40 rfl))) (Or.inl (hw _ (wd 52 rfl))) (by decide)
      have f_1346 := foaa W1342 f_1324 (Or.inr (hw _ (wd 42 rfl))) (Or.inl (hw _ (wd 52 rfl))) (by decide)
      have f_1347 := foaa W1342 f_1325 (Or.inr (hw _ (wd 44 rfl))) (Or.inl (hw _ (wd 52 rfl))) (by decide)
      have f_1348 := foaa W1342 f_1326 (Or.inl (hw _ (wd 46 rfl))) (Or.inl (hw _ (wd 52 rfl))) (by decide)
      have f_1349 := foaa W1342 f_1327 (Or.inl (hw _ (wd 48 rfl))) (Or.inl (hw _ (wd 52 rfl))) (by decide)
      have f_1350 := foaa W1342 f_1328 (Or.inl (hw _ (wd 50 rfl))) (Or.inl (hw _ (wd 52 rfl))) (by decide)
      have f_1351 := Fld.same W1342 f_1329
      have f_1352 := foia W1342 f_1330 (Or.inl (hw _ (wd 119 rfl))) (Or.inl (hw _ (wd 52 rfl))) (by decide)
      have f_1353 := foia W1342 f_1331 (Or.inl (hw _ (wd 117 rfl))) (Or.inl (hw _ (wd 52 rfl))) (by decide)
      have f_1354 := foia W1342 f_1332 (Or.inl (hw _ (wd 54 rfl))) (Or.inl (hw _ (wd 52 rfl))) (by decide)
      have f_1355 := Exa.wr W1342 f_1333
      have f_1356 := Exa.wr W1342 f_1334
      have f_1357 := Exa.wr W1342 f_1335
      have f_1358 := Exa.wr W1342 f_1336
      have f_1359 := Exa.wr W1342 f_1337
      have f_1360 := Exa.wr W1342 f_1338
      have f_1361 := Exa.wr W1342 f_1339
      have f_1362 := Exa.wr W1342 XA1319
      have zl_1363 := Nat.le_trans zl_1340 (Nat.le_of_eq (Wr.size W1342).symm)
      have k_1364 : Go p.tables e below B0 (sf T1342 m 190 #[rv a1, rv a2, iv c2_949, iv c3_949, iv c4_949, rv b933, rv b972, rv b990, rv b1009, iv 1] [.int c3_949, .ref a1]) := fun t q => by
       refine k_1341 t ?_
       refine st1342 _ ?_
       show Steps _ _ _ (sf T1342 m 188 #[rv a1, rv a2, iv c2_949, iv c3_949, iv c4_949, rv b933, rv b972, rv b990, rv b1009, iv 1] []) _
       refine s_aloadN X1342.here hx (hb hby d2_188) rfl rfl ?_
       refine s_iloadN X1342.here hx (hb hby d2_189) rfl ?_
       exact q
      obtain ⟨T1365, h1365, X1365, e1365, W1365, st1365⟩ := putF X1342 hx hZ hown (host := "") (Or.inl (hw _ (wd 53 rfl))) Via.refl e1342 f_1354 f_1343 (Or.inl (hw _ (wd 54 rfl))) (hw _ (wd 2 rfl)) (ty := .int) (by decide) rfl rfl (g := (mkF m 190 #[rv a1, rv a2, iv c2_949, iv c3_949, iv c4_949, rv b933, rv b972, rv b990, rv b1009, iv 1] [.int c3_949, .ref a1])) rfl rfl (hb hby d2_190)
      have N1365 := Fr.snoc X1365 N1342 g0
      have w1365 := w1342.wrO f_1343 (hw _ (wd 2 rfl)) W1365
      have f_1366 := Exa.wr W1365 f_1343
      have f_1367 := foai W1365 f_1344 (Or.inr (hw _ (wd 29 rfl))) (Or.inl (hw _ (wd 54 rfl))) (by decide)
      have f_1368 := foai W1365 f_1345 (Or.inr (hw _ (wd 40 rfl))) (Or.inl (hw _ (wd 54 rfl))) (by decide)
      have f_1369 := foai W1365 f_1346 (Or.inr (hw _ (wd 42 rfl))) (Or.inl (hw _ (wd 54 rfl))) (by decide)
      have f_1370 := foai W1365 f_1347 (Or.inr (hw _ (wd 44 rfl))) (Or.inl (hw _ (wd 54 rfl))) (by decide)
      have f_1371 := foai W1365 f_1348 (Or.inl (hw _ (wd 46 rfl))) (Or.inl (hw _ (wd 54 rfl))) (by decide)
      have f_1372 := foai W1365 f_1349 (Or.inl (hw _ (wd 48 rfl))) (Or.inl (hw _ (wd 54 rfl))) (by decide)
      have f_1373 := foai W1365 f_1350 (Or.inl (hw _ (wd 50 rfl))) (Or.inl (hw _ (wd 54 rfl))) (by decide)
      have f_1374 := foai W1365 f_1351 (Or.inl (hw _ (wd 52 rfl))) (Or.inl (hw _ (wd 54 rfl))) (by decide)
      have f_1375 := foii W1365 f_1352 (Or.inl (hw _ (wd 119 rfl))) (Or.inl (hw _ (wd 54 rfl))) (by decide)
      have f_1376 := foii W1365 f_1353 (Or.inl (hw _ (wd 117 rfl))) (Or.inl (hw _ (wd 54 rfl))) (by decide)
      have f_1377 := Fld.same W1365 f_1354
      have f_1378 := Exa.wr W1365 f_1355
      have f_1379 := Exa.wr W1365 f_1356
      have f_1380 := Exa.wr W1365 f_1357
      have f_1381 := Exa.wr W1365 f_1358
      have f_1382 := Exa.wr W1365 f_1359
      have f_1383 := Exa.wr W1365 f_1360
      have f_1384 := Exa.wr W1365 f_1361
      have f_1385 := Exa.wr W1365 f_1362
      have zl_1386 := Nat.le_trans zl_1363 (Nat.le_of_eq (Wr.size W1365).symm)
      have k_1387 : Go p.tables e below B0 (sf T1365 m 193 #[rv a1, rv a2, iv c2_949, iv c3_949, iv c4_949, rv b933, rv b972, rv b990, rv b1009, iv 1] []) := fun t q => by
       refine k_1364 t ?_
       refine st1365 _ ?_
       show Steps _ _ _ (sf T1365 m 193 #[rv a1, rv a2, iv c2_949, iv c3_949, iv c4_949, rv b933, rv b972, rv b990, rv b1009, iv 1] []) _
       exact q
      obtain rfl := Option.some.inj hf1320
      obtain ⟨fs, hr, hrun, hended, hW, hsame⟩ := X1365.leave (v := none) (fun _ => rfl)
      refine ⟨_, _, k_1387 _ ?_, hrun, hended, _, _, rfl, ?_, ⟨_, rfl⟩, hW, hsame.mono (by decide) (by decide)⟩
      ·exact X1365.returnOut hx Bd.returns (hb hby d2_193) hr
      ·show QB Z n0 a1 (c3_949, σ1320) none T1365.heap _
       rw [e1365]
       exact ⟨rfl, N1365, (psX (fun _ => (0 : Addr)) 0 [a2, b933, b972, b990, b1009, b1123, b1186, b1272, b1319]), w1365, zl_1386, f_1366, f_1367, f_1368, f_1369, f_1370, f_1371, f_1372, f_1373, f_1374, f_1375, f_1376, f_1377⟩
    ·rw [if_neg hc1028] at hf1010
     have k_1388 : Go p.tables e below B0 (sf T1009 m 128 #[rv a1, rv a2, iv c2_949, iv c3_949, iv c4_949, rv b933, rv b972, rv b990, rv b1009, iv 0] [.ref b933, .ref a1]) := fun t q => by
      refine k_1027 t ?_
      refine s_icmpYes X1009.here hx (pc' := 125) (hb hby d2_79) (flt hc1028).2.1 (by decide) (by decide) ?_
      refine s_aloadN X1009.here hx (hb hby d2_125) rfl rfl ?_
      refine s_aload X1009.here hx (hb hby d2_126) rfl rfl ?_
      exact q
     obtain ⟨T1389, h1389, X1389, e1389, W1389, st1389⟩ := putF X1009 hx hZ hown (host := "") (Or.inl (hw _ (wd 28 rfl))) Via.refl e1009 f_1012 f_1011 (Or.inr ⟨(hw _ (wd 29 rfl)), rfl, hnm⟩) (hw _ (wd 2 rfl)) (ty := (.array .int)) (by decide) rfl rfl (g := (mkF m 128 #[rv a1, rv a2, iv c2_949, iv c3_949, iv c4_949, rv b933, rv b972, rv b990, rv b1009, iv 0] [.ref b933, .ref a1])) rfl rfl (hb hby d2_128)
     have N1389 := Fr.snoc X1389 Nl949 g0
     have w1389 := w1009.wrO f_1011 (hw _ (wd 2 rfl)) W1389
     have f_1390 := Exa.wr W1389 f_1011
     have f_1391 := Fld.same W1389 f_1012
     have f_1392 := foaa W1389 f_1013 (Or.inr (hw _ (wd 40 rfl))) (Or.inr (hw _ (wd 29 rfl))) (by decide)
     have f_1393 := foaa W1389 f_1014 (Or.inr (hw _ (wd 42 rfl))) (Or.inr (hw _ (wd 29 rfl))) (by decide)
     have f_1394 := foaa W1389 f_1015 (Or.inr (hw _ (wd 44 rfl))) (Or.inr (hw _ (wd 29 rfl))) (by decide)
     have f_1395 := foaa W1389 f_1016 (Or.inl (hw _ (wd 46 rfl))) (Or.inr (hw _ (wd 29 rfl))) (by decide)
     have f_1396 := foaa W1389 f_1017 (Or.inl (hw _ (wd 48 rfl))) (Or.inr (hw _ (wd 29 rfl))) (by decide)
     have f_1397 := foaa W1389 f_1018 (Or.inl (hw _ (wd 50 rfl))) (Or.inr (hw _ (wd 29 rfl))) (by decide)
     have f_1398 := foaa W1389 f_1019 (Or.inl (hw _ (wd 52 rfl))) (Or.inr (hw _ (wd 29 rfl))) (by decide)
     have f_1399 := foia W1389 f_1020 (Or.inl (hw _ (wd 119 rfl))) (Or.inr (hw _ (wd 29 rfl))) (by decide)
     have f_1400 := foia W1389 f_1021 (Or.inl (hw _ (wd 117 rfl))) (Or.inr (hw _ (wd 29 rfl))) (by decide)
     have f_1401 := foia W1389 f_1022 (Or.inl (hw _ (wd 54 rfl))) (Or.inr (hw _ (wd 29 rfl))) (by decide)
     have f_1402 := Exa.wr W1389 f_1023
     have f_1403 := Exa.wr W1389 f_1024
     have f_1404 := Exa.wr W1389 f_1025
     have f_1405 := Exa.wr W1389 XA1009
     have zl_1406 := Nat.le_trans zl_1026 (Nat.le_of_eq (Wr.size W1389).symm)
     have k_1407 : Go p.tables e below B0 (sf T1389 m 134 #[rv a1, rv a2, iv c2_949, iv c3_949, iv c4_949, rv b933, rv b972, rv b990, rv b1009, iv 0] [.ref b933, .ref a1]) := fun t q => by
      refine k_1388 t ?_
      refine st1389 _ ?_
      show Steps _ _ _ (sf T1389 m 131 #[rv a1, rv a2, iv c2_949, iv c3_949, iv c4_949, rv b933, rv b972, rv b990, rv b1009, iv 0] []) _
      refine s_aloadN X1389.here hx (hb hby d2_131) rfl rfl ?_
      refine s_aload X1389.here hx (hb hby d2_132) rfl rfl ?_
      exact q
     obtain ⟨u1408, c1408, hf1408⟩ := Option.bind_eq_some_iff.mp hf1010
     obtain ⟨cl1409, Ar1409', sl1409, ln1409⟩ := w1389.at (i := 1) (by decide)
     have Ar1409 : Arr Z h1389 b933 cl1409 .int := Ar1409'
     obtain ⟨T1410, h1410, X1410, e1410, E1410, A1410, XA1410, st1410⟩ := cloneA X1389 hx hZ hown (hw _ (wd 30 rfl)) (hw _ (wd 31 rfl)) (hw _ (wd 35 rfl)) (hw _ (wd 33 rfl)) (hw _ (wd 34 rfl)) (hw _ (wd 36 rfl)) e1389 Ar1409 f_1402 (own_fitC Ar1409 sl1409) (g := (mkF m 134 #[rv a1, rv a2, iv c2_949, iv c3_949, iv c4_949, rv b933, rv b972, rv b990, rv b1009, iv 0] [.ref b933, .ref a1])) rfl (by rw [hml]; rfl) rfl (hb hby d2_134) (by decide) (W := 1) (by show 2 * 0 + _ ≤ _; exact Nat.le_of_eq rfl) (by decide) (cap := 7) (by rw [IA.size sl1409]; exact guardI_spec c1408) (by decide) (by decide)
     obtain ⟨b1410, g1410⟩ : ∃ z, z = h1389.size := ⟨_, rfl⟩
     rw [← g1410] at A1410 XA1410 st1410
     obtain ⟨σ1411, c1411, hf1411⟩ := Option.bind_eq_some_iff.mp hf1408
     have w1410 := WC.snocX w1389 E1410 ⟨_, A1410, sl1409, ln1409⟩ g1410 zl_1406
     rw [Option.some.inj c1411] at w1410
     have w1410 : WC Z n0 h1410 (psX (fun _ => (0 : Addr)) 0 [a2, b933, b972, b990, b1009, b1410]) 6 σ1411 := w1410
     have f_1412 := Exa.ext E1410 f_1390
     have f_1413 := Fld.ext E1410 f_1391
     have f_1414 := Fld.ext E1410 f_1392
     have f_1415 := Fld.ext E1410 f_1393
     have f_1416 := Fld.ext E1410 f_1394
     have f_1417 := Fld.ext E1410 f_1395
     have f_1418 := Fld.ext E1410 f_1396
     have f_1419 := Fld.ext E1410 f_1397
     have f_1420 := Fld.ext E1410 f_1398
     have f_1421 := Fld.ext E1410 f_1399
     have f_1422 := Fld.ext E1410 f_1400
     have f_1423 := Fld.ext E1410 f_1401
     have f_1424 := Exa.ext E1410 f_1402
     have f_1425 := Exa.ext E1410 f_1403
     have f_1426 := Exa.ext E1410 f_1404
     have f_1427 := Exa.ext E1410 f_1405
     have zl_1428 := Nat.le_trans zl_1406 E1410.1
     have k_1429 : Go p.tables e below B0 (sf T1410 m 137 #[rv a1, rv a2, iv c2_949, iv c3_949, iv c4_949, rv b933, rv b972, rv b990, rv b1009, iv 0] [.ref b1410, .ref a1]) := fun t q => by
      refine k_1407 t ?_
      refine st1410 _ ?_
      show Steps _ _ _ (sf T1410 m 137 #[rv a1, rv a2, iv c2_949, iv c3_949, iv c4_949, rv b933, rv b972, rv b990, rv b1009, iv 0] [.ref b1410, .ref a1]) _
      exact q
     obtain ⟨T1430, X1430, e1430, st1430⟩ := castY X1410 hx hZ hown (hw _ (wd 37 rfl)) e1410 (Ins.self XA1410) (g := (mkF m 137 #[rv a1, rv a2, iv c2_949, iv c3_949, iv c4_949, rv b933, rv b972, rv b990, rv b1009, iv 0] [.ref b1410, .ref a1])) rfl rfl (hb hby d2_137)
     have k_1431 : Go p.tables e below B0 (sf T1430 m 140 #[rv a1, rv a2, iv c2_949, iv c3_949, iv c4_949, rv b933, rv b972, rv b990, rv b1009, iv 0] [.ref b1410, .ref a1]) := fun t q => by
      refine k_1429 t ?_
      refine st1430 _ ?_
      show Steps _ _ _ (sf T1430 m 140 #[rv a1, rv a2, iv c2_949, iv c3_949, iv c4_949, rv b933, rv b972, rv b990, rv b1009, iv 0] [.ref b1410, .ref a1]) _
      exact q
     obtain ⟨T1432, h1432, X1432, e1432, W1432, st1432⟩ := putF X1430 hx hZ hown (host := "") (Or.inl (hw _ (wd 39 rfl))) Via.refl e1430 f_1414 f_1412 (Or.inr ⟨(hw _ (wd 40 rfl)), rfl, hnm⟩) (hw _ (wd 2 rfl)) (ty := (.array .int)) (by decide) rfl rfl (g := (mkF m 140 #[rv a1, rv a2, iv c2_949, iv c3_949, iv c4_949, rv b933, rv b972, rv b990, rv b1009, iv 0] [.ref b1410, .ref a1])) rfl rfl (hb hby d2_140)
     have N1432 := Fr.snoc X1432 N1389 g0
     have w1432 := w1410.wrO f_1412 (hw _ (wd 2 rfl)) W1432
     have f_1433 := Exa.wr W1432 f_1412
     have f_1434 := foaa W1432 f_1413 (Or.inr (hw _ (wd 29 rfl))) (Or.inr (hw _ (wd 40 rfl))) (by decide)
     have f_1435 := Fld.same W1432 f_1414
     have f_1436 := foaa W1432 f_1415 (Or.inr (hw _ (wd 42 rfl))) (Or.inr (hw _ (wd 40 rfl))) (by decide)
     have f_1437 := foaa W1432 f_1416 (Or.inr (hw _ (wd 44 rfl))) (Or.inr (hw _ (wd 40 rfl))) (by decide)
     have f_1438 := foaa W1432 f_1417 (Or.inl (hw _ (wd 46 rfl))) (Or.inr (hw _ (wd 40 rfl))) (by decide)
     have f_1439 := foaa W1432 f_1418 (Or.inl (hw _ (wd 48 rfl))) (Or.inr (hw _ (wd 40 rfl))) (by decide)
     have f_1440 := foaa W1432 f_1419 (Or.inl (hw _ (wd 50 rfl))) (Or.inr (hw _ (wd 40 rfl))) (by decide)
     have f_1441 := foaa W1432 f_1420 (Or.inl (hw _ (wd 52 rfl))) (Or.inr (hw _ (wd 40 rfl))) (by decide)
     have f_1442 := foia W1432 f_1421 (Or.inl (hw _ (wd 119 rfl))) (Or.inr (hw _ (wd 40 rfl))) (by decide)
     have f_1443 := foia W1432 f_1422 (Or.inl (hw _ (wd 117 rfl))) (Or.inr (hw _ (wd 40 rfl))) (by decide)
     have f_1444 := foia W1432 f_1423 (Or.inl (hw _ (wd 54 rfl))) (Or.inr (hw _ (wd 40 rfl))) (by decide)
     have f_1445 := Exa.wr W1432 f_1424
     have f_1446 := Exa.wr W1432 f_1425
     have f_1447 := Exa.wr W1432 f_1426
     have f_1448 := Exa.wr W1432 f_1427
     have f_1449 := Exa.wr W1432 XA1410
     have zl_1450 := Nat.le_trans zl_1428 (Nat.le_of_eq (Wr.size W1432).symm)
     have k_1451 : Go p.tables e below B0 (sf T1432 m 146 #[rv a1, rv a2, iv c2_949, iv c3_949, iv c4_949, rv b933, rv b972, rv b990, rv b1009, iv 0] [.ref b972, .ref a1]) := fun t q => by
      refine k_1431 t ?_
      refine st1432 _ ?_
      show Steps _ _ _ (sf T1432 m 143 #[rv a1, rv a2, iv c2_949, iv c3_949, iv c4_949, rv b933, rv b972, rv b990, rv b1009, iv 0] []) _
      refine s_aloadN X1432.here hx (hb hby d2_143) rfl rfl ?_
      refine s_aload X1432.here hx (hb hby d2_144) rfl rfl ?_
      exact q
     obtain ⟨T1452, h1452, X1452, e1452, W1452, st1452⟩ := putF X1432 hx hZ hown (host := "") (Or.inl (hw _ (wd 41 rfl))) Via.refl e1432 f_1436 f_1433 (Or.inr ⟨(hw _ (wd 42 rfl)), rfl, hnm⟩) (hw _ (wd 2 rfl)) (ty := (.array .int)) (by decide) rfl rfl (g := (mkF m 146 #[rv a1, rv a2, iv c2_949, iv c3_949, iv c4_949, rv b933, rv b972, rv b990, rv b1009, iv 0] [.ref b972, .ref a1])) rfl rfl (hb hby d2_146)
     have N1452 := Fr.snoc X1452 N1432 g0
     have w1452 := w1432.wrO f_1433 (hw _ (wd 2 rfl)) W1452
     have f_1453 := Exa.wr W1452 f_1433
     have f_1454 := foaa W1452 f_1434 (Or.inr (hw _ (wd 29 rfl))) (Or.inr (hw _ (wd 42 rfl))) (by decide)
     have f_1455 := foaa W1452 f_1435 (Or.inr (hw _ (wd 40 rfl))) (Or.inr (hw _ (wd 42 rfl))) (by decide)
     have f_1456 := Fld.same W1452 f_1436
     have f_1457 := foaa W1452 f_1437 (Or.inr (hw _ (wd 44 rfl))) (Or.inr (hw _ (wd 42 rfl))) (by decide)
     have f_1458 := foaa W1452 f_1438 (Or.inl (hw _ (wd 46 rfl))) (Or.inr (hw _ (wd 42 rfl))) (by decide)
     have f_1459 := foaa W1452 f_1439 (Or.inl (hw _ (wd 48 rfl))) (Or.inr (hw _ (wd 42 rfl))) (by decide)
     have f_1460 := foaa W1452 f_1440 (Or.inl (hw _ (wd 50 rfl))) (Or.inr (hw _ (wd 42 rfl))) (by decide)
     have f_1461 := foaa W1452 f_1441 (Or.inl (hw _ (wd 52 rfl))) (Or.inr (hw _ (wd 42 rfl))) (by decide)
     have f_1462 := foia W1452 f_1442 (Or.inl (hw _ (wd 119 rfl))) (Or.inr (hw _ (wd 42 rfl))) (by decide)
     have f_1463 := foia W1452 f_1443 (Or.inl (hw _ (wd 117 rfl))) (Or.inr (hw _ (wd 42 rfl))) (by decide)
     have f_1464 := foia W1452 f_1444 (Or.inl (hw _ (wd 54 rfl))) (Or.inr (hw _ (wd 42 rfl))) (by decide)
     have f_1465 := Exa.wr W1452 f_1445
     have f_1466 := Exa.wr W1452 f_1446
     have f_1467 := Exa.wr W1452 f_1447
     have f_1468 := Exa.wr W1452 f_1448
     have f_1469 := Exa.wr W1452 f_1449
     have zl_1470 := Nat.le_trans zl_1450 (Nat.le_of_eq (Wr.size W1452).symm)
     have k_1471 : Go p.tables e below B0 (sf T1452 m 151 #[rv a1, rv a2, iv c2_949, iv c3_949, iv c4_949, rv b933, rv b972, rv b990, rv b1009, iv 0] [.int c2_949, .ref a1]) := fun t q => by
      refine k_1451 t ?_
      refine st1452 _ ?_
      show Steps _ _ _ (sf T1452 m 149 #[rv a1, rv a2, iv c2_949, iv c3_949, iv c4_949, rv b933, rv b972, rv b990, rv b1009, iv 0] []) _
      refine s_aloadN X1452.here hx (hb hby d2_149) rfl rfl ?_
      refine s_iloadN X1452.here hx (hb hby d2_150) rfl ?_
      exact q
     obtain ⟨u1472, c1472, hf1472⟩ := Option.bind_eq_some_iff.mp hf1411
     obtain ⟨T1473, h1473, kc1473, X1473, e1473, E1473, A1473, XA1473, st1473⟩ := newPE X1452 hx hZ (hw _ (wd 7 rfl)) e1452 (g := (mkF m 151 #[rv a1, rv a2, iv c2_949, iv c3_949, iv c4_949, rv b933, rv b972, rv b990, rv b1009, iv 0] [.int c2_949, .ref a1])) rfl (hb hby d2_151) rfl (guardI_spec c1472).1 (cap := 7) (guardI_spec c1472).2 (by decide) (by decide) (by decide) (ad := "[I") (by decide)
     obtain ⟨b1473, g1473⟩ : ∃ z, z = h1452.size := ⟨_, rfl⟩
     rw [← g1473] at A1473 XA1473 st1473
     obtain ⟨σ1474, c1474, hf1474⟩ := Option.bind_eq_some_iff.mp hf1472
     have w1473 := WC.snocX w1452 E1473 (IA.new A1473 (guardI_spec c1472).1) g1473 zl_1470
     rw [Option.some.inj c1474] at w1473
     have w1473 : WC Z n0 h1473 (psX (fun _ => (0 : Addr)) 0 [a2, b933, b972, b990, b1009, b1410, b1473]) 7 σ1474 := w1473
     have f_1475 := Exa.ext E1473 f_1453
     have f_1476 := Fld.ext E1473 f_1454
     have f_1477 := Fld.ext E1473 f_1455
     have f_1478 := Fld.ext E1473 f_1456
     have f_1479 := Fld.ext E1473 f_1457
     have f_1480 := Fld.ext E1473 f_1458
     have f_1481 := Fld.ext E1473 f_1459
     have f_1482 := Fld.ext E1473 f_1460
     have f_1483 := Fld.ext E1473 f_1461
     have f_1484 := Fld.ext E1473 f_1462
     have f_1485 := Fld.ext E1473 f_1463
     have f_1486 := Fld.ext E1473 f_1464
     have f_1487 := Exa.ext E1473 f_1465
     have f_1488 := Exa.ext E1473 f_1466
     have f_1489 := Exa.ext E1473 f_1467
     have f_1490 := Exa.ext E1473 f_1468
     have f_1491 := Exa.ext E1473 f_1469
     have zl_1492 := Nat.le_trans zl_1470 E1473.1
     have k_1493 : Go p.tables e below B0 (sf T1473 m 153 #[rv a1, rv a2, iv c2_949, iv c3_949, iv c4_949, rv b933, rv b972, rv b990, rv b1009, iv 0] [.ref b1473, .ref a1]) := fun t q => by
      refine k_1471 t ?_
      refine st1473 _ ?_
      show Steps _ _ _ (sf T1473 m 153 #[rv a1, rv a2, iv c2_949, iv c3_949, iv c4_949, rv b933, rv b972, rv b990, rv b1009, iv 0] [.ref b1473, .ref a1]) _
      exact q
     obtain ⟨T1494, h1494, X1494, e1494, W1494, st1494⟩ := putF X1473 hx hZ hown (host := "") (Or.inl (hw _ (wd 43 rfl))) Via.refl e1473 f_1479 f_1475 (Or.inr ⟨(hw _ (wd 44 rfl)), rfl, hnm⟩) (hw _ (wd 2 rfl)) (ty := (.array .int)) (by decide) rfl rfl (g := (mkF m 153 #[rv a1, rv a2, iv c2_949, iv c3_949, iv c4_949, rv b933, rv b972, rv b990, rv b1009, iv 0] [.ref b1473, .ref a1])) rfl rfl (hb hby d2_153)
     have N1494 := Fr.snoc X1494 N1452 g0
     have w1494 := w1473.wrO f_1475 (hw _ (wd 2 rfl)) W1494
     have f_1495 := Exa.wr W1494 f_1475
     have f_1496 := foaa W1494 f_1476 (Or.inr (hw _ (wd 29 rfl))) (Or.inr (hw _ (wd 44 rfl))) (by decide)
     have f_1497 := foaa W1494 f_1477 (Or.inr (hw _ (wd 40 rfl))) (Or.inr (hw _ (wd 44 rfl))) (by decide)
     have f_1498 := foaa W1494 f_1478 (Or.inr (hw _ (wd 42 rfl))) (Or.inr (hw _ (wd 44 rfl))) (by decide)
     have f_1499 := Fld.same W1494 f_1479
     have f_1500 := foaa W1494 f_1480 (Or.inl (hw _ (wd 46 rfl))) (Or.inr (hw _ (wd 44 rfl))) (by decide)
     have f_1501 := foaa W1494 f_1481 (Or.inl (hw _ (wd 48 rfl))) (Or.inr (hw _ (wd 44 rfl))) (by decide)
     have f_1502 := foaa W1494 f_1482 (Or.inl (hw _ (wd 50 rfl))) (Or.inr (hw _ (wd 44 rfl))) (by decide)
     have f_1503 := foaa W1494 f_1483 (Or.inl (hw _ (wd 52 rfl))) (Or.inr (hw _ (wd 44 rfl))) (by decide)
     have f_1504 := foia W1494 f_1484 (Or.inl (hw _ (wd 119 rfl))) (Or.inr (hw _ (wd 44 rfl))) (by decide)
     have f_1505 := foia W1494 f_1485 (Or.inl (hw _ (wd 117 rfl))) (Or.inr (hw _ (wd 44 rfl))) (by decide)
     have f_1506 := foia W1494 f_1486 (Or.inl (hw _ (wd 54 rfl))) (Or.inr (hw _ (wd 44 rfl))) (by decide)
     have f_1507 := Exa.wr W1494 f_1487
     have f_1508 := Exa.wr W1494 f_1488
     have f_1509 := Exa.wr W1494 f_1489
     have f_1510 := Exa.wr W1494 f_1490
     have f_1511 := Exa.wr W1494 f_1491
     have f_1512 := Exa.wr W1494 XA1473
     have zl_1513 := Nat.le_trans zl_1492 (Nat.le_of_eq (Wr.size W1494).symm)
     have k_1514 : Go p.tables e below B0 (sf T1494 m 159 #[rv a1, rv a2, iv c2_949, iv c3_949, iv c4_949, rv b933, rv b972, rv b990, rv b1009, iv 0] [.ref b990, .ref a1]) := fun t q => by
      refine k_1493 t ?_
      refine st1494 _ ?_
      show Steps _ _ _ (sf T1494 m 156 #[rv a1, rv a2, iv c2_949, iv c3_949, iv c4_949, rv b933, rv b972, rv b990, rv b1009, iv 0] []) _
      refine s_aloadN X1494.here hx (hb hby d2_156) rfl rfl ?_
      refine s_aload X1494.here hx (hb hby d2_157) rfl rfl ?_
      exact q
     obtain ⟨T1515, h1515, X1515, e1515, W1515, st1515⟩ := putF X1494 hx hZ hown (host := "") (Or.inl (hw _ (wd 45 rfl))) Via.refl e1494 f_1500 f_1495 (Or.inl (hw _ (wd 46 rfl))) (hw _ (wd 2 rfl)) (ty := (.array .int)) (by decide) rfl rfl (g := (mkF m 159 #[rv a1, rv a2, iv c2_949, iv c3_949, iv c4_949, rv b933, rv b972, rv b990, rv b1009, iv 0] [.ref b990, .ref a1])) rfl rfl (hb hby d2_159)
     have N1515 := Fr.snoc X1515 N1494 g0
     have w1515 := w1494.wrO f_1495 (hw _ (wd 2 rfl)) W1515
     have f_1516 := Exa.wr W1515 f_1495
     have f_1517 := foaa W1515 f_1496 (Or.inr (hw _ (wd 29 rfl))) (Or.inl (hw _ (wd 46 rfl))) (by decide)
     have f_1518 := foaa W1515 f_1497 (Or.inr (hw _ (wd 40 rfl))) (Or.inl (hw _ (wd 46 rfl))) (by decide)
     have f_1519 := foaa W1515 f_1498 (Or.inr (hw _ (wd 42 rfl))) (Or.inl (hw _ (wd 46 rfl))) (by decide)
     have f_1520 := foaa W1515 f_1499 (Or.inr (hw _ (wd 44 rfl))) (Or.inl (hw _ (wd 46 rfl))) (by decide)
     have f_1521 := Fld.same W1515 f_1500
     have f_1522 := foaa W1515 f_1501 (Or.inl (hw _ (wd 48 rfl))) (Or.inl (hw _ (wd 46 rfl))) (by decide)
     have f_1523 := foaa W1515 f_1502 (Or.inl (hw _ (wd 50 rfl))) (Or.inl (hw _ (wd 46 rfl))) (by decide)
     have f_1524 := foaa W1515 f_1503 (Or.inl (hw _ (wd 52 rfl))) (Or.inl (hw _ (wd 46 rfl))) (by decide)
     have f_1525 := foia W1515 f_1504 (Or.inl (hw _ (wd 119 rfl))) (Or.inl (hw _ (wd 46 rfl))) (by decide)
     have f_1526 := foia W1515 f_1505 (Or.inl (hw _ (wd 117 rfl))) (Or.inl (hw _ (wd 46 rfl))) (by decide)
     have f_1527 := foia W1515 f_1506 (Or.inl (hw _ (wd 54 rfl))) (Or.inl (hw _ (wd 46 rfl))) (by decide)
     have f_1528 := Exa.wr W1515 f_1507
     have f_1529 := Exa.wr W1515 f_1508
     have f_1530 := Exa.wr W1515 f_1509
     have f_1531 := Exa.wr W1515 f_1510
     have f_1532 := Exa.wr W1515 f_1511
     have f_1533 := Exa.wr W1515 f_1512
     have zl_1534 := Nat.le_trans zl_1513 (Nat.le_of_eq (Wr.size W1515).symm)
     have k_1535 : Go p.tables e below B0 (sf T1515 m 165 #[rv a1, rv a2, iv c2_949, iv c3_949, iv c4_949, rv b933, rv b972, rv b990, rv b1009, iv 0] [.ref b1009, .ref a1]) := fun t q => by
      refine k_1514 t ?_
      refine st1515 _ ?_
      show Steps _ _ _ (sf T1515 m 162 #[rv a1, rv a2, iv c2_949, iv c3_949, iv c4_949, rv b933, rv b972, rv b990, rv b1009, iv 0] []) _
      refine s_aloadN X1515.here hx (hb hby d2_162) rfl rfl ?_
      refine s_aload X1515.here hx (hb hby d2_163) rfl rfl ?_
      exact q
     obtain ⟨T1536, h1536, X1536, e1536, W1536, st1536⟩ := putF X1515 hx hZ hown (host := "") (Or.inl (hw _ (wd 47 rfl))) Via.refl e1515 f_1522 f_1516 (Or.inl (hw _ (wd 48 rfl))) (hw _ (wd 2 rfl)) (ty := (.array .int)) (by decide) rfl rfl (g := (mkF m 165 #[rv a1, rv a2, iv c2_949, iv c3_949, iv c4_949, rv b933, rv b972, rv b990, rv b1009, iv 0] [.ref b1009, .ref a1])) rfl rfl (hb hby d2_165)
     have N1536 := Fr.snoc X1536 N1515 g0
     have w1536 := w1515.wrO f_1516 (hw _ (wd 2 rfl)) W1536
     have f_1537 := Exa.wr W1536 f_1516
     have f_1538 := foaa W1536 f_1517 (Or.inr (hw _ (wd 29 rfl))) (Or.inl (hw _ (wd 48 rfl))) (by decide)
     have f_1539 := foaa W1536 f_1518 (Or.inr (hw _ (wd 40 rfl))) (Or.inl (hw _ (wd 48 rfl))) (by decide)
     have f_1540 := foaa W1536 f_1519 (Or.inr (hw _ (wd 42 rfl))) (Or.inl (hw _ (wd 48 rfl))) (by decide)
     have f_1541 := foaa W1536 f_1520 (Or.inr (hw _ (wd 44 rfl))) (Or.inl (hw _ (wd 48 rfl))) (by decide)
     have f_1542 := foaa W1536 f_1521 (Or.inl (hw _ (wd 46 rfl))) (Or.inl (hw _ (wd 48 rfl))) (by decide)
     have f_1543 := Fld.same W1536 f_1522
     have f_1544 := foaa W1536 f_1523 (Or.inl (hw _ (wd 50 rfl))) (Or.inl (hw _ (wd 48 rfl))) (by decide)
     have f_1545 := foaa W1536 f_1524 (Or.inl (hw _ (wd 52 rfl))) (Or.inl (hw _ (wd 48 rfl))) (by decide)
     have f_1546 := foia W1536 f_1525 (Or.inl (hw _ (wd 119 rfl))) (Or.inl (hw _ (wd 48 rfl))) (by decide)
     have f_1547 := foia W1536 f_1526 (Or.inl (hw _ (wd 117 rfl))) (Or.inl (hw _ (wd 48 rfl))) (by decide)
     have f_1548 := foia W1536 f_1527 (Or.inl (hw _ (wd 54 rfl))) (Or.inl (hw _ (wd 48 rfl))) (by decide)
     have f_1549 := Exa.wr W1536 f_1528
     have f_1550 := Exa.wr W1536 f_1529
     have f_1551 := Exa.wr W1536 f_1530
     have f_1552 := Exa.wr W1536 f_1531
     have f_1553 := Exa.wr W1536 f_1532
     have f_1554 := Exa.wr W1536 f_1533
     have zl_1555 := Nat.le_trans zl_1534 (Nat.le_of_eq (Wr.size W1536).symm)
     have k_1556 : Go p.tables e below B0 (sf T1536 m 171 #[rv a1, rv a2, iv c2_949, iv c3_949, iv c4_949, rv b933, rv b972, rv b990, rv b1009, iv 0] [.ref b990, .ref a1]) := fun t q => by
      refine k_1535 t ?_
      refine st1536 _ ?_
      show Steps _ _ _ (sf T1536 m 168 #[rv a1, rv a2, iv c2_949, iv c3_949, iv c4_949, rv b933, rv b972, rv b990, rv b1009, iv 0] []) _
      refine s_aloadN X1536.here hx (hb hby d2_168) rfl rfl ?_
      refine s_aload X1536.here hx (hb hby d2_169) rfl rfl ?_
      exact q
     obtain ⟨u1557, c1557, hf1557⟩ := Option.bind_eq_some_iff.mp hf1474
     obtain ⟨cl1558, Ar1558', sl1558, ln1558⟩ := w1536.at (i := 3) (by decide)
     have Ar1558 : Arr Z h1536 b990 cl1558 .int := Ar1558'
     obtain ⟨T1559, h1559, X1559, e1559, E1559, A1559, XA1559, st1559⟩ := cloneA X1536 hx hZ hown (hw _ (wd 30 rfl)) (hw _ (wd 31 rfl)) (hw _ (wd 35 rfl)) (hw _ (wd 33 rfl)) (hw _ (wd 34 rfl)) (hw _ (wd 36 rfl)) e1536 Ar1558 f_1551 (own_fitC Ar1558 sl1558) (g := (mkF m 171 #[rv a1, rv a2, iv c2_949, iv c3_949, iv c4_949, rv b933, rv b972, rv b990, rv b1009, iv 0] [.ref b990, .ref a1])) rfl (by rw [hml]; rfl) rfl (hb hby d2_171) (by decide) (W := 1) (by show 2 * 0 + _ ≤ _; exact Nat.le_of_eq rfl) (by decide) (cap := 7) (by rw [IA.size sl1558]; exact guardI_spec c1557) (by decide) (by decide)
     obtain ⟨b1559, g1559⟩ : ∃ z, z = h1536.size := ⟨_, rfl⟩
     rw [← g1559] at A1559 XA1559 st1559
     obtain ⟨σ1560, c1560, hf1560⟩ := Option.bind_eq_some_iff.mp hf1557
     have w1559 := WC.snocX w1536 E1559 ⟨_, A1559, sl1558, ln1558⟩ g1559 zl_1555
     rw [Option.some.inj c1560] at w1559
     have w1559 : WC Z n0 h1559 (psX (fun _ => (0 : Addr)) 0 [a2, b933, b972, b990, b1009, b1410, b1473, b1559]) 8 σ1560 := w1559
     have f_1561 := Exa.ext E1559 f_1537
     have f_1562 := Fld.ext E1559 f_1538
     have f_1563 := Fld.ext E1559 f_1539
     have f_1564 := Fld.ext E1559 f_1540
     have f_1565 := Fld.ext E1559 f_1541
     have f_1566 := Fld.ext E1559 f_1542
     have f_1567 := Fld.ext E1559 f_1543
     have f_1568 := Fld.ext E1559 f_1544
     have f_1569 := Fld.ext E1559 f_1545
     have f_1570 := Fld.ext E1559 f_1546
     have f_1571 := Fld.ext E1559 f_1547
     have f_1572 := Fld.ext E1559 f_1548
     have f_1573 := Exa.ext E1559 f_1549
     have f_1574 := Exa.ext E1559 f_1550
     have f_1575 := Exa.ext E1559 f_1551
     have f_1576 := Exa.ext E1559 f_1552
     have f_1577 := Exa.ext E1559 f_1553
     have f_1578 := Exa.ext E1559 f_1554
     have zl_1579 := Nat.le_trans zl_1555 E1559.1
     have k_1580 : Go p.tables e below B0 (sf T1559 m 174 #[rv a1, rv a2, iv c2_949, iv c3_949, iv c4_949, rv b933, rv b972, rv b990, rv b1009, iv 0] [.ref b1559, .ref a1]) := fun t q => by
      refine k_1556 t ?_
      refine st1559 _ ?_
      show Steps _ _ _ (sf T1559 m 174 #[rv a1, rv a2, iv c2_949, iv c3_949, iv c4_949, rv b933, rv b972, rv b990, rv b1009, iv 0] [.ref b1559, .ref a1]) _
      exact q
     obtain ⟨T1581, X1581, e1581, st1581⟩ := castY X1559 hx hZ hown (hw _ (wd 37 rfl)) e1559 (Ins.self XA1559) (g := (mkF m 174 #[rv a1, rv a2, iv c2_949, iv c3_949, iv c4_949, rv b933, rv b972, rv b990, rv b1009, iv 0] [.ref b1559, .ref a1])) rfl rfl (hb hby d2_174)
     have k_1582 : Go p.tables e below B0 (sf T1581 m 177 #[rv a1, rv a2, iv c2_949, iv c3_949, iv c4_949, rv b933, rv b972, rv b990, rv b1009, iv 0] [.ref b1559, .ref a1]) := fun t q => by
      refine k_1580 t ?_
      refine st1581 _ ?_
      show Steps _ _ _ (sf T1581 m 177 #[rv a1, rv a2, iv c2_949, iv c3_949, iv c4_949, rv b933, rv b972, rv b990, rv b1009, iv 0] [.ref b1559, .ref a1]) _
      exact q
     obtain ⟨T1583, h1583, X1583, e1583, W1583, st1583⟩ := putF X1581 hx hZ hown (host := "") (Or.inl (hw _ (wd 49 rfl))) Via.refl e1581 f_1568 f_1561 (Or.inl (hw _ (wd 50 rfl))) (hw _ (wd 2 rfl)) (ty := (.array .int)) (by decide) rfl rfl (g := (mkF m 177 #[rv a1, rv a2, iv c2_949, iv c3_949, iv c4_949, rv b933, rv b972, rv b990, rv b1009, iv 0] [.ref b1559, .ref a1])) rfl rfl (hb hby d2_177)
     have N1583 := Fr.snoc X1583 N1536 g0
     have w1583 := w1559.wrO f_1561 (hw _ (wd 2 rfl)) W1583
     have f_1584 := Exa.wr W1583 f_1561
     have f_1585 := foaa W1583 f_1562 (Or.inr (hw _ (wd 29 rfl))) (Or.inl (hw _ (wd 50 rfl))) (by decide)
     have f_1586 := foaa W1583 f_1563 (Or.inr (hw _ (wd 40 rfl))) (Or.inl (hw _ (wd 50 rfl))) (by decide)
     have f_1587 := foaa W1583 f_1564 (Or.inr (hw _ (wd 42 rfl))) (Or.inl (hw _ (wd 50 rfl))) (by decide)
     have f_1588 := foaa W1583 f_1565 (Or.inr (hw _ (wd 44 rfl))) (Or.inl (hw _ (wd 50 rfl))) (by decide)
     have f_1589 := foaa W1583 f_1566 (Or.inl (hw _ (wd 46 rfl))) (Or.inl (hw _ (wd 50 rfl))) (by decide)
     have f_1590 := foaa W1583 f_1567 (Or.inl (hw _ (wd 48 rfl))) (Or.inl (hw _ (wd 50 rfl))) (by decide)
     have f_1591 := Fld.same W1583 f_1568
     have f_1592 := foaa W1583 f_1569 (Or.inl (hw _ (wd 52 rfl))) (Or.inl (hw _ (wd 50 rfl))) (by decide)
     have f_1593 := foia W1583 f_1570 (Or.inl (hw _ (wd 119 rfl))) (Or.inl (hw _ (wd 50 rfl))) (by decide)
     have f_1594 := foia W1583 f_1571 (Or.inl (hw _ (wd 117 rfl))) (Or.inl (hw _ (wd 50 rfl))) (by decide)
     have f_1595 := foia W1583 f_1572 (Or.inl (hw _ (wd 54 rfl))) (Or.inl (hw _ (wd 50 rfl))) (by decide)
     have f_1596 := Exa.wr W1583 f_1573
     have f_1597 := Exa.wr W1583 f_1574
     have f_1598 := Exa.wr W1583 f_1575
     have f_1599 := Exa.wr W1583 f_1576
     have f_1600 := Exa.wr W1583 f_1577
     have f_1601 := Exa.wr W1583 f_1578
     have f_1602 := Exa.wr W1583 XA1559
     have zl_1603 := Nat.le_trans zl_1579 (Nat.le_of_eq (Wr.size W1583).symm)
     have k_1604 : Go p.tables e below B0 (sf T1583 m 183 #[rv a1, rv a2, iv c2_949, iv c3_949, iv c4_949, rv b933, rv b972, rv b990, rv b1009, iv 0] [.int c4_949, .ref a1]) := fun t q => by
      refine k_1582 t ?_
      refine st1583 _ ?_
      show Steps _ _ _ (sf T1583 m 180 #[rv a1, rv a2, iv c2_949, iv c3_949, iv c4_949, rv b933, rv b972, rv b990, rv b1009, iv 0] []) _
      refine s_aloadN X1583.here hx (hb hby d2_180) rfl rfl ?_
      refine s_iload X1583.here hx (hb hby d2_181) rfl ?_
      exact q
     obtain ⟨u1605, c1605, hf1605⟩ := Option.bind_eq_some_iff.mp hf1560
     obtain ⟨T1606, h1606, kc1606, X1606, e1606, E1606, A1606, XA1606, st1606⟩ := newPE X1583 hx hZ (hw _ (wd 7 rfl)) e1583 (g := (mkF m 183 #[rv a1, rv a2, iv c2_949, iv c3_949, iv c4_949, rv b933, rv b972, rv b990, rv b1009, iv 0] [.int c4_949, .ref a1])) rfl (hb hby d2_183) rfl (guardI_spec c1605).1 (cap := 7) (guardI_spec c1605).2 (by decide) (by decide) (by decide) (ad := "[I") (by decide)
     obtain ⟨b1606, g1606⟩ : ∃ z, z = h1583.size := ⟨_, rfl⟩
     rw [← g1606] at A1606 XA1606 st1606
     obtain ⟨σ1607, c1607, hf1607⟩ := Option.bind_eq_some_iff.mp hf1605
     have w1606 := WC.snocX w1583 E1606 (IA.new A1606 (guardI_spec c1605).1) g1606 zl_1603
     rw [Option.some.inj c1607] at w1606
     have w1606 : WC Z n0 h1606 (psX (fun _ => (0 : Addr)) 0 [a2, b933, b972, b990, b1009, b1410, b1473, b1559, b1606]) 9 σ1607 := w1606
     have f_1608 := Exa.ext E1606 f_1584
     have f_1609 := Fld.ext E1606 f_1585
     have f_1610 := Fld.ext E1606 f_1586
     have f_1611 := Fld.ext E1606 f_1587
     have f_1612 := Fld.ext E1606 f_1588
     have f_1613 := Fld.ext E1606 f_1589
     have f_1614 := Fld.ext E1606 f_1590
     have f_1615 := Fld.ext E1606 f_1591
     have f_1616 := Fld.ext E1606 f_1592
     have f_1617 := Fld.ext E1606 f_1593
     have f_1618 := Fld.ext E1606 f_1594
     have f_1619 := Fld.ext E1606 f_1595
     have f_1620 := Exa.ext E1606 f_1596
     have f_1621 := Exa.ext E1606 f_1597
     have f_1622 := Exa.ext E1606 f_1598
     have f_1623 := Exa.ext E1606 f_1599
     have f_1624 := Exa.ext E1606 f_1600
     have f_1625 := Exa.ext E1606 f_1601
     have f_1626 := Exa.ext E1606 f_1602
     have zl_1627 := Nat.le_trans zl_1603 E1606.1
     have k_1628 : Go p.tables e below B0 (sf T1606 m 185 #[rv a1, rv a2, iv c2_949, iv c3_949, iv c4_949, rv b933, rv b972, rv b990, rv b1009, iv 0] [.ref b1606, .ref a1]) := fun t q => by
      refine k_1604 t ?_
      refine st1606 _ ?_
      show Steps _ _ _ (sf T1606 m 185 #[rv a1, rv a2, iv c2_949, iv c3_949, iv c4_949, rv b933, rv b972, rv b990, rv b1009, iv 0] [.ref b1606, .ref a1]) _
      exact q
     obtain ⟨T1629, h1629, X1629, e1629, W1629, st1629⟩ := putF X1606 hx hZ hown (host := "") (Or.inl (hw _ (wd 51 rfl))) Via.refl e1606 f_1616 f_1608 (Or.inl (hw _ (wd 52 rfl))) (hw _ (wd 2 rfl)) (ty := (.array .int)) (by decide) rfl rfl (g := (mkF m 185 #[rv a1, rv a2, iv c2_949, iv c3_949, iv c4_949, rv b933, rv b972, rv b990, rv b1009, iv 0] [.ref b1606, .ref a1])) rfl rfl (hb hby d2_185)
     have N1629 := Fr.snoc X1629 N1583 g0
     have w1629 := w1606.wrO f_1608 (hw _ (wd 2 rfl)) W1629
     have f_1630 := Exa.wr W1629 f_1608
     have f_1631 := foaa W1629 f_1609 (Or.inr (hw _ (wd 29 rfl))) (Or.inl (hw _ (wd 52 rfl))) (by decide)
     have f_1632 := foaa W1629 f_1610 (Or.inr (hw _ (wd 40 rfl))) (Or.inl (hw _ (wd 52 rfl))) (by decide)
     have f_1633 := foaa W1629 f_1611 (Or.inr (hw _ (wd 42 rfl))) (Or.inl (hw _ (wd 52 rfl))) (by decide)
     have f_1634 := foaa W1629 f_1612 (Or.inr (hw _ (wd 44 rfl))) (Or.inl (hw _ (wd 52 rfl))) (by decide)
     have f_1635 := foaa W1629 f_1613 (Or.inl (hw _ (wd 46 rfl))) (Or.inl (hw _ (wd 52 rfl))) (by decide)
     have f_1636 := foaa W1629 f_1614 (Or.inl (hw _ (wd 48 rfl))) (Or.inl (hw _ (wd 52 rfl))) (by decide)
     have f_1637 := foaa W1629 f_1615 (Or.inl (hw _ (wd 50 rfl))) (Or.inl (hw _ (wd 52 rfl))) (by decide)
     have f_1638 := Fld.same W1629 f_1616
     have f_1639 := foia W1629 f_1617 (Or.inl (hw _ (wd 119 rfl))) (Or.inl (hw _ (wd 52 rfl))) (by decide)
     have f_1640 := foia W1629 f_1618 (Or.inl (hw _ (wd 117 rfl))) (Or.inl (hw _ (wd 52 rfl))) (by decide)
     have f_1641 := foia W1629 f_1619 (Or.inl (hw _ (wd 54 rfl))) (Or.inl (hw _ (wd 52 rfl))) (by decide)
     have f_1642 := Exa.wr W1629 f_1620
     have f_1643 := Exa.wr W1629 f_1621
     have f_1644 := Exa.wr W1629 f_1622
     have f_1645 := Exa.wr W1629 f_1623
     have f_1646 := Exa.wr W1629 f_1624
     have f_1647 := Exa.wr W1629 f_1625
     have f_1648 := Exa.wr W1629 f_1626
     have f_1649 := Exa.wr W1629 XA1606
     have zl_1650 := Nat.le_trans zl_1627 (Nat.le_of_eq (Wr.size W1629).symm)
     have k_1651 : Go p.tables e below B0 (sf T1629 m 190 #[rv a1, rv a2, iv c2_949, iv c3_949, iv c4_949, rv b933, rv b972, rv b990, rv b1009, iv 0] [.int c3_949, .ref a1]) := fun t q => by
      refine k_1628 t ?_
      refine st1629 _ ?_
      show Steps _ _ _ (sf T1629 m 188 #[rv a1, rv a2, iv c2_949, iv c3_949, iv c4_949, rv b933, rv b972, rv b990, rv b1009, iv 0] []) _
      refine s_aloadN X1629.here hx (hb hby d2_188) rfl rfl ?_
      refine s_iloadN X1629.here hx (hb hby d2_189) rfl ?_
      exact q
     obtain ⟨T1652, h1652, X1652, e1652, W1652, st1652⟩ := putF X1629 hx hZ hown (host := "") (Or.inl (hw _ (wd 53 rfl))) Via.refl e1629 f_1641 f_1630 (Or.inl (hw _ (wd 54 rfl))) (hw _ (wd 2 rfl)) (ty := .int) (by decide) rfl rfl (g := (mkF m 190 #[rv a1, rv a2, iv c2_949, iv c3_949, iv c4_949, rv b933, rv b972, rv b990, rv b1009, iv 0] [.int c3_949, .ref a1])) rfl rfl (hb hby d2_190)
     have N1652 := Fr.snoc X1652 N1629 g0
     have w1652 := w1629.wrO f_1630 (hw _ (wd 2 rfl)) W1652
     have f_1653 := Exa.wr W1652 f_1630
     have f_1654 := foai W1652 f_1631 (Or.inr (hw _ (wd 29 rfl))) (Or.inl (hw _ (wd 54 rfl))) (by decide)
     have f_1655 := foai W1652 f_1632 (Or.inr (hw _ (wd 40 rfl))) (Or.inl (hw _ (wd 54 rfl))) (by decide)
     have f_1656 := foai W1652 f_1633 (Or.inr (hw _ (wd 42 rfl))) (Or.inl (hw _ (wd 54 rfl))) (by decide)
     have f_1657 := foai W1652 f_1634 (Or.inr (hw _ (wd 44 rfl))) (Or.inl (hw _ (wd 54 rfl))) (by decide)
     have f_1658 := foai W1652 f_1635 (Or.inl (hw _ (wd 46 rfl))) (Or.inl (hw _ (wd 54 rfl))) (by decide)
     have f_1659 := foai W1652 f_1636 (Or.inl (hw _ (wd 48 rfl))) (Or.inl (hw _ (wd 54 rfl))) (by decide)
     have f_1660 := foai W1652 f_1637 (Or.inl (hw _ (wd 50 rfl))) (Or.inl (hw _ (wd 54 rfl))) (by decide)
     have f_1661 := foai W1652 f_1638 (Or.inl (hw _ (wd 52 rfl))) (Or.inl (hw _ (wd 54 rfl))) (by decide)
     have f_1662 := foii W1652 f_1639 (Or.inl (hw _ (wd 119 rfl))) (Or.inl (hw _ (wd 54 rfl))) (by decide)
     have f_1663 := foii W1652 f_1640 (Or.inl (hw _ (wd 117 rfl))) (Or.inl (hw _ (wd 54 rfl))) (by decide)
     have f_1664 := Fld.same W1652 f_1641
     have f_1665 := Exa.wr W1652 f_1642
     have f_1666 := Exa.wr W1652 f_1643
     have f_1667 := Exa.wr W1652 f_1644
     have f_1668 := Exa.wr W1652 f_1645
     have f_1669 := Exa.wr W1652 f_1646
     have f_1670 := Exa.wr W1652 f_1647
     have f_1671 := Exa.wr W1652 f_1648
     have f_1672 := Exa.wr W1652 f_1649
     have zl_1673 := Nat.le_trans zl_1650 (Nat.le_of_eq (Wr.size W1652).symm)
     have k_1674 : Go p.tables e below B0 (sf T1652 m 193 #[rv a1, rv a2, iv c2_949, iv c3_949, iv c4_949, rv b933, rv b972, rv b990, rv b1009, iv 0] []) := fun t q => by
      refine k_1651 t ?_
      refine st1652 _ ?_
      show Steps _ _ _ (sf T1652 m 193 #[rv a1, rv a2, iv c2_949, iv c3_949, iv c4_949, rv b933, rv b972, rv b990, rv b1009, iv 0] []) _
      exact q
     obtain rfl := Option.some.inj hf1607
     obtain ⟨fs, hr, hrun, hended, hW, hsame⟩ := X1652.leave (v := none) (fun _ => rfl)
     refine ⟨_, _, k_1674 _ ?_, hrun, hended, _, _, rfl, ?_, ⟨_, rfl⟩, hW, hsame.mono (by decide) (by decide)⟩
     ·exact X1652.returnOut hx Bd.returns (hb hby d2_193) hr
     ·show QB Z n0 a1 (c3_949, σ1607) none T1652.heap _
      rw [e1652]
      exact ⟨rfl, N1652, (psX (fun _ => (0 : Addr)) 0 [a2, b933, b972, b990, b1009, b1410, b1473, b1559, b1606]), w1652, zl_1673, f_1653, f_1654, f_1655, f_1656, f_1657, f_1658, f_1659, f_1660, f_1661, f_1662, f_1663, f_1664⟩
 exact lp37 20 σ934 w924 ((lenA σ 0) - (1 : Int32)) (mxI ((lenA σ 0) - (1 : Int32)) (mnI w924 (1024 : Int32))) (0 : Int32)  T933 _ X933 N930 (by rw [e933]; exact w933) (by rw [e933]; exact zl_947)  (by rw [e933]; exact f_935) (by rw [e933]; exact f_936) (by rw [e933]; exact f_937) (by rw [e933]; exact f_938) (by rw [e933]; exact f_939) (by rw [e933]; exact f_940) (by rw [e933]; exact f_941) (by rw [e933]; exact f_942) (by rw [e933]; exact f_943) (by rw [e933]; exact f_944) (by rw [e933]; exact f_945) (by rw [e933]; exact f_946) (by rw [e933]; exact XA933)  k_948 hf934
def fB1 (σ : St) (q1 : Int32) : Option (Int32 × St) := (guardI (¬ (2 : Int32) < 0 ∧ ((2 : Int32)).toNatClampNeg ≤ 2)).bind fun u1676 => (some (σ.1 ++ [List.replicate ((2 : Int32)).toNatClampNeg 0], σ.2)).bind fun σ1678 => (wrA σ1678 0 (0 : Int32) (0 : Int32)).bind fun σ1693 => (wrA σ1693 0 (1 : Int32) q1).bind fun σ1710 => (fB2 σ1710).bind fun z1727 => some (z1727.1, z1727.2)
set_option maxRecDepth 65536 in
set_option maxHeartbeats 40000000 in
theorem fB1_ok (l : Launch) (Z : State) (a0 : Array Value) (hw : ∀ d ∈ tables_1, d.before a0 Z = true) (ws : List Jvm.Cond) (a1 : Addr) (σ : St) (q1 : Int32) (h0 : Heap) (n0 : Nat) (Z0 : n0 ≤ h0.size) (W0 : WC Z n0 h0 (psX (fun _ => (0 : Addr)) 0 []) 0 σ) (E0 : Exa Z h0 a1 BLn) (F0_states : Fld Z h0 a1 BLn "states" "[I" .null) (F0_placeOf : Fld Z h0 a1 BLn "placeOf" "[I" .null) (F0_blockOf : Fld Z h0 a1 BLn "blockOf" "[I" .null) (F0_marked : Fld Z h0 a1 BLn "marked" "[I" .null) (F0_start : Fld Z h0 a1 BLn "start" "[I" .null) (F0_end : Fld Z h0 a1 BLn "end" "[I" .null) (F0_markedEnd : Fld Z h0 a1 BLn "markedEnd" "[I" .null) (F0_touched : Fld Z h0 a1 BLn "touched" "[I" .null) (F0_markedCount : Fld Z h0 a1 BLn "markedCount" "I" (.int 0)) (F0_touchedCount : Fld Z h0 a1 BLn "touchedCount" "I" (.int 0)) (F0_blockCount : Fld Z h0 a1 BLn "blockCount" "I" (.int 0)) (g0 : n0 ≤ a1) (r : Int32 × St) (hf : fB1 σ q1 = some r) :
  MetFree l y_24 (head1 (Jvm.Cond.code y_24 prog_3_method_1_code 2 none :: ws) ({ frames := 3, cells := 9, slots := 58, locals := 51 } : Room)) (fun a U => a = #[.ref a1, .int q1] ∧ Z.Warmed39 U.vm ∧ U.heap = h0) (fun _ _ _ _ _ => True) (fun _ U o U' => ∃ v L, o = .returned v ∧ QB Z n0 a1 r v U'.heap L ∧ FrameEnd U o U' L ({ frames := 3, cells := 9, slots := 58, locals := 51 } : Room).cells ({ frames := 3, cells := 9, slots := 58, locals := 51 } : Room).slots) := by
 refine MetFree.of_bodySF (plainFor_of_name pn_0) hisR ?_
 intro p e s m args below meth c s₁ Bd hml0 hP hK
 obtain ⟨rfl, hZ, hh⟩ := hP
 have hx := Bd.exec
 have hby := Bd.bytes
 have hml : c.maxLocals = 2 := hml0
 have hown : s.vm.findClass BLn = some m.cls := findClass_of_methodNamed Bd.named
 have hnm := (name_of_methodNamed Bd.named Bd.method).1
 have X0 : Stand p l e ({ frames := 3, cells := 9, slots := 58, locals := 51 } : Room) s m #[.ref a1, .int q1] below meth c s₁ [] 0 0 := Stand.of_body Bd
 have e0 : s₁.heap = h0 := by rw [← hh, Bd.state]; rfl
 have N0 := Fr.nil n0
 have K0 := Keep.refl h0 []
 have k0 : Go p.tables e below (s₁.setTop (entryFrame m #[.ref a1, .int q1] 2)) (sf s₁ m 0 #[rv a1, iv q1] []) := fun t k => castTop (by first | (simp [entryFrame, mkF, argsToLocals, Value.category]; done)) k
 unfold fB1 at hf
 generalize s₁.setTop (entryFrame m #[.ref a1, .int q1] 2) = B0 at k0 ⊢
 have k_1675 : Go p.tables e below B0 (sf s₁ m 2 #[rv a1, iv q1] [.int 2, .ref a1]) := fun t q => by
  refine k0 t ?_
  refine s_aloadN X0.here hx (hb hby d1_0) rfl rfl ?_
  refine s_iconst (x := 2) X0.here hx (hb hby d1_1) rfl ?_
  exact q
 obtain ⟨u1676, c1676, hf1676⟩ := Option.bind_eq_some_iff.mp hf
 obtain ⟨T1677, h1677, kc1677, X1677, e1677, E1677, A1677, XA1677, st1677⟩ := newPE X0 hx hZ (hw _ (wd 7 rfl)) e0 (g := (mkF m 2 #[rv a1, iv q1] [.int 2, .ref a1])) rfl (hb hby d1_2) rfl (guardI_spec c1676).1 (cap := 2) (guardI_spec c1676).2 (by decide) (by decide) (by decide) (ad := "[I") (by decide)
 obtain ⟨b1677, g1677⟩ : ∃ z, z = h0.size := ⟨_, rfl⟩
 rw [← g1677] at A1677 XA1677 st1677
 obtain ⟨σ1678, c1678, hf1678⟩ := Option.bind_eq_some_iff.mp hf1676
 have w1677 := WC.snocX W0 E1677 (IA.new A1677 (guardI_spec c1676).1) g1677 Z0
 rw [Option.some.inj c1678] at w1677
 have w1677 : WC Z n0 h1677 (psX (fun _ => (0 : Addr)) 0 [b1677]) 1 σ1678 := w1677
 have f_1679 := Exa.ext E1677 E0
 have f_1680 := Fld.ext E1677 F0_states
 have f_1681 := Fld.ext E1677 F0_placeOf
 have f_1682 := Fld.ext E1677 F0_blockOf
 have f_1683 := Fld.ext E1677 F0_marked
 have f_1684 := Fld.ext E1677 F0_start
 have f_1685 := Fld.ext E1677 F0_end
 have f_1686 := Fld.ext E1677 F0_markedEnd
 have f_1687 := Fld.ext E1677 F0_touched
 have f_1688 := Fld.ext E1677 F0_markedCount
 have f_1689 := Fld.ext E1677 F0_touchedCount
 have f_1690 := Fld.ext E1677 F0_blockCount
 have zl_1691 := Nat.le_trans Z0 E1677.1
 have k_1692 : Go p.tables e below B0 (sf T1677 m 7 #[rv a1, iv q1] [.int 0, .int 0, .ref b1677, .ref b1677, .ref a1]) := fun t q => by
  refine k_1675 t ?_
  refine st1677 _ ?_
  show Steps _ _ _ (sf T1677 m 4 #[rv a1, iv q1] [.ref b1677, .ref a1]) _
  refine s_dup X1677.here hx (hb hby d1_4) rfl ?_
  refine s_iconst (x := 0) X1677.here hx (hb hby d1_5) rfl ?_
  refine s_iconst (x := 0) X1677.here hx (hb hby d1_6) rfl ?_
  exact q
 obtain ⟨σ1693, c1693, hf1693⟩ := Option.bind_eq_some_iff.mp hf1678
 obtain ⟨cl1693, Ar1693', hin1693, gp1693', nx1693⟩ := w1677.wr c1693
 have Ar1693 : Arr Z h1677 b1677 cl1693 .int := Ar1693'
 have gp1693 : n0 ≤ b1677 := gp1693'
 obtain ⟨T1694, h1694, X1694, e1694, W1694, st1694⟩ := stI X1677 hx hZ e1677 Ar1693 (j := (0 : Int32)) hin1693 (g := (mkF m 7 #[rv a1, iv q1] [.int 0, .int 0, .ref b1677, .ref b1677, .ref a1])) rfl rfl (hb hby d1_7)
 have w1694 := nx1693 _ W1694
 have N1694 := Fr.snoc X1694 N0 gp1693
 have f_1695 := Exa.wr W1694 f_1679
 have f_1696 := Fld.other W1694 f_1680 (Or.inl (ne_arr f_1679 (hw _ (wd 2 rfl)) Ar1693))
 have f_1697 := Fld.other W1694 f_1681 (Or.inl (ne_arr f_1679 (hw _ (wd 2 rfl)) Ar1693))
 have f_1698 := Fld.other W1694 f_1682 (Or.inl (ne_arr f_1679 (hw _ (wd 2 rfl)) Ar1693))
 have f_1699 := Fld.other W1694 f_1683 (Or.inl (ne_arr f_1679 (hw _ (wd 2 rfl)) Ar1693))
 have f_1700 := Fld.other W1694 f_1684 (Or.inl (ne_arr f_1679 (hw _ (wd 2 rfl)) Ar1693))
 have f_1701 := Fld.other W1694 f_1685 (Or.inl (ne_arr f_1679 (hw _ (wd 2 rfl)) Ar1693))
 have f_1702 := Fld.other W1694 f_1686 (Or.inl (ne_arr f_1679 (hw _ (wd 2 rfl)) Ar1693))
 have f_1703 := Fld.other W1694 f_1687 (Or.inl (ne_arr f_1679 (hw _ (wd 2 rfl)) Ar1693))
 have f_1704 := Fld.other W1694 f_1688 (Or.inl (ne_arr f_1679 (hw _ (wd 2 rfl)) Ar1693))
 have f_1705 := Fld.other W1694 f_1689 (Or.inl (ne_arr f_1679 (hw _ (wd 2 rfl)) Ar1693))
 have f_1706 := Fld.other W1694 f_1690 (Or.inl (ne_arr f_1679 (hw _ (wd 2 rfl)) Ar1693))
 have f_1707 := Exa.wr W1694 XA1677
 have zl_1708 := Nat.le_trans zl_1691 (Nat.le_of_eq (Wr.size W1694).symm)
 have k_1709 : Go p.tables e below B0 (sf T1694 m 11 #[rv a1, iv q1] [.int q1, .int 1, .ref b1677, .ref b1677, .ref a1]) := fun t q => by
  refine k_1692 t ?_
  refine st1694 _ ?_
  show Steps _ _ _ (sf T1694 m 8 #[rv a1, iv q1] [.ref b1677, .ref a1]) _
  refine s_dup X1694.here hx (hb hby d1_8) rfl ?_
  refine s_iconst (x := 1) X1694.here hx (hb hby d1_9) rfl ?_
  refine s_iloadN X1694.here hx (hb hby d1_10) rfl ?_
  exact q
 obtain ⟨σ1710, c1710, hf1710⟩ := Option.bind_eq_some_iff.mp hf1693
 obtain ⟨cl1710, Ar1710', hin1710, gp1710', nx1710⟩ := w1694.wr c1710
 have Ar1710 : Arr Z h1694 b1677 cl1710 .int := Ar1710'
 have gp1710 : n0 ≤ b1677 := gp1710'
 obtain ⟨T1711, h1711, X1711, e1711, W1711, st1711⟩ := stI X1694 hx hZ e1694 Ar1710 (j := (1 : Int32)) hin1710 (g := (mkF m 11 #[rv a1, iv q1] [.int q1, .int 1, .ref b1677, .ref b1677, .ref a1])) rfl rfl (hb hby d1_11)
 have w1711 := nx1710 _ W1711
 have N1711 := Fr.snoc X1711 N1694 gp1710
 have f_1712 := Exa.wr W1711 f_1695
 have f_1713 := Fld.other W1711 f_1696 (Or.inl (ne_arr f_1695 (hw _ (wd 2 rfl)) Ar1710))
 have f_1714 := Fld.other W1711 f_1697 (Or.inl (ne_arr f_1695 (hw _ (wd 2 rfl)) Ar1710))
 have f_1715 := Fld.other W1711 f_1698 (Or.inl (ne_arr f_1695 (hw _ (wd 2 rfl)) Ar1710))
 have f_1716 := Fld.other W1711 f_1699 (Or.inl (ne_arr f_1695 (hw _ (wd 2 rfl)) Ar1710))
 have f_1717 := Fld.other W1711 f_1700 (Or.inl (ne_arr f_1695 (hw _ (wd 2 rfl)) Ar1710))
 have f_1718 := Fld.other W1711 f_1701 (Or.inl (ne_arr f_1695 (hw _ (wd 2 rfl)) Ar1710))
 have f_1719 := Fld.other W1711 f_1702 (Or.inl (ne_arr f_1695 (hw _ (wd 2 rfl)) Ar1710))
 have f_1720 := Fld.other W1711 f_1703 (Or.inl (ne_arr f_1695 (hw _ (wd 2 rfl)) Ar1710))
 have f_1721 := Fld.other W1711 f_1704 (Or.inl (ne_arr f_1695 (hw _ (wd 2 rfl)) Ar1710))
 have f_1722 := Fld.other W1711 f_1705 (Or.inl (ne_arr f_1695 (hw _ (wd 2 rfl)) Ar1710))
 have f_1723 := Fld.other W1711 f_1706 (Or.inl (ne_arr f_1695 (hw _ (wd 2 rfl)) Ar1710))
 have f_1724 := Exa.wr W1711 f_1707
 have zl_1725 := Nat.le_trans zl_1708 (Nat.le_of_eq (Wr.size W1711).symm)
 have k_1726 : Go p.tables e below B0 (sf T1711 m 12 #[rv a1, iv q1] [.ref b1677, .ref a1]) := fun t q => by
  refine k_1709 t ?_
  refine st1711 _ ?_
  show Steps _ _ _ (sf T1711 m 12 #[rv a1, iv q1] [.ref b1677, .ref a1]) _
  exact q
 obtain ⟨z1727, c1727, hf1727⟩ := Option.bind_eq_some_iff.mp hf1710
 obtain ⟨_, _, ⟨T1728, L1728, k1728, n1728⟩, -, X1728, ⟨Lc1728, hQ1728, l1728, y1728, z1728⟩, st1728⟩ := X1711.specialBack hx (y := y_23) rfl hown (mvT hZ (hw _ (wd 8 rfl))) (mvT hZ (hw _ (wd 9 rfl))) (mvT hZ (hw _ (wd 10 rfl))) (by decide) (backOf (W := 0) (fB2_ok l Z a0 hw [] a1 b1677 σ1710 h1711 n0 zl_1725 w1711 f_1712 f_1713 f_1714 f_1715 f_1716 f_1717 f_1718 f_1719 f_1720 f_1721 f_1722 f_1723 g0 z1727 c1727) hZ (hw _ (wd 10 rfl)) (hw _ (wd 3 rfl)) (by decide) (by decide)) (g := (mkF m 12 #[rv a1, iv q1] [.ref b1677, .ref a1])) rfl (by rw [hml]; rfl) (Steps.refl _) (a := a1) (argsL := [.ref b1677]) (rest := []) (lenOf pd_9 rfl) rfl (by show 2 * 0 + _ ≤ _; exact Nat.le_of_eq rfl) (hb hby d1_12) (fun _ _ => ⟨rfl, e1711, (by decide : 1 + 8 ≤ _), (by decide : 2 + 56 ≤ _)⟩)
 dsimp only [Pt.U, Pt.locs, Pt.cells, Pt.slots] at X1728 l1728 y1728 z1728 st1728 hQ1728
 subst l1728 y1728 z1728
 obtain ⟨rfl, N1728q, pt1728, V1728, y1728, M1728, G1728_states, G1728_placeOf, G1728_blockOf, G1728_marked, G1728_start, G1728_end, G1728_markedEnd, G1728_touched, G1728_markedCount, G1728_touchedCount, G1728_blockCount⟩ := hQ1728
 have N1728 := Fr.app N1711 N1728q
 have k_1729 : Go p.tables e below B0 (sf T1728 m 15 #[rv a1, iv q1] []) := fun t q => by
  refine k_1726 t ?_
  refine st1728.trans ?_
  show Steps _ _ _ (sf T1728 m 15 #[rv a1, iv q1] []) _
  exact q
 obtain rfl := Option.some.inj hf1727
 obtain ⟨fs, hr, hrun, hended, hW, hsame⟩ := X1728.leave (v := none) (fun _ => rfl)
 refine ⟨_, _, k_1729 _ ?_, hrun, hended, _, _, rfl, ?_, ⟨_, rfl⟩, hW, hsame.mono (by decide) (by decide)⟩
 ·exact X1728.returnOut hx Bd.returns (hb hby d1_15) hr
 ·show QB Z n0 a1 (z1727.1, z1727.2) none T1728.heap _
  exact ⟨rfl, N1728, pt1728, V1728, y1728, M1728, G1728_states, G1728_placeOf, G1728_blockOf, G1728_marked, G1728_start, G1728_end, G1728_markedEnd, G1728_touched, G1728_markedCount, G1728_touchedCount, G1728_blockCount⟩
def QS (Z : State) (n0 : Nat) (b d : Addr) (σ : St) (v : Option Value) (h : Heap) (L : List Loc) : Prop := v = none ∧ Fr n0 L ∧ ∃ ps : Nat → Addr, Wd Z n0 h b d ps σ
set_option maxRecDepth 65536 in
set_option maxHeartbeats 40000000 in
theorem cnt0 (l : Launch) (Z : State) (a0 : Array Value) (hw : ∀ d ∈ tables_1, d.before a0 Z = true) (ws : List Jvm.Cond) (a1 a2 : Addr) (cz : Cell) (nn : Int32) (h0 : Heap) (n0 : Nat)  (Fz : Fld Z h0 a1 BLn "states" "[I" (.ref a2)) (Az : Arr Z h0 a2 cz .int) (hn : cz.slots.size.toInt32 = nn) :
  MetFree l y_2 (head1 (Jvm.Cond.code y_2 prog_3_method_4_code 1 (some .int) :: ws) ({ frames := 0, cells := 0, slots := 0, locals := 0 } : Room)) (fun a U => a = #[.ref a1] ∧ Z.Warmed39 U.vm ∧ U.heap = h0) (fun _ _ _ _ _ => True) (fun _ U o U' => ∃ v L, o = .returned v ∧ QV (some (.int nn)) h0 n0 v U'.heap L ∧ FrameEnd U o U' L ({ frames := 0, cells := 0, slots := 0, locals := 0 } : Room).cells ({ frames := 0, cells := 0, slots := 0, locals := 0 } : Room).slots) := by
 refine MetFree.of_bodySF (plainFor_of_name pn_0) hisR ?_
 intro p e s m args below meth c s₁ Bd hml0 hP hK
 obtain ⟨rfl, hZ, hh⟩ := hP
 have hx := Bd.exec
 have hby := Bd.bytes
 have hml : c.maxLocals = 1 := hml0
 have hown : s.vm.findClass BLn = some m.cls := findClass_of_methodNamed Bd.named
 have hnm := (name_of_methodNamed Bd.named Bd.method).1
 have X0 : Stand p l e ({ frames := 0, cells := 0, slots := 0, locals := 0 } : Room) s m #[.ref a1] below meth c s₁ [] 0 0 := Stand.of_body Bd
 have e0 : s₁.heap = h0 := by rw [← hh, Bd.state]; rfl
 have N0 := Fr.nil n0
 have K0 := Keep.refl h0 []
 have k0 : Go p.tables e below (s₁.setTop (entryFrame m #[.ref a1] 1)) (sf s₁ m 0 #[rv a1] []) := fun t k => castTop (by first | rfl | (simp [entryFrame, mkF, argsToLocals, Value.category]; done)) k
 have k_1730 : Go p.tables e below (s₁.setTop (entryFrame m #[.ref a1] 1)) (sf s₁ m 1 #[rv a1] [.ref a1]) := fun t q => by
  refine k0 t ?_
  refine XS.aloadN X0.here hx rfl (hb hby d9_0) rfl rfl ?_
  show Steps _ _ _ (sf s₁ m 1 #[rv a1] [.ref a1]) _
  exact q
 obtain ⟨T1731, X1731, e1731, st1731⟩ := getF X0 hx hZ hown (host := "") (Or.inl (hw _ (wd 28 rfl))) Via.refl e0 Fz (g := (mkF m 1 #[rv a1] [.ref a1])) rfl rfl (hb hby d9_1)
 have k_1732 : Go p.tables e below (s₁.setTop (entryFrame m #[.ref a1] 1)) (sf T1731 m 4 #[rv a1] [.ref a2]) := fun t q => by
  refine k_1730 t ?_
  refine st1731 _ ?_
  show Steps _ _ _ (sf T1731 m 4 #[rv a1] [.ref a2]) _
  exact q
 have k_1733 : Go p.tables e below (s₁.setTop (entryFrame m #[.ref a1] 1)) (sf T1731 m 5 #[rv a1] [.int nn]) := fun t q => by
  refine k_1732 t ?_
  refine X1731.arraylength hx (by rw [e1731]; exact Az.1) (State.isArrayOf_alike hZ.alike Az.2.1) (g := (mkF m 4 #[rv a1] [.ref a2])) rfl rfl (hb hby d9_4) _ ?_
  show Steps _ _ _ (sf T1731 m 5 #[rv a1] [(.int cz.slots.size.toInt32)]) _
  rw [hn]
  show Steps _ _ _ (sf T1731 m 5 #[rv a1] [.int nn]) _
  exact q
 obtain ⟨fs, hr, hrun, hended, hW, hsame⟩ := X1731.leave (v := some (.int nn)) (fun h => by rw [Bd.returns] at h; cases h)
 refine ⟨_, _, k_1733 _ ?_, hrun, hended, _, _, rfl, ?_, ⟨_, rfl⟩, hW, hsame.mono (by decide) (by decide)⟩
 ·exact retOut X1731 hx Bd.returns rfl (Or.inl ⟨rfl, Or.inl rfl, _, rfl⟩) (hb hby d9_5) hr
 ·show QV (some (.int nn)) h0 n0 _ T1731.heap _
  rw [e1731]
  exact ⟨rfl, N0, rfl⟩
def fS_L110 (q1 bc : Int32) : Nat → St → Int32 → Int32 → Int32 → Option (Int32 × St)
 | 0, _, _, _, _ => none
 | n + 1, σl1734, c3_1734, c4_1734, c5_1734 => if c5_1734 < (0 : Int32) then ((wrA σl1734 12 (0 : Int32) q1).bind fun σ1740 => (fBal σ1740 (0 : Int32) c3_1734).bind fun z1743 => (some (wrI z1743.2 4 (if z1743.1 = (0 : Int32) then (1 : Int32) else (0 : Int32)))).bind fun σ1747 => (fEnter σ1747 (0 : Int32)).bind fun z1750 => some ((0 : Int32), z1750.2)) else ((fLink σl1734 c5_1734 (0 : Int32)).bind fun z1754 => fS_L110 q1 bc n z1754.2 c3_1734 c4_1734 (c5_1734 + (-1 : Int32)))
def fS (σ : St) (q1 bc : Int32) : Option (Int32 × St) := (guardI (¬ (lenA σ 1) < 0 ∧ ((lenA σ 1)).toNatClampNeg ≤ 7)).bind fun u1821 => (some (σ.1 ++ [List.replicate ((lenA σ 1)).toNatClampNeg 0], σ.2)).bind fun σ1823 => (guardI (¬ (lenA σ 1) < 0 ∧ ((lenA σ 1)).toNatClampNeg ≤ 7)).bind fun u1878 => (some (σ1823.1 ++ [List.replicate ((lenA σ 1)).toNatClampNeg 0], σ1823.2)).bind fun σ1880 => (guardI (¬ ((2 : Int32) * (mxI (1 : Int32) (mnI (lenA σ 1) (1024 : Int32)))) < 0 ∧ (((2 : Int32) * (mxI (1 : Int32) (mnI (lenA σ 1) (1024 : Int32))))).toNatClampNeg ≤ 14)).bind fun u1937 => (some (σ1880.1 ++ [List.replicate (((2 : Int32) * (mxI (1 : Int32) (mnI (lenA σ 1) (1024 : Int32))))).toNatClampNeg 0], σ1880.2)).bind fun σ1939 => (guardI (¬ (mxI (1 : Int32) (mnI (lenA σ 1) (1024 : Int32))) < 0 ∧ ((mxI (1 : Int32) (mnI (lenA σ 1) (1024 : Int32)))).toNatClampNeg ≤ 7)).bind fun u1998 => (some (σ1939.1 ++ [List.replicate ((mxI (1 : Int32) (mnI (lenA σ 1) (1024 : Int32)))).toNatClampNeg 0], σ1939.2)).bind fun σ2000 => (guardI (¬ (q1 + (1 : Int32)) < 0 ∧ ((q1 + (1 : Int32))).toNatClampNeg ≤ 8)).bind fun u2061 => (some (σ2000.1 ++ [List.replicate ((q1 + (1 : Int32))).toNatClampNeg 0], σ2000.2)).bind fun σ2063 => (guardI (¬ (mxI (1 : Int32) (mnI (lenA σ 1) (1024 : Int32))) < 0 ∧ ((mxI (1 : Int32) (mnI (lenA σ 1) (1024 : Int32)))).toNatClampNeg ≤ 7)).bind fun u2126 => (some (σ2063.1 ++ [List.replicate ((mxI (1 : Int32) (mnI (lenA σ 1) (1024 : Int32)))).toNatClampNeg 0], σ2063.2)).bind fun σ2128 => (guardI (¬ (mxI (1 : Int32) (mnI (lenA σ 1) (1024 : Int32))) < 0 ∧ ((mxI (1 : Int32) (mnI (lenA σ 1) (1024 : Int32)))).toNatClampNeg ≤ 7)).bind fun u2193 => (some (σ2128.1 ++ [List.replicate ((mxI (1 : Int32) (mnI (lenA σ 1) (1024 : Int32)))).toNatClampNeg 0], σ2128.2)).bind fun σ2195 => (fFill2 ([arr σ2195 11], []) (-1 : Int32)).bind fun z2264 => (some (σ2195.1.set 11 (arr z2264.2 0), σ2195.2)).bind fun σ2266 => (fFill2 ([arr σ2266 13], []) (-1 : Int32)).bind fun z2302 => (some (σ2266.1.set 13 (arr z2302.2 0), σ2266.2)).bind fun σ2304 => (some (σ2304.1, [0, 0, bc, q1, 0, 0])).bind fun σ2338 => fS_L110 q1 bc 20 σ2338 (lenA σ 1) (mxI (1 : Int32) (mnI (lenA σ 1) (1024 : Int32))) ((lenA σ 1) - (1 : Int32))
set_option maxRecDepth 65536 in
set_option maxHeartbeats 40000000 in
theorem fS_ok (l : Launch) (Z : State) (a0 : Array Value) (hw : ∀ d ∈ tables_1, d.before a0 Z = true) (ws : List Jvm.Cond) (a1 b : Addr) (ps : Nat → Addr) (σ : St) (q1 bc : Int32) (h0 : Heap) (n0 : Nat) (Z0 : n0 ≤ h0.size) (W0 : WC Z n0 h0 (psX ps 9 []) 9 σ) (Eb : Exa Z h0 b BLn) (B0_states : Fld Z h0 b BLn "states" "[I" (.ref (ps 1))) (B0_placeOf : Fld Z h0 b BLn "placeOf" "[I" (.ref (ps 5))) (B0_blockOf : Fld Z h0 b BLn "blockOf" "[I" (.ref (ps 2))) (B0_marked : Fld Z h0 b BLn "marked" "[I" (.ref (ps 6))) (B0_start : Fld Z h0 b BLn "start" "[I" (.ref (ps 3))) (B0_end : Fld Z h0 b BLn "end" "[I" (.ref (ps 4))) (B0_markedEnd : Fld Z h0 b BLn "markedEnd" "[I" (.ref (ps 7))) (B0_touched : Fld Z h0 b BLn "touched" "[I" (.ref (ps 8))) (B0_markedCount : Fld Z h0 b BLn "markedCount" "I" (.int 0)) (B0_touchedCount : Fld Z h0 b BLn "touchedCount" "I" (.int 0)) (B0_blockCount : Fld Z h0 b BLn "blockCount" "I" (.int bc)) (gb : n0 ≤ b) (E0 : Exa Z h0 a1 BSn) (F0_blocks : Fld Z h0 a1 BSn "blocks" "Lcom/example/states_into_classes/statesintoclasses/engine/Blocks;" .null) (F0_secondStart : Fld Z h0 a1 BSn "secondStart" "I" (.int 0)) (F0_next : Fld Z h0 a1 BSn "next" "[I" .null) (F0_previous : Fld Z h0 a1 BSn "previous" "[I" .null) (F0_first : Fld Z h0 a1 BSn "first" "[I" .null) (F0_firstCount : Fld Z h0 a1 BSn "firstCount" "[I" .null) (F0_unevenCount : Fld Z h0 a1 BSn "unevenCount" "I" (.int 0)) (F0_bucket : Fld Z h0 a1 BSn "bucket" "[I" .null) (F0_nextInBucket : Fld Z h0 a1 BSn "nextInBucket" "[I" .null) (F0_previousInBucket : Fld Z h0 a1 BSn "previousInBucket" "[I" .null) (F0_highest : Fld Z h0 a1 BSn "highest" "I" (.int 0)) (g0 : n0 ≤ a1) (r : Int32 × St) (hf : fS σ q1 bc = some r) :
  MetFree l y_25 (head1 (Jvm.Cond.code y_25 prog_1_method_1_code 6 none :: ws) ({ frames := 2, cells := 7, slots := 57, locals := 29 } : Room)) (fun a U => a = #[.ref a1, .ref b, .int q1] ∧ Z.Warmed39 U.vm ∧ U.heap = h0) (fun _ _ _ _ _ => True) (fun _ U o U' => ∃ v L, o = .returned v ∧ QS Z n0 b a1 r.2 v U'.heap L ∧ FrameEnd U o U' L ({ frames := 2, cells := 7, slots := 57, locals := 29 } : Room).cells ({ frames := 2, cells := 7, slots := 57, locals := 29 } : Room).slots) := by
 refine MetFree.of_bodySF (plainFor_of_name pn_1) hisR ?_
 intro p e s m args below meth c s₁ Bd hml0 hP hK
 obtain ⟨rfl, hZ, hh⟩ := hP
 have hx := Bd.exec
 have hby := Bd.bytes
 have hml : c.maxLocals = 6 := hml0
 have hown : s.vm.findClass BSn = some m.cls := findClass_of_methodNamed Bd.named
 have hnm := (name_of_methodNamed Bd.named Bd.method).1
 have X0 : Stand p l e ({ frames := 2, cells := 7, slots := 57, locals := 29 } : Room) s m #[.ref a1, .ref b, .int q1] below meth c s₁ [] 0 0 := Stand.of_body Bd
 have e0 : s₁.heap = h0 := by rw [← hh, Bd.state]; rfl
 have N0 := Fr.nil n0
 have K0 := Keep.refl h0 []
 have k0 : Go p.tables e below (s₁.setTop (entryFrame m #[.ref a1, .ref b, .int q1] 6)) (sf s₁ m 0 #[rv a1, rv b, iv q1, nu, nu, nu] []) := fun t k => castTop (by first | (simp [entryFrame, mkF, argsToLocals, Value.category]; done)) k
 unfold fS at hf
 generalize s₁.setTop (entryFrame m #[.ref a1, .ref b, .int q1] 6) = B0 at k0 ⊢
 have lp110 : ∀ (n : Nat) (pt : Nat → Addr) (σl1734 : St) (c3_1734 : Int32)(c4_1734 : Int32)(c5_1734 : Int32)  (Tl1734 : State) (Ll1734 : List Loc), Stand p l e ({ frames := 2, cells := 7, slots := 57, locals := 29 } : Room) s m #[.ref a1, .ref b, .int q1] below meth c Tl1734 Ll1734 7 57 → Fr n0 Ll1734 → Wd Z n0 Tl1734.heap b a1 pt σl1734 → Go p.tables e below B0 (sf Tl1734 m 110 #[rv a1, rv b, iv q1, iv c3_1734, iv c4_1734, iv c5_1734] []) → fS_L110 q1 bc n σl1734 c3_1734 c4_1734 c5_1734 = some r → ∃ s₂ o, Steps p.tables e below B0 s₂ ∧ s₂.status = .running ∧ Ended s₂ below o ∧ (∃ v L, o = .returned v ∧ QS Z n0 b a1 r.2 v s₂.heap L ∧ FrameEnd s o s₂ L ({ frames := 2, cells := 7, slots := 57, locals := 29 } : Room).cells ({ frames := 2, cells := 7, slots := 57, locals := 29 } : Room).slots) := by
  intro n
  induction n with
  | zero => intro pt σl1734 c3_1734 c4_1734 c5_1734  Tl1734 Ll1734 Xl1734 Nl1734 Wl1734  kl1734 hl1734; cases hl1734
  | succ n ih =>
   intro pt σl1734 c3_1734 c4_1734 c5_1734  Tl1734 Ll1734 Xl1734 Nl1734 Wl1734  kl1734 hl1734
   rw [fS_L110] at hl1734
   have k_1735 : Go p.tables e below B0 (sf Tl1734 m 112 #[rv a1, rv b, iv q1, iv c3_1734, iv c4_1734, iv c5_1734] [.int c5_1734]) := fun t q => by
    refine kl1734 t ?_
    refine s_iload Xl1734.here hx (hb hby d8_110) rfl ?_
    exact q
   by_cases hc1736 : c5_1734 < (0 : Int32)
   ·rw [if_pos hc1736] at hl1734
    have k_1737 : Go p.tables e below B0 (sf Tl1734 m 129 #[rv a1, rv b, iv q1, iv c3_1734, iv c4_1734, iv c5_1734] [.ref a1]) := fun t q => by
     refine k_1735 t ?_
     refine s_ifYes Xl1734.here hx (pc' := 128) (hb hby d8_112) ((if0 _ _).trans (tlt hc1736).1) (by decide) (by decide) ?_
     refine s_aloadN Xl1734.here hx (hb hby d8_128) rfl rfl ?_
     exact q
    obtain ⟨T1738, X1738, e1738, st1738⟩ := getF Xl1734 hx hZ hown (host := "") (Or.inl (hw _ (wd 79 rfl))) Via.refl (rfl : Tl1734.heap = _) (gt_d_firstCount Wl1734) (g := (mkF m 129 #[rv a1, rv b, iv q1, iv c3_1734, iv c4_1734, iv c5_1734] [.ref a1])) rfl rfl (hb hby d8_129)
    have k_1739 : Go p.tables e below B0 (sf T1738 m 134 #[rv a1, rv b, iv q1, iv c3_1734, iv c4_1734, iv c5_1734] [.int q1, .int 0, (.ref (pt 12))]) := fun t q => by
     refine k_1737 t ?_
     refine st1738 _ ?_
     show Steps _ _ _ (sf T1738 m 132 #[rv a1, rv b, iv q1, iv c3_1734, iv c4_1734, iv c5_1734] [(.ref (pt 12))]) _
     refine s_iconst (x := 0) X1738.here hx (hb hby d8_132) rfl ?_
     refine s_iloadN X1738.here hx (hb hby d8_133) rfl ?_
     exact q
    obtain ⟨σ1740, c1740, hf1740⟩ := Option.bind_eq_some_iff.mp hl1734
    obtain ⟨cl1740, Ar1740, hin1740, gp1740, nx1740⟩ := Wl1734.wr hw c1740
    obtain ⟨T1741, h1741, X1741, e1741, W1741, st1741⟩ := stI X1738 hx hZ e1738 Ar1740 (j := (0 : Int32)) hin1740 (g := (mkF m 134 #[rv a1, rv b, iv q1, iv c3_1734, iv c4_1734, iv c5_1734] [.int q1, .int 0, (.ref (pt 12))])) rfl rfl (hb hby d8_134)
    have w1741 := nx1740 _ W1741
    have N1741 := Fr.snoc X1741 Nl1734 gp1740
    have k_1742 : Go p.tables e below B0 (sf T1741 m 139 #[rv a1, rv b, iv q1, iv c3_1734, iv c4_1734, iv c5_1734] [.int c3_1734, .int 0, .ref a1, .ref a1]) := fun t q => by
     refine k_1739 t ?_
     refine st1741 _ ?_
     show Steps _ _ _ (sf T1741 m 135 #[rv a1, rv b, iv q1, iv c3_1734, iv c4_1734, iv c5_1734] []) _
     refine s_aloadN X1741.here hx (hb hby d8_135) rfl rfl ?_
     refine s_aloadN X1741.here hx (hb hby d8_136) rfl rfl ?_
     refine s_iconst (x := 0) X1741.here hx (hb hby d8_137) rfl ?_
     refine s_iloadN X1741.here hx (hb hby d8_138) rfl ?_
     exact q
    obtain ⟨z1743, c1743, hf1743⟩ := Option.bind_eq_some_iff.mp hf1740
    obtain ⟨cq1744, q1744, q1744'⟩ := Exa.cell (w1741.2.1.2.2.1)
    obtain ⟨_, _, ⟨T1744, L1744, k1744, n1744⟩, -, X1744, ⟨Lc1744, hQ1744, l1744, y1744, z1744⟩, st1744⟩ := X1741.privateBack hx (y := y_7) hown (mvT hZ (hw _ (wd 90 rfl))) (mvT hZ (hw _ (wd 91 rfl))) (own_selects hZ (hw _ (wd 56 rfl)) (mvP hZ (hw _ (wd 92 rfl)) (args := #[])) (mvT hZ (hw _ (wd 91 rfl))) (by decide)) (Cond.privateMethod_at (mvP hZ (hw _ (wd 92 rfl)) (args := #[]))) (mvT hZ (hw _ (wd 93 rfl))) (by decide) (backOf (W := 1) (fBal_ok l Z a0 hw [] b a1 pt σ1740 (0 : Int32) c3_1734 h1741 n0 w1741 z1743 c1743) hZ (hw _ (wd 93 rfl)) (hw _ (wd 57 rfl)) (by decide) (by decide)) (g := (mkF m 139 #[rv a1, rv b, iv q1, iv c3_1734, iv c4_1734, iv c5_1734] [.int c3_1734, .int 0, .ref a1, .ref a1])) rfl (by rw [hml]; rfl) (Steps.refl _) (a := a1) (by rw [e1741]; exact q1744) q1744' (argsL := [.int 0, .int c3_1734]) (rest := [.ref a1]) (lenOf pd_3 rfl) rfl (by show 2 * 0 + _ ≤ _; exact Nat.le_of_eq rfl) (hb hby d8_139) (fun _ _ => ⟨rfl, e1741, (by decide : 7 + 0 ≤ _), (by decide : 57 + 0 ≤ _)⟩)
    dsimp only [Pt.U, Pt.locs, Pt.cells, Pt.slots] at X1744 l1744 y1744 z1744 st1744 hQ1744
    subst l1744 y1744 z1744
    obtain ⟨rfl, N1744q, w1744⟩ := hQ1744
    have N1744 := Fr.app N1741 N1744q
    have k_1745 : Go p.tables e below B0 (sf T1744 m 142 #[rv a1, rv b, iv q1, iv c3_1734, iv c4_1734, iv c5_1734] [(.int z1743.1), .ref a1]) := fun t q => by
     refine k_1742 t ?_
     refine st1744.trans ?_
     show Steps _ _ _ (sf T1744 m 142 #[rv a1, rv b, iv q1, iv c3_1734, iv c4_1734, iv c5_1734] [(.int z1743.1), .ref a1]) _
     exact q
    have k_1746 : Go p.tables e below B0 (sf T1744 m 150 #[rv a1, rv b, iv q1, iv c3_1734, iv c4_1734, iv c5_1734] [(.int (if z1743.1 = (0 : Int32) then (1 : Int32) else (0 : Int32))), .ref a1]) := by
     by_cases hc1746 : z1743.1 = (0 : Int32)
     ·rw [if_pos hc1746]; exact fun t q => by
       refine k_1745 t ?_
       refine s_ifYes X1744.here hx (pc' := 149) (hb hby d8_142) ((if0 _ _).trans (teq hc1746).1) (by decide) (by decide) ?_
       refine s_iconst (x := 1) X1744.here hx (hb hby d8_149) rfl ?_
       exact q
     ·rw [if_neg hc1746]; exact fun t q => by
       refine k_1745 t ?_
       refine s_ifNo X1744.here hx (hb hby d8_142) ((if0 _ _).trans (feq hc1746).1) ?_
       refine s_iconst (x := 0) X1744.here hx (hb hby d8_145) rfl ?_
       refine s_goto X1744.here hx (pc' := 150) (hb hby d8_146) (by decide) (by decide) ?_
       exact q
    obtain ⟨σ1747, c1747, hf1747⟩ := Option.bind_eq_some_iff.mp hf1743
    obtain ⟨T1748, h1748, X1748, e1748, W1748, st1748⟩ := putF X1744 hx hZ hown (host := "") (Or.inl (hw _ (wd 94 rfl))) Via.refl (rfl : T1744.heap = _) (gt_d_unevenCount w1744) (w1744.2.1.2.2.1) (Or.inl (hw _ (wd 95 rfl))) (hw _ (wd 56 rfl)) (ty := .int) (by decide) rfl rfl (g := (mkF m 150 #[rv a1, rv b, iv q1, iv c3_1734, iv c4_1734, iv c5_1734] [(.int (if z1743.1 = (0 : Int32) then (1 : Int32) else (0 : Int32))), .ref a1])) rfl rfl (hb hby d8_150)
    have N1748 := Fr.snoc X1748 N1744 w1744.2.2.2.1
    have w1748 := pt_d_unevenCount hw w1744 W1748
    rw [Option.some.inj c1747] at w1748
    have k_1749 : Go p.tables e below B0 (sf T1748 m 155 #[rv a1, rv b, iv q1, iv c3_1734, iv c4_1734, iv c5_1734] [.int 0, .ref a1]) := fun t q => by
     refine k_1746 t ?_
     refine st1748 _ ?_
     show Steps _ _ _ (sf T1748 m 153 #[rv a1, rv b, iv q1, iv c3_1734, iv c4_1734, iv c5_1734] []) _
     refine s_aloadN X1748.here hx (hb hby d8_153) rfl rfl ?_
     refine s_iconst (x := 0) X1748.here hx (hb hby d8_154) rfl ?_
     exact q
    obtain ⟨z1750, c1750, hf1750⟩ := Option.bind_eq_some_iff.mp hf1747
    obtain ⟨cq1751, q1751, q1751'⟩ := Exa.cell (w1748.2.1.2.2.1)
    obtain ⟨_, _, ⟨T1751, L1751, k1751, n1751⟩, -, X1751, ⟨Lc1751, hQ1751, l1751, y1751, z1751⟩, st1751⟩ := X1748.privateBack hx (y := y_8) hown (mvT hZ (hw _ (wd 96 rfl))) (mvT hZ (hw _ (wd 97 rfl))) (own_selects hZ (hw _ (wd 56 rfl)) (mvP hZ (hw _ (wd 98 rfl)) (args := #[])) (mvT hZ (hw _ (wd 97 rfl))) (by decide)) (Cond.privateMethod_at (mvP hZ (hw _ (wd 98 rfl)) (args := #[]))) (mvT hZ (hw _ (wd 99 rfl))) (by decide) (backOf (W := 0) (fEnter_ok l Z a0 hw [] b a1 pt σ1747 (0 : Int32) h1748 n0 w1748 z1750 c1750) hZ (hw _ (wd 99 rfl)) (hw _ (wd 57 rfl)) (by decide) (by decide)) (g := (mkF m 155 #[rv a1, rv b, iv q1, iv c3_1734, iv c4_1734, iv c5_1734] [.int 0, .ref a1])) rfl (by rw [hml]; rfl) (Steps.refl _) (a := a1) (by rw [e1748]; exact q1751) q1751' (argsL := [.int 0]) (rest := []) (lenOf pd_4 rfl) rfl (by show 2 * 0 + _ ≤ _; exact Nat.le_of_eq rfl) (hb hby d8_155) (fun _ _ => ⟨rfl, e1748, (by decide : 7 + 0 ≤ _), (by decide : 57 + 0 ≤ _)⟩)
    dsimp only [Pt.U, Pt.locs, Pt.cells, Pt.slots] at X1751 l1751 y1751 z1751 st1751 hQ1751
    subst l1751 y1751 z1751
    obtain ⟨rfl, N1751q, w1751⟩ := hQ1751
    have N1751 := Fr.app N1748 N1751q
    have k_1752 : Go p.tables e below B0 (sf T1751 m 158 #[rv a1, rv b, iv q1, iv c3_1734, iv c4_1734, iv c5_1734] []) := fun t q => by
     refine k_1749 t ?_
     refine st1751.trans ?_
     show Steps _ _ _ (sf T1751 m 158 #[rv a1, rv b, iv q1, iv c3_1734, iv c4_1734, iv c5_1734] []) _
     exact q
    obtain rfl := Option.some.inj hf1750
    obtain ⟨fs, hr, hrun, hended, hW, hsame⟩ := X1751.leave (v := none) (fun _ => rfl)
    refine ⟨_, _, k_1752 _ ?_, hrun, hended, _, _, rfl, ?_, ⟨_, rfl⟩, hW, hsame.mono (by decide) (by decide)⟩
    ·exact X1751.returnOut hx Bd.returns (hb hby d8_158) hr
    ·show QS Z n0 b a1 z1750.2 none T1751.heap _
     exact ⟨rfl, N1751, pt, w1751⟩
   ·rw [if_neg hc1736] at hl1734
    have k_1753 : Go p.tables e below B0 (sf Tl1734 m 119 #[rv a1, rv b, iv q1, iv c3_1734, iv c4_1734, iv c5_1734] [.int 0, .int c5_1734, .ref a1]) := fun t q => by
     refine k_1735 t ?_
     refine s_ifNo Xl1734.here hx (hb hby d8_112) ((if0 _ _).trans (flt hc1736).1) ?_
     refine s_aloadN Xl1734.here hx (hb hby d8_115) rfl rfl ?_
     refine s_iload Xl1734.here hx (hb hby d8_116) rfl ?_
     refine s_iconst (x := 0) Xl1734.here hx (hb hby d8_118) rfl ?_
     exact q
    obtain ⟨z1754, c1754, hf1754⟩ := Option.bind_eq_some_iff.mp hl1734
    obtain ⟨cq1755, q1755, q1755'⟩ := Exa.cell (Wl1734.2.1.2.2.1)
    obtain ⟨_, _, ⟨T1755, L1755, k1755, n1755⟩, -, X1755, ⟨Lc1755, hQ1755, l1755, y1755, z1755⟩, st1755⟩ := Xl1734.privateBack hx (y := y_10) hown (mvT hZ (hw _ (wd 126 rfl))) (mvT hZ (hw _ (wd 127 rfl))) (own_selects hZ (hw _ (wd 56 rfl)) (mvP hZ (hw _ (wd 128 rfl)) (args := #[])) (mvT hZ (hw _ (wd 127 rfl))) (by decide)) (Cond.privateMethod_at (mvP hZ (hw _ (wd 128 rfl)) (args := #[]))) (mvT hZ (hw _ (wd 129 rfl))) (by decide) (backOf (W := 0) (fLink_ok l Z a0 hw [] b a1 pt σl1734 c5_1734 (0 : Int32) Tl1734.heap n0 Wl1734 z1754 c1754) hZ (hw _ (wd 129 rfl)) (hw _ (wd 57 rfl)) (by decide) (by decide)) (g := (mkF m 119 #[rv a1, rv b, iv q1, iv c3_1734, iv c4_1734, iv c5_1734] [.int 0, .int c5_1734, .ref a1])) rfl (by rw [hml]; rfl) (Steps.refl _) (a := a1) q1755 q1755' (argsL := [.int c5_1734, .int 0]) (rest := []) (lenOf pd_2 rfl) rfl (by show 2 * 0 + _ ≤ _; exact Nat.le_of_eq rfl) (hb hby d8_119) (fun _ _ => ⟨rfl, (rfl : Tl1734.heap = _), (by decide : 7 + 0 ≤ _), (by decide : 57 + 0 ≤ _)⟩)
    dsimp only [Pt.U, Pt.locs, Pt.cells, Pt.slots] at X1755 l1755 y1755 z1755 st1755 hQ1755
    subst l1755 y1755 z1755
    obtain ⟨rfl, N1755q, w1755⟩ := hQ1755
    have N1755 := Fr.app Nl1734 N1755q
    have k_1756 : Go p.tables e below B0 (sf T1755 m 110 #[rv a1, rv b, iv q1, iv c3_1734, iv c4_1734, .val (.int (c5_1734 + (-1 : Int32)))] []) := fun t q => by
     refine k_1753 t ?_
     refine st1755.trans ?_
     show Steps _ _ _ (sf T1755 m 122 #[rv a1, rv b, iv q1, iv c3_1734, iv c4_1734, iv c5_1734] []) _
     refine s_iinc X1755.here hx (hb hby d8_122) rfl (l' := #[rv a1, rv b, iv q1, iv c3_1734, iv c4_1734, .val (.int (c5_1734 + (-1 : Int32)))]) rfl ?_
     refine s_goto X1755.here hx (pc' := 110) (hb hby d8_125) (by decide) (by decide) ?_
     exact q
    exact ih pt z1754.2 c3_1734 c4_1734 (c5_1734 + (-1 : Int32))  T1755 _ X1755 N1755 w1755  k_1756 hf1754
 have k_1757 : Go p.tables e below B0 (sf s₁ m 1 #[rv a1, rv b, iv q1, nu, nu, nu] [.ref a1]) := fun t q => by
  refine k0 t ?_
  refine s_aloadN X0.here hx (hb hby d8_0) rfl rfl ?_
  exact q
 obtain ⟨T1758, X1758, e1758, st1758⟩ := initO X0 hx hZ hown (hw _ (wd 61 rfl)) (hw _ (wd 12 rfl)) (hw _ (wd 13 rfl)) e0 (g := (mkF m 1 #[rv a1, rv b, iv q1, nu, nu, nu] [.ref a1])) rfl (by rw [hml]; rfl) rfl (hb hby d8_1) (by decide) (W := 0) (by show 2 * 0 + _ ≤ _; exact Nat.le_of_eq rfl) (by decide)
 have k_1759 : Go p.tables e below B0 (sf T1758 m 5 #[rv a1, rv b, iv q1, nu, nu, nu] [.ref b]) := fun t q => by
  refine k_1757 t ?_
  refine st1758 _ ?_
  show Steps _ _ _ (sf T1758 m 4 #[rv a1, rv b, iv q1, nu, nu, nu] []) _
  refine s_aloadN X1758.here hx (hb hby d8_4) rfl rfl ?_
  exact q
 obtain ⟨cl1760, Ar1760', ln1760⟩ := W0.len (i := 1) (by decide)
 have Ar1760 : Arr Z h0 (ps 1) cl1760 .int := Ar1760'
 obtain ⟨cq1761, kq1761, q1761a, q1761b, q1761c⟩ := isOf hZ e1758 Eb
 obtain ⟨_, _, ⟨T1761, L1761, k1761, n1761⟩, -, X1761, ⟨Lc1761, hQ1761, l1761, y1761, z1761⟩, st1761⟩ := X1758.virtualBack hx (y := y_2) (z := y_2) hown (mvT hZ (hw _ (wd 62 rfl))) (mvT hZ (hw _ (wd 63 rfl))) (notFace_of_selects (args := #[]) (mvT hZ (hw _ (wd 65 rfl)))) (mvT hZ (hw _ (wd 65 rfl))) (mvT hZ (hw _ (wd 64 rfl))) (by decide) (backOf (W := 0) (cnt0 l Z a0 hw [] b (ps 1) cl1760 (lenA σ 1) h0 n0 B0_states Ar1760 ln1760) hZ (hw _ (wd 66 rfl)) (hw _ (wd 3 rfl)) (by decide) (by decide)) q1761a q1761c (g := (mkF m 5 #[rv a1, rv b, iv q1, nu, nu, nu] [.ref b])) rfl (by rw [hml]; rfl) (Steps.refl _) (argsL := []) (rest := []) (lenOf pd_5 rfl) rfl (by show 2 * 0 + _ ≤ _; exact Nat.le_of_eq rfl) (hb hby d8_5) (fun _ _ => ⟨rfl, e1758, (by decide : 0 + 0 ≤ _), (by decide : 0 + 0 ≤ _)⟩)
 dsimp only [Pt.U, Pt.locs, Pt.cells, Pt.slots] at X1761 l1761 y1761 z1761 st1761 hQ1761
 subst l1761 y1761 z1761
 obtain ⟨rfl, N1761q, e1761⟩ := hQ1761
 have N1761 := Fr.app N0 N1761q
 have k_1762 : Go p.tables e below B0 (sf T1761 m 14 #[rv a1, rv b, iv q1, .val (.int (lenA σ 1)), nu, nu] [.int 1024, (.int (lenA σ 1)), .int 1]) := fun t q => by
  refine k_1759 t ?_
  refine st1761.trans ?_
  show Steps _ _ _ (sf T1761 m 8 #[rv a1, rv b, iv q1, nu, nu, nu] [(.int (lenA σ 1))]) _
  refine s_istoreN X1761.here hx (hb hby d8_8) (l' := #[rv a1, rv b, iv q1, .val (.int (lenA σ 1)), nu, nu]) rfl ?_
  refine s_iconst (x := 1) X1761.here hx (hb hby d8_9) rfl ?_
  refine s_iloadN X1761.here hx (hb hby d8_10) rfl ?_
  refine s_sipush (x := 1024) X1761.here hx (hb hby d8_11) rfl ?_
  exact q
 obtain ⟨_, _, ⟨T1763, L1763, k1763, n1763⟩, -, X1763, ⟨Lc1763, hQ1763, l1763, y1763, z1763⟩, st1763⟩ := Jvm.LawKit.callS X1761 hx (y := y_1) hown (mvT hZ (hw _ (wd 67 rfl))) (mvT hZ (hw _ (wd 15 rfl))) (mvT hZ (hw _ (wd 16 rfl))) (mvT hZ (hw _ (wd 17 rfl))) (by decide) (backOf (W := 1) (m_min l Z a0 hw [] (lenA σ 1) (1024 : Int32) h0 n0) hZ (hw _ (wd 17 rfl)) (hw _ (wd 16 rfl)) (by decide) (by decide)) (g := (mkF m 14 #[rv a1, rv b, iv q1, .val (.int (lenA σ 1)), nu, nu] [.int 1024, (.int (lenA σ 1)), .int 1])) rfl (by rw [hml]; rfl) (argsL := [(.int (lenA σ 1)), .int 1024]) (rest := [.int 1]) (lenOf pd_0 rfl) rfl (by show 2 * 0 + _ ≤ _; exact Nat.le_of_eq rfl) (hb hby d8_14) (fun _ _ => ⟨rfl, e1761, (by decide : 0 + 0 ≤ _), (by decide : 0 + 0 ≤ _)⟩)
 dsimp only [Pt.U, Pt.locs, Pt.cells, Pt.slots] at X1763 l1763 y1763 z1763 st1763 hQ1763
 subst l1763 y1763 z1763
 obtain ⟨rfl, N1763q, e1763⟩ := hQ1763
 have N1763 := Fr.app N1761 N1763q
 have k_1764 : Go p.tables e below B0 (sf T1763 m 17 #[rv a1, rv b, iv q1, .val (.int (lenA σ 1)), nu, nu] [(.int (mnI (lenA σ 1) (1024 : Int32))), .int 1]) := fun t q => by
  refine k_1762 t ?_
  refine st1763 _ ?_
  show Steps _ _ _ (sf T1763 m 17 #[rv a1, rv b, iv q1, .val (.int (lenA σ 1)), nu, nu] [(.int (mnI (lenA σ 1) (1024 : Int32))), .int 1]) _
  exact q
 obtain ⟨_, _, ⟨T1765, L1765, k1765, n1765⟩, -, X1765, ⟨Lc1765, hQ1765, l1765, y1765, z1765⟩, st1765⟩ := Jvm.LawKit.callS X1763 hx (y := y_0) hown (mvT hZ (hw _ (wd 68 rfl))) (mvT hZ (hw _ (wd 19 rfl))) (mvT hZ (hw _ (wd 16 rfl))) (mvT hZ (hw _ (wd 20 rfl))) (by decide) (backOf (W := 0) (m_max l Z a0 hw [] (1 : Int32) (mnI (lenA σ 1) (1024 : Int32)) h0 n0) hZ (hw _ (wd 20 rfl)) (hw _ (wd 16 rfl)) (by decide) (by decide)) (g := (mkF m 17 #[rv a1, rv b, iv q1, .val (.int (lenA σ 1)), nu, nu] [(.int (mnI (lenA σ 1) (1024 : Int32))), .int 1])) rfl (by rw [hml]; rfl) (argsL := [.int 1, (.int (mnI (lenA σ 1) (1024 : Int32)))]) (rest := []) (lenOf pd_0 rfl) rfl (by show 2 * 0 + _ ≤ _; exact Nat.le_of_eq rfl) (hb hby d8_17) (fun _ _ => ⟨rfl, e1763, (by decide : 0 + 0 ≤ _), (by decide : 0 + 0 ≤ _)⟩)
 dsimp only [Pt.U, Pt.locs, Pt.cells, Pt.slots] at X1765 l1765 y1765 z1765 st1765 hQ1765
 subst l1765 y1765 z1765
 obtain ⟨rfl, N1765q, e1765⟩ := hQ1765
 have N1765 := Fr.app N1763 N1765q
 have k_1766 : Go p.tables e below B0 (sf T1765 m 24 #[rv a1, rv b, iv q1, .val (.int (lenA σ 1)), .val (.int (mxI (1 : Int32) (mnI (lenA σ 1) (1024 : Int32)))), nu] [.ref b, .ref a1]) := fun t q => by
  refine k_1764 t ?_
  refine st1765 _ ?_
  show Steps _ _ _ (sf T1765 m 20 #[rv a1, rv b, iv q1, .val (.int (lenA σ 1)), nu, nu] [(.int (mxI (1 : Int32) (mnI (lenA σ 1) (1024 : Int32))))]) _
  refine s_istore X1765.here hx (hb hby d8_20) (l' := #[rv a1, rv b, iv q1, .val (.int (lenA σ 1)), .val (.int (mxI (1 : Int32) (mnI (lenA σ 1) (1024 : Int32)))), nu]) rfl ?_
  refine s_aloadN X1765.here hx (hb hby d8_22) rfl rfl ?_
  refine s_aloadN X1765.here hx (hb hby d8_23) rfl rfl ?_
  exact q
 obtain ⟨T1767, h1767, X1767, e1767, W1767, st1767⟩ := putF X1765 hx hZ hown (host := "") (Or.inl (hw _ (wd 69 rfl))) Via.refl e1765 F0_blocks E0 (Or.inr ⟨(hw _ (wd 70 rfl)), rfl, hnm⟩) (hw _ (wd 56 rfl)) (ty := (.object BLn)) (by decide) rfl rfl (g := (mkF m 24 #[rv a1, rv b, iv q1, .val (.int (lenA σ 1)), .val (.int (mxI (1 : Int32) (mnI (lenA σ 1) (1024 : Int32)))), nu] [.ref b, .ref a1])) rfl rfl (hb hby d8_24)
 have N1767 := Fr.snoc X1767 N1765 g0
 have w1767 := W0.wrO E0 (hw _ (wd 56 rfl)) W1767
 have f_1768 := Exa.wr W1767 Eb
 have f_1769 := Exa.wr W1767 E0
 have f_1770 := Fld.other W1767 B0_states (Or.inl (ne_exa Eb E0 (by decide)))
 have f_1771 := Fld.other W1767 B0_placeOf (Or.inl (ne_exa Eb E0 (by decide)))
 have f_1772 := Fld.other W1767 B0_blockOf (Or.inl (ne_exa Eb E0 (by decide)))
 have f_1773 := Fld.other W1767 B0_marked (Or.inl (ne_exa Eb E0 (by decide)))
 have f_1774 := Fld.other W1767 B0_start (Or.inl (ne_exa Eb E0 (by decide)))
 have f_1775 := Fld.other W1767 B0_end (Or.inl (ne_exa Eb E0 (by decide)))
 have f_1776 := Fld.other W1767 B0_markedEnd (Or.inl (ne_exa Eb E0 (by decide)))
 have f_1777 := Fld.other W1767 B0_touched (Or.inl (ne_exa Eb E0 (by decide)))
 have f_1778 := Fld.other W1767 B0_markedCount (Or.inl (ne_exa Eb E0 (by decide)))
 have f_1779 := Fld.other W1767 B0_touchedCount (Or.inl (ne_exa Eb E0 (by decide)))
 have f_1780 := Fld.other W1767 B0_blockCount (Or.inl (ne_exa Eb E0 (by decide)))
 have f_1781 := Fld.same W1767 F0_blocks
 have f_1782 := Fld.other W1767 F0_secondStart (Or.inr (slot_ne (Or.inr (hw _ (wd 72 rfl))) (Or.inr (hw _ (wd 70 rfl))) (by decide) (t := .int) (t' := (.object BLn)) (by decide) (by decide)))
 have f_1783 := Fld.other W1767 F0_next (Or.inr (slot_ne (Or.inr (hw _ (wd 74 rfl))) (Or.inr (hw _ (wd 70 rfl))) (by decide) (t := (.array .int)) (t' := (.object BLn)) (by decide) (by decide)))
 have f_1784 := Fld.other W1767 F0_previous (Or.inr (slot_ne (Or.inr (hw _ (wd 76 rfl))) (Or.inr (hw _ (wd 70 rfl))) (by decide) (t := (.array .int)) (t' := (.object BLn)) (by decide) (by decide)))
 have f_1785 := Fld.other W1767 F0_first (Or.inr (slot_ne (Or.inl (hw _ (wd 78 rfl))) (Or.inr (hw _ (wd 70 rfl))) (by decide) (t := (.array .int)) (t' := (.object BLn)) (by decide) (by decide)))
 have f_1786 := Fld.other W1767 F0_firstCount (Or.inr (slot_ne (Or.inl (hw _ (wd 80 rfl))) (Or.inr (hw _ (wd 70 rfl))) (by decide) (t := (.array .int)) (t' := (.object BLn)) (by decide) (by decide)))
 have f_1787 := Fld.other W1767 F0_unevenCount (Or.inr (slot_ne (Or.inl (hw _ (wd 95 rfl))) (Or.inr (hw _ (wd 70 rfl))) (by decide) (t := .int) (t' := (.object BLn)) (by decide) (by decide)))
 have f_1788 := Fld.other W1767 F0_bucket (Or.inr (slot_ne (Or.inr (hw _ (wd 82 rfl))) (Or.inr (hw _ (wd 70 rfl))) (by decide) (t := (.array .int)) (t' := (.object BLn)) (by decide) (by decide)))
 have f_1789 := Fld.other W1767 F0_nextInBucket (Or.inr (slot_ne (Or.inl (hw _ (wd 84 rfl))) (Or.inr (hw _ (wd 70 rfl))) (by decide) (t := (.array .int)) (t' := (.object BLn)) (by decide) (by decide)))
 have f_1790 := Fld.other W1767 F0_previousInBucket (Or.inr (slot_ne (Or.inl (hw _ (wd 86 rfl))) (Or.inr (hw _ (wd 70 rfl))) (by decide) (t := (.array .int)) (t' := (.object BLn)) (by decide) (by decide)))
 have f_1791 := Fld.other W1767 F0_highest (Or.inr (slot_ne (Or.inl (hw _ (wd 106 rfl))) (Or.inr (hw _ (wd 70 rfl))) (by decide) (t := .int) (t' := (.object BLn)) (by decide) (by decide)))
 have zl_1792 := Nat.le_trans Z0 (Nat.le_of_eq (Wr.size W1767).symm)
 have k_1793 : Go p.tables e below B0 (sf T1767 m 29 #[rv a1, rv b, iv q1, .val (.int (lenA σ 1)), .val (.int (mxI (1 : Int32) (mnI (lenA σ 1) (1024 : Int32)))), nu] [.int q1, .ref a1]) := fun t q => by
  refine k_1766 t ?_
  refine st1767 _ ?_
  show Steps _ _ _ (sf T1767 m 27 #[rv a1, rv b, iv q1, .val (.int (lenA σ 1)), .val (.int (mxI (1 : Int32) (mnI (lenA σ 1) (1024 : Int32)))), nu] []) _
  refine s_aloadN X1767.here hx (hb hby d8_27) rfl rfl ?_
  refine s_iloadN X1767.here hx (hb hby d8_28) rfl ?_
  exact q
 obtain ⟨T1794, h1794, X1794, e1794, W1794, st1794⟩ := putF X1767 hx hZ hown (host := "") (Or.inl (hw _ (wd 71 rfl))) Via.refl e1767 f_1782 f_1769 (Or.inr ⟨(hw _ (wd 72 rfl)), rfl, hnm⟩) (hw _ (wd 56 rfl)) (ty := .int) (by decide) rfl rfl (g := (mkF m 29 #[rv a1, rv b, iv q1, .val (.int (lenA σ 1)), .val (.int (mxI (1 : Int32) (mnI (lenA σ 1) (1024 : Int32)))), nu] [.int q1, .ref a1])) rfl rfl (hb hby d8_29)
 have N1794 := Fr.snoc X1794 N1767 g0
 have w1794 := w1767.wrO f_1769 (hw _ (wd 56 rfl)) W1794
 have f_1795 := Exa.wr W1794 f_1768
 have f_1796 := Exa.wr W1794 f_1769
 have f_1797 := Fld.other W1794 f_1770 (Or.inl (ne_exa f_1768 f_1769 (by decide)))
 have f_1798 := Fld.other W1794 f_1771 (Or.inl (ne_exa f_1768 f_1769 (by decide)))
 have f_1799 := Fld.other W1794 f_1772 (Or.inl (ne_exa f_1768 f_1769 (by decide)))
 have f_1800 := Fld.other W1794 f_1773 (Or.inl (ne_exa f_1768 f_1769 (by decide)))
 have f_1801 := Fld.other W1794 f_1774 (Or.inl (ne_exa f_1768 f_1769 (by decide)))
 have f_1802 := Fld.other W1794 f_1775 (Or.inl (ne_exa f_1768 f_1769 (by decide)))
 have f_1803 := Fld.other W1794 f_1776 (Or.inl (ne_exa f_1768 f_1769 (by decide)))
 have f_1804 := Fld.other W1794 f_1777 (Or.inl (ne_exa f_1768 f_1769 (by decide)))
 have f_1805 := Fld.other W1794 f_1778 (Or.inl (ne_exa f_1768 f_1769 (by decide)))
 have f_1806 := Fld.other W1794 f_1779 (Or.inl (ne_exa f_1768 f_1769 (by decide)))
 have f_1807 := Fld.other W1794 f_1780 (Or.inl (ne_exa f_1768 f_1769 (by decide)))
 have f_1808 := Fld.other W1794 f_1781 (Or.inr (slot_ne (Or.inr (hw _ (wd 70 rfl))) (Or.inr (hw _ (wd 72 rfl))) (by decide) (t := (.object BLn)) (t' := .int) (by decide) (by decide)))
 have f_1809 := Fld.same W1794 f_1782
 have f_1810 := foai W1794 f_1783 (Or.inr (hw _ (wd 74 rfl))) (Or.inr (hw _ (wd 72 rfl))) (by decide)
 have f_1811 := foai W1794 f_1784 (Or.inr (hw _ (wd 76 rfl))) (Or.inr (hw _ (wd 72 rfl))) (by decide)
 have f_1812 := foai W1794 f_1785 (Or.inl (hw _ (wd 78 rfl))) (Or.inr (hw _ (wd 72 rfl))) (by decide)
 have f_1813 := foai W1794 f_1786 (Or.inl (hw _ (wd 80 rfl))) (Or.inr (hw _ (wd 72 rfl))) (by decide)
 have f_1814 := foii W1794 f_1787 (Or.inl (hw _ (wd 95 rfl))) (Or.inr (hw _ (wd 72 rfl))) (by decide)
 have f_1815 := foai W1794 f_1788 (Or.inr (hw _ (wd 82 rfl))) (Or.inr (hw _ (wd 72 rfl))) (by decide)
 have f_1816 := foai W1794 f_1789 (Or.inl (hw _ (wd 84 rfl))) (Or.inr (hw _ (wd 72 rfl))) (by decide)
 have f_1817 := foai W1794 f_1790 (Or.inl (hw _ (wd 86 rfl))) (Or.inr (hw _ (wd 72 rfl))) (by decide)
 have f_1818 := foii W1794 f_1791 (Or.inl (hw _ (wd 106 rfl))) (Or.inr (hw _ (wd 72 rfl))) (by decide)
 have zl_1819 := Nat.le_trans zl_1792 (Nat.le_of_eq (Wr.size W1794).symm)
 have k_1820 : Go p.tables e below B0 (sf T1794 m 34 #[rv a1, rv b, iv q1, .val (.int (lenA σ 1)), .val (.int (mxI (1 : Int32) (mnI (lenA σ 1) (1024 : Int32)))), nu] [(.int (lenA σ 1)), .ref a1]) := fun t q => by
  refine k_1793 t ?_
  refine st1794 _ ?_
  show Steps _ _ _ (sf T1794 m 32 #[rv a1, rv b, iv q1, .val (.int (lenA σ 1)), .val (.int (mxI (1 : Int32) (mnI (lenA σ 1) (1024 : Int32)))), nu] []) _
  refine s_aloadN X1794.here hx (hb hby d8_32) rfl rfl ?_
  refine s_iloadN X1794.here hx (hb hby d8_33) rfl ?_
  exact q
 obtain ⟨u1821, c1821, hf1821⟩ := Option.bind_eq_some_iff.mp hf
 obtain ⟨T1822, h1822, kc1822, X1822, e1822, E1822, A1822, XA1822, st1822⟩ := newPE X1794 hx hZ (hw _ (wd 7 rfl)) e1794 (g := (mkF m 34 #[rv a1, rv b, iv q1, .val (.int (lenA σ 1)), .val (.int (mxI (1 : Int32) (mnI (lenA σ 1) (1024 : Int32)))), nu] [(.int (lenA σ 1)), .ref a1])) rfl (hb hby d8_34) rfl (guardI_spec c1821).1 (cap := 7) (guardI_spec c1821).2 (by decide) (by decide) (by decide) (ad := "[I") (by decide)
 obtain ⟨b1822, g1822⟩ : ∃ z, z = h1794.size := ⟨_, rfl⟩
 rw [← g1822] at A1822 XA1822 st1822
 obtain ⟨σ1823, c1823, hf1823⟩ := Option.bind_eq_some_iff.mp hf1821
 have w1822 := WC.snocX w1794 E1822 (IA.new A1822 (guardI_spec c1821).1) g1822 zl_1819
 rw [Option.some.inj c1823] at w1822
 have w1822 : WC Z n0 h1822 (psX ps 9 [b1822]) 10 σ1823 := w1822
 have f_1824 := Exa.ext E1822 f_1795
 have f_1825 := Exa.ext E1822 f_1796
 have f_1826 := Fld.ext E1822 f_1797
 have f_1827 := Fld.ext E1822 f_1798
 have f_1828 := Fld.ext E1822 f_1799
 have f_1829 := Fld.ext E1822 f_1800
 have f_1830 := Fld.ext E1822 f_1801
 have f_1831 := Fld.ext E1822 f_1802
 have f_1832 := Fld.ext E1822 f_1803
 have f_1833 := Fld.ext E1822 f_1804
 have f_1834 := Fld.ext E1822 f_1805
 have f_1835 := Fld.ext E1822 f_1806
 have f_1836 := Fld.ext E1822 f_1807
 have f_1837 := Fld.ext E1822 f_1808
 have f_1838 := Fld.ext E1822 f_1809
 have f_1839 := Fld.ext E1822 f_1810
 have f_1840 := Fld.ext E1822 f_1811
 have f_1841 := Fld.ext E1822 f_1812
 have f_1842 := Fld.ext E1822 f_1813
 have f_1843 := Fld.ext E1822 f_1814
 have f_1844 := Fld.ext E1822 f_1815
 have f_1845 := Fld.ext E1822 f_1816
 have f_1846 := Fld.ext E1822 f_1817
 have f_1847 := Fld.ext E1822 f_1818
 have zl_1848 := Nat.le_trans zl_1819 E1822.1
 have k_1849 : Go p.tables e below B0 (sf T1822 m 36 #[rv a1, rv b, iv q1, .val (.int (lenA σ 1)), .val (.int (mxI (1 : Int32) (mnI (lenA σ 1) (1024 : Int32)))), nu] [.ref b1822, .ref a1]) := fun t q => by
  refine k_1820 t ?_
  refine st1822 _ ?_
  show Steps _ _ _ (sf T1822 m 36 #[rv a1, rv b, iv q1, .val (.int (lenA σ 1)), .val (.int (mxI (1 : Int32) (mnI (lenA σ 1) (1024 : Int32)))), nu] [.ref b1822, .ref a1]) _
  exact q
 obtain ⟨T1850, h1850, X1850, e1850, W1850, st1850⟩ := putF X1822 hx hZ hown (host := "") (Or.inl (hw _ (wd 73 rfl))) Via.refl e1822 f_1839 f_1825 (Or.inr ⟨(hw _ (wd 74 rfl)), rfl, hnm⟩) (hw _ (wd 56 rfl)) (ty := (.array .int)) (by decide) rfl rfl (g := (mkF m 36 #[rv a1, rv b, iv q1, .val (.int (lenA σ 1)), .val (.int (mxI (1 : Int32) (mnI (lenA σ 1) (1024 : Int32)))), nu] [.ref b1822, .ref a1])) rfl rfl (hb hby d8_36)
 have N1850 := Fr.snoc X1850 N1794 g0
 have w1850 := w1822.wrO f_1825 (hw _ (wd 56 rfl)) W1850
 have f_1851 := Exa.wr W1850 f_1824
 have f_1852 := Exa.wr W1850 f_1825
 have f_1853 := Fld.other W1850 f_1826 (Or.inl (ne_exa f_1824 f_1825 (by decide)))
 have f_1854 := Fld.other W1850 f_1827 (Or.inl (ne_exa f_1824 f_1825 (by decide)))
 have f_1855 := Fld.other W1850 f_1828 (Or.inl (ne_exa f_1824 f_1825 (by decide)))
 have f_1856 := Fld.other W1850 f_1829 (Or.inl (ne_exa f_1824 f_1825 (by decide)))
 have f_1857 := Fld.other W1850 f_1830 (Or.inl (ne_exa f_1824 f_1825 (by decide)))
 have f_1858 := Fld.other W1850 f_1831 (Or.inl (ne_exa f_1824 f_1825 (by decide)))
 have f_1859 := Fld.other W1850 f_1832 (Or.inl (ne_exa f_1824 f_1825 (by decide)))
 have f_1860 := Fld.other W1850 f_1833 (Or.inl (ne_exa f_1824 f_1825 (by decide)))
 have f_1861 := Fld.other W1850 f_1834 (Or.inl (ne_exa f_1824 f_1825 (by decide)))
 have f_1862 := Fld.other W1850 f_1835 (Or.inl (ne_exa f_1824 f_1825 (by decide)))
 have f_1863 := Fld.other W1850 f_1836 (Or.inl (ne_exa f_1824 f_1825 (by decide)))
 have f_1864 := Fld.other W1850 f_1837 (Or.inr (slot_ne (Or.inr (hw _ (wd 70 rfl))) (Or.inr (hw _ (wd 74 rfl))) (by decide) (t := (.object BLn)) (t' := (.array .int)) (by decide) (by decide)))
 have f_1865 := foia W1850 f_1838 (Or.inr (hw _ (wd 72 rfl))) (Or.inr (hw _ (wd 74 rfl))) (by decide)
 have f_1866 := Fld.same W1850 f_1839
 have f_1867 := foaa W1850 f_1840 (Or.inr (hw _ (wd 76 rfl))) (Or.inr (hw _ (wd 74 rfl))) (by decide)
 have f_1868 := foaa W1850 f_1841 (Or.inl (hw _ (wd 78 rfl))) (Or.inr (hw _ (wd 74 rfl))) (by decide)
 have f_1869 := foaa W1850 f_1842 (Or.inl (hw _ (wd 80 rfl))) (Or.inr (hw _ (wd 74 rfl))) (by decide)
 have f_1870 := foia W1850 f_1843 (Or.inl (hw _ (wd 95 rfl))) (Or.inr (hw _ (wd 74 rfl))) (by decide)
 have f_1871 := foaa W1850 f_1844 (Or.inr (hw _ (wd 82 rfl))) (Or.inr (hw _ (wd 74 rfl))) (by decide)
 have f_1872 := foaa W1850 f_1845 (Or.inl (hw _ (wd 84 rfl))) (Or.inr (hw _ (wd 74 rfl))) (by decide)
 have f_1873 := foaa W1850 f_1846 (Or.inl (hw _ (wd 86 rfl))) (Or.inr (hw _ (wd 74 rfl))) (by decide)
 have f_1874 := foia W1850 f_1847 (Or.inl (hw _ (wd 106 rfl))) (Or.inr (hw _ (wd 74 rfl))) (by decide)
 have f_1875 := Exa.wr W1850 XA1822
 have zl_1876 := Nat.le_trans zl_1848 (Nat.le_of_eq (Wr.size W1850).symm)
 have k_1877 : Go p.tables e below B0 (sf T1850 m 41 #[rv a1, rv b, iv q1, .val (.int (lenA σ 1)), .val (.int (mxI (1 : Int32) (mnI (lenA σ 1) (1024 : Int32)))), nu] [(.int (lenA σ 1)), .ref a1]) := fun t q => by
  refine k_1849 t ?_
  refine st1850 _ ?_
  show Steps _ _ _ (sf T1850 m 39 #[rv a1, rv b, iv q1, .val (.int (lenA σ 1)), .val (.int (mxI (1 : Int32) (mnI (lenA σ 1) (1024 : Int32)))), nu] []) _
  refine s_aloadN X1850.here hx (hb hby d8_39) rfl rfl ?_
  refine s_iloadN X1850.here hx (hb hby d8_40) rfl ?_
  exact q
 obtain ⟨u1878, c1878, hf1878⟩ := Option.bind_eq_some_iff.mp hf1823
 obtain ⟨T1879, h1879, kc1879, X1879, e1879, E1879, A1879, XA1879, st1879⟩ := newPE X1850 hx hZ (hw _ (wd 7 rfl)) e1850 (g := (mkF m 41 #[rv a1, rv b, iv q1, .val (.int (lenA σ 1)), .val (.int (mxI (1 : Int32) (mnI (lenA σ 1) (1024 : Int32)))), nu] [(.int (lenA σ 1)), .ref a1])) rfl (hb hby d8_41) rfl (guardI_spec c1878).1 (cap := 7) (guardI_spec c1878).2 (by decide) (by decide) (by decide) (ad := "[I") (by decide)
 obtain ⟨b1879, g1879⟩ : ∃ z, z = h1850.size := ⟨_, rfl⟩
 rw [← g1879] at A1879 XA1879 st1879
 obtain ⟨σ1880, c1880, hf1880⟩ := Option.bind_eq_some_iff.mp hf1878
 have w1879 := WC.snocX w1850 E1879 (IA.new A1879 (guardI_spec c1878).1) g1879 zl_1876
 rw [Option.some.inj c1880] at w1879
 have w1879 : WC Z n0 h1879 (psX ps 9 [b1822, b1879]) 11 σ1880 := w1879
 have f_1881 := Exa.ext E1879 f_1851
 have f_1882 := Exa.ext E1879 f_1852
 have f_1883 := Fld.ext E1879 f_1853
 have f_1884 := Fld.ext E1879 f_1854
 have f_1885 := Fld.ext E1879 f_1855
 have f_1886 := Fld.ext E1879 f_1856
 have f_1887 := Fld.ext E1879 f_1857
 have f_1888 := Fld.ext E1879 f_1858
 have f_1889 := Fld.ext E1879 f_1859
 have f_1890 := Fld.ext E1879 f_1860
 have f_1891 := Fld.ext E1879 f_1861
 have f_1892 := Fld.ext E1879 f_1862
 have f_1893 := Fld.ext E1879 f_1863
 have f_1894 := Fld.ext E1879 f_1864
 have f_1895 := Fld.ext E1879 f_1865
 have f_1896 := Fld.ext E1879 f_1866
 have f_1897 := Fld.ext E1879 f_1867
 have f_1898 := Fld.ext E1879 f_1868
 have f_1899 := Fld.ext E1879 f_1869
 have f_1900 := Fld.ext E1879 f_1870
 have f_1901 := Fld.ext E1879 f_1871
 have f_1902 := Fld.ext E1879 f_1872
 have f_1903 := Fld.ext E1879 f_1873
 have f_1904 := Fld.ext E1879 f_1874
 have f_1905 := Exa.ext E1879 f_1875
 have zl_1906 := Nat.le_trans zl_1876 E1879.1
 have k_1907 : Go p.tables e below B0 (sf T1879 m 43 #[rv a1, rv b, iv q1, .val (.int (lenA σ 1)), .val (.int (mxI (1 : Int32) (mnI (lenA σ 1) (1024 : Int32)))), nu] [.ref b1879, .ref a1]) := fun t q => by
  refine k_1877 t ?_
  refine st1879 _ ?_
  show Steps _ _ _ (sf T1879 m 43 #[rv a1, rv b, iv q1, .val (.int (lenA σ 1)), .val (.int (mxI (1 : Int32) (mnI (lenA σ 1) (1024 : Int32)))), nu] [.ref b1879, .ref a1]) _
  exact q
 obtain ⟨T1908, h1908, X1908, e1908, W1908, st1908⟩ := putF X1879 hx hZ hown (host := "") (Or.inl (hw _ (wd 75 rfl))) Via.refl e1879 f_1897 f_1882 (Or.inr ⟨(hw _ (wd 76 rfl)), rfl, hnm⟩) (hw _ (wd 56 rfl)) (ty := (.array .int)) (by decide) rfl rfl (g := (mkF m 43 #[rv a1, rv b, iv q1, .val (.int (lenA σ 1)), .val (.int (mxI (1 : Int32) (mnI (lenA σ 1) (1024 : Int32)))), nu] [.ref b1879, .ref a1])) rfl rfl (hb hby d8_43)
 have N1908 := Fr.snoc X1908 N1850 g0
 have w1908 := w1879.wrO f_1882 (hw _ (wd 56 rfl)) W1908
 have f_1909 := Exa.wr W1908 f_1881
 have f_1910 := Exa.wr W1908 f_1882
 have f_1911 := Fld.other W1908 f_1883 (Or.inl (ne_exa f_1881 f_1882 (by decide)))
 have f_1912 := Fld.other W1908 f_1884 (Or.inl (ne_exa f_1881 f_1882 (by decide)))
 have f_1913 := Fld.other W1908 f_1885 (Or.inl (ne_exa f_1881 f_1882 (by decide)))
 have f_1914 := Fld.other W1908 f_1886 (Or.inl (ne_exa f_1881 f_1882 (by decide)))
 have f_1915 := Fld.other W1908 f_1887 (Or.inl (ne_exa f_1881 f_1882 (by decide)))
 have f_1916 := Fld.other W1908 f_1888 (Or.inl (ne_exa f_1881 f_1882 (by decide)))
 have f_1917 := Fld.other W1908 f_1889 (Or.inl (ne_exa f_1881 f_1882 (by decide)))
 have f_1918 := Fld.other W1908 f_1890 (Or.inl (ne_exa f_1881 f_1882 (by decide)))
 have f_1919 := Fld.other W1908 f_1891 (Or.inl (ne_exa f_1881 f_1882 (by decide)))
 have f_1920 := Fld.other W1908 f_1892 (Or.inl (ne_exa f_1881 f_1882 (by decide)))
 have f_1921 := Fld.other W1908 f_1893 (Or.inl (ne_exa f_1881 f_1882 (by decide)))
 have f_1922 := Fld.other W1908 f_1894 (Or.inr (slot_ne (Or.inr (hw _ (wd 70 rfl))) (Or.inr (hw _ (wd 76 rfl))) (by decide) (t := (.object BLn)) (t' := (.array .int)) (by decide) (by decide)))
 have f_1923 := foia W1908 f_1895 (Or.inr (hw _ (wd 72 rfl))) (Or.inr (hw _ (wd 76 rfl))) (by decide)
 have f_1924 := foaa W1908 f_1896 (Or.inr (hw _ (wd 74 rfl))) (Or.inr (hw _ (wd 76 rfl))) (by decide)
 have f_1925 := Fld.same W1908 f_1897
 have f_1926 := foaa W1908 f_1898 (Or.inl (hw _ (wd 78 rfl))) (Or.inr (hw _ (wd 76 rfl))) (by decide)
 have f_1927 := foaa W1908 f_1899 (Or.inl (hw _ (wd 80 rfl))) (Or.inr (hw _ (wd 76 rfl))) (by decide)
 have f_1928 := foia W1908 f_1900 (Or.inl (hw _ (wd 95 rfl))) (Or.inr (hw _ (wd 76 rfl))) (by decide)
 have f_1929 := foaa W1908 f_1901 (Or.inr (hw _ (wd 82 rfl))) (Or.inr (hw _ (wd 76 rfl))) (by decide)
 have f_1930 := foaa W1908 f_1902 (Or.inl (hw _ (wd 84 rfl))) (Or.inr (hw _ (wd 76 rfl))) (by decide)
 have f_1931 := foaa W1908 f_1903 (Or.inl (hw _ (wd 86 rfl))) (Or.inr (hw _ (wd 76 rfl))) (by decide)
 have f_1932 := foia W1908 f_1904 (Or.inl (hw _ (wd 106 rfl))) (Or.inr (hw _ (wd 76 rfl))) (by decide)
 have f_1933 := Exa.wr W1908 f_1905
 have f_1934 := Exa.wr W1908 XA1879
 have zl_1935 := Nat.le_trans zl_1906 (Nat.le_of_eq (Wr.size W1908).symm)
 have k_1936 : Go p.tables e below B0 (sf T1908 m 51 #[rv a1, rv b, iv q1, .val (.int (lenA σ 1)), .val (.int (mxI (1 : Int32) (mnI (lenA σ 1) (1024 : Int32)))), nu] [(.int ((2 : Int32) * (mxI (1 : Int32) (mnI (lenA σ 1) (1024 : Int32))))), .ref a1]) := fun t q => by
  refine k_1907 t ?_
  refine st1908 _ ?_
  show Steps _ _ _ (sf T1908 m 46 #[rv a1, rv b, iv q1, .val (.int (lenA σ 1)), .val (.int (mxI (1 : Int32) (mnI (lenA σ 1) (1024 : Int32)))), nu] []) _
  refine s_aloadN X1908.here hx (hb hby d8_46) rfl rfl ?_
  refine s_iconst (x := 2) X1908.here hx (hb hby d8_47) rfl ?_
  refine s_iload X1908.here hx (hb hby d8_48) rfl ?_
  refine s_imul X1908.here hx (hb hby d8_50) ?_
  exact q
 obtain ⟨u1937, c1937, hf1937⟩ := Option.bind_eq_some_iff.mp hf1880
 obtain ⟨T1938, h1938, kc1938, X1938, e1938, E1938, A1938, XA1938, st1938⟩ := newPE X1908 hx hZ (hw _ (wd 7 rfl)) e1908 (g := (mkF m 51 #[rv a1, rv b, iv q1, .val (.int (lenA σ 1)), .val (.int (mxI (1 : Int32) (mnI (lenA σ 1) (1024 : Int32)))), nu] [(.int ((2 : Int32) * (mxI (1 : Int32) (mnI (lenA σ 1) (1024 : Int32))))), .ref a1])) rfl (hb hby d8_51) rfl (guardI_spec c1937).1 (cap := 14) (guardI_spec c1937).2 (by decide) (by decide) (by decide) (ad := "[I") (by decide)
 obtain ⟨b1938, g1938⟩ : ∃ z, z = h1908.size := ⟨_, rfl⟩
 rw [← g1938] at A1938 XA1938 st1938
 obtain ⟨σ1939, c1939, hf1939⟩ := Option.bind_eq_some_iff.mp hf1937
 have w1938 := WC.snocX w1908 E1938 (IA.new A1938 (guardI_spec c1937).1) g1938 zl_1935
 rw [Option.some.inj c1939] at w1938
 have w1938 : WC Z n0 h1938 (psX ps 9 [b1822, b1879, b1938]) 12 σ1939 := w1938
 have f_1940 := Exa.ext E1938 f_1909
 have f_1941 := Exa.ext E1938 f_1910
 have f_1942 := Fld.ext E1938 f_1911
 have f_1943 := Fld.ext E1938 f_1912
 have f_1944 := Fld.ext E1938 f_1913
 have f_1945 := Fld.ext E1938 f_1914
 have f_1946 := Fld.ext E1938 f_1915
 have f_1947 := Fld.ext E1938 f_1916
 have f_1948 := Fld.ext E1938 f_1917
 have f_1949 := Fld.ext E1938 f_1918
 have f_1950 := Fld.ext E1938 f_1919
 have f_1951 := Fld.ext E1938 f_1920
 have f_1952 := Fld.ext E1938 f_1921
 have f_1953 := Fld.ext E1938 f_1922
 have f_1954 := Fld.ext E1938 f_1923
 have f_1955 := Fld.ext E1938 f_1924
 have f_1956 := Fld.ext E1938 f_1925
 have f_1957 := Fld.ext E1938 f_1926
 have f_1958 := Fld.ext E1938 f_1927
 have f_1959 := Fld.ext E1938 f_1928
 have f_1960 := Fld.ext E1938 f_1929
 have f_1961 := Fld.ext E1938 f_1930
 have f_1962 := Fld.ext E1938 f_1931
 have f_1963 := Fld.ext E1938 f_1932
 have f_1964 := Exa.ext E1938 f_1933
 have f_1965 := Exa.ext E1938 f_1934
 have zl_1966 := Nat.le_trans zl_1935 E1938.1
 have k_1967 : Go p.tables e below B0 (sf T1938 m 53 #[rv a1, rv b, iv q1, .val (.int (lenA σ 1)), .val (.int (mxI (1 : Int32) (mnI (lenA σ 1) (1024 : Int32)))), nu] [.ref b1938, .ref a1]) := fun t q => by
  refine k_1936 t ?_
  refine st1938 _ ?_
  show Steps _ _ _ (sf T1938 m 53 #[rv a1, rv b, iv q1, .val (.int (lenA σ 1)), .val (.int (mxI (1 : Int32) (mnI (lenA σ 1) (1024 : Int32)))), nu] [.ref b1938, .ref a1]) _
  exact q
 obtain ⟨T1968, h1968, X1968, e1968, W1968, st1968⟩ := putF X1938 hx hZ hown (host := "") (Or.inl (hw _ (wd 77 rfl))) Via.refl e1938 f_1957 f_1941 (Or.inl (hw _ (wd 78 rfl))) (hw _ (wd 56 rfl)) (ty := (.array .int)) (by decide) rfl rfl (g := (mkF m 53 #[rv a1, rv b, iv q1, .val (.int (lenA σ 1)), .val (.int (mxI (1 : Int32) (mnI (lenA σ 1) (1024 : Int32)))), nu] [.ref b1938, .ref a1])) rfl rfl (hb hby d8_53)
 have N1968 := Fr.snoc X1968 N1908 g0
 have w1968 := w1938.wrO f_1941 (hw _ (wd 56 rfl)) W1968
 have f_1969 := Exa.wr W1968 f_1940
 have f_1970 := Exa.wr W1968 f_1941
 have f_1971 := Fld.other W1968 f_1942 (Or.inl (ne_exa f_1940 f_1941 (by decide)))
 have f_1972 := Fld.other W1968 f_1943 (Or.inl (ne_exa f_1940 f_1941 (by decide)))
 have f_1973 := Fld.other W1968 f_1944 (Or.inl (ne_exa f_1940 f_1941 (by decide)))
 have f_1974 := Fld.other W1968 f_1945 (Or.inl (ne_exa f_1940 f_1941 (by decide)))
 have f_1975 := Fld.other W1968 f_1946 (Or.inl (ne_exa f_1940 f_1941 (by decide)))
 have f_1976 := Fld.other W1968 f_1947 (Or.inl (ne_exa f_1940 f_1941 (by decide)))
 have f_1977 := Fld.other W1968 f_1948 (Or.inl (ne_exa f_1940 f_1941 (by decide)))
 have f_1978 := Fld.other W1968 f_1949 (Or.inl (ne_exa f_1940 f_1941 (by decide)))
 have f_1979 := Fld.other W1968 f_1950 (Or.inl (ne_exa f_1940 f_1941 (by decide)))
 have f_1980 := Fld.other W1968 f_1951 (Or.inl (ne_exa f_1940 f_1941 (by decide)))
 have f_1981 := Fld.other W1968 f_1952 (Or.inl (ne_exa f_1940 f_1941 (by decide)))
 have f_1982 := Fld.other W1968 f_1953 (Or.inr (slot_ne (Or.inr (hw _ (wd 70 rfl))) (Or.inl (hw _ (wd 78 rfl))) (by decide) (t := (.object BLn)) (t' := (.array .int)) (by decide) (by decide)))
 have f_1983 := foia W1968 f_1954 (Or.inr (hw _ (wd 72 rfl))) (Or.inl (hw _ (wd 78 rfl))) (by decide)
 have f_1984 := foaa W1968 f_1955 (Or.inr (hw _ (wd 74 rfl))) (Or.inl (hw _ (wd 78 rfl))) (by decide)
 have f_1985 := foaa W1968 f_1956 (Or.inr (hw _ (wd 76 rfl))) (Or.inl (hw _ (wd 78 rfl))) (by decide)
 have f_1986 := Fld.same W1968 f_1957
 have f_1987 := foaa W1968 f_1958 (Or.inl (hw _ (wd 80 rfl))) (Or.inl (hw _ (wd 78 rfl))) (by decide)
 have f_1988 := foia W1968 f_1959 (Or.inl (hw _ (wd 95 rfl))) (Or.inl (hw _ (wd 78 rfl))) (by decide)
 have f_1989 := foaa W1968 f_1960 (Or.inr (hw _ (wd 82 rfl))) (Or.inl (hw _ (wd 78 rfl))) (by decide)
 have f_1990 := foaa W1968 f_1961 (Or.inl (hw _ (wd 84 rfl))) (Or.inl (hw _ (wd 78 rfl))) (by decide)
 have f_1991 := foaa W1968 f_1962 (Or.inl (hw _ (wd 86 rfl))) (Or.inl (hw _ (wd 78 rfl))) (by decide)
 have f_1992 := foia W1968 f_1963 (Or.inl (hw _ (wd 106 rfl))) (Or.inl (hw _ (wd 78 rfl))) (by decide)
 have f_1993 := Exa.wr W1968 f_1964
 have f_1994 := Exa.wr W1968 f_1965
 have f_1995 := Exa.wr W1968 XA1938
 have zl_1996 := Nat.le_trans zl_1966 (Nat.le_of_eq (Wr.size W1968).symm)
 have k_1997 : Go p.tables e below B0 (sf T1968 m 59 #[rv a1, rv b, iv q1, .val (.int (lenA σ 1)), .val (.int (mxI (1 : Int32) (mnI (lenA σ 1) (1024 : Int32)))), nu] [(.int (mxI (1 : Int32) (mnI (lenA σ 1) (1024 : Int32)))), .ref a1]) := fun t q => by
  refine k_1967 t ?_
  refine st1968 _ ?_
  show Steps _ _ _ (sf T1968 m 56 #[rv a1, rv b, iv q1, .val (.int (lenA σ 1)), .val (.int (mxI (1 : Int32) (mnI (lenA σ 1) (1024 : Int32)))), nu] []) _
  refine s_aloadN X1968.here hx (hb hby d8_56) rfl rfl ?_
  refine s_iload X1968.here hx (hb hby d8_57) rfl ?_
  exact q
 obtain ⟨u1998, c1998, hf1998⟩ := Option.bind_eq_some_iff.mp hf1939
 obtain ⟨T1999, h1999, kc1999, X1999, e1999, E1999, A1999, XA1999, st1999⟩ := newPE X1968 hx hZ (hw _ (wd 7 rfl)) e1968 (g := (mkF m 59 #[rv a1, rv b, iv q1, .val (.int (lenA σ 1)), .val (.int (mxI (1 : Int32) (mnI (lenA σ 1) (1024 : Int32)))), nu] [(.int (mxI (1 : Int32) (mnI (lenA σ 1) (1024 : Int32)))), .ref a1])) rfl (hb hby d8_59) rfl (guardI_spec c1998).1 (cap := 7) (guardI_spec c1998).2 (by decide) (by decide) (by decide) (ad := "[I") (by decide)
 obtain ⟨b1999, g1999⟩ : ∃ z, z = h1968.size := ⟨_, rfl⟩
 rw [← g1999] at A1999 XA1999 st1999
 obtain ⟨σ2000, c2000, hf2000⟩ := Option.bind_eq_some_iff.mp hf1998
 have w1999 := WC.snocX w1968 E1999 (IA.new A1999 (guardI_spec c1998).1) g1999 zl_1996
 rw [Option.some.inj c2000] at w1999
 have w1999 : WC Z n0 h1999 (psX ps 9 [b1822, b1879, b1938, b1999]) 13 σ2000 := w1999
 have f_2001 := Exa.ext E1999 f_1969
 have f_2002 := Exa.ext E1999 f_1970
 have f_2003 := Fld.ext E1999 f_1971
 have f_2004 := Fld.ext E1999 f_1972
 have f_2005 := Fld.ext E1999 f_1973
 have f_2006 := Fld.ext E1999 f_1974
 have f_2007 := Fld.ext E1999 f_1975
 have f_2008 := Fld.ext E1999 f_1976
 have f_2009 := Fld.ext E1999 f_1977
 have f_2010 := Fld.ext E1999 f_1978
 have f_2011 := Fld.ext E1999 f_1979
 have f_2012 := Fld.ext E1999 f_1980
 have f_2013 := Fld.ext E1999 f_1981
 have f_2014 := Fld.ext E1999 f_1982
 have f_2015 := Fld.ext E1999 f_1983
 have f_2016 := Fld.ext E1999 f_1984
 have f_2017 := Fld.ext E1999 f_1985
 have f_2018 := Fld.ext E1999 f_1986
 have f_2019 := Fld.ext E1999 f_1987
 have f_2020 := Fld.ext E1999 f_1988
 have f_2021 := Fld.ext E1999 f_1989
 have f_2022 := Fld.ext E1999 f_1990
 have f_2023 := Fld.ext E1999 f_1991
 have f_2024 := Fld.ext E1999 f_1992
 have f_2025 := Exa.ext E1999 f_1993
 have f_2026 := Exa.ext E1999 f_1994
 have f_2027 := Exa.ext E1999 f_1995
 have zl_2028 := Nat.le_trans zl_1996 E1999.1
 have k_2029 : Go p.tables e below B0 (sf T1999 m 61 #[rv a1, rv b, iv q1, .val (.int (lenA σ 1)), .val (.int (mxI (1 : Int32) (mnI (lenA σ 1) (1024 : Int32)))), nu] [.ref b1999, .ref a1]) := fun t q => by
  refine k_1997 t ?_
  refine st1999 _ ?_
  show Steps _ _ _ (sf T1999 m 61 #[rv a1, rv b, iv q1, .val (.int (lenA σ 1)), .val (.int (mxI (1 : Int32) (mnI (lenA σ 1) (1024 : Int32)))), nu] [.ref b1999, .ref a1]) _
  exact q
 obtain ⟨T2030, h2030, X2030, e2030, W2030, st2030⟩ := putF X1999 hx hZ hown (host := "") (Or.inl (hw _ (wd 79 rfl))) Via.refl e1999 f_2019 f_2002 (Or.inl (hw _ (wd 80 rfl))) (hw _ (wd 56 rfl)) (ty := (.array .int)) (by decide) rfl rfl (g := (mkF m 61 #[rv a1, rv b, iv q1, .val (.int (lenA σ 1)), .val (.int (mxI (1 : Int32) (mnI (lenA σ 1) (1024 : Int32)))), nu] [.ref b1999, .ref a1])) rfl rfl (hb hby d8_61)
 have N2030 := Fr.snoc X2030 N1968 g0
 have w2030 := w1999.wrO f_2002 (hw _ (wd 56 rfl)) W2030
 have f_2031 := Exa.wr W2030 f_2001
 have f_2032 := Exa.wr W2030 f_2002
 have f_2033 := Fld.other W2030 f_2003 (Or.inl (ne_exa f_2001 f_2002 (by decide)))
 have f_2034 := Fld.other W2030 f_2004 (Or.inl (ne_exa f_2001 f_2002 (by decide)))
 have f_2035 := Fld.other W2030 f_2005 (Or.inl (ne_exa f_2001 f_2002 (by decide)))
 have f_2036 := Fld.other W2030 f_2006 (Or.inl (ne_exa f_2001 f_2002 (by decide)))
 have f_2037 := Fld.other W2030 f_2007 (Or.inl (ne_exa f_2001 f_2002 (by decide)))
 have f_2038 := Fld.other W2030 f_2008 (Or.inl (ne_exa f_2001 f_2002 (by decide)))
 have f_2039 := Fld.other W2030 f_2009 (Or.inl (ne_exa f_2001 f_2002 (by decide)))
 have f_2040 := Fld.other W2030 f_2010 (Or.inl (ne_exa f_2001 f_2002 (by decide)))
 have f_2041 := Fld.other W2030 f_2011 (Or.inl (ne_exa f_2001 f_2002 (by decide)))
 have f_2042 := Fld.other W2030 f_2012 (Or.inl (ne_exa f_2001 f_2002 (by decide)))
 have f_2043 := Fld.other W2030 f_2013 (Or.inl (ne_exa f_2001 f_2002 (by decide)))
 have f_2044 := Fld.other W2030 f_2014 (Or.inr (slot_ne (Or.inr (hw _ (wd 70 rfl))) (Or.inl (hw _ (wd 80 rfl))) (by decide) (t := (.object BLn)) (t' := (.array .int)) (by decide) (by decide)))
 have f_2045 := foia W2030 f_2015 (Or.inr (hw _ (wd 72 rfl))) (Or.inl (hw _ (wd 80 rfl))) (by decide)
 have f_2046 := foaa W2030 f_2016 (Or.inr (hw _ (wd 74 rfl))) (Or.inl (hw _ (wd 80 rfl))) (by decide)
 have f_2047 := foaa W2030 f_2017 (Or.inr (hw _ (wd 76 rfl))) (Or.inl (hw _ (wd 80 rfl))) (by decide)
 have f_2048 := foaa W2030 f_2018 (Or.inl (hw _ (wd 78 rfl))) (Or.inl (hw _ (wd 80 rfl))) (by decide)
 have f_2049 := Fld.same W2030 f_2019
 have f_2050 := foia W2030 f_2020 (Or.inl (hw _ (wd 95 rfl))) (Or.inl (hw _ (wd 80 rfl))) (by decide)
 have f_2051 := foaa W2030 f_2021 (Or.inr (hw _ (wd 82 rfl))) (Or.inl (hw _ (wd 80 rfl))) (by decide)
 have f_2052 := foaa W2030 f_2022 (Or.inl (hw _ (wd 84 rfl))) (Or.inl (hw _ (wd 80 rfl))) (by decide)
 have f_2053 := foaa W2030 f_2023 (Or.inl (hw _ (wd 86 rfl))) (Or.inl (hw _ (wd 80 rfl))) (by decide)
 have f_2054 := foia W2030 f_2024 (Or.inl (hw _ (wd 106 rfl))) (Or.inl (hw _ (wd 80 rfl))) (by decide)
 have f_2055 := Exa.wr W2030 f_2025
 have f_2056 := Exa.wr W2030 f_2026
 have f_2057 := Exa.wr W2030 f_2027
 have f_2058 := Exa.wr W2030 XA1999
 have zl_2059 := Nat.le_trans zl_2028 (Nat.le_of_eq (Wr.size W2030).symm)
 have k_2060 : Go p.tables e below B0 (sf T2030 m 68 #[rv a1, rv b, iv q1, .val (.int (lenA σ 1)), .val (.int (mxI (1 : Int32) (mnI (lenA σ 1) (1024 : Int32)))), nu] [(.int (q1 + (1 : Int32))), .ref a1]) := fun t q => by
  refine k_2029 t ?_
  refine st2030 _ ?_
  show Steps _ _ _ (sf T2030 m 64 #[rv a1, rv b, iv q1, .val (.int (lenA σ 1)), .val (.int (mxI (1 : Int32) (mnI (lenA σ 1) (1024 : Int32)))), nu] []) _
  refine s_aloadN X2030.here hx (hb hby d8_64) rfl rfl ?_
  refine s_iloadN X2030.here hx (hb hby d8_65) rfl ?_
  refine s_iconst (x := 1) X2030.here hx (hb hby d8_66) rfl ?_
  refine s_iadd X2030.here hx (hb hby d8_67) ?_
  exact q
 obtain ⟨u2061, c2061, hf2061⟩ := Option.bind_eq_some_iff.mp hf2000
 obtain ⟨T2062, h2062, kc2062, X2062, e2062, E2062, A2062, XA2062, st2062⟩ := newPE X2030 hx hZ (hw _ (wd 7 rfl)) e2030 (g := (mkF m 68 #[rv a1, rv b, iv q1, .val (.int (lenA σ 1)), .val (.int (mxI (1 : Int32) (mnI (lenA σ 1) (1024 : Int32)))), nu] [(.int (q1 + (1 : Int32))), .ref a1])) rfl (hb hby d8_68) rfl (guardI_spec c2061).1 (cap := 8) (guardI_spec c2061).2 (by decide) (by decide) (by decide) (ad := "[I") (by decide)
 obtain ⟨b2062, g2062⟩ : ∃ z, z = h2030.size := ⟨_, rfl⟩
 rw [← g2062] at A2062 XA2062 st2062
 obtain ⟨σ2063, c2063, hf2063⟩ := Option.bind_eq_some_iff.mp hf2061
 have w2062 := WC.snocX w2030 E2062 (IA.new A2062 (guardI_spec c2061).1) g2062 zl_2059
 rw [Option.some.inj c2063] at w2062
 have w2062 : WC Z n0 h2062 (psX ps 9 [b1822, b1879, b1938, b1999, b2062]) 14 σ2063 := w2062
 have f_2064 := Exa.ext E2062 f_2031
 have f_2065 := Exa.ext E2062 f_2032
 have f_2066 := Fld.ext E2062 f_2033
 have f_2067 := Fld.ext E2062 f_2034
 have f_2068 := Fld.ext E2062 f_2035
 have f_2069 := Fld.ext E2062 f_2036
 have f_2070 := Fld.ext E2062 f_2037
 have f_2071 := Fld.ext E2062 f_2038
 have f_2072 := Fld.ext E2062 f_2039
 have f_2073 := Fld.ext E2062 f_2040
 have f_2074 := Fld.ext E2062 f_2041
 have f_2075 := Fld.ext E2062 f_2042
 have f_2076 := Fld.ext E2062 f_2043
 have f_2077 := Fld.ext E2062 f_2044
 have f_2078 := Fld.ext E2062 f_2045
 have f_2079 := Fld.ext E2062 f_2046
 have f_2080 := Fld.ext E2062 f_2047
 have f_2081 := Fld.ext E2062 f_2048
 have f_2082 := Fld.ext E2062 f_2049
 have f_2083 := Fld.ext E2062 f_2050
 have f_2084 := Fld.ext E2062 f_2051
 have f_2085 := Fld.ext E2062 f_2052
 have f_2086 := Fld.ext E2062 f_2053
 have f_2087 := Fld.ext E2062 f_2054
 have f_2088 := Exa.ext E2062 f_2055
 have f_2089 := Exa.ext E2062 f_2056
 have f_2090 := Exa.ext E2062 f_2057
 have f_2091 := Exa.ext E2062 f_2058
 have zl_2092 := Nat.le_trans zl_2059 E2062.1
 have k_2093 : Go p.tables e below B0 (sf T2062 m 70 #[rv a1, rv b, iv q1, .val (.int (lenA σ 1)), .val (.int (mxI (1 : Int32) (mnI (lenA σ 1) (1024 : Int32)))), nu] [.ref b2062, .ref a1]) := fun t q => by
  refine k_2060 t ?_
  refine st2062 _ ?_
  show Steps _ _ _ (sf T2062 m 70 #[rv a1, rv b, iv q1, .val (.int (lenA σ 1)), .val (.int (mxI (1 : Int32) (mnI (lenA σ 1) (1024 : Int32)))), nu] [.ref b2062, .ref a1]) _
  exact q
 obtain ⟨T2094, h2094, X2094, e2094, W2094, st2094⟩ := putF X2062 hx hZ hown (host := "") (Or.inl (hw _ (wd 81 rfl))) Via.refl e2062 f_2084 f_2065 (Or.inr ⟨(hw _ (wd 82 rfl)), rfl, hnm⟩) (hw _ (wd 56 rfl)) (ty := (.array .int)) (by decide) rfl rfl (g := (mkF m 70 #[rv a1, rv b, iv q1, .val (.int (lenA σ 1)), .val (.int (mxI (1 : Int32) (mnI (lenA σ 1) (1024 : Int32)))), nu] [.ref b2062, .ref a1])) rfl rfl (hb hby d8_70)
 have N2094 := Fr.snoc X2094 N2030 g0
 have w2094 := w2062.wrO f_2065 (hw _ (wd 56 rfl)) W2094
 have f_2095 := Exa.wr W2094 f_2064
 have f_2096 := Exa.wr W2094 f_2065
 have f_2097 := Fld.other W2094 f_2066 (Or.inl (ne_exa f_2064 f_2065 (by decide)))
 have f_2098 := Fld.other W2094 f_2067 (Or.inl (ne_exa f_2064 f_2065 (by decide)))
 have f_2099 := Fld.other W2094 f_2068 (Or.inl (ne_exa f_2064 f_2065 (by decide)))
 have f_2100 := Fld.other W2094 f_2069 (Or.inl (ne_exa f_2064 f_2065 (by decide)))
 have f_2101 := Fld.other W2094 f_2070 (Or.inl (ne_exa f_2064 f_2065 (by decide)))
 have f_2102 := Fld.other W2094 f_2071 (Or.inl (ne_exa f_2064 f_2065 (by decide)))
 have f_2103 := Fld.other W2094 f_2072 (Or.inl (ne_exa f_2064 f_2065 (by decide)))
 have f_2104 := Fld.other W2094 f_2073 (Or.inl (ne_exa f_2064 f_2065 (by decide)))
 have f_2105 := Fld.other W2094 f_2074 (Or.inl (ne_exa f_2064 f_2065 (by decide)))
 have f_2106 := Fld.other W2094 f_2075 (Or.inl (ne_exa f_2064 f_2065 (by decide)))
 have f_2107 := Fld.other W2094 f_2076 (Or.inl (ne_exa f_2064 f_2065 (by decide)))
 have f_2108 := Fld.other W2094 f_2077 (Or.inr (slot_ne (Or.inr (hw _ (wd 70 rfl))) (Or.inr (hw _ (wd 82 rfl))) (by decide) (t := (.object BLn)) (t' := (.array .int)) (by decide) (by decide)))
 have f_2109 := foia W2094 f_2078 (Or.inr (hw _ (wd 72 rfl))) (Or.inr (hw _ (wd 82 rfl))) (by decide)
 have f_2110 := foaa W2094 f_2079 (Or.inr (hw _ (wd 74 rfl))) (Or.inr (hw _ (wd 82 rfl))) (by decide)
 have f_2111 := foaa W2094 f_2080 (Or.inr (hw _ (wd 76 rfl))) (Or.inr (hw _ (wd 82 rfl))) (by decide)
 have f_2112 := foaa W2094 f_2081 (Or.inl (hw _ (wd 78 rfl))) (Or.inr (hw _ (wd 82 rfl))) (by decide)
 have f_2113 := foaa W2094 f_2082 (Or.inl (hw _ (wd 80 rfl))) (Or.inr (hw _ (wd 82 rfl))) (by decide)
 have f_2114 := foia W2094 f_2083 (Or.inl (hw _ (wd 95 rfl))) (Or.inr (hw _ (wd 82 rfl))) (by decide)
 have f_2115 := Fld.same W2094 f_2084
 have f_2116 := foaa W2094 f_2085 (Or.inl (hw _ (wd 84 rfl))) (Or.inr (hw _ (wd 82 rfl))) (by decide)
 have f_2117 := foaa W2094 f_2086 (Or.inl (hw _ (wd 86 rfl))) (Or.inr (hw _ (wd 82 rfl))) (by decide)
 have f_2118 := foia W2094 f_2087 (Or.inl (hw _ (wd 106 rfl))) (Or.inr (hw _ (wd 82 rfl))) (by decide)
 have f_2119 := Exa.wr W2094 f_2088
 have f_2120 := Exa.wr W2094 f_2089
 have f_2121 := Exa.wr W2094 f_2090
 have f_2122 := Exa.wr W2094 f_2091
 have f_2123 := Exa.wr W2094 XA2062
 have zl_2124 := Nat.le_trans zl_2092 (Nat.le_of_eq (Wr.size W2094).symm)
 have k_2125 : Go p.tables e below B0 (sf T2094 m 76 #[rv a1, rv b, iv q1, .val (.int (lenA σ 1)), .val (.int (mxI (1 : Int32) (mnI (lenA σ 1) (1024 : Int32)))), nu] [(.int (mxI (1 : Int32) (mnI (lenA σ 1) (1024 : Int32)))), .ref a1]) := fun t q => by
  refine k_2093 t ?_
  refine st2094 _ ?_
  show Steps _ _ _ (sf T2094 m 73 #[rv a1, rv b, iv q1, .val (.int (lenA σ 1)), .val (.int (mxI (1 : Int32) (mnI (lenA σ 1) (1024 : Int32)))), nu] []) _
  refine s_aloadN X2094.here hx (hb hby d8_73) rfl rfl ?_
  refine s_iload X2094.here hx (hb hby d8_74) rfl ?_
  exact q
 obtain ⟨u2126, c2126, hf2126⟩ := Option.bind_eq_some_iff.mp hf2063
 obtain ⟨T2127, h2127, kc2127, X2127, e2127, E2127, A2127, XA2127, st2127⟩ := newPE X2094 hx hZ (hw _ (wd 7 rfl)) e2094 (g := (mkF m 76 #[rv a1, rv b, iv q1, .val (.int (lenA σ 1)), .val (.int (mxI (1 : Int32) (mnI (lenA σ 1) (1024 : Int32)))), nu] [(.int (mxI (1 : Int32) (mnI (lenA σ 1) (1024 : Int32)))), .ref a1])) rfl (hb hby d8_76) rfl (guardI_spec c2126).1 (cap := 7) (guardI_spec c2126).2 (by decide) (by decide) (by decide) (ad := "[I") (by decide)
 obtain ⟨b2127, g2127⟩ : ∃ z, z = h2094.size := ⟨_, rfl⟩
 rw [← g2127] at A2127 XA2127 st2127
 obtain ⟨σ2128, c2128, hf2128⟩ := Option.bind_eq_some_iff.mp hf2126
 have w2127 := WC.snocX w2094 E2127 (IA.new A2127 (guardI_spec c2126).1) g2127 zl_2124
 rw [Option.some.inj c2128] at w2127
 have w2127 : WC Z n0 h2127 (psX ps 9 [b1822, b1879, b1938, b1999, b2062, b2127]) 15 σ2128 := w2127
 have f_2129 := Exa.ext E2127 f_2095
 have f_2130 := Exa.ext E2127 f_2096
 have f_2131 := Fld.ext E2127 f_2097
 have f_2132 := Fld.ext E2127 f_2098
 have f_2133 := Fld.ext E2127 f_2099
 have f_2134 := Fld.ext E2127 f_2100
 have f_2135 := Fld.ext E2127 f_2101
 have f_2136 := Fld.ext E2127 f_2102
 have f_2137 := Fld.ext E2127 f_2103
 have f_2138 := Fld.ext E2127 f_2104
 have f_2139 := Fld.ext E2127 f_2105
 have f_2140 := Fld.ext E2127 f_2106
 have f_2141 := Fld.ext E2127 f_2107
 have f_2142 := Fld.ext E2127 f_2108
 have f_2143 := Fld.ext E2127 f_2109
 have f_2144 := Fld.ext E2127 f_2110
 have f_2145 := Fld.ext E2127 f_2111
 have f_2146 := Fld.ext E2127 f_2112
 have f_2147 := Fld.ext E2127 f_2113
 have f_2148 := Fld.ext E2127 f_2114
 have f_2149 := Fld.ext E2127 f_2115
 have f_2150 := Fld.ext E2127 f_2116
 have f_2151 := Fld.ext E2127 f_2117
 have f_2152 := Fld.ext E2127 f_2118
 have f_2153 := Exa.ext E2127 f_2119
 have f_2154 := Exa.ext E2127 f_2120
 have f_2155 := Exa.ext E2127 f_2121
 have f_2156 := Exa.ext E2127 f_2122
 have f_2157 := Exa.ext E2127 f_2123
 have zl_2158 := Nat.le_trans zl_2124 E2127.1
 have k_2159 : Go p.tables e below B0 (sf T2127 m 78 #[rv a1, rv b, iv q1, .val (.int (lenA σ 1)), .val (.int (mxI (1 : Int32) (mnI (lenA σ 1) (1024 : Int32)))), nu] [.ref b2127, .ref a1]) := fun t q => by
  refine k_2125 t ?_
  refine st2127 _ ?_
  show Steps _ _ _ (sf T2127 m 78 #[rv a1, rv b, iv q1, .val (.int (lenA σ 1)), .val (.int (mxI (1 : Int32) (mnI (lenA σ 1) (1024 : Int32)))), nu] [.ref b2127, .ref a1]) _
  exact q
 obtain ⟨T2160, h2160, X2160, e2160, W2160, st2160⟩ := putF X2127 hx hZ hown (host := "") (Or.inl (hw _ (wd 83 rfl))) Via.refl e2127 f_2150 f_2130 (Or.inl (hw _ (wd 84 rfl))) (hw _ (wd 56 rfl)) (ty := (.array .int)) (by decide) rfl rfl (g := (mkF m 78 #[rv a1, rv b, iv q1, .val (.int (lenA σ 1)), .val (.int (mxI (1 : Int32) (mnI (lenA σ 1) (1024 : Int32)))), nu] [.ref b2127, .ref a1])) rfl rfl (hb hby d8_78)
 have N2160 := Fr.snoc X2160 N2094 g0
 have w2160 := w2127.wrO f_2130 (hw _ (wd 56 rfl)) W2160
 have f_2161 := Exa.wr W2160 f_2129
 have f_2162 := Exa.wr W2160 f_2130
 have f_2163 := Fld.other W2160 f_2131 (Or.inl (ne_exa f_2129 f_2130 (by decide)))
 have f_2164 := Fld.other W2160 f_2132 (Or.inl (ne_exa f_2129 f_2130 (by decide)))
 have f_2165 := Fld.other W2160 f_2133 (Or.inl (ne_exa f_2129 f_2130 (by decide)))
 have f_2166 := Fld.other W2160 f_2134 (Or.inl (ne_exa f_2129 f_2130 (by decide)))
 have f_2167 := Fld.other W2160 f_2135 (Or.inl (ne_exa f_2129 f_2130 (by decide)))
 have f_2168 := Fld.other W2160 f_2136 (Or.inl (ne_exa f_2129 f_2130 (by decide)))
 have f_2169 := Fld.other W2160 f_2137 (Or.inl (ne_exa f_2129 f_2130 (by decide)))
 have f_2170 := Fld.other W2160 f_2138 (Or.inl (ne_exa f_2129 f_2130 (by decide)))
 have f_2171 := Fld.other W2160 f_2139 (Or.inl (ne_exa f_2129 f_2130 (by decide)))
 have f_2172 := Fld.other W2160 f_2140 (Or.inl (ne_exa f_2129 f_2130 (by decide)))
 have f_2173 := Fld.other W2160 f_2141 (Or.inl (ne_exa f_2129 f_2130 (by decide)))
 have f_2174 := Fld.other W2160 f_2142 (Or.inr (slot_ne (Or.inr (hw _ (wd 70 rfl))) (Or.inl (hw _ (wd 84 rfl))) (by decide) (t := (.object BLn)) (t' := (.array .int)) (by decide) (by decide)))
 have f_2175 := foia W2160 f_2143 (Or.inr (hw _ (wd 72 rfl))) (Or.inl (hw _ (wd 84 rfl))) (by decide)
 have f_2176 := foaa W2160 f_2144 (Or.inr (hw _ (wd 74 rfl))) (Or.inl (hw _ (wd 84 rfl))) (by decide)
 have f_2177 := foaa W2160 f_2145 (Or.inr (hw _ (wd 76 rfl))) (Or.inl (hw _ (wd 84 rfl))) (by decide)
 have f_2178 := foaa W2160 f_2146 (Or.inl (hw _ (wd 78 rfl))) (Or.inl (hw _ (wd 84 rfl))) (by decide)
 have f_2179 := foaa W2160 f_2147 (Or.inl (hw _ (wd 80 rfl))) (Or.inl (hw _ (wd 84 rfl))) (by decide)
 have f_2180 := foia W2160 f_2148 (Or.inl (hw _ (wd 95 rfl))) (Or.inl (hw _ (wd 84 rfl))) (by decide)
 have f_2181 := foaa W2160 f_2149 (Or.inr (hw _ (wd 82 rfl))) (Or.inl (hw _ (wd 84 rfl))) (by decide)
 have f_2182 := Fld.same W2160 f_2150
 have f_2183 := foaa W2160 f_2151 (Or.inl (hw _ (wd 86 rfl))) (Or.inl (hw _ (wd 84 rfl))) (by decide)
 have f_2184 := foia W2160 f_2152 (Or.inl (hw _ (wd 106 rfl))) (Or.inl (hw _ (wd 84 rfl))) (by decide)
 have f_2185 := Exa.wr W2160 f_2153
 have f_2186 := Exa.wr W2160 f_2154
 have f_2187 := Exa.wr W2160 f_2155
 have f_2188 := Exa.wr W2160 f_2156
 have f_2189 := Exa.wr W2160 f_2157
 have f_2190 := Exa.wr W2160 XA2127
 have zl_2191 := Nat.le_trans zl_2158 (Nat.le_of_eq (Wr.size W2160).symm)
 have k_2192 : Go p.tables e below B0 (sf T2160 m 84 #[rv a1, rv b, iv q1, .val (.int (lenA σ 1)), .val (.int (mxI (1 : Int32) (mnI (lenA σ 1) (1024 : Int32)))), nu] [(.int (mxI (1 : Int32) (mnI (lenA σ 1) (1024 : Int32)))), .ref a1]) := fun t q => by
  refine k_2159 t ?_
  refine st2160 _ ?_
  show Steps _ _ _ (sf T2160 m 81 #[rv a1, rv b, iv q1, .val (.int (lenA σ 1)), .val (.int (mxI (1 : Int32) (mnI (lenA σ 1) (1024 : Int32)))), nu] []) _
  refine s_aloadN X2160.here hx (hb hby d8_81) rfl rfl ?_
  refine s_iload X2160.here hx (hb hby d8_82) rfl ?_
  exact q
 obtain ⟨u2193, c2193, hf2193⟩ := Option.bind_eq_some_iff.mp hf2128
 obtain ⟨T2194, h2194, kc2194, X2194, e2194, E2194, A2194, XA2194, st2194⟩ := newPE X2160 hx hZ (hw _ (wd 7 rfl)) e2160 (g := (mkF m 84 #[rv a1, rv b, iv q1, .val (.int (lenA σ 1)), .val (.int (mxI (1 : Int32) (mnI (lenA σ 1) (1024 : Int32)))), nu] [(.int (mxI (1 : Int32) (mnI (lenA σ 1) (1024 : Int32)))), .ref a1])) rfl (hb hby d8_84) rfl (guardI_spec c2193).1 (cap := 7) (guardI_spec c2193).2 (by decide) (by decide) (by decide) (ad := "[I") (by decide)
 obtain ⟨b2194, g2194⟩ : ∃ z, z = h2160.size := ⟨_, rfl⟩
 rw [← g2194] at A2194 XA2194 st2194
 obtain ⟨σ2195, c2195, hf2195⟩ := Option.bind_eq_some_iff.mp hf2193
 have w2194 := WC.snocX w2160 E2194 (IA.new A2194 (guardI_spec c2193).1) g2194 zl_2191
 rw [Option.some.inj c2195] at w2194
 have w2194 : WC Z n0 h2194 (psX ps 9 [b1822, b1879, b1938, b1999, b2062, b2127, b2194]) 16 σ2195 := w2194
 have f_2196 := Exa.ext E2194 f_2161
 have f_2197 := Exa.ext E2194 f_2162
 have f_2198 := Fld.ext E2194 f_2163
 have f_2199 := Fld.ext E2194 f_2164
 have f_2200 := Fld.ext E2194 f_2165
 have f_2201 := Fld.ext E2194 f_2166
 have f_2202 := Fld.ext E2194 f_2167
 have f_2203 := Fld.ext E2194 f_2168
 have f_2204 := Fld.ext E2194 f_2169
 have f_2205 := Fld.ext E2194 f_2170
 have f_2206 := Fld.ext E2194 f_2171
 have f_2207 := Fld.ext E2194 f_2172
 have f_2208 := Fld.ext E2194 f_2173
 have f_2209 := Fld.ext E2194 f_2174
 have f_2210 := Fld.ext E2194 f_2175
 have f_2211 := Fld.ext E2194 f_2176
 have f_2212 := Fld.ext E2194 f_2177
 have f_2213 := Fld.ext E2194 f_2178
 have f_2214 := Fld.ext E2194 f_2179
 have f_2215 := Fld.ext E2194 f_2180
 have f_2216 := Fld.ext E2194 f_2181
 have f_2217 := Fld.ext E2194 f_2182
 have f_2218 := Fld.ext E2194 f_2183
 have f_2219 := Fld.ext E2194 f_2184
 have f_2220 := Exa.ext E2194 f_2185
 have f_2221 := Exa.ext E2194 f_2186
 have f_2222 := Exa.ext E2194 f_2187
 have f_2223 := Exa.ext E2194 f_2188
 have f_2224 := Exa.ext E2194 f_2189
 have f_2225 := Exa.ext E2194 f_2190
 have zl_2226 := Nat.le_trans zl_2191 E2194.1
 have k_2227 : Go p.tables e below B0 (sf T2194 m 86 #[rv a1, rv b, iv q1, .val (.int (lenA σ 1)), .val (.int (mxI (1 : Int32) (mnI (lenA σ 1) (1024 : Int32)))), nu] [.ref b2194, .ref a1]) := fun t q => by
  refine k_2192 t ?_
  refine st2194 _ ?_
  show Steps _ _ _ (sf T2194 m 86 #[rv a1, rv b, iv q1, .val (.int (lenA σ 1)), .val (.int (mxI (1 : Int32) (mnI (lenA σ 1) (1024 : Int32)))), nu] [.ref b2194, .ref a1]) _
  exact q
 obtain ⟨T2228, h2228, X2228, e2228, W2228, st2228⟩ := putF X2194 hx hZ hown (host := "") (Or.inl (hw _ (wd 85 rfl))) Via.refl e2194 f_2218 f_2197 (Or.inl (hw _ (wd 86 rfl))) (hw _ (wd 56 rfl)) (ty := (.array .int)) (by decide) rfl rfl (g := (mkF m 86 #[rv a1, rv b, iv q1, .val (.int (lenA σ 1)), .val (.int (mxI (1 : Int32) (mnI (lenA σ 1) (1024 : Int32)))), nu] [.ref b2194, .ref a1])) rfl rfl (hb hby d8_86)
 have N2228 := Fr.snoc X2228 N2160 g0
 have w2228 := w2194.wrO f_2197 (hw _ (wd 56 rfl)) W2228
 have f_2229 := Exa.wr W2228 f_2196
 have f_2230 := Exa.wr W2228 f_2197
 have f_2231 := Fld.other W2228 f_2198 (Or.inl (ne_exa f_2196 f_2197 (by decide)))
 have f_2232 := Fld.other W2228 f_2199 (Or.inl (ne_exa f_2196 f_2197 (by decide)))
 have f_2233 := Fld.other W2228 f_2200 (Or.inl (ne_exa f_2196 f_2197 (by decide)))
 have f_2234 := Fld.other W2228 f_2201 (Or.inl (ne_exa f_2196 f_2197 (by decide)))
 have f_2235 := Fld.other W2228 f_2202 (Or.inl (ne_exa f_2196 f_2197 (by decide)))
 have f_2236 := Fld.other W2228 f_2203 (Or.inl (ne_exa f_2196 f_2197 (by decide)))
 have f_2237 := Fld.other W2228 f_2204 (Or.inl (ne_exa f_2196 f_2197 (by decide)))
 have f_2238 := Fld.other W2228 f_2205 (Or.inl (ne_exa f_2196 f_2197 (by decide)))
 have f_2239 := Fld.other W2228 f_2206 (Or.inl (ne_exa f_2196 f_2197 (by decide)))
 have f_2240 := Fld.other W2228 f_2207 (Or.inl (ne_exa f_2196 f_2197 (by decide)))
 have f_2241 := Fld.other W2228 f_2208 (Or.inl (ne_exa f_2196 f_2197 (by decide)))
 have f_2242 := Fld.other W2228 f_2209 (Or.inr (slot_ne (Or.inr (hw _ (wd 70 rfl))) (Or.inl (hw _ (wd 86 rfl))) (by decide) (t := (.object BLn)) (t' := (.array .int)) (by decide) (by decide)))
 have f_2243 := foia W2228 f_2210 (Or.inr (hw _ (wd 72 rfl))) (Or.inl (hw _ (wd 86 rfl))) (by decide)
 have f_2244 := foaa W2228 f_2211 (Or.inr (hw _ (wd 74 rfl))) (Or.inl (hw _ (wd 86 rfl))) (by decide)
 have f_2245 := foaa W2228 f_2212 (Or.inr (hw _ (wd 76 rfl))) (Or.inl (hw _ (wd 86 rfl))) (by decide)
 have f_2246 := foaa W2228 f_2213 (Or.inl (hw _ (wd 78 rfl))) (Or.inl (hw _ (wd 86 rfl))) (by decide)
 have f_2247 := foaa W2228 f_2214 (Or.inl (hw _ (wd 80 rfl))) (Or.inl (hw _ (wd 86 rfl))) (by decide)
 have f_2248 := foia W2228 f_2215 (Or.inl (hw _ (wd 95 rfl))) (Or.inl (hw _ (wd 86 rfl))) (by decide)
 have f_2249 := foaa W2228 f_2216 (Or.inr (hw _ (wd 82 rfl))) (Or.inl (hw _ (wd 86 rfl))) (by decide)
 have f_2250 := foaa W2228 f_2217 (Or.inl (hw _ (wd 84 rfl))) (Or.inl (hw _ (wd 86 rfl))) (by decide)
 have f_2251 := Fld.same W2228 f_2218
 have f_2252 := foia W2228 f_2219 (Or.inl (hw _ (wd 106 rfl))) (Or.inl (hw _ (wd 86 rfl))) (by decide)
 have f_2253 := Exa.wr W2228 f_2220
 have f_2254 := Exa.wr W2228 f_2221
 have f_2255 := Exa.wr W2228 f_2222
 have f_2256 := Exa.wr W2228 f_2223
 have f_2257 := Exa.wr W2228 f_2224
 have f_2258 := Exa.wr W2228 f_2225
 have f_2259 := Exa.wr W2228 XA2194
 have zl_2260 := Nat.le_trans zl_2226 (Nat.le_of_eq (Wr.size W2228).symm)
 have k_2261 : Go p.tables e below B0 (sf T2228 m 90 #[rv a1, rv b, iv q1, .val (.int (lenA σ 1)), .val (.int (mxI (1 : Int32) (mnI (lenA σ 1) (1024 : Int32)))), nu] [.ref a1]) := fun t q => by
  refine k_2227 t ?_
  refine st2228 _ ?_
  show Steps _ _ _ (sf T2228 m 89 #[rv a1, rv b, iv q1, .val (.int (lenA σ 1)), .val (.int (mxI (1 : Int32) (mnI (lenA σ 1) (1024 : Int32)))), nu] []) _
  refine s_aloadN X2228.here hx (hb hby d8_89) rfl rfl ?_
  exact q
 obtain ⟨T2262, X2262, e2262, st2262⟩ := getF X2228 hx hZ hown (host := "") (Or.inl (hw _ (wd 77 rfl))) Via.refl e2228 f_2246 (g := (mkF m 90 #[rv a1, rv b, iv q1, .val (.int (lenA σ 1)), .val (.int (mxI (1 : Int32) (mnI (lenA σ 1) (1024 : Int32)))), nu] [.ref a1])) rfl rfl (hb hby d8_90)
 have k_2263 : Go p.tables e below B0 (sf T2262 m 94 #[rv a1, rv b, iv q1, .val (.int (lenA σ 1)), .val (.int (mxI (1 : Int32) (mnI (lenA σ 1) (1024 : Int32)))), nu] [(.int (-1 : Int32)), .ref b1938]) := fun t q => by
  refine k_2261 t ?_
  refine st2262 _ ?_
  show Steps _ _ _ (sf T2262 m 93 #[rv a1, rv b, iv q1, .val (.int (lenA σ 1)), .val (.int (mxI (1 : Int32) (mnI (lenA σ 1) (1024 : Int32)))), nu] [.ref b1938]) _
  refine s_iconst (x := -1) X2262.here hx (hb hby d8_93) rfl ?_
  exact q
 obtain ⟨z2264, c2264, hf2264⟩ := Option.bind_eq_some_iff.mp hf2195
 obtain ⟨_, _, ⟨T2265, L2265, k2265, n2265⟩, -, X2265, ⟨Lc2265, hQ2265, l2265, y2265, z2265⟩, st2265⟩ := Jvm.LawKit.callS X2262 hx (y := y_21) hown (mvT hZ (hw _ (wd 87 rfl))) (mvT hZ (hw _ (wd 88 rfl))) (mvT hZ (hw _ (wd 23 rfl))) (mvT hZ (hw _ (wd 89 rfl))) (by decide) (backOf (W := 0) (fFill2_ok l Z a0 hw [] b1938 ([arr σ2195 11], []) (-1 : Int32) h2228 n0 zl_2260 (WC.one (i := 11) w2228 (by decide)) z2264 c2264) hZ (hw _ (wd 89 rfl)) (hw _ (wd 23 rfl)) (by decide) (by decide)) (g := (mkF m 94 #[rv a1, rv b, iv q1, .val (.int (lenA σ 1)), .val (.int (mxI (1 : Int32) (mnI (lenA σ 1) (1024 : Int32)))), nu] [(.int (-1 : Int32)), .ref b1938])) rfl (by rw [hml]; rfl) (argsL := [.ref b1938, (.int (-1 : Int32))]) (rest := []) (lenOf pd_10 rfl) rfl (by show 2 * 0 + _ ≤ _; exact Nat.le_of_eq rfl) (hb hby d8_94) (fun _ _ => ⟨rfl, e2262, (by decide : 7 + 0 ≤ _), (by decide : 57 + 0 ≤ _)⟩)
 dsimp only [Pt.U, Pt.locs, Pt.cells, Pt.slots] at X2265 l2265 y2265 z2265 st2265 hQ2265
 subst l2265 y2265 z2265
 obtain ⟨rfl, N2265q, K2265, V2265⟩ := hQ2265
 have N2265 := Fr.app N2228 N2265q
 obtain ⟨σ2266, c2266, hf2266⟩ := Option.bind_eq_some_iff.mp hf2264
 have w2265 := WC.keep (i := 11) w2228 (by decide) K2265 V2265
 rw [Option.some.inj c2266] at w2265
 obtain ⟨cq2265, Aq2265', -, -⟩ := w2228.at (i := 11) (by decide)
 have Aq2265 : Arr Z h2228 b1938 cq2265 .int := Aq2265'
 have f_2267 := Exa.keep f_2229 K2265
 have f_2268 := Exa.keep f_2230 K2265
 have f_2269 := Fld.keep f_2231 K2265 (ninS (ne_arr f_2229 (hw _ (wd 2 rfl)) Aq2265) nin0)
 have f_2270 := Fld.keep f_2232 K2265 (ninS (ne_arr f_2229 (hw _ (wd 2 rfl)) Aq2265) nin0)
 have f_2271 := Fld.keep f_2233 K2265 (ninS (ne_arr f_2229 (hw _ (wd 2 rfl)) Aq2265) nin0)
 have f_2272 := Fld.keep f_2234 K2265 (ninS (ne_arr f_2229 (hw _ (wd 2 rfl)) Aq2265) nin0)
 have f_2273 := Fld.keep f_2235 K2265 (ninS (ne_arr f_2229 (hw _ (wd 2 rfl)) Aq2265) nin0)
 have f_2274 := Fld.keep f_2236 K2265 (ninS (ne_arr f_2229 (hw _ (wd 2 rfl)) Aq2265) nin0)
 have f_2275 := Fld.keep f_2237 K2265 (ninS (ne_arr f_2229 (hw _ (wd 2 rfl)) Aq2265) nin0)
 have f_2276 := Fld.keep f_2238 K2265 (ninS (ne_arr f_2229 (hw _ (wd 2 rfl)) Aq2265) nin0)
 have f_2277 := Fld.keep f_2239 K2265 (ninS (ne_arr f_2229 (hw _ (wd 2 rfl)) Aq2265) nin0)
 have f_2278 := Fld.keep f_2240 K2265 (ninS (ne_arr f_2229 (hw _ (wd 2 rfl)) Aq2265) nin0)
 have f_2279 := Fld.keep f_2241 K2265 (ninS (ne_arr f_2229 (hw _ (wd 2 rfl)) Aq2265) nin0)
 have f_2280 := Fld.keep f_2242 K2265 (ninS (ne_arr f_2230 (hw _ (wd 56 rfl)) Aq2265) nin0)
 have f_2281 := Fld.keep f_2243 K2265 (ninS (ne_arr f_2230 (hw _ (wd 56 rfl)) Aq2265) nin0)
 have f_2282 := Fld.keep f_2244 K2265 (ninS (ne_arr f_2230 (hw _ (wd 56 rfl)) Aq2265) nin0)
 have f_2283 := Fld.keep f_2245 K2265 (ninS (ne_arr f_2230 (hw _ (wd 56 rfl)) Aq2265) nin0)
 have f_2284 := Fld.keep f_2246 K2265 (ninS (ne_arr f_2230 (hw _ (wd 56 rfl)) Aq2265) nin0)
 have f_2285 := Fld.keep f_2247 K2265 (ninS (ne_arr f_2230 (hw _ (wd 56 rfl)) Aq2265) nin0)
 have f_2286 := Fld.keep f_2248 K2265 (ninS (ne_arr f_2230 (hw _ (wd 56 rfl)) Aq2265) nin0)
 have f_2287 := Fld.keep f_2249 K2265 (ninS (ne_arr f_2230 (hw _ (wd 56 rfl)) Aq2265) nin0)
 have f_2288 := Fld.keep f_2250 K2265 (ninS (ne_arr f_2230 (hw _ (wd 56 rfl)) Aq2265) nin0)
 have f_2289 := Fld.keep f_2251 K2265 (ninS (ne_arr f_2230 (hw _ (wd 56 rfl)) Aq2265) nin0)
 have f_2290 := Fld.keep f_2252 K2265 (ninS (ne_arr f_2230 (hw _ (wd 56 rfl)) Aq2265) nin0)
 have f_2291 := Exa.keep f_2253 K2265
 have f_2292 := Exa.keep f_2254 K2265
 have f_2293 := Exa.keep f_2255 K2265
 have f_2294 := Exa.keep f_2256 K2265
 have f_2295 := Exa.keep f_2257 K2265
 have f_2296 := Exa.keep f_2258 K2265
 have f_2297 := Exa.keep f_2259 K2265
 have zl_2298 := Nat.le_trans zl_2260 K2265.1
 have k_2299 : Go p.tables e below B0 (sf T2265 m 98 #[rv a1, rv b, iv q1, .val (.int (lenA σ 1)), .val (.int (mxI (1 : Int32) (mnI (lenA σ 1) (1024 : Int32)))), nu] [.ref a1]) := fun t q => by
  refine k_2263 t ?_
  refine st2265 _ ?_
  show Steps _ _ _ (sf T2265 m 97 #[rv a1, rv b, iv q1, .val (.int (lenA σ 1)), .val (.int (mxI (1 : Int32) (mnI (lenA σ 1) (1024 : Int32)))), nu] []) _
  refine s_aloadN X2265.here hx (hb hby d8_97) rfl rfl ?_
  exact q
 obtain ⟨T2300, X2300, e2300, st2300⟩ := getF X2265 hx hZ hown (host := "") (Or.inl (hw _ (wd 81 rfl))) Via.refl (rfl : T2265.heap = _) f_2287 (g := (mkF m 98 #[rv a1, rv b, iv q1, .val (.int (lenA σ 1)), .val (.int (mxI (1 : Int32) (mnI (lenA σ 1) (1024 : Int32)))), nu] [.ref a1])) rfl rfl (hb hby d8_98)
 have k_2301 : Go p.tables e below B0 (sf T2300 m 102 #[rv a1, rv b, iv q1, .val (.int (lenA σ 1)), .val (.int (mxI (1 : Int32) (mnI (lenA σ 1) (1024 : Int32)))), nu] [(.int (-1 : Int32)), .ref b2062]) := fun t q => by
  refine k_2299 t ?_
  refine st2300 _ ?_
  show Steps _ _ _ (sf T2300 m 101 #[rv a1, rv b, iv q1, .val (.int (lenA σ 1)), .val (.int (mxI (1 : Int32) (mnI (lenA σ 1) (1024 : Int32)))), nu] [.ref b2062]) _
  refine s_iconst (x := -1) X2300.here hx (hb hby d8_101) rfl ?_
  exact q
 obtain ⟨z2302, c2302, hf2302⟩ := Option.bind_eq_some_iff.mp hf2266
 obtain ⟨_, _, ⟨T2303, L2303, k2303, n2303⟩, -, X2303, ⟨Lc2303, hQ2303, l2303, y2303, z2303⟩, st2303⟩ := Jvm.LawKit.callS X2300 hx (y := y_21) hown (mvT hZ (hw _ (wd 87 rfl))) (mvT hZ (hw _ (wd 88 rfl))) (mvT hZ (hw _ (wd 23 rfl))) (mvT hZ (hw _ (wd 89 rfl))) (by decide) (backOf (W := 0) (fFill2_ok l Z a0 hw [] b2062 ([arr σ2266 13], []) (-1 : Int32) T2265.heap n0 zl_2298 (WC.one (i := 13) w2265 (by decide)) z2302 c2302) hZ (hw _ (wd 89 rfl)) (hw _ (wd 23 rfl)) (by decide) (by decide)) (g := (mkF m 102 #[rv a1, rv b, iv q1, .val (.int (lenA σ 1)), .val (.int (mxI (1 : Int32) (mnI (lenA σ 1) (1024 : Int32)))), nu] [(.int (-1 : Int32)), .ref b2062])) rfl (by rw [hml]; rfl) (argsL := [.ref b2062, (.int (-1 : Int32))]) (rest := []) (lenOf pd_10 rfl) rfl (by show 2 * 0 + _ ≤ _; exact Nat.le_of_eq rfl) (hb hby d8_102) (fun _ _ => ⟨rfl, e2300, (by decide : 7 + 0 ≤ _), (by decide : 57 + 0 ≤ _)⟩)
 dsimp only [Pt.U, Pt.locs, Pt.cells, Pt.slots] at X2303 l2303 y2303 z2303 st2303 hQ2303
 subst l2303 y2303 z2303
 obtain ⟨rfl, N2303q, K2303, V2303⟩ := hQ2303
 have N2303 := Fr.app N2265 N2303q
 obtain ⟨σ2304, c2304, hf2304⟩ := Option.bind_eq_some_iff.mp hf2302
 have w2303 := WC.keep (i := 13) w2265 (by decide) K2303 V2303
 rw [Option.some.inj c2304] at w2303
 obtain ⟨cq2303, Aq2303', -, -⟩ := w2265.at (i := 13) (by decide)
 have Aq2303 : Arr Z T2265.heap b2062 cq2303 .int := Aq2303'
 have f_2305 := Exa.keep f_2267 K2303
 have f_2306 := Exa.keep f_2268 K2303
 have f_2307 := Fld.keep f_2269 K2303 (ninS (ne_arr f_2267 (hw _ (wd 2 rfl)) Aq2303) nin0)
 have f_2308 := Fld.keep f_2270 K2303 (ninS (ne_arr f_2267 (hw _ (wd 2 rfl)) Aq2303) nin0)
 have f_2309 := Fld.keep f_2271 K2303 (ninS (ne_arr f_2267 (hw _ (wd 2 rfl)) Aq2303) nin0)
 have f_2310 := Fld.keep f_2272 K2303 (ninS (ne_arr f_2267 (hw _ (wd 2 rfl)) Aq2303) nin0)
 have f_2311 := Fld.keep f_2273 K2303 (ninS (ne_arr f_2267 (hw _ (wd 2 rfl)) Aq2303) nin0)
 have f_2312 := Fld.keep f_2274 K2303 (ninS (ne_arr f_2267 (hw _ (wd 2 rfl)) Aq2303) nin0)
 have f_2313 := Fld.keep f_2275 K2303 (ninS (ne_arr f_2267 (hw _ (wd 2 rfl)) Aq2303) nin0)
 have f_2314 := Fld.keep f_2276 K2303 (ninS (ne_arr f_2267 (hw _ (wd 2 rfl)) Aq2303) nin0)
 have f_2315 := Fld.keep f_2277 K2303 (ninS (ne_arr f_2267 (hw _ (wd 2 rfl)) Aq2303) nin0)
 have f_2316 := Fld.keep f_2278 K2303 (ninS (ne_arr f_2267 (hw _ (wd 2 rfl)) Aq2303) nin0)
 have f_2317 := Fld.keep f_2279 K2303 (ninS (ne_arr f_2267 (hw _ (wd 2 rfl)) Aq2303) nin0)
 have f_2318 := Fld.keep f_2280 K2303 (ninS (ne_arr f_2268 (hw _ (wd 56 rfl)) Aq2303) nin0)
 have f_2319 := Fld.keep f_2281 K2303 (ninS (ne_arr f_2268 (hw _ (wd 56 rfl)) Aq2303) nin0)
 have f_2320 := Fld.keep f_2282 K2303 (ninS (ne_arr f_2268 (hw _ (wd 56 rfl)) Aq2303) nin0)
 have f_2321 := Fld.keep f_2283 K2303 (ninS (ne_arr f_2268 (hw _ (wd 56 rfl)) Aq2303) nin0)
 have f_2322 := Fld.keep f_2284 K2303 (ninS (ne_arr f_2268 (hw _ (wd 56 rfl)) Aq2303) nin0)
 have f_2323 := Fld.keep f_2285 K2303 (ninS (ne_arr f_2268 (hw _ (wd 56 rfl)) Aq2303) nin0)
 have f_2324 := Fld.keep f_2286 K2303 (ninS (ne_arr f_2268 (hw _ (wd 56 rfl)) Aq2303) nin0)
 have f_2325 := Fld.keep f_2287 K2303 (ninS (ne_arr f_2268 (hw _ (wd 56 rfl)) Aq2303) nin0)
 have f_2326 := Fld.keep f_2288 K2303 (ninS (ne_arr f_2268 (hw _ (wd 56 rfl)) Aq2303) nin0)
 have f_2327 := Fld.keep f_2289 K2303 (ninS (ne_arr f_2268 (hw _ (wd 56 rfl)) Aq2303) nin0)
 have f_2328 := Fld.keep f_2290 K2303 (ninS (ne_arr f_2268 (hw _ (wd 56 rfl)) Aq2303) nin0)
 have f_2329 := Exa.keep f_2291 K2303
 have f_2330 := Exa.keep f_2292 K2303
 have f_2331 := Exa.keep f_2293 K2303
 have f_2332 := Exa.keep f_2294 K2303
 have f_2333 := Exa.keep f_2295 K2303
 have f_2334 := Exa.keep f_2296 K2303
 have f_2335 := Exa.keep f_2297 K2303
 have zl_2336 := Nat.le_trans zl_2298 K2303.1
 have k_2337 : Go p.tables e below B0 (sf T2303 m 110 #[rv a1, rv b, iv q1, .val (.int (lenA σ 1)), .val (.int (mxI (1 : Int32) (mnI (lenA σ 1) (1024 : Int32)))), .val (.int ((lenA σ 1) - (1 : Int32)))] []) := fun t q => by
  refine k_2301 t ?_
  refine st2303 _ ?_
  show Steps _ _ _ (sf T2303 m 105 #[rv a1, rv b, iv q1, .val (.int (lenA σ 1)), .val (.int (mxI (1 : Int32) (mnI (lenA σ 1) (1024 : Int32)))), nu] []) _
  refine s_iloadN X2303.here hx (hb hby d8_105) rfl ?_
  refine s_iconst (x := 1) X2303.here hx (hb hby d8_106) rfl ?_
  refine s_isub X2303.here hx (hb hby d8_107) ?_
  refine s_istore X2303.here hx (hb hby d8_108) (l' := #[rv a1, rv b, iv q1, .val (.int (lenA σ 1)), .val (.int (mxI (1 : Int32) (mnI (lenA σ 1) (1024 : Int32)))), .val (.int ((lenA σ 1) - (1 : Int32)))]) rfl ?_
  exact q
 obtain ⟨σ2338, c2338, hf2338⟩ := Option.bind_eq_some_iff.mp hf2304
 have ww : Wd Z n0 T2303.heap b a1 (psX ps 9 [b1822, b1879, b1938, b1999, b2062, b2127, b2194]) σ2338 := by rw [← Option.some.inj c2338]; exact ⟨w2303.1, ⟨rfl, f_2305, f_2306, f_2307, f_2308, f_2309, f_2310, f_2311, f_2312, f_2313, f_2314, f_2315, f_2316, f_2317, f_2318, f_2319, f_2320, f_2321, f_2322, f_2323, f_2324, f_2325, f_2326, f_2327, f_2328⟩, gb, g0, w2303.2⟩
 exact lp110 20 (psX ps 9 [b1822, b1879, b1938, b1999, b2062, b2127, b2194]) σ2338 (lenA σ 1) (mxI (1 : Int32) (mnI (lenA σ 1) (1024 : Int32))) ((lenA σ 1) - (1 : Int32))  T2303 _ X2303 N2303 ww  k_2337 hf2338
set_option maxRecDepth 65536 in
set_option maxHeartbeats 40000000 in
theorem bit_ok (l : Launch) (Z : State) (a0 : Array Value) (hw : ∀ d ∈ tables_1, d.before a0 Z = true) (ws : List Jvm.Cond) (q1 q2 : Int32) (h0 : Heap) (n0 : Nat)   :
  MetFree l y_26 (head1 (Jvm.Cond.code y_26 method_4_code 2 (some .int) :: ws) ({ frames := 0, cells := 0, slots := 0, locals := 0 } : Room)) (fun a U => a = #[.int q1, .int q2] ∧ Z.Warmed39 U.vm ∧ U.heap = h0) (fun _ _ _ _ _ => True) (fun _ U o U' => ∃ v L, o = .returned v ∧ QV (some (.int (bitI q1 q2))) h0 n0 v U'.heap L ∧ FrameEnd U o U' L ({ frames := 0, cells := 0, slots := 0, locals := 0 } : Room).cells ({ frames := 0, cells := 0, slots := 0, locals := 0 } : Room).slots) := by
 refine MetFree.of_bodySF (plainFor_of_name pn_2) hisR ?_
 intro p e s m args below meth c s₁ Bd hml0 hP hK
 obtain ⟨rfl, hZ, hh⟩ := hP
 have hx := Bd.exec
 have hby := Bd.bytes
 have hml : c.maxLocals = 2 := hml0
 have hown : s.vm.findClass "com/example/states_into_classes/statesintoclasses/engine/BlockSidesFullestPinLaw" = some m.cls := findClass_of_methodNamed Bd.named
 have hnm := (name_of_methodNamed Bd.named Bd.method).1
 have X0 : Stand p l e ({ frames := 0, cells := 0, slots := 0, locals := 0 } : Room) s m #[.int q1, .int q2] below meth c s₁ [] 0 0 := Stand.of_body Bd
 have e0 : s₁.heap = h0 := by rw [← hh, Bd.state]; rfl
 have N0 := Fr.nil n0
 have K0 := Keep.refl h0 []
 have k0 : Go p.tables e below (s₁.setTop (entryFrame m #[.int q1, .int q2] 2)) (sf s₁ m 0 #[iv q1, iv q2] []) := fun t k => castTop (by first | rfl | (simp [entryFrame, mkF, argsToLocals, Value.category]; done)) k
 have k_2339 : Go p.tables e below (s₁.setTop (entryFrame m #[.int q1, .int q2] 2)) (sf s₁ m 5 #[iv q1, iv q2] [(.int (((q1.toUInt32 >>> (q2 &&& 31).toUInt32).toInt32) &&& (1 : Int32)))]) := fun t q => by
  refine k0 t ?_
  refine XS.iloadN X0.here hx rfl (hb hby d16_0) rfl ?_
  show Steps _ _ _ (sf s₁ m 1 #[iv q1, iv q2] [.int q1]) _
  refine XS.iloadN X0.here hx rfl (hb hby d16_1) rfl ?_
  show Steps _ _ _ (sf s₁ m 2 #[iv q1, iv q2] [.int q2, .int q1]) _
  refine XS.iushr X0.here hx rfl (hb hby d16_2) rfl ?_
  show Steps _ _ _ (sf s₁ m 3 #[iv q1, iv q2] [(.int ((q1.toUInt32 >>> (q2 &&& 31).toUInt32).toInt32))]) _
  refine XS.iconst X0.here hx rfl (hb hby d16_3) ?_
  show Steps _ _ _ (sf s₁ m 4 #[iv q1, iv q2] [.int 1, (.int ((q1.toUInt32 >>> (q2 &&& 31).toUInt32).toInt32))]) _
  refine XS.iand X0.here hx rfl (hb hby d16_4) rfl ?_
  show Steps _ _ _ (sf s₁ m 5 #[iv q1, iv q2] [(.int (((q1.toUInt32 >>> (q2 &&& 31).toUInt32).toInt32) &&& (1 : Int32)))]) _
  exact q
 obtain ⟨fs, hr, hrun, hended, hW, hsame⟩ := X0.leave (v := some (.int (((q1.toUInt32 >>> (q2 &&& 31).toUInt32).toInt32) &&& (1 : Int32)))) (fun h => by rw [Bd.returns] at h; cases h)
 refine ⟨_, _, k_2339 _ ?_, hrun, hended, _, _, rfl, ?_, ⟨_, rfl⟩, hW, hsame.mono (by decide) (by decide)⟩
 ·exact retOut X0 hx Bd.returns rfl (Or.inl ⟨rfl, Or.inl rfl, _, rfl⟩) (hb hby d16_5) hr
 ·show QV (some (.int (bitI q1 q2))) h0 n0 _ s₁.heap _
  rw [e0]
  exact ⟨rfl, N0, rfl⟩
theorem bit_okx (l : Launch) (Z : State) (a0 : Array Value) (hw : ∀ d ∈ tables_1, d.before a0 Z = true) (ws : List Jvm.Cond) (q1 q2 : Int32) (h0 : Heap) (n0 : Nat)   (x_ : Int32) (hx_ : some (bitI q1 q2) = some x_) :
  MetFree l y_26 (head1 (Jvm.Cond.code y_26 method_4_code 2 (some .int) :: ws) ({ frames := 0, cells := 0, slots := 0, locals := 0 } : Room)) (fun a U => a = #[.int q1, .int q2] ∧ Z.Warmed39 U.vm ∧ U.heap = h0) (fun _ _ _ _ _ => True) (fun _ U o U' => ∃ v L, o = .returned v ∧ QV (some (.int x_)) h0 n0 v U'.heap L ∧ FrameEnd U o U' L ({ frames := 0, cells := 0, slots := 0, locals := 0 } : Room).cells ({ frames := 0, cells := 0, slots := 0, locals := 0 } : Room).slots) := by
 cases hx_; exact bit_ok l Z a0 hw ws q1 q2 h0 n0
set_option maxRecDepth 65536 in
set_option maxHeartbeats 40000000 in
theorem below_ok (l : Launch) (Z : State) (a0 : Array Value) (hw : ∀ d ∈ tables_1, d.before a0 Z = true) (ws : List Jvm.Cond) (q1 q2 q3 : Int32) (h0 : Heap) (n0 : Nat)   :
  MetFree l y_27 (head1 (Jvm.Cond.code y_27 method_5_code 3 (some .int) :: ws) ({ frames := 0, cells := 0, slots := 0, locals := 0 } : Room)) (fun a U => a = #[.int q1, .int q2, .int q3] ∧ Z.Warmed39 U.vm ∧ U.heap = h0) (fun _ _ _ _ _ => True) (fun _ U o U' => ∃ v L, o = .returned v ∧ QV (some (.int (belI q1 q2 q3))) h0 n0 v U'.heap L ∧ FrameEnd U o U' L ({ frames := 0, cells := 0, slots := 0, locals := 0 } : Room).cells ({ frames := 0, cells := 0, slots := 0, locals := 0 } : Room).slots) := by
 refine MetFree.of_bodySF (plainFor_of_name pn_2) hisR ?_
 intro p e s m args below meth c s₁ Bd hml0 hP hK
 obtain ⟨rfl, hZ, hh⟩ := hP
 have hx := Bd.exec
 have hby := Bd.bytes
 have hml : c.maxLocals = 3 := hml0
 have hown : s.vm.findClass "com/example/states_into_classes/statesintoclasses/engine/BlockSidesFullestPinLaw" = some m.cls := findClass_of_methodNamed Bd.named
 have hnm := (name_of_methodNamed Bd.named Bd.method).1
 have X0 : Stand p l e ({ frames := 0, cells := 0, slots := 0, locals := 0 } : Room) s m #[.int q1, .int q2, .int q3] below meth c s₁ [] 0 0 := Stand.of_body Bd
 have e0 : s₁.heap = h0 := by rw [← hh, Bd.state]; rfl
 have N0 := Fr.nil n0
 have K0 := Keep.refl h0 []
 have k0 : Go p.tables e below (s₁.setTop (entryFrame m #[.int q1, .int q2, .int q3] 3)) (sf s₁ m 0 #[iv q1, iv q2, iv q3] []) := fun t k => castTop (by first | rfl | (simp [entryFrame, mkF, argsToLocals, Value.category]; done)) k
 rcases Decidable.em (q2 < q3) with hc | hc
 ·skip
  have k_2340 : Go p.tables e below (s₁.setTop (entryFrame m #[.int q1, .int q2, .int q3] 3)) (sf s₁ m 14 #[iv q1, iv q2, iv q3] [(.int (((q1.toUInt32 >>> (q2 &&& 31).toUInt32).toInt32) &&& (1 : Int32)))]) := fun t q => by
   refine k0 t ?_
   refine XS.iloadN X0.here hx rfl (hb hby d17_0) rfl ?_
   show Steps _ _ _ (sf s₁ m 1 #[iv q1, iv q2, iv q3] [.int q2]) _
   refine XS.iloadN X0.here hx rfl (hb hby d17_1) rfl ?_
   show Steps _ _ _ (sf s₁ m 2 #[iv q1, iv q2, iv q3] [.int q3, .int q2]) _
   refine XS.icmpNo X0.here hx rfl (hb hby d17_2) rfl (tlt hc).2.1 ?_
   show Steps _ _ _ (sf s₁ m 5 #[iv q1, iv q2, iv q3] []) _
   refine XS.iloadN X0.here hx rfl (hb hby d17_5) rfl ?_
   show Steps _ _ _ (sf s₁ m 6 #[iv q1, iv q2, iv q3] [.int q1]) _
   refine XS.iloadN X0.here hx rfl (hb hby d17_6) rfl ?_
   show Steps _ _ _ (sf s₁ m 7 #[iv q1, iv q2, iv q3] [.int q2, .int q1]) _
   refine XS.iushr X0.here hx rfl (hb hby d17_7) rfl ?_
   show Steps _ _ _ (sf s₁ m 8 #[iv q1, iv q2, iv q3] [(.int ((q1.toUInt32 >>> (q2 &&& 31).toUInt32).toInt32))]) _
   refine XS.iconst X0.here hx rfl (hb hby d17_8) ?_
   show Steps _ _ _ (sf s₁ m 9 #[iv q1, iv q2, iv q3] [.int 1, (.int ((q1.toUInt32 >>> (q2 &&& 31).toUInt32).toInt32))]) _
   refine XS.iand X0.here hx rfl (hb hby d17_9) rfl ?_
   show Steps _ _ _ (sf s₁ m 10 #[iv q1, iv q2, iv q3] [(.int (((q1.toUInt32 >>> (q2 &&& 31).toUInt32).toInt32) &&& (1 : Int32)))]) _
   refine XS.goto X0.here hx rfl (pc0 := 10) (pc' := 14) rfl (hb hby d17_10) (by decide) (by decide) ?_
   show Steps _ _ _ (sf s₁ m 14 #[iv q1, iv q2, iv q3] [(.int (((q1.toUInt32 >>> (q2 &&& 31).toUInt32).toInt32) &&& (1 : Int32)))]) _
   exact q
  obtain ⟨fs, hr, hrun, hended, hW, hsame⟩ := X0.leave (v := some (.int (((q1.toUInt32 >>> (q2 &&& 31).toUInt32).toInt32) &&& (1 : Int32)))) (fun h => by rw [Bd.returns] at h; cases h)
  refine ⟨_, _, k_2340 _ ?_, hrun, hended, _, _, rfl, ?_, ⟨_, rfl⟩, hW, hsame.mono (by decide) (by decide)⟩
  ·exact retOut X0 hx Bd.returns rfl (Or.inl ⟨rfl, Or.inl rfl, _, rfl⟩) (hb hby d17_14) hr
  ·show QV (some (.int (belI q1 q2 q3))) h0 n0 _ s₁.heap _
   rw [e0]
   exact ⟨by simp [belI, bitI, hc], N0, rfl⟩
 ·skip
  have k_2341 : Go p.tables e below (s₁.setTop (entryFrame m #[.int q1, .int q2, .int q3] 3)) (sf s₁ m 14 #[iv q1, iv q2, iv q3] [.int 0]) := fun t q => by
   refine k0 t ?_
   refine XS.iloadN X0.here hx rfl (hb hby d17_0) rfl ?_
   show Steps _ _ _ (sf s₁ m 1 #[iv q1, iv q2, iv q3] [.int q2]) _
   refine XS.iloadN X0.here hx rfl (hb hby d17_1) rfl ?_
   show Steps _ _ _ (sf s₁ m 2 #[iv q1, iv q2, iv q3] [.int q3, .int q2]) _
   refine XS.icmpYes X0.here hx rfl (pc0 := 2) (pc' := 13) rfl (hb hby d17_2) rfl (flt hc).2.1 (by decide) (by decide) ?_
   show Steps _ _ _ (sf s₁ m 13 #[iv q1, iv q2, iv q3] []) _
   refine XS.iconst X0.here hx rfl (hb hby d17_13) ?_
   show Steps _ _ _ (sf s₁ m 14 #[iv q1, iv q2, iv q3] [.int 0]) _
   exact q
  obtain ⟨fs, hr, hrun, hended, hW, hsame⟩ := X0.leave (v := some (.int 0)) (fun h => by rw [Bd.returns] at h; cases h)
  refine ⟨_, _, k_2341 _ ?_, hrun, hended, _, _, rfl, ?_, ⟨_, rfl⟩, hW, hsame.mono (by decide) (by decide)⟩
  ·exact retOut X0 hx Bd.returns rfl (Or.inl ⟨rfl, Or.inl rfl, _, rfl⟩) (hb hby d17_14) hr
  ·show QV (some (.int (belI q1 q2 q3))) h0 n0 _ s₁.heap _
   rw [e0]
   exact ⟨by simp [belI, bitI, hc], N0, rfl⟩
theorem below_okx (l : Launch) (Z : State) (a0 : Array Value) (hw : ∀ d ∈ tables_1, d.before a0 Z = true) (ws : List Jvm.Cond) (q1 q2 q3 : Int32) (h0 : Heap) (n0 : Nat)   (x_ : Int32) (hx_ : some (belI q1 q2 q3) = some x_) :
  MetFree l y_27 (head1 (Jvm.Cond.code y_27 method_5_code 3 (some .int) :: ws) ({ frames := 0, cells := 0, slots := 0, locals := 0 } : Room)) (fun a U => a = #[.int q1, .int q2, .int q3] ∧ Z.Warmed39 U.vm ∧ U.heap = h0) (fun _ _ _ _ _ => True) (fun _ U o U' => ∃ v L, o = .returned v ∧ QV (some (.int x_)) h0 n0 v U'.heap L ∧ FrameEnd U o U' L ({ frames := 0, cells := 0, slots := 0, locals := 0 } : Room).cells ({ frames := 0, cells := 0, slots := 0, locals := 0 } : Room).slots) := by
 cases hx_; exact below_ok l Z a0 hw ws q1 q2 q3 h0 n0
def fLaw_L425 (nn ss mm : Int32) (σl2342 : St) (c8_2342 : Int32) (c9_2342 : Int32) (c10_2342 : Int32) (c11_2342 : Int32) (c15_2342 : Int32) (c16_2342 : Int32)  : Option (Int32 × St) := if c9_2342 = c8_2342 then (if c15_2342 = (0 : Int32) then (some ((0 : Int32), σl2342)) else (if c11_2342 = c10_2342 then (some ((if c16_2342 = c8_2342 then (1 : Int32) else (0 : Int32)), σl2342)) else (some ((0 : Int32), σl2342)))) else (some ((0 : Int32), σl2342))
def fLaw_L402 (nn ss mm : Int32) (σl2354 : St) (c8_2354 : Int32) (c9_2354 : Int32) (c10_2354 : Int32) (c11_2354 : Int32) (c14_2354 : Int32) (c15_2354 : Int32)  : Option (Int32 × St) := if c14_2354 = (0 : Int32) then (fLaw_L425 nn ss mm  σl2354 c8_2354 c9_2354 c10_2354 c11_2354 c15_2354 c8_2354) else ((fRejoin σl2354 (0 : Int32) (1 : Int32)).bind fun z2359 => (fFull z2359.2 ).bind fun z2362 => fLaw_L425 nn ss mm  z2362.2 c8_2354 c9_2354 c10_2354 c11_2354 c15_2354 z2362.1)
def fLaw_L306 (nn ss mm : Int32) (σl2365 : St) (c4_2365 : Int32) (c8_2365 : Int32) (c9_2365 : Int32) (c10_2365 : Int32) (c11_2365 : Int32) (c13_2365 : Int32) (c14_2365 : Int32)  : Option (Int32 × St) := if c14_2365 = (0 : Int32) then (fLaw_L402 nn ss mm  σl2365 c8_2365 c9_2365 c10_2365 c11_2365 c14_2365 (if c10_2365 = c8_2365 then (1 : Int32) else (0 : Int32))) else (if (mxI (c4_2365 - c13_2365) c13_2365) < (2 : Int32) then (fLaw_L402 nn ss mm  σl2365 c8_2365 c9_2365 c10_2365 c11_2365 c14_2365 (if c10_2365 = (-1 : Int32) then (1 : Int32) else (0 : Int32))) else (if c10_2365 = (0 : Int32) then (if (c4_2365 - c13_2365) = (mxI (c4_2365 - c13_2365) c13_2365) then (fLaw_L402 nn ss mm  σl2365 c8_2365 c9_2365 c10_2365 c11_2365 c14_2365 (1 : Int32)) else (if c10_2365 = (1 : Int32) then (fLaw_L402 nn ss mm  σl2365 c8_2365 c9_2365 c10_2365 c11_2365 c14_2365 (if c13_2365 = (mxI (c4_2365 - c13_2365) c13_2365) then (1 : Int32) else (0 : Int32))) else (fLaw_L402 nn ss mm  σl2365 c8_2365 c9_2365 c10_2365 c11_2365 c14_2365 (0 : Int32)))) else (if c10_2365 = (1 : Int32) then (fLaw_L402 nn ss mm  σl2365 c8_2365 c9_2365 c10_2365 c11_2365 c14_2365 (if c13_2365 = (mxI (c4_2365 - c13_2365) c13_2365) then (1 : Int32) else (0 : Int32))) else (fLaw_L402 nn ss mm  σl2365 c8_2365 c9_2365 c10_2365 c11_2365 c14_2365 (0 : Int32)))))
def fLaw_L288 (nn ss mm : Int32) (σl2395 : St) (c3_2395 : Int32) (c4_2395 : Int32) (c5_2395 : Int32) (c8_2395 : Int32) (c9_2395 : Int32) (c10_2395 : Int32) (c11_2395 : Int32) (c12_2395 : Int32) (c13_2395 : Int32)  : Option (Int32 × St) := if (0 : Int32) < c12_2395 then (fLaw_L306 nn ss mm  σl2395 c4_2395 c8_2395 c9_2395 c10_2395 c11_2395 c13_2395 (if c12_2395 < c3_2395 then (1 : Int32) else (0 : Int32))) else (fLaw_L306 nn ss mm  σl2395 c4_2395 c8_2395 c9_2395 c10_2395 c11_2395 c13_2395 (0 : Int32))
def fLaw_L213 (nn ss mm : Int32) (σl2402 : St) (c3_2402 : Int32) (c4_2402 : Int32) (c5_2402 : Int32) (c8_2402 : Int32) (c9_2402 : Int32) (c10_2402 : Int32) (c11_2402 : Int32) (c12_2402 : Int32)  : Option (Int32 × St) := (some (belI c5_2402 (0 : Int32) c4_2402)).bind fun x2404 => (some (belI c5_2402 (1 : Int32) c4_2402)).bind fun x2407 => (some (x2404 + x2407)).bind fun x2409 => (some (belI c5_2402 (2 : Int32) c4_2402)).bind fun x2412 => (some (x2409 + x2412)).bind fun x2414 => (some (belI c5_2402 (3 : Int32) c4_2402)).bind fun x2417 => (some (x2414 + x2417)).bind fun x2419 => (some (belI c5_2402 (4 : Int32) c4_2402)).bind fun x2422 => (some (x2419 + x2422)).bind fun x2424 => (some (belI c5_2402 (5 : Int32) c4_2402)).bind fun x2427 => (some (x2424 + x2427)).bind fun x2429 => (some (belI c5_2402 (6 : Int32) c4_2402)).bind fun x2432 => (some (x2429 + x2432)).bind fun x2434 => (some (belI c5_2402 (7 : Int32) c4_2402)).bind fun x2437 => (some (x2434 + x2437)).bind fun x2439 => fLaw_L288 nn ss mm  σl2402 c3_2402 c4_2402 c5_2402 c8_2402 c9_2402 c10_2402 c11_2402 c12_2402 x2439
def fLaw_L154 (nn ss mm : Int32) (σl2442 : St) (c3_2442 : Int32) (c4_2442 : Int32) (c5_2442 : Int32) (c8_2442 : Int32) (c9_2442 : Int32) (c10_2442 : Int32) (c11_2442 : Int32)  : Option (Int32 × St) := (some (bitI c5_2442 (0 : Int32))).bind fun x2444 => (some (bitI c5_2442 (1 : Int32))).bind fun x2447 => (some (x2444 + x2447)).bind fun x2449 => (some (bitI c5_2442 (2 : Int32))).bind fun x2452 => (some (x2449 + x2452)).bind fun x2454 => (some (bitI c5_2442 (3 : Int32))).bind fun x2457 => (some (x2454 + x2457)).bind fun x2459 => (some (bitI c5_2442 (4 : Int32))).bind fun x2462 => (some (x2459 + x2462)).bind fun x2464 => (some (bitI c5_2442 (5 : Int32))).bind fun x2467 => (some (x2464 + x2467)).bind fun x2469 => (some (bitI c5_2442 (6 : Int32))).bind fun x2472 => (some (x2469 + x2472)).bind fun x2474 => (some (bitI c5_2442 (7 : Int32))).bind fun x2477 => (some (x2474 + x2477)).bind fun x2479 => fLaw_L213 nn ss mm  σl2442 c3_2442 c4_2442 c5_2442 c8_2442 c9_2442 c10_2442 c11_2442 x2479
def fLaw_L47 (nn ss mm : Int32) (σl2482 : St) (c3_2482 : Int32) (c4_2482 : Int32) (c5_2482 : Int32)  : Option (Int32 × St) := (fFull σl2482 ).bind fun z2486 => (fMarkIf z2486.2 c5_2482 (0 : Int32)).bind fun z2489 => (fMarkIf z2489.2 c5_2482 (1 : Int32)).bind fun z2492 => (fMarkIf z2492.2 c5_2482 (2 : Int32)).bind fun z2495 => (fMarkIf z2495.2 c5_2482 (3 : Int32)).bind fun z2498 => (fMarkIf z2498.2 c5_2482 (4 : Int32)).bind fun z2501 => (fMarkIf z2501.2 c5_2482 (5 : Int32)).bind fun z2504 => (fMarkIf z2504.2 c5_2482 (6 : Int32)).bind fun z2507 => (fMarkIf z2507.2 c5_2482 (7 : Int32)).bind fun z2510 => (fSplit z2510.2 ).bind fun z2513 => (fFull z2513.2 ).bind fun z2516 => (fFull z2516.2 ).bind fun z2519 => fLaw_L154 nn ss mm  z2519.2 c3_2482 c4_2482 c5_2482 (if c4_2482 < (2 : Int32) then (-1 : Int32) else (0 : Int32)) z2486.1 z2516.1 z2519.1
def fLaw  (nn ss mm : Int32) : Option (Int32 × St) := (fB1 (([], []) : St) nn).bind fun z2526 => (fS z2526.2 ss z2526.1).bind fun z2544 => fLaw_L47 nn ss mm  z2544.2 nn ss mm
set_option maxRecDepth 65536 in
set_option maxHeartbeats 40000000 in
theorem rm0 (l : Launch) (Z : State) (a0 : Array Value) (hw : ∀ d ∈ tables_1, d.before a0 Z = true) (ws : List Jvm.Cond) (q1 q2 q3 nn ss mm : Int32) (h0 : Heap) (n0 : Nat) (Z0 : n0 ≤ h0.size) (hn : q1 &&& 7 = nn) (hs : (q2 &&& 2147483647) % (nn + 1) = ss) (hm : q3 &&& ((1 <<< (nn &&& 31)) - 1) = mm) (hz : nn + 1 ≠ 0) (r : Int32 × St) (hf : fLaw nn ss mm = some r) (hr1 : r.1 = 1) :
  MetFree l x (head1 (Jvm.Cond.code x code maxLocals ret :: ws) room_1) (fun a U => a = #[.int q1, .int q2, .int q3] ∧ Z.Warmed39 U.vm ∧ U.heap = h0) (fun _ _ _ _ _ => True) (fun _ U o U' => ∃ v L, o = .returned v ∧ Q0 n0 v U'.heap L ∧ FrameEnd U o U' L room_1.cells room_1.slots) := by
 refine MetFree.of_bodySF (plainFor_of_name pn_2) hisR ?_
 intro p e s m args below meth c s₁ Bd hml0 hP hK
 obtain ⟨rfl, hZ, hh⟩ := hP
 have hx := Bd.exec
 have hby := Bd.bytes
 have hml : c.maxLocals = 19 := hml0
 have hown : s.vm.findClass "com/example/states_into_classes/statesintoclasses/engine/BlockSidesFullestPinLaw" = some m.cls := findClass_of_methodNamed Bd.named
 have hnm := (name_of_methodNamed Bd.named Bd.method).1
 have X0 : Stand p l e room_1 s m #[.int q1, .int q2, .int q3] below meth c s₁ [] 0 0 := Stand.of_body Bd
 have e0 : s₁.heap = h0 := by rw [← hh, Bd.state]; rfl
 have N0 := Fr.nil n0
 have K0 := Keep.refl h0 []
 have k0 : Go p.tables e below (s₁.setTop (entryFrame m #[.int q1, .int q2, .int q3] maxLocals)) (sf s₁ m 0 #[iv q1, iv q2, iv q3, nu, nu, nu, nu, nu, nu, nu, nu, nu, nu, nu, nu, nu, nu, nu, nu] []) := fun t k => castTop (by first | (simp [entryFrame, mkF, argsToLocals, Value.category, maxLocals]; done)) k
 unfold fLaw at hf
 generalize s₁.setTop (entryFrame m #[.int q1, .int q2, .int q3] maxLocals) = B0 at k0 ⊢
 have lp425 : ∀ (b d : Addr) (pt : Nat → Addr) (σl2342 : St) (c8_2342 : Int32)(c9_2342 : Int32)(c10_2342 : Int32)(c11_2342 : Int32)(c15_2342 : Int32)(c16_2342 : Int32) (u3_2342 : Slot)(u4_2342 : Slot)(u5_2342 : Slot)(u12_2342 : Slot)(u13_2342 : Slot)(u14_2342 : Slot)(u17_2342 : Slot)(u18_2342 : Slot) (Tl2342 : State) (Ll2342 : List Loc), Stand p l e room_1 s m #[.int q1, .int q2, .int q3] below meth c Tl2342 Ll2342 18 137 → Fr n0 Ll2342 → Wd Z n0 Tl2342.heap b d pt σl2342 → (u3_2342 = nu ∨ ∃ w, u3_2342 = .val w ∧ w.category = 1) → (u4_2342 = nu ∨ ∃ w, u4_2342 = .val w ∧ w.category = 1) → (u5_2342 = nu ∨ ∃ w, u5_2342 = .val w ∧ w.category = 1) → (u12_2342 = nu ∨ ∃ w, u12_2342 = .val w ∧ w.category = 1) → (u13_2342 = nu ∨ ∃ w, u13_2342 = .val w ∧ w.category = 1) → (u14_2342 = nu ∨ ∃ w, u14_2342 = .val w ∧ w.category = 1) → (u17_2342 = nu ∨ ∃ w, u17_2342 = .val w ∧ w.category = 1) → (u18_2342 = nu ∨ ∃ w, u18_2342 = .val w ∧ w.category = 1) → Go p.tables e below B0 (sf Tl2342 m 425 #[iv q1, iv q2, iv q3, u3_2342, u4_2342, u5_2342, rv b, rv d, iv c8_2342, iv c9_2342, iv c10_2342, iv c11_2342, u12_2342, u13_2342, u14_2342, iv c15_2342, iv c16_2342, u17_2342, u18_2342] []) → fLaw_L425 nn ss mm σl2342 c8_2342 c9_2342 c10_2342 c11_2342 c15_2342 c16_2342 = some r → ∃ s₂ o, Steps p.tables e below B0 s₂ ∧ s₂.status = .running ∧ Ended s₂ below o ∧ (∃ v L, o = .returned v ∧ Q0 n0 v s₂.heap L ∧ FrameEnd s o s₂ L room_1.cells room_1.slots) := by
  intro b d pt σl2342 c8_2342 c9_2342 c10_2342 c11_2342 c15_2342 c16_2342 u3_2342 u4_2342 u5_2342 u12_2342 u13_2342 u14_2342 u17_2342 u18_2342 Tl2342 Ll2342 Xl2342 Nl2342 Wl2342 hu3_2342 hu4_2342 hu5_2342 hu12_2342 hu13_2342 hu14_2342 hu17_2342 hu18_2342 kl2342 hl2342
  unfold fLaw_L425 at hl2342
  have k_2343 : Go p.tables e below B0 (sf Tl2342 m 429 #[iv q1, iv q2, iv q3, u3_2342, u4_2342, u5_2342, rv b, rv d, iv c8_2342, iv c9_2342, iv c10_2342, iv c11_2342, u12_2342, u13_2342, u14_2342, iv c15_2342, iv c16_2342, u17_2342, u18_2342] [.int c8_2342, .int c9_2342]) := fun t q => by
   refine kl2342 t ?_
   refine s_iload Xl2342.here hx (hb hby at_425) rfl ?_
   refine s_iload Xl2342.here hx (hb hby at_427) rfl ?_
   exact q
  by_cases hc2344 : c9_2342 = c8_2342
  ·rw [if_pos hc2344] at hl2342
   have k_2345 : Go p.tables e below B0 (sf Tl2342 m 434 #[iv q1, iv q2, iv q3, u3_2342, u4_2342, u5_2342, rv b, rv d, iv c8_2342, iv c9_2342, iv c10_2342, iv c11_2342, u12_2342, u13_2342, u14_2342, iv c15_2342, iv c16_2342, u17_2342, u18_2342] [.int c15_2342]) := fun t q => by
    refine k_2343 t ?_
    refine s_icmpNo Xl2342.here hx (hb hby at_429) (teq hc2344).2 ?_
    refine s_iload Xl2342.here hx (hb hby at_432) rfl ?_
    exact q
   by_cases hc2346 : c15_2342 = (0 : Int32)
   ·rw [if_pos hc2346] at hl2342
    have k_2347 : Go p.tables e below B0 (sf Tl2342 m 456 #[iv q1, iv q2, iv q3, u3_2342, u4_2342, u5_2342, rv b, rv d, iv c8_2342, iv c9_2342, iv c10_2342, iv c11_2342, u12_2342, u13_2342, u14_2342, iv c15_2342, iv c16_2342, u17_2342, u18_2342] [.int 0]) := fun t q => by
     refine k_2345 t ?_
     refine s_ifYes Xl2342.here hx (pc' := 455) (hb hby at_434) ((if0 _ _).trans (teq hc2346).1) (by decide) (by decide) ?_
     refine s_iconst (x := 0) Xl2342.here hx (hb hby at_455) rfl ?_
     exact q
    obtain rfl := Option.some.inj hl2342
    exact absurd (show (0 : Int32) = 1 from hr1) (by decide)
   ·rw [if_neg hc2346] at hl2342
    have k_2348 : Go p.tables e below B0 (sf Tl2342 m 441 #[iv q1, iv q2, iv q3, u3_2342, u4_2342, u5_2342, rv b, rv d, iv c8_2342, iv c9_2342, iv c10_2342, iv c11_2342, u12_2342, u13_2342, u14_2342, iv c15_2342, iv c16_2342, u17_2342, u18_2342] [.int c10_2342, .int c11_2342]) := fun t q => by
     refine k_2345 t ?_
     refine s_ifNo Xl2342.here hx (hb hby at_434) ((if0 _ _).trans (feq hc2346).1) ?_
     refine s_iload Xl2342.here hx (hb hby at_437) rfl ?_
     refine s_iload Xl2342.here hx (hb hby at_439) rfl ?_
     exact q
    by_cases hc2349 : c11_2342 = c10_2342
    ·rw [if_pos hc2349] at hl2342
     have k_2350 : Go p.tables e below B0 (sf Tl2342 m 448 #[iv q1, iv q2, iv q3, u3_2342, u4_2342, u5_2342, rv b, rv d, iv c8_2342, iv c9_2342, iv c10_2342, iv c11_2342, u12_2342, u13_2342, u14_2342, iv c15_2342, iv c16_2342, u17_2342, u18_2342] [.int c8_2342, .int c16_2342]) := fun t q => by
      refine k_2348 t ?_
      refine s_icmpNo Xl2342.here hx (hb hby at_441) (teq hc2349).2 ?_
      refine s_iload Xl2342.here hx (hb hby at_444) rfl ?_
      refine s_iload Xl2342.here hx (hb hby at_446) rfl ?_
      exact q
     have k_2351 : Go p.tables e below B0 (sf Tl2342 m 456 #[iv q1, iv q2, iv q3, u3_2342, u4_2342, u5_2342, rv b, rv d, iv c8_2342, iv c9_2342, iv c10_2342, iv c11_2342, u12_2342, u13_2342, u14_2342, iv c15_2342, iv c16_2342, u17_2342, u18_2342] [(.int (if c16_2342 = c8_2342 then (1 : Int32) else (0 : Int32)))]) := by
      by_cases hc2351 : c16_2342 = c8_2342
      ·rw [if_pos hc2351]; exact fun t q => by
        refine k_2350 t ?_
        refine s_icmpNo Xl2342.here hx (hb hby at_448) (teq hc2351).2 ?_
        refine s_iconst (x := 1) Xl2342.here hx (hb hby at_451) rfl ?_
        refine s_goto Xl2342.here hx (pc' := 456) (hb hby at_452) (by decide) (by decide) ?_
        exact q
      ·rw [if_neg hc2351]; exact fun t q => by
        refine k_2350 t ?_
        refine s_icmpYes Xl2342.here hx (pc' := 455) (hb hby at_448) (feq hc2351).2 (by decide) (by decide) ?_
        refine s_iconst (x := 0) Xl2342.here hx (hb hby at_455) rfl ?_
        exact q
     obtain rfl := Option.some.inj hl2342
     rw [show (if c16_2342 = c8_2342 then (1 : Int32) else (0 : Int32)) = (1 : Int32) from hr1] at k_2351
     obtain ⟨fs, hr, hrun, hended, hW, hsame⟩ := Xl2342.leave (v := some (.int 1)) (fun h => by rw [Bd.returns] at h; cases h)
     refine ⟨_, _, k_2351 _ ?_, hrun, hended, _, _, rfl, ?_, ⟨_, rfl⟩, hW, hsame.mono (by decide) (by decide)⟩
     ·exact retN Xl2342 hx (t := .boolean) Bd.returns (by simp) (hb hby at_456) hr
     ·exact ⟨rfl, Nl2342⟩
    ·rw [if_neg hc2349] at hl2342
     have k_2352 : Go p.tables e below B0 (sf Tl2342 m 456 #[iv q1, iv q2, iv q3, u3_2342, u4_2342, u5_2342, rv b, rv d, iv c8_2342, iv c9_2342, iv c10_2342, iv c11_2342, u12_2342, u13_2342, u14_2342, iv c15_2342, iv c16_2342, u17_2342, u18_2342] [.int 0]) := fun t q => by
      refine k_2348 t ?_
      refine s_icmpYes Xl2342.here hx (pc' := 455) (hb hby at_441) (feq hc2349).2 (by decide) (by decide) ?_
      refine s_iconst (x := 0) Xl2342.here hx (hb hby at_455) rfl ?_
      exact q
     obtain rfl := Option.some.inj hl2342
     exact absurd (show (0 : Int32) = 1 from hr1) (by decide)
  ·rw [if_neg hc2344] at hl2342
   have k_2353 : Go p.tables e below B0 (sf Tl2342 m 456 #[iv q1, iv q2, iv q3, u3_2342, u4_2342, u5_2342, rv b, rv d, iv c8_2342, iv c9_2342, iv c10_2342, iv c11_2342, u12_2342, u13_2342, u14_2342, iv c15_2342, iv c16_2342, u17_2342, u18_2342] [.int 0]) := fun t q => by
    refine k_2343 t ?_
    refine s_icmpYes Xl2342.here hx (pc' := 455) (hb hby at_429) (feq hc2344).2 (by decide) (by decide) ?_
    refine s_iconst (x := 0) Xl2342.here hx (hb hby at_455) rfl ?_
    exact q
   obtain rfl := Option.some.inj hl2342
   exact absurd (show (0 : Int32) = 1 from hr1) (by decide)
 have lp402 : ∀ (b d : Addr) (pt : Nat → Addr) (σl2354 : St) (c8_2354 : Int32)(c9_2354 : Int32)(c10_2354 : Int32)(c11_2354 : Int32)(c14_2354 : Int32)(c15_2354 : Int32) (u3_2354 : Slot)(u4_2354 : Slot)(u5_2354 : Slot)(u12_2354 : Slot)(u13_2354 : Slot)(u16_2354 : Slot)(u17_2354 : Slot)(u18_2354 : Slot) (Tl2354 : State) (Ll2354 : List Loc), Stand p l e room_1 s m #[.int q1, .int q2, .int q3] below meth c Tl2354 Ll2354 18 137 → Fr n0 Ll2354 → Wd Z n0 Tl2354.heap b d pt σl2354 → (u3_2354 = nu ∨ ∃ w, u3_2354 = .val w ∧ w.category = 1) → (u4_2354 = nu ∨ ∃ w, u4_2354 = .val w ∧ w.category = 1) → (u5_2354 = nu ∨ ∃ w, u5_2354 = .val w ∧ w.category = 1) → (u12_2354 = nu ∨ ∃ w, u12_2354 = .val w ∧ w.category = 1) → (u13_2354 = nu ∨ ∃ w, u13_2354 = .val w ∧ w.category = 1) → (u16_2354 = nu ∨ ∃ w, u16_2354 = .val w ∧ w.category = 1) → (u17_2354 = nu ∨ ∃ w, u17_2354 = .val w ∧ w.category = 1) → (u18_2354 = nu ∨ ∃ w, u18_2354 = .val w ∧ w.category = 1) → Go p.tables e below B0 (sf Tl2354 m 402 #[iv q1, iv q2, iv q3, u3_2354, u4_2354, u5_2354, rv b, rv d, iv c8_2354, iv c9_2354, iv c10_2354, iv c11_2354, u12_2354, u13_2354, iv c14_2354, iv c15_2354, u16_2354, u17_2354, u18_2354] []) → fLaw_L402 nn ss mm σl2354 c8_2354 c9_2354 c10_2354 c11_2354 c14_2354 c15_2354 = some r → ∃ s₂ o, Steps p.tables e below B0 s₂ ∧ s₂.status = .running ∧ Ended s₂ below o ∧ (∃ v L, o = .returned v ∧ Q0 n0 v s₂.heap L ∧ FrameEnd s o s₂ L room_1.cells room_1.slots) := by
  intro b d pt σl2354 c8_2354 c9_2354 c10_2354 c11_2354 c14_2354 c15_2354 u3_2354 u4_2354 u5_2354 u12_2354 u13_2354 u16_2354 u17_2354 u18_2354 Tl2354 Ll2354 Xl2354 Nl2354 Wl2354 hu3_2354 hu4_2354 hu5_2354 hu12_2354 hu13_2354 hu16_2354 hu17_2354 hu18_2354 kl2354 hl2354
  unfold fLaw_L402 at hl2354
  have k_2355 : Go p.tables e below B0 (sf Tl2354 m 408 #[iv q1, iv q2, iv q3, u3_2354, u4_2354, u5_2354, rv b, rv d, iv c8_2354, iv c9_2354, iv c10_2354, iv c11_2354, u12_2354, u13_2354, iv c14_2354, iv c15_2354, iv c8_2354, u17_2354, u18_2354] [.int c14_2354]) := fun t q => by
   refine kl2354 t ?_
   refine s_iload Xl2354.here hx (hb hby at_402) rfl ?_
   refine XS.istoreS Xl2354.here hx rfl (hb hby at_404) rfl rfl hu16_2354 ?_
   show Steps _ _ _ (sf Tl2354 m 406 #[iv q1, iv q2, iv q3, u3_2354, u4_2354, u5_2354, rv b, rv d, iv c8_2354, iv c9_2354, iv c10_2354, iv c11_2354, u12_2354, u13_2354, iv c14_2354, iv c15_2354, iv c8_2354, u17_2354, u18_2354] []) _
   refine s_iload Xl2354.here hx (hb hby at_406) rfl ?_
   exact q
  by_cases hc2356 : c14_2354 = (0 : Int32)
  ·rw [if_pos hc2356] at hl2354
   have k_2357 : Go p.tables e below B0 (sf Tl2354 m 425 #[iv q1, iv q2, iv q3, u3_2354, u4_2354, u5_2354, rv b, rv d, iv c8_2354, iv c9_2354, iv c10_2354, iv c11_2354, u12_2354, u13_2354, iv c14_2354, iv c15_2354, iv c8_2354, u17_2354, u18_2354] []) := fun t q => by
    refine k_2355 t ?_
    refine s_ifYes Xl2354.here hx (pc' := 425) (hb hby at_408) ((if0 _ _).trans (teq hc2356).1) (by decide) (by decide) ?_
    exact q
   exact lp425  b d pt σl2354 c8_2354 c9_2354 c10_2354 c11_2354 c15_2354 c8_2354 u3_2354 u4_2354 u5_2354 u12_2354 u13_2354 (iv c14_2354) u17_2354 u18_2354 Tl2354 _ Xl2354 Nl2354 Wl2354 hu3_2354 hu4_2354 hu5_2354 hu12_2354 hu13_2354 (Or.inr ⟨_, rfl, rfl⟩) hu17_2354 hu18_2354 k_2357 hl2354
  ·rw [if_neg hc2356] at hl2354
   have k_2358 : Go p.tables e below B0 (sf Tl2354 m 415 #[iv q1, iv q2, iv q3, u3_2354, u4_2354, u5_2354, rv b, rv d, iv c8_2354, iv c9_2354, iv c10_2354, iv c11_2354, u12_2354, u13_2354, iv c14_2354, iv c15_2354, iv c8_2354, u17_2354, u18_2354] [.int 1, .int 0, .ref d]) := fun t q => by
    refine k_2355 t ?_
    refine s_ifNo Xl2354.here hx (hb hby at_408) ((if0 _ _).trans (feq hc2356).1) ?_
    refine s_aload Xl2354.here hx (hb hby at_411) rfl rfl ?_
    refine s_iconst (x := 0) Xl2354.here hx (hb hby at_413) rfl ?_
    refine s_iconst (x := 1) Xl2354.here hx (hb hby at_414) rfl ?_
    exact q
   obtain ⟨z2359, c2359, hf2359⟩ := Option.bind_eq_some_iff.mp hl2354
   obtain ⟨cq2360, kq2360, q2360a, q2360b, q2360c⟩ := isOf hZ (rfl : Tl2354.heap = _) (Wl2354.2.1.2.2.1)
   obtain ⟨_, _, ⟨T2360, L2360, k2360, n2360⟩, -, X2360, ⟨Lc2360, hQ2360, l2360, y2360, z2360⟩, st2360⟩ := Xl2354.virtualBack hx (y := y_16) (z := y_16) hown (mvT hZ (hw _ (wd 177 rfl))) (mvT hZ (hw _ (wd 178 rfl))) (notFace_of_selects (args := #[]) (mvT hZ (hw _ (wd 180 rfl)))) (mvT hZ (hw _ (wd 180 rfl))) (mvT hZ (hw _ (wd 179 rfl))) (by decide) (backOf (W := 0) (fRejoin_ok l Z a0 hw [] b d pt σl2354 (0 : Int32) (1 : Int32) Tl2354.heap n0 Wl2354 z2359 c2359) hZ (hw _ (wd 181 rfl)) (hw _ (wd 57 rfl)) (by decide) (by decide)) q2360a q2360c (g := (mkF m 415 #[iv q1, iv q2, iv q3, u3_2354, u4_2354, u5_2354, rv b, rv d, iv c8_2354, iv c9_2354, iv c10_2354, iv c11_2354, u12_2354, u13_2354, iv c14_2354, iv c15_2354, iv c8_2354, u17_2354, u18_2354] [.int 1, .int 0, .ref d])) rfl (by rw [hml]; rfl) (Steps.refl _) (argsL := [.int 0, .int 1]) (rest := []) (lenOf pd_2 rfl) rfl (by show 2 * 0 + _ ≤ _; exact Nat.le_of_eq rfl) (hb hby at_415) (fun _ _ => ⟨rfl, (rfl : Tl2354.heap = _), (by decide : 18 + 0 ≤ _), (by decide : 137 + 0 ≤ _)⟩)
   dsimp only [Pt.U, Pt.locs, Pt.cells, Pt.slots] at X2360 l2360 y2360 z2360 st2360 hQ2360
   subst l2360 y2360 z2360
   obtain ⟨rfl, N2360q, w2360⟩ := hQ2360
   have N2360 := Fr.app Nl2354 N2360q
   have X2360 : Stand p l e _ s m _ below meth c T2360 _ 18 137 := X2360
   have k_2361 : Go p.tables e below B0 (sf T2360 m 420 #[iv q1, iv q2, iv q3, u3_2354, u4_2354, u5_2354, rv b, rv d, iv c8_2354, iv c9_2354, iv c10_2354, iv c11_2354, u12_2354, u13_2354, iv c14_2354, iv c15_2354, iv c8_2354, u17_2354, u18_2354] [.ref d]) := fun t q => by
    refine k_2358 t ?_
    refine st2360.trans ?_
    show Steps _ _ _ (sf T2360 m 418 #[iv q1, iv q2, iv q3, u3_2354, u4_2354, u5_2354, rv b, rv d, iv c8_2354, iv c9_2354, iv c10_2354, iv c11_2354, u12_2354, u13_2354, iv c14_2354, iv c15_2354, iv c8_2354, u17_2354, u18_2354] []) _
    refine s_aload X2360.here hx (hb hby at_418) rfl rfl ?_
    exact q
   obtain ⟨z2362, c2362, hf2362⟩ := Option.bind_eq_some_iff.mp hf2359
   obtain ⟨cq2363, kq2363, q2363a, q2363b, q2363c⟩ := isOf hZ (rfl : T2360.heap = _) (w2360.2.1.2.2.1)
   obtain ⟨_, _, ⟨T2363, L2363, k2363, n2363⟩, -, X2363, ⟨Lc2363, hQ2363, l2363, y2363, z2363⟩, st2363⟩ := X2360.virtualBack hx (y := y_13) (z := y_13) hown (mvT hZ (hw _ (wd 100 rfl))) (mvT hZ (hw _ (wd 101 rfl))) (notFace_of_selects (args := #[]) (mvT hZ (hw _ (wd 103 rfl)))) (mvT hZ (hw _ (wd 103 rfl))) (mvT hZ (hw _ (wd 102 rfl))) (by decide) (backOf (W := 0) (fFull_ok l Z a0 hw [] b d pt z2359.2  T2360.heap n0 w2360 z2362 c2362) hZ (hw _ (wd 104 rfl)) (hw _ (wd 57 rfl)) (by decide) (by decide)) q2363a q2363c (g := (mkF m 420 #[iv q1, iv q2, iv q3, u3_2354, u4_2354, u5_2354, rv b, rv d, iv c8_2354, iv c9_2354, iv c10_2354, iv c11_2354, u12_2354, u13_2354, iv c14_2354, iv c15_2354, iv c8_2354, u17_2354, u18_2354] [.ref d])) rfl (by rw [hml]; rfl) (Steps.refl _) (argsL := []) (rest := []) (lenOf pd_5 rfl) rfl (by show 2 * 0 + _ ≤ _; exact Nat.le_of_eq rfl) (hb hby at_420) (fun _ _ => ⟨rfl, (rfl : T2360.heap = _), (by decide : 18 + 0 ≤ _), (by decide : 137 + 0 ≤ _)⟩)
   dsimp only [Pt.U, Pt.locs, Pt.cells, Pt.slots] at X2363 l2363 y2363 z2363 st2363 hQ2363
   subst l2363 y2363 z2363
   obtain ⟨rfl, N2363q, w2363⟩ := hQ2363
   have N2363 := Fr.app N2360 N2363q
   have X2363 : Stand p l e _ s m _ below meth c T2363 _ 18 137 := X2363
   have k_2364 : Go p.tables e below B0 (sf T2363 m 425 #[iv q1, iv q2, iv q3, u3_2354, u4_2354, u5_2354, rv b, rv d, iv c8_2354, iv c9_2354, iv c10_2354, iv c11_2354, u12_2354, u13_2354, iv c14_2354, iv c15_2354, .val (.int z2362.1), u17_2354, u18_2354] []) := fun t q => by
    refine k_2361 t ?_
    refine st2363.trans ?_
    show Steps _ _ _ (sf T2363 m 423 #[iv q1, iv q2, iv q3, u3_2354, u4_2354, u5_2354, rv b, rv d, iv c8_2354, iv c9_2354, iv c10_2354, iv c11_2354, u12_2354, u13_2354, iv c14_2354, iv c15_2354, iv c8_2354, u17_2354, u18_2354] [(.int z2362.1)]) _
    refine s_istore X2363.here hx (hb hby at_423) (l' := #[iv q1, iv q2, iv q3, u3_2354, u4_2354, u5_2354, rv b, rv d, iv c8_2354, iv c9_2354, iv c10_2354, iv c11_2354, u12_2354, u13_2354, iv c14_2354, iv c15_2354, .val (.int z2362.1), u17_2354, u18_2354]) rfl ?_
    exact q
   exact lp425  b d pt z2362.2 c8_2354 c9_2354 c10_2354 c11_2354 c15_2354 z2362.1 u3_2354 u4_2354 u5_2354 u12_2354 u13_2354 (iv c14_2354) u17_2354 u18_2354 T2363 _ X2363 N2363 w2363 hu3_2354 hu4_2354 hu5_2354 hu12_2354 hu13_2354 (Or.inr ⟨_, rfl, rfl⟩) hu17_2354 hu18_2354 k_2364 hf2362
 have lp306 : ∀ (b d : Addr) (pt : Nat → Addr) (σl2365 : St) (c4_2365 : Int32)(c8_2365 : Int32)(c9_2365 : Int32)(c10_2365 : Int32)(c11_2365 : Int32)(c13_2365 : Int32)(c14_2365 : Int32) (u3_2365 : Slot)(u5_2365 : Slot)(u12_2365 : Slot) (Tl2365 : State) (Ll2365 : List Loc), Stand p l e room_1 s m #[.int q1, .int q2, .int q3] below meth c Tl2365 Ll2365 18 137 → Fr n0 Ll2365 → Wd Z n0 Tl2365.heap b d pt σl2365 → (u3_2365 = nu ∨ ∃ w, u3_2365 = .val w ∧ w.category = 1) → (u5_2365 = nu ∨ ∃ w, u5_2365 = .val w ∧ w.category = 1) → (u12_2365 = nu ∨ ∃ w, u12_2365 = .val w ∧ w.category = 1) → Go p.tables e below B0 (sf Tl2365 m 306 #[iv q1, iv q2, iv q3, u3_2365, iv c4_2365, u5_2365, rv b, rv d, iv c8_2365, iv c9_2365, iv c10_2365, iv c11_2365, u12_2365, iv c13_2365, iv c14_2365, nu, nu, nu, nu] []) → fLaw_L306 nn ss mm σl2365 c4_2365 c8_2365 c9_2365 c10_2365 c11_2365 c13_2365 c14_2365 = some r → ∃ s₂ o, Steps p.tables e below B0 s₂ ∧ s₂.status = .running ∧ Ended s₂ below o ∧ (∃ v L, o = .returned v ∧ Q0 n0 v s₂.heap L ∧ FrameEnd s o s₂ L room_1.cells room_1.slots) := by
  intro b d pt σl2365 c4_2365 c8_2365 c9_2365 c10_2365 c11_2365 c13_2365 c14_2365 u3_2365 u5_2365 u12_2365 Tl2365 Ll2365 Xl2365 Nl2365 Wl2365 hu3_2365 hu5_2365 hu12_2365 kl2365 hl2365
  unfold fLaw_L306 at hl2365
  have k_2366 : Go p.tables e below B0 (sf Tl2365 m 308 #[iv q1, iv q2, iv q3, u3_2365, iv c4_2365, u5_2365, rv b, rv d, iv c8_2365, iv c9_2365, iv c10_2365, iv c11_2365, u12_2365, iv c13_2365, iv c14_2365, nu, nu, nu, nu] [.int c14_2365]) := fun t q => by
   refine kl2365 t ?_
   refine s_iload Xl2365.here hx (hb hby at_306) rfl ?_
   exact q
  by_cases hc2367 : c14_2365 = (0 : Int32)
  ·rw [if_pos hc2367] at hl2365
   have k_2368 : Go p.tables e below B0 (sf Tl2365 m 392 #[iv q1, iv q2, iv q3, u3_2365, iv c4_2365, u5_2365, rv b, rv d, iv c8_2365, iv c9_2365, iv c10_2365, iv c11_2365, u12_2365, iv c13_2365, iv c14_2365, nu, nu, nu, nu] [.int c8_2365, .int c10_2365]) := fun t q => by
    refine k_2366 t ?_
    refine s_ifYes Xl2365.here hx (pc' := 388) (hb hby at_308) ((if0 _ _).trans (teq hc2367).1) (by decide) (by decide) ?_
    refine s_iload Xl2365.here hx (hb hby at_388) rfl ?_
    refine s_iload Xl2365.here hx (hb hby at_390) rfl ?_
    exact q
   have k_2369 : Go p.tables e below B0 (sf Tl2365 m 400 #[iv q1, iv q2, iv q3, u3_2365, iv c4_2365, u5_2365, rv b, rv d, iv c8_2365, iv c9_2365, iv c10_2365, iv c11_2365, u12_2365, iv c13_2365, iv c14_2365, nu, nu, nu, nu] [(.int (if c10_2365 = c8_2365 then (1 : Int32) else (0 : Int32)))]) := by
    by_cases hc2369 : c10_2365 = c8_2365
    ·rw [if_pos hc2369]; exact fun t q => by
      refine k_2368 t ?_
      refine s_icmpNo Xl2365.here hx (hb hby at_392) (teq hc2369).2 ?_
      refine s_iconst (x := 1) Xl2365.here hx (hb hby at_395) rfl ?_
      refine s_goto Xl2365.here hx (pc' := 400) (hb hby at_396) (by decide) (by decide) ?_
      exact q
    ·rw [if_neg hc2369]; exact fun t q => by
      refine k_2368 t ?_
      refine s_icmpYes Xl2365.here hx (pc' := 399) (hb hby at_392) (feq hc2369).2 (by decide) (by decide) ?_
      refine s_iconst (x := 0) Xl2365.here hx (hb hby at_399) rfl ?_
      exact q
   have k_2370 : Go p.tables e below B0 (sf Tl2365 m 402 #[iv q1, iv q2, iv q3, u3_2365, iv c4_2365, u5_2365, rv b, rv d, iv c8_2365, iv c9_2365, iv c10_2365, iv c11_2365, u12_2365, iv c13_2365, iv c14_2365, .val (.int (if c10_2365 = c8_2365 then (1 : Int32) else (0 : Int32))), nu, nu, nu] []) := fun t q => by
    refine k_2369 t ?_
    refine s_istore Xl2365.here hx (hb hby at_400) (l' := #[iv q1, iv q2, iv q3, u3_2365, iv c4_2365, u5_2365, rv b, rv d, iv c8_2365, iv c9_2365, iv c10_2365, iv c11_2365, u12_2365, iv c13_2365, iv c14_2365, .val (.int (if c10_2365 = c8_2365 then (1 : Int32) else (0 : Int32))), nu, nu, nu]) rfl ?_
    exact q
   exact lp402  b d pt σl2365 c8_2365 c9_2365 c10_2365 c11_2365 c14_2365 (if c10_2365 = c8_2365 then (1 : Int32) else (0 : Int32)) u3_2365 (iv c4_2365) u5_2365 u12_2365 (iv c13_2365) (nu) (nu) (nu) Tl2365 _ Xl2365 Nl2365 Wl2365 hu3_2365 (Or.inr ⟨_, rfl, rfl⟩) hu5_2365 hu12_2365 (Or.inr ⟨_, rfl, rfl⟩) (Or.inl rfl) (Or.inl rfl) (Or.inl rfl) k_2370 hl2365
  ·rw [if_neg hc2367] at hl2365
   have k_2371 : Go p.tables e below B0 (sf Tl2365 m 326 #[iv q1, iv q2, iv q3, u3_2365, iv c4_2365, u5_2365, rv b, rv d, iv c8_2365, iv c9_2365, iv c10_2365, iv c11_2365, u12_2365, iv c13_2365, iv c14_2365, nu, .val (.int (c4_2365 - c13_2365)), iv c13_2365, nu] [.int c13_2365, (.int (c4_2365 - c13_2365))]) := fun t q => by
    refine k_2366 t ?_
    refine s_ifNo Xl2365.here hx (hb hby at_308) ((if0 _ _).trans (feq hc2367).1) ?_
    refine s_iload Xl2365.here hx (hb hby at_311) rfl ?_
    refine s_iload Xl2365.here hx (hb hby at_313) rfl ?_
    refine s_isub Xl2365.here hx (hb hby at_315) ?_
    refine s_istore Xl2365.here hx (hb hby at_316) (l' := #[iv q1, iv q2, iv q3, u3_2365, iv c4_2365, u5_2365, rv b, rv d, iv c8_2365, iv c9_2365, iv c10_2365, iv c11_2365, u12_2365, iv c13_2365, iv c14_2365, nu, .val (.int (c4_2365 - c13_2365)), nu, nu]) rfl ?_
    refine s_iload Xl2365.here hx (hb hby at_318) rfl ?_
    refine s_istore Xl2365.here hx (hb hby at_320) (l' := #[iv q1, iv q2, iv q3, u3_2365, iv c4_2365, u5_2365, rv b, rv d, iv c8_2365, iv c9_2365, iv c10_2365, iv c11_2365, u12_2365, iv c13_2365, iv c14_2365, nu, .val (.int (c4_2365 - c13_2365)), iv c13_2365, nu]) rfl ?_
    refine s_iload Xl2365.here hx (hb hby at_322) rfl ?_
    refine s_iload Xl2365.here hx (hb hby at_324) rfl ?_
    exact q
   obtain ⟨_, _, ⟨T2372, L2372, k2372, n2372⟩, -, X2372, ⟨Lc2372, hQ2372, l2372, y2372, z2372⟩, st2372⟩ := Jvm.LawKit.callS Xl2365 hx (y := y_0) hown (mvT hZ (hw _ (wd 176 rfl))) (mvT hZ (hw _ (wd 19 rfl))) (mvT hZ (hw _ (wd 16 rfl))) (mvT hZ (hw _ (wd 20 rfl))) (by decide) (backOf (W := 0) (m_max l Z a0 hw [] (c4_2365 - c13_2365) c13_2365 Tl2365.heap n0) hZ (hw _ (wd 20 rfl)) (hw _ (wd 16 rfl)) (by decide) (by decide)) (g := (mkF m 326 #[iv q1, iv q2, iv q3, u3_2365, iv c4_2365, u5_2365, rv b, rv d, iv c8_2365, iv c9_2365, iv c10_2365, iv c11_2365, u12_2365, iv c13_2365, iv c14_2365, nu, .val (.int (c4_2365 - c13_2365)), iv c13_2365, nu] [.int c13_2365, (.int (c4_2365 - c13_2365))])) rfl (by rw [hml]; rfl) (argsL := [(.int (c4_2365 - c13_2365)), .int c13_2365]) (rest := []) (lenOf pd_0 rfl) rfl (by show 2 * 0 + _ ≤ _; exact Nat.le_of_eq rfl) (hb hby at_326) (fun _ _ => ⟨rfl, (rfl : Tl2365.heap = _), (by decide : 18 + 0 ≤ _), (by decide : 137 + 0 ≤ _)⟩)
   dsimp only [Pt.U, Pt.locs, Pt.cells, Pt.slots] at X2372 l2372 y2372 z2372 st2372 hQ2372
   subst l2372 y2372 z2372
   obtain ⟨rfl, N2372q, e2372⟩ := hQ2372
   have N2372 := Fr.app Nl2365 N2372q
   have X2372 : Stand p l e _ s m _ below meth c T2372 _ 18 137 := X2372
   have k_2373 : Go p.tables e below B0 (sf T2372 m 334 #[iv q1, iv q2, iv q3, u3_2365, iv c4_2365, u5_2365, rv b, rv d, iv c8_2365, iv c9_2365, iv c10_2365, iv c11_2365, u12_2365, iv c13_2365, iv c14_2365, nu, .val (.int (c4_2365 - c13_2365)), iv c13_2365, .val (.int (mxI (c4_2365 - c13_2365) c13_2365))] [.int 2, (.int (mxI (c4_2365 - c13_2365) c13_2365))]) := fun t q => by
    refine k_2371 t ?_
    refine st2372 _ ?_
    show Steps _ _ _ (sf T2372 m 329 #[iv q1, iv q2, iv q3, u3_2365, iv c4_2365, u5_2365, rv b, rv d, iv c8_2365, iv c9_2365, iv c10_2365, iv c11_2365, u12_2365, iv c13_2365, iv c14_2365, nu, .val (.int (c4_2365 - c13_2365)), iv c13_2365, nu] [(.int (mxI (c4_2365 - c13_2365) c13_2365))]) _
    refine s_istore X2372.here hx (hb hby at_329) (l' := #[iv q1, iv q2, iv q3, u3_2365, iv c4_2365, u5_2365, rv b, rv d, iv c8_2365, iv c9_2365, iv c10_2365, iv c11_2365, u12_2365, iv c13_2365, iv c14_2365, nu, .val (.int (c4_2365 - c13_2365)), iv c13_2365, .val (.int (mxI (c4_2365 - c13_2365) c13_2365))]) rfl ?_
    refine s_iload X2372.here hx (hb hby at_331) rfl ?_
    refine s_iconst (x := 2) X2372.here hx (hb hby at_333) rfl ?_
    exact q
   by_cases hc2374 : (mxI (c4_2365 - c13_2365) c13_2365) < (2 : Int32)
   ·rw [if_pos hc2374] at hl2365
    have k_2375 : Go p.tables e below B0 (sf T2372 m 340 #[iv q1, iv q2, iv q3, u3_2365, iv c4_2365, u5_2365, rv b, rv d, iv c8_2365, iv c9_2365, iv c10_2365, iv c11_2365, u12_2365, iv c13_2365, iv c14_2365, nu, .val (.int (c4_2365 - c13_2365)), iv c13_2365, .val (.int (mxI (c4_2365 - c13_2365) c13_2365))] [(.int (-1 : Int32)), .int c10_2365]) := fun t q => by
     refine k_2373 t ?_
     refine s_icmpNo X2372.here hx (hb hby at_334) (tlt hc2374).2.1 ?_
     refine s_iload X2372.here hx (hb hby at_337) rfl ?_
     refine s_iconst (x := -1) X2372.here hx (hb hby at_339) rfl ?_
     exact q
    have k_2376 : Go p.tables e below B0 (sf T2372 m 348 #[iv q1, iv q2, iv q3, u3_2365, iv c4_2365, u5_2365, rv b, rv d, iv c8_2365, iv c9_2365, iv c10_2365, iv c11_2365, u12_2365, iv c13_2365, iv c14_2365, nu, .val (.int (c4_2365 - c13_2365)), iv c13_2365, .val (.int (mxI (c4_2365 - c13_2365) c13_2365))] [(.int (if c10_2365 = (-1 : Int32) then (1 : Int32) else (0 : Int32)))]) := by
     by_cases hc2376 : c10_2365 = (-1 : Int32)
     ·rw [if_pos hc2376]; exact fun t q => by
       refine k_2375 t ?_
       refine s_icmpNo X2372.here hx (hb hby at_340) (teq hc2376).2 ?_
       refine s_iconst (x := 1) X2372.here hx (hb hby at_343) rfl ?_
       refine s_goto X2372.here hx (pc' := 348) (hb hby at_344) (by decide) (by decide) ?_
       exact q
     ·rw [if_neg hc2376]; exact fun t q => by
       refine k_2375 t ?_
       refine s_icmpYes X2372.here hx (pc' := 347) (hb hby at_340) (feq hc2376).2 (by decide) (by decide) ?_
       refine s_iconst (x := 0) X2372.here hx (hb hby at_347) rfl ?_
       exact q
    have k_2377 : Go p.tables e below B0 (sf T2372 m 402 #[iv q1, iv q2, iv q3, u3_2365, iv c4_2365, u5_2365, rv b, rv d, iv c8_2365, iv c9_2365, iv c10_2365, iv c11_2365, u12_2365, iv c13_2365, iv c14_2365, .val (.int (if c10_2365 = (-1 : Int32) then (1 : Int32) else (0 : Int32))), .val (.int (c4_2365 - c13_2365)), iv c13_2365, .val (.int (mxI (c4_2365 - c13_2365) c13_2365))] []) := fun t q => by
     refine k_2376 t ?_
     refine s_istore X2372.here hx (hb hby at_348) (l' := #[iv q1, iv q2, iv q3, u3_2365, iv c4_2365, u5_2365, rv b, rv d, iv c8_2365, iv c9_2365, iv c10_2365, iv c11_2365, u12_2365, iv c13_2365, iv c14_2365, .val (.int (if c10_2365 = (-1 : Int32) then (1 : Int32) else (0 : Int32))), .val (.int (c4_2365 - c13_2365)), iv c13_2365, .val (.int (mxI (c4_2365 - c13_2365) c13_2365))]) rfl ?_
     refine s_goto X2372.here hx (pc' := 385) (hb hby at_350) (by decide) (by decide) ?_
     refine s_goto X2372.here hx (pc' := 402) (hb hby at_385) (by decide) (by decide) ?_
     exact q
    exact lp402  b d pt σl2365 c8_2365 c9_2365 c10_2365 c11_2365 c14_2365 (if c10_2365 = (-1 : Int32) then (1 : Int32) else (0 : Int32)) u3_2365 (iv c4_2365) u5_2365 u12_2365 (iv c13_2365) (.val (.int (c4_2365 - c13_2365))) (iv c13_2365) (.val (.int (mxI (c4_2365 - c13_2365) c13_2365))) T2372 _ X2372 N2372 (by rw [e2372]; exact Wl2365) hu3_2365 (Or.inr ⟨_, rfl, rfl⟩) hu5_2365 hu12_2365 (Or.inr ⟨_, rfl, rfl⟩) (Or.inr ⟨_, rfl, rfl⟩) (Or.inr ⟨_, rfl, rfl⟩) (Or.inr ⟨_, rfl, rfl⟩) k_2377 hl2365
   ·rw [if_neg hc2374] at hl2365
    have k_2378 : Go p.tables e below B0 (sf T2372 m 355 #[iv q1, iv q2, iv q3, u3_2365, iv c4_2365, u5_2365, rv b, rv d, iv c8_2365, iv c9_2365, iv c10_2365, iv c11_2365, u12_2365, iv c13_2365, iv c14_2365, nu, .val (.int (c4_2365 - c13_2365)), iv c13_2365, .val (.int (mxI (c4_2365 - c13_2365) c13_2365))] [.int c10_2365]) := fun t q => by
     refine k_2373 t ?_
     refine s_icmpYes X2372.here hx (pc' := 353) (hb hby at_334) (flt hc2374).2.1 (by decide) (by decide) ?_
     refine s_iload X2372.here hx (hb hby at_353) rfl ?_
     exact q
    by_cases hc2379 : c10_2365 = (0 : Int32)
    ·rw [if_pos hc2379] at hl2365
     have k_2380 : Go p.tables e below B0 (sf T2372 m 362 #[iv q1, iv q2, iv q3, u3_2365, iv c4_2365, u5_2365, rv b, rv d, iv c8_2365, iv c9_2365, iv c10_2365, iv c11_2365, u12_2365, iv c13_2365, iv c14_2365, nu, .val (.int (c4_2365 - c13_2365)), iv c13_2365, .val (.int (mxI (c4_2365 - c13_2365) c13_2365))] [(.int (mxI (c4_2365 - c13_2365) c13_2365)), (.int (c4_2365 - c13_2365))]) := fun t q => by
      refine k_2378 t ?_
      refine s_ifNo X2372.here hx (hb hby at_355) ((if0 _ _).trans (teq hc2379).2) ?_
      refine s_iload X2372.here hx (hb hby at_358) rfl ?_
      refine s_iload X2372.here hx (hb hby at_360) rfl ?_
      exact q
     by_cases hc2381 : (c4_2365 - c13_2365) = (mxI (c4_2365 - c13_2365) c13_2365)
     ·rw [if_pos hc2381] at hl2365
      have k_2382 : Go p.tables e below B0 (sf T2372 m 402 #[iv q1, iv q2, iv q3, u3_2365, iv c4_2365, u5_2365, rv b, rv d, iv c8_2365, iv c9_2365, iv c10_2365, iv c11_2365, u12_2365, iv c13_2365, iv c14_2365, iv 1, .val (.int (c4_2365 - c13_2365)), iv c13_2365, .val (.int (mxI (c4_2365 - c13_2365) c13_2365))] []) := fun t q => by
       refine k_2380 t ?_
       refine s_icmpYes X2372.here hx (pc' := 378) (hb hby at_362) (teq hc2381).1 (by decide) (by decide) ?_
       refine s_iconst (x := 1) X2372.here hx (hb hby at_378) rfl ?_
       refine s_goto X2372.here hx (pc' := 383) (hb hby at_379) (by decide) (by decide) ?_
       refine s_istore X2372.here hx (hb hby at_383) (l' := #[iv q1, iv q2, iv q3, u3_2365, iv c4_2365, u5_2365, rv b, rv d, iv c8_2365, iv c9_2365, iv c10_2365, iv c11_2365, u12_2365, iv c13_2365, iv c14_2365, iv 1, .val (.int (c4_2365 - c13_2365)), iv c13_2365, .val (.int (mxI (c4_2365 - c13_2365) c13_2365))]) rfl ?_
       refine s_goto X2372.here hx (pc' := 402) (hb hby at_385) (by decide) (by decide) ?_
       exact q
      exact lp402  b d pt σl2365 c8_2365 c9_2365 c10_2365 c11_2365 c14_2365 (1 : Int32) u3_2365 (iv c4_2365) u5_2365 u12_2365 (iv c13_2365) (.val (.int (c4_2365 - c13_2365))) (iv c13_2365) (.val (.int (mxI (c4_2365 - c13_2365) c13_2365))) T2372 _ X2372 N2372 (by rw [e2372]; exact Wl2365) hu3_2365 (Or.inr ⟨_, rfl, rfl⟩) hu5_2365 hu12_2365 (Or.inr ⟨_, rfl, rfl⟩) (Or.inr ⟨_, rfl, rfl⟩) (Or.inr ⟨_, rfl, rfl⟩) (Or.inr ⟨_, rfl, rfl⟩) k_2382 hl2365
     ·rw [if_neg hc2381] at hl2365
      have k_2383 : Go p.tables e below B0 (sf T2372 m 368 #[iv q1, iv q2, iv q3, u3_2365, iv c4_2365, u5_2365, rv b, rv d, iv c8_2365, iv c9_2365, iv c10_2365, iv c11_2365, u12_2365, iv c13_2365, iv c14_2365, nu, .val (.int (c4_2365 - c13_2365)), iv c13_2365, .val (.int (mxI (c4_2365 - c13_2365) c13_2365))] [.int 1, .int c10_2365]) := fun t q => by
       refine k_2380 t ?_
       refine s_icmpNo X2372.here hx (hb hby at_362) (feq hc2381).1 ?_
       refine s_iload X2372.here hx (hb hby at_365) rfl ?_
       refine s_iconst (x := 1) X2372.here hx (hb hby at_367) rfl ?_
       exact q
      by_cases hc2384 : c10_2365 = (1 : Int32)
      ·rw [if_pos hc2384] at hl2365
       have k_2385 : Go p.tables e below B0 (sf T2372 m 375 #[iv q1, iv q2, iv q3, u3_2365, iv c4_2365, u5_2365, rv b, rv d, iv c8_2365, iv c9_2365, iv c10_2365, iv c11_2365, u12_2365, iv c13_2365, iv c14_2365, nu, .val (.int (c4_2365 - c13_2365)), iv c13_2365, .val (.int (mxI (c4_2365 - c13_2365) c13_2365))] [(.int (mxI (c4_2365 - c13_2365) c13_2365)), .int c13_2365]) := fun t q => by
        refine k_2383 t ?_
        refine s_icmpNo X2372.here hx (hb hby at_368) (teq hc2384).2 ?_
        refine s_iload X2372.here hx (hb hby at_371) rfl ?_
        refine s_iload X2372.here hx (hb hby at_373) rfl ?_
        exact q
       have k_2386 : Go p.tables e below B0 (sf T2372 m 383 #[iv q1, iv q2, iv q3, u3_2365, iv c4_2365, u5_2365, rv b, rv d, iv c8_2365, iv c9_2365, iv c10_2365, iv c11_2365, u12_2365, iv c13_2365, iv c14_2365, nu, .val (.int (c4_2365 - c13_2365)), iv c13_2365, .val (.int (mxI (c4_2365 - c13_2365) c13_2365))] [(.int (if c13_2365 = (mxI (c4_2365 - c13_2365) c13_2365) then (1 : Int32) else (0 : Int32)))]) := by
        by_cases hc2386 : c13_2365 = (mxI (c4_2365 - c13_2365) c13_2365)
        ·rw [if_pos hc2386]; exact fun t q => by
          refine k_2385 t ?_
          refine s_icmpNo X2372.here hx (hb hby at_375) (teq hc2386).2 ?_
          refine s_iconst (x := 1) X2372.here hx (hb hby at_378) rfl ?_
          refine s_goto X2372.here hx (pc' := 383) (hb hby at_379) (by decide) (by decide) ?_
          exact q
        ·rw [if_neg hc2386]; exact fun t q => by
          refine k_2385 t ?_
          refine s_icmpYes X2372.here hx (pc' := 382) (hb hby at_375) (feq hc2386).2 (by decide) (by decide) ?_
          refine s_iconst (x := 0) X2372.here hx (hb hby at_382) rfl ?_
          exact q
       have k_2387 : Go p.tables e below B0 (sf T2372 m 402 #[iv q1, iv q2, iv q3, u3_2365, iv c4_2365, u5_2365, rv b, rv d, iv c8_2365, iv c9_2365, iv c10_2365, iv c11_2365, u12_2365, iv c13_2365, iv c14_2365, .val (.int (if c13_2365 = (mxI (c4_2365 - c13_2365) c13_2365) then (1 : Int32) else (0 : Int32))), .val (.int (c4_2365 - c13_2365)), iv c13_2365, .val (.int (mxI (c4_2365 - c13_2365) c13_2365))] []) := fun t q => by
        refine k_2386 t ?_
        refine s_istore X2372.here hx (hb hby at_383) (l' := #[iv q1, iv q2, iv q3, u3_2365, iv c4_2365, u5_2365, rv b, rv d, iv c8_2365, iv c9_2365, iv c10_2365, iv c11_2365, u12_2365, iv c13_2365, iv c14_2365, .val (.int (if c13_2365 = (mxI (c4_2365 - c13_2365) c13_2365) then (1 : Int32) else (0 : Int32))), .val (.int (c4_2365 - c13_2365)), iv c13_2365, .val (.int (mxI (c4_2365 - c13_2365) c13_2365))]) rfl ?_
        refine s_goto X2372.here hx (pc' := 402) (hb hby at_385) (by decide) (by decide) ?_
        exact q
       exact lp402  b d pt σl2365 c8_2365 c9_2365 c10_2365 c11_2365 c14_2365 (if c13_2365 = (mxI (c4_2365 - c13_2365) c13_2365) then (1 : Int32) else (0 : Int32)) u3_2365 (iv c4_2365) u5_2365 u12_2365 (iv c13_2365) (.val (.int (c4_2365 - c13_2365))) (iv c13_2365) (.val (.int (mxI (c4_2365 - c13_2365) c13_2365))) T2372 _ X2372 N2372 (by rw [e2372]; exact Wl2365) hu3_2365 (Or.inr ⟨_, rfl, rfl⟩) hu5_2365 hu12_2365 (Or.inr ⟨_, rfl, rfl⟩) (Or.inr ⟨_, rfl, rfl⟩) (Or.inr ⟨_, rfl, rfl⟩) (Or.inr ⟨_, rfl, rfl⟩) k_2387 hl2365
      ·rw [if_neg hc2384] at hl2365
       have k_2388 : Go p.tables e below B0 (sf T2372 m 402 #[iv q1, iv q2, iv q3, u3_2365, iv c4_2365, u5_2365, rv b, rv d, iv c8_2365, iv c9_2365, iv c10_2365, iv c11_2365, u12_2365, iv c13_2365, iv c14_2365, iv 0, .val (.int (c4_2365 - c13_2365)), iv c13_2365, .val (.int (mxI (c4_2365 - c13_2365) c13_2365))] []) := fun t q => by
        refine k_2383 t ?_
        refine s_icmpYes X2372.here hx (pc' := 382) (hb hby at_368) (feq hc2384).2 (by decide) (by decide) ?_
        refine s_iconst (x := 0) X2372.here hx (hb hby at_382) rfl ?_
        refine s_istore X2372.here hx (hb hby at_383) (l' := #[iv q1, iv q2, iv q3, u3_2365, iv c4_2365, u5_2365, rv b, rv d, iv c8_2365, iv c9_2365, iv c10_2365, iv c11_2365, u12_2365, iv c13_2365, iv c14_2365, iv 0, .val (.int (c4_2365 - c13_2365)), iv c13_2365, .val (.int (mxI (c4_2365 - c13_2365) c13_2365))]) rfl ?_
        refine s_goto X2372.here hx (pc' := 402) (hb hby at_385) (by decide) (by decide) ?_
        exact q
       exact lp402  b d pt σl2365 c8_2365 c9_2365 c10_2365 c11_2365 c14_2365 (0 : Int32) u3_2365 (iv c4_2365) u5_2365 u12_2365 (iv c13_2365) (.val (.int (c4_2365 - c13_2365))) (iv c13_2365) (.val (.int (mxI (c4_2365 - c13_2365) c13_2365))) T2372 _ X2372 N2372 (by rw [e2372]; exact Wl2365) hu3_2365 (Or.inr ⟨_, rfl, rfl⟩) hu5_2365 hu12_2365 (Or.inr ⟨_, rfl, rfl⟩) (Or.inr ⟨_, rfl, rfl⟩) (Or.inr ⟨_, rfl, rfl⟩) (Or.inr ⟨_, rfl, rfl⟩) k_2388 hl2365
    ·rw [if_neg hc2379] at hl2365
     have k_2389 : Go p.tables e below B0 (sf T2372 m 368 #[iv q1, iv q2, iv q3, u3_2365, iv c4_2365, u5_2365, rv b, rv d, iv c8_2365, iv c9_2365, iv c10_2365, iv c11_2365, u12_2365, iv c13_2365, iv c14_2365, nu, .val (.int (c4_2365 - c13_2365)), iv c13_2365, .val (.int (mxI (c4_2365 - c13_2365) c13_2365))] [.int 1, .int c10_2365]) := fun t q => by
      refine k_2378 t ?_
      refine s_ifYes X2372.here hx (pc' := 365) (hb hby at_355) ((if0 _ _).trans (feq hc2379).2) (by decide) (by decide) ?_
      refine s_iload X2372.here hx (hb hby at_365) rfl ?_
      refine s_iconst (x := 1) X2372.here hx (hb hby at_367) rfl ?_
      exact q
     by_cases hc2390 : c10_2365 = (1 : Int32)
     ·rw [if_pos hc2390] at hl2365
      have k_2391 : Go p.tables e below B0 (sf T2372 m 375 #[iv q1, iv q2, iv q3, u3_2365, iv c4_2365, u5_2365, rv b, rv d, iv c8_2365, iv c9_2365, iv c10_2365, iv c11_2365, u12_2365, iv c13_2365, iv c14_2365, nu, .val (.int (c4_2365 - c13_2365)), iv c13_2365, .val (.int (mxI (c4_2365 - c13_2365) c13_2365))] [(.int (mxI (c4_2365 - c13_2365) c13_2365)), .int c13_2365]) := fun t q => by
       refine k_2389 t ?_
       refine s_icmpNo X2372.here hx (hb hby at_368) (teq hc2390).2 ?_
       refine s_iload X2372.here hx (hb hby at_371) rfl ?_
       refine s_iload X2372.here hx (hb hby at_373) rfl ?_
       exact q
      have k_2392 : Go p.tables e below B0 (sf T2372 m 383 #[iv q1, iv q2, iv q3, u3_2365, iv c4_2365, u5_2365, rv b, rv d, iv c8_2365, iv c9_2365, iv c10_2365, iv c11_2365, u12_2365, iv c13_2365, iv c14_2365, nu, .val (.int (c4_2365 - c13_2365)), iv c13_2365, .val (.int (mxI (c4_2365 - c13_2365) c13_2365))] [(.int (if c13_2365 = (mxI (c4_2365 - c13_2365) c13_2365) then (1 : Int32) else (0 : Int32)))]) := by
       by_cases hc2392 : c13_2365 = (mxI (c4_2365 - c13_2365) c13_2365)
       ·rw [if_pos hc2392]; exact fun t q => by
         refine k_2391 t ?_
         refine s_icmpNo X2372.here hx (hb hby at_375) (teq hc2392).2 ?_
         refine s_iconst (x := 1) X2372.here hx (hb hby at_378) rfl ?_
         refine s_goto X2372.here hx (pc' := 383) (hb hby at_379) (by decide) (by decide) ?_
         exact q
       ·rw [if_neg hc2392]; exact fun t q => by
         refine k_2391 t ?_
         refine s_icmpYes X2372.here hx (pc' := 382) (hb hby at_375) (feq hc2392).2 (by decide) (by decide) ?_
         refine s_iconst (x := 0) X2372.here hx (hb hby at_382) rfl ?_
         exact q
      have k_2393 : Go p.tables e below B0 (sf T2372 m 402 #[iv q1, iv q2, iv q3, u3_2365, iv c4_2365, u5_2365, rv b, rv d, iv c8_2365, iv c9_2365, iv c10_2365, iv c11_2365, u12_2365, iv c13_2365, iv c14_2365, .val (.int (if c13_2365 = (mxI (c4_2365 - c13_2365) c13_2365) then (1 : Int32) else (0 : Int32))), .val (.int (c4_2365 - c13_2365)), iv c13_2365, .val (.int (mxI (c4_2365 - c13_2365) c13_2365))] []) := fun t q => by
       refine k_2392 t ?_
       refine s_istore X2372.here hx (hb hby at_383) (l' := #[iv q1, iv q2, iv q3, u3_2365, iv c4_2365, u5_2365, rv b, rv d, iv c8_2365, iv c9_2365, iv c10_2365, iv c11_2365, u12_2365, iv c13_2365, iv c14_2365, .val (.int (if c13_2365 = (mxI (c4_2365 - c13_2365) c13_2365) then (1 : Int32) else (0 : Int32))), .val (.int (c4_2365 - c13_2365)), iv c13_2365, .val (.int (mxI (c4_2365 - c13_2365) c13_2365))]) rfl ?_
       refine s_goto X2372.here hx (pc' := 402) (hb hby at_385) (by decide) (by decide) ?_
       exact q
      exact lp402  b d pt σl2365 c8_2365 c9_2365 c10_2365 c11_2365 c14_2365 (if c13_2365 = (mxI (c4_2365 - c13_2365) c13_2365) then (1 : Int32) else (0 : Int32)) u3_2365 (iv c4_2365) u5_2365 u12_2365 (iv c13_2365) (.val (.int (c4_2365 - c13_2365))) (iv c13_2365) (.val (.int (mxI (c4_2365 - c13_2365) c13_2365))) T2372 _ X2372 N2372 (by rw [e2372]; exact Wl2365) hu3_2365 (Or.inr ⟨_, rfl, rfl⟩) hu5_2365 hu12_2365 (Or.inr ⟨_, rfl, rfl⟩) (Or.inr ⟨_, rfl, rfl⟩) (Or.inr ⟨_, rfl, rfl⟩) (Or.inr ⟨_, rfl, rfl⟩) k_2393 hl2365
     ·rw [if_neg hc2390] at hl2365
      have k_2394 : Go p.tables e below B0 (sf T2372 m 402 #[iv q1, iv q2, iv q3, u3_2365, iv c4_2365, u5_2365, rv b, rv d, iv c8_2365, iv c9_2365, iv c10_2365, iv c11_2365, u12_2365, iv c13_2365, iv c14_2365, iv 0, .val (.int (c4_2365 - c13_2365)), iv c13_2365, .val (.int (mxI (c4_2365 - c13_2365) c13_2365))] []) := fun t q => by
       refine k_2389 t ?_
       refine s_icmpYes X2372.here hx (pc' := 382) (hb hby at_368) (feq hc2390).2 (by decide) (by decide) ?_
       refine s_iconst (x := 0) X2372.here hx (hb hby at_382) rfl ?_
       refine s_istore X2372.here hx (hb hby at_383) (l' := #[iv q1, iv q2, iv q3, u3_2365, iv c4_2365, u5_2365, rv b, rv d, iv c8_2365, iv c9_2365, iv c10_2365, iv c11_2365, u12_2365, iv c13_2365, iv c14_2365, iv 0, .val (.int (c4_2365 - c13_2365)), iv c13_2365, .val (.int (mxI (c4_2365 - c13_2365) c13_2365))]) rfl ?_
       refine s_goto X2372.here hx (pc' := 402) (hb hby at_385) (by decide) (by decide) ?_
       exact q
      exact lp402  b d pt σl2365 c8_2365 c9_2365 c10_2365 c11_2365 c14_2365 (0 : Int32) u3_2365 (iv c4_2365) u5_2365 u12_2365 (iv c13_2365) (.val (.int (c4_2365 - c13_2365))) (iv c13_2365) (.val (.int (mxI (c4_2365 - c13_2365) c13_2365))) T2372 _ X2372 N2372 (by rw [e2372]; exact Wl2365) hu3_2365 (Or.inr ⟨_, rfl, rfl⟩) hu5_2365 hu12_2365 (Or.inr ⟨_, rfl, rfl⟩) (Or.inr ⟨_, rfl, rfl⟩) (Or.inr ⟨_, rfl, rfl⟩) (Or.inr ⟨_, rfl, rfl⟩) k_2394 hl2365
 have lp288 : ∀ (b d : Addr) (pt : Nat → Addr) (σl2395 : St) (c3_2395 : Int32)(c4_2395 : Int32)(c5_2395 : Int32)(c8_2395 : Int32)(c9_2395 : Int32)(c10_2395 : Int32)(c11_2395 : Int32)(c12_2395 : Int32)(c13_2395 : Int32)  (Tl2395 : State) (Ll2395 : List Loc), Stand p l e room_1 s m #[.int q1, .int q2, .int q3] below meth c Tl2395 Ll2395 18 137 → Fr n0 Ll2395 → Wd Z n0 Tl2395.heap b d pt σl2395 → Go p.tables e below B0 (sf Tl2395 m 288 #[iv q1, iv q2, iv q3, iv c3_2395, iv c4_2395, iv c5_2395, rv b, rv d, iv c8_2395, iv c9_2395, iv c10_2395, iv c11_2395, iv c12_2395, iv c13_2395, nu, nu, nu, nu, nu] []) → fLaw_L288 nn ss mm σl2395 c3_2395 c4_2395 c5_2395 c8_2395 c9_2395 c10_2395 c11_2395 c12_2395 c13_2395 = some r → ∃ s₂ o, Steps p.tables e below B0 s₂ ∧ s₂.status = .running ∧ Ended s₂ below o ∧ (∃ v L, o = .returned v ∧ Q0 n0 v s₂.heap L ∧ FrameEnd s o s₂ L room_1.cells room_1.slots) := by
  intro b d pt σl2395 c3_2395 c4_2395 c5_2395 c8_2395 c9_2395 c10_2395 c11_2395 c12_2395 c13_2395  Tl2395 Ll2395 Xl2395 Nl2395 Wl2395  kl2395 hl2395
  unfold fLaw_L288 at hl2395
  have k_2396 : Go p.tables e below B0 (sf Tl2395 m 290 #[iv q1, iv q2, iv q3, iv c3_2395, iv c4_2395, iv c5_2395, rv b, rv d, iv c8_2395, iv c9_2395, iv c10_2395, iv c11_2395, iv c12_2395, iv c13_2395, nu, nu, nu, nu, nu] [.int c12_2395]) := fun t q => by
   refine kl2395 t ?_
   refine s_iload Xl2395.here hx (hb hby at_288) rfl ?_
   exact q
  by_cases hc2397 : (0 : Int32) < c12_2395
  ·rw [if_pos hc2397] at hl2395
   have k_2398 : Go p.tables e below B0 (sf Tl2395 m 296 #[iv q1, iv q2, iv q3, iv c3_2395, iv c4_2395, iv c5_2395, rv b, rv d, iv c8_2395, iv c9_2395, iv c10_2395, iv c11_2395, iv c12_2395, iv c13_2395, nu, nu, nu, nu, nu] [.int c3_2395, .int c12_2395]) := fun t q => by
    refine k_2396 t ?_
    refine s_ifNo Xl2395.here hx (hb hby at_290) ((if0 _ _).trans (tlt hc2397).2.2.2) ?_
    refine s_iload Xl2395.here hx (hb hby at_293) rfl ?_
    refine s_iloadN Xl2395.here hx (hb hby at_295) rfl ?_
    exact q
   have k_2399 : Go p.tables e below B0 (sf Tl2395 m 304 #[iv q1, iv q2, iv q3, iv c3_2395, iv c4_2395, iv c5_2395, rv b, rv d, iv c8_2395, iv c9_2395, iv c10_2395, iv c11_2395, iv c12_2395, iv c13_2395, nu, nu, nu, nu, nu] [(.int (if c12_2395 < c3_2395 then (1 : Int32) else (0 : Int32)))]) := by
    by_cases hc2399 : c12_2395 < c3_2395
    ·rw [if_pos hc2399]; exact fun t q => by
      refine k_2398 t ?_
      refine s_icmpNo Xl2395.here hx (hb hby at_296) (tlt hc2399).2.1 ?_
      refine s_iconst (x := 1) Xl2395.here hx (hb hby at_299) rfl ?_
      refine s_goto Xl2395.here hx (pc' := 304) (hb hby at_300) (by decide) (by decide) ?_
      exact q
    ·rw [if_neg hc2399]; exact fun t q => by
      refine k_2398 t ?_
      refine s_icmpYes Xl2395.here hx (pc' := 303) (hb hby at_296) (flt hc2399).2.1 (by decide) (by decide) ?_
      refine s_iconst (x := 0) Xl2395.here hx (hb hby at_303) rfl ?_
      exact q
   have k_2400 : Go p.tables e below B0 (sf Tl2395 m 306 #[iv q1, iv q2, iv q3, iv c3_2395, iv c4_2395, iv c5_2395, rv b, rv d, iv c8_2395, iv c9_2395, iv c10_2395, iv c11_2395, iv c12_2395, iv c13_2395, .val (.int (if c12_2395 < c3_2395 then (1 : Int32) else (0 : Int32))), nu, nu, nu, nu] []) := fun t q => by
    refine k_2399 t ?_
    refine s_istore Xl2395.here hx (hb hby at_304) (l' := #[iv q1, iv q2, iv q3, iv c3_2395, iv c4_2395, iv c5_2395, rv b, rv d, iv c8_2395, iv c9_2395, iv c10_2395, iv c11_2395, iv c12_2395, iv c13_2395, .val (.int (if c12_2395 < c3_2395 then (1 : Int32) else (0 : Int32))), nu, nu, nu, nu]) rfl ?_
    exact q
   exact lp306  b d pt σl2395 c4_2395 c8_2395 c9_2395 c10_2395 c11_2395 c13_2395 (if c12_2395 < c3_2395 then (1 : Int32) else (0 : Int32)) (iv c3_2395) (iv c5_2395) (iv c12_2395) Tl2395 _ Xl2395 Nl2395 Wl2395 (Or.inr ⟨_, rfl, rfl⟩) (Or.inr ⟨_, rfl, rfl⟩) (Or.inr ⟨_, rfl, rfl⟩) k_2400 hl2395
  ·rw [if_neg hc2397] at hl2395
   have k_2401 : Go p.tables e below B0 (sf Tl2395 m 306 #[iv q1, iv q2, iv q3, iv c3_2395, iv c4_2395, iv c5_2395, rv b, rv d, iv c8_2395, iv c9_2395, iv c10_2395, iv c11_2395, iv c12_2395, iv c13_2395, iv 0, nu, nu, nu, nu] []) := fun t q => by
    refine k_2396 t ?_
    refine s_ifYes Xl2395.here hx (pc' := 303) (hb hby at_290) ((if0 _ _).trans (flt hc2397).2.2.2) (by decide) (by decide) ?_
    refine s_iconst (x := 0) Xl2395.here hx (hb hby at_303) rfl ?_
    refine s_istore Xl2395.here hx (hb hby at_304) (l' := #[iv q1, iv q2, iv q3, iv c3_2395, iv c4_2395, iv c5_2395, rv b, rv d, iv c8_2395, iv c9_2395, iv c10_2395, iv c11_2395, iv c12_2395, iv c13_2395, iv 0, nu, nu, nu, nu]) rfl ?_
    exact q
   exact lp306  b d pt σl2395 c4_2395 c8_2395 c9_2395 c10_2395 c11_2395 c13_2395 (0 : Int32) (iv c3_2395) (iv c5_2395) (iv c12_2395) Tl2395 _ Xl2395 Nl2395 Wl2395 (Or.inr ⟨_, rfl, rfl⟩) (Or.inr ⟨_, rfl, rfl⟩) (Or.inr ⟨_, rfl, rfl⟩) k_2401 hl2395
 have lp213 : ∀ (b d : Addr) (pt : Nat → Addr) (σl2402 : St) (c3_2402 : Int32)(c4_2402 : Int32)(c5_2402 : Int32)(c8_2402 : Int32)(c9_2402 : Int32)(c10_2402 : Int32)(c11_2402 : Int32)(c12_2402 : Int32)  (Tl2402 : State) (Ll2402 : List Loc), Stand p l e room_1 s m #[.int q1, .int q2, .int q3] below meth c Tl2402 Ll2402 18 137 → Fr n0 Ll2402 → Wd Z n0 Tl2402.heap b d pt σl2402 → Go p.tables e below B0 (sf Tl2402 m 213 #[iv q1, iv q2, iv q3, iv c3_2402, iv c4_2402, iv c5_2402, rv b, rv d, iv c8_2402, iv c9_2402, iv c10_2402, iv c11_2402, iv c12_2402, nu, nu, nu, nu, nu, nu] []) → fLaw_L213 nn ss mm σl2402 c3_2402 c4_2402 c5_2402 c8_2402 c9_2402 c10_2402 c11_2402 c12_2402 = some r → ∃ s₂ o, Steps p.tables e below B0 s₂ ∧ s₂.status = .running ∧ Ended s₂ below o ∧ (∃ v L, o = .returned v ∧ Q0 n0 v s₂.heap L ∧ FrameEnd s o s₂ L room_1.cells room_1.slots) := by
  intro b d pt σl2402 c3_2402 c4_2402 c5_2402 c8_2402 c9_2402 c10_2402 c11_2402 c12_2402  Tl2402 Ll2402 Xl2402 Nl2402 Wl2402  kl2402 hl2402
  unfold fLaw_L213 at hl2402
  have k_2403 : Go p.tables e below B0 (sf Tl2402 m 218 #[iv q1, iv q2, iv q3, iv c3_2402, iv c4_2402, iv c5_2402, rv b, rv d, iv c8_2402, iv c9_2402, iv c10_2402, iv c11_2402, iv c12_2402, nu, nu, nu, nu, nu, nu] [.int c4_2402, .int 0, .int c5_2402]) := fun t q => by
   refine kl2402 t ?_
   refine s_iload Xl2402.here hx (hb hby at_213) rfl ?_
   refine s_iconst (x := 0) Xl2402.here hx (hb hby at_215) rfl ?_
   refine s_iload Xl2402.here hx (hb hby at_216) rfl ?_
   exact q
  obtain ⟨x2404, c2404, hf2404⟩ := Option.bind_eq_some_iff.mp hl2402
  obtain ⟨_, _, ⟨T2405, L2405, k2405, n2405⟩, -, X2405, ⟨Lc2405, hQ2405, l2405, y2405, z2405⟩, st2405⟩ := Jvm.LawKit.callS Xl2402 hx (y := y_27) hown (mvT hZ (hw _ (wd 123 rfl))) (mvT hZ (hw _ (wd 124 rfl))) (mvT hZ (hw _ (wd 109 rfl))) (mvT hZ (hw _ (wd 125 rfl))) (by decide) (backOf (W := 0) (below_okx l Z a0 hw [] c5_2402 (0 : Int32) c4_2402 Tl2402.heap n0 x2404 c2404) hZ (hw _ (wd 125 rfl)) (hw _ (wd 109 rfl)) (by decide) (by decide)) (g := (mkF m 218 #[iv q1, iv q2, iv q3, iv c3_2402, iv c4_2402, iv c5_2402, rv b, rv d, iv c8_2402, iv c9_2402, iv c10_2402, iv c11_2402, iv c12_2402, nu, nu, nu, nu, nu, nu] [.int c4_2402, .int 0, .int c5_2402])) rfl (by rw [hml]; rfl) (argsL := [.int c5_2402, .int 0, .int c4_2402]) (rest := []) (lenOf pd_11 rfl) rfl (by show 2 * 0 + _ ≤ _; exact Nat.le_of_eq rfl) (hb hby at_218) (fun _ _ => ⟨rfl, (rfl : Tl2402.heap = _), (by decide : 18 + 0 ≤ _), (by decide : 137 + 0 ≤ _)⟩)
  dsimp only [Pt.U, Pt.locs, Pt.cells, Pt.slots] at X2405 l2405 y2405 z2405 st2405 hQ2405
  subst l2405 y2405 z2405
  obtain ⟨rfl, N2405q, e2405⟩ := hQ2405
  have N2405 := Fr.app Nl2402 N2405q
  have X2405 : Stand p l e _ s m _ below meth c T2405 _ 18 137 := X2405
  have k_2406 : Go p.tables e below B0 (sf T2405 m 226 #[iv q1, iv q2, iv q3, iv c3_2402, iv c4_2402, iv c5_2402, rv b, rv d, iv c8_2402, iv c9_2402, iv c10_2402, iv c11_2402, iv c12_2402, nu, nu, nu, nu, nu, nu] [.int c4_2402, .int 1, .int c5_2402, .int x2404]) := fun t q => by
   refine k_2403 t ?_
   refine st2405 _ ?_
   show Steps _ _ _ (sf T2405 m 221 #[iv q1, iv q2, iv q3, iv c3_2402, iv c4_2402, iv c5_2402, rv b, rv d, iv c8_2402, iv c9_2402, iv c10_2402, iv c11_2402, iv c12_2402, nu, nu, nu, nu, nu, nu] [.int x2404]) _
   refine s_iload X2405.here hx (hb hby at_221) rfl ?_
   refine s_iconst (x := 1) X2405.here hx (hb hby at_223) rfl ?_
   refine s_iload X2405.here hx (hb hby at_224) rfl ?_
   exact q
  obtain ⟨x2407, c2407, hf2407⟩ := Option.bind_eq_some_iff.mp hf2404
  obtain ⟨_, _, ⟨T2408, L2408, k2408, n2408⟩, -, X2408, ⟨Lc2408, hQ2408, l2408, y2408, z2408⟩, st2408⟩ := Jvm.LawKit.callS X2405 hx (y := y_27) hown (mvT hZ (hw _ (wd 123 rfl))) (mvT hZ (hw _ (wd 124 rfl))) (mvT hZ (hw _ (wd 109 rfl))) (mvT hZ (hw _ (wd 125 rfl))) (by decide) (backOf (W := 1) (below_okx l Z a0 hw [] c5_2402 (1 : Int32) c4_2402 Tl2402.heap n0 x2407 c2407) hZ (hw _ (wd 125 rfl)) (hw _ (wd 109 rfl)) (by decide) (by decide)) (g := (mkF m 226 #[iv q1, iv q2, iv q3, iv c3_2402, iv c4_2402, iv c5_2402, rv b, rv d, iv c8_2402, iv c9_2402, iv c10_2402, iv c11_2402, iv c12_2402, nu, nu, nu, nu, nu, nu] [.int c4_2402, .int 1, .int c5_2402, .int x2404])) rfl (by rw [hml]; rfl) (argsL := [.int c5_2402, .int 1, .int c4_2402]) (rest := [.int x2404]) (lenOf pd_11 rfl) rfl (by show 2 * 0 + _ ≤ _; exact Nat.le_of_eq rfl) (hb hby at_226) (fun _ _ => ⟨rfl, e2405, (by decide : 18 + 0 ≤ _), (by decide : 137 + 0 ≤ _)⟩)
  dsimp only [Pt.U, Pt.locs, Pt.cells, Pt.slots] at X2408 l2408 y2408 z2408 st2408 hQ2408
  subst l2408 y2408 z2408
  obtain ⟨rfl, N2408q, e2408⟩ := hQ2408
  have N2408 := Fr.app N2405 N2408q
  have X2408 : Stand p l e _ s m _ below meth c T2408 _ 18 137 := X2408
  have k_2410 : Go p.tables e below B0 (sf T2408 m 229 #[iv q1, iv q2, iv q3, iv c3_2402, iv c4_2402, iv c5_2402, rv b, rv d, iv c8_2402, iv c9_2402, iv c10_2402, iv c11_2402, iv c12_2402, nu, nu, nu, nu, nu, nu] [.int x2407, .int x2404]) := fun t q => by
   refine k_2406 t ?_
   refine st2408 _ ?_
   show Steps _ _ _ (sf T2408 m 229 #[iv q1, iv q2, iv q3, iv c3_2402, iv c4_2402, iv c5_2402, rv b, rv d, iv c8_2402, iv c9_2402, iv c10_2402, iv c11_2402, iv c12_2402, nu, nu, nu, nu, nu, nu] [.int x2407, .int x2404]) _
   exact q
  obtain ⟨x2409, c2409, hf2409⟩ := Option.bind_eq_some_iff.mp hf2407
  have k_2411 : Go p.tables e below B0 (sf T2408 m 235 #[iv q1, iv q2, iv q3, iv c3_2402, iv c4_2402, iv c5_2402, rv b, rv d, iv c8_2402, iv c9_2402, iv c10_2402, iv c11_2402, iv c12_2402, nu, nu, nu, nu, nu, nu] [.int c4_2402, .int 2, .int c5_2402, .int x2409]) := fun t q => by
   refine k_2410 t ?_
   refine s_iaddE X2408.here hx (hb hby at_229) c2409 ?_
   refine s_iload X2408.here hx (hb hby at_230) rfl ?_
   refine s_iconst (x := 2) X2408.here hx (hb hby at_232) rfl ?_
   refine s_iload X2408.here hx (hb hby at_233) rfl ?_
   exact q
  obtain ⟨x2412, c2412, hf2412⟩ := Option.bind_eq_some_iff.mp hf2409
  obtain ⟨_, _, ⟨T2413, L2413, k2413, n2413⟩, -, X2413, ⟨Lc2413, hQ2413, l2413, y2413, z2413⟩, st2413⟩ := Jvm.LawKit.callS X2408 hx (y := y_27) hown (mvT hZ (hw _ (wd 123 rfl))) (mvT hZ (hw _ (wd 124 rfl))) (mvT hZ (hw _ (wd 109 rfl))) (mvT hZ (hw _ (wd 125 rfl))) (by decide) (backOf (W := 1) (below_okx l Z a0 hw [] c5_2402 (2 : Int32) c4_2402 Tl2402.heap n0 x2412 c2412) hZ (hw _ (wd 125 rfl)) (hw _ (wd 109 rfl)) (by decide) (by decide)) (g := (mkF m 235 #[iv q1, iv q2, iv q3, iv c3_2402, iv c4_2402, iv c5_2402, rv b, rv d, iv c8_2402, iv c9_2402, iv c10_2402, iv c11_2402, iv c12_2402, nu, nu, nu, nu, nu, nu] [.int c4_2402, .int 2, .int c5_2402, .int x2409])) rfl (by rw [hml]; rfl) (argsL := [.int c5_2402, .int 2, .int c4_2402]) (rest := [.int x2409]) (lenOf pd_11 rfl) rfl (by show 2 * 0 + _ ≤ _; exact Nat.le_of_eq rfl) (hb hby at_235) (fun _ _ => ⟨rfl, e2408, (by decide : 18 + 0 ≤ _), (by decide : 137 + 0 ≤ _)⟩)
  dsimp only [Pt.U, Pt.locs, Pt.cells, Pt.slots] at X2413 l2413 y2413 z2413 st2413 hQ2413
  subst l2413 y2413 z2413
  obtain ⟨rfl, N2413q, e2413⟩ := hQ2413
  have N2413 := Fr.app N2408 N2413q
  have X2413 : Stand p l e _ s m _ below meth c T2413 _ 18 137 := X2413
  have k_2415 : Go p.tables e below B0 (sf T2413 m 238 #[iv q1, iv q2, iv q3, iv c3_2402, iv c4_2402, iv c5_2402, rv b, rv d, iv c8_2402, iv c9_2402, iv c10_2402, iv c11_2402, iv c12_2402, nu, nu, nu, nu, nu, nu] [.int x2412, .int x2409]) := fun t q => by
   refine k_2411 t ?_
   refine st2413 _ ?_
   show Steps _ _ _ (sf T2413 m 238 #[iv q1, iv q2, iv q3, iv c3_2402, iv c4_2402, iv c5_2402, rv b, rv d, iv c8_2402, iv c9_2402, iv c10_2402, iv c11_2402, iv c12_2402, nu, nu, nu, nu, nu, nu] [.int x2412, .int x2409]) _
   exact q
  obtain ⟨x2414, c2414, hf2414⟩ := Option.bind_eq_some_iff.mp hf2412
  have k_2416 : Go p.tables e below B0 (sf T2413 m 244 #[iv q1, iv q2, iv q3, iv c3_2402, iv c4_2402, iv c5_2402, rv b, rv d, iv c8_2402, iv c9_2402, iv c10_2402, iv c11_2402, iv c12_2402, nu, nu, nu, nu, nu, nu] [.int c4_2402, .int 3, .int c5_2402, .int x2414]) := fun t q => by
   refine k_2415 t ?_
   refine s_iaddE X2413.here hx (hb hby at_238) c2414 ?_
   refine s_iload X2413.here hx (hb hby at_239) rfl ?_
   refine s_iconst (x := 3) X2413.here hx (hb hby at_241) rfl ?_
   refine s_iload X2413.here hx (hb hby at_242) rfl ?_
   exact q
  obtain ⟨x2417, c2417, hf2417⟩ := Option.bind_eq_some_iff.mp hf2414
  obtain ⟨_, _, ⟨T2418, L2418, k2418, n2418⟩, -, X2418, ⟨Lc2418, hQ2418, l2418, y2418, z2418⟩, st2418⟩ := Jvm.LawKit.callS X2413 hx (y := y_27) hown (mvT hZ (hw _ (wd 123 rfl))) (mvT hZ (hw _ (wd 124 rfl))) (mvT hZ (hw _ (wd 109 rfl))) (mvT hZ (hw _ (wd 125 rfl))) (by decide) (backOf (W := 1) (below_okx l Z a0 hw [] c5_2402 (3 : Int32) c4_2402 Tl2402.heap n0 x2417 c2417) hZ (hw _ (wd 125 rfl)) (hw _ (wd 109 rfl)) (by decide) (by decide)) (g := (mkF m 244 #[iv q1, iv q2, iv q3, iv c3_2402, iv c4_2402, iv c5_2402, rv b, rv d, iv c8_2402, iv c9_2402, iv c10_2402, iv c11_2402, iv c12_2402, nu, nu, nu, nu, nu, nu] [.int c4_2402, .int 3, .int c5_2402, .int x2414])) rfl (by rw [hml]; rfl) (argsL := [.int c5_2402, .int 3, .int c4_2402]) (rest := [.int x2414]) (lenOf pd_11 rfl) rfl (by show 2 * 0 + _ ≤ _; exact Nat.le_of_eq rfl) (hb hby at_244) (fun _ _ => ⟨rfl, e2413, (by decide : 18 + 0 ≤ _), (by decide : 137 + 0 ≤ _)⟩)
  dsimp only [Pt.U, Pt.locs, Pt.cells, Pt.slots] at X2418 l2418 y2418 z2418 st2418 hQ2418
  subst l2418 y2418 z2418
  obtain ⟨rfl, N2418q, e2418⟩ := hQ2418
  have N2418 := Fr.app N2413 N2418q
  have X2418 : Stand p l e _ s m _ below meth c T2418 _ 18 137 := X2418
  have k_2420 : Go p.tables e below B0 (sf T2418 m 247 #[iv q1, iv q2, iv q3, iv c3_2402, iv c4_2402, iv c5_2402, rv b, rv d, iv c8_2402, iv c9_2402, iv c10_2402, iv c11_2402, iv c12_2402, nu, nu, nu, nu, nu, nu] [.int x2417, .int x2414]) := fun t q => by
   refine k_2416 t ?_
   refine st2418 _ ?_
   show Steps _ _ _ (sf T2418 m 247 #[iv q1, iv q2, iv q3, iv c3_2402, iv c4_2402, iv c5_2402, rv b, rv d, iv c8_2402, iv c9_2402, iv c10_2402, iv c11_2402, iv c12_2402, nu, nu, nu, nu, nu, nu] [.int x2417, .int x2414]) _
   exact q
  obtain ⟨x2419, c2419, hf2419⟩ := Option.bind_eq_some_iff.mp hf2417
  have k_2421 : Go p.tables e below B0 (sf T2418 m 253 #[iv q1, iv q2, iv q3, iv c3_2402, iv c4_2402, iv c5_2402, rv b, rv d, iv c8_2402, iv c9_2402, iv c10_2402, iv c11_2402, iv c12_2402, nu, nu, nu, nu, nu, nu] [.int c4_2402, .int 4, .int c5_2402, .int x2419]) := fun t q => by
   refine k_2420 t ?_
   refine s_iaddE X2418.here hx (hb hby at_247) c2419 ?_
   refine s_iload X2418.here hx (hb hby at_248) rfl ?_
   refine s_iconst (x := 4) X2418.here hx (hb hby at_250) rfl ?_
   refine s_iload X2418.here hx (hb hby at_251) rfl ?_
   exact q
  obtain ⟨x2422, c2422, hf2422⟩ := Option.bind_eq_some_iff.mp hf2419
  obtain ⟨_, _, ⟨T2423, L2423, k2423, n2423⟩, -, X2423, ⟨Lc2423, hQ2423, l2423, y2423, z2423⟩, st2423⟩ := Jvm.LawKit.callS X2418 hx (y := y_27) hown (mvT hZ (hw _ (wd 123 rfl))) (mvT hZ (hw _ (wd 124 rfl))) (mvT hZ (hw _ (wd 109 rfl))) (mvT hZ (hw _ (wd 125 rfl))) (by decide) (backOf (W := 1) (below_okx l Z a0 hw [] c5_2402 (4 : Int32) c4_2402 Tl2402.heap n0 x2422 c2422) hZ (hw _ (wd 125 rfl)) (hw _ (wd 109 rfl)) (by decide) (by decide)) (g := (mkF m 253 #[iv q1, iv q2, iv q3, iv c3_2402, iv c4_2402, iv c5_2402, rv b, rv d, iv c8_2402, iv c9_2402, iv c10_2402, iv c11_2402, iv c12_2402, nu, nu, nu, nu, nu, nu] [.int c4_2402, .int 4, .int c5_2402, .int x2419])) rfl (by rw [hml]; rfl) (argsL := [.int c5_2402, .int 4, .int c4_2402]) (rest := [.int x2419]) (lenOf pd_11 rfl) rfl (by show 2 * 0 + _ ≤ _; exact Nat.le_of_eq rfl) (hb hby at_253) (fun _ _ => ⟨rfl, e2418, (by decide : 18 + 0 ≤ _), (by decide : 137 + 0 ≤ _)⟩)
  dsimp only [Pt.U, Pt.locs, Pt.cells, Pt.slots] at X2423 l2423 y2423 z2423 st2423 hQ2423
  subst l2423 y2423 z2423
  obtain ⟨rfl, N2423q, e2423⟩ := hQ2423
  have N2423 := Fr.app N2418 N2423q
  have X2423 : Stand p l e _ s m _ below meth c T2423 _ 18 137 := X2423
  have k_2425 : Go p.tables e below B0 (sf T2423 m 256 #[iv q1, iv q2, iv q3, iv c3_2402, iv c4_2402, iv c5_2402, rv b, rv d, iv c8_2402, iv c9_2402, iv c10_2402, iv c11_2402, iv c12_2402, nu, nu, nu, nu, nu, nu] [.int x2422, .int x2419]) := fun t q => by
   refine k_2421 t ?_
   refine st2423 _ ?_
   show Steps _ _ _ (sf T2423 m 256 #[iv q1, iv q2, iv q3, iv c3_2402, iv c4_2402, iv c5_2402, rv b, rv d, iv c8_2402, iv c9_2402, iv c10_2402, iv c11_2402, iv c12_2402, nu, nu, nu, nu, nu, nu] [.int x2422, .int x2419]) _
   exact q
  obtain ⟨x2424, c2424, hf2424⟩ := Option.bind_eq_some_iff.mp hf2422
  have k_2426 : Go p.tables e below B0 (sf T2423 m 262 #[iv q1, iv q2, iv q3, iv c3_2402, iv c4_2402, iv c5_2402, rv b, rv d, iv c8_2402, iv c9_2402, iv c10_2402, iv c11_2402, iv c12_2402, nu, nu, nu, nu, nu, nu] [.int c4_2402, .int 5, .int c5_2402, .int x2424]) := fun t q => by
   refine k_2425 t ?_
   refine s_iaddE X2423.here hx (hb hby at_256) c2424 ?_
   refine s_iload X2423.here hx (hb hby at_257) rfl ?_
   refine s_iconst (x := 5) X2423.here hx (hb hby at_259) rfl ?_
   refine s_iload X2423.here hx (hb hby at_260) rfl ?_
   exact q
  obtain ⟨x2427, c2427, hf2427⟩ := Option.bind_eq_some_iff.mp hf2424
  obtain ⟨_, _, ⟨T2428, L2428, k2428, n2428⟩, -, X2428, ⟨Lc2428, hQ2428, l2428, y2428, z2428⟩, st2428⟩ := Jvm.LawKit.callS X2423 hx (y := y_27) hown (mvT hZ (hw _ (wd 123 rfl))) (mvT hZ (hw _ (wd 124 rfl))) (mvT hZ (hw _ (wd 109 rfl))) (mvT hZ (hw _ (wd 125 rfl))) (by decide) (backOf (W := 1) (below_okx l Z a0 hw [] c5_2402 (5 : Int32) c4_2402 Tl2402.heap n0 x2427 c2427) hZ (hw _ (wd 125 rfl)) (hw _ (wd 109 rfl)) (by decide) (by decide)) (g := (mkF m 262 #[iv q1, iv q2, iv q3, iv c3_2402, iv c4_2402, iv c5_2402, rv b, rv d, iv c8_2402, iv c9_2402, iv c10_2402, iv c11_2402, iv c12_2402, nu, nu, nu, nu, nu, nu] [.int c4_2402, .int 5, .int c5_2402, .int x2424])) rfl (by rw [hml]; rfl) (argsL := [.int c5_2402, .int 5, .int c4_2402]) (rest := [.int x2424]) (lenOf pd_11 rfl) rfl (by show 2 * 0 + _ ≤ _; exact Nat.le_of_eq rfl) (hb hby at_262) (fun _ _ => ⟨rfl, e2423, (by decide : 18 + 0 ≤ _), (by decide : 137 + 0 ≤ _)⟩)
  dsimp only [Pt.U, Pt.locs, Pt.cells, Pt.slots] at X2428 l2428 y2428 z2428 st2428 hQ2428
  subst l2428 y2428 z2428
  obtain ⟨rfl, N2428q, e2428⟩ := hQ2428
  have N2428 := Fr.app N2423 N2428q
  have X2428 : Stand p l e _ s m _ below meth c T2428 _ 18 137 := X2428
  have k_2430 : Go p.tables e below B0 (sf T2428 m 265 #[iv q1, iv q2, iv q3, iv c3_2402, iv c4_2402, iv c5_2402, rv b, rv d, iv c8_2402, iv c9_2402, iv c10_2402, iv c11_2402, iv c12_2402, nu, nu, nu, nu, nu, nu] [.int x2427, .int x2424]) := fun t q => by
   refine k_2426 t ?_
   refine st2428 _ ?_
   show Steps _ _ _ (sf T2428 m 265 #[iv q1, iv q2, iv q3, iv c3_2402, iv c4_2402, iv c5_2402, rv b, rv d, iv c8_2402, iv c9_2402, iv c10_2402, iv c11_2402, iv c12_2402, nu, nu, nu, nu, nu, nu] [.int x2427, .int x2424]) _
   exact q
  obtain ⟨x2429, c2429, hf2429⟩ := Option.bind_eq_some_iff.mp hf2427
  have k_2431 : Go p.tables e below B0 (sf T2428 m 272 #[iv q1, iv q2, iv q3, iv c3_2402, iv c4_2402, iv c5_2402, rv b, rv d, iv c8_2402, iv c9_2402, iv c10_2402, iv c11_2402, iv c12_2402, nu, nu, nu, nu, nu, nu] [.int c4_2402, .int 6, .int c5_2402, .int x2429]) := fun t q => by
   refine k_2430 t ?_
   refine s_iaddE X2428.here hx (hb hby at_265) c2429 ?_
   refine s_iload X2428.here hx (hb hby at_266) rfl ?_
   refine s_bipush (x := 6) X2428.here hx (hb hby at_268) rfl ?_
   refine s_iload X2428.here hx (hb hby at_270) rfl ?_
   exact q
  obtain ⟨x2432, c2432, hf2432⟩ := Option.bind_eq_some_iff.mp hf2429
  obtain ⟨_, _, ⟨T2433, L2433, k2433, n2433⟩, -, X2433, ⟨Lc2433, hQ2433, l2433, y2433, z2433⟩, st2433⟩ := Jvm.LawKit.callS X2428 hx (y := y_27) hown (mvT hZ (hw _ (wd 123 rfl))) (mvT hZ (hw _ (wd 124 rfl))) (mvT hZ (hw _ (wd 109 rfl))) (mvT hZ (hw _ (wd 125 rfl))) (by decide) (backOf (W := 1) (below_okx l Z a0 hw [] c5_2402 (6 : Int32) c4_2402 Tl2402.heap n0 x2432 c2432) hZ (hw _ (wd 125 rfl)) (hw _ (wd 109 rfl)) (by decide) (by decide)) (g := (mkF m 272 #[iv q1, iv q2, iv q3, iv c3_2402, iv c4_2402, iv c5_2402, rv b, rv d, iv c8_2402, iv c9_2402, iv c10_2402, iv c11_2402, iv c12_2402, nu, nu, nu, nu, nu, nu] [.int c4_2402, .int 6, .int c5_2402, .int x2429])) rfl (by rw [hml]; rfl) (argsL := [.int c5_2402, .int 6, .int c4_2402]) (rest := [.int x2429]) (lenOf pd_11 rfl) rfl (by show 2 * 0 + _ ≤ _; exact Nat.le_of_eq rfl) (hb hby at_272) (fun _ _ => ⟨rfl, e2428, (by decide : 18 + 0 ≤ _), (by decide : 137 + 0 ≤ _)⟩)
  dsimp only [Pt.U, Pt.locs, Pt.cells, Pt.slots] at X2433 l2433 y2433 z2433 st2433 hQ2433
  subst l2433 y2433 z2433
  obtain ⟨rfl, N2433q, e2433⟩ := hQ2433
  have N2433 := Fr.app N2428 N2433q
  have X2433 : Stand p l e _ s m _ below meth c T2433 _ 18 137 := X2433
  have k_2435 : Go p.tables e below B0 (sf T2433 m 275 #[iv q1, iv q2, iv q3, iv c3_2402, iv c4_2402, iv c5_2402, rv b, rv d, iv c8_2402, iv c9_2402, iv c10_2402, iv c11_2402, iv c12_2402, nu, nu, nu, nu, nu, nu] [.int x2432, .int x2429]) := fun t q => by
   refine k_2431 t ?_
   refine st2433 _ ?_
   show Steps _ _ _ (sf T2433 m 275 #[iv q1, iv q2, iv q3, iv c3_2402, iv c4_2402, iv c5_2402, rv b, rv d, iv c8_2402, iv c9_2402, iv c10_2402, iv c11_2402, iv c12_2402, nu, nu, nu, nu, nu, nu] [.int x2432, .int x2429]) _
   exact q
  obtain ⟨x2434, c2434, hf2434⟩ := Option.bind_eq_some_iff.mp hf2432
  have k_2436 : Go p.tables e below B0 (sf T2433 m 282 #[iv q1, iv q2, iv q3, iv c3_2402, iv c4_2402, iv c5_2402, rv b, rv d, iv c8_2402, iv c9_2402, iv c10_2402, iv c11_2402, iv c12_2402, nu, nu, nu, nu, nu, nu] [.int c4_2402, .int 7, .int c5_2402, .int x2434]) := fun t q => by
   refine k_2435 t ?_
   refine s_iaddE X2433.here hx (hb hby at_275) c2434 ?_
   refine s_iload X2433.here hx (hb hby at_276) rfl ?_
   refine s_bipush (x := 7) X2433.here hx (hb hby at_278) rfl ?_
   refine s_iload X2433.here hx (hb hby at_280) rfl ?_
   exact q
  obtain ⟨x2437, c2437, hf2437⟩ := Option.bind_eq_some_iff.mp hf2434
  obtain ⟨_, _, ⟨T2438, L2438, k2438, n2438⟩, -, X2438, ⟨Lc2438, hQ2438, l2438, y2438, z2438⟩, st2438⟩ := Jvm.LawKit.callS X2433 hx (y := y_27) hown (mvT hZ (hw _ (wd 123 rfl))) (mvT hZ (hw _ (wd 124 rfl))) (mvT hZ (hw _ (wd 109 rfl))) (mvT hZ (hw _ (wd 125 rfl))) (by decide) (backOf (W := 1) (below_okx l Z a0 hw [] c5_2402 (7 : Int32) c4_2402 Tl2402.heap n0 x2437 c2437) hZ (hw _ (wd 125 rfl)) (hw _ (wd 109 rfl)) (by decide) (by decide)) (g := (mkF m 282 #[iv q1, iv q2, iv q3, iv c3_2402, iv c4_2402, iv c5_2402, rv b, rv d, iv c8_2402, iv c9_2402, iv c10_2402, iv c11_2402, iv c12_2402, nu, nu, nu, nu, nu, nu] [.int c4_2402, .int 7, .int c5_2402, .int x2434])) rfl (by rw [hml]; rfl) (argsL := [.int c5_2402, .int 7, .int c4_2402]) (rest := [.int x2434]) (lenOf pd_11 rfl) rfl (by show 2 * 0 + _ ≤ _; exact Nat.le_of_eq rfl) (hb hby at_282) (fun _ _ => ⟨rfl, e2433, (by decide : 18 + 0 ≤ _), (by decide : 137 + 0 ≤ _)⟩)
  dsimp only [Pt.U, Pt.locs, Pt.cells, Pt.slots] at X2438 l2438 y2438 z2438 st2438 hQ2438
  subst l2438 y2438 z2438
  obtain ⟨rfl, N2438q, e2438⟩ := hQ2438
  have N2438 := Fr.app N2433 N2438q
  have X2438 : Stand p l e _ s m _ below meth c T2438 _ 18 137 := X2438
  have k_2440 : Go p.tables e below B0 (sf T2438 m 285 #[iv q1, iv q2, iv q3, iv c3_2402, iv c4_2402, iv c5_2402, rv b, rv d, iv c8_2402, iv c9_2402, iv c10_2402, iv c11_2402, iv c12_2402, nu, nu, nu, nu, nu, nu] [.int x2437, .int x2434]) := fun t q => by
   refine k_2436 t ?_
   refine st2438 _ ?_
   show Steps _ _ _ (sf T2438 m 285 #[iv q1, iv q2, iv q3, iv c3_2402, iv c4_2402, iv c5_2402, rv b, rv d, iv c8_2402, iv c9_2402, iv c10_2402, iv c11_2402, iv c12_2402, nu, nu, nu, nu, nu, nu] [.int x2437, .int x2434]) _
   exact q
  obtain ⟨x2439, c2439, hf2439⟩ := Option.bind_eq_some_iff.mp hf2437
  have k_2441 : Go p.tables e below B0 (sf T2438 m 288 #[iv q1, iv q2, iv q3, iv c3_2402, iv c4_2402, iv c5_2402, rv b, rv d, iv c8_2402, iv c9_2402, iv c10_2402, iv c11_2402, iv c12_2402, iv x2439, nu, nu, nu, nu, nu] []) := fun t q => by
   refine k_2440 t ?_
   refine s_iaddE X2438.here hx (hb hby at_285) c2439 ?_
   refine s_istore X2438.here hx (hb hby at_286) (l' := #[iv q1, iv q2, iv q3, iv c3_2402, iv c4_2402, iv c5_2402, rv b, rv d, iv c8_2402, iv c9_2402, iv c10_2402, iv c11_2402, iv c12_2402, iv x2439, nu, nu, nu, nu, nu]) rfl ?_
   exact q
  exact lp288  b d pt σl2402 c3_2402 c4_2402 c5_2402 c8_2402 c9_2402 c10_2402 c11_2402 c12_2402 x2439  T2438 _ X2438 N2438 (by rw [e2438]; exact Wl2402)  k_2441 hf2439
 have lp154 : ∀ (b d : Addr) (pt : Nat → Addr) (σl2442 : St) (c3_2442 : Int32)(c4_2442 : Int32)(c5_2442 : Int32)(c8_2442 : Int32)(c9_2442 : Int32)(c10_2442 : Int32)(c11_2442 : Int32)  (Tl2442 : State) (Ll2442 : List Loc), Stand p l e room_1 s m #[.int q1, .int q2, .int q3] below meth c Tl2442 Ll2442 18 137 → Fr n0 Ll2442 → Wd Z n0 Tl2442.heap b d pt σl2442 → Go p.tables e below B0 (sf Tl2442 m 154 #[iv q1, iv q2, iv q3, iv c3_2442, iv c4_2442, iv c5_2442, rv b, rv d, iv c8_2442, iv c9_2442, iv c10_2442, iv c11_2442, nu, nu, nu, nu, nu, nu, nu] []) → fLaw_L154 nn ss mm σl2442 c3_2442 c4_2442 c5_2442 c8_2442 c9_2442 c10_2442 c11_2442 = some r → ∃ s₂ o, Steps p.tables e below B0 s₂ ∧ s₂.status = .running ∧ Ended s₂ below o ∧ (∃ v L, o = .returned v ∧ Q0 n0 v s₂.heap L ∧ FrameEnd s o s₂ L room_1.cells room_1.slots) := by
  intro b d pt σl2442 c3_2442 c4_2442 c5_2442 c8_2442 c9_2442 c10_2442 c11_2442  Tl2442 Ll2442 Xl2442 Nl2442 Wl2442  kl2442 hl2442
  unfold fLaw_L154 at hl2442
  have k_2443 : Go p.tables e below B0 (sf Tl2442 m 157 #[iv q1, iv q2, iv q3, iv c3_2442, iv c4_2442, iv c5_2442, rv b, rv d, iv c8_2442, iv c9_2442, iv c10_2442, iv c11_2442, nu, nu, nu, nu, nu, nu, nu] [.int 0, .int c5_2442]) := fun t q => by
   refine kl2442 t ?_
   refine s_iload Xl2442.here hx (hb hby at_154) rfl ?_
   refine s_iconst (x := 0) Xl2442.here hx (hb hby at_156) rfl ?_
   exact q
  obtain ⟨x2444, c2444, hf2444⟩ := Option.bind_eq_some_iff.mp hl2442
  obtain ⟨_, _, ⟨T2445, L2445, k2445, n2445⟩, -, X2445, ⟨Lc2445, hQ2445, l2445, y2445, z2445⟩, st2445⟩ := Jvm.LawKit.callS Xl2442 hx (y := y_26) hown (mvT hZ (hw _ (wd 120 rfl))) (mvT hZ (hw _ (wd 121 rfl))) (mvT hZ (hw _ (wd 109 rfl))) (mvT hZ (hw _ (wd 122 rfl))) (by decide) (backOf (W := 0) (bit_okx l Z a0 hw [] c5_2442 (0 : Int32) Tl2442.heap n0 x2444 c2444) hZ (hw _ (wd 122 rfl)) (hw _ (wd 109 rfl)) (by decide) (by decide)) (g := (mkF m 157 #[iv q1, iv q2, iv q3, iv c3_2442, iv c4_2442, iv c5_2442, rv b, rv d, iv c8_2442, iv c9_2442, iv c10_2442, iv c11_2442, nu, nu, nu, nu, nu, nu, nu] [.int 0, .int c5_2442])) rfl (by rw [hml]; rfl) (argsL := [.int c5_2442, .int 0]) (rest := []) (lenOf pd_0 rfl) rfl (by show 2 * 0 + _ ≤ _; exact Nat.le_of_eq rfl) (hb hby at_157) (fun _ _ => ⟨rfl, (rfl : Tl2442.heap = _), (by decide : 18 + 0 ≤ _), (by decide : 137 + 0 ≤ _)⟩)
  dsimp only [Pt.U, Pt.locs, Pt.cells, Pt.slots] at X2445 l2445 y2445 z2445 st2445 hQ2445
  subst l2445 y2445 z2445
  obtain ⟨rfl, N2445q, e2445⟩ := hQ2445
  have N2445 := Fr.app Nl2442 N2445q
  have X2445 : Stand p l e _ s m _ below meth c T2445 _ 18 137 := X2445
  have k_2446 : Go p.tables e below B0 (sf T2445 m 163 #[iv q1, iv q2, iv q3, iv c3_2442, iv c4_2442, iv c5_2442, rv b, rv d, iv c8_2442, iv c9_2442, iv c10_2442, iv c11_2442, nu, nu, nu, nu, nu, nu, nu] [.int 1, .int c5_2442, .int x2444]) := fun t q => by
   refine k_2443 t ?_
   refine st2445 _ ?_
   show Steps _ _ _ (sf T2445 m 160 #[iv q1, iv q2, iv q3, iv c3_2442, iv c4_2442, iv c5_2442, rv b, rv d, iv c8_2442, iv c9_2442, iv c10_2442, iv c11_2442, nu, nu, nu, nu, nu, nu, nu] [.int x2444]) _
   refine s_iload X2445.here hx (hb hby at_160) rfl ?_
   refine s_iconst (x := 1) X2445.here hx (hb hby at_162) rfl ?_
   exact q
  obtain ⟨x2447, c2447, hf2447⟩ := Option.bind_eq_some_iff.mp hf2444
  obtain ⟨_, _, ⟨T2448, L2448, k2448, n2448⟩, -, X2448, ⟨Lc2448, hQ2448, l2448, y2448, z2448⟩, st2448⟩ := Jvm.LawKit.callS X2445 hx (y := y_26) hown (mvT hZ (hw _ (wd 120 rfl))) (mvT hZ (hw _ (wd 121 rfl))) (mvT hZ (hw _ (wd 109 rfl))) (mvT hZ (hw _ (wd 122 rfl))) (by decide) (backOf (W := 1) (bit_okx l Z a0 hw [] c5_2442 (1 : Int32) Tl2442.heap n0 x2447 c2447) hZ (hw _ (wd 122 rfl)) (hw _ (wd 109 rfl)) (by decide) (by decide)) (g := (mkF m 163 #[iv q1, iv q2, iv q3, iv c3_2442, iv c4_2442, iv c5_2442, rv b, rv d, iv c8_2442, iv c9_2442, iv c10_2442, iv c11_2442, nu, nu, nu, nu, nu, nu, nu] [.int 1, .int c5_2442, .int x2444])) rfl (by rw [hml]; rfl) (argsL := [.int c5_2442, .int 1]) (rest := [.int x2444]) (lenOf pd_0 rfl) rfl (by show 2 * 0 + _ ≤ _; exact Nat.le_of_eq rfl) (hb hby at_163) (fun _ _ => ⟨rfl, e2445, (by decide : 18 + 0 ≤ _), (by decide : 137 + 0 ≤ _)⟩)
  dsimp only [Pt.U, Pt.locs, Pt.cells, Pt.slots] at X2448 l2448 y2448 z2448 st2448 hQ2448
  subst l2448 y2448 z2448
  obtain ⟨rfl, N2448q, e2448⟩ := hQ2448
  have N2448 := Fr.app N2445 N2448q
  have X2448 : Stand p l e _ s m _ below meth c T2448 _ 18 137 := X2448
  have k_2450 : Go p.tables e below B0 (sf T2448 m 166 #[iv q1, iv q2, iv q3, iv c3_2442, iv c4_2442, iv c5_2442, rv b, rv d, iv c8_2442, iv c9_2442, iv c10_2442, iv c11_2442, nu, nu, nu, nu, nu, nu, nu] [.int x2447, .int x2444]) := fun t q => by
   refine k_2446 t ?_
   refine st2448 _ ?_
   show Steps _ _ _ (sf T2448 m 166 #[iv q1, iv q2, iv q3, iv c3_2442, iv c4_2442, iv c5_2442, rv b, rv d, iv c8_2442, iv c9_2442, iv c10_2442, iv c11_2442, nu, nu, nu, nu, nu, nu, nu] [.int x2447, .int x2444]) _
   exact q
  obtain ⟨x2449, c2449, hf2449⟩ := Option.bind_eq_some_iff.mp hf2447
  have k_2451 : Go p.tables e below B0 (sf T2448 m 170 #[iv q1, iv q2, iv q3, iv c3_2442, iv c4_2442, iv c5_2442, rv b, rv d, iv c8_2442, iv c9_2442, iv c10_2442, iv c11_2442, nu, nu, nu, nu, nu, nu, nu] [.int 2, .int c5_2442, .int x2449]) := fun t q => by
   refine k_2450 t ?_
   refine s_iaddE X2448.here hx (hb hby at_166) c2449 ?_
   refine s_iload X2448.here hx (hb hby at_167) rfl ?_
   refine s_iconst (x := 2) X2448.here hx (hb hby at_169) rfl ?_
   exact q
  obtain ⟨x2452, c2452, hf2452⟩ := Option.bind_eq_some_iff.mp hf2449
  obtain ⟨_, _, ⟨T2453, L2453, k2453, n2453⟩, -, X2453, ⟨Lc2453, hQ2453, l2453, y2453, z2453⟩, st2453⟩ := Jvm.LawKit.callS X2448 hx (y := y_26) hown (mvT hZ (hw _ (wd 120 rfl))) (mvT hZ (hw _ (wd 121 rfl))) (mvT hZ (hw _ (wd 109 rfl))) (mvT hZ (hw _ (wd 122 rfl))) (by decide) (backOf (W := 1) (bit_okx l Z a0 hw [] c5_2442 (2 : Int32) Tl2442.heap n0 x2452 c2452) hZ (hw _ (wd 122 rfl)) (hw _ (wd 109 rfl)) (by decide) (by decide)) (g := (mkF m 170 #[iv q1, iv q2, iv q3, iv c3_2442, iv c4_2442, iv c5_2442, rv b, rv d, iv c8_2442, iv c9_2442, iv c10_2442, iv c11_2442, nu, nu, nu, nu, nu, nu, nu] [.int 2, .int c5_2442, .int x2449])) rfl (by rw [hml]; rfl) (argsL := [.int c5_2442, .int 2]) (rest := [.int x2449]) (lenOf pd_0 rfl) rfl (by show 2 * 0 + _ ≤ _; exact Nat.le_of_eq rfl) (hb hby at_170) (fun _ _ => ⟨rfl, e2448, (by decide : 18 + 0 ≤ _), (by decide : 137 + 0 ≤ _)⟩)
  dsimp only [Pt.U, Pt.locs, Pt.cells, Pt.slots] at X2453 l2453 y2453 z2453 st2453 hQ2453
  subst l2453 y2453 z2453
  obtain ⟨rfl, N2453q, e2453⟩ := hQ2453
  have N2453 := Fr.app N2448 N2453q
  have X2453 : Stand p l e _ s m _ below meth c T2453 _ 18 137 := X2453
  have k_2455 : Go p.tables e below B0 (sf T2453 m 173 #[iv q1, iv q2, iv q3, iv c3_2442, iv c4_2442, iv c5_2442, rv b, rv d, iv c8_2442, iv c9_2442, iv c10_2442, iv c11_2442, nu, nu, nu, nu, nu, nu, nu] [.int x2452, .int x2449]) := fun t q => by
   refine k_2451 t ?_
   refine st2453 _ ?_
   show Steps _ _ _ (sf T2453 m 173 #[iv q1, iv q2, iv q3, iv c3_2442, iv c4_2442, iv c5_2442, rv b, rv d, iv c8_2442, iv c9_2442, iv c10_2442, iv c11_2442, nu, nu, nu, nu, nu, nu, nu] [.int x2452, .int x2449]) _
   exact q
  obtain ⟨x2454, c2454, hf2454⟩ := Option.bind_eq_some_iff.mp hf2452
  have k_2456 : Go p.tables e below B0 (sf T2453 m 177 #[iv q1, iv q2, iv q3, iv c3_2442, iv c4_2442, iv c5_2442, rv b, rv d, iv c8_2442, iv c9_2442, iv c10_2442, iv c11_2442, nu, nu, nu, nu, nu, nu, nu] [.int 3, .int c5_2442, .int x2454]) := fun t q => by
   refine k_2455 t ?_
   refine s_iaddE X2453.here hx (hb hby at_173) c2454 ?_
   refine s_iload X2453.here hx (hb hby at_174) rfl ?_
   refine s_iconst (x := 3) X2453.here hx (hb hby at_176) rfl ?_
   exact q
  obtain ⟨x2457, c2457, hf2457⟩ := Option.bind_eq_some_iff.mp hf2454
  obtain ⟨_, _, ⟨T2458, L2458, k2458, n2458⟩, -, X2458, ⟨Lc2458, hQ2458, l2458, y2458, z2458⟩, st2458⟩ := Jvm.LawKit.callS X2453 hx (y := y_26) hown (mvT hZ (hw _ (wd 120 rfl))) (mvT hZ (hw _ (wd 121 rfl))) (mvT hZ (hw _ (wd 109 rfl))) (mvT hZ (hw _ (wd 122 rfl))) (by decide) (backOf (W := 1) (bit_okx l Z a0 hw [] c5_2442 (3 : Int32) Tl2442.heap n0 x2457 c2457) hZ (hw _ (wd 122 rfl)) (hw _ (wd 109 rfl)) (by decide) (by decide)) (g := (mkF m 177 #[iv q1, iv q2, iv q3, iv c3_2442, iv c4_2442, iv c5_2442, rv b, rv d, iv c8_2442, iv c9_2442, iv c10_2442, iv c11_2442, nu, nu, nu, nu, nu, nu, nu] [.int 3, .int c5_2442, .int x2454])) rfl (by rw [hml]; rfl) (argsL := [.int c5_2442, .int 3]) (rest := [.int x2454]) (lenOf pd_0 rfl) rfl (by show 2 * 0 + _ ≤ _; exact Nat.le_of_eq rfl) (hb hby at_177) (fun _ _ => ⟨rfl, e2453, (by decide : 18 + 0 ≤ _), (by decide : 137 + 0 ≤ _)⟩)
  dsimp only [Pt.U, Pt.locs, Pt.cells, Pt.slots] at X2458 l2458 y2458 z2458 st2458 hQ2458
  subst l2458 y2458 z2458
  obtain ⟨rfl, N2458q, e2458⟩ := hQ2458
  have N2458 := Fr.app N2453 N2458q
  have X2458 : Stand p l e _ s m _ below meth c T2458 _ 18 137 := X2458
  have k_2460 : Go p.tables e below B0 (sf T2458 m 180 #[iv q1, iv q2, iv q3, iv c3_2442, iv c4_2442, iv c5_2442, rv b, rv d, iv c8_2442, iv c9_2442, iv c10_2442, iv c11_2442, nu, nu, nu, nu, nu, nu, nu] [.int x2457, .int x2454]) := fun t q => by
   refine k_2456 t ?_
   refine st2458 _ ?_
   show Steps _ _ _ (sf T2458 m 180 #[iv q1, iv q2, iv q3, iv c3_2442, iv c4_2442, iv c5_2442, rv b, rv d, iv c8_2442, iv c9_2442, iv c10_2442, iv c11_2442, nu, nu, nu, nu, nu, nu, nu] [.int x2457, .int x2454]) _
   exact q
  obtain ⟨x2459, c2459, hf2459⟩ := Option.bind_eq_some_iff.mp hf2457
  have k_2461 : Go p.tables e below B0 (sf T2458 m 184 #[iv q1, iv q2, iv q3, iv c3_2442, iv c4_2442, iv c5_2442, rv b, rv d, iv c8_2442, iv c9_2442, iv c10_2442, iv c11_2442, nu, nu, nu, nu, nu, nu, nu] [.int 4, .int c5_2442, .int x2459]) := fun t q => by
   refine k_2460 t ?_
   refine s_iaddE X2458.here hx (hb hby at_180) c2459 ?_
   refine s_iload X2458.here hx (hb hby at_181) rfl ?_
   refine s_iconst (x := 4) X2458.here hx (hb hby at_183) rfl ?_
   exact q
  obtain ⟨x2462, c2462, hf2462⟩ := Option.bind_eq_some_iff.mp hf2459
  obtain ⟨_, _, ⟨T2463, L2463, k2463, n2463⟩, -, X2463, ⟨Lc2463, hQ2463, l2463, y2463, z2463⟩, st2463⟩ := Jvm.LawKit.callS X2458 hx (y := y_26) hown (mvT hZ (hw _ (wd 120 rfl))) (mvT hZ (hw _ (wd 121 rfl))) (mvT hZ (hw _ (wd 109 rfl))) (mvT hZ (hw _ (wd 122 rfl))) (by decide) (backOf (W := 1) (bit_okx l Z a0 hw [] c5_2442 (4 : Int32) Tl2442.heap n0 x2462 c2462) hZ (hw _ (wd 122 rfl)) (hw _ (wd 109 rfl)) (by decide) (by decide)) (g := (mkF m 184 #[iv q1, iv q2, iv q3, iv c3_2442, iv c4_2442, iv c5_2442, rv b, rv d, iv c8_2442, iv c9_2442, iv c10_2442, iv c11_2442, nu, nu, nu, nu, nu, nu, nu] [.int 4, .int c5_2442, .int x2459])) rfl (by rw [hml]; rfl) (argsL := [.int c5_2442, .int 4]) (rest := [.int x2459]) (lenOf pd_0 rfl) rfl (by show 2 * 0 + _ ≤ _; exact Nat.le_of_eq rfl) (hb hby at_184) (fun _ _ => ⟨rfl, e2458, (by decide : 18 + 0 ≤ _), (by decide : 137 + 0 ≤ _)⟩)
  dsimp only [Pt.U, Pt.locs, Pt.cells, Pt.slots] at X2463 l2463 y2463 z2463 st2463 hQ2463
  subst l2463 y2463 z2463
  obtain ⟨rfl, N2463q, e2463⟩ := hQ2463
  have N2463 := Fr.app N2458 N2463q
  have X2463 : Stand p l e _ s m _ below meth c T2463 _ 18 137 := X2463
  have k_2465 : Go p.tables e below B0 (sf T2463 m 187 #[iv q1, iv q2, iv q3, iv c3_2442, iv c4_2442, iv c5_2442, rv b, rv d, iv c8_2442, iv c9_2442, iv c10_2442, iv c11_2442, nu, nu, nu, nu, nu, nu, nu] [.int x2462, .int x2459]) := fun t q => by
   refine k_2461 t ?_
   refine st2463 _ ?_
   show Steps _ _ _ (sf T2463 m 187 #[iv q1, iv q2, iv q3, iv c3_2442, iv c4_2442, iv c5_2442, rv b, rv d, iv c8_2442, iv c9_2442, iv c10_2442, iv c11_2442, nu, nu, nu, nu, nu, nu, nu] [.int x2462, .int x2459]) _
   exact q
  obtain ⟨x2464, c2464, hf2464⟩ := Option.bind_eq_some_iff.mp hf2462
  have k_2466 : Go p.tables e below B0 (sf T2463 m 191 #[iv q1, iv q2, iv q3, iv c3_2442, iv c4_2442, iv c5_2442, rv b, rv d, iv c8_2442, iv c9_2442, iv c10_2442, iv c11_2442, nu, nu, nu, nu, nu, nu, nu] [.int 5, .int c5_2442, .int x2464]) := fun t q => by
   refine k_2465 t ?_
   refine s_iaddE X2463.here hx (hb hby at_187) c2464 ?_
   refine s_iload X2463.here hx (hb hby at_188) rfl ?_
   refine s_iconst (x := 5) X2463.here hx (hb hby at_190) rfl ?_
   exact q
  obtain ⟨x2467, c2467, hf2467⟩ := Option.bind_eq_some_iff.mp hf2464
  obtain ⟨_, _, ⟨T2468, L2468, k2468, n2468⟩, -, X2468, ⟨Lc2468, hQ2468, l2468, y2468, z2468⟩, st2468⟩ := Jvm.LawKit.callS X2463 hx (y := y_26) hown (mvT hZ (hw _ (wd 120 rfl))) (mvT hZ (hw _ (wd 121 rfl))) (mvT hZ (hw _ (wd 109 rfl))) (mvT hZ (hw _ (wd 122 rfl))) (by decide) (backOf (W := 1) (bit_okx l Z a0 hw [] c5_2442 (5 : Int32) Tl2442.heap n0 x2467 c2467) hZ (hw _ (wd 122 rfl)) (hw _ (wd 109 rfl)) (by decide) (by decide)) (g := (mkF m 191 #[iv q1, iv q2, iv q3, iv c3_2442, iv c4_2442, iv c5_2442, rv b, rv d, iv c8_2442, iv c9_2442, iv c10_2442, iv c11_2442, nu, nu, nu, nu, nu, nu, nu] [.int 5, .int c5_2442, .int x2464])) rfl (by rw [hml]; rfl) (argsL := [.int c5_2442, .int 5]) (rest := [.int x2464]) (lenOf pd_0 rfl) rfl (by show 2 * 0 + _ ≤ _; exact Nat.le_of_eq rfl) (hb hby at_191) (fun _ _ => ⟨rfl, e2463, (by decide : 18 + 0 ≤ _), (by decide : 137 + 0 ≤ _)⟩)
  dsimp only [Pt.U, Pt.locs, Pt.cells, Pt.slots] at X2468 l2468 y2468 z2468 st2468 hQ2468
  subst l2468 y2468 z2468
  obtain ⟨rfl, N2468q, e2468⟩ := hQ2468
  have N2468 := Fr.app N2463 N2468q
  have X2468 : Stand p l e _ s m _ below meth c T2468 _ 18 137 := X2468
  have k_2470 : Go p.tables e below B0 (sf T2468 m 194 #[iv q1, iv q2, iv q3, iv c3_2442, iv c4_2442, iv c5_2442, rv b, rv d, iv c8_2442, iv c9_2442, iv c10_2442, iv c11_2442, nu, nu, nu, nu, nu, nu, nu] [.int x2467, .int x2464]) := fun t q => by
   refine k_2466 t ?_
   refine st2468 _ ?_
   show Steps _ _ _ (sf T2468 m 194 #[iv q1, iv q2, iv q3, iv c3_2442, iv c4_2442, iv c5_2442, rv b, rv d, iv c8_2442, iv c9_2442, iv c10_2442, iv c11_2442, nu, nu, nu, nu, nu, nu, nu] [.int x2467, .int x2464]) _
   exact q
  obtain ⟨x2469, c2469, hf2469⟩ := Option.bind_eq_some_iff.mp hf2467
  have k_2471 : Go p.tables e below B0 (sf T2468 m 199 #[iv q1, iv q2, iv q3, iv c3_2442, iv c4_2442, iv c5_2442, rv b, rv d, iv c8_2442, iv c9_2442, iv c10_2442, iv c11_2442, nu, nu, nu, nu, nu, nu, nu] [.int 6, .int c5_2442, .int x2469]) := fun t q => by
   refine k_2470 t ?_
   refine s_iaddE X2468.here hx (hb hby at_194) c2469 ?_
   refine s_iload X2468.here hx (hb hby at_195) rfl ?_
   refine s_bipush (x := 6) X2468.here hx (hb hby at_197) rfl ?_
   exact q
  obtain ⟨x2472, c2472, hf2472⟩ := Option.bind_eq_some_iff.mp hf2469
  obtain ⟨_, _, ⟨T2473, L2473, k2473, n2473⟩, -, X2473, ⟨Lc2473, hQ2473, l2473, y2473, z2473⟩, st2473⟩ := Jvm.LawKit.callS X2468 hx (y := y_26) hown (mvT hZ (hw _ (wd 120 rfl))) (mvT hZ (hw _ (wd 121 rfl))) (mvT hZ (hw _ (wd 109 rfl))) (mvT hZ (hw _ (wd 122 rfl))) (by decide) (backOf (W := 1) (bit_okx l Z a0 hw [] c5_2442 (6 : Int32) Tl2442.heap n0 x2472 c2472) hZ (hw _ (wd 122 rfl)) (hw _ (wd 109 rfl)) (by decide) (by decide)) (g := (mkF m 199 #[iv q1, iv q2, iv q3, iv c3_2442, iv c4_2442, iv c5_2442, rv b, rv d, iv c8_2442, iv c9_2442, iv c10_2442, iv c11_2442, nu, nu, nu, nu, nu, nu, nu] [.int 6, .int c5_2442, .int x2469])) rfl (by rw [hml]; rfl) (argsL := [.int c5_2442, .int 6]) (rest := [.int x2469]) (lenOf pd_0 rfl) rfl (by show 2 * 0 + _ ≤ _; exact Nat.le_of_eq rfl) (hb hby at_199) (fun _ _ => ⟨rfl, e2468, (by decide : 18 + 0 ≤ _), (by decide : 137 + 0 ≤ _)⟩)
  dsimp only [Pt.U, Pt.locs, Pt.cells, Pt.slots] at X2473 l2473 y2473 z2473 st2473 hQ2473
  subst l2473 y2473 z2473
  obtain ⟨rfl, N2473q, e2473⟩ := hQ2473
  have N2473 := Fr.app N2468 N2473q
  have X2473 : Stand p l e _ s m _ below meth c T2473 _ 18 137 := X2473
  have k_2475 : Go p.tables e below B0 (sf T2473 m 202 #[iv q1, iv q2, iv q3, iv c3_2442, iv c4_2442, iv c5_2442, rv b, rv d, iv c8_2442, iv c9_2442, iv c10_2442, iv c11_2442, nu, nu, nu, nu, nu, nu, nu] [.int x2472, .int x2469]) := fun t q => by
   refine k_2471 t ?_
   refine st2473 _ ?_
   show Steps _ _ _ (sf T2473 m 202 #[iv q1, iv q2, iv q3, iv c3_2442, iv c4_2442, iv c5_2442, rv b, rv d, iv c8_2442, iv c9_2442, iv c10_2442, iv c11_2442, nu, nu, nu, nu, nu, nu, nu] [.int x2472, .int x2469]) _
   exact q
  obtain ⟨x2474, c2474, hf2474⟩ := Option.bind_eq_some_iff.mp hf2472
  have k_2476 : Go p.tables e below B0 (sf T2473 m 207 #[iv q1, iv q2, iv q3, iv c3_2442, iv c4_2442, iv c5_2442, rv b, rv d, iv c8_2442, iv c9_2442, iv c10_2442, iv c11_2442, nu, nu, nu, nu, nu, nu, nu] [.int 7, .int c5_2442, .int x2474]) := fun t q => by
   refine k_2475 t ?_
   refine s_iaddE X2473.here hx (hb hby at_202) c2474 ?_
   refine s_iload X2473.here hx (hb hby at_203) rfl ?_
   refine s_bipush (x := 7) X2473.here hx (hb hby at_205) rfl ?_
   exact q
  obtain ⟨x2477, c2477, hf2477⟩ := Option.bind_eq_some_iff.mp hf2474
  obtain ⟨_, _, ⟨T2478, L2478, k2478, n2478⟩, -, X2478, ⟨Lc2478, hQ2478, l2478, y2478, z2478⟩, st2478⟩ := Jvm.LawKit.callS X2473 hx (y := y_26) hown (mvT hZ (hw _ (wd 120 rfl))) (mvT hZ (hw _ (wd 121 rfl))) (mvT hZ (hw _ (wd 109 rfl))) (mvT hZ (hw _ (wd 122 rfl))) (by decide) (backOf (W := 1) (bit_okx l Z a0 hw [] c5_2442 (7 : Int32) Tl2442.heap n0 x2477 c2477) hZ (hw _ (wd 122 rfl)) (hw _ (wd 109 rfl)) (by decide) (by decide)) (g := (mkF m 207 #[iv q1, iv q2, iv q3, iv c3_2442, iv c4_2442, iv c5_2442, rv b, rv d, iv c8_2442, iv c9_2442, iv c10_2442, iv c11_2442, nu, nu, nu, nu, nu, nu, nu] [.int 7, .int c5_2442, .int x2474])) rfl (by rw [hml]; rfl) (argsL := [.int c5_2442, .int 7]) (rest := [.int x2474]) (lenOf pd_0 rfl) rfl (by show 2 * 0 + _ ≤ _; exact Nat.le_of_eq rfl) (hb hby at_207) (fun _ _ => ⟨rfl, e2473, (by decide : 18 + 0 ≤ _), (by decide : 137 + 0 ≤ _)⟩)
  dsimp only [Pt.U, Pt.locs, Pt.cells, Pt.slots] at X2478 l2478 y2478 z2478 st2478 hQ2478
  subst l2478 y2478 z2478
  obtain ⟨rfl, N2478q, e2478⟩ := hQ2478
  have N2478 := Fr.app N2473 N2478q
  have X2478 : Stand p l e _ s m _ below meth c T2478 _ 18 137 := X2478
  have k_2480 : Go p.tables e below B0 (sf T2478 m 210 #[iv q1, iv q2, iv q3, iv c3_2442, iv c4_2442, iv c5_2442, rv b, rv d, iv c8_2442, iv c9_2442, iv c10_2442, iv c11_2442, nu, nu, nu, nu, nu, nu, nu] [.int x2477, .int x2474]) := fun t q => by
   refine k_2476 t ?_
   refine st2478 _ ?_
   show Steps _ _ _ (sf T2478 m 210 #[iv q1, iv q2, iv q3, iv c3_2442, iv c4_2442, iv c5_2442, rv b, rv d, iv c8_2442, iv c9_2442, iv c10_2442, iv c11_2442, nu, nu, nu, nu, nu, nu, nu] [.int x2477, .int x2474]) _
   exact q
  obtain ⟨x2479, c2479, hf2479⟩ := Option.bind_eq_some_iff.mp hf2477
  have k_2481 : Go p.tables e below B0 (sf T2478 m 213 #[iv q1, iv q2, iv q3, iv c3_2442, iv c4_2442, iv c5_2442, rv b, rv d, iv c8_2442, iv c9_2442, iv c10_2442, iv c11_2442, iv x2479, nu, nu, nu, nu, nu, nu] []) := fun t q => by
   refine k_2480 t ?_
   refine s_iaddE X2478.here hx (hb hby at_210) c2479 ?_
   refine s_istore X2478.here hx (hb hby at_211) (l' := #[iv q1, iv q2, iv q3, iv c3_2442, iv c4_2442, iv c5_2442, rv b, rv d, iv c8_2442, iv c9_2442, iv c10_2442, iv c11_2442, iv x2479, nu, nu, nu, nu, nu, nu]) rfl ?_
   exact q
  exact lp213  b d pt σl2442 c3_2442 c4_2442 c5_2442 c8_2442 c9_2442 c10_2442 c11_2442 x2479  T2478 _ X2478 N2478 (by rw [e2478]; exact Wl2442)  k_2481 hf2479
 have lp47 : ∀ (b d : Addr) (pt : Nat → Addr) (σl2482 : St) (c3_2482 : Int32)(c4_2482 : Int32)(c5_2482 : Int32)  (Tl2482 : State) (Ll2482 : List Loc), Stand p l e room_1 s m #[.int q1, .int q2, .int q3] below meth c Tl2482 Ll2482 18 137 → Fr n0 Ll2482 → Wd Z n0 Tl2482.heap b d pt σl2482 → Go p.tables e below B0 (sf Tl2482 m 47 #[iv q1, iv q2, iv q3, iv c3_2482, iv c4_2482, iv c5_2482, rv b, rv d, nu, nu, nu, nu, nu, nu, nu, nu, nu, nu, nu] []) → fLaw_L47 nn ss mm σl2482 c3_2482 c4_2482 c5_2482 = some r → ∃ s₂ o, Steps p.tables e below B0 s₂ ∧ s₂.status = .running ∧ Ended s₂ below o ∧ (∃ v L, o = .returned v ∧ Q0 n0 v s₂.heap L ∧ FrameEnd s o s₂ L room_1.cells room_1.slots) := by
  intro b d pt σl2482 c3_2482 c4_2482 c5_2482  Tl2482 Ll2482 Xl2482 Nl2482 Wl2482  kl2482 hl2482
  unfold fLaw_L47 at hl2482
  have k_2483 : Go p.tables e below B0 (sf Tl2482 m 50 #[iv q1, iv q2, iv q3, iv c3_2482, iv c4_2482, iv c5_2482, rv b, rv d, nu, nu, nu, nu, nu, nu, nu, nu, nu, nu, nu] [.int 2, .int c4_2482]) := fun t q => by
   refine kl2482 t ?_
   refine s_iload Xl2482.here hx (hb hby at_47) rfl ?_
   refine s_iconst (x := 2) Xl2482.here hx (hb hby at_49) rfl ?_
   exact q
  have k_2484 : Go p.tables e below B0 (sf Tl2482 m 58 #[iv q1, iv q2, iv q3, iv c3_2482, iv c4_2482, iv c5_2482, rv b, rv d, nu, nu, nu, nu, nu, nu, nu, nu, nu, nu, nu] [(.int (if c4_2482 < (2 : Int32) then (-1 : Int32) else (0 : Int32)))]) := by
   by_cases hc2484 : c4_2482 < (2 : Int32)
   ·rw [if_pos hc2484]; exact fun t q => by
     refine k_2483 t ?_
     refine s_icmpYes Xl2482.here hx (pc' := 57) (hb hby at_50) (tlt hc2484).1 (by decide) (by decide) ?_
     refine s_iconst (x := -1) Xl2482.here hx (hb hby at_57) rfl ?_
     exact q
   ·rw [if_neg hc2484]; exact fun t q => by
     refine k_2483 t ?_
     refine s_icmpNo Xl2482.here hx (hb hby at_50) (flt hc2484).1 ?_
     refine s_iconst (x := 0) Xl2482.here hx (hb hby at_53) rfl ?_
     refine s_goto Xl2482.here hx (pc' := 58) (hb hby at_54) (by decide) (by decide) ?_
     exact q
  have k_2485 : Go p.tables e below B0 (sf Tl2482 m 62 #[iv q1, iv q2, iv q3, iv c3_2482, iv c4_2482, iv c5_2482, rv b, rv d, .val (.int (if c4_2482 < (2 : Int32) then (-1 : Int32) else (0 : Int32))), nu, nu, nu, nu, nu, nu, nu, nu, nu, nu] [.ref d]) := fun t q => by
   refine k_2484 t ?_
   refine s_istore Xl2482.here hx (hb hby at_58) (l' := #[iv q1, iv q2, iv q3, iv c3_2482, iv c4_2482, iv c5_2482, rv b, rv d, .val (.int (if c4_2482 < (2 : Int32) then (-1 : Int32) else (0 : Int32))), nu, nu, nu, nu, nu, nu, nu, nu, nu, nu]) rfl ?_
   refine s_aload Xl2482.here hx (hb hby at_60) rfl rfl ?_
   exact q
  obtain ⟨z2486, c2486, hf2486⟩ := Option.bind_eq_some_iff.mp hl2482
  obtain ⟨cq2487, kq2487, q2487a, q2487b, q2487c⟩ := isOf hZ (rfl : Tl2482.heap = _) (Wl2482.2.1.2.2.1)
  obtain ⟨_, _, ⟨T2487, L2487, k2487, n2487⟩, -, X2487, ⟨Lc2487, hQ2487, l2487, y2487, z2487⟩, st2487⟩ := Xl2482.virtualBack hx (y := y_13) (z := y_13) hown (mvT hZ (hw _ (wd 100 rfl))) (mvT hZ (hw _ (wd 101 rfl))) (notFace_of_selects (args := #[]) (mvT hZ (hw _ (wd 103 rfl)))) (mvT hZ (hw _ (wd 103 rfl))) (mvT hZ (hw _ (wd 102 rfl))) (by decide) (backOf (W := 0) (fFull_ok l Z a0 hw [] b d pt σl2482  Tl2482.heap n0 Wl2482 z2486 c2486) hZ (hw _ (wd 104 rfl)) (hw _ (wd 57 rfl)) (by decide) (by decide)) q2487a q2487c (g := (mkF m 62 #[iv q1, iv q2, iv q3, iv c3_2482, iv c4_2482, iv c5_2482, rv b, rv d, .val (.int (if c4_2482 < (2 : Int32) then (-1 : Int32) else (0 : Int32))), nu, nu, nu, nu, nu, nu, nu, nu, nu, nu] [.ref d])) rfl (by rw [hml]; rfl) (Steps.refl _) (argsL := []) (rest := []) (lenOf pd_5 rfl) rfl (by show 2 * 0 + _ ≤ _; exact Nat.le_of_eq rfl) (hb hby at_62) (fun _ _ => ⟨rfl, (rfl : Tl2482.heap = _), (by decide : 18 + 0 ≤ _), (by decide : 137 + 0 ≤ _)⟩)
  dsimp only [Pt.U, Pt.locs, Pt.cells, Pt.slots] at X2487 l2487 y2487 z2487 st2487 hQ2487
  subst l2487 y2487 z2487
  obtain ⟨rfl, N2487q, w2487⟩ := hQ2487
  have N2487 := Fr.app Nl2482 N2487q
  have X2487 : Stand p l e _ s m _ below meth c T2487 _ 18 137 := X2487
  have k_2488 : Go p.tables e below B0 (sf T2487 m 72 #[iv q1, iv q2, iv q3, iv c3_2482, iv c4_2482, iv c5_2482, rv b, rv d, .val (.int (if c4_2482 < (2 : Int32) then (-1 : Int32) else (0 : Int32))), .val (.int z2486.1), nu, nu, nu, nu, nu, nu, nu, nu, nu] [.int 0, .int c5_2482, .ref b]) := fun t q => by
   refine k_2485 t ?_
   refine st2487.trans ?_
   show Steps _ _ _ (sf T2487 m 65 #[iv q1, iv q2, iv q3, iv c3_2482, iv c4_2482, iv c5_2482, rv b, rv d, .val (.int (if c4_2482 < (2 : Int32) then (-1 : Int32) else (0 : Int32))), nu, nu, nu, nu, nu, nu, nu, nu, nu, nu] [(.int z2486.1)]) _
   refine s_istore X2487.here hx (hb hby at_65) (l' := #[iv q1, iv q2, iv q3, iv c3_2482, iv c4_2482, iv c5_2482, rv b, rv d, .val (.int (if c4_2482 < (2 : Int32) then (-1 : Int32) else (0 : Int32))), .val (.int z2486.1), nu, nu, nu, nu, nu, nu, nu, nu, nu]) rfl ?_
   refine s_aload X2487.here hx (hb hby at_67) rfl rfl ?_
   refine s_iload X2487.here hx (hb hby at_69) rfl ?_
   refine s_iconst (x := 0) X2487.here hx (hb hby at_71) rfl ?_
   exact q
  obtain ⟨z2489, c2489, hf2489⟩ := Option.bind_eq_some_iff.mp hf2486
  obtain ⟨_, _, ⟨T2490, L2490, k2490, n2490⟩, -, X2490, ⟨Lc2490, hQ2490, l2490, y2490, z2490⟩, st2490⟩ := Jvm.LawKit.callS X2487 hx (y := y_19) hown (mvT hZ (hw _ (wd 107 rfl))) (mvT hZ (hw _ (wd 108 rfl))) (mvT hZ (hw _ (wd 109 rfl))) (mvT hZ (hw _ (wd 110 rfl))) (by decide) (backOf (W := 0) (fMarkIf_ok l Z a0 hw [] b d pt z2486.2 c5_2482 (0 : Int32) T2487.heap n0 w2487 z2489 c2489) hZ (hw _ (wd 110 rfl)) (hw _ (wd 109 rfl)) (by decide) (by decide)) (g := (mkF m 72 #[iv q1, iv q2, iv q3, iv c3_2482, iv c4_2482, iv c5_2482, rv b, rv d, .val (.int (if c4_2482 < (2 : Int32) then (-1 : Int32) else (0 : Int32))), .val (.int z2486.1), nu, nu, nu, nu, nu, nu, nu, nu, nu] [.int 0, .int c5_2482, .ref b])) rfl (by rw [hml]; rfl) (argsL := [.ref b, .int c5_2482, .int 0]) (rest := []) (lenOf pd_12 rfl) rfl (by show 2 * 0 + _ ≤ _; exact Nat.le_of_eq rfl) (hb hby at_72) (fun _ _ => ⟨rfl, (rfl : T2487.heap = _), (by decide : 18 + 0 ≤ _), (by decide : 137 + 0 ≤ _)⟩)
  dsimp only [Pt.U, Pt.locs, Pt.cells, Pt.slots] at X2490 l2490 y2490 z2490 st2490 hQ2490
  subst l2490 y2490 z2490
  obtain ⟨rfl, N2490q, w2490⟩ := hQ2490
  have N2490 := Fr.app N2487 N2490q
  have X2490 : Stand p l e _ s m _ below meth c T2490 _ 18 137 := X2490
  have k_2491 : Go p.tables e below B0 (sf T2490 m 80 #[iv q1, iv q2, iv q3, iv c3_2482, iv c4_2482, iv c5_2482, rv b, rv d, .val (.int (if c4_2482 < (2 : Int32) then (-1 : Int32) else (0 : Int32))), .val (.int z2486.1), nu, nu, nu, nu, nu, nu, nu, nu, nu] [.int 1, .int c5_2482, .ref b]) := fun t q => by
   refine k_2488 t ?_
   refine st2490 _ ?_
   show Steps _ _ _ (sf T2490 m 75 #[iv q1, iv q2, iv q3, iv c3_2482, iv c4_2482, iv c5_2482, rv b, rv d, .val (.int (if c4_2482 < (2 : Int32) then (-1 : Int32) else (0 : Int32))), .val (.int z2486.1), nu, nu, nu, nu, nu, nu, nu, nu, nu] []) _
   refine s_aload X2490.here hx (hb hby at_75) rfl rfl ?_
   refine s_iload X2490.here hx (hb hby at_77) rfl ?_
   refine s_iconst (x := 1) X2490.here hx (hb hby at_79) rfl ?_
   exact q
  obtain ⟨z2492, c2492, hf2492⟩ := Option.bind_eq_some_iff.mp hf2489
  obtain ⟨_, _, ⟨T2493, L2493, k2493, n2493⟩, -, X2493, ⟨Lc2493, hQ2493, l2493, y2493, z2493⟩, st2493⟩ := Jvm.LawKit.callS X2490 hx (y := y_19) hown (mvT hZ (hw _ (wd 107 rfl))) (mvT hZ (hw _ (wd 108 rfl))) (mvT hZ (hw _ (wd 109 rfl))) (mvT hZ (hw _ (wd 110 rfl))) (by decide) (backOf (W := 0) (fMarkIf_ok l Z a0 hw [] b d pt z2489.2 c5_2482 (1 : Int32) T2490.heap n0 w2490 z2492 c2492) hZ (hw _ (wd 110 rfl)) (hw _ (wd 109 rfl)) (by decide) (by decide)) (g := (mkF m 80 #[iv q1, iv q2, iv q3, iv c3_2482, iv c4_2482, iv c5_2482, rv b, rv d, .val (.int (if c4_2482 < (2 : Int32) then (-1 : Int32) else (0 : Int32))), .val (.int z2486.1), nu, nu, nu, nu, nu, nu, nu, nu, nu] [.int 1, .int c5_2482, .ref b])) rfl (by rw [hml]; rfl) (argsL := [.ref b, .int c5_2482, .int 1]) (rest := []) (lenOf pd_12 rfl) rfl (by show 2 * 0 + _ ≤ _; exact Nat.le_of_eq rfl) (hb hby at_80) (fun _ _ => ⟨rfl, (rfl : T2490.heap = _), (by decide : 18 + 0 ≤ _), (by decide : 137 + 0 ≤ _)⟩)
  dsimp only [Pt.U, Pt.locs, Pt.cells, Pt.slots] at X2493 l2493 y2493 z2493 st2493 hQ2493
  subst l2493 y2493 z2493
  obtain ⟨rfl, N2493q, w2493⟩ := hQ2493
  have N2493 := Fr.app N2490 N2493q
  have X2493 : Stand p l e _ s m _ below meth c T2493 _ 18 137 := X2493
  have k_2494 : Go p.tables e below B0 (sf T2493 m 88 #[iv q1, iv q2, iv q3, iv c3_2482, iv c4_2482, iv c5_2482, rv b, rv d, .val (.int (if c4_2482 < (2 : Int32) then (-1 : Int32) else (0 : Int32))), .val (.int z2486.1), nu, nu, nu, nu, nu, nu, nu, nu, nu] [.int 2, .int c5_2482, .ref b]) := fun t q => by
   refine k_2491 t ?_
   refine st2493 _ ?_
   show Steps _ _ _ (sf T2493 m 83 #[iv q1, iv q2, iv q3, iv c3_2482, iv c4_2482, iv c5_2482, rv b, rv d, .val (.int (if c4_2482 < (2 : Int32) then (-1 : Int32) else (0 : Int32))), .val (.int z2486.1), nu, nu, nu, nu, nu, nu, nu, nu, nu] []) _
   refine s_aload X2493.here hx (hb hby at_83) rfl rfl ?_
   refine s_iload X2493.here hx (hb hby at_85) rfl ?_
   refine s_iconst (x := 2) X2493.here hx (hb hby at_87) rfl ?_
   exact q
  obtain ⟨z2495, c2495, hf2495⟩ := Option.bind_eq_some_iff.mp hf2492
  obtain ⟨_, _, ⟨T2496, L2496, k2496, n2496⟩, -, X2496, ⟨Lc2496, hQ2496, l2496, y2496, z2496⟩, st2496⟩ := Jvm.LawKit.callS X2493 hx (y := y_19) hown (mvT hZ (hw _ (wd 107 rfl))) (mvT hZ (hw _ (wd 108 rfl))) (mvT hZ (hw _ (wd 109 rfl))) (mvT hZ (hw _ (wd 110 rfl))) (by decide) (backOf (W := 0) (fMarkIf_ok l Z a0 hw [] b d pt z2492.2 c5_2482 (2 : Int32) T2493.heap n0 w2493 z2495 c2495) hZ (hw _ (wd 110 rfl)) (hw _ (wd 109 rfl)) (by decide) (by decide)) (g := (mkF m 88 #[iv q1, iv q2, iv q3, iv c3_2482, iv c4_2482, iv c5_2482, rv b, rv d, .val (.int (if c4_2482 < (2 : Int32) then (-1 : Int32) else (0 : Int32))), .val (.int z2486.1), nu, nu, nu, nu, nu, nu, nu, nu, nu] [.int 2, .int c5_2482, .ref b])) rfl (by rw [hml]; rfl) (argsL := [.ref b, .int c5_2482, .int 2]) (rest := []) (lenOf pd_12 rfl) rfl (by show 2 * 0 + _ ≤ _; exact Nat.le_of_eq rfl) (hb hby at_88) (fun _ _ => ⟨rfl, (rfl : T2493.heap = _), (by decide : 18 + 0 ≤ _), (by decide : 137 + 0 ≤ _)⟩)
  dsimp only [Pt.U, Pt.locs, Pt.cells, Pt.slots] at X2496 l2496 y2496 z2496 st2496 hQ2496
  subst l2496 y2496 z2496
  obtain ⟨rfl, N2496q, w2496⟩ := hQ2496
  have N2496 := Fr.app N2493 N2496q
  have X2496 : Stand p l e _ s m _ below meth c T2496 _ 18 137 := X2496
  have k_2497 : Go p.tables e below B0 (sf T2496 m 96 #[iv q1, iv q2, iv q3, iv c3_2482, iv c4_2482, iv c5_2482, rv b, rv d, .val (.int (if c4_2482 < (2 : Int32) then (-1 : Int32) else (0 : Int32))), .val (.int z2486.1), nu, nu, nu, nu, nu, nu, nu, nu, nu] [.int 3, .int c5_2482, .ref b]) := fun t q => by
   refine k_2494 t ?_
   refine st2496 _ ?_
   show Steps _ _ _ (sf T2496 m 91 #[iv q1, iv q2, iv q3, iv c3_2482, iv c4_2482, iv c5_2482, rv b, rv d, .val (.int (if c4_2482 < (2 : Int32) then (-1 : Int32) else (0 : Int32))), .val (.int z2486.1), nu, nu, nu, nu, nu, nu, nu, nu, nu] []) _
   refine s_aload X2496.here hx (hb hby at_91) rfl rfl ?_
   refine s_iload X2496.here hx (hb hby at_93) rfl ?_
   refine s_iconst (x := 3) X2496.here hx (hb hby at_95) rfl ?_
   exact q
  obtain ⟨z2498, c2498, hf2498⟩ := Option.bind_eq_some_iff.mp hf2495
  obtain ⟨_, _, ⟨T2499, L2499, k2499, n2499⟩, -, X2499, ⟨Lc2499, hQ2499, l2499, y2499, z2499⟩, st2499⟩ := Jvm.LawKit.callS X2496 hx (y := y_19) hown (mvT hZ (hw _ (wd 107 rfl))) (mvT hZ (hw _ (wd 108 rfl))) (mvT hZ (hw _ (wd 109 rfl))) (mvT hZ (hw _ (wd 110 rfl))) (by decide) (backOf (W := 0) (fMarkIf_ok l Z a0 hw [] b d pt z2495.2 c5_2482 (3 : Int32) T2496.heap n0 w2496 z2498 c2498) hZ (hw _ (wd 110 rfl)) (hw _ (wd 109 rfl)) (by decide) (by decide)) (g := (mkF m 96 #[iv q1, iv q2, iv q3, iv c3_2482, iv c4_2482, iv c5_2482, rv b, rv d, .val (.int (if c4_2482 < (2 : Int32) then (-1 : Int32) else (0 : Int32))), .val (.int z2486.1), nu, nu, nu, nu, nu, nu, nu, nu, nu] [.int 3, .int c5_2482, .ref b])) rfl (by rw [hml]; rfl) (argsL := [.ref b, .int c5_2482, .int 3]) (rest := []) (lenOf pd_12 rfl) rfl (by show 2 * 0 + _ ≤ _; exact Nat.le_of_eq rfl) (hb hby at_96) (fun _ _ => ⟨rfl, (rfl : T2496.heap = _), (by decide : 18 + 0 ≤ _), (by decide : 137 + 0 ≤ _)⟩)
  dsimp only [Pt.U, Pt.locs, Pt.cells, Pt.slots] at X2499 l2499 y2499 z2499 st2499 hQ2499
  subst l2499 y2499 z2499
  obtain ⟨rfl, N2499q, w2499⟩ := hQ2499
  have N2499 := Fr.app N2496 N2499q
  have X2499 : Stand p l e _ s m _ below meth c T2499 _ 18 137 := X2499
  have k_2500 : Go p.tables e below B0 (sf T2499 m 104 #[iv q1, iv q2, iv q3, iv c3_2482, iv c4_2482, iv c5_2482, rv b, rv d, .val (.int (if c4_2482 < (2 : Int32) then (-1 : Int32) else (0 : Int32))), .val (.int z2486.1), nu, nu, nu, nu, nu, nu, nu, nu, nu] [.int 4, .int c5_2482, .ref b]) := fun t q => by
   refine k_2497 t ?_
   refine st2499 _ ?_
   show Steps _ _ _ (sf T2499 m 99 #[iv q1, iv q2, iv q3, iv c3_2482, iv c4_2482, iv c5_2482, rv b, rv d, .val (.int (if c4_2482 < (2 : Int32) then (-1 : Int32) else (0 : Int32))), .val (.int z2486.1), nu, nu, nu, nu, nu, nu, nu, nu, nu] []) _
   refine s_aload X2499.here hx (hb hby at_99) rfl rfl ?_
   refine s_iload X2499.here hx (hb hby at_101) rfl ?_
   refine s_iconst (x := 4) X2499.here hx (hb hby at_103) rfl ?_
   exact q
  obtain ⟨z2501, c2501, hf2501⟩ := Option.bind_eq_some_iff.mp hf2498
  obtain ⟨_, _, ⟨T2502, L2502, k2502, n2502⟩, -, X2502, ⟨Lc2502, hQ2502, l2502, y2502, z2502⟩, st2502⟩ := Jvm.LawKit.callS X2499 hx (y := y_19) hown (mvT hZ (hw _ (wd 107 rfl))) (mvT hZ (hw _ (wd 108 rfl))) (mvT hZ (hw _ (wd 109 rfl))) (mvT hZ (hw _ (wd 110 rfl))) (by decide) (backOf (W := 0) (fMarkIf_ok l Z a0 hw [] b d pt z2498.2 c5_2482 (4 : Int32) T2499.heap n0 w2499 z2501 c2501) hZ (hw _ (wd 110 rfl)) (hw _ (wd 109 rfl)) (by decide) (by decide)) (g := (mkF m 104 #[iv q1, iv q2, iv q3, iv c3_2482, iv c4_2482, iv c5_2482, rv b, rv d, .val (.int (if c4_2482 < (2 : Int32) then (-1 : Int32) else (0 : Int32))), .val (.int z2486.1), nu, nu, nu, nu, nu, nu, nu, nu, nu] [.int 4, .int c5_2482, .ref b])) rfl (by rw [hml]; rfl) (argsL := [.ref b, .int c5_2482, .int 4]) (rest := []) (lenOf pd_12 rfl) rfl (by show 2 * 0 + _ ≤ _; exact Nat.le_of_eq rfl) (hb hby at_104) (fun _ _ => ⟨rfl, (rfl : T2499.heap = _), (by decide : 18 + 0 ≤ _), (by decide : 137 + 0 ≤ _)⟩)
  dsimp only [Pt.U, Pt.locs, Pt.cells, Pt.slots] at X2502 l2502 y2502 z2502 st2502 hQ2502
  subst l2502 y2502 z2502
  obtain ⟨rfl, N2502q, w2502⟩ := hQ2502
  have N2502 := Fr.app N2499 N2502q
  have X2502 : Stand p l e _ s m _ below meth c T2502 _ 18 137 := X2502
  have k_2503 : Go p.tables e below B0 (sf T2502 m 112 #[iv q1, iv q2, iv q3, iv c3_2482, iv c4_2482, iv c5_2482, rv b, rv d, .val (.int (if c4_2482 < (2 : Int32) then (-1 : Int32) else (0 : Int32))), .val (.int z2486.1), nu, nu, nu, nu, nu, nu, nu, nu, nu] [.int 5, .int c5_2482, .ref b]) := fun t q => by
   refine k_2500 t ?_
   refine st2502 _ ?_
   show Steps _ _ _ (sf T2502 m 107 #[iv q1, iv q2, iv q3, iv c3_2482, iv c4_2482, iv c5_2482, rv b, rv d, .val (.int (if c4_2482 < (2 : Int32) then (-1 : Int32) else (0 : Int32))), .val (.int z2486.1), nu, nu, nu, nu, nu, nu, nu, nu, nu] []) _
   refine s_aload X2502.here hx (hb hby at_107) rfl rfl ?_
   refine s_iload X2502.here hx (hb hby at_109) rfl ?_
   refine s_iconst (x := 5) X2502.here hx (hb hby at_111) rfl ?_
   exact q
  obtain ⟨z2504, c2504, hf2504⟩ := Option.bind_eq_some_iff.mp hf2501
  obtain ⟨_, _, ⟨T2505, L2505, k2505, n2505⟩, -, X2505, ⟨Lc2505, hQ2505, l2505, y2505, z2505⟩, st2505⟩ := Jvm.LawKit.callS X2502 hx (y := y_19) hown (mvT hZ (hw _ (wd 107 rfl))) (mvT hZ (hw _ (wd 108 rfl))) (mvT hZ (hw _ (wd 109 rfl))) (mvT hZ (hw _ (wd 110 rfl))) (by decide) (backOf (W := 0) (fMarkIf_ok l Z a0 hw [] b d pt z2501.2 c5_2482 (5 : Int32) T2502.heap n0 w2502 z2504 c2504) hZ (hw _ (wd 110 rfl)) (hw _ (wd 109 rfl)) (by decide) (by decide)) (g := (mkF m 112 #[iv q1, iv q2, iv q3, iv c3_2482, iv c4_2482, iv c5_2482, rv b, rv d, .val (.int (if c4_2482 < (2 : Int32) then (-1 : Int32) else (0 : Int32))), .val (.int z2486.1), nu, nu, nu, nu, nu, nu, nu, nu, nu] [.int 5, .int c5_2482, .ref b])) rfl (by rw [hml]; rfl) (argsL := [.ref b, .int c5_2482, .int 5]) (rest := []) (lenOf pd_12 rfl) rfl (by show 2 * 0 + _ ≤ _; exact Nat.le_of_eq rfl) (hb hby at_112) (fun _ _ => ⟨rfl, (rfl : T2502.heap = _), (by decide : 18 + 0 ≤ _), (by decide : 137 + 0 ≤ _)⟩)
  dsimp only [Pt.U, Pt.locs, Pt.cells, Pt.slots] at X2505 l2505 y2505 z2505 st2505 hQ2505
  subst l2505 y2505 z2505
  obtain ⟨rfl, N2505q, w2505⟩ := hQ2505
  have N2505 := Fr.app N2502 N2505q
  have X2505 : Stand p l e _ s m _ below meth c T2505 _ 18 137 := X2505
  have k_2506 : Go p.tables e below B0 (sf T2505 m 121 #[iv q1, iv q2, iv q3, iv c3_2482, iv c4_2482, iv c5_2482, rv b, rv d, .val (.int (if c4_2482 < (2 : Int32) then (-1 : Int32) else (0 : Int32))), .val (.int z2486.1), nu, nu, nu, nu, nu, nu, nu, nu, nu] [.int 6, .int c5_2482, .ref b]) := fun t q => by
   refine k_2503 t ?_
   refine st2505 _ ?_
   show Steps _ _ _ (sf T2505 m 115 #[iv q1, iv q2, iv q3, iv c3_2482, iv c4_2482, iv c5_2482, rv b, rv d, .val (.int (if c4_2482 < (2 : Int32) then (-1 : Int32) else (0 : Int32))), .val (.int z2486.1), nu, nu, nu, nu, nu, nu, nu, nu, nu] []) _
   refine s_aload X2505.here hx (hb hby at_115) rfl rfl ?_
   refine s_iload X2505.here hx (hb hby at_117) rfl ?_
   refine s_bipush (x := 6) X2505.here hx (hb hby at_119) rfl ?_
   exact q
  obtain ⟨z2507, c2507, hf2507⟩ := Option.bind_eq_some_iff.mp hf2504
  obtain ⟨_, _, ⟨T2508, L2508, k2508, n2508⟩, -, X2508, ⟨Lc2508, hQ2508, l2508, y2508, z2508⟩, st2508⟩ := Jvm.LawKit.callS X2505 hx (y := y_19) hown (mvT hZ (hw _ (wd 107 rfl))) (mvT hZ (hw _ (wd 108 rfl))) (mvT hZ (hw _ (wd 109 rfl))) (mvT hZ (hw _ (wd 110 rfl))) (by decide) (backOf (W := 0) (fMarkIf_ok l Z a0 hw [] b d pt z2504.2 c5_2482 (6 : Int32) T2505.heap n0 w2505 z2507 c2507) hZ (hw _ (wd 110 rfl)) (hw _ (wd 109 rfl)) (by decide) (by decide)) (g := (mkF m 121 #[iv q1, iv q2, iv q3, iv c3_2482, iv c4_2482, iv c5_2482, rv b, rv d, .val (.int (if c4_2482 < (2 : Int32) then (-1 : Int32) else (0 : Int32))), .val (.int z2486.1), nu, nu, nu, nu, nu, nu, nu, nu, nu] [.int 6, .int c5_2482, .ref b])) rfl (by rw [hml]; rfl) (argsL := [.ref b, .int c5_2482, .int 6]) (rest := []) (lenOf pd_12 rfl) rfl (by show 2 * 0 + _ ≤ _; exact Nat.le_of_eq rfl) (hb hby at_121) (fun _ _ => ⟨rfl, (rfl : T2505.heap = _), (by decide : 18 + 0 ≤ _), (by decide : 137 + 0 ≤ _)⟩)
  dsimp only [Pt.U, Pt.locs, Pt.cells, Pt.slots] at X2508 l2508 y2508 z2508 st2508 hQ2508
  subst l2508 y2508 z2508
  obtain ⟨rfl, N2508q, w2508⟩ := hQ2508
  have N2508 := Fr.app N2505 N2508q
  have X2508 : Stand p l e _ s m _ below meth c T2508 _ 18 137 := X2508
  have k_2509 : Go p.tables e below B0 (sf T2508 m 130 #[iv q1, iv q2, iv q3, iv c3_2482, iv c4_2482, iv c5_2482, rv b, rv d, .val (.int (if c4_2482 < (2 : Int32) then (-1 : Int32) else (0 : Int32))), .val (.int z2486.1), nu, nu, nu, nu, nu, nu, nu, nu, nu] [.int 7, .int c5_2482, .ref b]) := fun t q => by
   refine k_2506 t ?_
   refine st2508 _ ?_
   show Steps _ _ _ (sf T2508 m 124 #[iv q1, iv q2, iv q3, iv c3_2482, iv c4_2482, iv c5_2482, rv b, rv d, .val (.int (if c4_2482 < (2 : Int32) then (-1 : Int32) else (0 : Int32))), .val (.int z2486.1), nu, nu, nu, nu, nu, nu, nu, nu, nu] []) _
   refine s_aload X2508.here hx (hb hby at_124) rfl rfl ?_
   refine s_iload X2508.here hx (hb hby at_126) rfl ?_
   refine s_bipush (x := 7) X2508.here hx (hb hby at_128) rfl ?_
   exact q
  obtain ⟨z2510, c2510, hf2510⟩ := Option.bind_eq_some_iff.mp hf2507
  obtain ⟨_, _, ⟨T2511, L2511, k2511, n2511⟩, -, X2511, ⟨Lc2511, hQ2511, l2511, y2511, z2511⟩, st2511⟩ := Jvm.LawKit.callS X2508 hx (y := y_19) hown (mvT hZ (hw _ (wd 107 rfl))) (mvT hZ (hw _ (wd 108 rfl))) (mvT hZ (hw _ (wd 109 rfl))) (mvT hZ (hw _ (wd 110 rfl))) (by decide) (backOf (W := 0) (fMarkIf_ok l Z a0 hw [] b d pt z2507.2 c5_2482 (7 : Int32) T2508.heap n0 w2508 z2510 c2510) hZ (hw _ (wd 110 rfl)) (hw _ (wd 109 rfl)) (by decide) (by decide)) (g := (mkF m 130 #[iv q1, iv q2, iv q3, iv c3_2482, iv c4_2482, iv c5_2482, rv b, rv d, .val (.int (if c4_2482 < (2 : Int32) then (-1 : Int32) else (0 : Int32))), .val (.int z2486.1), nu, nu, nu, nu, nu, nu, nu, nu, nu] [.int 7, .int c5_2482, .ref b])) rfl (by rw [hml]; rfl) (argsL := [.ref b, .int c5_2482, .int 7]) (rest := []) (lenOf pd_12 rfl) rfl (by show 2 * 0 + _ ≤ _; exact Nat.le_of_eq rfl) (hb hby at_130) (fun _ _ => ⟨rfl, (rfl : T2508.heap = _), (by decide : 18 + 0 ≤ _), (by decide : 137 + 0 ≤ _)⟩)
  dsimp only [Pt.U, Pt.locs, Pt.cells, Pt.slots] at X2511 l2511 y2511 z2511 st2511 hQ2511
  subst l2511 y2511 z2511
  obtain ⟨rfl, N2511q, w2511⟩ := hQ2511
  have N2511 := Fr.app N2508 N2511q
  have X2511 : Stand p l e _ s m _ below meth c T2511 _ 18 137 := X2511
  have k_2512 : Go p.tables e below B0 (sf T2511 m 137 #[iv q1, iv q2, iv q3, iv c3_2482, iv c4_2482, iv c5_2482, rv b, rv d, .val (.int (if c4_2482 < (2 : Int32) then (-1 : Int32) else (0 : Int32))), .val (.int z2486.1), nu, nu, nu, nu, nu, nu, nu, nu, nu] [.ref d, .ref b]) := fun t q => by
   refine k_2509 t ?_
   refine st2511 _ ?_
   show Steps _ _ _ (sf T2511 m 133 #[iv q1, iv q2, iv q3, iv c3_2482, iv c4_2482, iv c5_2482, rv b, rv d, .val (.int (if c4_2482 < (2 : Int32) then (-1 : Int32) else (0 : Int32))), .val (.int z2486.1), nu, nu, nu, nu, nu, nu, nu, nu, nu] []) _
   refine s_aload X2511.here hx (hb hby at_133) rfl rfl ?_
   refine s_aload X2511.here hx (hb hby at_135) rfl rfl ?_
   exact q
  obtain ⟨z2513, c2513, hf2513⟩ := Option.bind_eq_some_iff.mp hf2510
  obtain ⟨cq2514, kq2514, q2514a, q2514b, q2514c⟩ := isOf hZ (rfl : T2511.heap = _) (w2511.2.1.2.1)
  obtain ⟨_, _, ⟨T2514, L2514, k2514, n2514⟩, -, X2514, ⟨Lc2514, hQ2514, l2514, y2514, z2514⟩, st2514⟩ := X2511.virtualBack hx (y := y_18) (z := y_18) hown (mvT hZ (hw _ (wd 111 rfl))) (mvT hZ (hw _ (wd 112 rfl))) (notFace_of_selects (args := #[]) (mvT hZ (hw _ (wd 114 rfl)))) (mvT hZ (hw _ (wd 114 rfl))) (mvT hZ (hw _ (wd 113 rfl))) (by decide) (backOf (W := 0) (fSplit_ok l Z a0 hw [] b d pt z2510.2  T2511.heap n0 w2511 z2513 c2513) hZ (hw _ (wd 115 rfl)) (hw _ (wd 3 rfl)) (by decide) (by decide)) q2514a q2514c (g := (mkF m 137 #[iv q1, iv q2, iv q3, iv c3_2482, iv c4_2482, iv c5_2482, rv b, rv d, .val (.int (if c4_2482 < (2 : Int32) then (-1 : Int32) else (0 : Int32))), .val (.int z2486.1), nu, nu, nu, nu, nu, nu, nu, nu, nu] [.ref d, .ref b])) rfl (by rw [hml]; rfl) (Steps.refl _) (argsL := [.ref d]) (rest := []) (lenOf pd_13 rfl) rfl (by show 2 * 0 + _ ≤ _; exact Nat.le_of_eq rfl) (hb hby at_137) (fun _ _ => ⟨rfl, (rfl : T2511.heap = _), (by decide : 18 + 0 ≤ _), (by decide : 137 + 0 ≤ _)⟩)
  dsimp only [Pt.U, Pt.locs, Pt.cells, Pt.slots] at X2514 l2514 y2514 z2514 st2514 hQ2514
  subst l2514 y2514 z2514
  obtain ⟨rfl, N2514q, w2514⟩ := hQ2514
  have N2514 := Fr.app N2511 N2514q
  have X2514 : Stand p l e _ s m _ below meth c T2514 _ 18 137 := X2514
  have k_2515 : Go p.tables e below B0 (sf T2514 m 142 #[iv q1, iv q2, iv q3, iv c3_2482, iv c4_2482, iv c5_2482, rv b, rv d, .val (.int (if c4_2482 < (2 : Int32) then (-1 : Int32) else (0 : Int32))), .val (.int z2486.1), nu, nu, nu, nu, nu, nu, nu, nu, nu] [.ref d]) := fun t q => by
   refine k_2512 t ?_
   refine st2514.trans ?_
   show Steps _ _ _ (sf T2514 m 140 #[iv q1, iv q2, iv q3, iv c3_2482, iv c4_2482, iv c5_2482, rv b, rv d, .val (.int (if c4_2482 < (2 : Int32) then (-1 : Int32) else (0 : Int32))), .val (.int z2486.1), nu, nu, nu, nu, nu, nu, nu, nu, nu] []) _
   refine s_aload X2514.here hx (hb hby at_140) rfl rfl ?_
   exact q
  obtain ⟨z2516, c2516, hf2516⟩ := Option.bind_eq_some_iff.mp hf2513
  obtain ⟨cq2517, kq2517, q2517a, q2517b, q2517c⟩ := isOf hZ (rfl : T2514.heap = _) (w2514.2.1.2.2.1)
  obtain ⟨_, _, ⟨T2517, L2517, k2517, n2517⟩, -, X2517, ⟨Lc2517, hQ2517, l2517, y2517, z2517⟩, st2517⟩ := X2514.virtualBack hx (y := y_13) (z := y_13) hown (mvT hZ (hw _ (wd 100 rfl))) (mvT hZ (hw _ (wd 101 rfl))) (notFace_of_selects (args := #[]) (mvT hZ (hw _ (wd 103 rfl)))) (mvT hZ (hw _ (wd 103 rfl))) (mvT hZ (hw _ (wd 102 rfl))) (by decide) (backOf (W := 0) (fFull_ok l Z a0 hw [] b d pt z2513.2  T2514.heap n0 w2514 z2516 c2516) hZ (hw _ (wd 104 rfl)) (hw _ (wd 57 rfl)) (by decide) (by decide)) q2517a q2517c (g := (mkF m 142 #[iv q1, iv q2, iv q3, iv c3_2482, iv c4_2482, iv c5_2482, rv b, rv d, .val (.int (if c4_2482 < (2 : Int32) then (-1 : Int32) else (0 : Int32))), .val (.int z2486.1), nu, nu, nu, nu, nu, nu, nu, nu, nu] [.ref d])) rfl (by rw [hml]; rfl) (Steps.refl _) (argsL := []) (rest := []) (lenOf pd_5 rfl) rfl (by show 2 * 0 + _ ≤ _; exact Nat.le_of_eq rfl) (hb hby at_142) (fun _ _ => ⟨rfl, (rfl : T2514.heap = _), (by decide : 18 + 0 ≤ _), (by decide : 137 + 0 ≤ _)⟩)
  dsimp only [Pt.U, Pt.locs, Pt.cells, Pt.slots] at X2517 l2517 y2517 z2517 st2517 hQ2517
  subst l2517 y2517 z2517
  obtain ⟨rfl, N2517q, w2517⟩ := hQ2517
  have N2517 := Fr.app N2514 N2517q
  have X2517 : Stand p l e _ s m _ below meth c T2517 _ 18 137 := X2517
  have k_2518 : Go p.tables e below B0 (sf T2517 m 149 #[iv q1, iv q2, iv q3, iv c3_2482, iv c4_2482, iv c5_2482, rv b, rv d, .val (.int (if c4_2482 < (2 : Int32) then (-1 : Int32) else (0 : Int32))), .val (.int z2486.1), .val (.int z2516.1), nu, nu, nu, nu, nu, nu, nu, nu] [.ref d]) := fun t q => by
   refine k_2515 t ?_
   refine st2517.trans ?_
   show Steps _ _ _ (sf T2517 m 145 #[iv q1, iv q2, iv q3, iv c3_2482, iv c4_2482, iv c5_2482, rv b, rv d, .val (.int (if c4_2482 < (2 : Int32) then (-1 : Int32) else (0 : Int32))), .val (.int z2486.1), nu, nu, nu, nu, nu, nu, nu, nu, nu] [(.int z2516.1)]) _
   refine s_istore X2517.here hx (hb hby at_145) (l' := #[iv q1, iv q2, iv q3, iv c3_2482, iv c4_2482, iv c5_2482, rv b, rv d, .val (.int (if c4_2482 < (2 : Int32) then (-1 : Int32) else (0 : Int32))), .val (.int z2486.1), .val (.int z2516.1), nu, nu, nu, nu, nu, nu, nu, nu]) rfl ?_
   refine s_aload X2517.here hx (hb hby at_147) rfl rfl ?_
   exact q
  obtain ⟨z2519, c2519, hf2519⟩ := Option.bind_eq_some_iff.mp hf2516
  obtain ⟨cq2520, kq2520, q2520a, q2520b, q2520c⟩ := isOf hZ (rfl : T2517.heap = _) (w2517.2.1.2.2.1)
  obtain ⟨_, _, ⟨T2520, L2520, k2520, n2520⟩, -, X2520, ⟨Lc2520, hQ2520, l2520, y2520, z2520⟩, st2520⟩ := X2517.virtualBack hx (y := y_13) (z := y_13) hown (mvT hZ (hw _ (wd 100 rfl))) (mvT hZ (hw _ (wd 101 rfl))) (notFace_of_selects (args := #[]) (mvT hZ (hw _ (wd 103 rfl)))) (mvT hZ (hw _ (wd 103 rfl))) (mvT hZ (hw _ (wd 102 rfl))) (by decide) (backOf (W := 0) (fFull_ok l Z a0 hw [] b d pt z2516.2  T2517.heap n0 w2517 z2519 c2519) hZ (hw _ (wd 104 rfl)) (hw _ (wd 57 rfl)) (by decide) (by decide)) q2520a q2520c (g := (mkF m 149 #[iv q1, iv q2, iv q3, iv c3_2482, iv c4_2482, iv c5_2482, rv b, rv d, .val (.int (if c4_2482 < (2 : Int32) then (-1 : Int32) else (0 : Int32))), .val (.int z2486.1), .val (.int z2516.1), nu, nu, nu, nu, nu, nu, nu, nu] [.ref d])) rfl (by rw [hml]; rfl) (Steps.refl _) (argsL := []) (rest := []) (lenOf pd_5 rfl) rfl (by show 2 * 0 + _ ≤ _; exact Nat.le_of_eq rfl) (hb hby at_149) (fun _ _ => ⟨rfl, (rfl : T2517.heap = _), (by decide : 18 + 0 ≤ _), (by decide : 137 + 0 ≤ _)⟩)
  dsimp only [Pt.U, Pt.locs, Pt.cells, Pt.slots] at X2520 l2520 y2520 z2520 st2520 hQ2520
  subst l2520 y2520 z2520
  obtain ⟨rfl, N2520q, w2520⟩ := hQ2520
  have N2520 := Fr.app N2517 N2520q
  have X2520 : Stand p l e _ s m _ below meth c T2520 _ 18 137 := X2520
  have k_2521 : Go p.tables e below B0 (sf T2520 m 154 #[iv q1, iv q2, iv q3, iv c3_2482, iv c4_2482, iv c5_2482, rv b, rv d, .val (.int (if c4_2482 < (2 : Int32) then (-1 : Int32) else (0 : Int32))), .val (.int z2486.1), .val (.int z2516.1), .val (.int z2519.1), nu, nu, nu, nu, nu, nu, nu] []) := fun t q => by
   refine k_2518 t ?_
   refine st2520.trans ?_
   show Steps _ _ _ (sf T2520 m 152 #[iv q1, iv q2, iv q3, iv c3_2482, iv c4_2482, iv c5_2482, rv b, rv d, .val (.int (if c4_2482 < (2 : Int32) then (-1 : Int32) else (0 : Int32))), .val (.int z2486.1), .val (.int z2516.1), nu, nu, nu, nu, nu, nu, nu, nu] [(.int z2519.1)]) _
   refine s_istore X2520.here hx (hb hby at_152) (l' := #[iv q1, iv q2, iv q3, iv c3_2482, iv c4_2482, iv c5_2482, rv b, rv d, .val (.int (if c4_2482 < (2 : Int32) then (-1 : Int32) else (0 : Int32))), .val (.int z2486.1), .val (.int z2516.1), .val (.int z2519.1), nu, nu, nu, nu, nu, nu, nu]) rfl ?_
   exact q
  exact lp154  b d pt z2519.2 c3_2482 c4_2482 c5_2482 (if c4_2482 < (2 : Int32) then (-1 : Int32) else (0 : Int32)) z2486.1 z2516.1 z2519.1  T2520 _ X2520 N2520 w2520  k_2521 hf2519
 have k_2522 : Go p.tables e below B0 (sf s₁ m 24 #[iv q1, iv q2, iv q3, iv nn, iv ss, iv mm, nu, nu, nu, nu, nu, nu, nu, nu, nu, nu, nu, nu, nu] []) := fun t q => by
  refine k0 t ?_
  refine s_iloadN X0.here hx (hb hby at_0) rfl ?_
  refine s_bipush (x := 7) X0.here hx (hb hby at_1) rfl ?_
  refine s_iand X0.here hx (hb hby at_3) ?_
  rw [hn]
  show Steps _ _ _ (sf s₁ m 4 #[iv q1, iv q2, iv q3, nu, nu, nu, nu, nu, nu, nu, nu, nu, nu, nu, nu, nu, nu, nu, nu] [.int nn]) _
  refine s_istoreN X0.here hx (hb hby at_4) (l' := #[iv q1, iv q2, iv q3, iv nn, nu, nu, nu, nu, nu, nu, nu, nu, nu, nu, nu, nu, nu, nu, nu]) rfl ?_
  refine s_iloadN X0.here hx (hb hby at_5) rfl ?_
  refine X0.ldcInt hx hown (mvT hZ (hw _ (wd 0 rfl))) (g := (mkF m 6 #[iv q1, iv q2, iv q3, iv nn, nu, nu, nu, nu, nu, nu, nu, nu, nu, nu, nu, nu, nu, nu, nu] [.int q2])) rfl (hb hby at_6) _ ?_
  show Steps _ _ _ (sf s₁ m 8 #[iv q1, iv q2, iv q3, iv nn, nu, nu, nu, nu, nu, nu, nu, nu, nu, nu, nu, nu, nu, nu, nu] [.int 2147483647, .int q2]) _
  refine s_iand X0.here hx (hb hby at_8) ?_
  refine s_iloadN X0.here hx (hb hby at_9) rfl ?_
  refine s_iconst (x := 1) X0.here hx (hb hby at_10) rfl ?_
  refine s_iadd X0.here hx (hb hby at_11) ?_
  refine iremM (g := (mkF m 12 #[iv q1, iv q2, iv q3, iv nn, nu, nu, nu, nu, nu, nu, nu, nu, nu, nu, nu, nu, nu, nu, nu] [(.int (nn + (1 : Int32))), (.int (q2 &&& (2147483647 : Int32)))])) X0 hx rfl (hb hby at_12) rfl hz ?_
  show Steps _ _ _ (sf s₁ m 13 #[iv q1, iv q2, iv q3, iv nn, nu, nu, nu, nu, nu, nu, nu, nu, nu, nu, nu, nu, nu, nu, nu] [(.int ((q2 &&& (2147483647 : Int32)) % (nn + (1 : Int32))))]) _
  rw [hs]
  show Steps _ _ _ (sf s₁ m 13 #[iv q1, iv q2, iv q3, iv nn, nu, nu, nu, nu, nu, nu, nu, nu, nu, nu, nu, nu, nu, nu, nu] [.int ss]) _
  refine s_istore X0.here hx (hb hby at_13) (l' := #[iv q1, iv q2, iv q3, iv nn, iv ss, nu, nu, nu, nu, nu, nu, nu, nu, nu, nu, nu, nu, nu, nu]) rfl ?_
  refine s_iloadN X0.here hx (hb hby at_15) rfl ?_
  refine s_iconst (x := 1) X0.here hx (hb hby at_16) rfl ?_
  refine s_iloadN X0.here hx (hb hby at_17) rfl ?_
  refine s_ishl X0.here hx (hb hby at_18) ?_
  refine s_iconst (x := 1) X0.here hx (hb hby at_19) rfl ?_
  refine s_isub X0.here hx (hb hby at_20) ?_
  refine s_iand X0.here hx (hb hby at_21) ?_
  rw [hm]
  show Steps _ _ _ (sf s₁ m 22 #[iv q1, iv q2, iv q3, iv nn, iv ss, nu, nu, nu, nu, nu, nu, nu, nu, nu, nu, nu, nu, nu, nu] [.int mm]) _
  refine s_istore X0.here hx (hb hby at_22) (l' := #[iv q1, iv q2, iv q3, iv nn, iv ss, iv mm, nu, nu, nu, nu, nu, nu, nu, nu, nu, nu, nu, nu, nu]) rfl ?_
  exact q
 obtain ⟨T2523, h2523, X2523, e2523, E2523, A2523, D2523, -, st2523⟩ := newO X0 hx hZ hown (hw _ (wd 1 rfl)) (hw _ (wd 2 rfl)) (hw _ (wd 3 rfl)) e0 (g := (mkF m 24 #[iv q1, iv q2, iv q3, iv nn, iv ss, iv mm, nu, nu, nu, nu, nu, nu, nu, nu, nu, nu, nu, nu, nu] [])) rfl (hb hby at_24) (by decide) (by decide)
 obtain ⟨b2523, g2523⟩ : ∃ z, z = h0.size := ⟨_, rfl⟩
 rw [← g2523] at A2523 D2523 st2523
 have ge_b2523 : n0 ≤ b2523 := Nat.le_trans Z0 (Nat.le_of_eq g2523.symm)
 have zl_2524 := Nat.le_trans Z0 E2523.1
 have w2523 := (WC.nil (Z := Z) (n0 := n0) (h := h0) (ps := psX (fun _ => (0 : Addr)) 0 [])).ext E2523
 have F2523_states : Fld Z h2523 b2523 BLn "states" "[I" .null := D2523 (Or.inr (hw _ (wd 29 rfl))) (ty := (.array .int)) (by decide)
 have F2523_placeOf : Fld Z h2523 b2523 BLn "placeOf" "[I" .null := D2523 (Or.inr (hw _ (wd 40 rfl))) (ty := (.array .int)) (by decide)
 have F2523_blockOf : Fld Z h2523 b2523 BLn "blockOf" "[I" .null := D2523 (Or.inr (hw _ (wd 42 rfl))) (ty := (.array .int)) (by decide)
 have F2523_marked : Fld Z h2523 b2523 BLn "marked" "[I" .null := D2523 (Or.inr (hw _ (wd 44 rfl))) (ty := (.array .int)) (by decide)
 have F2523_start : Fld Z h2523 b2523 BLn "start" "[I" .null := D2523 (Or.inl (hw _ (wd 46 rfl))) (ty := (.array .int)) (by decide)
 have F2523_end : Fld Z h2523 b2523 BLn "end" "[I" .null := D2523 (Or.inl (hw _ (wd 48 rfl))) (ty := (.array .int)) (by decide)
 have F2523_markedEnd : Fld Z h2523 b2523 BLn "markedEnd" "[I" .null := D2523 (Or.inl (hw _ (wd 50 rfl))) (ty := (.array .int)) (by decide)
 have F2523_touched : Fld Z h2523 b2523 BLn "touched" "[I" .null := D2523 (Or.inl (hw _ (wd 52 rfl))) (ty := (.array .int)) (by decide)
 have F2523_blockCount : Fld Z h2523 b2523 BLn "blockCount" "I" (.int 0) := D2523 (Or.inl (hw _ (wd 54 rfl))) (ty := .int) (by decide)
 have F2523_touchedCount : Fld Z h2523 b2523 BLn "touchedCount" "I" (.int 0) := D2523 (Or.inl (hw _ (wd 117 rfl))) (ty := .int) (by decide)
 have F2523_markedCount : Fld Z h2523 b2523 BLn "markedCount" "I" (.int 0) := D2523 (Or.inl (hw _ (wd 119 rfl))) (ty := .int) (by decide)
 have k_2525 : Go p.tables e below B0 (sf T2523 m 29 #[iv q1, iv q2, iv q3, iv nn, iv ss, iv mm, nu, nu, nu, nu, nu, nu, nu, nu, nu, nu, nu, nu, nu] [.int nn, .ref b2523, .ref b2523]) := fun t q => by
  refine k_2522 t ?_
  refine st2523 _ ?_
  show Steps _ _ _ (sf T2523 m 27 #[iv q1, iv q2, iv q3, iv nn, iv ss, iv mm, nu, nu, nu, nu, nu, nu, nu, nu, nu, nu, nu, nu, nu] [.ref b2523]) _
  refine s_dup X2523.here hx (hb hby at_27) rfl ?_
  refine s_iloadN X2523.here hx (hb hby at_28) rfl ?_
  exact q
 obtain ⟨z2526, c2526, hf2526⟩ := Option.bind_eq_some_iff.mp hf
 obtain ⟨_, _, ⟨T2527, L2527, k2527, n2527⟩, -, X2527, ⟨Lc2527, hQ2527, l2527, y2527, z2527⟩, st2527⟩ := X2523.specialBack hx (y := y_24) rfl hown (mvT hZ (hw _ (wd 4 rfl))) (mvT hZ (hw _ (wd 5 rfl))) (mvT hZ (hw _ (wd 6 rfl))) (by decide) (backOf (W := 1) (fB1_ok l Z a0 hw [] b2523 (([], []) : St) nn h2523 n0 zl_2524 w2523 A2523 F2523_states F2523_placeOf F2523_blockOf F2523_marked F2523_start F2523_end F2523_markedEnd F2523_touched F2523_markedCount F2523_touchedCount F2523_blockCount ge_b2523 z2526 c2526) hZ (hw _ (wd 6 rfl)) (hw _ (wd 3 rfl)) (by decide) (by decide)) (g := (mkF m 29 #[iv q1, iv q2, iv q3, iv nn, iv ss, iv mm, nu, nu, nu, nu, nu, nu, nu, nu, nu, nu, nu, nu, nu] [.int nn, .ref b2523, .ref b2523])) rfl (by rw [hml]; rfl) (Steps.refl _) (a := b2523) (argsL := [.int nn]) (rest := [.ref b2523]) (lenOf pd_4 rfl) rfl (by show 2 * 0 + _ ≤ _; exact Nat.le_of_eq rfl) (hb hby at_29) (fun _ _ => ⟨rfl, e2523, (by decide : 1 + 9 ≤ _), (by decide : 11 + 58 ≤ _)⟩)
 dsimp only [Pt.U, Pt.locs, Pt.cells, Pt.slots] at X2527 l2527 y2527 z2527 st2527 hQ2527
 subst l2527 y2527 z2527
 obtain ⟨rfl, N2527q, pt2527, V2527, y2527, M2527, G2527_states, G2527_placeOf, G2527_blockOf, G2527_marked, G2527_start, G2527_end, G2527_markedEnd, G2527_touched, G2527_markedCount, G2527_touchedCount, G2527_blockCount⟩ := hQ2527
 have N2527 := Fr.app N0 N2527q
 have X2527 : Stand p l e _ s m _ below meth c T2527 _ 10 69 := X2527
 have w2527 := WC.toX V2527
 have k_2528 : Go p.tables e below B0 (sf T2527 m 34 #[iv q1, iv q2, iv q3, iv nn, iv ss, iv mm, rv b2523, nu, nu, nu, nu, nu, nu, nu, nu, nu, nu, nu, nu] []) := fun t q => by
  refine k_2525 t ?_
  refine st2527.trans ?_
  show Steps _ _ _ (sf T2527 m 32 #[iv q1, iv q2, iv q3, iv nn, iv ss, iv mm, nu, nu, nu, nu, nu, nu, nu, nu, nu, nu, nu, nu, nu] [.ref b2523]) _
  refine s_astore X2527.here hx (hb hby at_32) rfl (l' := #[iv q1, iv q2, iv q3, iv nn, iv ss, iv mm, rv b2523, nu, nu, nu, nu, nu, nu, nu, nu, nu, nu, nu, nu]) rfl ?_
  exact q
 obtain ⟨T2529, h2529, X2529, e2529, E2529, A2529, D2529, -, st2529⟩ := newO X2527 hx hZ hown (hw _ (wd 55 rfl)) (hw _ (wd 56 rfl)) (hw _ (wd 57 rfl)) (rfl : T2527.heap = _) (g := (mkF m 34 #[iv q1, iv q2, iv q3, iv nn, iv ss, iv mm, rv b2523, nu, nu, nu, nu, nu, nu, nu, nu, nu, nu, nu, nu] [])) rfl (hb hby at_34) (by decide) (by decide)
 obtain ⟨b2529, g2529⟩ : ∃ z, z = T2527.heap.size := ⟨_, rfl⟩
 rw [← g2529] at A2529 D2529 st2529
 have ge_b2529 : n0 ≤ b2529 := Nat.le_trans y2527 (Nat.le_of_eq g2529.symm)
 have f_2530 := Exa.ext E2529 M2527
 have f_2531 := Fld.ext E2529 G2527_states
 have f_2532 := Fld.ext E2529 G2527_placeOf
 have f_2533 := Fld.ext E2529 G2527_blockOf
 have f_2534 := Fld.ext E2529 G2527_marked
 have f_2535 := Fld.ext E2529 G2527_start
 have f_2536 := Fld.ext E2529 G2527_end
 have f_2537 := Fld.ext E2529 G2527_markedEnd
 have f_2538 := Fld.ext E2529 G2527_touched
 have f_2539 := Fld.ext E2529 G2527_blockCount
 have f_2540 := Fld.ext E2529 G2527_touchedCount
 have f_2541 := Fld.ext E2529 G2527_markedCount
 have zl_2542 := Nat.le_trans y2527 E2529.1
 have w2529 := w2527.ext E2529
 have F2529_blocks : Fld Z h2529 b2529 BSn "blocks" "Lcom/example/states_into_classes/statesintoclasses/engine/Blocks;" .null := D2529 (Or.inr (hw _ (wd 70 rfl))) (ty := (.object BLn)) (by decide)
 have F2529_secondStart : Fld Z h2529 b2529 BSn "secondStart" "I" (.int 0) := D2529 (Or.inr (hw _ (wd 72 rfl))) (ty := .int) (by decide)
 have F2529_next : Fld Z h2529 b2529 BSn "next" "[I" .null := D2529 (Or.inr (hw _ (wd 74 rfl))) (ty := (.array .int)) (by decide)
 have F2529_previous : Fld Z h2529 b2529 BSn "previous" "[I" .null := D2529 (Or.inr (hw _ (wd 76 rfl))) (ty := (.array .int)) (by decide)
 have F2529_first : Fld Z h2529 b2529 BSn "first" "[I" .null := D2529 (Or.inl (hw _ (wd 78 rfl))) (ty := (.array .int)) (by decide)
 have F2529_firstCount : Fld Z h2529 b2529 BSn "firstCount" "[I" .null := D2529 (Or.inl (hw _ (wd 80 rfl))) (ty := (.array .int)) (by decide)
 have F2529_bucket : Fld Z h2529 b2529 BSn "bucket" "[I" .null := D2529 (Or.inr (hw _ (wd 82 rfl))) (ty := (.array .int)) (by decide)
 have F2529_nextInBucket : Fld Z h2529 b2529 BSn "nextInBucket" "[I" .null := D2529 (Or.inl (hw _ (wd 84 rfl))) (ty := (.array .int)) (by decide)
 have F2529_previousInBucket : Fld Z h2529 b2529 BSn "previousInBucket" "[I" .null := D2529 (Or.inl (hw _ (wd 86 rfl))) (ty := (.array .int)) (by decide)
 have F2529_unevenCount : Fld Z h2529 b2529 BSn "unevenCount" "I" (.int 0) := D2529 (Or.inl (hw _ (wd 95 rfl))) (ty := .int) (by decide)
 have F2529_highest : Fld Z h2529 b2529 BSn "highest" "I" (.int 0) := D2529 (Or.inl (hw _ (wd 106 rfl))) (ty := .int) (by decide)
 have k_2543 : Go p.tables e below B0 (sf T2529 m 42 #[iv q1, iv q2, iv q3, iv nn, iv ss, iv mm, rv b2523, nu, nu, nu, nu, nu, nu, nu, nu, nu, nu, nu, nu] [.int ss, .ref b2523, .ref b2529, .ref b2529]) := fun t q => by
  refine k_2528 t ?_
  refine st2529 _ ?_
  show Steps _ _ _ (sf T2529 m 37 #[iv q1, iv q2, iv q3, iv nn, iv ss, iv mm, rv b2523, nu, nu, nu, nu, nu, nu, nu, nu, nu, nu, nu, nu] [.ref b2529]) _
  refine s_dup X2529.here hx (hb hby at_37) rfl ?_
  refine s_aload X2529.here hx (hb hby at_38) rfl rfl ?_
  refine s_iload X2529.here hx (hb hby at_40) rfl ?_
  exact q
 obtain ⟨z2544, c2544, hf2544⟩ := Option.bind_eq_some_iff.mp hf2526
 obtain ⟨_, _, ⟨T2545, L2545, k2545, n2545⟩, -, X2545, ⟨Lc2545, hQ2545, l2545, y2545, z2545⟩, st2545⟩ := X2529.specialBack hx (y := y_25) rfl hown (mvT hZ (hw _ (wd 58 rfl))) (mvT hZ (hw _ (wd 59 rfl))) (mvT hZ (hw _ (wd 60 rfl))) (by decide) (backOf (W := 1) (fS_ok l Z a0 hw [] b2529 b2523 pt2527 z2526.2 ss z2526.1 h2529 n0 zl_2542 w2529 f_2530 f_2531 f_2532 f_2533 f_2534 f_2535 f_2536 f_2537 f_2538 f_2541 f_2540 f_2539 ge_b2523 A2529 F2529_blocks F2529_secondStart F2529_next F2529_previous F2529_first F2529_firstCount F2529_unevenCount F2529_bucket F2529_nextInBucket F2529_previousInBucket F2529_highest ge_b2529 z2544 c2544) hZ (hw _ (wd 60 rfl)) (hw _ (wd 57 rfl)) (by decide) (by decide)) (g := (mkF m 42 #[iv q1, iv q2, iv q3, iv nn, iv ss, iv mm, rv b2523, nu, nu, nu, nu, nu, nu, nu, nu, nu, nu, nu, nu] [.int ss, .ref b2523, .ref b2529, .ref b2529])) rfl (by rw [hml]; rfl) (Steps.refl _) (a := b2529) (argsL := [.ref b2523, .int ss]) (rest := [.ref b2529]) (lenOf pd_14 rfl) rfl (by show 2 * 0 + _ ≤ _; exact Nat.le_of_eq rfl) (hb hby at_42) (fun _ _ => ⟨rfl, e2529, (by decide : 11 + 7 ≤ _), (by decide : 80 + 57 ≤ _)⟩)
 dsimp only [Pt.U, Pt.locs, Pt.cells, Pt.slots] at X2545 l2545 y2545 z2545 st2545 hQ2545
 subst l2545 y2545 z2545
 obtain ⟨rfl, N2545q, pv2545, V2545⟩ := hQ2545
 have N2545 := Fr.app N2527 N2545q
 have X2545 : Stand p l e _ s m _ below meth c T2545 _ 18 137 := X2545
 have k_2546 : Go p.tables e below B0 (sf T2545 m 47 #[iv q1, iv q2, iv q3, iv nn, iv ss, iv mm, rv b2523, rv b2529, nu, nu, nu, nu, nu, nu, nu, nu, nu, nu, nu] []) := fun t q => by
  refine k_2543 t ?_
  refine st2545.trans ?_
  show Steps _ _ _ (sf T2545 m 45 #[iv q1, iv q2, iv q3, iv nn, iv ss, iv mm, rv b2523, nu, nu, nu, nu, nu, nu, nu, nu, nu, nu, nu, nu] [.ref b2529]) _
  refine s_astore X2545.here hx (hb hby at_45) rfl (l' := #[iv q1, iv q2, iv q3, iv nn, iv ss, iv mm, rv b2523, rv b2529, nu, nu, nu, nu, nu, nu, nu, nu, nu, nu, nu]) rfl ?_
  exact q
 exact lp47  b2523 b2529 pv2545 z2544.2 nn ss mm  T2545 _ X2545 N2545 V2545  k_2546 hf2544
def okL (n s m : Nat) : Bool := match fLaw (Int32.ofNat n) (Int32.ofNat s) (Int32.ofNat m) with | some r => r.1 == 1 | none => false
def allB : Nat → (Nat → Bool) → Bool
  | 0, _ => true
  | k + 1, f => f k && allB k f
theorem allB_spec {k : Nat} {f : Nat → Bool} (h : allB k f = true) : ∀ i, i < k → f i = true := by
  induction k with
  | zero => intro i hi; exact absurd hi (Nat.not_lt_zero _)
  | succ k ih =>
    intro i hi
    rw [allB, Bool.and_eq_true] at h
    by_cases e : i = k
    · rw [e]; exact h.1
    · exact ih h.2 i (by omega)
theorem okL_spec {n s m : Nat} (h : okL n s m = true) : ∃ r, fLaw (Int32.ofNat n) (Int32.ofNat s) (Int32.ofNat m) = some r ∧ r.1 = 1 := by
  unfold okL at h
  split at h
  · next r e => exact ⟨r, e, by simpa using h⟩
  · cases h
theorem own_andc (x : Int32) (n : Nat) (hn : n < 4294967296) : ∃ k, k ≤ n ∧ x &&& Int32.ofNat n = Int32.ofNat k := by
  refine ⟨(x.toBitVec &&& BitVec.ofNat 32 n).toNat, ?_, ?_⟩
  · rw [BitVec.toNat_and]
    exact Nat.le_trans Nat.and_le_right (by rw [BitVec.toNat_ofNat]; exact Nat.mod_le _ _)
  · apply Int32.toBitVec_inj.mp
    rw [Int32.toBitVec_and, Int32.toBitVec_ofNat', Int32.toBitVec_ofNat', BitVec.ofNat_toNat, BitVec.setWidth_eq]
theorem own_remc (x : Int32) (n : Nat) (hn : n < 1000) : ∃ k, k ≤ n ∧ (x &&& 2147483647) % (Int32.ofNat n + 1) = Int32.ofNat k := by
  obtain ⟨j, hj, ej⟩ := own_andc x 2147483647 (by decide)
  have e1 : (Int32.ofNat n + 1) = Int32.ofNat (n + 1) := by rw [Int32.ofNat_add]; rfl
  rw [show x &&& 2147483647 = Int32.ofNat j from ej, e1]
  refine ⟨j % (n + 1), Nat.lt_succ_iff.mp (Nat.mod_lt _ (Nat.succ_pos _)), ?_⟩
  have l : j % (n + 1) < n + 1 := Nat.mod_lt _ (Nat.succ_pos _)
  apply Int32.toInt_inj.mp
  rw [Int32.toInt_mod, Int32.toInt_ofNat_of_lt (by omega), Int32.toInt_ofNat_of_lt (by omega), Int32.toInt_ofNat_of_lt (by omega)]
  rfl
set_option maxRecDepth 100000 in
theorem pl_0_0 : allB 1 (okL 0 0) = true := by decide +kernel
theorem pn_law_0 (s : Nat) (h : s ≤ 0) : allB 1 (okL 0 s) = true := match s, h with
  | 0, _ => pl_0_0
  | s + 1, h => absurd h (by omega)
set_option maxRecDepth 100000 in
theorem pl_1_0 : allB 2 (okL 1 0) = true := by decide +kernel
set_option maxRecDepth 100000 in
theorem pl_1_1 : allB 2 (okL 1 1) = true := by decide +kernel
theorem pn_law_1 (s : Nat) (h : s ≤ 1) : allB 2 (okL 1 s) = true := match s, h with
  | 0, _ => pl_1_0
  | 1, _ => pl_1_1
  | s + 2, h => absurd h (by omega)
set_option maxRecDepth 100000 in
theorem pl_2_0 : allB 4 (okL 2 0) = true := by decide +kernel
set_option maxRecDepth 100000 in
theorem pl_2_1 : allB 4 (okL 2 1) = true := by decide +kernel
set_option maxRecDepth 100000 in
theorem pl_2_2 : allB 4 (okL 2 2) = true := by decide +kernel
theorem pn_law_2 (s : Nat) (h : s ≤ 2) : allB 4 (okL 2 s) = true := match s, h with
  | 0, _ => pl_2_0
  | 1, _ => pl_2_1
  | 2, _ => pl_2_2
  | s + 3, h => absurd h (by omega)
set_option maxRecDepth 100000 in
theorem pl_3_0 : allB 8 (okL 3 0) = true := by decide +kernel
set_option maxRecDepth 100000 in
theorem pl_3_1 : allB 8 (okL 3 1) = true := by decide +kernel
set_option maxRecDepth 100000 in
theorem pl_3_2 : allB 8 (okL 3 2) = true := by decide +kernel
set_option maxRecDepth 100000 in
theorem pl_3_3 : allB 8 (okL 3 3) = true := by decide +kernel
theorem pn_law_3 (s : Nat) (h : s ≤ 3) : allB 8 (okL 3 s) = true := match s, h with
  | 0, _ => pl_3_0
  | 1, _ => pl_3_1
  | 2, _ => pl_3_2
  | 3, _ => pl_3_3
  | s + 4, h => absurd h (by omega)
set_option maxRecDepth 100000 in
theorem pl_4_0 : allB 16 (okL 4 0) = true := by decide +kernel
set_option maxRecDepth 100000 in
theorem pl_4_1 : allB 16 (okL 4 1) = true := by decide +kernel
set_option maxRecDepth 100000 in
theorem pl_4_2 : allB 16 (okL 4 2) = true := by decide +kernel
set_option maxRecDepth 100000 in
theorem pl_4_3 : allB 16 (okL 4 3) = true := by decide +kernel
set_option maxRecDepth 100000 in
theorem pl_4_4 : allB 16 (okL 4 4) = true := by decide +kernel
theorem pn_law_4 (s : Nat) (h : s ≤ 4) : allB 16 (okL 4 s) = true := match s, h with
  | 0, _ => pl_4_0
  | 1, _ => pl_4_1
  | 2, _ => pl_4_2
  | 3, _ => pl_4_3
  | 4, _ => pl_4_4
  | s + 5, h => absurd h (by omega)
set_option maxRecDepth 100000 in
theorem pl_5_0 : allB 32 (okL 5 0) = true := by decide +kernel
set_option maxRecDepth 100000 in
theorem pl_5_1 : allB 32 (okL 5 1) = true := by decide +kernel
set_option maxRecDepth 100000 in
theorem pl_5_2 : allB 32 (okL 5 2) = true := by decide +kernel
set_option maxRecDepth 100000 in
theorem pl_5_3 : allB 32 (okL 5 3) = true := by decide +kernel
set_option maxRecDepth 100000 in
theorem pl_5_4 : allB 32 (okL 5 4) = true := by decide +kernel
set_option maxRecDepth 100000 in
theorem pl_5_5 : allB 32 (okL 5 5) = true := by decide +kernel
theorem pn_law_5 (s : Nat) (h : s ≤ 5) : allB 32 (okL 5 s) = true := match s, h with
  | 0, _ => pl_5_0
  | 1, _ => pl_5_1
  | 2, _ => pl_5_2
  | 3, _ => pl_5_3
  | 4, _ => pl_5_4
  | 5, _ => pl_5_5
  | s + 6, h => absurd h (by omega)
set_option maxRecDepth 100000 in
theorem pl_6_0 : allB 64 (okL 6 0) = true := by decide +kernel
set_option maxRecDepth 100000 in
theorem pl_6_1 : allB 64 (okL 6 1) = true := by decide +kernel
set_option maxRecDepth 100000 in
theorem pl_6_2 : allB 64 (okL 6 2) = true := by decide +kernel
set_option maxRecDepth 100000 in
theorem pl_6_3 : allB 64 (okL 6 3) = true := by decide +kernel
set_option maxRecDepth 100000 in
theorem pl_6_4 : allB 64 (okL 6 4) = true := by decide +kernel
set_option maxRecDepth 100000 in
theorem pl_6_5 : allB 64 (okL 6 5) = true := by decide +kernel
set_option maxRecDepth 100000 in
theorem pl_6_6 : allB 64 (okL 6 6) = true := by decide +kernel
theorem pn_law_6 (s : Nat) (h : s ≤ 6) : allB 64 (okL 6 s) = true := match s, h with
  | 0, _ => pl_6_0
  | 1, _ => pl_6_1
  | 2, _ => pl_6_2
  | 3, _ => pl_6_3
  | 4, _ => pl_6_4
  | 5, _ => pl_6_5
  | 6, _ => pl_6_6
  | s + 7, h => absurd h (by omega)
set_option maxRecDepth 100000 in
theorem pl_7_0 : allB 128 (okL 7 0) = true := by decide +kernel
set_option maxRecDepth 100000 in
theorem pl_7_1 : allB 128 (okL 7 1) = true := by decide +kernel
set_option maxRecDepth 100000 in
theorem pl_7_2 : allB 128 (okL 7 2) = true := by decide +kernel
set_option maxRecDepth 100000 in
theorem pl_7_3 : allB 128 (okL 7 3) = true := by decide +kernel
set_option maxRecDepth 100000 in
theorem pl_7_4 : allB 128 (okL 7 4) = true := by decide +kernel
set_option maxRecDepth 100000 in
theorem pl_7_5 : allB 128 (okL 7 5) = true := by decide +kernel
set_option maxRecDepth 100000 in
theorem pl_7_6 : allB 128 (okL 7 6) = true := by decide +kernel
set_option maxRecDepth 100000 in
theorem pl_7_7 : allB 128 (okL 7 7) = true := by decide +kernel
theorem pn_law_7 (s : Nat) (h : s ≤ 7) : allB 128 (okL 7 s) = true := match s, h with
  | 0, _ => pl_7_0
  | 1, _ => pl_7_1
  | 2, _ => pl_7_2
  | 3, _ => pl_7_3
  | 4, _ => pl_7_4
  | 5, _ => pl_7_5
  | 6, _ => pl_7_6
  | 7, _ => pl_7_7
  | s + 8, h => absurd h (by omega)
theorem own_fin (q1 q2 q3 : Int32) : ∃ nn ss mm r, q1 &&& 7 = nn ∧ (q2 &&& 2147483647) % (nn + 1) = ss ∧ q3 &&& ((1 <<< (nn &&& 31)) - 1) = mm ∧ nn + 1 ≠ 0 ∧ fLaw nn ss mm = some r ∧ r.1 = 1 := by
  obtain ⟨n, hn, en⟩ := own_andc q1 7 (by decide)
  obtain ⟨s, hs, es⟩ := own_remc q2 n (by omega)
  match n, hn, en, hs, es with
  | 0, _, en, hs, es =>
    obtain ⟨m, hm, em⟩ := own_andc q3 0 (by decide)
    obtain ⟨r, h1, h2⟩ := okL_spec (allB_spec (pn_law_0 s hs) m (by omega))
    exact ⟨Int32.ofNat 0, Int32.ofNat s, Int32.ofNat m, r, en, es, em, by decide, h1, h2⟩
  | 1, _, en, hs, es =>
    obtain ⟨m, hm, em⟩ := own_andc q3 1 (by decide)
    obtain ⟨r, h1, h2⟩ := okL_spec (allB_spec (pn_law_1 s hs) m (by omega))
    exact ⟨Int32.ofNat 1, Int32.ofNat s, Int32.ofNat m, r, en, es, em, by decide, h1, h2⟩
  | 2, _, en, hs, es =>
    obtain ⟨m, hm, em⟩ := own_andc q3 3 (by decide)
    obtain ⟨r, h1, h2⟩ := okL_spec (allB_spec (pn_law_2 s hs) m (by omega))
    exact ⟨Int32.ofNat 2, Int32.ofNat s, Int32.ofNat m, r, en, es, em, by decide, h1, h2⟩
  | 3, _, en, hs, es =>
    obtain ⟨m, hm, em⟩ := own_andc q3 7 (by decide)
    obtain ⟨r, h1, h2⟩ := okL_spec (allB_spec (pn_law_3 s hs) m (by omega))
    exact ⟨Int32.ofNat 3, Int32.ofNat s, Int32.ofNat m, r, en, es, em, by decide, h1, h2⟩
  | 4, _, en, hs, es =>
    obtain ⟨m, hm, em⟩ := own_andc q3 15 (by decide)
    obtain ⟨r, h1, h2⟩ := okL_spec (allB_spec (pn_law_4 s hs) m (by omega))
    exact ⟨Int32.ofNat 4, Int32.ofNat s, Int32.ofNat m, r, en, es, em, by decide, h1, h2⟩
  | 5, _, en, hs, es =>
    obtain ⟨m, hm, em⟩ := own_andc q3 31 (by decide)
    obtain ⟨r, h1, h2⟩ := okL_spec (allB_spec (pn_law_5 s hs) m (by omega))
    exact ⟨Int32.ofNat 5, Int32.ofNat s, Int32.ofNat m, r, en, es, em, by decide, h1, h2⟩
  | 6, _, en, hs, es =>
    obtain ⟨m, hm, em⟩ := own_andc q3 63 (by decide)
    obtain ⟨r, h1, h2⟩ := okL_spec (allB_spec (pn_law_6 s hs) m (by omega))
    exact ⟨Int32.ofNat 6, Int32.ofNat s, Int32.ofNat m, r, en, es, em, by decide, h1, h2⟩
  | 7, _, en, hs, es =>
    obtain ⟨m, hm, em⟩ := own_andc q3 127 (by decide)
    obtain ⟨r, h1, h2⟩ := okL_spec (allB_spec (pn_law_7 s hs) m (by omega))
    exact ⟨Int32.ofNat 7, Int32.ofNat s, Int32.ofNat m, r, en, es, em, by decide, h1, h2⟩
  | n + 8, hn, _, _, _ => exact absurd hn (by omega)
set_option maxRecDepth 65536 in
set_option maxHeartbeats 40000000 in
theorem comes_1 {Post : Tables → Env → Array Value → State → Outcome → State → Prop} (hpost : ∀ tb e args s v u, (limb_1_1.after args s (.returned v) u = true ∧ limb_1_2.after args s (.returned v) u = true ∧ True) → FrameEnd s (.returned v) u (Jvm.fieldLocs frame_1_writes args s ++ Jvm.arrayLocs frame_1_arrays args s ++ Jvm.staticLocs frame_1_statics s) 48 384 → Post tb e args s (.returned v) u) :
    ArmFor flags0 classFile x code maxLocals ret World_1 tables_1 room_1 Calls_1 rest_1 Pre_1 Post := by
  intro l hfl _ _ p e ha hc hk s m args below hf hA hF happ hP
  obtain ⟨hcalls, hrest, hpre⟩ := hP
  obtain ⟨-, -, -, hnamed, -, -, -, hat⟩ := (Spec.applies_iff hf).mp happ
  obtain ⟨hg, hn⟩ := and_e (Cond.before_iff.mp (show (Jvm.Cond.and given_1 narrow_1).before args s = true from hpre))
  obtain ⟨g0, c0⟩ := and_e hg
  obtain ⟨g1, c1⟩ := and_e c0
  obtain ⟨g2, c2⟩ := and_e c1
  obtain ⟨w0, w1, w2, rfl⟩ : ∃ w0 w1 w2 : Value, args = #[w0, w1, w2] := by
    have hs : args.size = 3 := by simpa [Cond.value, given_1] using g0
    obtain ⟨L⟩ := args
    match L, hs with
    | [w0, w1, w2], _ => exact ⟨w0, w1, w2, rfl⟩
  have hw := fun d (hd : d ∈ tables_1) => atoms_spec (ws := Jvm.Cond.code x code maxLocals ret :: tables_1) hat d (List.mem_cons_of_mem _ hd)
  obtain ⟨i0, ei0⟩ := is_v g1
  obtain rfl : w0 = (.int i0) := Option.some.inj ei0
  obtain ⟨i1, ei1⟩ := is_v g2
  obtain rfl : w1 = (.int i1) := Option.some.inj ei1
  obtain ⟨i2, ei2⟩ := is_v c2
  obtain rfl : w2 = (.int i2) := Option.some.inj ei2
  obtain ⟨nn, ss, mm, r, hn, hs, hm, hz, hf', hr1⟩ := own_fin i0 i1 i2
  obtain ⟨n, o, h1, h2, h3, _, L, rfl, ⟨rfl, N⟩, hq⟩ := rm0 l s _ hw tables_1 i0 i1 i2 nn ss mm s.heap s.heap.size (Nat.le_refl _) hn hs hm hz r hf' hr1 p e ha hc hk s m _ below hf ((Spec.applies_iff_loose hf).mp happ).1 ⟨rfl, State.Warmed39.refl s, rfl⟩ trivial
  refine ⟨n, _, h1, h2, h3, hpost _ _ _ _ _ _ ⟨Cond.after_iff.mpr rfl, Cond.after_iff.mpr (eq_i res_at (Term.int_eval (1)) rfl), trivial⟩ ⟨hq.1, hq.2.1, (hq.2.2.sift fun y hy => Or.inr (N y hy)).mono (by decide) (by decide)⟩⟩
theorem main_1_1 : Claimed_1_1 := comes_1 fun _ _ _ _ _ _ h hF => ⟨h.1, hF⟩
theorem main_1_2 : Claimed_1_2 := comes_1 fun _ _ _ _ _ _ h hF => ⟨h.2.1, hF⟩
end Jvm.Pilot.@@N@@
namespace Jvm.Pilot.@@N@@
open Jvm Jvm.ClassFile Sem Op Lib Jvm.Free Jvm.Stand Jvm.Pilot.@@N@@.Jvm.D
/-! MADE BY PROGRAM (witnessworld.py) out of the Statement's table words and the real class files: 14 classes; the members and pool entries that the words name. The judged class is class 1, her method 1. -/
namespace start1
open Jvm.ClassFile
def u (s : String) : CpInfo := .utf8 (stringToUtf16 s)
/-- a pool by its gaps: so many unusable entries, then the entry; so many at the end -/
def gap : Nat → List CpInfo → List CpInfo
  | 0, r => r
  | n + 1, r => .unusable :: gap n r
def poolList (es : List (Nat × CpInfo)) (last : Nat) : List CpInfo := es.foldr (fun e r => gap e.1 (e.2 :: r)) (gap last [])
def pool (es : List (Nat × CpInfo)) (last : Nat) : Array CpInfo := ⟨poolList es last⟩
def fileOf (pool : Array CpInfo) (this : Nat) (attrs : Array Attribute := #[]) (ms : Array MethodInfo := #[]) (fl : Nat := 33) (sup : Nat := 0) (ifs : Array Nat := #[]) (fds : Array FieldInfo := #[]) : ClassFile where
  minorVersion := 0
  majorVersion := 65
  constantPool := pool
  accessFlags := fl
  thisClass := this
  superClass := sup
  interfaces := ifs
  fields := fds
  methods := ms
  attributes := attrs
def plain (name : String) (sup : Option ClassId) : Class where
  name := name
  kind := .ordinary
  loader := none
  accessFlags := 33
  super := sup
  interfaces := #[]
  cf := none
  fields := #[]
  methods := #[]
  instanceTypes := #[]
  staticTypes := #[]
  resolved := #[]
  callSites := []
  init := .initialized
  statics := none
  mirror := none

def pool0 : Array CpInfo := pool [(5, u "<init>"), (0, u "()V"), (1, .class_ 10), (1, u "java/lang/Object"), (85, u "clone"), (0, u "()Ljava/lang/Object;")] 26

def k0c0 : Code := { maxStack := 0, maxLocals := 1, code := object_method_1_code, exceptionTable := #[], attributes := #[] }
def k0m0 : Method := { name := "<init>", desc := "()V", sig := { parameters := [], returnType := none }, accessFlags := 1, code := some k0c0 }
def k0m1 : Method := { name := "clone", desc := "()Ljava/lang/Object;", sig := { parameters := [], returnType := some (.object "java/lang/Object") }, accessFlags := 260, code := none }
/-- java/lang/Object -/
def k0 : Class := { plain "java/lang/Object" none with
  accessFlags := 33
  interfaces := #[]
  cf := some (fileOf pool0 8 #[] #[{ accessFlags := 1, nameIndex := 5, descriptorIndex := 6, attributes := #[] }, { accessFlags := 260, nameIndex := 96, descriptorIndex := 97, attributes := #[] }] 33 0 #[] #[])
  fields := #[]
  methods := #[k0m0, k0m1]
  instanceTypes := #[]
  staticTypes := #[]
  resolved := Array.replicate 124 none
  statics := none }

def pool1 : Array CpInfo := pool [(2, .class_ 4), (1, u "java/lang/Object"), (0, u "<init>"), (0, u "()V"), (0, .integer 2147483647), (0, .class_ 9), (0, u "com/example/states_into_classes/statesintoclasses/engine/Blocks"), (0, .methodref 8 11), (0, .nameAndType 5 12), (0, u "(I)V"), (0, .class_ 14), (0, u "com/example/states_into_classes/statesintoclasses/engine/BlockSides"), (0, .methodref 13 16), (0, .nameAndType 5 17), (0, u "(Lcom/example/states_into_classes/statesintoclasses/engine/Blocks;I)V"), (0, .methodref 13 19), (0, .nameAndType 20 21), (0, u "fullest"), (0, u "()I"), (0, .methodref 23 24), (0, .class_ 25), (0, .nameAndType 26 27), (0, u "com/example/states_into_classes/statesintoclasses/engine/BlockSidesFullestPinLaw"), (0, u "markIf"), (0, u "(Lcom/example/states_into_classes/statesintoclasses/engine/Blocks;II)V"), (0, .methodref 8 29), (0, .nameAndType 30 31), (0, u "split"), (0, u "(Lcom/example/states_into_classes/statesintoclasses/engine/Blocks$Split;)V"), (0, .methodref 23 33), (0, .nameAndType 34 35), (0, u "bit"), (0, u "(II)I"), (0, .methodref 23 37), (0, .nameAndType 38 39), (0, u "below"), (0, u "(III)I"), (0, .methodref 41 42), (0, .class_ 43), (0, .nameAndType 44 35), (0, u "java/lang/Math"), (0, u "max"), (0, .methodref 13 46), (0, .nameAndType 47 48), (0, u "rejoin"), (0, u "(II)V"), (0, .methodref 8 50), (0, .nameAndType 51 12), (0, u "mark"), (2, u "law"), (0, u "(III)Z")] 7

def k1m0 : Method := { name := "<init>", desc := "()V", sig := { parameters := [], returnType := none }, accessFlags := 1, code := none }
def k1c1 : Code := { maxStack := 4, maxLocals := 19, code := code, exceptionTable := #[], attributes := #[] }
def k1m1 : Method := { name := "law", desc := "(III)Z", sig := { parameters := [.int, .int, .int], returnType := some .boolean }, accessFlags := 9, code := some k1c1 }
def k1c2 : Code := { maxStack := 2, maxLocals := 3, code := method_3_code, exceptionTable := #[], attributes := #[] }
def k1m2 : Method := { name := "markIf", desc := "(Lcom/example/states_into_classes/statesintoclasses/engine/Blocks;II)V", sig := { parameters := [(.object "com/example/states_into_classes/statesintoclasses/engine/Blocks"), .int, .int], returnType := none }, accessFlags := 10, code := some k1c2 }
def k1c3 : Code := { maxStack := 2, maxLocals := 2, code := method_4_code, exceptionTable := #[], attributes := #[] }
def k1m3 : Method := { name := "bit", desc := "(II)I", sig := { parameters := [.int, .int], returnType := some .int }, accessFlags := 10, code := some k1c3 }
def k1c4 : Code := { maxStack := 2, maxLocals := 3, code := method_5_code, exceptionTable := #[], attributes := #[] }
def k1m4 : Method := { name := "below", desc := "(III)I", sig := { parameters := [.int, .int, .int], returnType := some .int }, accessFlags := 10, code := some k1c4 }
/-- com/example/states_into_classes/statesintoclasses/engine/BlockSidesFullestPinLaw -/
def k1 : Class := { plain "com/example/states_into_classes/statesintoclasses/engine/BlockSidesFullestPinLaw" (some 0) with
  accessFlags := 49
  interfaces := #[]
  cf := some (fileOf pool1 23 #[] #[{ accessFlags := 1, nameIndex := 5, descriptorIndex := 6, attributes := #[] }, { accessFlags := 9, nameIndex := 54, descriptorIndex := 55, attributes := #[] }, { accessFlags := 10, nameIndex := 26, descriptorIndex := 27, attributes := #[] }, { accessFlags := 10, nameIndex := 34, descriptorIndex := 35, attributes := #[] }, { accessFlags := 10, nameIndex := 38, descriptorIndex := 39, attributes := #[] }] 49 2 #[] #[])
  fields := #[]
  methods := #[k1m0, k1m1, k1m2, k1m3, k1m4]
  instanceTypes := #[]
  staticTypes := #[]
  resolved := Array.replicate 63 none
  statics := none }

def pool2 : Array CpInfo := pool [(1, .methodref 2 3), (0, .class_ 4), (0, .nameAndType 5 6), (0, u "com/example/states_into_classes/statesintoclasses/engine/Blocks"), (0, u "<init>"), (0, u "([I)V"), (0, .methodref 8 9), (0, .class_ 10), (0, .nameAndType 5 11), (0, u "java/lang/Object"), (0, u "()V"), (0, .methodref 13 14), (0, .class_ 15), (0, .nameAndType 16 17), (0, u "java/lang/Math"), (0, u "min"), (0, u "(II)I"), (0, .methodref 13 19), (0, .nameAndType 20 17), (0, u "max"), (0, .methodref 22 23), (0, .class_ 24), (0, .nameAndType 25 26), (0, u "java/util/Arrays"), (0, u "fill"), (0, u "([IIII)V"), (0, .fieldref 2 28), (0, .nameAndType 29 30), (0, u "states"), (0, u "[I"), (0, .methodref 32 33), (0, .class_ 30), (0, .nameAndType 34 35), (0, u "clone"), (0, u "()Ljava/lang/Object;"), (0, .fieldref 2 37), (0, .nameAndType 38 30), (0, u "placeOf"), (0, .fieldref 2 40), (0, .nameAndType 41 30), (0, u "blockOf"), (0, .fieldref 2 43), (0, .nameAndType 44 30), (0, u "marked"), (0, .fieldref 2 46), (0, .nameAndType 47 30), (0, u "start"), (0, .fieldref 2 49), (0, .nameAndType 50 30), (0, u "end"), (0, .fieldref 2 52), (0, .nameAndType 53 30), (0, u "markedEnd"), (0, .fieldref 2 55), (0, .nameAndType 56 30), (0, u "touched"), (0, .fieldref 2 58), (0, .nameAndType 59 60), (0, u "blockCount"), (0, u "I"), (4, .fieldref 2 66), (0, .nameAndType 67 60), (0, u "touchedCount"), (0, .fieldref 2 69), (0, .nameAndType 70 60), (0, u "markedCount"), (0, .methodref 2 72), (0, .nameAndType 73 74), (0, u "withRoom"), (0, u "([III)[I"), (0, .interfaceMethodref 76 77), (0, .class_ 78), (0, .nameAndType 79 80), (0, u "com/example/states_into_classes/statesintoclasses/engine/Blocks$Split"), (0, u "splitOff"), (0, u "(II)V"), (0, u "FIRST_CAPACITY"), (2, u "WHOLE"), (1, u "(I)V"), (3, u "stateCount"), (0, u "()I"), (0, u "(I)I"), (2, u "size"), (0, u "state"), (0, u "mark"), (0, u "split"), (0, u "(Lcom/example/states_into_classes/statesintoclasses/engine/Blocks$Split;)V")] 6

def k2c0 : Code := { maxStack := 5, maxLocals := 2, code := prog_3_method_1_code, exceptionTable := #[], attributes := #[] }
def k2m0 : Method := { name := "<init>", desc := "(I)V", sig := { parameters := [.int], returnType := none }, accessFlags := 0, code := some k2c0 }
def k2c1 : Code := { maxStack := 5, maxLocals := 10, code := prog_3_method_2_code, exceptionTable := #[], attributes := #[] }
def k2m1 : Method := { name := "<init>", desc := "([I)V", sig := { parameters := [(.array .int)], returnType := none }, accessFlags := 0, code := some k2c1 }
def k2c2 : Code := { maxStack := 3, maxLocals := 3, code := prog_3_method_3_code, exceptionTable := #[], attributes := #[] }
def k2m2 : Method := { name := "withRoom", desc := "([III)[I", sig := { parameters := [(.array .int), .int, .int], returnType := some (.array .int) }, accessFlags := 8, code := some k2c2 }
def k2c3 : Code := { maxStack := 1, maxLocals := 1, code := prog_3_method_4_code, exceptionTable := #[], attributes := #[] }
def k2m3 : Method := { name := "stateCount", desc := "()I", sig := { parameters := [], returnType := some .int }, accessFlags := 0, code := some k2c3 }
def k2c4 : Code := { maxStack := 3, maxLocals := 2, code := prog_3_method_8_code, exceptionTable := #[], attributes := #[] }
def k2m4 : Method := { name := "size", desc := "(I)I", sig := { parameters := [.int], returnType := some .int }, accessFlags := 0, code := some k2c4 }
def k2c5 : Code := { maxStack := 2, maxLocals := 2, code := prog_3_method_9_code, exceptionTable := #[], attributes := #[] }
def k2m5 : Method := { name := "start", desc := "(I)I", sig := { parameters := [.int], returnType := some .int }, accessFlags := 0, code := some k2c5 }
def k2c6 : Code := { maxStack := 2, maxLocals := 2, code := prog_3_method_10_code, exceptionTable := #[], attributes := #[] }
def k2m6 : Method := { name := "end", desc := "(I)I", sig := { parameters := [.int], returnType := some .int }, accessFlags := 0, code := some k2c6 }
def k2c7 : Code := { maxStack := 2, maxLocals := 2, code := prog_3_method_11_code, exceptionTable := #[], attributes := #[] }
def k2m7 : Method := { name := "state", desc := "(I)I", sig := { parameters := [.int], returnType := some .int }, accessFlags := 0, code := some k2c7 }
def k2c8 : Code := { maxStack := 4, maxLocals := 3, code := prog_3_method_12_code, exceptionTable := #[], attributes := #[] }
def k2m8 : Method := { name := "mark", desc := "(I)V", sig := { parameters := [.int], returnType := none }, accessFlags := 0, code := some k2c8 }
def k2c9 : Code := { maxStack := 5, maxLocals := 7, code := prog_3_method_13_code, exceptionTable := #[], attributes := #[] }
def k2m9 : Method := { name := "split", desc := "(Lcom/example/states_into_classes/statesintoclasses/engine/Blocks$Split;)V", sig := { parameters := [(.object "com/example/states_into_classes/statesintoclasses/engine/Blocks$Split")], returnType := none }, accessFlags := 0, code := some k2c9 }
/-- com/example/states_into_classes/statesintoclasses/engine/Blocks -/
def k2 : Class := { plain "com/example/states_into_classes/statesintoclasses/engine/Blocks" (some 0) with
  accessFlags := 48
  interfaces := #[]
  cf := some (fileOf pool2 2 #[.nestMembers #[76]] #[{ accessFlags := 0, nameIndex := 5, descriptorIndex := 86, attributes := #[] }, { accessFlags := 0, nameIndex := 5, descriptorIndex := 6, attributes := #[] }, { accessFlags := 8, nameIndex := 73, descriptorIndex := 74, attributes := #[] }, { accessFlags := 0, nameIndex := 90, descriptorIndex := 91, attributes := #[] }, { accessFlags := 0, nameIndex := 95, descriptorIndex := 92, attributes := #[] }, { accessFlags := 0, nameIndex := 47, descriptorIndex := 92, attributes := #[] }, { accessFlags := 0, nameIndex := 50, descriptorIndex := 92, attributes := #[] }, { accessFlags := 0, nameIndex := 96, descriptorIndex := 92, attributes := #[] }, { accessFlags := 0, nameIndex := 97, descriptorIndex := 86, attributes := #[] }, { accessFlags := 0, nameIndex := 98, descriptorIndex := 99, attributes := #[] }] 48 8 #[] #[{ accessFlags := 24, nameIndex := 81, descriptorIndex := 60, attributes := #[] }, { accessFlags := 26, nameIndex := 84, descriptorIndex := 60, attributes := #[] }, { accessFlags := 18, nameIndex := 29, descriptorIndex := 30, attributes := #[] }, { accessFlags := 18, nameIndex := 38, descriptorIndex := 30, attributes := #[] }, { accessFlags := 18, nameIndex := 41, descriptorIndex := 30, attributes := #[] }, { accessFlags := 18, nameIndex := 44, descriptorIndex := 30, attributes := #[] }, { accessFlags := 2, nameIndex := 70, descriptorIndex := 60, attributes := #[] }, { accessFlags := 2, nameIndex := 47, descriptorIndex := 30, attributes := #[] }, { accessFlags := 2, nameIndex := 50, descriptorIndex := 30, attributes := #[] }, { accessFlags := 2, nameIndex := 53, descriptorIndex := 30, attributes := #[] }, { accessFlags := 2, nameIndex := 56, descriptorIndex := 30, attributes := #[] }, { accessFlags := 2, nameIndex := 67, descriptorIndex := 60, attributes := #[] }, { accessFlags := 2, nameIndex := 59, descriptorIndex := 60, attributes := #[] }])
  fields := #[{ name := "FIRST_CAPACITY", type := .int, accessFlags := 24, slot := 0, constantValue := 0 }, { name := "WHOLE", type := .int, accessFlags := 26, slot := 1, constantValue := 0 }, { name := "states", type := (.array .int), accessFlags := 18, slot := 0, constantValue := 0 }, { name := "placeOf", type := (.array .int), accessFlags := 18, slot := 1, constantValue := 0 }, { name := "blockOf", type := (.array .int), accessFlags := 18, slot := 2, constantValue := 0 }, { name := "marked", type := (.array .int), accessFlags := 18, slot := 3, constantValue := 0 }, { name := "markedCount", type := .int, accessFlags := 2, slot := 4, constantValue := 0 }, { name := "start", type := (.array .int), accessFlags := 2, slot := 5, constantValue := 0 }, { name := "end", type := (.array .int), accessFlags := 2, slot := 6, constantValue := 0 }, { name := "markedEnd", type := (.array .int), accessFlags := 2, slot := 7, constantValue := 0 }, { name := "touched", type := (.array .int), accessFlags := 2, slot := 8, constantValue := 0 }, { name := "touchedCount", type := .int, accessFlags := 2, slot := 9, constantValue := 0 }, { name := "blockCount", type := .int, accessFlags := 2, slot := 10, constantValue := 0 }]
  methods := #[k2m0, k2m1, k2m2, k2m3, k2m4, k2m5, k2m6, k2m7, k2m8, k2m9]
  instanceTypes := #[(.array .int), (.array .int), (.array .int), (.array .int), .int, (.array .int), (.array .int), (.array .int), (.array .int), .int, .int]
  staticTypes := #[.int, .int]
  resolved := Array.replicate 106 none
  statics := none }

def pool3 : Array CpInfo := pool [(1, .class_ 2), (0, u "java/lang/Math"), (1, .class_ 6), (1, u "java/lang/Object"), (0, u "<init>"), (0, u "()V"), (89, .class_ 100), (1, u "java/lang/Math$RandomNumberGeneratorHolder"), (71, u "negativeZeroFloatBits"), (0, u "J"), (2, u "negativeZeroDoubleBits"), (21, u "max"), (2, u "min"), (43, u "$assertionsDisabled"), (0, u "Z"), (88, u "(II)I"), (2, u "twoToTheDoubleScaleDown"), (0, u "D"), (4, u "twoToTheDoubleScaleUp"), (9, u "E"), (3, u "PI"), (2, u "TAU"), (2, u "DEGREES_TO_RADIANS"), (0, u "RADIANS_TO_DEGREES")] 94

def k3m0 : Method := { name := "<init>", desc := "()V", sig := { parameters := [], returnType := none }, accessFlags := 2, code := none }
def k3c1 : Code := { maxStack := 2, maxLocals := 2, code := jdk_29_method_65_code, exceptionTable := #[], attributes := #[] }
def k3m1 : Method := { name := "max", desc := "(II)I", sig := { parameters := [.int, .int], returnType := some .int }, accessFlags := 9, code := some k3c1 }
def k3c2 : Code := { maxStack := 2, maxLocals := 2, code := jdk_29_method_69_code, exceptionTable := #[], attributes := #[] }
def k3m2 : Method := { name := "min", desc := "(II)I", sig := { parameters := [.int, .int], returnType := some .int }, accessFlags := 9, code := some k3c2 }
/-- java/lang/Math -/
def k3 : Class := { plain "java/lang/Math" (some 0) with
  accessFlags := 49
  interfaces := #[]
  cf := some (fileOf pool3 1 #[.nestMembers #[98]] #[{ accessFlags := 2, nameIndex := 7, descriptorIndex := 8, attributes := #[] }, { accessFlags := 9, nameIndex := 198, descriptorIndex := 335, attributes := #[] }, { accessFlags := 9, nameIndex := 201, descriptorIndex := 335, attributes := #[] }] 49 4 #[] #[{ accessFlags := 25, nameIndex := 354, descriptorIndex := 339, attributes := #[] }, { accessFlags := 25, nameIndex := 358, descriptorIndex := 339, attributes := #[] }, { accessFlags := 25, nameIndex := 361, descriptorIndex := 339, attributes := #[] }, { accessFlags := 26, nameIndex := 364, descriptorIndex := 339, attributes := #[] }, { accessFlags := 26, nameIndex := 365, descriptorIndex := 339, attributes := #[] }, { accessFlags := 26, nameIndex := 172, descriptorIndex := 173, attributes := #[] }, { accessFlags := 26, nameIndex := 176, descriptorIndex := 173, attributes := #[] }, { accessFlags := 8, nameIndex := 344, descriptorIndex := 339, attributes := #[] }, { accessFlags := 8, nameIndex := 338, descriptorIndex := 339, attributes := #[] }, { accessFlags := 4120, nameIndex := 245, descriptorIndex := 246, attributes := #[] }])
  fields := #[{ name := "E", type := .double, accessFlags := 25, slot := 0, constantValue := 0 }, { name := "PI", type := .double, accessFlags := 25, slot := 1, constantValue := 0 }, { name := "TAU", type := .double, accessFlags := 25, slot := 2, constantValue := 0 }, { name := "DEGREES_TO_RADIANS", type := .double, accessFlags := 26, slot := 3, constantValue := 0 }, { name := "RADIANS_TO_DEGREES", type := .double, accessFlags := 26, slot := 4, constantValue := 0 }, { name := "negativeZeroFloatBits", type := .long, accessFlags := 26, slot := 5, constantValue := 0 }, { name := "negativeZeroDoubleBits", type := .long, accessFlags := 26, slot := 6, constantValue := 0 }, { name := "twoToTheDoubleScaleUp", type := .double, accessFlags := 8, slot := 7, constantValue := 0 }, { name := "twoToTheDoubleScaleDown", type := .double, accessFlags := 8, slot := 8, constantValue := 0 }, { name := "$assertionsDisabled", type := .boolean, accessFlags := 4120, slot := 9, constantValue := 0 }]
  methods := #[k3m0, k3m1, k3m2]
  instanceTypes := #[]
  staticTypes := #[.double, .double, .double, .double, .double, .long, .long, .double, .double, .boolean]
  resolved := Array.replicate 460 none
  statics := none }

def pool4 : Array CpInfo := pool [(2, .class_ 4), (1, u "java/lang/Object"), (0, u "<init>"), (0, u "()V"), (5, u "([IIII)V"), (0, .methodref 14 15), (0, .class_ 16), (0, .nameAndType 17 18), (0, u "java/util/Arrays"), (0, u "rangeCheck"), (0, u "(III)V"), (55, .class_ 76), (1, u "java/util/Arrays$NaturalOrder"), (36, .class_ 115), (1, u "java/util/Arrays$LegacyMergeSort"), (1, u "Z"), (257, .class_ 376), (0, u "java/util/Arrays$ArrayList"), (68, u "$assertionsDisabled"), (269, u "MIN_ARRAY_SORT_GRAN"), (0, u "I"), (2, u "INSERTIONSORT_THRESHOLD"), (120, u "fill"), (4, u "([II)V"), (129, .class_ 976), (0, u "java/util/Arrays$ArrayItr")] 52

def k4m0 : Method := { name := "<init>", desc := "()V", sig := { parameters := [], returnType := none }, accessFlags := 2, code := none }
def k4c1 : Code := { maxStack := 4, maxLocals := 3, code := jdk_65_method_30_code, exceptionTable := #[], attributes := #[] }
def k4m1 : Method := { name := "rangeCheck", desc := "(III)V", sig := { parameters := [.int, .int, .int], returnType := none }, accessFlags := 8, code := some k4c1 }
def k4c2 : Code := { maxStack := 3, maxLocals := 4, code := jdk_65_method_103_code, exceptionTable := #[], attributes := #[] }
def k4m2 : Method := { name := "fill", desc := "([II)V", sig := { parameters := [(.array .int), .int], returnType := none }, accessFlags := 9, code := some k4c2 }
def k4c3 : Code := { maxStack := 3, maxLocals := 5, code := jdk_65_method_104_code, exceptionTable := #[], attributes := #[] }
def k4m3 : Method := { name := "fill", desc := "([IIII)V", sig := { parameters := [(.array .int), .int, .int, .int], returnType := none }, accessFlags := 9, code := some k4c3 }
/-- java/util/Arrays -/
def k4 : Class := { plain "java/util/Arrays" (some 0) with
  accessFlags := 49
  interfaces := #[]
  cf := some (fileOf pool4 14 #[.nestMembers #[975, 375, 113, 74]] #[{ accessFlags := 2, nameIndex := 5, descriptorIndex := 6, attributes := #[] }, { accessFlags := 8, nameIndex := 17, descriptorIndex := 18, attributes := #[] }, { accessFlags := 9, nameIndex := 840, descriptorIndex := 845, attributes := #[] }, { accessFlags := 9, nameIndex := 840, descriptorIndex := 12, attributes := #[] }] 49 2 #[] #[{ accessFlags := 26, nameIndex := 715, descriptorIndex := 716, attributes := #[] }, { accessFlags := 26, nameIndex := 719, descriptorIndex := 716, attributes := #[] }, { accessFlags := 4120, nameIndex := 445, descriptorIndex := 117, attributes := #[] }])
  fields := #[{ name := "MIN_ARRAY_SORT_GRAN", type := .int, accessFlags := 26, slot := 0, constantValue := 0 }, { name := "INSERTIONSORT_THRESHOLD", type := .int, accessFlags := 26, slot := 1, constantValue := 0 }, { name := "$assertionsDisabled", type := .boolean, accessFlags := 4120, slot := 2, constantValue := 0 }]
  methods := #[k4m0, k4m1, k4m2, k4m3]
  instanceTypes := #[]
  staticTypes := #[.int, .int, .boolean]
  resolved := Array.replicate 1029 none
  statics := none }

def pool5 : Array CpInfo := pool [(1, .class_ 2), (0, u "java/lang/Cloneable"), (0, .class_ 4), (0, u "java/lang/Object")] 2

/-- java/lang/Cloneable -/
def k5 : Class := { plain "java/lang/Cloneable" (some 0) with
  accessFlags := 1537
  interfaces := #[]
  cf := some (fileOf pool5 1 #[] #[] 1537 3 #[] #[])
  fields := #[]
  methods := #[]
  instanceTypes := #[]
  staticTypes := #[]
  resolved := Array.replicate 7 none
  statics := none }

def pool6 : Array CpInfo := pool [(1, .class_ 2), (0, u "com/example/states_into_classes/statesintoclasses/engine/Blocks$Split"), (0, .class_ 4), (0, u "java/lang/Object"), (0, u "splitOff"), (0, u "(II)V"), (5, .class_ 13), (0, u "com/example/states_into_classes/statesintoclasses/engine/Blocks")] 2

def k6m0 : Method := { name := "splitOff", desc := "(II)V", sig := { parameters := [.int, .int], returnType := none }, accessFlags := 1025, code := none }
/-- com/example/states_into_classes/statesintoclasses/engine/Blocks$Split -/
def k6 : Class := { plain "com/example/states_into_classes/statesintoclasses/engine/Blocks$Split" (some 0) with
  accessFlags := 1536
  interfaces := #[]
  cf := some (fileOf pool6 1 #[.nestHost 12] #[{ accessFlags := 1025, nameIndex := 5, descriptorIndex := 6, attributes := #[] }] 1536 3 #[] #[])
  fields := #[]
  methods := #[k6m0]
  instanceTypes := #[]
  staticTypes := #[]
  resolved := Array.replicate 16 none
  statics := none }

def pool7 : Array CpInfo := pool [(1, .class_ 2), (0, u "com/example/states_into_classes/statesintoclasses/engine/CountingRefinement$Changes"), (0, .class_ 4), (0, u "java/lang/Object"), (0, .class_ 6), (0, u "com/example/states_into_classes/statesintoclasses/engine/Blocks$Split"), (5, .class_ 13), (0, u "com/example/states_into_classes/statesintoclasses/engine/CountingRefinement")] 5

/-- com/example/states_into_classes/statesintoclasses/engine/CountingRefinement$Changes -/
def k7 : Class := { plain "com/example/states_into_classes/statesintoclasses/engine/CountingRefinement$Changes" (some 0) with
  accessFlags := 1536
  interfaces := #[6]
  cf := some (fileOf pool7 1 #[.nestHost 12] #[] 1536 3 #[5] #[])
  fields := #[]
  methods := #[]
  instanceTypes := #[]
  staticTypes := #[]
  resolved := Array.replicate 19 none
  statics := none }

def pool8 : Array CpInfo := pool [(1, .methodref 2 3), (0, .class_ 4), (0, .nameAndType 5 6), (0, u "java/lang/Object"), (0, u "<init>"), (0, u "()V"), (0, .methodref 8 9), (0, .class_ 10), (0, .nameAndType 11 12), (0, u "com/example/states_into_classes/statesintoclasses/engine/Blocks"), (0, u "stateCount"), (0, u "()I"), (0, .methodref 14 15), (0, .class_ 16), (0, .nameAndType 17 18), (0, u "java/lang/Math"), (0, u "min"), (0, u "(II)I"), (0, .methodref 14 20), (0, .nameAndType 21 18), (0, u "max"), (0, .fieldref 23 24), (0, .class_ 25), (0, .nameAndType 26 27), (0, u "com/example/states_into_classes/statesintoclasses/engine/BlockSides"), (0, u "blocks"), (0, u "Lcom/example/states_into_classes/statesintoclasses/engine/Blocks;"), (0, .fieldref 23 29), (0, .nameAndType 30 31), (0, u "secondStart"), (0, u "I"), (0, .fieldref 23 33), (0, .nameAndType 34 35), (0, u "next"), (0, u "[I"), (0, .fieldref 23 37), (0, .nameAndType 38 35), (0, u "previous"), (0, .fieldref 23 40), (0, .nameAndType 41 35), (0, u "first"), (0, .fieldref 23 43), (0, .nameAndType 44 35), (0, u "firstCount"), (0, .fieldref 23 46), (0, .nameAndType 47 35), (0, u "bucket"), (0, .fieldref 23 49), (0, .nameAndType 50 35), (0, u "nextInBucket"), (0, .fieldref 23 52), (0, .nameAndType 53 35), (0, u "previousInBucket"), (0, .methodref 55 56), (0, .class_ 57), (0, .nameAndType 58 59), (0, u "java/util/Arrays"), (0, u "fill"), (0, u "([II)V"), (0, .methodref 23 61), (0, .nameAndType 62 63), (0, u "link"), (0, u "(II)V"), (0, .methodref 23 65), (0, .nameAndType 66 67), (0, u "balanced"), (0, u "(II)Z"), (0, .fieldref 23 69), (0, .nameAndType 70 31), (0, u "unevenCount"), (0, .methodref 23 72), (0, .nameAndType 73 74), (0, u "enter"), (0, u "(I)V"), (0, .fieldref 23 76), (0, .nameAndType 77 31), (0, u "highest"), (0, .methodref 8 79), (0, .nameAndType 80 81), (0, u "size"), (0, u "(I)I"), (0, .methodref 23 83), (0, .nameAndType 84 74), (0, u "leave"), (0, .methodref 8 86), (0, .nameAndType 87 88), (0, u "withRoom"), (0, u "([III)[I"), (0, .methodref 8 90), (0, .nameAndType 91 81), (0, u "start"), (0, .methodref 8 93), (0, .nameAndType 94 81), (0, u "end"), (0, .methodref 8 96), (0, .nameAndType 97 81), (0, u "state"), (0, .methodref 23 99), (0, .nameAndType 100 63), (0, u "unlink"), (0, .class_ 102), (0, u "com/example/states_into_classes/statesintoclasses/engine/CountingRefinement$Changes"), (0, u "NONE"), (2, u "(Lcom/example/states_into_classes/statesintoclasses/engine/Blocks;I)V"), (5, u "fullest"), (2, u "splitOff"), (0, u "rejoin")] 6

def k8c0 : Code := { maxStack := 4, maxLocals := 6, code := prog_1_method_1_code, exceptionTable := #[], attributes := #[] }
def k8m0 : Method := { name := "<init>", desc := "(Lcom/example/states_into_classes/statesintoclasses/engine/Blocks;I)V", sig := { parameters := [(.object "com/example/states_into_classes/statesintoclasses/engine/Blocks"), .int], returnType := none }, accessFlags := 0, code := some k8c0 }
def k8c1 : Code := { maxStack := 3, maxLocals := 1, code := prog_1_method_3_code, exceptionTable := #[], attributes := #[] }
def k8m1 : Method := { name := "fullest", desc := "()I", sig := { parameters := [], returnType := some .int }, accessFlags := 0, code := some k8c1 }
def k8c2 : Code := { maxStack := 7, maxLocals := 7, code := prog_1_method_6_code, exceptionTable := #[], attributes := #[] }
def k8m2 : Method := { name := "splitOff", desc := "(II)V", sig := { parameters := [.int, .int], returnType := none }, accessFlags := 1, code := some k8c2 }
def k8c3 : Code := { maxStack := 7, maxLocals := 4, code := prog_1_method_7_code, exceptionTable := #[], attributes := #[] }
def k8m3 : Method := { name := "rejoin", desc := "(II)V", sig := { parameters := [.int, .int], returnType := none }, accessFlags := 1, code := some k8c3 }
def k8c4 : Code := { maxStack := 3, maxLocals := 3, code := prog_1_method_8_code, exceptionTable := #[], attributes := #[] }
def k8m4 : Method := { name := "balanced", desc := "(II)Z", sig := { parameters := [.int, .int], returnType := some .boolean }, accessFlags := 2, code := some k8c4 }
def k8c5 : Code := { maxStack := 3, maxLocals := 5, code := prog_1_method_9_code, exceptionTable := #[], attributes := #[] }
def k8m5 : Method := { name := "link", desc := "(II)V", sig := { parameters := [.int, .int], returnType := none }, accessFlags := 2, code := some k8c5 }
def k8c6 : Code := { maxStack := 4, maxLocals := 3, code := prog_1_method_10_code, exceptionTable := #[], attributes := #[] }
def k8m6 : Method := { name := "unlink", desc := "(II)V", sig := { parameters := [.int, .int], returnType := none }, accessFlags := 2, code := some k8c6 }
def k8c7 : Code := { maxStack := 3, maxLocals := 4, code := prog_1_method_11_code, exceptionTable := #[], attributes := #[] }
def k8m7 : Method := { name := "enter", desc := "(I)V", sig := { parameters := [.int], returnType := none }, accessFlags := 2, code := some k8c7 }
def k8c8 : Code := { maxStack := 4, maxLocals := 3, code := prog_1_method_12_code, exceptionTable := #[], attributes := #[] }
def k8m8 : Method := { name := "leave", desc := "(I)V", sig := { parameters := [.int], returnType := none }, accessFlags := 2, code := some k8c8 }
/-- com/example/states_into_classes/statesintoclasses/engine/BlockSides -/
def k8 : Class := { plain "com/example/states_into_classes/statesintoclasses/engine/BlockSides" (some 0) with
  accessFlags := 48
  interfaces := #[7]
  cf := some (fileOf pool8 23 #[] #[{ accessFlags := 0, nameIndex := 5, descriptorIndex := 106, attributes := #[] }, { accessFlags := 0, nameIndex := 112, descriptorIndex := 12, attributes := #[] }, { accessFlags := 1, nameIndex := 115, descriptorIndex := 63, attributes := #[] }, { accessFlags := 1, nameIndex := 116, descriptorIndex := 63, attributes := #[] }, { accessFlags := 2, nameIndex := 66, descriptorIndex := 67, attributes := #[] }, { accessFlags := 2, nameIndex := 62, descriptorIndex := 63, attributes := #[] }, { accessFlags := 2, nameIndex := 100, descriptorIndex := 63, attributes := #[] }, { accessFlags := 2, nameIndex := 73, descriptorIndex := 74, attributes := #[] }, { accessFlags := 2, nameIndex := 84, descriptorIndex := 74, attributes := #[] }] 48 2 #[101] #[{ accessFlags := 24, nameIndex := 103, descriptorIndex := 31, attributes := #[] }, { accessFlags := 18, nameIndex := 26, descriptorIndex := 27, attributes := #[] }, { accessFlags := 18, nameIndex := 30, descriptorIndex := 31, attributes := #[] }, { accessFlags := 18, nameIndex := 34, descriptorIndex := 35, attributes := #[] }, { accessFlags := 18, nameIndex := 38, descriptorIndex := 35, attributes := #[] }, { accessFlags := 2, nameIndex := 41, descriptorIndex := 35, attributes := #[] }, { accessFlags := 2, nameIndex := 44, descriptorIndex := 35, attributes := #[] }, { accessFlags := 2, nameIndex := 70, descriptorIndex := 31, attributes := #[] }, { accessFlags := 18, nameIndex := 47, descriptorIndex := 35, attributes := #[] }, { accessFlags := 2, nameIndex := 50, descriptorIndex := 35, attributes := #[] }, { accessFlags := 2, nameIndex := 53, descriptorIndex := 35, attributes := #[] }, { accessFlags := 2, nameIndex := 77, descriptorIndex := 31, attributes := #[] }])
  fields := #[{ name := "NONE", type := .int, accessFlags := 24, slot := 0, constantValue := 0 }, { name := "blocks", type := (.object "com/example/states_into_classes/statesintoclasses/engine/Blocks"), accessFlags := 18, slot := 0, constantValue := 0 }, { name := "secondStart", type := .int, accessFlags := 18, slot := 1, constantValue := 0 }, { name := "next", type := (.array .int), accessFlags := 18, slot := 2, constantValue := 0 }, { name := "previous", type := (.array .int), accessFlags := 18, slot := 3, constantValue := 0 }, { name := "first", type := (.array .int), accessFlags := 2, slot := 4, constantValue := 0 }, { name := "firstCount", type := (.array .int), accessFlags := 2, slot := 5, constantValue := 0 }, { name := "unevenCount", type := .int, accessFlags := 2, slot := 6, constantValue := 0 }, { name := "bucket", type := (.array .int), accessFlags := 18, slot := 7, constantValue := 0 }, { name := "nextInBucket", type := (.array .int), accessFlags := 2, slot := 8, constantValue := 0 }, { name := "previousInBucket", type := (.array .int), accessFlags := 2, slot := 9, constantValue := 0 }, { name := "highest", type := .int, accessFlags := 2, slot := 10, constantValue := 0 }]
  methods := #[k8m0, k8m1, k8m2, k8m3, k8m4, k8m5, k8m6, k8m7, k8m8]
  instanceTypes := #[(.object "com/example/states_into_classes/statesintoclasses/engine/Blocks"), .int, (.array .int), (.array .int), (.array .int), (.array .int), .int, (.array .int), (.array .int), (.array .int), .int]
  staticTypes := #[.int]
  resolved := Array.replicate 123 none
  statics := none }

def pool9 : Array CpInfo := pool [(1, u "java/io/Serializable"), (0, .class_ 1), (0, u "java/lang/Object"), (0, .class_ 3)] 3

/-- java/io/Serializable -/
def k9 : Class := { plain "java/io/Serializable" (some 0) with
  accessFlags := 1537
  interfaces := #[]
  cf := some (fileOf pool9 2 #[] #[] 1537 4 #[] #[])
  fields := #[]
  methods := #[]
  instanceTypes := #[]
  staticTypes := #[]
  resolved := Array.replicate 8 none
  statics := none }

/-- the primitive byte -/
def k10 : Class := { plain "byte" none with kind := .primitive 'B', accessFlags := 0x411 }
/-- [B -/
def k11 : Class := { plain "[B" (some 0) with kind := .array 10 .byte, interfaces := #[5, 9], accessFlags := 1041 }

/-- the primitive int -/
def k12 : Class := { plain "int" none with kind := .primitive 'I', accessFlags := 0x411 }
/-- [I -/
def k13 : Class := { plain "[I" (some 0) with kind := .array 12 .int, interfaces := #[5, 9], accessFlags := 1041 }

def heap : Heap := #[]
def classes : Array Class := #[k0, k1, k2, k3, k4, k5, k6, k7, k8, k9, k10, k11, k12, k13]
def interned : List (Array UInt16 × Addr) := []
def slotsUsed : Nat := 0
def theMethod : MethodId := ⟨1, 1⟩
def args0 : Array Value := #[.int 5, .int 6, .int 7]
def aboutOver (below : List Frame) : State where
  vm := { classes := classes, interned := interned.toArray }
  heap := heap
  slotsUsed := slotsUsed
  threads := #[{ frames := .invoking theMethod args0 :: below }]
def below0 : List Frame := [.native { method := ⟨0, 0⟩, args := #[] }]
def about1 : State := aboutOver below0
def p0 : Program := .bare "" "" ""
def e0 : Env := launch0.env 0 0 0
theorem w_frames : about1.frames = Frame.invoking theMethod args0 :: below0 := rfl
set_option maxRecDepth 65536 in
theorem w_args : argsFit about1.vm theMethod args0 = true := by decide +kernel
set_option maxRecDepth 65536 in
theorem w_heap : heapFits about1 = true := by decide +kernel
set_option maxRecDepth 65536 in
theorem w_runnable : about1.curStatus? = some .runnable := by decide +kernel
set_option maxRecDepth 65536 in
theorem w_alone : about1.alone = true := by decide +kernel
set_option maxRecDepth 65536 in
theorem w_named : about1.methodNamed? x = some theMethod := by decide +kernel
set_option maxRecDepth 65536 in
theorem w_hears : about1.hears theMethod below0 = true := by decide +kernel
set_option maxRecDepth 65536 in
theorem w_ripe : about1.ripe theMethod args0 below0 = true := by decide +kernel
theorem w_running : about1.status = .running := rfl
set_option maxRecDepth 65536 in
theorem w_room : about1.hasRoom e0.platform room_1 = true :=
  launch0.hasRoom_least _ room_1 (by decide +kernel) (by decide +kernel) (by decide +kernel) (by decide +kernel) (by decide +kernel) (by decide +kernel)
theorem allAtoms_all (ts : List Jvm.Cond) (a : Array Jvm.Value) (st : Jvm.State) : (allAtoms ts).before a st = ts.all (fun c => c.before a st) := by
  induction ts with
  | nil => rfl
  | cons c t ih =>
    show (Jvm.Cond.and c (allAtoms t)).before a st = _
    rw [Jvm.Cond.before_and, ih, List.all_cons]
def words1 : List Jvm.Cond := Jvm.Cond.code x code maxLocals ret :: tables_1
/-- a 'code' word, met by the world's own term for the bytes: nothing is compared byte by byte -/
theorem code_word {y : MethodName} {bytes : ByteArray} {mx : Nat} {rt : Option FieldType} {a : Array Value} {s : State} {m : MethodId} {meth : Method} {c : Code} (h1 : s.methodNamed? y = some m) (h2 : s.vm.method? m = some meth) (h3 : meth.code = some c) (h4 : c.code = bytes)
    (h5 : (c.maxLocals == mx && c.exceptionTable.isEmpty && decide (c.maxStack ≤ mostOperands) && decide (meth.sig.returnType = rt) && !meth.locks && decide (parseMethodDescriptor y.desc = some meth.sig)) = true) : (Jvm.Cond.code y bytes mx rt).before a s = true := by
  simp only [Bool.and_eq_true, beq_iff_eq, Bool.not_eq_true', decide_eq_true_eq] at h5
  obtain ⟨⟨⟨⟨⟨g1, g2⟩, g3⟩, g4⟩, g5⟩, g6⟩ := h5
  simp [Cond.before, Cond.holds, Cond.value, h1, h2, h3, h4, g1, g2, g3, g4, g5, g6]
def isCode : Jvm.Cond → Bool
  | .code _ _ _ _ => true
  | _ => false
theorem all_split {L : List Jvm.Cond} {P : Jvm.Cond → Bool} (h1 : L.all (fun c => isCode c || P c) = true) (h2 : ∀ c ∈ L.filter isCode, P c = true) : L.all P = true := by
  refine List.all_eq_true.mpr fun c hc => ?_
  have h := List.all_eq_true.mp h1 c hc
  rcases Bool.eq_false_or_eq_true (isCode c) with hi | hi
  · exact h2 c (List.mem_filter.mpr ⟨hc, hi⟩)
  · simpa [hi] using h
set_option maxRecDepth 65536 in
theorem w_c0 : (Jvm.Cond.code x code maxLocals ret).before args0 about1 = true := code_word (m := ⟨1, 1⟩) (meth := k1m1) (c := k1c1) (by decide +kernel) rfl rfl rfl (by decide +kernel)
set_option maxRecDepth 65536 in
theorem w_c1 : (Jvm.Cond.code ({ cls := "com/example/states_into_classes/statesintoclasses/engine/Blocks", name := "<init>", desc := "(I)V" } : Jvm.MethodName) prog_3_method_1_code (2 : Nat) (Option.none : Option Jvm.ClassFile.FieldType)).before args0 about1 = true := code_word (m := ⟨2, 0⟩) (meth := k2m0) (c := k2c0) (by decide +kernel) rfl rfl rfl (by decide +kernel)
set_option maxRecDepth 65536 in
theorem w_c2 : (Jvm.Cond.code ({ cls := "com/example/states_into_classes/statesintoclasses/engine/Blocks", name := "<init>", desc := "([I)V" } : Jvm.MethodName) prog_3_method_2_code (10 : Nat) (Option.none : Option Jvm.ClassFile.FieldType)).before args0 about1 = true := code_word (m := ⟨2, 1⟩) (meth := k2m1) (c := k2c1) (by decide +kernel) rfl rfl rfl (by decide +kernel)
set_option maxRecDepth 65536 in
theorem w_c3 : (Jvm.Cond.code ({ cls := "java/lang/Object", name := "<init>", desc := "()V" } : Jvm.MethodName) object_method_1_code (1 : Nat) (Option.none : Option Jvm.ClassFile.FieldType)).before args0 about1 = true := code_word (m := ⟨0, 0⟩) (meth := k0m0) (c := k0c0) (by decide +kernel) rfl rfl rfl (by decide +kernel)
set_option maxRecDepth 65536 in
theorem w_c4 : (Jvm.Cond.code ({ cls := "java/lang/Math", name := "min", desc := "(II)I" } : Jvm.MethodName) jdk_29_method_69_code (2 : Nat) (Option.some Jvm.ClassFile.FieldType.int)).before args0 about1 = true := code_word (m := ⟨3, 2⟩) (meth := k3m2) (c := k3c2) (by decide +kernel) rfl rfl rfl (by decide +kernel)
set_option maxRecDepth 65536 in
theorem w_c5 : (Jvm.Cond.code ({ cls := "java/lang/Math", name := "max", desc := "(II)I" } : Jvm.MethodName) jdk_29_method_65_code (2 : Nat) (Option.some Jvm.ClassFile.FieldType.int)).before args0 about1 = true := code_word (m := ⟨3, 1⟩) (meth := k3m1) (c := k3c1) (by decide +kernel) rfl rfl rfl (by decide +kernel)
set_option maxRecDepth 65536 in
theorem w_c6 : (Jvm.Cond.code ({ cls := "java/util/Arrays", name := "fill", desc := "([IIII)V" } : Jvm.MethodName) jdk_65_method_104_code (5 : Nat) (Option.none : Option Jvm.ClassFile.FieldType)).before args0 about1 = true := code_word (m := ⟨4, 3⟩) (meth := k4m3) (c := k4c3) (by decide +kernel) rfl rfl rfl (by decide +kernel)
set_option maxRecDepth 65536 in
theorem w_c7 : (Jvm.Cond.code ({ cls := "java/util/Arrays", name := "rangeCheck", desc := "(III)V" } : Jvm.MethodName) jdk_65_method_30_code (3 : Nat) (Option.none : Option Jvm.ClassFile.FieldType)).before args0 about1 = true := code_word (m := ⟨4, 1⟩) (meth := k4m1) (c := k4c1) (by decide +kernel) rfl rfl rfl (by decide +kernel)
set_option maxRecDepth 65536 in
theorem w_c8 : (Jvm.Cond.code ({ cls := "com/example/states_into_classes/statesintoclasses/engine/BlockSides", name := "<init>", desc := "(Lcom/example/states_into_classes/statesintoclasses/engine/Blocks;I)V" } : Jvm.MethodName) prog_1_method_1_code (6 : Nat) (Option.none : Option Jvm.ClassFile.FieldType)).before args0 about1 = true := code_word (m := ⟨8, 0⟩) (meth := k8m0) (c := k8c0) (by decide +kernel) rfl rfl rfl (by decide +kernel)
set_option maxRecDepth 65536 in
theorem w_c9 : (Jvm.Cond.code ({ cls := "com/example/states_into_classes/statesintoclasses/engine/Blocks", name := "stateCount", desc := "()I" } : Jvm.MethodName) prog_3_method_4_code (1 : Nat) (Option.some Jvm.ClassFile.FieldType.int)).before args0 about1 = true := code_word (m := ⟨2, 3⟩) (meth := k2m3) (c := k2c3) (by decide +kernel) rfl rfl rfl (by decide +kernel)
set_option maxRecDepth 65536 in
theorem w_c10 : (Jvm.Cond.code ({ cls := "java/util/Arrays", name := "fill", desc := "([II)V" } : Jvm.MethodName) jdk_65_method_103_code (4 : Nat) (Option.none : Option Jvm.ClassFile.FieldType)).before args0 about1 = true := code_word (m := ⟨4, 2⟩) (meth := k4m2) (c := k4c2) (by decide +kernel) rfl rfl rfl (by decide +kernel)
set_option maxRecDepth 65536 in
theorem w_c11 : (Jvm.Cond.code ({ cls := "com/example/states_into_classes/statesintoclasses/engine/BlockSides", name := "balanced", desc := "(II)Z" } : Jvm.MethodName) prog_1_method_8_code (3 : Nat) (Option.some Jvm.ClassFile.FieldType.boolean)).before args0 about1 = true := code_word (m := ⟨8, 4⟩) (meth := k8m4) (c := k8c4) (by decide +kernel) rfl rfl rfl (by decide +kernel)
set_option maxRecDepth 65536 in
theorem w_c12 : (Jvm.Cond.code ({ cls := "com/example/states_into_classes/statesintoclasses/engine/BlockSides", name := "enter", desc := "(I)V" } : Jvm.MethodName) prog_1_method_11_code (4 : Nat) (Option.none : Option Jvm.ClassFile.FieldType)).before args0 about1 = true := code_word (m := ⟨8, 7⟩) (meth := k8m7) (c := k8c7) (by decide +kernel) rfl rfl rfl (by decide +kernel)
set_option maxRecDepth 65536 in
theorem w_c13 : (Jvm.Cond.code ({ cls := "com/example/states_into_classes/statesintoclasses/engine/BlockSides", name := "fullest", desc := "()I" } : Jvm.MethodName) prog_1_method_3_code (1 : Nat) (Option.some Jvm.ClassFile.FieldType.int)).before args0 about1 = true := code_word (m := ⟨8, 1⟩) (meth := k8m1) (c := k8c1) (by decide +kernel) rfl rfl rfl (by decide +kernel)
set_option maxRecDepth 65536 in
theorem w_c14 : (Jvm.Cond.code ({ cls := "com/example/states_into_classes/statesintoclasses/engine/BlockSidesFullestPinLaw", name := "markIf", desc := "(Lcom/example/states_into_classes/statesintoclasses/engine/Blocks;II)V" } : Jvm.MethodName) method_3_code (3 : Nat) (Option.none : Option Jvm.ClassFile.FieldType)).before args0 about1 = true := code_word (m := ⟨1, 2⟩) (meth := k1m2) (c := k1c2) (by decide +kernel) rfl rfl rfl (by decide +kernel)
set_option maxRecDepth 65536 in
theorem w_c15 : (Jvm.Cond.code ({ cls := "com/example/states_into_classes/statesintoclasses/engine/Blocks", name := "split", desc := "(Lcom/example/states_into_classes/statesintoclasses/engine/Blocks$Split;)V" } : Jvm.MethodName) prog_3_method_13_code (7 : Nat) (Option.none : Option Jvm.ClassFile.FieldType)).before args0 about1 = true := code_word (m := ⟨2, 9⟩) (meth := k2m9) (c := k2c9) (by decide +kernel) rfl rfl rfl (by decide +kernel)
set_option maxRecDepth 65536 in
theorem w_c16 : (Jvm.Cond.code ({ cls := "com/example/states_into_classes/statesintoclasses/engine/BlockSidesFullestPinLaw", name := "bit", desc := "(II)I" } : Jvm.MethodName) method_4_code (2 : Nat) (Option.some Jvm.ClassFile.FieldType.int)).before args0 about1 = true := code_word (m := ⟨1, 3⟩) (meth := k1m3) (c := k1c3) (by decide +kernel) rfl rfl rfl (by decide +kernel)
set_option maxRecDepth 65536 in
theorem w_c17 : (Jvm.Cond.code ({ cls := "com/example/states_into_classes/statesintoclasses/engine/BlockSidesFullestPinLaw", name := "below", desc := "(III)I" } : Jvm.MethodName) method_5_code (3 : Nat) (Option.some Jvm.ClassFile.FieldType.int)).before args0 about1 = true := code_word (m := ⟨1, 4⟩) (meth := k1m4) (c := k1c4) (by decide +kernel) rfl rfl rfl (by decide +kernel)
set_option maxRecDepth 65536 in
theorem w_c18 : (Jvm.Cond.code ({ cls := "com/example/states_into_classes/statesintoclasses/engine/BlockSides", name := "link", desc := "(II)V" } : Jvm.MethodName) prog_1_method_9_code (5 : Nat) (Option.none : Option Jvm.ClassFile.FieldType)).before args0 about1 = true := code_word (m := ⟨8, 5⟩) (meth := k8m5) (c := k8c5) (by decide +kernel) rfl rfl rfl (by decide +kernel)
set_option maxRecDepth 65536 in
theorem w_c19 : (Jvm.Cond.code ({ cls := "com/example/states_into_classes/statesintoclasses/engine/Blocks", name := "mark", desc := "(I)V" } : Jvm.MethodName) prog_3_method_12_code (3 : Nat) (Option.none : Option Jvm.ClassFile.FieldType)).before args0 about1 = true := code_word (m := ⟨2, 8⟩) (meth := k2m8) (c := k2c8) (by decide +kernel) rfl rfl rfl (by decide +kernel)
set_option maxRecDepth 65536 in
theorem w_c20 : (Jvm.Cond.code ({ cls := "com/example/states_into_classes/statesintoclasses/engine/Blocks", name := "withRoom", desc := "([III)[I" } : Jvm.MethodName) prog_3_method_3_code (3 : Nat) (Option.some (Jvm.ClassFile.FieldType.array Jvm.ClassFile.FieldType.int))).before args0 about1 = true := code_word (m := ⟨2, 2⟩) (meth := k2m2) (c := k2c2) (by decide +kernel) rfl rfl rfl (by decide +kernel)
set_option maxRecDepth 65536 in
theorem w_c21 : (Jvm.Cond.code ({ cls := "com/example/states_into_classes/statesintoclasses/engine/BlockSides", name := "splitOff", desc := "(II)V" } : Jvm.MethodName) prog_1_method_6_code (7 : Nat) (Option.none : Option Jvm.ClassFile.FieldType)).before args0 about1 = true := code_word (m := ⟨8, 2⟩) (meth := k8m2) (c := k8c2) (by decide +kernel) rfl rfl rfl (by decide +kernel)
set_option maxRecDepth 65536 in
theorem w_c22 : (Jvm.Cond.code ({ cls := "com/example/states_into_classes/statesintoclasses/engine/Blocks", name := "size", desc := "(I)I" } : Jvm.MethodName) prog_3_method_8_code (2 : Nat) (Option.some Jvm.ClassFile.FieldType.int)).before args0 about1 = true := code_word (m := ⟨2, 4⟩) (meth := k2m4) (c := k2c4) (by decide +kernel) rfl rfl rfl (by decide +kernel)
set_option maxRecDepth 65536 in
theorem w_c23 : (Jvm.Cond.code ({ cls := "com/example/states_into_classes/statesintoclasses/engine/BlockSides", name := "leave", desc := "(I)V" } : Jvm.MethodName) prog_1_method_12_code (3 : Nat) (Option.none : Option Jvm.ClassFile.FieldType)).before args0 about1 = true := code_word (m := ⟨8, 8⟩) (meth := k8m8) (c := k8c8) (by decide +kernel) rfl rfl rfl (by decide +kernel)
set_option maxRecDepth 65536 in
theorem w_c24 : (Jvm.Cond.code ({ cls := "com/example/states_into_classes/statesintoclasses/engine/Blocks", name := "start", desc := "(I)I" } : Jvm.MethodName) prog_3_method_9_code (2 : Nat) (Option.some Jvm.ClassFile.FieldType.int)).before args0 about1 = true := code_word (m := ⟨2, 5⟩) (meth := k2m5) (c := k2c5) (by decide +kernel) rfl rfl rfl (by decide +kernel)
set_option maxRecDepth 65536 in
theorem w_c25 : (Jvm.Cond.code ({ cls := "com/example/states_into_classes/statesintoclasses/engine/Blocks", name := "end", desc := "(I)I" } : Jvm.MethodName) prog_3_method_10_code (2 : Nat) (Option.some Jvm.ClassFile.FieldType.int)).before args0 about1 = true := code_word (m := ⟨2, 6⟩) (meth := k2m6) (c := k2c6) (by decide +kernel) rfl rfl rfl (by decide +kernel)
set_option maxRecDepth 65536 in
theorem w_c26 : (Jvm.Cond.code ({ cls := "com/example/states_into_classes/statesintoclasses/engine/Blocks", name := "state", desc := "(I)I" } : Jvm.MethodName) prog_3_method_11_code (2 : Nat) (Option.some Jvm.ClassFile.FieldType.int)).before args0 about1 = true := code_word (m := ⟨2, 7⟩) (meth := k2m7) (c := k2c7) (by decide +kernel) rfl rfl rfl (by decide +kernel)
set_option maxRecDepth 65536 in
theorem w_c27 : (Jvm.Cond.code ({ cls := "com/example/states_into_classes/statesintoclasses/engine/BlockSides", name := "unlink", desc := "(II)V" } : Jvm.MethodName) prog_1_method_10_code (3 : Nat) (Option.none : Option Jvm.ClassFile.FieldType)).before args0 about1 = true := code_word (m := ⟨8, 6⟩) (meth := k8m6) (c := k8c6) (by decide +kernel) rfl rfl rfl (by decide +kernel)
set_option maxRecDepth 65536 in
theorem w_c28 : (Jvm.Cond.code ({ cls := "com/example/states_into_classes/statesintoclasses/engine/BlockSides", name := "rejoin", desc := "(II)V" } : Jvm.MethodName) prog_1_method_7_code (4 : Nat) (Option.none : Option Jvm.ClassFile.FieldType)).before args0 about1 = true := code_word (m := ⟨8, 3⟩) (meth := k8m3) (c := k8c3) (by decide +kernel) rfl rfl rfl (by decide +kernel)
def codes1 : List Jvm.Cond := [Jvm.Cond.code x code maxLocals ret, Jvm.Cond.code ({ cls := "com/example/states_into_classes/statesintoclasses/engine/Blocks", name := "<init>", desc := "(I)V" } : Jvm.MethodName) prog_3_method_1_code (2 : Nat) (Option.none : Option Jvm.ClassFile.FieldType), Jvm.Cond.code ({ cls := "com/example/states_into_classes/statesintoclasses/engine/Blocks", name := "<init>", desc := "([I)V" } : Jvm.MethodName) prog_3_method_2_code (10 : Nat) (Option.none : Option Jvm.ClassFile.FieldType), Jvm.Cond.code ({ cls := "java/lang/Object", name := "<init>", desc := "()V" } : Jvm.MethodName) object_method_1_code (1 : Nat) (Option.none : Option Jvm.ClassFile.FieldType), Jvm.Cond.code ({ cls := "java/lang/Math", name := "min", desc := "(II)I" } : Jvm.MethodName) jdk_29_method_69_code (2 : Nat) (Option.some Jvm.ClassFile.FieldType.int), Jvm.Cond.code ({ cls := "java/lang/Math", name := "max", desc := "(II)I" } : Jvm.MethodName) jdk_29_method_65_code (2 : Nat) (Option.some Jvm.ClassFile.FieldType.int), Jvm.Cond.code ({ cls := "java/util/Arrays", name := "fill", desc := "([IIII)V" } : Jvm.MethodName) jdk_65_method_104_code (5 : Nat) (Option.none : Option Jvm.ClassFile.FieldType), Jvm.Cond.code ({ cls := "java/util/Arrays", name := "rangeCheck", desc := "(III)V" } : Jvm.MethodName) jdk_65_method_30_code (3 : Nat) (Option.none : Option Jvm.ClassFile.FieldType), Jvm.Cond.code ({ cls := "com/example/states_into_classes/statesintoclasses/engine/BlockSides", name := "<init>", desc := "(Lcom/example/states_into_classes/statesintoclasses/engine/Blocks;I)V" } : Jvm.MethodName) prog_1_method_1_code (6 : Nat) (Option.none : Option Jvm.ClassFile.FieldType), Jvm.Cond.code ({ cls := "com/example/states_into_classes/statesintoclasses/engine/Blocks", name := "stateCount", desc := "()I" } : Jvm.MethodName) prog_3_method_4_code (1 : Nat) (Option.some Jvm.ClassFile.FieldType.int), Jvm.Cond.code ({ cls := "java/util/Arrays", name := "fill", desc := "([II)V" } : Jvm.MethodName) jdk_65_method_103_code (4 : Nat) (Option.none : Option Jvm.ClassFile.FieldType), Jvm.Cond.code ({ cls := "com/example/states_into_classes/statesintoclasses/engine/BlockSides", name := "balanced", desc := "(II)Z" } : Jvm.MethodName) prog_1_method_8_code (3 : Nat) (Option.some Jvm.ClassFile.FieldType.boolean), Jvm.Cond.code ({ cls := "com/example/states_into_classes/statesintoclasses/engine/BlockSides", name := "enter", desc := "(I)V" } : Jvm.MethodName) prog_1_method_11_code (4 : Nat) (Option.none : Option Jvm.ClassFile.FieldType), Jvm.Cond.code ({ cls := "com/example/states_into_classes/statesintoclasses/engine/BlockSides", name := "fullest", desc := "()I" } : Jvm.MethodName) prog_1_method_3_code (1 : Nat) (Option.some Jvm.ClassFile.FieldType.int), Jvm.Cond.code ({ cls := "com/example/states_into_classes/statesintoclasses/engine/BlockSidesFullestPinLaw", name := "markIf", desc := "(Lcom/example/states_into_classes/statesintoclasses/engine/Blocks;II)V" } : Jvm.MethodName) method_3_code (3 : Nat) (Option.none : Option Jvm.ClassFile.FieldType), Jvm.Cond.code ({ cls := "com/example/states_into_classes/statesintoclasses/engine/Blocks", name := "split", desc := "(Lcom/example/states_into_classes/statesintoclasses/engine/Blocks$Split;)V" } : Jvm.MethodName) prog_3_method_13_code (7 : Nat) (Option.none : Option Jvm.ClassFile.FieldType), Jvm.Cond.code ({ cls := "com/example/states_into_classes/statesintoclasses/engine/BlockSidesFullestPinLaw", name := "bit", desc := "(II)I" } : Jvm.MethodName) method_4_code (2 : Nat) (Option.some Jvm.ClassFile.FieldType.int), Jvm.Cond.code ({ cls := "com/example/states_into_classes/statesintoclasses/engine/BlockSidesFullestPinLaw", name := "below", desc := "(III)I" } : Jvm.MethodName) method_5_code (3 : Nat) (Option.some Jvm.ClassFile.FieldType.int), Jvm.Cond.code ({ cls := "com/example/states_into_classes/statesintoclasses/engine/BlockSides", name := "link", desc := "(II)V" } : Jvm.MethodName) prog_1_method_9_code (5 : Nat) (Option.none : Option Jvm.ClassFile.FieldType), Jvm.Cond.code ({ cls := "com/example/states_into_classes/statesintoclasses/engine/Blocks", name := "mark", desc := "(I)V" } : Jvm.MethodName) prog_3_method_12_code (3 : Nat) (Option.none : Option Jvm.ClassFile.FieldType), Jvm.Cond.code ({ cls := "com/example/states_into_classes/statesintoclasses/engine/Blocks", name := "withRoom", desc := "([III)[I" } : Jvm.MethodName) prog_3_method_3_code (3 : Nat) (Option.some (Jvm.ClassFile.FieldType.array Jvm.ClassFile.FieldType.int)), Jvm.Cond.code ({ cls := "com/example/states_into_classes/statesintoclasses/engine/BlockSides", name := "splitOff", desc := "(II)V" } : Jvm.MethodName) prog_1_method_6_code (7 : Nat) (Option.none : Option Jvm.ClassFile.FieldType), Jvm.Cond.code ({ cls := "com/example/states_into_classes/statesintoclasses/engine/Blocks", name := "size", desc := "(I)I" } : Jvm.MethodName) prog_3_method_8_code (2 : Nat) (Option.some Jvm.ClassFile.FieldType.int), Jvm.Cond.code ({ cls := "com/example/states_into_classes/statesintoclasses/engine/BlockSides", name := "leave", desc := "(I)V" } : Jvm.MethodName) prog_1_method_12_code (3 : Nat) (Option.none : Option Jvm.ClassFile.FieldType), Jvm.Cond.code ({ cls := "com/example/states_into_classes/statesintoclasses/engine/Blocks", name := "start", desc := "(I)I" } : Jvm.MethodName) prog_3_method_9_code (2 : Nat) (Option.some Jvm.ClassFile.FieldType.int), Jvm.Cond.code ({ cls := "com/example/states_into_classes/statesintoclasses/engine/Blocks", name := "end", desc := "(I)I" } : Jvm.MethodName) prog_3_method_10_code (2 : Nat) (Option.some Jvm.ClassFile.FieldType.int), Jvm.Cond.code ({ cls := "com/example/states_into_classes/statesintoclasses/engine/Blocks", name := "state", desc := "(I)I" } : Jvm.MethodName) prog_3_method_11_code (2 : Nat) (Option.some Jvm.ClassFile.FieldType.int), Jvm.Cond.code ({ cls := "com/example/states_into_classes/statesintoclasses/engine/BlockSides", name := "unlink", desc := "(II)V" } : Jvm.MethodName) prog_1_method_10_code (3 : Nat) (Option.none : Option Jvm.ClassFile.FieldType), Jvm.Cond.code ({ cls := "com/example/states_into_classes/statesintoclasses/engine/BlockSides", name := "rejoin", desc := "(II)V" } : Jvm.MethodName) prog_1_method_7_code (4 : Nat) (Option.none : Option Jvm.ClassFile.FieldType)]
set_option maxRecDepth 65536 in
theorem codes_eq : words1.filter isCode = codes1 := rfl
theorem w_codes : ∀ c ∈ words1.filter isCode, c.before args0 about1 = true := by
  rw [codes_eq]
  intro c hc
  simp only [codes1, List.mem_cons, List.not_mem_nil, or_false] at hc
  rcases hc with rfl | rfl | rfl | rfl | rfl | rfl | rfl | rfl | rfl | rfl | rfl | rfl | rfl | rfl | rfl | rfl | rfl | rfl | rfl | rfl | rfl | rfl | rfl | rfl | rfl | rfl | rfl | rfl | rfl
  · exact w_c0
  · exact w_c1
  · exact w_c2
  · exact w_c3
  · exact w_c4
  · exact w_c5
  · exact w_c6
  · exact w_c7
  · exact w_c8
  · exact w_c9
  · exact w_c10
  · exact w_c11
  · exact w_c12
  · exact w_c13
  · exact w_c14
  · exact w_c15
  · exact w_c16
  · exact w_c17
  · exact w_c18
  · exact w_c19
  · exact w_c20
  · exact w_c21
  · exact w_c22
  · exact w_c23
  · exact w_c24
  · exact w_c25
  · exact w_c26
  · exact w_c27
  · exact w_c28
set_option maxRecDepth 65536 in
theorem w_t1 : (words1.take 24).all (fun c => isCode c || c.before args0 about1) = true := by decide +kernel
set_option maxRecDepth 65536 in
theorem w_t2 : ((words1.drop 24).take 24).all (fun c => isCode c || c.before args0 about1) = true := by decide +kernel
set_option maxRecDepth 65536 in
theorem w_t3 : (((words1.drop 24).drop 24).take 24).all (fun c => isCode c || c.before args0 about1) = true := by decide +kernel
set_option maxRecDepth 65536 in
theorem w_t4 : ((((words1.drop 24).drop 24).drop 24).take 24).all (fun c => isCode c || c.before args0 about1) = true := by decide +kernel
set_option maxRecDepth 65536 in
theorem w_t5 : (((((words1.drop 24).drop 24).drop 24).drop 24).take 24).all (fun c => isCode c || c.before args0 about1) = true := by decide +kernel
set_option maxRecDepth 65536 in
theorem w_t6 : ((((((words1.drop 24).drop 24).drop 24).drop 24).drop 24).take 24).all (fun c => isCode c || c.before args0 about1) = true := by decide +kernel
set_option maxRecDepth 65536 in
theorem w_t7 : (((((((words1.drop 24).drop 24).drop 24).drop 24).drop 24).drop 24).take 24).all (fun c => isCode c || c.before args0 about1) = true := by decide +kernel
set_option maxRecDepth 65536 in
theorem w_t8 : (((((((words1.drop 24).drop 24).drop 24).drop 24).drop 24).drop 24).drop 24).all (fun c => isCode c || c.before args0 about1) = true := by decide +kernel
theorem w_tables : (allAtoms (Jvm.Cond.code x code maxLocals ret :: tables_1)).before args0 about1 = true := by
  rw [allAtoms_all]
  show words1.all (fun c => c.before args0 about1) = true
  refine all_split ?_ w_codes
  rw [← List.take_append_drop 24 words1, List.all_append, w_t1, ← List.take_append_drop 24 (words1.drop 24), List.all_append, w_t2, ← List.take_append_drop 24 ((words1.drop 24).drop 24), List.all_append, w_t3, ← List.take_append_drop 24 (((words1.drop 24).drop 24).drop 24), List.all_append, w_t4, ← List.take_append_drop 24 ((((words1.drop 24).drop 24).drop 24).drop 24), List.all_append, w_t5, ← List.take_append_drop 24 (((((words1.drop 24).drop 24).drop 24).drop 24).drop 24), List.all_append, w_t6, ← List.take_append_drop 24 ((((((words1.drop 24).drop 24).drop 24).drop 24).drop 24).drop 24), List.all_append, w_t7, w_t8]
  rfl
set_option maxRecDepth 65536 in
theorem w_case : (Jvm.Cond.and given_1 narrow_1).before args0 about1 = true := by decide +kernel
theorem w_applies : (headSpec (Jvm.Cond.code x code maxLocals ret :: tables_1) room_1).applies x e0.platform about1 = true :=
  (Spec.applies_iff w_frames).mpr ⟨w_running, w_runnable, w_alone, w_named, w_hears, w_ripe, w_room, w_tables⟩
theorem atStart : AtStart classFile x code maxLocals ret World_1 tables_1 room_1 Calls_1 rest_1 Pre_1 launch0 p0 e0 about1 theMethod args0 below0 :=
  ⟨lists_1, trivial, launch0.admits_env _ _ _, launch0.least_env, fairChoices_fair.cas, fairChoices_fair.clock, w_frames, w_args, w_heap, w_applies, trivial, trivial, w_case⟩
end start1
theorem witness_1 : WitnessClaimed_1 := ⟨start1.p0, start1.e0, start1.about1, start1.theMethod, start1.args0, start1.below0, start1.atStart⟩
end Jvm.Pilot.@@N@@
