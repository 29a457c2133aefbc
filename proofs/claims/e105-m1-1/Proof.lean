import JvmDerived
import JvmDerived.Pilot.@@N@@Statement
import JvmDerived.Pilot.@@N@@Code
set_option linter.unusedVariables false
set_option linter.unusedSimpArgs false
namespace Jvm.RoadKit
open Sem ClassFile Op Lib Jvm.Stand Jvm.Free Jvm.LawKit
section New
variable {p : Program} {l : Launch} {e : Env} {R : Room} {s : State} {m : MethodId} {args : Array Value} {below : List Frame} {meth : Method} {c : Code} {T : State} {locs : List Loc} {cells slots : Nat}
theorem retI (X : Stand p l e R s m args below meth c T locs cells slots) (hx : p.tables.exec = Jvm.exec) {pc : Nat} {Ls : Array Slot} {z : Int32} {rest : List Value} (hret : meth.sig.returnType = some .int) (hd : decode c.code pc = .ok (.ireturn, 1)) {fs : List Frame}
    (hl : ∀ (f : JFrame) (acts : List Action), f.method = m → f.locked = none → f.entered = [] → (doReturn e (T.setTop f) acts (some (.int z))).1 = T.setFrames fs) : Steps p.tables e below (T.setTop (mkF m pc Ls (.int z :: rest))) (T.setFrames fs) := by
  have hm' : T.vm.method? m = some meth := X.method'
  have hn : narrow .int (.int z) = .int z := rfl
  show Steps p.tables e below (T.setTop { method := m, pc := pc, locals := Ls, stack := _ :: rest, locked := none }) _
  jvm_step X.here [X.here.top, hx, hd, hm', hret, hn]
  first | (intro acts; rw [hl _ acts rfl rfl rfl]) | rw [hl _ _ rfl rfl rfl]
  exact Steps.refl _
end New
end Jvm.RoadKit
namespace Jvm.Pilot.@@N@@
open Jvm Jvm.ClassFile Sem Op Lib Jvm.Free Jvm.Stand Jvm.LawKit Jvm.RoadKit Bundle Jvm.Pilot.@@N@@.Jvm.D
theorem d1_0 : decode prog_284_method_2_code 0 = .ok (.iload_n 0, 1) := by decide +kernel
theorem d1_1 : decode prog_284_method_2_code 1 = .ok (.bipush 97, 2) := by decide +kernel
theorem d1_3 : decode prog_284_method_2_code 3 = .ok (.if_icmp .lt 9, 3) := by decide +kernel
theorem d1_6 : decode prog_284_method_2_code 6 = .ok (.iload_n 0, 1) := by decide +kernel
theorem d1_7 : decode prog_284_method_2_code 7 = .ok (.bipush 122, 2) := by decide +kernel
theorem d1_9 : decode prog_284_method_2_code 9 = .ok (.if_icmp .le 182, 3) := by decide +kernel
theorem d1_12 : decode prog_284_method_2_code 12 = .ok (.iload_n 0, 1) := by decide +kernel
theorem d1_13 : decode prog_284_method_2_code 13 = .ok (.bipush 65, 2) := by decide +kernel
theorem d1_15 : decode prog_284_method_2_code 15 = .ok (.if_icmp .lt 9, 3) := by decide +kernel
theorem d1_18 : decode prog_284_method_2_code 18 = .ok (.iload_n 0, 1) := by decide +kernel
theorem d1_19 : decode prog_284_method_2_code 19 = .ok (.bipush 90, 2) := by decide +kernel
theorem d1_21 : decode prog_284_method_2_code 21 = .ok (.if_icmp .le 170, 3) := by decide +kernel
theorem d1_24 : decode prog_284_method_2_code 24 = .ok (.iload_n 0, 1) := by decide +kernel
theorem d1_25 : decode prog_284_method_2_code 25 = .ok (.bipush 95, 2) := by decide +kernel
theorem d1_27 : decode prog_284_method_2_code 27 = .ok (.if_icmp .eq 164, 3) := by decide +kernel
theorem d1_30 : decode prog_284_method_2_code 30 = .ok (.iload_n 0, 1) := by decide +kernel
theorem d1_31 : decode prog_284_method_2_code 31 = .ok (.sipush 192, 3) := by decide +kernel
theorem d1_34 : decode prog_284_method_2_code 34 = .ok (.if_icmp .lt 10, 3) := by decide +kernel
theorem d1_37 : decode prog_284_method_2_code 37 = .ok (.iload_n 0, 1) := by decide +kernel
theorem d1_38 : decode prog_284_method_2_code 38 = .ok (.sipush 214, 3) := by decide +kernel
theorem d1_41 : decode prog_284_method_2_code 41 = .ok (.if_icmp .le 150, 3) := by decide +kernel
theorem d1_44 : decode prog_284_method_2_code 44 = .ok (.iload_n 0, 1) := by decide +kernel
theorem d1_45 : decode prog_284_method_2_code 45 = .ok (.sipush 216, 3) := by decide +kernel
theorem d1_48 : decode prog_284_method_2_code 48 = .ok (.if_icmp .lt 10, 3) := by decide +kernel
theorem d1_51 : decode prog_284_method_2_code 51 = .ok (.iload_n 0, 1) := by decide +kernel
theorem d1_52 : decode prog_284_method_2_code 52 = .ok (.sipush 246, 3) := by decide +kernel
theorem d1_55 : decode prog_284_method_2_code 55 = .ok (.if_icmp .le 136, 3) := by decide +kernel
theorem d1_58 : decode prog_284_method_2_code 58 = .ok (.iload_n 0, 1) := by decide +kernel
theorem d1_59 : decode prog_284_method_2_code 59 = .ok (.sipush 248, 3) := by decide +kernel
theorem d1_62 : decode prog_284_method_2_code 62 = .ok (.if_icmp .lt 10, 3) := by decide +kernel
theorem d1_65 : decode prog_284_method_2_code 65 = .ok (.iload_n 0, 1) := by decide +kernel
theorem d1_66 : decode prog_284_method_2_code 66 = .ok (.sipush 767, 3) := by decide +kernel
theorem d1_69 : decode prog_284_method_2_code 69 = .ok (.if_icmp .le 122, 3) := by decide +kernel
theorem d1_72 : decode prog_284_method_2_code 72 = .ok (.iload_n 0, 1) := by decide +kernel
theorem d1_73 : decode prog_284_method_2_code 73 = .ok (.sipush 880, 3) := by decide +kernel
theorem d1_76 : decode prog_284_method_2_code 76 = .ok (.if_icmp .lt 10, 3) := by decide +kernel
theorem d1_79 : decode prog_284_method_2_code 79 = .ok (.iload_n 0, 1) := by decide +kernel
theorem d1_80 : decode prog_284_method_2_code 80 = .ok (.sipush 893, 3) := by decide +kernel
theorem d1_83 : decode prog_284_method_2_code 83 = .ok (.if_icmp .le 108, 3) := by decide +kernel
theorem d1_86 : decode prog_284_method_2_code 86 = .ok (.iload_n 0, 1) := by decide +kernel
theorem d1_87 : decode prog_284_method_2_code 87 = .ok (.sipush 895, 3) := by decide +kernel
theorem d1_90 : decode prog_284_method_2_code 90 = .ok (.if_icmp .lt 10, 3) := by decide +kernel
theorem d1_93 : decode prog_284_method_2_code 93 = .ok (.iload_n 0, 1) := by decide +kernel
theorem d1_94 : decode prog_284_method_2_code 94 = .ok (.sipush 8191, 3) := by decide +kernel
theorem d1_97 : decode prog_284_method_2_code 97 = .ok (.if_icmp .le 94, 3) := by decide +kernel
theorem d1_100 : decode prog_284_method_2_code 100 = .ok (.iload_n 0, 1) := by decide +kernel
theorem d1_101 : decode prog_284_method_2_code 101 = .ok (.sipush 8204, 3) := by decide +kernel
theorem d1_104 : decode prog_284_method_2_code 104 = .ok (.if_icmp .lt 10, 3) := by decide +kernel
theorem d1_107 : decode prog_284_method_2_code 107 = .ok (.iload_n 0, 1) := by decide +kernel
theorem d1_108 : decode prog_284_method_2_code 108 = .ok (.sipush 8205, 3) := by decide +kernel
theorem d1_111 : decode prog_284_method_2_code 111 = .ok (.if_icmp .le 80, 3) := by decide +kernel
theorem d1_114 : decode prog_284_method_2_code 114 = .ok (.iload_n 0, 1) := by decide +kernel
theorem d1_115 : decode prog_284_method_2_code 115 = .ok (.sipush 8304, 3) := by decide +kernel
theorem d1_118 : decode prog_284_method_2_code 118 = .ok (.if_icmp .lt 10, 3) := by decide +kernel
theorem d1_121 : decode prog_284_method_2_code 121 = .ok (.iload_n 0, 1) := by decide +kernel
theorem d1_122 : decode prog_284_method_2_code 122 = .ok (.sipush 8591, 3) := by decide +kernel
theorem d1_125 : decode prog_284_method_2_code 125 = .ok (.if_icmp .le 66, 3) := by decide +kernel
theorem d1_128 : decode prog_284_method_2_code 128 = .ok (.iload_n 0, 1) := by decide +kernel
theorem d1_129 : decode prog_284_method_2_code 129 = .ok (.sipush 11264, 3) := by decide +kernel
theorem d1_132 : decode prog_284_method_2_code 132 = .ok (.if_icmp .lt 10, 3) := by decide +kernel
theorem d1_135 : decode prog_284_method_2_code 135 = .ok (.iload_n 0, 1) := by decide +kernel
theorem d1_136 : decode prog_284_method_2_code 136 = .ok (.sipush 12271, 3) := by decide +kernel
theorem d1_139 : decode prog_284_method_2_code 139 = .ok (.if_icmp .le 52, 3) := by decide +kernel
theorem d1_142 : decode prog_284_method_2_code 142 = .ok (.iload_n 0, 1) := by decide +kernel
theorem d1_143 : decode prog_284_method_2_code 143 = .ok (.sipush 12289, 3) := by decide +kernel
theorem d1_146 : decode prog_284_method_2_code 146 = .ok (.if_icmp .lt 9, 3) := by decide +kernel
theorem d1_149 : decode prog_284_method_2_code 149 = .ok (.iload_n 0, 1) := by decide +kernel
theorem d1_150 : decode prog_284_method_2_code 150 = .ok (.ldc 7, 2) := by decide +kernel
theorem d1_152 : decode prog_284_method_2_code 152 = .ok (.if_icmp .le 39, 3) := by decide +kernel
theorem d1_155 : decode prog_284_method_2_code 155 = .ok (.iload_n 0, 1) := by decide +kernel
theorem d1_156 : decode prog_284_method_2_code 156 = .ok (.ldc 8, 2) := by decide +kernel
theorem d1_158 : decode prog_284_method_2_code 158 = .ok (.if_icmp .lt 9, 3) := by decide +kernel
theorem d1_161 : decode prog_284_method_2_code 161 = .ok (.iload_n 0, 1) := by decide +kernel
theorem d1_162 : decode prog_284_method_2_code 162 = .ok (.ldc 9, 2) := by decide +kernel
theorem d1_164 : decode prog_284_method_2_code 164 = .ok (.if_icmp .le 27, 3) := by decide +kernel
theorem d1_167 : decode prog_284_method_2_code 167 = .ok (.iload_n 0, 1) := by decide +kernel
theorem d1_168 : decode prog_284_method_2_code 168 = .ok (.ldc 10, 2) := by decide +kernel
theorem d1_170 : decode prog_284_method_2_code 170 = .ok (.if_icmp .lt 9, 3) := by decide +kernel
theorem d1_173 : decode prog_284_method_2_code 173 = .ok (.iload_n 0, 1) := by decide +kernel
theorem d1_174 : decode prog_284_method_2_code 174 = .ok (.ldc 11, 2) := by decide +kernel
theorem d1_176 : decode prog_284_method_2_code 176 = .ok (.if_icmp .le 15, 3) := by decide +kernel
theorem d1_179 : decode prog_284_method_2_code 179 = .ok (.iload_n 0, 1) := by decide +kernel
theorem d1_180 : decode prog_284_method_2_code 180 = .ok (.ldc 12, 2) := by decide +kernel
theorem d1_182 : decode prog_284_method_2_code 182 = .ok (.if_icmp .lt 13, 3) := by decide +kernel
theorem d1_185 : decode prog_284_method_2_code 185 = .ok (.iload_n 0, 1) := by decide +kernel
theorem d1_186 : decode prog_284_method_2_code 186 = .ok (.ldc 13, 2) := by decide +kernel
theorem d1_188 : decode prog_284_method_2_code 188 = .ok (.if_icmp .gt 7, 3) := by decide +kernel
theorem d1_191 : decode prog_284_method_2_code 191 = .ok (.iconst 1, 1) := by decide +kernel
theorem d1_192 : decode prog_284_method_2_code 192 = .ok (.goto 4, 3) := by decide +kernel
theorem d1_195 : decode prog_284_method_2_code 195 = .ok (.iconst 0, 1) := by decide +kernel
theorem d1_196 : decode prog_284_method_2_code 196 = .ok (.ireturn, 1) := by decide +kernel
theorem d2_0 : decode method_3_code 0 = .ok (.iconst 0, 1) := by decide +kernel
theorem d2_1 : decode method_3_code 1 = .ok (.istore_n 1, 1) := by decide +kernel
theorem d2_2 : decode method_3_code 2 = .ok (.iload_n 1, 1) := by decide +kernel
theorem d2_3 : decode method_3_code 3 = .ok (.iload_n 0, 1) := by decide +kernel
theorem d2_4 : decode method_3_code 4 = .ok (.bipush 65, 2) := by decide +kernel
theorem d2_6 : decode method_3_code 6 = .ok (.invokestatic 7, 3) := by decide +kernel
theorem d2_9 : decode method_3_code 9 = .ok (.iadd, 1) := by decide +kernel
theorem d2_10 : decode method_3_code 10 = .ok (.istore_n 1, 1) := by decide +kernel
theorem d2_11 : decode method_3_code 11 = .ok (.iload_n 1, 1) := by decide +kernel
theorem d2_12 : decode method_3_code 12 = .ok (.iload_n 0, 1) := by decide +kernel
theorem d2_13 : decode method_3_code 13 = .ok (.bipush 91, 2) := by decide +kernel
theorem d2_15 : decode method_3_code 15 = .ok (.invokestatic 7, 3) := by decide +kernel
theorem d2_18 : decode method_3_code 18 = .ok (.iadd, 1) := by decide +kernel
theorem d2_19 : decode method_3_code 19 = .ok (.istore_n 1, 1) := by decide +kernel
theorem d2_20 : decode method_3_code 20 = .ok (.iload_n 1, 1) := by decide +kernel
theorem d2_21 : decode method_3_code 21 = .ok (.iload_n 0, 1) := by decide +kernel
theorem d2_22 : decode method_3_code 22 = .ok (.bipush 95, 2) := by decide +kernel
theorem d2_24 : decode method_3_code 24 = .ok (.invokestatic 7, 3) := by decide +kernel
theorem d2_27 : decode method_3_code 27 = .ok (.iadd, 1) := by decide +kernel
theorem d2_28 : decode method_3_code 28 = .ok (.istore_n 1, 1) := by decide +kernel
theorem d2_29 : decode method_3_code 29 = .ok (.iload_n 1, 1) := by decide +kernel
theorem d2_30 : decode method_3_code 30 = .ok (.iload_n 0, 1) := by decide +kernel
theorem d2_31 : decode method_3_code 31 = .ok (.bipush 96, 2) := by decide +kernel
theorem d2_33 : decode method_3_code 33 = .ok (.invokestatic 7, 3) := by decide +kernel
theorem d2_36 : decode method_3_code 36 = .ok (.iadd, 1) := by decide +kernel
theorem d2_37 : decode method_3_code 37 = .ok (.istore_n 1, 1) := by decide +kernel
theorem d2_38 : decode method_3_code 38 = .ok (.iload_n 1, 1) := by decide +kernel
theorem d2_39 : decode method_3_code 39 = .ok (.iload_n 0, 1) := by decide +kernel
theorem d2_40 : decode method_3_code 40 = .ok (.bipush 97, 2) := by decide +kernel
theorem d2_42 : decode method_3_code 42 = .ok (.invokestatic 7, 3) := by decide +kernel
theorem d2_45 : decode method_3_code 45 = .ok (.iadd, 1) := by decide +kernel
theorem d2_46 : decode method_3_code 46 = .ok (.istore_n 1, 1) := by decide +kernel
theorem d2_47 : decode method_3_code 47 = .ok (.iload_n 1, 1) := by decide +kernel
theorem d2_48 : decode method_3_code 48 = .ok (.iload_n 0, 1) := by decide +kernel
theorem d2_49 : decode method_3_code 49 = .ok (.bipush 123, 2) := by decide +kernel
theorem d2_51 : decode method_3_code 51 = .ok (.invokestatic 7, 3) := by decide +kernel
theorem d2_54 : decode method_3_code 54 = .ok (.iadd, 1) := by decide +kernel
theorem d2_55 : decode method_3_code 55 = .ok (.istore_n 1, 1) := by decide +kernel
theorem d2_56 : decode method_3_code 56 = .ok (.iload_n 1, 1) := by decide +kernel
theorem d2_57 : decode method_3_code 57 = .ok (.iload_n 0, 1) := by decide +kernel
theorem d2_58 : decode method_3_code 58 = .ok (.sipush 192, 3) := by decide +kernel
theorem d2_61 : decode method_3_code 61 = .ok (.invokestatic 7, 3) := by decide +kernel
theorem d2_64 : decode method_3_code 64 = .ok (.iadd, 1) := by decide +kernel
theorem d2_65 : decode method_3_code 65 = .ok (.istore_n 1, 1) := by decide +kernel
theorem d2_66 : decode method_3_code 66 = .ok (.iload_n 1, 1) := by decide +kernel
theorem d2_67 : decode method_3_code 67 = .ok (.iload_n 0, 1) := by decide +kernel
theorem d2_68 : decode method_3_code 68 = .ok (.sipush 215, 3) := by decide +kernel
theorem d2_71 : decode method_3_code 71 = .ok (.invokestatic 7, 3) := by decide +kernel
theorem d2_74 : decode method_3_code 74 = .ok (.iadd, 1) := by decide +kernel
theorem d2_75 : decode method_3_code 75 = .ok (.istore_n 1, 1) := by decide +kernel
theorem d2_76 : decode method_3_code 76 = .ok (.iload_n 1, 1) := by decide +kernel
theorem d2_77 : decode method_3_code 77 = .ok (.iload_n 0, 1) := by decide +kernel
theorem d2_78 : decode method_3_code 78 = .ok (.sipush 216, 3) := by decide +kernel
theorem d2_81 : decode method_3_code 81 = .ok (.invokestatic 7, 3) := by decide +kernel
theorem d2_84 : decode method_3_code 84 = .ok (.iadd, 1) := by decide +kernel
theorem d2_85 : decode method_3_code 85 = .ok (.istore_n 1, 1) := by decide +kernel
theorem d2_86 : decode method_3_code 86 = .ok (.iload_n 1, 1) := by decide +kernel
theorem d2_87 : decode method_3_code 87 = .ok (.iload_n 0, 1) := by decide +kernel
theorem d2_88 : decode method_3_code 88 = .ok (.sipush 247, 3) := by decide +kernel
theorem d2_91 : decode method_3_code 91 = .ok (.invokestatic 7, 3) := by decide +kernel
theorem d2_94 : decode method_3_code 94 = .ok (.iadd, 1) := by decide +kernel
theorem d2_95 : decode method_3_code 95 = .ok (.istore_n 1, 1) := by decide +kernel
theorem d2_96 : decode method_3_code 96 = .ok (.iload_n 1, 1) := by decide +kernel
theorem d2_97 : decode method_3_code 97 = .ok (.iload_n 0, 1) := by decide +kernel
theorem d2_98 : decode method_3_code 98 = .ok (.sipush 248, 3) := by decide +kernel
theorem d2_101 : decode method_3_code 101 = .ok (.invokestatic 7, 3) := by decide +kernel
theorem d2_104 : decode method_3_code 104 = .ok (.iadd, 1) := by decide +kernel
theorem d2_105 : decode method_3_code 105 = .ok (.istore_n 1, 1) := by decide +kernel
theorem d2_106 : decode method_3_code 106 = .ok (.iload_n 1, 1) := by decide +kernel
theorem d2_107 : decode method_3_code 107 = .ok (.iload_n 0, 1) := by decide +kernel
theorem d2_108 : decode method_3_code 108 = .ok (.sipush 768, 3) := by decide +kernel
theorem d2_111 : decode method_3_code 111 = .ok (.invokestatic 7, 3) := by decide +kernel
theorem d2_114 : decode method_3_code 114 = .ok (.iadd, 1) := by decide +kernel
theorem d2_115 : decode method_3_code 115 = .ok (.istore_n 1, 1) := by decide +kernel
theorem d2_116 : decode method_3_code 116 = .ok (.iload_n 1, 1) := by decide +kernel
theorem d2_117 : decode method_3_code 117 = .ok (.iload_n 0, 1) := by decide +kernel
theorem d2_118 : decode method_3_code 118 = .ok (.sipush 880, 3) := by decide +kernel
theorem d2_121 : decode method_3_code 121 = .ok (.invokestatic 7, 3) := by decide +kernel
theorem d2_124 : decode method_3_code 124 = .ok (.iadd, 1) := by decide +kernel
theorem d2_125 : decode method_3_code 125 = .ok (.istore_n 1, 1) := by decide +kernel
theorem d2_126 : decode method_3_code 126 = .ok (.iload_n 1, 1) := by decide +kernel
theorem d2_127 : decode method_3_code 127 = .ok (.iload_n 0, 1) := by decide +kernel
theorem d2_128 : decode method_3_code 128 = .ok (.sipush 894, 3) := by decide +kernel
theorem d2_131 : decode method_3_code 131 = .ok (.invokestatic 7, 3) := by decide +kernel
theorem d2_134 : decode method_3_code 134 = .ok (.iadd, 1) := by decide +kernel
theorem d2_135 : decode method_3_code 135 = .ok (.istore_n 1, 1) := by decide +kernel
theorem d2_136 : decode method_3_code 136 = .ok (.iload_n 1, 1) := by decide +kernel
theorem d2_137 : decode method_3_code 137 = .ok (.iload_n 0, 1) := by decide +kernel
theorem d2_138 : decode method_3_code 138 = .ok (.sipush 895, 3) := by decide +kernel
theorem d2_141 : decode method_3_code 141 = .ok (.invokestatic 7, 3) := by decide +kernel
theorem d2_144 : decode method_3_code 144 = .ok (.iadd, 1) := by decide +kernel
theorem d2_145 : decode method_3_code 145 = .ok (.istore_n 1, 1) := by decide +kernel
theorem d2_146 : decode method_3_code 146 = .ok (.iload_n 1, 1) := by decide +kernel
theorem d2_147 : decode method_3_code 147 = .ok (.iload_n 0, 1) := by decide +kernel
theorem d2_148 : decode method_3_code 148 = .ok (.sipush 8192, 3) := by decide +kernel
theorem d2_151 : decode method_3_code 151 = .ok (.invokestatic 7, 3) := by decide +kernel
theorem d2_154 : decode method_3_code 154 = .ok (.iadd, 1) := by decide +kernel
theorem d2_155 : decode method_3_code 155 = .ok (.istore_n 1, 1) := by decide +kernel
theorem d2_156 : decode method_3_code 156 = .ok (.iload_n 1, 1) := by decide +kernel
theorem d2_157 : decode method_3_code 157 = .ok (.iload_n 0, 1) := by decide +kernel
theorem d2_158 : decode method_3_code 158 = .ok (.sipush 8204, 3) := by decide +kernel
theorem d2_161 : decode method_3_code 161 = .ok (.invokestatic 7, 3) := by decide +kernel
theorem d2_164 : decode method_3_code 164 = .ok (.iadd, 1) := by decide +kernel
theorem d2_165 : decode method_3_code 165 = .ok (.istore_n 1, 1) := by decide +kernel
theorem d2_166 : decode method_3_code 166 = .ok (.iload_n 1, 1) := by decide +kernel
theorem d2_167 : decode method_3_code 167 = .ok (.iload_n 0, 1) := by decide +kernel
theorem d2_168 : decode method_3_code 168 = .ok (.sipush 8206, 3) := by decide +kernel
theorem d2_171 : decode method_3_code 171 = .ok (.invokestatic 7, 3) := by decide +kernel
theorem d2_174 : decode method_3_code 174 = .ok (.iadd, 1) := by decide +kernel
theorem d2_175 : decode method_3_code 175 = .ok (.istore_n 1, 1) := by decide +kernel
theorem d2_176 : decode method_3_code 176 = .ok (.iload_n 1, 1) := by decide +kernel
theorem d2_177 : decode method_3_code 177 = .ok (.iload_n 0, 1) := by decide +kernel
theorem d2_178 : decode method_3_code 178 = .ok (.sipush 8304, 3) := by decide +kernel
theorem d2_181 : decode method_3_code 181 = .ok (.invokestatic 7, 3) := by decide +kernel
theorem d2_184 : decode method_3_code 184 = .ok (.iadd, 1) := by decide +kernel
theorem d2_185 : decode method_3_code 185 = .ok (.istore_n 1, 1) := by decide +kernel
theorem d2_186 : decode method_3_code 186 = .ok (.iload_n 1, 1) := by decide +kernel
theorem d2_187 : decode method_3_code 187 = .ok (.iload_n 0, 1) := by decide +kernel
theorem d2_188 : decode method_3_code 188 = .ok (.sipush 8592, 3) := by decide +kernel
theorem d2_191 : decode method_3_code 191 = .ok (.invokestatic 7, 3) := by decide +kernel
theorem d2_194 : decode method_3_code 194 = .ok (.iadd, 1) := by decide +kernel
theorem d2_195 : decode method_3_code 195 = .ok (.istore_n 1, 1) := by decide +kernel
theorem d2_196 : decode method_3_code 196 = .ok (.iload_n 1, 1) := by decide +kernel
theorem d2_197 : decode method_3_code 197 = .ok (.iload_n 0, 1) := by decide +kernel
theorem d2_198 : decode method_3_code 198 = .ok (.sipush 11264, 3) := by decide +kernel
theorem d2_201 : decode method_3_code 201 = .ok (.invokestatic 7, 3) := by decide +kernel
theorem d2_204 : decode method_3_code 204 = .ok (.iadd, 1) := by decide +kernel
theorem d2_205 : decode method_3_code 205 = .ok (.istore_n 1, 1) := by decide +kernel
theorem d2_206 : decode method_3_code 206 = .ok (.iload_n 1, 1) := by decide +kernel
theorem d2_207 : decode method_3_code 207 = .ok (.iload_n 0, 1) := by decide +kernel
theorem d2_208 : decode method_3_code 208 = .ok (.sipush 12272, 3) := by decide +kernel
theorem d2_211 : decode method_3_code 211 = .ok (.invokestatic 7, 3) := by decide +kernel
theorem d2_214 : decode method_3_code 214 = .ok (.iadd, 1) := by decide +kernel
theorem d2_215 : decode method_3_code 215 = .ok (.istore_n 1, 1) := by decide +kernel
theorem d2_216 : decode method_3_code 216 = .ok (.iload_n 1, 1) := by decide +kernel
theorem d2_217 : decode method_3_code 217 = .ok (.iload_n 0, 1) := by decide +kernel
theorem d2_218 : decode method_3_code 218 = .ok (.sipush 12289, 3) := by decide +kernel
theorem d2_221 : decode method_3_code 221 = .ok (.invokestatic 7, 3) := by decide +kernel
theorem d2_224 : decode method_3_code 224 = .ok (.iadd, 1) := by decide +kernel
theorem d2_225 : decode method_3_code 225 = .ok (.istore_n 1, 1) := by decide +kernel
theorem d2_226 : decode method_3_code 226 = .ok (.iload_n 1, 1) := by decide +kernel
theorem d2_227 : decode method_3_code 227 = .ok (.iload_n 0, 1) := by decide +kernel
theorem d2_228 : decode method_3_code 228 = .ok (.ldc 13, 2) := by decide +kernel
theorem d2_230 : decode method_3_code 230 = .ok (.invokestatic 7, 3) := by decide +kernel
theorem d2_233 : decode method_3_code 233 = .ok (.iadd, 1) := by decide +kernel
theorem d2_234 : decode method_3_code 234 = .ok (.istore_n 1, 1) := by decide +kernel
theorem d2_235 : decode method_3_code 235 = .ok (.iload_n 1, 1) := by decide +kernel
theorem d2_236 : decode method_3_code 236 = .ok (.iload_n 0, 1) := by decide +kernel
theorem d2_237 : decode method_3_code 237 = .ok (.ldc 14, 2) := by decide +kernel
theorem d2_239 : decode method_3_code 239 = .ok (.invokestatic 7, 3) := by decide +kernel
theorem d2_242 : decode method_3_code 242 = .ok (.iadd, 1) := by decide +kernel
theorem d2_243 : decode method_3_code 243 = .ok (.istore_n 1, 1) := by decide +kernel
theorem d2_244 : decode method_3_code 244 = .ok (.iload_n 1, 1) := by decide +kernel
theorem d2_245 : decode method_3_code 245 = .ok (.iload_n 0, 1) := by decide +kernel
theorem d2_246 : decode method_3_code 246 = .ok (.ldc 15, 2) := by decide +kernel
theorem d2_248 : decode method_3_code 248 = .ok (.invokestatic 7, 3) := by decide +kernel
theorem d2_251 : decode method_3_code 251 = .ok (.iadd, 1) := by decide +kernel
theorem d2_252 : decode method_3_code 252 = .ok (.istore_n 1, 1) := by decide +kernel
theorem d2_253 : decode method_3_code 253 = .ok (.iload_n 1, 1) := by decide +kernel
theorem d2_254 : decode method_3_code 254 = .ok (.iload_n 0, 1) := by decide +kernel
theorem d2_255 : decode method_3_code 255 = .ok (.ldc 16, 2) := by decide +kernel
theorem d2_257 : decode method_3_code 257 = .ok (.invokestatic 7, 3) := by decide +kernel
theorem d2_260 : decode method_3_code 260 = .ok (.iadd, 1) := by decide +kernel
theorem d2_261 : decode method_3_code 261 = .ok (.istore_n 1, 1) := by decide +kernel
theorem d2_262 : decode method_3_code 262 = .ok (.iload_n 1, 1) := by decide +kernel
theorem d2_263 : decode method_3_code 263 = .ok (.iload_n 0, 1) := by decide +kernel
theorem d2_264 : decode method_3_code 264 = .ok (.ldc 17, 2) := by decide +kernel
theorem d2_266 : decode method_3_code 266 = .ok (.invokestatic 7, 3) := by decide +kernel
theorem d2_269 : decode method_3_code 269 = .ok (.iadd, 1) := by decide +kernel
theorem d2_270 : decode method_3_code 270 = .ok (.istore_n 1, 1) := by decide +kernel
theorem d2_271 : decode method_3_code 271 = .ok (.iload_n 1, 1) := by decide +kernel
theorem d2_272 : decode method_3_code 272 = .ok (.iload_n 0, 1) := by decide +kernel
theorem d2_273 : decode method_3_code 273 = .ok (.ldc 18, 2) := by decide +kernel
theorem d2_275 : decode method_3_code 275 = .ok (.invokestatic 7, 3) := by decide +kernel
theorem d2_278 : decode method_3_code 278 = .ok (.iadd, 1) := by decide +kernel
theorem d2_279 : decode method_3_code 279 = .ok (.istore_n 1, 1) := by decide +kernel
theorem d2_280 : decode method_3_code 280 = .ok (.iload_n 1, 1) := by decide +kernel
theorem d2_281 : decode method_3_code 281 = .ok (.iload_n 0, 1) := by decide +kernel
theorem d2_282 : decode method_3_code 282 = .ok (.ldc 19, 2) := by decide +kernel
theorem d2_284 : decode method_3_code 284 = .ok (.invokestatic 7, 3) := by decide +kernel
theorem d2_287 : decode method_3_code 287 = .ok (.iadd, 1) := by decide +kernel
theorem d2_288 : decode method_3_code 288 = .ok (.istore_n 1, 1) := by decide +kernel
theorem d2_289 : decode method_3_code 289 = .ok (.iload_n 1, 1) := by decide +kernel
theorem d2_290 : decode method_3_code 290 = .ok (.iconst 1, 1) := by decide +kernel
theorem d2_291 : decode method_3_code 291 = .ok (.iand, 1) := by decide +kernel
theorem d2_292 : decode method_3_code 292 = .ok (.iconst 1, 1) := by decide +kernel
theorem d2_293 : decode method_3_code 293 = .ok (.if_icmp .ne 7, 3) := by decide +kernel
theorem d2_296 : decode method_3_code 296 = .ok (.iconst 1, 1) := by decide +kernel
theorem d2_297 : decode method_3_code 297 = .ok (.goto 4, 3) := by decide +kernel
theorem d2_300 : decode method_3_code 300 = .ok (.iconst 0, 1) := by decide +kernel
theorem d2_301 : decode method_3_code 301 = .ok (.ireturn, 1) := by decide +kernel
theorem d3_0 : decode method_2_code 0 = .ok (.iload_n 0, 1) := by decide +kernel
theorem d3_1 : decode method_2_code 1 = .ok (.iload_n 1, 1) := by decide +kernel
theorem d3_2 : decode method_2_code 2 = .ok (.if_icmp .lt 7, 3) := by decide +kernel
theorem d3_5 : decode method_2_code 5 = .ok (.iconst 1, 1) := by decide +kernel
theorem d3_6 : decode method_2_code 6 = .ok (.goto 4, 3) := by decide +kernel
theorem d3_9 : decode method_2_code 9 = .ok (.iconst 0, 1) := by decide +kernel
theorem d3_10 : decode method_2_code 10 = .ok (.ireturn, 1) := by decide +kernel
theorem pd_0 : parseMethodDescriptor "(II)I" = some ⟨[.int, .int], some .int⟩ := by decide +kernel
theorem pd_1 : parseMethodDescriptor "(I)Z" = some ⟨[.int], some .boolean⟩ := by decide +kernel
def own_ge (c b : Int32) : Int32 := if c < b then 0 else 1
def own_in : List (Int32 × Int32) → Int32 → Int32
  | [], _ => 0
  | r :: rs, c => if ¬ (c < r.1) ∧ ¬ (r.2 < c) then 1 else own_in rs c
theorem own_in01 (c : Int32) : ∀ rs, own_in rs c = 0 ∨ own_in rs c = 1
  | [] => Or.inl rfl
  | r :: rs => by
    unfold own_in
    split
    · exact Or.inr rfl
    · exact own_in01 c rs
theorem own_in_yes {rs : List (Int32 × Int32)} {c a b : Int32} (h : ¬ (c < a) ∧ ¬ (b < c)) : own_in ((a, b) :: rs) c = 1 := if_pos h
theorem own_in_no {rs : List (Int32 × Int32)} {c a b v : Int32} (h : ¬ (¬ (c < a) ∧ ¬ (b < c))) (k : own_in rs c = v) : own_in ((a, b) :: rs) c = v := (if_neg h).trans k
theorem own_ge0 {c b b' : Int32} (h : c < b) (hb : b ≤ b') : own_ge c b' = 0 := if_pos (Int32.lt_of_lt_of_le h hb)
theorem own_ge1 {c b b' : Int32} (h : ¬ c < b) (hb : b' ≤ b) : own_ge c b' = 1 := if_neg fun k => h (Int32.lt_of_lt_of_le k hb)
theorem own_below {c x a b : Int32} (h : c < x) (hx : x ≤ a) : ¬ (¬ (c < a) ∧ ¬ (b < c)) := fun k => k.1 (Int32.lt_of_lt_of_le h hx)
theorem own_above {c y a b : Int32} (h : ¬ c < y) (hy : b < y) : ¬ (¬ (c < a) ∧ ¬ (b < c)) := fun k => k.2 (Int32.lt_of_lt_of_le hy (Int32.not_lt.mp h))
theorem own_within {c x y a b : Int32} (h : ¬ c < x) (hx : a ≤ x) (k : c < y) (hy : ∀ z : Int32, z < y → ¬ b < z) : ¬ (c < a) ∧ ¬ (b < c) := ⟨fun q => h (Int32.lt_of_lt_of_le q hx), hy c k⟩
theorem own_pred {b y : Int32} (h : y.toInt = b.toInt + 1) : ∀ z : Int32, z < y → ¬ b < z := fun z hz hb => by
  rw [Int32.lt_iff_toInt_lt] at hz hb; omega
def own_rs : List (Int32 × Int32) := [(97, 122), (65, 90), (95, 95), (192, 214), (216, 246), (248, 767), (880, 893), (895, 8191), (8204, 8205), (8304, 8591), (11264, 12271), (12289, 55295), (63744, 64975), (65008, 65533), (65536, 983039)]
def own_cnt (c : Int32) : Int32 := (((((((((((((((((((((((((((((((0 : Int32) + (own_ge c (65 : Int32))) + (own_ge c (91 : Int32))) + (own_ge c (95 : Int32))) + (own_ge c (96 : Int32))) + (own_ge c (97 : Int32))) + (own_ge c (123 : Int32))) + (own_ge c (192 : Int32))) + (own_ge c (215 : Int32))) + (own_ge c (216 : Int32))) + (own_ge c (247 : Int32))) + (own_ge c (248 : Int32))) + (own_ge c (768 : Int32))) + (own_ge c (880 : Int32))) + (own_ge c (894 : Int32))) + (own_ge c (895 : Int32))) + (own_ge c (8192 : Int32))) + (own_ge c (8204 : Int32))) + (own_ge c (8206 : Int32))) + (own_ge c (8304 : Int32))) + (own_ge c (8592 : Int32))) + (own_ge c (11264 : Int32))) + (own_ge c (12272 : Int32))) + (own_ge c (12289 : Int32))) + (own_ge c (55296 : Int32))) + (own_ge c (63744 : Int32))) + (own_ge c (64976 : Int32))) + (own_ge c (65008 : Int32))) + (own_ge c (65534 : Int32))) + (own_ge c (65536 : Int32))) + (own_ge c (983040 : Int32)))
def own_ref (c : Int32) : Int32 := if own_cnt c &&& 1 = 1 then 1 else 0
theorem own_law (c : Int32) : own_in own_rs c = own_ref c := by
  by_cases l0 : c < (65 : Int32)
  · have hc : own_cnt c = 0 := by
      unfold own_cnt
      rw [own_ge0 (b' := 65) l0 (by decide), own_ge0 (b' := 91) l0 (by decide), own_ge0 (b' := 95) l0 (by decide), own_ge0 (b' := 96) l0 (by decide), own_ge0 (b' := 97) l0 (by decide), own_ge0 (b' := 123) l0 (by decide), own_ge0 (b' := 192) l0 (by decide), own_ge0 (b' := 215) l0 (by decide), own_ge0 (b' := 216) l0 (by decide), own_ge0 (b' := 247) l0 (by decide), own_ge0 (b' := 248) l0 (by decide), own_ge0 (b' := 768) l0 (by decide), own_ge0 (b' := 880) l0 (by decide), own_ge0 (b' := 894) l0 (by decide), own_ge0 (b' := 895) l0 (by decide), own_ge0 (b' := 8192) l0 (by decide), own_ge0 (b' := 8204) l0 (by decide), own_ge0 (b' := 8206) l0 (by decide), own_ge0 (b' := 8304) l0 (by decide), own_ge0 (b' := 8592) l0 (by decide), own_ge0 (b' := 11264) l0 (by decide), own_ge0 (b' := 12272) l0 (by decide), own_ge0 (b' := 12289) l0 (by decide), own_ge0 (b' := 55296) l0 (by decide), own_ge0 (b' := 63744) l0 (by decide), own_ge0 (b' := 64976) l0 (by decide), own_ge0 (b' := 65008) l0 (by decide), own_ge0 (b' := 65534) l0 (by decide), own_ge0 (b' := 65536) l0 (by decide), own_ge0 (b' := 983040) l0 (by decide)]
      rfl
    have hr : own_ref c = 0 := by unfold own_ref; rw [hc]; rfl
    rw [hr]
    exact (own_in_no (own_below l0 (by decide)) (own_in_no (own_below l0 (by decide)) (own_in_no (own_below l0 (by decide)) (own_in_no (own_below l0 (by decide)) (own_in_no (own_below l0 (by decide)) (own_in_no (own_below l0 (by decide)) (own_in_no (own_below l0 (by decide)) (own_in_no (own_below l0 (by decide)) (own_in_no (own_below l0 (by decide)) (own_in_no (own_below l0 (by decide)) (own_in_no (own_below l0 (by decide)) (own_in_no (own_below l0 (by decide)) (own_in_no (own_below l0 (by decide)) (own_in_no (own_below l0 (by decide)) (own_in_no (own_below l0 (by decide)) rfl)))))))))))))))
  have g0 := l0
  by_cases l1 : c < (91 : Int32)
  · have hc : own_cnt c = 1 := by
      unfold own_cnt
      rw [own_ge1 (b' := 65) g0 (by decide), own_ge0 (b' := 91) l1 (by decide), own_ge0 (b' := 95) l1 (by decide), own_ge0 (b' := 96) l1 (by decide), own_ge0 (b' := 97) l1 (by decide), own_ge0 (b' := 123) l1 (by decide), own_ge0 (b' := 192) l1 (by decide), own_ge0 (b' := 215) l1 (by decide), own_ge0 (b' := 216) l1 (by decide), own_ge0 (b' := 247) l1 (by decide), own_ge0 (b' := 248) l1 (by decide), own_ge0 (b' := 768) l1 (by decide), own_ge0 (b' := 880) l1 (by decide), own_ge0 (b' := 894) l1 (by decide), own_ge0 (b' := 895) l1 (by decide), own_ge0 (b' := 8192) l1 (by decide), own_ge0 (b' := 8204) l1 (by decide), own_ge0 (b' := 8206) l1 (by decide), own_ge0 (b' := 8304) l1 (by decide), own_ge0 (b' := 8592) l1 (by decide), own_ge0 (b' := 11264) l1 (by decide), own_ge0 (b' := 12272) l1 (by decide), own_ge0 (b' := 12289) l1 (by decide), own_ge0 (b' := 55296) l1 (by decide), own_ge0 (b' := 63744) l1 (by decide), own_ge0 (b' := 64976) l1 (by decide), own_ge0 (b' := 65008) l1 (by decide), own_ge0 (b' := 65534) l1 (by decide), own_ge0 (b' := 65536) l1 (by decide), own_ge0 (b' := 983040) l1 (by decide)]
      rfl
    have hr : own_ref c = 1 := by unfold own_ref; rw [hc]; rfl
    rw [hr]
    exact (own_in_no (own_below l1 (by decide)) (own_in_yes (own_within g0 (by decide) l1 (own_pred (by decide)))))
  have g1 := l1
  by_cases l2 : c < (95 : Int32)
  · have hc : own_cnt c = 2 := by
      unfold own_cnt
      rw [own_ge1 (b' := 65) g1 (by decide), own_ge1 (b' := 91) g1 (by decide), own_ge0 (b' := 95) l2 (by decide), own_ge0 (b' := 96) l2 (by decide), own_ge0 (b' := 97) l2 (by decide), own_ge0 (b' := 123) l2 (by decide), own_ge0 (b' := 192) l2 (by decide), own_ge0 (b' := 215) l2 (by decide), own_ge0 (b' := 216) l2 (by decide), own_ge0 (b' := 247) l2 (by decide), own_ge0 (b' := 248) l2 (by decide), own_ge0 (b' := 768) l2 (by decide), own_ge0 (b' := 880) l2 (by decide), own_ge0 (b' := 894) l2 (by decide), own_ge0 (b' := 895) l2 (by decide), own_ge0 (b' := 8192) l2 (by decide), own_ge0 (b' := 8204) l2 (by decide), own_ge0 (b' := 8206) l2 (by decide), own_ge0 (b' := 8304) l2 (by decide), own_ge0 (b' := 8592) l2 (by decide), own_ge0 (b' := 11264) l2 (by decide), own_ge0 (b' := 12272) l2 (by decide), own_ge0 (b' := 12289) l2 (by decide), own_ge0 (b' := 55296) l2 (by decide), own_ge0 (b' := 63744) l2 (by decide), own_ge0 (b' := 64976) l2 (by decide), own_ge0 (b' := 65008) l2 (by decide), own_ge0 (b' := 65534) l2 (by decide), own_ge0 (b' := 65536) l2 (by decide), own_ge0 (b' := 983040) l2 (by decide)]
      rfl
    have hr : own_ref c = 0 := by unfold own_ref; rw [hc]; rfl
    rw [hr]
    exact (own_in_no (own_below l2 (by decide)) (own_in_no (own_above g1 (by decide)) (own_in_no (own_below l2 (by decide)) (own_in_no (own_below l2 (by decide)) (own_in_no (own_below l2 (by decide)) (own_in_no (own_below l2 (by decide)) (own_in_no (own_below l2 (by decide)) (own_in_no (own_below l2 (by decide)) (own_in_no (own_below l2 (by decide)) (own_in_no (own_below l2 (by decide)) (own_in_no (own_below l2 (by decide)) (own_in_no (own_below l2 (by decide)) (own_in_no (own_below l2 (by decide)) (own_in_no (own_below l2 (by decide)) (own_in_no (own_below l2 (by decide)) rfl)))))))))))))))
  have g2 := l2
  by_cases l3 : c < (96 : Int32)
  · have hc : own_cnt c = 3 := by
      unfold own_cnt
      rw [own_ge1 (b' := 65) g2 (by decide), own_ge1 (b' := 91) g2 (by decide), own_ge1 (b' := 95) g2 (by decide), own_ge0 (b' := 96) l3 (by decide), own_ge0 (b' := 97) l3 (by decide), own_ge0 (b' := 123) l3 (by decide), own_ge0 (b' := 192) l3 (by decide), own_ge0 (b' := 215) l3 (by decide), own_ge0 (b' := 216) l3 (by decide), own_ge0 (b' := 247) l3 (by decide), own_ge0 (b' := 248) l3 (by decide), own_ge0 (b' := 768) l3 (by decide), own_ge0 (b' := 880) l3 (by decide), own_ge0 (b' := 894) l3 (by decide), own_ge0 (b' := 895) l3 (by decide), own_ge0 (b' := 8192) l3 (by decide), own_ge0 (b' := 8204) l3 (by decide), own_ge0 (b' := 8206) l3 (by decide), own_ge0 (b' := 8304) l3 (by decide), own_ge0 (b' := 8592) l3 (by decide), own_ge0 (b' := 11264) l3 (by decide), own_ge0 (b' := 12272) l3 (by decide), own_ge0 (b' := 12289) l3 (by decide), own_ge0 (b' := 55296) l3 (by decide), own_ge0 (b' := 63744) l3 (by decide), own_ge0 (b' := 64976) l3 (by decide), own_ge0 (b' := 65008) l3 (by decide), own_ge0 (b' := 65534) l3 (by decide), own_ge0 (b' := 65536) l3 (by decide), own_ge0 (b' := 983040) l3 (by decide)]
      rfl
    have hr : own_ref c = 1 := by unfold own_ref; rw [hc]; rfl
    rw [hr]
    exact (own_in_no (own_below l3 (by decide)) (own_in_no (own_above g2 (by decide)) (own_in_yes (own_within g2 (by decide) l3 (own_pred (by decide))))))
  have g3 := l3
  by_cases l4 : c < (97 : Int32)
  · have hc : own_cnt c = 4 := by
      unfold own_cnt
      rw [own_ge1 (b' := 65) g3 (by decide), own_ge1 (b' := 91) g3 (by decide), own_ge1 (b' := 95) g3 (by decide), own_ge1 (b' := 96) g3 (by decide), own_ge0 (b' := 97) l4 (by decide), own_ge0 (b' := 123) l4 (by decide), own_ge0 (b' := 192) l4 (by decide), own_ge0 (b' := 215) l4 (by decide), own_ge0 (b' := 216) l4 (by decide), own_ge0 (b' := 247) l4 (by decide), own_ge0 (b' := 248) l4 (by decide), own_ge0 (b' := 768) l4 (by decide), own_ge0 (b' := 880) l4 (by decide), own_ge0 (b' := 894) l4 (by decide), own_ge0 (b' := 895) l4 (by decide), own_ge0 (b' := 8192) l4 (by decide), own_ge0 (b' := 8204) l4 (by decide), own_ge0 (b' := 8206) l4 (by decide), own_ge0 (b' := 8304) l4 (by decide), own_ge0 (b' := 8592) l4 (by decide), own_ge0 (b' := 11264) l4 (by decide), own_ge0 (b' := 12272) l4 (by decide), own_ge0 (b' := 12289) l4 (by decide), own_ge0 (b' := 55296) l4 (by decide), own_ge0 (b' := 63744) l4 (by decide), own_ge0 (b' := 64976) l4 (by decide), own_ge0 (b' := 65008) l4 (by decide), own_ge0 (b' := 65534) l4 (by decide), own_ge0 (b' := 65536) l4 (by decide), own_ge0 (b' := 983040) l4 (by decide)]
      rfl
    have hr : own_ref c = 0 := by unfold own_ref; rw [hc]; rfl
    rw [hr]
    exact (own_in_no (own_below l4 (by decide)) (own_in_no (own_above g3 (by decide)) (own_in_no (own_above g3 (by decide)) (own_in_no (own_below l4 (by decide)) (own_in_no (own_below l4 (by decide)) (own_in_no (own_below l4 (by decide)) (own_in_no (own_below l4 (by decide)) (own_in_no (own_below l4 (by decide)) (own_in_no (own_below l4 (by decide)) (own_in_no (own_below l4 (by decide)) (own_in_no (own_below l4 (by decide)) (own_in_no (own_below l4 (by decide)) (own_in_no (own_below l4 (by decide)) (own_in_no (own_below l4 (by decide)) (own_in_no (own_below l4 (by decide)) rfl)))))))))))))))
  have g4 := l4
  by_cases l5 : c < (123 : Int32)
  · have hc : own_cnt c = 5 := by
      unfold own_cnt
      rw [own_ge1 (b' := 65) g4 (by decide), own_ge1 (b' := 91) g4 (by decide), own_ge1 (b' := 95) g4 (by decide), own_ge1 (b' := 96) g4 (by decide), own_ge1 (b' := 97) g4 (by decide), own_ge0 (b' := 123) l5 (by decide), own_ge0 (b' := 192) l5 (by decide), own_ge0 (b' := 215) l5 (by decide), own_ge0 (b' := 216) l5 (by decide), own_ge0 (b' := 247) l5 (by decide), own_ge0 (b' := 248) l5 (by decide), own_ge0 (b' := 768) l5 (by decide), own_ge0 (b' := 880) l5 (by decide), own_ge0 (b' := 894) l5 (by decide), own_ge0 (b' := 895) l5 (by decide), own_ge0 (b' := 8192) l5 (by decide), own_ge0 (b' := 8204) l5 (by decide), own_ge0 (b' := 8206) l5 (by decide), own_ge0 (b' := 8304) l5 (by decide), own_ge0 (b' := 8592) l5 (by decide), own_ge0 (b' := 11264) l5 (by decide), own_ge0 (b' := 12272) l5 (by decide), own_ge0 (b' := 12289) l5 (by decide), own_ge0 (b' := 55296) l5 (by decide), own_ge0 (b' := 63744) l5 (by decide), own_ge0 (b' := 64976) l5 (by decide), own_ge0 (b' := 65008) l5 (by decide), own_ge0 (b' := 65534) l5 (by decide), own_ge0 (b' := 65536) l5 (by decide), own_ge0 (b' := 983040) l5 (by decide)]
      rfl
    have hr : own_ref c = 1 := by unfold own_ref; rw [hc]; rfl
    rw [hr]
    exact (own_in_yes (own_within g4 (by decide) l5 (own_pred (by decide))))
  have g5 := l5
  by_cases l6 : c < (192 : Int32)
  · have hc : own_cnt c = 6 := by
      unfold own_cnt
      rw [own_ge1 (b' := 65) g5 (by decide), own_ge1 (b' := 91) g5 (by decide), own_ge1 (b' := 95) g5 (by decide), own_ge1 (b' := 96) g5 (by decide), own_ge1 (b' := 97) g5 (by decide), own_ge1 (b' := 123) g5 (by decide), own_ge0 (b' := 192) l6 (by decide), own_ge0 (b' := 215) l6 (by decide), own_ge0 (b' := 216) l6 (by decide), own_ge0 (b' := 247) l6 (by decide), own_ge0 (b' := 248) l6 (by decide), own_ge0 (b' := 768) l6 (by decide), own_ge0 (b' := 880) l6 (by decide), own_ge0 (b' := 894) l6 (by decide), own_ge0 (b' := 895) l6 (by decide), own_ge0 (b' := 8192) l6 (by decide), own_ge0 (b' := 8204) l6 (by decide), own_ge0 (b' := 8206) l6 (by decide), own_ge0 (b' := 8304) l6 (by decide), own_ge0 (b' := 8592) l6 (by decide), own_ge0 (b' := 11264) l6 (by decide), own_ge0 (b' := 12272) l6 (by decide), own_ge0 (b' := 12289) l6 (by decide), own_ge0 (b' := 55296) l6 (by decide), own_ge0 (b' := 63744) l6 (by decide), own_ge0 (b' := 64976) l6 (by decide), own_ge0 (b' := 65008) l6 (by decide), own_ge0 (b' := 65534) l6 (by decide), own_ge0 (b' := 65536) l6 (by decide), own_ge0 (b' := 983040) l6 (by decide)]
      rfl
    have hr : own_ref c = 0 := by unfold own_ref; rw [hc]; rfl
    rw [hr]
    exact (own_in_no (own_above g5 (by decide)) (own_in_no (own_above g5 (by decide)) (own_in_no (own_above g5 (by decide)) (own_in_no (own_below l6 (by decide)) (own_in_no (own_below l6 (by decide)) (own_in_no (own_below l6 (by decide)) (own_in_no (own_below l6 (by decide)) (own_in_no (own_below l6 (by decide)) (own_in_no (own_below l6 (by decide)) (own_in_no (own_below l6 (by decide)) (own_in_no (own_below l6 (by decide)) (own_in_no (own_below l6 (by decide)) (own_in_no (own_below l6 (by decide)) (own_in_no (own_below l6 (by decide)) (own_in_no (own_below l6 (by decide)) rfl)))))))))))))))
  have g6 := l6
  by_cases l7 : c < (215 : Int32)
  · have hc : own_cnt c = 7 := by
      unfold own_cnt
      rw [own_ge1 (b' := 65) g6 (by decide), own_ge1 (b' := 91) g6 (by decide), own_ge1 (b' := 95) g6 (by decide), own_ge1 (b' := 96) g6 (by decide), own_ge1 (b' := 97) g6 (by decide), own_ge1 (b' := 123) g6 (by decide), own_ge1 (b' := 192) g6 (by decide), own_ge0 (b' := 215) l7 (by decide), own_ge0 (b' := 216) l7 (by decide), own_ge0 (b' := 247) l7 (by decide), own_ge0 (b' := 248) l7 (by decide), own_ge0 (b' := 768) l7 (by decide), own_ge0 (b' := 880) l7 (by decide), own_ge0 (b' := 894) l7 (by decide), own_ge0 (b' := 895) l7 (by decide), own_ge0 (b' := 8192) l7 (by decide), own_ge0 (b' := 8204) l7 (by decide), own_ge0 (b' := 8206) l7 (by decide), own_ge0 (b' := 8304) l7 (by decide), own_ge0 (b' := 8592) l7 (by decide), own_ge0 (b' := 11264) l7 (by decide), own_ge0 (b' := 12272) l7 (by decide), own_ge0 (b' := 12289) l7 (by decide), own_ge0 (b' := 55296) l7 (by decide), own_ge0 (b' := 63744) l7 (by decide), own_ge0 (b' := 64976) l7 (by decide), own_ge0 (b' := 65008) l7 (by decide), own_ge0 (b' := 65534) l7 (by decide), own_ge0 (b' := 65536) l7 (by decide), own_ge0 (b' := 983040) l7 (by decide)]
      rfl
    have hr : own_ref c = 1 := by unfold own_ref; rw [hc]; rfl
    rw [hr]
    exact (own_in_no (own_above g6 (by decide)) (own_in_no (own_above g6 (by decide)) (own_in_no (own_above g6 (by decide)) (own_in_yes (own_within g6 (by decide) l7 (own_pred (by decide)))))))
  have g7 := l7
  by_cases l8 : c < (216 : Int32)
  · have hc : own_cnt c = 8 := by
      unfold own_cnt
      rw [own_ge1 (b' := 65) g7 (by decide), own_ge1 (b' := 91) g7 (by decide), own_ge1 (b' := 95) g7 (by decide), own_ge1 (b' := 96) g7 (by decide), own_ge1 (b' := 97) g7 (by decide), own_ge1 (b' := 123) g7 (by decide), own_ge1 (b' := 192) g7 (by decide), own_ge1 (b' := 215) g7 (by decide), own_ge0 (b' := 216) l8 (by decide), own_ge0 (b' := 247) l8 (by decide), own_ge0 (b' := 248) l8 (by decide), own_ge0 (b' := 768) l8 (by decide), own_ge0 (b' := 880) l8 (by decide), own_ge0 (b' := 894) l8 (by decide), own_ge0 (b' := 895) l8 (by decide), own_ge0 (b' := 8192) l8 (by decide), own_ge0 (b' := 8204) l8 (by decide), own_ge0 (b' := 8206) l8 (by decide), own_ge0 (b' := 8304) l8 (by decide), own_ge0 (b' := 8592) l8 (by decide), own_ge0 (b' := 11264) l8 (by decide), own_ge0 (b' := 12272) l8 (by decide), own_ge0 (b' := 12289) l8 (by decide), own_ge0 (b' := 55296) l8 (by decide), own_ge0 (b' := 63744) l8 (by decide), own_ge0 (b' := 64976) l8 (by decide), own_ge0 (b' := 65008) l8 (by decide), own_ge0 (b' := 65534) l8 (by decide), own_ge0 (b' := 65536) l8 (by decide), own_ge0 (b' := 983040) l8 (by decide)]
      rfl
    have hr : own_ref c = 0 := by unfold own_ref; rw [hc]; rfl
    rw [hr]
    exact (own_in_no (own_above g7 (by decide)) (own_in_no (own_above g7 (by decide)) (own_in_no (own_above g7 (by decide)) (own_in_no (own_above g7 (by decide)) (own_in_no (own_below l8 (by decide)) (own_in_no (own_below l8 (by decide)) (own_in_no (own_below l8 (by decide)) (own_in_no (own_below l8 (by decide)) (own_in_no (own_below l8 (by decide)) (own_in_no (own_below l8 (by decide)) (own_in_no (own_below l8 (by decide)) (own_in_no (own_below l8 (by decide)) (own_in_no (own_below l8 (by decide)) (own_in_no (own_below l8 (by decide)) (own_in_no (own_below l8 (by decide)) rfl)))))))))))))))
  have g8 := l8
  by_cases l9 : c < (247 : Int32)
  · have hc : own_cnt c = 9 := by
      unfold own_cnt
      rw [own_ge1 (b' := 65) g8 (by decide), own_ge1 (b' := 91) g8 (by decide), own_ge1 (b' := 95) g8 (by decide), own_ge1 (b' := 96) g8 (by decide), own_ge1 (b' := 97) g8 (by decide), own_ge1 (b' := 123) g8 (by decide), own_ge1 (b' := 192) g8 (by decide), own_ge1 (b' := 215) g8 (by decide), own_ge1 (b' := 216) g8 (by decide), own_ge0 (b' := 247) l9 (by decide), own_ge0 (b' := 248) l9 (by decide), own_ge0 (b' := 768) l9 (by decide), own_ge0 (b' := 880) l9 (by decide), own_ge0 (b' := 894) l9 (by decide), own_ge0 (b' := 895) l9 (by decide), own_ge0 (b' := 8192) l9 (by decide), own_ge0 (b' := 8204) l9 (by decide), own_ge0 (b' := 8206) l9 (by decide), own_ge0 (b' := 8304) l9 (by decide), own_ge0 (b' := 8592) l9 (by decide), own_ge0 (b' := 11264) l9 (by decide), own_ge0 (b' := 12272) l9 (by decide), own_ge0 (b' := 12289) l9 (by decide), own_ge0 (b' := 55296) l9 (by decide), own_ge0 (b' := 63744) l9 (by decide), own_ge0 (b' := 64976) l9 (by decide), own_ge0 (b' := 65008) l9 (by decide), own_ge0 (b' := 65534) l9 (by decide), own_ge0 (b' := 65536) l9 (by decide), own_ge0 (b' := 983040) l9 (by decide)]
      rfl
    have hr : own_ref c = 1 := by unfold own_ref; rw [hc]; rfl
    rw [hr]
    exact (own_in_no (own_above g8 (by decide)) (own_in_no (own_above g8 (by decide)) (own_in_no (own_above g8 (by decide)) (own_in_no (own_above g8 (by decide)) (own_in_yes (own_within g8 (by decide) l9 (own_pred (by decide))))))))
  have g9 := l9
  by_cases l10 : c < (248 : Int32)
  · have hc : own_cnt c = 10 := by
      unfold own_cnt
      rw [own_ge1 (b' := 65) g9 (by decide), own_ge1 (b' := 91) g9 (by decide), own_ge1 (b' := 95) g9 (by decide), own_ge1 (b' := 96) g9 (by decide), own_ge1 (b' := 97) g9 (by decide), own_ge1 (b' := 123) g9 (by decide), own_ge1 (b' := 192) g9 (by decide), own_ge1 (b' := 215) g9 (by decide), own_ge1 (b' := 216) g9 (by decide), own_ge1 (b' := 247) g9 (by decide), own_ge0 (b' := 248) l10 (by decide), own_ge0 (b' := 768) l10 (by decide), own_ge0 (b' := 880) l10 (by decide), own_ge0 (b' := 894) l10 (by decide), own_ge0 (b' := 895) l10 (by decide), own_ge0 (b' := 8192) l10 (by decide), own_ge0 (b' := 8204) l10 (by decide), own_ge0 (b' := 8206) l10 (by decide), own_ge0 (b' := 8304) l10 (by decide), own_ge0 (b' := 8592) l10 (by decide), own_ge0 (b' := 11264) l10 (by decide), own_ge0 (b' := 12272) l10 (by decide), own_ge0 (b' := 12289) l10 (by decide), own_ge0 (b' := 55296) l10 (by decide), own_ge0 (b' := 63744) l10 (by decide), own_ge0 (b' := 64976) l10 (by decide), own_ge0 (b' := 65008) l10 (by decide), own_ge0 (b' := 65534) l10 (by decide), own_ge0 (b' := 65536) l10 (by decide), own_ge0 (b' := 983040) l10 (by decide)]
      rfl
    have hr : own_ref c = 0 := by unfold own_ref; rw [hc]; rfl
    rw [hr]
    exact (own_in_no (own_above g9 (by decide)) (own_in_no (own_above g9 (by decide)) (own_in_no (own_above g9 (by decide)) (own_in_no (own_above g9 (by decide)) (own_in_no (own_above g9 (by decide)) (own_in_no (own_below l10 (by decide)) (own_in_no (own_below l10 (by decide)) (own_in_no (own_below l10 (by decide)) (own_in_no (own_below l10 (by decide)) (own_in_no (own_below l10 (by decide)) (own_in_no (own_below l10 (by decide)) (own_in_no (own_below l10 (by decide)) (own_in_no (own_below l10 (by decide)) (own_in_no (own_below l10 (by decide)) (own_in_no (own_below l10 (by decide)) rfl)))))))))))))))
  have g10 := l10
  by_cases l11 : c < (768 : Int32)
  · have hc : own_cnt c = 11 := by
      unfold own_cnt
      rw [own_ge1 (b' := 65) g10 (by decide), own_ge1 (b' := 91) g10 (by decide), own_ge1 (b' := 95) g10 (by decide), own_ge1 (b' := 96) g10 (by decide), own_ge1 (b' := 97) g10 (by decide), own_ge1 (b' := 123) g10 (by decide), own_ge1 (b' := 192) g10 (by decide), own_ge1 (b' := 215) g10 (by decide), own_ge1 (b' := 216) g10 (by decide), own_ge1 (b' := 247) g10 (by decide), own_ge1 (b' := 248) g10 (by decide), own_ge0 (b' := 768) l11 (by decide), own_ge0 (b' := 880) l11 (by decide), own_ge0 (b' := 894) l11 (by decide), own_ge0 (b' := 895) l11 (by decide), own_ge0 (b' := 8192) l11 (by decide), own_ge0 (b' := 8204) l11 (by decide), own_ge0 (b' := 8206) l11 (by decide), own_ge0 (b' := 8304) l11 (by decide), own_ge0 (b' := 8592) l11 (by decide), own_ge0 (b' := 11264) l11 (by decide), own_ge0 (b' := 12272) l11 (by decide), own_ge0 (b' := 12289) l11 (by decide), own_ge0 (b' := 55296) l11 (by decide), own_ge0 (b' := 63744) l11 (by decide), own_ge0 (b' := 64976) l11 (by decide), own_ge0 (b' := 65008) l11 (by decide), own_ge0 (b' := 65534) l11 (by decide), own_ge0 (b' := 65536) l11 (by decide), own_ge0 (b' := 983040) l11 (by decide)]
      rfl
    have hr : own_ref c = 1 := by unfold own_ref; rw [hc]; rfl
    rw [hr]
    exact (own_in_no (own_above g10 (by decide)) (own_in_no (own_above g10 (by decide)) (own_in_no (own_above g10 (by decide)) (own_in_no (own_above g10 (by decide)) (own_in_no (own_above g10 (by decide)) (own_in_yes (own_within g10 (by decide) l11 (own_pred (by decide)))))))))
  have g11 := l11
  by_cases l12 : c < (880 : Int32)
  · have hc : own_cnt c = 12 := by
      unfold own_cnt
      rw [own_ge1 (b' := 65) g11 (by decide), own_ge1 (b' := 91) g11 (by decide), own_ge1 (b' := 95) g11 (by decide), own_ge1 (b' := 96) g11 (by decide), own_ge1 (b' := 97) g11 (by decide), own_ge1 (b' := 123) g11 (by decide), own_ge1 (b' := 192) g11 (by decide), own_ge1 (b' := 215) g11 (by decide), own_ge1 (b' := 216) g11 (by decide), own_ge1 (b' := 247) g11 (by decide), own_ge1 (b' := 248) g11 (by decide), own_ge1 (b' := 768) g11 (by decide), own_ge0 (b' := 880) l12 (by decide), own_ge0 (b' := 894) l12 (by decide), own_ge0 (b' := 895) l12 (by decide), own_ge0 (b' := 8192) l12 (by decide), own_ge0 (b' := 8204) l12 (by decide), own_ge0 (b' := 8206) l12 (by decide), own_ge0 (b' := 8304) l12 (by decide), own_ge0 (b' := 8592) l12 (by decide), own_ge0 (b' := 11264) l12 (by decide), own_ge0 (b' := 12272) l12 (by decide), own_ge0 (b' := 12289) l12 (by decide), own_ge0 (b' := 55296) l12 (by decide), own_ge0 (b' := 63744) l12 (by decide), own_ge0 (b' := 64976) l12 (by decide), own_ge0 (b' := 65008) l12 (by decide), own_ge0 (b' := 65534) l12 (by decide), own_ge0 (b' := 65536) l12 (by decide), own_ge0 (b' := 983040) l12 (by decide)]
      rfl
    have hr : own_ref c = 0 := by unfold own_ref; rw [hc]; rfl
    rw [hr]
    exact (own_in_no (own_above g11 (by decide)) (own_in_no (own_above g11 (by decide)) (own_in_no (own_above g11 (by decide)) (own_in_no (own_above g11 (by decide)) (own_in_no (own_above g11 (by decide)) (own_in_no (own_above g11 (by decide)) (own_in_no (own_below l12 (by decide)) (own_in_no (own_below l12 (by decide)) (own_in_no (own_below l12 (by decide)) (own_in_no (own_below l12 (by decide)) (own_in_no (own_below l12 (by decide)) (own_in_no (own_below l12 (by decide)) (own_in_no (own_below l12 (by decide)) (own_in_no (own_below l12 (by decide)) (own_in_no (own_below l12 (by decide)) rfl)))))))))))))))
  have g12 := l12
  by_cases l13 : c < (894 : Int32)
  · have hc : own_cnt c = 13 := by
      unfold own_cnt
      rw [own_ge1 (b' := 65) g12 (by decide), own_ge1 (b' := 91) g12 (by decide), own_ge1 (b' := 95) g12 (by decide), own_ge1 (b' := 96) g12 (by decide), own_ge1 (b' := 97) g12 (by decide), own_ge1 (b' := 123) g12 (by decide), own_ge1 (b' := 192) g12 (by decide), own_ge1 (b' := 215) g12 (by decide), own_ge1 (b' := 216) g12 (by decide), own_ge1 (b' := 247) g12 (by decide), own_ge1 (b' := 248) g12 (by decide), own_ge1 (b' := 768) g12 (by decide), own_ge1 (b' := 880) g12 (by decide), own_ge0 (b' := 894) l13 (by decide), own_ge0 (b' := 895) l13 (by decide), own_ge0 (b' := 8192) l13 (by decide), own_ge0 (b' := 8204) l13 (by decide), own_ge0 (b' := 8206) l13 (by decide), own_ge0 (b' := 8304) l13 (by decide), own_ge0 (b' := 8592) l13 (by decide), own_ge0 (b' := 11264) l13 (by decide), own_ge0 (b' := 12272) l13 (by decide), own_ge0 (b' := 12289) l13 (by decide), own_ge0 (b' := 55296) l13 (by decide), own_ge0 (b' := 63744) l13 (by decide), own_ge0 (b' := 64976) l13 (by decide), own_ge0 (b' := 65008) l13 (by decide), own_ge0 (b' := 65534) l13 (by decide), own_ge0 (b' := 65536) l13 (by decide), own_ge0 (b' := 983040) l13 (by decide)]
      rfl
    have hr : own_ref c = 1 := by unfold own_ref; rw [hc]; rfl
    rw [hr]
    exact (own_in_no (own_above g12 (by decide)) (own_in_no (own_above g12 (by decide)) (own_in_no (own_above g12 (by decide)) (own_in_no (own_above g12 (by decide)) (own_in_no (own_above g12 (by decide)) (own_in_no (own_above g12 (by decide)) (own_in_yes (own_within g12 (by decide) l13 (own_pred (by decide))))))))))
  have g13 := l13
  by_cases l14 : c < (895 : Int32)
  · have hc : own_cnt c = 14 := by
      unfold own_cnt
      rw [own_ge1 (b' := 65) g13 (by decide), own_ge1 (b' := 91) g13 (by decide), own_ge1 (b' := 95) g13 (by decide), own_ge1 (b' := 96) g13 (by decide), own_ge1 (b' := 97) g13 (by decide), own_ge1 (b' := 123) g13 (by decide), own_ge1 (b' := 192) g13 (by decide), own_ge1 (b' := 215) g13 (by decide), own_ge1 (b' := 216) g13 (by decide), own_ge1 (b' := 247) g13 (by decide), own_ge1 (b' := 248) g13 (by decide), own_ge1 (b' := 768) g13 (by decide), own_ge1 (b' := 880) g13 (by decide), own_ge1 (b' := 894) g13 (by decide), own_ge0 (b' := 895) l14 (by decide), own_ge0 (b' := 8192) l14 (by decide), own_ge0 (b' := 8204) l14 (by decide), own_ge0 (b' := 8206) l14 (by decide), own_ge0 (b' := 8304) l14 (by decide), own_ge0 (b' := 8592) l14 (by decide), own_ge0 (b' := 11264) l14 (by decide), own_ge0 (b' := 12272) l14 (by decide), own_ge0 (b' := 12289) l14 (by decide), own_ge0 (b' := 55296) l14 (by decide), own_ge0 (b' := 63744) l14 (by decide), own_ge0 (b' := 64976) l14 (by decide), own_ge0 (b' := 65008) l14 (by decide), own_ge0 (b' := 65534) l14 (by decide), own_ge0 (b' := 65536) l14 (by decide), own_ge0 (b' := 983040) l14 (by decide)]
      rfl
    have hr : own_ref c = 0 := by unfold own_ref; rw [hc]; rfl
    rw [hr]
    exact (own_in_no (own_above g13 (by decide)) (own_in_no (own_above g13 (by decide)) (own_in_no (own_above g13 (by decide)) (own_in_no (own_above g13 (by decide)) (own_in_no (own_above g13 (by decide)) (own_in_no (own_above g13 (by decide)) (own_in_no (own_above g13 (by decide)) (own_in_no (own_below l14 (by decide)) (own_in_no (own_below l14 (by decide)) (own_in_no (own_below l14 (by decide)) (own_in_no (own_below l14 (by decide)) (own_in_no (own_below l14 (by decide)) (own_in_no (own_below l14 (by decide)) (own_in_no (own_below l14 (by decide)) (own_in_no (own_below l14 (by decide)) rfl)))))))))))))))
  have g14 := l14
  by_cases l15 : c < (8192 : Int32)
  · have hc : own_cnt c = 15 := by
      unfold own_cnt
      rw [own_ge1 (b' := 65) g14 (by decide), own_ge1 (b' := 91) g14 (by decide), own_ge1 (b' := 95) g14 (by decide), own_ge1 (b' := 96) g14 (by decide), own_ge1 (b' := 97) g14 (by decide), own_ge1 (b' := 123) g14 (by decide), own_ge1 (b' := 192) g14 (by decide), own_ge1 (b' := 215) g14 (by decide), own_ge1 (b' := 216) g14 (by decide), own_ge1 (b' := 247) g14 (by decide), own_ge1 (b' := 248) g14 (by decide), own_ge1 (b' := 768) g14 (by decide), own_ge1 (b' := 880) g14 (by decide), own_ge1 (b' := 894) g14 (by decide), own_ge1 (b' := 895) g14 (by decide), own_ge0 (b' := 8192) l15 (by decide), own_ge0 (b' := 8204) l15 (by decide), own_ge0 (b' := 8206) l15 (by decide), own_ge0 (b' := 8304) l15 (by decide), own_ge0 (b' := 8592) l15 (by decide), own_ge0 (b' := 11264) l15 (by decide), own_ge0 (b' := 12272) l15 (by decide), own_ge0 (b' := 12289) l15 (by decide), own_ge0 (b' := 55296) l15 (by decide), own_ge0 (b' := 63744) l15 (by decide), own_ge0 (b' := 64976) l15 (by decide), own_ge0 (b' := 65008) l15 (by decide), own_ge0 (b' := 65534) l15 (by decide), own_ge0 (b' := 65536) l15 (by decide), own_ge0 (b' := 983040) l15 (by decide)]
      rfl
    have hr : own_ref c = 1 := by unfold own_ref; rw [hc]; rfl
    rw [hr]
    exact (own_in_no (own_above g14 (by decide)) (own_in_no (own_above g14 (by decide)) (own_in_no (own_above g14 (by decide)) (own_in_no (own_above g14 (by decide)) (own_in_no (own_above g14 (by decide)) (own_in_no (own_above g14 (by decide)) (own_in_no (own_above g14 (by decide)) (own_in_yes (own_within g14 (by decide) l15 (own_pred (by decide)))))))))))
  have g15 := l15
  by_cases l16 : c < (8204 : Int32)
  · have hc : own_cnt c = 16 := by
      unfold own_cnt
      rw [own_ge1 (b' := 65) g15 (by decide), own_ge1 (b' := 91) g15 (by decide), own_ge1 (b' := 95) g15 (by decide), own_ge1 (b' := 96) g15 (by decide), own_ge1 (b' := 97) g15 (by decide), own_ge1 (b' := 123) g15 (by decide), own_ge1 (b' := 192) g15 (by decide), own_ge1 (b' := 215) g15 (by decide), own_ge1 (b' := 216) g15 (by decide), own_ge1 (b' := 247) g15 (by decide), own_ge1 (b' := 248) g15 (by decide), own_ge1 (b' := 768) g15 (by decide), own_ge1 (b' := 880) g15 (by decide), own_ge1 (b' := 894) g15 (by decide), own_ge1 (b' := 895) g15 (by decide), own_ge1 (b' := 8192) g15 (by decide), own_ge0 (b' := 8204) l16 (by decide), own_ge0 (b' := 8206) l16 (by decide), own_ge0 (b' := 8304) l16 (by decide), own_ge0 (b' := 8592) l16 (by decide), own_ge0 (b' := 11264) l16 (by decide), own_ge0 (b' := 12272) l16 (by decide), own_ge0 (b' := 12289) l16 (by decide), own_ge0 (b' := 55296) l16 (by decide), own_ge0 (b' := 63744) l16 (by decide), own_ge0 (b' := 64976) l16 (by decide), own_ge0 (b' := 65008) l16 (by decide), own_ge0 (b' := 65534) l16 (by decide), own_ge0 (b' := 65536) l16 (by decide), own_ge0 (b' := 983040) l16 (by decide)]
      rfl
    have hr : own_ref c = 0 := by unfold own_ref; rw [hc]; rfl
    rw [hr]
    exact (own_in_no (own_above g15 (by decide)) (own_in_no (own_above g15 (by decide)) (own_in_no (own_above g15 (by decide)) (own_in_no (own_above g15 (by decide)) (own_in_no (own_above g15 (by decide)) (own_in_no (own_above g15 (by decide)) (own_in_no (own_above g15 (by decide)) (own_in_no (own_above g15 (by decide)) (own_in_no (own_below l16 (by decide)) (own_in_no (own_below l16 (by decide)) (own_in_no (own_below l16 (by decide)) (own_in_no (own_below l16 (by decide)) (own_in_no (own_below l16 (by decide)) (own_in_no (own_below l16 (by decide)) (own_in_no (own_below l16 (by decide)) rfl)))))))))))))))
  have g16 := l16
  by_cases l17 : c < (8206 : Int32)
  · have hc : own_cnt c = 17 := by
      unfold own_cnt
      rw [own_ge1 (b' := 65) g16 (by decide), own_ge1 (b' := 91) g16 (by decide), own_ge1 (b' := 95) g16 (by decide), own_ge1 (b' := 96) g16 (by decide), own_ge1 (b' := 97) g16 (by decide), own_ge1 (b' := 123) g16 (by decide), own_ge1 (b' := 192) g16 (by decide), own_ge1 (b' := 215) g16 (by decide), own_ge1 (b' := 216) g16 (by decide), own_ge1 (b' := 247) g16 (by decide), own_ge1 (b' := 248) g16 (by decide), own_ge1 (b' := 768) g16 (by decide), own_ge1 (b' := 880) g16 (by decide), own_ge1 (b' := 894) g16 (by decide), own_ge1 (b' := 895) g16 (by decide), own_ge1 (b' := 8192) g16 (by decide), own_ge1 (b' := 8204) g16 (by decide), own_ge0 (b' := 8206) l17 (by decide), own_ge0 (b' := 8304) l17 (by decide), own_ge0 (b' := 8592) l17 (by decide), own_ge0 (b' := 11264) l17 (by decide), own_ge0 (b' := 12272) l17 (by decide), own_ge0 (b' := 12289) l17 (by decide), own_ge0 (b' := 55296) l17 (by decide), own_ge0 (b' := 63744) l17 (by decide), own_ge0 (b' := 64976) l17 (by decide), own_ge0 (b' := 65008) l17 (by decide), own_ge0 (b' := 65534) l17 (by decide), own_ge0 (b' := 65536) l17 (by decide), own_ge0 (b' := 983040) l17 (by decide)]
      rfl
    have hr : own_ref c = 1 := by unfold own_ref; rw [hc]; rfl
    rw [hr]
    exact (own_in_no (own_above g16 (by decide)) (own_in_no (own_above g16 (by decide)) (own_in_no (own_above g16 (by decide)) (own_in_no (own_above g16 (by decide)) (own_in_no (own_above g16 (by decide)) (own_in_no (own_above g16 (by decide)) (own_in_no (own_above g16 (by decide)) (own_in_no (own_above g16 (by decide)) (own_in_yes (own_within g16 (by decide) l17 (own_pred (by decide))))))))))))
  have g17 := l17
  by_cases l18 : c < (8304 : Int32)
  · have hc : own_cnt c = 18 := by
      unfold own_cnt
      rw [own_ge1 (b' := 65) g17 (by decide), own_ge1 (b' := 91) g17 (by decide), own_ge1 (b' := 95) g17 (by decide), own_ge1 (b' := 96) g17 (by decide), own_ge1 (b' := 97) g17 (by decide), own_ge1 (b' := 123) g17 (by decide), own_ge1 (b' := 192) g17 (by decide), own_ge1 (b' := 215) g17 (by decide), own_ge1 (b' := 216) g17 (by decide), own_ge1 (b' := 247) g17 (by decide), own_ge1 (b' := 248) g17 (by decide), own_ge1 (b' := 768) g17 (by decide), own_ge1 (b' := 880) g17 (by decide), own_ge1 (b' := 894) g17 (by decide), own_ge1 (b' := 895) g17 (by decide), own_ge1 (b' := 8192) g17 (by decide), own_ge1 (b' := 8204) g17 (by decide), own_ge1 (b' := 8206) g17 (by decide), own_ge0 (b' := 8304) l18 (by decide), own_ge0 (b' := 8592) l18 (by decide), own_ge0 (b' := 11264) l18 (by decide), own_ge0 (b' := 12272) l18 (by decide), own_ge0 (b' := 12289) l18 (by decide), own_ge0 (b' := 55296) l18 (by decide), own_ge0 (b' := 63744) l18 (by decide), own_ge0 (b' := 64976) l18 (by decide), own_ge0 (b' := 65008) l18 (by decide), own_ge0 (b' := 65534) l18 (by decide), own_ge0 (b' := 65536) l18 (by decide), own_ge0 (b' := 983040) l18 (by decide)]
      rfl
    have hr : own_ref c = 0 := by unfold own_ref; rw [hc]; rfl
    rw [hr]
    exact (own_in_no (own_above g17 (by decide)) (own_in_no (own_above g17 (by decide)) (own_in_no (own_above g17 (by decide)) (own_in_no (own_above g17 (by decide)) (own_in_no (own_above g17 (by decide)) (own_in_no (own_above g17 (by decide)) (own_in_no (own_above g17 (by decide)) (own_in_no (own_above g17 (by decide)) (own_in_no (own_above g17 (by decide)) (own_in_no (own_below l18 (by decide)) (own_in_no (own_below l18 (by decide)) (own_in_no (own_below l18 (by decide)) (own_in_no (own_below l18 (by decide)) (own_in_no (own_below l18 (by decide)) (own_in_no (own_below l18 (by decide)) rfl)))))))))))))))
  have g18 := l18
  by_cases l19 : c < (8592 : Int32)
  · have hc : own_cnt c = 19 := by
      unfold own_cnt
      rw [own_ge1 (b' := 65) g18 (by decide), own_ge1 (b' := 91) g18 (by decide), own_ge1 (b' := 95) g18 (by decide), own_ge1 (b' := 96) g18 (by decide), own_ge1 (b' := 97) g18 (by decide), own_ge1 (b' := 123) g18 (by decide), own_ge1 (b' := 192) g18 (by decide), own_ge1 (b' := 215) g18 (by decide), own_ge1 (b' := 216) g18 (by decide), own_ge1 (b' := 247) g18 (by decide), own_ge1 (b' := 248) g18 (by decide), own_ge1 (b' := 768) g18 (by decide), own_ge1 (b' := 880) g18 (by decide), own_ge1 (b' := 894) g18 (by decide), own_ge1 (b' := 895) g18 (by decide), own_ge1 (b' := 8192) g18 (by decide), own_ge1 (b' := 8204) g18 (by decide), own_ge1 (b' := 8206) g18 (by decide), own_ge1 (b' := 8304) g18 (by decide), own_ge0 (b' := 8592) l19 (by decide), own_ge0 (b' := 11264) l19 (by decide), own_ge0 (b' := 12272) l19 (by decide), own_ge0 (b' := 12289) l19 (by decide), own_ge0 (b' := 55296) l19 (by decide), own_ge0 (b' := 63744) l19 (by decide), own_ge0 (b' := 64976) l19 (by decide), own_ge0 (b' := 65008) l19 (by decide), own_ge0 (b' := 65534) l19 (by decide), own_ge0 (b' := 65536) l19 (by decide), own_ge0 (b' := 983040) l19 (by decide)]
      rfl
    have hr : own_ref c = 1 := by unfold own_ref; rw [hc]; rfl
    rw [hr]
    exact (own_in_no (own_above g18 (by decide)) (own_in_no (own_above g18 (by decide)) (own_in_no (own_above g18 (by decide)) (own_in_no (own_above g18 (by decide)) (own_in_no (own_above g18 (by decide)) (own_in_no (own_above g18 (by decide)) (own_in_no (own_above g18 (by decide)) (own_in_no (own_above g18 (by decide)) (own_in_no (own_above g18 (by decide)) (own_in_yes (own_within g18 (by decide) l19 (own_pred (by decide)))))))))))))
  have g19 := l19
  by_cases l20 : c < (11264 : Int32)
  · have hc : own_cnt c = 20 := by
      unfold own_cnt
      rw [own_ge1 (b' := 65) g19 (by decide), own_ge1 (b' := 91) g19 (by decide), own_ge1 (b' := 95) g19 (by decide), own_ge1 (b' := 96) g19 (by decide), own_ge1 (b' := 97) g19 (by decide), own_ge1 (b' := 123) g19 (by decide), own_ge1 (b' := 192) g19 (by decide), own_ge1 (b' := 215) g19 (by decide), own_ge1 (b' := 216) g19 (by decide), own_ge1 (b' := 247) g19 (by decide), own_ge1 (b' := 248) g19 (by decide), own_ge1 (b' := 768) g19 (by decide), own_ge1 (b' := 880) g19 (by decide), own_ge1 (b' := 894) g19 (by decide), own_ge1 (b' := 895) g19 (by decide), own_ge1 (b' := 8192) g19 (by decide), own_ge1 (b' := 8204) g19 (by decide), own_ge1 (b' := 8206) g19 (by decide), own_ge1 (b' := 8304) g19 (by decide), own_ge1 (b' := 8592) g19 (by decide), own_ge0 (b' := 11264) l20 (by decide), own_ge0 (b' := 12272) l20 (by decide), own_ge0 (b' := 12289) l20 (by decide), own_ge0 (b' := 55296) l20 (by decide), own_ge0 (b' := 63744) l20 (by decide), own_ge0 (b' := 64976) l20 (by decide), own_ge0 (b' := 65008) l20 (by decide), own_ge0 (b' := 65534) l20 (by decide), own_ge0 (b' := 65536) l20 (by decide), own_ge0 (b' := 983040) l20 (by decide)]
      rfl
    have hr : own_ref c = 0 := by unfold own_ref; rw [hc]; rfl
    rw [hr]
    exact (own_in_no (own_above g19 (by decide)) (own_in_no (own_above g19 (by decide)) (own_in_no (own_above g19 (by decide)) (own_in_no (own_above g19 (by decide)) (own_in_no (own_above g19 (by decide)) (own_in_no (own_above g19 (by decide)) (own_in_no (own_above g19 (by decide)) (own_in_no (own_above g19 (by decide)) (own_in_no (own_above g19 (by decide)) (own_in_no (own_above g19 (by decide)) (own_in_no (own_below l20 (by decide)) (own_in_no (own_below l20 (by decide)) (own_in_no (own_below l20 (by decide)) (own_in_no (own_below l20 (by decide)) (own_in_no (own_below l20 (by decide)) rfl)))))))))))))))
  have g20 := l20
  by_cases l21 : c < (12272 : Int32)
  · have hc : own_cnt c = 21 := by
      unfold own_cnt
      rw [own_ge1 (b' := 65) g20 (by decide), own_ge1 (b' := 91) g20 (by decide), own_ge1 (b' := 95) g20 (by decide), own_ge1 (b' := 96) g20 (by decide), own_ge1 (b' := 97) g20 (by decide), own_ge1 (b' := 123) g20 (by decide), own_ge1 (b' := 192) g20 (by decide), own_ge1 (b' := 215) g20 (by decide), own_ge1 (b' := 216) g20 (by decide), own_ge1 (b' := 247) g20 (by decide), own_ge1 (b' := 248) g20 (by decide), own_ge1 (b' := 768) g20 (by decide), own_ge1 (b' := 880) g20 (by decide), own_ge1 (b' := 894) g20 (by decide), own_ge1 (b' := 895) g20 (by decide), own_ge1 (b' := 8192) g20 (by decide), own_ge1 (b' := 8204) g20 (by decide), own_ge1 (b' := 8206) g20 (by decide), own_ge1 (b' := 8304) g20 (by decide), own_ge1 (b' := 8592) g20 (by decide), own_ge1 (b' := 11264) g20 (by decide), own_ge0 (b' := 12272) l21 (by decide), own_ge0 (b' := 12289) l21 (by decide), own_ge0 (b' := 55296) l21 (by decide), own_ge0 (b' := 63744) l21 (by decide), own_ge0 (b' := 64976) l21 (by decide), own_ge0 (b' := 65008) l21 (by decide), own_ge0 (b' := 65534) l21 (by decide), own_ge0 (b' := 65536) l21 (by decide), own_ge0 (b' := 983040) l21 (by decide)]
      rfl
    have hr : own_ref c = 1 := by unfold own_ref; rw [hc]; rfl
    rw [hr]
    exact (own_in_no (own_above g20 (by decide)) (own_in_no (own_above g20 (by decide)) (own_in_no (own_above g20 (by decide)) (own_in_no (own_above g20 (by decide)) (own_in_no (own_above g20 (by decide)) (own_in_no (own_above g20 (by decide)) (own_in_no (own_above g20 (by decide)) (own_in_no (own_above g20 (by decide)) (own_in_no (own_above g20 (by decide)) (own_in_no (own_above g20 (by decide)) (own_in_yes (own_within g20 (by decide) l21 (own_pred (by decide))))))))))))))
  have g21 := l21
  by_cases l22 : c < (12289 : Int32)
  · have hc : own_cnt c = 22 := by
      unfold own_cnt
      rw [own_ge1 (b' := 65) g21 (by decide), own_ge1 (b' := 91) g21 (by decide), own_ge1 (b' := 95) g21 (by decide), own_ge1 (b' := 96) g21 (by decide), own_ge1 (b' := 97) g21 (by decide), own_ge1 (b' := 123) g21 (by decide), own_ge1 (b' := 192) g21 (by decide), own_ge1 (b' := 215) g21 (by decide), own_ge1 (b' := 216) g21 (by decide), own_ge1 (b' := 247) g21 (by decide), own_ge1 (b' := 248) g21 (by decide), own_ge1 (b' := 768) g21 (by decide), own_ge1 (b' := 880) g21 (by decide), own_ge1 (b' := 894) g21 (by decide), own_ge1 (b' := 895) g21 (by decide), own_ge1 (b' := 8192) g21 (by decide), own_ge1 (b' := 8204) g21 (by decide), own_ge1 (b' := 8206) g21 (by decide), own_ge1 (b' := 8304) g21 (by decide), own_ge1 (b' := 8592) g21 (by decide), own_ge1 (b' := 11264) g21 (by decide), own_ge1 (b' := 12272) g21 (by decide), own_ge0 (b' := 12289) l22 (by decide), own_ge0 (b' := 55296) l22 (by decide), own_ge0 (b' := 63744) l22 (by decide), own_ge0 (b' := 64976) l22 (by decide), own_ge0 (b' := 65008) l22 (by decide), own_ge0 (b' := 65534) l22 (by decide), own_ge0 (b' := 65536) l22 (by decide), own_ge0 (b' := 983040) l22 (by decide)]
      rfl
    have hr : own_ref c = 0 := by unfold own_ref; rw [hc]; rfl
    rw [hr]
    exact (own_in_no (own_above g21 (by decide)) (own_in_no (own_above g21 (by decide)) (own_in_no (own_above g21 (by decide)) (own_in_no (own_above g21 (by decide)) (own_in_no (own_above g21 (by decide)) (own_in_no (own_above g21 (by decide)) (own_in_no (own_above g21 (by decide)) (own_in_no (own_above g21 (by decide)) (own_in_no (own_above g21 (by decide)) (own_in_no (own_above g21 (by decide)) (own_in_no (own_above g21 (by decide)) (own_in_no (own_below l22 (by decide)) (own_in_no (own_below l22 (by decide)) (own_in_no (own_below l22 (by decide)) (own_in_no (own_below l22 (by decide)) rfl)))))))))))))))
  have g22 := l22
  by_cases l23 : c < (55296 : Int32)
  · have hc : own_cnt c = 23 := by
      unfold own_cnt
      rw [own_ge1 (b' := 65) g22 (by decide), own_ge1 (b' := 91) g22 (by decide), own_ge1 (b' := 95) g22 (by decide), own_ge1 (b' := 96) g22 (by decide), own_ge1 (b' := 97) g22 (by decide), own_ge1 (b' := 123) g22 (by decide), own_ge1 (b' := 192) g22 (by decide), own_ge1 (b' := 215) g22 (by decide), own_ge1 (b' := 216) g22 (by decide), own_ge1 (b' := 247) g22 (by decide), own_ge1 (b' := 248) g22 (by decide), own_ge1 (b' := 768) g22 (by decide), own_ge1 (b' := 880) g22 (by decide), own_ge1 (b' := 894) g22 (by decide), own_ge1 (b' := 895) g22 (by decide), own_ge1 (b' := 8192) g22 (by decide), own_ge1 (b' := 8204) g22 (by decide), own_ge1 (b' := 8206) g22 (by decide), own_ge1 (b' := 8304) g22 (by decide), own_ge1 (b' := 8592) g22 (by decide), own_ge1 (b' := 11264) g22 (by decide), own_ge1 (b' := 12272) g22 (by decide), own_ge1 (b' := 12289) g22 (by decide), own_ge0 (b' := 55296) l23 (by decide), own_ge0 (b' := 63744) l23 (by decide), own_ge0 (b' := 64976) l23 (by decide), own_ge0 (b' := 65008) l23 (by decide), own_ge0 (b' := 65534) l23 (by decide), own_ge0 (b' := 65536) l23 (by decide), own_ge0 (b' := 983040) l23 (by decide)]
      rfl
    have hr : own_ref c = 1 := by unfold own_ref; rw [hc]; rfl
    rw [hr]
    exact (own_in_no (own_above g22 (by decide)) (own_in_no (own_above g22 (by decide)) (own_in_no (own_above g22 (by decide)) (own_in_no (own_above g22 (by decide)) (own_in_no (own_above g22 (by decide)) (own_in_no (own_above g22 (by decide)) (own_in_no (own_above g22 (by decide)) (own_in_no (own_above g22 (by decide)) (own_in_no (own_above g22 (by decide)) (own_in_no (own_above g22 (by decide)) (own_in_no (own_above g22 (by decide)) (own_in_yes (own_within g22 (by decide) l23 (own_pred (by decide)))))))))))))))
  have g23 := l23
  by_cases l24 : c < (63744 : Int32)
  · have hc : own_cnt c = 24 := by
      unfold own_cnt
      rw [own_ge1 (b' := 65) g23 (by decide), own_ge1 (b' := 91) g23 (by decide), own_ge1 (b' := 95) g23 (by decide), own_ge1 (b' := 96) g23 (by decide), own_ge1 (b' := 97) g23 (by decide), own_ge1 (b' := 123) g23 (by decide), own_ge1 (b' := 192) g23 (by decide), own_ge1 (b' := 215) g23 (by decide), own_ge1 (b' := 216) g23 (by decide), own_ge1 (b' := 247) g23 (by decide), own_ge1 (b' := 248) g23 (by decide), own_ge1 (b' := 768) g23 (by decide), own_ge1 (b' := 880) g23 (by decide), own_ge1 (b' := 894) g23 (by decide), own_ge1 (b' := 895) g23 (by decide), own_ge1 (b' := 8192) g23 (by decide), own_ge1 (b' := 8204) g23 (by decide), own_ge1 (b' := 8206) g23 (by decide), own_ge1 (b' := 8304) g23 (by decide), own_ge1 (b' := 8592) g23 (by decide), own_ge1 (b' := 11264) g23 (by decide), own_ge1 (b' := 12272) g23 (by decide), own_ge1 (b' := 12289) g23 (by decide), own_ge1 (b' := 55296) g23 (by decide), own_ge0 (b' := 63744) l24 (by decide), own_ge0 (b' := 64976) l24 (by decide), own_ge0 (b' := 65008) l24 (by decide), own_ge0 (b' := 65534) l24 (by decide), own_ge0 (b' := 65536) l24 (by decide), own_ge0 (b' := 983040) l24 (by decide)]
      rfl
    have hr : own_ref c = 0 := by unfold own_ref; rw [hc]; rfl
    rw [hr]
    exact (own_in_no (own_above g23 (by decide)) (own_in_no (own_above g23 (by decide)) (own_in_no (own_above g23 (by decide)) (own_in_no (own_above g23 (by decide)) (own_in_no (own_above g23 (by decide)) (own_in_no (own_above g23 (by decide)) (own_in_no (own_above g23 (by decide)) (own_in_no (own_above g23 (by decide)) (own_in_no (own_above g23 (by decide)) (own_in_no (own_above g23 (by decide)) (own_in_no (own_above g23 (by decide)) (own_in_no (own_above g23 (by decide)) (own_in_no (own_below l24 (by decide)) (own_in_no (own_below l24 (by decide)) (own_in_no (own_below l24 (by decide)) rfl)))))))))))))))
  have g24 := l24
  by_cases l25 : c < (64976 : Int32)
  · have hc : own_cnt c = 25 := by
      unfold own_cnt
      rw [own_ge1 (b' := 65) g24 (by decide), own_ge1 (b' := 91) g24 (by decide), own_ge1 (b' := 95) g24 (by decide), own_ge1 (b' := 96) g24 (by decide), own_ge1 (b' := 97) g24 (by decide), own_ge1 (b' := 123) g24 (by decide), own_ge1 (b' := 192) g24 (by decide), own_ge1 (b' := 215) g24 (by decide), own_ge1 (b' := 216) g24 (by decide), own_ge1 (b' := 247) g24 (by decide), own_ge1 (b' := 248) g24 (by decide), own_ge1 (b' := 768) g24 (by decide), own_ge1 (b' := 880) g24 (by decide), own_ge1 (b' := 894) g24 (by decide), own_ge1 (b' := 895) g24 (by decide), own_ge1 (b' := 8192) g24 (by decide), own_ge1 (b' := 8204) g24 (by decide), own_ge1 (b' := 8206) g24 (by decide), own_ge1 (b' := 8304) g24 (by decide), own_ge1 (b' := 8592) g24 (by decide), own_ge1 (b' := 11264) g24 (by decide), own_ge1 (b' := 12272) g24 (by decide), own_ge1 (b' := 12289) g24 (by decide), own_ge1 (b' := 55296) g24 (by decide), own_ge1 (b' := 63744) g24 (by decide), own_ge0 (b' := 64976) l25 (by decide), own_ge0 (b' := 65008) l25 (by decide), own_ge0 (b' := 65534) l25 (by decide), own_ge0 (b' := 65536) l25 (by decide), own_ge0 (b' := 983040) l25 (by decide)]
      rfl
    have hr : own_ref c = 1 := by unfold own_ref; rw [hc]; rfl
    rw [hr]
    exact (own_in_no (own_above g24 (by decide)) (own_in_no (own_above g24 (by decide)) (own_in_no (own_above g24 (by decide)) (own_in_no (own_above g24 (by decide)) (own_in_no (own_above g24 (by decide)) (own_in_no (own_above g24 (by decide)) (own_in_no (own_above g24 (by decide)) (own_in_no (own_above g24 (by decide)) (own_in_no (own_above g24 (by decide)) (own_in_no (own_above g24 (by decide)) (own_in_no (own_above g24 (by decide)) (own_in_no (own_above g24 (by decide)) (own_in_yes (own_within g24 (by decide) l25 (own_pred (by decide))))))))))))))))
  have g25 := l25
  by_cases l26 : c < (65008 : Int32)
  · have hc : own_cnt c = 26 := by
      unfold own_cnt
      rw [own_ge1 (b' := 65) g25 (by decide), own_ge1 (b' := 91) g25 (by decide), own_ge1 (b' := 95) g25 (by decide), own_ge1 (b' := 96) g25 (by decide), own_ge1 (b' := 97) g25 (by decide), own_ge1 (b' := 123) g25 (by decide), own_ge1 (b' := 192) g25 (by decide), own_ge1 (b' := 215) g25 (by decide), own_ge1 (b' := 216) g25 (by decide), own_ge1 (b' := 247) g25 (by decide), own_ge1 (b' := 248) g25 (by decide), own_ge1 (b' := 768) g25 (by decide), own_ge1 (b' := 880) g25 (by decide), own_ge1 (b' := 894) g25 (by decide), own_ge1 (b' := 895) g25 (by decide), own_ge1 (b' := 8192) g25 (by decide), own_ge1 (b' := 8204) g25 (by decide), own_ge1 (b' := 8206) g25 (by decide), own_ge1 (b' := 8304) g25 (by decide), own_ge1 (b' := 8592) g25 (by decide), own_ge1 (b' := 11264) g25 (by decide), own_ge1 (b' := 12272) g25 (by decide), own_ge1 (b' := 12289) g25 (by decide), own_ge1 (b' := 55296) g25 (by decide), own_ge1 (b' := 63744) g25 (by decide), own_ge1 (b' := 64976) g25 (by decide), own_ge0 (b' := 65008) l26 (by decide), own_ge0 (b' := 65534) l26 (by decide), own_ge0 (b' := 65536) l26 (by decide), own_ge0 (b' := 983040) l26 (by decide)]
      rfl
    have hr : own_ref c = 0 := by unfold own_ref; rw [hc]; rfl
    rw [hr]
    exact (own_in_no (own_above g25 (by decide)) (own_in_no (own_above g25 (by decide)) (own_in_no (own_above g25 (by decide)) (own_in_no (own_above g25 (by decide)) (own_in_no (own_above g25 (by decide)) (own_in_no (own_above g25 (by decide)) (own_in_no (own_above g25 (by decide)) (own_in_no (own_above g25 (by decide)) (own_in_no (own_above g25 (by decide)) (own_in_no (own_above g25 (by decide)) (own_in_no (own_above g25 (by decide)) (own_in_no (own_above g25 (by decide)) (own_in_no (own_above g25 (by decide)) (own_in_no (own_below l26 (by decide)) (own_in_no (own_below l26 (by decide)) rfl)))))))))))))))
  have g26 := l26
  by_cases l27 : c < (65534 : Int32)
  · have hc : own_cnt c = 27 := by
      unfold own_cnt
      rw [own_ge1 (b' := 65) g26 (by decide), own_ge1 (b' := 91) g26 (by decide), own_ge1 (b' := 95) g26 (by decide), own_ge1 (b' := 96) g26 (by decide), own_ge1 (b' := 97) g26 (by decide), own_ge1 (b' := 123) g26 (by decide), own_ge1 (b' := 192) g26 (by decide), own_ge1 (b' := 215) g26 (by decide), own_ge1 (b' := 216) g26 (by decide), own_ge1 (b' := 247) g26 (by decide), own_ge1 (b' := 248) g26 (by decide), own_ge1 (b' := 768) g26 (by decide), own_ge1 (b' := 880) g26 (by decide), own_ge1 (b' := 894) g26 (by decide), own_ge1 (b' := 895) g26 (by decide), own_ge1 (b' := 8192) g26 (by decide), own_ge1 (b' := 8204) g26 (by decide), own_ge1 (b' := 8206) g26 (by decide), own_ge1 (b' := 8304) g26 (by decide), own_ge1 (b' := 8592) g26 (by decide), own_ge1 (b' := 11264) g26 (by decide), own_ge1 (b' := 12272) g26 (by decide), own_ge1 (b' := 12289) g26 (by decide), own_ge1 (b' := 55296) g26 (by decide), own_ge1 (b' := 63744) g26 (by decide), own_ge1 (b' := 64976) g26 (by decide), own_ge1 (b' := 65008) g26 (by decide), own_ge0 (b' := 65534) l27 (by decide), own_ge0 (b' := 65536) l27 (by decide), own_ge0 (b' := 983040) l27 (by decide)]
      rfl
    have hr : own_ref c = 1 := by unfold own_ref; rw [hc]; rfl
    rw [hr]
    exact (own_in_no (own_above g26 (by decide)) (own_in_no (own_above g26 (by decide)) (own_in_no (own_above g26 (by decide)) (own_in_no (own_above g26 (by decide)) (own_in_no (own_above g26 (by decide)) (own_in_no (own_above g26 (by decide)) (own_in_no (own_above g26 (by decide)) (own_in_no (own_above g26 (by decide)) (own_in_no (own_above g26 (by decide)) (own_in_no (own_above g26 (by decide)) (own_in_no (own_above g26 (by decide)) (own_in_no (own_above g26 (by decide)) (own_in_no (own_above g26 (by decide)) (own_in_yes (own_within g26 (by decide) l27 (own_pred (by decide)))))))))))))))))
  have g27 := l27
  by_cases l28 : c < (65536 : Int32)
  · have hc : own_cnt c = 28 := by
      unfold own_cnt
      rw [own_ge1 (b' := 65) g27 (by decide), own_ge1 (b' := 91) g27 (by decide), own_ge1 (b' := 95) g27 (by decide), own_ge1 (b' := 96) g27 (by decide), own_ge1 (b' := 97) g27 (by decide), own_ge1 (b' := 123) g27 (by decide), own_ge1 (b' := 192) g27 (by decide), own_ge1 (b' := 215) g27 (by decide), own_ge1 (b' := 216) g27 (by decide), own_ge1 (b' := 247) g27 (by decide), own_ge1 (b' := 248) g27 (by decide), own_ge1 (b' := 768) g27 (by decide), own_ge1 (b' := 880) g27 (by decide), own_ge1 (b' := 894) g27 (by decide), own_ge1 (b' := 895) g27 (by decide), own_ge1 (b' := 8192) g27 (by decide), own_ge1 (b' := 8204) g27 (by decide), own_ge1 (b' := 8206) g27 (by decide), own_ge1 (b' := 8304) g27 (by decide), own_ge1 (b' := 8592) g27 (by decide), own_ge1 (b' := 11264) g27 (by decide), own_ge1 (b' := 12272) g27 (by decide), own_ge1 (b' := 12289) g27 (by decide), own_ge1 (b' := 55296) g27 (by decide), own_ge1 (b' := 63744) g27 (by decide), own_ge1 (b' := 64976) g27 (by decide), own_ge1 (b' := 65008) g27 (by decide), own_ge1 (b' := 65534) g27 (by decide), own_ge0 (b' := 65536) l28 (by decide), own_ge0 (b' := 983040) l28 (by decide)]
      rfl
    have hr : own_ref c = 0 := by unfold own_ref; rw [hc]; rfl
    rw [hr]
    exact (own_in_no (own_above g27 (by decide)) (own_in_no (own_above g27 (by decide)) (own_in_no (own_above g27 (by decide)) (own_in_no (own_above g27 (by decide)) (own_in_no (own_above g27 (by decide)) (own_in_no (own_above g27 (by decide)) (own_in_no (own_above g27 (by decide)) (own_in_no (own_above g27 (by decide)) (own_in_no (own_above g27 (by decide)) (own_in_no (own_above g27 (by decide)) (own_in_no (own_above g27 (by decide)) (own_in_no (own_above g27 (by decide)) (own_in_no (own_above g27 (by decide)) (own_in_no (own_above g27 (by decide)) (own_in_no (own_below l28 (by decide)) rfl)))))))))))))))
  have g28 := l28
  by_cases l29 : c < (983040 : Int32)
  · have hc : own_cnt c = 29 := by
      unfold own_cnt
      rw [own_ge1 (b' := 65) g28 (by decide), own_ge1 (b' := 91) g28 (by decide), own_ge1 (b' := 95) g28 (by decide), own_ge1 (b' := 96) g28 (by decide), own_ge1 (b' := 97) g28 (by decide), own_ge1 (b' := 123) g28 (by decide), own_ge1 (b' := 192) g28 (by decide), own_ge1 (b' := 215) g28 (by decide), own_ge1 (b' := 216) g28 (by decide), own_ge1 (b' := 247) g28 (by decide), own_ge1 (b' := 248) g28 (by decide), own_ge1 (b' := 768) g28 (by decide), own_ge1 (b' := 880) g28 (by decide), own_ge1 (b' := 894) g28 (by decide), own_ge1 (b' := 895) g28 (by decide), own_ge1 (b' := 8192) g28 (by decide), own_ge1 (b' := 8204) g28 (by decide), own_ge1 (b' := 8206) g28 (by decide), own_ge1 (b' := 8304) g28 (by decide), own_ge1 (b' := 8592) g28 (by decide), own_ge1 (b' := 11264) g28 (by decide), own_ge1 (b' := 12272) g28 (by decide), own_ge1 (b' := 12289) g28 (by decide), own_ge1 (b' := 55296) g28 (by decide), own_ge1 (b' := 63744) g28 (by decide), own_ge1 (b' := 64976) g28 (by decide), own_ge1 (b' := 65008) g28 (by decide), own_ge1 (b' := 65534) g28 (by decide), own_ge1 (b' := 65536) g28 (by decide), own_ge0 (b' := 983040) l29 (by decide)]
      rfl
    have hr : own_ref c = 1 := by unfold own_ref; rw [hc]; rfl
    rw [hr]
    exact (own_in_no (own_above g28 (by decide)) (own_in_no (own_above g28 (by decide)) (own_in_no (own_above g28 (by decide)) (own_in_no (own_above g28 (by decide)) (own_in_no (own_above g28 (by decide)) (own_in_no (own_above g28 (by decide)) (own_in_no (own_above g28 (by decide)) (own_in_no (own_above g28 (by decide)) (own_in_no (own_above g28 (by decide)) (own_in_no (own_above g28 (by decide)) (own_in_no (own_above g28 (by decide)) (own_in_no (own_above g28 (by decide)) (own_in_no (own_above g28 (by decide)) (own_in_no (own_above g28 (by decide)) (own_in_yes (own_within g28 (by decide) l29 (own_pred (by decide))))))))))))))))))
  have g29 := l29
  have hc : own_cnt c = 30 := by
    unfold own_cnt
    rw [own_ge1 (b' := 65) g29 (by decide), own_ge1 (b' := 91) g29 (by decide), own_ge1 (b' := 95) g29 (by decide), own_ge1 (b' := 96) g29 (by decide), own_ge1 (b' := 97) g29 (by decide), own_ge1 (b' := 123) g29 (by decide), own_ge1 (b' := 192) g29 (by decide), own_ge1 (b' := 215) g29 (by decide), own_ge1 (b' := 216) g29 (by decide), own_ge1 (b' := 247) g29 (by decide), own_ge1 (b' := 248) g29 (by decide), own_ge1 (b' := 768) g29 (by decide), own_ge1 (b' := 880) g29 (by decide), own_ge1 (b' := 894) g29 (by decide), own_ge1 (b' := 895) g29 (by decide), own_ge1 (b' := 8192) g29 (by decide), own_ge1 (b' := 8204) g29 (by decide), own_ge1 (b' := 8206) g29 (by decide), own_ge1 (b' := 8304) g29 (by decide), own_ge1 (b' := 8592) g29 (by decide), own_ge1 (b' := 11264) g29 (by decide), own_ge1 (b' := 12272) g29 (by decide), own_ge1 (b' := 12289) g29 (by decide), own_ge1 (b' := 55296) g29 (by decide), own_ge1 (b' := 63744) g29 (by decide), own_ge1 (b' := 64976) g29 (by decide), own_ge1 (b' := 65008) g29 (by decide), own_ge1 (b' := 65534) g29 (by decide), own_ge1 (b' := 65536) g29 (by decide), own_ge1 (b' := 983040) g29 (by decide)]
    rfl
  have hr : own_ref c = 0 := by unfold own_ref; rw [hc]; rfl
  rw [hr]
  exact (own_in_no (own_above g29 (by decide)) (own_in_no (own_above g29 (by decide)) (own_in_no (own_above g29 (by decide)) (own_in_no (own_above g29 (by decide)) (own_in_no (own_above g29 (by decide)) (own_in_no (own_above g29 (by decide)) (own_in_no (own_above g29 (by decide)) (own_in_no (own_above g29 (by decide)) (own_in_no (own_above g29 (by decide)) (own_in_no (own_above g29 (by decide)) (own_in_no (own_above g29 (by decide)) (own_in_no (own_above g29 (by decide)) (own_in_no (own_above g29 (by decide)) (own_in_no (own_above g29 (by decide)) (own_in_no (own_above g29 (by decide)) rfl)))))))))))))))
def Q3 (Z : State) (c1 : Int32) (b1 : Int32) (h0 : Heap) (n0 : Nat) (v : Option Value) (h : Heap) (L : List Loc) : Prop := v = some (.int (own_ge c1 b1)) ∧ Fr n0 L ∧ h = h0
theorem ef_rm3 (m : MethodId) (x0 : Int32) (x1 : Int32) : entryFrame m #[(.int x0), (.int x1)] 2 = mkF m 0 #[.val (.int x0), .val (.int x1)] [] := by first | (simp [entryFrame, mkF, argsToLocals, Value.category]; done) | rfl
theorem pn_rm3 : plainName "com/example/uliza/uliza/model/XmlCharsIsNameStartPinLaw" = true := by first | (simp [plainName, overriddenIn]; done) | decide +kernel
set_option maxRecDepth 65536 in
set_option maxHeartbeats 40000000 in
theorem rm3 (l : Launch) (Z : State) (a0 : Array Value) (hw : ∀ d ∈ tables_1, d.before a0 Z = true) (ws : List Jvm.Cond) (c1 : Int32) (b1 : Int32) (h0 : Heap) (n0 : Nat) (Z0 : n0 ≤ h0.size)  :
    MetFree l (⟨"com/example/uliza/uliza/model/XmlCharsIsNameStartPinLaw", "ge", "(II)I"⟩ : MethodName) (head1 (Jvm.Cond.code (⟨"com/example/uliza/uliza/model/XmlCharsIsNameStartPinLaw", "ge", "(II)I"⟩ : MethodName) method_2_code 2 (some .int) :: ws) ({ frames := 0, cells := 0, slots := 0, locals := 0 } : Room)) (fun a U => a = #[(.int c1), (.int b1)] ∧ Z.Warmed39 U.vm ∧ U.heap = h0) (fun _ _ _ _ _ => True) (fun _ U oc U' => ∃ v L, oc = .returned v ∧ Q3 Z c1 b1 h0 n0 v U'.heap L ∧ FrameEnd U oc U' L ({ frames := 0, cells := 0, slots := 0, locals := 0 } : Room).cells ({ frames := 0, cells := 0, slots := 0, locals := 0 } : Room).slots) := by
  refine MetFree.of_bodySF (plainFor_of_name pn_rm3) hisR ?_
  intro p e s m args below meth c s₁ Bd hml0 hP hK
  obtain ⟨rfl, hZ, hh⟩ := hP
  have hx := Bd.exec
  have hby := Bd.bytes
  have hml : c.maxLocals = 2 := hml0
  have hown : s.vm.findClass "com/example/uliza/uliza/model/XmlCharsIsNameStartPinLaw" = some m.cls := findClass_of_methodNamed Bd.named
  have hnm := (name_of_methodNamed Bd.named Bd.method).1
  have X0 : Stand p l e ({ frames := 0, cells := 0, slots := 0, locals := 0 } : Room) s m #[(.int c1), (.int b1)] below meth c s₁ [] 0 0 := Stand.of_body Bd
  have e0 : s₁.heap = h0 := by rw [← hh, Bd.state]; rfl
  have N0 := Fr.nil n0
  have pre0 : ∀ tt, Steps p.tables e below (s₁.setTop (mkF m 0 #[.val (.int c1), .val (.int b1)] [])) tt → Steps p.tables e below (s₁.setTop (entryFrame m #[(.int c1), (.int b1)] 2)) tt := fun tt kt => castTop (ef_rm3 m c1 b1) kt
  have pre1 : ∀ tt, Steps p.tables e below (s₁.setTop (mkF m 2 #[.val (.int c1), .val (.int b1)] [(.int b1), (.int c1)])) tt → Steps p.tables e below (s₁.setTop (entryFrame m #[(.int c1), (.int b1)] 2)) tt := by
    intro tt kt
    refine pre0 tt ?_
    show Steps p.tables e below (s₁.setTop (mkF m 0 #[.val (.int c1), .val (.int b1)] [])) _
    refine XS.iloadN X0.here hx rfl (hb hby d3_0) rfl ?_
    show Steps p.tables e below (s₁.setTop (mkF m 1 #[.val (.int c1), .val (.int b1)] [(.int c1)])) _
    refine XS.iloadN X0.here hx rfl (hb hby d3_1) rfl ?_
    exact kt
  by_cases hc : c1 < b1
  · have hv : own_ge c1 b1 = 0 := if_pos hc
    have prea2 : ∀ tt, Steps p.tables e below (s₁.setTop (mkF m 10 #[.val (.int c1), .val (.int b1)] [(.int (0 : Int32))])) tt → Steps p.tables e below (s₁.setTop (entryFrame m #[(.int c1), (.int b1)] 2)) tt := by
      intro tt kt
      refine pre1 tt ?_
      show Steps p.tables e below (s₁.setTop (mkF m 2 #[.val (.int c1), .val (.int b1)] [(.int b1), (.int c1)])) _
      refine XS.icmpYes X0.here hx rfl (pc0 := 2) (pc' := 9) rfl (hb hby d3_2) rfl (tlt hc).1 (by decide) (by decide) ?_
      show Steps p.tables e below (s₁.setTop (mkF m 9 #[.val (.int c1), .val (.int b1)] [])) _
      refine XS.iconst X0.here hx rfl (hb hby d3_9) ?_
      exact kt
    obtain ⟨fs, hr, hrun, hended, hW, hsame⟩ := X0.leave (v := some (.int (0 : Int32))) (fun h => by rw [Bd.returns] at h; cases h)
    refine ⟨_, _, prea2 _ ?_, hrun, hended, _, _, rfl, ?_, ⟨_, rfl⟩, hW, hsame.mono (by decide) (by decide)⟩
    · exact retI X0 hx Bd.returns (hb hby d3_10) hr
    · show Q3 Z c1 b1 h0 n0 _ s₁.heap _
      rw [e0]
      exact ⟨by rw [hv], N0, rfl⟩
  · have hv : own_ge c1 b1 = 1 := if_neg hc
    have preb2 : ∀ tt, Steps p.tables e below (s₁.setTop (mkF m 10 #[.val (.int c1), .val (.int b1)] [(.int (1 : Int32))])) tt → Steps p.tables e below (s₁.setTop (entryFrame m #[(.int c1), (.int b1)] 2)) tt := by
      intro tt kt
      refine pre1 tt ?_
      show Steps p.tables e below (s₁.setTop (mkF m 2 #[.val (.int c1), .val (.int b1)] [(.int b1), (.int c1)])) _
      refine XS.icmpNo X0.here hx rfl (hb hby d3_2) rfl (flt hc).1 ?_
      show Steps p.tables e below (s₁.setTop (mkF m 5 #[.val (.int c1), .val (.int b1)] [])) _
      refine XS.iconst X0.here hx rfl (hb hby d3_5) ?_
      show Steps p.tables e below (s₁.setTop (mkF m 6 #[.val (.int c1), .val (.int b1)] [(.int (1 : Int32))])) _
      refine XS.goto X0.here hx rfl (pc0 := 6) (pc' := 10) rfl (hb hby d3_6) (by decide) (by decide) ?_
      exact kt
    obtain ⟨fs, hr, hrun, hended, hW, hsame⟩ := X0.leave (v := some (.int (1 : Int32))) (fun h => by rw [Bd.returns] at h; cases h)
    refine ⟨_, _, preb2 _ ?_, hrun, hended, _, _, rfl, ?_, ⟨_, rfl⟩, hW, hsame.mono (by decide) (by decide)⟩
    · exact retI X0 hx Bd.returns (hb hby d3_10) hr
    · show Q3 Z c1 b1 h0 n0 _ s₁.heap _
      rw [e0]
      exact ⟨by rw [hv], N0, rfl⟩
def Q2 (Z : State) (c1 : Int32) (h0 : Heap) (n0 : Nat) (v : Option Value) (h : Heap) (L : List Loc) : Prop := v = some (.int (own_ref c1)) ∧ Fr n0 L ∧ h = h0
theorem ef_rm2 (m : MethodId) (x0 : Int32) : entryFrame m #[(.int x0)] 2 = mkF m 0 #[.val (.int x0), .unset] [] := by first | (simp [entryFrame, mkF, argsToLocals, Value.category]; done) | rfl
theorem pn_rm2 : plainName "com/example/uliza/uliza/model/XmlCharsIsNameStartPinLaw" = true := by first | (simp [plainName, overriddenIn]; done) | decide +kernel
set_option maxRecDepth 65536 in
set_option maxHeartbeats 40000000 in
theorem rm2 (l : Launch) (Z : State) (a0 : Array Value) (hw : ∀ d ∈ tables_1, d.before a0 Z = true) (ws : List Jvm.Cond) (c1 : Int32) (h0 : Heap) (n0 : Nat) (Z0 : n0 ≤ h0.size)  :
    MetFree l (⟨"com/example/uliza/uliza/model/XmlCharsIsNameStartPinLaw", "ref", "(I)Z"⟩ : MethodName) (head1 (Jvm.Cond.code (⟨"com/example/uliza/uliza/model/XmlCharsIsNameStartPinLaw", "ref", "(I)Z"⟩ : MethodName) method_3_code 2 (some .boolean) :: ws) ({ frames := 1, cells := 0, slots := 0, locals := 14 } : Room)) (fun a U => a = #[(.int c1)] ∧ Z.Warmed39 U.vm ∧ U.heap = h0) (fun _ _ _ _ _ => True) (fun _ U oc U' => ∃ v L, oc = .returned v ∧ Q2 Z c1 h0 n0 v U'.heap L ∧ FrameEnd U oc U' L ({ frames := 1, cells := 0, slots := 0, locals := 14 } : Room).cells ({ frames := 1, cells := 0, slots := 0, locals := 14 } : Room).slots) := by
  refine MetFree.of_bodySF (plainFor_of_name pn_rm2) hisR ?_
  intro p e s m args below meth c s₁ Bd hml0 hP hK
  obtain ⟨rfl, hZ, hh⟩ := hP
  have hx := Bd.exec
  have hby := Bd.bytes
  have hml : c.maxLocals = 2 := hml0
  have hown : s.vm.findClass "com/example/uliza/uliza/model/XmlCharsIsNameStartPinLaw" = some m.cls := findClass_of_methodNamed Bd.named
  have hnm := (name_of_methodNamed Bd.named Bd.method).1
  have X0 : Stand p l e ({ frames := 1, cells := 0, slots := 0, locals := 14 } : Room) s m #[(.int c1)] below meth c s₁ [] 0 0 := Stand.of_body Bd
  have e0 : s₁.heap = h0 := by rw [← hh, Bd.state]; rfl
  have N0 := Fr.nil n0
  have pre0 : ∀ tt, Steps p.tables e below (s₁.setTop (mkF m 0 #[.val (.int c1), .unset] [])) tt → Steps p.tables e below (s₁.setTop (entryFrame m #[(.int c1)] 2)) tt := fun tt kt => castTop (ef_rm2 m c1) kt
  have pre1 : ∀ tt, Steps p.tables e below (s₁.setTop (mkF m 6 #[.val (.int c1), .val (.int (0 : Int32))] [(.int (65 : Int32)), (.int c1), (.int (0 : Int32))])) tt → Steps p.tables e below (s₁.setTop (entryFrame m #[(.int c1)] 2)) tt := by
    intro tt kt
    refine pre0 tt ?_
    show Steps p.tables e below (s₁.setTop (mkF m 0 #[.val (.int c1), .unset] [])) _
    refine XS.iconst X0.here hx rfl (hb hby d2_0) ?_
    show Steps p.tables e below (s₁.setTop (mkF m 1 #[.val (.int c1), .unset] [(.int (0 : Int32))])) _
    refine XS.istoreN X0.here hx rfl (hb hby d2_1) rfl (l' := #[.val (.int c1), .val (.int (0 : Int32))]) rfl ?_
    show Steps p.tables e below (s₁.setTop (mkF m 2 #[.val (.int c1), .val (.int (0 : Int32))] [])) _
    refine XS.iloadN X0.here hx rfl (hb hby d2_2) rfl ?_
    show Steps p.tables e below (s₁.setTop (mkF m 3 #[.val (.int c1), .val (.int (0 : Int32))] [(.int (0 : Int32))])) _
    refine XS.iloadN X0.here hx rfl (hb hby d2_3) rfl ?_
    show Steps p.tables e below (s₁.setTop (mkF m 4 #[.val (.int c1), .val (.int (0 : Int32))] [(.int c1), (.int (0 : Int32))])) _
    refine XS.bipush X0.here hx rfl (hb hby d2_4) ?_
    exact kt
  obtain ⟨_, _, ⟨T2, L2, k2, n2⟩, -, X2, ⟨Lc2, hQ2, l2, y2, z2⟩, st2⟩ := Jvm.LawKit.callS X0 hx (y := (⟨"com/example/uliza/uliza/model/XmlCharsIsNameStartPinLaw", "ge", "(II)I"⟩ : MethodName)) hown (mvT hZ (hw _ (List.mem_of_getElem? (i := 20) rfl))) (mvT hZ (hw _ (List.mem_of_getElem? (i := 21) rfl))) (mvT hZ (hw _ (List.mem_of_getElem? (i := 18) rfl))) (mvT hZ (hw _ (List.mem_of_getElem? (i := 22) rfl))) (by decide) (backOf (W := 1) (rm3 l Z a0 hw [] c1 (65 : Int32) h0 n0 Z0) hZ (hw _ (List.mem_of_getElem? (i := 22) rfl)) (hw _ (List.mem_of_getElem? (i := 18) rfl)) (by decide) (by decide)) (g := (mkF m 6 #[.val (.int c1), .val (.int (0 : Int32))] [(.int (65 : Int32)), (.int c1), (.int (0 : Int32))])) rfl (by rw [hml]; rfl) (argsL := [(.int c1), (.int (65 : Int32))]) (rest := [(.int (0 : Int32))]) (lenOf pd_0 rfl) rfl (by show 2 * 0 + _ ≤ _; exact Nat.le_of_eq rfl) (hb hby d2_6) (fun _ _ => ⟨rfl, e0, (by decide : 0 + 0 ≤ _), (by decide : 0 + 0 ≤ _)⟩)
  dsimp only [Pt.U, Pt.locs, Pt.cells, Pt.slots] at X2 l2 y2 z2 st2 hQ2
  subst l2 y2 z2
  obtain ⟨rfl, N2q, h2⟩ := hQ2
  have N2 := Fr.app N0 N2q
  obtain ⟨Lx2, X2, Nx2⟩ : ∃ L, Stand p l e ({ frames := 1, cells := 0, slots := 0, locals := 14 } : Room) s m #[(.int c1)] below meth c T2 L 0 0 ∧ Fr n0 L := ⟨_, X2.more (by decide) (by decide), N2⟩
  have zz2 : n0 ≤ T2.heap.size := by rw [h2]; exact Z0
  obtain ⟨m1, hm1⟩ : ∃ z, z = ((0 : Int32) + (own_ge c1 (65 : Int32))) := ⟨_, rfl⟩
  have q2 : T2.heap = h0 := h2
  have pre3 : ∀ tt, Steps p.tables e below (T2.setTop (mkF m 15 #[.val (.int c1), .val (.int m1)] [(.int (91 : Int32)), (.int c1), (.int m1)])) tt → Steps p.tables e below (s₁.setTop (entryFrame m #[(.int c1)] 2)) tt := by
    intro tt kt
    refine pre1 tt ?_
    show Steps p.tables e below (s₁.setTop (mkF m 6 #[.val (.int c1), .val (.int (0 : Int32))] [(.int (65 : Int32)), (.int c1), (.int (0 : Int32))])) _
    refine st2 _ ?_
    show Steps p.tables e below (T2.setTop (mkF m 9 #[.val (.int c1), .val (.int (0 : Int32))] [(.int (own_ge c1 (65 : Int32))), (.int (0 : Int32))])) _
    refine XS.iadd X2.here hx rfl (hb hby d2_9) rfl ?_
    show Steps p.tables e below (T2.setTop (mkF m 10 #[.val (.int c1), .val (.int (0 : Int32))] [(.int ((0 : Int32) + (own_ge c1 (65 : Int32))))])) _
    rw [← hm1]
    show Steps p.tables e below (T2.setTop (mkF m 10 #[.val (.int c1), .val (.int (0 : Int32))] [(.int m1)])) _
    refine XS.istoreN X2.here hx rfl (hb hby d2_10) rfl (l' := #[.val (.int c1), .val (.int m1)]) rfl ?_
    show Steps p.tables e below (T2.setTop (mkF m 11 #[.val (.int c1), .val (.int m1)] [])) _
    refine XS.iloadN X2.here hx rfl (hb hby d2_11) rfl ?_
    show Steps p.tables e below (T2.setTop (mkF m 12 #[.val (.int c1), .val (.int m1)] [(.int m1)])) _
    refine XS.iloadN X2.here hx rfl (hb hby d2_12) rfl ?_
    show Steps p.tables e below (T2.setTop (mkF m 13 #[.val (.int c1), .val (.int m1)] [(.int c1), (.int m1)])) _
    refine XS.bipush X2.here hx rfl (hb hby d2_13) ?_
    exact kt
  obtain ⟨_, _, ⟨T4, L4, k4, n4⟩, -, X4, ⟨Lc4, hQ4, l4, y4, z4⟩, st4⟩ := Jvm.LawKit.callS X2 hx (y := (⟨"com/example/uliza/uliza/model/XmlCharsIsNameStartPinLaw", "ge", "(II)I"⟩ : MethodName)) hown (mvT hZ (hw _ (List.mem_of_getElem? (i := 20) rfl))) (mvT hZ (hw _ (List.mem_of_getElem? (i := 21) rfl))) (mvT hZ (hw _ (List.mem_of_getElem? (i := 18) rfl))) (mvT hZ (hw _ (List.mem_of_getElem? (i := 22) rfl))) (by decide) (backOf (W := 1) (rm3 l Z a0 hw [] c1 (91 : Int32) T2.heap n0 zz2) hZ (hw _ (List.mem_of_getElem? (i := 22) rfl)) (hw _ (List.mem_of_getElem? (i := 18) rfl)) (by decide) (by decide)) (g := (mkF m 15 #[.val (.int c1), .val (.int m1)] [(.int (91 : Int32)), (.int c1), (.int m1)])) rfl (by rw [hml]; rfl) (argsL := [(.int c1), (.int (91 : Int32))]) (rest := [(.int m1)]) (lenOf pd_0 rfl) rfl (by show 2 * 0 + _ ≤ _; exact Nat.le_of_eq rfl) (hb hby d2_15) (fun _ _ => ⟨rfl, rfl, (by decide : 0 + 0 ≤ _), (by decide : 0 + 0 ≤ _)⟩)
  dsimp only [Pt.U, Pt.locs, Pt.cells, Pt.slots] at X4 l4 y4 z4 st4 hQ4
  subst l4 y4 z4
  obtain ⟨rfl, N4q, h4⟩ := hQ4
  have N4 := Fr.app Nx2 N4q
  obtain ⟨Lx4, X4, Nx4⟩ : ∃ L, Stand p l e ({ frames := 1, cells := 0, slots := 0, locals := 14 } : Room) s m #[(.int c1)] below meth c T4 L 0 0 ∧ Fr n0 L := ⟨_, X4.more (by decide) (by decide), N4⟩
  have zz4 : n0 ≤ T4.heap.size := by rw [h4]; exact zz2
  obtain ⟨m2, hm2⟩ : ∃ z, z = (m1 + (own_ge c1 (91 : Int32))) := ⟨_, rfl⟩
  have q4 : T4.heap = h0 := h4.trans q2
  have pre5 : ∀ tt, Steps p.tables e below (T4.setTop (mkF m 24 #[.val (.int c1), .val (.int m2)] [(.int (95 : Int32)), (.int c1), (.int m2)])) tt → Steps p.tables e below (s₁.setTop (entryFrame m #[(.int c1)] 2)) tt := by
    intro tt kt
    refine pre3 tt ?_
    show Steps p.tables e below (T2.setTop (mkF m 15 #[.val (.int c1), .val (.int m1)] [(.int (91 : Int32)), (.int c1), (.int m1)])) _
    refine st4 _ ?_
    show Steps p.tables e below (T4.setTop (mkF m 18 #[.val (.int c1), .val (.int m1)] [(.int (own_ge c1 (91 : Int32))), (.int m1)])) _
    refine XS.iadd X4.here hx rfl (hb hby d2_18) rfl ?_
    show Steps p.tables e below (T4.setTop (mkF m 19 #[.val (.int c1), .val (.int m1)] [(.int (m1 + (own_ge c1 (91 : Int32))))])) _
    rw [← hm2]
    show Steps p.tables e below (T4.setTop (mkF m 19 #[.val (.int c1), .val (.int m1)] [(.int m2)])) _
    refine XS.istoreN X4.here hx rfl (hb hby d2_19) rfl (l' := #[.val (.int c1), .val (.int m2)]) rfl ?_
    show Steps p.tables e below (T4.setTop (mkF m 20 #[.val (.int c1), .val (.int m2)] [])) _
    refine XS.iloadN X4.here hx rfl (hb hby d2_20) rfl ?_
    show Steps p.tables e below (T4.setTop (mkF m 21 #[.val (.int c1), .val (.int m2)] [(.int m2)])) _
    refine XS.iloadN X4.here hx rfl (hb hby d2_21) rfl ?_
    show Steps p.tables e below (T4.setTop (mkF m 22 #[.val (.int c1), .val (.int m2)] [(.int c1), (.int m2)])) _
    refine XS.bipush X4.here hx rfl (hb hby d2_22) ?_
    exact kt
  obtain ⟨_, _, ⟨T6, L6, k6, n6⟩, -, X6, ⟨Lc6, hQ6, l6, y6, z6⟩, st6⟩ := Jvm.LawKit.callS X4 hx (y := (⟨"com/example/uliza/uliza/model/XmlCharsIsNameStartPinLaw", "ge", "(II)I"⟩ : MethodName)) hown (mvT hZ (hw _ (List.mem_of_getElem? (i := 20) rfl))) (mvT hZ (hw _ (List.mem_of_getElem? (i := 21) rfl))) (mvT hZ (hw _ (List.mem_of_getElem? (i := 18) rfl))) (mvT hZ (hw _ (List.mem_of_getElem? (i := 22) rfl))) (by decide) (backOf (W := 1) (rm3 l Z a0 hw [] c1 (95 : Int32) T4.heap n0 zz4) hZ (hw _ (List.mem_of_getElem? (i := 22) rfl)) (hw _ (List.mem_of_getElem? (i := 18) rfl)) (by decide) (by decide)) (g := (mkF m 24 #[.val (.int c1), .val (.int m2)] [(.int (95 : Int32)), (.int c1), (.int m2)])) rfl (by rw [hml]; rfl) (argsL := [(.int c1), (.int (95 : Int32))]) (rest := [(.int m2)]) (lenOf pd_0 rfl) rfl (by show 2 * 0 + _ ≤ _; exact Nat.le_of_eq rfl) (hb hby d2_24) (fun _ _ => ⟨rfl, rfl, (by decide : 0 + 0 ≤ _), (by decide : 0 + 0 ≤ _)⟩)
  dsimp only [Pt.U, Pt.locs, Pt.cells, Pt.slots] at X6 l6 y6 z6 st6 hQ6
  subst l6 y6 z6
  obtain ⟨rfl, N6q, h6⟩ := hQ6
  have N6 := Fr.app Nx4 N6q
  obtain ⟨Lx6, X6, Nx6⟩ : ∃ L, Stand p l e ({ frames := 1, cells := 0, slots := 0, locals := 14 } : Room) s m #[(.int c1)] below meth c T6 L 0 0 ∧ Fr n0 L := ⟨_, X6.more (by decide) (by decide), N6⟩
  have zz6 : n0 ≤ T6.heap.size := by rw [h6]; exact zz4
  obtain ⟨m3, hm3⟩ : ∃ z, z = (m2 + (own_ge c1 (95 : Int32))) := ⟨_, rfl⟩
  have q6 : T6.heap = h0 := h6.trans q4
  have pre7 : ∀ tt, Steps p.tables e below (T6.setTop (mkF m 33 #[.val (.int c1), .val (.int m3)] [(.int (96 : Int32)), (.int c1), (.int m3)])) tt → Steps p.tables e below (s₁.setTop (entryFrame m #[(.int c1)] 2)) tt := by
    intro tt kt
    refine pre5 tt ?_
    show Steps p.tables e below (T4.setTop (mkF m 24 #[.val (.int c1), .val (.int m2)] [(.int (95 : Int32)), (.int c1), (.int m2)])) _
    refine st6 _ ?_
    show Steps p.tables e below (T6.setTop (mkF m 27 #[.val (.int c1), .val (.int m2)] [(.int (own_ge c1 (95 : Int32))), (.int m2)])) _
    refine XS.iadd X6.here hx rfl (hb hby d2_27) rfl ?_
    show Steps p.tables e below (T6.setTop (mkF m 28 #[.val (.int c1), .val (.int m2)] [(.int (m2 + (own_ge c1 (95 : Int32))))])) _
    rw [← hm3]
    show Steps p.tables e below (T6.setTop (mkF m 28 #[.val (.int c1), .val (.int m2)] [(.int m3)])) _
    refine XS.istoreN X6.here hx rfl (hb hby d2_28) rfl (l' := #[.val (.int c1), .val (.int m3)]) rfl ?_
    show Steps p.tables e below (T6.setTop (mkF m 29 #[.val (.int c1), .val (.int m3)] [])) _
    refine XS.iloadN X6.here hx rfl (hb hby d2_29) rfl ?_
    show Steps p.tables e below (T6.setTop (mkF m 30 #[.val (.int c1), .val (.int m3)] [(.int m3)])) _
    refine XS.iloadN X6.here hx rfl (hb hby d2_30) rfl ?_
    show Steps p.tables e below (T6.setTop (mkF m 31 #[.val (.int c1), .val (.int m3)] [(.int c1), (.int m3)])) _
    refine XS.bipush X6.here hx rfl (hb hby d2_31) ?_
    exact kt
  obtain ⟨_, _, ⟨T8, L8, k8, n8⟩, -, X8, ⟨Lc8, hQ8, l8, y8, z8⟩, st8⟩ := Jvm.LawKit.callS X6 hx (y := (⟨"com/example/uliza/uliza/model/XmlCharsIsNameStartPinLaw", "ge", "(II)I"⟩ : MethodName)) hown (mvT hZ (hw _ (List.mem_of_getElem? (i := 20) rfl))) (mvT hZ (hw _ (List.mem_of_getElem? (i := 21) rfl))) (mvT hZ (hw _ (List.mem_of_getElem? (i := 18) rfl))) (mvT hZ (hw _ (List.mem_of_getElem? (i := 22) rfl))) (by decide) (backOf (W := 1) (rm3 l Z a0 hw [] c1 (96 : Int32) T6.heap n0 zz6) hZ (hw _ (List.mem_of_getElem? (i := 22) rfl)) (hw _ (List.mem_of_getElem? (i := 18) rfl)) (by decide) (by decide)) (g := (mkF m 33 #[.val (.int c1), .val (.int m3)] [(.int (96 : Int32)), (.int c1), (.int m3)])) rfl (by rw [hml]; rfl) (argsL := [(.int c1), (.int (96 : Int32))]) (rest := [(.int m3)]) (lenOf pd_0 rfl) rfl (by show 2 * 0 + _ ≤ _; exact Nat.le_of_eq rfl) (hb hby d2_33) (fun _ _ => ⟨rfl, rfl, (by decide : 0 + 0 ≤ _), (by decide : 0 + 0 ≤ _)⟩)
  dsimp only [Pt.U, Pt.locs, Pt.cells, Pt.slots] at X8 l8 y8 z8 st8 hQ8
  subst l8 y8 z8
  obtain ⟨rfl, N8q, h8⟩ := hQ8
  have N8 := Fr.app Nx6 N8q
  obtain ⟨Lx8, X8, Nx8⟩ : ∃ L, Stand p l e ({ frames := 1, cells := 0, slots := 0, locals := 14 } : Room) s m #[(.int c1)] below meth c T8 L 0 0 ∧ Fr n0 L := ⟨_, X8.more (by decide) (by decide), N8⟩
  have zz8 : n0 ≤ T8.heap.size := by rw [h8]; exact zz6
  obtain ⟨m4, hm4⟩ : ∃ z, z = (m3 + (own_ge c1 (96 : Int32))) := ⟨_, rfl⟩
  have q8 : T8.heap = h0 := h8.trans q6
  have pre9 : ∀ tt, Steps p.tables e below (T8.setTop (mkF m 42 #[.val (.int c1), .val (.int m4)] [(.int (97 : Int32)), (.int c1), (.int m4)])) tt → Steps p.tables e below (s₁.setTop (entryFrame m #[(.int c1)] 2)) tt := by
    intro tt kt
    refine pre7 tt ?_
    show Steps p.tables e below (T6.setTop (mkF m 33 #[.val (.int c1), .val (.int m3)] [(.int (96 : Int32)), (.int c1), (.int m3)])) _
    refine st8 _ ?_
    show Steps p.tables e below (T8.setTop (mkF m 36 #[.val (.int c1), .val (.int m3)] [(.int (own_ge c1 (96 : Int32))), (.int m3)])) _
    refine XS.iadd X8.here hx rfl (hb hby d2_36) rfl ?_
    show Steps p.tables e below (T8.setTop (mkF m 37 #[.val (.int c1), .val (.int m3)] [(.int (m3 + (own_ge c1 (96 : Int32))))])) _
    rw [← hm4]
    show Steps p.tables e below (T8.setTop (mkF m 37 #[.val (.int c1), .val (.int m3)] [(.int m4)])) _
    refine XS.istoreN X8.here hx rfl (hb hby d2_37) rfl (l' := #[.val (.int c1), .val (.int m4)]) rfl ?_
    show Steps p.tables e below (T8.setTop (mkF m 38 #[.val (.int c1), .val (.int m4)] [])) _
    refine XS.iloadN X8.here hx rfl (hb hby d2_38) rfl ?_
    show Steps p.tables e below (T8.setTop (mkF m 39 #[.val (.int c1), .val (.int m4)] [(.int m4)])) _
    refine XS.iloadN X8.here hx rfl (hb hby d2_39) rfl ?_
    show Steps p.tables e below (T8.setTop (mkF m 40 #[.val (.int c1), .val (.int m4)] [(.int c1), (.int m4)])) _
    refine XS.bipush X8.here hx rfl (hb hby d2_40) ?_
    exact kt
  obtain ⟨_, _, ⟨T10, L10, k10, n10⟩, -, X10, ⟨Lc10, hQ10, l10, y10, z10⟩, st10⟩ := Jvm.LawKit.callS X8 hx (y := (⟨"com/example/uliza/uliza/model/XmlCharsIsNameStartPinLaw", "ge", "(II)I"⟩ : MethodName)) hown (mvT hZ (hw _ (List.mem_of_getElem? (i := 20) rfl))) (mvT hZ (hw _ (List.mem_of_getElem? (i := 21) rfl))) (mvT hZ (hw _ (List.mem_of_getElem? (i := 18) rfl))) (mvT hZ (hw _ (List.mem_of_getElem? (i := 22) rfl))) (by decide) (backOf (W := 1) (rm3 l Z a0 hw [] c1 (97 : Int32) T8.heap n0 zz8) hZ (hw _ (List.mem_of_getElem? (i := 22) rfl)) (hw _ (List.mem_of_getElem? (i := 18) rfl)) (by decide) (by decide)) (g := (mkF m 42 #[.val (.int c1), .val (.int m4)] [(.int (97 : Int32)), (.int c1), (.int m4)])) rfl (by rw [hml]; rfl) (argsL := [(.int c1), (.int (97 : Int32))]) (rest := [(.int m4)]) (lenOf pd_0 rfl) rfl (by show 2 * 0 + _ ≤ _; exact Nat.le_of_eq rfl) (hb hby d2_42) (fun _ _ => ⟨rfl, rfl, (by decide : 0 + 0 ≤ _), (by decide : 0 + 0 ≤ _)⟩)
  dsimp only [Pt.U, Pt.locs, Pt.cells, Pt.slots] at X10 l10 y10 z10 st10 hQ10
  subst l10 y10 z10
  obtain ⟨rfl, N10q, h10⟩ := hQ10
  have N10 := Fr.app Nx8 N10q
  obtain ⟨Lx10, X10, Nx10⟩ : ∃ L, Stand p l e ({ frames := 1, cells := 0, slots := 0, locals := 14 } : Room) s m #[(.int c1)] below meth c T10 L 0 0 ∧ Fr n0 L := ⟨_, X10.more (by decide) (by decide), N10⟩
  have zz10 : n0 ≤ T10.heap.size := by rw [h10]; exact zz8
  obtain ⟨m5, hm5⟩ : ∃ z, z = (m4 + (own_ge c1 (97 : Int32))) := ⟨_, rfl⟩
  have q10 : T10.heap = h0 := h10.trans q8
  have pre11 : ∀ tt, Steps p.tables e below (T10.setTop (mkF m 51 #[.val (.int c1), .val (.int m5)] [(.int (123 : Int32)), (.int c1), (.int m5)])) tt → Steps p.tables e below (s₁.setTop (entryFrame m #[(.int c1)] 2)) tt := by
    intro tt kt
    refine pre9 tt ?_
    show Steps p.tables e below (T8.setTop (mkF m 42 #[.val (.int c1), .val (.int m4)] [(.int (97 : Int32)), (.int c1), (.int m4)])) _
    refine st10 _ ?_
    show Steps p.tables e below (T10.setTop (mkF m 45 #[.val (.int c1), .val (.int m4)] [(.int (own_ge c1 (97 : Int32))), (.int m4)])) _
    refine XS.iadd X10.here hx rfl (hb hby d2_45) rfl ?_
    show Steps p.tables e below (T10.setTop (mkF m 46 #[.val (.int c1), .val (.int m4)] [(.int (m4 + (own_ge c1 (97 : Int32))))])) _
    rw [← hm5]
    show Steps p.tables e below (T10.setTop (mkF m 46 #[.val (.int c1), .val (.int m4)] [(.int m5)])) _
    refine XS.istoreN X10.here hx rfl (hb hby d2_46) rfl (l' := #[.val (.int c1), .val (.int m5)]) rfl ?_
    show Steps p.tables e below (T10.setTop (mkF m 47 #[.val (.int c1), .val (.int m5)] [])) _
    refine XS.iloadN X10.here hx rfl (hb hby d2_47) rfl ?_
    show Steps p.tables e below (T10.setTop (mkF m 48 #[.val (.int c1), .val (.int m5)] [(.int m5)])) _
    refine XS.iloadN X10.here hx rfl (hb hby d2_48) rfl ?_
    show Steps p.tables e below (T10.setTop (mkF m 49 #[.val (.int c1), .val (.int m5)] [(.int c1), (.int m5)])) _
    refine XS.bipush X10.here hx rfl (hb hby d2_49) ?_
    exact kt
  obtain ⟨_, _, ⟨T12, L12, k12, n12⟩, -, X12, ⟨Lc12, hQ12, l12, y12, z12⟩, st12⟩ := Jvm.LawKit.callS X10 hx (y := (⟨"com/example/uliza/uliza/model/XmlCharsIsNameStartPinLaw", "ge", "(II)I"⟩ : MethodName)) hown (mvT hZ (hw _ (List.mem_of_getElem? (i := 20) rfl))) (mvT hZ (hw _ (List.mem_of_getElem? (i := 21) rfl))) (mvT hZ (hw _ (List.mem_of_getElem? (i := 18) rfl))) (mvT hZ (hw _ (List.mem_of_getElem? (i := 22) rfl))) (by decide) (backOf (W := 1) (rm3 l Z a0 hw [] c1 (123 : Int32) T10.heap n0 zz10) hZ (hw _ (List.mem_of_getElem? (i := 22) rfl)) (hw _ (List.mem_of_getElem? (i := 18) rfl)) (by decide) (by decide)) (g := (mkF m 51 #[.val (.int c1), .val (.int m5)] [(.int (123 : Int32)), (.int c1), (.int m5)])) rfl (by rw [hml]; rfl) (argsL := [(.int c1), (.int (123 : Int32))]) (rest := [(.int m5)]) (lenOf pd_0 rfl) rfl (by show 2 * 0 + _ ≤ _; exact Nat.le_of_eq rfl) (hb hby d2_51) (fun _ _ => ⟨rfl, rfl, (by decide : 0 + 0 ≤ _), (by decide : 0 + 0 ≤ _)⟩)
  dsimp only [Pt.U, Pt.locs, Pt.cells, Pt.slots] at X12 l12 y12 z12 st12 hQ12
  subst l12 y12 z12
  obtain ⟨rfl, N12q, h12⟩ := hQ12
  have N12 := Fr.app Nx10 N12q
  obtain ⟨Lx12, X12, Nx12⟩ : ∃ L, Stand p l e ({ frames := 1, cells := 0, slots := 0, locals := 14 } : Room) s m #[(.int c1)] below meth c T12 L 0 0 ∧ Fr n0 L := ⟨_, X12.more (by decide) (by decide), N12⟩
  have zz12 : n0 ≤ T12.heap.size := by rw [h12]; exact zz10
  obtain ⟨m6, hm6⟩ : ∃ z, z = (m5 + (own_ge c1 (123 : Int32))) := ⟨_, rfl⟩
  have q12 : T12.heap = h0 := h12.trans q10
  have pre13 : ∀ tt, Steps p.tables e below (T12.setTop (mkF m 61 #[.val (.int c1), .val (.int m6)] [(.int (192 : Int32)), (.int c1), (.int m6)])) tt → Steps p.tables e below (s₁.setTop (entryFrame m #[(.int c1)] 2)) tt := by
    intro tt kt
    refine pre11 tt ?_
    show Steps p.tables e below (T10.setTop (mkF m 51 #[.val (.int c1), .val (.int m5)] [(.int (123 : Int32)), (.int c1), (.int m5)])) _
    refine st12 _ ?_
    show Steps p.tables e below (T12.setTop (mkF m 54 #[.val (.int c1), .val (.int m5)] [(.int (own_ge c1 (123 : Int32))), (.int m5)])) _
    refine XS.iadd X12.here hx rfl (hb hby d2_54) rfl ?_
    show Steps p.tables e below (T12.setTop (mkF m 55 #[.val (.int c1), .val (.int m5)] [(.int (m5 + (own_ge c1 (123 : Int32))))])) _
    rw [← hm6]
    show Steps p.tables e below (T12.setTop (mkF m 55 #[.val (.int c1), .val (.int m5)] [(.int m6)])) _
    refine XS.istoreN X12.here hx rfl (hb hby d2_55) rfl (l' := #[.val (.int c1), .val (.int m6)]) rfl ?_
    show Steps p.tables e below (T12.setTop (mkF m 56 #[.val (.int c1), .val (.int m6)] [])) _
    refine XS.iloadN X12.here hx rfl (hb hby d2_56) rfl ?_
    show Steps p.tables e below (T12.setTop (mkF m 57 #[.val (.int c1), .val (.int m6)] [(.int m6)])) _
    refine XS.iloadN X12.here hx rfl (hb hby d2_57) rfl ?_
    show Steps p.tables e below (T12.setTop (mkF m 58 #[.val (.int c1), .val (.int m6)] [(.int c1), (.int m6)])) _
    refine XS.sipush X12.here hx rfl (hb hby d2_58) ?_
    exact kt
  obtain ⟨_, _, ⟨T14, L14, k14, n14⟩, -, X14, ⟨Lc14, hQ14, l14, y14, z14⟩, st14⟩ := Jvm.LawKit.callS X12 hx (y := (⟨"com/example/uliza/uliza/model/XmlCharsIsNameStartPinLaw", "ge", "(II)I"⟩ : MethodName)) hown (mvT hZ (hw _ (List.mem_of_getElem? (i := 20) rfl))) (mvT hZ (hw _ (List.mem_of_getElem? (i := 21) rfl))) (mvT hZ (hw _ (List.mem_of_getElem? (i := 18) rfl))) (mvT hZ (hw _ (List.mem_of_getElem? (i := 22) rfl))) (by decide) (backOf (W := 1) (rm3 l Z a0 hw [] c1 (192 : Int32) T12.heap n0 zz12) hZ (hw _ (List.mem_of_getElem? (i := 22) rfl)) (hw _ (List.mem_of_getElem? (i := 18) rfl)) (by decide) (by decide)) (g := (mkF m 61 #[.val (.int c1), .val (.int m6)] [(.int (192 : Int32)), (.int c1), (.int m6)])) rfl (by rw [hml]; rfl) (argsL := [(.int c1), (.int (192 : Int32))]) (rest := [(.int m6)]) (lenOf pd_0 rfl) rfl (by show 2 * 0 + _ ≤ _; exact Nat.le_of_eq rfl) (hb hby d2_61) (fun _ _ => ⟨rfl, rfl, (by decide : 0 + 0 ≤ _), (by decide : 0 + 0 ≤ _)⟩)
  dsimp only [Pt.U, Pt.locs, Pt.cells, Pt.slots] at X14 l14 y14 z14 st14 hQ14
  subst l14 y14 z14
  obtain ⟨rfl, N14q, h14⟩ := hQ14
  have N14 := Fr.app Nx12 N14q
  obtain ⟨Lx14, X14, Nx14⟩ : ∃ L, Stand p l e ({ frames := 1, cells := 0, slots := 0, locals := 14 } : Room) s m #[(.int c1)] below meth c T14 L 0 0 ∧ Fr n0 L := ⟨_, X14.more (by decide) (by decide), N14⟩
  have zz14 : n0 ≤ T14.heap.size := by rw [h14]; exact zz12
  obtain ⟨m7, hm7⟩ : ∃ z, z = (m6 + (own_ge c1 (192 : Int32))) := ⟨_, rfl⟩
  have q14 : T14.heap = h0 := h14.trans q12
  have pre15 : ∀ tt, Steps p.tables e below (T14.setTop (mkF m 71 #[.val (.int c1), .val (.int m7)] [(.int (215 : Int32)), (.int c1), (.int m7)])) tt → Steps p.tables e below (s₁.setTop (entryFrame m #[(.int c1)] 2)) tt := by
    intro tt kt
    refine pre13 tt ?_
    show Steps p.tables e below (T12.setTop (mkF m 61 #[.val (.int c1), .val (.int m6)] [(.int (192 : Int32)), (.int c1), (.int m6)])) _
    refine st14 _ ?_
    show Steps p.tables e below (T14.setTop (mkF m 64 #[.val (.int c1), .val (.int m6)] [(.int (own_ge c1 (192 : Int32))), (.int m6)])) _
    refine XS.iadd X14.here hx rfl (hb hby d2_64) rfl ?_
    show Steps p.tables e below (T14.setTop (mkF m 65 #[.val (.int c1), .val (.int m6)] [(.int (m6 + (own_ge c1 (192 : Int32))))])) _
    rw [← hm7]
    show Steps p.tables e below (T14.setTop (mkF m 65 #[.val (.int c1), .val (.int m6)] [(.int m7)])) _
    refine XS.istoreN X14.here hx rfl (hb hby d2_65) rfl (l' := #[.val (.int c1), .val (.int m7)]) rfl ?_
    show Steps p.tables e below (T14.setTop (mkF m 66 #[.val (.int c1), .val (.int m7)] [])) _
    refine XS.iloadN X14.here hx rfl (hb hby d2_66) rfl ?_
    show Steps p.tables e below (T14.setTop (mkF m 67 #[.val (.int c1), .val (.int m7)] [(.int m7)])) _
    refine XS.iloadN X14.here hx rfl (hb hby d2_67) rfl ?_
    show Steps p.tables e below (T14.setTop (mkF m 68 #[.val (.int c1), .val (.int m7)] [(.int c1), (.int m7)])) _
    refine XS.sipush X14.here hx rfl (hb hby d2_68) ?_
    exact kt
  obtain ⟨_, _, ⟨T16, L16, k16, n16⟩, -, X16, ⟨Lc16, hQ16, l16, y16, z16⟩, st16⟩ := Jvm.LawKit.callS X14 hx (y := (⟨"com/example/uliza/uliza/model/XmlCharsIsNameStartPinLaw", "ge", "(II)I"⟩ : MethodName)) hown (mvT hZ (hw _ (List.mem_of_getElem? (i := 20) rfl))) (mvT hZ (hw _ (List.mem_of_getElem? (i := 21) rfl))) (mvT hZ (hw _ (List.mem_of_getElem? (i := 18) rfl))) (mvT hZ (hw _ (List.mem_of_getElem? (i := 22) rfl))) (by decide) (backOf (W := 1) (rm3 l Z a0 hw [] c1 (215 : Int32) T14.heap n0 zz14) hZ (hw _ (List.mem_of_getElem? (i := 22) rfl)) (hw _ (List.mem_of_getElem? (i := 18) rfl)) (by decide) (by decide)) (g := (mkF m 71 #[.val (.int c1), .val (.int m7)] [(.int (215 : Int32)), (.int c1), (.int m7)])) rfl (by rw [hml]; rfl) (argsL := [(.int c1), (.int (215 : Int32))]) (rest := [(.int m7)]) (lenOf pd_0 rfl) rfl (by show 2 * 0 + _ ≤ _; exact Nat.le_of_eq rfl) (hb hby d2_71) (fun _ _ => ⟨rfl, rfl, (by decide : 0 + 0 ≤ _), (by decide : 0 + 0 ≤ _)⟩)
  dsimp only [Pt.U, Pt.locs, Pt.cells, Pt.slots] at X16 l16 y16 z16 st16 hQ16
  subst l16 y16 z16
  obtain ⟨rfl, N16q, h16⟩ := hQ16
  have N16 := Fr.app Nx14 N16q
  obtain ⟨Lx16, X16, Nx16⟩ : ∃ L, Stand p l e ({ frames := 1, cells := 0, slots := 0, locals := 14 } : Room) s m #[(.int c1)] below meth c T16 L 0 0 ∧ Fr n0 L := ⟨_, X16.more (by decide) (by decide), N16⟩
  have zz16 : n0 ≤ T16.heap.size := by rw [h16]; exact zz14
  obtain ⟨m8, hm8⟩ : ∃ z, z = (m7 + (own_ge c1 (215 : Int32))) := ⟨_, rfl⟩
  have q16 : T16.heap = h0 := h16.trans q14
  have pre17 : ∀ tt, Steps p.tables e below (T16.setTop (mkF m 81 #[.val (.int c1), .val (.int m8)] [(.int (216 : Int32)), (.int c1), (.int m8)])) tt → Steps p.tables e below (s₁.setTop (entryFrame m #[(.int c1)] 2)) tt := by
    intro tt kt
    refine pre15 tt ?_
    show Steps p.tables e below (T14.setTop (mkF m 71 #[.val (.int c1), .val (.int m7)] [(.int (215 : Int32)), (.int c1), (.int m7)])) _
    refine st16 _ ?_
    show Steps p.tables e below (T16.setTop (mkF m 74 #[.val (.int c1), .val (.int m7)] [(.int (own_ge c1 (215 : Int32))), (.int m7)])) _
    refine XS.iadd X16.here hx rfl (hb hby d2_74) rfl ?_
    show Steps p.tables e below (T16.setTop (mkF m 75 #[.val (.int c1), .val (.int m7)] [(.int (m7 + (own_ge c1 (215 : Int32))))])) _
    rw [← hm8]
    show Steps p.tables e below (T16.setTop (mkF m 75 #[.val (.int c1), .val (.int m7)] [(.int m8)])) _
    refine XS.istoreN X16.here hx rfl (hb hby d2_75) rfl (l' := #[.val (.int c1), .val (.int m8)]) rfl ?_
    show Steps p.tables e below (T16.setTop (mkF m 76 #[.val (.int c1), .val (.int m8)] [])) _
    refine XS.iloadN X16.here hx rfl (hb hby d2_76) rfl ?_
    show Steps p.tables e below (T16.setTop (mkF m 77 #[.val (.int c1), .val (.int m8)] [(.int m8)])) _
    refine XS.iloadN X16.here hx rfl (hb hby d2_77) rfl ?_
    show Steps p.tables e below (T16.setTop (mkF m 78 #[.val (.int c1), .val (.int m8)] [(.int c1), (.int m8)])) _
    refine XS.sipush X16.here hx rfl (hb hby d2_78) ?_
    exact kt
  obtain ⟨_, _, ⟨T18, L18, k18, n18⟩, -, X18, ⟨Lc18, hQ18, l18, y18, z18⟩, st18⟩ := Jvm.LawKit.callS X16 hx (y := (⟨"com/example/uliza/uliza/model/XmlCharsIsNameStartPinLaw", "ge", "(II)I"⟩ : MethodName)) hown (mvT hZ (hw _ (List.mem_of_getElem? (i := 20) rfl))) (mvT hZ (hw _ (List.mem_of_getElem? (i := 21) rfl))) (mvT hZ (hw _ (List.mem_of_getElem? (i := 18) rfl))) (mvT hZ (hw _ (List.mem_of_getElem? (i := 22) rfl))) (by decide) (backOf (W := 1) (rm3 l Z a0 hw [] c1 (216 : Int32) T16.heap n0 zz16) hZ (hw _ (List.mem_of_getElem? (i := 22) rfl)) (hw _ (List.mem_of_getElem? (i := 18) rfl)) (by decide) (by decide)) (g := (mkF m 81 #[.val (.int c1), .val (.int m8)] [(.int (216 : Int32)), (.int c1), (.int m8)])) rfl (by rw [hml]; rfl) (argsL := [(.int c1), (.int (216 : Int32))]) (rest := [(.int m8)]) (lenOf pd_0 rfl) rfl (by show 2 * 0 + _ ≤ _; exact Nat.le_of_eq rfl) (hb hby d2_81) (fun _ _ => ⟨rfl, rfl, (by decide : 0 + 0 ≤ _), (by decide : 0 + 0 ≤ _)⟩)
  dsimp only [Pt.U, Pt.locs, Pt.cells, Pt.slots] at X18 l18 y18 z18 st18 hQ18
  subst l18 y18 z18
  obtain ⟨rfl, N18q, h18⟩ := hQ18
  have N18 := Fr.app Nx16 N18q
  obtain ⟨Lx18, X18, Nx18⟩ : ∃ L, Stand p l e ({ frames := 1, cells := 0, slots := 0, locals := 14 } : Room) s m #[(.int c1)] below meth c T18 L 0 0 ∧ Fr n0 L := ⟨_, X18.more (by decide) (by decide), N18⟩
  have zz18 : n0 ≤ T18.heap.size := by rw [h18]; exact zz16
  obtain ⟨m9, hm9⟩ : ∃ z, z = (m8 + (own_ge c1 (216 : Int32))) := ⟨_, rfl⟩
  have q18 : T18.heap = h0 := h18.trans q16
  have pre19 : ∀ tt, Steps p.tables e below (T18.setTop (mkF m 91 #[.val (.int c1), .val (.int m9)] [(.int (247 : Int32)), (.int c1), (.int m9)])) tt → Steps p.tables e below (s₁.setTop (entryFrame m #[(.int c1)] 2)) tt := by
    intro tt kt
    refine pre17 tt ?_
    show Steps p.tables e below (T16.setTop (mkF m 81 #[.val (.int c1), .val (.int m8)] [(.int (216 : Int32)), (.int c1), (.int m8)])) _
    refine st18 _ ?_
    show Steps p.tables e below (T18.setTop (mkF m 84 #[.val (.int c1), .val (.int m8)] [(.int (own_ge c1 (216 : Int32))), (.int m8)])) _
    refine XS.iadd X18.here hx rfl (hb hby d2_84) rfl ?_
    show Steps p.tables e below (T18.setTop (mkF m 85 #[.val (.int c1), .val (.int m8)] [(.int (m8 + (own_ge c1 (216 : Int32))))])) _
    rw [← hm9]
    show Steps p.tables e below (T18.setTop (mkF m 85 #[.val (.int c1), .val (.int m8)] [(.int m9)])) _
    refine XS.istoreN X18.here hx rfl (hb hby d2_85) rfl (l' := #[.val (.int c1), .val (.int m9)]) rfl ?_
    show Steps p.tables e below (T18.setTop (mkF m 86 #[.val (.int c1), .val (.int m9)] [])) _
    refine XS.iloadN X18.here hx rfl (hb hby d2_86) rfl ?_
    show Steps p.tables e below (T18.setTop (mkF m 87 #[.val (.int c1), .val (.int m9)] [(.int m9)])) _
    refine XS.iloadN X18.here hx rfl (hb hby d2_87) rfl ?_
    show Steps p.tables e below (T18.setTop (mkF m 88 #[.val (.int c1), .val (.int m9)] [(.int c1), (.int m9)])) _
    refine XS.sipush X18.here hx rfl (hb hby d2_88) ?_
    exact kt
  obtain ⟨_, _, ⟨T20, L20, k20, n20⟩, -, X20, ⟨Lc20, hQ20, l20, y20, z20⟩, st20⟩ := Jvm.LawKit.callS X18 hx (y := (⟨"com/example/uliza/uliza/model/XmlCharsIsNameStartPinLaw", "ge", "(II)I"⟩ : MethodName)) hown (mvT hZ (hw _ (List.mem_of_getElem? (i := 20) rfl))) (mvT hZ (hw _ (List.mem_of_getElem? (i := 21) rfl))) (mvT hZ (hw _ (List.mem_of_getElem? (i := 18) rfl))) (mvT hZ (hw _ (List.mem_of_getElem? (i := 22) rfl))) (by decide) (backOf (W := 1) (rm3 l Z a0 hw [] c1 (247 : Int32) T18.heap n0 zz18) hZ (hw _ (List.mem_of_getElem? (i := 22) rfl)) (hw _ (List.mem_of_getElem? (i := 18) rfl)) (by decide) (by decide)) (g := (mkF m 91 #[.val (.int c1), .val (.int m9)] [(.int (247 : Int32)), (.int c1), (.int m9)])) rfl (by rw [hml]; rfl) (argsL := [(.int c1), (.int (247 : Int32))]) (rest := [(.int m9)]) (lenOf pd_0 rfl) rfl (by show 2 * 0 + _ ≤ _; exact Nat.le_of_eq rfl) (hb hby d2_91) (fun _ _ => ⟨rfl, rfl, (by decide : 0 + 0 ≤ _), (by decide : 0 + 0 ≤ _)⟩)
  dsimp only [Pt.U, Pt.locs, Pt.cells, Pt.slots] at X20 l20 y20 z20 st20 hQ20
  subst l20 y20 z20
  obtain ⟨rfl, N20q, h20⟩ := hQ20
  have N20 := Fr.app Nx18 N20q
  obtain ⟨Lx20, X20, Nx20⟩ : ∃ L, Stand p l e ({ frames := 1, cells := 0, slots := 0, locals := 14 } : Room) s m #[(.int c1)] below meth c T20 L 0 0 ∧ Fr n0 L := ⟨_, X20.more (by decide) (by decide), N20⟩
  have zz20 : n0 ≤ T20.heap.size := by rw [h20]; exact zz18
  obtain ⟨m10, hm10⟩ : ∃ z, z = (m9 + (own_ge c1 (247 : Int32))) := ⟨_, rfl⟩
  have q20 : T20.heap = h0 := h20.trans q18
  have pre21 : ∀ tt, Steps p.tables e below (T20.setTop (mkF m 101 #[.val (.int c1), .val (.int m10)] [(.int (248 : Int32)), (.int c1), (.int m10)])) tt → Steps p.tables e below (s₁.setTop (entryFrame m #[(.int c1)] 2)) tt := by
    intro tt kt
    refine pre19 tt ?_
    show Steps p.tables e below (T18.setTop (mkF m 91 #[.val (.int c1), .val (.int m9)] [(.int (247 : Int32)), (.int c1), (.int m9)])) _
    refine st20 _ ?_
    show Steps p.tables e below (T20.setTop (mkF m 94 #[.val (.int c1), .val (.int m9)] [(.int (own_ge c1 (247 : Int32))), (.int m9)])) _
    refine XS.iadd X20.here hx rfl (hb hby d2_94) rfl ?_
    show Steps p.tables e below (T20.setTop (mkF m 95 #[.val (.int c1), .val (.int m9)] [(.int (m9 + (own_ge c1 (247 : Int32))))])) _
    rw [← hm10]
    show Steps p.tables e below (T20.setTop (mkF m 95 #[.val (.int c1), .val (.int m9)] [(.int m10)])) _
    refine XS.istoreN X20.here hx rfl (hb hby d2_95) rfl (l' := #[.val (.int c1), .val (.int m10)]) rfl ?_
    show Steps p.tables e below (T20.setTop (mkF m 96 #[.val (.int c1), .val (.int m10)] [])) _
    refine XS.iloadN X20.here hx rfl (hb hby d2_96) rfl ?_
    show Steps p.tables e below (T20.setTop (mkF m 97 #[.val (.int c1), .val (.int m10)] [(.int m10)])) _
    refine XS.iloadN X20.here hx rfl (hb hby d2_97) rfl ?_
    show Steps p.tables e below (T20.setTop (mkF m 98 #[.val (.int c1), .val (.int m10)] [(.int c1), (.int m10)])) _
    refine XS.sipush X20.here hx rfl (hb hby d2_98) ?_
    exact kt
  obtain ⟨_, _, ⟨T22, L22, k22, n22⟩, -, X22, ⟨Lc22, hQ22, l22, y22, z22⟩, st22⟩ := Jvm.LawKit.callS X20 hx (y := (⟨"com/example/uliza/uliza/model/XmlCharsIsNameStartPinLaw", "ge", "(II)I"⟩ : MethodName)) hown (mvT hZ (hw _ (List.mem_of_getElem? (i := 20) rfl))) (mvT hZ (hw _ (List.mem_of_getElem? (i := 21) rfl))) (mvT hZ (hw _ (List.mem_of_getElem? (i := 18) rfl))) (mvT hZ (hw _ (List.mem_of_getElem? (i := 22) rfl))) (by decide) (backOf (W := 1) (rm3 l Z a0 hw [] c1 (248 : Int32) T20.heap n0 zz20) hZ (hw _ (List.mem_of_getElem? (i := 22) rfl)) (hw _ (List.mem_of_getElem? (i := 18) rfl)) (by decide) (by decide)) (g := (mkF m 101 #[.val (.int c1), .val (.int m10)] [(.int (248 : Int32)), (.int c1), (.int m10)])) rfl (by rw [hml]; rfl) (argsL := [(.int c1), (.int (248 : Int32))]) (rest := [(.int m10)]) (lenOf pd_0 rfl) rfl (by show 2 * 0 + _ ≤ _; exact Nat.le_of_eq rfl) (hb hby d2_101) (fun _ _ => ⟨rfl, rfl, (by decide : 0 + 0 ≤ _), (by decide : 0 + 0 ≤ _)⟩)
  dsimp only [Pt.U, Pt.locs, Pt.cells, Pt.slots] at X22 l22 y22 z22 st22 hQ22
  subst l22 y22 z22
  obtain ⟨rfl, N22q, h22⟩ := hQ22
  have N22 := Fr.app Nx20 N22q
  obtain ⟨Lx22, X22, Nx22⟩ : ∃ L, Stand p l e ({ frames := 1, cells := 0, slots := 0, locals := 14 } : Room) s m #[(.int c1)] below meth c T22 L 0 0 ∧ Fr n0 L := ⟨_, X22.more (by decide) (by decide), N22⟩
  have zz22 : n0 ≤ T22.heap.size := by rw [h22]; exact zz20
  obtain ⟨m11, hm11⟩ : ∃ z, z = (m10 + (own_ge c1 (248 : Int32))) := ⟨_, rfl⟩
  have q22 : T22.heap = h0 := h22.trans q20
  have pre23 : ∀ tt, Steps p.tables e below (T22.setTop (mkF m 111 #[.val (.int c1), .val (.int m11)] [(.int (768 : Int32)), (.int c1), (.int m11)])) tt → Steps p.tables e below (s₁.setTop (entryFrame m #[(.int c1)] 2)) tt := by
    intro tt kt
    refine pre21 tt ?_
    show Steps p.tables e below (T20.setTop (mkF m 101 #[.val (.int c1), .val (.int m10)] [(.int (248 : Int32)), (.int c1), (.int m10)])) _
    refine st22 _ ?_
    show Steps p.tables e below (T22.setTop (mkF m 104 #[.val (.int c1), .val (.int m10)] [(.int (own_ge c1 (248 : Int32))), (.int m10)])) _
    refine XS.iadd X22.here hx rfl (hb hby d2_104) rfl ?_
    show Steps p.tables e below (T22.setTop (mkF m 105 #[.val (.int c1), .val (.int m10)] [(.int (m10 + (own_ge c1 (248 : Int32))))])) _
    rw [← hm11]
    show Steps p.tables e below (T22.setTop (mkF m 105 #[.val (.int c1), .val (.int m10)] [(.int m11)])) _
    refine XS.istoreN X22.here hx rfl (hb hby d2_105) rfl (l' := #[.val (.int c1), .val (.int m11)]) rfl ?_
    show Steps p.tables e below (T22.setTop (mkF m 106 #[.val (.int c1), .val (.int m11)] [])) _
    refine XS.iloadN X22.here hx rfl (hb hby d2_106) rfl ?_
    show Steps p.tables e below (T22.setTop (mkF m 107 #[.val (.int c1), .val (.int m11)] [(.int m11)])) _
    refine XS.iloadN X22.here hx rfl (hb hby d2_107) rfl ?_
    show Steps p.tables e below (T22.setTop (mkF m 108 #[.val (.int c1), .val (.int m11)] [(.int c1), (.int m11)])) _
    refine XS.sipush X22.here hx rfl (hb hby d2_108) ?_
    exact kt
  obtain ⟨_, _, ⟨T24, L24, k24, n24⟩, -, X24, ⟨Lc24, hQ24, l24, y24, z24⟩, st24⟩ := Jvm.LawKit.callS X22 hx (y := (⟨"com/example/uliza/uliza/model/XmlCharsIsNameStartPinLaw", "ge", "(II)I"⟩ : MethodName)) hown (mvT hZ (hw _ (List.mem_of_getElem? (i := 20) rfl))) (mvT hZ (hw _ (List.mem_of_getElem? (i := 21) rfl))) (mvT hZ (hw _ (List.mem_of_getElem? (i := 18) rfl))) (mvT hZ (hw _ (List.mem_of_getElem? (i := 22) rfl))) (by decide) (backOf (W := 1) (rm3 l Z a0 hw [] c1 (768 : Int32) T22.heap n0 zz22) hZ (hw _ (List.mem_of_getElem? (i := 22) rfl)) (hw _ (List.mem_of_getElem? (i := 18) rfl)) (by decide) (by decide)) (g := (mkF m 111 #[.val (.int c1), .val (.int m11)] [(.int (768 : Int32)), (.int c1), (.int m11)])) rfl (by rw [hml]; rfl) (argsL := [(.int c1), (.int (768 : Int32))]) (rest := [(.int m11)]) (lenOf pd_0 rfl) rfl (by show 2 * 0 + _ ≤ _; exact Nat.le_of_eq rfl) (hb hby d2_111) (fun _ _ => ⟨rfl, rfl, (by decide : 0 + 0 ≤ _), (by decide : 0 + 0 ≤ _)⟩)
  dsimp only [Pt.U, Pt.locs, Pt.cells, Pt.slots] at X24 l24 y24 z24 st24 hQ24
  subst l24 y24 z24
  obtain ⟨rfl, N24q, h24⟩ := hQ24
  have N24 := Fr.app Nx22 N24q
  obtain ⟨Lx24, X24, Nx24⟩ : ∃ L, Stand p l e ({ frames := 1, cells := 0, slots := 0, locals := 14 } : Room) s m #[(.int c1)] below meth c T24 L 0 0 ∧ Fr n0 L := ⟨_, X24.more (by decide) (by decide), N24⟩
  have zz24 : n0 ≤ T24.heap.size := by rw [h24]; exact zz22
  obtain ⟨m12, hm12⟩ : ∃ z, z = (m11 + (own_ge c1 (768 : Int32))) := ⟨_, rfl⟩
  have q24 : T24.heap = h0 := h24.trans q22
  have pre25 : ∀ tt, Steps p.tables e below (T24.setTop (mkF m 121 #[.val (.int c1), .val (.int m12)] [(.int (880 : Int32)), (.int c1), (.int m12)])) tt → Steps p.tables e below (s₁.setTop (entryFrame m #[(.int c1)] 2)) tt := by
    intro tt kt
    refine pre23 tt ?_
    show Steps p.tables e below (T22.setTop (mkF m 111 #[.val (.int c1), .val (.int m11)] [(.int (768 : Int32)), (.int c1), (.int m11)])) _
    refine st24 _ ?_
    show Steps p.tables e below (T24.setTop (mkF m 114 #[.val (.int c1), .val (.int m11)] [(.int (own_ge c1 (768 : Int32))), (.int m11)])) _
    refine XS.iadd X24.here hx rfl (hb hby d2_114) rfl ?_
    show Steps p.tables e below (T24.setTop (mkF m 115 #[.val (.int c1), .val (.int m11)] [(.int (m11 + (own_ge c1 (768 : Int32))))])) _
    rw [← hm12]
    show Steps p.tables e below (T24.setTop (mkF m 115 #[.val (.int c1), .val (.int m11)] [(.int m12)])) _
    refine XS.istoreN X24.here hx rfl (hb hby d2_115) rfl (l' := #[.val (.int c1), .val (.int m12)]) rfl ?_
    show Steps p.tables e below (T24.setTop (mkF m 116 #[.val (.int c1), .val (.int m12)] [])) _
    refine XS.iloadN X24.here hx rfl (hb hby d2_116) rfl ?_
    show Steps p.tables e below (T24.setTop (mkF m 117 #[.val (.int c1), .val (.int m12)] [(.int m12)])) _
    refine XS.iloadN X24.here hx rfl (hb hby d2_117) rfl ?_
    show Steps p.tables e below (T24.setTop (mkF m 118 #[.val (.int c1), .val (.int m12)] [(.int c1), (.int m12)])) _
    refine XS.sipush X24.here hx rfl (hb hby d2_118) ?_
    exact kt
  obtain ⟨_, _, ⟨T26, L26, k26, n26⟩, -, X26, ⟨Lc26, hQ26, l26, y26, z26⟩, st26⟩ := Jvm.LawKit.callS X24 hx (y := (⟨"com/example/uliza/uliza/model/XmlCharsIsNameStartPinLaw", "ge", "(II)I"⟩ : MethodName)) hown (mvT hZ (hw _ (List.mem_of_getElem? (i := 20) rfl))) (mvT hZ (hw _ (List.mem_of_getElem? (i := 21) rfl))) (mvT hZ (hw _ (List.mem_of_getElem? (i := 18) rfl))) (mvT hZ (hw _ (List.mem_of_getElem? (i := 22) rfl))) (by decide) (backOf (W := 1) (rm3 l Z a0 hw [] c1 (880 : Int32) T24.heap n0 zz24) hZ (hw _ (List.mem_of_getElem? (i := 22) rfl)) (hw _ (List.mem_of_getElem? (i := 18) rfl)) (by decide) (by decide)) (g := (mkF m 121 #[.val (.int c1), .val (.int m12)] [(.int (880 : Int32)), (.int c1), (.int m12)])) rfl (by rw [hml]; rfl) (argsL := [(.int c1), (.int (880 : Int32))]) (rest := [(.int m12)]) (lenOf pd_0 rfl) rfl (by show 2 * 0 + _ ≤ _; exact Nat.le_of_eq rfl) (hb hby d2_121) (fun _ _ => ⟨rfl, rfl, (by decide : 0 + 0 ≤ _), (by decide : 0 + 0 ≤ _)⟩)
  dsimp only [Pt.U, Pt.locs, Pt.cells, Pt.slots] at X26 l26 y26 z26 st26 hQ26
  subst l26 y26 z26
  obtain ⟨rfl, N26q, h26⟩ := hQ26
  have N26 := Fr.app Nx24 N26q
  obtain ⟨Lx26, X26, Nx26⟩ : ∃ L, Stand p l e ({ frames := 1, cells := 0, slots := 0, locals := 14 } : Room) s m #[(.int c1)] below meth c T26 L 0 0 ∧ Fr n0 L := ⟨_, X26.more (by decide) (by decide), N26⟩
  have zz26 : n0 ≤ T26.heap.size := by rw [h26]; exact zz24
  obtain ⟨m13, hm13⟩ : ∃ z, z = (m12 + (own_ge c1 (880 : Int32))) := ⟨_, rfl⟩
  have q26 : T26.heap = h0 := h26.trans q24
  have pre27 : ∀ tt, Steps p.tables e below (T26.setTop (mkF m 131 #[.val (.int c1), .val (.int m13)] [(.int (894 : Int32)), (.int c1), (.int m13)])) tt → Steps p.tables e below (s₁.setTop (entryFrame m #[(.int c1)] 2)) tt := by
    intro tt kt
    refine pre25 tt ?_
    show Steps p.tables e below (T24.setTop (mkF m 121 #[.val (.int c1), .val (.int m12)] [(.int (880 : Int32)), (.int c1), (.int m12)])) _
    refine st26 _ ?_
    show Steps p.tables e below (T26.setTop (mkF m 124 #[.val (.int c1), .val (.int m12)] [(.int (own_ge c1 (880 : Int32))), (.int m12)])) _
    refine XS.iadd X26.here hx rfl (hb hby d2_124) rfl ?_
    show Steps p.tables e below (T26.setTop (mkF m 125 #[.val (.int c1), .val (.int m12)] [(.int (m12 + (own_ge c1 (880 : Int32))))])) _
    rw [← hm13]
    show Steps p.tables e below (T26.setTop (mkF m 125 #[.val (.int c1), .val (.int m12)] [(.int m13)])) _
    refine XS.istoreN X26.here hx rfl (hb hby d2_125) rfl (l' := #[.val (.int c1), .val (.int m13)]) rfl ?_
    show Steps p.tables e below (T26.setTop (mkF m 126 #[.val (.int c1), .val (.int m13)] [])) _
    refine XS.iloadN X26.here hx rfl (hb hby d2_126) rfl ?_
    show Steps p.tables e below (T26.setTop (mkF m 127 #[.val (.int c1), .val (.int m13)] [(.int m13)])) _
    refine XS.iloadN X26.here hx rfl (hb hby d2_127) rfl ?_
    show Steps p.tables e below (T26.setTop (mkF m 128 #[.val (.int c1), .val (.int m13)] [(.int c1), (.int m13)])) _
    refine XS.sipush X26.here hx rfl (hb hby d2_128) ?_
    exact kt
  obtain ⟨_, _, ⟨T28, L28, k28, n28⟩, -, X28, ⟨Lc28, hQ28, l28, y28, z28⟩, st28⟩ := Jvm.LawKit.callS X26 hx (y := (⟨"com/example/uliza/uliza/model/XmlCharsIsNameStartPinLaw", "ge", "(II)I"⟩ : MethodName)) hown (mvT hZ (hw _ (List.mem_of_getElem? (i := 20) rfl))) (mvT hZ (hw _ (List.mem_of_getElem? (i := 21) rfl))) (mvT hZ (hw _ (List.mem_of_getElem? (i := 18) rfl))) (mvT hZ (hw _ (List.mem_of_getElem? (i := 22) rfl))) (by decide) (backOf (W := 1) (rm3 l Z a0 hw [] c1 (894 : Int32) T26.heap n0 zz26) hZ (hw _ (List.mem_of_getElem? (i := 22) rfl)) (hw _ (List.mem_of_getElem? (i := 18) rfl)) (by decide) (by decide)) (g := (mkF m 131 #[.val (.int c1), .val (.int m13)] [(.int (894 : Int32)), (.int c1), (.int m13)])) rfl (by rw [hml]; rfl) (argsL := [(.int c1), (.int (894 : Int32))]) (rest := [(.int m13)]) (lenOf pd_0 rfl) rfl (by show 2 * 0 + _ ≤ _; exact Nat.le_of_eq rfl) (hb hby d2_131) (fun _ _ => ⟨rfl, rfl, (by decide : 0 + 0 ≤ _), (by decide : 0 + 0 ≤ _)⟩)
  dsimp only [Pt.U, Pt.locs, Pt.cells, Pt.slots] at X28 l28 y28 z28 st28 hQ28
  subst l28 y28 z28
  obtain ⟨rfl, N28q, h28⟩ := hQ28
  have N28 := Fr.app Nx26 N28q
  obtain ⟨Lx28, X28, Nx28⟩ : ∃ L, Stand p l e ({ frames := 1, cells := 0, slots := 0, locals := 14 } : Room) s m #[(.int c1)] below meth c T28 L 0 0 ∧ Fr n0 L := ⟨_, X28.more (by decide) (by decide), N28⟩
  have zz28 : n0 ≤ T28.heap.size := by rw [h28]; exact zz26
  obtain ⟨m14, hm14⟩ : ∃ z, z = (m13 + (own_ge c1 (894 : Int32))) := ⟨_, rfl⟩
  have q28 : T28.heap = h0 := h28.trans q26
  have pre29 : ∀ tt, Steps p.tables e below (T28.setTop (mkF m 141 #[.val (.int c1), .val (.int m14)] [(.int (895 : Int32)), (.int c1), (.int m14)])) tt → Steps p.tables e below (s₁.setTop (entryFrame m #[(.int c1)] 2)) tt := by
    intro tt kt
    refine pre27 tt ?_
    show Steps p.tables e below (T26.setTop (mkF m 131 #[.val (.int c1), .val (.int m13)] [(.int (894 : Int32)), (.int c1), (.int m13)])) _
    refine st28 _ ?_
    show Steps p.tables e below (T28.setTop (mkF m 134 #[.val (.int c1), .val (.int m13)] [(.int (own_ge c1 (894 : Int32))), (.int m13)])) _
    refine XS.iadd X28.here hx rfl (hb hby d2_134) rfl ?_
    show Steps p.tables e below (T28.setTop (mkF m 135 #[.val (.int c1), .val (.int m13)] [(.int (m13 + (own_ge c1 (894 : Int32))))])) _
    rw [← hm14]
    show Steps p.tables e below (T28.setTop (mkF m 135 #[.val (.int c1), .val (.int m13)] [(.int m14)])) _
    refine XS.istoreN X28.here hx rfl (hb hby d2_135) rfl (l' := #[.val (.int c1), .val (.int m14)]) rfl ?_
    show Steps p.tables e below (T28.setTop (mkF m 136 #[.val (.int c1), .val (.int m14)] [])) _
    refine XS.iloadN X28.here hx rfl (hb hby d2_136) rfl ?_
    show Steps p.tables e below (T28.setTop (mkF m 137 #[.val (.int c1), .val (.int m14)] [(.int m14)])) _
    refine XS.iloadN X28.here hx rfl (hb hby d2_137) rfl ?_
    show Steps p.tables e below (T28.setTop (mkF m 138 #[.val (.int c1), .val (.int m14)] [(.int c1), (.int m14)])) _
    refine XS.sipush X28.here hx rfl (hb hby d2_138) ?_
    exact kt
  obtain ⟨_, _, ⟨T30, L30, k30, n30⟩, -, X30, ⟨Lc30, hQ30, l30, y30, z30⟩, st30⟩ := Jvm.LawKit.callS X28 hx (y := (⟨"com/example/uliza/uliza/model/XmlCharsIsNameStartPinLaw", "ge", "(II)I"⟩ : MethodName)) hown (mvT hZ (hw _ (List.mem_of_getElem? (i := 20) rfl))) (mvT hZ (hw _ (List.mem_of_getElem? (i := 21) rfl))) (mvT hZ (hw _ (List.mem_of_getElem? (i := 18) rfl))) (mvT hZ (hw _ (List.mem_of_getElem? (i := 22) rfl))) (by decide) (backOf (W := 1) (rm3 l Z a0 hw [] c1 (895 : Int32) T28.heap n0 zz28) hZ (hw _ (List.mem_of_getElem? (i := 22) rfl)) (hw _ (List.mem_of_getElem? (i := 18) rfl)) (by decide) (by decide)) (g := (mkF m 141 #[.val (.int c1), .val (.int m14)] [(.int (895 : Int32)), (.int c1), (.int m14)])) rfl (by rw [hml]; rfl) (argsL := [(.int c1), (.int (895 : Int32))]) (rest := [(.int m14)]) (lenOf pd_0 rfl) rfl (by show 2 * 0 + _ ≤ _; exact Nat.le_of_eq rfl) (hb hby d2_141) (fun _ _ => ⟨rfl, rfl, (by decide : 0 + 0 ≤ _), (by decide : 0 + 0 ≤ _)⟩)
  dsimp only [Pt.U, Pt.locs, Pt.cells, Pt.slots] at X30 l30 y30 z30 st30 hQ30
  subst l30 y30 z30
  obtain ⟨rfl, N30q, h30⟩ := hQ30
  have N30 := Fr.app Nx28 N30q
  obtain ⟨Lx30, X30, Nx30⟩ : ∃ L, Stand p l e ({ frames := 1, cells := 0, slots := 0, locals := 14 } : Room) s m #[(.int c1)] below meth c T30 L 0 0 ∧ Fr n0 L := ⟨_, X30.more (by decide) (by decide), N30⟩
  have zz30 : n0 ≤ T30.heap.size := by rw [h30]; exact zz28
  obtain ⟨m15, hm15⟩ : ∃ z, z = (m14 + (own_ge c1 (895 : Int32))) := ⟨_, rfl⟩
  have q30 : T30.heap = h0 := h30.trans q28
  have pre31 : ∀ tt, Steps p.tables e below (T30.setTop (mkF m 151 #[.val (.int c1), .val (.int m15)] [(.int (8192 : Int32)), (.int c1), (.int m15)])) tt → Steps p.tables e below (s₁.setTop (entryFrame m #[(.int c1)] 2)) tt := by
    intro tt kt
    refine pre29 tt ?_
    show Steps p.tables e below (T28.setTop (mkF m 141 #[.val (.int c1), .val (.int m14)] [(.int (895 : Int32)), (.int c1), (.int m14)])) _
    refine st30 _ ?_
    show Steps p.tables e below (T30.setTop (mkF m 144 #[.val (.int c1), .val (.int m14)] [(.int (own_ge c1 (895 : Int32))), (.int m14)])) _
    refine XS.iadd X30.here hx rfl (hb hby d2_144) rfl ?_
    show Steps p.tables e below (T30.setTop (mkF m 145 #[.val (.int c1), .val (.int m14)] [(.int (m14 + (own_ge c1 (895 : Int32))))])) _
    rw [← hm15]
    show Steps p.tables e below (T30.setTop (mkF m 145 #[.val (.int c1), .val (.int m14)] [(.int m15)])) _
    refine XS.istoreN X30.here hx rfl (hb hby d2_145) rfl (l' := #[.val (.int c1), .val (.int m15)]) rfl ?_
    show Steps p.tables e below (T30.setTop (mkF m 146 #[.val (.int c1), .val (.int m15)] [])) _
    refine XS.iloadN X30.here hx rfl (hb hby d2_146) rfl ?_
    show Steps p.tables e below (T30.setTop (mkF m 147 #[.val (.int c1), .val (.int m15)] [(.int m15)])) _
    refine XS.iloadN X30.here hx rfl (hb hby d2_147) rfl ?_
    show Steps p.tables e below (T30.setTop (mkF m 148 #[.val (.int c1), .val (.int m15)] [(.int c1), (.int m15)])) _
    refine XS.sipush X30.here hx rfl (hb hby d2_148) ?_
    exact kt
  obtain ⟨_, _, ⟨T32, L32, k32, n32⟩, -, X32, ⟨Lc32, hQ32, l32, y32, z32⟩, st32⟩ := Jvm.LawKit.callS X30 hx (y := (⟨"com/example/uliza/uliza/model/XmlCharsIsNameStartPinLaw", "ge", "(II)I"⟩ : MethodName)) hown (mvT hZ (hw _ (List.mem_of_getElem? (i := 20) rfl))) (mvT hZ (hw _ (List.mem_of_getElem? (i := 21) rfl))) (mvT hZ (hw _ (List.mem_of_getElem? (i := 18) rfl))) (mvT hZ (hw _ (List.mem_of_getElem? (i := 22) rfl))) (by decide) (backOf (W := 1) (rm3 l Z a0 hw [] c1 (8192 : Int32) T30.heap n0 zz30) hZ (hw _ (List.mem_of_getElem? (i := 22) rfl)) (hw _ (List.mem_of_getElem? (i := 18) rfl)) (by decide) (by decide)) (g := (mkF m 151 #[.val (.int c1), .val (.int m15)] [(.int (8192 : Int32)), (.int c1), (.int m15)])) rfl (by rw [hml]; rfl) (argsL := [(.int c1), (.int (8192 : Int32))]) (rest := [(.int m15)]) (lenOf pd_0 rfl) rfl (by show 2 * 0 + _ ≤ _; exact Nat.le_of_eq rfl) (hb hby d2_151) (fun _ _ => ⟨rfl, rfl, (by decide : 0 + 0 ≤ _), (by decide : 0 + 0 ≤ _)⟩)
  dsimp only [Pt.U, Pt.locs, Pt.cells, Pt.slots] at X32 l32 y32 z32 st32 hQ32
  subst l32 y32 z32
  obtain ⟨rfl, N32q, h32⟩ := hQ32
  have N32 := Fr.app Nx30 N32q
  obtain ⟨Lx32, X32, Nx32⟩ : ∃ L, Stand p l e ({ frames := 1, cells := 0, slots := 0, locals := 14 } : Room) s m #[(.int c1)] below meth c T32 L 0 0 ∧ Fr n0 L := ⟨_, X32.more (by decide) (by decide), N32⟩
  have zz32 : n0 ≤ T32.heap.size := by rw [h32]; exact zz30
  obtain ⟨m16, hm16⟩ : ∃ z, z = (m15 + (own_ge c1 (8192 : Int32))) := ⟨_, rfl⟩
  have q32 : T32.heap = h0 := h32.trans q30
  have pre33 : ∀ tt, Steps p.tables e below (T32.setTop (mkF m 161 #[.val (.int c1), .val (.int m16)] [(.int (8204 : Int32)), (.int c1), (.int m16)])) tt → Steps p.tables e below (s₁.setTop (entryFrame m #[(.int c1)] 2)) tt := by
    intro tt kt
    refine pre31 tt ?_
    show Steps p.tables e below (T30.setTop (mkF m 151 #[.val (.int c1), .val (.int m15)] [(.int (8192 : Int32)), (.int c1), (.int m15)])) _
    refine st32 _ ?_
    show Steps p.tables e below (T32.setTop (mkF m 154 #[.val (.int c1), .val (.int m15)] [(.int (own_ge c1 (8192 : Int32))), (.int m15)])) _
    refine XS.iadd X32.here hx rfl (hb hby d2_154) rfl ?_
    show Steps p.tables e below (T32.setTop (mkF m 155 #[.val (.int c1), .val (.int m15)] [(.int (m15 + (own_ge c1 (8192 : Int32))))])) _
    rw [← hm16]
    show Steps p.tables e below (T32.setTop (mkF m 155 #[.val (.int c1), .val (.int m15)] [(.int m16)])) _
    refine XS.istoreN X32.here hx rfl (hb hby d2_155) rfl (l' := #[.val (.int c1), .val (.int m16)]) rfl ?_
    show Steps p.tables e below (T32.setTop (mkF m 156 #[.val (.int c1), .val (.int m16)] [])) _
    refine XS.iloadN X32.here hx rfl (hb hby d2_156) rfl ?_
    show Steps p.tables e below (T32.setTop (mkF m 157 #[.val (.int c1), .val (.int m16)] [(.int m16)])) _
    refine XS.iloadN X32.here hx rfl (hb hby d2_157) rfl ?_
    show Steps p.tables e below (T32.setTop (mkF m 158 #[.val (.int c1), .val (.int m16)] [(.int c1), (.int m16)])) _
    refine XS.sipush X32.here hx rfl (hb hby d2_158) ?_
    exact kt
  obtain ⟨_, _, ⟨T34, L34, k34, n34⟩, -, X34, ⟨Lc34, hQ34, l34, y34, z34⟩, st34⟩ := Jvm.LawKit.callS X32 hx (y := (⟨"com/example/uliza/uliza/model/XmlCharsIsNameStartPinLaw", "ge", "(II)I"⟩ : MethodName)) hown (mvT hZ (hw _ (List.mem_of_getElem? (i := 20) rfl))) (mvT hZ (hw _ (List.mem_of_getElem? (i := 21) rfl))) (mvT hZ (hw _ (List.mem_of_getElem? (i := 18) rfl))) (mvT hZ (hw _ (List.mem_of_getElem? (i := 22) rfl))) (by decide) (backOf (W := 1) (rm3 l Z a0 hw [] c1 (8204 : Int32) T32.heap n0 zz32) hZ (hw _ (List.mem_of_getElem? (i := 22) rfl)) (hw _ (List.mem_of_getElem? (i := 18) rfl)) (by decide) (by decide)) (g := (mkF m 161 #[.val (.int c1), .val (.int m16)] [(.int (8204 : Int32)), (.int c1), (.int m16)])) rfl (by rw [hml]; rfl) (argsL := [(.int c1), (.int (8204 : Int32))]) (rest := [(.int m16)]) (lenOf pd_0 rfl) rfl (by show 2 * 0 + _ ≤ _; exact Nat.le_of_eq rfl) (hb hby d2_161) (fun _ _ => ⟨rfl, rfl, (by decide : 0 + 0 ≤ _), (by decide : 0 + 0 ≤ _)⟩)
  dsimp only [Pt.U, Pt.locs, Pt.cells, Pt.slots] at X34 l34 y34 z34 st34 hQ34
  subst l34 y34 z34
  obtain ⟨rfl, N34q, h34⟩ := hQ34
  have N34 := Fr.app Nx32 N34q
  obtain ⟨Lx34, X34, Nx34⟩ : ∃ L, Stand p l e ({ frames := 1, cells := 0, slots := 0, locals := 14 } : Room) s m #[(.int c1)] below meth c T34 L 0 0 ∧ Fr n0 L := ⟨_, X34.more (by decide) (by decide), N34⟩
  have zz34 : n0 ≤ T34.heap.size := by rw [h34]; exact zz32
  obtain ⟨m17, hm17⟩ : ∃ z, z = (m16 + (own_ge c1 (8204 : Int32))) := ⟨_, rfl⟩
  have q34 : T34.heap = h0 := h34.trans q32
  have pre35 : ∀ tt, Steps p.tables e below (T34.setTop (mkF m 171 #[.val (.int c1), .val (.int m17)] [(.int (8206 : Int32)), (.int c1), (.int m17)])) tt → Steps p.tables e below (s₁.setTop (entryFrame m #[(.int c1)] 2)) tt := by
    intro tt kt
    refine pre33 tt ?_
    show Steps p.tables e below (T32.setTop (mkF m 161 #[.val (.int c1), .val (.int m16)] [(.int (8204 : Int32)), (.int c1), (.int m16)])) _
    refine st34 _ ?_
    show Steps p.tables e below (T34.setTop (mkF m 164 #[.val (.int c1), .val (.int m16)] [(.int (own_ge c1 (8204 : Int32))), (.int m16)])) _
    refine XS.iadd X34.here hx rfl (hb hby d2_164) rfl ?_
    show Steps p.tables e below (T34.setTop (mkF m 165 #[.val (.int c1), .val (.int m16)] [(.int (m16 + (own_ge c1 (8204 : Int32))))])) _
    rw [← hm17]
    show Steps p.tables e below (T34.setTop (mkF m 165 #[.val (.int c1), .val (.int m16)] [(.int m17)])) _
    refine XS.istoreN X34.here hx rfl (hb hby d2_165) rfl (l' := #[.val (.int c1), .val (.int m17)]) rfl ?_
    show Steps p.tables e below (T34.setTop (mkF m 166 #[.val (.int c1), .val (.int m17)] [])) _
    refine XS.iloadN X34.here hx rfl (hb hby d2_166) rfl ?_
    show Steps p.tables e below (T34.setTop (mkF m 167 #[.val (.int c1), .val (.int m17)] [(.int m17)])) _
    refine XS.iloadN X34.here hx rfl (hb hby d2_167) rfl ?_
    show Steps p.tables e below (T34.setTop (mkF m 168 #[.val (.int c1), .val (.int m17)] [(.int c1), (.int m17)])) _
    refine XS.sipush X34.here hx rfl (hb hby d2_168) ?_
    exact kt
  obtain ⟨_, _, ⟨T36, L36, k36, n36⟩, -, X36, ⟨Lc36, hQ36, l36, y36, z36⟩, st36⟩ := Jvm.LawKit.callS X34 hx (y := (⟨"com/example/uliza/uliza/model/XmlCharsIsNameStartPinLaw", "ge", "(II)I"⟩ : MethodName)) hown (mvT hZ (hw _ (List.mem_of_getElem? (i := 20) rfl))) (mvT hZ (hw _ (List.mem_of_getElem? (i := 21) rfl))) (mvT hZ (hw _ (List.mem_of_getElem? (i := 18) rfl))) (mvT hZ (hw _ (List.mem_of_getElem? (i := 22) rfl))) (by decide) (backOf (W := 1) (rm3 l Z a0 hw [] c1 (8206 : Int32) T34.heap n0 zz34) hZ (hw _ (List.mem_of_getElem? (i := 22) rfl)) (hw _ (List.mem_of_getElem? (i := 18) rfl)) (by decide) (by decide)) (g := (mkF m 171 #[.val (.int c1), .val (.int m17)] [(.int (8206 : Int32)), (.int c1), (.int m17)])) rfl (by rw [hml]; rfl) (argsL := [(.int c1), (.int (8206 : Int32))]) (rest := [(.int m17)]) (lenOf pd_0 rfl) rfl (by show 2 * 0 + _ ≤ _; exact Nat.le_of_eq rfl) (hb hby d2_171) (fun _ _ => ⟨rfl, rfl, (by decide : 0 + 0 ≤ _), (by decide : 0 + 0 ≤ _)⟩)
  dsimp only [Pt.U, Pt.locs, Pt.cells, Pt.slots] at X36 l36 y36 z36 st36 hQ36
  subst l36 y36 z36
  obtain ⟨rfl, N36q, h36⟩ := hQ36
  have N36 := Fr.app Nx34 N36q
  obtain ⟨Lx36, X36, Nx36⟩ : ∃ L, Stand p l e ({ frames := 1, cells := 0, slots := 0, locals := 14 } : Room) s m #[(.int c1)] below meth c T36 L 0 0 ∧ Fr n0 L := ⟨_, X36.more (by decide) (by decide), N36⟩
  have zz36 : n0 ≤ T36.heap.size := by rw [h36]; exact zz34
  obtain ⟨m18, hm18⟩ : ∃ z, z = (m17 + (own_ge c1 (8206 : Int32))) := ⟨_, rfl⟩
  have q36 : T36.heap = h0 := h36.trans q34
  have pre37 : ∀ tt, Steps p.tables e below (T36.setTop (mkF m 181 #[.val (.int c1), .val (.int m18)] [(.int (8304 : Int32)), (.int c1), (.int m18)])) tt → Steps p.tables e below (s₁.setTop (entryFrame m #[(.int c1)] 2)) tt := by
    intro tt kt
    refine pre35 tt ?_
    show Steps p.tables e below (T34.setTop (mkF m 171 #[.val (.int c1), .val (.int m17)] [(.int (8206 : Int32)), (.int c1), (.int m17)])) _
    refine st36 _ ?_
    show Steps p.tables e below (T36.setTop (mkF m 174 #[.val (.int c1), .val (.int m17)] [(.int (own_ge c1 (8206 : Int32))), (.int m17)])) _
    refine XS.iadd X36.here hx rfl (hb hby d2_174) rfl ?_
    show Steps p.tables e below (T36.setTop (mkF m 175 #[.val (.int c1), .val (.int m17)] [(.int (m17 + (own_ge c1 (8206 : Int32))))])) _
    rw [← hm18]
    show Steps p.tables e below (T36.setTop (mkF m 175 #[.val (.int c1), .val (.int m17)] [(.int m18)])) _
    refine XS.istoreN X36.here hx rfl (hb hby d2_175) rfl (l' := #[.val (.int c1), .val (.int m18)]) rfl ?_
    show Steps p.tables e below (T36.setTop (mkF m 176 #[.val (.int c1), .val (.int m18)] [])) _
    refine XS.iloadN X36.here hx rfl (hb hby d2_176) rfl ?_
    show Steps p.tables e below (T36.setTop (mkF m 177 #[.val (.int c1), .val (.int m18)] [(.int m18)])) _
    refine XS.iloadN X36.here hx rfl (hb hby d2_177) rfl ?_
    show Steps p.tables e below (T36.setTop (mkF m 178 #[.val (.int c1), .val (.int m18)] [(.int c1), (.int m18)])) _
    refine XS.sipush X36.here hx rfl (hb hby d2_178) ?_
    exact kt
  obtain ⟨_, _, ⟨T38, L38, k38, n38⟩, -, X38, ⟨Lc38, hQ38, l38, y38, z38⟩, st38⟩ := Jvm.LawKit.callS X36 hx (y := (⟨"com/example/uliza/uliza/model/XmlCharsIsNameStartPinLaw", "ge", "(II)I"⟩ : MethodName)) hown (mvT hZ (hw _ (List.mem_of_getElem? (i := 20) rfl))) (mvT hZ (hw _ (List.mem_of_getElem? (i := 21) rfl))) (mvT hZ (hw _ (List.mem_of_getElem? (i := 18) rfl))) (mvT hZ (hw _ (List.mem_of_getElem? (i := 22) rfl))) (by decide) (backOf (W := 1) (rm3 l Z a0 hw [] c1 (8304 : Int32) T36.heap n0 zz36) hZ (hw _ (List.mem_of_getElem? (i := 22) rfl)) (hw _ (List.mem_of_getElem? (i := 18) rfl)) (by decide) (by decide)) (g := (mkF m 181 #[.val (.int c1), .val (.int m18)] [(.int (8304 : Int32)), (.int c1), (.int m18)])) rfl (by rw [hml]; rfl) (argsL := [(.int c1), (.int (8304 : Int32))]) (rest := [(.int m18)]) (lenOf pd_0 rfl) rfl (by show 2 * 0 + _ ≤ _; exact Nat.le_of_eq rfl) (hb hby d2_181) (fun _ _ => ⟨rfl, rfl, (by decide : 0 + 0 ≤ _), (by decide : 0 + 0 ≤ _)⟩)
  dsimp only [Pt.U, Pt.locs, Pt.cells, Pt.slots] at X38 l38 y38 z38 st38 hQ38
  subst l38 y38 z38
  obtain ⟨rfl, N38q, h38⟩ := hQ38
  have N38 := Fr.app Nx36 N38q
  obtain ⟨Lx38, X38, Nx38⟩ : ∃ L, Stand p l e ({ frames := 1, cells := 0, slots := 0, locals := 14 } : Room) s m #[(.int c1)] below meth c T38 L 0 0 ∧ Fr n0 L := ⟨_, X38.more (by decide) (by decide), N38⟩
  have zz38 : n0 ≤ T38.heap.size := by rw [h38]; exact zz36
  obtain ⟨m19, hm19⟩ : ∃ z, z = (m18 + (own_ge c1 (8304 : Int32))) := ⟨_, rfl⟩
  have q38 : T38.heap = h0 := h38.trans q36
  have pre39 : ∀ tt, Steps p.tables e below (T38.setTop (mkF m 191 #[.val (.int c1), .val (.int m19)] [(.int (8592 : Int32)), (.int c1), (.int m19)])) tt → Steps p.tables e below (s₁.setTop (entryFrame m #[(.int c1)] 2)) tt := by
    intro tt kt
    refine pre37 tt ?_
    show Steps p.tables e below (T36.setTop (mkF m 181 #[.val (.int c1), .val (.int m18)] [(.int (8304 : Int32)), (.int c1), (.int m18)])) _
    refine st38 _ ?_
    show Steps p.tables e below (T38.setTop (mkF m 184 #[.val (.int c1), .val (.int m18)] [(.int (own_ge c1 (8304 : Int32))), (.int m18)])) _
    refine XS.iadd X38.here hx rfl (hb hby d2_184) rfl ?_
    show Steps p.tables e below (T38.setTop (mkF m 185 #[.val (.int c1), .val (.int m18)] [(.int (m18 + (own_ge c1 (8304 : Int32))))])) _
    rw [← hm19]
    show Steps p.tables e below (T38.setTop (mkF m 185 #[.val (.int c1), .val (.int m18)] [(.int m19)])) _
    refine XS.istoreN X38.here hx rfl (hb hby d2_185) rfl (l' := #[.val (.int c1), .val (.int m19)]) rfl ?_
    show Steps p.tables e below (T38.setTop (mkF m 186 #[.val (.int c1), .val (.int m19)] [])) _
    refine XS.iloadN X38.here hx rfl (hb hby d2_186) rfl ?_
    show Steps p.tables e below (T38.setTop (mkF m 187 #[.val (.int c1), .val (.int m19)] [(.int m19)])) _
    refine XS.iloadN X38.here hx rfl (hb hby d2_187) rfl ?_
    show Steps p.tables e below (T38.setTop (mkF m 188 #[.val (.int c1), .val (.int m19)] [(.int c1), (.int m19)])) _
    refine XS.sipush X38.here hx rfl (hb hby d2_188) ?_
    exact kt
  obtain ⟨_, _, ⟨T40, L40, k40, n40⟩, -, X40, ⟨Lc40, hQ40, l40, y40, z40⟩, st40⟩ := Jvm.LawKit.callS X38 hx (y := (⟨"com/example/uliza/uliza/model/XmlCharsIsNameStartPinLaw", "ge", "(II)I"⟩ : MethodName)) hown (mvT hZ (hw _ (List.mem_of_getElem? (i := 20) rfl))) (mvT hZ (hw _ (List.mem_of_getElem? (i := 21) rfl))) (mvT hZ (hw _ (List.mem_of_getElem? (i := 18) rfl))) (mvT hZ (hw _ (List.mem_of_getElem? (i := 22) rfl))) (by decide) (backOf (W := 1) (rm3 l Z a0 hw [] c1 (8592 : Int32) T38.heap n0 zz38) hZ (hw _ (List.mem_of_getElem? (i := 22) rfl)) (hw _ (List.mem_of_getElem? (i := 18) rfl)) (by decide) (by decide)) (g := (mkF m 191 #[.val (.int c1), .val (.int m19)] [(.int (8592 : Int32)), (.int c1), (.int m19)])) rfl (by rw [hml]; rfl) (argsL := [(.int c1), (.int (8592 : Int32))]) (rest := [(.int m19)]) (lenOf pd_0 rfl) rfl (by show 2 * 0 + _ ≤ _; exact Nat.le_of_eq rfl) (hb hby d2_191) (fun _ _ => ⟨rfl, rfl, (by decide : 0 + 0 ≤ _), (by decide : 0 + 0 ≤ _)⟩)
  dsimp only [Pt.U, Pt.locs, Pt.cells, Pt.slots] at X40 l40 y40 z40 st40 hQ40
  subst l40 y40 z40
  obtain ⟨rfl, N40q, h40⟩ := hQ40
  have N40 := Fr.app Nx38 N40q
  obtain ⟨Lx40, X40, Nx40⟩ : ∃ L, Stand p l e ({ frames := 1, cells := 0, slots := 0, locals := 14 } : Room) s m #[(.int c1)] below meth c T40 L 0 0 ∧ Fr n0 L := ⟨_, X40.more (by decide) (by decide), N40⟩
  have zz40 : n0 ≤ T40.heap.size := by rw [h40]; exact zz38
  obtain ⟨m20, hm20⟩ : ∃ z, z = (m19 + (own_ge c1 (8592 : Int32))) := ⟨_, rfl⟩
  have q40 : T40.heap = h0 := h40.trans q38
  have pre41 : ∀ tt, Steps p.tables e below (T40.setTop (mkF m 201 #[.val (.int c1), .val (.int m20)] [(.int (11264 : Int32)), (.int c1), (.int m20)])) tt → Steps p.tables e below (s₁.setTop (entryFrame m #[(.int c1)] 2)) tt := by
    intro tt kt
    refine pre39 tt ?_
    show Steps p.tables e below (T38.setTop (mkF m 191 #[.val (.int c1), .val (.int m19)] [(.int (8592 : Int32)), (.int c1), (.int m19)])) _
    refine st40 _ ?_
    show Steps p.tables e below (T40.setTop (mkF m 194 #[.val (.int c1), .val (.int m19)] [(.int (own_ge c1 (8592 : Int32))), (.int m19)])) _
    refine XS.iadd X40.here hx rfl (hb hby d2_194) rfl ?_
    show Steps p.tables e below (T40.setTop (mkF m 195 #[.val (.int c1), .val (.int m19)] [(.int (m19 + (own_ge c1 (8592 : Int32))))])) _
    rw [← hm20]
    show Steps p.tables e below (T40.setTop (mkF m 195 #[.val (.int c1), .val (.int m19)] [(.int m20)])) _
    refine XS.istoreN X40.here hx rfl (hb hby d2_195) rfl (l' := #[.val (.int c1), .val (.int m20)]) rfl ?_
    show Steps p.tables e below (T40.setTop (mkF m 196 #[.val (.int c1), .val (.int m20)] [])) _
    refine XS.iloadN X40.here hx rfl (hb hby d2_196) rfl ?_
    show Steps p.tables e below (T40.setTop (mkF m 197 #[.val (.int c1), .val (.int m20)] [(.int m20)])) _
    refine XS.iloadN X40.here hx rfl (hb hby d2_197) rfl ?_
    show Steps p.tables e below (T40.setTop (mkF m 198 #[.val (.int c1), .val (.int m20)] [(.int c1), (.int m20)])) _
    refine XS.sipush X40.here hx rfl (hb hby d2_198) ?_
    exact kt
  obtain ⟨_, _, ⟨T42, L42, k42, n42⟩, -, X42, ⟨Lc42, hQ42, l42, y42, z42⟩, st42⟩ := Jvm.LawKit.callS X40 hx (y := (⟨"com/example/uliza/uliza/model/XmlCharsIsNameStartPinLaw", "ge", "(II)I"⟩ : MethodName)) hown (mvT hZ (hw _ (List.mem_of_getElem? (i := 20) rfl))) (mvT hZ (hw _ (List.mem_of_getElem? (i := 21) rfl))) (mvT hZ (hw _ (List.mem_of_getElem? (i := 18) rfl))) (mvT hZ (hw _ (List.mem_of_getElem? (i := 22) rfl))) (by decide) (backOf (W := 1) (rm3 l Z a0 hw [] c1 (11264 : Int32) T40.heap n0 zz40) hZ (hw _ (List.mem_of_getElem? (i := 22) rfl)) (hw _ (List.mem_of_getElem? (i := 18) rfl)) (by decide) (by decide)) (g := (mkF m 201 #[.val (.int c1), .val (.int m20)] [(.int (11264 : Int32)), (.int c1), (.int m20)])) rfl (by rw [hml]; rfl) (argsL := [(.int c1), (.int (11264 : Int32))]) (rest := [(.int m20)]) (lenOf pd_0 rfl) rfl (by show 2 * 0 + _ ≤ _; exact Nat.le_of_eq rfl) (hb hby d2_201) (fun _ _ => ⟨rfl, rfl, (by decide : 0 + 0 ≤ _), (by decide : 0 + 0 ≤ _)⟩)
  dsimp only [Pt.U, Pt.locs, Pt.cells, Pt.slots] at X42 l42 y42 z42 st42 hQ42
  subst l42 y42 z42
  obtain ⟨rfl, N42q, h42⟩ := hQ42
  have N42 := Fr.app Nx40 N42q
  obtain ⟨Lx42, X42, Nx42⟩ : ∃ L, Stand p l e ({ frames := 1, cells := 0, slots := 0, locals := 14 } : Room) s m #[(.int c1)] below meth c T42 L 0 0 ∧ Fr n0 L := ⟨_, X42.more (by decide) (by decide), N42⟩
  have zz42 : n0 ≤ T42.heap.size := by rw [h42]; exact zz40
  obtain ⟨m21, hm21⟩ : ∃ z, z = (m20 + (own_ge c1 (11264 : Int32))) := ⟨_, rfl⟩
  have q42 : T42.heap = h0 := h42.trans q40
  have pre43 : ∀ tt, Steps p.tables e below (T42.setTop (mkF m 211 #[.val (.int c1), .val (.int m21)] [(.int (12272 : Int32)), (.int c1), (.int m21)])) tt → Steps p.tables e below (s₁.setTop (entryFrame m #[(.int c1)] 2)) tt := by
    intro tt kt
    refine pre41 tt ?_
    show Steps p.tables e below (T40.setTop (mkF m 201 #[.val (.int c1), .val (.int m20)] [(.int (11264 : Int32)), (.int c1), (.int m20)])) _
    refine st42 _ ?_
    show Steps p.tables e below (T42.setTop (mkF m 204 #[.val (.int c1), .val (.int m20)] [(.int (own_ge c1 (11264 : Int32))), (.int m20)])) _
    refine XS.iadd X42.here hx rfl (hb hby d2_204) rfl ?_
    show Steps p.tables e below (T42.setTop (mkF m 205 #[.val (.int c1), .val (.int m20)] [(.int (m20 + (own_ge c1 (11264 : Int32))))])) _
    rw [← hm21]
    show Steps p.tables e below (T42.setTop (mkF m 205 #[.val (.int c1), .val (.int m20)] [(.int m21)])) _
    refine XS.istoreN X42.here hx rfl (hb hby d2_205) rfl (l' := #[.val (.int c1), .val (.int m21)]) rfl ?_
    show Steps p.tables e below (T42.setTop (mkF m 206 #[.val (.int c1), .val (.int m21)] [])) _
    refine XS.iloadN X42.here hx rfl (hb hby d2_206) rfl ?_
    show Steps p.tables e below (T42.setTop (mkF m 207 #[.val (.int c1), .val (.int m21)] [(.int m21)])) _
    refine XS.iloadN X42.here hx rfl (hb hby d2_207) rfl ?_
    show Steps p.tables e below (T42.setTop (mkF m 208 #[.val (.int c1), .val (.int m21)] [(.int c1), (.int m21)])) _
    refine XS.sipush X42.here hx rfl (hb hby d2_208) ?_
    exact kt
  obtain ⟨_, _, ⟨T44, L44, k44, n44⟩, -, X44, ⟨Lc44, hQ44, l44, y44, z44⟩, st44⟩ := Jvm.LawKit.callS X42 hx (y := (⟨"com/example/uliza/uliza/model/XmlCharsIsNameStartPinLaw", "ge", "(II)I"⟩ : MethodName)) hown (mvT hZ (hw _ (List.mem_of_getElem? (i := 20) rfl))) (mvT hZ (hw _ (List.mem_of_getElem? (i := 21) rfl))) (mvT hZ (hw _ (List.mem_of_getElem? (i := 18) rfl))) (mvT hZ (hw _ (List.mem_of_getElem? (i := 22) rfl))) (by decide) (backOf (W := 1) (rm3 l Z a0 hw [] c1 (12272 : Int32) T42.heap n0 zz42) hZ (hw _ (List.mem_of_getElem? (i := 22) rfl)) (hw _ (List.mem_of_getElem? (i := 18) rfl)) (by decide) (by decide)) (g := (mkF m 211 #[.val (.int c1), .val (.int m21)] [(.int (12272 : Int32)), (.int c1), (.int m21)])) rfl (by rw [hml]; rfl) (argsL := [(.int c1), (.int (12272 : Int32))]) (rest := [(.int m21)]) (lenOf pd_0 rfl) rfl (by show 2 * 0 + _ ≤ _; exact Nat.le_of_eq rfl) (hb hby d2_211) (fun _ _ => ⟨rfl, rfl, (by decide : 0 + 0 ≤ _), (by decide : 0 + 0 ≤ _)⟩)
  dsimp only [Pt.U, Pt.locs, Pt.cells, Pt.slots] at X44 l44 y44 z44 st44 hQ44
  subst l44 y44 z44
  obtain ⟨rfl, N44q, h44⟩ := hQ44
  have N44 := Fr.app Nx42 N44q
  obtain ⟨Lx44, X44, Nx44⟩ : ∃ L, Stand p l e ({ frames := 1, cells := 0, slots := 0, locals := 14 } : Room) s m #[(.int c1)] below meth c T44 L 0 0 ∧ Fr n0 L := ⟨_, X44.more (by decide) (by decide), N44⟩
  have zz44 : n0 ≤ T44.heap.size := by rw [h44]; exact zz42
  obtain ⟨m22, hm22⟩ : ∃ z, z = (m21 + (own_ge c1 (12272 : Int32))) := ⟨_, rfl⟩
  have q44 : T44.heap = h0 := h44.trans q42
  have pre45 : ∀ tt, Steps p.tables e below (T44.setTop (mkF m 221 #[.val (.int c1), .val (.int m22)] [(.int (12289 : Int32)), (.int c1), (.int m22)])) tt → Steps p.tables e below (s₁.setTop (entryFrame m #[(.int c1)] 2)) tt := by
    intro tt kt
    refine pre43 tt ?_
    show Steps p.tables e below (T42.setTop (mkF m 211 #[.val (.int c1), .val (.int m21)] [(.int (12272 : Int32)), (.int c1), (.int m21)])) _
    refine st44 _ ?_
    show Steps p.tables e below (T44.setTop (mkF m 214 #[.val (.int c1), .val (.int m21)] [(.int (own_ge c1 (12272 : Int32))), (.int m21)])) _
    refine XS.iadd X44.here hx rfl (hb hby d2_214) rfl ?_
    show Steps p.tables e below (T44.setTop (mkF m 215 #[.val (.int c1), .val (.int m21)] [(.int (m21 + (own_ge c1 (12272 : Int32))))])) _
    rw [← hm22]
    show Steps p.tables e below (T44.setTop (mkF m 215 #[.val (.int c1), .val (.int m21)] [(.int m22)])) _
    refine XS.istoreN X44.here hx rfl (hb hby d2_215) rfl (l' := #[.val (.int c1), .val (.int m22)]) rfl ?_
    show Steps p.tables e below (T44.setTop (mkF m 216 #[.val (.int c1), .val (.int m22)] [])) _
    refine XS.iloadN X44.here hx rfl (hb hby d2_216) rfl ?_
    show Steps p.tables e below (T44.setTop (mkF m 217 #[.val (.int c1), .val (.int m22)] [(.int m22)])) _
    refine XS.iloadN X44.here hx rfl (hb hby d2_217) rfl ?_
    show Steps p.tables e below (T44.setTop (mkF m 218 #[.val (.int c1), .val (.int m22)] [(.int c1), (.int m22)])) _
    refine XS.sipush X44.here hx rfl (hb hby d2_218) ?_
    exact kt
  obtain ⟨_, _, ⟨T46, L46, k46, n46⟩, -, X46, ⟨Lc46, hQ46, l46, y46, z46⟩, st46⟩ := Jvm.LawKit.callS X44 hx (y := (⟨"com/example/uliza/uliza/model/XmlCharsIsNameStartPinLaw", "ge", "(II)I"⟩ : MethodName)) hown (mvT hZ (hw _ (List.mem_of_getElem? (i := 20) rfl))) (mvT hZ (hw _ (List.mem_of_getElem? (i := 21) rfl))) (mvT hZ (hw _ (List.mem_of_getElem? (i := 18) rfl))) (mvT hZ (hw _ (List.mem_of_getElem? (i := 22) rfl))) (by decide) (backOf (W := 1) (rm3 l Z a0 hw [] c1 (12289 : Int32) T44.heap n0 zz44) hZ (hw _ (List.mem_of_getElem? (i := 22) rfl)) (hw _ (List.mem_of_getElem? (i := 18) rfl)) (by decide) (by decide)) (g := (mkF m 221 #[.val (.int c1), .val (.int m22)] [(.int (12289 : Int32)), (.int c1), (.int m22)])) rfl (by rw [hml]; rfl) (argsL := [(.int c1), (.int (12289 : Int32))]) (rest := [(.int m22)]) (lenOf pd_0 rfl) rfl (by show 2 * 0 + _ ≤ _; exact Nat.le_of_eq rfl) (hb hby d2_221) (fun _ _ => ⟨rfl, rfl, (by decide : 0 + 0 ≤ _), (by decide : 0 + 0 ≤ _)⟩)
  dsimp only [Pt.U, Pt.locs, Pt.cells, Pt.slots] at X46 l46 y46 z46 st46 hQ46
  subst l46 y46 z46
  obtain ⟨rfl, N46q, h46⟩ := hQ46
  have N46 := Fr.app Nx44 N46q
  obtain ⟨Lx46, X46, Nx46⟩ : ∃ L, Stand p l e ({ frames := 1, cells := 0, slots := 0, locals := 14 } : Room) s m #[(.int c1)] below meth c T46 L 0 0 ∧ Fr n0 L := ⟨_, X46.more (by decide) (by decide), N46⟩
  have zz46 : n0 ≤ T46.heap.size := by rw [h46]; exact zz44
  obtain ⟨m23, hm23⟩ : ∃ z, z = (m22 + (own_ge c1 (12289 : Int32))) := ⟨_, rfl⟩
  have q46 : T46.heap = h0 := h46.trans q44
  have pre47 : ∀ tt, Steps p.tables e below (T46.setTop (mkF m 228 #[.val (.int c1), .val (.int m23)] [(.int c1), (.int m23)])) tt → Steps p.tables e below (s₁.setTop (entryFrame m #[(.int c1)] 2)) tt := by
    intro tt kt
    refine pre45 tt ?_
    show Steps p.tables e below (T44.setTop (mkF m 221 #[.val (.int c1), .val (.int m22)] [(.int (12289 : Int32)), (.int c1), (.int m22)])) _
    refine st46 _ ?_
    show Steps p.tables e below (T46.setTop (mkF m 224 #[.val (.int c1), .val (.int m22)] [(.int (own_ge c1 (12289 : Int32))), (.int m22)])) _
    refine XS.iadd X46.here hx rfl (hb hby d2_224) rfl ?_
    show Steps p.tables e below (T46.setTop (mkF m 225 #[.val (.int c1), .val (.int m22)] [(.int (m22 + (own_ge c1 (12289 : Int32))))])) _
    rw [← hm23]
    show Steps p.tables e below (T46.setTop (mkF m 225 #[.val (.int c1), .val (.int m22)] [(.int m23)])) _
    refine XS.istoreN X46.here hx rfl (hb hby d2_225) rfl (l' := #[.val (.int c1), .val (.int m23)]) rfl ?_
    show Steps p.tables e below (T46.setTop (mkF m 226 #[.val (.int c1), .val (.int m23)] [])) _
    refine XS.iloadN X46.here hx rfl (hb hby d2_226) rfl ?_
    show Steps p.tables e below (T46.setTop (mkF m 227 #[.val (.int c1), .val (.int m23)] [(.int m23)])) _
    refine XS.iloadN X46.here hx rfl (hb hby d2_227) rfl ?_
    exact kt
  obtain ⟨_, _, ⟨T48, L48, k48, n48⟩, -, X48, ⟨Lc48, hQ48, l48, y48, z48⟩, st48⟩ := Jvm.LawKit.callS X46 hx (y := (⟨"com/example/uliza/uliza/model/XmlCharsIsNameStartPinLaw", "ge", "(II)I"⟩ : MethodName)) hown (mvT hZ (hw _ (List.mem_of_getElem? (i := 20) rfl))) (mvT hZ (hw _ (List.mem_of_getElem? (i := 21) rfl))) (mvT hZ (hw _ (List.mem_of_getElem? (i := 18) rfl))) (mvT hZ (hw _ (List.mem_of_getElem? (i := 22) rfl))) (by decide) (backOf (W := 1) (rm3 l Z a0 hw [] c1 (55296 : Int32) T46.heap n0 zz46) hZ (hw _ (List.mem_of_getElem? (i := 22) rfl)) (hw _ (List.mem_of_getElem? (i := 18) rfl)) (by decide) (by decide)) (g := (mkF m 230 #[.val (.int c1), .val (.int m23)] [(.int (55296 : Int32)), (.int c1), (.int m23)])) rfl (by rw [hml]; rfl) (argsL := [(.int c1), (.int (55296 : Int32))]) (rest := [(.int m23)]) (lenOf pd_0 rfl) rfl (by show 2 * 0 + _ ≤ _; exact Nat.le_of_eq rfl) (hb hby d2_230) (fun _ _ => ⟨rfl, rfl, (by decide : 0 + 0 ≤ _), (by decide : 0 + 0 ≤ _)⟩)
  dsimp only [Pt.U, Pt.locs, Pt.cells, Pt.slots] at X48 l48 y48 z48 st48 hQ48
  subst l48 y48 z48
  obtain ⟨rfl, N48q, h48⟩ := hQ48
  have N48 := Fr.app Nx46 N48q
  obtain ⟨Lx48, X48, Nx48⟩ : ∃ L, Stand p l e ({ frames := 1, cells := 0, slots := 0, locals := 14 } : Room) s m #[(.int c1)] below meth c T48 L 0 0 ∧ Fr n0 L := ⟨_, X48.more (by decide) (by decide), N48⟩
  have zz48 : n0 ≤ T48.heap.size := by rw [h48]; exact zz46
  obtain ⟨m24, hm24⟩ : ∃ z, z = (m23 + (own_ge c1 (55296 : Int32))) := ⟨_, rfl⟩
  have q48 : T48.heap = h0 := h48.trans q46
  have pre49 : ∀ tt, Steps p.tables e below (T48.setTop (mkF m 237 #[.val (.int c1), .val (.int m24)] [(.int c1), (.int m24)])) tt → Steps p.tables e below (s₁.setTop (entryFrame m #[(.int c1)] 2)) tt := by
    intro tt kt
    refine pre47 tt ?_
    show Steps p.tables e below (T46.setTop (mkF m 228 #[.val (.int c1), .val (.int m23)] [(.int c1), (.int m23)])) _
    refine X46.ldcInt hx hown (mvT hZ (hw _ (List.mem_of_getElem? (i := 1) rfl))) (g := (mkF m 228 #[.val (.int c1), .val (.int m23)] [(.int c1), (.int m23)])) rfl (hb hby d2_228) _ ?_
    show Steps p.tables e below (T46.setTop (mkF m 230 #[.val (.int c1), .val (.int m23)] [(.int (55296 : Int32)), (.int c1), (.int m23)])) _
    refine st48 _ ?_
    show Steps p.tables e below (T48.setTop (mkF m 233 #[.val (.int c1), .val (.int m23)] [(.int (own_ge c1 (55296 : Int32))), (.int m23)])) _
    refine XS.iadd X48.here hx rfl (hb hby d2_233) rfl ?_
    show Steps p.tables e below (T48.setTop (mkF m 234 #[.val (.int c1), .val (.int m23)] [(.int (m23 + (own_ge c1 (55296 : Int32))))])) _
    rw [← hm24]
    show Steps p.tables e below (T48.setTop (mkF m 234 #[.val (.int c1), .val (.int m23)] [(.int m24)])) _
    refine XS.istoreN X48.here hx rfl (hb hby d2_234) rfl (l' := #[.val (.int c1), .val (.int m24)]) rfl ?_
    show Steps p.tables e below (T48.setTop (mkF m 235 #[.val (.int c1), .val (.int m24)] [])) _
    refine XS.iloadN X48.here hx rfl (hb hby d2_235) rfl ?_
    show Steps p.tables e below (T48.setTop (mkF m 236 #[.val (.int c1), .val (.int m24)] [(.int m24)])) _
    refine XS.iloadN X48.here hx rfl (hb hby d2_236) rfl ?_
    exact kt
  obtain ⟨_, _, ⟨T50, L50, k50, n50⟩, -, X50, ⟨Lc50, hQ50, l50, y50, z50⟩, st50⟩ := Jvm.LawKit.callS X48 hx (y := (⟨"com/example/uliza/uliza/model/XmlCharsIsNameStartPinLaw", "ge", "(II)I"⟩ : MethodName)) hown (mvT hZ (hw _ (List.mem_of_getElem? (i := 20) rfl))) (mvT hZ (hw _ (List.mem_of_getElem? (i := 21) rfl))) (mvT hZ (hw _ (List.mem_of_getElem? (i := 18) rfl))) (mvT hZ (hw _ (List.mem_of_getElem? (i := 22) rfl))) (by decide) (backOf (W := 1) (rm3 l Z a0 hw [] c1 (63744 : Int32) T48.heap n0 zz48) hZ (hw _ (List.mem_of_getElem? (i := 22) rfl)) (hw _ (List.mem_of_getElem? (i := 18) rfl)) (by decide) (by decide)) (g := (mkF m 239 #[.val (.int c1), .val (.int m24)] [(.int (63744 : Int32)), (.int c1), (.int m24)])) rfl (by rw [hml]; rfl) (argsL := [(.int c1), (.int (63744 : Int32))]) (rest := [(.int m24)]) (lenOf pd_0 rfl) rfl (by show 2 * 0 + _ ≤ _; exact Nat.le_of_eq rfl) (hb hby d2_239) (fun _ _ => ⟨rfl, rfl, (by decide : 0 + 0 ≤ _), (by decide : 0 + 0 ≤ _)⟩)
  dsimp only [Pt.U, Pt.locs, Pt.cells, Pt.slots] at X50 l50 y50 z50 st50 hQ50
  subst l50 y50 z50
  obtain ⟨rfl, N50q, h50⟩ := hQ50
  have N50 := Fr.app Nx48 N50q
  obtain ⟨Lx50, X50, Nx50⟩ : ∃ L, Stand p l e ({ frames := 1, cells := 0, slots := 0, locals := 14 } : Room) s m #[(.int c1)] below meth c T50 L 0 0 ∧ Fr n0 L := ⟨_, X50.more (by decide) (by decide), N50⟩
  have zz50 : n0 ≤ T50.heap.size := by rw [h50]; exact zz48
  obtain ⟨m25, hm25⟩ : ∃ z, z = (m24 + (own_ge c1 (63744 : Int32))) := ⟨_, rfl⟩
  have q50 : T50.heap = h0 := h50.trans q48
  have pre51 : ∀ tt, Steps p.tables e below (T50.setTop (mkF m 246 #[.val (.int c1), .val (.int m25)] [(.int c1), (.int m25)])) tt → Steps p.tables e below (s₁.setTop (entryFrame m #[(.int c1)] 2)) tt := by
    intro tt kt
    refine pre49 tt ?_
    show Steps p.tables e below (T48.setTop (mkF m 237 #[.val (.int c1), .val (.int m24)] [(.int c1), (.int m24)])) _
    refine X48.ldcInt hx hown (mvT hZ (hw _ (List.mem_of_getElem? (i := 2) rfl))) (g := (mkF m 237 #[.val (.int c1), .val (.int m24)] [(.int c1), (.int m24)])) rfl (hb hby d2_237) _ ?_
    show Steps p.tables e below (T48.setTop (mkF m 239 #[.val (.int c1), .val (.int m24)] [(.int (63744 : Int32)), (.int c1), (.int m24)])) _
    refine st50 _ ?_
    show Steps p.tables e below (T50.setTop (mkF m 242 #[.val (.int c1), .val (.int m24)] [(.int (own_ge c1 (63744 : Int32))), (.int m24)])) _
    refine XS.iadd X50.here hx rfl (hb hby d2_242) rfl ?_
    show Steps p.tables e below (T50.setTop (mkF m 243 #[.val (.int c1), .val (.int m24)] [(.int (m24 + (own_ge c1 (63744 : Int32))))])) _
    rw [← hm25]
    show Steps p.tables e below (T50.setTop (mkF m 243 #[.val (.int c1), .val (.int m24)] [(.int m25)])) _
    refine XS.istoreN X50.here hx rfl (hb hby d2_243) rfl (l' := #[.val (.int c1), .val (.int m25)]) rfl ?_
    show Steps p.tables e below (T50.setTop (mkF m 244 #[.val (.int c1), .val (.int m25)] [])) _
    refine XS.iloadN X50.here hx rfl (hb hby d2_244) rfl ?_
    show Steps p.tables e below (T50.setTop (mkF m 245 #[.val (.int c1), .val (.int m25)] [(.int m25)])) _
    refine XS.iloadN X50.here hx rfl (hb hby d2_245) rfl ?_
    exact kt
  obtain ⟨_, _, ⟨T52, L52, k52, n52⟩, -, X52, ⟨Lc52, hQ52, l52, y52, z52⟩, st52⟩ := Jvm.LawKit.callS X50 hx (y := (⟨"com/example/uliza/uliza/model/XmlCharsIsNameStartPinLaw", "ge", "(II)I"⟩ : MethodName)) hown (mvT hZ (hw _ (List.mem_of_getElem? (i := 20) rfl))) (mvT hZ (hw _ (List.mem_of_getElem? (i := 21) rfl))) (mvT hZ (hw _ (List.mem_of_getElem? (i := 18) rfl))) (mvT hZ (hw _ (List.mem_of_getElem? (i := 22) rfl))) (by decide) (backOf (W := 1) (rm3 l Z a0 hw [] c1 (64976 : Int32) T50.heap n0 zz50) hZ (hw _ (List.mem_of_getElem? (i := 22) rfl)) (hw _ (List.mem_of_getElem? (i := 18) rfl)) (by decide) (by decide)) (g := (mkF m 248 #[.val (.int c1), .val (.int m25)] [(.int (64976 : Int32)), (.int c1), (.int m25)])) rfl (by rw [hml]; rfl) (argsL := [(.int c1), (.int (64976 : Int32))]) (rest := [(.int m25)]) (lenOf pd_0 rfl) rfl (by show 2 * 0 + _ ≤ _; exact Nat.le_of_eq rfl) (hb hby d2_248) (fun _ _ => ⟨rfl, rfl, (by decide : 0 + 0 ≤ _), (by decide : 0 + 0 ≤ _)⟩)
  dsimp only [Pt.U, Pt.locs, Pt.cells, Pt.slots] at X52 l52 y52 z52 st52 hQ52
  subst l52 y52 z52
  obtain ⟨rfl, N52q, h52⟩ := hQ52
  have N52 := Fr.app Nx50 N52q
  obtain ⟨Lx52, X52, Nx52⟩ : ∃ L, Stand p l e ({ frames := 1, cells := 0, slots := 0, locals := 14 } : Room) s m #[(.int c1)] below meth c T52 L 0 0 ∧ Fr n0 L := ⟨_, X52.more (by decide) (by decide), N52⟩
  have zz52 : n0 ≤ T52.heap.size := by rw [h52]; exact zz50
  obtain ⟨m26, hm26⟩ : ∃ z, z = (m25 + (own_ge c1 (64976 : Int32))) := ⟨_, rfl⟩
  have q52 : T52.heap = h0 := h52.trans q50
  have pre53 : ∀ tt, Steps p.tables e below (T52.setTop (mkF m 255 #[.val (.int c1), .val (.int m26)] [(.int c1), (.int m26)])) tt → Steps p.tables e below (s₁.setTop (entryFrame m #[(.int c1)] 2)) tt := by
    intro tt kt
    refine pre51 tt ?_
    show Steps p.tables e below (T50.setTop (mkF m 246 #[.val (.int c1), .val (.int m25)] [(.int c1), (.int m25)])) _
    refine X50.ldcInt hx hown (mvT hZ (hw _ (List.mem_of_getElem? (i := 3) rfl))) (g := (mkF m 246 #[.val (.int c1), .val (.int m25)] [(.int c1), (.int m25)])) rfl (hb hby d2_246) _ ?_
    show Steps p.tables e below (T50.setTop (mkF m 248 #[.val (.int c1), .val (.int m25)] [(.int (64976 : Int32)), (.int c1), (.int m25)])) _
    refine st52 _ ?_
    show Steps p.tables e below (T52.setTop (mkF m 251 #[.val (.int c1), .val (.int m25)] [(.int (own_ge c1 (64976 : Int32))), (.int m25)])) _
    refine XS.iadd X52.here hx rfl (hb hby d2_251) rfl ?_
    show Steps p.tables e below (T52.setTop (mkF m 252 #[.val (.int c1), .val (.int m25)] [(.int (m25 + (own_ge c1 (64976 : Int32))))])) _
    rw [← hm26]
    show Steps p.tables e below (T52.setTop (mkF m 252 #[.val (.int c1), .val (.int m25)] [(.int m26)])) _
    refine XS.istoreN X52.here hx rfl (hb hby d2_252) rfl (l' := #[.val (.int c1), .val (.int m26)]) rfl ?_
    show Steps p.tables e below (T52.setTop (mkF m 253 #[.val (.int c1), .val (.int m26)] [])) _
    refine XS.iloadN X52.here hx rfl (hb hby d2_253) rfl ?_
    show Steps p.tables e below (T52.setTop (mkF m 254 #[.val (.int c1), .val (.int m26)] [(.int m26)])) _
    refine XS.iloadN X52.here hx rfl (hb hby d2_254) rfl ?_
    exact kt
  obtain ⟨_, _, ⟨T54, L54, k54, n54⟩, -, X54, ⟨Lc54, hQ54, l54, y54, z54⟩, st54⟩ := Jvm.LawKit.callS X52 hx (y := (⟨"com/example/uliza/uliza/model/XmlCharsIsNameStartPinLaw", "ge", "(II)I"⟩ : MethodName)) hown (mvT hZ (hw _ (List.mem_of_getElem? (i := 20) rfl))) (mvT hZ (hw _ (List.mem_of_getElem? (i := 21) rfl))) (mvT hZ (hw _ (List.mem_of_getElem? (i := 18) rfl))) (mvT hZ (hw _ (List.mem_of_getElem? (i := 22) rfl))) (by decide) (backOf (W := 1) (rm3 l Z a0 hw [] c1 (65008 : Int32) T52.heap n0 zz52) hZ (hw _ (List.mem_of_getElem? (i := 22) rfl)) (hw _ (List.mem_of_getElem? (i := 18) rfl)) (by decide) (by decide)) (g := (mkF m 257 #[.val (.int c1), .val (.int m26)] [(.int (65008 : Int32)), (.int c1), (.int m26)])) rfl (by rw [hml]; rfl) (argsL := [(.int c1), (.int (65008 : Int32))]) (rest := [(.int m26)]) (lenOf pd_0 rfl) rfl (by show 2 * 0 + _ ≤ _; exact Nat.le_of_eq rfl) (hb hby d2_257) (fun _ _ => ⟨rfl, rfl, (by decide : 0 + 0 ≤ _), (by decide : 0 + 0 ≤ _)⟩)
  dsimp only [Pt.U, Pt.locs, Pt.cells, Pt.slots] at X54 l54 y54 z54 st54 hQ54
  subst l54 y54 z54
  obtain ⟨rfl, N54q, h54⟩ := hQ54
  have N54 := Fr.app Nx52 N54q
  obtain ⟨Lx54, X54, Nx54⟩ : ∃ L, Stand p l e ({ frames := 1, cells := 0, slots := 0, locals := 14 } : Room) s m #[(.int c1)] below meth c T54 L 0 0 ∧ Fr n0 L := ⟨_, X54.more (by decide) (by decide), N54⟩
  have zz54 : n0 ≤ T54.heap.size := by rw [h54]; exact zz52
  obtain ⟨m27, hm27⟩ : ∃ z, z = (m26 + (own_ge c1 (65008 : Int32))) := ⟨_, rfl⟩
  have q54 : T54.heap = h0 := h54.trans q52
  have pre55 : ∀ tt, Steps p.tables e below (T54.setTop (mkF m 264 #[.val (.int c1), .val (.int m27)] [(.int c1), (.int m27)])) tt → Steps p.tables e below (s₁.setTop (entryFrame m #[(.int c1)] 2)) tt := by
    intro tt kt
    refine pre53 tt ?_
    show Steps p.tables e below (T52.setTop (mkF m 255 #[.val (.int c1), .val (.int m26)] [(.int c1), (.int m26)])) _
    refine X52.ldcInt hx hown (mvT hZ (hw _ (List.mem_of_getElem? (i := 4) rfl))) (g := (mkF m 255 #[.val (.int c1), .val (.int m26)] [(.int c1), (.int m26)])) rfl (hb hby d2_255) _ ?_
    show Steps p.tables e below (T52.setTop (mkF m 257 #[.val (.int c1), .val (.int m26)] [(.int (65008 : Int32)), (.int c1), (.int m26)])) _
    refine st54 _ ?_
    show Steps p.tables e below (T54.setTop (mkF m 260 #[.val (.int c1), .val (.int m26)] [(.int (own_ge c1 (65008 : Int32))), (.int m26)])) _
    refine XS.iadd X54.here hx rfl (hb hby d2_260) rfl ?_
    show Steps p.tables e below (T54.setTop (mkF m 261 #[.val (.int c1), .val (.int m26)] [(.int (m26 + (own_ge c1 (65008 : Int32))))])) _
    rw [← hm27]
    show Steps p.tables e below (T54.setTop (mkF m 261 #[.val (.int c1), .val (.int m26)] [(.int m27)])) _
    refine XS.istoreN X54.here hx rfl (hb hby d2_261) rfl (l' := #[.val (.int c1), .val (.int m27)]) rfl ?_
    show Steps p.tables e below (T54.setTop (mkF m 262 #[.val (.int c1), .val (.int m27)] [])) _
    refine XS.iloadN X54.here hx rfl (hb hby d2_262) rfl ?_
    show Steps p.tables e below (T54.setTop (mkF m 263 #[.val (.int c1), .val (.int m27)] [(.int m27)])) _
    refine XS.iloadN X54.here hx rfl (hb hby d2_263) rfl ?_
    exact kt
  obtain ⟨_, _, ⟨T56, L56, k56, n56⟩, -, X56, ⟨Lc56, hQ56, l56, y56, z56⟩, st56⟩ := Jvm.LawKit.callS X54 hx (y := (⟨"com/example/uliza/uliza/model/XmlCharsIsNameStartPinLaw", "ge", "(II)I"⟩ : MethodName)) hown (mvT hZ (hw _ (List.mem_of_getElem? (i := 20) rfl))) (mvT hZ (hw _ (List.mem_of_getElem? (i := 21) rfl))) (mvT hZ (hw _ (List.mem_of_getElem? (i := 18) rfl))) (mvT hZ (hw _ (List.mem_of_getElem? (i := 22) rfl))) (by decide) (backOf (W := 1) (rm3 l Z a0 hw [] c1 (65534 : Int32) T54.heap n0 zz54) hZ (hw _ (List.mem_of_getElem? (i := 22) rfl)) (hw _ (List.mem_of_getElem? (i := 18) rfl)) (by decide) (by decide)) (g := (mkF m 266 #[.val (.int c1), .val (.int m27)] [(.int (65534 : Int32)), (.int c1), (.int m27)])) rfl (by rw [hml]; rfl) (argsL := [(.int c1), (.int (65534 : Int32))]) (rest := [(.int m27)]) (lenOf pd_0 rfl) rfl (by show 2 * 0 + _ ≤ _; exact Nat.le_of_eq rfl) (hb hby d2_266) (fun _ _ => ⟨rfl, rfl, (by decide : 0 + 0 ≤ _), (by decide : 0 + 0 ≤ _)⟩)
  dsimp only [Pt.U, Pt.locs, Pt.cells, Pt.slots] at X56 l56 y56 z56 st56 hQ56
  subst l56 y56 z56
  obtain ⟨rfl, N56q, h56⟩ := hQ56
  have N56 := Fr.app Nx54 N56q
  obtain ⟨Lx56, X56, Nx56⟩ : ∃ L, Stand p l e ({ frames := 1, cells := 0, slots := 0, locals := 14 } : Room) s m #[(.int c1)] below meth c T56 L 0 0 ∧ Fr n0 L := ⟨_, X56.more (by decide) (by decide), N56⟩
  have zz56 : n0 ≤ T56.heap.size := by rw [h56]; exact zz54
  obtain ⟨m28, hm28⟩ : ∃ z, z = (m27 + (own_ge c1 (65534 : Int32))) := ⟨_, rfl⟩
  have q56 : T56.heap = h0 := h56.trans q54
  have pre57 : ∀ tt, Steps p.tables e below (T56.setTop (mkF m 273 #[.val (.int c1), .val (.int m28)] [(.int c1), (.int m28)])) tt → Steps p.tables e below (s₁.setTop (entryFrame m #[(.int c1)] 2)) tt := by
    intro tt kt
    refine pre55 tt ?_
    show Steps p.tables e below (T54.setTop (mkF m 264 #[.val (.int c1), .val (.int m27)] [(.int c1), (.int m27)])) _
    refine X54.ldcInt hx hown (mvT hZ (hw _ (List.mem_of_getElem? (i := 5) rfl))) (g := (mkF m 264 #[.val (.int c1), .val (.int m27)] [(.int c1), (.int m27)])) rfl (hb hby d2_264) _ ?_
    show Steps p.tables e below (T54.setTop (mkF m 266 #[.val (.int c1), .val (.int m27)] [(.int (65534 : Int32)), (.int c1), (.int m27)])) _
    refine st56 _ ?_
    show Steps p.tables e below (T56.setTop (mkF m 269 #[.val (.int c1), .val (.int m27)] [(.int (own_ge c1 (65534 : Int32))), (.int m27)])) _
    refine XS.iadd X56.here hx rfl (hb hby d2_269) rfl ?_
    show Steps p.tables e below (T56.setTop (mkF m 270 #[.val (.int c1), .val (.int m27)] [(.int (m27 + (own_ge c1 (65534 : Int32))))])) _
    rw [← hm28]
    show Steps p.tables e below (T56.setTop (mkF m 270 #[.val (.int c1), .val (.int m27)] [(.int m28)])) _
    refine XS.istoreN X56.here hx rfl (hb hby d2_270) rfl (l' := #[.val (.int c1), .val (.int m28)]) rfl ?_
    show Steps p.tables e below (T56.setTop (mkF m 271 #[.val (.int c1), .val (.int m28)] [])) _
    refine XS.iloadN X56.here hx rfl (hb hby d2_271) rfl ?_
    show Steps p.tables e below (T56.setTop (mkF m 272 #[.val (.int c1), .val (.int m28)] [(.int m28)])) _
    refine XS.iloadN X56.here hx rfl (hb hby d2_272) rfl ?_
    exact kt
  obtain ⟨_, _, ⟨T58, L58, k58, n58⟩, -, X58, ⟨Lc58, hQ58, l58, y58, z58⟩, st58⟩ := Jvm.LawKit.callS X56 hx (y := (⟨"com/example/uliza/uliza/model/XmlCharsIsNameStartPinLaw", "ge", "(II)I"⟩ : MethodName)) hown (mvT hZ (hw _ (List.mem_of_getElem? (i := 20) rfl))) (mvT hZ (hw _ (List.mem_of_getElem? (i := 21) rfl))) (mvT hZ (hw _ (List.mem_of_getElem? (i := 18) rfl))) (mvT hZ (hw _ (List.mem_of_getElem? (i := 22) rfl))) (by decide) (backOf (W := 1) (rm3 l Z a0 hw [] c1 (65536 : Int32) T56.heap n0 zz56) hZ (hw _ (List.mem_of_getElem? (i := 22) rfl)) (hw _ (List.mem_of_getElem? (i := 18) rfl)) (by decide) (by decide)) (g := (mkF m 275 #[.val (.int c1), .val (.int m28)] [(.int (65536 : Int32)), (.int c1), (.int m28)])) rfl (by rw [hml]; rfl) (argsL := [(.int c1), (.int (65536 : Int32))]) (rest := [(.int m28)]) (lenOf pd_0 rfl) rfl (by show 2 * 0 + _ ≤ _; exact Nat.le_of_eq rfl) (hb hby d2_275) (fun _ _ => ⟨rfl, rfl, (by decide : 0 + 0 ≤ _), (by decide : 0 + 0 ≤ _)⟩)
  dsimp only [Pt.U, Pt.locs, Pt.cells, Pt.slots] at X58 l58 y58 z58 st58 hQ58
  subst l58 y58 z58
  obtain ⟨rfl, N58q, h58⟩ := hQ58
  have N58 := Fr.app Nx56 N58q
  obtain ⟨Lx58, X58, Nx58⟩ : ∃ L, Stand p l e ({ frames := 1, cells := 0, slots := 0, locals := 14 } : Room) s m #[(.int c1)] below meth c T58 L 0 0 ∧ Fr n0 L := ⟨_, X58.more (by decide) (by decide), N58⟩
  have zz58 : n0 ≤ T58.heap.size := by rw [h58]; exact zz56
  obtain ⟨m29, hm29⟩ : ∃ z, z = (m28 + (own_ge c1 (65536 : Int32))) := ⟨_, rfl⟩
  have q58 : T58.heap = h0 := h58.trans q56
  have pre59 : ∀ tt, Steps p.tables e below (T58.setTop (mkF m 282 #[.val (.int c1), .val (.int m29)] [(.int c1), (.int m29)])) tt → Steps p.tables e below (s₁.setTop (entryFrame m #[(.int c1)] 2)) tt := by
    intro tt kt
    refine pre57 tt ?_
    show Steps p.tables e below (T56.setTop (mkF m 273 #[.val (.int c1), .val (.int m28)] [(.int c1), (.int m28)])) _
    refine X56.ldcInt hx hown (mvT hZ (hw _ (List.mem_of_getElem? (i := 6) rfl))) (g := (mkF m 273 #[.val (.int c1), .val (.int m28)] [(.int c1), (.int m28)])) rfl (hb hby d2_273) _ ?_
    show Steps p.tables e below (T56.setTop (mkF m 275 #[.val (.int c1), .val (.int m28)] [(.int (65536 : Int32)), (.int c1), (.int m28)])) _
    refine st58 _ ?_
    show Steps p.tables e below (T58.setTop (mkF m 278 #[.val (.int c1), .val (.int m28)] [(.int (own_ge c1 (65536 : Int32))), (.int m28)])) _
    refine XS.iadd X58.here hx rfl (hb hby d2_278) rfl ?_
    show Steps p.tables e below (T58.setTop (mkF m 279 #[.val (.int c1), .val (.int m28)] [(.int (m28 + (own_ge c1 (65536 : Int32))))])) _
    rw [← hm29]
    show Steps p.tables e below (T58.setTop (mkF m 279 #[.val (.int c1), .val (.int m28)] [(.int m29)])) _
    refine XS.istoreN X58.here hx rfl (hb hby d2_279) rfl (l' := #[.val (.int c1), .val (.int m29)]) rfl ?_
    show Steps p.tables e below (T58.setTop (mkF m 280 #[.val (.int c1), .val (.int m29)] [])) _
    refine XS.iloadN X58.here hx rfl (hb hby d2_280) rfl ?_
    show Steps p.tables e below (T58.setTop (mkF m 281 #[.val (.int c1), .val (.int m29)] [(.int m29)])) _
    refine XS.iloadN X58.here hx rfl (hb hby d2_281) rfl ?_
    exact kt
  obtain ⟨_, _, ⟨T60, L60, k60, n60⟩, -, X60, ⟨Lc60, hQ60, l60, y60, z60⟩, st60⟩ := Jvm.LawKit.callS X58 hx (y := (⟨"com/example/uliza/uliza/model/XmlCharsIsNameStartPinLaw", "ge", "(II)I"⟩ : MethodName)) hown (mvT hZ (hw _ (List.mem_of_getElem? (i := 20) rfl))) (mvT hZ (hw _ (List.mem_of_getElem? (i := 21) rfl))) (mvT hZ (hw _ (List.mem_of_getElem? (i := 18) rfl))) (mvT hZ (hw _ (List.mem_of_getElem? (i := 22) rfl))) (by decide) (backOf (W := 1) (rm3 l Z a0 hw [] c1 (983040 : Int32) T58.heap n0 zz58) hZ (hw _ (List.mem_of_getElem? (i := 22) rfl)) (hw _ (List.mem_of_getElem? (i := 18) rfl)) (by decide) (by decide)) (g := (mkF m 284 #[.val (.int c1), .val (.int m29)] [(.int (983040 : Int32)), (.int c1), (.int m29)])) rfl (by rw [hml]; rfl) (argsL := [(.int c1), (.int (983040 : Int32))]) (rest := [(.int m29)]) (lenOf pd_0 rfl) rfl (by show 2 * 0 + _ ≤ _; exact Nat.le_of_eq rfl) (hb hby d2_284) (fun _ _ => ⟨rfl, rfl, (by decide : 0 + 0 ≤ _), (by decide : 0 + 0 ≤ _)⟩)
  dsimp only [Pt.U, Pt.locs, Pt.cells, Pt.slots] at X60 l60 y60 z60 st60 hQ60
  subst l60 y60 z60
  obtain ⟨rfl, N60q, h60⟩ := hQ60
  have N60 := Fr.app Nx58 N60q
  obtain ⟨Lx60, X60, Nx60⟩ : ∃ L, Stand p l e ({ frames := 1, cells := 0, slots := 0, locals := 14 } : Room) s m #[(.int c1)] below meth c T60 L 0 0 ∧ Fr n0 L := ⟨_, X60.more (by decide) (by decide), N60⟩
  have zz60 : n0 ≤ T60.heap.size := by rw [h60]; exact zz58
  obtain ⟨m30, hm30⟩ : ∃ z, z = (m29 + (own_ge c1 (983040 : Int32))) := ⟨_, rfl⟩
  have q60 : T60.heap = h0 := h60.trans q58
  have pre61 : ∀ tt, Steps p.tables e below (T60.setTop (mkF m 293 #[.val (.int c1), .val (.int m30)] [(.int (1 : Int32)), (.int (m30 &&& (1 : Int32)))])) tt → Steps p.tables e below (s₁.setTop (entryFrame m #[(.int c1)] 2)) tt := by
    intro tt kt
    refine pre59 tt ?_
    show Steps p.tables e below (T58.setTop (mkF m 282 #[.val (.int c1), .val (.int m29)] [(.int c1), (.int m29)])) _
    refine X58.ldcInt hx hown (mvT hZ (hw _ (List.mem_of_getElem? (i := 7) rfl))) (g := (mkF m 282 #[.val (.int c1), .val (.int m29)] [(.int c1), (.int m29)])) rfl (hb hby d2_282) _ ?_
    show Steps p.tables e below (T58.setTop (mkF m 284 #[.val (.int c1), .val (.int m29)] [(.int (983040 : Int32)), (.int c1), (.int m29)])) _
    refine st60 _ ?_
    show Steps p.tables e below (T60.setTop (mkF m 287 #[.val (.int c1), .val (.int m29)] [(.int (own_ge c1 (983040 : Int32))), (.int m29)])) _
    refine XS.iadd X60.here hx rfl (hb hby d2_287) rfl ?_
    show Steps p.tables e below (T60.setTop (mkF m 288 #[.val (.int c1), .val (.int m29)] [(.int (m29 + (own_ge c1 (983040 : Int32))))])) _
    rw [← hm30]
    show Steps p.tables e below (T60.setTop (mkF m 288 #[.val (.int c1), .val (.int m29)] [(.int m30)])) _
    refine XS.istoreN X60.here hx rfl (hb hby d2_288) rfl (l' := #[.val (.int c1), .val (.int m30)]) rfl ?_
    show Steps p.tables e below (T60.setTop (mkF m 289 #[.val (.int c1), .val (.int m30)] [])) _
    refine XS.iloadN X60.here hx rfl (hb hby d2_289) rfl ?_
    show Steps p.tables e below (T60.setTop (mkF m 290 #[.val (.int c1), .val (.int m30)] [(.int m30)])) _
    refine XS.iconst X60.here hx rfl (hb hby d2_290) ?_
    show Steps p.tables e below (T60.setTop (mkF m 291 #[.val (.int c1), .val (.int m30)] [(.int (1 : Int32)), (.int m30)])) _
    refine XS.iand X60.here hx rfl (hb hby d2_291) rfl ?_
    show Steps p.tables e below (T60.setTop (mkF m 292 #[.val (.int c1), .val (.int m30)] [(.int (m30 &&& (1 : Int32)))])) _
    refine XS.iconst X60.here hx rfl (hb hby d2_292) ?_
    exact kt
  have hcnt : own_cnt c1 = m30 := by rw [hm30, hm29, hm28, hm27, hm26, hm25, hm24, hm23, hm22, hm21, hm20, hm19, hm18, hm17, hm16, hm15, hm14, hm13, hm12, hm11, hm10, hm9, hm8, hm7, hm6, hm5, hm4, hm3, hm2, hm1]; rfl
  by_cases hc : m30 &&& 1 = 1
  · have hv : own_ref c1 = 1 := by unfold own_ref; rw [hcnt]; exact if_pos hc
    have prea62 : ∀ tt, Steps p.tables e below (T60.setTop (mkF m 301 #[.val (.int c1), .val (.int m30)] [(.int (1 : Int32))])) tt → Steps p.tables e below (s₁.setTop (entryFrame m #[(.int c1)] 2)) tt := by
      intro tt kt
      refine pre61 tt ?_
      show Steps p.tables e below (T60.setTop (mkF m 293 #[.val (.int c1), .val (.int m30)] [(.int (1 : Int32)), (.int (m30 &&& (1 : Int32)))])) _
      refine XS.icmpNo X60.here hx rfl (hb hby d2_293) rfl (teq hc).2 ?_
      show Steps p.tables e below (T60.setTop (mkF m 296 #[.val (.int c1), .val (.int m30)] [])) _
      refine XS.iconst X60.here hx rfl (hb hby d2_296) ?_
      show Steps p.tables e below (T60.setTop (mkF m 297 #[.val (.int c1), .val (.int m30)] [(.int (1 : Int32))])) _
      refine XS.goto X60.here hx rfl (pc0 := 297) (pc' := 301) rfl (hb hby d2_297) (by decide) (by decide) ?_
      exact kt
    obtain ⟨fs, hr, hrun, hended, hW, hsame⟩ := X60.leave (v := some (.int (1 : Int32))) (fun h => by rw [Bd.returns] at h; cases h)
    refine ⟨_, _, prea62 _ ?_, hrun, hended, _, _, rfl, ?_, ⟨_, rfl⟩, hW, hsame.mono (by decide) (by decide)⟩
    · exact retN X60 hx (t := .boolean) Bd.returns (by simp) (hb hby d2_301) hr
    · show Q2 Z c1 h0 n0 _ T60.heap _
      exact ⟨by rw [hv], Nx60, q60⟩
  · have hv : own_ref c1 = 0 := by unfold own_ref; rw [hcnt]; exact if_neg hc
    have preb62 : ∀ tt, Steps p.tables e below (T60.setTop (mkF m 301 #[.val (.int c1), .val (.int m30)] [(.int (0 : Int32))])) tt → Steps p.tables e below (s₁.setTop (entryFrame m #[(.int c1)] 2)) tt := by
      intro tt kt
      refine pre61 tt ?_
      show Steps p.tables e below (T60.setTop (mkF m 293 #[.val (.int c1), .val (.int m30)] [(.int (1 : Int32)), (.int (m30 &&& (1 : Int32)))])) _
      refine XS.icmpYes X60.here hx rfl (pc0 := 293) (pc' := 300) rfl (hb hby d2_293) rfl (feq hc).2 (by decide) (by decide) ?_
      show Steps p.tables e below (T60.setTop (mkF m 300 #[.val (.int c1), .val (.int m30)] [])) _
      refine XS.iconst X60.here hx rfl (hb hby d2_300) ?_
      exact kt
    obtain ⟨fs, hr, hrun, hended, hW, hsame⟩ := X60.leave (v := some (.int (0 : Int32))) (fun h => by rw [Bd.returns] at h; cases h)
    refine ⟨_, _, preb62 _ ?_, hrun, hended, _, _, rfl, ?_, ⟨_, rfl⟩, hW, hsame.mono (by decide) (by decide)⟩
    · exact retN X60 hx (t := .boolean) Bd.returns (by simp) (hb hby d2_301) hr
    · show Q2 Z c1 h0 n0 _ T60.heap _
      exact ⟨by rw [hv], Nx60, q60⟩
set_option maxRecDepth 65536 in
set_option maxHeartbeats 4000000 in
theorem ck_t0 {p : Program} {l : Launch} {e : Env} {R : Room} {s : State} {m : MethodId} {args : Array Value} {below : List Frame} {meth : Method} {c : Code} {T : State} {locs : List Loc} {cells slots : Nat} {Z : State} {a0 : Array Value} {t : State} (c1 : Int32) (X : Stand p l e R s m args below meth c T locs cells slots) (hx : p.tables.exec = Jvm.exec) (hZ : Z.Warmed39 s.vm) (hw : ∀ d ∈ tables_1, d.before a0 Z = true) (hby : c.code = prog_284_method_2_code) (hown : s.vm.findClass "com/example/uliza/uliza/model/XmlChars" = some m.cls)
    (k1 : ¬ (c1 < (97 : Int32)) ∧ ¬ ((122 : Int32) < c1) → Steps p.tables e below (T.setTop (mkF m 191 #[.val (.int c1)] [])) t) (k2 : ¬ (¬ (c1 < (97 : Int32)) ∧ ¬ ((122 : Int32) < c1)) → Steps p.tables e below (T.setTop (mkF m 12 #[.val (.int c1)] [])) t) : Steps p.tables e below (T.setTop (mkF m 0 #[.val (.int c1)] [])) t := by
  by_cases h1 : c1 < (97 : Int32)
  · have kt := k2 (fun q => q.1 h1)
    show Steps p.tables e below (T.setTop (mkF m 0 #[.val (.int c1)] [])) _
    refine XS.iloadN X.here hx rfl (hb hby d1_0) rfl ?_
    show Steps p.tables e below (T.setTop (mkF m 1 #[.val (.int c1)] [(.int c1)])) _
    refine XS.bipush X.here hx rfl (hb hby d1_1) ?_
    show Steps p.tables e below (T.setTop (mkF m 3 #[.val (.int c1)] [(.int (97 : Int32)), (.int c1)])) _
    refine XS.icmpYes X.here hx rfl (pc0 := 3) (pc' := 12) rfl (hb hby d1_3) rfl (tlt h1).1 (by decide) (by decide) ?_
    exact kt
  · by_cases h2 : (122 : Int32) < c1
    · have kt := k2 (fun q => q.2 h2)
      show Steps p.tables e below (T.setTop (mkF m 0 #[.val (.int c1)] [])) _
      refine XS.iloadN X.here hx rfl (hb hby d1_0) rfl ?_
      show Steps p.tables e below (T.setTop (mkF m 1 #[.val (.int c1)] [(.int c1)])) _
      refine XS.bipush X.here hx rfl (hb hby d1_1) ?_
      show Steps p.tables e below (T.setTop (mkF m 3 #[.val (.int c1)] [(.int (97 : Int32)), (.int c1)])) _
      refine XS.icmpNo X.here hx rfl (hb hby d1_3) rfl (flt h1).1 ?_
      show Steps p.tables e below (T.setTop (mkF m 6 #[.val (.int c1)] [])) _
      refine XS.iloadN X.here hx rfl (hb hby d1_6) rfl ?_
      show Steps p.tables e below (T.setTop (mkF m 7 #[.val (.int c1)] [(.int c1)])) _
      refine XS.bipush X.here hx rfl (hb hby d1_7) ?_
      show Steps p.tables e below (T.setTop (mkF m 9 #[.val (.int c1)] [(.int (122 : Int32)), (.int c1)])) _
      refine XS.icmpNo X.here hx rfl (hb hby d1_9) rfl (tlt h2).2.2.2 ?_
      exact kt
    · have kt := k1 ⟨h1, h2⟩
      show Steps p.tables e below (T.setTop (mkF m 0 #[.val (.int c1)] [])) _
      refine XS.iloadN X.here hx rfl (hb hby d1_0) rfl ?_
      show Steps p.tables e below (T.setTop (mkF m 1 #[.val (.int c1)] [(.int c1)])) _
      refine XS.bipush X.here hx rfl (hb hby d1_1) ?_
      show Steps p.tables e below (T.setTop (mkF m 3 #[.val (.int c1)] [(.int (97 : Int32)), (.int c1)])) _
      refine XS.icmpNo X.here hx rfl (hb hby d1_3) rfl (flt h1).1 ?_
      show Steps p.tables e below (T.setTop (mkF m 6 #[.val (.int c1)] [])) _
      refine XS.iloadN X.here hx rfl (hb hby d1_6) rfl ?_
      show Steps p.tables e below (T.setTop (mkF m 7 #[.val (.int c1)] [(.int c1)])) _
      refine XS.bipush X.here hx rfl (hb hby d1_7) ?_
      show Steps p.tables e below (T.setTop (mkF m 9 #[.val (.int c1)] [(.int (122 : Int32)), (.int c1)])) _
      refine XS.icmpYes X.here hx rfl (pc0 := 9) (pc' := 191) rfl (hb hby d1_9) rfl (flt h2).2.2.2 (by decide) (by decide) ?_
      exact kt
set_option maxRecDepth 65536 in
set_option maxHeartbeats 4000000 in
theorem ck_t1 {p : Program} {l : Launch} {e : Env} {R : Room} {s : State} {m : MethodId} {args : Array Value} {below : List Frame} {meth : Method} {c : Code} {T : State} {locs : List Loc} {cells slots : Nat} {Z : State} {a0 : Array Value} {t : State} (c1 : Int32) (X : Stand p l e R s m args below meth c T locs cells slots) (hx : p.tables.exec = Jvm.exec) (hZ : Z.Warmed39 s.vm) (hw : ∀ d ∈ tables_1, d.before a0 Z = true) (hby : c.code = prog_284_method_2_code) (hown : s.vm.findClass "com/example/uliza/uliza/model/XmlChars" = some m.cls)
    (k1 : ¬ (c1 < (65 : Int32)) ∧ ¬ ((90 : Int32) < c1) → Steps p.tables e below (T.setTop (mkF m 191 #[.val (.int c1)] [])) t) (k2 : ¬ (¬ (c1 < (65 : Int32)) ∧ ¬ ((90 : Int32) < c1)) → Steps p.tables e below (T.setTop (mkF m 24 #[.val (.int c1)] [])) t) : Steps p.tables e below (T.setTop (mkF m 12 #[.val (.int c1)] [])) t := by
  by_cases h1 : c1 < (65 : Int32)
  · have kt := k2 (fun q => q.1 h1)
    show Steps p.tables e below (T.setTop (mkF m 12 #[.val (.int c1)] [])) _
    refine XS.iloadN X.here hx rfl (hb hby d1_12) rfl ?_
    show Steps p.tables e below (T.setTop (mkF m 13 #[.val (.int c1)] [(.int c1)])) _
    refine XS.bipush X.here hx rfl (hb hby d1_13) ?_
    show Steps p.tables e below (T.setTop (mkF m 15 #[.val (.int c1)] [(.int (65 : Int32)), (.int c1)])) _
    refine XS.icmpYes X.here hx rfl (pc0 := 15) (pc' := 24) rfl (hb hby d1_15) rfl (tlt h1).1 (by decide) (by decide) ?_
    exact kt
  · by_cases h2 : (90 : Int32) < c1
    · have kt := k2 (fun q => q.2 h2)
      show Steps p.tables e below (T.setTop (mkF m 12 #[.val (.int c1)] [])) _
      refine XS.iloadN X.here hx rfl (hb hby d1_12) rfl ?_
      show Steps p.tables e below (T.setTop (mkF m 13 #[.val (.int c1)] [(.int c1)])) _
      refine XS.bipush X.here hx rfl (hb hby d1_13) ?_
      show Steps p.tables e below (T.setTop (mkF m 15 #[.val (.int c1)] [(.int (65 : Int32)), (.int c1)])) _
      refine XS.icmpNo X.here hx rfl (hb hby d1_15) rfl (flt h1).1 ?_
      show Steps p.tables e below (T.setTop (mkF m 18 #[.val (.int c1)] [])) _
      refine XS.iloadN X.here hx rfl (hb hby d1_18) rfl ?_
      show Steps p.tables e below (T.setTop (mkF m 19 #[.val (.int c1)] [(.int c1)])) _
      refine XS.bipush X.here hx rfl (hb hby d1_19) ?_
      show Steps p.tables e below (T.setTop (mkF m 21 #[.val (.int c1)] [(.int (90 : Int32)), (.int c1)])) _
      refine XS.icmpNo X.here hx rfl (hb hby d1_21) rfl (tlt h2).2.2.2 ?_
      exact kt
    · have kt := k1 ⟨h1, h2⟩
      show Steps p.tables e below (T.setTop (mkF m 12 #[.val (.int c1)] [])) _
      refine XS.iloadN X.here hx rfl (hb hby d1_12) rfl ?_
      show Steps p.tables e below (T.setTop (mkF m 13 #[.val (.int c1)] [(.int c1)])) _
      refine XS.bipush X.here hx rfl (hb hby d1_13) ?_
      show Steps p.tables e below (T.setTop (mkF m 15 #[.val (.int c1)] [(.int (65 : Int32)), (.int c1)])) _
      refine XS.icmpNo X.here hx rfl (hb hby d1_15) rfl (flt h1).1 ?_
      show Steps p.tables e below (T.setTop (mkF m 18 #[.val (.int c1)] [])) _
      refine XS.iloadN X.here hx rfl (hb hby d1_18) rfl ?_
      show Steps p.tables e below (T.setTop (mkF m 19 #[.val (.int c1)] [(.int c1)])) _
      refine XS.bipush X.here hx rfl (hb hby d1_19) ?_
      show Steps p.tables e below (T.setTop (mkF m 21 #[.val (.int c1)] [(.int (90 : Int32)), (.int c1)])) _
      refine XS.icmpYes X.here hx rfl (pc0 := 21) (pc' := 191) rfl (hb hby d1_21) rfl (flt h2).2.2.2 (by decide) (by decide) ?_
      exact kt
set_option maxRecDepth 65536 in
set_option maxHeartbeats 4000000 in
theorem ck_t2 {p : Program} {l : Launch} {e : Env} {R : Room} {s : State} {m : MethodId} {args : Array Value} {below : List Frame} {meth : Method} {c : Code} {T : State} {locs : List Loc} {cells slots : Nat} {Z : State} {a0 : Array Value} {t : State} (c1 : Int32) (X : Stand p l e R s m args below meth c T locs cells slots) (hx : p.tables.exec = Jvm.exec) (hZ : Z.Warmed39 s.vm) (hw : ∀ d ∈ tables_1, d.before a0 Z = true) (hby : c.code = prog_284_method_2_code) (hown : s.vm.findClass "com/example/uliza/uliza/model/XmlChars" = some m.cls)
    (k1 : ¬ (c1 < (95 : Int32)) ∧ ¬ ((95 : Int32) < c1) → Steps p.tables e below (T.setTop (mkF m 191 #[.val (.int c1)] [])) t) (k2 : ¬ (¬ (c1 < (95 : Int32)) ∧ ¬ ((95 : Int32) < c1)) → Steps p.tables e below (T.setTop (mkF m 30 #[.val (.int c1)] [])) t) : Steps p.tables e below (T.setTop (mkF m 24 #[.val (.int c1)] [])) t := by
  by_cases h1 : c1 = (95 : Int32)
  · have kt := k1 (by subst h1; decide)
    show Steps p.tables e below (T.setTop (mkF m 24 #[.val (.int c1)] [])) _
    refine XS.iloadN X.here hx rfl (hb hby d1_24) rfl ?_
    show Steps p.tables e below (T.setTop (mkF m 25 #[.val (.int c1)] [(.int c1)])) _
    refine XS.bipush X.here hx rfl (hb hby d1_25) ?_
    show Steps p.tables e below (T.setTop (mkF m 27 #[.val (.int c1)] [(.int (95 : Int32)), (.int c1)])) _
    refine XS.icmpYes X.here hx rfl (pc0 := 27) (pc' := 191) rfl (hb hby d1_27) rfl (teq h1).1 (by decide) (by decide) ?_
    exact kt
  · have kt := k2 (fun q => h1 (Int32.le_antisymm (Int32.not_lt.mp q.2) (Int32.not_lt.mp q.1)))
    show Steps p.tables e below (T.setTop (mkF m 24 #[.val (.int c1)] [])) _
    refine XS.iloadN X.here hx rfl (hb hby d1_24) rfl ?_
    show Steps p.tables e below (T.setTop (mkF m 25 #[.val (.int c1)] [(.int c1)])) _
    refine XS.bipush X.here hx rfl (hb hby d1_25) ?_
    show Steps p.tables e below (T.setTop (mkF m 27 #[.val (.int c1)] [(.int (95 : Int32)), (.int c1)])) _
    refine XS.icmpNo X.here hx rfl (hb hby d1_27) rfl (feq h1).1 ?_
    exact kt
set_option maxRecDepth 65536 in
set_option maxHeartbeats 4000000 in
theorem ck_t3 {p : Program} {l : Launch} {e : Env} {R : Room} {s : State} {m : MethodId} {args : Array Value} {below : List Frame} {meth : Method} {c : Code} {T : State} {locs : List Loc} {cells slots : Nat} {Z : State} {a0 : Array Value} {t : State} (c1 : Int32) (X : Stand p l e R s m args below meth c T locs cells slots) (hx : p.tables.exec = Jvm.exec) (hZ : Z.Warmed39 s.vm) (hw : ∀ d ∈ tables_1, d.before a0 Z = true) (hby : c.code = prog_284_method_2_code) (hown : s.vm.findClass "com/example/uliza/uliza/model/XmlChars" = some m.cls)
    (k1 : ¬ (c1 < (192 : Int32)) ∧ ¬ ((214 : Int32) < c1) → Steps p.tables e below (T.setTop (mkF m 191 #[.val (.int c1)] [])) t) (k2 : ¬ (¬ (c1 < (192 : Int32)) ∧ ¬ ((214 : Int32) < c1)) → Steps p.tables e below (T.setTop (mkF m 44 #[.val (.int c1)] [])) t) : Steps p.tables e below (T.setTop (mkF m 30 #[.val (.int c1)] [])) t := by
  by_cases h1 : c1 < (192 : Int32)
  · have kt := k2 (fun q => q.1 h1)
    show Steps p.tables e below (T.setTop (mkF m 30 #[.val (.int c1)] [])) _
    refine XS.iloadN X.here hx rfl (hb hby d1_30) rfl ?_
    show Steps p.tables e below (T.setTop (mkF m 31 #[.val (.int c1)] [(.int c1)])) _
    refine XS.sipush X.here hx rfl (hb hby d1_31) ?_
    show Steps p.tables e below (T.setTop (mkF m 34 #[.val (.int c1)] [(.int (192 : Int32)), (.int c1)])) _
    refine XS.icmpYes X.here hx rfl (pc0 := 34) (pc' := 44) rfl (hb hby d1_34) rfl (tlt h1).1 (by decide) (by decide) ?_
    exact kt
  · by_cases h2 : (214 : Int32) < c1
    · have kt := k2 (fun q => q.2 h2)
      show Steps p.tables e below (T.setTop (mkF m 30 #[.val (.int c1)] [])) _
      refine XS.iloadN X.here hx rfl (hb hby d1_30) rfl ?_
      show Steps p.tables e below (T.setTop (mkF m 31 #[.val (.int c1)] [(.int c1)])) _
      refine XS.sipush X.here hx rfl (hb hby d1_31) ?_
      show Steps p.tables e below (T.setTop (mkF m 34 #[.val (.int c1)] [(.int (192 : Int32)), (.int c1)])) _
      refine XS.icmpNo X.here hx rfl (hb hby d1_34) rfl (flt h1).1 ?_
      show Steps p.tables e below (T.setTop (mkF m 37 #[.val (.int c1)] [])) _
      refine XS.iloadN X.here hx rfl (hb hby d1_37) rfl ?_
      show Steps p.tables e below (T.setTop (mkF m 38 #[.val (.int c1)] [(.int c1)])) _
      refine XS.sipush X.here hx rfl (hb hby d1_38) ?_
      show Steps p.tables e below (T.setTop (mkF m 41 #[.val (.int c1)] [(.int (214 : Int32)), (.int c1)])) _
      refine XS.icmpNo X.here hx rfl (hb hby d1_41) rfl (tlt h2).2.2.2 ?_
      exact kt
    · have kt := k1 ⟨h1, h2⟩
      show Steps p.tables e below (T.setTop (mkF m 30 #[.val (.int c1)] [])) _
      refine XS.iloadN X.here hx rfl (hb hby d1_30) rfl ?_
      show Steps p.tables e below (T.setTop (mkF m 31 #[.val (.int c1)] [(.int c1)])) _
      refine XS.sipush X.here hx rfl (hb hby d1_31) ?_
      show Steps p.tables e below (T.setTop (mkF m 34 #[.val (.int c1)] [(.int (192 : Int32)), (.int c1)])) _
      refine XS.icmpNo X.here hx rfl (hb hby d1_34) rfl (flt h1).1 ?_
      show Steps p.tables e below (T.setTop (mkF m 37 #[.val (.int c1)] [])) _
      refine XS.iloadN X.here hx rfl (hb hby d1_37) rfl ?_
      show Steps p.tables e below (T.setTop (mkF m 38 #[.val (.int c1)] [(.int c1)])) _
      refine XS.sipush X.here hx rfl (hb hby d1_38) ?_
      show Steps p.tables e below (T.setTop (mkF m 41 #[.val (.int c1)] [(.int (214 : Int32)), (.int c1)])) _
      refine XS.icmpYes X.here hx rfl (pc0 := 41) (pc' := 191) rfl (hb hby d1_41) rfl (flt h2).2.2.2 (by decide) (by decide) ?_
      exact kt
set_option maxRecDepth 65536 in
set_option maxHeartbeats 4000000 in
theorem ck_t4 {p : Program} {l : Launch} {e : Env} {R : Room} {s : State} {m : MethodId} {args : Array Value} {below : List Frame} {meth : Method} {c : Code} {T : State} {locs : List Loc} {cells slots : Nat} {Z : State} {a0 : Array Value} {t : State} (c1 : Int32) (X : Stand p l e R s m args below meth c T locs cells slots) (hx : p.tables.exec = Jvm.exec) (hZ : Z.Warmed39 s.vm) (hw : ∀ d ∈ tables_1, d.before a0 Z = true) (hby : c.code = prog_284_method_2_code) (hown : s.vm.findClass "com/example/uliza/uliza/model/XmlChars" = some m.cls)
    (k1 : ¬ (c1 < (216 : Int32)) ∧ ¬ ((246 : Int32) < c1) → Steps p.tables e below (T.setTop (mkF m 191 #[.val (.int c1)] [])) t) (k2 : ¬ (¬ (c1 < (216 : Int32)) ∧ ¬ ((246 : Int32) < c1)) → Steps p.tables e below (T.setTop (mkF m 58 #[.val (.int c1)] [])) t) : Steps p.tables e below (T.setTop (mkF m 44 #[.val (.int c1)] [])) t := by
  by_cases h1 : c1 < (216 : Int32)
  · have kt := k2 (fun q => q.1 h1)
    show Steps p.tables e below (T.setTop (mkF m 44 #[.val (.int c1)] [])) _
    refine XS.iloadN X.here hx rfl (hb hby d1_44) rfl ?_
    show Steps p.tables e below (T.setTop (mkF m 45 #[.val (.int c1)] [(.int c1)])) _
    refine XS.sipush X.here hx rfl (hb hby d1_45) ?_
    show Steps p.tables e below (T.setTop (mkF m 48 #[.val (.int c1)] [(.int (216 : Int32)), (.int c1)])) _
    refine XS.icmpYes X.here hx rfl (pc0 := 48) (pc' := 58) rfl (hb hby d1_48) rfl (tlt h1).1 (by decide) (by decide) ?_
    exact kt
  · by_cases h2 : (246 : Int32) < c1
    · have kt := k2 (fun q => q.2 h2)
      show Steps p.tables e below (T.setTop (mkF m 44 #[.val (.int c1)] [])) _
      refine XS.iloadN X.here hx rfl (hb hby d1_44) rfl ?_
      show Steps p.tables e below (T.setTop (mkF m 45 #[.val (.int c1)] [(.int c1)])) _
      refine XS.sipush X.here hx rfl (hb hby d1_45) ?_
      show Steps p.tables e below (T.setTop (mkF m 48 #[.val (.int c1)] [(.int (216 : Int32)), (.int c1)])) _
      refine XS.icmpNo X.here hx rfl (hb hby d1_48) rfl (flt h1).1 ?_
      show Steps p.tables e below (T.setTop (mkF m 51 #[.val (.int c1)] [])) _
      refine XS.iloadN X.here hx rfl (hb hby d1_51) rfl ?_
      show Steps p.tables e below (T.setTop (mkF m 52 #[.val (.int c1)] [(.int c1)])) _
      refine XS.sipush X.here hx rfl (hb hby d1_52) ?_
      show Steps p.tables e below (T.setTop (mkF m 55 #[.val (.int c1)] [(.int (246 : Int32)), (.int c1)])) _
      refine XS.icmpNo X.here hx rfl (hb hby d1_55) rfl (tlt h2).2.2.2 ?_
      exact kt
    · have kt := k1 ⟨h1, h2⟩
      show Steps p.tables e below (T.setTop (mkF m 44 #[.val (.int c1)] [])) _
      refine XS.iloadN X.here hx rfl (hb hby d1_44) rfl ?_
      show Steps p.tables e below (T.setTop (mkF m 45 #[.val (.int c1)] [(.int c1)])) _
      refine XS.sipush X.here hx rfl (hb hby d1_45) ?_
      show Steps p.tables e below (T.setTop (mkF m 48 #[.val (.int c1)] [(.int (216 : Int32)), (.int c1)])) _
      refine XS.icmpNo X.here hx rfl (hb hby d1_48) rfl (flt h1).1 ?_
      show Steps p.tables e below (T.setTop (mkF m 51 #[.val (.int c1)] [])) _
      refine XS.iloadN X.here hx rfl (hb hby d1_51) rfl ?_
      show Steps p.tables e below (T.setTop (mkF m 52 #[.val (.int c1)] [(.int c1)])) _
      refine XS.sipush X.here hx rfl (hb hby d1_52) ?_
      show Steps p.tables e below (T.setTop (mkF m 55 #[.val (.int c1)] [(.int (246 : Int32)), (.int c1)])) _
      refine XS.icmpYes X.here hx rfl (pc0 := 55) (pc' := 191) rfl (hb hby d1_55) rfl (flt h2).2.2.2 (by decide) (by decide) ?_
      exact kt
set_option maxRecDepth 65536 in
set_option maxHeartbeats 4000000 in
theorem ck_t5 {p : Program} {l : Launch} {e : Env} {R : Room} {s : State} {m : MethodId} {args : Array Value} {below : List Frame} {meth : Method} {c : Code} {T : State} {locs : List Loc} {cells slots : Nat} {Z : State} {a0 : Array Value} {t : State} (c1 : Int32) (X : Stand p l e R s m args below meth c T locs cells slots) (hx : p.tables.exec = Jvm.exec) (hZ : Z.Warmed39 s.vm) (hw : ∀ d ∈ tables_1, d.before a0 Z = true) (hby : c.code = prog_284_method_2_code) (hown : s.vm.findClass "com/example/uliza/uliza/model/XmlChars" = some m.cls)
    (k1 : ¬ (c1 < (248 : Int32)) ∧ ¬ ((767 : Int32) < c1) → Steps p.tables e below (T.setTop (mkF m 191 #[.val (.int c1)] [])) t) (k2 : ¬ (¬ (c1 < (248 : Int32)) ∧ ¬ ((767 : Int32) < c1)) → Steps p.tables e below (T.setTop (mkF m 72 #[.val (.int c1)] [])) t) : Steps p.tables e below (T.setTop (mkF m 58 #[.val (.int c1)] [])) t := by
  by_cases h1 : c1 < (248 : Int32)
  · have kt := k2 (fun q => q.1 h1)
    show Steps p.tables e below (T.setTop (mkF m 58 #[.val (.int c1)] [])) _
    refine XS.iloadN X.here hx rfl (hb hby d1_58) rfl ?_
    show Steps p.tables e below (T.setTop (mkF m 59 #[.val (.int c1)] [(.int c1)])) _
    refine XS.sipush X.here hx rfl (hb hby d1_59) ?_
    show Steps p.tables e below (T.setTop (mkF m 62 #[.val (.int c1)] [(.int (248 : Int32)), (.int c1)])) _
    refine XS.icmpYes X.here hx rfl (pc0 := 62) (pc' := 72) rfl (hb hby d1_62) rfl (tlt h1).1 (by decide) (by decide) ?_
    exact kt
  · by_cases h2 : (767 : Int32) < c1
    · have kt := k2 (fun q => q.2 h2)
      show Steps p.tables e below (T.setTop (mkF m 58 #[.val (.int c1)] [])) _
      refine XS.iloadN X.here hx rfl (hb hby d1_58) rfl ?_
      show Steps p.tables e below (T.setTop (mkF m 59 #[.val (.int c1)] [(.int c1)])) _
      refine XS.sipush X.here hx rfl (hb hby d1_59) ?_
      show Steps p.tables e below (T.setTop (mkF m 62 #[.val (.int c1)] [(.int (248 : Int32)), (.int c1)])) _
      refine XS.icmpNo X.here hx rfl (hb hby d1_62) rfl (flt h1).1 ?_
      show Steps p.tables e below (T.setTop (mkF m 65 #[.val (.int c1)] [])) _
      refine XS.iloadN X.here hx rfl (hb hby d1_65) rfl ?_
      show Steps p.tables e below (T.setTop (mkF m 66 #[.val (.int c1)] [(.int c1)])) _
      refine XS.sipush X.here hx rfl (hb hby d1_66) ?_
      show Steps p.tables e below (T.setTop (mkF m 69 #[.val (.int c1)] [(.int (767 : Int32)), (.int c1)])) _
      refine XS.icmpNo X.here hx rfl (hb hby d1_69) rfl (tlt h2).2.2.2 ?_
      exact kt
    · have kt := k1 ⟨h1, h2⟩
      show Steps p.tables e below (T.setTop (mkF m 58 #[.val (.int c1)] [])) _
      refine XS.iloadN X.here hx rfl (hb hby d1_58) rfl ?_
      show Steps p.tables e below (T.setTop (mkF m 59 #[.val (.int c1)] [(.int c1)])) _
      refine XS.sipush X.here hx rfl (hb hby d1_59) ?_
      show Steps p.tables e below (T.setTop (mkF m 62 #[.val (.int c1)] [(.int (248 : Int32)), (.int c1)])) _
      refine XS.icmpNo X.here hx rfl (hb hby d1_62) rfl (flt h1).1 ?_
      show Steps p.tables e below (T.setTop (mkF m 65 #[.val (.int c1)] [])) _
      refine XS.iloadN X.here hx rfl (hb hby d1_65) rfl ?_
      show Steps p.tables e below (T.setTop (mkF m 66 #[.val (.int c1)] [(.int c1)])) _
      refine XS.sipush X.here hx rfl (hb hby d1_66) ?_
      show Steps p.tables e below (T.setTop (mkF m 69 #[.val (.int c1)] [(.int (767 : Int32)), (.int c1)])) _
      refine XS.icmpYes X.here hx rfl (pc0 := 69) (pc' := 191) rfl (hb hby d1_69) rfl (flt h2).2.2.2 (by decide) (by decide) ?_
      exact kt
set_option maxRecDepth 65536 in
set_option maxHeartbeats 4000000 in
theorem ck_t6 {p : Program} {l : Launch} {e : Env} {R : Room} {s : State} {m : MethodId} {args : Array Value} {below : List Frame} {meth : Method} {c : Code} {T : State} {locs : List Loc} {cells slots : Nat} {Z : State} {a0 : Array Value} {t : State} (c1 : Int32) (X : Stand p l e R s m args below meth c T locs cells slots) (hx : p.tables.exec = Jvm.exec) (hZ : Z.Warmed39 s.vm) (hw : ∀ d ∈ tables_1, d.before a0 Z = true) (hby : c.code = prog_284_method_2_code) (hown : s.vm.findClass "com/example/uliza/uliza/model/XmlChars" = some m.cls)
    (k1 : ¬ (c1 < (880 : Int32)) ∧ ¬ ((893 : Int32) < c1) → Steps p.tables e below (T.setTop (mkF m 191 #[.val (.int c1)] [])) t) (k2 : ¬ (¬ (c1 < (880 : Int32)) ∧ ¬ ((893 : Int32) < c1)) → Steps p.tables e below (T.setTop (mkF m 86 #[.val (.int c1)] [])) t) : Steps p.tables e below (T.setTop (mkF m 72 #[.val (.int c1)] [])) t := by
  by_cases h1 : c1 < (880 : Int32)
  · have kt := k2 (fun q => q.1 h1)
    show Steps p.tables e below (T.setTop (mkF m 72 #[.val (.int c1)] [])) _
    refine XS.iloadN X.here hx rfl (hb hby d1_72) rfl ?_
    show Steps p.tables e below (T.setTop (mkF m 73 #[.val (.int c1)] [(.int c1)])) _
    refine XS.sipush X.here hx rfl (hb hby d1_73) ?_
    show Steps p.tables e below (T.setTop (mkF m 76 #[.val (.int c1)] [(.int (880 : Int32)), (.int c1)])) _
    refine XS.icmpYes X.here hx rfl (pc0 := 76) (pc' := 86) rfl (hb hby d1_76) rfl (tlt h1).1 (by decide) (by decide) ?_
    exact kt
  · by_cases h2 : (893 : Int32) < c1
    · have kt := k2 (fun q => q.2 h2)
      show Steps p.tables e below (T.setTop (mkF m 72 #[.val (.int c1)] [])) _
      refine XS.iloadN X.here hx rfl (hb hby d1_72) rfl ?_
      show Steps p.tables e below (T.setTop (mkF m 73 #[.val (.int c1)] [(.int c1)])) _
      refine XS.sipush X.here hx rfl (hb hby d1_73) ?_
      show Steps p.tables e below (T.setTop (mkF m 76 #[.val (.int c1)] [(.int (880 : Int32)), (.int c1)])) _
      refine XS.icmpNo X.here hx rfl (hb hby d1_76) rfl (flt h1).1 ?_
      show Steps p.tables e below (T.setTop (mkF m 79 #[.val (.int c1)] [])) _
      refine XS.iloadN X.here hx rfl (hb hby d1_79) rfl ?_
      show Steps p.tables e below (T.setTop (mkF m 80 #[.val (.int c1)] [(.int c1)])) _
      refine XS.sipush X.here hx rfl (hb hby d1_80) ?_
      show Steps p.tables e below (T.setTop (mkF m 83 #[.val (.int c1)] [(.int (893 : Int32)), (.int c1)])) _
      refine XS.icmpNo X.here hx rfl (hb hby d1_83) rfl (tlt h2).2.2.2 ?_
      exact kt
    · have kt := k1 ⟨h1, h2⟩
      show Steps p.tables e below (T.setTop (mkF m 72 #[.val (.int c1)] [])) _
      refine XS.iloadN X.here hx rfl (hb hby d1_72) rfl ?_
      show Steps p.tables e below (T.setTop (mkF m 73 #[.val (.int c1)] [(.int c1)])) _
      refine XS.sipush X.here hx rfl (hb hby d1_73) ?_
      show Steps p.tables e below (T.setTop (mkF m 76 #[.val (.int c1)] [(.int (880 : Int32)), (.int c1)])) _
      refine XS.icmpNo X.here hx rfl (hb hby d1_76) rfl (flt h1).1 ?_
      show Steps p.tables e below (T.setTop (mkF m 79 #[.val (.int c1)] [])) _
      refine XS.iloadN X.here hx rfl (hb hby d1_79) rfl ?_
      show Steps p.tables e below (T.setTop (mkF m 80 #[.val (.int c1)] [(.int c1)])) _
      refine XS.sipush X.here hx rfl (hb hby d1_80) ?_
      show Steps p.tables e below (T.setTop (mkF m 83 #[.val (.int c1)] [(.int (893 : Int32)), (.int c1)])) _
      refine XS.icmpYes X.here hx rfl (pc0 := 83) (pc' := 191) rfl (hb hby d1_83) rfl (flt h2).2.2.2 (by decide) (by decide) ?_
      exact kt
set_option maxRecDepth 65536 in
set_option maxHeartbeats 4000000 in
theorem ck_t7 {p : Program} {l : Launch} {e : Env} {R : Room} {s : State} {m : MethodId} {args : Array Value} {below : List Frame} {meth : Method} {c : Code} {T : State} {locs : List Loc} {cells slots : Nat} {Z : State} {a0 : Array Value} {t : State} (c1 : Int32) (X : Stand p l e R s m args below meth c T locs cells slots) (hx : p.tables.exec = Jvm.exec) (hZ : Z.Warmed39 s.vm) (hw : ∀ d ∈ tables_1, d.before a0 Z = true) (hby : c.code = prog_284_method_2_code) (hown : s.vm.findClass "com/example/uliza/uliza/model/XmlChars" = some m.cls)
    (k1 : ¬ (c1 < (895 : Int32)) ∧ ¬ ((8191 : Int32) < c1) → Steps p.tables e below (T.setTop (mkF m 191 #[.val (.int c1)] [])) t) (k2 : ¬ (¬ (c1 < (895 : Int32)) ∧ ¬ ((8191 : Int32) < c1)) → Steps p.tables e below (T.setTop (mkF m 100 #[.val (.int c1)] [])) t) : Steps p.tables e below (T.setTop (mkF m 86 #[.val (.int c1)] [])) t := by
  by_cases h1 : c1 < (895 : Int32)
  · have kt := k2 (fun q => q.1 h1)
    show Steps p.tables e below (T.setTop (mkF m 86 #[.val (.int c1)] [])) _
    refine XS.iloadN X.here hx rfl (hb hby d1_86) rfl ?_
    show Steps p.tables e below (T.setTop (mkF m 87 #[.val (.int c1)] [(.int c1)])) _
    refine XS.sipush X.here hx rfl (hb hby d1_87) ?_
    show Steps p.tables e below (T.setTop (mkF m 90 #[.val (.int c1)] [(.int (895 : Int32)), (.int c1)])) _
    refine XS.icmpYes X.here hx rfl (pc0 := 90) (pc' := 100) rfl (hb hby d1_90) rfl (tlt h1).1 (by decide) (by decide) ?_
    exact kt
  · by_cases h2 : (8191 : Int32) < c1
    · have kt := k2 (fun q => q.2 h2)
      show Steps p.tables e below (T.setTop (mkF m 86 #[.val (.int c1)] [])) _
      refine XS.iloadN X.here hx rfl (hb hby d1_86) rfl ?_
      show Steps p.tables e below (T.setTop (mkF m 87 #[.val (.int c1)] [(.int c1)])) _
      refine XS.sipush X.here hx rfl (hb hby d1_87) ?_
      show Steps p.tables e below (T.setTop (mkF m 90 #[.val (.int c1)] [(.int (895 : Int32)), (.int c1)])) _
      refine XS.icmpNo X.here hx rfl (hb hby d1_90) rfl (flt h1).1 ?_
      show Steps p.tables e below (T.setTop (mkF m 93 #[.val (.int c1)] [])) _
      refine XS.iloadN X.here hx rfl (hb hby d1_93) rfl ?_
      show Steps p.tables e below (T.setTop (mkF m 94 #[.val (.int c1)] [(.int c1)])) _
      refine XS.sipush X.here hx rfl (hb hby d1_94) ?_
      show Steps p.tables e below (T.setTop (mkF m 97 #[.val (.int c1)] [(.int (8191 : Int32)), (.int c1)])) _
      refine XS.icmpNo X.here hx rfl (hb hby d1_97) rfl (tlt h2).2.2.2 ?_
      exact kt
    · have kt := k1 ⟨h1, h2⟩
      show Steps p.tables e below (T.setTop (mkF m 86 #[.val (.int c1)] [])) _
      refine XS.iloadN X.here hx rfl (hb hby d1_86) rfl ?_
      show Steps p.tables e below (T.setTop (mkF m 87 #[.val (.int c1)] [(.int c1)])) _
      refine XS.sipush X.here hx rfl (hb hby d1_87) ?_
      show Steps p.tables e below (T.setTop (mkF m 90 #[.val (.int c1)] [(.int (895 : Int32)), (.int c1)])) _
      refine XS.icmpNo X.here hx rfl (hb hby d1_90) rfl (flt h1).1 ?_
      show Steps p.tables e below (T.setTop (mkF m 93 #[.val (.int c1)] [])) _
      refine XS.iloadN X.here hx rfl (hb hby d1_93) rfl ?_
      show Steps p.tables e below (T.setTop (mkF m 94 #[.val (.int c1)] [(.int c1)])) _
      refine XS.sipush X.here hx rfl (hb hby d1_94) ?_
      show Steps p.tables e below (T.setTop (mkF m 97 #[.val (.int c1)] [(.int (8191 : Int32)), (.int c1)])) _
      refine XS.icmpYes X.here hx rfl (pc0 := 97) (pc' := 191) rfl (hb hby d1_97) rfl (flt h2).2.2.2 (by decide) (by decide) ?_
      exact kt
set_option maxRecDepth 65536 in
set_option maxHeartbeats 4000000 in
theorem ck_t8 {p : Program} {l : Launch} {e : Env} {R : Room} {s : State} {m : MethodId} {args : Array Value} {below : List Frame} {meth : Method} {c : Code} {T : State} {locs : List Loc} {cells slots : Nat} {Z : State} {a0 : Array Value} {t : State} (c1 : Int32) (X : Stand p l e R s m args below meth c T locs cells slots) (hx : p.tables.exec = Jvm.exec) (hZ : Z.Warmed39 s.vm) (hw : ∀ d ∈ tables_1, d.before a0 Z = true) (hby : c.code = prog_284_method_2_code) (hown : s.vm.findClass "com/example/uliza/uliza/model/XmlChars" = some m.cls)
    (k1 : ¬ (c1 < (8204 : Int32)) ∧ ¬ ((8205 : Int32) < c1) → Steps p.tables e below (T.setTop (mkF m 191 #[.val (.int c1)] [])) t) (k2 : ¬ (¬ (c1 < (8204 : Int32)) ∧ ¬ ((8205 : Int32) < c1)) → Steps p.tables e below (T.setTop (mkF m 114 #[.val (.int c1)] [])) t) : Steps p.tables e below (T.setTop (mkF m 100 #[.val (.int c1)] [])) t := by
  by_cases h1 : c1 < (8204 : Int32)
  · have kt := k2 (fun q => q.1 h1)
    show Steps p.tables e below (T.setTop (mkF m 100 #[.val (.int c1)] [])) _
    refine XS.iloadN X.here hx rfl (hb hby d1_100) rfl ?_
    show Steps p.tables e below (T.setTop (mkF m 101 #[.val (.int c1)] [(.int c1)])) _
    refine XS.sipush X.here hx rfl (hb hby d1_101) ?_
    show Steps p.tables e below (T.setTop (mkF m 104 #[.val (.int c1)] [(.int (8204 : Int32)), (.int c1)])) _
    refine XS.icmpYes X.here hx rfl (pc0 := 104) (pc' := 114) rfl (hb hby d1_104) rfl (tlt h1).1 (by decide) (by decide) ?_
    exact kt
  · by_cases h2 : (8205 : Int32) < c1
    · have kt := k2 (fun q => q.2 h2)
      show Steps p.tables e below (T.setTop (mkF m 100 #[.val (.int c1)] [])) _
      refine XS.iloadN X.here hx rfl (hb hby d1_100) rfl ?_
      show Steps p.tables e below (T.setTop (mkF m 101 #[.val (.int c1)] [(.int c1)])) _
      refine XS.sipush X.here hx rfl (hb hby d1_101) ?_
      show Steps p.tables e below (T.setTop (mkF m 104 #[.val (.int c1)] [(.int (8204 : Int32)), (.int c1)])) _
      refine XS.icmpNo X.here hx rfl (hb hby d1_104) rfl (flt h1).1 ?_
      show Steps p.tables e below (T.setTop (mkF m 107 #[.val (.int c1)] [])) _
      refine XS.iloadN X.here hx rfl (hb hby d1_107) rfl ?_
      show Steps p.tables e below (T.setTop (mkF m 108 #[.val (.int c1)] [(.int c1)])) _
      refine XS.sipush X.here hx rfl (hb hby d1_108) ?_
      show Steps p.tables e below (T.setTop (mkF m 111 #[.val (.int c1)] [(.int (8205 : Int32)), (.int c1)])) _
      refine XS.icmpNo X.here hx rfl (hb hby d1_111) rfl (tlt h2).2.2.2 ?_
      exact kt
    · have kt := k1 ⟨h1, h2⟩
      show Steps p.tables e below (T.setTop (mkF m 100 #[.val (.int c1)] [])) _
      refine XS.iloadN X.here hx rfl (hb hby d1_100) rfl ?_
      show Steps p.tables e below (T.setTop (mkF m 101 #[.val (.int c1)] [(.int c1)])) _
      refine XS.sipush X.here hx rfl (hb hby d1_101) ?_
      show Steps p.tables e below (T.setTop (mkF m 104 #[.val (.int c1)] [(.int (8204 : Int32)), (.int c1)])) _
      refine XS.icmpNo X.here hx rfl (hb hby d1_104) rfl (flt h1).1 ?_
      show Steps p.tables e below (T.setTop (mkF m 107 #[.val (.int c1)] [])) _
      refine XS.iloadN X.here hx rfl (hb hby d1_107) rfl ?_
      show Steps p.tables e below (T.setTop (mkF m 108 #[.val (.int c1)] [(.int c1)])) _
      refine XS.sipush X.here hx rfl (hb hby d1_108) ?_
      show Steps p.tables e below (T.setTop (mkF m 111 #[.val (.int c1)] [(.int (8205 : Int32)), (.int c1)])) _
      refine XS.icmpYes X.here hx rfl (pc0 := 111) (pc' := 191) rfl (hb hby d1_111) rfl (flt h2).2.2.2 (by decide) (by decide) ?_
      exact kt
set_option maxRecDepth 65536 in
set_option maxHeartbeats 4000000 in
theorem ck_t9 {p : Program} {l : Launch} {e : Env} {R : Room} {s : State} {m : MethodId} {args : Array Value} {below : List Frame} {meth : Method} {c : Code} {T : State} {locs : List Loc} {cells slots : Nat} {Z : State} {a0 : Array Value} {t : State} (c1 : Int32) (X : Stand p l e R s m args below meth c T locs cells slots) (hx : p.tables.exec = Jvm.exec) (hZ : Z.Warmed39 s.vm) (hw : ∀ d ∈ tables_1, d.before a0 Z = true) (hby : c.code = prog_284_method_2_code) (hown : s.vm.findClass "com/example/uliza/uliza/model/XmlChars" = some m.cls)
    (k1 : ¬ (c1 < (8304 : Int32)) ∧ ¬ ((8591 : Int32) < c1) → Steps p.tables e below (T.setTop (mkF m 191 #[.val (.int c1)] [])) t) (k2 : ¬ (¬ (c1 < (8304 : Int32)) ∧ ¬ ((8591 : Int32) < c1)) → Steps p.tables e below (T.setTop (mkF m 128 #[.val (.int c1)] [])) t) : Steps p.tables e below (T.setTop (mkF m 114 #[.val (.int c1)] [])) t := by
  by_cases h1 : c1 < (8304 : Int32)
  · have kt := k2 (fun q => q.1 h1)
    show Steps p.tables e below (T.setTop (mkF m 114 #[.val (.int c1)] [])) _
    refine XS.iloadN X.here hx rfl (hb hby d1_114) rfl ?_
    show Steps p.tables e below (T.setTop (mkF m 115 #[.val (.int c1)] [(.int c1)])) _
    refine XS.sipush X.here hx rfl (hb hby d1_115) ?_
    show Steps p.tables e below (T.setTop (mkF m 118 #[.val (.int c1)] [(.int (8304 : Int32)), (.int c1)])) _
    refine XS.icmpYes X.here hx rfl (pc0 := 118) (pc' := 128) rfl (hb hby d1_118) rfl (tlt h1).1 (by decide) (by decide) ?_
    exact kt
  · by_cases h2 : (8591 : Int32) < c1
    · have kt := k2 (fun q => q.2 h2)
      show Steps p.tables e below (T.setTop (mkF m 114 #[.val (.int c1)] [])) _
      refine XS.iloadN X.here hx rfl (hb hby d1_114) rfl ?_
      show Steps p.tables e below (T.setTop (mkF m 115 #[.val (.int c1)] [(.int c1)])) _
      refine XS.sipush X.here hx rfl (hb hby d1_115) ?_
      show Steps p.tables e below (T.setTop (mkF m 118 #[.val (.int c1)] [(.int (8304 : Int32)), (.int c1)])) _
      refine XS.icmpNo X.here hx rfl (hb hby d1_118) rfl (flt h1).1 ?_
      show Steps p.tables e below (T.setTop (mkF m 121 #[.val (.int c1)] [])) _
      refine XS.iloadN X.here hx rfl (hb hby d1_121) rfl ?_
      show Steps p.tables e below (T.setTop (mkF m 122 #[.val (.int c1)] [(.int c1)])) _
      refine XS.sipush X.here hx rfl (hb hby d1_122) ?_
      show Steps p.tables e below (T.setTop (mkF m 125 #[.val (.int c1)] [(.int (8591 : Int32)), (.int c1)])) _
      refine XS.icmpNo X.here hx rfl (hb hby d1_125) rfl (tlt h2).2.2.2 ?_
      exact kt
    · have kt := k1 ⟨h1, h2⟩
      show Steps p.tables e below (T.setTop (mkF m 114 #[.val (.int c1)] [])) _
      refine XS.iloadN X.here hx rfl (hb hby d1_114) rfl ?_
      show Steps p.tables e below (T.setTop (mkF m 115 #[.val (.int c1)] [(.int c1)])) _
      refine XS.sipush X.here hx rfl (hb hby d1_115) ?_
      show Steps p.tables e below (T.setTop (mkF m 118 #[.val (.int c1)] [(.int (8304 : Int32)), (.int c1)])) _
      refine XS.icmpNo X.here hx rfl (hb hby d1_118) rfl (flt h1).1 ?_
      show Steps p.tables e below (T.setTop (mkF m 121 #[.val (.int c1)] [])) _
      refine XS.iloadN X.here hx rfl (hb hby d1_121) rfl ?_
      show Steps p.tables e below (T.setTop (mkF m 122 #[.val (.int c1)] [(.int c1)])) _
      refine XS.sipush X.here hx rfl (hb hby d1_122) ?_
      show Steps p.tables e below (T.setTop (mkF m 125 #[.val (.int c1)] [(.int (8591 : Int32)), (.int c1)])) _
      refine XS.icmpYes X.here hx rfl (pc0 := 125) (pc' := 191) rfl (hb hby d1_125) rfl (flt h2).2.2.2 (by decide) (by decide) ?_
      exact kt
set_option maxRecDepth 65536 in
set_option maxHeartbeats 4000000 in
theorem ck_t10 {p : Program} {l : Launch} {e : Env} {R : Room} {s : State} {m : MethodId} {args : Array Value} {below : List Frame} {meth : Method} {c : Code} {T : State} {locs : List Loc} {cells slots : Nat} {Z : State} {a0 : Array Value} {t : State} (c1 : Int32) (X : Stand p l e R s m args below meth c T locs cells slots) (hx : p.tables.exec = Jvm.exec) (hZ : Z.Warmed39 s.vm) (hw : ∀ d ∈ tables_1, d.before a0 Z = true) (hby : c.code = prog_284_method_2_code) (hown : s.vm.findClass "com/example/uliza/uliza/model/XmlChars" = some m.cls)
    (k1 : ¬ (c1 < (11264 : Int32)) ∧ ¬ ((12271 : Int32) < c1) → Steps p.tables e below (T.setTop (mkF m 191 #[.val (.int c1)] [])) t) (k2 : ¬ (¬ (c1 < (11264 : Int32)) ∧ ¬ ((12271 : Int32) < c1)) → Steps p.tables e below (T.setTop (mkF m 142 #[.val (.int c1)] [])) t) : Steps p.tables e below (T.setTop (mkF m 128 #[.val (.int c1)] [])) t := by
  by_cases h1 : c1 < (11264 : Int32)
  · have kt := k2 (fun q => q.1 h1)
    show Steps p.tables e below (T.setTop (mkF m 128 #[.val (.int c1)] [])) _
    refine XS.iloadN X.here hx rfl (hb hby d1_128) rfl ?_
    show Steps p.tables e below (T.setTop (mkF m 129 #[.val (.int c1)] [(.int c1)])) _
    refine XS.sipush X.here hx rfl (hb hby d1_129) ?_
    show Steps p.tables e below (T.setTop (mkF m 132 #[.val (.int c1)] [(.int (11264 : Int32)), (.int c1)])) _
    refine XS.icmpYes X.here hx rfl (pc0 := 132) (pc' := 142) rfl (hb hby d1_132) rfl (tlt h1).1 (by decide) (by decide) ?_
    exact kt
  · by_cases h2 : (12271 : Int32) < c1
    · have kt := k2 (fun q => q.2 h2)
      show Steps p.tables e below (T.setTop (mkF m 128 #[.val (.int c1)] [])) _
      refine XS.iloadN X.here hx rfl (hb hby d1_128) rfl ?_
      show Steps p.tables e below (T.setTop (mkF m 129 #[.val (.int c1)] [(.int c1)])) _
      refine XS.sipush X.here hx rfl (hb hby d1_129) ?_
      show Steps p.tables e below (T.setTop (mkF m 132 #[.val (.int c1)] [(.int (11264 : Int32)), (.int c1)])) _
      refine XS.icmpNo X.here hx rfl (hb hby d1_132) rfl (flt h1).1 ?_
      show Steps p.tables e below (T.setTop (mkF m 135 #[.val (.int c1)] [])) _
      refine XS.iloadN X.here hx rfl (hb hby d1_135) rfl ?_
      show Steps p.tables e below (T.setTop (mkF m 136 #[.val (.int c1)] [(.int c1)])) _
      refine XS.sipush X.here hx rfl (hb hby d1_136) ?_
      show Steps p.tables e below (T.setTop (mkF m 139 #[.val (.int c1)] [(.int (12271 : Int32)), (.int c1)])) _
      refine XS.icmpNo X.here hx rfl (hb hby d1_139) rfl (tlt h2).2.2.2 ?_
      exact kt
    · have kt := k1 ⟨h1, h2⟩
      show Steps p.tables e below (T.setTop (mkF m 128 #[.val (.int c1)] [])) _
      refine XS.iloadN X.here hx rfl (hb hby d1_128) rfl ?_
      show Steps p.tables e below (T.setTop (mkF m 129 #[.val (.int c1)] [(.int c1)])) _
      refine XS.sipush X.here hx rfl (hb hby d1_129) ?_
      show Steps p.tables e below (T.setTop (mkF m 132 #[.val (.int c1)] [(.int (11264 : Int32)), (.int c1)])) _
      refine XS.icmpNo X.here hx rfl (hb hby d1_132) rfl (flt h1).1 ?_
      show Steps p.tables e below (T.setTop (mkF m 135 #[.val (.int c1)] [])) _
      refine XS.iloadN X.here hx rfl (hb hby d1_135) rfl ?_
      show Steps p.tables e below (T.setTop (mkF m 136 #[.val (.int c1)] [(.int c1)])) _
      refine XS.sipush X.here hx rfl (hb hby d1_136) ?_
      show Steps p.tables e below (T.setTop (mkF m 139 #[.val (.int c1)] [(.int (12271 : Int32)), (.int c1)])) _
      refine XS.icmpYes X.here hx rfl (pc0 := 139) (pc' := 191) rfl (hb hby d1_139) rfl (flt h2).2.2.2 (by decide) (by decide) ?_
      exact kt
set_option maxRecDepth 65536 in
set_option maxHeartbeats 4000000 in
theorem ck_t11 {p : Program} {l : Launch} {e : Env} {R : Room} {s : State} {m : MethodId} {args : Array Value} {below : List Frame} {meth : Method} {c : Code} {T : State} {locs : List Loc} {cells slots : Nat} {Z : State} {a0 : Array Value} {t : State} (c1 : Int32) (X : Stand p l e R s m args below meth c T locs cells slots) (hx : p.tables.exec = Jvm.exec) (hZ : Z.Warmed39 s.vm) (hw : ∀ d ∈ tables_1, d.before a0 Z = true) (hby : c.code = prog_284_method_2_code) (hown : s.vm.findClass "com/example/uliza/uliza/model/XmlChars" = some m.cls)
    (k1 : ¬ (c1 < (12289 : Int32)) ∧ ¬ ((55295 : Int32) < c1) → Steps p.tables e below (T.setTop (mkF m 191 #[.val (.int c1)] [])) t) (k2 : ¬ (¬ (c1 < (12289 : Int32)) ∧ ¬ ((55295 : Int32) < c1)) → Steps p.tables e below (T.setTop (mkF m 155 #[.val (.int c1)] [])) t) : Steps p.tables e below (T.setTop (mkF m 142 #[.val (.int c1)] [])) t := by
  by_cases h1 : c1 < (12289 : Int32)
  · have kt := k2 (fun q => q.1 h1)
    show Steps p.tables e below (T.setTop (mkF m 142 #[.val (.int c1)] [])) _
    refine XS.iloadN X.here hx rfl (hb hby d1_142) rfl ?_
    show Steps p.tables e below (T.setTop (mkF m 143 #[.val (.int c1)] [(.int c1)])) _
    refine XS.sipush X.here hx rfl (hb hby d1_143) ?_
    show Steps p.tables e below (T.setTop (mkF m 146 #[.val (.int c1)] [(.int (12289 : Int32)), (.int c1)])) _
    refine XS.icmpYes X.here hx rfl (pc0 := 146) (pc' := 155) rfl (hb hby d1_146) rfl (tlt h1).1 (by decide) (by decide) ?_
    exact kt
  · by_cases h2 : (55295 : Int32) < c1
    · have kt := k2 (fun q => q.2 h2)
      show Steps p.tables e below (T.setTop (mkF m 142 #[.val (.int c1)] [])) _
      refine XS.iloadN X.here hx rfl (hb hby d1_142) rfl ?_
      show Steps p.tables e below (T.setTop (mkF m 143 #[.val (.int c1)] [(.int c1)])) _
      refine XS.sipush X.here hx rfl (hb hby d1_143) ?_
      show Steps p.tables e below (T.setTop (mkF m 146 #[.val (.int c1)] [(.int (12289 : Int32)), (.int c1)])) _
      refine XS.icmpNo X.here hx rfl (hb hby d1_146) rfl (flt h1).1 ?_
      show Steps p.tables e below (T.setTop (mkF m 149 #[.val (.int c1)] [])) _
      refine XS.iloadN X.here hx rfl (hb hby d1_149) rfl ?_
      show Steps p.tables e below (T.setTop (mkF m 150 #[.val (.int c1)] [(.int c1)])) _
      refine X.ldcInt hx hown (mvT hZ (hw _ (List.mem_of_getElem? (i := 23) rfl))) (g := (mkF m 150 #[.val (.int c1)] [(.int c1)])) rfl (hb hby d1_150) _ ?_
      show Steps p.tables e below (T.setTop (mkF m 152 #[.val (.int c1)] [(.int (55295 : Int32)), (.int c1)])) _
      refine XS.icmpNo X.here hx rfl (hb hby d1_152) rfl (tlt h2).2.2.2 ?_
      exact kt
    · have kt := k1 ⟨h1, h2⟩
      show Steps p.tables e below (T.setTop (mkF m 142 #[.val (.int c1)] [])) _
      refine XS.iloadN X.here hx rfl (hb hby d1_142) rfl ?_
      show Steps p.tables e below (T.setTop (mkF m 143 #[.val (.int c1)] [(.int c1)])) _
      refine XS.sipush X.here hx rfl (hb hby d1_143) ?_
      show Steps p.tables e below (T.setTop (mkF m 146 #[.val (.int c1)] [(.int (12289 : Int32)), (.int c1)])) _
      refine XS.icmpNo X.here hx rfl (hb hby d1_146) rfl (flt h1).1 ?_
      show Steps p.tables e below (T.setTop (mkF m 149 #[.val (.int c1)] [])) _
      refine XS.iloadN X.here hx rfl (hb hby d1_149) rfl ?_
      show Steps p.tables e below (T.setTop (mkF m 150 #[.val (.int c1)] [(.int c1)])) _
      refine X.ldcInt hx hown (mvT hZ (hw _ (List.mem_of_getElem? (i := 23) rfl))) (g := (mkF m 150 #[.val (.int c1)] [(.int c1)])) rfl (hb hby d1_150) _ ?_
      show Steps p.tables e below (T.setTop (mkF m 152 #[.val (.int c1)] [(.int (55295 : Int32)), (.int c1)])) _
      refine XS.icmpYes X.here hx rfl (pc0 := 152) (pc' := 191) rfl (hb hby d1_152) rfl (flt h2).2.2.2 (by decide) (by decide) ?_
      exact kt
set_option maxRecDepth 65536 in
set_option maxHeartbeats 4000000 in
theorem ck_t12 {p : Program} {l : Launch} {e : Env} {R : Room} {s : State} {m : MethodId} {args : Array Value} {below : List Frame} {meth : Method} {c : Code} {T : State} {locs : List Loc} {cells slots : Nat} {Z : State} {a0 : Array Value} {t : State} (c1 : Int32) (X : Stand p l e R s m args below meth c T locs cells slots) (hx : p.tables.exec = Jvm.exec) (hZ : Z.Warmed39 s.vm) (hw : ∀ d ∈ tables_1, d.before a0 Z = true) (hby : c.code = prog_284_method_2_code) (hown : s.vm.findClass "com/example/uliza/uliza/model/XmlChars" = some m.cls)
    (k1 : ¬ (c1 < (63744 : Int32)) ∧ ¬ ((64975 : Int32) < c1) → Steps p.tables e below (T.setTop (mkF m 191 #[.val (.int c1)] [])) t) (k2 : ¬ (¬ (c1 < (63744 : Int32)) ∧ ¬ ((64975 : Int32) < c1)) → Steps p.tables e below (T.setTop (mkF m 167 #[.val (.int c1)] [])) t) : Steps p.tables e below (T.setTop (mkF m 155 #[.val (.int c1)] [])) t := by
  by_cases h1 : c1 < (63744 : Int32)
  · have kt := k2 (fun q => q.1 h1)
    show Steps p.tables e below (T.setTop (mkF m 155 #[.val (.int c1)] [])) _
    refine XS.iloadN X.here hx rfl (hb hby d1_155) rfl ?_
    show Steps p.tables e below (T.setTop (mkF m 156 #[.val (.int c1)] [(.int c1)])) _
    refine X.ldcInt hx hown (mvT hZ (hw _ (List.mem_of_getElem? (i := 13) rfl))) (g := (mkF m 156 #[.val (.int c1)] [(.int c1)])) rfl (hb hby d1_156) _ ?_
    show Steps p.tables e below (T.setTop (mkF m 158 #[.val (.int c1)] [(.int (63744 : Int32)), (.int c1)])) _
    refine XS.icmpYes X.here hx rfl (pc0 := 158) (pc' := 167) rfl (hb hby d1_158) rfl (tlt h1).1 (by decide) (by decide) ?_
    exact kt
  · by_cases h2 : (64975 : Int32) < c1
    · have kt := k2 (fun q => q.2 h2)
      show Steps p.tables e below (T.setTop (mkF m 155 #[.val (.int c1)] [])) _
      refine XS.iloadN X.here hx rfl (hb hby d1_155) rfl ?_
      show Steps p.tables e below (T.setTop (mkF m 156 #[.val (.int c1)] [(.int c1)])) _
      refine X.ldcInt hx hown (mvT hZ (hw _ (List.mem_of_getElem? (i := 13) rfl))) (g := (mkF m 156 #[.val (.int c1)] [(.int c1)])) rfl (hb hby d1_156) _ ?_
      show Steps p.tables e below (T.setTop (mkF m 158 #[.val (.int c1)] [(.int (63744 : Int32)), (.int c1)])) _
      refine XS.icmpNo X.here hx rfl (hb hby d1_158) rfl (flt h1).1 ?_
      show Steps p.tables e below (T.setTop (mkF m 161 #[.val (.int c1)] [])) _
      refine XS.iloadN X.here hx rfl (hb hby d1_161) rfl ?_
      show Steps p.tables e below (T.setTop (mkF m 162 #[.val (.int c1)] [(.int c1)])) _
      refine X.ldcInt hx hown (mvT hZ (hw _ (List.mem_of_getElem? (i := 24) rfl))) (g := (mkF m 162 #[.val (.int c1)] [(.int c1)])) rfl (hb hby d1_162) _ ?_
      show Steps p.tables e below (T.setTop (mkF m 164 #[.val (.int c1)] [(.int (64975 : Int32)), (.int c1)])) _
      refine XS.icmpNo X.here hx rfl (hb hby d1_164) rfl (tlt h2).2.2.2 ?_
      exact kt
    · have kt := k1 ⟨h1, h2⟩
      show Steps p.tables e below (T.setTop (mkF m 155 #[.val (.int c1)] [])) _
      refine XS.iloadN X.here hx rfl (hb hby d1_155) rfl ?_
      show Steps p.tables e below (T.setTop (mkF m 156 #[.val (.int c1)] [(.int c1)])) _
      refine X.ldcInt hx hown (mvT hZ (hw _ (List.mem_of_getElem? (i := 13) rfl))) (g := (mkF m 156 #[.val (.int c1)] [(.int c1)])) rfl (hb hby d1_156) _ ?_
      show Steps p.tables e below (T.setTop (mkF m 158 #[.val (.int c1)] [(.int (63744 : Int32)), (.int c1)])) _
      refine XS.icmpNo X.here hx rfl (hb hby d1_158) rfl (flt h1).1 ?_
      show Steps p.tables e below (T.setTop (mkF m 161 #[.val (.int c1)] [])) _
      refine XS.iloadN X.here hx rfl (hb hby d1_161) rfl ?_
      show Steps p.tables e below (T.setTop (mkF m 162 #[.val (.int c1)] [(.int c1)])) _
      refine X.ldcInt hx hown (mvT hZ (hw _ (List.mem_of_getElem? (i := 24) rfl))) (g := (mkF m 162 #[.val (.int c1)] [(.int c1)])) rfl (hb hby d1_162) _ ?_
      show Steps p.tables e below (T.setTop (mkF m 164 #[.val (.int c1)] [(.int (64975 : Int32)), (.int c1)])) _
      refine XS.icmpYes X.here hx rfl (pc0 := 164) (pc' := 191) rfl (hb hby d1_164) rfl (flt h2).2.2.2 (by decide) (by decide) ?_
      exact kt
set_option maxRecDepth 65536 in
set_option maxHeartbeats 4000000 in
theorem ck_t13 {p : Program} {l : Launch} {e : Env} {R : Room} {s : State} {m : MethodId} {args : Array Value} {below : List Frame} {meth : Method} {c : Code} {T : State} {locs : List Loc} {cells slots : Nat} {Z : State} {a0 : Array Value} {t : State} (c1 : Int32) (X : Stand p l e R s m args below meth c T locs cells slots) (hx : p.tables.exec = Jvm.exec) (hZ : Z.Warmed39 s.vm) (hw : ∀ d ∈ tables_1, d.before a0 Z = true) (hby : c.code = prog_284_method_2_code) (hown : s.vm.findClass "com/example/uliza/uliza/model/XmlChars" = some m.cls)
    (k1 : ¬ (c1 < (65008 : Int32)) ∧ ¬ ((65533 : Int32) < c1) → Steps p.tables e below (T.setTop (mkF m 191 #[.val (.int c1)] [])) t) (k2 : ¬ (¬ (c1 < (65008 : Int32)) ∧ ¬ ((65533 : Int32) < c1)) → Steps p.tables e below (T.setTop (mkF m 179 #[.val (.int c1)] [])) t) : Steps p.tables e below (T.setTop (mkF m 167 #[.val (.int c1)] [])) t := by
  by_cases h1 : c1 < (65008 : Int32)
  · have kt := k2 (fun q => q.1 h1)
    show Steps p.tables e below (T.setTop (mkF m 167 #[.val (.int c1)] [])) _
    refine XS.iloadN X.here hx rfl (hb hby d1_167) rfl ?_
    show Steps p.tables e below (T.setTop (mkF m 168 #[.val (.int c1)] [(.int c1)])) _
    refine X.ldcInt hx hown (mvT hZ (hw _ (List.mem_of_getElem? (i := 14) rfl))) (g := (mkF m 168 #[.val (.int c1)] [(.int c1)])) rfl (hb hby d1_168) _ ?_
    show Steps p.tables e below (T.setTop (mkF m 170 #[.val (.int c1)] [(.int (65008 : Int32)), (.int c1)])) _
    refine XS.icmpYes X.here hx rfl (pc0 := 170) (pc' := 179) rfl (hb hby d1_170) rfl (tlt h1).1 (by decide) (by decide) ?_
    exact kt
  · by_cases h2 : (65533 : Int32) < c1
    · have kt := k2 (fun q => q.2 h2)
      show Steps p.tables e below (T.setTop (mkF m 167 #[.val (.int c1)] [])) _
      refine XS.iloadN X.here hx rfl (hb hby d1_167) rfl ?_
      show Steps p.tables e below (T.setTop (mkF m 168 #[.val (.int c1)] [(.int c1)])) _
      refine X.ldcInt hx hown (mvT hZ (hw _ (List.mem_of_getElem? (i := 14) rfl))) (g := (mkF m 168 #[.val (.int c1)] [(.int c1)])) rfl (hb hby d1_168) _ ?_
      show Steps p.tables e below (T.setTop (mkF m 170 #[.val (.int c1)] [(.int (65008 : Int32)), (.int c1)])) _
      refine XS.icmpNo X.here hx rfl (hb hby d1_170) rfl (flt h1).1 ?_
      show Steps p.tables e below (T.setTop (mkF m 173 #[.val (.int c1)] [])) _
      refine XS.iloadN X.here hx rfl (hb hby d1_173) rfl ?_
      show Steps p.tables e below (T.setTop (mkF m 174 #[.val (.int c1)] [(.int c1)])) _
      refine X.ldcInt hx hown (mvT hZ (hw _ (List.mem_of_getElem? (i := 25) rfl))) (g := (mkF m 174 #[.val (.int c1)] [(.int c1)])) rfl (hb hby d1_174) _ ?_
      show Steps p.tables e below (T.setTop (mkF m 176 #[.val (.int c1)] [(.int (65533 : Int32)), (.int c1)])) _
      refine XS.icmpNo X.here hx rfl (hb hby d1_176) rfl (tlt h2).2.2.2 ?_
      exact kt
    · have kt := k1 ⟨h1, h2⟩
      show Steps p.tables e below (T.setTop (mkF m 167 #[.val (.int c1)] [])) _
      refine XS.iloadN X.here hx rfl (hb hby d1_167) rfl ?_
      show Steps p.tables e below (T.setTop (mkF m 168 #[.val (.int c1)] [(.int c1)])) _
      refine X.ldcInt hx hown (mvT hZ (hw _ (List.mem_of_getElem? (i := 14) rfl))) (g := (mkF m 168 #[.val (.int c1)] [(.int c1)])) rfl (hb hby d1_168) _ ?_
      show Steps p.tables e below (T.setTop (mkF m 170 #[.val (.int c1)] [(.int (65008 : Int32)), (.int c1)])) _
      refine XS.icmpNo X.here hx rfl (hb hby d1_170) rfl (flt h1).1 ?_
      show Steps p.tables e below (T.setTop (mkF m 173 #[.val (.int c1)] [])) _
      refine XS.iloadN X.here hx rfl (hb hby d1_173) rfl ?_
      show Steps p.tables e below (T.setTop (mkF m 174 #[.val (.int c1)] [(.int c1)])) _
      refine X.ldcInt hx hown (mvT hZ (hw _ (List.mem_of_getElem? (i := 25) rfl))) (g := (mkF m 174 #[.val (.int c1)] [(.int c1)])) rfl (hb hby d1_174) _ ?_
      show Steps p.tables e below (T.setTop (mkF m 176 #[.val (.int c1)] [(.int (65533 : Int32)), (.int c1)])) _
      refine XS.icmpYes X.here hx rfl (pc0 := 176) (pc' := 191) rfl (hb hby d1_176) rfl (flt h2).2.2.2 (by decide) (by decide) ?_
      exact kt
set_option maxRecDepth 65536 in
set_option maxHeartbeats 4000000 in
theorem ck_t14 {p : Program} {l : Launch} {e : Env} {R : Room} {s : State} {m : MethodId} {args : Array Value} {below : List Frame} {meth : Method} {c : Code} {T : State} {locs : List Loc} {cells slots : Nat} {Z : State} {a0 : Array Value} {t : State} (c1 : Int32) (X : Stand p l e R s m args below meth c T locs cells slots) (hx : p.tables.exec = Jvm.exec) (hZ : Z.Warmed39 s.vm) (hw : ∀ d ∈ tables_1, d.before a0 Z = true) (hby : c.code = prog_284_method_2_code) (hown : s.vm.findClass "com/example/uliza/uliza/model/XmlChars" = some m.cls)
    (k1 : ¬ (c1 < (65536 : Int32)) ∧ ¬ ((983039 : Int32) < c1) → Steps p.tables e below (T.setTop (mkF m 191 #[.val (.int c1)] [])) t) (k2 : ¬ (¬ (c1 < (65536 : Int32)) ∧ ¬ ((983039 : Int32) < c1)) → Steps p.tables e below (T.setTop (mkF m 195 #[.val (.int c1)] [])) t) : Steps p.tables e below (T.setTop (mkF m 179 #[.val (.int c1)] [])) t := by
  by_cases h1 : c1 < (65536 : Int32)
  · have kt := k2 (fun q => q.1 h1)
    show Steps p.tables e below (T.setTop (mkF m 179 #[.val (.int c1)] [])) _
    refine XS.iloadN X.here hx rfl (hb hby d1_179) rfl ?_
    show Steps p.tables e below (T.setTop (mkF m 180 #[.val (.int c1)] [(.int c1)])) _
    refine X.ldcInt hx hown (mvT hZ (hw _ (List.mem_of_getElem? (i := 15) rfl))) (g := (mkF m 180 #[.val (.int c1)] [(.int c1)])) rfl (hb hby d1_180) _ ?_
    show Steps p.tables e below (T.setTop (mkF m 182 #[.val (.int c1)] [(.int (65536 : Int32)), (.int c1)])) _
    refine XS.icmpYes X.here hx rfl (pc0 := 182) (pc' := 195) rfl (hb hby d1_182) rfl (tlt h1).1 (by decide) (by decide) ?_
    exact kt
  · by_cases h2 : (983039 : Int32) < c1
    · have kt := k2 (fun q => q.2 h2)
      show Steps p.tables e below (T.setTop (mkF m 179 #[.val (.int c1)] [])) _
      refine XS.iloadN X.here hx rfl (hb hby d1_179) rfl ?_
      show Steps p.tables e below (T.setTop (mkF m 180 #[.val (.int c1)] [(.int c1)])) _
      refine X.ldcInt hx hown (mvT hZ (hw _ (List.mem_of_getElem? (i := 15) rfl))) (g := (mkF m 180 #[.val (.int c1)] [(.int c1)])) rfl (hb hby d1_180) _ ?_
      show Steps p.tables e below (T.setTop (mkF m 182 #[.val (.int c1)] [(.int (65536 : Int32)), (.int c1)])) _
      refine XS.icmpNo X.here hx rfl (hb hby d1_182) rfl (flt h1).1 ?_
      show Steps p.tables e below (T.setTop (mkF m 185 #[.val (.int c1)] [])) _
      refine XS.iloadN X.here hx rfl (hb hby d1_185) rfl ?_
      show Steps p.tables e below (T.setTop (mkF m 186 #[.val (.int c1)] [(.int c1)])) _
      refine X.ldcInt hx hown (mvT hZ (hw _ (List.mem_of_getElem? (i := 26) rfl))) (g := (mkF m 186 #[.val (.int c1)] [(.int c1)])) rfl (hb hby d1_186) _ ?_
      show Steps p.tables e below (T.setTop (mkF m 188 #[.val (.int c1)] [(.int (983039 : Int32)), (.int c1)])) _
      refine XS.icmpYes X.here hx rfl (pc0 := 188) (pc' := 195) rfl (hb hby d1_188) rfl (tlt h2).2.2.1 (by decide) (by decide) ?_
      exact kt
    · have kt := k1 ⟨h1, h2⟩
      show Steps p.tables e below (T.setTop (mkF m 179 #[.val (.int c1)] [])) _
      refine XS.iloadN X.here hx rfl (hb hby d1_179) rfl ?_
      show Steps p.tables e below (T.setTop (mkF m 180 #[.val (.int c1)] [(.int c1)])) _
      refine X.ldcInt hx hown (mvT hZ (hw _ (List.mem_of_getElem? (i := 15) rfl))) (g := (mkF m 180 #[.val (.int c1)] [(.int c1)])) rfl (hb hby d1_180) _ ?_
      show Steps p.tables e below (T.setTop (mkF m 182 #[.val (.int c1)] [(.int (65536 : Int32)), (.int c1)])) _
      refine XS.icmpNo X.here hx rfl (hb hby d1_182) rfl (flt h1).1 ?_
      show Steps p.tables e below (T.setTop (mkF m 185 #[.val (.int c1)] [])) _
      refine XS.iloadN X.here hx rfl (hb hby d1_185) rfl ?_
      show Steps p.tables e below (T.setTop (mkF m 186 #[.val (.int c1)] [(.int c1)])) _
      refine X.ldcInt hx hown (mvT hZ (hw _ (List.mem_of_getElem? (i := 26) rfl))) (g := (mkF m 186 #[.val (.int c1)] [(.int c1)])) rfl (hb hby d1_186) _ ?_
      show Steps p.tables e below (T.setTop (mkF m 188 #[.val (.int c1)] [(.int (983039 : Int32)), (.int c1)])) _
      refine XS.icmpNo X.here hx rfl (hb hby d1_188) rfl (flt h2).2.2.1 ?_
      exact kt
def Q1 (Z : State) (c1 : Int32) (h0 : Heap) (n0 : Nat) (v : Option Value) (h : Heap) (L : List Loc) : Prop := v = some (.int (own_in own_rs c1)) ∧ Fr n0 L ∧ h = h0
theorem ef_rm1 (m : MethodId) (x0 : Int32) : entryFrame m #[(.int x0)] 1 = mkF m 0 #[.val (.int x0)] [] := by first | (simp [entryFrame, mkF, argsToLocals, Value.category]; done) | rfl
theorem pn_rm1 : plainName "com/example/uliza/uliza/model/XmlChars" = true := by first | (simp [plainName, overriddenIn]; done) | decide +kernel
set_option maxRecDepth 65536 in
set_option maxHeartbeats 40000000 in
theorem rm1 (l : Launch) (Z : State) (a0 : Array Value) (hw : ∀ d ∈ tables_1, d.before a0 Z = true) (ws : List Jvm.Cond) (c1 : Int32) (h0 : Heap) (n0 : Nat) (Z0 : n0 ≤ h0.size)  :
    MetFree l (⟨"com/example/uliza/uliza/model/XmlChars", "isNameStart", "(I)Z"⟩ : MethodName) (head1 (Jvm.Cond.code (⟨"com/example/uliza/uliza/model/XmlChars", "isNameStart", "(I)Z"⟩ : MethodName) prog_284_method_2_code 1 (some .boolean) :: ws) ({ frames := 0, cells := 0, slots := 0, locals := 0 } : Room)) (fun a U => a = #[(.int c1)] ∧ Z.Warmed39 U.vm ∧ U.heap = h0) (fun _ _ _ _ _ => True) (fun _ U oc U' => ∃ v L, oc = .returned v ∧ Q1 Z c1 h0 n0 v U'.heap L ∧ FrameEnd U oc U' L ({ frames := 0, cells := 0, slots := 0, locals := 0 } : Room).cells ({ frames := 0, cells := 0, slots := 0, locals := 0 } : Room).slots) := by
  refine MetFree.of_bodySF (plainFor_of_name pn_rm1) hisR ?_
  intro p e s m args below meth c s₁ Bd hml0 hP hK
  obtain ⟨rfl, hZ, hh⟩ := hP
  have hx := Bd.exec
  have hby := Bd.bytes
  have hml : c.maxLocals = 1 := hml0
  have hown : s.vm.findClass "com/example/uliza/uliza/model/XmlChars" = some m.cls := findClass_of_methodNamed Bd.named
  have hnm := (name_of_methodNamed Bd.named Bd.method).1
  have X0 : Stand p l e ({ frames := 0, cells := 0, slots := 0, locals := 0 } : Room) s m #[(.int c1)] below meth c s₁ [] 0 0 := Stand.of_body Bd
  have e0 : s₁.heap = h0 := by rw [← hh, Bd.state]; rfl
  have N0 := Fr.nil n0
  have pre0 : ∀ tt, Steps p.tables e below (s₁.setTop (mkF m 0 #[.val (.int c1)] [])) tt → Steps p.tables e below (s₁.setTop (entryFrame m #[(.int c1)] 1)) tt := fun tt kt => castTop (ef_rm1 m c1) kt
  obtain ⟨fs, hr, hrun, hended, hW, hsame⟩ := X0.leave (v := some (.int (own_in own_rs c1))) (fun h => by rw [Bd.returns] at h; cases h)
  refine ⟨_, _, pre0 _ ?_, hrun, hended, _, _, rfl, ?_, ⟨_, rfl⟩, hW, hsame.mono (by decide) (by decide)⟩
  · have end1 : own_in own_rs c1 = 1 → Steps p.tables e below (s₁.setTop (mkF m 191 #[.val (.int c1)] [])) (s₁.setFrames fs) := fun q => by
      rw [q] at hr
      show Steps p.tables e below (s₁.setTop (mkF m 191 #[.val (.int c1)] [])) _
      refine XS.iconst X0.here hx rfl (hb hby d1_191) ?_
      show Steps p.tables e below (s₁.setTop (mkF m 192 #[.val (.int c1)] [(.int (1 : Int32))])) _
      refine XS.goto X0.here hx rfl (pc0 := 192) (pc' := 196) rfl (hb hby d1_192) (by decide) (by decide) ?_
      exact retN X0 hx (t := .boolean) Bd.returns (by simp) (hb hby d1_196) hr
    have end0 : own_in own_rs c1 = 0 → Steps p.tables e below (s₁.setTop (mkF m 195 #[.val (.int c1)] [])) (s₁.setFrames fs) := fun q => by
      rw [q] at hr
      show Steps p.tables e below (s₁.setTop (mkF m 195 #[.val (.int c1)] [])) _
      refine XS.iconst X0.here hx rfl (hb hby d1_195) ?_
      exact retN X0 hx (t := .boolean) Bd.returns (by simp) (hb hby d1_196) hr
    refine ck_t0 c1 X0 hx hZ hw hby hown (fun q0 => end1 (own_in_yes q0)) (fun q0 => ?_)
    refine ck_t1 c1 X0 hx hZ hw hby hown (fun q1 => end1 (own_in_no q0 (own_in_yes q1))) (fun q1 => ?_)
    refine ck_t2 c1 X0 hx hZ hw hby hown (fun q2 => end1 (own_in_no q0 (own_in_no q1 (own_in_yes q2)))) (fun q2 => ?_)
    refine ck_t3 c1 X0 hx hZ hw hby hown (fun q3 => end1 (own_in_no q0 (own_in_no q1 (own_in_no q2 (own_in_yes q3))))) (fun q3 => ?_)
    refine ck_t4 c1 X0 hx hZ hw hby hown (fun q4 => end1 (own_in_no q0 (own_in_no q1 (own_in_no q2 (own_in_no q3 (own_in_yes q4)))))) (fun q4 => ?_)
    refine ck_t5 c1 X0 hx hZ hw hby hown (fun q5 => end1 (own_in_no q0 (own_in_no q1 (own_in_no q2 (own_in_no q3 (own_in_no q4 (own_in_yes q5))))))) (fun q5 => ?_)
    refine ck_t6 c1 X0 hx hZ hw hby hown (fun q6 => end1 (own_in_no q0 (own_in_no q1 (own_in_no q2 (own_in_no q3 (own_in_no q4 (own_in_no q5 (own_in_yes q6)))))))) (fun q6 => ?_)
    refine ck_t7 c1 X0 hx hZ hw hby hown (fun q7 => end1 (own_in_no q0 (own_in_no q1 (own_in_no q2 (own_in_no q3 (own_in_no q4 (own_in_no q5 (own_in_no q6 (own_in_yes q7))))))))) (fun q7 => ?_)
    refine ck_t8 c1 X0 hx hZ hw hby hown (fun q8 => end1 (own_in_no q0 (own_in_no q1 (own_in_no q2 (own_in_no q3 (own_in_no q4 (own_in_no q5 (own_in_no q6 (own_in_no q7 (own_in_yes q8)))))))))) (fun q8 => ?_)
    refine ck_t9 c1 X0 hx hZ hw hby hown (fun q9 => end1 (own_in_no q0 (own_in_no q1 (own_in_no q2 (own_in_no q3 (own_in_no q4 (own_in_no q5 (own_in_no q6 (own_in_no q7 (own_in_no q8 (own_in_yes q9))))))))))) (fun q9 => ?_)
    refine ck_t10 c1 X0 hx hZ hw hby hown (fun q10 => end1 (own_in_no q0 (own_in_no q1 (own_in_no q2 (own_in_no q3 (own_in_no q4 (own_in_no q5 (own_in_no q6 (own_in_no q7 (own_in_no q8 (own_in_no q9 (own_in_yes q10)))))))))))) (fun q10 => ?_)
    refine ck_t11 c1 X0 hx hZ hw hby hown (fun q11 => end1 (own_in_no q0 (own_in_no q1 (own_in_no q2 (own_in_no q3 (own_in_no q4 (own_in_no q5 (own_in_no q6 (own_in_no q7 (own_in_no q8 (own_in_no q9 (own_in_no q10 (own_in_yes q11))))))))))))) (fun q11 => ?_)
    refine ck_t12 c1 X0 hx hZ hw hby hown (fun q12 => end1 (own_in_no q0 (own_in_no q1 (own_in_no q2 (own_in_no q3 (own_in_no q4 (own_in_no q5 (own_in_no q6 (own_in_no q7 (own_in_no q8 (own_in_no q9 (own_in_no q10 (own_in_no q11 (own_in_yes q12)))))))))))))) (fun q12 => ?_)
    refine ck_t13 c1 X0 hx hZ hw hby hown (fun q13 => end1 (own_in_no q0 (own_in_no q1 (own_in_no q2 (own_in_no q3 (own_in_no q4 (own_in_no q5 (own_in_no q6 (own_in_no q7 (own_in_no q8 (own_in_no q9 (own_in_no q10 (own_in_no q11 (own_in_no q12 (own_in_yes q13))))))))))))))) (fun q13 => ?_)
    refine ck_t14 c1 X0 hx hZ hw hby hown (fun q14 => end1 (own_in_no q0 (own_in_no q1 (own_in_no q2 (own_in_no q3 (own_in_no q4 (own_in_no q5 (own_in_no q6 (own_in_no q7 (own_in_no q8 (own_in_no q9 (own_in_no q10 (own_in_no q11 (own_in_no q12 (own_in_no q13 (own_in_yes q14)))))))))))))))) (fun q14 => ?_)
    exact end0 (own_in_no q0 (own_in_no q1 (own_in_no q2 (own_in_no q3 (own_in_no q4 (own_in_no q5 (own_in_no q6 (own_in_no q7 (own_in_no q8 (own_in_no q9 (own_in_no q10 (own_in_no q11 (own_in_no q12 (own_in_no q13 (own_in_no q14 rfl)))))))))))))))
  · show Q1 Z c1 h0 n0 _ s₁.heap _
    rw [e0]
    exact ⟨rfl, N0, rfl⟩
theorem own_mod (x : Int32) : ¬ ((x &&& (2147483647 : Int32)) % (30 : Int32) < 0) ∧ (x &&& (2147483647 : Int32)) % (30 : Int32) < 30 := by
  have h0 : 0 ≤ (x &&& (2147483647 : Int32)).toInt := (c_andS x 2147483647).2.2 (by decide)
  have h1 := (c_irem (x &&& (2147483647 : Int32)) 30 30 rfl).1 h0
  have e0 : (0 : Int32).toInt = 0 := rfl
  have e30 : (30 : Int32).toInt = 30 := rfl
  rw [Int32.lt_iff_toInt_lt, Int32.lt_iff_toInt_lt, e0, e30, h1]
  omega
theorem own_get {c : Cell} {vs : List Value} {d : Value} {n : Nat} (hn : c.slots.size = n) (H : Has c vs d) (G : ∀ i, i < c.slots.size → fits .int (vs.getD i d) = true) {j : Nat} (hj : j < n) : ∃ z : Int32, c.slots[j]? = some (.int z) := by
  have h1 := H j (by omega); have h2 := G j (by omega)
  obtain ⟨z, hz⟩ := fit_I h2 (Or.inl rfl)
  exact ⟨z, by rw [h1, hz]⟩
def Q0 (Z : State) (p1 : Int32) (p2 : Int32) (p3 : Int32) (h0 : Heap) (n0 : Nat) (v : Option Value) (h : Heap) (L : List Loc) : Prop := v = some (.int (1 : Int32)) ∧ Fr n0 L
theorem ef_rm0 (m : MethodId) (x0 : Int32) (x1 : Int32) (x2 : Int32) : entryFrame m #[(.int x0), (.int x1), (.int x2)] maxLocals = mkF m 0 #[.val (.int x0), .val (.int x1), .val (.int x2), .unset, .unset, .unset, .unset] [] := by first | (simp [entryFrame, mkF, argsToLocals, Value.category, maxLocals]; done) | rfl
theorem pn_rm0 : plainName "com/example/uliza/uliza/model/XmlCharsIsNameStartPinLaw" = true := by first | (simp [plainName, overriddenIn]; done) | decide +kernel
set_option maxRecDepth 65536 in
set_option maxHeartbeats 40000000 in
theorem rm0 (l : Launch) (Z : State) (a0 : Array Value) (hw : ∀ d ∈ tables_1, d.before a0 Z = true) (ws : List Jvm.Cond) (p1 : Int32) (p2 : Int32) (p3 : Int32) (h0 : Heap) (n0 : Nat) (Z0 : n0 ≤ h0.size)  :
    MetFree l x (head1 (Jvm.Cond.code x code maxLocals ret :: ws) room_1) (fun a U => a = #[(.int p1), (.int p2), (.int p3)] ∧ Z.Warmed39 U.vm ∧ U.heap = h0) (fun _ _ _ _ _ => True) (fun _ U oc U' => ∃ v L, oc = .returned v ∧ Q0 Z p1 p2 p3 h0 n0 v U'.heap L ∧ FrameEnd U oc U' L room_1.cells room_1.slots) := by
  refine MetFree.of_bodySF (plainFor_of_name pn_rm0) hisR ?_
  intro p e s m args below meth c s₁ Bd hml0 hP hK
  obtain ⟨rfl, hZ, hh⟩ := hP
  have hx := Bd.exec
  have hby := Bd.bytes
  have hml : c.maxLocals = 7 := hml0
  have hown : s.vm.findClass "com/example/uliza/uliza/model/XmlCharsIsNameStartPinLaw" = some m.cls := findClass_of_methodNamed Bd.named
  have hnm := (name_of_methodNamed Bd.named Bd.method).1
  have X0 : Stand p l e room_1 s m #[(.int p1), (.int p2), (.int p3)] below meth c s₁ [] 0 0 := Stand.of_body Bd
  have e0 : s₁.heap = h0 := by rw [← hh, Bd.state]; rfl
  have N0 := Fr.nil n0
  have pre0 : ∀ tt, Steps p.tables e below (s₁.setTop (mkF m 0 #[.val (.int p1), .val (.int p2), .val (.int p3), .unset, .unset, .unset, .unset] [])) tt → Steps p.tables e below (s₁.setTop (entryFrame m #[(.int p1), (.int p2), (.int p3)] maxLocals)) tt := fun tt kt => castTop (ef_rm0 m p1 p2 p3) kt
  obtain ⟨T1, h1, k1, X1, e1, E1, A1, st1⟩ := newP X0 hx hZ (hw _ (List.mem_of_getElem? (i := 0) rfl)) e0 (g := (mkF m 2 #[.val (.int p1), .val (.int p2), .val (.int p3), .unset, .unset, .unset, .unset] [(.int (30 : Int32))])) rfl (hb hby at_2) rfl (by decide) (cap := 30) (by decide) (by decide) (by decide) (by decide)
  obtain ⟨b1, g1⟩ : ∃ z, z = h0.size := ⟨_, rfl⟩
  rw [← g1] at A1 st1
  have V1 := Arv.new A1 (by decide)
  obtain ⟨Lx1, X1, Nx1⟩ : ∃ L, Stand p l e room_1 s m #[(.int p1), (.int p2), (.int p3)] below meth c T1 L 1 30 ∧ Fr n0 L := ⟨_, X1.more (by decide) (by decide), N0⟩
  have g_b1 : n0 ≤ b1 := Nat.le_trans Z0 (Nat.le_of_eq g1.symm)
  have zz0 : n0 ≤ h1.size := Nat.le_trans Z0 E1.1
  have V1_0 : Arv Z h1 b1 k1 .int (30 : Int32) [(.int (0 : Int32)), (.int (0 : Int32)), (.int (0 : Int32)), (.int (0 : Int32)), (.int (0 : Int32)), (.int (0 : Int32)), (.int (0 : Int32)), (.int (0 : Int32)), (.int (0 : Int32)), (.int (0 : Int32)), (.int (0 : Int32)), (.int (0 : Int32)), (.int (0 : Int32)), (.int (0 : Int32)), (.int (0 : Int32)), (.int (0 : Int32)), (.int (0 : Int32)), (.int (0 : Int32)), (.int (0 : Int32)), (.int (0 : Int32)), (.int (0 : Int32)), (.int (0 : Int32)), (.int (0 : Int32)), (.int (0 : Int32)), (.int (0 : Int32)), (.int (0 : Int32)), (.int (0 : Int32)), (.int (0 : Int32)), (.int (0 : Int32)), (.int (0 : Int32))] (.int (0 : Int32)) := V1.pad (pad_rep [] (.int (0 : Int32)) 30)
  obtain ⟨c1_0, A1_0, q1_0, S1_0, M1_0, H1_0, G1_0⟩ := V1_0
  obtain ⟨T2, h2, X2, e2, W2, st2⟩ := stI X1 hx hZ e1 A1_0 (j := (0 : Int32)) (inb_of S1_0 ⟨by decide, by decide⟩) (g := (mkF m 8 #[.val (.int p1), .val (.int p2), .val (.int p3), .unset, .unset, .unset, .unset] [(.int (65 : Int32)), (.int (0 : Int32)), (.ref b1), (.ref b1)])) rfl rfl (hb hby at_8)
  have N2 := Fr.snoc X2 Nx1 g_b1
  obtain ⟨Lx2, X2, Nx2⟩ : ∃ L, Stand p l e room_1 s m #[(.int p1), (.int p2), (.int p3)] below meth c T2 L 1 30 ∧ Fr n0 L := ⟨_, X2.more (by decide) (by decide), N2⟩
  have V1_1 : Arv Z h2 b1 k1 .int (30 : Int32) [(.int (65 : Int32)), (.int (0 : Int32)), (.int (0 : Int32)), (.int (0 : Int32)), (.int (0 : Int32)), (.int (0 : Int32)), (.int (0 : Int32)), (.int (0 : Int32)), (.int (0 : Int32)), (.int (0 : Int32)), (.int (0 : Int32)), (.int (0 : Int32)), (.int (0 : Int32)), (.int (0 : Int32)), (.int (0 : Int32)), (.int (0 : Int32)), (.int (0 : Int32)), (.int (0 : Int32)), (.int (0 : Int32)), (.int (0 : Int32)), (.int (0 : Int32)), (.int (0 : Int32)), (.int (0 : Int32)), (.int (0 : Int32)), (.int (0 : Int32)), (.int (0 : Int32)), (.int (0 : Int32)), (.int (0 : Int32)), (.int (0 : Int32)), (.int (0 : Int32))] (.int (0 : Int32)) := Arv.set A1_0 q1_0 S1_0 M1_0 H1_0 G1_0 rfl W2 0 rfl (Nat.le_of_ble_eq_true rfl)
  obtain ⟨c1_1, A1_1, q1_1, S1_1, M1_1, H1_1, G1_1⟩ := V1_1
  obtain ⟨T3, h3, X3, e3, W3, st3⟩ := stI X2 hx hZ e2 A1_1 (j := (1 : Int32)) (inb_of S1_1 ⟨by decide, by decide⟩) (g := (mkF m 13 #[.val (.int p1), .val (.int p2), .val (.int p3), .unset, .unset, .unset, .unset] [(.int (91 : Int32)), (.int (1 : Int32)), (.ref b1), (.ref b1)])) rfl rfl (hb hby at_13)
  have N3 := Fr.snoc X3 Nx2 g_b1
  obtain ⟨Lx3, X3, Nx3⟩ : ∃ L, Stand p l e room_1 s m #[(.int p1), (.int p2), (.int p3)] below meth c T3 L 1 30 ∧ Fr n0 L := ⟨_, X3.more (by decide) (by decide), N3⟩
  have V1_2 : Arv Z h3 b1 k1 .int (30 : Int32) [(.int (65 : Int32)), (.int (91 : Int32)), (.int (0 : Int32)), (.int (0 : Int32)), (.int (0 : Int32)), (.int (0 : Int32)), (.int (0 : Int32)), (.int (0 : Int32)), (.int (0 : Int32)), (.int (0 : Int32)), (.int (0 : Int32)), (.int (0 : Int32)), (.int (0 : Int32)), (.int (0 : Int32)), (.int (0 : Int32)), (.int (0 : Int32)), (.int (0 : Int32)), (.int (0 : Int32)), (.int (0 : Int32)), (.int (0 : Int32)), (.int (0 : Int32)), (.int (0 : Int32)), (.int (0 : Int32)), (.int (0 : Int32)), (.int (0 : Int32)), (.int (0 : Int32)), (.int (0 : Int32)), (.int (0 : Int32)), (.int (0 : Int32)), (.int (0 : Int32))] (.int (0 : Int32)) := Arv.set A1_1 q1_1 S1_1 M1_1 H1_1 G1_1 rfl W3 1 rfl (Nat.le_of_ble_eq_true rfl)
  obtain ⟨c1_2, A1_2, q1_2, S1_2, M1_2, H1_2, G1_2⟩ := V1_2
  obtain ⟨T4, h4, X4, e4, W4, st4⟩ := stI X3 hx hZ e3 A1_2 (j := (2 : Int32)) (inb_of S1_2 ⟨by decide, by decide⟩) (g := (mkF m 18 #[.val (.int p1), .val (.int p2), .val (.int p3), .unset, .unset, .unset, .unset] [(.int (95 : Int32)), (.int (2 : Int32)), (.ref b1), (.ref b1)])) rfl rfl (hb hby at_18)
  have N4 := Fr.snoc X4 Nx3 g_b1
  obtain ⟨Lx4, X4, Nx4⟩ : ∃ L, Stand p l e room_1 s m #[(.int p1), (.int p2), (.int p3)] below meth c T4 L 1 30 ∧ Fr n0 L := ⟨_, X4.more (by decide) (by decide), N4⟩
  have V1_3 : Arv Z h4 b1 k1 .int (30 : Int32) [(.int (65 : Int32)), (.int (91 : Int32)), (.int (95 : Int32)), (.int (0 : Int32)), (.int (0 : Int32)), (.int (0 : Int32)), (.int (0 : Int32)), (.int (0 : Int32)), (.int (0 : Int32)), (.int (0 : Int32)), (.int (0 : Int32)), (.int (0 : Int32)), (.int (0 : Int32)), (.int (0 : Int32)), (.int (0 : Int32)), (.int (0 : Int32)), (.int (0 : Int32)), (.int (0 : Int32)), (.int (0 : Int32)), (.int (0 : Int32)), (.int (0 : Int32)), (.int (0 : Int32)), (.int (0 : Int32)), (.int (0 : Int32)), (.int (0 : Int32)), (.int (0 : Int32)), (.int (0 : Int32)), (.int (0 : Int32)), (.int (0 : Int32)), (.int (0 : Int32))] (.int (0 : Int32)) := Arv.set A1_2 q1_2 S1_2 M1_2 H1_2 G1_2 rfl W4 2 rfl (Nat.le_of_ble_eq_true rfl)
  obtain ⟨c1_3, A1_3, q1_3, S1_3, M1_3, H1_3, G1_3⟩ := V1_3
  obtain ⟨T5, h5, X5, e5, W5, st5⟩ := stI X4 hx hZ e4 A1_3 (j := (3 : Int32)) (inb_of S1_3 ⟨by decide, by decide⟩) (g := (mkF m 23 #[.val (.int p1), .val (.int p2), .val (.int p3), .unset, .unset, .unset, .unset] [(.int (96 : Int32)), (.int (3 : Int32)), (.ref b1), (.ref b1)])) rfl rfl (hb hby at_23)
  have N5 := Fr.snoc X5 Nx4 g_b1
  obtain ⟨Lx5, X5, Nx5⟩ : ∃ L, Stand p l e room_1 s m #[(.int p1), (.int p2), (.int p3)] below meth c T5 L 1 30 ∧ Fr n0 L := ⟨_, X5.more (by decide) (by decide), N5⟩
  have V1_4 : Arv Z h5 b1 k1 .int (30 : Int32) [(.int (65 : Int32)), (.int (91 : Int32)), (.int (95 : Int32)), (.int (96 : Int32)), (.int (0 : Int32)), (.int (0 : Int32)), (.int (0 : Int32)), (.int (0 : Int32)), (.int (0 : Int32)), (.int (0 : Int32)), (.int (0 : Int32)), (.int (0 : Int32)), (.int (0 : Int32)), (.int (0 : Int32)), (.int (0 : Int32)), (.int (0 : Int32)), (.int (0 : Int32)), (.int (0 : Int32)), (.int (0 : Int32)), (.int (0 : Int32)), (.int (0 : Int32)), (.int (0 : Int32)), (.int (0 : Int32)), (.int (0 : Int32)), (.int (0 : Int32)), (.int (0 : Int32)), (.int (0 : Int32)), (.int (0 : Int32)), (.int (0 : Int32)), (.int (0 : Int32))] (.int (0 : Int32)) := Arv.set A1_3 q1_3 S1_3 M1_3 H1_3 G1_3 rfl W5 3 rfl (Nat.le_of_ble_eq_true rfl)
  obtain ⟨c1_4, A1_4, q1_4, S1_4, M1_4, H1_4, G1_4⟩ := V1_4
  obtain ⟨T6, h6, X6, e6, W6, st6⟩ := stI X5 hx hZ e5 A1_4 (j := (4 : Int32)) (inb_of S1_4 ⟨by decide, by decide⟩) (g := (mkF m 28 #[.val (.int p1), .val (.int p2), .val (.int p3), .unset, .unset, .unset, .unset] [(.int (97 : Int32)), (.int (4 : Int32)), (.ref b1), (.ref b1)])) rfl rfl (hb hby at_28)
  have N6 := Fr.snoc X6 Nx5 g_b1
  obtain ⟨Lx6, X6, Nx6⟩ : ∃ L, Stand p l e room_1 s m #[(.int p1), (.int p2), (.int p3)] below meth c T6 L 1 30 ∧ Fr n0 L := ⟨_, X6.more (by decide) (by decide), N6⟩
  have V1_5 : Arv Z h6 b1 k1 .int (30 : Int32) [(.int (65 : Int32)), (.int (91 : Int32)), (.int (95 : Int32)), (.int (96 : Int32)), (.int (97 : Int32)), (.int (0 : Int32)), (.int (0 : Int32)), (.int (0 : Int32)), (.int (0 : Int32)), (.int (0 : Int32)), (.int (0 : Int32)), (.int (0 : Int32)), (.int (0 : Int32)), (.int (0 : Int32)), (.int (0 : Int32)), (.int (0 : Int32)), (.int (0 : Int32)), (.int (0 : Int32)), (.int (0 : Int32)), (.int (0 : Int32)), (.int (0 : Int32)), (.int (0 : Int32)), (.int (0 : Int32)), (.int (0 : Int32)), (.int (0 : Int32)), (.int (0 : Int32)), (.int (0 : Int32)), (.int (0 : Int32)), (.int (0 : Int32)), (.int (0 : Int32))] (.int (0 : Int32)) := Arv.set A1_4 q1_4 S1_4 M1_4 H1_4 G1_4 rfl W6 4 rfl (Nat.le_of_ble_eq_true rfl)
  obtain ⟨c1_5, A1_5, q1_5, S1_5, M1_5, H1_5, G1_5⟩ := V1_5
  obtain ⟨T7, h7, X7, e7, W7, st7⟩ := stI X6 hx hZ e6 A1_5 (j := (5 : Int32)) (inb_of S1_5 ⟨by decide, by decide⟩) (g := (mkF m 33 #[.val (.int p1), .val (.int p2), .val (.int p3), .unset, .unset, .unset, .unset] [(.int (123 : Int32)), (.int (5 : Int32)), (.ref b1), (.ref b1)])) rfl rfl (hb hby at_33)
  have N7 := Fr.snoc X7 Nx6 g_b1
  obtain ⟨Lx7, X7, Nx7⟩ : ∃ L, Stand p l e room_1 s m #[(.int p1), (.int p2), (.int p3)] below meth c T7 L 1 30 ∧ Fr n0 L := ⟨_, X7.more (by decide) (by decide), N7⟩
  have V1_6 : Arv Z h7 b1 k1 .int (30 : Int32) [(.int (65 : Int32)), (.int (91 : Int32)), (.int (95 : Int32)), (.int (96 : Int32)), (.int (97 : Int32)), (.int (123 : Int32)), (.int (0 : Int32)), (.int (0 : Int32)), (.int (0 : Int32)), (.int (0 : Int32)), (.int (0 : Int32)), (.int (0 : Int32)), (.int (0 : Int32)), (.int (0 : Int32)), (.int (0 : Int32)), (.int (0 : Int32)), (.int (0 : Int32)), (.int (0 : Int32)), (.int (0 : Int32)), (.int (0 : Int32)), (.int (0 : Int32)), (.int (0 : Int32)), (.int (0 : Int32)), (.int (0 : Int32)), (.int (0 : Int32)), (.int (0 : Int32)), (.int (0 : Int32)), (.int (0 : Int32)), (.int (0 : Int32)), (.int (0 : Int32))] (.int (0 : Int32)) := Arv.set A1_5 q1_5 S1_5 M1_5 H1_5 G1_5 rfl W7 5 rfl (Nat.le_of_ble_eq_true rfl)
  obtain ⟨c1_6, A1_6, q1_6, S1_6, M1_6, H1_6, G1_6⟩ := V1_6
  obtain ⟨T8, h8, X8, e8, W8, st8⟩ := stI X7 hx hZ e7 A1_6 (j := (6 : Int32)) (inb_of S1_6 ⟨by decide, by decide⟩) (g := (mkF m 40 #[.val (.int p1), .val (.int p2), .val (.int p3), .unset, .unset, .unset, .unset] [(.int (192 : Int32)), (.int (6 : Int32)), (.ref b1), (.ref b1)])) rfl rfl (hb hby at_40)
  have N8 := Fr.snoc X8 Nx7 g_b1
  obtain ⟨Lx8, X8, Nx8⟩ : ∃ L, Stand p l e room_1 s m #[(.int p1), (.int p2), (.int p3)] below meth c T8 L 1 30 ∧ Fr n0 L := ⟨_, X8.more (by decide) (by decide), N8⟩
  have V1_7 : Arv Z h8 b1 k1 .int (30 : Int32) [(.int (65 : Int32)), (.int (91 : Int32)), (.int (95 : Int32)), (.int (96 : Int32)), (.int (97 : Int32)), (.int (123 : Int32)), (.int (192 : Int32)), (.int (0 : Int32)), (.int (0 : Int32)), (.int (0 : Int32)), (.int (0 : Int32)), (.int (0 : Int32)), (.int (0 : Int32)), (.int (0 : Int32)), (.int (0 : Int32)), (.int (0 : Int32)), (.int (0 : Int32)), (.int (0 : Int32)), (.int (0 : Int32)), (.int (0 : Int32)), (.int (0 : Int32)), (.int (0 : Int32)), (.int (0 : Int32)), (.int (0 : Int32)), (.int (0 : Int32)), (.int (0 : Int32)), (.int (0 : Int32)), (.int (0 : Int32)), (.int (0 : Int32)), (.int (0 : Int32))] (.int (0 : Int32)) := Arv.set A1_6 q1_6 S1_6 M1_6 H1_6 G1_6 rfl W8 6 rfl (Nat.le_of_ble_eq_true rfl)
  obtain ⟨c1_7, A1_7, q1_7, S1_7, M1_7, H1_7, G1_7⟩ := V1_7
  obtain ⟨T9, h9, X9, e9, W9, st9⟩ := stI X8 hx hZ e8 A1_7 (j := (7 : Int32)) (inb_of S1_7 ⟨by decide, by decide⟩) (g := (mkF m 47 #[.val (.int p1), .val (.int p2), .val (.int p3), .unset, .unset, .unset, .unset] [(.int (215 : Int32)), (.int (7 : Int32)), (.ref b1), (.ref b1)])) rfl rfl (hb hby at_47)
  have N9 := Fr.snoc X9 Nx8 g_b1
  obtain ⟨Lx9, X9, Nx9⟩ : ∃ L, Stand p l e room_1 s m #[(.int p1), (.int p2), (.int p3)] below meth c T9 L 1 30 ∧ Fr n0 L := ⟨_, X9.more (by decide) (by decide), N9⟩
  have V1_8 : Arv Z h9 b1 k1 .int (30 : Int32) [(.int (65 : Int32)), (.int (91 : Int32)), (.int (95 : Int32)), (.int (96 : Int32)), (.int (97 : Int32)), (.int (123 : Int32)), (.int (192 : Int32)), (.int (215 : Int32)), (.int (0 : Int32)), (.int (0 : Int32)), (.int (0 : Int32)), (.int (0 : Int32)), (.int (0 : Int32)), (.int (0 : Int32)), (.int (0 : Int32)), (.int (0 : Int32)), (.int (0 : Int32)), (.int (0 : Int32)), (.int (0 : Int32)), (.int (0 : Int32)), (.int (0 : Int32)), (.int (0 : Int32)), (.int (0 : Int32)), (.int (0 : Int32)), (.int (0 : Int32)), (.int (0 : Int32)), (.int (0 : Int32)), (.int (0 : Int32)), (.int (0 : Int32)), (.int (0 : Int32))] (.int (0 : Int32)) := Arv.set A1_7 q1_7 S1_7 M1_7 H1_7 G1_7 rfl W9 7 rfl (Nat.le_of_ble_eq_true rfl)
  obtain ⟨c1_8, A1_8, q1_8, S1_8, M1_8, H1_8, G1_8⟩ := V1_8
  obtain ⟨T10, h10, X10, e10, W10, st10⟩ := stI X9 hx hZ e9 A1_8 (j := (8 : Int32)) (inb_of S1_8 ⟨by decide, by decide⟩) (g := (mkF m 54 #[.val (.int p1), .val (.int p2), .val (.int p3), .unset, .unset, .unset, .unset] [(.int (216 : Int32)), (.int (8 : Int32)), (.ref b1), (.ref b1)])) rfl rfl (hb hby at_54)
  have N10 := Fr.snoc X10 Nx9 g_b1
  obtain ⟨Lx10, X10, Nx10⟩ : ∃ L, Stand p l e room_1 s m #[(.int p1), (.int p2), (.int p3)] below meth c T10 L 1 30 ∧ Fr n0 L := ⟨_, X10.more (by decide) (by decide), N10⟩
  have V1_9 : Arv Z h10 b1 k1 .int (30 : Int32) [(.int (65 : Int32)), (.int (91 : Int32)), (.int (95 : Int32)), (.int (96 : Int32)), (.int (97 : Int32)), (.int (123 : Int32)), (.int (192 : Int32)), (.int (215 : Int32)), (.int (216 : Int32)), (.int (0 : Int32)), (.int (0 : Int32)), (.int (0 : Int32)), (.int (0 : Int32)), (.int (0 : Int32)), (.int (0 : Int32)), (.int (0 : Int32)), (.int (0 : Int32)), (.int (0 : Int32)), (.int (0 : Int32)), (.int (0 : Int32)), (.int (0 : Int32)), (.int (0 : Int32)), (.int (0 : Int32)), (.int (0 : Int32)), (.int (0 : Int32)), (.int (0 : Int32)), (.int (0 : Int32)), (.int (0 : Int32)), (.int (0 : Int32)), (.int (0 : Int32))] (.int (0 : Int32)) := Arv.set A1_8 q1_8 S1_8 M1_8 H1_8 G1_8 rfl W10 8 rfl (Nat.le_of_ble_eq_true rfl)
  obtain ⟨c1_9, A1_9, q1_9, S1_9, M1_9, H1_9, G1_9⟩ := V1_9
  obtain ⟨T11, h11, X11, e11, W11, st11⟩ := stI X10 hx hZ e10 A1_9 (j := (9 : Int32)) (inb_of S1_9 ⟨by decide, by decide⟩) (g := (mkF m 61 #[.val (.int p1), .val (.int p2), .val (.int p3), .unset, .unset, .unset, .unset] [(.int (247 : Int32)), (.int (9 : Int32)), (.ref b1), (.ref b1)])) rfl rfl (hb hby at_61)
  have N11 := Fr.snoc X11 Nx10 g_b1
  obtain ⟨Lx11, X11, Nx11⟩ : ∃ L, Stand p l e room_1 s m #[(.int p1), (.int p2), (.int p3)] below meth c T11 L 1 30 ∧ Fr n0 L := ⟨_, X11.more (by decide) (by decide), N11⟩
  have V1_10 : Arv Z h11 b1 k1 .int (30 : Int32) [(.int (65 : Int32)), (.int (91 : Int32)), (.int (95 : Int32)), (.int (96 : Int32)), (.int (97 : Int32)), (.int (123 : Int32)), (.int (192 : Int32)), (.int (215 : Int32)), (.int (216 : Int32)), (.int (247 : Int32)), (.int (0 : Int32)), (.int (0 : Int32)), (.int (0 : Int32)), (.int (0 : Int32)), (.int (0 : Int32)), (.int (0 : Int32)), (.int (0 : Int32)), (.int (0 : Int32)), (.int (0 : Int32)), (.int (0 : Int32)), (.int (0 : Int32)), (.int (0 : Int32)), (.int (0 : Int32)), (.int (0 : Int32)), (.int (0 : Int32)), (.int (0 : Int32)), (.int (0 : Int32)), (.int (0 : Int32)), (.int (0 : Int32)), (.int (0 : Int32))] (.int (0 : Int32)) := Arv.set A1_9 q1_9 S1_9 M1_9 H1_9 G1_9 rfl W11 9 rfl (Nat.le_of_ble_eq_true rfl)
  obtain ⟨c1_10, A1_10, q1_10, S1_10, M1_10, H1_10, G1_10⟩ := V1_10
  obtain ⟨T12, h12, X12, e12, W12, st12⟩ := stI X11 hx hZ e11 A1_10 (j := (10 : Int32)) (inb_of S1_10 ⟨by decide, by decide⟩) (g := (mkF m 68 #[.val (.int p1), .val (.int p2), .val (.int p3), .unset, .unset, .unset, .unset] [(.int (248 : Int32)), (.int (10 : Int32)), (.ref b1), (.ref b1)])) rfl rfl (hb hby at_68)
  have N12 := Fr.snoc X12 Nx11 g_b1
  obtain ⟨Lx12, X12, Nx12⟩ : ∃ L, Stand p l e room_1 s m #[(.int p1), (.int p2), (.int p3)] below meth c T12 L 1 30 ∧ Fr n0 L := ⟨_, X12.more (by decide) (by decide), N12⟩
  have V1_11 : Arv Z h12 b1 k1 .int (30 : Int32) [(.int (65 : Int32)), (.int (91 : Int32)), (.int (95 : Int32)), (.int (96 : Int32)), (.int (97 : Int32)), (.int (123 : Int32)), (.int (192 : Int32)), (.int (215 : Int32)), (.int (216 : Int32)), (.int (247 : Int32)), (.int (248 : Int32)), (.int (0 : Int32)), (.int (0 : Int32)), (.int (0 : Int32)), (.int (0 : Int32)), (.int (0 : Int32)), (.int (0 : Int32)), (.int (0 : Int32)), (.int (0 : Int32)), (.int (0 : Int32)), (.int (0 : Int32)), (.int (0 : Int32)), (.int (0 : Int32)), (.int (0 : Int32)), (.int (0 : Int32)), (.int (0 : Int32)), (.int (0 : Int32)), (.int (0 : Int32)), (.int (0 : Int32)), (.int (0 : Int32))] (.int (0 : Int32)) := Arv.set A1_10 q1_10 S1_10 M1_10 H1_10 G1_10 rfl W12 10 rfl (Nat.le_of_ble_eq_true rfl)
  obtain ⟨c1_11, A1_11, q1_11, S1_11, M1_11, H1_11, G1_11⟩ := V1_11
  obtain ⟨T13, h13, X13, e13, W13, st13⟩ := stI X12 hx hZ e12 A1_11 (j := (11 : Int32)) (inb_of S1_11 ⟨by decide, by decide⟩) (g := (mkF m 75 #[.val (.int p1), .val (.int p2), .val (.int p3), .unset, .unset, .unset, .unset] [(.int (768 : Int32)), (.int (11 : Int32)), (.ref b1), (.ref b1)])) rfl rfl (hb hby at_75)
  have N13 := Fr.snoc X13 Nx12 g_b1
  obtain ⟨Lx13, X13, Nx13⟩ : ∃ L, Stand p l e room_1 s m #[(.int p1), (.int p2), (.int p3)] below meth c T13 L 1 30 ∧ Fr n0 L := ⟨_, X13.more (by decide) (by decide), N13⟩
  have V1_12 : Arv Z h13 b1 k1 .int (30 : Int32) [(.int (65 : Int32)), (.int (91 : Int32)), (.int (95 : Int32)), (.int (96 : Int32)), (.int (97 : Int32)), (.int (123 : Int32)), (.int (192 : Int32)), (.int (215 : Int32)), (.int (216 : Int32)), (.int (247 : Int32)), (.int (248 : Int32)), (.int (768 : Int32)), (.int (0 : Int32)), (.int (0 : Int32)), (.int (0 : Int32)), (.int (0 : Int32)), (.int (0 : Int32)), (.int (0 : Int32)), (.int (0 : Int32)), (.int (0 : Int32)), (.int (0 : Int32)), (.int (0 : Int32)), (.int (0 : Int32)), (.int (0 : Int32)), (.int (0 : Int32)), (.int (0 : Int32)), (.int (0 : Int32)), (.int (0 : Int32)), (.int (0 : Int32)), (.int (0 : Int32))] (.int (0 : Int32)) := Arv.set A1_11 q1_11 S1_11 M1_11 H1_11 G1_11 rfl W13 11 rfl (Nat.le_of_ble_eq_true rfl)
  obtain ⟨c1_12, A1_12, q1_12, S1_12, M1_12, H1_12, G1_12⟩ := V1_12
  obtain ⟨T14, h14, X14, e14, W14, st14⟩ := stI X13 hx hZ e13 A1_12 (j := (12 : Int32)) (inb_of S1_12 ⟨by decide, by decide⟩) (g := (mkF m 82 #[.val (.int p1), .val (.int p2), .val (.int p3), .unset, .unset, .unset, .unset] [(.int (880 : Int32)), (.int (12 : Int32)), (.ref b1), (.ref b1)])) rfl rfl (hb hby at_82)
  have N14 := Fr.snoc X14 Nx13 g_b1
  obtain ⟨Lx14, X14, Nx14⟩ : ∃ L, Stand p l e room_1 s m #[(.int p1), (.int p2), (.int p3)] below meth c T14 L 1 30 ∧ Fr n0 L := ⟨_, X14.more (by decide) (by decide), N14⟩
  have V1_13 : Arv Z h14 b1 k1 .int (30 : Int32) [(.int (65 : Int32)), (.int (91 : Int32)), (.int (95 : Int32)), (.int (96 : Int32)), (.int (97 : Int32)), (.int (123 : Int32)), (.int (192 : Int32)), (.int (215 : Int32)), (.int (216 : Int32)), (.int (247 : Int32)), (.int (248 : Int32)), (.int (768 : Int32)), (.int (880 : Int32)), (.int (0 : Int32)), (.int (0 : Int32)), (.int (0 : Int32)), (.int (0 : Int32)), (.int (0 : Int32)), (.int (0 : Int32)), (.int (0 : Int32)), (.int (0 : Int32)), (.int (0 : Int32)), (.int (0 : Int32)), (.int (0 : Int32)), (.int (0 : Int32)), (.int (0 : Int32)), (.int (0 : Int32)), (.int (0 : Int32)), (.int (0 : Int32)), (.int (0 : Int32))] (.int (0 : Int32)) := Arv.set A1_12 q1_12 S1_12 M1_12 H1_12 G1_12 rfl W14 12 rfl (Nat.le_of_ble_eq_true rfl)
  obtain ⟨c1_13, A1_13, q1_13, S1_13, M1_13, H1_13, G1_13⟩ := V1_13
  obtain ⟨T15, h15, X15, e15, W15, st15⟩ := stI X14 hx hZ e14 A1_13 (j := (13 : Int32)) (inb_of S1_13 ⟨by decide, by decide⟩) (g := (mkF m 89 #[.val (.int p1), .val (.int p2), .val (.int p3), .unset, .unset, .unset, .unset] [(.int (894 : Int32)), (.int (13 : Int32)), (.ref b1), (.ref b1)])) rfl rfl (hb hby at_89)
  have N15 := Fr.snoc X15 Nx14 g_b1
  obtain ⟨Lx15, X15, Nx15⟩ : ∃ L, Stand p l e room_1 s m #[(.int p1), (.int p2), (.int p3)] below meth c T15 L 1 30 ∧ Fr n0 L := ⟨_, X15.more (by decide) (by decide), N15⟩
  have V1_14 : Arv Z h15 b1 k1 .int (30 : Int32) [(.int (65 : Int32)), (.int (91 : Int32)), (.int (95 : Int32)), (.int (96 : Int32)), (.int (97 : Int32)), (.int (123 : Int32)), (.int (192 : Int32)), (.int (215 : Int32)), (.int (216 : Int32)), (.int (247 : Int32)), (.int (248 : Int32)), (.int (768 : Int32)), (.int (880 : Int32)), (.int (894 : Int32)), (.int (0 : Int32)), (.int (0 : Int32)), (.int (0 : Int32)), (.int (0 : Int32)), (.int (0 : Int32)), (.int (0 : Int32)), (.int (0 : Int32)), (.int (0 : Int32)), (.int (0 : Int32)), (.int (0 : Int32)), (.int (0 : Int32)), (.int (0 : Int32)), (.int (0 : Int32)), (.int (0 : Int32)), (.int (0 : Int32)), (.int (0 : Int32))] (.int (0 : Int32)) := Arv.set A1_13 q1_13 S1_13 M1_13 H1_13 G1_13 rfl W15 13 rfl (Nat.le_of_ble_eq_true rfl)
  obtain ⟨c1_14, A1_14, q1_14, S1_14, M1_14, H1_14, G1_14⟩ := V1_14
  obtain ⟨T16, h16, X16, e16, W16, st16⟩ := stI X15 hx hZ e15 A1_14 (j := (14 : Int32)) (inb_of S1_14 ⟨by decide, by decide⟩) (g := (mkF m 96 #[.val (.int p1), .val (.int p2), .val (.int p3), .unset, .unset, .unset, .unset] [(.int (895 : Int32)), (.int (14 : Int32)), (.ref b1), (.ref b1)])) rfl rfl (hb hby at_96)
  have N16 := Fr.snoc X16 Nx15 g_b1
  obtain ⟨Lx16, X16, Nx16⟩ : ∃ L, Stand p l e room_1 s m #[(.int p1), (.int p2), (.int p3)] below meth c T16 L 1 30 ∧ Fr n0 L := ⟨_, X16.more (by decide) (by decide), N16⟩
  have V1_15 : Arv Z h16 b1 k1 .int (30 : Int32) [(.int (65 : Int32)), (.int (91 : Int32)), (.int (95 : Int32)), (.int (96 : Int32)), (.int (97 : Int32)), (.int (123 : Int32)), (.int (192 : Int32)), (.int (215 : Int32)), (.int (216 : Int32)), (.int (247 : Int32)), (.int (248 : Int32)), (.int (768 : Int32)), (.int (880 : Int32)), (.int (894 : Int32)), (.int (895 : Int32)), (.int (0 : Int32)), (.int (0 : Int32)), (.int (0 : Int32)), (.int (0 : Int32)), (.int (0 : Int32)), (.int (0 : Int32)), (.int (0 : Int32)), (.int (0 : Int32)), (.int (0 : Int32)), (.int (0 : Int32)), (.int (0 : Int32)), (.int (0 : Int32)), (.int (0 : Int32)), (.int (0 : Int32)), (.int (0 : Int32))] (.int (0 : Int32)) := Arv.set A1_14 q1_14 S1_14 M1_14 H1_14 G1_14 rfl W16 14 rfl (Nat.le_of_ble_eq_true rfl)
  obtain ⟨c1_15, A1_15, q1_15, S1_15, M1_15, H1_15, G1_15⟩ := V1_15
  obtain ⟨T17, h17, X17, e17, W17, st17⟩ := stI X16 hx hZ e16 A1_15 (j := (15 : Int32)) (inb_of S1_15 ⟨by decide, by decide⟩) (g := (mkF m 103 #[.val (.int p1), .val (.int p2), .val (.int p3), .unset, .unset, .unset, .unset] [(.int (8192 : Int32)), (.int (15 : Int32)), (.ref b1), (.ref b1)])) rfl rfl (hb hby at_103)
  have N17 := Fr.snoc X17 Nx16 g_b1
  obtain ⟨Lx17, X17, Nx17⟩ : ∃ L, Stand p l e room_1 s m #[(.int p1), (.int p2), (.int p3)] below meth c T17 L 1 30 ∧ Fr n0 L := ⟨_, X17.more (by decide) (by decide), N17⟩
  have V1_16 : Arv Z h17 b1 k1 .int (30 : Int32) [(.int (65 : Int32)), (.int (91 : Int32)), (.int (95 : Int32)), (.int (96 : Int32)), (.int (97 : Int32)), (.int (123 : Int32)), (.int (192 : Int32)), (.int (215 : Int32)), (.int (216 : Int32)), (.int (247 : Int32)), (.int (248 : Int32)), (.int (768 : Int32)), (.int (880 : Int32)), (.int (894 : Int32)), (.int (895 : Int32)), (.int (8192 : Int32)), (.int (0 : Int32)), (.int (0 : Int32)), (.int (0 : Int32)), (.int (0 : Int32)), (.int (0 : Int32)), (.int (0 : Int32)), (.int (0 : Int32)), (.int (0 : Int32)), (.int (0 : Int32)), (.int (0 : Int32)), (.int (0 : Int32)), (.int (0 : Int32)), (.int (0 : Int32)), (.int (0 : Int32))] (.int (0 : Int32)) := Arv.set A1_15 q1_15 S1_15 M1_15 H1_15 G1_15 rfl W17 15 rfl (Nat.le_of_ble_eq_true rfl)
  obtain ⟨c1_16, A1_16, q1_16, S1_16, M1_16, H1_16, G1_16⟩ := V1_16
  obtain ⟨T18, h18, X18, e18, W18, st18⟩ := stI X17 hx hZ e17 A1_16 (j := (16 : Int32)) (inb_of S1_16 ⟨by decide, by decide⟩) (g := (mkF m 110 #[.val (.int p1), .val (.int p2), .val (.int p3), .unset, .unset, .unset, .unset] [(.int (8204 : Int32)), (.int (16 : Int32)), (.ref b1), (.ref b1)])) rfl rfl (hb hby at_110)
  have N18 := Fr.snoc X18 Nx17 g_b1
  obtain ⟨Lx18, X18, Nx18⟩ : ∃ L, Stand p l e room_1 s m #[(.int p1), (.int p2), (.int p3)] below meth c T18 L 1 30 ∧ Fr n0 L := ⟨_, X18.more (by decide) (by decide), N18⟩
  have V1_17 : Arv Z h18 b1 k1 .int (30 : Int32) [(.int (65 : Int32)), (.int (91 : Int32)), (.int (95 : Int32)), (.int (96 : Int32)), (.int (97 : Int32)), (.int (123 : Int32)), (.int (192 : Int32)), (.int (215 : Int32)), (.int (216 : Int32)), (.int (247 : Int32)), (.int (248 : Int32)), (.int (768 : Int32)), (.int (880 : Int32)), (.int (894 : Int32)), (.int (895 : Int32)), (.int (8192 : Int32)), (.int (8204 : Int32)), (.int (0 : Int32)), (.int (0 : Int32)), (.int (0 : Int32)), (.int (0 : Int32)), (.int (0 : Int32)), (.int (0 : Int32)), (.int (0 : Int32)), (.int (0 : Int32)), (.int (0 : Int32)), (.int (0 : Int32)), (.int (0 : Int32)), (.int (0 : Int32)), (.int (0 : Int32))] (.int (0 : Int32)) := Arv.set A1_16 q1_16 S1_16 M1_16 H1_16 G1_16 rfl W18 16 rfl (Nat.le_of_ble_eq_true rfl)
  obtain ⟨c1_17, A1_17, q1_17, S1_17, M1_17, H1_17, G1_17⟩ := V1_17
  obtain ⟨T19, h19, X19, e19, W19, st19⟩ := stI X18 hx hZ e18 A1_17 (j := (17 : Int32)) (inb_of S1_17 ⟨by decide, by decide⟩) (g := (mkF m 117 #[.val (.int p1), .val (.int p2), .val (.int p3), .unset, .unset, .unset, .unset] [(.int (8206 : Int32)), (.int (17 : Int32)), (.ref b1), (.ref b1)])) rfl rfl (hb hby at_117)
  have N19 := Fr.snoc X19 Nx18 g_b1
  obtain ⟨Lx19, X19, Nx19⟩ : ∃ L, Stand p l e room_1 s m #[(.int p1), (.int p2), (.int p3)] below meth c T19 L 1 30 ∧ Fr n0 L := ⟨_, X19.more (by decide) (by decide), N19⟩
  have V1_18 : Arv Z h19 b1 k1 .int (30 : Int32) [(.int (65 : Int32)), (.int (91 : Int32)), (.int (95 : Int32)), (.int (96 : Int32)), (.int (97 : Int32)), (.int (123 : Int32)), (.int (192 : Int32)), (.int (215 : Int32)), (.int (216 : Int32)), (.int (247 : Int32)), (.int (248 : Int32)), (.int (768 : Int32)), (.int (880 : Int32)), (.int (894 : Int32)), (.int (895 : Int32)), (.int (8192 : Int32)), (.int (8204 : Int32)), (.int (8206 : Int32)), (.int (0 : Int32)), (.int (0 : Int32)), (.int (0 : Int32)), (.int (0 : Int32)), (.int (0 : Int32)), (.int (0 : Int32)), (.int (0 : Int32)), (.int (0 : Int32)), (.int (0 : Int32)), (.int (0 : Int32)), (.int (0 : Int32)), (.int (0 : Int32))] (.int (0 : Int32)) := Arv.set A1_17 q1_17 S1_17 M1_17 H1_17 G1_17 rfl W19 17 rfl (Nat.le_of_ble_eq_true rfl)
  obtain ⟨c1_18, A1_18, q1_18, S1_18, M1_18, H1_18, G1_18⟩ := V1_18
  obtain ⟨T20, h20, X20, e20, W20, st20⟩ := stI X19 hx hZ e19 A1_18 (j := (18 : Int32)) (inb_of S1_18 ⟨by decide, by decide⟩) (g := (mkF m 124 #[.val (.int p1), .val (.int p2), .val (.int p3), .unset, .unset, .unset, .unset] [(.int (8304 : Int32)), (.int (18 : Int32)), (.ref b1), (.ref b1)])) rfl rfl (hb hby at_124)
  have N20 := Fr.snoc X20 Nx19 g_b1
  obtain ⟨Lx20, X20, Nx20⟩ : ∃ L, Stand p l e room_1 s m #[(.int p1), (.int p2), (.int p3)] below meth c T20 L 1 30 ∧ Fr n0 L := ⟨_, X20.more (by decide) (by decide), N20⟩
  have V1_19 : Arv Z h20 b1 k1 .int (30 : Int32) [(.int (65 : Int32)), (.int (91 : Int32)), (.int (95 : Int32)), (.int (96 : Int32)), (.int (97 : Int32)), (.int (123 : Int32)), (.int (192 : Int32)), (.int (215 : Int32)), (.int (216 : Int32)), (.int (247 : Int32)), (.int (248 : Int32)), (.int (768 : Int32)), (.int (880 : Int32)), (.int (894 : Int32)), (.int (895 : Int32)), (.int (8192 : Int32)), (.int (8204 : Int32)), (.int (8206 : Int32)), (.int (8304 : Int32)), (.int (0 : Int32)), (.int (0 : Int32)), (.int (0 : Int32)), (.int (0 : Int32)), (.int (0 : Int32)), (.int (0 : Int32)), (.int (0 : Int32)), (.int (0 : Int32)), (.int (0 : Int32)), (.int (0 : Int32)), (.int (0 : Int32))] (.int (0 : Int32)) := Arv.set A1_18 q1_18 S1_18 M1_18 H1_18 G1_18 rfl W20 18 rfl (Nat.le_of_ble_eq_true rfl)
  obtain ⟨c1_19, A1_19, q1_19, S1_19, M1_19, H1_19, G1_19⟩ := V1_19
  obtain ⟨T21, h21, X21, e21, W21, st21⟩ := stI X20 hx hZ e20 A1_19 (j := (19 : Int32)) (inb_of S1_19 ⟨by decide, by decide⟩) (g := (mkF m 131 #[.val (.int p1), .val (.int p2), .val (.int p3), .unset, .unset, .unset, .unset] [(.int (8592 : Int32)), (.int (19 : Int32)), (.ref b1), (.ref b1)])) rfl rfl (hb hby at_131)
  have N21 := Fr.snoc X21 Nx20 g_b1
  obtain ⟨Lx21, X21, Nx21⟩ : ∃ L, Stand p l e room_1 s m #[(.int p1), (.int p2), (.int p3)] below meth c T21 L 1 30 ∧ Fr n0 L := ⟨_, X21.more (by decide) (by decide), N21⟩
  have V1_20 : Arv Z h21 b1 k1 .int (30 : Int32) [(.int (65 : Int32)), (.int (91 : Int32)), (.int (95 : Int32)), (.int (96 : Int32)), (.int (97 : Int32)), (.int (123 : Int32)), (.int (192 : Int32)), (.int (215 : Int32)), (.int (216 : Int32)), (.int (247 : Int32)), (.int (248 : Int32)), (.int (768 : Int32)), (.int (880 : Int32)), (.int (894 : Int32)), (.int (895 : Int32)), (.int (8192 : Int32)), (.int (8204 : Int32)), (.int (8206 : Int32)), (.int (8304 : Int32)), (.int (8592 : Int32)), (.int (0 : Int32)), (.int (0 : Int32)), (.int (0 : Int32)), (.int (0 : Int32)), (.int (0 : Int32)), (.int (0 : Int32)), (.int (0 : Int32)), (.int (0 : Int32)), (.int (0 : Int32)), (.int (0 : Int32))] (.int (0 : Int32)) := Arv.set A1_19 q1_19 S1_19 M1_19 H1_19 G1_19 rfl W21 19 rfl (Nat.le_of_ble_eq_true rfl)
  obtain ⟨c1_20, A1_20, q1_20, S1_20, M1_20, H1_20, G1_20⟩ := V1_20
  obtain ⟨T22, h22, X22, e22, W22, st22⟩ := stI X21 hx hZ e21 A1_20 (j := (20 : Int32)) (inb_of S1_20 ⟨by decide, by decide⟩) (g := (mkF m 138 #[.val (.int p1), .val (.int p2), .val (.int p3), .unset, .unset, .unset, .unset] [(.int (11264 : Int32)), (.int (20 : Int32)), (.ref b1), (.ref b1)])) rfl rfl (hb hby at_138)
  have N22 := Fr.snoc X22 Nx21 g_b1
  obtain ⟨Lx22, X22, Nx22⟩ : ∃ L, Stand p l e room_1 s m #[(.int p1), (.int p2), (.int p3)] below meth c T22 L 1 30 ∧ Fr n0 L := ⟨_, X22.more (by decide) (by decide), N22⟩
  have V1_21 : Arv Z h22 b1 k1 .int (30 : Int32) [(.int (65 : Int32)), (.int (91 : Int32)), (.int (95 : Int32)), (.int (96 : Int32)), (.int (97 : Int32)), (.int (123 : Int32)), (.int (192 : Int32)), (.int (215 : Int32)), (.int (216 : Int32)), (.int (247 : Int32)), (.int (248 : Int32)), (.int (768 : Int32)), (.int (880 : Int32)), (.int (894 : Int32)), (.int (895 : Int32)), (.int (8192 : Int32)), (.int (8204 : Int32)), (.int (8206 : Int32)), (.int (8304 : Int32)), (.int (8592 : Int32)), (.int (11264 : Int32)), (.int (0 : Int32)), (.int (0 : Int32)), (.int (0 : Int32)), (.int (0 : Int32)), (.int (0 : Int32)), (.int (0 : Int32)), (.int (0 : Int32)), (.int (0 : Int32)), (.int (0 : Int32))] (.int (0 : Int32)) := Arv.set A1_20 q1_20 S1_20 M1_20 H1_20 G1_20 rfl W22 20 rfl (Nat.le_of_ble_eq_true rfl)
  obtain ⟨c1_21, A1_21, q1_21, S1_21, M1_21, H1_21, G1_21⟩ := V1_21
  obtain ⟨T23, h23, X23, e23, W23, st23⟩ := stI X22 hx hZ e22 A1_21 (j := (21 : Int32)) (inb_of S1_21 ⟨by decide, by decide⟩) (g := (mkF m 145 #[.val (.int p1), .val (.int p2), .val (.int p3), .unset, .unset, .unset, .unset] [(.int (12272 : Int32)), (.int (21 : Int32)), (.ref b1), (.ref b1)])) rfl rfl (hb hby at_145)
  have N23 := Fr.snoc X23 Nx22 g_b1
  obtain ⟨Lx23, X23, Nx23⟩ : ∃ L, Stand p l e room_1 s m #[(.int p1), (.int p2), (.int p3)] below meth c T23 L 1 30 ∧ Fr n0 L := ⟨_, X23.more (by decide) (by decide), N23⟩
  have V1_22 : Arv Z h23 b1 k1 .int (30 : Int32) [(.int (65 : Int32)), (.int (91 : Int32)), (.int (95 : Int32)), (.int (96 : Int32)), (.int (97 : Int32)), (.int (123 : Int32)), (.int (192 : Int32)), (.int (215 : Int32)), (.int (216 : Int32)), (.int (247 : Int32)), (.int (248 : Int32)), (.int (768 : Int32)), (.int (880 : Int32)), (.int (894 : Int32)), (.int (895 : Int32)), (.int (8192 : Int32)), (.int (8204 : Int32)), (.int (8206 : Int32)), (.int (8304 : Int32)), (.int (8592 : Int32)), (.int (11264 : Int32)), (.int (12272 : Int32)), (.int (0 : Int32)), (.int (0 : Int32)), (.int (0 : Int32)), (.int (0 : Int32)), (.int (0 : Int32)), (.int (0 : Int32)), (.int (0 : Int32)), (.int (0 : Int32))] (.int (0 : Int32)) := Arv.set A1_21 q1_21 S1_21 M1_21 H1_21 G1_21 rfl W23 21 rfl (Nat.le_of_ble_eq_true rfl)
  obtain ⟨c1_22, A1_22, q1_22, S1_22, M1_22, H1_22, G1_22⟩ := V1_22
  obtain ⟨T24, h24, X24, e24, W24, st24⟩ := stI X23 hx hZ e23 A1_22 (j := (22 : Int32)) (inb_of S1_22 ⟨by decide, by decide⟩) (g := (mkF m 152 #[.val (.int p1), .val (.int p2), .val (.int p3), .unset, .unset, .unset, .unset] [(.int (12289 : Int32)), (.int (22 : Int32)), (.ref b1), (.ref b1)])) rfl rfl (hb hby at_152)
  have N24 := Fr.snoc X24 Nx23 g_b1
  obtain ⟨Lx24, X24, Nx24⟩ : ∃ L, Stand p l e room_1 s m #[(.int p1), (.int p2), (.int p3)] below meth c T24 L 1 30 ∧ Fr n0 L := ⟨_, X24.more (by decide) (by decide), N24⟩
  have V1_23 : Arv Z h24 b1 k1 .int (30 : Int32) [(.int (65 : Int32)), (.int (91 : Int32)), (.int (95 : Int32)), (.int (96 : Int32)), (.int (97 : Int32)), (.int (123 : Int32)), (.int (192 : Int32)), (.int (215 : Int32)), (.int (216 : Int32)), (.int (247 : Int32)), (.int (248 : Int32)), (.int (768 : Int32)), (.int (880 : Int32)), (.int (894 : Int32)), (.int (895 : Int32)), (.int (8192 : Int32)), (.int (8204 : Int32)), (.int (8206 : Int32)), (.int (8304 : Int32)), (.int (8592 : Int32)), (.int (11264 : Int32)), (.int (12272 : Int32)), (.int (12289 : Int32)), (.int (0 : Int32)), (.int (0 : Int32)), (.int (0 : Int32)), (.int (0 : Int32)), (.int (0 : Int32)), (.int (0 : Int32)), (.int (0 : Int32))] (.int (0 : Int32)) := Arv.set A1_22 q1_22 S1_22 M1_22 H1_22 G1_22 rfl W24 22 rfl (Nat.le_of_ble_eq_true rfl)
  obtain ⟨c1_23, A1_23, q1_23, S1_23, M1_23, H1_23, G1_23⟩ := V1_23
  obtain ⟨T25, h25, X25, e25, W25, st25⟩ := stI X24 hx hZ e24 A1_23 (j := (23 : Int32)) (inb_of S1_23 ⟨by decide, by decide⟩) (g := (mkF m 158 #[.val (.int p1), .val (.int p2), .val (.int p3), .unset, .unset, .unset, .unset] [(.int (55296 : Int32)), (.int (23 : Int32)), (.ref b1), (.ref b1)])) rfl rfl (hb hby at_158)
  have N25 := Fr.snoc X25 Nx24 g_b1
  obtain ⟨Lx25, X25, Nx25⟩ : ∃ L, Stand p l e room_1 s m #[(.int p1), (.int p2), (.int p3)] below meth c T25 L 1 30 ∧ Fr n0 L := ⟨_, X25.more (by decide) (by decide), N25⟩
  have V1_24 : Arv Z h25 b1 k1 .int (30 : Int32) [(.int (65 : Int32)), (.int (91 : Int32)), (.int (95 : Int32)), (.int (96 : Int32)), (.int (97 : Int32)), (.int (123 : Int32)), (.int (192 : Int32)), (.int (215 : Int32)), (.int (216 : Int32)), (.int (247 : Int32)), (.int (248 : Int32)), (.int (768 : Int32)), (.int (880 : Int32)), (.int (894 : Int32)), (.int (895 : Int32)), (.int (8192 : Int32)), (.int (8204 : Int32)), (.int (8206 : Int32)), (.int (8304 : Int32)), (.int (8592 : Int32)), (.int (11264 : Int32)), (.int (12272 : Int32)), (.int (12289 : Int32)), (.int (55296 : Int32)), (.int (0 : Int32)), (.int (0 : Int32)), (.int (0 : Int32)), (.int (0 : Int32)), (.int (0 : Int32)), (.int (0 : Int32))] (.int (0 : Int32)) := Arv.set A1_23 q1_23 S1_23 M1_23 H1_23 G1_23 rfl W25 23 rfl (Nat.le_of_ble_eq_true rfl)
  obtain ⟨c1_24, A1_24, q1_24, S1_24, M1_24, H1_24, G1_24⟩ := V1_24
  obtain ⟨T26, h26, X26, e26, W26, st26⟩ := stI X25 hx hZ e25 A1_24 (j := (24 : Int32)) (inb_of S1_24 ⟨by decide, by decide⟩) (g := (mkF m 164 #[.val (.int p1), .val (.int p2), .val (.int p3), .unset, .unset, .unset, .unset] [(.int (63744 : Int32)), (.int (24 : Int32)), (.ref b1), (.ref b1)])) rfl rfl (hb hby at_164)
  have N26 := Fr.snoc X26 Nx25 g_b1
  obtain ⟨Lx26, X26, Nx26⟩ : ∃ L, Stand p l e room_1 s m #[(.int p1), (.int p2), (.int p3)] below meth c T26 L 1 30 ∧ Fr n0 L := ⟨_, X26.more (by decide) (by decide), N26⟩
  have V1_25 : Arv Z h26 b1 k1 .int (30 : Int32) [(.int (65 : Int32)), (.int (91 : Int32)), (.int (95 : Int32)), (.int (96 : Int32)), (.int (97 : Int32)), (.int (123 : Int32)), (.int (192 : Int32)), (.int (215 : Int32)), (.int (216 : Int32)), (.int (247 : Int32)), (.int (248 : Int32)), (.int (768 : Int32)), (.int (880 : Int32)), (.int (894 : Int32)), (.int (895 : Int32)), (.int (8192 : Int32)), (.int (8204 : Int32)), (.int (8206 : Int32)), (.int (8304 : Int32)), (.int (8592 : Int32)), (.int (11264 : Int32)), (.int (12272 : Int32)), (.int (12289 : Int32)), (.int (55296 : Int32)), (.int (63744 : Int32)), (.int (0 : Int32)), (.int (0 : Int32)), (.int (0 : Int32)), (.int (0 : Int32)), (.int (0 : Int32))] (.int (0 : Int32)) := Arv.set A1_24 q1_24 S1_24 M1_24 H1_24 G1_24 rfl W26 24 rfl (Nat.le_of_ble_eq_true rfl)
  obtain ⟨c1_25, A1_25, q1_25, S1_25, M1_25, H1_25, G1_25⟩ := V1_25
  obtain ⟨T27, h27, X27, e27, W27, st27⟩ := stI X26 hx hZ e26 A1_25 (j := (25 : Int32)) (inb_of S1_25 ⟨by decide, by decide⟩) (g := (mkF m 170 #[.val (.int p1), .val (.int p2), .val (.int p3), .unset, .unset, .unset, .unset] [(.int (64976 : Int32)), (.int (25 : Int32)), (.ref b1), (.ref b1)])) rfl rfl (hb hby at_170)
  have N27 := Fr.snoc X27 Nx26 g_b1
  obtain ⟨Lx27, X27, Nx27⟩ : ∃ L, Stand p l e room_1 s m #[(.int p1), (.int p2), (.int p3)] below meth c T27 L 1 30 ∧ Fr n0 L := ⟨_, X27.more (by decide) (by decide), N27⟩
  have V1_26 : Arv Z h27 b1 k1 .int (30 : Int32) [(.int (65 : Int32)), (.int (91 : Int32)), (.int (95 : Int32)), (.int (96 : Int32)), (.int (97 : Int32)), (.int (123 : Int32)), (.int (192 : Int32)), (.int (215 : Int32)), (.int (216 : Int32)), (.int (247 : Int32)), (.int (248 : Int32)), (.int (768 : Int32)), (.int (880 : Int32)), (.int (894 : Int32)), (.int (895 : Int32)), (.int (8192 : Int32)), (.int (8204 : Int32)), (.int (8206 : Int32)), (.int (8304 : Int32)), (.int (8592 : Int32)), (.int (11264 : Int32)), (.int (12272 : Int32)), (.int (12289 : Int32)), (.int (55296 : Int32)), (.int (63744 : Int32)), (.int (64976 : Int32)), (.int (0 : Int32)), (.int (0 : Int32)), (.int (0 : Int32)), (.int (0 : Int32))] (.int (0 : Int32)) := Arv.set A1_25 q1_25 S1_25 M1_25 H1_25 G1_25 rfl W27 25 rfl (Nat.le_of_ble_eq_true rfl)
  obtain ⟨c1_26, A1_26, q1_26, S1_26, M1_26, H1_26, G1_26⟩ := V1_26
  obtain ⟨T28, h28, X28, e28, W28, st28⟩ := stI X27 hx hZ e27 A1_26 (j := (26 : Int32)) (inb_of S1_26 ⟨by decide, by decide⟩) (g := (mkF m 176 #[.val (.int p1), .val (.int p2), .val (.int p3), .unset, .unset, .unset, .unset] [(.int (65008 : Int32)), (.int (26 : Int32)), (.ref b1), (.ref b1)])) rfl rfl (hb hby at_176)
  have N28 := Fr.snoc X28 Nx27 g_b1
  obtain ⟨Lx28, X28, Nx28⟩ : ∃ L, Stand p l e room_1 s m #[(.int p1), (.int p2), (.int p3)] below meth c T28 L 1 30 ∧ Fr n0 L := ⟨_, X28.more (by decide) (by decide), N28⟩
  have V1_27 : Arv Z h28 b1 k1 .int (30 : Int32) [(.int (65 : Int32)), (.int (91 : Int32)), (.int (95 : Int32)), (.int (96 : Int32)), (.int (97 : Int32)), (.int (123 : Int32)), (.int (192 : Int32)), (.int (215 : Int32)), (.int (216 : Int32)), (.int (247 : Int32)), (.int (248 : Int32)), (.int (768 : Int32)), (.int (880 : Int32)), (.int (894 : Int32)), (.int (895 : Int32)), (.int (8192 : Int32)), (.int (8204 : Int32)), (.int (8206 : Int32)), (.int (8304 : Int32)), (.int (8592 : Int32)), (.int (11264 : Int32)), (.int (12272 : Int32)), (.int (12289 : Int32)), (.int (55296 : Int32)), (.int (63744 : Int32)), (.int (64976 : Int32)), (.int (65008 : Int32)), (.int (0 : Int32)), (.int (0 : Int32)), (.int (0 : Int32))] (.int (0 : Int32)) := Arv.set A1_26 q1_26 S1_26 M1_26 H1_26 G1_26 rfl W28 26 rfl (Nat.le_of_ble_eq_true rfl)
  obtain ⟨c1_27, A1_27, q1_27, S1_27, M1_27, H1_27, G1_27⟩ := V1_27
  obtain ⟨T29, h29, X29, e29, W29, st29⟩ := stI X28 hx hZ e28 A1_27 (j := (27 : Int32)) (inb_of S1_27 ⟨by decide, by decide⟩) (g := (mkF m 182 #[.val (.int p1), .val (.int p2), .val (.int p3), .unset, .unset, .unset, .unset] [(.int (65534 : Int32)), (.int (27 : Int32)), (.ref b1), (.ref b1)])) rfl rfl (hb hby at_182)
  have N29 := Fr.snoc X29 Nx28 g_b1
  obtain ⟨Lx29, X29, Nx29⟩ : ∃ L, Stand p l e room_1 s m #[(.int p1), (.int p2), (.int p3)] below meth c T29 L 1 30 ∧ Fr n0 L := ⟨_, X29.more (by decide) (by decide), N29⟩
  have V1_28 : Arv Z h29 b1 k1 .int (30 : Int32) [(.int (65 : Int32)), (.int (91 : Int32)), (.int (95 : Int32)), (.int (96 : Int32)), (.int (97 : Int32)), (.int (123 : Int32)), (.int (192 : Int32)), (.int (215 : Int32)), (.int (216 : Int32)), (.int (247 : Int32)), (.int (248 : Int32)), (.int (768 : Int32)), (.int (880 : Int32)), (.int (894 : Int32)), (.int (895 : Int32)), (.int (8192 : Int32)), (.int (8204 : Int32)), (.int (8206 : Int32)), (.int (8304 : Int32)), (.int (8592 : Int32)), (.int (11264 : Int32)), (.int (12272 : Int32)), (.int (12289 : Int32)), (.int (55296 : Int32)), (.int (63744 : Int32)), (.int (64976 : Int32)), (.int (65008 : Int32)), (.int (65534 : Int32)), (.int (0 : Int32)), (.int (0 : Int32))] (.int (0 : Int32)) := Arv.set A1_27 q1_27 S1_27 M1_27 H1_27 G1_27 rfl W29 27 rfl (Nat.le_of_ble_eq_true rfl)
  obtain ⟨c1_28, A1_28, q1_28, S1_28, M1_28, H1_28, G1_28⟩ := V1_28
  obtain ⟨T30, h30, X30, e30, W30, st30⟩ := stI X29 hx hZ e29 A1_28 (j := (28 : Int32)) (inb_of S1_28 ⟨by decide, by decide⟩) (g := (mkF m 188 #[.val (.int p1), .val (.int p2), .val (.int p3), .unset, .unset, .unset, .unset] [(.int (65536 : Int32)), (.int (28 : Int32)), (.ref b1), (.ref b1)])) rfl rfl (hb hby at_188)
  have N30 := Fr.snoc X30 Nx29 g_b1
  obtain ⟨Lx30, X30, Nx30⟩ : ∃ L, Stand p l e room_1 s m #[(.int p1), (.int p2), (.int p3)] below meth c T30 L 1 30 ∧ Fr n0 L := ⟨_, X30.more (by decide) (by decide), N30⟩
  have V1_29 : Arv Z h30 b1 k1 .int (30 : Int32) [(.int (65 : Int32)), (.int (91 : Int32)), (.int (95 : Int32)), (.int (96 : Int32)), (.int (97 : Int32)), (.int (123 : Int32)), (.int (192 : Int32)), (.int (215 : Int32)), (.int (216 : Int32)), (.int (247 : Int32)), (.int (248 : Int32)), (.int (768 : Int32)), (.int (880 : Int32)), (.int (894 : Int32)), (.int (895 : Int32)), (.int (8192 : Int32)), (.int (8204 : Int32)), (.int (8206 : Int32)), (.int (8304 : Int32)), (.int (8592 : Int32)), (.int (11264 : Int32)), (.int (12272 : Int32)), (.int (12289 : Int32)), (.int (55296 : Int32)), (.int (63744 : Int32)), (.int (64976 : Int32)), (.int (65008 : Int32)), (.int (65534 : Int32)), (.int (65536 : Int32)), (.int (0 : Int32))] (.int (0 : Int32)) := Arv.set A1_28 q1_28 S1_28 M1_28 H1_28 G1_28 rfl W30 28 rfl (Nat.le_of_ble_eq_true rfl)
  obtain ⟨c1_29, A1_29, q1_29, S1_29, M1_29, H1_29, G1_29⟩ := V1_29
  obtain ⟨T31, h31, X31, e31, W31, st31⟩ := stI X30 hx hZ e30 A1_29 (j := (29 : Int32)) (inb_of S1_29 ⟨by decide, by decide⟩) (g := (mkF m 194 #[.val (.int p1), .val (.int p2), .val (.int p3), .unset, .unset, .unset, .unset] [(.int (983040 : Int32)), (.int (29 : Int32)), (.ref b1), (.ref b1)])) rfl rfl (hb hby at_194)
  have N31 := Fr.snoc X31 Nx30 g_b1
  obtain ⟨Lx31, X31, Nx31⟩ : ∃ L, Stand p l e room_1 s m #[(.int p1), (.int p2), (.int p3)] below meth c T31 L 1 30 ∧ Fr n0 L := ⟨_, X31.more (by decide) (by decide), N31⟩
  have V1_30 : Arv Z h31 b1 k1 .int (30 : Int32) [(.int (65 : Int32)), (.int (91 : Int32)), (.int (95 : Int32)), (.int (96 : Int32)), (.int (97 : Int32)), (.int (123 : Int32)), (.int (192 : Int32)), (.int (215 : Int32)), (.int (216 : Int32)), (.int (247 : Int32)), (.int (248 : Int32)), (.int (768 : Int32)), (.int (880 : Int32)), (.int (894 : Int32)), (.int (895 : Int32)), (.int (8192 : Int32)), (.int (8204 : Int32)), (.int (8206 : Int32)), (.int (8304 : Int32)), (.int (8592 : Int32)), (.int (11264 : Int32)), (.int (12272 : Int32)), (.int (12289 : Int32)), (.int (55296 : Int32)), (.int (63744 : Int32)), (.int (64976 : Int32)), (.int (65008 : Int32)), (.int (65534 : Int32)), (.int (65536 : Int32)), (.int (983040 : Int32))] (.int (0 : Int32)) := Arv.set A1_29 q1_29 S1_29 M1_29 H1_29 G1_29 rfl W31 29 rfl (Nat.le_of_ble_eq_true rfl)
  have zz2 : n0 ≤ h2.size := Nat.le_trans zz0 (Keep.of_wr W2).1
  have zz3 : n0 ≤ h3.size := Nat.le_trans zz2 (Keep.of_wr W3).1
  have zz4 : n0 ≤ h4.size := Nat.le_trans zz3 (Keep.of_wr W4).1
  have zz5 : n0 ≤ h5.size := Nat.le_trans zz4 (Keep.of_wr W5).1
  have zz6 : n0 ≤ h6.size := Nat.le_trans zz5 (Keep.of_wr W6).1
  have zz7 : n0 ≤ h7.size := Nat.le_trans zz6 (Keep.of_wr W7).1
  have zz8 : n0 ≤ h8.size := Nat.le_trans zz7 (Keep.of_wr W8).1
  have zz9 : n0 ≤ h9.size := Nat.le_trans zz8 (Keep.of_wr W9).1
  have zz10 : n0 ≤ h10.size := Nat.le_trans zz9 (Keep.of_wr W10).1
  have zz11 : n0 ≤ h11.size := Nat.le_trans zz10 (Keep.of_wr W11).1
  have zz12 : n0 ≤ h12.size := Nat.le_trans zz11 (Keep.of_wr W12).1
  have zz13 : n0 ≤ h13.size := Nat.le_trans zz12 (Keep.of_wr W13).1
  have zz14 : n0 ≤ h14.size := Nat.le_trans zz13 (Keep.of_wr W14).1
  have zz15 : n0 ≤ h15.size := Nat.le_trans zz14 (Keep.of_wr W15).1
  have zz16 : n0 ≤ h16.size := Nat.le_trans zz15 (Keep.of_wr W16).1
  have zz17 : n0 ≤ h17.size := Nat.le_trans zz16 (Keep.of_wr W17).1
  have zz18 : n0 ≤ h18.size := Nat.le_trans zz17 (Keep.of_wr W18).1
  have zz19 : n0 ≤ h19.size := Nat.le_trans zz18 (Keep.of_wr W19).1
  have zz20 : n0 ≤ h20.size := Nat.le_trans zz19 (Keep.of_wr W20).1
  have zz21 : n0 ≤ h21.size := Nat.le_trans zz20 (Keep.of_wr W21).1
  have zz22 : n0 ≤ h22.size := Nat.le_trans zz21 (Keep.of_wr W22).1
  have zz23 : n0 ≤ h23.size := Nat.le_trans zz22 (Keep.of_wr W23).1
  have zz24 : n0 ≤ h24.size := Nat.le_trans zz23 (Keep.of_wr W24).1
  have zz25 : n0 ≤ h25.size := Nat.le_trans zz24 (Keep.of_wr W25).1
  have zz26 : n0 ≤ h26.size := Nat.le_trans zz25 (Keep.of_wr W26).1
  have zz27 : n0 ≤ h27.size := Nat.le_trans zz26 (Keep.of_wr W27).1
  have zz28 : n0 ≤ h28.size := Nat.le_trans zz27 (Keep.of_wr W28).1
  have zz29 : n0 ≤ h29.size := Nat.le_trans zz28 (Keep.of_wr W29).1
  have zz30 : n0 ≤ h30.size := Nat.le_trans zz29 (Keep.of_wr W30).1
  have zz31 : n0 ≤ h31.size := Nat.le_trans zz30 (Keep.of_wr W31).1
  obtain ⟨cl, Ar, -, Sz, Mz, Hz, Gz⟩ := V1_30
  have hin : ¬ ((p2 &&& (2147483647 : Int32)) % (30 : Int32) < 0 ∨ cl.slots.size ≤ ((p2 &&& (2147483647 : Int32)) % (30 : Int32)).toNatClampNeg) := inb_of Sz (own_mod p2)
  obtain ⟨nr, hat⟩ := own_get rfl Hz Gz (Nat.lt_of_not_le fun q => hin (Or.inr q))
  obtain ⟨_, _, ⟨T32, L32, k32, n32⟩, -, X32, ⟨Lc32, hQ32, l32, y32, z32⟩, st32⟩ := Jvm.LawKit.callS X31 hx (y := (⟨"com/example/uliza/uliza/model/XmlChars", "isNameStart", "(I)Z"⟩ : MethodName)) hown (mvT hZ (hw _ (List.mem_of_getElem? (i := 9) rfl))) (mvT hZ (hw _ (List.mem_of_getElem? (i := 10) rfl))) (mvT hZ (hw _ (List.mem_of_getElem? (i := 11) rfl))) (mvT hZ (hw _ (List.mem_of_getElem? (i := 12) rfl))) (by decide) (backOf (W := 0) (rm1 l Z a0 hw [] p1 h31 n0 zz31) hZ (hw _ (List.mem_of_getElem? (i := 12) rfl)) (hw _ (List.mem_of_getElem? (i := 11) rfl)) (by decide) (by decide)) (g := (mkF m 215 #[.val (.int p1), .val (.int p2), .val (.int p3), .val (.ref b1), .val (.int (nr + ((p3 &&& (7 : Int32)) - (4 : Int32)))), .unset, .unset] [(.int p1)])) rfl (by rw [hml]; rfl) (argsL := [(.int p1)]) (rest := []) (lenOf pd_1 rfl) rfl (by show 2 * 0 + _ ≤ _; exact Nat.le_of_eq rfl) (hb hby at_215) (fun _ _ => ⟨rfl, e31, (by decide : 1 + 0 ≤ _), (by decide : 30 + 0 ≤ _)⟩)
  dsimp only [Pt.U, Pt.locs, Pt.cells, Pt.slots] at X32 l32 y32 z32 st32 hQ32
  subst l32 y32 z32
  obtain ⟨rfl, N32q, h32⟩ := hQ32
  have N32 := Fr.app Nx31 N32q
  obtain ⟨Lx32, X32, Nx32⟩ : ∃ L, Stand p l e room_1 s m #[(.int p1), (.int p2), (.int p3)] below meth c T32 L 1 30 ∧ Fr n0 L := ⟨_, X32.more (by decide) (by decide), N32⟩
  have zz32 : n0 ≤ T32.heap.size := by rw [h32]; exact zz31
  obtain ⟨_, _, ⟨T33, L33, k33, n33⟩, -, X33, ⟨Lc33, hQ33, l33, y33, z33⟩, st33⟩ := Jvm.LawKit.callS X32 hx (y := (⟨"com/example/uliza/uliza/model/XmlCharsIsNameStartPinLaw", "ref", "(I)Z"⟩ : MethodName)) hown (mvT hZ (hw _ (List.mem_of_getElem? (i := 16) rfl))) (mvT hZ (hw _ (List.mem_of_getElem? (i := 17) rfl))) (mvT hZ (hw _ (List.mem_of_getElem? (i := 18) rfl))) (mvT hZ (hw _ (List.mem_of_getElem? (i := 19) rfl))) (by decide) (backOf (W := 1) (rm2 l Z a0 hw [] p1 T32.heap n0 zz32) hZ (hw _ (List.mem_of_getElem? (i := 19) rfl)) (hw _ (List.mem_of_getElem? (i := 18) rfl)) (by decide) (by decide)) (g := (mkF m 219 #[.val (.int p1), .val (.int p2), .val (.int p3), .val (.ref b1), .val (.int (nr + ((p3 &&& (7 : Int32)) - (4 : Int32)))), .unset, .unset] [(.int p1), (.int (own_in own_rs p1))])) rfl (by rw [hml]; rfl) (argsL := [(.int p1)]) (rest := [(.int (own_in own_rs p1))]) (lenOf pd_1 rfl) rfl (by show 2 * 0 + _ ≤ _; exact Nat.le_of_eq rfl) (hb hby at_219) (fun _ _ => ⟨rfl, rfl, (by decide : 1 + 0 ≤ _), (by decide : 30 + 0 ≤ _)⟩)
  dsimp only [Pt.U, Pt.locs, Pt.cells, Pt.slots] at X33 l33 y33 z33 st33 hQ33
  subst l33 y33 z33
  obtain ⟨rfl, N33q, h33⟩ := hQ33
  have N33 := Fr.app Nx32 N33q
  obtain ⟨Lx33, X33, Nx33⟩ : ∃ L, Stand p l e room_1 s m #[(.int p1), (.int p2), (.int p3)] below meth c T33 L 1 30 ∧ Fr n0 L := ⟨_, X33.more (by decide) (by decide), N33⟩
  have zz33 : n0 ≤ T33.heap.size := by rw [h33]; exact zz32
  obtain ⟨_, _, ⟨T34, L34, k34, n34⟩, -, X34, ⟨Lc34, hQ34, l34, y34, z34⟩, st34⟩ := Jvm.LawKit.callS X33 hx (y := (⟨"com/example/uliza/uliza/model/XmlChars", "isNameStart", "(I)Z"⟩ : MethodName)) hown (mvT hZ (hw _ (List.mem_of_getElem? (i := 9) rfl))) (mvT hZ (hw _ (List.mem_of_getElem? (i := 10) rfl))) (mvT hZ (hw _ (List.mem_of_getElem? (i := 11) rfl))) (mvT hZ (hw _ (List.mem_of_getElem? (i := 12) rfl))) (by decide) (backOf (W := 0) (rm1 l Z a0 hw [] (nr + ((p3 &&& (7 : Int32)) - (4 : Int32))) T33.heap n0 zz33) hZ (hw _ (List.mem_of_getElem? (i := 12) rfl)) (hw _ (List.mem_of_getElem? (i := 11) rfl)) (by decide) (by decide)) (g := (mkF m 234 #[.val (.int p1), .val (.int p2), .val (.int p3), .val (.ref b1), .val (.int (nr + ((p3 &&& (7 : Int32)) - (4 : Int32)))), .val (.int (1 : Int32)), .unset] [(.int (nr + ((p3 &&& (7 : Int32)) - (4 : Int32))))])) rfl (by rw [hml]; rfl) (argsL := [(.int (nr + ((p3 &&& (7 : Int32)) - (4 : Int32))))]) (rest := []) (lenOf pd_1 rfl) rfl (by show 2 * 0 + _ ≤ _; exact Nat.le_of_eq rfl) (hb hby at_234) (fun _ _ => ⟨rfl, rfl, (by decide : 1 + 0 ≤ _), (by decide : 30 + 0 ≤ _)⟩)
  dsimp only [Pt.U, Pt.locs, Pt.cells, Pt.slots] at X34 l34 y34 z34 st34 hQ34
  subst l34 y34 z34
  obtain ⟨rfl, N34q, h34⟩ := hQ34
  have N34 := Fr.app Nx33 N34q
  obtain ⟨Lx34, X34, Nx34⟩ : ∃ L, Stand p l e room_1 s m #[(.int p1), (.int p2), (.int p3)] below meth c T34 L 1 30 ∧ Fr n0 L := ⟨_, X34.more (by decide) (by decide), N34⟩
  have zz34 : n0 ≤ T34.heap.size := by rw [h34]; exact zz33
  obtain ⟨_, _, ⟨T35, L35, k35, n35⟩, -, X35, ⟨Lc35, hQ35, l35, y35, z35⟩, st35⟩ := Jvm.LawKit.callS X34 hx (y := (⟨"com/example/uliza/uliza/model/XmlCharsIsNameStartPinLaw", "ref", "(I)Z"⟩ : MethodName)) hown (mvT hZ (hw _ (List.mem_of_getElem? (i := 16) rfl))) (mvT hZ (hw _ (List.mem_of_getElem? (i := 17) rfl))) (mvT hZ (hw _ (List.mem_of_getElem? (i := 18) rfl))) (mvT hZ (hw _ (List.mem_of_getElem? (i := 19) rfl))) (by decide) (backOf (W := 1) (rm2 l Z a0 hw [] (nr + ((p3 &&& (7 : Int32)) - (4 : Int32))) T34.heap n0 zz34) hZ (hw _ (List.mem_of_getElem? (i := 19) rfl)) (hw _ (List.mem_of_getElem? (i := 18) rfl)) (by decide) (by decide)) (g := (mkF m 239 #[.val (.int p1), .val (.int p2), .val (.int p3), .val (.ref b1), .val (.int (nr + ((p3 &&& (7 : Int32)) - (4 : Int32)))), .val (.int (1 : Int32)), .unset] [(.int (nr + ((p3 &&& (7 : Int32)) - (4 : Int32)))), (.int (own_in own_rs (nr + ((p3 &&& (7 : Int32)) - (4 : Int32)))))])) rfl (by rw [hml]; rfl) (argsL := [(.int (nr + ((p3 &&& (7 : Int32)) - (4 : Int32))))]) (rest := [(.int (own_in own_rs (nr + ((p3 &&& (7 : Int32)) - (4 : Int32)))))]) (lenOf pd_1 rfl) rfl (by show 2 * 0 + _ ≤ _; exact Nat.le_of_eq rfl) (hb hby at_239) (fun _ _ => ⟨rfl, rfl, (by decide : 1 + 0 ≤ _), (by decide : 30 + 0 ≤ _)⟩)
  dsimp only [Pt.U, Pt.locs, Pt.cells, Pt.slots] at X35 l35 y35 z35 st35 hQ35
  subst l35 y35 z35
  obtain ⟨rfl, N35q, h35⟩ := hQ35
  have N35 := Fr.app Nx34 N35q
  obtain ⟨Lx35, X35, Nx35⟩ : ∃ L, Stand p l e room_1 s m #[(.int p1), (.int p2), (.int p3)] below meth c T35 L 1 30 ∧ Fr n0 L := ⟨_, X35.more (by decide) (by decide), N35⟩
  have zz35 : n0 ≤ T35.heap.size := by rw [h35]; exact zz34
  have pre36 : ∀ tt, Steps p.tables e below (T35.setTop (mkF m 267 #[.val (.int p1), .val (.int p2), .val (.int p3), .val (.ref b1), .val (.int (nr + ((p3 &&& (7 : Int32)) - (4 : Int32)))), .val (.int (1 : Int32)), .val (.int (1 : Int32))] [(.int (1 : Int32))])) tt → Steps p.tables e below (s₁.setTop (entryFrame m #[(.int p1), (.int p2), (.int p3)] maxLocals)) tt := by
    intro tt kt
    refine pre0 tt ?_
    show Steps p.tables e below (s₁.setTop (mkF m 0 #[.val (.int p1), .val (.int p2), .val (.int p3), .unset, .unset, .unset, .unset] [])) _
    refine XS.bipush X0.here hx rfl (hb hby at_0) ?_
    show Steps p.tables e below (s₁.setTop (mkF m 2 #[.val (.int p1), .val (.int p2), .val (.int p3), .unset, .unset, .unset, .unset] [(.int (30 : Int32))])) _
    refine st1 _ ?_
    show Steps p.tables e below (T1.setTop (mkF m 4 #[.val (.int p1), .val (.int p2), .val (.int p3), .unset, .unset, .unset, .unset] [(.ref b1)])) _
    refine XS.dup X1.here hx rfl (hb hby at_4) rfl rfl ?_
    show Steps p.tables e below (T1.setTop (mkF m 5 #[.val (.int p1), .val (.int p2), .val (.int p3), .unset, .unset, .unset, .unset] [(.ref b1), (.ref b1)])) _
    refine XS.iconst X1.here hx rfl (hb hby at_5) ?_
    show Steps p.tables e below (T1.setTop (mkF m 6 #[.val (.int p1), .val (.int p2), .val (.int p3), .unset, .unset, .unset, .unset] [(.int (0 : Int32)), (.ref b1), (.ref b1)])) _
    refine XS.bipush X1.here hx rfl (hb hby at_6) ?_
    show Steps p.tables e below (T1.setTop (mkF m 8 #[.val (.int p1), .val (.int p2), .val (.int p3), .unset, .unset, .unset, .unset] [(.int (65 : Int32)), (.int (0 : Int32)), (.ref b1), (.ref b1)])) _
    refine st2 _ ?_
    show Steps p.tables e below (T2.setTop (mkF m 9 #[.val (.int p1), .val (.int p2), .val (.int p3), .unset, .unset, .unset, .unset] [(.ref b1)])) _
    refine XS.dup X2.here hx rfl (hb hby at_9) rfl rfl ?_
    show Steps p.tables e below (T2.setTop (mkF m 10 #[.val (.int p1), .val (.int p2), .val (.int p3), .unset, .unset, .unset, .unset] [(.ref b1), (.ref b1)])) _
    refine XS.iconst X2.here hx rfl (hb hby at_10) ?_
    show Steps p.tables e below (T2.setTop (mkF m 11 #[.val (.int p1), .val (.int p2), .val (.int p3), .unset, .unset, .unset, .unset] [(.int (1 : Int32)), (.ref b1), (.ref b1)])) _
    refine XS.bipush X2.here hx rfl (hb hby at_11) ?_
    show Steps p.tables e below (T2.setTop (mkF m 13 #[.val (.int p1), .val (.int p2), .val (.int p3), .unset, .unset, .unset, .unset] [(.int (91 : Int32)), (.int (1 : Int32)), (.ref b1), (.ref b1)])) _
    refine st3 _ ?_
    show Steps p.tables e below (T3.setTop (mkF m 14 #[.val (.int p1), .val (.int p2), .val (.int p3), .unset, .unset, .unset, .unset] [(.ref b1)])) _
    refine XS.dup X3.here hx rfl (hb hby at_14) rfl rfl ?_
    show Steps p.tables e below (T3.setTop (mkF m 15 #[.val (.int p1), .val (.int p2), .val (.int p3), .unset, .unset, .unset, .unset] [(.ref b1), (.ref b1)])) _
    refine XS.iconst X3.here hx rfl (hb hby at_15) ?_
    show Steps p.tables e below (T3.setTop (mkF m 16 #[.val (.int p1), .val (.int p2), .val (.int p3), .unset, .unset, .unset, .unset] [(.int (2 : Int32)), (.ref b1), (.ref b1)])) _
    refine XS.bipush X3.here hx rfl (hb hby at_16) ?_
    show Steps p.tables e below (T3.setTop (mkF m 18 #[.val (.int p1), .val (.int p2), .val (.int p3), .unset, .unset, .unset, .unset] [(.int (95 : Int32)), (.int (2 : Int32)), (.ref b1), (.ref b1)])) _
    refine st4 _ ?_
    show Steps p.tables e below (T4.setTop (mkF m 19 #[.val (.int p1), .val (.int p2), .val (.int p3), .unset, .unset, .unset, .unset] [(.ref b1)])) _
    refine XS.dup X4.here hx rfl (hb hby at_19) rfl rfl ?_
    show Steps p.tables e below (T4.setTop (mkF m 20 #[.val (.int p1), .val (.int p2), .val (.int p3), .unset, .unset, .unset, .unset] [(.ref b1), (.ref b1)])) _
    refine XS.iconst X4.here hx rfl (hb hby at_20) ?_
    show Steps p.tables e below (T4.setTop (mkF m 21 #[.val (.int p1), .val (.int p2), .val (.int p3), .unset, .unset, .unset, .unset] [(.int (3 : Int32)), (.ref b1), (.ref b1)])) _
    refine XS.bipush X4.here hx rfl (hb hby at_21) ?_
    show Steps p.tables e below (T4.setTop (mkF m 23 #[.val (.int p1), .val (.int p2), .val (.int p3), .unset, .unset, .unset, .unset] [(.int (96 : Int32)), (.int (3 : Int32)), (.ref b1), (.ref b1)])) _
    refine st5 _ ?_
    show Steps p.tables e below (T5.setTop (mkF m 24 #[.val (.int p1), .val (.int p2), .val (.int p3), .unset, .unset, .unset, .unset] [(.ref b1)])) _
    refine XS.dup X5.here hx rfl (hb hby at_24) rfl rfl ?_
    show Steps p.tables e below (T5.setTop (mkF m 25 #[.val (.int p1), .val (.int p2), .val (.int p3), .unset, .unset, .unset, .unset] [(.ref b1), (.ref b1)])) _
    refine XS.iconst X5.here hx rfl (hb hby at_25) ?_
    show Steps p.tables e below (T5.setTop (mkF m 26 #[.val (.int p1), .val (.int p2), .val (.int p3), .unset, .unset, .unset, .unset] [(.int (4 : Int32)), (.ref b1), (.ref b1)])) _
    refine XS.bipush X5.here hx rfl (hb hby at_26) ?_
    show Steps p.tables e below (T5.setTop (mkF m 28 #[.val (.int p1), .val (.int p2), .val (.int p3), .unset, .unset, .unset, .unset] [(.int (97 : Int32)), (.int (4 : Int32)), (.ref b1), (.ref b1)])) _
    refine st6 _ ?_
    show Steps p.tables e below (T6.setTop (mkF m 29 #[.val (.int p1), .val (.int p2), .val (.int p3), .unset, .unset, .unset, .unset] [(.ref b1)])) _
    refine XS.dup X6.here hx rfl (hb hby at_29) rfl rfl ?_
    show Steps p.tables e below (T6.setTop (mkF m 30 #[.val (.int p1), .val (.int p2), .val (.int p3), .unset, .unset, .unset, .unset] [(.ref b1), (.ref b1)])) _
    refine XS.iconst X6.here hx rfl (hb hby at_30) ?_
    show Steps p.tables e below (T6.setTop (mkF m 31 #[.val (.int p1), .val (.int p2), .val (.int p3), .unset, .unset, .unset, .unset] [(.int (5 : Int32)), (.ref b1), (.ref b1)])) _
    refine XS.bipush X6.here hx rfl (hb hby at_31) ?_
    show Steps p.tables e below (T6.setTop (mkF m 33 #[.val (.int p1), .val (.int p2), .val (.int p3), .unset, .unset, .unset, .unset] [(.int (123 : Int32)), (.int (5 : Int32)), (.ref b1), (.ref b1)])) _
    refine st7 _ ?_
    show Steps p.tables e below (T7.setTop (mkF m 34 #[.val (.int p1), .val (.int p2), .val (.int p3), .unset, .unset, .unset, .unset] [(.ref b1)])) _
    refine XS.dup X7.here hx rfl (hb hby at_34) rfl rfl ?_
    show Steps p.tables e below (T7.setTop (mkF m 35 #[.val (.int p1), .val (.int p2), .val (.int p3), .unset, .unset, .unset, .unset] [(.ref b1), (.ref b1)])) _
    refine XS.bipush X7.here hx rfl (hb hby at_35) ?_
    show Steps p.tables e below (T7.setTop (mkF m 37 #[.val (.int p1), .val (.int p2), .val (.int p3), .unset, .unset, .unset, .unset] [(.int (6 : Int32)), (.ref b1), (.ref b1)])) _
    refine XS.sipush X7.here hx rfl (hb hby at_37) ?_
    show Steps p.tables e below (T7.setTop (mkF m 40 #[.val (.int p1), .val (.int p2), .val (.int p3), .unset, .unset, .unset, .unset] [(.int (192 : Int32)), (.int (6 : Int32)), (.ref b1), (.ref b1)])) _
    refine st8 _ ?_
    show Steps p.tables e below (T8.setTop (mkF m 41 #[.val (.int p1), .val (.int p2), .val (.int p3), .unset, .unset, .unset, .unset] [(.ref b1)])) _
    refine XS.dup X8.here hx rfl (hb hby at_41) rfl rfl ?_
    show Steps p.tables e below (T8.setTop (mkF m 42 #[.val (.int p1), .val (.int p2), .val (.int p3), .unset, .unset, .unset, .unset] [(.ref b1), (.ref b1)])) _
    refine XS.bipush X8.here hx rfl (hb hby at_42) ?_
    show Steps p.tables e below (T8.setTop (mkF m 44 #[.val (.int p1), .val (.int p2), .val (.int p3), .unset, .unset, .unset, .unset] [(.int (7 : Int32)), (.ref b1), (.ref b1)])) _
    refine XS.sipush X8.here hx rfl (hb hby at_44) ?_
    show Steps p.tables e below (T8.setTop (mkF m 47 #[.val (.int p1), .val (.int p2), .val (.int p3), .unset, .unset, .unset, .unset] [(.int (215 : Int32)), (.int (7 : Int32)), (.ref b1), (.ref b1)])) _
    refine st9 _ ?_
    show Steps p.tables e below (T9.setTop (mkF m 48 #[.val (.int p1), .val (.int p2), .val (.int p3), .unset, .unset, .unset, .unset] [(.ref b1)])) _
    refine XS.dup X9.here hx rfl (hb hby at_48) rfl rfl ?_
    show Steps p.tables e below (T9.setTop (mkF m 49 #[.val (.int p1), .val (.int p2), .val (.int p3), .unset, .unset, .unset, .unset] [(.ref b1), (.ref b1)])) _
    refine XS.bipush X9.here hx rfl (hb hby at_49) ?_
    show Steps p.tables e below (T9.setTop (mkF m 51 #[.val (.int p1), .val (.int p2), .val (.int p3), .unset, .unset, .unset, .unset] [(.int (8 : Int32)), (.ref b1), (.ref b1)])) _
    refine XS.sipush X9.here hx rfl (hb hby at_51) ?_
    show Steps p.tables e below (T9.setTop (mkF m 54 #[.val (.int p1), .val (.int p2), .val (.int p3), .unset, .unset, .unset, .unset] [(.int (216 : Int32)), (.int (8 : Int32)), (.ref b1), (.ref b1)])) _
    refine st10 _ ?_
    show Steps p.tables e below (T10.setTop (mkF m 55 #[.val (.int p1), .val (.int p2), .val (.int p3), .unset, .unset, .unset, .unset] [(.ref b1)])) _
    refine XS.dup X10.here hx rfl (hb hby at_55) rfl rfl ?_
    show Steps p.tables e below (T10.setTop (mkF m 56 #[.val (.int p1), .val (.int p2), .val (.int p3), .unset, .unset, .unset, .unset] [(.ref b1), (.ref b1)])) _
    refine XS.bipush X10.here hx rfl (hb hby at_56) ?_
    show Steps p.tables e below (T10.setTop (mkF m 58 #[.val (.int p1), .val (.int p2), .val (.int p3), .unset, .unset, .unset, .unset] [(.int (9 : Int32)), (.ref b1), (.ref b1)])) _
    refine XS.sipush X10.here hx rfl (hb hby at_58) ?_
    show Steps p.tables e below (T10.setTop (mkF m 61 #[.val (.int p1), .val (.int p2), .val (.int p3), .unset, .unset, .unset, .unset] [(.int (247 : Int32)), (.int (9 : Int32)), (.ref b1), (.ref b1)])) _
    refine st11 _ ?_
    show Steps p.tables e below (T11.setTop (mkF m 62 #[.val (.int p1), .val (.int p2), .val (.int p3), .unset, .unset, .unset, .unset] [(.ref b1)])) _
    refine XS.dup X11.here hx rfl (hb hby at_62) rfl rfl ?_
    show Steps p.tables e below (T11.setTop (mkF m 63 #[.val (.int p1), .val (.int p2), .val (.int p3), .unset, .unset, .unset, .unset] [(.ref b1), (.ref b1)])) _
    refine XS.bipush X11.here hx rfl (hb hby at_63) ?_
    show Steps p.tables e below (T11.setTop (mkF m 65 #[.val (.int p1), .val (.int p2), .val (.int p3), .unset, .unset, .unset, .unset] [(.int (10 : Int32)), (.ref b1), (.ref b1)])) _
    refine XS.sipush X11.here hx rfl (hb hby at_65) ?_
    show Steps p.tables e below (T11.setTop (mkF m 68 #[.val (.int p1), .val (.int p2), .val (.int p3), .unset, .unset, .unset, .unset] [(.int (248 : Int32)), (.int (10 : Int32)), (.ref b1), (.ref b1)])) _
    refine st12 _ ?_
    show Steps p.tables e below (T12.setTop (mkF m 69 #[.val (.int p1), .val (.int p2), .val (.int p3), .unset, .unset, .unset, .unset] [(.ref b1)])) _
    refine XS.dup X12.here hx rfl (hb hby at_69) rfl rfl ?_
    show Steps p.tables e below (T12.setTop (mkF m 70 #[.val (.int p1), .val (.int p2), .val (.int p3), .unset, .unset, .unset, .unset] [(.ref b1), (.ref b1)])) _
    refine XS.bipush X12.here hx rfl (hb hby at_70) ?_
    show Steps p.tables e below (T12.setTop (mkF m 72 #[.val (.int p1), .val (.int p2), .val (.int p3), .unset, .unset, .unset, .unset] [(.int (11 : Int32)), (.ref b1), (.ref b1)])) _
    refine XS.sipush X12.here hx rfl (hb hby at_72) ?_
    show Steps p.tables e below (T12.setTop (mkF m 75 #[.val (.int p1), .val (.int p2), .val (.int p3), .unset, .unset, .unset, .unset] [(.int (768 : Int32)), (.int (11 : Int32)), (.ref b1), (.ref b1)])) _
    refine st13 _ ?_
    show Steps p.tables e below (T13.setTop (mkF m 76 #[.val (.int p1), .val (.int p2), .val (.int p3), .unset, .unset, .unset, .unset] [(.ref b1)])) _
    refine XS.dup X13.here hx rfl (hb hby at_76) rfl rfl ?_
    show Steps p.tables e below (T13.setTop (mkF m 77 #[.val (.int p1), .val (.int p2), .val (.int p3), .unset, .unset, .unset, .unset] [(.ref b1), (.ref b1)])) _
    refine XS.bipush X13.here hx rfl (hb hby at_77) ?_
    show Steps p.tables e below (T13.setTop (mkF m 79 #[.val (.int p1), .val (.int p2), .val (.int p3), .unset, .unset, .unset, .unset] [(.int (12 : Int32)), (.ref b1), (.ref b1)])) _
    refine XS.sipush X13.here hx rfl (hb hby at_79) ?_
    show Steps p.tables e below (T13.setTop (mkF m 82 #[.val (.int p1), .val (.int p2), .val (.int p3), .unset, .unset, .unset, .unset] [(.int (880 : Int32)), (.int (12 : Int32)), (.ref b1), (.ref b1)])) _
    refine st14 _ ?_
    show Steps p.tables e below (T14.setTop (mkF m 83 #[.val (.int p1), .val (.int p2), .val (.int p3), .unset, .unset, .unset, .unset] [(.ref b1)])) _
    refine XS.dup X14.here hx rfl (hb hby at_83) rfl rfl ?_
    show Steps p.tables e below (T14.setTop (mkF m 84 #[.val (.int p1), .val (.int p2), .val (.int p3), .unset, .unset, .unset, .unset] [(.ref b1), (.ref b1)])) _
    refine XS.bipush X14.here hx rfl (hb hby at_84) ?_
    show Steps p.tables e below (T14.setTop (mkF m 86 #[.val (.int p1), .val (.int p2), .val (.int p3), .unset, .unset, .unset, .unset] [(.int (13 : Int32)), (.ref b1), (.ref b1)])) _
    refine XS.sipush X14.here hx rfl (hb hby at_86) ?_
    show Steps p.tables e below (T14.setTop (mkF m 89 #[.val (.int p1), .val (.int p2), .val (.int p3), .unset, .unset, .unset, .unset] [(.int (894 : Int32)), (.int (13 : Int32)), (.ref b1), (.ref b1)])) _
    refine st15 _ ?_
    show Steps p.tables e below (T15.setTop (mkF m 90 #[.val (.int p1), .val (.int p2), .val (.int p3), .unset, .unset, .unset, .unset] [(.ref b1)])) _
    refine XS.dup X15.here hx rfl (hb hby at_90) rfl rfl ?_
    show Steps p.tables e below (T15.setTop (mkF m 91 #[.val (.int p1), .val (.int p2), .val (.int p3), .unset, .unset, .unset, .unset] [(.ref b1), (.ref b1)])) _
    refine XS.bipush X15.here hx rfl (hb hby at_91) ?_
    show Steps p.tables e below (T15.setTop (mkF m 93 #[.val (.int p1), .val (.int p2), .val (.int p3), .unset, .unset, .unset, .unset] [(.int (14 : Int32)), (.ref b1), (.ref b1)])) _
    refine XS.sipush X15.here hx rfl (hb hby at_93) ?_
    show Steps p.tables e below (T15.setTop (mkF m 96 #[.val (.int p1), .val (.int p2), .val (.int p3), .unset, .unset, .unset, .unset] [(.int (895 : Int32)), (.int (14 : Int32)), (.ref b1), (.ref b1)])) _
    refine st16 _ ?_
    show Steps p.tables e below (T16.setTop (mkF m 97 #[.val (.int p1), .val (.int p2), .val (.int p3), .unset, .unset, .unset, .unset] [(.ref b1)])) _
    refine XS.dup X16.here hx rfl (hb hby at_97) rfl rfl ?_
    show Steps p.tables e below (T16.setTop (mkF m 98 #[.val (.int p1), .val (.int p2), .val (.int p3), .unset, .unset, .unset, .unset] [(.ref b1), (.ref b1)])) _
    refine XS.bipush X16.here hx rfl (hb hby at_98) ?_
    show Steps p.tables e below (T16.setTop (mkF m 100 #[.val (.int p1), .val (.int p2), .val (.int p3), .unset, .unset, .unset, .unset] [(.int (15 : Int32)), (.ref b1), (.ref b1)])) _
    refine XS.sipush X16.here hx rfl (hb hby at_100) ?_
    show Steps p.tables e below (T16.setTop (mkF m 103 #[.val (.int p1), .val (.int p2), .val (.int p3), .unset, .unset, .unset, .unset] [(.int (8192 : Int32)), (.int (15 : Int32)), (.ref b1), (.ref b1)])) _
    refine st17 _ ?_
    show Steps p.tables e below (T17.setTop (mkF m 104 #[.val (.int p1), .val (.int p2), .val (.int p3), .unset, .unset, .unset, .unset] [(.ref b1)])) _
    refine XS.dup X17.here hx rfl (hb hby at_104) rfl rfl ?_
    show Steps p.tables e below (T17.setTop (mkF m 105 #[.val (.int p1), .val (.int p2), .val (.int p3), .unset, .unset, .unset, .unset] [(.ref b1), (.ref b1)])) _
    refine XS.bipush X17.here hx rfl (hb hby at_105) ?_
    show Steps p.tables e below (T17.setTop (mkF m 107 #[.val (.int p1), .val (.int p2), .val (.int p3), .unset, .unset, .unset, .unset] [(.int (16 : Int32)), (.ref b1), (.ref b1)])) _
    refine XS.sipush X17.here hx rfl (hb hby at_107) ?_
    show Steps p.tables e below (T17.setTop (mkF m 110 #[.val (.int p1), .val (.int p2), .val (.int p3), .unset, .unset, .unset, .unset] [(.int (8204 : Int32)), (.int (16 : Int32)), (.ref b1), (.ref b1)])) _
    refine st18 _ ?_
    show Steps p.tables e below (T18.setTop (mkF m 111 #[.val (.int p1), .val (.int p2), .val (.int p3), .unset, .unset, .unset, .unset] [(.ref b1)])) _
    refine XS.dup X18.here hx rfl (hb hby at_111) rfl rfl ?_
    show Steps p.tables e below (T18.setTop (mkF m 112 #[.val (.int p1), .val (.int p2), .val (.int p3), .unset, .unset, .unset, .unset] [(.ref b1), (.ref b1)])) _
    refine XS.bipush X18.here hx rfl (hb hby at_112) ?_
    show Steps p.tables e below (T18.setTop (mkF m 114 #[.val (.int p1), .val (.int p2), .val (.int p3), .unset, .unset, .unset, .unset] [(.int (17 : Int32)), (.ref b1), (.ref b1)])) _
    refine XS.sipush X18.here hx rfl (hb hby at_114) ?_
    show Steps p.tables e below (T18.setTop (mkF m 117 #[.val (.int p1), .val (.int p2), .val (.int p3), .unset, .unset, .unset, .unset] [(.int (8206 : Int32)), (.int (17 : Int32)), (.ref b1), (.ref b1)])) _
    refine st19 _ ?_
    show Steps p.tables e below (T19.setTop (mkF m 118 #[.val (.int p1), .val (.int p2), .val (.int p3), .unset, .unset, .unset, .unset] [(.ref b1)])) _
    refine XS.dup X19.here hx rfl (hb hby at_118) rfl rfl ?_
    show Steps p.tables e below (T19.setTop (mkF m 119 #[.val (.int p1), .val (.int p2), .val (.int p3), .unset, .unset, .unset, .unset] [(.ref b1), (.ref b1)])) _
    refine XS.bipush X19.here hx rfl (hb hby at_119) ?_
    show Steps p.tables e below (T19.setTop (mkF m 121 #[.val (.int p1), .val (.int p2), .val (.int p3), .unset, .unset, .unset, .unset] [(.int (18 : Int32)), (.ref b1), (.ref b1)])) _
    refine XS.sipush X19.here hx rfl (hb hby at_121) ?_
    show Steps p.tables e below (T19.setTop (mkF m 124 #[.val (.int p1), .val (.int p2), .val (.int p3), .unset, .unset, .unset, .unset] [(.int (8304 : Int32)), (.int (18 : Int32)), (.ref b1), (.ref b1)])) _
    refine st20 _ ?_
    show Steps p.tables e below (T20.setTop (mkF m 125 #[.val (.int p1), .val (.int p2), .val (.int p3), .unset, .unset, .unset, .unset] [(.ref b1)])) _
    refine XS.dup X20.here hx rfl (hb hby at_125) rfl rfl ?_
    show Steps p.tables e below (T20.setTop (mkF m 126 #[.val (.int p1), .val (.int p2), .val (.int p3), .unset, .unset, .unset, .unset] [(.ref b1), (.ref b1)])) _
    refine XS.bipush X20.here hx rfl (hb hby at_126) ?_
    show Steps p.tables e below (T20.setTop (mkF m 128 #[.val (.int p1), .val (.int p2), .val (.int p3), .unset, .unset, .unset, .unset] [(.int (19 : Int32)), (.ref b1), (.ref b1)])) _
    refine XS.sipush X20.here hx rfl (hb hby at_128) ?_
    show Steps p.tables e below (T20.setTop (mkF m 131 #[.val (.int p1), .val (.int p2), .val (.int p3), .unset, .unset, .unset, .unset] [(.int (8592 : Int32)), (.int (19 : Int32)), (.ref b1), (.ref b1)])) _
    refine st21 _ ?_
    show Steps p.tables e below (T21.setTop (mkF m 132 #[.val (.int p1), .val (.int p2), .val (.int p3), .unset, .unset, .unset, .unset] [(.ref b1)])) _
    refine XS.dup X21.here hx rfl (hb hby at_132) rfl rfl ?_
    show Steps p.tables e below (T21.setTop (mkF m 133 #[.val (.int p1), .val (.int p2), .val (.int p3), .unset, .unset, .unset, .unset] [(.ref b1), (.ref b1)])) _
    refine XS.bipush X21.here hx rfl (hb hby at_133) ?_
    show Steps p.tables e below (T21.setTop (mkF m 135 #[.val (.int p1), .val (.int p2), .val (.int p3), .unset, .unset, .unset, .unset] [(.int (20 : Int32)), (.ref b1), (.ref b1)])) _
    refine XS.sipush X21.here hx rfl (hb hby at_135) ?_
    show Steps p.tables e below (T21.setTop (mkF m 138 #[.val (.int p1), .val (.int p2), .val (.int p3), .unset, .unset, .unset, .unset] [(.int (11264 : Int32)), (.int (20 : Int32)), (.ref b1), (.ref b1)])) _
    refine st22 _ ?_
    show Steps p.tables e below (T22.setTop (mkF m 139 #[.val (.int p1), .val (.int p2), .val (.int p3), .unset, .unset, .unset, .unset] [(.ref b1)])) _
    refine XS.dup X22.here hx rfl (hb hby at_139) rfl rfl ?_
    show Steps p.tables e below (T22.setTop (mkF m 140 #[.val (.int p1), .val (.int p2), .val (.int p3), .unset, .unset, .unset, .unset] [(.ref b1), (.ref b1)])) _
    refine XS.bipush X22.here hx rfl (hb hby at_140) ?_
    show Steps p.tables e below (T22.setTop (mkF m 142 #[.val (.int p1), .val (.int p2), .val (.int p3), .unset, .unset, .unset, .unset] [(.int (21 : Int32)), (.ref b1), (.ref b1)])) _
    refine XS.sipush X22.here hx rfl (hb hby at_142) ?_
    show Steps p.tables e below (T22.setTop (mkF m 145 #[.val (.int p1), .val (.int p2), .val (.int p3), .unset, .unset, .unset, .unset] [(.int (12272 : Int32)), (.int (21 : Int32)), (.ref b1), (.ref b1)])) _
    refine st23 _ ?_
    show Steps p.tables e below (T23.setTop (mkF m 146 #[.val (.int p1), .val (.int p2), .val (.int p3), .unset, .unset, .unset, .unset] [(.ref b1)])) _
    refine XS.dup X23.here hx rfl (hb hby at_146) rfl rfl ?_
    show Steps p.tables e below (T23.setTop (mkF m 147 #[.val (.int p1), .val (.int p2), .val (.int p3), .unset, .unset, .unset, .unset] [(.ref b1), (.ref b1)])) _
    refine XS.bipush X23.here hx rfl (hb hby at_147) ?_
    show Steps p.tables e below (T23.setTop (mkF m 149 #[.val (.int p1), .val (.int p2), .val (.int p3), .unset, .unset, .unset, .unset] [(.int (22 : Int32)), (.ref b1), (.ref b1)])) _
    refine XS.sipush X23.here hx rfl (hb hby at_149) ?_
    show Steps p.tables e below (T23.setTop (mkF m 152 #[.val (.int p1), .val (.int p2), .val (.int p3), .unset, .unset, .unset, .unset] [(.int (12289 : Int32)), (.int (22 : Int32)), (.ref b1), (.ref b1)])) _
    refine st24 _ ?_
    show Steps p.tables e below (T24.setTop (mkF m 153 #[.val (.int p1), .val (.int p2), .val (.int p3), .unset, .unset, .unset, .unset] [(.ref b1)])) _
    refine XS.dup X24.here hx rfl (hb hby at_153) rfl rfl ?_
    show Steps p.tables e below (T24.setTop (mkF m 154 #[.val (.int p1), .val (.int p2), .val (.int p3), .unset, .unset, .unset, .unset] [(.ref b1), (.ref b1)])) _
    refine XS.bipush X24.here hx rfl (hb hby at_154) ?_
    show Steps p.tables e below (T24.setTop (mkF m 156 #[.val (.int p1), .val (.int p2), .val (.int p3), .unset, .unset, .unset, .unset] [(.int (23 : Int32)), (.ref b1), (.ref b1)])) _
    refine X24.ldcInt hx hown (mvT hZ (hw _ (List.mem_of_getElem? (i := 1) rfl))) (g := (mkF m 156 #[.val (.int p1), .val (.int p2), .val (.int p3), .unset, .unset, .unset, .unset] [(.int (23 : Int32)), (.ref b1), (.ref b1)])) rfl (hb hby at_156) _ ?_
    show Steps p.tables e below (T24.setTop (mkF m 158 #[.val (.int p1), .val (.int p2), .val (.int p3), .unset, .unset, .unset, .unset] [(.int (55296 : Int32)), (.int (23 : Int32)), (.ref b1), (.ref b1)])) _
    refine st25 _ ?_
    show Steps p.tables e below (T25.setTop (mkF m 159 #[.val (.int p1), .val (.int p2), .val (.int p3), .unset, .unset, .unset, .unset] [(.ref b1)])) _
    refine XS.dup X25.here hx rfl (hb hby at_159) rfl rfl ?_
    show Steps p.tables e below (T25.setTop (mkF m 160 #[.val (.int p1), .val (.int p2), .val (.int p3), .unset, .unset, .unset, .unset] [(.ref b1), (.ref b1)])) _
    refine XS.bipush X25.here hx rfl (hb hby at_160) ?_
    show Steps p.tables e below (T25.setTop (mkF m 162 #[.val (.int p1), .val (.int p2), .val (.int p3), .unset, .unset, .unset, .unset] [(.int (24 : Int32)), (.ref b1), (.ref b1)])) _
    refine X25.ldcInt hx hown (mvT hZ (hw _ (List.mem_of_getElem? (i := 2) rfl))) (g := (mkF m 162 #[.val (.int p1), .val (.int p2), .val (.int p3), .unset, .unset, .unset, .unset] [(.int (24 : Int32)), (.ref b1), (.ref b1)])) rfl (hb hby at_162) _ ?_
    show Steps p.tables e below (T25.setTop (mkF m 164 #[.val (.int p1), .val (.int p2), .val (.int p3), .unset, .unset, .unset, .unset] [(.int (63744 : Int32)), (.int (24 : Int32)), (.ref b1), (.ref b1)])) _
    refine st26 _ ?_
    show Steps p.tables e below (T26.setTop (mkF m 165 #[.val (.int p1), .val (.int p2), .val (.int p3), .unset, .unset, .unset, .unset] [(.ref b1)])) _
    refine XS.dup X26.here hx rfl (hb hby at_165) rfl rfl ?_
    show Steps p.tables e below (T26.setTop (mkF m 166 #[.val (.int p1), .val (.int p2), .val (.int p3), .unset, .unset, .unset, .unset] [(.ref b1), (.ref b1)])) _
    refine XS.bipush X26.here hx rfl (hb hby at_166) ?_
    show Steps p.tables e below (T26.setTop (mkF m 168 #[.val (.int p1), .val (.int p2), .val (.int p3), .unset, .unset, .unset, .unset] [(.int (25 : Int32)), (.ref b1), (.ref b1)])) _
    refine X26.ldcInt hx hown (mvT hZ (hw _ (List.mem_of_getElem? (i := 3) rfl))) (g := (mkF m 168 #[.val (.int p1), .val (.int p2), .val (.int p3), .unset, .unset, .unset, .unset] [(.int (25 : Int32)), (.ref b1), (.ref b1)])) rfl (hb hby at_168) _ ?_
    show Steps p.tables e below (T26.setTop (mkF m 170 #[.val (.int p1), .val (.int p2), .val (.int p3), .unset, .unset, .unset, .unset] [(.int (64976 : Int32)), (.int (25 : Int32)), (.ref b1), (.ref b1)])) _
    refine st27 _ ?_
    show Steps p.tables e below (T27.setTop (mkF m 171 #[.val (.int p1), .val (.int p2), .val (.int p3), .unset, .unset, .unset, .unset] [(.ref b1)])) _
    refine XS.dup X27.here hx rfl (hb hby at_171) rfl rfl ?_
    show Steps p.tables e below (T27.setTop (mkF m 172 #[.val (.int p1), .val (.int p2), .val (.int p3), .unset, .unset, .unset, .unset] [(.ref b1), (.ref b1)])) _
    refine XS.bipush X27.here hx rfl (hb hby at_172) ?_
    show Steps p.tables e below (T27.setTop (mkF m 174 #[.val (.int p1), .val (.int p2), .val (.int p3), .unset, .unset, .unset, .unset] [(.int (26 : Int32)), (.ref b1), (.ref b1)])) _
    refine X27.ldcInt hx hown (mvT hZ (hw _ (List.mem_of_getElem? (i := 4) rfl))) (g := (mkF m 174 #[.val (.int p1), .val (.int p2), .val (.int p3), .unset, .unset, .unset, .unset] [(.int (26 : Int32)), (.ref b1), (.ref b1)])) rfl (hb hby at_174) _ ?_
    show Steps p.tables e below (T27.setTop (mkF m 176 #[.val (.int p1), .val (.int p2), .val (.int p3), .unset, .unset, .unset, .unset] [(.int (65008 : Int32)), (.int (26 : Int32)), (.ref b1), (.ref b1)])) _
    refine st28 _ ?_
    show Steps p.tables e below (T28.setTop (mkF m 177 #[.val (.int p1), .val (.int p2), .val (.int p3), .unset, .unset, .unset, .unset] [(.ref b1)])) _
    refine XS.dup X28.here hx rfl (hb hby at_177) rfl rfl ?_
    show Steps p.tables e below (T28.setTop (mkF m 178 #[.val (.int p1), .val (.int p2), .val (.int p3), .unset, .unset, .unset, .unset] [(.ref b1), (.ref b1)])) _
    refine XS.bipush X28.here hx rfl (hb hby at_178) ?_
    show Steps p.tables e below (T28.setTop (mkF m 180 #[.val (.int p1), .val (.int p2), .val (.int p3), .unset, .unset, .unset, .unset] [(.int (27 : Int32)), (.ref b1), (.ref b1)])) _
    refine X28.ldcInt hx hown (mvT hZ (hw _ (List.mem_of_getElem? (i := 5) rfl))) (g := (mkF m 180 #[.val (.int p1), .val (.int p2), .val (.int p3), .unset, .unset, .unset, .unset] [(.int (27 : Int32)), (.ref b1), (.ref b1)])) rfl (hb hby at_180) _ ?_
    show Steps p.tables e below (T28.setTop (mkF m 182 #[.val (.int p1), .val (.int p2), .val (.int p3), .unset, .unset, .unset, .unset] [(.int (65534 : Int32)), (.int (27 : Int32)), (.ref b1), (.ref b1)])) _
    refine st29 _ ?_
    show Steps p.tables e below (T29.setTop (mkF m 183 #[.val (.int p1), .val (.int p2), .val (.int p3), .unset, .unset, .unset, .unset] [(.ref b1)])) _
    refine XS.dup X29.here hx rfl (hb hby at_183) rfl rfl ?_
    show Steps p.tables e below (T29.setTop (mkF m 184 #[.val (.int p1), .val (.int p2), .val (.int p3), .unset, .unset, .unset, .unset] [(.ref b1), (.ref b1)])) _
    refine XS.bipush X29.here hx rfl (hb hby at_184) ?_
    show Steps p.tables e below (T29.setTop (mkF m 186 #[.val (.int p1), .val (.int p2), .val (.int p3), .unset, .unset, .unset, .unset] [(.int (28 : Int32)), (.ref b1), (.ref b1)])) _
    refine X29.ldcInt hx hown (mvT hZ (hw _ (List.mem_of_getElem? (i := 6) rfl))) (g := (mkF m 186 #[.val (.int p1), .val (.int p2), .val (.int p3), .unset, .unset, .unset, .unset] [(.int (28 : Int32)), (.ref b1), (.ref b1)])) rfl (hb hby at_186) _ ?_
    show Steps p.tables e below (T29.setTop (mkF m 188 #[.val (.int p1), .val (.int p2), .val (.int p3), .unset, .unset, .unset, .unset] [(.int (65536 : Int32)), (.int (28 : Int32)), (.ref b1), (.ref b1)])) _
    refine st30 _ ?_
    show Steps p.tables e below (T30.setTop (mkF m 189 #[.val (.int p1), .val (.int p2), .val (.int p3), .unset, .unset, .unset, .unset] [(.ref b1)])) _
    refine XS.dup X30.here hx rfl (hb hby at_189) rfl rfl ?_
    show Steps p.tables e below (T30.setTop (mkF m 190 #[.val (.int p1), .val (.int p2), .val (.int p3), .unset, .unset, .unset, .unset] [(.ref b1), (.ref b1)])) _
    refine XS.bipush X30.here hx rfl (hb hby at_190) ?_
    show Steps p.tables e below (T30.setTop (mkF m 192 #[.val (.int p1), .val (.int p2), .val (.int p3), .unset, .unset, .unset, .unset] [(.int (29 : Int32)), (.ref b1), (.ref b1)])) _
    refine X30.ldcInt hx hown (mvT hZ (hw _ (List.mem_of_getElem? (i := 7) rfl))) (g := (mkF m 192 #[.val (.int p1), .val (.int p2), .val (.int p3), .unset, .unset, .unset, .unset] [(.int (29 : Int32)), (.ref b1), (.ref b1)])) rfl (hb hby at_192) _ ?_
    show Steps p.tables e below (T30.setTop (mkF m 194 #[.val (.int p1), .val (.int p2), .val (.int p3), .unset, .unset, .unset, .unset] [(.int (983040 : Int32)), (.int (29 : Int32)), (.ref b1), (.ref b1)])) _
    refine st31 _ ?_
    show Steps p.tables e below (T31.setTop (mkF m 195 #[.val (.int p1), .val (.int p2), .val (.int p3), .unset, .unset, .unset, .unset] [(.ref b1)])) _
    refine XS.astoreN X31.here hx rfl (hb hby at_195) rfl rfl (l' := #[.val (.int p1), .val (.int p2), .val (.int p3), .val (.ref b1), .unset, .unset, .unset]) rfl ?_
    show Steps p.tables e below (T31.setTop (mkF m 196 #[.val (.int p1), .val (.int p2), .val (.int p3), .val (.ref b1), .unset, .unset, .unset] [])) _
    refine XS.aloadN X31.here hx rfl (hb hby at_196) rfl rfl ?_
    show Steps p.tables e below (T31.setTop (mkF m 197 #[.val (.int p1), .val (.int p2), .val (.int p3), .val (.ref b1), .unset, .unset, .unset] [(.ref b1)])) _
    refine XS.iloadN X31.here hx rfl (hb hby at_197) rfl ?_
    show Steps p.tables e below (T31.setTop (mkF m 198 #[.val (.int p1), .val (.int p2), .val (.int p3), .val (.ref b1), .unset, .unset, .unset] [(.int p2), (.ref b1)])) _
    refine X31.ldcInt hx hown (mvT hZ (hw _ (List.mem_of_getElem? (i := 8) rfl))) (g := (mkF m 198 #[.val (.int p1), .val (.int p2), .val (.int p3), .val (.ref b1), .unset, .unset, .unset] [(.int p2), (.ref b1)])) rfl (hb hby at_198) _ ?_
    show Steps p.tables e below (T31.setTop (mkF m 200 #[.val (.int p1), .val (.int p2), .val (.int p3), .val (.ref b1), .unset, .unset, .unset] [(.int (2147483647 : Int32)), (.int p2), (.ref b1)])) _
    refine XS.iand X31.here hx rfl (hb hby at_200) rfl ?_
    show Steps p.tables e below (T31.setTop (mkF m 201 #[.val (.int p1), .val (.int p2), .val (.int p3), .val (.ref b1), .unset, .unset, .unset] [(.int (p2 &&& (2147483647 : Int32))), (.ref b1)])) _
    refine XS.bipush X31.here hx rfl (hb hby at_201) ?_
    show Steps p.tables e below (T31.setTop (mkF m 203 #[.val (.int p1), .val (.int p2), .val (.int p3), .val (.ref b1), .unset, .unset, .unset] [(.int (30 : Int32)), (.int (p2 &&& (2147483647 : Int32))), (.ref b1)])) _
    refine iremM X31 hx rfl (hb hby at_203) rfl (by decide) ?_
    show Steps p.tables e below (T31.setTop (mkF m 204 #[.val (.int p1), .val (.int p2), .val (.int p3), .val (.ref b1), .unset, .unset, .unset] [(.int ((p2 &&& (2147483647 : Int32)) % (30 : Int32))), (.ref b1)])) _
    refine X31.iaload hx (j := ((p2 &&& (2147483647 : Int32)) % (30 : Int32))) (v := (.int nr)) (by rw [e31]; exact Ar.1) (State.isArrayOf_alike hZ.alike Ar.2.1) Ar.2.2 hin hat (g := (mkF m 204 #[.val (.int p1), .val (.int p2), .val (.int p3), .val (.ref b1), .unset, .unset, .unset] [(.int ((p2 &&& (2147483647 : Int32)) % (30 : Int32))), (.ref b1)])) rfl rfl (hb hby at_204) _ ?_
    show Steps p.tables e below (T31.setTop (mkF m 205 #[.val (.int p1), .val (.int p2), .val (.int p3), .val (.ref b1), .unset, .unset, .unset] [(.int nr)])) _
    refine XS.iloadN X31.here hx rfl (hb hby at_205) rfl ?_
    show Steps p.tables e below (T31.setTop (mkF m 206 #[.val (.int p1), .val (.int p2), .val (.int p3), .val (.ref b1), .unset, .unset, .unset] [(.int p3), (.int nr)])) _
    refine XS.bipush X31.here hx rfl (hb hby at_206) ?_
    show Steps p.tables e below (T31.setTop (mkF m 208 #[.val (.int p1), .val (.int p2), .val (.int p3), .val (.ref b1), .unset, .unset, .unset] [(.int (7 : Int32)), (.int p3), (.int nr)])) _
    refine XS.iand X31.here hx rfl (hb hby at_208) rfl ?_
    show Steps p.tables e below (T31.setTop (mkF m 209 #[.val (.int p1), .val (.int p2), .val (.int p3), .val (.ref b1), .unset, .unset, .unset] [(.int (p3 &&& (7 : Int32))), (.int nr)])) _
    refine XS.iconst X31.here hx rfl (hb hby at_209) ?_
    show Steps p.tables e below (T31.setTop (mkF m 210 #[.val (.int p1), .val (.int p2), .val (.int p3), .val (.ref b1), .unset, .unset, .unset] [(.int (4 : Int32)), (.int (p3 &&& (7 : Int32))), (.int nr)])) _
    refine XS.isub X31.here hx rfl (hb hby at_210) rfl ?_
    show Steps p.tables e below (T31.setTop (mkF m 211 #[.val (.int p1), .val (.int p2), .val (.int p3), .val (.ref b1), .unset, .unset, .unset] [(.int ((p3 &&& (7 : Int32)) - (4 : Int32))), (.int nr)])) _
    refine XS.iadd X31.here hx rfl (hb hby at_211) rfl ?_
    show Steps p.tables e below (T31.setTop (mkF m 212 #[.val (.int p1), .val (.int p2), .val (.int p3), .val (.ref b1), .unset, .unset, .unset] [(.int (nr + ((p3 &&& (7 : Int32)) - (4 : Int32))))])) _
    refine XS.istore X31.here hx rfl (hb hby at_212) rfl (l' := #[.val (.int p1), .val (.int p2), .val (.int p3), .val (.ref b1), .val (.int (nr + ((p3 &&& (7 : Int32)) - (4 : Int32)))), .unset, .unset]) rfl ?_
    show Steps p.tables e below (T31.setTop (mkF m 214 #[.val (.int p1), .val (.int p2), .val (.int p3), .val (.ref b1), .val (.int (nr + ((p3 &&& (7 : Int32)) - (4 : Int32)))), .unset, .unset] [])) _
    refine XS.iloadN X31.here hx rfl (hb hby at_214) rfl ?_
    show Steps p.tables e below (T31.setTop (mkF m 215 #[.val (.int p1), .val (.int p2), .val (.int p3), .val (.ref b1), .val (.int (nr + ((p3 &&& (7 : Int32)) - (4 : Int32)))), .unset, .unset] [(.int p1)])) _
    refine st32 _ ?_
    show Steps p.tables e below (T32.setTop (mkF m 218 #[.val (.int p1), .val (.int p2), .val (.int p3), .val (.ref b1), .val (.int (nr + ((p3 &&& (7 : Int32)) - (4 : Int32)))), .unset, .unset] [(.int (own_in own_rs p1))])) _
    refine XS.iloadN X32.here hx rfl (hb hby at_218) rfl ?_
    show Steps p.tables e below (T32.setTop (mkF m 219 #[.val (.int p1), .val (.int p2), .val (.int p3), .val (.ref b1), .val (.int (nr + ((p3 &&& (7 : Int32)) - (4 : Int32)))), .unset, .unset] [(.int p1), (.int (own_in own_rs p1))])) _
    refine st33 _ ?_
    show Steps p.tables e below (T33.setTop (mkF m 222 #[.val (.int p1), .val (.int p2), .val (.int p3), .val (.ref b1), .val (.int (nr + ((p3 &&& (7 : Int32)) - (4 : Int32)))), .unset, .unset] [(.int (own_ref p1)), (.int (own_in own_rs p1))])) _
    refine XS.icmpNo X33.here hx rfl (hb hby at_222) rfl (teq (own_law p1)).2 ?_
    show Steps p.tables e below (T33.setTop (mkF m 225 #[.val (.int p1), .val (.int p2), .val (.int p3), .val (.ref b1), .val (.int (nr + ((p3 &&& (7 : Int32)) - (4 : Int32)))), .unset, .unset] [])) _
    refine XS.iconst X33.here hx rfl (hb hby at_225) ?_
    show Steps p.tables e below (T33.setTop (mkF m 226 #[.val (.int p1), .val (.int p2), .val (.int p3), .val (.ref b1), .val (.int (nr + ((p3 &&& (7 : Int32)) - (4 : Int32)))), .unset, .unset] [(.int (1 : Int32))])) _
    refine XS.goto X33.here hx rfl (pc0 := 226) (pc' := 230) rfl (hb hby at_226) (by decide) (by decide) ?_
    show Steps p.tables e below (T33.setTop (mkF m 230 #[.val (.int p1), .val (.int p2), .val (.int p3), .val (.ref b1), .val (.int (nr + ((p3 &&& (7 : Int32)) - (4 : Int32)))), .unset, .unset] [(.int (1 : Int32))])) _
    refine XS.istore X33.here hx rfl (hb hby at_230) rfl (l' := #[.val (.int p1), .val (.int p2), .val (.int p3), .val (.ref b1), .val (.int (nr + ((p3 &&& (7 : Int32)) - (4 : Int32)))), .val (.int (1 : Int32)), .unset]) rfl ?_
    show Steps p.tables e below (T33.setTop (mkF m 232 #[.val (.int p1), .val (.int p2), .val (.int p3), .val (.ref b1), .val (.int (nr + ((p3 &&& (7 : Int32)) - (4 : Int32)))), .val (.int (1 : Int32)), .unset] [])) _
    refine XS.iload X33.here hx rfl (hb hby at_232) rfl ?_
    show Steps p.tables e below (T33.setTop (mkF m 234 #[.val (.int p1), .val (.int p2), .val (.int p3), .val (.ref b1), .val (.int (nr + ((p3 &&& (7 : Int32)) - (4 : Int32)))), .val (.int (1 : Int32)), .unset] [(.int (nr + ((p3 &&& (7 : Int32)) - (4 : Int32))))])) _
    refine st34 _ ?_
    show Steps p.tables e below (T34.setTop (mkF m 237 #[.val (.int p1), .val (.int p2), .val (.int p3), .val (.ref b1), .val (.int (nr + ((p3 &&& (7 : Int32)) - (4 : Int32)))), .val (.int (1 : Int32)), .unset] [(.int (own_in own_rs (nr + ((p3 &&& (7 : Int32)) - (4 : Int32)))))])) _
    refine XS.iload X34.here hx rfl (hb hby at_237) rfl ?_
    show Steps p.tables e below (T34.setTop (mkF m 239 #[.val (.int p1), .val (.int p2), .val (.int p3), .val (.ref b1), .val (.int (nr + ((p3 &&& (7 : Int32)) - (4 : Int32)))), .val (.int (1 : Int32)), .unset] [(.int (nr + ((p3 &&& (7 : Int32)) - (4 : Int32)))), (.int (own_in own_rs (nr + ((p3 &&& (7 : Int32)) - (4 : Int32)))))])) _
    refine st35 _ ?_
    show Steps p.tables e below (T35.setTop (mkF m 242 #[.val (.int p1), .val (.int p2), .val (.int p3), .val (.ref b1), .val (.int (nr + ((p3 &&& (7 : Int32)) - (4 : Int32)))), .val (.int (1 : Int32)), .unset] [(.int (own_ref (nr + ((p3 &&& (7 : Int32)) - (4 : Int32))))), (.int (own_in own_rs (nr + ((p3 &&& (7 : Int32)) - (4 : Int32)))))])) _
    refine XS.icmpNo X35.here hx rfl (hb hby at_242) rfl (teq (own_law (nr + ((p3 &&& (7 : Int32)) - (4 : Int32))))).2 ?_
    show Steps p.tables e below (T35.setTop (mkF m 245 #[.val (.int p1), .val (.int p2), .val (.int p3), .val (.ref b1), .val (.int (nr + ((p3 &&& (7 : Int32)) - (4 : Int32)))), .val (.int (1 : Int32)), .unset] [])) _
    refine XS.iconst X35.here hx rfl (hb hby at_245) ?_
    show Steps p.tables e below (T35.setTop (mkF m 246 #[.val (.int p1), .val (.int p2), .val (.int p3), .val (.ref b1), .val (.int (nr + ((p3 &&& (7 : Int32)) - (4 : Int32)))), .val (.int (1 : Int32)), .unset] [(.int (1 : Int32))])) _
    refine XS.goto X35.here hx rfl (pc0 := 246) (pc' := 250) rfl (hb hby at_246) (by decide) (by decide) ?_
    show Steps p.tables e below (T35.setTop (mkF m 250 #[.val (.int p1), .val (.int p2), .val (.int p3), .val (.ref b1), .val (.int (nr + ((p3 &&& (7 : Int32)) - (4 : Int32)))), .val (.int (1 : Int32)), .unset] [(.int (1 : Int32))])) _
    refine XS.istore X35.here hx rfl (hb hby at_250) rfl (l' := #[.val (.int p1), .val (.int p2), .val (.int p3), .val (.ref b1), .val (.int (nr + ((p3 &&& (7 : Int32)) - (4 : Int32)))), .val (.int (1 : Int32)), .val (.int (1 : Int32))]) rfl ?_
    show Steps p.tables e below (T35.setTop (mkF m 252 #[.val (.int p1), .val (.int p2), .val (.int p3), .val (.ref b1), .val (.int (nr + ((p3 &&& (7 : Int32)) - (4 : Int32)))), .val (.int (1 : Int32)), .val (.int (1 : Int32))] [])) _
    refine XS.iload X35.here hx rfl (hb hby at_252) rfl ?_
    show Steps p.tables e below (T35.setTop (mkF m 254 #[.val (.int p1), .val (.int p2), .val (.int p3), .val (.ref b1), .val (.int (nr + ((p3 &&& (7 : Int32)) - (4 : Int32)))), .val (.int (1 : Int32)), .val (.int (1 : Int32))] [(.int (1 : Int32))])) _
    refine XS.ifNo X35.here hx rfl (hb hby at_254) rfl ((if0 _ _).trans (feq (by decide)).1) ?_
    show Steps p.tables e below (T35.setTop (mkF m 257 #[.val (.int p1), .val (.int p2), .val (.int p3), .val (.ref b1), .val (.int (nr + ((p3 &&& (7 : Int32)) - (4 : Int32)))), .val (.int (1 : Int32)), .val (.int (1 : Int32))] [])) _
    refine XS.iload X35.here hx rfl (hb hby at_257) rfl ?_
    show Steps p.tables e below (T35.setTop (mkF m 259 #[.val (.int p1), .val (.int p2), .val (.int p3), .val (.ref b1), .val (.int (nr + ((p3 &&& (7 : Int32)) - (4 : Int32)))), .val (.int (1 : Int32)), .val (.int (1 : Int32))] [(.int (1 : Int32))])) _
    refine XS.ifNo X35.here hx rfl (hb hby at_259) rfl ((if0 _ _).trans (feq (by decide)).1) ?_
    show Steps p.tables e below (T35.setTop (mkF m 262 #[.val (.int p1), .val (.int p2), .val (.int p3), .val (.ref b1), .val (.int (nr + ((p3 &&& (7 : Int32)) - (4 : Int32)))), .val (.int (1 : Int32)), .val (.int (1 : Int32))] [])) _
    refine XS.iconst X35.here hx rfl (hb hby at_262) ?_
    show Steps p.tables e below (T35.setTop (mkF m 263 #[.val (.int p1), .val (.int p2), .val (.int p3), .val (.ref b1), .val (.int (nr + ((p3 &&& (7 : Int32)) - (4 : Int32)))), .val (.int (1 : Int32)), .val (.int (1 : Int32))] [(.int (1 : Int32))])) _
    refine XS.goto X35.here hx rfl (pc0 := 263) (pc' := 267) rfl (hb hby at_263) (by decide) (by decide) ?_
    exact kt
  obtain ⟨fs, hr, hrun, hended, hW, hsame⟩ := X35.leave (v := some (.int (1 : Int32))) (fun h => by rw [Bd.returns] at h; cases h)
  refine ⟨_, _, pre36 _ ?_, hrun, hended, _, _, rfl, ?_, ⟨_, rfl⟩, hW, hsame.mono (by decide) (by decide)⟩
  · exact retN X35 hx (t := .boolean) Bd.returns (by simp) (hb hby at_267) hr
  · show Q0 Z p1 p2 p3 h0 n0 _ T35.heap _
    exact ⟨rfl, Nx35⟩
set_option maxRecDepth 65536 in
set_option maxHeartbeats 40000000 in
theorem comes_1 {Post : Tables → Env → Array Value → State → Outcome → State → Prop} (hpost : ∀ tb e args s v u, (limb_1_1.after args s (.returned v) u = true ∧ limb_1_2.after args s (.returned v) u = true ∧ True) → FrameEnd s (.returned v) u (Jvm.fieldLocs frame_1_writes args s ++ Jvm.arrayLocs frame_1_arrays args s ++ Jvm.staticLocs frame_1_statics s) 16 128 → Post tb e args s (.returned v) u) :
    ArmFor flags0 classFile x code maxLocals ret World_1 tables_1 room_1 Calls_1 rest_1 Pre_1 Post := by
  intro l hfl _ _ p e ha hc hk s m args below hf hA hF happ hP
  obtain ⟨hcalls, hrest, hpre⟩ := hP
  obtain ⟨-, -, -, hnamed, -, -, -, hat⟩ := (Spec.applies_iff hf).mp happ
  obtain ⟨hg, hn⟩ := and_e (Cond.before_iff.mp (show (Jvm.Cond.and given_1 narrow_1).before args s = true from hpre))
  obtain ⟨gc, r0⟩ := and_e hg
  obtain ⟨g0, r1⟩ := and_e r0
  obtain ⟨g1, r2⟩ := and_e r1
  obtain ⟨w0, w1, w2, rfl⟩ : ∃ w0 w1 w2 : Value, args = #[w0, w1, w2] := by
    have hs : args.size = 3 := by simpa [Cond.value, given_1] using gc
    obtain ⟨L⟩ := args
    match L, hs with
    | [w0, w1, w2], _ => exact ⟨w0, w1, w2, rfl⟩
  have hw := fun d (hd : d ∈ tables_1) => atoms_spec (ws := Jvm.Cond.code x code maxLocals ret :: tables_1) hat d (List.mem_cons_of_mem _ hd)
  obtain ⟨i0, ei0⟩ := is_v g0
  obtain rfl : w0 = (.int i0) := Option.some.inj ei0
  obtain ⟨i1, ei1⟩ := is_v g1
  obtain rfl : w1 = (.int i1) := Option.some.inj ei1
  obtain ⟨i2, ei2⟩ := is_v r2
  obtain rfl : w2 = (.int i2) := Option.some.inj ei2
  obtain ⟨n, o, h1, h2, h3, _, L, rfl, ⟨rfl, N⟩, hq⟩ := rm0 l s _ hw tables_1 i0 i1 i2 s.heap s.heap.size (Nat.le_refl _) p e ha hc hk s m _ below hf ((Spec.applies_iff_loose hf).mp happ).1 ⟨rfl, State.Warmed39.refl s, rfl⟩ trivial
  refine ⟨n, _, h1, h2, h3, hpost _ _ _ _ _ _ ⟨Cond.after_iff.mpr rfl, Cond.after_iff.mpr (eq_i res_at (Term.int_eval (1)) rfl), trivial⟩ ⟨hq.1, hq.2.1, (hq.2.2.sift fun y hy => Or.inr (N y hy)).mono (by decide) (by decide)⟩⟩
theorem main_1_1 : Claimed_1_1 := comes_1 fun _ _ _ _ _ _ h hF => ⟨h.1, hF⟩
theorem main_1_2 : Claimed_1_2 := comes_1 fun _ _ _ _ _ _ h hF => ⟨h.2.1, hF⟩
end Jvm.Pilot.@@N@@
namespace Jvm.Pilot.@@N@@
open Jvm Jvm.ClassFile Sem Op Lib Jvm.Free Jvm.Stand Jvm.Pilot.@@N@@.Jvm.D
/-! MADE BY PROGRAM (witnessworld.py) out of the Statement's table words and the real class files: 9 classes; the members and pool entries that the words name. The judged class is class 1, her method 3. -/
namespace start1
open Jvm.ClassFile
def u (s : String) : CpInfo := .utf8 (stringToUtf16 s)
/-- a pool by its gaps: so many unusable entries, then the entry; so many at the end -/
def gap : Nat → List CpInfo → List CpInfo
  | 0, r => r
  | n + 1, r => .unusable :: gap n r
def poolList (es : List (Nat × CpInfo)) (last : Nat) : List CpInfo := es.foldr (fun e r => gap e.1 (e.2 :: r)) (gap last [])
def pool (es : List (Nat × CpInfo)) (last : Nat) : Array CpInfo := ⟨poolList es last⟩
def fileOf (pool : Array CpInfo) (this : Nat) (attrs : Array Attribute := #[]) (ms : Array MethodInfo := #[]) (fl : Nat := 33) (sup : Nat := 0) (ifs : Array Nat := #[]) (fds : Array FieldInfo := #[]) : ClassFile where
  minorVersion := 0
  majorVersion := 65
  constantPool := pool
  accessFlags := fl
  thisClass := this
  superClass := sup
  interfaces := ifs
  fields := fds
  methods := ms
  attributes := attrs
def plain (name : String) (sup : Option ClassId) : Class where
  name := name
  kind := .ordinary
  loader := none
  accessFlags := 33
  super := sup
  interfaces := #[]
  cf := none
  fields := #[]
  methods := #[]
  instanceTypes := #[]
  staticTypes := #[]
  resolved := #[]
  callSites := []
  init := .initialized
  statics := none
  mirror := none

def pool0 : Array CpInfo := pool [(5, u "<init>"), (0, u "()V"), (1, .class_ 10), (1, u "java/lang/Object")] 113

def k0m0 : Method := { name := "<init>", desc := "()V", sig := { parameters := [], returnType := none }, accessFlags := 1, code := none }
/-- java/lang/Object -/
def k0 : Class := { plain "java/lang/Object" none with
  accessFlags := 33
  interfaces := #[]
  cf := some (fileOf pool0 8 #[] #[{ accessFlags := 1, nameIndex := 5, descriptorIndex := 6, attributes := #[] }] 33 0 #[] #[])
  fields := #[]
  methods := #[k0m0]
  instanceTypes := #[]
  staticTypes := #[]
  resolved := Array.replicate 124 none
  statics := none }

def pool1 : Array CpInfo := pool [(2, .class_ 4), (1, u "java/lang/Object"), (0, u "<init>"), (0, u "()V"), (0, .methodref 8 9), (0, .class_ 10), (0, .nameAndType 11 12), (0, u "com/example/uliza/uliza/model/XmlCharsIsNameStartPinLaw"), (0, u "ge"), (0, u "(II)I"), (0, .integer 55296), (0, .integer 63744), (0, .integer 64976), (0, .integer 65008), (0, .integer 65534), (0, .integer 65536), (0, .integer 983040), (0, .integer 2147483647), (0, .methodref 22 23), (0, .class_ 24), (0, .nameAndType 25 26), (0, u "com/example/uliza/uliza/model/XmlChars"), (0, u "isNameStart"), (0, u "(I)Z"), (0, .methodref 8 28), (0, .nameAndType 29 26), (0, u "ref"), (3, u "law"), (0, u "(III)Z")] 4

def k1m0 : Method := { name := "<init>", desc := "()V", sig := { parameters := [], returnType := none }, accessFlags := 2, code := none }
def k1c1 : Code := { maxStack := 2, maxLocals := 2, code := method_2_code, exceptionTable := #[], attributes := #[] }
def k1m1 : Method := { name := "ge", desc := "(II)I", sig := { parameters := [.int, .int], returnType := some .int }, accessFlags := 10, code := some k1c1 }
def k1c2 : Code := { maxStack := 3, maxLocals := 2, code := method_3_code, exceptionTable := #[], attributes := #[] }
def k1m2 : Method := { name := "ref", desc := "(I)Z", sig := { parameters := [.int], returnType := some .boolean }, accessFlags := 10, code := some k1c2 }
def k1c3 : Code := { maxStack := 4, maxLocals := 7, code := code, exceptionTable := #[], attributes := #[] }
def k1m3 : Method := { name := "law", desc := "(III)Z", sig := { parameters := [.int, .int, .int], returnType := some .boolean }, accessFlags := 9, code := some k1c3 }
/-- com/example/uliza/uliza/model/XmlCharsIsNameStartPinLaw -/
def k1 : Class := { plain "com/example/uliza/uliza/model/XmlCharsIsNameStartPinLaw" (some 0) with
  accessFlags := 49
  interfaces := #[]
  cf := some (fileOf pool1 8 #[] #[{ accessFlags := 2, nameIndex := 5, descriptorIndex := 6, attributes := #[] }, { accessFlags := 10, nameIndex := 11, descriptorIndex := 12, attributes := #[] }, { accessFlags := 10, nameIndex := 29, descriptorIndex := 26, attributes := #[] }, { accessFlags := 9, nameIndex := 33, descriptorIndex := 34, attributes := #[] }] 49 2 #[] #[])
  fields := #[]
  methods := #[k1m0, k1m1, k1m2, k1m3]
  instanceTypes := #[]
  staticTypes := #[]
  resolved := Array.replicate 39 none
  statics := none }

def pool2 : Array CpInfo := pool [(2, .class_ 4), (1, u "java/lang/Object"), (0, u "<init>"), (0, u "()V"), (0, .integer 55295), (0, .integer 63744), (0, .integer 64975), (0, .integer 65008), (0, .integer 65533), (0, .integer 65536), (0, .integer 983039), (1, .class_ 17), (1, u "com/example/uliza/uliza/model/XmlChars"), (0, u "isNameStart"), (0, u "(I)Z")] 69

def k2m0 : Method := { name := "<init>", desc := "()V", sig := { parameters := [], returnType := none }, accessFlags := 2, code := none }
def k2c1 : Code := { maxStack := 2, maxLocals := 1, code := prog_284_method_2_code, exceptionTable := #[], attributes := #[] }
def k2m1 : Method := { name := "isNameStart", desc := "(I)Z", sig := { parameters := [.int], returnType := some .boolean }, accessFlags := 9, code := some k2c1 }
/-- com/example/uliza/uliza/model/XmlChars -/
def k2 : Class := { plain "com/example/uliza/uliza/model/XmlChars" (some 0) with
  accessFlags := 49
  interfaces := #[]
  cf := some (fileOf pool2 15 #[] #[{ accessFlags := 2, nameIndex := 5, descriptorIndex := 6, attributes := #[] }, { accessFlags := 9, nameIndex := 18, descriptorIndex := 19, attributes := #[] }] 49 2 #[] #[])
  fields := #[]
  methods := #[k2m0, k2m1]
  instanceTypes := #[]
  staticTypes := #[]
  resolved := Array.replicate 89 none
  statics := none }

def pool3 : Array CpInfo := pool [(1, u "java/lang/Cloneable"), (0, .class_ 1), (0, u "java/lang/Object"), (0, .class_ 3)] 3

/-- java/lang/Cloneable -/
def k3 : Class := { plain "java/lang/Cloneable" (some 0) with
  accessFlags := 1537
  interfaces := #[]
  cf := some (fileOf pool3 2 #[] #[] 1537 4 #[] #[])
  fields := #[]
  methods := #[]
  instanceTypes := #[]
  staticTypes := #[]
  resolved := Array.replicate 8 none
  statics := none }

def pool4 : Array CpInfo := pool [(1, u "java/io/Serializable"), (0, .class_ 1), (0, u "java/lang/Object"), (0, .class_ 3)] 3

/-- java/io/Serializable -/
def k4 : Class := { plain "java/io/Serializable" (some 0) with
  accessFlags := 1537
  interfaces := #[]
  cf := some (fileOf pool4 2 #[] #[] 1537 4 #[] #[])
  fields := #[]
  methods := #[]
  instanceTypes := #[]
  staticTypes := #[]
  resolved := Array.replicate 8 none
  statics := none }

/-- the primitive byte -/
def k5 : Class := { plain "byte" none with kind := .primitive 'B', accessFlags := 0x411 }
/-- [B -/
def k6 : Class := { plain "[B" (some 0) with kind := .array 5 .byte, interfaces := #[3, 4], accessFlags := 1041 }

/-- the primitive int -/
def k7 : Class := { plain "int" none with kind := .primitive 'I', accessFlags := 0x411 }
/-- [I -/
def k8 : Class := { plain "[I" (some 0) with kind := .array 7 .int, interfaces := #[3, 4], accessFlags := 1041 }

def heap : Heap := #[]
def classes : Array Class := #[k0, k1, k2, k3, k4, k5, k6, k7, k8]
def interned : List (Array UInt16 × Addr) := []
def slotsUsed : Nat := 0
def theMethod : MethodId := ⟨1, 3⟩
def args0 : Array Value := #[.int 65, .int 3, .int 5]
def aboutOver (below : List Frame) : State where
  vm := { classes := classes, interned := interned.toArray }
  heap := heap
  slotsUsed := slotsUsed
  threads := #[{ frames := .invoking theMethod args0 :: below }]
def below0 : List Frame := [.native { method := ⟨0, 0⟩, args := #[] }]
def about1 : State := aboutOver below0
def p0 : Program := .bare "" "" ""
def e0 : Env := launch0.env 0 0 0
theorem w_frames : about1.frames = Frame.invoking theMethod args0 :: below0 := rfl
set_option maxRecDepth 65536 in
theorem w_args : argsFit about1.vm theMethod args0 = true := by decide +kernel
set_option maxRecDepth 65536 in
theorem w_heap : heapFits about1 = true := by decide +kernel
set_option maxRecDepth 65536 in
theorem w_runnable : about1.curStatus? = some .runnable := by decide +kernel
set_option maxRecDepth 65536 in
theorem w_alone : about1.alone = true := by decide +kernel
set_option maxRecDepth 65536 in
theorem w_named : about1.methodNamed? x = some theMethod := by decide +kernel
set_option maxRecDepth 65536 in
theorem w_hears : about1.hears theMethod below0 = true := by decide +kernel
set_option maxRecDepth 65536 in
theorem w_ripe : about1.ripe theMethod args0 below0 = true := by decide +kernel
theorem w_running : about1.status = .running := rfl
set_option maxRecDepth 65536 in
theorem w_room : about1.hasRoom e0.platform room_1 = true :=
  launch0.hasRoom_least _ room_1 (by decide +kernel) (by decide +kernel) (by decide +kernel) (by decide +kernel) (by decide +kernel) (by decide +kernel)
theorem allAtoms_all (ts : List Jvm.Cond) (a : Array Jvm.Value) (st : Jvm.State) : (allAtoms ts).before a st = ts.all (fun c => c.before a st) := by
  induction ts with
  | nil => rfl
  | cons c t ih =>
    show (Jvm.Cond.and c (allAtoms t)).before a st = _
    rw [Jvm.Cond.before_and, ih, List.all_cons]
def words1 : List Jvm.Cond := Jvm.Cond.code x code maxLocals ret :: tables_1
/-- a 'code' word, met by the world's own term for the bytes: nothing is compared byte by byte -/
theorem code_word {y : MethodName} {bytes : ByteArray} {mx : Nat} {rt : Option FieldType} {a : Array Value} {s : State} {m : MethodId} {meth : Method} {c : Code} (h1 : s.methodNamed? y = some m) (h2 : s.vm.method? m = some meth) (h3 : meth.code = some c) (h4 : c.code = bytes)
    (h5 : (c.maxLocals == mx && c.exceptionTable.isEmpty && decide (c.maxStack ≤ mostOperands) && decide (meth.sig.returnType = rt) && !meth.locks && decide (parseMethodDescriptor y.desc = some meth.sig)) = true) : (Jvm.Cond.code y bytes mx rt).before a s = true := by
  simp only [Bool.and_eq_true, beq_iff_eq, Bool.not_eq_true', decide_eq_true_eq] at h5
  obtain ⟨⟨⟨⟨⟨g1, g2⟩, g3⟩, g4⟩, g5⟩, g6⟩ := h5
  simp [Cond.before, Cond.holds, Cond.value, h1, h2, h3, h4, g1, g2, g3, g4, g5, g6]
def isCode : Jvm.Cond → Bool
  | .code _ _ _ _ => true
  | _ => false
theorem all_split {L : List Jvm.Cond} {P : Jvm.Cond → Bool} (h1 : L.all (fun c => isCode c || P c) = true) (h2 : ∀ c ∈ L.filter isCode, P c = true) : L.all P = true := by
  refine List.all_eq_true.mpr fun c hc => ?_
  have h := List.all_eq_true.mp h1 c hc
  rcases Bool.eq_false_or_eq_true (isCode c) with hi | hi
  · exact h2 c (List.mem_filter.mpr ⟨hc, hi⟩)
  · simpa [hi] using h
set_option maxRecDepth 65536 in
theorem w_c0 : (Jvm.Cond.code x code maxLocals ret).before args0 about1 = true := code_word (m := ⟨1, 3⟩) (meth := k1m3) (c := k1c3) (by decide +kernel) rfl rfl rfl (by decide +kernel)
set_option maxRecDepth 65536 in
theorem w_c1 : (Jvm.Cond.code ({ cls := "com/example/uliza/uliza/model/XmlChars", name := "isNameStart", desc := "(I)Z" } : Jvm.MethodName) prog_284_method_2_code (1 : Nat) (Option.some Jvm.ClassFile.FieldType.boolean)).before args0 about1 = true := code_word (m := ⟨2, 1⟩) (meth := k2m1) (c := k2c1) (by decide +kernel) rfl rfl rfl (by decide +kernel)
set_option maxRecDepth 65536 in
theorem w_c2 : (Jvm.Cond.code ({ cls := "com/example/uliza/uliza/model/XmlCharsIsNameStartPinLaw", name := "ref", desc := "(I)Z" } : Jvm.MethodName) method_3_code (2 : Nat) (Option.some Jvm.ClassFile.FieldType.boolean)).before args0 about1 = true := code_word (m := ⟨1, 2⟩) (meth := k1m2) (c := k1c2) (by decide +kernel) rfl rfl rfl (by decide +kernel)
set_option maxRecDepth 65536 in
theorem w_c3 : (Jvm.Cond.code ({ cls := "com/example/uliza/uliza/model/XmlCharsIsNameStartPinLaw", name := "ge", desc := "(II)I" } : Jvm.MethodName) method_2_code (2 : Nat) (Option.some Jvm.ClassFile.FieldType.int)).before args0 about1 = true := code_word (m := ⟨1, 1⟩) (meth := k1m1) (c := k1c1) (by decide +kernel) rfl rfl rfl (by decide +kernel)
def codes1 : List Jvm.Cond := [Jvm.Cond.code x code maxLocals ret, Jvm.Cond.code ({ cls := "com/example/uliza/uliza/model/XmlChars", name := "isNameStart", desc := "(I)Z" } : Jvm.MethodName) prog_284_method_2_code (1 : Nat) (Option.some Jvm.ClassFile.FieldType.boolean), Jvm.Cond.code ({ cls := "com/example/uliza/uliza/model/XmlCharsIsNameStartPinLaw", name := "ref", desc := "(I)Z" } : Jvm.MethodName) method_3_code (2 : Nat) (Option.some Jvm.ClassFile.FieldType.boolean), Jvm.Cond.code ({ cls := "com/example/uliza/uliza/model/XmlCharsIsNameStartPinLaw", name := "ge", desc := "(II)I" } : Jvm.MethodName) method_2_code (2 : Nat) (Option.some Jvm.ClassFile.FieldType.int)]
set_option maxRecDepth 65536 in
theorem codes_eq : words1.filter isCode = codes1 := rfl
theorem w_codes : ∀ c ∈ words1.filter isCode, c.before args0 about1 = true := by
  rw [codes_eq]
  intro c hc
  simp only [codes1, List.mem_cons, List.not_mem_nil, or_false] at hc
  rcases hc with rfl | rfl | rfl | rfl
  · exact w_c0
  · exact w_c1
  · exact w_c2
  · exact w_c3
set_option maxRecDepth 65536 in
theorem w_t1 : (words1.take 24).all (fun c => isCode c || c.before args0 about1) = true := by decide +kernel
set_option maxRecDepth 65536 in
theorem w_t2 : (words1.drop 24).all (fun c => isCode c || c.before args0 about1) = true := by decide +kernel
theorem w_tables : (allAtoms (Jvm.Cond.code x code maxLocals ret :: tables_1)).before args0 about1 = true := by
  rw [allAtoms_all]
  show words1.all (fun c => c.before args0 about1) = true
  refine all_split ?_ w_codes
  rw [← List.take_append_drop 24 words1, List.all_append, w_t1, w_t2]
  rfl
set_option maxRecDepth 65536 in
theorem w_case : (Jvm.Cond.and given_1 narrow_1).before args0 about1 = true := by decide +kernel
theorem w_applies : (headSpec (Jvm.Cond.code x code maxLocals ret :: tables_1) room_1).applies x e0.platform about1 = true :=
  (Spec.applies_iff w_frames).mpr ⟨w_running, w_runnable, w_alone, w_named, w_hears, w_ripe, w_room, w_tables⟩
theorem atStart : AtStart classFile x code maxLocals ret World_1 tables_1 room_1 Calls_1 rest_1 Pre_1 launch0 p0 e0 about1 theMethod args0 below0 :=
  ⟨lists_1, trivial, launch0.admits_env _ _ _, launch0.least_env, fairChoices_fair.cas, fairChoices_fair.clock, w_frames, w_args, w_heap, w_applies, trivial, trivial, w_case⟩
end start1
theorem witness_1 : WitnessClaimed_1 := ⟨start1.p0, start1.e0, start1.about1, start1.theMethod, start1.args0, start1.below0, start1.atStart⟩
end Jvm.Pilot.@@N@@
