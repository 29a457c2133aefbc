import JvmDerived
import JvmDerived.Pilot.@@N@@Statement
import JvmDerived.Pilot.@@N@@Code
set_option linter.unusedVariables false
set_option linter.unusedSimpArgs false
namespace Jvm.RoadKit
open Sem ClassFile Op Lib Jvm.Stand Jvm.Free Jvm.LawKit
section New
variable {p : Program} {l : Launch} {e : Env} {R : Room} {s : State} {m : MethodId} {args : Array Value} {below : List Frame} {meth : Method} {c : Code} {T : State} {locs : List Loc} {cells slots : Nat}
theorem retI (X : Stand p l e R s m args below meth c T locs cells slots) (hx : p.tables.exec = Jvm.exec) {pc : Nat} {Ls : Array Slot} {z : Int32} {rest : List Value} (hret : meth.sig.returnType = some .int) (hd : decode c.code pc = .ok (.ireturn, 1)) {fs : List Frame}
    (hl : ∀ (f : JFrame) (acts : List Action), f.method = m → f.locked = none → f.entered = [] → (doReturn e (T.setTop f) acts (some (.int z))).1 = T.setFrames fs) : Steps p.tables e below (T.setTop (mkF m pc Ls (.int z :: rest))) (T.setFrames fs) := by
  have hm' : T.vm.method? m = some meth := X.method'
  have hn : narrow .int (.int z) = .int z := rfl
  show Steps p.tables e below (T.setTop { method := m, pc := pc, locals := Ls, stack := _ :: rest, locked := none }) _
  jvm_step X.here [X.here.top, hx, hd, hm', hret, hn]
  first | (intro acts; rw [hl _ acts rfl rfl rfl]) | rw [hl _ _ rfl rfl rfl]
  exact Steps.refl _
end New
end Jvm.RoadKit
namespace Jvm.Pilot.@@N@@
open Jvm Jvm.ClassFile Sem Op Lib Jvm.Free Jvm.Stand Jvm.LawKit Jvm.RoadKit Bundle Jvm.Pilot.@@N@@.Jvm.D
theorem d1_0 : decode prog_134_method_1_code 0 = .ok (.aload_n 0, 1) := by decide +kernel
theorem d1_1 : decode prog_134_method_1_code 1 = .ok (.invokespecial 1, 3) := by decide +kernel
theorem d1_4 : decode prog_134_method_1_code 4 = .ok (.aload_n 0, 1) := by decide +kernel
theorem d1_5 : decode prog_134_method_1_code 5 = .ok (.aload_n 1, 1) := by decide +kernel
theorem d1_6 : decode prog_134_method_1_code 6 = .ok (.putfield 7, 3) := by decide +kernel
theorem d1_9 : decode prog_134_method_1_code 9 = .ok (.aload_n 0, 1) := by decide +kernel
theorem d1_10 : decode prog_134_method_1_code 10 = .ok (.iload_n 3, 1) := by decide +kernel
theorem d1_11 : decode prog_134_method_1_code 11 = .ok (.putfield 13, 3) := by decide +kernel
theorem d1_14 : decode prog_134_method_1_code 14 = .ok (.bipush 64, 2) := by decide +kernel
theorem d1_16 : decode prog_134_method_1_code 16 = .ok (.iload_n 2, 1) := by decide +kernel
theorem d1_17 : decode prog_134_method_1_code 17 = .ok (.bipush 64, 2) := by decide +kernel
theorem d1_19 : decode prog_134_method_1_code 19 = .ok (.idiv, 1) := by decide +kernel
theorem d1_20 : decode prog_134_method_1_code 20 = .ok (.invokestatic 17, 3) := by decide +kernel
theorem d1_23 : decode prog_134_method_1_code 23 = .ok (.istore 4, 2) := by decide +kernel
theorem d1_25 : decode prog_134_method_1_code 25 = .ok (.aload_n 0, 1) := by decide +kernel
theorem d1_26 : decode prog_134_method_1_code 26 = .ok (.iload 4, 2) := by decide +kernel
theorem d1_28 : decode prog_134_method_1_code 28 = .ok (.newarray .int, 2) := by decide +kernel
theorem d1_30 : decode prog_134_method_1_code 30 = .ok (.putfield 23, 3) := by decide +kernel
theorem d1_33 : decode prog_134_method_1_code 33 = .ok (.aload_n 0, 1) := by decide +kernel
theorem d1_34 : decode prog_134_method_1_code 34 = .ok (.iload 4, 2) := by decide +kernel
theorem d1_36 : decode prog_134_method_1_code 36 = .ok (.newarray .int, 2) := by decide +kernel
theorem d1_38 : decode prog_134_method_1_code 38 = .ok (.putfield 27, 3) := by decide +kernel
theorem d1_41 : decode prog_134_method_1_code 41 = .ok (.aload_n 0, 1) := by decide +kernel
theorem d1_42 : decode prog_134_method_1_code 42 = .ok (.iload 4, 2) := by decide +kernel
theorem d1_44 : decode prog_134_method_1_code 44 = .ok (.newarray .int, 2) := by decide +kernel
theorem d1_46 : decode prog_134_method_1_code 46 = .ok (.putfield 30, 3) := by decide +kernel
theorem d1_49 : decode prog_134_method_1_code 49 = .ok (.aload_n 0, 1) := by decide +kernel
theorem d1_50 : decode prog_134_method_1_code 50 = .ok (.iload 4, 2) := by decide +kernel
theorem d1_52 : decode prog_134_method_1_code 52 = .ok (.newarray .int, 2) := by decide +kernel
theorem d1_54 : decode prog_134_method_1_code 54 = .ok (.putfield 33, 3) := by decide +kernel
theorem d1_57 : decode prog_134_method_1_code 57 = .ok (.aload_n 0, 1) := by decide +kernel
theorem d1_58 : decode prog_134_method_1_code 58 = .ok (.iload 4, 2) := by decide +kernel
theorem d1_60 : decode prog_134_method_1_code 60 = .ok (.newarray .int, 2) := by decide +kernel
theorem d1_62 : decode prog_134_method_1_code 62 = .ok (.putfield 36, 3) := by decide +kernel
theorem d1_65 : decode prog_134_method_1_code 65 = .ok (.aload_n 0, 1) := by decide +kernel
theorem d1_66 : decode prog_134_method_1_code 66 = .ok (.iload 4, 2) := by decide +kernel
theorem d1_68 : decode prog_134_method_1_code 68 = .ok (.newarray .int, 2) := by decide +kernel
theorem d1_70 : decode prog_134_method_1_code 70 = .ok (.putfield 39, 3) := by decide +kernel
theorem d1_73 : decode prog_134_method_1_code 73 = .ok (.aload_n 0, 1) := by decide +kernel
theorem d1_74 : decode prog_134_method_1_code 74 = .ok (.iload 4, 2) := by decide +kernel
theorem d1_76 : decode prog_134_method_1_code 76 = .ok (.newarray .int, 2) := by decide +kernel
theorem d1_78 : decode prog_134_method_1_code 78 = .ok (.putfield 42, 3) := by decide +kernel
theorem d1_81 : decode prog_134_method_1_code 81 = .ok (.aload_n 0, 1) := by decide +kernel
theorem d1_82 : decode prog_134_method_1_code 82 = .ok (.iload 4, 2) := by decide +kernel
theorem d1_84 : decode prog_134_method_1_code 84 = .ok (.newarray .int, 2) := by decide +kernel
theorem d1_86 : decode prog_134_method_1_code 86 = .ok (.putfield 45, 3) := by decide +kernel
theorem d1_89 : decode prog_134_method_1_code 89 = .ok (.aload_n 0, 1) := by decide +kernel
theorem d1_90 : decode prog_134_method_1_code 90 = .ok (.iload 4, 2) := by decide +kernel
theorem d1_92 : decode prog_134_method_1_code 92 = .ok (.newarray .short, 2) := by decide +kernel
theorem d1_94 : decode prog_134_method_1_code 94 = .ok (.putfield 48, 3) := by decide +kernel
theorem d1_97 : decode prog_134_method_1_code 97 = .ok (.aload_n 0, 1) := by decide +kernel
theorem d1_98 : decode prog_134_method_1_code 98 = .ok (.bipush 64, 2) := by decide +kernel
theorem d1_100 : decode prog_134_method_1_code 100 = .ok (.newarray .char, 2) := by decide +kernel
theorem d1_102 : decode prog_134_method_1_code 102 = .ok (.putfield 52, 3) := by decide +kernel
theorem d1_105 : decode prog_134_method_1_code 105 = .ok (.aload_n 0, 1) := by decide +kernel
theorem d1_106 : decode prog_134_method_1_code 106 = .ok (.bipush (-2), 2) := by decide +kernel
theorem d1_108 : decode prog_134_method_1_code 108 = .ok (.iconst 0, 1) := by decide +kernel
theorem d1_109 : decode prog_134_method_1_code 109 = .ok (.invokevirtual 55, 3) := by decide +kernel
theorem d1_112 : decode prog_134_method_1_code 112 = .ok (.pop, 1) := by decide +kernel
theorem d1_113 : decode prog_134_method_1_code 113 = .ok (.return_, 1) := by decide +kernel
theorem d3_0 : decode jdk_29_method_65_code 0 = .ok (.iload_n 0, 1) := by decide +kernel
theorem d3_1 : decode jdk_29_method_65_code 1 = .ok (.iload_n 1, 1) := by decide +kernel
theorem d3_2 : decode jdk_29_method_65_code 2 = .ok (.if_icmp .lt 7, 3) := by decide +kernel
theorem d3_5 : decode jdk_29_method_65_code 5 = .ok (.iload_n 0, 1) := by decide +kernel
theorem d3_6 : decode jdk_29_method_65_code 6 = .ok (.goto 4, 3) := by decide +kernel
theorem d3_9 : decode jdk_29_method_65_code 9 = .ok (.iload_n 1, 1) := by decide +kernel
theorem d3_10 : decode jdk_29_method_65_code 10 = .ok (.ireturn, 1) := by decide +kernel
theorem d4_0 : decode prog_134_method_39_code 0 = .ok (.aload_n 0, 1) := by decide +kernel
theorem d4_1 : decode prog_134_method_39_code 1 = .ok (.getfield 160, 3) := by decide +kernel
theorem d4_4 : decode prog_134_method_39_code 4 = .ok (.aload_n 0, 1) := by decide +kernel
theorem d4_5 : decode prog_134_method_39_code 5 = .ok (.getfield 23, 3) := by decide +kernel
theorem d4_8 : decode prog_134_method_39_code 8 = .ok (.arraylength, 1) := by decide +kernel
theorem d4_9 : decode prog_134_method_39_code 9 = .ok (.if_icmp .ne 118, 3) := by decide +kernel
theorem d4_127 : decode prog_134_method_39_code 127 = .ok (.aload_n 0, 1) := by decide +kernel
theorem d4_128 : decode prog_134_method_39_code 128 = .ok (.dup, 1) := by decide +kernel
theorem d4_129 : decode prog_134_method_39_code 129 = .ok (.getfield 160, 3) := by decide +kernel
theorem d4_132 : decode prog_134_method_39_code 132 = .ok (.dup_x1, 1) := by decide +kernel
theorem d4_133 : decode prog_134_method_39_code 133 = .ok (.iconst 1, 1) := by decide +kernel
theorem d4_134 : decode prog_134_method_39_code 134 = .ok (.iadd, 1) := by decide +kernel
theorem d4_135 : decode prog_134_method_39_code 135 = .ok (.putfield 160, 3) := by decide +kernel
theorem d4_138 : decode prog_134_method_39_code 138 = .ok (.istore_n 3, 1) := by decide +kernel
theorem d4_139 : decode prog_134_method_39_code 139 = .ok (.aload_n 0, 1) := by decide +kernel
theorem d4_140 : decode prog_134_method_39_code 140 = .ok (.getfield 23, 3) := by decide +kernel
theorem d4_143 : decode prog_134_method_39_code 143 = .ok (.iload_n 3, 1) := by decide +kernel
theorem d4_144 : decode prog_134_method_39_code 144 = .ok (.iload_n 1, 1) := by decide +kernel
theorem d4_145 : decode prog_134_method_39_code 145 = .ok (.iastore, 1) := by decide +kernel
theorem d4_146 : decode prog_134_method_39_code 146 = .ok (.aload_n 0, 1) := by decide +kernel
theorem d4_147 : decode prog_134_method_39_code 147 = .ok (.getfield 27, 3) := by decide +kernel
theorem d4_150 : decode prog_134_method_39_code 150 = .ok (.iload_n 3, 1) := by decide +kernel
theorem d4_151 : decode prog_134_method_39_code 151 = .ok (.iconst (-1), 1) := by decide +kernel
theorem d4_152 : decode prog_134_method_39_code 152 = .ok (.iastore, 1) := by decide +kernel
theorem d4_153 : decode prog_134_method_39_code 153 = .ok (.aload_n 0, 1) := by decide +kernel
theorem d4_154 : decode prog_134_method_39_code 154 = .ok (.getfield 30, 3) := by decide +kernel
theorem d4_157 : decode prog_134_method_39_code 157 = .ok (.iload_n 3, 1) := by decide +kernel
theorem d4_158 : decode prog_134_method_39_code 158 = .ok (.iconst (-1), 1) := by decide +kernel
theorem d4_159 : decode prog_134_method_39_code 159 = .ok (.iastore, 1) := by decide +kernel
theorem d4_160 : decode prog_134_method_39_code 160 = .ok (.aload_n 0, 1) := by decide +kernel
theorem d4_161 : decode prog_134_method_39_code 161 = .ok (.getfield 33, 3) := by decide +kernel
theorem d4_164 : decode prog_134_method_39_code 164 = .ok (.iload_n 3, 1) := by decide +kernel
theorem d4_165 : decode prog_134_method_39_code 165 = .ok (.iconst (-1), 1) := by decide +kernel
theorem d4_166 : decode prog_134_method_39_code 166 = .ok (.iastore, 1) := by decide +kernel
theorem d4_167 : decode prog_134_method_39_code 167 = .ok (.aload_n 0, 1) := by decide +kernel
theorem d4_168 : decode prog_134_method_39_code 168 = .ok (.getfield 36, 3) := by decide +kernel
theorem d4_171 : decode prog_134_method_39_code 171 = .ok (.iload_n 3, 1) := by decide +kernel
theorem d4_172 : decode prog_134_method_39_code 172 = .ok (.iconst (-1), 1) := by decide +kernel
theorem d4_173 : decode prog_134_method_39_code 173 = .ok (.iastore, 1) := by decide +kernel
theorem d4_174 : decode prog_134_method_39_code 174 = .ok (.aload_n 0, 1) := by decide +kernel
theorem d4_175 : decode prog_134_method_39_code 175 = .ok (.getfield 39, 3) := by decide +kernel
theorem d4_178 : decode prog_134_method_39_code 178 = .ok (.iload_n 3, 1) := by decide +kernel
theorem d4_179 : decode prog_134_method_39_code 179 = .ok (.iconst (-1), 1) := by decide +kernel
theorem d4_180 : decode prog_134_method_39_code 180 = .ok (.iastore, 1) := by decide +kernel
theorem d4_181 : decode prog_134_method_39_code 181 = .ok (.aload_n 0, 1) := by decide +kernel
theorem d4_182 : decode prog_134_method_39_code 182 = .ok (.getfield 48, 3) := by decide +kernel
theorem d4_185 : decode prog_134_method_39_code 185 = .ok (.iload_n 3, 1) := by decide +kernel
theorem d4_186 : decode prog_134_method_39_code 186 = .ok (.iload_n 2, 1) := by decide +kernel
theorem d4_187 : decode prog_134_method_39_code 187 = .ok (.i2s, 1) := by decide +kernel
theorem d4_188 : decode prog_134_method_39_code 188 = .ok (.sastore, 1) := by decide +kernel
theorem d4_189 : decode prog_134_method_39_code 189 = .ok (.iload_n 3, 1) := by decide +kernel
theorem d4_190 : decode prog_134_method_39_code 190 = .ok (.ireturn, 1) := by decide +kernel
theorem d5_0 : decode prog_134_method_2_code 0 = .ok (.aload_n 0, 1) := by decide +kernel
theorem d5_1 : decode prog_134_method_2_code 1 = .ok (.iload_n 1, 1) := by decide +kernel
theorem d5_2 : decode prog_134_method_2_code 2 = .ok (.iload_n 2, 1) := by decide +kernel
theorem d5_3 : decode prog_134_method_2_code 3 = .ok (.invokevirtual 55, 3) := by decide +kernel
theorem d5_6 : decode prog_134_method_2_code 6 = .ok (.ireturn, 1) := by decide +kernel
theorem d6_0 : decode prog_134_method_11_code 0 = .ok (.aload_n 0, 1) := by decide +kernel
theorem d6_1 : decode prog_134_method_11_code 1 = .ok (.getfield 27, 3) := by decide +kernel
theorem d6_4 : decode prog_134_method_11_code 4 = .ok (.iload_n 1, 1) := by decide +kernel
theorem d6_5 : decode prog_134_method_11_code 5 = .ok (.iaload, 1) := by decide +kernel
theorem d6_6 : decode prog_134_method_11_code 6 = .ok (.istore_n 2, 1) := by decide +kernel
theorem d6_7 : decode prog_134_method_11_code 7 = .ok (.iload_n 2, 1) := by decide +kernel
theorem d6_8 : decode prog_134_method_11_code 8 = .ok (.iconst (-1), 1) := by decide +kernel
theorem d6_9 : decode prog_134_method_11_code 9 = .ok (.if_icmp .ne 4, 3) := by decide +kernel
theorem d6_12 : decode prog_134_method_11_code 12 = .ok (.return_, 1) := by decide +kernel
theorem d6_13 : decode prog_134_method_11_code 13 = .ok (.aload_n 0, 1) := by decide +kernel
theorem d6_14 : decode prog_134_method_11_code 14 = .ok (.getfield 39, 3) := by decide +kernel
theorem d6_17 : decode prog_134_method_11_code 17 = .ok (.iload_n 1, 1) := by decide +kernel
theorem d6_18 : decode prog_134_method_11_code 18 = .ok (.iaload, 1) := by decide +kernel
theorem d6_19 : decode prog_134_method_11_code 19 = .ok (.istore_n 3, 1) := by decide +kernel
theorem d6_20 : decode prog_134_method_11_code 20 = .ok (.aload_n 0, 1) := by decide +kernel
theorem d6_21 : decode prog_134_method_11_code 21 = .ok (.getfield 36, 3) := by decide +kernel
theorem d6_24 : decode prog_134_method_11_code 24 = .ok (.iload_n 1, 1) := by decide +kernel
theorem d6_25 : decode prog_134_method_11_code 25 = .ok (.iaload, 1) := by decide +kernel
theorem d6_26 : decode prog_134_method_11_code 26 = .ok (.istore 4, 2) := by decide +kernel
theorem d6_28 : decode prog_134_method_11_code 28 = .ok (.iload_n 3, 1) := by decide +kernel
theorem d6_29 : decode prog_134_method_11_code 29 = .ok (.iconst (-1), 1) := by decide +kernel
theorem d6_30 : decode prog_134_method_11_code 30 = .ok (.if_icmp .ne 14, 3) := by decide +kernel
theorem d6_33 : decode prog_134_method_11_code 33 = .ok (.aload_n 0, 1) := by decide +kernel
theorem d6_34 : decode prog_134_method_11_code 34 = .ok (.getfield 30, 3) := by decide +kernel
theorem d6_37 : decode prog_134_method_11_code 37 = .ok (.iload_n 2, 1) := by decide +kernel
theorem d6_38 : decode prog_134_method_11_code 38 = .ok (.iload 4, 2) := by decide +kernel
theorem d6_40 : decode prog_134_method_11_code 40 = .ok (.iastore, 1) := by decide +kernel
theorem d6_41 : decode prog_134_method_11_code 41 = .ok (.goto 11, 3) := by decide +kernel
theorem d6_44 : decode prog_134_method_11_code 44 = .ok (.aload_n 0, 1) := by decide +kernel
theorem d6_45 : decode prog_134_method_11_code 45 = .ok (.getfield 36, 3) := by decide +kernel
theorem d6_48 : decode prog_134_method_11_code 48 = .ok (.iload_n 3, 1) := by decide +kernel
theorem d6_49 : decode prog_134_method_11_code 49 = .ok (.iload 4, 2) := by decide +kernel
theorem d6_51 : decode prog_134_method_11_code 51 = .ok (.iastore, 1) := by decide +kernel
theorem d6_52 : decode prog_134_method_11_code 52 = .ok (.iload 4, 2) := by decide +kernel
theorem d6_54 : decode prog_134_method_11_code 54 = .ok (.iconst (-1), 1) := by decide +kernel
theorem d6_55 : decode prog_134_method_11_code 55 = .ok (.if_icmp .ne 13, 3) := by decide +kernel
theorem d6_58 : decode prog_134_method_11_code 58 = .ok (.aload_n 0, 1) := by decide +kernel
theorem d6_59 : decode prog_134_method_11_code 59 = .ok (.getfield 33, 3) := by decide +kernel
theorem d6_62 : decode prog_134_method_11_code 62 = .ok (.iload_n 2, 1) := by decide +kernel
theorem d6_63 : decode prog_134_method_11_code 63 = .ok (.iload_n 3, 1) := by decide +kernel
theorem d6_64 : decode prog_134_method_11_code 64 = .ok (.iastore, 1) := by decide +kernel
theorem d6_65 : decode prog_134_method_11_code 65 = .ok (.goto 11, 3) := by decide +kernel
theorem d6_68 : decode prog_134_method_11_code 68 = .ok (.aload_n 0, 1) := by decide +kernel
theorem d6_69 : decode prog_134_method_11_code 69 = .ok (.getfield 39, 3) := by decide +kernel
theorem d6_72 : decode prog_134_method_11_code 72 = .ok (.iload 4, 2) := by decide +kernel
theorem d6_74 : decode prog_134_method_11_code 74 = .ok (.iload_n 3, 1) := by decide +kernel
theorem d6_75 : decode prog_134_method_11_code 75 = .ok (.iastore, 1) := by decide +kernel
theorem d6_76 : decode prog_134_method_11_code 76 = .ok (.aload_n 0, 1) := by decide +kernel
theorem d6_77 : decode prog_134_method_11_code 77 = .ok (.getfield 27, 3) := by decide +kernel
theorem d6_80 : decode prog_134_method_11_code 80 = .ok (.iload_n 1, 1) := by decide +kernel
theorem d6_81 : decode prog_134_method_11_code 81 = .ok (.iconst (-1), 1) := by decide +kernel
theorem d6_82 : decode prog_134_method_11_code 82 = .ok (.iastore, 1) := by decide +kernel
theorem d6_83 : decode prog_134_method_11_code 83 = .ok (.aload_n 0, 1) := by decide +kernel
theorem d6_84 : decode prog_134_method_11_code 84 = .ok (.getfield 39, 3) := by decide +kernel
theorem d6_87 : decode prog_134_method_11_code 87 = .ok (.iload_n 1, 1) := by decide +kernel
theorem d6_88 : decode prog_134_method_11_code 88 = .ok (.iconst (-1), 1) := by decide +kernel
theorem d6_89 : decode prog_134_method_11_code 89 = .ok (.iastore, 1) := by decide +kernel
theorem d6_90 : decode prog_134_method_11_code 90 = .ok (.aload_n 0, 1) := by decide +kernel
theorem d6_91 : decode prog_134_method_11_code 91 = .ok (.getfield 36, 3) := by decide +kernel
theorem d6_94 : decode prog_134_method_11_code 94 = .ok (.iload_n 1, 1) := by decide +kernel
theorem d6_95 : decode prog_134_method_11_code 95 = .ok (.iconst (-1), 1) := by decide +kernel
theorem d6_96 : decode prog_134_method_11_code 96 = .ok (.iastore, 1) := by decide +kernel
theorem d6_97 : decode prog_134_method_11_code 97 = .ok (.return_, 1) := by decide +kernel
theorem d12_0 : decode prog_134_method_7_code 0 = .ok (.aload_n 0, 1) := by decide +kernel
theorem d12_1 : decode prog_134_method_7_code 1 = .ok (.iload_n 2, 1) := by decide +kernel
theorem d12_2 : decode prog_134_method_7_code 2 = .ok (.invokevirtual 106, 3) := by decide +kernel
theorem d12_5 : decode prog_134_method_7_code 5 = .ok (.aload_n 0, 1) := by decide +kernel
theorem d12_6 : decode prog_134_method_7_code 6 = .ok (.getfield 27, 3) := by decide +kernel
theorem d12_9 : decode prog_134_method_7_code 9 = .ok (.iload_n 2, 1) := by decide +kernel
theorem d12_10 : decode prog_134_method_7_code 10 = .ok (.iload_n 1, 1) := by decide +kernel
theorem d12_11 : decode prog_134_method_7_code 11 = .ok (.iastore, 1) := by decide +kernel
theorem d12_12 : decode prog_134_method_7_code 12 = .ok (.aload_n 0, 1) := by decide +kernel
theorem d12_13 : decode prog_134_method_7_code 13 = .ok (.getfield 33, 3) := by decide +kernel
theorem d12_16 : decode prog_134_method_7_code 16 = .ok (.iload_n 1, 1) := by decide +kernel
theorem d12_17 : decode prog_134_method_7_code 17 = .ok (.iaload, 1) := by decide +kernel
theorem d12_18 : decode prog_134_method_7_code 18 = .ok (.istore_n 3, 1) := by decide +kernel
theorem d12_19 : decode prog_134_method_7_code 19 = .ok (.aload_n 0, 1) := by decide +kernel
theorem d12_20 : decode prog_134_method_7_code 20 = .ok (.getfield 39, 3) := by decide +kernel
theorem d12_23 : decode prog_134_method_7_code 23 = .ok (.iload_n 2, 1) := by decide +kernel
theorem d12_24 : decode prog_134_method_7_code 24 = .ok (.iload_n 3, 1) := by decide +kernel
theorem d12_25 : decode prog_134_method_7_code 25 = .ok (.iastore, 1) := by decide +kernel
theorem d12_26 : decode prog_134_method_7_code 26 = .ok (.aload_n 0, 1) := by decide +kernel
theorem d12_27 : decode prog_134_method_7_code 27 = .ok (.getfield 36, 3) := by decide +kernel
theorem d12_30 : decode prog_134_method_7_code 30 = .ok (.iload_n 2, 1) := by decide +kernel
theorem d12_31 : decode prog_134_method_7_code 31 = .ok (.iconst (-1), 1) := by decide +kernel
theorem d12_32 : decode prog_134_method_7_code 32 = .ok (.iastore, 1) := by decide +kernel
theorem d12_33 : decode prog_134_method_7_code 33 = .ok (.iload_n 3, 1) := by decide +kernel
theorem d12_34 : decode prog_134_method_7_code 34 = .ok (.iconst (-1), 1) := by decide +kernel
theorem d12_35 : decode prog_134_method_7_code 35 = .ok (.if_icmp .ne 13, 3) := by decide +kernel
theorem d12_38 : decode prog_134_method_7_code 38 = .ok (.aload_n 0, 1) := by decide +kernel
theorem d12_39 : decode prog_134_method_7_code 39 = .ok (.getfield 30, 3) := by decide +kernel
theorem d12_42 : decode prog_134_method_7_code 42 = .ok (.iload_n 1, 1) := by decide +kernel
theorem d12_43 : decode prog_134_method_7_code 43 = .ok (.iload_n 2, 1) := by decide +kernel
theorem d12_44 : decode prog_134_method_7_code 44 = .ok (.iastore, 1) := by decide +kernel
theorem d12_45 : decode prog_134_method_7_code 45 = .ok (.goto 10, 3) := by decide +kernel
theorem d12_48 : decode prog_134_method_7_code 48 = .ok (.aload_n 0, 1) := by decide +kernel
theorem d12_49 : decode prog_134_method_7_code 49 = .ok (.getfield 36, 3) := by decide +kernel
theorem d12_52 : decode prog_134_method_7_code 52 = .ok (.iload_n 3, 1) := by decide +kernel
theorem d12_53 : decode prog_134_method_7_code 53 = .ok (.iload_n 2, 1) := by decide +kernel
theorem d12_54 : decode prog_134_method_7_code 54 = .ok (.iastore, 1) := by decide +kernel
theorem d12_55 : decode prog_134_method_7_code 55 = .ok (.aload_n 0, 1) := by decide +kernel
theorem d12_56 : decode prog_134_method_7_code 56 = .ok (.getfield 33, 3) := by decide +kernel
theorem d12_59 : decode prog_134_method_7_code 59 = .ok (.iload_n 1, 1) := by decide +kernel
theorem d12_60 : decode prog_134_method_7_code 60 = .ok (.iload_n 2, 1) := by decide +kernel
theorem d12_61 : decode prog_134_method_7_code 61 = .ok (.iastore, 1) := by decide +kernel
theorem d12_62 : decode prog_134_method_7_code 62 = .ok (.return_, 1) := by decide +kernel
theorem d7_0 : decode prog_134_method_18_code 0 = .ok (.aload_n 0, 1) := by decide +kernel
theorem d7_1 : decode prog_134_method_18_code 1 = .ok (.getfield 27, 3) := by decide +kernel
theorem d7_4 : decode prog_134_method_18_code 4 = .ok (.iload_n 1, 1) := by decide +kernel
theorem d7_5 : decode prog_134_method_18_code 5 = .ok (.iaload, 1) := by decide +kernel
theorem d7_6 : decode prog_134_method_18_code 6 = .ok (.ireturn, 1) := by decide +kernel
theorem d8_0 : decode prog_134_method_21_code 0 = .ok (.aload_n 0, 1) := by decide +kernel
theorem d8_1 : decode prog_134_method_21_code 1 = .ok (.getfield 36, 3) := by decide +kernel
theorem d8_4 : decode prog_134_method_21_code 4 = .ok (.iload_n 1, 1) := by decide +kernel
theorem d8_5 : decode prog_134_method_21_code 5 = .ok (.iaload, 1) := by decide +kernel
theorem d8_6 : decode prog_134_method_21_code 6 = .ok (.ireturn, 1) := by decide +kernel
theorem d10_0 : decode prog_134_method_19_code 0 = .ok (.aload_n 0, 1) := by decide +kernel
theorem d10_1 : decode prog_134_method_19_code 1 = .ok (.getfield 30, 3) := by decide +kernel
theorem d10_4 : decode prog_134_method_19_code 4 = .ok (.iload_n 1, 1) := by decide +kernel
theorem d10_5 : decode prog_134_method_19_code 5 = .ok (.iaload, 1) := by decide +kernel
theorem d10_6 : decode prog_134_method_19_code 6 = .ok (.ireturn, 1) := by decide +kernel
theorem d11_0 : decode prog_134_method_20_code 0 = .ok (.aload_n 0, 1) := by decide +kernel
theorem d11_1 : decode prog_134_method_20_code 1 = .ok (.getfield 33, 3) := by decide +kernel
theorem d11_4 : decode prog_134_method_20_code 4 = .ok (.iload_n 1, 1) := by decide +kernel
theorem d11_5 : decode prog_134_method_20_code 5 = .ok (.iaload, 1) := by decide +kernel
theorem d11_6 : decode prog_134_method_20_code 6 = .ok (.ireturn, 1) := by decide +kernel
theorem d9_0 : decode method_4_code 0 = .ok (.iload_n 2, 1) := by decide +kernel
theorem d9_1 : decode method_4_code 1 = .ok (.ifCond .ne 7, 3) := by decide +kernel
theorem d9_4 : decode method_4_code 4 = .ok (.iconst (-1), 1) := by decide +kernel
theorem d9_5 : decode method_4_code 5 = .ok (.goto 8, 3) := by decide +kernel
theorem d9_8 : decode method_4_code 8 = .ok (.aload_n 1, 1) := by decide +kernel
theorem d9_9 : decode method_4_code 9 = .ok (.iload_n 2, 1) := by decide +kernel
theorem d9_10 : decode method_4_code 10 = .ok (.iconst 1, 1) := by decide +kernel
theorem d9_11 : decode method_4_code 11 = .ok (.isub, 1) := by decide +kernel
theorem d9_12 : decode method_4_code 12 = .ok (.iaload, 1) := by decide +kernel
theorem d9_13 : decode method_4_code 13 = .ok (.istore_n 3, 1) := by decide +kernel
theorem d9_14 : decode method_4_code 14 = .ok (.aload_n 0, 1) := by decide +kernel
theorem d9_15 : decode method_4_code 15 = .ok (.iconst 0, 1) := by decide +kernel
theorem d9_16 : decode method_4_code 16 = .ok (.invokevirtual 42, 3) := by decide +kernel
theorem d9_19 : decode method_4_code 19 = .ok (.aload_n 1, 1) := by decide +kernel
theorem d9_20 : decode method_4_code 20 = .ok (.iconst 0, 1) := by decide +kernel
theorem d9_21 : decode method_4_code 21 = .ok (.iaload, 1) := by decide +kernel
theorem d9_22 : decode method_4_code 22 = .ok (.if_icmp .ne 16, 3) := by decide +kernel
theorem d9_25 : decode method_4_code 25 = .ok (.aload_n 0, 1) := by decide +kernel
theorem d9_26 : decode method_4_code 26 = .ok (.iconst 0, 1) := by decide +kernel
theorem d9_27 : decode method_4_code 27 = .ok (.invokevirtual 45, 3) := by decide +kernel
theorem d9_30 : decode method_4_code 30 = .ok (.iload_n 3, 1) := by decide +kernel
theorem d9_31 : decode method_4_code 31 = .ok (.if_icmp .ne 7, 3) := by decide +kernel
theorem d9_34 : decode method_4_code 34 = .ok (.iconst 1, 1) := by decide +kernel
theorem d9_35 : decode method_4_code 35 = .ok (.goto 4, 3) := by decide +kernel
theorem d9_38 : decode method_4_code 38 = .ok (.iconst 0, 1) := by decide +kernel
theorem d9_39 : decode method_4_code 39 = .ok (.istore 4, 2) := by decide +kernel
theorem d9_41 : decode method_4_code 41 = .ok (.iload_n 2, 1) := by decide +kernel
theorem d9_42 : decode method_4_code 42 = .ok (.iconst 1, 1) := by decide +kernel
theorem d9_43 : decode method_4_code 43 = .ok (.if_icmp .lt 38, 3) := by decide +kernel
theorem d9_46 : decode method_4_code 46 = .ok (.iload 4, 2) := by decide +kernel
theorem d9_48 : decode method_4_code 48 = .ok (.ifCond .eq 30, 3) := by decide +kernel
theorem d9_51 : decode method_4_code 51 = .ok (.aload_n 0, 1) := by decide +kernel
theorem d9_52 : decode method_4_code 52 = .ok (.aload_n 1, 1) := by decide +kernel
theorem d9_53 : decode method_4_code 53 = .ok (.iconst 0, 1) := by decide +kernel
theorem d9_54 : decode method_4_code 54 = .ok (.iaload, 1) := by decide +kernel
theorem d9_55 : decode method_4_code 55 = .ok (.invokevirtual 31, 3) := by decide +kernel
theorem d9_58 : decode method_4_code 58 = .ok (.ifCond .ne 20, 3) := by decide +kernel
theorem d9_61 : decode method_4_code 61 = .ok (.aload_n 0, 1) := by decide +kernel
theorem d9_62 : decode method_4_code 62 = .ok (.aload_n 1, 1) := by decide +kernel
theorem d9_63 : decode method_4_code 63 = .ok (.iconst 0, 1) := by decide +kernel
theorem d9_64 : decode method_4_code 64 = .ok (.iaload, 1) := by decide +kernel
theorem d9_65 : decode method_4_code 65 = .ok (.invokevirtual 35, 3) := by decide +kernel
theorem d9_68 : decode method_4_code 68 = .ok (.aload_n 1, 1) := by decide +kernel
theorem d9_69 : decode method_4_code 69 = .ok (.iconst 1, 1) := by decide +kernel
theorem d9_70 : decode method_4_code 70 = .ok (.iaload, 1) := by decide +kernel
theorem d9_71 : decode method_4_code 71 = .ok (.if_icmp .ne 7, 3) := by decide +kernel
theorem d9_74 : decode method_4_code 74 = .ok (.iconst 1, 1) := by decide +kernel
theorem d9_75 : decode method_4_code 75 = .ok (.goto 4, 3) := by decide +kernel
theorem d9_78 : decode method_4_code 78 = .ok (.iconst 0, 1) := by decide +kernel
theorem d9_79 : decode method_4_code 79 = .ok (.istore 4, 2) := by decide +kernel
theorem d9_81 : decode method_4_code 81 = .ok (.iload_n 2, 1) := by decide +kernel
theorem d9_82 : decode method_4_code 82 = .ok (.iconst 2, 1) := by decide +kernel
theorem d9_83 : decode method_4_code 83 = .ok (.if_icmp .lt 38, 3) := by decide +kernel
theorem d9_86 : decode method_4_code 86 = .ok (.iload 4, 2) := by decide +kernel
theorem d9_88 : decode method_4_code 88 = .ok (.ifCond .eq 30, 3) := by decide +kernel
theorem d9_91 : decode method_4_code 91 = .ok (.aload_n 0, 1) := by decide +kernel
theorem d9_92 : decode method_4_code 92 = .ok (.aload_n 1, 1) := by decide +kernel
theorem d9_93 : decode method_4_code 93 = .ok (.iconst 1, 1) := by decide +kernel
theorem d9_94 : decode method_4_code 94 = .ok (.iaload, 1) := by decide +kernel
theorem d9_95 : decode method_4_code 95 = .ok (.invokevirtual 31, 3) := by decide +kernel
theorem d9_98 : decode method_4_code 98 = .ok (.ifCond .ne 20, 3) := by decide +kernel
theorem d9_101 : decode method_4_code 101 = .ok (.aload_n 0, 1) := by decide +kernel
theorem d9_102 : decode method_4_code 102 = .ok (.aload_n 1, 1) := by decide +kernel
theorem d9_103 : decode method_4_code 103 = .ok (.iconst 1, 1) := by decide +kernel
theorem d9_104 : decode method_4_code 104 = .ok (.iaload, 1) := by decide +kernel
theorem d9_105 : decode method_4_code 105 = .ok (.invokevirtual 35, 3) := by decide +kernel
theorem d9_108 : decode method_4_code 108 = .ok (.aload_n 1, 1) := by decide +kernel
theorem d9_109 : decode method_4_code 109 = .ok (.iconst 2, 1) := by decide +kernel
theorem d9_110 : decode method_4_code 110 = .ok (.iaload, 1) := by decide +kernel
theorem d9_111 : decode method_4_code 111 = .ok (.if_icmp .ne 7, 3) := by decide +kernel
theorem d9_114 : decode method_4_code 114 = .ok (.iconst 1, 1) := by decide +kernel
theorem d9_115 : decode method_4_code 115 = .ok (.goto 4, 3) := by decide +kernel
theorem d9_118 : decode method_4_code 118 = .ok (.iconst 0, 1) := by decide +kernel
theorem d9_119 : decode method_4_code 119 = .ok (.istore 4, 2) := by decide +kernel
theorem d9_121 : decode method_4_code 121 = .ok (.iload_n 2, 1) := by decide +kernel
theorem d9_122 : decode method_4_code 122 = .ok (.iconst 3, 1) := by decide +kernel
theorem d9_123 : decode method_4_code 123 = .ok (.if_icmp .lt 38, 3) := by decide +kernel
theorem d9_126 : decode method_4_code 126 = .ok (.iload 4, 2) := by decide +kernel
theorem d9_128 : decode method_4_code 128 = .ok (.ifCond .eq 30, 3) := by decide +kernel
theorem d9_131 : decode method_4_code 131 = .ok (.aload_n 0, 1) := by decide +kernel
theorem d9_132 : decode method_4_code 132 = .ok (.aload_n 1, 1) := by decide +kernel
theorem d9_133 : decode method_4_code 133 = .ok (.iconst 2, 1) := by decide +kernel
theorem d9_134 : decode method_4_code 134 = .ok (.iaload, 1) := by decide +kernel
theorem d9_135 : decode method_4_code 135 = .ok (.invokevirtual 31, 3) := by decide +kernel
theorem d9_138 : decode method_4_code 138 = .ok (.ifCond .ne 20, 3) := by decide +kernel
theorem d9_141 : decode method_4_code 141 = .ok (.aload_n 0, 1) := by decide +kernel
theorem d9_142 : decode method_4_code 142 = .ok (.aload_n 1, 1) := by decide +kernel
theorem d9_143 : decode method_4_code 143 = .ok (.iconst 2, 1) := by decide +kernel
theorem d9_144 : decode method_4_code 144 = .ok (.iaload, 1) := by decide +kernel
theorem d9_145 : decode method_4_code 145 = .ok (.invokevirtual 35, 3) := by decide +kernel
theorem d9_148 : decode method_4_code 148 = .ok (.aload_n 1, 1) := by decide +kernel
theorem d9_149 : decode method_4_code 149 = .ok (.iconst 3, 1) := by decide +kernel
theorem d9_150 : decode method_4_code 150 = .ok (.iaload, 1) := by decide +kernel
theorem d9_151 : decode method_4_code 151 = .ok (.if_icmp .ne 7, 3) := by decide +kernel
theorem d9_154 : decode method_4_code 154 = .ok (.iconst 1, 1) := by decide +kernel
theorem d9_155 : decode method_4_code 155 = .ok (.goto 4, 3) := by decide +kernel
theorem d9_158 : decode method_4_code 158 = .ok (.iconst 0, 1) := by decide +kernel
theorem d9_159 : decode method_4_code 159 = .ok (.istore 4, 2) := by decide +kernel
theorem d9_161 : decode method_4_code 161 = .ok (.iload 4, 2) := by decide +kernel
theorem d9_163 : decode method_4_code 163 = .ok (.ireturn, 1) := by decide +kernel
theorem d13_0 : decode method_3_code 0 = .ok (.iconst 4, 1) := by decide +kernel
theorem d13_1 : decode method_3_code 1 = .ok (.newarray .int, 2) := by decide +kernel
theorem d13_3 : decode method_3_code 3 = .ok (.dup, 1) := by decide +kernel
theorem d13_4 : decode method_3_code 4 = .ok (.iconst 0, 1) := by decide +kernel
theorem d13_5 : decode method_3_code 5 = .ok (.iconst 0, 1) := by decide +kernel
theorem d13_6 : decode method_3_code 6 = .ok (.iload_n 1, 1) := by decide +kernel
theorem d13_7 : decode method_3_code 7 = .ok (.if_icmp .ge 9, 3) := by decide +kernel
theorem d13_10 : decode method_3_code 10 = .ok (.aload_n 0, 1) := by decide +kernel
theorem d13_11 : decode method_3_code 11 = .ok (.iconst 0, 1) := by decide +kernel
theorem d13_12 : decode method_3_code 12 = .ok (.iaload, 1) := by decide +kernel
theorem d13_13 : decode method_3_code 13 = .ok (.goto 6, 3) := by decide +kernel
theorem d13_16 : decode method_3_code 16 = .ok (.aload_n 0, 1) := by decide +kernel
theorem d13_17 : decode method_3_code 17 = .ok (.iconst 1, 1) := by decide +kernel
theorem d13_18 : decode method_3_code 18 = .ok (.iaload, 1) := by decide +kernel
theorem d13_19 : decode method_3_code 19 = .ok (.iastore, 1) := by decide +kernel
theorem d13_20 : decode method_3_code 20 = .ok (.dup, 1) := by decide +kernel
theorem d13_21 : decode method_3_code 21 = .ok (.iconst 1, 1) := by decide +kernel
theorem d13_22 : decode method_3_code 22 = .ok (.iconst 1, 1) := by decide +kernel
theorem d13_23 : decode method_3_code 23 = .ok (.iload_n 1, 1) := by decide +kernel
theorem d13_24 : decode method_3_code 24 = .ok (.if_icmp .ge 9, 3) := by decide +kernel
theorem d13_27 : decode method_3_code 27 = .ok (.aload_n 0, 1) := by decide +kernel
theorem d13_28 : decode method_3_code 28 = .ok (.iconst 1, 1) := by decide +kernel
theorem d13_29 : decode method_3_code 29 = .ok (.iaload, 1) := by decide +kernel
theorem d13_30 : decode method_3_code 30 = .ok (.goto 6, 3) := by decide +kernel
theorem d13_33 : decode method_3_code 33 = .ok (.aload_n 0, 1) := by decide +kernel
theorem d13_34 : decode method_3_code 34 = .ok (.iconst 2, 1) := by decide +kernel
theorem d13_35 : decode method_3_code 35 = .ok (.iaload, 1) := by decide +kernel
theorem d13_36 : decode method_3_code 36 = .ok (.iastore, 1) := by decide +kernel
theorem d13_37 : decode method_3_code 37 = .ok (.dup, 1) := by decide +kernel
theorem d13_38 : decode method_3_code 38 = .ok (.iconst 2, 1) := by decide +kernel
theorem d13_39 : decode method_3_code 39 = .ok (.iconst 2, 1) := by decide +kernel
theorem d13_40 : decode method_3_code 40 = .ok (.iload_n 1, 1) := by decide +kernel
theorem d13_41 : decode method_3_code 41 = .ok (.if_icmp .ge 9, 3) := by decide +kernel
theorem d13_44 : decode method_3_code 44 = .ok (.aload_n 0, 1) := by decide +kernel
theorem d13_45 : decode method_3_code 45 = .ok (.iconst 2, 1) := by decide +kernel
theorem d13_46 : decode method_3_code 46 = .ok (.iaload, 1) := by decide +kernel
theorem d13_47 : decode method_3_code 47 = .ok (.goto 6, 3) := by decide +kernel
theorem d13_50 : decode method_3_code 50 = .ok (.aload_n 0, 1) := by decide +kernel
theorem d13_51 : decode method_3_code 51 = .ok (.iconst 3, 1) := by decide +kernel
theorem d13_52 : decode method_3_code 52 = .ok (.iaload, 1) := by decide +kernel
theorem d13_53 : decode method_3_code 53 = .ok (.iastore, 1) := by decide +kernel
theorem d13_54 : decode method_3_code 54 = .ok (.dup, 1) := by decide +kernel
theorem d13_55 : decode method_3_code 55 = .ok (.iconst 3, 1) := by decide +kernel
theorem d13_56 : decode method_3_code 56 = .ok (.iconst (-1), 1) := by decide +kernel
theorem d13_57 : decode method_3_code 57 = .ok (.iastore, 1) := by decide +kernel
theorem d13_58 : decode method_3_code 58 = .ok (.areturn, 1) := by decide +kernel
theorem pd_0 : parseMethodDescriptor "(I)V" = some ⟨[.int], none⟩ := by decide +kernel
theorem pd_1 : parseMethodDescriptor "(II)I" = some ⟨[.int, .int], some .int⟩ := by decide +kernel
theorem pd_2 : parseMethodDescriptor "(I)I" = some ⟨[.int], some .int⟩ := by decide +kernel
theorem pd_3 : parseMethodDescriptor "([CIZ)V" = some ⟨[(.array .char), .int, .boolean], none⟩ := by decide +kernel
theorem pd_4 : parseMethodDescriptor "(II)V" = some ⟨[.int, .int], none⟩ := by decide +kernel
theorem pd_5 : parseMethodDescriptor "([II)[I" = some ⟨[(.array .int), .int], some (.array .int)⟩ := by decide +kernel
theorem pd_6 : parseMethodDescriptor "(Lcom/example/pith/pith/html/PageTree;[II)Z" = some ⟨[(.object "com/example/pith/pith/html/PageTree"), (.array .int), .int], some .boolean⟩ := by decide +kernel
/-- the five link arrays of the tree: 0 parent, 1 firstChild, 2 lastChild, 3 next, 4 previous -/
def own_fn (i : Fin 5) : String := match i with | 0 => "parent" | 1 => "firstChild" | 2 => "lastChild" | 3 => "next" | 4 => "previous"
abbrev Tree := Fin 5 → List Int32
def own_gt (t : Tree) (i : Fin 5) (x : Int32) : Int32 := (t i).getD x.toNatClampNeg 0
def own_upd (t : Tree) (i : Fin 5) (x v : Int32) : Tree := fun j => if j = i then (t i).set x.toNatClampNeg v else t j
abbrev own_r4 (x : Int32) : Prop := ¬ x < 0 ∧ x < 4
theorem own_r64 {x : Int32} (h : own_r4 x) : ¬ x < 0 ∧ x < 64 := ⟨h.1, Int32.lt_trans h.2 (by decide)⟩
theorem own_r4n {x : Int32} (h : own_r4 x) : x.toNatClampNeg < 4 := by
  obtain ⟨h1, h2⟩ := h
  rw [Int32.lt_iff_toInt_lt] at h1 h2
  have e0 : (0 : Int32).toInt = 0 := rfl
  have e4 : (4 : Int32).toInt = 4 := rfl
  simp only [Int32.toNatClampNeg]; omega
theorem own_r4c {x : Int32} (h : own_r4 x) : x = 0 ∨ x = 1 ∨ x = 2 ∨ x = 3 := by
  obtain ⟨h1, h2⟩ := h
  rw [Int32.lt_iff_toInt_lt] at h1 h2
  have e0 : (0 : Int32).toInt = 0 := rfl
  have e4 : (4 : Int32).toInt = 4 := rfl
  have q : x.toInt = 0 ∨ x.toInt = 1 ∨ x.toInt = 2 ∨ x.toInt = 3 := by omega
  rcases q with q | q | q | q
  · exact Or.inl (Int32.toInt_inj.mp q)
  · exact Or.inr (Or.inl (Int32.toInt_inj.mp q))
  · exact Or.inr (Or.inr (Or.inl (Int32.toInt_inj.mp q)))
  · exact Or.inr (Or.inr (Or.inr (Int32.toInt_inj.mp q)))
def own_len (t : Tree) : Prop := ∀ i, (t i).length = 4
theorem own_len_upd {t : Tree} (h : own_len t) (i : Fin 5) (x v : Int32) : own_len (own_upd t i x v) := fun j => by
  unfold own_upd; split
  · rw [List.length_set]; exact h i
  · exact h j
/-- every entry is -1 or a node -/
def own_ok (t : Tree) : Prop := ∀ (i : Fin 5) (x : Int32), own_r4 x → ¬ own_gt t i x = -1 → own_r4 (own_gt t i x)
theorem own_map_getD (l : List Int32) (k : Nat) : (l.map Value.int).getD k (.int (0 : Int32)) = .int (l.getD k 0) := by
  simp only [List.getD_eq_getElem?_getD, List.getElem?_map]
  cases l[k]? <;> rfl
/-- the tree: its class, its five link arrays and what they hold -/
def Tr (Z : State) (h : Heap) (n0 : Nat) (o : Addr) (ad : Fin 5 → Addr) (kc : Fin 5 → ClassId) (t : Tree) : Prop :=
  Exa Z h o "com/example/pith/pith/html/PageTree" ∧ (∀ i, Fld Z h o "com/example/pith/pith/html/PageTree" (own_fn i) "[I" (.ref (ad i))) ∧ (∀ i, Arv Z h (ad i) (kc i) .int 64 ((t i).map Value.int) (.int (0 : Int32))) ∧ (∀ i, n0 ≤ ad i) ∧ (∀ i, ad i ≠ o) ∧ (∀ i j, ad i = ad j → i = j)
section TrLaws
variable {Z : State} {h h' : Heap} {n0 : Nat} {o : Addr} {ad : Fin 5 → Addr} {kc : Fin 5 → ClassId} {t : Tree} {ws : List Addr}
theorem Tr.exa (H : Tr Z h n0 o ad kc t) : Exa Z h o "com/example/pith/pith/html/PageTree" := H.1
theorem Tr.fld (H : Tr Z h n0 o ad kc t) (i : Fin 5) : Fld Z h o "com/example/pith/pith/html/PageTree" (own_fn i) "[I" (.ref (ad i)) := H.2.1 i
theorem Tr.new (H : Tr Z h n0 o ad kc t) (i : Fin 5) : n0 ≤ ad i := H.2.2.2.1 i
theorem Tr.keep (H : Tr Z h n0 o ad kc t) (K : Keep h h' ws) (ho : o ∉ ws) (ha : ∀ i, ad i ∉ ws) : Tr Z h' n0 o ad kc t :=
  ⟨H.1.keep K, fun i => (H.2.1 i).keep K ho, fun i => (H.2.2.1 i).keep K (ha i), H.2.2.2⟩
theorem Tr.keep0 (H : Tr Z h n0 o ad kc t) (K : Keep h h' []) : Tr Z h' n0 o ad kc t := H.keep K nin0 fun _ => nin0
theorem Tr.arr (H : Tr Z h n0 o ad kc t) (i : Fin 5) {x : Int32} (hx : ¬ x < 0 ∧ x < 64) : ∃ cl : Cell, Arr Z h (ad i) cl .int ∧ ¬ (x < 0 ∨ cl.slots.size ≤ x.toNatClampNeg) ∧ cl.slots[x.toNatClampNeg]? = some (.int (own_gt t i x)) := by
  obtain ⟨cl, A, -, S, M, Ha, -⟩ := H.2.2.1 i
  have hin := inb_of S hx
  refine ⟨cl, A, hin, ?_⟩
  rw [Ha _ (Nat.lt_of_not_le fun q => hin (Or.inr q)), own_map_getD]; rfl
theorem Tr.wr (H : Tr Z h n0 o ad kc t) {i : Fin 5} {x v : Int32} (W : Wr h h' (ad i) x.toNatClampNeg (.int v)) (hl : own_len t) (hx : own_r4 x) : Tr Z h' n0 o ad kc (own_upd t i x v) := by
  refine ⟨H.1.wr W, fun j => (H.2.1 j).other W (Or.inl (Ne.symm (H.2.2.2.2.1 i))), fun j => ?_, H.2.2.2⟩
  by_cases e : j = i
  · subst e
    obtain ⟨cl, A, q, S, M, Ha, G⟩ := H.2.2.1 j
    have V := Arv.set A q S M Ha G rfl W x.toNatClampNeg rfl (by rw [List.length_map, hl j]; exact own_r4n hx)
    rw [← List.map_set] at V
    have u : own_upd t j x v j = (t j).set x.toNatClampNeg v := by unfold own_upd; rw [if_pos rfl]
    rw [u]; exact V
  · have u : own_upd t i x v j = t j := by unfold own_upd; rw [if_neg e]
    rw [u]; exact (H.2.2.1 j).other W fun q => e (H.2.2.2.2.2 _ _ q)
end TrLaws
/-- an array of 64 places of which nothing else is said -/
def AnyA (Z : State) (h : Heap) (a : Addr) (ty : FieldType) : Prop := ∃ (k : ClassId) (vs : List Value), vs.length = 64 ∧ Arv Z h a k ty 64 vs (.int (0 : Int32))
theorem AnyA.keep {Z : State} {h h' : Heap} {a : Addr} {ty : FieldType} {ws : List Addr} (A : AnyA Z h a ty) (K : Keep h h' ws) (q : a ∉ ws) : AnyA Z h' a ty := by obtain ⟨k, vs, l, V⟩ := A; exact ⟨k, vs, l, V.keep K q⟩
theorem AnyA.arr {Z : State} {h : Heap} {a : Addr} {ty : FieldType} (A : AnyA Z h a ty) {x : Int32} (hx : ¬ x < 0 ∧ x < 64) : ∃ cl : Cell, Arr Z h a cl ty ∧ cl.slots.size = (64 : Int32).toNatClampNeg ∧ ¬ (x < 0 ∨ cl.slots.size ≤ x.toNatClampNeg) ∧
    ∀ (h' : Heap) (v : Value), fits ty v = true → Wr h h' a x.toNatClampNeg v → AnyA Z h' a ty := by
  obtain ⟨k, vs, l, cl, A, q, S, M, Ha, G⟩ := A
  have hin := inb_of S hx
  refine ⟨cl, A, S, hin, fun h' v hv W => ⟨k, vs.set x.toNatClampNeg v, by rw [List.length_set]; exact l, Arv.set A q S M Ha G hv W _ rfl ?_⟩⟩
  rw [l]; have := Nat.lt_of_not_le fun q => hin (Or.inr q); rw [S] at this; exact this
/-- the rest of the tree that making a node reads and writes -/
def Bt (Z : State) (h : Heap) (n0 : Nat) (o : Addr) (ad : Fin 5 → Addr) (nm fl : Addr) (sz : Int32) : Prop :=
  Fld Z h o "com/example/pith/pith/html/PageTree" "size" "I" (.int sz) ∧ Fld Z h o "com/example/pith/pith/html/PageTree" "name" "[I" (.ref nm) ∧ Fld Z h o "com/example/pith/pith/html/PageTree" "flags" "[S" (.ref fl) ∧
    AnyA Z h nm .int ∧ AnyA Z h fl .short ∧ (n0 ≤ nm ∧ n0 ≤ fl) ∧ (nm ≠ o ∧ fl ≠ o ∧ nm ≠ fl) ∧ ∀ i, ad i ≠ nm ∧ ad i ≠ fl
def own_det (t : Tree) (x : Int32) : Tree :=
  if own_gt t 0 x = -1 then t else
    own_upd (own_upd (own_upd
      (if own_gt t 3 x = -1 then own_upd (if own_gt t 4 x = -1 then own_upd t 1 (own_gt t 0 x) (own_gt t 3 x) else own_upd t 3 (own_gt t 4 x) (own_gt t 3 x)) 2 (own_gt t 0 x) (own_gt t 4 x)
       else own_upd (if own_gt t 4 x = -1 then own_upd t 1 (own_gt t 0 x) (own_gt t 3 x) else own_upd t 3 (own_gt t 4 x) (own_gt t 3 x)) 4 (own_gt t 3 x) (own_gt t 4 x)) 0 x (-1)) 4 x (-1)) 3 x (-1)
def own_app0 (t : Tree) (p c : Int32) : Tree := own_upd (own_det t c) 0 c p
def own_app1 (t : Tree) (p c : Int32) : Tree := own_upd (own_upd (own_app0 t p c) 4 c (own_gt (own_app0 t p c) 2 p)) 3 c (-1)
def own_app (t : Tree) (p c : Int32) : Tree :=
  own_upd (if own_gt (own_app0 t p c) 2 p = -1 then own_upd (own_app1 t p c) 1 p c else own_upd (own_app1 t p c) 3 (own_gt (own_app0 t p c) 2 p) c) 2 p c
theorem own_len_det {t : Tree} (h : own_len t) (x : Int32) : own_len (own_det t x) := by
  unfold own_det; split
  · exact h
  · refine own_len_upd (own_len_upd (own_len_upd ?_ _ _ _) _ _ _) _ _ _
    split <;> split <;> exact own_len_upd (own_len_upd h _ _ _) _ _ _
def own_new (t : Tree) (x : Int32) : Tree := own_upd (own_upd (own_upd (own_upd (own_upd t 0 x (-1)) 1 x (-1)) 2 x (-1)) 3 x (-1)) 4 x (-1)
def own_rem (l : List Int32) (r : Int32) : List Int32 := [if 0 < r then l.getD 0 0 else l.getD 1 0, if 1 < r then l.getD 1 0 else l.getD 2 0, if 2 < r then l.getD 2 0 else l.getD 3 0, -1]
/-- what chainOk asks: it answers true -/
abbrev own_chain (t : Tree) (e : List Int32) (m : Nat) : Prop :=
  own_gt t 1 0 = e.getD 0 0 ∧ own_gt t 2 0 = (if m = 0 then -1 else e.getD (m - 1) 0) ∧ ∀ i, i < m → own_r4 (e.getD i 0) ∧ own_gt t 0 (e.getD i 0) = 0 ∧ own_gt t 3 (e.getD i 0) = e.getD (i + 1) 0
theorem own_all5 {P : Fin 5 → Prop} (h0 : P 0) (h1 : P 1) (h2 : P 2) (h3 : P 3) (h4 : P 4) : ∀ i, P i
  | 0 => h0 | 1 => h1 | 2 => h2 | 3 => h3 | 4 => h4
def QrmP (Z : State) (o : Addr) (ad : Fin 5 → Addr) (kc : Fin 5 → ClassId) (t : Tree) (x1 : Int32) (h0 : Heap) (n0 : Nat) (v : Option Value) (h : Heap) (L : List Loc) : Prop := v = some (.int (own_gt t 0 x1)) ∧ Fr n0 L ∧ h = h0
theorem ef_rmP (m : MethodId) (x0 : Addr) (x1 : Int32) : entryFrame m #[(.ref x0), (.int x1)] 2 = mkF m 0 #[.val (.ref x0), .val (.int x1)] [] := by first | (simp [entryFrame, mkF, argsToLocals, Value.category]; done) | rfl
theorem pn_rmP : plainName "com/example/pith/pith/html/PageTree" = true := by first | (simp [plainName, overriddenIn]; done) | decide +kernel
set_option maxRecDepth 65536 in
set_option maxHeartbeats 40000000 in
theorem rmP (l : Launch) (Z : State) (a0 : Array Value) (hw : ∀ d ∈ tables_1, d.before a0 Z = true) (ws : List Jvm.Cond) (o : Addr) (ad : Fin 5 → Addr) (kc : Fin 5 → ClassId) (t : Tree) (x1 : Int32) (h0 : Heap) (n0 : Nat) (Z0 : n0 ≤ h0.size) (H0 : Tr Z h0 n0 o ad kc t) (hx1 : ¬ x1 < 0 ∧ x1 < 64) :
    MetFree l (⟨"com/example/pith/pith/html/PageTree", "parent", "(I)I"⟩ : MethodName) (head1 (Jvm.Cond.code (⟨"com/example/pith/pith/html/PageTree", "parent", "(I)I"⟩ : MethodName) prog_134_method_18_code 2 (some .int) :: ws) ({ frames := 0, cells := 0, slots := 0, locals := 0 } : Room)) (fun a U => a = #[(.ref o), (.int x1)] ∧ Z.Warmed39 U.vm ∧ U.heap = h0) (fun _ _ _ _ _ => True) (fun _ U oc U' => ∃ v L, oc = .returned v ∧ QrmP Z o ad kc t x1 h0 n0 v U'.heap L ∧ FrameEnd U oc U' L ({ frames := 0, cells := 0, slots := 0, locals := 0 } : Room).cells ({ frames := 0, cells := 0, slots := 0, locals := 0 } : Room).slots) := by
  refine MetFree.of_bodySF (plainFor_of_name pn_rmP) hisR ?_
  intro p e s m args below meth c s₁ Bd hml0 hP hK
  obtain ⟨rfl, hZ, hh⟩ := hP
  have hx := Bd.exec
  have hby := Bd.bytes
  have hml : c.maxLocals = 2 := hml0
  have hown : s.vm.findClass "com/example/pith/pith/html/PageTree" = some m.cls := findClass_of_methodNamed Bd.named
  have hnm := (name_of_methodNamed Bd.named Bd.method).1
  have X0 : Stand p l e ({ frames := 0, cells := 0, slots := 0, locals := 0 } : Room) s m #[(.ref o), (.int x1)] below meth c s₁ [] 0 0 := Stand.of_body Bd
  have e0 : s₁.heap = h0 := by rw [← hh, Bd.state]; rfl
  have N0 := Fr.nil n0
  have pre0 : ∀ tt, Steps p.tables e below (s₁.setTop (mkF m 0 #[.val (.ref o), .val (.int x1)] [])) tt → Steps p.tables e below (s₁.setTop (entryFrame m #[(.ref o), (.int x1)] 2)) tt := fun tt kt => castTop (ef_rmP m o x1) kt
  obtain ⟨T1, X1, e1, st1⟩ := getF X0 hx hZ hown (host := "") (Or.inl (hw _ (List.mem_of_getElem? (i := 21) rfl))) Via.refl e0 (show Fld Z h0 o "com/example/pith/pith/html/PageTree" "parent" "[I" (.ref (ad 0)) from Tr.fld H0 0) (g := (mkF m 1 #[.val (.ref o), .val (.int x1)] [(.ref o)])) rfl rfl (hb hby d7_1)
  obtain ⟨c2, A2, in2, at2⟩ := Tr.arr H0 0 (x := x1) hx1
  have pre3 : ∀ tt, Steps p.tables e below (T1.setTop (mkF m 6 #[.val (.ref o), .val (.int x1)] [(.int (own_gt t 0 x1))])) tt → Steps p.tables e below (s₁.setTop (entryFrame m #[(.ref o), (.int x1)] 2)) tt := by
    intro tt kt
    refine pre0 tt ?_
    show Steps p.tables e below (s₁.setTop (mkF m 0 #[.val (.ref o), .val (.int x1)] [])) _
    refine XS.aloadN X0.here hx rfl (hb hby d7_0) rfl rfl ?_
    show Steps p.tables e below (s₁.setTop (mkF m 1 #[.val (.ref o), .val (.int x1)] [(.ref o)])) _
    refine st1 _ ?_
    show Steps p.tables e below (T1.setTop (mkF m 4 #[.val (.ref o), .val (.int x1)] [(.ref (ad 0))])) _
    refine XS.iloadN X1.here hx rfl (hb hby d7_4) rfl ?_
    show Steps p.tables e below (T1.setTop (mkF m 5 #[.val (.ref o), .val (.int x1)] [(.int x1), (.ref (ad 0))])) _
    refine X1.iaload hx (j := x1) (v := (.int (own_gt t 0 x1))) (by rw [e1]; exact A2.1) (State.isArrayOf_alike hZ.alike A2.2.1) A2.2.2 in2 at2 (g := (mkF m 5 #[.val (.ref o), .val (.int x1)] [(.int x1), (.ref (ad 0))])) rfl rfl (hb hby d7_5) _ ?_
    exact kt
  obtain ⟨fs, hr, hrun, hended, hW, hsame⟩ := X1.leave (v := some (.int (own_gt t 0 x1))) (fun h => by rw [Bd.returns] at h; cases h)
  refine ⟨_, _, pre3 _ ?_, hrun, hended, _, _, rfl, ?_, ⟨_, rfl⟩, hW, hsame.mono (by decide) (by decide)⟩
  · exact retI X1 hx Bd.returns (hb hby d7_6) hr
  · show QrmP Z o ad kc t x1 h0 n0 _ T1.heap _
    rw [e1]
    exact ⟨rfl, N0, rfl⟩
def QrmF (Z : State) (o : Addr) (ad : Fin 5 → Addr) (kc : Fin 5 → ClassId) (t : Tree) (x1 : Int32) (h0 : Heap) (n0 : Nat) (v : Option Value) (h : Heap) (L : List Loc) : Prop := v = some (.int (own_gt t 1 x1)) ∧ Fr n0 L ∧ h = h0
theorem ef_rmF (m : MethodId) (x0 : Addr) (x1 : Int32) : entryFrame m #[(.ref x0), (.int x1)] 2 = mkF m 0 #[.val (.ref x0), .val (.int x1)] [] := by first | (simp [entryFrame, mkF, argsToLocals, Value.category]; done) | rfl
theorem pn_rmF : plainName "com/example/pith/pith/html/PageTree" = true := by first | (simp [plainName, overriddenIn]; done) | decide +kernel
set_option maxRecDepth 65536 in
set_option maxHeartbeats 40000000 in
theorem rmF (l : Launch) (Z : State) (a0 : Array Value) (hw : ∀ d ∈ tables_1, d.before a0 Z = true) (ws : List Jvm.Cond) (o : Addr) (ad : Fin 5 → Addr) (kc : Fin 5 → ClassId) (t : Tree) (x1 : Int32) (h0 : Heap) (n0 : Nat) (Z0 : n0 ≤ h0.size) (H0 : Tr Z h0 n0 o ad kc t) (hx1 : ¬ x1 < 0 ∧ x1 < 64) :
    MetFree l (⟨"com/example/pith/pith/html/PageTree", "firstChild", "(I)I"⟩ : MethodName) (head1 (Jvm.Cond.code (⟨"com/example/pith/pith/html/PageTree", "firstChild", "(I)I"⟩ : MethodName) prog_134_method_19_code 2 (some .int) :: ws) ({ frames := 0, cells := 0, slots := 0, locals := 0 } : Room)) (fun a U => a = #[(.ref o), (.int x1)] ∧ Z.Warmed39 U.vm ∧ U.heap = h0) (fun _ _ _ _ _ => True) (fun _ U oc U' => ∃ v L, oc = .returned v ∧ QrmF Z o ad kc t x1 h0 n0 v U'.heap L ∧ FrameEnd U oc U' L ({ frames := 0, cells := 0, slots := 0, locals := 0 } : Room).cells ({ frames := 0, cells := 0, slots := 0, locals := 0 } : Room).slots) := by
  refine MetFree.of_bodySF (plainFor_of_name pn_rmF) hisR ?_
  intro p e s m args below meth c s₁ Bd hml0 hP hK
  obtain ⟨rfl, hZ, hh⟩ := hP
  have hx := Bd.exec
  have hby := Bd.bytes
  have hml : c.maxLocals = 2 := hml0
  have hown : s.vm.findClass "com/example/pith/pith/html/PageTree" = some m.cls := findClass_of_methodNamed Bd.named
  have hnm := (name_of_methodNamed Bd.named Bd.method).1
  have X0 : Stand p l e ({ frames := 0, cells := 0, slots := 0, locals := 0 } : Room) s m #[(.ref o), (.int x1)] below meth c s₁ [] 0 0 := Stand.of_body Bd
  have e0 : s₁.heap = h0 := by rw [← hh, Bd.state]; rfl
  have N0 := Fr.nil n0
  have pre0 : ∀ tt, Steps p.tables e below (s₁.setTop (mkF m 0 #[.val (.ref o), .val (.int x1)] [])) tt → Steps p.tables e below (s₁.setTop (entryFrame m #[(.ref o), (.int x1)] 2)) tt := fun tt kt => castTop (ef_rmF m o x1) kt
  obtain ⟨T1, X1, e1, st1⟩ := getF X0 hx hZ hown (host := "") (Or.inl (hw _ (List.mem_of_getElem? (i := 23) rfl))) Via.refl e0 (show Fld Z h0 o "com/example/pith/pith/html/PageTree" "firstChild" "[I" (.ref (ad 1)) from Tr.fld H0 1) (g := (mkF m 1 #[.val (.ref o), .val (.int x1)] [(.ref o)])) rfl rfl (hb hby d10_1)
  obtain ⟨c2, A2, in2, at2⟩ := Tr.arr H0 1 (x := x1) hx1
  have pre3 : ∀ tt, Steps p.tables e below (T1.setTop (mkF m 6 #[.val (.ref o), .val (.int x1)] [(.int (own_gt t 1 x1))])) tt → Steps p.tables e below (s₁.setTop (entryFrame m #[(.ref o), (.int x1)] 2)) tt := by
    intro tt kt
    refine pre0 tt ?_
    show Steps p.tables e below (s₁.setTop (mkF m 0 #[.val (.ref o), .val (.int x1)] [])) _
    refine XS.aloadN X0.here hx rfl (hb hby d10_0) rfl rfl ?_
    show Steps p.tables e below (s₁.setTop (mkF m 1 #[.val (.ref o), .val (.int x1)] [(.ref o)])) _
    refine st1 _ ?_
    show Steps p.tables e below (T1.setTop (mkF m 4 #[.val (.ref o), .val (.int x1)] [(.ref (ad 1))])) _
    refine XS.iloadN X1.here hx rfl (hb hby d10_4) rfl ?_
    show Steps p.tables e below (T1.setTop (mkF m 5 #[.val (.ref o), .val (.int x1)] [(.int x1), (.ref (ad 1))])) _
    refine X1.iaload hx (j := x1) (v := (.int (own_gt t 1 x1))) (by rw [e1]; exact A2.1) (State.isArrayOf_alike hZ.alike A2.2.1) A2.2.2 in2 at2 (g := (mkF m 5 #[.val (.ref o), .val (.int x1)] [(.int x1), (.ref (ad 1))])) rfl rfl (hb hby d10_5) _ ?_
    exact kt
  obtain ⟨fs, hr, hrun, hended, hW, hsame⟩ := X1.leave (v := some (.int (own_gt t 1 x1))) (fun h => by rw [Bd.returns] at h; cases h)
  refine ⟨_, _, pre3 _ ?_, hrun, hended, _, _, rfl, ?_, ⟨_, rfl⟩, hW, hsame.mono (by decide) (by decide)⟩
  · exact retI X1 hx Bd.returns (hb hby d10_6) hr
  · show QrmF Z o ad kc t x1 h0 n0 _ T1.heap _
    rw [e1]
    exact ⟨rfl, N0, rfl⟩
def QrmL (Z : State) (o : Addr) (ad : Fin 5 → Addr) (kc : Fin 5 → ClassId) (t : Tree) (x1 : Int32) (h0 : Heap) (n0 : Nat) (v : Option Value) (h : Heap) (L : List Loc) : Prop := v = some (.int (own_gt t 2 x1)) ∧ Fr n0 L ∧ h = h0
theorem ef_rmL (m : MethodId) (x0 : Addr) (x1 : Int32) : entryFrame m #[(.ref x0), (.int x1)] 2 = mkF m 0 #[.val (.ref x0), .val (.int x1)] [] := by first | (simp [entryFrame, mkF, argsToLocals, Value.category]; done) | rfl
theorem pn_rmL : plainName "com/example/pith/pith/html/PageTree" = true := by first | (simp [plainName, overriddenIn]; done) | decide +kernel
set_option maxRecDepth 65536 in
set_option maxHeartbeats 40000000 in
theorem rmL (l : Launch) (Z : State) (a0 : Array Value) (hw : ∀ d ∈ tables_1, d.before a0 Z = true) (ws : List Jvm.Cond) (o : Addr) (ad : Fin 5 → Addr) (kc : Fin 5 → ClassId) (t : Tree) (x1 : Int32) (h0 : Heap) (n0 : Nat) (Z0 : n0 ≤ h0.size) (H0 : Tr Z h0 n0 o ad kc t) (hx1 : ¬ x1 < 0 ∧ x1 < 64) :
    MetFree l (⟨"com/example/pith/pith/html/PageTree", "lastChild", "(I)I"⟩ : MethodName) (head1 (Jvm.Cond.code (⟨"com/example/pith/pith/html/PageTree", "lastChild", "(I)I"⟩ : MethodName) prog_134_method_20_code 2 (some .int) :: ws) ({ frames := 0, cells := 0, slots := 0, locals := 0 } : Room)) (fun a U => a = #[(.ref o), (.int x1)] ∧ Z.Warmed39 U.vm ∧ U.heap = h0) (fun _ _ _ _ _ => True) (fun _ U oc U' => ∃ v L, oc = .returned v ∧ QrmL Z o ad kc t x1 h0 n0 v U'.heap L ∧ FrameEnd U oc U' L ({ frames := 0, cells := 0, slots := 0, locals := 0 } : Room).cells ({ frames := 0, cells := 0, slots := 0, locals := 0 } : Room).slots) := by
  refine MetFree.of_bodySF (plainFor_of_name pn_rmL) hisR ?_
  intro p e s m args below meth c s₁ Bd hml0 hP hK
  obtain ⟨rfl, hZ, hh⟩ := hP
  have hx := Bd.exec
  have hby := Bd.bytes
  have hml : c.maxLocals = 2 := hml0
  have hown : s.vm.findClass "com/example/pith/pith/html/PageTree" = some m.cls := findClass_of_methodNamed Bd.named
  have hnm := (name_of_methodNamed Bd.named Bd.method).1
  have X0 : Stand p l e ({ frames := 0, cells := 0, slots := 0, locals := 0 } : Room) s m #[(.ref o), (.int x1)] below meth c s₁ [] 0 0 := Stand.of_body Bd
  have e0 : s₁.heap = h0 := by rw [← hh, Bd.state]; rfl
  have N0 := Fr.nil n0
  have pre0 : ∀ tt, Steps p.tables e below (s₁.setTop (mkF m 0 #[.val (.ref o), .val (.int x1)] [])) tt → Steps p.tables e below (s₁.setTop (entryFrame m #[(.ref o), (.int x1)] 2)) tt := fun tt kt => castTop (ef_rmL m o x1) kt
  obtain ⟨T1, X1, e1, st1⟩ := getF X0 hx hZ hown (host := "") (Or.inl (hw _ (List.mem_of_getElem? (i := 25) rfl))) Via.refl e0 (show Fld Z h0 o "com/example/pith/pith/html/PageTree" "lastChild" "[I" (.ref (ad 2)) from Tr.fld H0 2) (g := (mkF m 1 #[.val (.ref o), .val (.int x1)] [(.ref o)])) rfl rfl (hb hby d11_1)
  obtain ⟨c2, A2, in2, at2⟩ := Tr.arr H0 2 (x := x1) hx1
  have pre3 : ∀ tt, Steps p.tables e below (T1.setTop (mkF m 6 #[.val (.ref o), .val (.int x1)] [(.int (own_gt t 2 x1))])) tt → Steps p.tables e below (s₁.setTop (entryFrame m #[(.ref o), (.int x1)] 2)) tt := by
    intro tt kt
    refine pre0 tt ?_
    show Steps p.tables e below (s₁.setTop (mkF m 0 #[.val (.ref o), .val (.int x1)] [])) _
    refine XS.aloadN X0.here hx rfl (hb hby d11_0) rfl rfl ?_
    show Steps p.tables e below (s₁.setTop (mkF m 1 #[.val (.ref o), .val (.int x1)] [(.ref o)])) _
    refine st1 _ ?_
    show Steps p.tables e below (T1.setTop (mkF m 4 #[.val (.ref o), .val (.int x1)] [(.ref (ad 2))])) _
    refine XS.iloadN X1.here hx rfl (hb hby d11_4) rfl ?_
    show Steps p.tables e below (T1.setTop (mkF m 5 #[.val (.ref o), .val (.int x1)] [(.int x1), (.ref (ad 2))])) _
    refine X1.iaload hx (j := x1) (v := (.int (own_gt t 2 x1))) (by rw [e1]; exact A2.1) (State.isArrayOf_alike hZ.alike A2.2.1) A2.2.2 in2 at2 (g := (mkF m 5 #[.val (.ref o), .val (.int x1)] [(.int x1), (.ref (ad 2))])) rfl rfl (hb hby d11_5) _ ?_
    exact kt
  obtain ⟨fs, hr, hrun, hended, hW, hsame⟩ := X1.leave (v := some (.int (own_gt t 2 x1))) (fun h => by rw [Bd.returns] at h; cases h)
  refine ⟨_, _, pre3 _ ?_, hrun, hended, _, _, rfl, ?_, ⟨_, rfl⟩, hW, hsame.mono (by decide) (by decide)⟩
  · exact retI X1 hx Bd.returns (hb hby d11_6) hr
  · show QrmL Z o ad kc t x1 h0 n0 _ T1.heap _
    rw [e1]
    exact ⟨rfl, N0, rfl⟩
def QrmX (Z : State) (o : Addr) (ad : Fin 5 → Addr) (kc : Fin 5 → ClassId) (t : Tree) (x1 : Int32) (h0 : Heap) (n0 : Nat) (v : Option Value) (h : Heap) (L : List Loc) : Prop := v = some (.int (own_gt t 3 x1)) ∧ Fr n0 L ∧ h = h0
theorem ef_rmX (m : MethodId) (x0 : Addr) (x1 : Int32) : entryFrame m #[(.ref x0), (.int x1)] 2 = mkF m 0 #[.val (.ref x0), .val (.int x1)] [] := by first | (simp [entryFrame, mkF, argsToLocals, Value.category]; done) | rfl
theorem pn_rmX : plainName "com/example/pith/pith/html/PageTree" = true := by first | (simp [plainName, overriddenIn]; done) | decide +kernel
set_option maxRecDepth 65536 in
set_option maxHeartbeats 40000000 in
theorem rmX (l : Launch) (Z : State) (a0 : Array Value) (hw : ∀ d ∈ tables_1, d.before a0 Z = true) (ws : List Jvm.Cond) (o : Addr) (ad : Fin 5 → Addr) (kc : Fin 5 → ClassId) (t : Tree) (x1 : Int32) (h0 : Heap) (n0 : Nat) (Z0 : n0 ≤ h0.size) (H0 : Tr Z h0 n0 o ad kc t) (hx1 : ¬ x1 < 0 ∧ x1 < 64) :
    MetFree l (⟨"com/example/pith/pith/html/PageTree", "next", "(I)I"⟩ : MethodName) (head1 (Jvm.Cond.code (⟨"com/example/pith/pith/html/PageTree", "next", "(I)I"⟩ : MethodName) prog_134_method_21_code 2 (some .int) :: ws) ({ frames := 0, cells := 0, slots := 0, locals := 0 } : Room)) (fun a U => a = #[(.ref o), (.int x1)] ∧ Z.Warmed39 U.vm ∧ U.heap = h0) (fun _ _ _ _ _ => True) (fun _ U oc U' => ∃ v L, oc = .returned v ∧ QrmX Z o ad kc t x1 h0 n0 v U'.heap L ∧ FrameEnd U oc U' L ({ frames := 0, cells := 0, slots := 0, locals := 0 } : Room).cells ({ frames := 0, cells := 0, slots := 0, locals := 0 } : Room).slots) := by
  refine MetFree.of_bodySF (plainFor_of_name pn_rmX) hisR ?_
  intro p e s m args below meth c s₁ Bd hml0 hP hK
  obtain ⟨rfl, hZ, hh⟩ := hP
  have hx := Bd.exec
  have hby := Bd.bytes
  have hml : c.maxLocals = 2 := hml0
  have hown : s.vm.findClass "com/example/pith/pith/html/PageTree" = some m.cls := findClass_of_methodNamed Bd.named
  have hnm := (name_of_methodNamed Bd.named Bd.method).1
  have X0 : Stand p l e ({ frames := 0, cells := 0, slots := 0, locals := 0 } : Room) s m #[(.ref o), (.int x1)] below meth c s₁ [] 0 0 := Stand.of_body Bd
  have e0 : s₁.heap = h0 := by rw [← hh, Bd.state]; rfl
  have N0 := Fr.nil n0
  have pre0 : ∀ tt, Steps p.tables e below (s₁.setTop (mkF m 0 #[.val (.ref o), .val (.int x1)] [])) tt → Steps p.tables e below (s₁.setTop (entryFrame m #[(.ref o), (.int x1)] 2)) tt := fun tt kt => castTop (ef_rmX m o x1) kt
  obtain ⟨T1, X1, e1, st1⟩ := getF X0 hx hZ hown (host := "") (Or.inl (hw _ (List.mem_of_getElem? (i := 27) rfl))) Via.refl e0 (show Fld Z h0 o "com/example/pith/pith/html/PageTree" "next" "[I" (.ref (ad 3)) from Tr.fld H0 3) (g := (mkF m 1 #[.val (.ref o), .val (.int x1)] [(.ref o)])) rfl rfl (hb hby d8_1)
  obtain ⟨c2, A2, in2, at2⟩ := Tr.arr H0 3 (x := x1) hx1
  have pre3 : ∀ tt, Steps p.tables e below (T1.setTop (mkF m 6 #[.val (.ref o), .val (.int x1)] [(.int (own_gt t 3 x1))])) tt → Steps p.tables e below (s₁.setTop (entryFrame m #[(.ref o), (.int x1)] 2)) tt := by
    intro tt kt
    refine pre0 tt ?_
    show Steps p.tables e below (s₁.setTop (mkF m 0 #[.val (.ref o), .val (.int x1)] [])) _
    refine XS.aloadN X0.here hx rfl (hb hby d8_0) rfl rfl ?_
    show Steps p.tables e below (s₁.setTop (mkF m 1 #[.val (.ref o), .val (.int x1)] [(.ref o)])) _
    refine st1 _ ?_
    show Steps p.tables e below (T1.setTop (mkF m 4 #[.val (.ref o), .val (.int x1)] [(.ref (ad 3))])) _
    refine XS.iloadN X1.here hx rfl (hb hby d8_4) rfl ?_
    show Steps p.tables e below (T1.setTop (mkF m 5 #[.val (.ref o), .val (.int x1)] [(.int x1), (.ref (ad 3))])) _
    refine X1.iaload hx (j := x1) (v := (.int (own_gt t 3 x1))) (by rw [e1]; exact A2.1) (State.isArrayOf_alike hZ.alike A2.2.1) A2.2.2 in2 at2 (g := (mkF m 5 #[.val (.ref o), .val (.int x1)] [(.int x1), (.ref (ad 3))])) rfl rfl (hb hby d8_5) _ ?_
    exact kt
  obtain ⟨fs, hr, hrun, hended, hW, hsame⟩ := X1.leave (v := some (.int (own_gt t 3 x1))) (fun h => by rw [Bd.returns] at h; cases h)
  refine ⟨_, _, pre3 _ ?_, hrun, hended, _, _, rfl, ?_, ⟨_, rfl⟩, hW, hsame.mono (by decide) (by decide)⟩
  · exact retI X1 hx Bd.returns (hb hby d8_6) hr
  · show QrmX Z o ad kc t x1 h0 n0 _ T1.heap _
    rw [e1]
    exact ⟨rfl, N0, rfl⟩
def QrmD (Z : State) (o : Addr) (ad : Fin 5 → Addr) (kc : Fin 5 → ClassId) (t : Tree) (x1 : Int32) (h0 : Heap) (n0 : Nat) (v : Option Value) (h : Heap) (L : List Loc) : Prop := v = none ∧ Fr n0 L ∧ Keep h0 h [ad 0, ad 1, ad 2, ad 3, ad 4] ∧ Tr Z h n0 o ad kc (own_det t x1)
theorem ef_rmD (m : MethodId) (x0 : Addr) (x1 : Int32) : entryFrame m #[(.ref x0), (.int x1)] 5 = mkF m 0 #[.val (.ref x0), .val (.int x1), .unset, .unset, .unset] [] := by first | (simp [entryFrame, mkF, argsToLocals, Value.category]; done) | rfl
theorem pn_rmD : plainName "com/example/pith/pith/html/PageTree" = true := by first | (simp [plainName, overriddenIn]; done) | decide +kernel
set_option maxRecDepth 65536 in
set_option maxHeartbeats 40000000 in
theorem rmD (l : Launch) (Z : State) (a0 : Array Value) (hw : ∀ d ∈ tables_1, d.before a0 Z = true) (ws : List Jvm.Cond) (o : Addr) (ad : Fin 5 → Addr) (kc : Fin 5 → ClassId) (t : Tree) (x1 : Int32) (h0 : Heap) (n0 : Nat) (Z0 : n0 ≤ h0.size) (H0 : Tr Z h0 n0 o ad kc t) (hl : own_len t) (hok : own_ok t) (hx1 : own_r4 x1) :
    MetFree l (⟨"com/example/pith/pith/html/PageTree", "detach", "(I)V"⟩ : MethodName) (head1 (Jvm.Cond.code (⟨"com/example/pith/pith/html/PageTree", "detach", "(I)V"⟩ : MethodName) prog_134_method_11_code 5 none :: ws) ({ frames := 0, cells := 0, slots := 0, locals := 0 } : Room)) (fun a U => a = #[(.ref o), (.int x1)] ∧ Z.Warmed39 U.vm ∧ U.heap = h0) (fun _ _ _ _ _ => True) (fun _ U oc U' => ∃ v L, oc = .returned v ∧ QrmD Z o ad kc t x1 h0 n0 v U'.heap L ∧ FrameEnd U oc U' L ({ frames := 0, cells := 0, slots := 0, locals := 0 } : Room).cells ({ frames := 0, cells := 0, slots := 0, locals := 0 } : Room).slots) := by
  refine MetFree.of_bodySF (plainFor_of_name pn_rmD) hisR ?_
  intro p e s m args below meth c s₁ Bd hml0 hP hK
  obtain ⟨rfl, hZ, hh⟩ := hP
  have hx := Bd.exec
  have hby := Bd.bytes
  have hml : c.maxLocals = 5 := hml0
  have hown : s.vm.findClass "com/example/pith/pith/html/PageTree" = some m.cls := findClass_of_methodNamed Bd.named
  have hnm := (name_of_methodNamed Bd.named Bd.method).1
  have X0 : Stand p l e ({ frames := 0, cells := 0, slots := 0, locals := 0 } : Room) s m #[(.ref o), (.int x1)] below meth c s₁ [] 0 0 := Stand.of_body Bd
  have e0 : s₁.heap = h0 := by rw [← hh, Bd.state]; rfl
  have N0 := Fr.nil n0
  have pre0 : ∀ tt, Steps p.tables e below (s₁.setTop (mkF m 0 #[.val (.ref o), .val (.int x1), .unset, .unset, .unset] [])) tt → Steps p.tables e below (s₁.setTop (entryFrame m #[(.ref o), (.int x1)] 5)) tt := fun tt kt => castTop (ef_rmD m o x1) kt
  obtain ⟨T1, X1, e1, st1⟩ := getF X0 hx hZ hown (host := "") (Or.inl (hw _ (List.mem_of_getElem? (i := 21) rfl))) Via.refl e0 (show Fld Z h0 o "com/example/pith/pith/html/PageTree" "parent" "[I" (.ref (ad 0)) from Tr.fld H0 0) (g := (mkF m 1 #[.val (.ref o), .val (.int x1), .unset, .unset, .unset] [(.ref o)])) rfl rfl (hb hby d6_1)
  obtain ⟨c2, A2, in2, at2⟩ := Tr.arr H0 0 (x := x1) (own_r64 hx1)
  have pre3 : ∀ tt, Steps p.tables e below (T1.setTop (mkF m 9 #[.val (.ref o), .val (.int x1), .val (.int (own_gt t 0 x1)), .unset, .unset] [(.int (-1 : Int32)), (.int (own_gt t 0 x1))])) tt → Steps p.tables e below (s₁.setTop (entryFrame m #[(.ref o), (.int x1)] 5)) tt := by
    intro tt kt
    refine pre0 tt ?_
    show Steps p.tables e below (s₁.setTop (mkF m 0 #[.val (.ref o), .val (.int x1), .unset, .unset, .unset] [])) _
    refine XS.aloadN X0.here hx rfl (hb hby d6_0) rfl rfl ?_
    show Steps p.tables e below (s₁.setTop (mkF m 1 #[.val (.ref o), .val (.int x1), .unset, .unset, .unset] [(.ref o)])) _
    refine st1 _ ?_
    show Steps p.tables e below (T1.setTop (mkF m 4 #[.val (.ref o), .val (.int x1), .unset, .unset, .unset] [(.ref (ad 0))])) _
    refine XS.iloadN X1.here hx rfl (hb hby d6_4) rfl ?_
    show Steps p.tables e below (T1.setTop (mkF m 5 #[.val (.ref o), .val (.int x1), .unset, .unset, .unset] [(.int x1), (.ref (ad 0))])) _
    refine X1.iaload hx (j := x1) (v := (.int (own_gt t 0 x1))) (by rw [e1]; exact A2.1) (State.isArrayOf_alike hZ.alike A2.2.1) A2.2.2 in2 at2 (g := (mkF m 5 #[.val (.ref o), .val (.int x1), .unset, .unset, .unset] [(.int x1), (.ref (ad 0))])) rfl rfl (hb hby d6_5) _ ?_
    show Steps p.tables e below (T1.setTop (mkF m 6 #[.val (.ref o), .val (.int x1), .unset, .unset, .unset] [(.int (own_gt t 0 x1))])) _
    refine XS.istoreN X1.here hx rfl (hb hby d6_6) rfl (l' := #[.val (.ref o), .val (.int x1), .val (.int (own_gt t 0 x1)), .unset, .unset]) rfl ?_
    show Steps p.tables e below (T1.setTop (mkF m 7 #[.val (.ref o), .val (.int x1), .val (.int (own_gt t 0 x1)), .unset, .unset] [])) _
    refine XS.iloadN X1.here hx rfl (hb hby d6_7) rfl ?_
    show Steps p.tables e below (T1.setTop (mkF m 8 #[.val (.ref o), .val (.int x1), .val (.int (own_gt t 0 x1)), .unset, .unset] [(.int (own_gt t 0 x1))])) _
    refine XS.iconst X1.here hx rfl (hb hby d6_8) ?_
    exact kt
  by_cases c0 : own_gt t 0 x1 = -1
  · have hv : own_det t x1 = t := if_pos c0
    have prea4 : ∀ tt, Steps p.tables e below (T1.setTop (mkF m 12 #[.val (.ref o), .val (.int x1), .val (.int (own_gt t 0 x1)), .unset, .unset] [])) tt → Steps p.tables e below (s₁.setTop (entryFrame m #[(.ref o), (.int x1)] 5)) tt := by
      intro tt kt
      refine pre3 tt ?_
      show Steps p.tables e below (T1.setTop (mkF m 9 #[.val (.ref o), .val (.int x1), .val (.int (own_gt t 0 x1)), .unset, .unset] [(.int (-1 : Int32)), (.int (own_gt t 0 x1))])) _
      refine XS.icmpNo X1.here hx rfl (hb hby d6_9) rfl (teq c0).2 ?_
      exact kt
    obtain ⟨fs, hr, hrun, hended, hW, hsame⟩ := X1.leave (v := none) (fun _ => rfl)
    refine ⟨_, _, prea4 _ ?_, hrun, hended, _, _, rfl, ?_, ⟨_, rfl⟩, hW, hsame.mono (by decide) (by decide)⟩
    · exact X1.returnOut hx Bd.returns (hb hby d6_12) hr
    · show QrmD Z o ad kc t x1 h0 n0 _ T1.heap _
      rw [e1]
      exact ⟨rfl, N0, Keep.refl _ _, by rw [hv]; exact H0⟩
  · have hp := hok 0 x1 hx1 c0
    obtain ⟨Tb4, Xb4, eb4, stb4⟩ := getF X1 hx hZ hown (host := "") (Or.inl (hw _ (List.mem_of_getElem? (i := 29) rfl))) Via.refl e1 (show Fld Z h0 o "com/example/pith/pith/html/PageTree" "previous" "[I" (.ref (ad 4)) from Tr.fld H0 4) (g := (mkF m 14 #[.val (.ref o), .val (.int x1), .val (.int (own_gt t 0 x1)), .unset, .unset] [(.ref o)])) rfl rfl (hb hby d6_14)
    obtain ⟨cb5, Ab5, inb5, atb5⟩ := Tr.arr H0 4 (x := x1) (own_r64 hx1)
    obtain ⟨Tb6, Xb6, eb6, stb6⟩ := getF Xb4 hx hZ hown (host := "") (Or.inl (hw _ (List.mem_of_getElem? (i := 27) rfl))) Via.refl eb4 (show Fld Z h0 o "com/example/pith/pith/html/PageTree" "next" "[I" (.ref (ad 3)) from Tr.fld H0 3) (g := (mkF m 21 #[.val (.ref o), .val (.int x1), .val (.int (own_gt t 0 x1)), .val (.int (own_gt t 4 x1)), .unset] [(.ref o)])) rfl rfl (hb hby d6_21)
    obtain ⟨cb7, Ab7, inb7, atb7⟩ := Tr.arr H0 3 (x := x1) (own_r64 hx1)
    have preb8 : ∀ tt, Steps p.tables e below (Tb6.setTop (mkF m 30 #[.val (.ref o), .val (.int x1), .val (.int (own_gt t 0 x1)), .val (.int (own_gt t 4 x1)), .val (.int (own_gt t 3 x1))] [(.int (-1 : Int32)), (.int (own_gt t 4 x1))])) tt → Steps p.tables e below (s₁.setTop (entryFrame m #[(.ref o), (.int x1)] 5)) tt := by
      intro tt kt
      refine pre3 tt ?_
      show Steps p.tables e below (T1.setTop (mkF m 9 #[.val (.ref o), .val (.int x1), .val (.int (own_gt t 0 x1)), .unset, .unset] [(.int (-1 : Int32)), (.int (own_gt t 0 x1))])) _
      refine XS.icmpYes X1.here hx rfl (pc0 := 9) (pc' := 13) rfl (hb hby d6_9) rfl (feq c0).2 (by decide) (by decide) ?_
      show Steps p.tables e below (T1.setTop (mkF m 13 #[.val (.ref o), .val (.int x1), .val (.int (own_gt t 0 x1)), .unset, .unset] [])) _
      refine XS.aloadN X1.here hx rfl (hb hby d6_13) rfl rfl ?_
      show Steps p.tables e below (T1.setTop (mkF m 14 #[.val (.ref o), .val (.int x1), .val (.int (own_gt t 0 x1)), .unset, .unset] [(.ref o)])) _
      refine stb4 _ ?_
      show Steps p.tables e below (Tb4.setTop (mkF m 17 #[.val (.ref o), .val (.int x1), .val (.int (own_gt t 0 x1)), .unset, .unset] [(.ref (ad 4))])) _
      refine XS.iloadN Xb4.here hx rfl (hb hby d6_17) rfl ?_
      show Steps p.tables e below (Tb4.setTop (mkF m 18 #[.val (.ref o), .val (.int x1), .val (.int (own_gt t 0 x1)), .unset, .unset] [(.int x1), (.ref (ad 4))])) _
      refine Xb4.iaload hx (j := x1) (v := (.int (own_gt t 4 x1))) (by rw [eb4]; exact Ab5.1) (State.isArrayOf_alike hZ.alike Ab5.2.1) Ab5.2.2 inb5 atb5 (g := (mkF m 18 #[.val (.ref o), .val (.int x1), .val (.int (own_gt t 0 x1)), .unset, .unset] [(.int x1), (.ref (ad 4))])) rfl rfl (hb hby d6_18) _ ?_
      show Steps p.tables e below (Tb4.setTop (mkF m 19 #[.val (.ref o), .val (.int x1), .val (.int (own_gt t 0 x1)), .unset, .unset] [(.int (own_gt t 4 x1))])) _
      refine XS.istoreN Xb4.here hx rfl (hb hby d6_19) rfl (l' := #[.val (.ref o), .val (.int x1), .val (.int (own_gt t 0 x1)), .val (.int (own_gt t 4 x1)), .unset]) rfl ?_
      show Steps p.tables e below (Tb4.setTop (mkF m 20 #[.val (.ref o), .val (.int x1), .val (.int (own_gt t 0 x1)), .val (.int (own_gt t 4 x1)), .unset] [])) _
      refine XS.aloadN Xb4.here hx rfl (hb hby d6_20) rfl rfl ?_
      show Steps p.tables e below (Tb4.setTop (mkF m 21 #[.val (.ref o), .val (.int x1), .val (.int (own_gt t 0 x1)), .val (.int (own_gt t 4 x1)), .unset] [(.ref o)])) _
      refine stb6 _ ?_
      show Steps p.tables e below (Tb6.setTop (mkF m 24 #[.val (.ref o), .val (.int x1), .val (.int (own_gt t 0 x1)), .val (.int (own_gt t 4 x1)), .unset] [(.ref (ad 3))])) _
      refine XS.iloadN Xb6.here hx rfl (hb hby d6_24) rfl ?_
      show Steps p.tables e below (Tb6.setTop (mkF m 25 #[.val (.ref o), .val (.int x1), .val (.int (own_gt t 0 x1)), .val (.int (own_gt t 4 x1)), .unset] [(.int x1), (.ref (ad 3))])) _
      refine Xb6.iaload hx (j := x1) (v := (.int (own_gt t 3 x1))) (by rw [eb6]; exact Ab7.1) (State.isArrayOf_alike hZ.alike Ab7.2.1) Ab7.2.2 inb7 atb7 (g := (mkF m 25 #[.val (.ref o), .val (.int x1), .val (.int (own_gt t 0 x1)), .val (.int (own_gt t 4 x1)), .unset] [(.int x1), (.ref (ad 3))])) rfl rfl (hb hby d6_25) _ ?_
      show Steps p.tables e below (Tb6.setTop (mkF m 26 #[.val (.ref o), .val (.int x1), .val (.int (own_gt t 0 x1)), .val (.int (own_gt t 4 x1)), .unset] [(.int (own_gt t 3 x1))])) _
      refine XS.istore Xb6.here hx rfl (hb hby d6_26) rfl (l' := #[.val (.ref o), .val (.int x1), .val (.int (own_gt t 0 x1)), .val (.int (own_gt t 4 x1)), .val (.int (own_gt t 3 x1))]) rfl ?_
      show Steps p.tables e below (Tb6.setTop (mkF m 28 #[.val (.ref o), .val (.int x1), .val (.int (own_gt t 0 x1)), .val (.int (own_gt t 4 x1)), .val (.int (own_gt t 3 x1))] [])) _
      refine XS.iloadN Xb6.here hx rfl (hb hby d6_28) rfl ?_
      show Steps p.tables e below (Tb6.setTop (mkF m 29 #[.val (.ref o), .val (.int x1), .val (.int (own_gt t 0 x1)), .val (.int (own_gt t 4 x1)), .val (.int (own_gt t 3 x1))] [(.int (own_gt t 4 x1))])) _
      refine XS.iconst Xb6.here hx rfl (hb hby d6_29) ?_
      exact kt
    by_cases c1 : own_gt t 4 x1 = -1
    · skip
      obtain ⟨Tc9, Xc9, ec9, stc9⟩ := getF Xb6 hx hZ hown (host := "") (Or.inl (hw _ (List.mem_of_getElem? (i := 23) rfl))) Via.refl eb6 (show Fld Z h0 o "com/example/pith/pith/html/PageTree" "firstChild" "[I" (.ref (ad 1)) from Tr.fld H0 1) (g := (mkF m 34 #[.val (.ref o), .val (.int x1), .val (.int (own_gt t 0 x1)), .val (.int (own_gt t 4 x1)), .val (.int (own_gt t 3 x1))] [(.ref o)])) rfl rfl (hb hby d6_34)
      obtain ⟨cc10, Ac10, inc10, atc10⟩ := Tr.arr H0 1 (x := (own_gt t 0 x1)) (own_r64 hp)
      obtain ⟨Tc11, hc11, Xc11, ec11, Wc11, stc11⟩ := stI Xc9 hx hZ ec9 Ac10 (j := (own_gt t 0 x1)) inc10 (g := (mkF m 40 #[.val (.ref o), .val (.int x1), .val (.int (own_gt t 0 x1)), .val (.int (own_gt t 4 x1)), .val (.int (own_gt t 3 x1))] [(.int (own_gt t 3 x1)), (.int (own_gt t 0 x1)), (.ref (ad 1))])) rfl rfl (hb hby d6_40)
      have Nc11 := Fr.snoc Xc11 N0 (Tr.new H0 1)
      obtain ⟨Lxc11, Xc11, Nxc11⟩ : ∃ L, Stand p l e ({ frames := 0, cells := 0, slots := 0, locals := 0 } : Room) s m #[(.ref o), (.int x1)] below meth c Tc11 L 0 0 ∧ Fr n0 L := ⟨_, Xc11.more (by decide) (by decide), Nc11⟩
      have Hc11 := Tr.wr H0 Wc11 hl hp
      have Mc11 := own_len_upd hl 1 (own_gt t 0 x1) (own_gt t 3 x1)
      have Kc11 : Keep h0 hc11 [ad 0, ad 1, ad 2, ad 3, ad 4] := (Keep.refl h0 [ad 0, ad 1, ad 2, ad 3, ad 4]).wr Wc11 (Or.inl (List.mem_of_getElem? (i := 1) rfl))
      have prec12 : ∀ tt, Steps p.tables e below (Tc11.setTop (mkF m 55 #[.val (.ref o), .val (.int x1), .val (.int (own_gt t 0 x1)), .val (.int (own_gt t 4 x1)), .val (.int (own_gt t 3 x1))] [(.int (-1 : Int32)), (.int (own_gt t 3 x1))])) tt → Steps p.tables e below (s₁.setTop (entryFrame m #[(.ref o), (.int x1)] 5)) tt := by
        intro tt kt
        refine preb8 tt ?_
        show Steps p.tables e below (Tb6.setTop (mkF m 30 #[.val (.ref o), .val (.int x1), .val (.int (own_gt t 0 x1)), .val (.int (own_gt t 4 x1)), .val (.int (own_gt t 3 x1))] [(.int (-1 : Int32)), (.int (own_gt t 4 x1))])) _
        refine XS.icmpNo Xb6.here hx rfl (hb hby d6_30) rfl (teq c1).2 ?_
        show Steps p.tables e below (Tb6.setTop (mkF m 33 #[.val (.ref o), .val (.int x1), .val (.int (own_gt t 0 x1)), .val (.int (own_gt t 4 x1)), .val (.int (own_gt t 3 x1))] [])) _
        refine XS.aloadN Xb6.here hx rfl (hb hby d6_33) rfl rfl ?_
        show Steps p.tables e below (Tb6.setTop (mkF m 34 #[.val (.ref o), .val (.int x1), .val (.int (own_gt t 0 x1)), .val (.int (own_gt t 4 x1)), .val (.int (own_gt t 3 x1))] [(.ref o)])) _
        refine stc9 _ ?_
        show Steps p.tables e below (Tc9.setTop (mkF m 37 #[.val (.ref o), .val (.int x1), .val (.int (own_gt t 0 x1)), .val (.int (own_gt t 4 x1)), .val (.int (own_gt t 3 x1))] [(.ref (ad 1))])) _
        refine XS.iloadN Xc9.here hx rfl (hb hby d6_37) rfl ?_
        show Steps p.tables e below (Tc9.setTop (mkF m 38 #[.val (.ref o), .val (.int x1), .val (.int (own_gt t 0 x1)), .val (.int (own_gt t 4 x1)), .val (.int (own_gt t 3 x1))] [(.int (own_gt t 0 x1)), (.ref (ad 1))])) _
        refine XS.iload Xc9.here hx rfl (hb hby d6_38) rfl ?_
        show Steps p.tables e below (Tc9.setTop (mkF m 40 #[.val (.ref o), .val (.int x1), .val (.int (own_gt t 0 x1)), .val (.int (own_gt t 4 x1)), .val (.int (own_gt t 3 x1))] [(.int (own_gt t 3 x1)), (.int (own_gt t 0 x1)), (.ref (ad 1))])) _
        refine stc11 _ ?_
        show Steps p.tables e below (Tc11.setTop (mkF m 41 #[.val (.ref o), .val (.int x1), .val (.int (own_gt t 0 x1)), .val (.int (own_gt t 4 x1)), .val (.int (own_gt t 3 x1))] [])) _
        refine XS.goto Xc11.here hx rfl (pc0 := 41) (pc' := 52) rfl (hb hby d6_41) (by decide) (by decide) ?_
        show Steps p.tables e below (Tc11.setTop (mkF m 52 #[.val (.ref o), .val (.int x1), .val (.int (own_gt t 0 x1)), .val (.int (own_gt t 4 x1)), .val (.int (own_gt t 3 x1))] [])) _
        refine XS.iload Xc11.here hx rfl (hb hby d6_52) rfl ?_
        show Steps p.tables e below (Tc11.setTop (mkF m 54 #[.val (.ref o), .val (.int x1), .val (.int (own_gt t 0 x1)), .val (.int (own_gt t 4 x1)), .val (.int (own_gt t 3 x1))] [(.int (own_gt t 3 x1))])) _
        refine XS.iconst Xc11.here hx rfl (hb hby d6_54) ?_
        exact kt
      by_cases c2 : own_gt t 3 x1 = -1
      · skip
        obtain ⟨Tce13, Xce13, ece13, stce13⟩ := getF Xc11 hx hZ hown (host := "") (Or.inl (hw _ (List.mem_of_getElem? (i := 25) rfl))) Via.refl ec11 (show Fld Z hc11 o "com/example/pith/pith/html/PageTree" "lastChild" "[I" (.ref (ad 2)) from Tr.fld Hc11 2) (g := (mkF m 59 #[.val (.ref o), .val (.int x1), .val (.int (own_gt t 0 x1)), .val (.int (own_gt t 4 x1)), .val (.int (own_gt t 3 x1))] [(.ref o)])) rfl rfl (hb hby d6_59)
        obtain ⟨cce14, Ace14, ince14, atce14⟩ := Tr.arr Hc11 2 (x := (own_gt t 0 x1)) (own_r64 hp)
        obtain ⟨Tce15, hce15, Xce15, ece15, Wce15, stce15⟩ := stI Xce13 hx hZ ece13 Ace14 (j := (own_gt t 0 x1)) ince14 (g := (mkF m 64 #[.val (.ref o), .val (.int x1), .val (.int (own_gt t 0 x1)), .val (.int (own_gt t 4 x1)), .val (.int (own_gt t 3 x1))] [(.int (own_gt t 4 x1)), (.int (own_gt t 0 x1)), (.ref (ad 2))])) rfl rfl (hb hby d6_64)
        have Nce15 := Fr.snoc Xce15 Nxc11 (Tr.new Hc11 2)
        obtain ⟨Lxce15, Xce15, Nxce15⟩ : ∃ L, Stand p l e ({ frames := 0, cells := 0, slots := 0, locals := 0 } : Room) s m #[(.ref o), (.int x1)] below meth c Tce15 L 0 0 ∧ Fr n0 L := ⟨_, Xce15.more (by decide) (by decide), Nce15⟩
        have Hce15 := Tr.wr Hc11 Wce15 Mc11 hp
        have Mce15 := own_len_upd Mc11 2 (own_gt t 0 x1) (own_gt t 4 x1)
        have Kce15 : Keep h0 hce15 [ad 0, ad 1, ad 2, ad 3, ad 4] := Kc11.wr Wce15 (Or.inl (List.mem_of_getElem? (i := 2) rfl))
        obtain ⟨Tce16, Xce16, ece16, stce16⟩ := getF Xce15 hx hZ hown (host := "") (Or.inl (hw _ (List.mem_of_getElem? (i := 21) rfl))) Via.refl ece15 (show Fld Z hce15 o "com/example/pith/pith/html/PageTree" "parent" "[I" (.ref (ad 0)) from Tr.fld Hce15 0) (g := (mkF m 77 #[.val (.ref o), .val (.int x1), .val (.int (own_gt t 0 x1)), .val (.int (own_gt t 4 x1)), .val (.int (own_gt t 3 x1))] [(.ref o)])) rfl rfl (hb hby d6_77)
        obtain ⟨cce17, Ace17, ince17, atce17⟩ := Tr.arr Hce15 0 (x := x1) (own_r64 hx1)
        obtain ⟨Tce18, hce18, Xce18, ece18, Wce18, stce18⟩ := stI Xce16 hx hZ ece16 Ace17 (j := x1) ince17 (g := (mkF m 82 #[.val (.ref o), .val (.int x1), .val (.int (own_gt t 0 x1)), .val (.int (own_gt t 4 x1)), .val (.int (own_gt t 3 x1))] [(.int (-1 : Int32)), (.int x1), (.ref (ad 0))])) rfl rfl (hb hby d6_82)
        have Nce18 := Fr.snoc Xce18 Nxce15 (Tr.new Hce15 0)
        obtain ⟨Lxce18, Xce18, Nxce18⟩ : ∃ L, Stand p l e ({ frames := 0, cells := 0, slots := 0, locals := 0 } : Room) s m #[(.ref o), (.int x1)] below meth c Tce18 L 0 0 ∧ Fr n0 L := ⟨_, Xce18.more (by decide) (by decide), Nce18⟩
        have Hce18 := Tr.wr Hce15 Wce18 Mce15 hx1
        have Mce18 := own_len_upd Mce15 0 x1 (-1)
        have Kce18 : Keep h0 hce18 [ad 0, ad 1, ad 2, ad 3, ad 4] := Kce15.wr Wce18 (Or.inl (List.mem_of_getElem? (i := 0) rfl))
        obtain ⟨Tce19, Xce19, ece19, stce19⟩ := getF Xce18 hx hZ hown (host := "") (Or.inl (hw _ (List.mem_of_getElem? (i := 29) rfl))) Via.refl ece18 (show Fld Z hce18 o "com/example/pith/pith/html/PageTree" "previous" "[I" (.ref (ad 4)) from Tr.fld Hce18 4) (g := (mkF m 84 #[.val (.ref o), .val (.int x1), .val (.int (own_gt t 0 x1)), .val (.int (own_gt t 4 x1)), .val (.int (own_gt t 3 x1))] [(.ref o)])) rfl rfl (hb hby d6_84)
        obtain ⟨cce20, Ace20, ince20, atce20⟩ := Tr.arr Hce18 4 (x := x1) (own_r64 hx1)
        obtain ⟨Tce21, hce21, Xce21, ece21, Wce21, stce21⟩ := stI Xce19 hx hZ ece19 Ace20 (j := x1) ince20 (g := (mkF m 89 #[.val (.ref o), .val (.int x1), .val (.int (own_gt t 0 x1)), .val (.int (own_gt t 4 x1)), .val (.int (own_gt t 3 x1))] [(.int (-1 : Int32)), (.int x1), (.ref (ad 4))])) rfl rfl (hb hby d6_89)
        have Nce21 := Fr.snoc Xce21 Nxce18 (Tr.new Hce18 4)
        obtain ⟨Lxce21, Xce21, Nxce21⟩ : ∃ L, Stand p l e ({ frames := 0, cells := 0, slots := 0, locals := 0 } : Room) s m #[(.ref o), (.int x1)] below meth c Tce21 L 0 0 ∧ Fr n0 L := ⟨_, Xce21.more (by decide) (by decide), Nce21⟩
        have Hce21 := Tr.wr Hce18 Wce21 Mce18 hx1
        have Mce21 := own_len_upd Mce18 4 x1 (-1)
        have Kce21 : Keep h0 hce21 [ad 0, ad 1, ad 2, ad 3, ad 4] := Kce18.wr Wce21 (Or.inl (List.mem_of_getElem? (i := 4) rfl))
        obtain ⟨Tce22, Xce22, ece22, stce22⟩ := getF Xce21 hx hZ hown (host := "") (Or.inl (hw _ (List.mem_of_getElem? (i := 27) rfl))) Via.refl ece21 (show Fld Z hce21 o "com/example/pith/pith/html/PageTree" "next" "[I" (.ref (ad 3)) from Tr.fld Hce21 3) (g := (mkF m 91 #[.val (.ref o), .val (.int x1), .val (.int (own_gt t 0 x1)), .val (.int (own_gt t 4 x1)), .val (.int (own_gt t 3 x1))] [(.ref o)])) rfl rfl (hb hby d6_91)
        obtain ⟨cce23, Ace23, ince23, atce23⟩ := Tr.arr Hce21 3 (x := x1) (own_r64 hx1)
        obtain ⟨Tce24, hce24, Xce24, ece24, Wce24, stce24⟩ := stI Xce22 hx hZ ece22 Ace23 (j := x1) ince23 (g := (mkF m 96 #[.val (.ref o), .val (.int x1), .val (.int (own_gt t 0 x1)), .val (.int (own_gt t 4 x1)), .val (.int (own_gt t 3 x1))] [(.int (-1 : Int32)), (.int x1), (.ref (ad 3))])) rfl rfl (hb hby d6_96)
        have Nce24 := Fr.snoc Xce24 Nxce21 (Tr.new Hce21 3)
        obtain ⟨Lxce24, Xce24, Nxce24⟩ : ∃ L, Stand p l e ({ frames := 0, cells := 0, slots := 0, locals := 0 } : Room) s m #[(.ref o), (.int x1)] below meth c Tce24 L 0 0 ∧ Fr n0 L := ⟨_, Xce24.more (by decide) (by decide), Nce24⟩
        have Hce24 := Tr.wr Hce21 Wce24 Mce21 hx1
        have Mce24 := own_len_upd Mce21 3 x1 (-1)
        have Kce24 : Keep h0 hce24 [ad 0, ad 1, ad 2, ad 3, ad 4] := Kce21.wr Wce24 (Or.inl (List.mem_of_getElem? (i := 3) rfl))
        have hv : own_det t x1 = (own_upd (own_upd (own_upd (own_upd (own_upd t 1 (own_gt t 0 x1) (own_gt t 3 x1)) 2 (own_gt t 0 x1) (own_gt t 4 x1)) 0 x1 (-1)) 4 x1 (-1)) 3 x1 (-1)) := by unfold own_det; rw [if_neg c0, if_pos c2, if_pos c1]
        have prece25 : ∀ tt, Steps p.tables e below (Tce24.setTop (mkF m 97 #[.val (.ref o), .val (.int x1), .val (.int (own_gt t 0 x1)), .val (.int (own_gt t 4 x1)), .val (.int (own_gt t 3 x1))] [])) tt → Steps p.tables e below (s₁.setTop (entryFrame m #[(.ref o), (.int x1)] 5)) tt := by
          intro tt kt
          refine prec12 tt ?_
          show Steps p.tables e below (Tc11.setTop (mkF m 55 #[.val (.ref o), .val (.int x1), .val (.int (own_gt t 0 x1)), .val (.int (own_gt t 4 x1)), .val (.int (own_gt t 3 x1))] [(.int (-1 : Int32)), (.int (own_gt t 3 x1))])) _
          refine XS.icmpNo Xc11.here hx rfl (hb hby d6_55) rfl (teq c2).2 ?_
          show Steps p.tables e below (Tc11.setTop (mkF m 58 #[.val (.ref o), .val (.int x1), .val (.int (own_gt t 0 x1)), .val (.int (own_gt t 4 x1)), .val (.int (own_gt t 3 x1))] [])) _
          refine XS.aloadN Xc11.here hx rfl (hb hby d6_58) rfl rfl ?_
          show Steps p.tables e below (Tc11.setTop (mkF m 59 #[.val (.ref o), .val (.int x1), .val (.int (own_gt t 0 x1)), .val (.int (own_gt t 4 x1)), .val (.int (own_gt t 3 x1))] [(.ref o)])) _
          refine stce13 _ ?_
          show Steps p.tables e below (Tce13.setTop (mkF m 62 #[.val (.ref o), .val (.int x1), .val (.int (own_gt t 0 x1)), .val (.int (own_gt t 4 x1)), .val (.int (own_gt t 3 x1))] [(.ref (ad 2))])) _
          refine XS.iloadN Xce13.here hx rfl (hb hby d6_62) rfl ?_
          show Steps p.tables e below (Tce13.setTop (mkF m 63 #[.val (.ref o), .val (.int x1), .val (.int (own_gt t 0 x1)), .val (.int (own_gt t 4 x1)), .val (.int (own_gt t 3 x1))] [(.int (own_gt t 0 x1)), (.ref (ad 2))])) _
          refine XS.iloadN Xce13.here hx rfl (hb hby d6_63) rfl ?_
          show Steps p.tables e below (Tce13.setTop (mkF m 64 #[.val (.ref o), .val (.int x1), .val (.int (own_gt t 0 x1)), .val (.int (own_gt t 4 x1)), .val (.int (own_gt t 3 x1))] [(.int (own_gt t 4 x1)), (.int (own_gt t 0 x1)), (.ref (ad 2))])) _
          refine stce15 _ ?_
          show Steps p.tables e below (Tce15.setTop (mkF m 65 #[.val (.ref o), .val (.int x1), .val (.int (own_gt t 0 x1)), .val (.int (own_gt t 4 x1)), .val (.int (own_gt t 3 x1))] [])) _
          refine XS.goto Xce15.here hx rfl (pc0 := 65) (pc' := 76) rfl (hb hby d6_65) (by decide) (by decide) ?_
          show Steps p.tables e below (Tce15.setTop (mkF m 76 #[.val (.ref o), .val (.int x1), .val (.int (own_gt t 0 x1)), .val (.int (own_gt t 4 x1)), .val (.int (own_gt t 3 x1))] [])) _
          refine XS.aloadN Xce15.here hx rfl (hb hby d6_76) rfl rfl ?_
          show Steps p.tables e below (Tce15.setTop (mkF m 77 #[.val (.ref o), .val (.int x1), .val (.int (own_gt t 0 x1)), .val (.int (own_gt t 4 x1)), .val (.int (own_gt t 3 x1))] [(.ref o)])) _
          refine stce16 _ ?_
          show Steps p.tables e below (Tce16.setTop (mkF m 80 #[.val (.ref o), .val (.int x1), .val (.int (own_gt t 0 x1)), .val (.int (own_gt t 4 x1)), .val (.int (own_gt t 3 x1))] [(.ref (ad 0))])) _
          refine XS.iloadN Xce16.here hx rfl (hb hby d6_80) rfl ?_
          show Steps p.tables e below (Tce16.setTop (mkF m 81 #[.val (.ref o), .val (.int x1), .val (.int (own_gt t 0 x1)), .val (.int (own_gt t 4 x1)), .val (.int (own_gt t 3 x1))] [(.int x1), (.ref (ad 0))])) _
          refine XS.iconst Xce16.here hx rfl (hb hby d6_81) ?_
          show Steps p.tables e below (Tce16.setTop (mkF m 82 #[.val (.ref o), .val (.int x1), .val (.int (own_gt t 0 x1)), .val (.int (own_gt t 4 x1)), .val (.int (own_gt t 3 x1))] [(.int (-1 : Int32)), (.int x1), (.ref (ad 0))])) _
          refine stce18 _ ?_
          show Steps p.tables e below (Tce18.setTop (mkF m 83 #[.val (.ref o), .val (.int x1), .val (.int (own_gt t 0 x1)), .val (.int (own_gt t 4 x1)), .val (.int (own_gt t 3 x1))] [])) _
          refine XS.aloadN Xce18.here hx rfl (hb hby d6_83) rfl rfl ?_
          show Steps p.tables e below (Tce18.setTop (mkF m 84 #[.val (.ref o), .val (.int x1), .val (.int (own_gt t 0 x1)), .val (.int (own_gt t 4 x1)), .val (.int (own_gt t 3 x1))] [(.ref o)])) _
          refine stce19 _ ?_
          show Steps p.tables e below (Tce19.setTop (mkF m 87 #[.val (.ref o), .val (.int x1), .val (.int (own_gt t 0 x1)), .val (.int (own_gt t 4 x1)), .val (.int (own_gt t 3 x1))] [(.ref (ad 4))])) _
          refine XS.iloadN Xce19.here hx rfl (hb hby d6_87) rfl ?_
          show Steps p.tables e below (Tce19.setTop (mkF m 88 #[.val (.ref o), .val (.int x1), .val (.int (own_gt t 0 x1)), .val (.int (own_gt t 4 x1)), .val (.int (own_gt t 3 x1))] [(.int x1), (.ref (ad 4))])) _
          refine XS.iconst Xce19.here hx rfl (hb hby d6_88) ?_
          show Steps p.tables e below (Tce19.setTop (mkF m 89 #[.val (.ref o), .val (.int x1), .val (.int (own_gt t 0 x1)), .val (.int (own_gt t 4 x1)), .val (.int (own_gt t 3 x1))] [(.int (-1 : Int32)), (.int x1), (.ref (ad 4))])) _
          refine stce21 _ ?_
          show Steps p.tables e below (Tce21.setTop (mkF m 90 #[.val (.ref o), .val (.int x1), .val (.int (own_gt t 0 x1)), .val (.int (own_gt t 4 x1)), .val (.int (own_gt t 3 x1))] [])) _
          refine XS.aloadN Xce21.here hx rfl (hb hby d6_90) rfl rfl ?_
          show Steps p.tables e below (Tce21.setTop (mkF m 91 #[.val (.ref o), .val (.int x1), .val (.int (own_gt t 0 x1)), .val (.int (own_gt t 4 x1)), .val (.int (own_gt t 3 x1))] [(.ref o)])) _
          refine stce22 _ ?_
          show Steps p.tables e below (Tce22.setTop (mkF m 94 #[.val (.ref o), .val (.int x1), .val (.int (own_gt t 0 x1)), .val (.int (own_gt t 4 x1)), .val (.int (own_gt t 3 x1))] [(.ref (ad 3))])) _
          refine XS.iloadN Xce22.here hx rfl (hb hby d6_94) rfl ?_
          show Steps p.tables e below (Tce22.setTop (mkF m 95 #[.val (.ref o), .val (.int x1), .val (.int (own_gt t 0 x1)), .val (.int (own_gt t 4 x1)), .val (.int (own_gt t 3 x1))] [(.int x1), (.ref (ad 3))])) _
          refine XS.iconst Xce22.here hx rfl (hb hby d6_95) ?_
          show Steps p.tables e below (Tce22.setTop (mkF m 96 #[.val (.ref o), .val (.int x1), .val (.int (own_gt t 0 x1)), .val (.int (own_gt t 4 x1)), .val (.int (own_gt t 3 x1))] [(.int (-1 : Int32)), (.int x1), (.ref (ad 3))])) _
          refine stce24 _ ?_
          exact kt
        obtain ⟨fs, hr, hrun, hended, hW, hsame⟩ := Xce24.leave (v := none) (fun _ => rfl)
        refine ⟨_, _, prece25 _ ?_, hrun, hended, _, _, rfl, ?_, ⟨_, rfl⟩, hW, hsame.mono (by decide) (by decide)⟩
        · exact Xce24.returnOut hx Bd.returns (hb hby d6_97) hr
        · show QrmD Z o ad kc t x1 h0 n0 _ Tce24.heap _
          rw [ece24]
          exact ⟨rfl, Nxce24, Kce24, by rw [hv]; exact Hce24⟩
      · skip
        have hn3 := hok 3 x1 hx1 c2
        obtain ⟨Tcf13, Xcf13, ecf13, stcf13⟩ := getF Xc11 hx hZ hown (host := "") (Or.inl (hw _ (List.mem_of_getElem? (i := 29) rfl))) Via.refl ec11 (show Fld Z hc11 o "com/example/pith/pith/html/PageTree" "previous" "[I" (.ref (ad 4)) from Tr.fld Hc11 4) (g := (mkF m 69 #[.val (.ref o), .val (.int x1), .val (.int (own_gt t 0 x1)), .val (.int (own_gt t 4 x1)), .val (.int (own_gt t 3 x1))] [(.ref o)])) rfl rfl (hb hby d6_69)
        obtain ⟨ccf14, Acf14, incf14, atcf14⟩ := Tr.arr Hc11 4 (x := (own_gt t 3 x1)) (own_r64 hn3)
        obtain ⟨Tcf15, hcf15, Xcf15, ecf15, Wcf15, stcf15⟩ := stI Xcf13 hx hZ ecf13 Acf14 (j := (own_gt t 3 x1)) incf14 (g := (mkF m 75 #[.val (.ref o), .val (.int x1), .val (.int (own_gt t 0 x1)), .val (.int (own_gt t 4 x1)), .val (.int (own_gt t 3 x1))] [(.int (own_gt t 4 x1)), (.int (own_gt t 3 x1)), (.ref (ad 4))])) rfl rfl (hb hby d6_75)
        have Ncf15 := Fr.snoc Xcf15 Nxc11 (Tr.new Hc11 4)
        obtain ⟨Lxcf15, Xcf15, Nxcf15⟩ : ∃ L, Stand p l e ({ frames := 0, cells := 0, slots := 0, locals := 0 } : Room) s m #[(.ref o), (.int x1)] below meth c Tcf15 L 0 0 ∧ Fr n0 L := ⟨_, Xcf15.more (by decide) (by decide), Ncf15⟩
        have Hcf15 := Tr.wr Hc11 Wcf15 Mc11 hn3
        have Mcf15 := own_len_upd Mc11 4 (own_gt t 3 x1) (own_gt t 4 x1)
        have Kcf15 : Keep h0 hcf15 [ad 0, ad 1, ad 2, ad 3, ad 4] := Kc11.wr Wcf15 (Or.inl (List.mem_of_getElem? (i := 4) rfl))
        obtain ⟨Tcf16, Xcf16, ecf16, stcf16⟩ := getF Xcf15 hx hZ hown (host := "") (Or.inl (hw _ (List.mem_of_getElem? (i := 21) rfl))) Via.refl ecf15 (show Fld Z hcf15 o "com/example/pith/pith/html/PageTree" "parent" "[I" (.ref (ad 0)) from Tr.fld Hcf15 0) (g := (mkF m 77 #[.val (.ref o), .val (.int x1), .val (.int (own_gt t 0 x1)), .val (.int (own_gt t 4 x1)), .val (.int (own_gt t 3 x1))] [(.ref o)])) rfl rfl (hb hby d6_77)
        obtain ⟨ccf17, Acf17, incf17, atcf17⟩ := Tr.arr Hcf15 0 (x := x1) (own_r64 hx1)
        obtain ⟨Tcf18, hcf18, Xcf18, ecf18, Wcf18, stcf18⟩ := stI Xcf16 hx hZ ecf16 Acf17 (j := x1) incf17 (g := (mkF m 82 #[.val (.ref o), .val (.int x1), .val (.int (own_gt t 0 x1)), .val (.int (own_gt t 4 x1)), .val (.int (own_gt t 3 x1))] [(.int (-1 : Int32)), (.int x1), (.ref (ad 0))])) rfl rfl (hb hby d6_82)
        have Ncf18 := Fr.snoc Xcf18 Nxcf15 (Tr.new Hcf15 0)
        obtain ⟨Lxcf18, Xcf18, Nxcf18⟩ : ∃ L, Stand p l e ({ frames := 0, cells := 0, slots := 0, locals := 0 } : Room) s m #[(.ref o), (.int x1)] below meth c Tcf18 L 0 0 ∧ Fr n0 L := ⟨_, Xcf18.more (by decide) (by decide), Ncf18⟩
        have Hcf18 := Tr.wr Hcf15 Wcf18 Mcf15 hx1
        have Mcf18 := own_len_upd Mcf15 0 x1 (-1)
        have Kcf18 : Keep h0 hcf18 [ad 0, ad 1, ad 2, ad 3, ad 4] := Kcf15.wr Wcf18 (Or.inl (List.mem_of_getElem? (i := 0) rfl))
        obtain ⟨Tcf19, Xcf19, ecf19, stcf19⟩ := getF Xcf18 hx hZ hown (host := "") (Or.inl (hw _ (List.mem_of_getElem? (i := 29) rfl))) Via.refl ecf18 (show Fld Z hcf18 o "com/example/pith/pith/html/PageTree" "previous" "[I" (.ref (ad 4)) from Tr.fld Hcf18 4) (g := (mkF m 84 #[.val (.ref o), .val (.int x1), .val (.int (own_gt t 0 x1)), .val (.int (own_gt t 4 x1)), .val (.int (own_gt t 3 x1))] [(.ref o)])) rfl rfl (hb hby d6_84)
        obtain ⟨ccf20, Acf20, incf20, atcf20⟩ := Tr.arr Hcf18 4 (x := x1) (own_r64 hx1)
        obtain ⟨Tcf21, hcf21, Xcf21, ecf21, Wcf21, stcf21⟩ := stI Xcf19 hx hZ ecf19 Acf20 (j := x1) incf20 (g := (mkF m 89 #[.val (.ref o), .val (.int x1), .val (.int (own_gt t 0 x1)), .val (.int (own_gt t 4 x1)), .val (.int (own_gt t 3 x1))] [(.int (-1 : Int32)), (.int x1), (.ref (ad 4))])) rfl rfl (hb hby d6_89)
        have Ncf21 := Fr.snoc Xcf21 Nxcf18 (Tr.new Hcf18 4)
        obtain ⟨Lxcf21, Xcf21, Nxcf21⟩ : ∃ L, Stand p l e ({ frames := 0, cells := 0, slots := 0, locals := 0 } : Room) s m #[(.ref o), (.int x1)] below meth c Tcf21 L 0 0 ∧ Fr n0 L := ⟨_, Xcf21.more (by decide) (by decide), Ncf21⟩
        have Hcf21 := Tr.wr Hcf18 Wcf21 Mcf18 hx1
        have Mcf21 := own_len_upd Mcf18 4 x1 (-1)
        have Kcf21 : Keep h0 hcf21 [ad 0, ad 1, ad 2, ad 3, ad 4] := Kcf18.wr Wcf21 (Or.inl (List.mem_of_getElem? (i := 4) rfl))
        obtain ⟨Tcf22, Xcf22, ecf22, stcf22⟩ := getF Xcf21 hx hZ hown (host := "") (Or.inl (hw _ (List.mem_of_getElem? (i := 27) rfl))) Via.refl ecf21 (show Fld Z hcf21 o "com/example/pith/pith/html/PageTree" "next" "[I" (.ref (ad 3)) from Tr.fld Hcf21 3) (g := (mkF m 91 #[.val (.ref o), .val (.int x1), .val (.int (own_gt t 0 x1)), .val (.int (own_gt t 4 x1)), .val (.int (own_gt t 3 x1))] [(.ref o)])) rfl rfl (hb hby d6_91)
        obtain ⟨ccf23, Acf23, incf23, atcf23⟩ := Tr.arr Hcf21 3 (x := x1) (own_r64 hx1)
        obtain ⟨Tcf24, hcf24, Xcf24, ecf24, Wcf24, stcf24⟩ := stI Xcf22 hx hZ ecf22 Acf23 (j := x1) incf23 (g := (mkF m 96 #[.val (.ref o), .val (.int x1), .val (.int (own_gt t 0 x1)), .val (.int (own_gt t 4 x1)), .val (.int (own_gt t 3 x1))] [(.int (-1 : Int32)), (.int x1), (.ref (ad 3))])) rfl rfl (hb hby d6_96)
        have Ncf24 := Fr.snoc Xcf24 Nxcf21 (Tr.new Hcf21 3)
        obtain ⟨Lxcf24, Xcf24, Nxcf24⟩ : ∃ L, Stand p l e ({ frames := 0, cells := 0, slots := 0, locals := 0 } : Room) s m #[(.ref o), (.int x1)] below meth c Tcf24 L 0 0 ∧ Fr n0 L := ⟨_, Xcf24.more (by decide) (by decide), Ncf24⟩
        have Hcf24 := Tr.wr Hcf21 Wcf24 Mcf21 hx1
        have Mcf24 := own_len_upd Mcf21 3 x1 (-1)
        have Kcf24 : Keep h0 hcf24 [ad 0, ad 1, ad 2, ad 3, ad 4] := Kcf21.wr Wcf24 (Or.inl (List.mem_of_getElem? (i := 3) rfl))
        have hv : own_det t x1 = (own_upd (own_upd (own_upd (own_upd (own_upd t 1 (own_gt t 0 x1) (own_gt t 3 x1)) 4 (own_gt t 3 x1) (own_gt t 4 x1)) 0 x1 (-1)) 4 x1 (-1)) 3 x1 (-1)) := by unfold own_det; rw [if_neg c0, if_neg c2, if_pos c1]
        have precf25 : ∀ tt, Steps p.tables e below (Tcf24.setTop (mkF m 97 #[.val (.ref o), .val (.int x1), .val (.int (own_gt t 0 x1)), .val (.int (own_gt t 4 x1)), .val (.int (own_gt t 3 x1))] [])) tt → Steps p.tables e below (s₁.setTop (entryFrame m #[(.ref o), (.int x1)] 5)) tt := by
          intro tt kt
          refine prec12 tt ?_
          show Steps p.tables e below (Tc11.setTop (mkF m 55 #[.val (.ref o), .val (.int x1), .val (.int (own_gt t 0 x1)), .val (.int (own_gt t 4 x1)), .val (.int (own_gt t 3 x1))] [(.int (-1 : Int32)), (.int (own_gt t 3 x1))])) _
          refine XS.icmpYes Xc11.here hx rfl (pc0 := 55) (pc' := 68) rfl (hb hby d6_55) rfl (feq c2).2 (by decide) (by decide) ?_
          show Steps p.tables e below (Tc11.setTop (mkF m 68 #[.val (.ref o), .val (.int x1), .val (.int (own_gt t 0 x1)), .val (.int (own_gt t 4 x1)), .val (.int (own_gt t 3 x1))] [])) _
          refine XS.aloadN Xc11.here hx rfl (hb hby d6_68) rfl rfl ?_
          show Steps p.tables e below (Tc11.setTop (mkF m 69 #[.val (.ref o), .val (.int x1), .val (.int (own_gt t 0 x1)), .val (.int (own_gt t 4 x1)), .val (.int (own_gt t 3 x1))] [(.ref o)])) _
          refine stcf13 _ ?_
          show Steps p.tables e below (Tcf13.setTop (mkF m 72 #[.val (.ref o), .val (.int x1), .val (.int (own_gt t 0 x1)), .val (.int (own_gt t 4 x1)), .val (.int (own_gt t 3 x1))] [(.ref (ad 4))])) _
          refine XS.iload Xcf13.here hx rfl (hb hby d6_72) rfl ?_
          show Steps p.tables e below (Tcf13.setTop (mkF m 74 #[.val (.ref o), .val (.int x1), .val (.int (own_gt t 0 x1)), .val (.int (own_gt t 4 x1)), .val (.int (own_gt t 3 x1))] [(.int (own_gt t 3 x1)), (.ref (ad 4))])) _
          refine XS.iloadN Xcf13.here hx rfl (hb hby d6_74) rfl ?_
          show Steps p.tables e below (Tcf13.setTop (mkF m 75 #[.val (.ref o), .val (.int x1), .val (.int (own_gt t 0 x1)), .val (.int (own_gt t 4 x1)), .val (.int (own_gt t 3 x1))] [(.int (own_gt t 4 x1)), (.int (own_gt t 3 x1)), (.ref (ad 4))])) _
          refine stcf15 _ ?_
          show Steps p.tables e below (Tcf15.setTop (mkF m 76 #[.val (.ref o), .val (.int x1), .val (.int (own_gt t 0 x1)), .val (.int (own_gt t 4 x1)), .val (.int (own_gt t 3 x1))] [])) _
          refine XS.aloadN Xcf15.here hx rfl (hb hby d6_76) rfl rfl ?_
          show Steps p.tables e below (Tcf15.setTop (mkF m 77 #[.val (.ref o), .val (.int x1), .val (.int (own_gt t 0 x1)), .val (.int (own_gt t 4 x1)), .val (.int (own_gt t 3 x1))] [(.ref o)])) _
          refine stcf16 _ ?_
          show Steps p.tables e below (Tcf16.setTop (mkF m 80 #[.val (.ref o), .val (.int x1), .val (.int (own_gt t 0 x1)), .val (.int (own_gt t 4 x1)), .val (.int (own_gt t 3 x1))] [(.ref (ad 0))])) _
          refine XS.iloadN Xcf16.here hx rfl (hb hby d6_80) rfl ?_
          show Steps p.tables e below (Tcf16.setTop (mkF m 81 #[.val (.ref o), .val (.int x1), .val (.int (own_gt t 0 x1)), .val (.int (own_gt t 4 x1)), .val (.int (own_gt t 3 x1))] [(.int x1), (.ref (ad 0))])) _
          refine XS.iconst Xcf16.here hx rfl (hb hby d6_81) ?_
          show Steps p.tables e below (Tcf16.setTop (mkF m 82 #[.val (.ref o), .val (.int x1), .val (.int (own_gt t 0 x1)), .val (.int (own_gt t 4 x1)), .val (.int (own_gt t 3 x1))] [(.int (-1 : Int32)), (.int x1), (.ref (ad 0))])) _
          refine stcf18 _ ?_
          show Steps p.tables e below (Tcf18.setTop (mkF m 83 #[.val (.ref o), .val (.int x1), .val (.int (own_gt t 0 x1)), .val (.int (own_gt t 4 x1)), .val (.int (own_gt t 3 x1))] [])) _
          refine XS.aloadN Xcf18.here hx rfl (hb hby d6_83) rfl rfl ?_
          show Steps p.tables e below (Tcf18.setTop (mkF m 84 #[.val (.ref o), .val (.int x1), .val (.int (own_gt t 0 x1)), .val (.int (own_gt t 4 x1)), .val (.int (own_gt t 3 x1))] [(.ref o)])) _
          refine stcf19 _ ?_
          show Steps p.tables e below (Tcf19.setTop (mkF m 87 #[.val (.ref o), .val (.int x1), .val (.int (own_gt t 0 x1)), .val (.int (own_gt t 4 x1)), .val (.int (own_gt t 3 x1))] [(.ref (ad 4))])) _
          refine XS.iloadN Xcf19.here hx rfl (hb hby d6_87) rfl ?_
          show Steps p.tables e below (Tcf19.setTop (mkF m 88 #[.val (.ref o), .val (.int x1), .val (.int (own_gt t 0 x1)), .val (.int (own_gt t 4 x1)), .val (.int (own_gt t 3 x1))] [(.int x1), (.ref (ad 4))])) _
          refine XS.iconst Xcf19.here hx rfl (hb hby d6_88) ?_
          show Steps p.tables e below (Tcf19.setTop (mkF m 89 #[.val (.ref o), .val (.int x1), .val (.int (own_gt t 0 x1)), .val (.int (own_gt t 4 x1)), .val (.int (own_gt t 3 x1))] [(.int (-1 : Int32)), (.int x1), (.ref (ad 4))])) _
          refine stcf21 _ ?_
          show Steps p.tables e below (Tcf21.setTop (mkF m 90 #[.val (.ref o), .val (.int x1), .val (.int (own_gt t 0 x1)), .val (.int (own_gt t 4 x1)), .val (.int (own_gt t 3 x1))] [])) _
          refine XS.aloadN Xcf21.here hx rfl (hb hby d6_90) rfl rfl ?_
          show Steps p.tables e below (Tcf21.setTop (mkF m 91 #[.val (.ref o), .val (.int x1), .val (.int (own_gt t 0 x1)), .val (.int (own_gt t 4 x1)), .val (.int (own_gt t 3 x1))] [(.ref o)])) _
          refine stcf22 _ ?_
          show Steps p.tables e below (Tcf22.setTop (mkF m 94 #[.val (.ref o), .val (.int x1), .val (.int (own_gt t 0 x1)), .val (.int (own_gt t 4 x1)), .val (.int (own_gt t 3 x1))] [(.ref (ad 3))])) _
          refine XS.iloadN Xcf22.here hx rfl (hb hby d6_94) rfl ?_
          show Steps p.tables e below (Tcf22.setTop (mkF m 95 #[.val (.ref o), .val (.int x1), .val (.int (own_gt t 0 x1)), .val (.int (own_gt t 4 x1)), .val (.int (own_gt t 3 x1))] [(.int x1), (.ref (ad 3))])) _
          refine XS.iconst Xcf22.here hx rfl (hb hby d6_95) ?_
          show Steps p.tables e below (Tcf22.setTop (mkF m 96 #[.val (.ref o), .val (.int x1), .val (.int (own_gt t 0 x1)), .val (.int (own_gt t 4 x1)), .val (.int (own_gt t 3 x1))] [(.int (-1 : Int32)), (.int x1), (.ref (ad 3))])) _
          refine stcf24 _ ?_
          exact kt
        obtain ⟨fs, hr, hrun, hended, hW, hsame⟩ := Xcf24.leave (v := none) (fun _ => rfl)
        refine ⟨_, _, precf25 _ ?_, hrun, hended, _, _, rfl, ?_, ⟨_, rfl⟩, hW, hsame.mono (by decide) (by decide)⟩
        · exact Xcf24.returnOut hx Bd.returns (hb hby d6_97) hr
        · show QrmD Z o ad kc t x1 h0 n0 _ Tcf24.heap _
          rw [ecf24]
          exact ⟨rfl, Nxcf24, Kcf24, by rw [hv]; exact Hcf24⟩
    · skip
      have hv4 := hok 4 x1 hx1 c1
      obtain ⟨Td9, Xd9, ed9, std9⟩ := getF Xb6 hx hZ hown (host := "") (Or.inl (hw _ (List.mem_of_getElem? (i := 27) rfl))) Via.refl eb6 (show Fld Z h0 o "com/example/pith/pith/html/PageTree" "next" "[I" (.ref (ad 3)) from Tr.fld H0 3) (g := (mkF m 45 #[.val (.ref o), .val (.int x1), .val (.int (own_gt t 0 x1)), .val (.int (own_gt t 4 x1)), .val (.int (own_gt t 3 x1))] [(.ref o)])) rfl rfl (hb hby d6_45)
      obtain ⟨cd10, Ad10, ind10, atd10⟩ := Tr.arr H0 3 (x := (own_gt t 4 x1)) (own_r64 hv4)
      obtain ⟨Td11, hd11, Xd11, ed11, Wd11, std11⟩ := stI Xd9 hx hZ ed9 Ad10 (j := (own_gt t 4 x1)) ind10 (g := (mkF m 51 #[.val (.ref o), .val (.int x1), .val (.int (own_gt t 0 x1)), .val (.int (own_gt t 4 x1)), .val (.int (own_gt t 3 x1))] [(.int (own_gt t 3 x1)), (.int (own_gt t 4 x1)), (.ref (ad 3))])) rfl rfl (hb hby d6_51)
      have Nd11 := Fr.snoc Xd11 N0 (Tr.new H0 3)
      obtain ⟨Lxd11, Xd11, Nxd11⟩ : ∃ L, Stand p l e ({ frames := 0, cells := 0, slots := 0, locals := 0 } : Room) s m #[(.ref o), (.int x1)] below meth c Td11 L 0 0 ∧ Fr n0 L := ⟨_, Xd11.more (by decide) (by decide), Nd11⟩
      have Hd11 := Tr.wr H0 Wd11 hl hv4
      have Md11 := own_len_upd hl 3 (own_gt t 4 x1) (own_gt t 3 x1)
      have Kd11 : Keep h0 hd11 [ad 0, ad 1, ad 2, ad 3, ad 4] := (Keep.refl h0 [ad 0, ad 1, ad 2, ad 3, ad 4]).wr Wd11 (Or.inl (List.mem_of_getElem? (i := 3) rfl))
      have pred12 : ∀ tt, Steps p.tables e below (Td11.setTop (mkF m 55 #[.val (.ref o), .val (.int x1), .val (.int (own_gt t 0 x1)), .val (.int (own_gt t 4 x1)), .val (.int (own_gt t 3 x1))] [(.int (-1 : Int32)), (.int (own_gt t 3 x1))])) tt → Steps p.tables e below (s₁.setTop (entryFrame m #[(.ref o), (.int x1)] 5)) tt := by
        intro tt kt
        refine preb8 tt ?_
        show Steps p.tables e below (Tb6.setTop (mkF m 30 #[.val (.ref o), .val (.int x1), .val (.int (own_gt t 0 x1)), .val (.int (own_gt t 4 x1)), .val (.int (own_gt t 3 x1))] [(.int (-1 : Int32)), (.int (own_gt t 4 x1))])) _
        refine XS.icmpYes Xb6.here hx rfl (pc0 := 30) (pc' := 44) rfl (hb hby d6_30) rfl (feq c1).2 (by decide) (by decide) ?_
        show Steps p.tables e below (Tb6.setTop (mkF m 44 #[.val (.ref o), .val (.int x1), .val (.int (own_gt t 0 x1)), .val (.int (own_gt t 4 x1)), .val (.int (own_gt t 3 x1))] [])) _
        refine XS.aloadN Xb6.here hx rfl (hb hby d6_44) rfl rfl ?_
        show Steps p.tables e below (Tb6.setTop (mkF m 45 #[.val (.ref o), .val (.int x1), .val (.int (own_gt t 0 x1)), .val (.int (own_gt t 4 x1)), .val (.int (own_gt t 3 x1))] [(.ref o)])) _
        refine std9 _ ?_
        show Steps p.tables e below (Td9.setTop (mkF m 48 #[.val (.ref o), .val (.int x1), .val (.int (own_gt t 0 x1)), .val (.int (own_gt t 4 x1)), .val (.int (own_gt t 3 x1))] [(.ref (ad 3))])) _
        refine XS.iloadN Xd9.here hx rfl (hb hby d6_48) rfl ?_
        show Steps p.tables e below (Td9.setTop (mkF m 49 #[.val (.ref o), .val (.int x1), .val (.int (own_gt t 0 x1)), .val (.int (own_gt t 4 x1)), .val (.int (own_gt t 3 x1))] [(.int (own_gt t 4 x1)), (.ref (ad 3))])) _
        refine XS.iload Xd9.here hx rfl (hb hby d6_49) rfl ?_
        show Steps p.tables e below (Td9.setTop (mkF m 51 #[.val (.ref o), .val (.int x1), .val (.int (own_gt t 0 x1)), .val (.int (own_gt t 4 x1)), .val (.int (own_gt t 3 x1))] [(.int (own_gt t 3 x1)), (.int (own_gt t 4 x1)), (.ref (ad 3))])) _
        refine std11 _ ?_
        show Steps p.tables e below (Td11.setTop (mkF m 52 #[.val (.ref o), .val (.int x1), .val (.int (own_gt t 0 x1)), .val (.int (own_gt t 4 x1)), .val (.int (own_gt t 3 x1))] [])) _
        refine XS.iload Xd11.here hx rfl (hb hby d6_52) rfl ?_
        show Steps p.tables e below (Td11.setTop (mkF m 54 #[.val (.ref o), .val (.int x1), .val (.int (own_gt t 0 x1)), .val (.int (own_gt t 4 x1)), .val (.int (own_gt t 3 x1))] [(.int (own_gt t 3 x1))])) _
        refine XS.iconst Xd11.here hx rfl (hb hby d6_54) ?_
        exact kt
      by_cases c2 : own_gt t 3 x1 = -1
      · skip
        obtain ⟨Tde13, Xde13, ede13, stde13⟩ := getF Xd11 hx hZ hown (host := "") (Or.inl (hw _ (List.mem_of_getElem? (i := 25) rfl))) Via.refl ed11 (show Fld Z hd11 o "com/example/pith/pith/html/PageTree" "lastChild" "[I" (.ref (ad 2)) from Tr.fld Hd11 2) (g := (mkF m 59 #[.val (.ref o), .val (.int x1), .val (.int (own_gt t 0 x1)), .val (.int (own_gt t 4 x1)), .val (.int (own_gt t 3 x1))] [(.ref o)])) rfl rfl (hb hby d6_59)
        obtain ⟨cde14, Ade14, inde14, atde14⟩ := Tr.arr Hd11 2 (x := (own_gt t 0 x1)) (own_r64 hp)
        obtain ⟨Tde15, hde15, Xde15, ede15, Wde15, stde15⟩ := stI Xde13 hx hZ ede13 Ade14 (j := (own_gt t 0 x1)) inde14 (g := (mkF m 64 #[.val (.ref o), .val (.int x1), .val (.int (own_gt t 0 x1)), .val (.int (own_gt t 4 x1)), .val (.int (own_gt t 3 x1))] [(.int (own_gt t 4 x1)), (.int (own_gt t 0 x1)), (.ref (ad 2))])) rfl rfl (hb hby d6_64)
        have Nde15 := Fr.snoc Xde15 Nxd11 (Tr.new Hd11 2)
        obtain ⟨Lxde15, Xde15, Nxde15⟩ : ∃ L, Stand p l e ({ frames := 0, cells := 0, slots := 0, locals := 0 } : Room) s m #[(.ref o), (.int x1)] below meth c Tde15 L 0 0 ∧ Fr n0 L := ⟨_, Xde15.more (by decide) (by decide), Nde15⟩
        have Hde15 := Tr.wr Hd11 Wde15 Md11 hp
        have Mde15 := own_len_upd Md11 2 (own_gt t 0 x1) (own_gt t 4 x1)
        have Kde15 : Keep h0 hde15 [ad 0, ad 1, ad 2, ad 3, ad 4] := Kd11.wr Wde15 (Or.inl (List.mem_of_getElem? (i := 2) rfl))
        obtain ⟨Tde16, Xde16, ede16, stde16⟩ := getF Xde15 hx hZ hown (host := "") (Or.inl (hw _ (List.mem_of_getElem? (i := 21) rfl))) Via.refl ede15 (show Fld Z hde15 o "com/example/pith/pith/html/PageTree" "parent" "[I" (.ref (ad 0)) from Tr.fld Hde15 0) (g := (mkF m 77 #[.val (.ref o), .val (.int x1), .val (.int (own_gt t 0 x1)), .val (.int (own_gt t 4 x1)), .val (.int (own_gt t 3 x1))] [(.ref o)])) rfl rfl (hb hby d6_77)
        obtain ⟨cde17, Ade17, inde17, atde17⟩ := Tr.arr Hde15 0 (x := x1) (own_r64 hx1)
        obtain ⟨Tde18, hde18, Xde18, ede18, Wde18, stde18⟩ := stI Xde16 hx hZ ede16 Ade17 (j := x1) inde17 (g := (mkF m 82 #[.val (.ref o), .val (.int x1), .val (.int (own_gt t 0 x1)), .val (.int (own_gt t 4 x1)), .val (.int (own_gt t 3 x1))] [(.int (-1 : Int32)), (.int x1), (.ref (ad 0))])) rfl rfl (hb hby d6_82)
        have Nde18 := Fr.snoc Xde18 Nxde15 (Tr.new Hde15 0)
        obtain ⟨Lxde18, Xde18, Nxde18⟩ : ∃ L, Stand p l e ({ frames := 0, cells := 0, slots := 0, locals := 0 } : Room) s m #[(.ref o), (.int x1)] below meth c Tde18 L 0 0 ∧ Fr n0 L := ⟨_, Xde18.more (by decide) (by decide), Nde18⟩
        have Hde18 := Tr.wr Hde15 Wde18 Mde15 hx1
        have Mde18 := own_len_upd Mde15 0 x1 (-1)
        have Kde18 : Keep h0 hde18 [ad 0, ad 1, ad 2, ad 3, ad 4] := Kde15.wr Wde18 (Or.inl (List.mem_of_getElem? (i := 0) rfl))
        obtain ⟨Tde19, Xde19, ede19, stde19⟩ := getF Xde18 hx hZ hown (host := "") (Or.inl (hw _ (List.mem_of_getElem? (i := 29) rfl))) Via.refl ede18 (show Fld Z hde18 o "com/example/pith/pith/html/PageTree" "previous" "[I" (.ref (ad 4)) from Tr.fld Hde18 4) (g := (mkF m 84 #[.val (.ref o), .val (.int x1), .val (.int (own_gt t 0 x1)), .val (.int (own_gt t 4 x1)), .val (.int (own_gt t 3 x1))] [(.ref o)])) rfl rfl (hb hby d6_84)
        obtain ⟨cde20, Ade20, inde20, atde20⟩ := Tr.arr Hde18 4 (x := x1) (own_r64 hx1)
        obtain ⟨Tde21, hde21, Xde21, ede21, Wde21, stde21⟩ := stI Xde19 hx hZ ede19 Ade20 (j := x1) inde20 (g := (mkF m 89 #[.val (.ref o), .val (.int x1), .val (.int (own_gt t 0 x1)), .val (.int (own_gt t 4 x1)), .val (.int (own_gt t 3 x1))] [(.int (-1 : Int32)), (.int x1), (.ref (ad 4))])) rfl rfl (hb hby d6_89)
        have Nde21 := Fr.snoc Xde21 Nxde18 (Tr.new Hde18 4)
        obtain ⟨Lxde21, Xde21, Nxde21⟩ : ∃ L, Stand p l e ({ frames := 0, cells := 0, slots := 0, locals := 0 } : Room) s m #[(.ref o), (.int x1)] below meth c Tde21 L 0 0 ∧ Fr n0 L := ⟨_, Xde21.more (by decide) (by decide), Nde21⟩
        have Hde21 := Tr.wr Hde18 Wde21 Mde18 hx1
        have Mde21 := own_len_upd Mde18 4 x1 (-1)
        have Kde21 : Keep h0 hde21 [ad 0, ad 1, ad 2, ad 3, ad 4] := Kde18.wr Wde21 (Or.inl (List.mem_of_getElem? (i := 4) rfl))
        obtain ⟨Tde22, Xde22, ede22, stde22⟩ := getF Xde21 hx hZ hown (host := "") (Or.inl (hw _ (List.mem_of_getElem? (i := 27) rfl))) Via.refl ede21 (show Fld Z hde21 o "com/example/pith/pith/html/PageTree" "next" "[I" (.ref (ad 3)) from Tr.fld Hde21 3) (g := (mkF m 91 #[.val (.ref o), .val (.int x1), .val (.int (own_gt t 0 x1)), .val (.int (own_gt t 4 x1)), .val (.int (own_gt t 3 x1))] [(.ref o)])) rfl rfl (hb hby d6_91)
        obtain ⟨cde23, Ade23, inde23, atde23⟩ := Tr.arr Hde21 3 (x := x1) (own_r64 hx1)
        obtain ⟨Tde24, hde24, Xde24, ede24, Wde24, stde24⟩ := stI Xde22 hx hZ ede22 Ade23 (j := x1) inde23 (g := (mkF m 96 #[.val (.ref o), .val (.int x1), .val (.int (own_gt t 0 x1)), .val (.int (own_gt t 4 x1)), .val (.int (own_gt t 3 x1))] [(.int (-1 : Int32)), (.int x1), (.ref (ad 3))])) rfl rfl (hb hby d6_96)
        have Nde24 := Fr.snoc Xde24 Nxde21 (Tr.new Hde21 3)
        obtain ⟨Lxde24, Xde24, Nxde24⟩ : ∃ L, Stand p l e ({ frames := 0, cells := 0, slots := 0, locals := 0 } : Room) s m #[(.ref o), (.int x1)] below meth c Tde24 L 0 0 ∧ Fr n0 L := ⟨_, Xde24.more (by decide) (by decide), Nde24⟩
        have Hde24 := Tr.wr Hde21 Wde24 Mde21 hx1
        have Mde24 := own_len_upd Mde21 3 x1 (-1)
        have Kde24 : Keep h0 hde24 [ad 0, ad 1, ad 2, ad 3, ad 4] := Kde21.wr Wde24 (Or.inl (List.mem_of_getElem? (i := 3) rfl))
        have hv : own_det t x1 = (own_upd (own_upd (own_upd (own_upd (own_upd t 3 (own_gt t 4 x1) (own_gt t 3 x1)) 2 (own_gt t 0 x1) (own_gt t 4 x1)) 0 x1 (-1)) 4 x1 (-1)) 3 x1 (-1)) := by unfold own_det; rw [if_neg c0, if_pos c2, if_neg c1]
        have prede25 : ∀ tt, Steps p.tables e below (Tde24.setTop (mkF m 97 #[.val (.ref o), .val (.int x1), .val (.int (own_gt t 0 x1)), .val (.int (own_gt t 4 x1)), .val (.int (own_gt t 3 x1))] [])) tt → Steps p.tables e below (s₁.setTop (entryFrame m #[(.ref o), (.int x1)] 5)) tt := by
          intro tt kt
          refine pred12 tt ?_
          show Steps p.tables e below (Td11.setTop (mkF m 55 #[.val (.ref o), .val (.int x1), .val (.int (own_gt t 0 x1)), .val (.int (own_gt t 4 x1)), .val (.int (own_gt t 3 x1))] [(.int (-1 : Int32)), (.int (own_gt t 3 x1))])) _
          refine XS.icmpNo Xd11.here hx rfl (hb hby d6_55) rfl (teq c2).2 ?_
          show Steps p.tables e below (Td11.setTop (mkF m 58 #[.val (.ref o), .val (.int x1), .val (.int (own_gt t 0 x1)), .val (.int (own_gt t 4 x1)), .val (.int (own_gt t 3 x1))] [])) _
          refine XS.aloadN Xd11.here hx rfl (hb hby d6_58) rfl rfl ?_
          show Steps p.tables e below (Td11.setTop (mkF m 59 #[.val (.ref o), .val (.int x1), .val (.int (own_gt t 0 x1)), .val (.int (own_gt t 4 x1)), .val (.int (own_gt t 3 x1))] [(.ref o)])) _
          refine stde13 _ ?_
          show Steps p.tables e below (Tde13.setTop (mkF m 62 #[.val (.ref o), .val (.int x1), .val (.int (own_gt t 0 x1)), .val (.int (own_gt t 4 x1)), .val (.int (own_gt t 3 x1))] [(.ref (ad 2))])) _
          refine XS.iloadN Xde13.here hx rfl (hb hby d6_62) rfl ?_
          show Steps p.tables e below (Tde13.setTop (mkF m 63 #[.val (.ref o), .val (.int x1), .val (.int (own_gt t 0 x1)), .val (.int (own_gt t 4 x1)), .val (.int (own_gt t 3 x1))] [(.int (own_gt t 0 x1)), (.ref (ad 2))])) _
          refine XS.iloadN Xde13.here hx rfl (hb hby d6_63) rfl ?_
          show Steps p.tables e below (Tde13.setTop (mkF m 64 #[.val (.ref o), .val (.int x1), .val (.int (own_gt t 0 x1)), .val (.int (own_gt t 4 x1)), .val (.int (own_gt t 3 x1))] [(.int (own_gt t 4 x1)), (.int (own_gt t 0 x1)), (.ref (ad 2))])) _
          refine stde15 _ ?_
          show Steps p.tables e below (Tde15.setTop (mkF m 65 #[.val (.ref o), .val (.int x1), .val (.int (own_gt t 0 x1)), .val (.int (own_gt t 4 x1)), .val (.int (own_gt t 3 x1))] [])) _
          refine XS.goto Xde15.here hx rfl (pc0 := 65) (pc' := 76) rfl (hb hby d6_65) (by decide) (by decide) ?_
          show Steps p.tables e below (Tde15.setTop (mkF m 76 #[.val (.ref o), .val (.int x1), .val (.int (own_gt t 0 x1)), .val (.int (own_gt t 4 x1)), .val (.int (own_gt t 3 x1))] [])) _
          refine XS.aloadN Xde15.here hx rfl (hb hby d6_76) rfl rfl ?_
          show Steps p.tables e below (Tde15.setTop (mkF m 77 #[.val (.ref o), .val (.int x1), .val (.int (own_gt t 0 x1)), .val (.int (own_gt t 4 x1)), .val (.int (own_gt t 3 x1))] [(.ref o)])) _
          refine stde16 _ ?_
          show Steps p.tables e below (Tde16.setTop (mkF m 80 #[.val (.ref o), .val (.int x1), .val (.int (own_gt t 0 x1)), .val (.int (own_gt t 4 x1)), .val (.int (own_gt t 3 x1))] [(.ref (ad 0))])) _
          refine XS.iloadN Xde16.here hx rfl (hb hby d6_80) rfl ?_
          show Steps p.tables e below (Tde16.setTop (mkF m 81 #[.val (.ref o), .val (.int x1), .val (.int (own_gt t 0 x1)), .val (.int (own_gt t 4 x1)), .val (.int (own_gt t 3 x1))] [(.int x1), (.ref (ad 0))])) _
          refine XS.iconst Xde16.here hx rfl (hb hby d6_81) ?_
          show Steps p.tables e below (Tde16.setTop (mkF m 82 #[.val (.ref o), .val (.int x1), .val (.int (own_gt t 0 x1)), .val (.int (own_gt t 4 x1)), .val (.int (own_gt t 3 x1))] [(.int (-1 : Int32)), (.int x1), (.ref (ad 0))])) _
          refine stde18 _ ?_
          show Steps p.tables e below (Tde18.setTop (mkF m 83 #[.val (.ref o), .val (.int x1), .val (.int (own_gt t 0 x1)), .val (.int (own_gt t 4 x1)), .val (.int (own_gt t 3 x1))] [])) _
          refine XS.aloadN Xde18.here hx rfl (hb hby d6_83) rfl rfl ?_
          show Steps p.tables e below (Tde18.setTop (mkF m 84 #[.val (.ref o), .val (.int x1), .val (.int (own_gt t 0 x1)), .val (.int (own_gt t 4 x1)), .val (.int (own_gt t 3 x1))] [(.ref o)])) _
          refine stde19 _ ?_
          show Steps p.tables e below (Tde19.setTop (mkF m 87 #[.val (.ref o), .val (.int x1), .val (.int (own_gt t 0 x1)), .val (.int (own_gt t 4 x1)), .val (.int (own_gt t 3 x1))] [(.ref (ad 4))])) _
          refine XS.iloadN Xde19.here hx rfl (hb hby d6_87) rfl ?_
          show Steps p.tables e below (Tde19.setTop (mkF m 88 #[.val (.ref o), .val (.int x1), .val (.int (own_gt t 0 x1)), .val (.int (own_gt t 4 x1)), .val (.int (own_gt t 3 x1))] [(.int x1), (.ref (ad 4))])) _
          refine XS.iconst Xde19.here hx rfl (hb hby d6_88) ?_
          show Steps p.tables e below (Tde19.setTop (mkF m 89 #[.val (.ref o), .val (.int x1), .val (.int (own_gt t 0 x1)), .val (.int (own_gt t 4 x1)), .val (.int (own_gt t 3 x1))] [(.int (-1 : Int32)), (.int x1), (.ref (ad 4))])) _
          refine stde21 _ ?_
          show Steps p.tables e below (Tde21.setTop (mkF m 90 #[.val (.ref o), .val (.int x1), .val (.int (own_gt t 0 x1)), .val (.int (own_gt t 4 x1)), .val (.int (own_gt t 3 x1))] [])) _
          refine XS.aloadN Xde21.here hx rfl (hb hby d6_90) rfl rfl ?_
          show Steps p.tables e below (Tde21.setTop (mkF m 91 #[.val (.ref o), .val (.int x1), .val (.int (own_gt t 0 x1)), .val (.int (own_gt t 4 x1)), .val (.int (own_gt t 3 x1))] [(.ref o)])) _
          refine stde22 _ ?_
          show Steps p.tables e below (Tde22.setTop (mkF m 94 #[.val (.ref o), .val (.int x1), .val (.int (own_gt t 0 x1)), .val (.int (own_gt t 4 x1)), .val (.int (own_gt t 3 x1))] [(.ref (ad 3))])) _
          refine XS.iloadN Xde22.here hx rfl (hb hby d6_94) rfl ?_
          show Steps p.tables e below (Tde22.setTop (mkF m 95 #[.val (.ref o), .val (.int x1), .val (.int (own_gt t 0 x1)), .val (.int (own_gt t 4 x1)), .val (.int (own_gt t 3 x1))] [(.int x1), (.ref (ad 3))])) _
          refine XS.iconst Xde22.here hx rfl (hb hby d6_95) ?_
          show Steps p.tables e below (Tde22.setTop (mkF m 96 #[.val (.ref o), .val (.int x1), .val (.int (own_gt t 0 x1)), .val (.int (own_gt t 4 x1)), .val (.int (own_gt t 3 x1))] [(.int (-1 : Int32)), (.int x1), (.ref (ad 3))])) _
          refine stde24 _ ?_
          exact kt
        obtain ⟨fs, hr, hrun, hended, hW, hsame⟩ := Xde24.leave (v := none) (fun _ => rfl)
        refine ⟨_, _, prede25 _ ?_, hrun, hended, _, _, rfl, ?_, ⟨_, rfl⟩, hW, hsame.mono (by decide) (by decide)⟩
        · exact Xde24.returnOut hx Bd.returns (hb hby d6_97) hr
        · show QrmD Z o ad kc t x1 h0 n0 _ Tde24.heap _
          rw [ede24]
          exact ⟨rfl, Nxde24, Kde24, by rw [hv]; exact Hde24⟩
      · skip
        have hn3 := hok 3 x1 hx1 c2
        obtain ⟨Tdf13, Xdf13, edf13, stdf13⟩ := getF Xd11 hx hZ hown (host := "") (Or.inl (hw _ (List.mem_of_getElem? (i := 29) rfl))) Via.refl ed11 (show Fld Z hd11 o "com/example/pith/pith/html/PageTree" "previous" "[I" (.ref (ad 4)) from Tr.fld Hd11 4) (g := (mkF m 69 #[.val (.ref o), .val (.int x1), .val (.int (own_gt t 0 x1)), .val (.int (own_gt t 4 x1)), .val (.int (own_gt t 3 x1))] [(.ref o)])) rfl rfl (hb hby d6_69)
        obtain ⟨cdf14, Adf14, indf14, atdf14⟩ := Tr.arr Hd11 4 (x := (own_gt t 3 x1)) (own_r64 hn3)
        obtain ⟨Tdf15, hdf15, Xdf15, edf15, Wdf15, stdf15⟩ := stI Xdf13 hx hZ edf13 Adf14 (j := (own_gt t 3 x1)) indf14 (g := (mkF m 75 #[.val (.ref o), .val (.int x1), .val (.int (own_gt t 0 x1)), .val (.int (own_gt t 4 x1)), .val (.int (own_gt t 3 x1))] [(.int (own_gt t 4 x1)), (.int (own_gt t 3 x1)), (.ref (ad 4))])) rfl rfl (hb hby d6_75)
        have Ndf15 := Fr.snoc Xdf15 Nxd11 (Tr.new Hd11 4)
        obtain ⟨Lxdf15, Xdf15, Nxdf15⟩ : ∃ L, Stand p l e ({ frames := 0, cells := 0, slots := 0, locals := 0 } : Room) s m #[(.ref o), (.int x1)] below meth c Tdf15 L 0 0 ∧ Fr n0 L := ⟨_, Xdf15.more (by decide) (by decide), Ndf15⟩
        have Hdf15 := Tr.wr Hd11 Wdf15 Md11 hn3
        have Mdf15 := own_len_upd Md11 4 (own_gt t 3 x1) (own_gt t 4 x1)
        have Kdf15 : Keep h0 hdf15 [ad 0, ad 1, ad 2, ad 3, ad 4] := Kd11.wr Wdf15 (Or.inl (List.mem_of_getElem? (i := 4) rfl))
        obtain ⟨Tdf16, Xdf16, edf16, stdf16⟩ := getF Xdf15 hx hZ hown (host := "") (Or.inl (hw _ (List.mem_of_getElem? (i := 21) rfl))) Via.refl edf15 (show Fld Z hdf15 o "com/example/pith/pith/html/PageTree" "parent" "[I" (.ref (ad 0)) from Tr.fld Hdf15 0) (g := (mkF m 77 #[.val (.ref o), .val (.int x1), .val (.int (own_gt t 0 x1)), .val (.int (own_gt t 4 x1)), .val (.int (own_gt t 3 x1))] [(.ref o)])) rfl rfl (hb hby d6_77)
        obtain ⟨cdf17, Adf17, indf17, atdf17⟩ := Tr.arr Hdf15 0 (x := x1) (own_r64 hx1)
        obtain ⟨Tdf18, hdf18, Xdf18, edf18, Wdf18, stdf18⟩ := stI Xdf16 hx hZ edf16 Adf17 (j := x1) indf17 (g := (mkF m 82 #[.val (.ref o), .val (.int x1), .val (.int (own_gt t 0 x1)), .val (.int (own_gt t 4 x1)), .val (.int (own_gt t 3 x1))] [(.int (-1 : Int32)), (.int x1), (.ref (ad 0))])) rfl rfl (hb hby d6_82)
        have Ndf18 := Fr.snoc Xdf18 Nxdf15 (Tr.new Hdf15 0)
        obtain ⟨Lxdf18, Xdf18, Nxdf18⟩ : ∃ L, Stand p l e ({ frames := 0, cells := 0, slots := 0, locals := 0 } : Room) s m #[(.ref o), (.int x1)] below meth c Tdf18 L 0 0 ∧ Fr n0 L := ⟨_, Xdf18.more (by decide) (by decide), Ndf18⟩
        have Hdf18 := Tr.wr Hdf15 Wdf18 Mdf15 hx1
        have Mdf18 := own_len_upd Mdf15 0 x1 (-1)
        have Kdf18 : Keep h0 hdf18 [ad 0, ad 1, ad 2, ad 3, ad 4] := Kdf15.wr Wdf18 (Or.inl (List.mem_of_getElem? (i := 0) rfl))
        obtain ⟨Tdf19, Xdf19, edf19, stdf19⟩ := getF Xdf18 hx hZ hown (host := "") (Or.inl (hw _ (List.mem_of_getElem? (i := 29) rfl))) Via.refl edf18 (show Fld Z hdf18 o "com/example/pith/pith/html/PageTree" "previous" "[I" (.ref (ad 4)) from Tr.fld Hdf18 4) (g := (mkF m 84 #[.val (.ref o), .val (.int x1), .val (.int (own_gt t 0 x1)), .val (.int (own_gt t 4 x1)), .val (.int (own_gt t 3 x1))] [(.ref o)])) rfl rfl (hb hby d6_84)
        obtain ⟨cdf20, Adf20, indf20, atdf20⟩ := Tr.arr Hdf18 4 (x := x1) (own_r64 hx1)
        obtain ⟨Tdf21, hdf21, Xdf21, edf21, Wdf21, stdf21⟩ := stI Xdf19 hx hZ edf19 Adf20 (j := x1) indf20 (g := (mkF m 89 #[.val (.ref o), .val (.int x1), .val (.int (own_gt t 0 x1)), .val (.int (own_gt t 4 x1)), .val (.int (own_gt t 3 x1))] [(.int (-1 : Int32)), (.int x1), (.ref (ad 4))])) rfl rfl (hb hby d6_89)
        have Ndf21 := Fr.snoc Xdf21 Nxdf18 (Tr.new Hdf18 4)
        obtain ⟨Lxdf21, Xdf21, Nxdf21⟩ : ∃ L, Stand p l e ({ frames := 0, cells := 0, slots := 0, locals := 0 } : Room) s m #[(.ref o), (.int x1)] below meth c Tdf21 L 0 0 ∧ Fr n0 L := ⟨_, Xdf21.more (by decide) (by decide), Ndf21⟩
        have Hdf21 := Tr.wr Hdf18 Wdf21 Mdf18 hx1
        have Mdf21 := own_len_upd Mdf18 4 x1 (-1)
        have Kdf21 : Keep h0 hdf21 [ad 0, ad 1, ad 2, ad 3, ad 4] := Kdf18.wr Wdf21 (Or.inl (List.mem_of_getElem? (i := 4) rfl))
        obtain ⟨Tdf22, Xdf22, edf22, stdf22⟩ := getF Xdf21 hx hZ hown (host := "") (Or.inl (hw _ (List.mem_of_getElem? (i := 27) rfl))) Via.refl edf21 (show Fld Z hdf21 o "com/example/pith/pith/html/PageTree" "next" "[I" (.ref (ad 3)) from Tr.fld Hdf21 3) (g := (mkF m 91 #[.val (.ref o), .val (.int x1), .val (.int (own_gt t 0 x1)), .val (.int (own_gt t 4 x1)), .val (.int (own_gt t 3 x1))] [(.ref o)])) rfl rfl (hb hby d6_91)
        obtain ⟨cdf23, Adf23, indf23, atdf23⟩ := Tr.arr Hdf21 3 (x := x1) (own_r64 hx1)
        obtain ⟨Tdf24, hdf24, Xdf24, edf24, Wdf24, stdf24⟩ := stI Xdf22 hx hZ edf22 Adf23 (j := x1) indf23 (g := (mkF m 96 #[.val (.ref o), .val (.int x1), .val (.int (own_gt t 0 x1)), .val (.int (own_gt t 4 x1)), .val (.int (own_gt t 3 x1))] [(.int (-1 : Int32)), (.int x1), (.ref (ad 3))])) rfl rfl (hb hby d6_96)
        have Ndf24 := Fr.snoc Xdf24 Nxdf21 (Tr.new Hdf21 3)
        obtain ⟨Lxdf24, Xdf24, Nxdf24⟩ : ∃ L, Stand p l e ({ frames := 0, cells := 0, slots := 0, locals := 0 } : Room) s m #[(.ref o), (.int x1)] below meth c Tdf24 L 0 0 ∧ Fr n0 L := ⟨_, Xdf24.more (by decide) (by decide), Ndf24⟩
        have Hdf24 := Tr.wr Hdf21 Wdf24 Mdf21 hx1
        have Mdf24 := own_len_upd Mdf21 3 x1 (-1)
        have Kdf24 : Keep h0 hdf24 [ad 0, ad 1, ad 2, ad 3, ad 4] := Kdf21.wr Wdf24 (Or.inl (List.mem_of_getElem? (i := 3) rfl))
        have hv : own_det t x1 = (own_upd (own_upd (own_upd (own_upd (own_upd t 3 (own_gt t 4 x1) (own_gt t 3 x1)) 4 (own_gt t 3 x1) (own_gt t 4 x1)) 0 x1 (-1)) 4 x1 (-1)) 3 x1 (-1)) := by unfold own_det; rw [if_neg c0, if_neg c2, if_neg c1]
        have predf25 : ∀ tt, Steps p.tables e below (Tdf24.setTop (mkF m 97 #[.val (.ref o), .val (.int x1), .val (.int (own_gt t 0 x1)), .val (.int (own_gt t 4 x1)), .val (.int (own_gt t 3 x1))] [])) tt → Steps p.tables e below (s₁.setTop (entryFrame m #[(.ref o), (.int x1)] 5)) tt := by
          intro tt kt
          refine pred12 tt ?_
          show Steps p.tables e below (Td11.setTop (mkF m 55 #[.val (.ref o), .val (.int x1), .val (.int (own_gt t 0 x1)), .val (.int (own_gt t 4 x1)), .val (.int (own_gt t 3 x1))] [(.int (-1 : Int32)), (.int (own_gt t 3 x1))])) _
          refine XS.icmpYes Xd11.here hx rfl (pc0 := 55) (pc' := 68) rfl (hb hby d6_55) rfl (feq c2).2 (by decide) (by decide) ?_
          show Steps p.tables e below (Td11.setTop (mkF m 68 #[.val (.ref o), .val (.int x1), .val (.int (own_gt t 0 x1)), .val (.int (own_gt t 4 x1)), .val (.int (own_gt t 3 x1))] [])) _
          refine XS.aloadN Xd11.here hx rfl (hb hby d6_68) rfl rfl ?_
          show Steps p.tables e below (Td11.setTop (mkF m 69 #[.val (.ref o), .val (.int x1), .val (.int (own_gt t 0 x1)), .val (.int (own_gt t 4 x1)), .val (.int (own_gt t 3 x1))] [(.ref o)])) _
          refine stdf13 _ ?_
          show Steps p.tables e below (Tdf13.setTop (mkF m 72 #[.val (.ref o), .val (.int x1), .val (.int (own_gt t 0 x1)), .val (.int (own_gt t 4 x1)), .val (.int (own_gt t 3 x1))] [(.ref (ad 4))])) _
          refine XS.iload Xdf13.here hx rfl (hb hby d6_72) rfl ?_
          show Steps p.tables e below (Tdf13.setTop (mkF m 74 #[.val (.ref o), .val (.int x1), .val (.int (own_gt t 0 x1)), .val (.int (own_gt t 4 x1)), .val (.int (own_gt t 3 x1))] [(.int (own_gt t 3 x1)), (.ref (ad 4))])) _
          refine XS.iloadN Xdf13.here hx rfl (hb hby d6_74) rfl ?_
          show Steps p.tables e below (Tdf13.setTop (mkF m 75 #[.val (.ref o), .val (.int x1), .val (.int (own_gt t 0 x1)), .val (.int (own_gt t 4 x1)), .val (.int (own_gt t 3 x1))] [(.int (own_gt t 4 x1)), (.int (own_gt t 3 x1)), (.ref (ad 4))])) _
          refine stdf15 _ ?_
          show Steps p.tables e below (Tdf15.setTop (mkF m 76 #[.val (.ref o), .val (.int x1), .val (.int (own_gt t 0 x1)), .val (.int (own_gt t 4 x1)), .val (.int (own_gt t 3 x1))] [])) _
          refine XS.aloadN Xdf15.here hx rfl (hb hby d6_76) rfl rfl ?_
          show Steps p.tables e below (Tdf15.setTop (mkF m 77 #[.val (.ref o), .val (.int x1), .val (.int (own_gt t 0 x1)), .val (.int (own_gt t 4 x1)), .val (.int (own_gt t 3 x1))] [(.ref o)])) _
          refine stdf16 _ ?_
          show Steps p.tables e below (Tdf16.setTop (mkF m 80 #[.val (.ref o), .val (.int x1), .val (.int (own_gt t 0 x1)), .val (.int (own_gt t 4 x1)), .val (.int (own_gt t 3 x1))] [(.ref (ad 0))])) _
          refine XS.iloadN Xdf16.here hx rfl (hb hby d6_80) rfl ?_
          show Steps p.tables e below (Tdf16.setTop (mkF m 81 #[.val (.ref o), .val (.int x1), .val (.int (own_gt t 0 x1)), .val (.int (own_gt t 4 x1)), .val (.int (own_gt t 3 x1))] [(.int x1), (.ref (ad 0))])) _
          refine XS.iconst Xdf16.here hx rfl (hb hby d6_81) ?_
          show Steps p.tables e below (Tdf16.setTop (mkF m 82 #[.val (.ref o), .val (.int x1), .val (.int (own_gt t 0 x1)), .val (.int (own_gt t 4 x1)), .val (.int (own_gt t 3 x1))] [(.int (-1 : Int32)), (.int x1), (.ref (ad 0))])) _
          refine stdf18 _ ?_
          show Steps p.tables e below (Tdf18.setTop (mkF m 83 #[.val (.ref o), .val (.int x1), .val (.int (own_gt t 0 x1)), .val (.int (own_gt t 4 x1)), .val (.int (own_gt t 3 x1))] [])) _
          refine XS.aloadN Xdf18.here hx rfl (hb hby d6_83) rfl rfl ?_
          show Steps p.tables e below (Tdf18.setTop (mkF m 84 #[.val (.ref o), .val (.int x1), .val (.int (own_gt t 0 x1)), .val (.int (own_gt t 4 x1)), .val (.int (own_gt t 3 x1))] [(.ref o)])) _
          refine stdf19 _ ?_
          show Steps p.tables e below (Tdf19.setTop (mkF m 87 #[.val (.ref o), .val (.int x1), .val (.int (own_gt t 0 x1)), .val (.int (own_gt t 4 x1)), .val (.int (own_gt t 3 x1))] [(.ref (ad 4))])) _
          refine XS.iloadN Xdf19.here hx rfl (hb hby d6_87) rfl ?_
          show Steps p.tables e below (Tdf19.setTop (mkF m 88 #[.val (.ref o), .val (.int x1), .val (.int (own_gt t 0 x1)), .val (.int (own_gt t 4 x1)), .val (.int (own_gt t 3 x1))] [(.int x1), (.ref (ad 4))])) _
          refine XS.iconst Xdf19.here hx rfl (hb hby d6_88) ?_
          show Steps p.tables e below (Tdf19.setTop (mkF m 89 #[.val (.ref o), .val (.int x1), .val (.int (own_gt t 0 x1)), .val (.int (own_gt t 4 x1)), .val (.int (own_gt t 3 x1))] [(.int (-1 : Int32)), (.int x1), (.ref (ad 4))])) _
          refine stdf21 _ ?_
          show Steps p.tables e below (Tdf21.setTop (mkF m 90 #[.val (.ref o), .val (.int x1), .val (.int (own_gt t 0 x1)), .val (.int (own_gt t 4 x1)), .val (.int (own_gt t 3 x1))] [])) _
          refine XS.aloadN Xdf21.here hx rfl (hb hby d6_90) rfl rfl ?_
          show Steps p.tables e below (Tdf21.setTop (mkF m 91 #[.val (.ref o), .val (.int x1), .val (.int (own_gt t 0 x1)), .val (.int (own_gt t 4 x1)), .val (.int (own_gt t 3 x1))] [(.ref o)])) _
          refine stdf22 _ ?_
          show Steps p.tables e below (Tdf22.setTop (mkF m 94 #[.val (.ref o), .val (.int x1), .val (.int (own_gt t 0 x1)), .val (.int (own_gt t 4 x1)), .val (.int (own_gt t 3 x1))] [(.ref (ad 3))])) _
          refine XS.iloadN Xdf22.here hx rfl (hb hby d6_94) rfl ?_
          show Steps p.tables e below (Tdf22.setTop (mkF m 95 #[.val (.ref o), .val (.int x1), .val (.int (own_gt t 0 x1)), .val (.int (own_gt t 4 x1)), .val (.int (own_gt t 3 x1))] [(.int x1), (.ref (ad 3))])) _
          refine XS.iconst Xdf22.here hx rfl (hb hby d6_95) ?_
          show Steps p.tables e below (Tdf22.setTop (mkF m 96 #[.val (.ref o), .val (.int x1), .val (.int (own_gt t 0 x1)), .val (.int (own_gt t 4 x1)), .val (.int (own_gt t 3 x1))] [(.int (-1 : Int32)), (.int x1), (.ref (ad 3))])) _
          refine stdf24 _ ?_
          exact kt
        obtain ⟨fs, hr, hrun, hended, hW, hsame⟩ := Xdf24.leave (v := none) (fun _ => rfl)
        refine ⟨_, _, predf25 _ ?_, hrun, hended, _, _, rfl, ?_, ⟨_, rfl⟩, hW, hsame.mono (by decide) (by decide)⟩
        · exact Xdf24.returnOut hx Bd.returns (hb hby d6_97) hr
        · show QrmD Z o ad kc t x1 h0 n0 _ Tdf24.heap _
          rw [edf24]
          exact ⟨rfl, Nxdf24, Kdf24, by rw [hv]; exact Hdf24⟩
def QrmA (Z : State) (o : Addr) (ad : Fin 5 → Addr) (kc : Fin 5 → ClassId) (t : Tree) (pr : Int32) (ch : Int32) (h0 : Heap) (n0 : Nat) (v : Option Value) (h : Heap) (L : List Loc) : Prop := v = none ∧ Fr n0 L ∧ Keep h0 h [ad 0, ad 1, ad 2, ad 3, ad 4] ∧ Tr Z h n0 o ad kc (own_app t pr ch)
theorem ef_rmA (m : MethodId) (x0 : Addr) (x1 : Int32) (x2 : Int32) : entryFrame m #[(.ref x0), (.int x1), (.int x2)] 4 = mkF m 0 #[.val (.ref x0), .val (.int x1), .val (.int x2), .unset] [] := by first | (simp [entryFrame, mkF, argsToLocals, Value.category]; done) | rfl
theorem pn_rmA : plainName "com/example/pith/pith/html/PageTree" = true := by first | (simp [plainName, overriddenIn]; done) | decide +kernel
set_option maxRecDepth 65536 in
set_option maxHeartbeats 40000000 in
theorem rmA (l : Launch) (Z : State) (a0 : Array Value) (hw : ∀ d ∈ tables_1, d.before a0 Z = true) (ws : List Jvm.Cond) (o : Addr) (ad : Fin 5 → Addr) (kc : Fin 5 → ClassId) (t : Tree) (pr : Int32) (ch : Int32) (h0 : Heap) (n0 : Nat) (Z0 : n0 ≤ h0.size) (H0 : Tr Z h0 n0 o ad kc t) (hl : own_len t) (hok : own_ok t) (hokd : ¬ own_gt (own_app0 t pr ch) 2 pr = -1 → own_r4 (own_gt (own_app0 t pr ch) 2 pr)) (hp : own_r4 pr) (hc : own_r4 ch) :
    MetFree l (⟨"com/example/pith/pith/html/PageTree", "append", "(II)V"⟩ : MethodName) (head1 (Jvm.Cond.code (⟨"com/example/pith/pith/html/PageTree", "append", "(II)V"⟩ : MethodName) prog_134_method_7_code 4 none :: ws) ({ frames := 1, cells := 0, slots := 0, locals := 16 } : Room)) (fun a U => a = #[(.ref o), (.int pr), (.int ch)] ∧ Z.Warmed39 U.vm ∧ U.heap = h0) (fun _ _ _ _ _ => True) (fun _ U oc U' => ∃ v L, oc = .returned v ∧ QrmA Z o ad kc t pr ch h0 n0 v U'.heap L ∧ FrameEnd U oc U' L ({ frames := 1, cells := 0, slots := 0, locals := 16 } : Room).cells ({ frames := 1, cells := 0, slots := 0, locals := 16 } : Room).slots) := by
  refine MetFree.of_bodySF (plainFor_of_name pn_rmA) hisR ?_
  intro p e s m args below meth c s₁ Bd hml0 hP hK
  obtain ⟨rfl, hZ, hh⟩ := hP
  have hx := Bd.exec
  have hby := Bd.bytes
  have hml : c.maxLocals = 4 := hml0
  have hown : s.vm.findClass "com/example/pith/pith/html/PageTree" = some m.cls := findClass_of_methodNamed Bd.named
  have hnm := (name_of_methodNamed Bd.named Bd.method).1
  have X0 : Stand p l e ({ frames := 1, cells := 0, slots := 0, locals := 16 } : Room) s m #[(.ref o), (.int pr), (.int ch)] below meth c s₁ [] 0 0 := Stand.of_body Bd
  have e0 : s₁.heap = h0 := by rw [← hh, Bd.state]; rfl
  have N0 := Fr.nil n0
  have pre0 : ∀ tt, Steps p.tables e below (s₁.setTop (mkF m 0 #[.val (.ref o), .val (.int pr), .val (.int ch), .unset] [])) tt → Steps p.tables e below (s₁.setTop (entryFrame m #[(.ref o), (.int pr), (.int ch)] 4)) tt := fun tt kt => castTop (ef_rmA m o pr ch) kt
  obtain ⟨cq1, kq1, q1a, q1b, q1c⟩ := isOf hZ e0 (Tr.exa H0)
  obtain ⟨_, _, ⟨T1, L1, k1, n1⟩, -, X1, ⟨Lc1, hQ1, l1, y1, z1⟩, st1⟩ := X0.virtualBack hx (y := (⟨"com/example/pith/pith/html/PageTree", "detach", "(I)V"⟩ : MethodName)) (z := (⟨"com/example/pith/pith/html/PageTree", "detach", "(I)V"⟩ : MethodName)) hown (mvT hZ (hw _ (List.mem_of_getElem? (i := 86) rfl))) (mvT hZ (hw _ (List.mem_of_getElem? (i := 53) rfl))) (notFace_of_selects (args := #[]) (mvT hZ (hw _ (List.mem_of_getElem? (i := 55) rfl)))) (mvT hZ (hw _ (List.mem_of_getElem? (i := 55) rfl))) (mvT hZ (hw _ (List.mem_of_getElem? (i := 54) rfl))) (by decide) (backOf (W := 0) (rmD l Z a0 hw [] o ad kc t ch h0 n0 Z0 H0 hl hok hc) hZ (hw _ (List.mem_of_getElem? (i := 56) rfl)) (hw _ (List.mem_of_getElem? (i := 2) rfl)) (by decide) (by decide)) q1a q1c (g := (mkF m 2 #[.val (.ref o), .val (.int pr), .val (.int ch), .unset] [(.int ch), (.ref o)])) rfl (by rw [hml]; rfl) (Steps.refl _) (argsL := [(.int ch)]) (rest := []) (lenOf pd_0 rfl) rfl (by show 2 * 0 + _ ≤ _; exact Nat.le_of_eq rfl) (hb hby d12_2) (fun _ _ => ⟨rfl, e0, (by decide : 0 + 0 ≤ _), (by decide : 0 + 0 ≤ _)⟩)
  dsimp only [Pt.U, Pt.locs, Pt.cells, Pt.slots] at X1 l1 y1 z1 st1 hQ1
  subst l1 y1 z1
  obtain ⟨rfl, N1q, K1, H1⟩ := hQ1
  have N1 := Fr.app N0 N1q
  obtain ⟨Lx1, X1, Nx1⟩ : ∃ L, Stand p l e ({ frames := 1, cells := 0, slots := 0, locals := 16 } : Room) s m #[(.ref o), (.int pr), (.int ch)] below meth c T1 L 0 0 ∧ Fr n0 L := ⟨_, X1.more (by decide) (by decide), N1⟩
  obtain ⟨T2, X2, e2, st2⟩ := getF X1 hx hZ hown (host := "") (Or.inl (hw _ (List.mem_of_getElem? (i := 21) rfl))) Via.refl rfl (show Fld Z T1.heap o "com/example/pith/pith/html/PageTree" "parent" "[I" (.ref (ad 0)) from Tr.fld H1 0) (g := (mkF m 6 #[.val (.ref o), .val (.int pr), .val (.int ch), .unset] [(.ref o)])) rfl rfl (hb hby d12_6)
  obtain ⟨c3, A3, in3, at3⟩ := Tr.arr H1 0 (x := ch) (own_r64 hc)
  obtain ⟨T4, h4, X4, e4, W4, st4⟩ := stI X2 hx hZ e2 A3 (j := ch) in3 (g := (mkF m 11 #[.val (.ref o), .val (.int pr), .val (.int ch), .unset] [(.int pr), (.int ch), (.ref (ad 0))])) rfl rfl (hb hby d12_11)
  have N4 := Fr.snoc X4 Nx1 (Tr.new H1 0)
  obtain ⟨Lx4, X4, Nx4⟩ : ∃ L, Stand p l e ({ frames := 1, cells := 0, slots := 0, locals := 16 } : Room) s m #[(.ref o), (.int pr), (.int ch)] below meth c T4 L 0 0 ∧ Fr n0 L := ⟨_, X4.more (by decide) (by decide), N4⟩
  have H4 := Tr.wr H1 W4 (own_len_det hl ch) hc
  have M4 := own_len_upd (own_len_det hl ch) 0 ch pr
  have K4 : Keep h0 h4 [ad 0, ad 1, ad 2, ad 3, ad 4] := K1.wr W4 (Or.inl (List.mem_of_getElem? (i := 0) rfl))
  have H4a : Tr Z h4 n0 o ad kc (own_app0 t pr ch) := H4
  have M4a : own_len (own_app0 t pr ch) := M4
  obtain ⟨T5, X5, e5, st5⟩ := getF X4 hx hZ hown (host := "") (Or.inl (hw _ (List.mem_of_getElem? (i := 25) rfl))) Via.refl e4 (show Fld Z h4 o "com/example/pith/pith/html/PageTree" "lastChild" "[I" (.ref (ad 2)) from Tr.fld H4a 2) (g := (mkF m 13 #[.val (.ref o), .val (.int pr), .val (.int ch), .unset] [(.ref o)])) rfl rfl (hb hby d12_13)
  obtain ⟨c6, A6, in6, at6⟩ := Tr.arr H4a 2 (x := pr) (own_r64 hp)
  obtain ⟨T7, X7, e7, st7⟩ := getF X5 hx hZ hown (host := "") (Or.inl (hw _ (List.mem_of_getElem? (i := 29) rfl))) Via.refl e5 (show Fld Z h4 o "com/example/pith/pith/html/PageTree" "previous" "[I" (.ref (ad 4)) from Tr.fld H4a 4) (g := (mkF m 20 #[.val (.ref o), .val (.int pr), .val (.int ch), .val (.int (own_gt (own_app0 t pr ch) 2 pr))] [(.ref o)])) rfl rfl (hb hby d12_20)
  obtain ⟨c8, A8, in8, at8⟩ := Tr.arr H4a 4 (x := ch) (own_r64 hc)
  obtain ⟨T9, h9, X9, e9, W9, st9⟩ := stI X7 hx hZ e7 A8 (j := ch) in8 (g := (mkF m 25 #[.val (.ref o), .val (.int pr), .val (.int ch), .val (.int (own_gt (own_app0 t pr ch) 2 pr))] [(.int (own_gt (own_app0 t pr ch) 2 pr)), (.int ch), (.ref (ad 4))])) rfl rfl (hb hby d12_25)
  have N9 := Fr.snoc X9 Nx4 (Tr.new H4a 4)
  obtain ⟨Lx9, X9, Nx9⟩ : ∃ L, Stand p l e ({ frames := 1, cells := 0, slots := 0, locals := 16 } : Room) s m #[(.ref o), (.int pr), (.int ch)] below meth c T9 L 0 0 ∧ Fr n0 L := ⟨_, X9.more (by decide) (by decide), N9⟩
  have H9 := Tr.wr H4a W9 M4a hc
  have M9 := own_len_upd M4a 4 ch (own_gt (own_app0 t pr ch) 2 pr)
  have K9 : Keep h0 h9 [ad 0, ad 1, ad 2, ad 3, ad 4] := K4.wr W9 (Or.inl (List.mem_of_getElem? (i := 4) rfl))
  obtain ⟨T10, X10, e10, st10⟩ := getF X9 hx hZ hown (host := "") (Or.inl (hw _ (List.mem_of_getElem? (i := 27) rfl))) Via.refl e9 (show Fld Z h9 o "com/example/pith/pith/html/PageTree" "next" "[I" (.ref (ad 3)) from Tr.fld H9 3) (g := (mkF m 27 #[.val (.ref o), .val (.int pr), .val (.int ch), .val (.int (own_gt (own_app0 t pr ch) 2 pr))] [(.ref o)])) rfl rfl (hb hby d12_27)
  obtain ⟨c11, A11, in11, at11⟩ := Tr.arr H9 3 (x := ch) (own_r64 hc)
  obtain ⟨T12, h12, X12, e12, W12, st12⟩ := stI X10 hx hZ e10 A11 (j := ch) in11 (g := (mkF m 32 #[.val (.ref o), .val (.int pr), .val (.int ch), .val (.int (own_gt (own_app0 t pr ch) 2 pr))] [(.int (-1 : Int32)), (.int ch), (.ref (ad 3))])) rfl rfl (hb hby d12_32)
  have N12 := Fr.snoc X12 Nx9 (Tr.new H9 3)
  obtain ⟨Lx12, X12, Nx12⟩ : ∃ L, Stand p l e ({ frames := 1, cells := 0, slots := 0, locals := 16 } : Room) s m #[(.ref o), (.int pr), (.int ch)] below meth c T12 L 0 0 ∧ Fr n0 L := ⟨_, X12.more (by decide) (by decide), N12⟩
  have H12 := Tr.wr H9 W12 M9 hc
  have M12 := own_len_upd M9 3 ch (-1)
  have K12 : Keep h0 h12 [ad 0, ad 1, ad 2, ad 3, ad 4] := K9.wr W12 (Or.inl (List.mem_of_getElem? (i := 3) rfl))
  have H12a : Tr Z h12 n0 o ad kc (own_app1 t pr ch) := H12
  have M12a : own_len (own_app1 t pr ch) := M12
  have pre13 : ∀ tt, Steps p.tables e below (T12.setTop (mkF m 35 #[.val (.ref o), .val (.int pr), .val (.int ch), .val (.int (own_gt (own_app0 t pr ch) 2 pr))] [(.int (-1 : Int32)), (.int (own_gt (own_app0 t pr ch) 2 pr))])) tt → Steps p.tables e below (s₁.setTop (entryFrame m #[(.ref o), (.int pr), (.int ch)] 4)) tt := by
    intro tt kt
    refine pre0 tt ?_
    show Steps p.tables e below (s₁.setTop (mkF m 0 #[.val (.ref o), .val (.int pr), .val (.int ch), .unset] [])) _
    refine XS.aloadN X0.here hx rfl (hb hby d12_0) rfl rfl ?_
    show Steps p.tables e below (s₁.setTop (mkF m 1 #[.val (.ref o), .val (.int pr), .val (.int ch), .unset] [(.ref o)])) _
    refine XS.iloadN X0.here hx rfl (hb hby d12_1) rfl ?_
    show Steps p.tables e below (s₁.setTop (mkF m 2 #[.val (.ref o), .val (.int pr), .val (.int ch), .unset] [(.int ch), (.ref o)])) _
    refine st1.trans ?_
    show Steps p.tables e below (T1.setTop (mkF m 5 #[.val (.ref o), .val (.int pr), .val (.int ch), .unset] [])) _
    refine XS.aloadN X1.here hx rfl (hb hby d12_5) rfl rfl ?_
    show Steps p.tables e below (T1.setTop (mkF m 6 #[.val (.ref o), .val (.int pr), .val (.int ch), .unset] [(.ref o)])) _
    refine st2 _ ?_
    show Steps p.tables e below (T2.setTop (mkF m 9 #[.val (.ref o), .val (.int pr), .val (.int ch), .unset] [(.ref (ad 0))])) _
    refine XS.iloadN X2.here hx rfl (hb hby d12_9) rfl ?_
    show Steps p.tables e below (T2.setTop (mkF m 10 #[.val (.ref o), .val (.int pr), .val (.int ch), .unset] [(.int ch), (.ref (ad 0))])) _
    refine XS.iloadN X2.here hx rfl (hb hby d12_10) rfl ?_
    show Steps p.tables e below (T2.setTop (mkF m 11 #[.val (.ref o), .val (.int pr), .val (.int ch), .unset] [(.int pr), (.int ch), (.ref (ad 0))])) _
    refine st4 _ ?_
    show Steps p.tables e below (T4.setTop (mkF m 12 #[.val (.ref o), .val (.int pr), .val (.int ch), .unset] [])) _
    refine XS.aloadN X4.here hx rfl (hb hby d12_12) rfl rfl ?_
    show Steps p.tables e below (T4.setTop (mkF m 13 #[.val (.ref o), .val (.int pr), .val (.int ch), .unset] [(.ref o)])) _
    refine st5 _ ?_
    show Steps p.tables e below (T5.setTop (mkF m 16 #[.val (.ref o), .val (.int pr), .val (.int ch), .unset] [(.ref (ad 2))])) _
    refine XS.iloadN X5.here hx rfl (hb hby d12_16) rfl ?_
    show Steps p.tables e below (T5.setTop (mkF m 17 #[.val (.ref o), .val (.int pr), .val (.int ch), .unset] [(.int pr), (.ref (ad 2))])) _
    refine X5.iaload hx (j := pr) (v := (.int (own_gt (own_app0 t pr ch) 2 pr))) (by rw [e5]; exact A6.1) (State.isArrayOf_alike hZ.alike A6.2.1) A6.2.2 in6 at6 (g := (mkF m 17 #[.val (.ref o), .val (.int pr), .val (.int ch), .unset] [(.int pr), (.ref (ad 2))])) rfl rfl (hb hby d12_17) _ ?_
    show Steps p.tables e below (T5.setTop (mkF m 18 #[.val (.ref o), .val (.int pr), .val (.int ch), .unset] [(.int (own_gt (own_app0 t pr ch) 2 pr))])) _
    refine XS.istoreN X5.here hx rfl (hb hby d12_18) rfl (l' := #[.val (.ref o), .val (.int pr), .val (.int ch), .val (.int (own_gt (own_app0 t pr ch) 2 pr))]) rfl ?_
    show Steps p.tables e below (T5.setTop (mkF m 19 #[.val (.ref o), .val (.int pr), .val (.int ch), .val (.int (own_gt (own_app0 t pr ch) 2 pr))] [])) _
    refine XS.aloadN X5.here hx rfl (hb hby d12_19) rfl rfl ?_
    show Steps p.tables e below (T5.setTop (mkF m 20 #[.val (.ref o), .val (.int pr), .val (.int ch), .val (.int (own_gt (own_app0 t pr ch) 2 pr))] [(.ref o)])) _
    refine st7 _ ?_
    show Steps p.tables e below (T7.setTop (mkF m 23 #[.val (.ref o), .val (.int pr), .val (.int ch), .val (.int (own_gt (own_app0 t pr ch) 2 pr))] [(.ref (ad 4))])) _
    refine XS.iloadN X7.here hx rfl (hb hby d12_23) rfl ?_
    show Steps p.tables e below (T7.setTop (mkF m 24 #[.val (.ref o), .val (.int pr), .val (.int ch), .val (.int (own_gt (own_app0 t pr ch) 2 pr))] [(.int ch), (.ref (ad 4))])) _
    refine XS.iloadN X7.here hx rfl (hb hby d12_24) rfl ?_
    show Steps p.tables e below (T7.setTop (mkF m 25 #[.val (.ref o), .val (.int pr), .val (.int ch), .val (.int (own_gt (own_app0 t pr ch) 2 pr))] [(.int (own_gt (own_app0 t pr ch) 2 pr)), (.int ch), (.ref (ad 4))])) _
    refine st9 _ ?_
    show Steps p.tables e below (T9.setTop (mkF m 26 #[.val (.ref o), .val (.int pr), .val (.int ch), .val (.int (own_gt (own_app0 t pr ch) 2 pr))] [])) _
    refine XS.aloadN X9.here hx rfl (hb hby d12_26) rfl rfl ?_
    show Steps p.tables e below (T9.setTop (mkF m 27 #[.val (.ref o), .val (.int pr), .val (.int ch), .val (.int (own_gt (own_app0 t pr ch) 2 pr))] [(.ref o)])) _
    refine st10 _ ?_
    show Steps p.tables e below (T10.setTop (mkF m 30 #[.val (.ref o), .val (.int pr), .val (.int ch), .val (.int (own_gt (own_app0 t pr ch) 2 pr))] [(.ref (ad 3))])) _
    refine XS.iloadN X10.here hx rfl (hb hby d12_30) rfl ?_
    show Steps p.tables e below (T10.setTop (mkF m 31 #[.val (.ref o), .val (.int pr), .val (.int ch), .val (.int (own_gt (own_app0 t pr ch) 2 pr))] [(.int ch), (.ref (ad 3))])) _
    refine XS.iconst X10.here hx rfl (hb hby d12_31) ?_
    show Steps p.tables e below (T10.setTop (mkF m 32 #[.val (.ref o), .val (.int pr), .val (.int ch), .val (.int (own_gt (own_app0 t pr ch) 2 pr))] [(.int (-1 : Int32)), (.int ch), (.ref (ad 3))])) _
    refine st12 _ ?_
    show Steps p.tables e below (T12.setTop (mkF m 33 #[.val (.ref o), .val (.int pr), .val (.int ch), .val (.int (own_gt (own_app0 t pr ch) 2 pr))] [])) _
    refine XS.iloadN X12.here hx rfl (hb hby d12_33) rfl ?_
    show Steps p.tables e below (T12.setTop (mkF m 34 #[.val (.ref o), .val (.int pr), .val (.int ch), .val (.int (own_gt (own_app0 t pr ch) 2 pr))] [(.int (own_gt (own_app0 t pr ch) 2 pr))])) _
    refine XS.iconst X12.here hx rfl (hb hby d12_34) ?_
    exact kt
  by_cases c1 : (own_gt (own_app0 t pr ch) 2 pr) = -1
  · skip
    obtain ⟨Tc14, Xc14, ec14, stc14⟩ := getF X12 hx hZ hown (host := "") (Or.inl (hw _ (List.mem_of_getElem? (i := 23) rfl))) Via.refl e12 (show Fld Z h12 o "com/example/pith/pith/html/PageTree" "firstChild" "[I" (.ref (ad 1)) from Tr.fld H12a 1) (g := (mkF m 39 #[.val (.ref o), .val (.int pr), .val (.int ch), .val (.int (own_gt (own_app0 t pr ch) 2 pr))] [(.ref o)])) rfl rfl (hb hby d12_39)
    obtain ⟨cc15, Ac15, inc15, atc15⟩ := Tr.arr H12a 1 (x := pr) (own_r64 hp)
    obtain ⟨Tc16, hc16, Xc16, ec16, Wc16, stc16⟩ := stI Xc14 hx hZ ec14 Ac15 (j := pr) inc15 (g := (mkF m 44 #[.val (.ref o), .val (.int pr), .val (.int ch), .val (.int (own_gt (own_app0 t pr ch) 2 pr))] [(.int ch), (.int pr), (.ref (ad 1))])) rfl rfl (hb hby d12_44)
    have Nc16 := Fr.snoc Xc16 Nx12 (Tr.new H12a 1)
    obtain ⟨Lxc16, Xc16, Nxc16⟩ : ∃ L, Stand p l e ({ frames := 1, cells := 0, slots := 0, locals := 16 } : Room) s m #[(.ref o), (.int pr), (.int ch)] below meth c Tc16 L 0 0 ∧ Fr n0 L := ⟨_, Xc16.more (by decide) (by decide), Nc16⟩
    have Hc16 := Tr.wr H12a Wc16 M12a hp
    have Mc16 := own_len_upd M12a 1 pr ch
    have Kc16 : Keep h0 hc16 [ad 0, ad 1, ad 2, ad 3, ad 4] := K12.wr Wc16 (Or.inl (List.mem_of_getElem? (i := 1) rfl))
    obtain ⟨Tc17, Xc17, ec17, stc17⟩ := getF Xc16 hx hZ hown (host := "") (Or.inl (hw _ (List.mem_of_getElem? (i := 25) rfl))) Via.refl ec16 (show Fld Z hc16 o "com/example/pith/pith/html/PageTree" "lastChild" "[I" (.ref (ad 2)) from Tr.fld Hc16 2) (g := (mkF m 56 #[.val (.ref o), .val (.int pr), .val (.int ch), .val (.int (own_gt (own_app0 t pr ch) 2 pr))] [(.ref o)])) rfl rfl (hb hby d12_56)
    obtain ⟨cc18, Ac18, inc18, atc18⟩ := Tr.arr Hc16 2 (x := pr) (own_r64 hp)
    obtain ⟨Tc19, hc19, Xc19, ec19, Wc19, stc19⟩ := stI Xc17 hx hZ ec17 Ac18 (j := pr) inc18 (g := (mkF m 61 #[.val (.ref o), .val (.int pr), .val (.int ch), .val (.int (own_gt (own_app0 t pr ch) 2 pr))] [(.int ch), (.int pr), (.ref (ad 2))])) rfl rfl (hb hby d12_61)
    have Nc19 := Fr.snoc Xc19 Nxc16 (Tr.new Hc16 2)
    obtain ⟨Lxc19, Xc19, Nxc19⟩ : ∃ L, Stand p l e ({ frames := 1, cells := 0, slots := 0, locals := 16 } : Room) s m #[(.ref o), (.int pr), (.int ch)] below meth c Tc19 L 0 0 ∧ Fr n0 L := ⟨_, Xc19.more (by decide) (by decide), Nc19⟩
    have Hc19 := Tr.wr Hc16 Wc19 Mc16 hp
    have Mc19 := own_len_upd Mc16 2 pr ch
    have Kc19 : Keep h0 hc19 [ad 0, ad 1, ad 2, ad 3, ad 4] := Kc16.wr Wc19 (Or.inl (List.mem_of_getElem? (i := 2) rfl))
    have hv : own_app t pr ch = (own_upd (own_upd (own_app1 t pr ch) 1 pr ch) 2 pr ch) := by unfold own_app; rw [if_pos c1]
    have prec20 : ∀ tt, Steps p.tables e below (Tc19.setTop (mkF m 62 #[.val (.ref o), .val (.int pr), .val (.int ch), .val (.int (own_gt (own_app0 t pr ch) 2 pr))] [])) tt → Steps p.tables e below (s₁.setTop (entryFrame m #[(.ref o), (.int pr), (.int ch)] 4)) tt := by
      intro tt kt
      refine pre13 tt ?_
      show Steps p.tables e below (T12.setTop (mkF m 35 #[.val (.ref o), .val (.int pr), .val (.int ch), .val (.int (own_gt (own_app0 t pr ch) 2 pr))] [(.int (-1 : Int32)), (.int (own_gt (own_app0 t pr ch) 2 pr))])) _
      refine XS.icmpNo X12.here hx rfl (hb hby d12_35) rfl (teq c1).2 ?_
      show Steps p.tables e below (T12.setTop (mkF m 38 #[.val (.ref o), .val (.int pr), .val (.int ch), .val (.int (own_gt (own_app0 t pr ch) 2 pr))] [])) _
      refine XS.aloadN X12.here hx rfl (hb hby d12_38) rfl rfl ?_
      show Steps p.tables e below (T12.setTop (mkF m 39 #[.val (.ref o), .val (.int pr), .val (.int ch), .val (.int (own_gt (own_app0 t pr ch) 2 pr))] [(.ref o)])) _
      refine stc14 _ ?_
      show Steps p.tables e below (Tc14.setTop (mkF m 42 #[.val (.ref o), .val (.int pr), .val (.int ch), .val (.int (own_gt (own_app0 t pr ch) 2 pr))] [(.ref (ad 1))])) _
      refine XS.iloadN Xc14.here hx rfl (hb hby d12_42) rfl ?_
      show Steps p.tables e below (Tc14.setTop (mkF m 43 #[.val (.ref o), .val (.int pr), .val (.int ch), .val (.int (own_gt (own_app0 t pr ch) 2 pr))] [(.int pr), (.ref (ad 1))])) _
      refine XS.iloadN Xc14.here hx rfl (hb hby d12_43) rfl ?_
      show Steps p.tables e below (Tc14.setTop (mkF m 44 #[.val (.ref o), .val (.int pr), .val (.int ch), .val (.int (own_gt (own_app0 t pr ch) 2 pr))] [(.int ch), (.int pr), (.ref (ad 1))])) _
      refine stc16 _ ?_
      show Steps p.tables e below (Tc16.setTop (mkF m 45 #[.val (.ref o), .val (.int pr), .val (.int ch), .val (.int (own_gt (own_app0 t pr ch) 2 pr))] [])) _
      refine XS.goto Xc16.here hx rfl (pc0 := 45) (pc' := 55) rfl (hb hby d12_45) (by decide) (by decide) ?_
      show Steps p.tables e below (Tc16.setTop (mkF m 55 #[.val (.ref o), .val (.int pr), .val (.int ch), .val (.int (own_gt (own_app0 t pr ch) 2 pr))] [])) _
      refine XS.aloadN Xc16.here hx rfl (hb hby d12_55) rfl rfl ?_
      show Steps p.tables e below (Tc16.setTop (mkF m 56 #[.val (.ref o), .val (.int pr), .val (.int ch), .val (.int (own_gt (own_app0 t pr ch) 2 pr))] [(.ref o)])) _
      refine stc17 _ ?_
      show Steps p.tables e below (Tc17.setTop (mkF m 59 #[.val (.ref o), .val (.int pr), .val (.int ch), .val (.int (own_gt (own_app0 t pr ch) 2 pr))] [(.ref (ad 2))])) _
      refine XS.iloadN Xc17.here hx rfl (hb hby d12_59) rfl ?_
      show Steps p.tables e below (Tc17.setTop (mkF m 60 #[.val (.ref o), .val (.int pr), .val (.int ch), .val (.int (own_gt (own_app0 t pr ch) 2 pr))] [(.int pr), (.ref (ad 2))])) _
      refine XS.iloadN Xc17.here hx rfl (hb hby d12_60) rfl ?_
      show Steps p.tables e below (Tc17.setTop (mkF m 61 #[.val (.ref o), .val (.int pr), .val (.int ch), .val (.int (own_gt (own_app0 t pr ch) 2 pr))] [(.int ch), (.int pr), (.ref (ad 2))])) _
      refine stc19 _ ?_
      exact kt
    obtain ⟨fs, hr, hrun, hended, hW, hsame⟩ := Xc19.leave (v := none) (fun _ => rfl)
    refine ⟨_, _, prec20 _ ?_, hrun, hended, _, _, rfl, ?_, ⟨_, rfl⟩, hW, hsame.mono (by decide) (by decide)⟩
    · exact Xc19.returnOut hx Bd.returns (hb hby d12_62) hr
    · show QrmA Z o ad kc t pr ch h0 n0 _ Tc19.heap _
      rw [ec19]
      exact ⟨rfl, Nxc19, Kc19, by rw [hv]; exact Hc19⟩
  · skip
    have hla := hokd c1
    obtain ⟨Td14, Xd14, ed14, std14⟩ := getF X12 hx hZ hown (host := "") (Or.inl (hw _ (List.mem_of_getElem? (i := 27) rfl))) Via.refl e12 (show Fld Z h12 o "com/example/pith/pith/html/PageTree" "next" "[I" (.ref (ad 3)) from Tr.fld H12a 3) (g := (mkF m 49 #[.val (.ref o), .val (.int pr), .val (.int ch), .val (.int (own_gt (own_app0 t pr ch) 2 pr))] [(.ref o)])) rfl rfl (hb hby d12_49)
    obtain ⟨cd15, Ad15, ind15, atd15⟩ := Tr.arr H12a 3 (x := (own_gt (own_app0 t pr ch) 2 pr)) (own_r64 hla)
    obtain ⟨Td16, hd16, Xd16, ed16, Wd16, std16⟩ := stI Xd14 hx hZ ed14 Ad15 (j := (own_gt (own_app0 t pr ch) 2 pr)) ind15 (g := (mkF m 54 #[.val (.ref o), .val (.int pr), .val (.int ch), .val (.int (own_gt (own_app0 t pr ch) 2 pr))] [(.int ch), (.int (own_gt (own_app0 t pr ch) 2 pr)), (.ref (ad 3))])) rfl rfl (hb hby d12_54)
    have Nd16 := Fr.snoc Xd16 Nx12 (Tr.new H12a 3)
    obtain ⟨Lxd16, Xd16, Nxd16⟩ : ∃ L, Stand p l e ({ frames := 1, cells := 0, slots := 0, locals := 16 } : Room) s m #[(.ref o), (.int pr), (.int ch)] below meth c Td16 L 0 0 ∧ Fr n0 L := ⟨_, Xd16.more (by decide) (by decide), Nd16⟩
    have Hd16 := Tr.wr H12a Wd16 M12a hla
    have Md16 := own_len_upd M12a 3 (own_gt (own_app0 t pr ch) 2 pr) ch
    have Kd16 : Keep h0 hd16 [ad 0, ad 1, ad 2, ad 3, ad 4] := K12.wr Wd16 (Or.inl (List.mem_of_getElem? (i := 3) rfl))
    obtain ⟨Td17, Xd17, ed17, std17⟩ := getF Xd16 hx hZ hown (host := "") (Or.inl (hw _ (List.mem_of_getElem? (i := 25) rfl))) Via.refl ed16 (show Fld Z hd16 o "com/example/pith/pith/html/PageTree" "lastChild" "[I" (.ref (ad 2)) from Tr.fld Hd16 2) (g := (mkF m 56 #[.val (.ref o), .val (.int pr), .val (.int ch), .val (.int (own_gt (own_app0 t pr ch) 2 pr))] [(.ref o)])) rfl rfl (hb hby d12_56)
    obtain ⟨cd18, Ad18, ind18, atd18⟩ := Tr.arr Hd16 2 (x := pr) (own_r64 hp)
    obtain ⟨Td19, hd19, Xd19, ed19, Wd19, std19⟩ := stI Xd17 hx hZ ed17 Ad18 (j := pr) ind18 (g := (mkF m 61 #[.val (.ref o), .val (.int pr), .val (.int ch), .val (.int (own_gt (own_app0 t pr ch) 2 pr))] [(.int ch), (.int pr), (.ref (ad 2))])) rfl rfl (hb hby d12_61)
    have Nd19 := Fr.snoc Xd19 Nxd16 (Tr.new Hd16 2)
    obtain ⟨Lxd19, Xd19, Nxd19⟩ : ∃ L, Stand p l e ({ frames := 1, cells := 0, slots := 0, locals := 16 } : Room) s m #[(.ref o), (.int pr), (.int ch)] below meth c Td19 L 0 0 ∧ Fr n0 L := ⟨_, Xd19.more (by decide) (by decide), Nd19⟩
    have Hd19 := Tr.wr Hd16 Wd19 Md16 hp
    have Md19 := own_len_upd Md16 2 pr ch
    have Kd19 : Keep h0 hd19 [ad 0, ad 1, ad 2, ad 3, ad 4] := Kd16.wr Wd19 (Or.inl (List.mem_of_getElem? (i := 2) rfl))
    have hv : own_app t pr ch = (own_upd (own_upd (own_app1 t pr ch) 3 (own_gt (own_app0 t pr ch) 2 pr) ch) 2 pr ch) := by unfold own_app; rw [if_neg c1]
    have pred20 : ∀ tt, Steps p.tables e below (Td19.setTop (mkF m 62 #[.val (.ref o), .val (.int pr), .val (.int ch), .val (.int (own_gt (own_app0 t pr ch) 2 pr))] [])) tt → Steps p.tables e below (s₁.setTop (entryFrame m #[(.ref o), (.int pr), (.int ch)] 4)) tt := by
      intro tt kt
      refine pre13 tt ?_
      show Steps p.tables e below (T12.setTop (mkF m 35 #[.val (.ref o), .val (.int pr), .val (.int ch), .val (.int (own_gt (own_app0 t pr ch) 2 pr))] [(.int (-1 : Int32)), (.int (own_gt (own_app0 t pr ch) 2 pr))])) _
      refine XS.icmpYes X12.here hx rfl (pc0 := 35) (pc' := 48) rfl (hb hby d12_35) rfl (feq c1).2 (by decide) (by decide) ?_
      show Steps p.tables e below (T12.setTop (mkF m 48 #[.val (.ref o), .val (.int pr), .val (.int ch), .val (.int (own_gt (own_app0 t pr ch) 2 pr))] [])) _
      refine XS.aloadN X12.here hx rfl (hb hby d12_48) rfl rfl ?_
      show Steps p.tables e below (T12.setTop (mkF m 49 #[.val (.ref o), .val (.int pr), .val (.int ch), .val (.int (own_gt (own_app0 t pr ch) 2 pr))] [(.ref o)])) _
      refine std14 _ ?_
      show Steps p.tables e below (Td14.setTop (mkF m 52 #[.val (.ref o), .val (.int pr), .val (.int ch), .val (.int (own_gt (own_app0 t pr ch) 2 pr))] [(.ref (ad 3))])) _
      refine XS.iloadN Xd14.here hx rfl (hb hby d12_52) rfl ?_
      show Steps p.tables e below (Td14.setTop (mkF m 53 #[.val (.ref o), .val (.int pr), .val (.int ch), .val (.int (own_gt (own_app0 t pr ch) 2 pr))] [(.int (own_gt (own_app0 t pr ch) 2 pr)), (.ref (ad 3))])) _
      refine XS.iloadN Xd14.here hx rfl (hb hby d12_53) rfl ?_
      show Steps p.tables e below (Td14.setTop (mkF m 54 #[.val (.ref o), .val (.int pr), .val (.int ch), .val (.int (own_gt (own_app0 t pr ch) 2 pr))] [(.int ch), (.int (own_gt (own_app0 t pr ch) 2 pr)), (.ref (ad 3))])) _
      refine std16 _ ?_
      show Steps p.tables e below (Td16.setTop (mkF m 55 #[.val (.ref o), .val (.int pr), .val (.int ch), .val (.int (own_gt (own_app0 t pr ch) 2 pr))] [])) _
      refine XS.aloadN Xd16.here hx rfl (hb hby d12_55) rfl rfl ?_
      show Steps p.tables e below (Td16.setTop (mkF m 56 #[.val (.ref o), .val (.int pr), .val (.int ch), .val (.int (own_gt (own_app0 t pr ch) 2 pr))] [(.ref o)])) _
      refine std17 _ ?_
      show Steps p.tables e below (Td17.setTop (mkF m 59 #[.val (.ref o), .val (.int pr), .val (.int ch), .val (.int (own_gt (own_app0 t pr ch) 2 pr))] [(.ref (ad 2))])) _
      refine XS.iloadN Xd17.here hx rfl (hb hby d12_59) rfl ?_
      show Steps p.tables e below (Td17.setTop (mkF m 60 #[.val (.ref o), .val (.int pr), .val (.int ch), .val (.int (own_gt (own_app0 t pr ch) 2 pr))] [(.int pr), (.ref (ad 2))])) _
      refine XS.iloadN Xd17.here hx rfl (hb hby d12_60) rfl ?_
      show Steps p.tables e below (Td17.setTop (mkF m 61 #[.val (.ref o), .val (.int pr), .val (.int ch), .val (.int (own_gt (own_app0 t pr ch) 2 pr))] [(.int ch), (.int pr), (.ref (ad 2))])) _
      refine std19 _ ?_
      exact kt
    obtain ⟨fs, hr, hrun, hended, hW, hsame⟩ := Xd19.leave (v := none) (fun _ => rfl)
    refine ⟨_, _, pred20 _ ?_, hrun, hended, _, _, rfl, ?_, ⟨_, rfl⟩, hW, hsame.mono (by decide) (by decide)⟩
    · exact Xd19.returnOut hx Bd.returns (hb hby d12_62) hr
    · show QrmA Z o ad kc t pr ch h0 n0 _ Td19.heap _
      rw [ed19]
      exact ⟨rfl, Nxd19, Kd19, by rw [hv]; exact Hd19⟩
def own_f1 (i : Fin 13) : String := match i with | 0 => "page" | 1 => "scripting" | 2 => "name" | 3 => "parent" | 4 => "firstChild" | 5 => "lastChild" | 6 => "next" | 7 => "previous" | 8 => "textStart" | 9 => "textEnd" | 10 => "flags" | 11 => "text" | 12 => "size"
def own_f2 (i : Fin 13) : String := match i with | 0 => "[C" | 1 => "Z" | 2 => "[I" | 3 => "[I" | 4 => "[I" | 5 => "[I" | 6 => "[I" | 7 => "[I" | 8 => "[I" | 9 => "[I" | 10 => "[S" | 11 => "[C" | 12 => "I"
def own_f3 (i : Fin 13) : FieldType := match i with | 0 => (.array .char) | 1 => .boolean | 2 => (.array .int) | 3 => (.array .int) | 4 => (.array .int) | 5 => (.array .int) | 6 => (.array .int) | 7 => (.array .int) | 8 => (.array .int) | 9 => (.array .int) | 10 => (.array .short) | 11 => (.array .char) | 12 => .int
theorem own_nm : ∀ i j : Fin 13, i ≠ j → own_f1 i ≠ own_f1 j := by decide
theorem own_parse (i : Fin 13) : parseFieldDescriptor (own_f2 i) = some (own_f3 i) := match i with | 0 => by decide | 1 => by decide | 2 => by decide | 3 => by decide | 4 => by decide | 5 => by decide | 6 => by decide | 7 => by decide | 8 => by decide | 9 => by decide | 10 => by decide | 11 => by decide | 12 => by decide
theorem own_laid {Z : State} {a0 : Array Value} (hw : ∀ d ∈ tables_1, d.before a0 Z = true) (i : Fin 13) : Laid Z a0 "com/example/pith/pith/html/PageTree" "com/example/pith/pith/html/PageTree" (own_f1 i) (own_f2 i) := match i with
  | 0 => Or.inr (hw _ (List.mem_of_getElem? (i := 11) rfl))
  | 1 => Or.inr (hw _ (List.mem_of_getElem? (i := 13) rfl))
  | 2 => Or.inl (hw _ (List.mem_of_getElem? (i := 20) rfl))
  | 3 => Or.inl (hw _ (List.mem_of_getElem? (i := 22) rfl))
  | 4 => Or.inl (hw _ (List.mem_of_getElem? (i := 24) rfl))
  | 5 => Or.inl (hw _ (List.mem_of_getElem? (i := 26) rfl))
  | 6 => Or.inl (hw _ (List.mem_of_getElem? (i := 28) rfl))
  | 7 => Or.inl (hw _ (List.mem_of_getElem? (i := 30) rfl))
  | 8 => Or.inl (hw _ (List.mem_of_getElem? (i := 32) rfl))
  | 9 => Or.inl (hw _ (List.mem_of_getElem? (i := 34) rfl))
  | 10 => Or.inl (hw _ (List.mem_of_getElem? (i := 37) rfl))
  | 11 => Or.inl (hw _ (List.mem_of_getElem? (i := 39) rfl))
  | 12 => Or.inl (hw _ (List.mem_of_getElem? (i := 45) rfl))
theorem own_sn {Z : State} {a0 : Array Value} (hw : ∀ d ∈ tables_1, d.before a0 Z = true) {i j : Fin 13} (h : i ≠ j) : Jvm.RoadKit.slotOf Z "com/example/pith/pith/html/PageTree" (own_f1 i) (own_f2 i) ≠ Jvm.RoadKit.slotOf Z "com/example/pith/pith/html/PageTree" (own_f1 j) (own_f2 j) := slot_ne (own_laid hw i) (own_laid hw j) (own_nm i j h) (own_parse i) (own_parse j)
def PF (Z : State) (h : Heap) (o : Addr) (vals : Fin 13 → Value) : Prop := ∀ i, Fld Z h o "com/example/pith/pith/html/PageTree" (own_f1 i) (own_f2 i) (vals i)
theorem PF.wr {Z : State} {a0 : Array Value} (hw : ∀ d ∈ tables_1, d.before a0 Z = true) {h h' : Heap} {o : Addr} {vals : Fin 13 → Value} (H : PF Z h o vals) (i : Fin 13) {v : Value} (W : Wr h h' o (Jvm.RoadKit.slotOf Z "com/example/pith/pith/html/PageTree" (own_f1 i) (own_f2 i)) v) : PF Z h' o (fun j => if j = i then v else vals j) := fun j => by
  by_cases e : j = i
  · subst e; dsimp only; rw [if_pos rfl]; exact Fld.same W (H j)
  · dsimp only; rw [if_neg e]; exact (H j).other W (Or.inr (own_sn hw e))
theorem PF.ext {Z : State} {h h' : Heap} {o : Addr} {vals : Fin 13 → Value} (H : PF Z h o vals) (E : Ext h h') : PF Z h' o vals := fun j => (H j).ext E
theorem own_size_ne {Z : State} {a0 : Array Value} (hw : ∀ d ∈ tables_1, d.before a0 Z = true) : ∀ i, Jvm.RoadKit.slotOf Z "com/example/pith/pith/html/PageTree" (own_fn i) "[I" ≠ Jvm.RoadKit.slotOf Z "com/example/pith/pith/html/PageTree" "size" "I" :=
  own_all5 (own_sn hw (i := 3) (j := 12) (by decide)) (own_sn hw (i := 4) (j := 12) (by decide)) (own_sn hw (i := 5) (j := 12) (by decide)) (own_sn hw (i := 6) (j := 12) (by decide)) (own_sn hw (i := 7) (j := 12) (by decide))
theorem Tr.wrSize {Z : State} {h h' : Heap} {n0 : Nat} {o : Addr} {ad : Fin 5 → Addr} {kc : Fin 5 → ClassId} {t : Tree} {v : Value} (H : Tr Z h n0 o ad kc t) (hne : ∀ i, Jvm.RoadKit.slotOf Z "com/example/pith/pith/html/PageTree" (own_fn i) "[I" ≠ Jvm.RoadKit.slotOf Z "com/example/pith/pith/html/PageTree" "size" "I") (W : Wr h h' o (Jvm.RoadKit.slotOf Z "com/example/pith/pith/html/PageTree" "size" "I") v) : Tr Z h' n0 o ad kc t :=
  ⟨H.1.wr W, fun j => (H.2.1 j).other W (Or.inr (hne j)), fun j => (H.2.2.1 j).other W (H.2.2.2.2.1 j), H.2.2.2⟩
theorem Bt.keep {Z : State} {h h' : Heap} {n0 : Nat} {o : Addr} {ad : Fin 5 → Addr} {nm fl : Addr} {sz : Int32} {ws : List Addr} (B : Bt Z h n0 o ad nm fl sz) (K : Keep h h' ws) (ho : o ∉ ws) (hn : nm ∉ ws) (hf : fl ∉ ws) : Bt Z h' n0 o ad nm fl sz :=
  ⟨B.1.keep K ho, B.2.1.keep K ho, B.2.2.1.keep K ho, B.2.2.2.1.keep K hn, B.2.2.2.2.1.keep K hf, B.2.2.2.2.2⟩
theorem Bt.wrSize {Z : State} {a0 : Array Value} (hw : ∀ d ∈ tables_1, d.before a0 Z = true) {h h' : Heap} {n0 : Nat} {o : Addr} {ad : Fin 5 → Addr} {nm fl : Addr} {sz sz' : Int32} (B : Bt Z h n0 o ad nm fl sz) (W : Wr h h' o (Jvm.RoadKit.slotOf Z "com/example/pith/pith/html/PageTree" "size" "I") (.int sz')) : Bt Z h' n0 o ad nm fl sz' :=
  ⟨Fld.same W B.1, B.2.1.other W (Or.inr (own_sn hw (i := 2) (j := 12) (by decide))), B.2.2.1.other W (Or.inr (own_sn hw (i := 10) (j := 12) (by decide))), B.2.2.2.1.keep (Keep.of_wr W) (ninS B.2.2.2.2.2.2.1.1 nin0), B.2.2.2.2.1.keep (Keep.of_wr W) (ninS B.2.2.2.2.2.2.1.2.1 nin0), B.2.2.2.2.2⟩
theorem Bt.wrL {Z : State} {h h' : Heap} {n0 : Nat} {o : Addr} {ad : Fin 5 → Addr} {nm fl : Addr} {sz : Int32} {i : Fin 5} {x : Nat} {v : Value} (B : Bt Z h n0 o ad nm fl sz) (ho : ad i ≠ o) (W : Wr h h' (ad i) x v) : Bt Z h' n0 o ad nm fl sz :=
  B.keep (Keep.of_wr W) (ninS (Ne.symm ho) nin0) (ninS (Ne.symm (B.2.2.2.2.2.2.2 i).1) nin0) (ninS (Ne.symm (B.2.2.2.2.2.2.2 i).2) nin0)
theorem Bt.wrNm {Z : State} {h h' : Heap} {n0 : Nat} {o : Addr} {ad : Fin 5 → Addr} {nm fl : Addr} {sz : Int32} {x : Nat} {v : Value} (B : Bt Z h n0 o ad nm fl sz) (A : AnyA Z h' nm .int) (W : Wr h h' nm x v) : Bt Z h' n0 o ad nm fl sz :=
  ⟨B.1.other W (Or.inl (Ne.symm B.2.2.2.2.2.2.1.1)), B.2.1.other W (Or.inl (Ne.symm B.2.2.2.2.2.2.1.1)), B.2.2.1.other W (Or.inl (Ne.symm B.2.2.2.2.2.2.1.1)), A, B.2.2.2.2.1.keep (Keep.of_wr W) (ninS (Ne.symm B.2.2.2.2.2.2.1.2.2) nin0), B.2.2.2.2.2⟩
theorem Bt.wrFl {Z : State} {h h' : Heap} {n0 : Nat} {o : Addr} {ad : Fin 5 → Addr} {nm fl : Addr} {sz : Int32} {x : Nat} {v : Value} (B : Bt Z h n0 o ad nm fl sz) (A : AnyA Z h' fl .short) (W : Wr h h' fl x v) : Bt Z h' n0 o ad nm fl sz :=
  ⟨B.1.other W (Or.inl (Ne.symm B.2.2.2.2.2.2.1.2.1)), B.2.1.other W (Or.inl (Ne.symm B.2.2.2.2.2.2.1.2.1)), B.2.2.1.other W (Or.inl (Ne.symm B.2.2.2.2.2.2.1.2.1)), B.2.2.2.1.keep (Keep.of_wr W) (ninS B.2.2.2.2.2.2.1.2.2 nin0), A, B.2.2.2.2.2⟩
theorem own_r4_64 {x : Int32} (h : own_r4 x) : ¬ x = 64 := fun e => absurd h.2 (by rw [e]; decide)
/-- the word that a private method is taken by itself -/
theorem own_sel {Z : State} {a0 : Array Value} (hw : ∀ d ∈ tables_1, d.before a0 Z = true) {s : State} {args : Array Value} (hZ : Z.Warmed39 s.vm) : (Cond.selects "com/example/pith/pith/html/PageTree" (⟨"com/example/pith/pith/html/PageTree", "newNode", "(II)I"⟩ : MethodName) (⟨"com/example/pith/pith/html/PageTree", "newNode", "(II)I"⟩ : MethodName)).before args s = true := by
  obtain ⟨c2, r2, m2, -, -, q3, -, kP, hkP, hkPi⟩ := Cond.selects_spec (show (Cond.selects "com/example/pith/pith/html/PageTree" (⟨"com/example/pith/pith/html/PageTree", "createElement", "(II)I"⟩ : MethodName) (⟨"com/example/pith/pith/html/PageTree", "createElement", "(II)I"⟩ : MethodName)).holds args s none s [] = true from mvT (args := args) hZ (hw _ (List.mem_of_getElem? (i := 49) rfl)))
  exact Jvm.Stand.selects_self_of_private (y := (⟨"com/example/pith/pith/html/PageTree", "newNode", "(II)I"⟩ : MethodName)) (show s.vm.findClass "com/example/pith/pith/html/PageTree" = some m2.cls from findClass_of_methodNamed q3) hkP hkPi (Cond.privateMethod_at (mvP hZ (hw _ (List.mem_of_getElem? (i := 42) rfl)) (args := #[]))) (mvT hZ (hw _ (List.mem_of_getElem? (i := 41) rfl))) (by decide)
def QrmN (Z : State) (o : Addr) (ad : Fin 5 → Addr) (kc : Fin 5 → ClassId) (t : Tree) (nm : Addr) (fl : Addr) (sz : Int32) (p2 : Int32) (p3 : Int32) (h0 : Heap) (n0 : Nat) (v : Option Value) (h : Heap) (L : List Loc) : Prop := v = some (.int sz) ∧ Fr n0 L ∧ Keep h0 h [o, ad 0, ad 1, ad 2, ad 3, ad 4, nm, fl] ∧ Tr Z h n0 o ad kc (own_new t sz) ∧ Bt Z h n0 o ad nm fl (sz + (1 : Int32))
theorem ef_rmN (m : MethodId) (x0 : Addr) (x1 : Int32) (x2 : Int32) : entryFrame m #[(.ref x0), (.int x1), (.int x2)] 4 = mkF m 0 #[.val (.ref x0), .val (.int x1), .val (.int x2), .unset] [] := by first | (simp [entryFrame, mkF, argsToLocals, Value.category]; done) | rfl
theorem pn_rmN : plainName "com/example/pith/pith/html/PageTree" = true := by first | (simp [plainName, overriddenIn]; done) | decide +kernel
set_option maxRecDepth 65536 in
set_option maxHeartbeats 40000000 in
theorem rmN (l : Launch) (Z : State) (a0 : Array Value) (hw : ∀ d ∈ tables_1, d.before a0 Z = true) (ws : List Jvm.Cond) (o : Addr) (ad : Fin 5 → Addr) (kc : Fin 5 → ClassId) (t : Tree) (nm : Addr) (fl : Addr) (sz : Int32) (p2 : Int32) (p3 : Int32) (h0 : Heap) (n0 : Nat) (Z0 : n0 ≤ h0.size) (H0 : Tr Z h0 n0 o ad kc t) (B0 : Bt Z h0 n0 o ad nm fl sz) (hl : own_len t) (hz : own_r4 sz) (go : n0 ≤ o) :
    MetFree l (⟨"com/example/pith/pith/html/PageTree", "newNode", "(II)I"⟩ : MethodName) (head1 (Jvm.Cond.code (⟨"com/example/pith/pith/html/PageTree", "newNode", "(II)I"⟩ : MethodName) prog_134_method_39_code 4 (some .int) :: ws) ({ frames := 0, cells := 0, slots := 0, locals := 0 } : Room)) (fun a U => a = #[(.ref o), (.int p2), (.int p3)] ∧ Z.Warmed39 U.vm ∧ U.heap = h0) (fun _ _ _ _ _ => True) (fun _ U oc U' => ∃ v L, oc = .returned v ∧ QrmN Z o ad kc t nm fl sz p2 p3 h0 n0 v U'.heap L ∧ FrameEnd U oc U' L ({ frames := 0, cells := 0, slots := 0, locals := 0 } : Room).cells ({ frames := 0, cells := 0, slots := 0, locals := 0 } : Room).slots) := by
  refine MetFree.of_bodySF (plainFor_of_name pn_rmN) hisR ?_
  intro p e s m args below meth c s₁ Bd hml0 hP hK
  obtain ⟨rfl, hZ, hh⟩ := hP
  have hx := Bd.exec
  have hby := Bd.bytes
  have hml : c.maxLocals = 4 := hml0
  have hown : s.vm.findClass "com/example/pith/pith/html/PageTree" = some m.cls := findClass_of_methodNamed Bd.named
  have hnm := (name_of_methodNamed Bd.named Bd.method).1
  have X0 : Stand p l e ({ frames := 0, cells := 0, slots := 0, locals := 0 } : Room) s m #[(.ref o), (.int p2), (.int p3)] below meth c s₁ [] 0 0 := Stand.of_body Bd
  have e0 : s₁.heap = h0 := by rw [← hh, Bd.state]; rfl
  have N0 := Fr.nil n0
  have pre0 : ∀ tt, Steps p.tables e below (s₁.setTop (mkF m 0 #[.val (.ref o), .val (.int p2), .val (.int p3), .unset] [])) tt → Steps p.tables e below (s₁.setTop (entryFrame m #[(.ref o), (.int p2), (.int p3)] 4)) tt := fun tt kt => castTop (ef_rmN m o p2 p3) kt
  obtain ⟨T1, X1, e1, st1⟩ := getF X0 hx hZ hown (host := "") (Or.inl (hw _ (List.mem_of_getElem? (i := 44) rfl))) Via.refl e0 (B0.1) (g := (mkF m 1 #[.val (.ref o), .val (.int p2), .val (.int p3), .unset] [(.ref o)])) rfl rfl (hb hby d4_1)
  obtain ⟨T2, X2, e2, st2⟩ := getF X1 hx hZ hown (host := "") (Or.inl (hw _ (List.mem_of_getElem? (i := 19) rfl))) Via.refl e1 (B0.2.1) (g := (mkF m 5 #[.val (.ref o), .val (.int p2), .val (.int p3), .unset] [(.ref o), (.int sz)])) rfl rfl (hb hby d4_5)
  obtain ⟨cln, Arn, Szn, inn, bkn⟩ := AnyA.arr B0.2.2.2.1 (own_r64 hz)
  obtain ⟨T3, X3, e3, st3⟩ := getF X2 hx hZ hown (host := "") (Or.inl (hw _ (List.mem_of_getElem? (i := 44) rfl))) Via.refl e2 (B0.1) (g := (mkF m 129 #[.val (.ref o), .val (.int p2), .val (.int p3), .unset] [(.ref o), (.ref o)])) rfl rfl (hb hby d4_129)
  obtain ⟨T4, h4, X4, e4, W4, st4⟩ := putF X3 hx hZ hown (host := "") (Or.inl (hw _ (List.mem_of_getElem? (i := 44) rfl))) Via.refl e3 (B0.1) (Tr.exa H0) (Or.inl (hw _ (List.mem_of_getElem? (i := 45) rfl))) (hw _ (List.mem_of_getElem? (i := 1) rfl)) (ty := .int) (by decide) rfl rfl (g := (mkF m 135 #[.val (.ref o), .val (.int p2), .val (.int p3), .unset] [(.int (sz + (1 : Int32))), (.ref o), (.int sz)])) rfl rfl (hb hby d4_135)
  have N4 := Fr.snoc X4 N0 go
  obtain ⟨Lx4, X4, Nx4⟩ : ∃ L, Stand p l e ({ frames := 0, cells := 0, slots := 0, locals := 0 } : Room) s m #[(.ref o), (.int p2), (.int p3)] below meth c T4 L 0 0 ∧ Fr n0 L := ⟨_, X4.more (by decide) (by decide), N4⟩
  have H4 := Tr.wrSize H0 (own_size_ne hw) W4
  have B4 := Bt.wrSize hw B0 W4
  have K4 : Keep h0 h4 [o, ad 0, ad 1, ad 2, ad 3, ad 4, nm, fl] := (Keep.refl h0 [o, ad 0, ad 1, ad 2, ad 3, ad 4, nm, fl]).wr W4 (Or.inl (List.mem_of_getElem? (i := 0) rfl))
  obtain ⟨T5, X5, e5, st5⟩ := getF X4 hx hZ hown (host := "") (Or.inl (hw _ (List.mem_of_getElem? (i := 19) rfl))) Via.refl e4 (B4.2.1) (g := (mkF m 140 #[.val (.ref o), .val (.int p2), .val (.int p3), .val (.int sz)] [(.ref o)])) rfl rfl (hb hby d4_140)
  obtain ⟨clm, Arm, Szm, inm, bkm⟩ := AnyA.arr B4.2.2.2.1 (own_r64 hz)
  obtain ⟨T6, h6, X6, e6, W6, st6⟩ := stI X5 hx hZ e5 Arm (j := sz) inm (g := (mkF m 145 #[.val (.ref o), .val (.int p2), .val (.int p3), .val (.int sz)] [(.int p2), (.int sz), (.ref nm)])) rfl rfl (hb hby d4_145)
  have N6 := Fr.snoc X6 Nx4 B4.2.2.2.2.2.1.1
  obtain ⟨Lx6, X6, Nx6⟩ : ∃ L, Stand p l e ({ frames := 0, cells := 0, slots := 0, locals := 0 } : Room) s m #[(.ref o), (.int p2), (.int p3)] below meth c T6 L 0 0 ∧ Fr n0 L := ⟨_, X6.more (by decide) (by decide), N6⟩
  have H6 := Tr.keep H4 (Keep.of_wr W6) (ninS (Ne.symm B0.2.2.2.2.2.2.1.1) nin0) (fun i => ninS (B0.2.2.2.2.2.2.2 i).1 nin0)
  have B6 := Bt.wrNm B4 (bkm _ _ rfl W6) W6
  have K6 : Keep h0 h6 [o, ad 0, ad 1, ad 2, ad 3, ad 4, nm, fl] := K4.wr W6 (Or.inl (List.mem_of_getElem? (i := 6) rfl))
  obtain ⟨T7, X7, e7, st7⟩ := getF X6 hx hZ hown (host := "") (Or.inl (hw _ (List.mem_of_getElem? (i := 21) rfl))) Via.refl e6 (show Fld Z h6 o "com/example/pith/pith/html/PageTree" "parent" "[I" (.ref (ad 0)) from Tr.fld H6 0) (g := (mkF m 147 #[.val (.ref o), .val (.int p2), .val (.int p3), .val (.int sz)] [(.ref o)])) rfl rfl (hb hby d4_147)
  obtain ⟨c8, A8, in8, at8⟩ := Tr.arr H6 0 (x := sz) (own_r64 hz)
  obtain ⟨T9, h9, X9, e9, W9, st9⟩ := stI X7 hx hZ e7 A8 (j := sz) in8 (g := (mkF m 152 #[.val (.ref o), .val (.int p2), .val (.int p3), .val (.int sz)] [(.int (-1 : Int32)), (.int sz), (.ref (ad 0))])) rfl rfl (hb hby d4_152)
  have N9 := Fr.snoc X9 Nx6 (Tr.new H6 0)
  obtain ⟨Lx9, X9, Nx9⟩ : ∃ L, Stand p l e ({ frames := 0, cells := 0, slots := 0, locals := 0 } : Room) s m #[(.ref o), (.int p2), (.int p3)] below meth c T9 L 0 0 ∧ Fr n0 L := ⟨_, X9.more (by decide) (by decide), N9⟩
  have H9 := Tr.wr H6 W9 hl hz
  have M9 := own_len_upd hl 0 sz (-1)
  have K9 : Keep h0 h9 [o, ad 0, ad 1, ad 2, ad 3, ad 4, nm, fl] := K6.wr W9 (Or.inl (List.mem_of_getElem? (i := 1) rfl))
  have B9 := Bt.wrL B6 (H0.2.2.2.2.1 0) W9
  obtain ⟨T10, X10, e10, st10⟩ := getF X9 hx hZ hown (host := "") (Or.inl (hw _ (List.mem_of_getElem? (i := 23) rfl))) Via.refl e9 (show Fld Z h9 o "com/example/pith/pith/html/PageTree" "firstChild" "[I" (.ref (ad 1)) from Tr.fld H9 1) (g := (mkF m 154 #[.val (.ref o), .val (.int p2), .val (.int p3), .val (.int sz)] [(.ref o)])) rfl rfl (hb hby d4_154)
  obtain ⟨c11, A11, in11, at11⟩ := Tr.arr H9 1 (x := sz) (own_r64 hz)
  obtain ⟨T12, h12, X12, e12, W12, st12⟩ := stI X10 hx hZ e10 A11 (j := sz) in11 (g := (mkF m 159 #[.val (.ref o), .val (.int p2), .val (.int p3), .val (.int sz)] [(.int (-1 : Int32)), (.int sz), (.ref (ad 1))])) rfl rfl (hb hby d4_159)
  have N12 := Fr.snoc X12 Nx9 (Tr.new H9 1)
  obtain ⟨Lx12, X12, Nx12⟩ : ∃ L, Stand p l e ({ frames := 0, cells := 0, slots := 0, locals := 0 } : Room) s m #[(.ref o), (.int p2), (.int p3)] below meth c T12 L 0 0 ∧ Fr n0 L := ⟨_, X12.more (by decide) (by decide), N12⟩
  have H12 := Tr.wr H9 W12 M9 hz
  have M12 := own_len_upd M9 1 sz (-1)
  have K12 : Keep h0 h12 [o, ad 0, ad 1, ad 2, ad 3, ad 4, nm, fl] := K9.wr W12 (Or.inl (List.mem_of_getElem? (i := 2) rfl))
  have B12 := Bt.wrL B9 (H0.2.2.2.2.1 1) W12
  obtain ⟨T13, X13, e13, st13⟩ := getF X12 hx hZ hown (host := "") (Or.inl (hw _ (List.mem_of_getElem? (i := 25) rfl))) Via.refl e12 (show Fld Z h12 o "com/example/pith/pith/html/PageTree" "lastChild" "[I" (.ref (ad 2)) from Tr.fld H12 2) (g := (mkF m 161 #[.val (.ref o), .val (.int p2), .val (.int p3), .val (.int sz)] [(.ref o)])) rfl rfl (hb hby d4_161)
  obtain ⟨c14, A14, in14, at14⟩ := Tr.arr H12 2 (x := sz) (own_r64 hz)
  obtain ⟨T15, h15, X15, e15, W15, st15⟩ := stI X13 hx hZ e13 A14 (j := sz) in14 (g := (mkF m 166 #[.val (.ref o), .val (.int p2), .val (.int p3), .val (.int sz)] [(.int (-1 : Int32)), (.int sz), (.ref (ad 2))])) rfl rfl (hb hby d4_166)
  have N15 := Fr.snoc X15 Nx12 (Tr.new H12 2)
  obtain ⟨Lx15, X15, Nx15⟩ : ∃ L, Stand p l e ({ frames := 0, cells := 0, slots := 0, locals := 0 } : Room) s m #[(.ref o), (.int p2), (.int p3)] below meth c T15 L 0 0 ∧ Fr n0 L := ⟨_, X15.more (by decide) (by decide), N15⟩
  have H15 := Tr.wr H12 W15 M12 hz
  have M15 := own_len_upd M12 2 sz (-1)
  have K15 : Keep h0 h15 [o, ad 0, ad 1, ad 2, ad 3, ad 4, nm, fl] := K12.wr W15 (Or.inl (List.mem_of_getElem? (i := 3) rfl))
  have B15 := Bt.wrL B12 (H0.2.2.2.2.1 2) W15
  obtain ⟨T16, X16, e16, st16⟩ := getF X15 hx hZ hown (host := "") (Or.inl (hw _ (List.mem_of_getElem? (i := 27) rfl))) Via.refl e15 (show Fld Z h15 o "com/example/pith/pith/html/PageTree" "next" "[I" (.ref (ad 3)) from Tr.fld H15 3) (g := (mkF m 168 #[.val (.ref o), .val (.int p2), .val (.int p3), .val (.int sz)] [(.ref o)])) rfl rfl (hb hby d4_168)
  obtain ⟨c17, A17, in17, at17⟩ := Tr.arr H15 3 (x := sz) (own_r64 hz)
  obtain ⟨T18, h18, X18, e18, W18, st18⟩ := stI X16 hx hZ e16 A17 (j := sz) in17 (g := (mkF m 173 #[.val (.ref o), .val (.int p2), .val (.int p3), .val (.int sz)] [(.int (-1 : Int32)), (.int sz), (.ref (ad 3))])) rfl rfl (hb hby d4_173)
  have N18 := Fr.snoc X18 Nx15 (Tr.new H15 3)
  obtain ⟨Lx18, X18, Nx18⟩ : ∃ L, Stand p l e ({ frames := 0, cells := 0, slots := 0, locals := 0 } : Room) s m #[(.ref o), (.int p2), (.int p3)] below meth c T18 L 0 0 ∧ Fr n0 L := ⟨_, X18.more (by decide) (by decide), N18⟩
  have H18 := Tr.wr H15 W18 M15 hz
  have M18 := own_len_upd M15 3 sz (-1)
  have K18 : Keep h0 h18 [o, ad 0, ad 1, ad 2, ad 3, ad 4, nm, fl] := K15.wr W18 (Or.inl (List.mem_of_getElem? (i := 4) rfl))
  have B18 := Bt.wrL B15 (H0.2.2.2.2.1 3) W18
  obtain ⟨T19, X19, e19, st19⟩ := getF X18 hx hZ hown (host := "") (Or.inl (hw _ (List.mem_of_getElem? (i := 29) rfl))) Via.refl e18 (show Fld Z h18 o "com/example/pith/pith/html/PageTree" "previous" "[I" (.ref (ad 4)) from Tr.fld H18 4) (g := (mkF m 175 #[.val (.ref o), .val (.int p2), .val (.int p3), .val (.int sz)] [(.ref o)])) rfl rfl (hb hby d4_175)
  obtain ⟨c20, A20, in20, at20⟩ := Tr.arr H18 4 (x := sz) (own_r64 hz)
  obtain ⟨T21, h21, X21, e21, W21, st21⟩ := stI X19 hx hZ e19 A20 (j := sz) in20 (g := (mkF m 180 #[.val (.ref o), .val (.int p2), .val (.int p3), .val (.int sz)] [(.int (-1 : Int32)), (.int sz), (.ref (ad 4))])) rfl rfl (hb hby d4_180)
  have N21 := Fr.snoc X21 Nx18 (Tr.new H18 4)
  obtain ⟨Lx21, X21, Nx21⟩ : ∃ L, Stand p l e ({ frames := 0, cells := 0, slots := 0, locals := 0 } : Room) s m #[(.ref o), (.int p2), (.int p3)] below meth c T21 L 0 0 ∧ Fr n0 L := ⟨_, X21.more (by decide) (by decide), N21⟩
  have H21 := Tr.wr H18 W21 M18 hz
  have M21 := own_len_upd M18 4 sz (-1)
  have K21 : Keep h0 h21 [o, ad 0, ad 1, ad 2, ad 3, ad 4, nm, fl] := K18.wr W21 (Or.inl (List.mem_of_getElem? (i := 5) rfl))
  have B21 := Bt.wrL B18 (H0.2.2.2.2.1 4) W21
  obtain ⟨T22, X22, e22, st22⟩ := getF X21 hx hZ hown (host := "") (Or.inl (hw _ (List.mem_of_getElem? (i := 36) rfl))) Via.refl e21 (B21.2.2.1) (g := (mkF m 182 #[.val (.ref o), .val (.int p2), .val (.int p3), .val (.int sz)] [(.ref o)])) rfl rfl (hb hby d4_182)
  obtain ⟨cls, Ars, Szs, ins, bks⟩ := AnyA.arr B21.2.2.2.2.1 (own_r64 hz)
  obtain ⟨T23, h23, X23, e23, W23, st23⟩ := stS X22 hx hZ e22 Ars (j := sz) ins (g := (mkF m 188 #[.val (.ref o), .val (.int p2), .val (.int p3), .val (.int sz)] [(.int (p3.toInt16.toInt32)), (.int sz), (.ref fl)])) rfl rfl (hb hby d4_188)
  have N23 := Fr.snoc X23 Nx21 B21.2.2.2.2.2.1.2
  obtain ⟨Lx23, X23, Nx23⟩ : ∃ L, Stand p l e ({ frames := 0, cells := 0, slots := 0, locals := 0 } : Room) s m #[(.ref o), (.int p2), (.int p3)] below meth c T23 L 0 0 ∧ Fr n0 L := ⟨_, X23.more (by decide) (by decide), N23⟩
  have H23 := Tr.keep H21 (Keep.of_wr W23) (ninS (Ne.symm B0.2.2.2.2.2.2.1.2.1) nin0) (fun i => ninS (B0.2.2.2.2.2.2.2 i).2 nin0)
  have B23 := Bt.wrFl B21 (bks _ _ (fits_nar_short _) W23) W23
  have K23 : Keep h0 h23 [o, ad 0, ad 1, ad 2, ad 3, ad 4, nm, fl] := K21.wr W23 (Or.inl (List.mem_of_getElem? (i := 7) rfl))
  have pre24 : ∀ tt, Steps p.tables e below (T23.setTop (mkF m 190 #[.val (.ref o), .val (.int p2), .val (.int p3), .val (.int sz)] [(.int sz)])) tt → Steps p.tables e below (s₁.setTop (entryFrame m #[(.ref o), (.int p2), (.int p3)] 4)) tt := by
    intro tt kt
    refine pre0 tt ?_
    show Steps p.tables e below (s₁.setTop (mkF m 0 #[.val (.ref o), .val (.int p2), .val (.int p3), .unset] [])) _
    refine XS.aloadN X0.here hx rfl (hb hby d4_0) rfl rfl ?_
    show Steps p.tables e below (s₁.setTop (mkF m 1 #[.val (.ref o), .val (.int p2), .val (.int p3), .unset] [(.ref o)])) _
    refine st1 _ ?_
    show Steps p.tables e below (T1.setTop (mkF m 4 #[.val (.ref o), .val (.int p2), .val (.int p3), .unset] [(.int sz)])) _
    refine XS.aloadN X1.here hx rfl (hb hby d4_4) rfl rfl ?_
    show Steps p.tables e below (T1.setTop (mkF m 5 #[.val (.ref o), .val (.int p2), .val (.int p3), .unset] [(.ref o), (.int sz)])) _
    refine st2 _ ?_
    show Steps p.tables e below (T2.setTop (mkF m 8 #[.val (.ref o), .val (.int p2), .val (.int p3), .unset] [(.ref nm), (.int sz)])) _
    refine X2.arraylength hx (by rw [e2]; exact Arn.1) (State.isArrayOf_alike hZ.alike Arn.2.1) (g := (mkF m 8 #[.val (.ref o), .val (.int p2), .val (.int p3), .unset] [(.ref nm), (.int sz)])) rfl rfl (hb hby d4_8) _ ?_
    rw [len_of Szn (by decide : ¬ (64 : Int32) < 0)]
    show Steps p.tables e below (T2.setTop (mkF m 9 #[.val (.ref o), .val (.int p2), .val (.int p3), .unset] [(.int (64 : Int32)), (.int sz)])) _
    refine XS.icmpYes X2.here hx rfl (pc0 := 9) (pc' := 127) rfl (hb hby d4_9) rfl (feq (own_r4_64 hz)).2 (by decide) (by decide) ?_
    show Steps p.tables e below (T2.setTop (mkF m 127 #[.val (.ref o), .val (.int p2), .val (.int p3), .unset] [])) _
    refine XS.aloadN X2.here hx rfl (hb hby d4_127) rfl rfl ?_
    show Steps p.tables e below (T2.setTop (mkF m 128 #[.val (.ref o), .val (.int p2), .val (.int p3), .unset] [(.ref o)])) _
    refine XS.dup X2.here hx rfl (hb hby d4_128) rfl rfl ?_
    show Steps p.tables e below (T2.setTop (mkF m 129 #[.val (.ref o), .val (.int p2), .val (.int p3), .unset] [(.ref o), (.ref o)])) _
    refine st3 _ ?_
    show Steps p.tables e below (T3.setTop (mkF m 132 #[.val (.ref o), .val (.int p2), .val (.int p3), .unset] [(.int sz), (.ref o)])) _
    refine XS.dupX1 X3.here hx rfl (hb hby d4_132) rfl rfl rfl ?_
    show Steps p.tables e below (T3.setTop (mkF m 133 #[.val (.ref o), .val (.int p2), .val (.int p3), .unset] [(.int sz), (.ref o), (.int sz)])) _
    refine XS.iconst X3.here hx rfl (hb hby d4_133) ?_
    show Steps p.tables e below (T3.setTop (mkF m 134 #[.val (.ref o), .val (.int p2), .val (.int p3), .unset] [(.int (1 : Int32)), (.int sz), (.ref o), (.int sz)])) _
    refine XS.iadd X3.here hx rfl (hb hby d4_134) rfl ?_
    show Steps p.tables e below (T3.setTop (mkF m 135 #[.val (.ref o), .val (.int p2), .val (.int p3), .unset] [(.int (sz + (1 : Int32))), (.ref o), (.int sz)])) _
    refine st4 _ ?_
    show Steps p.tables e below (T4.setTop (mkF m 138 #[.val (.ref o), .val (.int p2), .val (.int p3), .unset] [(.int sz)])) _
    refine XS.istoreN X4.here hx rfl (hb hby d4_138) rfl (l' := #[.val (.ref o), .val (.int p2), .val (.int p3), .val (.int sz)]) rfl ?_
    show Steps p.tables e below (T4.setTop (mkF m 139 #[.val (.ref o), .val (.int p2), .val (.int p3), .val (.int sz)] [])) _
    refine XS.aloadN X4.here hx rfl (hb hby d4_139) rfl rfl ?_
    show Steps p.tables e below (T4.setTop (mkF m 140 #[.val (.ref o), .val (.int p2), .val (.int p3), .val (.int sz)] [(.ref o)])) _
    refine st5 _ ?_
    show Steps p.tables e below (T5.setTop (mkF m 143 #[.val (.ref o), .val (.int p2), .val (.int p3), .val (.int sz)] [(.ref nm)])) _
    refine XS.iloadN X5.here hx rfl (hb hby d4_143) rfl ?_
    show Steps p.tables e below (T5.setTop (mkF m 144 #[.val (.ref o), .val (.int p2), .val (.int p3), .val (.int sz)] [(.int sz), (.ref nm)])) _
    refine XS.iloadN X5.here hx rfl (hb hby d4_144) rfl ?_
    show Steps p.tables e below (T5.setTop (mkF m 145 #[.val (.ref o), .val (.int p2), .val (.int p3), .val (.int sz)] [(.int p2), (.int sz), (.ref nm)])) _
    refine st6 _ ?_
    show Steps p.tables e below (T6.setTop (mkF m 146 #[.val (.ref o), .val (.int p2), .val (.int p3), .val (.int sz)] [])) _
    refine XS.aloadN X6.here hx rfl (hb hby d4_146) rfl rfl ?_
    show Steps p.tables e below (T6.setTop (mkF m 147 #[.val (.ref o), .val (.int p2), .val (.int p3), .val (.int sz)] [(.ref o)])) _
    refine st7 _ ?_
    show Steps p.tables e below (T7.setTop (mkF m 150 #[.val (.ref o), .val (.int p2), .val (.int p3), .val (.int sz)] [(.ref (ad 0))])) _
    refine XS.iloadN X7.here hx rfl (hb hby d4_150) rfl ?_
    show Steps p.tables e below (T7.setTop (mkF m 151 #[.val (.ref o), .val (.int p2), .val (.int p3), .val (.int sz)] [(.int sz), (.ref (ad 0))])) _
    refine XS.iconst X7.here hx rfl (hb hby d4_151) ?_
    show Steps p.tables e below (T7.setTop (mkF m 152 #[.val (.ref o), .val (.int p2), .val (.int p3), .val (.int sz)] [(.int (-1 : Int32)), (.int sz), (.ref (ad 0))])) _
    refine st9 _ ?_
    show Steps p.tables e below (T9.setTop (mkF m 153 #[.val (.ref o), .val (.int p2), .val (.int p3), .val (.int sz)] [])) _
    refine XS.aloadN X9.here hx rfl (hb hby d4_153) rfl rfl ?_
    show Steps p.tables e below (T9.setTop (mkF m 154 #[.val (.ref o), .val (.int p2), .val (.int p3), .val (.int sz)] [(.ref o)])) _
    refine st10 _ ?_
    show Steps p.tables e below (T10.setTop (mkF m 157 #[.val (.ref o), .val (.int p2), .val (.int p3), .val (.int sz)] [(.ref (ad 1))])) _
    refine XS.iloadN X10.here hx rfl (hb hby d4_157) rfl ?_
    show Steps p.tables e below (T10.setTop (mkF m 158 #[.val (.ref o), .val (.int p2), .val (.int p3), .val (.int sz)] [(.int sz), (.ref (ad 1))])) _
    refine XS.iconst X10.here hx rfl (hb hby d4_158) ?_
    show Steps p.tables e below (T10.setTop (mkF m 159 #[.val (.ref o), .val (.int p2), .val (.int p3), .val (.int sz)] [(.int (-1 : Int32)), (.int sz), (.ref (ad 1))])) _
    refine st12 _ ?_
    show Steps p.tables e below (T12.setTop (mkF m 160 #[.val (.ref o), .val (.int p2), .val (.int p3), .val (.int sz)] [])) _
    refine XS.aloadN X12.here hx rfl (hb hby d4_160) rfl rfl ?_
    show Steps p.tables e below (T12.setTop (mkF m 161 #[.val (.ref o), .val (.int p2), .val (.int p3), .val (.int sz)] [(.ref o)])) _
    refine st13 _ ?_
    show Steps p.tables e below (T13.setTop (mkF m 164 #[.val (.ref o), .val (.int p2), .val (.int p3), .val (.int sz)] [(.ref (ad 2))])) _
    refine XS.iloadN X13.here hx rfl (hb hby d4_164) rfl ?_
    show Steps p.tables e below (T13.setTop (mkF m 165 #[.val (.ref o), .val (.int p2), .val (.int p3), .val (.int sz)] [(.int sz), (.ref (ad 2))])) _
    refine XS.iconst X13.here hx rfl (hb hby d4_165) ?_
    show Steps p.tables e below (T13.setTop (mkF m 166 #[.val (.ref o), .val (.int p2), .val (.int p3), .val (.int sz)] [(.int (-1 : Int32)), (.int sz), (.ref (ad 2))])) _
    refine st15 _ ?_
    show Steps p.tables e below (T15.setTop (mkF m 167 #[.val (.ref o), .val (.int p2), .val (.int p3), .val (.int sz)] [])) _
    refine XS.aloadN X15.here hx rfl (hb hby d4_167) rfl rfl ?_
    show Steps p.tables e below (T15.setTop (mkF m 168 #[.val (.ref o), .val (.int p2), .val (.int p3), .val (.int sz)] [(.ref o)])) _
    refine st16 _ ?_
    show Steps p.tables e below (T16.setTop (mkF m 171 #[.val (.ref o), .val (.int p2), .val (.int p3), .val (.int sz)] [(.ref (ad 3))])) _
    refine XS.iloadN X16.here hx rfl (hb hby d4_171) rfl ?_
    show Steps p.tables e below (T16.setTop (mkF m 172 #[.val (.ref o), .val (.int p2), .val (.int p3), .val (.int sz)] [(.int sz), (.ref (ad 3))])) _
    refine XS.iconst X16.here hx rfl (hb hby d4_172) ?_
    show Steps p.tables e below (T16.setTop (mkF m 173 #[.val (.ref o), .val (.int p2), .val (.int p3), .val (.int sz)] [(.int (-1 : Int32)), (.int sz), (.ref (ad 3))])) _
    refine st18 _ ?_
    show Steps p.tables e below (T18.setTop (mkF m 174 #[.val (.ref o), .val (.int p2), .val (.int p3), .val (.int sz)] [])) _
    refine XS.aloadN X18.here hx rfl (hb hby d4_174) rfl rfl ?_
    show Steps p.tables e below (T18.setTop (mkF m 175 #[.val (.ref o), .val (.int p2), .val (.int p3), .val (.int sz)] [(.ref o)])) _
    refine st19 _ ?_
    show Steps p.tables e below (T19.setTop (mkF m 178 #[.val (.ref o), .val (.int p2), .val (.int p3), .val (.int sz)] [(.ref (ad 4))])) _
    refine XS.iloadN X19.here hx rfl (hb hby d4_178) rfl ?_
    show Steps p.tables e below (T19.setTop (mkF m 179 #[.val (.ref o), .val (.int p2), .val (.int p3), .val (.int sz)] [(.int sz), (.ref (ad 4))])) _
    refine XS.iconst X19.here hx rfl (hb hby d4_179) ?_
    show Steps p.tables e below (T19.setTop (mkF m 180 #[.val (.ref o), .val (.int p2), .val (.int p3), .val (.int sz)] [(.int (-1 : Int32)), (.int sz), (.ref (ad 4))])) _
    refine st21 _ ?_
    show Steps p.tables e below (T21.setTop (mkF m 181 #[.val (.ref o), .val (.int p2), .val (.int p3), .val (.int sz)] [])) _
    refine XS.aloadN X21.here hx rfl (hb hby d4_181) rfl rfl ?_
    show Steps p.tables e below (T21.setTop (mkF m 182 #[.val (.ref o), .val (.int p2), .val (.int p3), .val (.int sz)] [(.ref o)])) _
    refine st22 _ ?_
    show Steps p.tables e below (T22.setTop (mkF m 185 #[.val (.ref o), .val (.int p2), .val (.int p3), .val (.int sz)] [(.ref fl)])) _
    refine XS.iloadN X22.here hx rfl (hb hby d4_185) rfl ?_
    show Steps p.tables e below (T22.setTop (mkF m 186 #[.val (.ref o), .val (.int p2), .val (.int p3), .val (.int sz)] [(.int sz), (.ref fl)])) _
    refine XS.iloadN X22.here hx rfl (hb hby d4_186) rfl ?_
    show Steps p.tables e below (T22.setTop (mkF m 187 #[.val (.ref o), .val (.int p2), .val (.int p3), .val (.int sz)] [(.int p3), (.int sz), (.ref fl)])) _
    refine XS.i2s X22.here hx rfl (hb hby d4_187) rfl ?_
    show Steps p.tables e below (T22.setTop (mkF m 188 #[.val (.ref o), .val (.int p2), .val (.int p3), .val (.int sz)] [(.int (p3.toInt16.toInt32)), (.int sz), (.ref fl)])) _
    refine st23 _ ?_
    show Steps p.tables e below (T23.setTop (mkF m 189 #[.val (.ref o), .val (.int p2), .val (.int p3), .val (.int sz)] [])) _
    refine XS.iloadN X23.here hx rfl (hb hby d4_189) rfl ?_
    exact kt
  obtain ⟨fs, hr, hrun, hended, hW, hsame⟩ := X23.leave (v := some (.int sz)) (fun h => by rw [Bd.returns] at h; cases h)
  refine ⟨_, _, pre24 _ ?_, hrun, hended, _, _, rfl, ?_, ⟨_, rfl⟩, hW, hsame.mono (by decide) (by decide)⟩
  · exact retI X23 hx Bd.returns (hb hby d4_190) hr
  · show QrmN Z o ad kc t nm fl sz p2 p3 h0 n0 _ T23.heap _
    rw [e23]
    exact ⟨rfl, Nx23, K23, H23, B23⟩
def QrmE (Z : State) (o : Addr) (ad : Fin 5 → Addr) (kc : Fin 5 → ClassId) (t : Tree) (nm : Addr) (fl : Addr) (sz : Int32) (p2 : Int32) (p3 : Int32) (h0 : Heap) (n0 : Nat) (v : Option Value) (h : Heap) (L : List Loc) : Prop := v = some (.int sz) ∧ Fr n0 L ∧ Keep h0 h [o, ad 0, ad 1, ad 2, ad 3, ad 4, nm, fl] ∧ Tr Z h n0 o ad kc (own_new t sz) ∧ Bt Z h n0 o ad nm fl (sz + (1 : Int32))
theorem ef_rmE (m : MethodId) (x0 : Addr) (x1 : Int32) (x2 : Int32) : entryFrame m #[(.ref x0), (.int x1), (.int x2)] 3 = mkF m 0 #[.val (.ref x0), .val (.int x1), .val (.int x2)] [] := by first | (simp [entryFrame, mkF, argsToLocals, Value.category]; done) | rfl
theorem pn_rmE : plainName "com/example/pith/pith/html/PageTree" = true := by first | (simp [plainName, overriddenIn]; done) | decide +kernel
set_option maxRecDepth 65536 in
set_option maxHeartbeats 40000000 in
theorem rmE (l : Launch) (Z : State) (a0 : Array Value) (hw : ∀ d ∈ tables_1, d.before a0 Z = true) (ws : List Jvm.Cond) (o : Addr) (ad : Fin 5 → Addr) (kc : Fin 5 → ClassId) (t : Tree) (nm : Addr) (fl : Addr) (sz : Int32) (p2 : Int32) (p3 : Int32) (h0 : Heap) (n0 : Nat) (Z0 : n0 ≤ h0.size) (H0 : Tr Z h0 n0 o ad kc t) (B0 : Bt Z h0 n0 o ad nm fl sz) (hl : own_len t) (hz : own_r4 sz) (go : n0 ≤ o) :
    MetFree l (⟨"com/example/pith/pith/html/PageTree", "createElement", "(II)I"⟩ : MethodName) (head1 (Jvm.Cond.code (⟨"com/example/pith/pith/html/PageTree", "createElement", "(II)I"⟩ : MethodName) prog_134_method_2_code 3 (some .int) :: ws) ({ frames := 1, cells := 0, slots := 0, locals := 15 } : Room)) (fun a U => a = #[(.ref o), (.int p2), (.int p3)] ∧ Z.Warmed39 U.vm ∧ U.heap = h0) (fun _ _ _ _ _ => True) (fun _ U oc U' => ∃ v L, oc = .returned v ∧ QrmE Z o ad kc t nm fl sz p2 p3 h0 n0 v U'.heap L ∧ FrameEnd U oc U' L ({ frames := 1, cells := 0, slots := 0, locals := 15 } : Room).cells ({ frames := 1, cells := 0, slots := 0, locals := 15 } : Room).slots) := by
  refine MetFree.of_bodySF (plainFor_of_name pn_rmE) hisR ?_
  intro p e s m args below meth c s₁ Bd hml0 hP hK
  obtain ⟨rfl, hZ, hh⟩ := hP
  have hx := Bd.exec
  have hby := Bd.bytes
  have hml : c.maxLocals = 3 := hml0
  have hown : s.vm.findClass "com/example/pith/pith/html/PageTree" = some m.cls := findClass_of_methodNamed Bd.named
  have hnm := (name_of_methodNamed Bd.named Bd.method).1
  have X0 : Stand p l e ({ frames := 1, cells := 0, slots := 0, locals := 15 } : Room) s m #[(.ref o), (.int p2), (.int p3)] below meth c s₁ [] 0 0 := Stand.of_body Bd
  have e0 : s₁.heap = h0 := by rw [← hh, Bd.state]; rfl
  have N0 := Fr.nil n0
  have pre0 : ∀ tt, Steps p.tables e below (s₁.setTop (mkF m 0 #[.val (.ref o), .val (.int p2), .val (.int p3)] [])) tt → Steps p.tables e below (s₁.setTop (entryFrame m #[(.ref o), (.int p2), (.int p3)] 3)) tt := fun tt kt => castTop (ef_rmE m o p2 p3) kt
  obtain ⟨cq1, q1, q1'⟩ := (Tr.exa H0).cell
  obtain ⟨_, _, ⟨T1, L1, k1, n1⟩, -, X1, ⟨Lc1, hQ1, l1, y1, z1⟩, st1⟩ := X0.privateBack hx (y := (⟨"com/example/pith/pith/html/PageTree", "newNode", "(II)I"⟩ : MethodName)) hown (mvT hZ (hw _ (List.mem_of_getElem? (i := 40) rfl))) (mvT hZ (hw _ (List.mem_of_getElem? (i := 41) rfl))) (own_sel hw hZ) (Cond.privateMethod_at (mvP hZ (hw _ (List.mem_of_getElem? (i := 42) rfl)) (args := #[]))) (mvT hZ (hw _ (List.mem_of_getElem? (i := 43) rfl))) (by decide) (backOf (W := 0) (rmN l Z a0 hw [] o ad kc t nm fl sz p2 p3 h0 n0 Z0 H0 B0 hl hz go) hZ (hw _ (List.mem_of_getElem? (i := 43) rfl)) (hw _ (List.mem_of_getElem? (i := 2) rfl)) (by decide) (by decide)) (g := (mkF m 3 #[.val (.ref o), .val (.int p2), .val (.int p3)] [(.int p3), (.int p2), (.ref o)])) rfl (by rw [hml]; rfl) (Steps.refl _) (a := o) (by rw [e0]; exact q1) q1' (argsL := [(.int p2), (.int p3)]) (rest := []) (lenOf pd_1 rfl) rfl (by show 2 * 0 + _ ≤ _; exact Nat.le_of_eq rfl) (hb hby d5_3) (fun _ _ => ⟨rfl, e0, (by decide : 0 + 0 ≤ _), (by decide : 0 + 0 ≤ _)⟩)
  dsimp only [Pt.U, Pt.locs, Pt.cells, Pt.slots] at X1 l1 y1 z1 st1 hQ1
  subst l1 y1 z1
  obtain ⟨rfl, N1q, K1, H1, B1⟩ := hQ1
  have N1 := Fr.app N0 N1q
  obtain ⟨Lx1, X1, Nx1⟩ : ∃ L, Stand p l e ({ frames := 1, cells := 0, slots := 0, locals := 15 } : Room) s m #[(.ref o), (.int p2), (.int p3)] below meth c T1 L 0 0 ∧ Fr n0 L := ⟨_, X1.more (by decide) (by decide), N1⟩
  have pre2 : ∀ tt, Steps p.tables e below (T1.setTop (mkF m 6 #[.val (.ref o), .val (.int p2), .val (.int p3)] [(.int sz)])) tt → Steps p.tables e below (s₁.setTop (entryFrame m #[(.ref o), (.int p2), (.int p3)] 3)) tt := by
    intro tt kt
    refine pre0 tt ?_
    show Steps p.tables e below (s₁.setTop (mkF m 0 #[.val (.ref o), .val (.int p2), .val (.int p3)] [])) _
    refine XS.aloadN X0.here hx rfl (hb hby d5_0) rfl rfl ?_
    show Steps p.tables e below (s₁.setTop (mkF m 1 #[.val (.ref o), .val (.int p2), .val (.int p3)] [(.ref o)])) _
    refine XS.iloadN X0.here hx rfl (hb hby d5_1) rfl ?_
    show Steps p.tables e below (s₁.setTop (mkF m 2 #[.val (.ref o), .val (.int p2), .val (.int p3)] [(.int p2), (.ref o)])) _
    refine XS.iloadN X0.here hx rfl (hb hby d5_2) rfl ?_
    show Steps p.tables e below (s₁.setTop (mkF m 3 #[.val (.ref o), .val (.int p2), .val (.int p3)] [(.int p3), (.int p2), (.ref o)])) _
    refine st1.trans ?_
    exact kt
  obtain ⟨fs, hr, hrun, hended, hW, hsame⟩ := X1.leave (v := some (.int sz)) (fun h => by rw [Bd.returns] at h; cases h)
  refine ⟨_, _, pre2 _ ?_, hrun, hended, _, _, rfl, ?_, ⟨_, rfl⟩, hW, hsame.mono (by decide) (by decide)⟩
  · exact retI X1 hx Bd.returns (hb hby d5_6) hr
  · show QrmE Z o ad kc t nm fl sz p2 p3 h0 n0 _ T1.heap _
    exact ⟨rfl, Nx1, K1, H1, B1⟩
def QrmM (Z : State) (x1 : Int32) (y1 : Int32) (h0 : Heap) (n0 : Nat) (v : Option Value) (h : Heap) (L : List Loc) : Prop := v = some (.int x1) ∧ Fr n0 L ∧ h = h0
theorem ef_rmM (m : MethodId) (x0 : Int32) (x1 : Int32) : entryFrame m #[(.int x0), (.int x1)] 2 = mkF m 0 #[.val (.int x0), .val (.int x1)] [] := by first | (simp [entryFrame, mkF, argsToLocals, Value.category]; done) | rfl
set_option maxRecDepth 65536 in
set_option maxHeartbeats 40000000 in
theorem rmM (l : Launch) (Z : State) (a0 : Array Value) (hw : ∀ d ∈ tables_1, d.before a0 Z = true) (ws : List Jvm.Cond) (x1 : Int32) (y1 : Int32) (h0 : Heap) (n0 : Nat) (Z0 : n0 ≤ h0.size) (hxy : ¬ x1 < y1) :
    MetFree l (⟨"java/lang/Math", "max", "(II)I"⟩ : MethodName) (head1 (Jvm.Cond.code (⟨"java/lang/Math", "max", "(II)I"⟩ : MethodName) jdk_29_method_65_code 2 (some .int) :: ws) ({ frames := 0, cells := 0, slots := 0, locals := 0 } : Room)) (fun a U => a = #[(.int x1), (.int y1)] ∧ Z.Warmed39 U.vm ∧ U.heap = h0) (fun _ _ _ _ _ => True) (fun _ U oc U' => ∃ v L, oc = .returned v ∧ QrmM Z x1 y1 h0 n0 v U'.heap L ∧ FrameEnd U oc U' L ({ frames := 0, cells := 0, slots := 0, locals := 0 } : Room).cells ({ frames := 0, cells := 0, slots := 0, locals := 0 } : Room).slots) := by
  refine MetFree.of_bodySF (Jvm.Free.JP.mathPlain rfl (by decide +kernel)) hisR ?_
  intro p e s m args below meth c s₁ Bd hml0 hP hK
  obtain ⟨rfl, hZ, hh⟩ := hP
  have hx := Bd.exec
  have hby := Bd.bytes
  have hml : c.maxLocals = 2 := hml0
  have hown : s.vm.findClass "java/lang/Math" = some m.cls := findClass_of_methodNamed Bd.named
  have hnm := (name_of_methodNamed Bd.named Bd.method).1
  have X0 : Stand p l e ({ frames := 0, cells := 0, slots := 0, locals := 0 } : Room) s m #[(.int x1), (.int y1)] below meth c s₁ [] 0 0 := Stand.of_body Bd
  have e0 : s₁.heap = h0 := by rw [← hh, Bd.state]; rfl
  have N0 := Fr.nil n0
  have pre0 : ∀ tt, Steps p.tables e below (s₁.setTop (mkF m 0 #[.val (.int x1), .val (.int y1)] [])) tt → Steps p.tables e below (s₁.setTop (entryFrame m #[(.int x1), (.int y1)] 2)) tt := fun tt kt => castTop (ef_rmM m x1 y1) kt
  have pre1 : ∀ tt, Steps p.tables e below (s₁.setTop (mkF m 10 #[.val (.int x1), .val (.int y1)] [(.int x1)])) tt → Steps p.tables e below (s₁.setTop (entryFrame m #[(.int x1), (.int y1)] 2)) tt := by
    intro tt kt
    refine pre0 tt ?_
    show Steps p.tables e below (s₁.setTop (mkF m 0 #[.val (.int x1), .val (.int y1)] [])) _
    refine XS.iloadN X0.here hx rfl (hb hby d3_0) rfl ?_
    show Steps p.tables e below (s₁.setTop (mkF m 1 #[.val (.int x1), .val (.int y1)] [(.int x1)])) _
    refine XS.iloadN X0.here hx rfl (hb hby d3_1) rfl ?_
    show Steps p.tables e below (s₁.setTop (mkF m 2 #[.val (.int x1), .val (.int y1)] [(.int y1), (.int x1)])) _
    refine XS.icmpNo X0.here hx rfl (hb hby d3_2) rfl (flt hxy).1 ?_
    show Steps p.tables e below (s₁.setTop (mkF m 5 #[.val (.int x1), .val (.int y1)] [])) _
    refine XS.iloadN X0.here hx rfl (hb hby d3_5) rfl ?_
    show Steps p.tables e below (s₁.setTop (mkF m 6 #[.val (.int x1), .val (.int y1)] [(.int x1)])) _
    refine XS.goto X0.here hx rfl (pc0 := 6) (pc' := 10) rfl (hb hby d3_6) (by decide) (by decide) ?_
    exact kt
  obtain ⟨fs, hr, hrun, hended, hW, hsame⟩ := X0.leave (v := some (.int x1)) (fun h => by rw [Bd.returns] at h; cases h)
  refine ⟨_, _, pre1 _ ?_, hrun, hended, _, _, rfl, ?_, ⟨_, rfl⟩, hW, hsame.mono (by decide) (by decide)⟩
  · exact retI X0 hx Bd.returns (hb hby d3_10) hr
  · show QrmM Z x1 y1 h0 n0 _ s₁.heap _
    rw [e0]
    exact ⟨rfl, N0, rfl⟩
def own_ad (a0 a1 a2 a3 a4 : Nat) (i : Fin 5) : Nat := match i with | 0 => a0 | 1 => a1 | 2 => a2 | 3 => a3 | 4 => a4
theorem own_inj {a0 a1 a2 a3 a4 : Nat} (h1 : a0 < a1) (h2 : a1 < a2) (h3 : a2 < a3) (h4 : a3 < a4) : ∀ i j, own_ad a0 a1 a2 a3 a4 i = own_ad a0 a1 a2 a3 a4 j → i = j := by
  refine own_all5 ?_ ?_ ?_ ?_ ?_ <;> refine own_all5 ?_ ?_ ?_ ?_ ?_ <;> intro h <;> first | rfl | (exfalso; simp only [own_ad] at h; omega)
def own_t0 : Tree := fun _ => [0, 0, 0, 0]
def own_t1 : Tree := fun _ => [-1, -1, -1, -1]
def QrmI (Z : State) (o : Addr) (pg : Addr) (vals : Fin 13 → Value) (h0 : Heap) (n0 : Nat) (v : Option Value) (h : Heap) (L : List Loc) : Prop := v = none ∧ Fr n0 L ∧ Keep h0 h [o] ∧ ∃ (ad : Fin 5 → Addr) (kc : Fin 5 → ClassId) (nm fl : Addr), Tr Z h n0 o ad kc (own_new own_t0 0) ∧ Bt Z h n0 o ad nm fl 1
theorem ef_rmI (m : MethodId) (x0 : Addr) (x1 : Addr) (x2 : Int32) (x3 : Int32) : entryFrame m #[(.ref x0), (.ref x1), (.int x2), (.int x3)] 5 = mkF m 0 #[.val (.ref x0), .val (.ref x1), .val (.int x2), .val (.int x3), .unset] [] := by first | (simp [entryFrame, mkF, argsToLocals, Value.category]; done) | rfl
theorem pn_rmI : plainName "com/example/pith/pith/html/PageTree" = true := by first | (simp [plainName, overriddenIn]; done) | decide +kernel
set_option maxRecDepth 65536 in
set_option maxHeartbeats 40000000 in
theorem rmI (l : Launch) (Z : State) (a0 : Array Value) (hw : ∀ d ∈ tables_1, d.before a0 Z = true) (ws : List Jvm.Cond) (o : Addr) (pg : Addr) (vals : Fin 13 → Value) (h0 : Heap) (n0 : Nat) (Z0 : n0 ≤ h0.size) (E0 : Exa Z h0 o "com/example/pith/pith/html/PageTree") (F0 : PF Z h0 o vals) (hsz : vals 12 = .int (0 : Int32)) (go : n0 ≤ o) :
    MetFree l (⟨"com/example/pith/pith/html/PageTree", "<init>", "([CIZ)V"⟩ : MethodName) (head1 (Jvm.Cond.code (⟨"com/example/pith/pith/html/PageTree", "<init>", "([CIZ)V"⟩ : MethodName) prog_134_method_1_code 5 none :: ws) ({ frames := 1, cells := 10, slots := 640, locals := 15 } : Room)) (fun a U => a = #[(.ref o), (.ref pg), (.int (0 : Int32)), (.int (0 : Int32))] ∧ Z.Warmed39 U.vm ∧ U.heap = h0) (fun _ _ _ _ _ => True) (fun _ U oc U' => ∃ v L, oc = .returned v ∧ QrmI Z o pg vals h0 n0 v U'.heap L ∧ FrameEnd U oc U' L ({ frames := 1, cells := 10, slots := 640, locals := 15 } : Room).cells ({ frames := 1, cells := 10, slots := 640, locals := 15 } : Room).slots) := by
  refine MetFree.of_bodySF (plainFor_of_name pn_rmI) hisR ?_
  intro p e s m args below meth c s₁ Bd hml0 hP hK
  obtain ⟨rfl, hZ, hh⟩ := hP
  have hx := Bd.exec
  have hby := Bd.bytes
  have hml : c.maxLocals = 5 := hml0
  have hown : s.vm.findClass "com/example/pith/pith/html/PageTree" = some m.cls := findClass_of_methodNamed Bd.named
  have hnm := (name_of_methodNamed Bd.named Bd.method).1
  have X0 : Stand p l e ({ frames := 1, cells := 10, slots := 640, locals := 15 } : Room) s m #[(.ref o), (.ref pg), (.int (0 : Int32)), (.int (0 : Int32))] below meth c s₁ [] 0 0 := Stand.of_body Bd
  have e0 : s₁.heap = h0 := by rw [← hh, Bd.state]; rfl
  have N0 := Fr.nil n0
  have pre0 : ∀ tt, Steps p.tables e below (s₁.setTop (mkF m 0 #[.val (.ref o), .val (.ref pg), .val (.int (0 : Int32)), .val (.int (0 : Int32)), .unset] [])) tt → Steps p.tables e below (s₁.setTop (entryFrame m #[(.ref o), (.ref pg), (.int (0 : Int32)), (.int (0 : Int32))] 5)) tt := fun tt kt => castTop (ef_rmI m o pg (0 : Int32) (0 : Int32)) kt
  obtain ⟨T1, X1, e1, st1⟩ := initO X0 hx hZ hown (hw _ (List.mem_of_getElem? (i := 7) rfl)) (hw _ (List.mem_of_getElem? (i := 8) rfl)) (hw _ (List.mem_of_getElem? (i := 9) rfl)) e0 (g := (mkF m 1 #[.val (.ref o), .val (.ref pg), .val (.int (0 : Int32)), .val (.int (0 : Int32)), .unset] [(.ref o)])) rfl (by rw [hml]; rfl) rfl (hb hby d1_1) (by decide) (W := 0) (by show 2 * 0 + _ ≤ _; exact Nat.le_of_eq rfl) (by decide)
  obtain ⟨T2, h2, X2, e2, W2, st2⟩ := putF X1 hx hZ hown (host := "") (Or.inl (hw _ (List.mem_of_getElem? (i := 10) rfl))) Via.refl e1 (show Fld Z h0 o "com/example/pith/pith/html/PageTree" "page" "[C" _ from F0 0) E0 (Or.inr ⟨(hw _ (List.mem_of_getElem? (i := 11) rfl)), rfl, hnm⟩) (hw _ (List.mem_of_getElem? (i := 1) rfl)) (ty := (.array .char)) (by decide) rfl rfl (g := (mkF m 6 #[.val (.ref o), .val (.ref pg), .val (.int (0 : Int32)), .val (.int (0 : Int32)), .unset] [(.ref pg), (.ref o)])) rfl rfl (hb hby d1_6)
  have N2 := Fr.snoc X2 N0 go
  obtain ⟨Lx2, X2, Nx2⟩ : ∃ L, Stand p l e ({ frames := 1, cells := 10, slots := 640, locals := 15 } : Room) s m #[(.ref o), (.ref pg), (.int (0 : Int32)), (.int (0 : Int32))] below meth c T2 L 0 0 ∧ Fr n0 L := ⟨_, X2.more (by decide) (by decide), N2⟩
  have E2 := Exa.wr W2 E0
  have F2 := PF.wr hw F0 0 W2
  have s2 : h2.size = h0.size := Wr.size W2
  obtain ⟨T3, h3, X3, e3, W3, st3⟩ := putF X2 hx hZ hown (host := "") (Or.inl (hw _ (List.mem_of_getElem? (i := 12) rfl))) Via.refl e2 (show Fld Z h2 o "com/example/pith/pith/html/PageTree" "scripting" "Z" _ from F2 1) E2 (Or.inr ⟨(hw _ (List.mem_of_getElem? (i := 13) rfl)), rfl, hnm⟩) (hw _ (List.mem_of_getElem? (i := 1) rfl)) (ty := .boolean) (by decide) rfl rfl (g := (mkF m 11 #[.val (.ref o), .val (.ref pg), .val (.int (0 : Int32)), .val (.int (0 : Int32)), .unset] [(.int (0 : Int32)), (.ref o)])) rfl rfl (hb hby d1_11)
  have N3 := Fr.snoc X3 Nx2 go
  obtain ⟨Lx3, X3, Nx3⟩ : ∃ L, Stand p l e ({ frames := 1, cells := 10, slots := 640, locals := 15 } : Room) s m #[(.ref o), (.ref pg), (.int (0 : Int32)), (.int (0 : Int32))] below meth c T3 L 0 0 ∧ Fr n0 L := ⟨_, X3.more (by decide) (by decide), N3⟩
  have E3 := Exa.wr W3 E2
  have F3 := PF.wr hw F2 1 W3
  have s3 : h3.size = h2.size := Wr.size W3
  have hmx : ¬ (64 : Int32) < (0 : Int32) / (64 : Int32) := by decide
  have zm : n0 ≤ h3.size := by omega
  obtain ⟨_, _, ⟨T4, L4, k4, n4⟩, -, X4, ⟨Lc4, hQ4, l4, y4, z4⟩, st4⟩ := Jvm.LawKit.callS X3 hx (y := (⟨"java/lang/Math", "max", "(II)I"⟩ : MethodName)) hown (mvT hZ (hw _ (List.mem_of_getElem? (i := 14) rfl))) (mvT hZ (hw _ (List.mem_of_getElem? (i := 15) rfl))) (mvT hZ (hw _ (List.mem_of_getElem? (i := 16) rfl))) (mvT hZ (hw _ (List.mem_of_getElem? (i := 17) rfl))) (by decide) (backOf (W := 0) (rmM l Z a0 hw [] (64 : Int32) ((0 : Int32) / (64 : Int32)) h3 n0 zm hmx) hZ (hw _ (List.mem_of_getElem? (i := 17) rfl)) (hw _ (List.mem_of_getElem? (i := 16) rfl)) (by decide) (by decide)) (g := (mkF m 20 #[.val (.ref o), .val (.ref pg), .val (.int (0 : Int32)), .val (.int (0 : Int32)), .unset] [(.int ((0 : Int32) / (64 : Int32))), (.int (64 : Int32))])) rfl (by rw [hml]; rfl) (argsL := [(.int (64 : Int32)), (.int ((0 : Int32) / (64 : Int32)))]) (rest := []) (lenOf pd_1 rfl) rfl (by show 2 * 0 + _ ≤ _; exact Nat.le_of_eq rfl) (hb hby d1_20) (fun _ _ => ⟨rfl, e3, (by decide : 0 + 0 ≤ _), (by decide : 0 + 0 ≤ _)⟩)
  dsimp only [Pt.U, Pt.locs, Pt.cells, Pt.slots] at X4 l4 y4 z4 st4 hQ4
  subst l4 y4 z4
  obtain ⟨rfl, N4q, h4⟩ := hQ4
  have N4 := Fr.app Nx3 N4q
  obtain ⟨Lx4, X4, Nx4⟩ : ∃ L, Stand p l e ({ frames := 1, cells := 10, slots := 640, locals := 15 } : Room) s m #[(.ref o), (.ref pg), (.int (0 : Int32)), (.int (0 : Int32))] below meth c T4 L 0 0 ∧ Fr n0 L := ⟨_, X4.more (by decide) (by decide), N4⟩
  have e4 : T4.heap = h3 := h4
  obtain ⟨T5, h5, k5, X5, e5, E5, A5, st5⟩ := newP X4 hx hZ (hw _ (List.mem_of_getElem? (i := 18) rfl)) e4 (g := (mkF m 28 #[.val (.ref o), .val (.ref pg), .val (.int (0 : Int32)), .val (.int (0 : Int32)), .val (.int (64 : Int32))] [(.int (64 : Int32)), (.ref o)])) rfl (hb hby d1_28) rfl (by decide) (cap := 64) (by decide) (by decide) (by decide) (by decide)
  obtain ⟨b5, g5⟩ : ∃ z, z = h3.size := ⟨_, rfl⟩
  rw [← g5] at A5 st5
  have V5 := Arv.new A5 (by decide)
  obtain ⟨Lx5, X5, Nx5⟩ : ∃ L, Stand p l e ({ frames := 1, cells := 10, slots := 640, locals := 15 } : Room) s m #[(.ref o), (.ref pg), (.int (0 : Int32)), (.int (0 : Int32))] below meth c T5 L 1 64 ∧ Fr n0 L := ⟨_, X5.more (by decide) (by decide), Nx4⟩
  have E5x := Exa.ext E5 E3
  have F5 := PF.ext F3 E5
  have s5 : h3.size ≤ h5.size := E5.1
  have lt5 : b5 < h5.size := V5.lt
  obtain ⟨T6, h6, X6, e6, W6, st6⟩ := putF X5 hx hZ hown (host := "") (Or.inl (hw _ (List.mem_of_getElem? (i := 19) rfl))) Via.refl e5 (show Fld Z h5 o "com/example/pith/pith/html/PageTree" "name" "[I" _ from F5 2) E5x (Or.inl (hw _ (List.mem_of_getElem? (i := 20) rfl))) (hw _ (List.mem_of_getElem? (i := 1) rfl)) (ty := (.array .int)) (by decide) rfl rfl (g := (mkF m 30 #[.val (.ref o), .val (.ref pg), .val (.int (0 : Int32)), .val (.int (0 : Int32)), .val (.int (64 : Int32))] [(.ref b5), (.ref o)])) rfl rfl (hb hby d1_30)
  have N6 := Fr.snoc X6 Nx5 go
  obtain ⟨Lx6, X6, Nx6⟩ : ∃ L, Stand p l e ({ frames := 1, cells := 10, slots := 640, locals := 15 } : Room) s m #[(.ref o), (.ref pg), (.int (0 : Int32)), (.int (0 : Int32))] below meth c T6 L 1 64 ∧ Fr n0 L := ⟨_, X6.more (by decide) (by decide), N6⟩
  have E6 := Exa.wr W6 E5x
  have F6 := PF.wr hw F5 2 W6
  have s6 : h6.size = h5.size := Wr.size W6
  obtain ⟨T7, h7, k7, X7, e7, E7, A7, st7⟩ := newP X6 hx hZ (hw _ (List.mem_of_getElem? (i := 18) rfl)) e6 (g := (mkF m 36 #[.val (.ref o), .val (.ref pg), .val (.int (0 : Int32)), .val (.int (0 : Int32)), .val (.int (64 : Int32))] [(.int (64 : Int32)), (.ref o)])) rfl (hb hby d1_36) rfl (by decide) (cap := 64) (by decide) (by decide) (by decide) (by decide)
  obtain ⟨b7, g7⟩ : ∃ z, z = h6.size := ⟨_, rfl⟩
  rw [← g7] at A7 st7
  have V7 := Arv.new A7 (by decide)
  obtain ⟨Lx7, X7, Nx7⟩ : ∃ L, Stand p l e ({ frames := 1, cells := 10, slots := 640, locals := 15 } : Room) s m #[(.ref o), (.ref pg), (.int (0 : Int32)), (.int (0 : Int32))] below meth c T7 L 2 128 ∧ Fr n0 L := ⟨_, X7.more (by decide) (by decide), Nx6⟩
  have E7x := Exa.ext E7 E6
  have F7 := PF.ext F6 E7
  have s7 : h6.size ≤ h7.size := E7.1
  have lt7 : b7 < h7.size := V7.lt
  obtain ⟨T8, h8, X8, e8, W8, st8⟩ := putF X7 hx hZ hown (host := "") (Or.inl (hw _ (List.mem_of_getElem? (i := 21) rfl))) Via.refl e7 (show Fld Z h7 o "com/example/pith/pith/html/PageTree" "parent" "[I" _ from F7 3) E7x (Or.inl (hw _ (List.mem_of_getElem? (i := 22) rfl))) (hw _ (List.mem_of_getElem? (i := 1) rfl)) (ty := (.array .int)) (by decide) rfl rfl (g := (mkF m 38 #[.val (.ref o), .val (.ref pg), .val (.int (0 : Int32)), .val (.int (0 : Int32)), .val (.int (64 : Int32))] [(.ref b7), (.ref o)])) rfl rfl (hb hby d1_38)
  have N8 := Fr.snoc X8 Nx7 go
  obtain ⟨Lx8, X8, Nx8⟩ : ∃ L, Stand p l e ({ frames := 1, cells := 10, slots := 640, locals := 15 } : Room) s m #[(.ref o), (.ref pg), (.int (0 : Int32)), (.int (0 : Int32))] below meth c T8 L 2 128 ∧ Fr n0 L := ⟨_, X8.more (by decide) (by decide), N8⟩
  have E8 := Exa.wr W8 E7x
  have F8 := PF.wr hw F7 3 W8
  have s8 : h8.size = h7.size := Wr.size W8
  obtain ⟨T9, h9, k9, X9, e9, E9, A9, st9⟩ := newP X8 hx hZ (hw _ (List.mem_of_getElem? (i := 18) rfl)) e8 (g := (mkF m 44 #[.val (.ref o), .val (.ref pg), .val (.int (0 : Int32)), .val (.int (0 : Int32)), .val (.int (64 : Int32))] [(.int (64 : Int32)), (.ref o)])) rfl (hb hby d1_44) rfl (by decide) (cap := 64) (by decide) (by decide) (by decide) (by decide)
  obtain ⟨b9, g9⟩ : ∃ z, z = h8.size := ⟨_, rfl⟩
  rw [← g9] at A9 st9
  have V9 := Arv.new A9 (by decide)
  obtain ⟨Lx9, X9, Nx9⟩ : ∃ L, Stand p l e ({ frames := 1, cells := 10, slots := 640, locals := 15 } : Room) s m #[(.ref o), (.ref pg), (.int (0 : Int32)), (.int (0 : Int32))] below meth c T9 L 3 192 ∧ Fr n0 L := ⟨_, X9.more (by decide) (by decide), Nx8⟩
  have E9x := Exa.ext E9 E8
  have F9 := PF.ext F8 E9
  have s9 : h8.size ≤ h9.size := E9.1
  have lt9 : b9 < h9.size := V9.lt
  obtain ⟨T10, h10, X10, e10, W10, st10⟩ := putF X9 hx hZ hown (host := "") (Or.inl (hw _ (List.mem_of_getElem? (i := 23) rfl))) Via.refl e9 (show Fld Z h9 o "com/example/pith/pith/html/PageTree" "firstChild" "[I" _ from F9 4) E9x (Or.inl (hw _ (List.mem_of_getElem? (i := 24) rfl))) (hw _ (List.mem_of_getElem? (i := 1) rfl)) (ty := (.array .int)) (by decide) rfl rfl (g := (mkF m 46 #[.val (.ref o), .val (.ref pg), .val (.int (0 : Int32)), .val (.int (0 : Int32)), .val (.int (64 : Int32))] [(.ref b9), (.ref o)])) rfl rfl (hb hby d1_46)
  have N10 := Fr.snoc X10 Nx9 go
  obtain ⟨Lx10, X10, Nx10⟩ : ∃ L, Stand p l e ({ frames := 1, cells := 10, slots := 640, locals := 15 } : Room) s m #[(.ref o), (.ref pg), (.int (0 : Int32)), (.int (0 : Int32))] below meth c T10 L 3 192 ∧ Fr n0 L := ⟨_, X10.more (by decide) (by decide), N10⟩
  have E10 := Exa.wr W10 E9x
  have F10 := PF.wr hw F9 4 W10
  have s10 : h10.size = h9.size := Wr.size W10
  obtain ⟨T11, h11, k11, X11, e11, E11, A11, st11⟩ := newP X10 hx hZ (hw _ (List.mem_of_getElem? (i := 18) rfl)) e10 (g := (mkF m 52 #[.val (.ref o), .val (.ref pg), .val (.int (0 : Int32)), .val (.int (0 : Int32)), .val (.int (64 : Int32))] [(.int (64 : Int32)), (.ref o)])) rfl (hb hby d1_52) rfl (by decide) (cap := 64) (by decide) (by decide) (by decide) (by decide)
  obtain ⟨b11, g11⟩ : ∃ z, z = h10.size := ⟨_, rfl⟩
  rw [← g11] at A11 st11
  have V11 := Arv.new A11 (by decide)
  obtain ⟨Lx11, X11, Nx11⟩ : ∃ L, Stand p l e ({ frames := 1, cells := 10, slots := 640, locals := 15 } : Room) s m #[(.ref o), (.ref pg), (.int (0 : Int32)), (.int (0 : Int32))] below meth c T11 L 4 256 ∧ Fr n0 L := ⟨_, X11.more (by decide) (by decide), Nx10⟩
  have E11x := Exa.ext E11 E10
  have F11 := PF.ext F10 E11
  have s11 : h10.size ≤ h11.size := E11.1
  have lt11 : b11 < h11.size := V11.lt
  obtain ⟨T12, h12, X12, e12, W12, st12⟩ := putF X11 hx hZ hown (host := "") (Or.inl (hw _ (List.mem_of_getElem? (i := 25) rfl))) Via.refl e11 (show Fld Z h11 o "com/example/pith/pith/html/PageTree" "lastChild" "[I" _ from F11 5) E11x (Or.inl (hw _ (List.mem_of_getElem? (i := 26) rfl))) (hw _ (List.mem_of_getElem? (i := 1) rfl)) (ty := (.array .int)) (by decide) rfl rfl (g := (mkF m 54 #[.val (.ref o), .val (.ref pg), .val (.int (0 : Int32)), .val (.int (0 : Int32)), .val (.int (64 : Int32))] [(.ref b11), (.ref o)])) rfl rfl (hb hby d1_54)
  have N12 := Fr.snoc X12 Nx11 go
  obtain ⟨Lx12, X12, Nx12⟩ : ∃ L, Stand p l e ({ frames := 1, cells := 10, slots := 640, locals := 15 } : Room) s m #[(.ref o), (.ref pg), (.int (0 : Int32)), (.int (0 : Int32))] below meth c T12 L 4 256 ∧ Fr n0 L := ⟨_, X12.more (by decide) (by decide), N12⟩
  have E12 := Exa.wr W12 E11x
  have F12 := PF.wr hw F11 5 W12
  have s12 : h12.size = h11.size := Wr.size W12
  obtain ⟨T13, h13, k13, X13, e13, E13, A13, st13⟩ := newP X12 hx hZ (hw _ (List.mem_of_getElem? (i := 18) rfl)) e12 (g := (mkF m 60 #[.val (.ref o), .val (.ref pg), .val (.int (0 : Int32)), .val (.int (0 : Int32)), .val (.int (64 : Int32))] [(.int (64 : Int32)), (.ref o)])) rfl (hb hby d1_60) rfl (by decide) (cap := 64) (by decide) (by decide) (by decide) (by decide)
  obtain ⟨b13, g13⟩ : ∃ z, z = h12.size := ⟨_, rfl⟩
  rw [← g13] at A13 st13
  have V13 := Arv.new A13 (by decide)
  obtain ⟨Lx13, X13, Nx13⟩ : ∃ L, Stand p l e ({ frames := 1, cells := 10, slots := 640, locals := 15 } : Room) s m #[(.ref o), (.ref pg), (.int (0 : Int32)), (.int (0 : Int32))] below meth c T13 L 5 320 ∧ Fr n0 L := ⟨_, X13.more (by decide) (by decide), Nx12⟩
  have E13x := Exa.ext E13 E12
  have F13 := PF.ext F12 E13
  have s13 : h12.size ≤ h13.size := E13.1
  have lt13 : b13 < h13.size := V13.lt
  obtain ⟨T14, h14, X14, e14, W14, st14⟩ := putF X13 hx hZ hown (host := "") (Or.inl (hw _ (List.mem_of_getElem? (i := 27) rfl))) Via.refl e13 (show Fld Z h13 o "com/example/pith/pith/html/PageTree" "next" "[I" _ from F13 6) E13x (Or.inl (hw _ (List.mem_of_getElem? (i := 28) rfl))) (hw _ (List.mem_of_getElem? (i := 1) rfl)) (ty := (.array .int)) (by decide) rfl rfl (g := (mkF m 62 #[.val (.ref o), .val (.ref pg), .val (.int (0 : Int32)), .val (.int (0 : Int32)), .val (.int (64 : Int32))] [(.ref b13), (.ref o)])) rfl rfl (hb hby d1_62)
  have N14 := Fr.snoc X14 Nx13 go
  obtain ⟨Lx14, X14, Nx14⟩ : ∃ L, Stand p l e ({ frames := 1, cells := 10, slots := 640, locals := 15 } : Room) s m #[(.ref o), (.ref pg), (.int (0 : Int32)), (.int (0 : Int32))] below meth c T14 L 5 320 ∧ Fr n0 L := ⟨_, X14.more (by decide) (by decide), N14⟩
  have E14 := Exa.wr W14 E13x
  have F14 := PF.wr hw F13 6 W14
  have s14 : h14.size = h13.size := Wr.size W14
  obtain ⟨T15, h15, k15, X15, e15, E15, A15, st15⟩ := newP X14 hx hZ (hw _ (List.mem_of_getElem? (i := 18) rfl)) e14 (g := (mkF m 68 #[.val (.ref o), .val (.ref pg), .val (.int (0 : Int32)), .val (.int (0 : Int32)), .val (.int (64 : Int32))] [(.int (64 : Int32)), (.ref o)])) rfl (hb hby d1_68) rfl (by decide) (cap := 64) (by decide) (by decide) (by decide) (by decide)
  obtain ⟨b15, g15⟩ : ∃ z, z = h14.size := ⟨_, rfl⟩
  rw [← g15] at A15 st15
  have V15 := Arv.new A15 (by decide)
  obtain ⟨Lx15, X15, Nx15⟩ : ∃ L, Stand p l e ({ frames := 1, cells := 10, slots := 640, locals := 15 } : Room) s m #[(.ref o), (.ref pg), (.int (0 : Int32)), (.int (0 : Int32))] below meth c T15 L 6 384 ∧ Fr n0 L := ⟨_, X15.more (by decide) (by decide), Nx14⟩
  have E15x := Exa.ext E15 E14
  have F15 := PF.ext F14 E15
  have s15 : h14.size ≤ h15.size := E15.1
  have lt15 : b15 < h15.size := V15.lt
  obtain ⟨T16, h16, X16, e16, W16, st16⟩ := putF X15 hx hZ hown (host := "") (Or.inl (hw _ (List.mem_of_getElem? (i := 29) rfl))) Via.refl e15 (show Fld Z h15 o "com/example/pith/pith/html/PageTree" "previous" "[I" _ from F15 7) E15x (Or.inl (hw _ (List.mem_of_getElem? (i := 30) rfl))) (hw _ (List.mem_of_getElem? (i := 1) rfl)) (ty := (.array .int)) (by decide) rfl rfl (g := (mkF m 70 #[.val (.ref o), .val (.ref pg), .val (.int (0 : Int32)), .val (.int (0 : Int32)), .val (.int (64 : Int32))] [(.ref b15), (.ref o)])) rfl rfl (hb hby d1_70)
  have N16 := Fr.snoc X16 Nx15 go
  obtain ⟨Lx16, X16, Nx16⟩ : ∃ L, Stand p l e ({ frames := 1, cells := 10, slots := 640, locals := 15 } : Room) s m #[(.ref o), (.ref pg), (.int (0 : Int32)), (.int (0 : Int32))] below meth c T16 L 6 384 ∧ Fr n0 L := ⟨_, X16.more (by decide) (by decide), N16⟩
  have E16 := Exa.wr W16 E15x
  have F16 := PF.wr hw F15 7 W16
  have s16 : h16.size = h15.size := Wr.size W16
  obtain ⟨T17, h17, k17, X17, e17, E17, A17, st17⟩ := newP X16 hx hZ (hw _ (List.mem_of_getElem? (i := 18) rfl)) e16 (g := (mkF m 76 #[.val (.ref o), .val (.ref pg), .val (.int (0 : Int32)), .val (.int (0 : Int32)), .val (.int (64 : Int32))] [(.int (64 : Int32)), (.ref o)])) rfl (hb hby d1_76) rfl (by decide) (cap := 64) (by decide) (by decide) (by decide) (by decide)
  obtain ⟨b17, g17⟩ : ∃ z, z = h16.size := ⟨_, rfl⟩
  rw [← g17] at A17 st17
  have V17 := Arv.new A17 (by decide)
  obtain ⟨Lx17, X17, Nx17⟩ : ∃ L, Stand p l e ({ frames := 1, cells := 10, slots := 640, locals := 15 } : Room) s m #[(.ref o), (.ref pg), (.int (0 : Int32)), (.int (0 : Int32))] below meth c T17 L 7 448 ∧ Fr n0 L := ⟨_, X17.more (by decide) (by decide), Nx16⟩
  have E17x := Exa.ext E17 E16
  have F17 := PF.ext F16 E17
  have s17 : h16.size ≤ h17.size := E17.1
  have lt17 : b17 < h17.size := V17.lt
  obtain ⟨T18, h18, X18, e18, W18, st18⟩ := putF X17 hx hZ hown (host := "") (Or.inl (hw _ (List.mem_of_getElem? (i := 31) rfl))) Via.refl e17 (show Fld Z h17 o "com/example/pith/pith/html/PageTree" "textStart" "[I" _ from F17 8) E17x (Or.inl (hw _ (List.mem_of_getElem? (i := 32) rfl))) (hw _ (List.mem_of_getElem? (i := 1) rfl)) (ty := (.array .int)) (by decide) rfl rfl (g := (mkF m 78 #[.val (.ref o), .val (.ref pg), .val (.int (0 : Int32)), .val (.int (0 : Int32)), .val (.int (64 : Int32))] [(.ref b17), (.ref o)])) rfl rfl (hb hby d1_78)
  have N18 := Fr.snoc X18 Nx17 go
  obtain ⟨Lx18, X18, Nx18⟩ : ∃ L, Stand p l e ({ frames := 1, cells := 10, slots := 640, locals := 15 } : Room) s m #[(.ref o), (.ref pg), (.int (0 : Int32)), (.int (0 : Int32))] below meth c T18 L 7 448 ∧ Fr n0 L := ⟨_, X18.more (by decide) (by decide), N18⟩
  have E18 := Exa.wr W18 E17x
  have F18 := PF.wr hw F17 8 W18
  have s18 : h18.size = h17.size := Wr.size W18
  obtain ⟨T19, h19, k19, X19, e19, E19, A19, st19⟩ := newP X18 hx hZ (hw _ (List.mem_of_getElem? (i := 18) rfl)) e18 (g := (mkF m 84 #[.val (.ref o), .val (.ref pg), .val (.int (0 : Int32)), .val (.int (0 : Int32)), .val (.int (64 : Int32))] [(.int (64 : Int32)), (.ref o)])) rfl (hb hby d1_84) rfl (by decide) (cap := 64) (by decide) (by decide) (by decide) (by decide)
  obtain ⟨b19, g19⟩ : ∃ z, z = h18.size := ⟨_, rfl⟩
  rw [← g19] at A19 st19
  have V19 := Arv.new A19 (by decide)
  obtain ⟨Lx19, X19, Nx19⟩ : ∃ L, Stand p l e ({ frames := 1, cells := 10, slots := 640, locals := 15 } : Room) s m #[(.ref o), (.ref pg), (.int (0 : Int32)), (.int (0 : Int32))] below meth c T19 L 8 512 ∧ Fr n0 L := ⟨_, X19.more (by decide) (by decide), Nx18⟩
  have E19x := Exa.ext E19 E18
  have F19 := PF.ext F18 E19
  have s19 : h18.size ≤ h19.size := E19.1
  have lt19 : b19 < h19.size := V19.lt
  obtain ⟨T20, h20, X20, e20, W20, st20⟩ := putF X19 hx hZ hown (host := "") (Or.inl (hw _ (List.mem_of_getElem? (i := 33) rfl))) Via.refl e19 (show Fld Z h19 o "com/example/pith/pith/html/PageTree" "textEnd" "[I" _ from F19 9) E19x (Or.inl (hw _ (List.mem_of_getElem? (i := 34) rfl))) (hw _ (List.mem_of_getElem? (i := 1) rfl)) (ty := (.array .int)) (by decide) rfl rfl (g := (mkF m 86 #[.val (.ref o), .val (.ref pg), .val (.int (0 : Int32)), .val (.int (0 : Int32)), .val (.int (64 : Int32))] [(.ref b19), (.ref o)])) rfl rfl (hb hby d1_86)
  have N20 := Fr.snoc X20 Nx19 go
  obtain ⟨Lx20, X20, Nx20⟩ : ∃ L, Stand p l e ({ frames := 1, cells := 10, slots := 640, locals := 15 } : Room) s m #[(.ref o), (.ref pg), (.int (0 : Int32)), (.int (0 : Int32))] below meth c T20 L 8 512 ∧ Fr n0 L := ⟨_, X20.more (by decide) (by decide), N20⟩
  have E20 := Exa.wr W20 E19x
  have F20 := PF.wr hw F19 9 W20
  have s20 : h20.size = h19.size := Wr.size W20
  obtain ⟨T21, h21, k21, X21, e21, E21, A21, st21⟩ := newP X20 hx hZ (hw _ (List.mem_of_getElem? (i := 35) rfl)) e20 (g := (mkF m 92 #[.val (.ref o), .val (.ref pg), .val (.int (0 : Int32)), .val (.int (0 : Int32)), .val (.int (64 : Int32))] [(.int (64 : Int32)), (.ref o)])) rfl (hb hby d1_92) rfl (by decide) (cap := 64) (by decide) (by decide) (by decide) (by decide)
  obtain ⟨b21, g21⟩ : ∃ z, z = h20.size := ⟨_, rfl⟩
  rw [← g21] at A21 st21
  have V21 := Arv.new A21 (by decide)
  obtain ⟨Lx21, X21, Nx21⟩ : ∃ L, Stand p l e ({ frames := 1, cells := 10, slots := 640, locals := 15 } : Room) s m #[(.ref o), (.ref pg), (.int (0 : Int32)), (.int (0 : Int32))] below meth c T21 L 9 576 ∧ Fr n0 L := ⟨_, X21.more (by decide) (by decide), Nx20⟩
  have E21x := Exa.ext E21 E20
  have F21 := PF.ext F20 E21
  have s21 : h20.size ≤ h21.size := E21.1
  have lt21 : b21 < h21.size := V21.lt
  obtain ⟨T22, h22, X22, e22, W22, st22⟩ := putF X21 hx hZ hown (host := "") (Or.inl (hw _ (List.mem_of_getElem? (i := 36) rfl))) Via.refl e21 (show Fld Z h21 o "com/example/pith/pith/html/PageTree" "flags" "[S" _ from F21 10) E21x (Or.inl (hw _ (List.mem_of_getElem? (i := 37) rfl))) (hw _ (List.mem_of_getElem? (i := 1) rfl)) (ty := (.array .short)) (by decide) rfl rfl (g := (mkF m 94 #[.val (.ref o), .val (.ref pg), .val (.int (0 : Int32)), .val (.int (0 : Int32)), .val (.int (64 : Int32))] [(.ref b21), (.ref o)])) rfl rfl (hb hby d1_94)
  have N22 := Fr.snoc X22 Nx21 go
  obtain ⟨Lx22, X22, Nx22⟩ : ∃ L, Stand p l e ({ frames := 1, cells := 10, slots := 640, locals := 15 } : Room) s m #[(.ref o), (.ref pg), (.int (0 : Int32)), (.int (0 : Int32))] below meth c T22 L 9 576 ∧ Fr n0 L := ⟨_, X22.more (by decide) (by decide), N22⟩
  have E22 := Exa.wr W22 E21x
  have F22 := PF.wr hw F21 10 W22
  have s22 : h22.size = h21.size := Wr.size W22
  obtain ⟨T23, h23, k23, X23, e23, E23, A23, st23⟩ := newP X22 hx hZ (hw _ (List.mem_of_getElem? (i := 3) rfl)) e22 (g := (mkF m 100 #[.val (.ref o), .val (.ref pg), .val (.int (0 : Int32)), .val (.int (0 : Int32)), .val (.int (64 : Int32))] [(.int (64 : Int32)), (.ref o)])) rfl (hb hby d1_100) rfl (by decide) (cap := 64) (by decide) (by decide) (by decide) (by decide)
  obtain ⟨b23, g23⟩ : ∃ z, z = h22.size := ⟨_, rfl⟩
  rw [← g23] at A23 st23
  have V23 := Arv.new A23 (by decide)
  obtain ⟨Lx23, X23, Nx23⟩ : ∃ L, Stand p l e ({ frames := 1, cells := 10, slots := 640, locals := 15 } : Room) s m #[(.ref o), (.ref pg), (.int (0 : Int32)), (.int (0 : Int32))] below meth c T23 L 10 640 ∧ Fr n0 L := ⟨_, X23.more (by decide) (by decide), Nx22⟩
  have E23x := Exa.ext E23 E22
  have F23 := PF.ext F22 E23
  have s23 : h22.size ≤ h23.size := E23.1
  have lt23 : b23 < h23.size := V23.lt
  obtain ⟨T24, h24, X24, e24, W24, st24⟩ := putF X23 hx hZ hown (host := "") (Or.inl (hw _ (List.mem_of_getElem? (i := 38) rfl))) Via.refl e23 (show Fld Z h23 o "com/example/pith/pith/html/PageTree" "text" "[C" _ from F23 11) E23x (Or.inl (hw _ (List.mem_of_getElem? (i := 39) rfl))) (hw _ (List.mem_of_getElem? (i := 1) rfl)) (ty := (.array .char)) (by decide) rfl rfl (g := (mkF m 102 #[.val (.ref o), .val (.ref pg), .val (.int (0 : Int32)), .val (.int (0 : Int32)), .val (.int (64 : Int32))] [(.ref b23), (.ref o)])) rfl rfl (hb hby d1_102)
  have N24 := Fr.snoc X24 Nx23 go
  obtain ⟨Lx24, X24, Nx24⟩ : ∃ L, Stand p l e ({ frames := 1, cells := 10, slots := 640, locals := 15 } : Room) s m #[(.ref o), (.ref pg), (.int (0 : Int32)), (.int (0 : Int32))] below meth c T24 L 10 640 ∧ Fr n0 L := ⟨_, X24.more (by decide) (by decide), N24⟩
  have E24 := Exa.wr W24 E23x
  have F24 := PF.wr hw F23 11 W24
  have s24 : h24.size = h23.size := Wr.size W24
  have R22 : Keep h24 h24 [o] := Keep.refl _ _
  have R21 : Keep h23 h24 [o] := (Keep.of_wr W24).trans R22 (fun x hx => Or.inl hx)
  have R20 : Keep h22 h24 [o] := ((Keep.refl h22 [o]).ext E23).trans R21 (fun x hx => Or.inl hx)
  have R19 : Keep h21 h24 [o] := (Keep.of_wr W22).trans R20 (fun x hx => Or.inl hx)
  have R18 : Keep h20 h24 [o] := ((Keep.refl h20 [o]).ext E21).trans R19 (fun x hx => Or.inl hx)
  have R17 : Keep h19 h24 [o] := (Keep.of_wr W20).trans R18 (fun x hx => Or.inl hx)
  have R16 : Keep h18 h24 [o] := ((Keep.refl h18 [o]).ext E19).trans R17 (fun x hx => Or.inl hx)
  have R15 : Keep h17 h24 [o] := (Keep.of_wr W18).trans R16 (fun x hx => Or.inl hx)
  have R14 : Keep h16 h24 [o] := ((Keep.refl h16 [o]).ext E17).trans R15 (fun x hx => Or.inl hx)
  have R13 : Keep h15 h24 [o] := (Keep.of_wr W16).trans R14 (fun x hx => Or.inl hx)
  have R12 : Keep h14 h24 [o] := ((Keep.refl h14 [o]).ext E15).trans R13 (fun x hx => Or.inl hx)
  have R11 : Keep h13 h24 [o] := (Keep.of_wr W14).trans R12 (fun x hx => Or.inl hx)
  have R10 : Keep h12 h24 [o] := ((Keep.refl h12 [o]).ext E13).trans R11 (fun x hx => Or.inl hx)
  have R9 : Keep h11 h24 [o] := (Keep.of_wr W12).trans R10 (fun x hx => Or.inl hx)
  have R8 : Keep h10 h24 [o] := ((Keep.refl h10 [o]).ext E11).trans R9 (fun x hx => Or.inl hx)
  have R7 : Keep h9 h24 [o] := (Keep.of_wr W10).trans R8 (fun x hx => Or.inl hx)
  have R6 : Keep h8 h24 [o] := ((Keep.refl h8 [o]).ext E9).trans R7 (fun x hx => Or.inl hx)
  have R5 : Keep h7 h24 [o] := (Keep.of_wr W8).trans R6 (fun x hx => Or.inl hx)
  have R4 : Keep h6 h24 [o] := ((Keep.refl h6 [o]).ext E7).trans R5 (fun x hx => Or.inl hx)
  have R3 : Keep h5 h24 [o] := (Keep.of_wr W6).trans R4 (fun x hx => Or.inl hx)
  have R2 : Keep h3 h24 [o] := ((Keep.refl h3 [o]).ext E5).trans R3 (fun x hx => Or.inl hx)
  have R1 : Keep h2 h24 [o] := (Keep.of_wr W3).trans R2 (fun x hx => Or.inl hx)
  have R0 : Keep h0 h24 [o] := (Keep.of_wr W2).trans R1 (fun x hx => Or.inl hx)
  have ho : @LT.lt Nat _ o h0.size := E0.lt
  have V7z := (V7.pad (vs' := [.int (0 : Int32), .int (0 : Int32), .int (0 : Int32), .int (0 : Int32)]) (pad_rep [] (.int (0 : Int32)) 4)).keep R5 (ninS (Nat.ne_of_gt (by omega)) nin0)
  have V9z := (V9.pad (vs' := [.int (0 : Int32), .int (0 : Int32), .int (0 : Int32), .int (0 : Int32)]) (pad_rep [] (.int (0 : Int32)) 4)).keep R7 (ninS (Nat.ne_of_gt (by omega)) nin0)
  have V11z := (V11.pad (vs' := [.int (0 : Int32), .int (0 : Int32), .int (0 : Int32), .int (0 : Int32)]) (pad_rep [] (.int (0 : Int32)) 4)).keep R9 (ninS (Nat.ne_of_gt (by omega)) nin0)
  have V13z := (V13.pad (vs' := [.int (0 : Int32), .int (0 : Int32), .int (0 : Int32), .int (0 : Int32)]) (pad_rep [] (.int (0 : Int32)) 4)).keep R11 (ninS (Nat.ne_of_gt (by omega)) nin0)
  have V15z := (V15.pad (vs' := [.int (0 : Int32), .int (0 : Int32), .int (0 : Int32), .int (0 : Int32)]) (pad_rep [] (.int (0 : Int32)) 4)).keep R13 (ninS (Nat.ne_of_gt (by omega)) nin0)
  have A5z : AnyA Z h24 b5 .int := ⟨k5, List.replicate 64 (.int (0 : Int32)), by simp, (V5.pad (vs' := List.replicate 64 (.int (0 : Int32))) (pad_rep [] (.int (0 : Int32)) 64)).keep R3 (ninS (Nat.ne_of_gt (by omega)) nin0)⟩
  have A21z : AnyA Z h24 b21 .short := ⟨k21, List.replicate 64 (.int (0 : Int32)), by simp, (V21.pad (vs' := List.replicate 64 (.int (0 : Int32))) (pad_rep [] (.int (0 : Int32)) 64)).keep R19 (ninS (Nat.ne_of_gt (by omega)) nin0)⟩
  have HT : Tr Z h24 n0 o (own_ad b7 b9 b11 b13 b15) (own_ad k7 k9 k11 k13 k15) own_t0 := ⟨E24, own_all5 (F24 3) (F24 4) (F24 5) (F24 6) (F24 7), own_all5 V7z V9z V11z V13z V15z, own_all5 (show n0 ≤ b7 by omega) (show n0 ≤ b9 by omega) (show n0 ≤ b11 by omega) (show n0 ≤ b13 by omega) (show n0 ≤ b15 by omega), own_all5 (show b7 ≠ o from Nat.ne_of_gt (by omega)) (show b9 ≠ o from Nat.ne_of_gt (by omega)) (show b11 ≠ o from Nat.ne_of_gt (by omega)) (show b13 ≠ o from Nat.ne_of_gt (by omega)) (show b15 ≠ o from Nat.ne_of_gt (by omega)), own_inj (by omega) (by omega) (by omega) (by omega)⟩
  have hs12 : Fld Z h24 o "com/example/pith/pith/html/PageTree" "size" "I" (.int (0 : Int32)) := by rw [← hsz]; exact F24 12
  have HB : Bt Z h24 n0 o (own_ad b7 b9 b11 b13 b15) b5 b21 0 := ⟨hs12, F24 2, F24 10, A5z, A21z, ⟨by omega, by omega⟩, ⟨Nat.ne_of_gt (by omega), Nat.ne_of_gt (by omega), Nat.ne_of_lt (by omega)⟩, own_all5 ⟨show b7 ≠ b5 by omega, show b7 ≠ b21 by omega⟩ ⟨show b9 ≠ b5 by omega, show b9 ≠ b21 by omega⟩ ⟨show b11 ≠ b5 by omega, show b11 ≠ b21 by omega⟩ ⟨show b13 ≠ b5 by omega, show b13 ≠ b21 by omega⟩ ⟨show b15 ≠ b5 by omega, show b15 ≠ b21 by omega⟩⟩
  have zl : n0 ≤ h24.size := by omega
  obtain ⟨cq25, q25, q25'⟩ := E24.cell
  obtain ⟨_, _, ⟨T25, L25, k25, n25⟩, -, X25, ⟨Lc25, hQ25, l25, y25, z25⟩, st25⟩ := X24.privateBack hx (y := (⟨"com/example/pith/pith/html/PageTree", "newNode", "(II)I"⟩ : MethodName)) hown (mvT hZ (hw _ (List.mem_of_getElem? (i := 40) rfl))) (mvT hZ (hw _ (List.mem_of_getElem? (i := 41) rfl))) (own_sel hw hZ) (Cond.privateMethod_at (mvP hZ (hw _ (List.mem_of_getElem? (i := 42) rfl)) (args := #[]))) (mvT hZ (hw _ (List.mem_of_getElem? (i := 43) rfl))) (by decide) (backOf (W := 0) (rmN l Z a0 hw [] o (own_ad b7 b9 b11 b13 b15) (own_ad k7 k9 k11 k13 k15) own_t0 b5 b21 0 (-2) 0 h24 n0 zl HT HB (fun _ => rfl) (by constructor <;> decide) go) hZ (hw _ (List.mem_of_getElem? (i := 43) rfl)) (hw _ (List.mem_of_getElem? (i := 2) rfl)) (by decide) (by decide)) (g := (mkF m 109 #[.val (.ref o), .val (.ref pg), .val (.int (0 : Int32)), .val (.int (0 : Int32)), .val (.int (64 : Int32))] [(.int (0 : Int32)), (.int (-2 : Int32)), (.ref o)])) rfl (by rw [hml]; rfl) (Steps.refl _) (a := o) (by rw [e24]; exact q25) q25' (argsL := [(.int (-2 : Int32)), (.int (0 : Int32))]) (rest := []) (lenOf pd_1 rfl) rfl (by show 2 * 0 + _ ≤ _; exact Nat.le_of_eq rfl) (hb hby d1_109) (fun _ _ => ⟨rfl, e24, (by decide : 10 + 0 ≤ _), (by decide : 640 + 0 ≤ _)⟩)
  dsimp only [Pt.U, Pt.locs, Pt.cells, Pt.slots] at X25 l25 y25 z25 st25 hQ25
  subst l25 y25 z25
  obtain ⟨rfl, N25q, K25, H25, B25⟩ := hQ25
  have N25 := Fr.app Nx24 N25q
  obtain ⟨Lx25, X25, Nx25⟩ : ∃ L, Stand p l e ({ frames := 1, cells := 10, slots := 640, locals := 15 } : Room) s m #[(.ref o), (.ref pg), (.int (0 : Int32)), (.int (0 : Int32))] below meth c T25 L 10 640 ∧ Fr n0 L := ⟨_, X25.more (by decide) (by decide), N25⟩
  have KK : Keep h0 T25.heap [o] := R0.trans K25 (by
    intro x hx
    simp only [List.mem_cons, List.not_mem_nil, or_false] at hx ⊢
    rcases hx with hx | hx | hx | hx | hx | hx | hx | hx
    · exact Or.inl hx
    · exact Or.inr (Nat.le_trans (show h0.size ≤ b7 by omega) (Nat.le_of_eq (show b7 = x from hx.symm)))
    · exact Or.inr (Nat.le_trans (show h0.size ≤ b9 by omega) (Nat.le_of_eq (show b9 = x from hx.symm)))
    · exact Or.inr (Nat.le_trans (show h0.size ≤ b11 by omega) (Nat.le_of_eq (show b11 = x from hx.symm)))
    · exact Or.inr (Nat.le_trans (show h0.size ≤ b13 by omega) (Nat.le_of_eq (show b13 = x from hx.symm)))
    · exact Or.inr (Nat.le_trans (show h0.size ≤ b15 by omega) (Nat.le_of_eq (show b15 = x from hx.symm)))
    · exact Or.inr (Nat.le_trans (show h0.size ≤ b5 by omega) (Nat.le_of_eq (show b5 = x from hx.symm)))
    · exact Or.inr (Nat.le_trans (show h0.size ≤ b21 by omega) (Nat.le_of_eq (show b21 = x from hx.symm))))
  have pre26 : ∀ tt, Steps p.tables e below (T25.setTop (mkF m 113 #[.val (.ref o), .val (.ref pg), .val (.int (0 : Int32)), .val (.int (0 : Int32)), .val (.int (64 : Int32))] [])) tt → Steps p.tables e below (s₁.setTop (entryFrame m #[(.ref o), (.ref pg), (.int (0 : Int32)), (.int (0 : Int32))] 5)) tt := by
    intro tt kt
    refine pre0 tt ?_
    show Steps p.tables e below (s₁.setTop (mkF m 0 #[.val (.ref o), .val (.ref pg), .val (.int (0 : Int32)), .val (.int (0 : Int32)), .unset] [])) _
    refine XS.aloadN X0.here hx rfl (hb hby d1_0) rfl rfl ?_
    show Steps p.tables e below (s₁.setTop (mkF m 1 #[.val (.ref o), .val (.ref pg), .val (.int (0 : Int32)), .val (.int (0 : Int32)), .unset] [(.ref o)])) _
    refine st1 _ ?_
    show Steps p.tables e below (T1.setTop (mkF m 4 #[.val (.ref o), .val (.ref pg), .val (.int (0 : Int32)), .val (.int (0 : Int32)), .unset] [])) _
    refine XS.aloadN X1.here hx rfl (hb hby d1_4) rfl rfl ?_
    show Steps p.tables e below (T1.setTop (mkF m 5 #[.val (.ref o), .val (.ref pg), .val (.int (0 : Int32)), .val (.int (0 : Int32)), .unset] [(.ref o)])) _
    refine XS.aloadN X1.here hx rfl (hb hby d1_5) rfl rfl ?_
    show Steps p.tables e below (T1.setTop (mkF m 6 #[.val (.ref o), .val (.ref pg), .val (.int (0 : Int32)), .val (.int (0 : Int32)), .unset] [(.ref pg), (.ref o)])) _
    refine st2 _ ?_
    show Steps p.tables e below (T2.setTop (mkF m 9 #[.val (.ref o), .val (.ref pg), .val (.int (0 : Int32)), .val (.int (0 : Int32)), .unset] [])) _
    refine XS.aloadN X2.here hx rfl (hb hby d1_9) rfl rfl ?_
    show Steps p.tables e below (T2.setTop (mkF m 10 #[.val (.ref o), .val (.ref pg), .val (.int (0 : Int32)), .val (.int (0 : Int32)), .unset] [(.ref o)])) _
    refine XS.iloadN X2.here hx rfl (hb hby d1_10) rfl ?_
    show Steps p.tables e below (T2.setTop (mkF m 11 #[.val (.ref o), .val (.ref pg), .val (.int (0 : Int32)), .val (.int (0 : Int32)), .unset] [(.int (0 : Int32)), (.ref o)])) _
    refine st3 _ ?_
    show Steps p.tables e below (T3.setTop (mkF m 14 #[.val (.ref o), .val (.ref pg), .val (.int (0 : Int32)), .val (.int (0 : Int32)), .unset] [])) _
    refine XS.bipush X3.here hx rfl (hb hby d1_14) ?_
    show Steps p.tables e below (T3.setTop (mkF m 16 #[.val (.ref o), .val (.ref pg), .val (.int (0 : Int32)), .val (.int (0 : Int32)), .unset] [(.int (64 : Int32))])) _
    refine XS.iloadN X3.here hx rfl (hb hby d1_16) rfl ?_
    show Steps p.tables e below (T3.setTop (mkF m 17 #[.val (.ref o), .val (.ref pg), .val (.int (0 : Int32)), .val (.int (0 : Int32)), .unset] [(.int (0 : Int32)), (.int (64 : Int32))])) _
    refine XS.bipush X3.here hx rfl (hb hby d1_17) ?_
    show Steps p.tables e below (T3.setTop (mkF m 19 #[.val (.ref o), .val (.ref pg), .val (.int (0 : Int32)), .val (.int (0 : Int32)), .unset] [(.int (64 : Int32)), (.int (0 : Int32)), (.int (64 : Int32))])) _
    refine XS.idiv X3.here hx rfl (hb hby d1_19) rfl (by decide) ?_
    show Steps p.tables e below (T3.setTop (mkF m 20 #[.val (.ref o), .val (.ref pg), .val (.int (0 : Int32)), .val (.int (0 : Int32)), .unset] [(.int ((0 : Int32) / (64 : Int32))), (.int (64 : Int32))])) _
    refine st4 _ ?_
    show Steps p.tables e below (T4.setTop (mkF m 23 #[.val (.ref o), .val (.ref pg), .val (.int (0 : Int32)), .val (.int (0 : Int32)), .unset] [(.int (64 : Int32))])) _
    refine XS.istore X4.here hx rfl (hb hby d1_23) rfl (l' := #[.val (.ref o), .val (.ref pg), .val (.int (0 : Int32)), .val (.int (0 : Int32)), .val (.int (64 : Int32))]) rfl ?_
    show Steps p.tables e below (T4.setTop (mkF m 25 #[.val (.ref o), .val (.ref pg), .val (.int (0 : Int32)), .val (.int (0 : Int32)), .val (.int (64 : Int32))] [])) _
    refine XS.aloadN X4.here hx rfl (hb hby d1_25) rfl rfl ?_
    show Steps p.tables e below (T4.setTop (mkF m 26 #[.val (.ref o), .val (.ref pg), .val (.int (0 : Int32)), .val (.int (0 : Int32)), .val (.int (64 : Int32))] [(.ref o)])) _
    refine XS.iload X4.here hx rfl (hb hby d1_26) rfl ?_
    show Steps p.tables e below (T4.setTop (mkF m 28 #[.val (.ref o), .val (.ref pg), .val (.int (0 : Int32)), .val (.int (0 : Int32)), .val (.int (64 : Int32))] [(.int (64 : Int32)), (.ref o)])) _
    refine st5 _ ?_
    show Steps p.tables e below (T5.setTop (mkF m 30 #[.val (.ref o), .val (.ref pg), .val (.int (0 : Int32)), .val (.int (0 : Int32)), .val (.int (64 : Int32))] [(.ref b5), (.ref o)])) _
    refine st6 _ ?_
    show Steps p.tables e below (T6.setTop (mkF m 33 #[.val (.ref o), .val (.ref pg), .val (.int (0 : Int32)), .val (.int (0 : Int32)), .val (.int (64 : Int32))] [])) _
    refine XS.aloadN X6.here hx rfl (hb hby d1_33) rfl rfl ?_
    show Steps p.tables e below (T6.setTop (mkF m 34 #[.val (.ref o), .val (.ref pg), .val (.int (0 : Int32)), .val (.int (0 : Int32)), .val (.int (64 : Int32))] [(.ref o)])) _
    refine XS.iload X6.here hx rfl (hb hby d1_34) rfl ?_
    show Steps p.tables e below (T6.setTop (mkF m 36 #[.val (.ref o), .val (.ref pg), .val (.int (0 : Int32)), .val (.int (0 : Int32)), .val (.int (64 : Int32))] [(.int (64 : Int32)), (.ref o)])) _
    refine st7 _ ?_
    show Steps p.tables e below (T7.setTop (mkF m 38 #[.val (.ref o), .val (.ref pg), .val (.int (0 : Int32)), .val (.int (0 : Int32)), .val (.int (64 : Int32))] [(.ref b7), (.ref o)])) _
    refine st8 _ ?_
    show Steps p.tables e below (T8.setTop (mkF m 41 #[.val (.ref o), .val (.ref pg), .val (.int (0 : Int32)), .val (.int (0 : Int32)), .val (.int (64 : Int32))] [])) _
    refine XS.aloadN X8.here hx rfl (hb hby d1_41) rfl rfl ?_
    show Steps p.tables e below (T8.setTop (mkF m 42 #[.val (.ref o), .val (.ref pg), .val (.int (0 : Int32)), .val (.int (0 : Int32)), .val (.int (64 : Int32))] [(.ref o)])) _
    refine XS.iload X8.here hx rfl (hb hby d1_42) rfl ?_
    show Steps p.tables e below (T8.setTop (mkF m 44 #[.val (.ref o), .val (.ref pg), .val (.int (0 : Int32)), .val (.int (0 : Int32)), .val (.int (64 : Int32))] [(.int (64 : Int32)), (.ref o)])) _
    refine st9 _ ?_
    show Steps p.tables e below (T9.setTop (mkF m 46 #[.val (.ref o), .val (.ref pg), .val (.int (0 : Int32)), .val (.int (0 : Int32)), .val (.int (64 : Int32))] [(.ref b9), (.ref o)])) _
    refine st10 _ ?_
    show Steps p.tables e below (T10.setTop (mkF m 49 #[.val (.ref o), .val (.ref pg), .val (.int (0 : Int32)), .val (.int (0 : Int32)), .val (.int (64 : Int32))] [])) _
    refine XS.aloadN X10.here hx rfl (hb hby d1_49) rfl rfl ?_
    show Steps p.tables e below (T10.setTop (mkF m 50 #[.val (.ref o), .val (.ref pg), .val (.int (0 : Int32)), .val (.int (0 : Int32)), .val (.int (64 : Int32))] [(.ref o)])) _
    refine XS.iload X10.here hx rfl (hb hby d1_50) rfl ?_
    show Steps p.tables e below (T10.setTop (mkF m 52 #[.val (.ref o), .val (.ref pg), .val (.int (0 : Int32)), .val (.int (0 : Int32)), .val (.int (64 : Int32))] [(.int (64 : Int32)), (.ref o)])) _
    refine st11 _ ?_
    show Steps p.tables e below (T11.setTop (mkF m 54 #[.val (.ref o), .val (.ref pg), .val (.int (0 : Int32)), .val (.int (0 : Int32)), .val (.int (64 : Int32))] [(.ref b11), (.ref o)])) _
    refine st12 _ ?_
    show Steps p.tables e below (T12.setTop (mkF m 57 #[.val (.ref o), .val (.ref pg), .val (.int (0 : Int32)), .val (.int (0 : Int32)), .val (.int (64 : Int32))] [])) _
    refine XS.aloadN X12.here hx rfl (hb hby d1_57) rfl rfl ?_
    show Steps p.tables e below (T12.setTop (mkF m 58 #[.val (.ref o), .val (.ref pg), .val (.int (0 : Int32)), .val (.int (0 : Int32)), .val (.int (64 : Int32))] [(.ref o)])) _
    refine XS.iload X12.here hx rfl (hb hby d1_58) rfl ?_
    show Steps p.tables e below (T12.setTop (mkF m 60 #[.val (.ref o), .val (.ref pg), .val (.int (0 : Int32)), .val (.int (0 : Int32)), .val (.int (64 : Int32))] [(.int (64 : Int32)), (.ref o)])) _
    refine st13 _ ?_
    show Steps p.tables e below (T13.setTop (mkF m 62 #[.val (.ref o), .val (.ref pg), .val (.int (0 : Int32)), .val (.int (0 : Int32)), .val (.int (64 : Int32))] [(.ref b13), (.ref o)])) _
    refine st14 _ ?_
    show Steps p.tables e below (T14.setTop (mkF m 65 #[.val (.ref o), .val (.ref pg), .val (.int (0 : Int32)), .val (.int (0 : Int32)), .val (.int (64 : Int32))] [])) _
    refine XS.aloadN X14.here hx rfl (hb hby d1_65) rfl rfl ?_
    show Steps p.tables e below (T14.setTop (mkF m 66 #[.val (.ref o), .val (.ref pg), .val (.int (0 : Int32)), .val (.int (0 : Int32)), .val (.int (64 : Int32))] [(.ref o)])) _
    refine XS.iload X14.here hx rfl (hb hby d1_66) rfl ?_
    show Steps p.tables e below (T14.setTop (mkF m 68 #[.val (.ref o), .val (.ref pg), .val (.int (0 : Int32)), .val (.int (0 : Int32)), .val (.int (64 : Int32))] [(.int (64 : Int32)), (.ref o)])) _
    refine st15 _ ?_
    show Steps p.tables e below (T15.setTop (mkF m 70 #[.val (.ref o), .val (.ref pg), .val (.int (0 : Int32)), .val (.int (0 : Int32)), .val (.int (64 : Int32))] [(.ref b15), (.ref o)])) _
    refine st16 _ ?_
    show Steps p.tables e below (T16.setTop (mkF m 73 #[.val (.ref o), .val (.ref pg), .val (.int (0 : Int32)), .val (.int (0 : Int32)), .val (.int (64 : Int32))] [])) _
    refine XS.aloadN X16.here hx rfl (hb hby d1_73) rfl rfl ?_
    show Steps p.tables e below (T16.setTop (mkF m 74 #[.val (.ref o), .val (.ref pg), .val (.int (0 : Int32)), .val (.int (0 : Int32)), .val (.int (64 : Int32))] [(.ref o)])) _
    refine XS.iload X16.here hx rfl (hb hby d1_74) rfl ?_
    show Steps p.tables e below (T16.setTop (mkF m 76 #[.val (.ref o), .val (.ref pg), .val (.int (0 : Int32)), .val (.int (0 : Int32)), .val (.int (64 : Int32))] [(.int (64 : Int32)), (.ref o)])) _
    refine st17 _ ?_
    show Steps p.tables e below (T17.setTop (mkF m 78 #[.val (.ref o), .val (.ref pg), .val (.int (0 : Int32)), .val (.int (0 : Int32)), .val (.int (64 : Int32))] [(.ref b17), (.ref o)])) _
    refine st18 _ ?_
    show Steps p.tables e below (T18.setTop (mkF m 81 #[.val (.ref o), .val (.ref pg), .val (.int (0 : Int32)), .val (.int (0 : Int32)), .val (.int (64 : Int32))] [])) _
    refine XS.aloadN X18.here hx rfl (hb hby d1_81) rfl rfl ?_
    show Steps p.tables e below (T18.setTop (mkF m 82 #[.val (.ref o), .val (.ref pg), .val (.int (0 : Int32)), .val (.int (0 : Int32)), .val (.int (64 : Int32))] [(.ref o)])) _
    refine XS.iload X18.here hx rfl (hb hby d1_82) rfl ?_
    show Steps p.tables e below (T18.setTop (mkF m 84 #[.val (.ref o), .val (.ref pg), .val (.int (0 : Int32)), .val (.int (0 : Int32)), .val (.int (64 : Int32))] [(.int (64 : Int32)), (.ref o)])) _
    refine st19 _ ?_
    show Steps p.tables e below (T19.setTop (mkF m 86 #[.val (.ref o), .val (.ref pg), .val (.int (0 : Int32)), .val (.int (0 : Int32)), .val (.int (64 : Int32))] [(.ref b19), (.ref o)])) _
    refine st20 _ ?_
    show Steps p.tables e below (T20.setTop (mkF m 89 #[.val (.ref o), .val (.ref pg), .val (.int (0 : Int32)), .val (.int (0 : Int32)), .val (.int (64 : Int32))] [])) _
    refine XS.aloadN X20.here hx rfl (hb hby d1_89) rfl rfl ?_
    show Steps p.tables e below (T20.setTop (mkF m 90 #[.val (.ref o), .val (.ref pg), .val (.int (0 : Int32)), .val (.int (0 : Int32)), .val (.int (64 : Int32))] [(.ref o)])) _
    refine XS.iload X20.here hx rfl (hb hby d1_90) rfl ?_
    show Steps p.tables e below (T20.setTop (mkF m 92 #[.val (.ref o), .val (.ref pg), .val (.int (0 : Int32)), .val (.int (0 : Int32)), .val (.int (64 : Int32))] [(.int (64 : Int32)), (.ref o)])) _
    refine st21 _ ?_
    show Steps p.tables e below (T21.setTop (mkF m 94 #[.val (.ref o), .val (.ref pg), .val (.int (0 : Int32)), .val (.int (0 : Int32)), .val (.int (64 : Int32))] [(.ref b21), (.ref o)])) _
    refine st22 _ ?_
    show Steps p.tables e below (T22.setTop (mkF m 97 #[.val (.ref o), .val (.ref pg), .val (.int (0 : Int32)), .val (.int (0 : Int32)), .val (.int (64 : Int32))] [])) _
    refine XS.aloadN X22.here hx rfl (hb hby d1_97) rfl rfl ?_
    show Steps p.tables e below (T22.setTop (mkF m 98 #[.val (.ref o), .val (.ref pg), .val (.int (0 : Int32)), .val (.int (0 : Int32)), .val (.int (64 : Int32))] [(.ref o)])) _
    refine XS.bipush X22.here hx rfl (hb hby d1_98) ?_
    show Steps p.tables e below (T22.setTop (mkF m 100 #[.val (.ref o), .val (.ref pg), .val (.int (0 : Int32)), .val (.int (0 : Int32)), .val (.int (64 : Int32))] [(.int (64 : Int32)), (.ref o)])) _
    refine st23 _ ?_
    show Steps p.tables e below (T23.setTop (mkF m 102 #[.val (.ref o), .val (.ref pg), .val (.int (0 : Int32)), .val (.int (0 : Int32)), .val (.int (64 : Int32))] [(.ref b23), (.ref o)])) _
    refine st24 _ ?_
    show Steps p.tables e below (T24.setTop (mkF m 105 #[.val (.ref o), .val (.ref pg), .val (.int (0 : Int32)), .val (.int (0 : Int32)), .val (.int (64 : Int32))] [])) _
    refine XS.aloadN X24.here hx rfl (hb hby d1_105) rfl rfl ?_
    show Steps p.tables e below (T24.setTop (mkF m 106 #[.val (.ref o), .val (.ref pg), .val (.int (0 : Int32)), .val (.int (0 : Int32)), .val (.int (64 : Int32))] [(.ref o)])) _
    refine XS.bipush X24.here hx rfl (hb hby d1_106) ?_
    show Steps p.tables e below (T24.setTop (mkF m 108 #[.val (.ref o), .val (.ref pg), .val (.int (0 : Int32)), .val (.int (0 : Int32)), .val (.int (64 : Int32))] [(.int (-2 : Int32)), (.ref o)])) _
    refine XS.iconst X24.here hx rfl (hb hby d1_108) ?_
    show Steps p.tables e below (T24.setTop (mkF m 109 #[.val (.ref o), .val (.ref pg), .val (.int (0 : Int32)), .val (.int (0 : Int32)), .val (.int (64 : Int32))] [(.int (0 : Int32)), (.int (-2 : Int32)), (.ref o)])) _
    refine st25.trans ?_
    show Steps p.tables e below (T25.setTop (mkF m 112 #[.val (.ref o), .val (.ref pg), .val (.int (0 : Int32)), .val (.int (0 : Int32)), .val (.int (64 : Int32))] [(.int (0 : Int32))])) _
    refine XS.pop X25.here hx rfl (hb hby d1_112) rfl rfl ?_
    exact kt
  obtain ⟨fs, hr, hrun, hended, hW, hsame⟩ := X25.leave (v := none) (fun _ => rfl)
  refine ⟨_, _, pre26 _ ?_, hrun, hended, _, _, rfl, ?_, ⟨_, rfl⟩, hW, hsame.mono (by decide) (by decide)⟩
  · exact X25.returnOut hx Bd.returns (hb hby d1_113) hr
  · show QrmI Z o pg vals h0 n0 _ T25.heap _
    exact ⟨rfl, Nx25, KK, (own_ad b7 b9 b11 b13 b15), (own_ad k7 k9 k11 k13 k15), b5, b21, H25, B25⟩
theorem own_i4 {cl : Cell} (S : cl.slots.size = (4 : Int32).toNatClampNeg) : cl.slots.size = 4 := S
theorem own_at4 {cl : Cell} {l : List Int32} (S : cl.slots.size = (4 : Int32).toNatClampNeg) (Ha : Has cl (l.map Value.int) (.int (0 : Int32))) {x : Int32} {k : Nat} (hk : x.toNatClampNeg = k) (h4 : k < 4) : cl.slots[x.toNatClampNeg]? = some (.int (l.getD k 0)) := by
  rw [hk, Ha k (by rw [own_i4 S]; exact h4), own_map_getD]
def QrmR (Z : State) (la : Addr) (ka : ClassId) (l1 : List Int32) (r1 : Int32) (h0 : Heap) (n0 : Nat) (v : Option Value) (h : Heap) (L : List Loc) : Prop := ∃ (a : Addr) (k : ClassId), v = some (.ref a) ∧ Fr n0 L ∧ h0.size ≤ a ∧ Keep h0 h [] ∧ Arv Z h a k .int 4 ((own_rem l1 r1).map Value.int) (.int (0 : Int32))
theorem ef_rmR (m : MethodId) (x0 : Addr) (x1 : Int32) : entryFrame m #[(.ref x0), (.int x1)] 2 = mkF m 0 #[.val (.ref x0), .val (.int x1)] [] := by first | (simp [entryFrame, mkF, argsToLocals, Value.category]; done) | rfl
theorem pn_rmR : plainName "com/example/pith/pith/html/PageTreeDetachPinLaw" = true := by first | (simp [plainName, overriddenIn]; done) | decide +kernel
set_option maxRecDepth 65536 in
set_option maxHeartbeats 40000000 in
theorem rmR (l : Launch) (Z : State) (a0 : Array Value) (hw : ∀ d ∈ tables_1, d.before a0 Z = true) (ws : List Jvm.Cond) (la : Addr) (ka : ClassId) (l1 : List Int32) (r1 : Int32) (h0 : Heap) (n0 : Nat) (Z0 : n0 ≤ h0.size) (V0 : Arv Z h0 la ka .int 4 (l1.map Value.int) (.int (0 : Int32))) :
    MetFree l (⟨"com/example/pith/pith/html/PageTreeDetachPinLaw", "removeAt", "([II)[I"⟩ : MethodName) (head1 (Jvm.Cond.code (⟨"com/example/pith/pith/html/PageTreeDetachPinLaw", "removeAt", "([II)[I"⟩ : MethodName) method_3_code 2 (some (.array .int)) :: ws) ({ frames := 0, cells := 1, slots := 4, locals := 0 } : Room)) (fun a U => a = #[(.ref la), (.int r1)] ∧ Z.Warmed39 U.vm ∧ U.heap = h0) (fun _ _ _ _ _ => True) (fun _ U oc U' => ∃ v L, oc = .returned v ∧ QrmR Z la ka l1 r1 h0 n0 v U'.heap L ∧ FrameEnd U oc U' L ({ frames := 0, cells := 1, slots := 4, locals := 0 } : Room).cells ({ frames := 0, cells := 1, slots := 4, locals := 0 } : Room).slots) := by
  refine MetFree.of_bodySF (plainFor_of_name pn_rmR) hisR ?_
  intro p e s m args below meth c s₁ Bd hml0 hP hK
  obtain ⟨rfl, hZ, hh⟩ := hP
  have hx := Bd.exec
  have hby := Bd.bytes
  have hml : c.maxLocals = 2 := hml0
  have hown : s.vm.findClass "com/example/pith/pith/html/PageTreeDetachPinLaw" = some m.cls := findClass_of_methodNamed Bd.named
  have hnm := (name_of_methodNamed Bd.named Bd.method).1
  have X0 : Stand p l e ({ frames := 0, cells := 1, slots := 4, locals := 0 } : Room) s m #[(.ref la), (.int r1)] below meth c s₁ [] 0 0 := Stand.of_body Bd
  have e0 : s₁.heap = h0 := by rw [← hh, Bd.state]; rfl
  have N0 := Fr.nil n0
  have pre0 : ∀ tt, Steps p.tables e below (s₁.setTop (mkF m 0 #[.val (.ref la), .val (.int r1)] [])) tt → Steps p.tables e below (s₁.setTop (entryFrame m #[(.ref la), (.int r1)] 2)) tt := fun tt kt => castTop (ef_rmR m la r1) kt
  obtain ⟨cl, Ar, -, Sz, Mz, Hz, -⟩ := V0
  obtain ⟨T1, h1, k1, X1, e1, E1, A1, st1⟩ := newP X0 hx hZ (hw _ (List.mem_of_getElem? (i := 18) rfl)) e0 (g := (mkF m 1 #[.val (.ref la), .val (.int r1)] [(.int (4 : Int32))])) rfl (hb hby d13_1) rfl (by decide) (cap := 4) (by decide) (by decide) (by decide) (by decide)
  obtain ⟨b1, g1⟩ : ∃ z, z = h0.size := ⟨_, rfl⟩
  rw [← g1] at A1 st1
  have V1 := Arv.new A1 (by decide)
  obtain ⟨Lx1, X1, Nx1⟩ : ∃ L, Stand p l e ({ frames := 0, cells := 1, slots := 4, locals := 0 } : Room) s m #[(.ref la), (.int r1)] below meth c T1 L 1 4 ∧ Fr n0 L := ⟨_, X1.more (by decide) (by decide), N0⟩
  have g_b1 : n0 ≤ b1 := Nat.le_trans Z0 (Nat.le_of_eq g1.symm)
  have sz_b1 : h0.size ≤ b1 := Nat.le_of_eq g1.symm
  have ne : la ≠ b1 := Nat.ne_of_lt (Nat.lt_of_lt_of_le Ar.lt sz_b1)
  have K1 : Keep h0 h1 [] := (Keep.refl h0 []).ext E1
  have Ar1 := Arr.ext E1 Ar
  have V1_0 : Arv Z h1 b1 k1 .int 4 [(.int (0 : Int32)), (.int (0 : Int32)), (.int (0 : Int32)), (.int (0 : Int32))] (.int (0 : Int32)) := V1.pad (pad_rep [] (.int (0 : Int32)) 4)
  have pre2 : ∀ tt, Steps p.tables e below (T1.setTop (mkF m 19 #[.val (.ref la), .val (.int r1)] [(.int (if (0 : Int32) < r1 then l1.getD 0 0 else l1.getD 1 0)), (.int (0 : Int32)), (.ref b1), (.ref b1)])) tt → Steps p.tables e below (s₁.setTop (entryFrame m #[(.ref la), (.int r1)] 2)) tt := by
    intro tt kt
    refine pre0 tt ?_
    show Steps p.tables e below (s₁.setTop (mkF m 0 #[.val (.ref la), .val (.int r1)] [])) _
    refine XS.iconst X0.here hx rfl (hb hby d13_0) ?_
    show Steps p.tables e below (s₁.setTop (mkF m 1 #[.val (.ref la), .val (.int r1)] [(.int (4 : Int32))])) _
    refine st1 _ ?_
    show Steps p.tables e below (T1.setTop (mkF m 3 #[.val (.ref la), .val (.int r1)] [(.ref b1)])) _
    refine XS.dup X1.here hx rfl (hb hby d13_3) rfl rfl ?_
    show Steps p.tables e below (T1.setTop (mkF m 4 #[.val (.ref la), .val (.int r1)] [(.ref b1), (.ref b1)])) _
    refine XS.iconst X1.here hx rfl (hb hby d13_4) ?_
    show Steps p.tables e below (T1.setTop (mkF m 5 #[.val (.ref la), .val (.int r1)] [(.int (0 : Int32)), (.ref b1), (.ref b1)])) _
    refine XS.iconst X1.here hx rfl (hb hby d13_5) ?_
    show Steps p.tables e below (T1.setTop (mkF m 6 #[.val (.ref la), .val (.int r1)] [(.int (0 : Int32)), (.int (0 : Int32)), (.ref b1), (.ref b1)])) _
    refine XS.iloadN X1.here hx rfl (hb hby d13_6) rfl ?_
    by_cases c : (0 : Int32) < r1
    · rw [if_pos c] at kt
      show Steps p.tables e below (T1.setTop (mkF m 7 #[.val (.ref la), .val (.int r1)] [(.int r1), (.int (0 : Int32)), (.int (0 : Int32)), (.ref b1), (.ref b1)])) _
      refine XS.icmpNo X1.here hx rfl (hb hby d13_7) rfl (tlt c).2.1 ?_
      show Steps p.tables e below (T1.setTop (mkF m 10 #[.val (.ref la), .val (.int r1)] [(.int (0 : Int32)), (.ref b1), (.ref b1)])) _
      refine XS.aloadN X1.here hx rfl (hb hby d13_10) rfl rfl ?_
      show Steps p.tables e below (T1.setTop (mkF m 11 #[.val (.ref la), .val (.int r1)] [(.ref la), (.int (0 : Int32)), (.ref b1), (.ref b1)])) _
      refine XS.iconst X1.here hx rfl (hb hby d13_11) ?_
      show Steps p.tables e below (T1.setTop (mkF m 12 #[.val (.ref la), .val (.int r1)] [(.int (0 : Int32)), (.ref la), (.int (0 : Int32)), (.ref b1), (.ref b1)])) _
      refine X1.iaload hx (j := (0 : Int32)) (v := (.int (l1.getD 0 0))) (by rw [e1]; exact Ar1.1) (State.isArrayOf_alike hZ.alike Ar1.2.1) Ar1.2.2 (inb_of Sz ⟨by decide, by decide⟩) (own_at4 Sz Hz (k := 0) rfl (by decide)) (g := (mkF m 12 #[.val (.ref la), .val (.int r1)] [(.int (0 : Int32)), (.ref la), (.int (0 : Int32)), (.ref b1), (.ref b1)])) rfl rfl (hb hby d13_12) _ ?_
      show Steps p.tables e below (T1.setTop (mkF m 13 #[.val (.ref la), .val (.int r1)] [(.int (l1.getD 0 0)), (.int (0 : Int32)), (.ref b1), (.ref b1)])) _
      refine XS.goto X1.here hx rfl (pc0 := 13) (pc' := 19) rfl (hb hby d13_13) (by decide) (by decide) ?_
      exact kt
    · rw [if_neg c] at kt
      show Steps p.tables e below (T1.setTop (mkF m 7 #[.val (.ref la), .val (.int r1)] [(.int r1), (.int (0 : Int32)), (.int (0 : Int32)), (.ref b1), (.ref b1)])) _
      refine XS.icmpYes X1.here hx rfl (pc0 := 7) (pc' := 16) rfl (hb hby d13_7) rfl (flt c).2.1 (by decide) (by decide) ?_
      show Steps p.tables e below (T1.setTop (mkF m 16 #[.val (.ref la), .val (.int r1)] [(.int (0 : Int32)), (.ref b1), (.ref b1)])) _
      refine XS.aloadN X1.here hx rfl (hb hby d13_16) rfl rfl ?_
      show Steps p.tables e below (T1.setTop (mkF m 17 #[.val (.ref la), .val (.int r1)] [(.ref la), (.int (0 : Int32)), (.ref b1), (.ref b1)])) _
      refine XS.iconst X1.here hx rfl (hb hby d13_17) ?_
      show Steps p.tables e below (T1.setTop (mkF m 18 #[.val (.ref la), .val (.int r1)] [(.int (1 : Int32)), (.ref la), (.int (0 : Int32)), (.ref b1), (.ref b1)])) _
      refine X1.iaload hx (j := (1 : Int32)) (v := (.int (l1.getD 1 0))) (by rw [e1]; exact Ar1.1) (State.isArrayOf_alike hZ.alike Ar1.2.1) Ar1.2.2 (inb_of Sz ⟨by decide, by decide⟩) (own_at4 Sz Hz (k := 1) rfl (by decide)) (g := (mkF m 18 #[.val (.ref la), .val (.int r1)] [(.int (1 : Int32)), (.ref la), (.int (0 : Int32)), (.ref b1), (.ref b1)])) rfl rfl (hb hby d13_18) _ ?_
      exact kt
  obtain ⟨c1_0, A1_0, q1_0, S1_0, M1_0, H1_0, G1_0⟩ := V1_0
  obtain ⟨T3, h3, X3, e3, W3, st3⟩ := stI X1 hx hZ e1 A1_0 (j := (0 : Int32)) (inb_of S1_0 ⟨by decide, by decide⟩) (g := (mkF m 19 #[.val (.ref la), .val (.int r1)] [(.int (if (0 : Int32) < r1 then l1.getD 0 0 else l1.getD 1 0)), (.int (0 : Int32)), (.ref b1), (.ref b1)])) rfl rfl (hb hby d13_19)
  have N3 := Fr.snoc X3 Nx1 g_b1
  obtain ⟨Lx3, X3, Nx3⟩ : ∃ L, Stand p l e ({ frames := 0, cells := 1, slots := 4, locals := 0 } : Room) s m #[(.ref la), (.int r1)] below meth c T3 L 1 4 ∧ Fr n0 L := ⟨_, X3.more (by decide) (by decide), N3⟩
  have V1_1 : Arv Z h3 b1 k1 .int 4 [(.int (if (0 : Int32) < r1 then l1.getD 0 0 else l1.getD 1 0)), (.int (0 : Int32)), (.int (0 : Int32)), (.int (0 : Int32))] (.int (0 : Int32)) := Arv.set A1_0 q1_0 S1_0 M1_0 H1_0 G1_0 rfl W3 0 rfl (Nat.le_of_ble_eq_true rfl)
  have K3 : Keep h0 h3 [] := K1.wr W3 (Or.inr sz_b1)
  have Ar3 := Arr.other W3 Ar1 ne
  have pre4 : ∀ tt, Steps p.tables e below (T3.setTop (mkF m 36 #[.val (.ref la), .val (.int r1)] [(.int (if (1 : Int32) < r1 then l1.getD 1 0 else l1.getD 2 0)), (.int (1 : Int32)), (.ref b1), (.ref b1)])) tt → Steps p.tables e below (s₁.setTop (entryFrame m #[(.ref la), (.int r1)] 2)) tt := by
    intro tt kt
    refine pre2 tt ?_
    show Steps p.tables e below (T1.setTop (mkF m 19 #[.val (.ref la), .val (.int r1)] [(.int (if (0 : Int32) < r1 then l1.getD 0 0 else l1.getD 1 0)), (.int (0 : Int32)), (.ref b1), (.ref b1)])) _
    refine st3 _ ?_
    show Steps p.tables e below (T3.setTop (mkF m 20 #[.val (.ref la), .val (.int r1)] [(.ref b1)])) _
    refine XS.dup X3.here hx rfl (hb hby d13_20) rfl rfl ?_
    show Steps p.tables e below (T3.setTop (mkF m 21 #[.val (.ref la), .val (.int r1)] [(.ref b1), (.ref b1)])) _
    refine XS.iconst X3.here hx rfl (hb hby d13_21) ?_
    show Steps p.tables e below (T3.setTop (mkF m 22 #[.val (.ref la), .val (.int r1)] [(.int (1 : Int32)), (.ref b1), (.ref b1)])) _
    refine XS.iconst X3.here hx rfl (hb hby d13_22) ?_
    show Steps p.tables e below (T3.setTop (mkF m 23 #[.val (.ref la), .val (.int r1)] [(.int (1 : Int32)), (.int (1 : Int32)), (.ref b1), (.ref b1)])) _
    refine XS.iloadN X3.here hx rfl (hb hby d13_23) rfl ?_
    by_cases c : (1 : Int32) < r1
    · rw [if_pos c] at kt
      show Steps p.tables e below (T3.setTop (mkF m 24 #[.val (.ref la), .val (.int r1)] [(.int r1), (.int (1 : Int32)), (.int (1 : Int32)), (.ref b1), (.ref b1)])) _
      refine XS.icmpNo X3.here hx rfl (hb hby d13_24) rfl (tlt c).2.1 ?_
      show Steps p.tables e below (T3.setTop (mkF m 27 #[.val (.ref la), .val (.int r1)] [(.int (1 : Int32)), (.ref b1), (.ref b1)])) _
      refine XS.aloadN X3.here hx rfl (hb hby d13_27) rfl rfl ?_
      show Steps p.tables e below (T3.setTop (mkF m 28 #[.val (.ref la), .val (.int r1)] [(.ref la), (.int (1 : Int32)), (.ref b1), (.ref b1)])) _
      refine XS.iconst X3.here hx rfl (hb hby d13_28) ?_
      show Steps p.tables e below (T3.setTop (mkF m 29 #[.val (.ref la), .val (.int r1)] [(.int (1 : Int32)), (.ref la), (.int (1 : Int32)), (.ref b1), (.ref b1)])) _
      refine X3.iaload hx (j := (1 : Int32)) (v := (.int (l1.getD 1 0))) (by rw [e3]; exact Ar3.1) (State.isArrayOf_alike hZ.alike Ar3.2.1) Ar3.2.2 (inb_of Sz ⟨by decide, by decide⟩) (own_at4 Sz Hz (k := 1) rfl (by decide)) (g := (mkF m 29 #[.val (.ref la), .val (.int r1)] [(.int (1 : Int32)), (.ref la), (.int (1 : Int32)), (.ref b1), (.ref b1)])) rfl rfl (hb hby d13_29) _ ?_
      show Steps p.tables e below (T3.setTop (mkF m 30 #[.val (.ref la), .val (.int r1)] [(.int (l1.getD 1 0)), (.int (1 : Int32)), (.ref b1), (.ref b1)])) _
      refine XS.goto X3.here hx rfl (pc0 := 30) (pc' := 36) rfl (hb hby d13_30) (by decide) (by decide) ?_
      exact kt
    · rw [if_neg c] at kt
      show Steps p.tables e below (T3.setTop (mkF m 24 #[.val (.ref la), .val (.int r1)] [(.int r1), (.int (1 : Int32)), (.int (1 : Int32)), (.ref b1), (.ref b1)])) _
      refine XS.icmpYes X3.here hx rfl (pc0 := 24) (pc' := 33) rfl (hb hby d13_24) rfl (flt c).2.1 (by decide) (by decide) ?_
      show Steps p.tables e below (T3.setTop (mkF m 33 #[.val (.ref la), .val (.int r1)] [(.int (1 : Int32)), (.ref b1), (.ref b1)])) _
      refine XS.aloadN X3.here hx rfl (hb hby d13_33) rfl rfl ?_
      show Steps p.tables e below (T3.setTop (mkF m 34 #[.val (.ref la), .val (.int r1)] [(.ref la), (.int (1 : Int32)), (.ref b1), (.ref b1)])) _
      refine XS.iconst X3.here hx rfl (hb hby d13_34) ?_
      show Steps p.tables e below (T3.setTop (mkF m 35 #[.val (.ref la), .val (.int r1)] [(.int (2 : Int32)), (.ref la), (.int (1 : Int32)), (.ref b1), (.ref b1)])) _
      refine X3.iaload hx (j := (2 : Int32)) (v := (.int (l1.getD 2 0))) (by rw [e3]; exact Ar3.1) (State.isArrayOf_alike hZ.alike Ar3.2.1) Ar3.2.2 (inb_of Sz ⟨by decide, by decide⟩) (own_at4 Sz Hz (k := 2) rfl (by decide)) (g := (mkF m 35 #[.val (.ref la), .val (.int r1)] [(.int (2 : Int32)), (.ref la), (.int (1 : Int32)), (.ref b1), (.ref b1)])) rfl rfl (hb hby d13_35) _ ?_
      exact kt
  obtain ⟨c1_1, A1_1, q1_1, S1_1, M1_1, H1_1, G1_1⟩ := V1_1
  obtain ⟨T5, h5, X5, e5, W5, st5⟩ := stI X3 hx hZ e3 A1_1 (j := (1 : Int32)) (inb_of S1_1 ⟨by decide, by decide⟩) (g := (mkF m 36 #[.val (.ref la), .val (.int r1)] [(.int (if (1 : Int32) < r1 then l1.getD 1 0 else l1.getD 2 0)), (.int (1 : Int32)), (.ref b1), (.ref b1)])) rfl rfl (hb hby d13_36)
  have N5 := Fr.snoc X5 Nx3 g_b1
  obtain ⟨Lx5, X5, Nx5⟩ : ∃ L, Stand p l e ({ frames := 0, cells := 1, slots := 4, locals := 0 } : Room) s m #[(.ref la), (.int r1)] below meth c T5 L 1 4 ∧ Fr n0 L := ⟨_, X5.more (by decide) (by decide), N5⟩
  have V1_2 : Arv Z h5 b1 k1 .int 4 [(.int (if (0 : Int32) < r1 then l1.getD 0 0 else l1.getD 1 0)), (.int (if (1 : Int32) < r1 then l1.getD 1 0 else l1.getD 2 0)), (.int (0 : Int32)), (.int (0 : Int32))] (.int (0 : Int32)) := Arv.set A1_1 q1_1 S1_1 M1_1 H1_1 G1_1 rfl W5 1 rfl (Nat.le_of_ble_eq_true rfl)
  have K5 : Keep h0 h5 [] := K3.wr W5 (Or.inr sz_b1)
  have Ar5 := Arr.other W5 Ar3 ne
  have pre6 : ∀ tt, Steps p.tables e below (T5.setTop (mkF m 53 #[.val (.ref la), .val (.int r1)] [(.int (if (2 : Int32) < r1 then l1.getD 2 0 else l1.getD 3 0)), (.int (2 : Int32)), (.ref b1), (.ref b1)])) tt → Steps p.tables e below (s₁.setTop (entryFrame m #[(.ref la), (.int r1)] 2)) tt := by
    intro tt kt
    refine pre4 tt ?_
    show Steps p.tables e below (T3.setTop (mkF m 36 #[.val (.ref la), .val (.int r1)] [(.int (if (1 : Int32) < r1 then l1.getD 1 0 else l1.getD 2 0)), (.int (1 : Int32)), (.ref b1), (.ref b1)])) _
    refine st5 _ ?_
    show Steps p.tables e below (T5.setTop (mkF m 37 #[.val (.ref la), .val (.int r1)] [(.ref b1)])) _
    refine XS.dup X5.here hx rfl (hb hby d13_37) rfl rfl ?_
    show Steps p.tables e below (T5.setTop (mkF m 38 #[.val (.ref la), .val (.int r1)] [(.ref b1), (.ref b1)])) _
    refine XS.iconst X5.here hx rfl (hb hby d13_38) ?_
    show Steps p.tables e below (T5.setTop (mkF m 39 #[.val (.ref la), .val (.int r1)] [(.int (2 : Int32)), (.ref b1), (.ref b1)])) _
    refine XS.iconst X5.here hx rfl (hb hby d13_39) ?_
    show Steps p.tables e below (T5.setTop (mkF m 40 #[.val (.ref la), .val (.int r1)] [(.int (2 : Int32)), (.int (2 : Int32)), (.ref b1), (.ref b1)])) _
    refine XS.iloadN X5.here hx rfl (hb hby d13_40) rfl ?_
    by_cases c : (2 : Int32) < r1
    · rw [if_pos c] at kt
      show Steps p.tables e below (T5.setTop (mkF m 41 #[.val (.ref la), .val (.int r1)] [(.int r1), (.int (2 : Int32)), (.int (2 : Int32)), (.ref b1), (.ref b1)])) _
      refine XS.icmpNo X5.here hx rfl (hb hby d13_41) rfl (tlt c).2.1 ?_
      show Steps p.tables e below (T5.setTop (mkF m 44 #[.val (.ref la), .val (.int r1)] [(.int (2 : Int32)), (.ref b1), (.ref b1)])) _
      refine XS.aloadN X5.here hx rfl (hb hby d13_44) rfl rfl ?_
      show Steps p.tables e below (T5.setTop (mkF m 45 #[.val (.ref la), .val (.int r1)] [(.ref la), (.int (2 : Int32)), (.ref b1), (.ref b1)])) _
      refine XS.iconst X5.here hx rfl (hb hby d13_45) ?_
      show Steps p.tables e below (T5.setTop (mkF m 46 #[.val (.ref la), .val (.int r1)] [(.int (2 : Int32)), (.ref la), (.int (2 : Int32)), (.ref b1), (.ref b1)])) _
      refine X5.iaload hx (j := (2 : Int32)) (v := (.int (l1.getD 2 0))) (by rw [e5]; exact Ar5.1) (State.isArrayOf_alike hZ.alike Ar5.2.1) Ar5.2.2 (inb_of Sz ⟨by decide, by decide⟩) (own_at4 Sz Hz (k := 2) rfl (by decide)) (g := (mkF m 46 #[.val (.ref la), .val (.int r1)] [(.int (2 : Int32)), (.ref la), (.int (2 : Int32)), (.ref b1), (.ref b1)])) rfl rfl (hb hby d13_46) _ ?_
      show Steps p.tables e below (T5.setTop (mkF m 47 #[.val (.ref la), .val (.int r1)] [(.int (l1.getD 2 0)), (.int (2 : Int32)), (.ref b1), (.ref b1)])) _
      refine XS.goto X5.here hx rfl (pc0 := 47) (pc' := 53) rfl (hb hby d13_47) (by decide) (by decide) ?_
      exact kt
    · rw [if_neg c] at kt
      show Steps p.tables e below (T5.setTop (mkF m 41 #[.val (.ref la), .val (.int r1)] [(.int r1), (.int (2 : Int32)), (.int (2 : Int32)), (.ref b1), (.ref b1)])) _
      refine XS.icmpYes X5.here hx rfl (pc0 := 41) (pc' := 50) rfl (hb hby d13_41) rfl (flt c).2.1 (by decide) (by decide) ?_
      show Steps p.tables e below (T5.setTop (mkF m 50 #[.val (.ref la), .val (.int r1)] [(.int (2 : Int32)), (.ref b1), (.ref b1)])) _
      refine XS.aloadN X5.here hx rfl (hb hby d13_50) rfl rfl ?_
      show Steps p.tables e below (T5.setTop (mkF m 51 #[.val (.ref la), .val (.int r1)] [(.ref la), (.int (2 : Int32)), (.ref b1), (.ref b1)])) _
      refine XS.iconst X5.here hx rfl (hb hby d13_51) ?_
      show Steps p.tables e below (T5.setTop (mkF m 52 #[.val (.ref la), .val (.int r1)] [(.int (3 : Int32)), (.ref la), (.int (2 : Int32)), (.ref b1), (.ref b1)])) _
      refine X5.iaload hx (j := (3 : Int32)) (v := (.int (l1.getD 3 0))) (by rw [e5]; exact Ar5.1) (State.isArrayOf_alike hZ.alike Ar5.2.1) Ar5.2.2 (inb_of Sz ⟨by decide, by decide⟩) (own_at4 Sz Hz (k := 3) rfl (by decide)) (g := (mkF m 52 #[.val (.ref la), .val (.int r1)] [(.int (3 : Int32)), (.ref la), (.int (2 : Int32)), (.ref b1), (.ref b1)])) rfl rfl (hb hby d13_52) _ ?_
      exact kt
  obtain ⟨c1_2, A1_2, q1_2, S1_2, M1_2, H1_2, G1_2⟩ := V1_2
  obtain ⟨T7, h7, X7, e7, W7, st7⟩ := stI X5 hx hZ e5 A1_2 (j := (2 : Int32)) (inb_of S1_2 ⟨by decide, by decide⟩) (g := (mkF m 53 #[.val (.ref la), .val (.int r1)] [(.int (if (2 : Int32) < r1 then l1.getD 2 0 else l1.getD 3 0)), (.int (2 : Int32)), (.ref b1), (.ref b1)])) rfl rfl (hb hby d13_53)
  have N7 := Fr.snoc X7 Nx5 g_b1
  obtain ⟨Lx7, X7, Nx7⟩ : ∃ L, Stand p l e ({ frames := 0, cells := 1, slots := 4, locals := 0 } : Room) s m #[(.ref la), (.int r1)] below meth c T7 L 1 4 ∧ Fr n0 L := ⟨_, X7.more (by decide) (by decide), N7⟩
  have V1_3 : Arv Z h7 b1 k1 .int 4 [(.int (if (0 : Int32) < r1 then l1.getD 0 0 else l1.getD 1 0)), (.int (if (1 : Int32) < r1 then l1.getD 1 0 else l1.getD 2 0)), (.int (if (2 : Int32) < r1 then l1.getD 2 0 else l1.getD 3 0)), (.int (0 : Int32))] (.int (0 : Int32)) := Arv.set A1_2 q1_2 S1_2 M1_2 H1_2 G1_2 rfl W7 2 rfl (Nat.le_of_ble_eq_true rfl)
  have K7 : Keep h0 h7 [] := K5.wr W7 (Or.inr sz_b1)
  have Ar7 := Arr.other W7 Ar5 ne
  obtain ⟨c1_3, A1_3, q1_3, S1_3, M1_3, H1_3, G1_3⟩ := V1_3
  obtain ⟨T8, h8, X8, e8, W8, st8⟩ := stI X7 hx hZ e7 A1_3 (j := (3 : Int32)) (inb_of S1_3 ⟨by decide, by decide⟩) (g := (mkF m 57 #[.val (.ref la), .val (.int r1)] [(.int (-1 : Int32)), (.int (3 : Int32)), (.ref b1), (.ref b1)])) rfl rfl (hb hby d13_57)
  have N8 := Fr.snoc X8 Nx7 g_b1
  obtain ⟨Lx8, X8, Nx8⟩ : ∃ L, Stand p l e ({ frames := 0, cells := 1, slots := 4, locals := 0 } : Room) s m #[(.ref la), (.int r1)] below meth c T8 L 1 4 ∧ Fr n0 L := ⟨_, X8.more (by decide) (by decide), N8⟩
  have V1_4 : Arv Z h8 b1 k1 .int 4 [(.int (if (0 : Int32) < r1 then l1.getD 0 0 else l1.getD 1 0)), (.int (if (1 : Int32) < r1 then l1.getD 1 0 else l1.getD 2 0)), (.int (if (2 : Int32) < r1 then l1.getD 2 0 else l1.getD 3 0)), (.int (-1))] (.int (0 : Int32)) := Arv.set A1_3 q1_3 S1_3 M1_3 H1_3 G1_3 rfl W8 3 rfl (Nat.le_of_ble_eq_true rfl)
  have K8 : Keep h0 h8 [] := K7.wr W8 (Or.inr sz_b1)
  have Ar8 := Arr.other W8 Ar7 ne
  have pre9 : ∀ tt, Steps p.tables e below (T8.setTop (mkF m 58 #[.val (.ref la), .val (.int r1)] [(.ref b1)])) tt → Steps p.tables e below (s₁.setTop (entryFrame m #[(.ref la), (.int r1)] 2)) tt := by
    intro tt kt
    refine pre6 tt ?_
    show Steps p.tables e below (T5.setTop (mkF m 53 #[.val (.ref la), .val (.int r1)] [(.int (if (2 : Int32) < r1 then l1.getD 2 0 else l1.getD 3 0)), (.int (2 : Int32)), (.ref b1), (.ref b1)])) _
    refine st7 _ ?_
    show Steps p.tables e below (T7.setTop (mkF m 54 #[.val (.ref la), .val (.int r1)] [(.ref b1)])) _
    refine XS.dup X7.here hx rfl (hb hby d13_54) rfl rfl ?_
    show Steps p.tables e below (T7.setTop (mkF m 55 #[.val (.ref la), .val (.int r1)] [(.ref b1), (.ref b1)])) _
    refine XS.iconst X7.here hx rfl (hb hby d13_55) ?_
    show Steps p.tables e below (T7.setTop (mkF m 56 #[.val (.ref la), .val (.int r1)] [(.int (3 : Int32)), (.ref b1), (.ref b1)])) _
    refine XS.iconst X7.here hx rfl (hb hby d13_56) ?_
    show Steps p.tables e below (T7.setTop (mkF m 57 #[.val (.ref la), .val (.int r1)] [(.int (-1 : Int32)), (.int (3 : Int32)), (.ref b1), (.ref b1)])) _
    refine st8 _ ?_
    exact kt
  obtain ⟨fs, hr, hrun, hended, hW, hsame⟩ := X8.leave (v := some (.ref b1)) (fun h => by rw [Bd.returns] at h; cases h)
  refine ⟨_, _, pre9 _ ?_, hrun, hended, _, _, rfl, ?_, ⟨_, rfl⟩, hW, hsame.mono (by decide) (by decide)⟩
  · exact retOut X8 hx Bd.returns rfl (Or.inr (Or.inr (Or.inr (Or.inr ⟨rfl, rfl, rfl⟩)))) (hb hby d13_58) hr
  · show QrmR Z la ka l1 r1 h0 n0 _ T8.heap _
    rw [e8]
    exact ⟨b1, k1, rfl, Nx8, sz_b1, K8, V1_4⟩
def QrmC (Z : State) (o : Addr) (ad : Fin 5 → Addr) (kc : Fin 5 → ClassId) (t : Tree) (ea : Addr) (ke : ClassId) (es : List Int32) (m1 : Nat) (h0 : Heap) (n0 : Nat) (v : Option Value) (h : Heap) (L : List Loc) : Prop := v = some (.int (1 : Int32)) ∧ Fr n0 L ∧ h = h0
theorem ef_rmC (m : MethodId) (x0 : Addr) (x1 : Addr) (x2 : Int32) : entryFrame m #[(.ref x0), (.ref x1), (.int x2)] 5 = mkF m 0 #[.val (.ref x0), .val (.ref x1), .val (.int x2), .unset, .unset] [] := by first | (simp [entryFrame, mkF, argsToLocals, Value.category]; done) | rfl
theorem pn_rmC : plainName "com/example/pith/pith/html/PageTreeDetachPinLaw" = true := by first | (simp [plainName, overriddenIn]; done) | decide +kernel
set_option maxRecDepth 65536 in
set_option maxHeartbeats 40000000 in
theorem rmC (l : Launch) (Z : State) (a0 : Array Value) (hw : ∀ d ∈ tables_1, d.before a0 Z = true) (ws : List Jvm.Cond) (o : Addr) (ad : Fin 5 → Addr) (kc : Fin 5 → ClassId) (t : Tree) (ea : Addr) (ke : ClassId) (es : List Int32) (m1 : Nat) (h0 : Heap) (n0 : Nat) (Z0 : n0 ≤ h0.size) (H0 : Tr Z h0 n0 o ad kc t) (V0 : Arv Z h0 ea ke .int 4 (es.map Value.int) (.int (0 : Int32))) (hm : m1 ≤ 3) (hch : own_chain t es m1) :
    MetFree l (⟨"com/example/pith/pith/html/PageTreeDetachPinLaw", "chainOk", "(Lcom/example/pith/pith/html/PageTree;[II)Z"⟩ : MethodName) (head1 (Jvm.Cond.code (⟨"com/example/pith/pith/html/PageTreeDetachPinLaw", "chainOk", "(Lcom/example/pith/pith/html/PageTree;[II)Z"⟩ : MethodName) method_4_code 5 (some .boolean) :: ws) ({ frames := 1, cells := 0, slots := 0, locals := 14 } : Room)) (fun a U => a = #[(.ref o), (.ref ea), (.int (Int32.ofNat m1))] ∧ Z.Warmed39 U.vm ∧ U.heap = h0) (fun _ _ _ _ _ => True) (fun _ U oc U' => ∃ v L, oc = .returned v ∧ QrmC Z o ad kc t ea ke es m1 h0 n0 v U'.heap L ∧ FrameEnd U oc U' L ({ frames := 1, cells := 0, slots := 0, locals := 14 } : Room).cells ({ frames := 1, cells := 0, slots := 0, locals := 14 } : Room).slots) := by
  refine MetFree.of_bodySF (plainFor_of_name pn_rmC) hisR ?_
  intro p e s m args below meth c s₁ Bd hml0 hP hK
  obtain ⟨rfl, hZ, hh⟩ := hP
  have hx := Bd.exec
  have hby := Bd.bytes
  have hml : c.maxLocals = 5 := hml0
  have hown : s.vm.findClass "com/example/pith/pith/html/PageTreeDetachPinLaw" = some m.cls := findClass_of_methodNamed Bd.named
  have hnm := (name_of_methodNamed Bd.named Bd.method).1
  have X0 : Stand p l e ({ frames := 1, cells := 0, slots := 0, locals := 14 } : Room) s m #[(.ref o), (.ref ea), (.int (Int32.ofNat m1))] below meth c s₁ [] 0 0 := Stand.of_body Bd
  have e0 : s₁.heap = h0 := by rw [← hh, Bd.state]; rfl
  have N0 := Fr.nil n0
  have pre0 : ∀ tt, Steps p.tables e below (s₁.setTop (mkF m 0 #[.val (.ref o), .val (.ref ea), .val (.int (Int32.ofNat m1)), .unset, .unset] [])) tt → Steps p.tables e below (s₁.setTop (entryFrame m #[(.ref o), (.ref ea), (.int (Int32.ofNat m1))] 5)) tt := fun tt kt => castTop (ef_rmC m o ea (Int32.ofNat m1)) kt
  obtain ⟨cl, Ar, -, Sz, Mz, Hz, -⟩ := V0
  obtain ⟨hf, hla, hi⟩ := hch
  have hm' : m1 = 0 ∨ m1 = 1 ∨ m1 = 2 ∨ m1 = 3 := by omega
  have pre1 : ∀ tt, Steps p.tables e below (s₁.setTop (mkF m 13 #[.val (.ref o), .val (.ref ea), .val (.int (Int32.ofNat m1)), .unset, .unset] [(.int (if m1 = 0 then -1 else es.getD (m1 - 1) 0))])) tt → Steps p.tables e below (s₁.setTop (entryFrame m #[(.ref o), (.ref ea), (.int (Int32.ofNat m1))] 5)) tt := by
    intro tt kt
    refine pre0 tt ?_
    rcases hm' with rfl | rfl | rfl | rfl
    · skip
      show Steps p.tables e below (s₁.setTop (mkF m 0 #[.val (.ref o), .val (.ref ea), .val (.int (Int32.ofNat 0)), .unset, .unset] [])) _
      refine XS.iloadN X0.here hx rfl (hb hby d9_0) rfl ?_
      show Steps p.tables e below (s₁.setTop (mkF m 1 #[.val (.ref o), .val (.ref ea), .val (.int (Int32.ofNat 0)), .unset, .unset] [(.int (Int32.ofNat 0))])) _
      refine XS.ifNo X0.here hx rfl (hb hby d9_1) rfl ((if0 _ _).trans (teq (by decide)).2) ?_
      show Steps p.tables e below (s₁.setTop (mkF m 4 #[.val (.ref o), .val (.ref ea), .val (.int (Int32.ofNat 0)), .unset, .unset] [])) _
      refine XS.iconst X0.here hx rfl (hb hby d9_4) ?_
      show Steps p.tables e below (s₁.setTop (mkF m 5 #[.val (.ref o), .val (.ref ea), .val (.int (Int32.ofNat 0)), .unset, .unset] [(.int (-1 : Int32))])) _
      refine XS.goto X0.here hx rfl (pc0 := 5) (pc' := 13) rfl (hb hby d9_5) (by decide) (by decide) ?_
      exact kt
    · skip
      show Steps p.tables e below (s₁.setTop (mkF m 0 #[.val (.ref o), .val (.ref ea), .val (.int (Int32.ofNat 1)), .unset, .unset] [])) _
      refine XS.iloadN X0.here hx rfl (hb hby d9_0) rfl ?_
      show Steps p.tables e below (s₁.setTop (mkF m 1 #[.val (.ref o), .val (.ref ea), .val (.int (Int32.ofNat 1)), .unset, .unset] [(.int (Int32.ofNat 1))])) _
      refine XS.ifYes X0.here hx rfl (pc0 := 1) (pc' := 8) rfl (hb hby d9_1) rfl ((if0 _ _).trans (feq (by decide)).2) (by decide) (by decide) ?_
      show Steps p.tables e below (s₁.setTop (mkF m 8 #[.val (.ref o), .val (.ref ea), .val (.int (Int32.ofNat 1)), .unset, .unset] [])) _
      refine XS.aloadN X0.here hx rfl (hb hby d9_8) rfl rfl ?_
      show Steps p.tables e below (s₁.setTop (mkF m 9 #[.val (.ref o), .val (.ref ea), .val (.int (Int32.ofNat 1)), .unset, .unset] [(.ref ea)])) _
      refine XS.iloadN X0.here hx rfl (hb hby d9_9) rfl ?_
      show Steps p.tables e below (s₁.setTop (mkF m 10 #[.val (.ref o), .val (.ref ea), .val (.int (Int32.ofNat 1)), .unset, .unset] [(.int (Int32.ofNat 1)), (.ref ea)])) _
      refine XS.iconst X0.here hx rfl (hb hby d9_10) ?_
      show Steps p.tables e below (s₁.setTop (mkF m 11 #[.val (.ref o), .val (.ref ea), .val (.int (Int32.ofNat 1)), .unset, .unset] [(.int (1 : Int32)), (.int (Int32.ofNat 1)), (.ref ea)])) _
      refine XS.isub X0.here hx rfl (hb hby d9_11) rfl ?_
      show Steps p.tables e below (s₁.setTop (mkF m 12 #[.val (.ref o), .val (.ref ea), .val (.int (Int32.ofNat 1)), .unset, .unset] [(.int ((Int32.ofNat 1) - (1 : Int32))), (.ref ea)])) _
      refine X0.iaload hx (j := ((Int32.ofNat 1) - (1 : Int32))) (v := (.int (es.getD 0 0))) (by rw [e0]; exact Ar.1) (State.isArrayOf_alike hZ.alike Ar.2.1) Ar.2.2 (inb_of Sz ⟨by decide, by decide⟩) (own_at4 Sz Hz (k := 0) rfl (by decide)) (g := (mkF m 12 #[.val (.ref o), .val (.ref ea), .val (.int (Int32.ofNat 1)), .unset, .unset] [(.int ((Int32.ofNat 1) - (1 : Int32))), (.ref ea)])) rfl rfl (hb hby d9_12) _ ?_
      exact kt
    · skip
      show Steps p.tables e below (s₁.setTop (mkF m 0 #[.val (.ref o), .val (.ref ea), .val (.int (Int32.ofNat 2)), .unset, .unset] [])) _
      refine XS.iloadN X0.here hx rfl (hb hby d9_0) rfl ?_
      show Steps p.tables e below (s₁.setTop (mkF m 1 #[.val (.ref o), .val (.ref ea), .val (.int (Int32.ofNat 2)), .unset, .unset] [(.int (Int32.ofNat 2))])) _
      refine XS.ifYes X0.here hx rfl (pc0 := 1) (pc' := 8) rfl (hb hby d9_1) rfl ((if0 _ _).trans (feq (by decide)).2) (by decide) (by decide) ?_
      show Steps p.tables e below (s₁.setTop (mkF m 8 #[.val (.ref o), .val (.ref ea), .val (.int (Int32.ofNat 2)), .unset, .unset] [])) _
      refine XS.aloadN X0.here hx rfl (hb hby d9_8) rfl rfl ?_
      show Steps p.tables e below (s₁.setTop (mkF m 9 #[.val (.ref o), .val (.ref ea), .val (.int (Int32.ofNat 2)), .unset, .unset] [(.ref ea)])) _
      refine XS.iloadN X0.here hx rfl (hb hby d9_9) rfl ?_
      show Steps p.tables e below (s₁.setTop (mkF m 10 #[.val (.ref o), .val (.ref ea), .val (.int (Int32.ofNat 2)), .unset, .unset] [(.int (Int32.ofNat 2)), (.ref ea)])) _
      refine XS.iconst X0.here hx rfl (hb hby d9_10) ?_
      show Steps p.tables e below (s₁.setTop (mkF m 11 #[.val (.ref o), .val (.ref ea), .val (.int (Int32.ofNat 2)), .unset, .unset] [(.int (1 : Int32)), (.int (Int32.ofNat 2)), (.ref ea)])) _
      refine XS.isub X0.here hx rfl (hb hby d9_11) rfl ?_
      show Steps p.tables e below (s₁.setTop (mkF m 12 #[.val (.ref o), .val (.ref ea), .val (.int (Int32.ofNat 2)), .unset, .unset] [(.int ((Int32.ofNat 2) - (1 : Int32))), (.ref ea)])) _
      refine X0.iaload hx (j := ((Int32.ofNat 2) - (1 : Int32))) (v := (.int (es.getD 1 0))) (by rw [e0]; exact Ar.1) (State.isArrayOf_alike hZ.alike Ar.2.1) Ar.2.2 (inb_of Sz ⟨by decide, by decide⟩) (own_at4 Sz Hz (k := 1) rfl (by decide)) (g := (mkF m 12 #[.val (.ref o), .val (.ref ea), .val (.int (Int32.ofNat 2)), .unset, .unset] [(.int ((Int32.ofNat 2) - (1 : Int32))), (.ref ea)])) rfl rfl (hb hby d9_12) _ ?_
      exact kt
    · skip
      show Steps p.tables e below (s₁.setTop (mkF m 0 #[.val (.ref o), .val (.ref ea), .val (.int (Int32.ofNat 3)), .unset, .unset] [])) _
      refine XS.iloadN X0.here hx rfl (hb hby d9_0) rfl ?_
      show Steps p.tables e below (s₁.setTop (mkF m 1 #[.val (.ref o), .val (.ref ea), .val (.int (Int32.ofNat 3)), .unset, .unset] [(.int (Int32.ofNat 3))])) _
      refine XS.ifYes X0.here hx rfl (pc0 := 1) (pc' := 8) rfl (hb hby d9_1) rfl ((if0 _ _).trans (feq (by decide)).2) (by decide) (by decide) ?_
      show Steps p.tables e below (s₁.setTop (mkF m 8 #[.val (.ref o), .val (.ref ea), .val (.int (Int32.ofNat 3)), .unset, .unset] [])) _
      refine XS.aloadN X0.here hx rfl (hb hby d9_8) rfl rfl ?_
      show Steps p.tables e below (s₁.setTop (mkF m 9 #[.val (.ref o), .val (.ref ea), .val (.int (Int32.ofNat 3)), .unset, .unset] [(.ref ea)])) _
      refine XS.iloadN X0.here hx rfl (hb hby d9_9) rfl ?_
      show Steps p.tables e below (s₁.setTop (mkF m 10 #[.val (.ref o), .val (.ref ea), .val (.int (Int32.ofNat 3)), .unset, .unset] [(.int (Int32.ofNat 3)), (.ref ea)])) _
      refine XS.iconst X0.here hx rfl (hb hby d9_10) ?_
      show Steps p.tables e below (s₁.setTop (mkF m 11 #[.val (.ref o), .val (.ref ea), .val (.int (Int32.ofNat 3)), .unset, .unset] [(.int (1 : Int32)), (.int (Int32.ofNat 3)), (.ref ea)])) _
      refine XS.isub X0.here hx rfl (hb hby d9_11) rfl ?_
      show Steps p.tables e below (s₁.setTop (mkF m 12 #[.val (.ref o), .val (.ref ea), .val (.int (Int32.ofNat 3)), .unset, .unset] [(.int ((Int32.ofNat 3) - (1 : Int32))), (.ref ea)])) _
      refine X0.iaload hx (j := ((Int32.ofNat 3) - (1 : Int32))) (v := (.int (es.getD 2 0))) (by rw [e0]; exact Ar.1) (State.isArrayOf_alike hZ.alike Ar.2.1) Ar.2.2 (inb_of Sz ⟨by decide, by decide⟩) (own_at4 Sz Hz (k := 2) rfl (by decide)) (g := (mkF m 12 #[.val (.ref o), .val (.ref ea), .val (.int (Int32.ofNat 3)), .unset, .unset] [(.int ((Int32.ofNat 3) - (1 : Int32))), (.ref ea)])) rfl rfl (hb hby d9_12) _ ?_
      exact kt
  obtain ⟨cq2, kq2, q2a, q2b, q2c⟩ := isOf hZ e0 (Tr.exa H0)
  obtain ⟨_, _, ⟨T2, L2, k2, n2⟩, -, X2, ⟨Lc2, hQ2, l2, y2, z2⟩, st2⟩ := X0.virtualBack hx (y := (⟨"com/example/pith/pith/html/PageTree", "firstChild", "(I)I"⟩ : MethodName)) (z := (⟨"com/example/pith/pith/html/PageTree", "firstChild", "(I)I"⟩ : MethodName)) hown (mvT hZ (hw _ (List.mem_of_getElem? (i := 71) rfl))) (mvT hZ (hw _ (List.mem_of_getElem? (i := 72) rfl))) (notFace_of_selects (args := #[]) (mvT hZ (hw _ (List.mem_of_getElem? (i := 74) rfl)))) (mvT hZ (hw _ (List.mem_of_getElem? (i := 74) rfl))) (mvT hZ (hw _ (List.mem_of_getElem? (i := 73) rfl))) (by decide) (backOf (W := 0) (rmF l Z a0 hw [] o ad kc t (0 : Int32) h0 n0 Z0 H0 (by decide)) hZ (hw _ (List.mem_of_getElem? (i := 75) rfl)) (hw _ (List.mem_of_getElem? (i := 2) rfl)) (by decide) (by decide)) q2a q2c (g := (mkF m 16 #[.val (.ref o), .val (.ref ea), .val (.int (Int32.ofNat m1)), .val (.int (if m1 = 0 then -1 else es.getD (m1 - 1) 0)), .unset] [(.int (0 : Int32)), (.ref o)])) rfl (by rw [hml]; rfl) (Steps.refl _) (argsL := [(.int (0 : Int32))]) (rest := []) (lenOf pd_2 rfl) rfl (by show 2 * 0 + _ ≤ _; exact Nat.le_of_eq rfl) (hb hby d9_16) (fun _ _ => ⟨rfl, e0, (by decide : 0 + 0 ≤ _), (by decide : 0 + 0 ≤ _)⟩)
  dsimp only [Pt.U, Pt.locs, Pt.cells, Pt.slots] at X2 l2 y2 z2 st2 hQ2
  subst l2 y2 z2
  obtain ⟨rfl, N2q, h2⟩ := hQ2
  have N2 := Fr.app N0 N2q
  obtain ⟨Lx2, X2, Nx2⟩ : ∃ L, Stand p l e ({ frames := 1, cells := 0, slots := 0, locals := 14 } : Room) s m #[(.ref o), (.ref ea), (.int (Int32.ofNat m1))] below meth c T2 L 0 0 ∧ Fr n0 L := ⟨_, X2.more (by decide) (by decide), N2⟩
  obtain ⟨cq3, kq3, q3a, q3b, q3c⟩ := isOf hZ h2 (Tr.exa H0)
  obtain ⟨_, _, ⟨T3, L3, k3, n3⟩, -, X3, ⟨Lc3, hQ3, l3, y3, z3⟩, st3⟩ := X2.virtualBack hx (y := (⟨"com/example/pith/pith/html/PageTree", "lastChild", "(I)I"⟩ : MethodName)) (z := (⟨"com/example/pith/pith/html/PageTree", "lastChild", "(I)I"⟩ : MethodName)) hown (mvT hZ (hw _ (List.mem_of_getElem? (i := 76) rfl))) (mvT hZ (hw _ (List.mem_of_getElem? (i := 77) rfl))) (notFace_of_selects (args := #[]) (mvT hZ (hw _ (List.mem_of_getElem? (i := 79) rfl)))) (mvT hZ (hw _ (List.mem_of_getElem? (i := 79) rfl))) (mvT hZ (hw _ (List.mem_of_getElem? (i := 78) rfl))) (by decide) (backOf (W := 0) (rmL l Z a0 hw [] o ad kc t (0 : Int32) h0 n0 Z0 H0 (by decide)) hZ (hw _ (List.mem_of_getElem? (i := 80) rfl)) (hw _ (List.mem_of_getElem? (i := 2) rfl)) (by decide) (by decide)) q3a q3c (g := (mkF m 27 #[.val (.ref o), .val (.ref ea), .val (.int (Int32.ofNat m1)), .val (.int (if m1 = 0 then -1 else es.getD (m1 - 1) 0)), .unset] [(.int (0 : Int32)), (.ref o)])) rfl (by rw [hml]; rfl) (Steps.refl _) (argsL := [(.int (0 : Int32))]) (rest := []) (lenOf pd_2 rfl) rfl (by show 2 * 0 + _ ≤ _; exact Nat.le_of_eq rfl) (hb hby d9_27) (fun _ _ => ⟨rfl, h2, (by decide : 0 + 0 ≤ _), (by decide : 0 + 0 ≤ _)⟩)
  dsimp only [Pt.U, Pt.locs, Pt.cells, Pt.slots] at X3 l3 y3 z3 st3 hQ3
  subst l3 y3 z3
  obtain ⟨rfl, N3q, h3⟩ := hQ3
  have N3 := Fr.app Nx2 N3q
  obtain ⟨Lx3, X3, Nx3⟩ : ∃ L, Stand p l e ({ frames := 1, cells := 0, slots := 0, locals := 14 } : Room) s m #[(.ref o), (.ref ea), (.int (Int32.ofNat m1))] below meth c T3 L 0 0 ∧ Fr n0 L := ⟨_, X3.more (by decide) (by decide), N3⟩
  have pre4 : ∀ tt, Steps p.tables e below (T3.setTop (mkF m 43 #[.val (.ref o), .val (.ref ea), .val (.int (Int32.ofNat m1)), .val (.int (if m1 = 0 then -1 else es.getD (m1 - 1) 0)), .val (.int (1 : Int32))] [(.int (1 : Int32)), (.int (Int32.ofNat m1))])) tt → Steps p.tables e below (s₁.setTop (entryFrame m #[(.ref o), (.ref ea), (.int (Int32.ofNat m1))] 5)) tt := by
    intro tt kt
    refine pre1 tt ?_
    show Steps p.tables e below (s₁.setTop (mkF m 13 #[.val (.ref o), .val (.ref ea), .val (.int (Int32.ofNat m1)), .unset, .unset] [(.int (if m1 = 0 then -1 else es.getD (m1 - 1) 0))])) _
    refine XS.istoreN X0.here hx rfl (hb hby d9_13) rfl (l' := #[.val (.ref o), .val (.ref ea), .val (.int (Int32.ofNat m1)), .val (.int (if m1 = 0 then -1 else es.getD (m1 - 1) 0)), .unset]) rfl ?_
    show Steps p.tables e below (s₁.setTop (mkF m 14 #[.val (.ref o), .val (.ref ea), .val (.int (Int32.ofNat m1)), .val (.int (if m1 = 0 then -1 else es.getD (m1 - 1) 0)), .unset] [])) _
    refine XS.aloadN X0.here hx rfl (hb hby d9_14) rfl rfl ?_
    show Steps p.tables e below (s₁.setTop (mkF m 15 #[.val (.ref o), .val (.ref ea), .val (.int (Int32.ofNat m1)), .val (.int (if m1 = 0 then -1 else es.getD (m1 - 1) 0)), .unset] [(.ref o)])) _
    refine XS.iconst X0.here hx rfl (hb hby d9_15) ?_
    show Steps p.tables e below (s₁.setTop (mkF m 16 #[.val (.ref o), .val (.ref ea), .val (.int (Int32.ofNat m1)), .val (.int (if m1 = 0 then -1 else es.getD (m1 - 1) 0)), .unset] [(.int (0 : Int32)), (.ref o)])) _
    refine st2.trans ?_
    show Steps p.tables e below (T2.setTop (mkF m 19 #[.val (.ref o), .val (.ref ea), .val (.int (Int32.ofNat m1)), .val (.int (if m1 = 0 then -1 else es.getD (m1 - 1) 0)), .unset] [(.int (own_gt t 1 (0 : Int32)))])) _
    refine XS.aloadN X2.here hx rfl (hb hby d9_19) rfl rfl ?_
    show Steps p.tables e below (T2.setTop (mkF m 20 #[.val (.ref o), .val (.ref ea), .val (.int (Int32.ofNat m1)), .val (.int (if m1 = 0 then -1 else es.getD (m1 - 1) 0)), .unset] [(.ref ea), (.int (own_gt t 1 (0 : Int32)))])) _
    refine XS.iconst X2.here hx rfl (hb hby d9_20) ?_
    show Steps p.tables e below (T2.setTop (mkF m 21 #[.val (.ref o), .val (.ref ea), .val (.int (Int32.ofNat m1)), .val (.int (if m1 = 0 then -1 else es.getD (m1 - 1) 0)), .unset] [(.int (0 : Int32)), (.ref ea), (.int (own_gt t 1 (0 : Int32)))])) _
    refine X2.iaload hx (j := (0 : Int32)) (v := (.int (es.getD 0 0))) (by rw [h2]; exact Ar.1) (State.isArrayOf_alike hZ.alike Ar.2.1) Ar.2.2 (inb_of Sz ⟨by decide, by decide⟩) (own_at4 Sz Hz (k := 0) rfl (by decide)) (g := (mkF m 21 #[.val (.ref o), .val (.ref ea), .val (.int (Int32.ofNat m1)), .val (.int (if m1 = 0 then -1 else es.getD (m1 - 1) 0)), .unset] [(.int (0 : Int32)), (.ref ea), (.int (own_gt t 1 (0 : Int32)))])) rfl rfl (hb hby d9_21) _ ?_
    show Steps p.tables e below (T2.setTop (mkF m 22 #[.val (.ref o), .val (.ref ea), .val (.int (Int32.ofNat m1)), .val (.int (if m1 = 0 then -1 else es.getD (m1 - 1) 0)), .unset] [(.int (es.getD 0 0)), (.int (own_gt t 1 (0 : Int32)))])) _
    refine XS.icmpNo X2.here hx rfl (hb hby d9_22) rfl (teq hf).2 ?_
    show Steps p.tables e below (T2.setTop (mkF m 25 #[.val (.ref o), .val (.ref ea), .val (.int (Int32.ofNat m1)), .val (.int (if m1 = 0 then -1 else es.getD (m1 - 1) 0)), .unset] [])) _
    refine XS.aloadN X2.here hx rfl (hb hby d9_25) rfl rfl ?_
    show Steps p.tables e below (T2.setTop (mkF m 26 #[.val (.ref o), .val (.ref ea), .val (.int (Int32.ofNat m1)), .val (.int (if m1 = 0 then -1 else es.getD (m1 - 1) 0)), .unset] [(.ref o)])) _
    refine XS.iconst X2.here hx rfl (hb hby d9_26) ?_
    show Steps p.tables e below (T2.setTop (mkF m 27 #[.val (.ref o), .val (.ref ea), .val (.int (Int32.ofNat m1)), .val (.int (if m1 = 0 then -1 else es.getD (m1 - 1) 0)), .unset] [(.int (0 : Int32)), (.ref o)])) _
    refine st3.trans ?_
    show Steps p.tables e below (T3.setTop (mkF m 30 #[.val (.ref o), .val (.ref ea), .val (.int (Int32.ofNat m1)), .val (.int (if m1 = 0 then -1 else es.getD (m1 - 1) 0)), .unset] [(.int (own_gt t 2 (0 : Int32)))])) _
    refine XS.iloadN X3.here hx rfl (hb hby d9_30) rfl ?_
    show Steps p.tables e below (T3.setTop (mkF m 31 #[.val (.ref o), .val (.ref ea), .val (.int (Int32.ofNat m1)), .val (.int (if m1 = 0 then -1 else es.getD (m1 - 1) 0)), .unset] [(.int (if m1 = 0 then -1 else es.getD (m1 - 1) 0)), (.int (own_gt t 2 (0 : Int32)))])) _
    refine XS.icmpNo X3.here hx rfl (hb hby d9_31) rfl (teq hla).2 ?_
    show Steps p.tables e below (T3.setTop (mkF m 34 #[.val (.ref o), .val (.ref ea), .val (.int (Int32.ofNat m1)), .val (.int (if m1 = 0 then -1 else es.getD (m1 - 1) 0)), .unset] [])) _
    refine XS.iconst X3.here hx rfl (hb hby d9_34) ?_
    show Steps p.tables e below (T3.setTop (mkF m 35 #[.val (.ref o), .val (.ref ea), .val (.int (Int32.ofNat m1)), .val (.int (if m1 = 0 then -1 else es.getD (m1 - 1) 0)), .unset] [(.int (1 : Int32))])) _
    refine XS.goto X3.here hx rfl (pc0 := 35) (pc' := 39) rfl (hb hby d9_35) (by decide) (by decide) ?_
    show Steps p.tables e below (T3.setTop (mkF m 39 #[.val (.ref o), .val (.ref ea), .val (.int (Int32.ofNat m1)), .val (.int (if m1 = 0 then -1 else es.getD (m1 - 1) 0)), .unset] [(.int (1 : Int32))])) _
    refine XS.istore X3.here hx rfl (hb hby d9_39) rfl (l' := #[.val (.ref o), .val (.ref ea), .val (.int (Int32.ofNat m1)), .val (.int (if m1 = 0 then -1 else es.getD (m1 - 1) 0)), .val (.int (1 : Int32))]) rfl ?_
    show Steps p.tables e below (T3.setTop (mkF m 41 #[.val (.ref o), .val (.ref ea), .val (.int (Int32.ofNat m1)), .val (.int (if m1 = 0 then -1 else es.getD (m1 - 1) 0)), .val (.int (1 : Int32))] [])) _
    refine XS.iloadN X3.here hx rfl (hb hby d9_41) rfl ?_
    show Steps p.tables e below (T3.setTop (mkF m 42 #[.val (.ref o), .val (.ref ea), .val (.int (Int32.ofNat m1)), .val (.int (if m1 = 0 then -1 else es.getD (m1 - 1) 0)), .val (.int (1 : Int32))] [(.int (Int32.ofNat m1))])) _
    refine XS.iconst X3.here hx rfl (hb hby d9_42) ?_
    exact kt
  by_cases e0 : m1 = 0
  · skip
    have prex5 : ∀ tt, Steps p.tables e below (T3.setTop (mkF m 163 #[.val (.ref o), .val (.ref ea), .val (.int (Int32.ofNat m1)), .val (.int (if m1 = 0 then -1 else es.getD (m1 - 1) 0)), .val (.int (1 : Int32))] [(.int (1 : Int32))])) tt → Steps p.tables e below (s₁.setTop (entryFrame m #[(.ref o), (.ref ea), (.int (Int32.ofNat m1))] 5)) tt := by
      intro tt kt
      refine pre4 tt ?_
      show Steps p.tables e below (T3.setTop (mkF m 43 #[.val (.ref o), .val (.ref ea), .val (.int (Int32.ofNat m1)), .val (.int (if m1 = 0 then -1 else es.getD (m1 - 1) 0)), .val (.int (1 : Int32))] [(.int (1 : Int32)), (.int (Int32.ofNat m1))])) _
      refine XS.icmpYes X3.here hx rfl (pc0 := 43) (pc' := 81) rfl (hb hby d9_43) rfl (tlt (by rw [e0]; decide)).1 (by decide) (by decide) ?_
      show Steps p.tables e below (T3.setTop (mkF m 81 #[.val (.ref o), .val (.ref ea), .val (.int (Int32.ofNat m1)), .val (.int (if m1 = 0 then -1 else es.getD (m1 - 1) 0)), .val (.int (1 : Int32))] [])) _
      refine XS.iloadN X3.here hx rfl (hb hby d9_81) rfl ?_
      show Steps p.tables e below (T3.setTop (mkF m 82 #[.val (.ref o), .val (.ref ea), .val (.int (Int32.ofNat m1)), .val (.int (if m1 = 0 then -1 else es.getD (m1 - 1) 0)), .val (.int (1 : Int32))] [(.int (Int32.ofNat m1))])) _
      refine XS.iconst X3.here hx rfl (hb hby d9_82) ?_
      show Steps p.tables e below (T3.setTop (mkF m 83 #[.val (.ref o), .val (.ref ea), .val (.int (Int32.ofNat m1)), .val (.int (if m1 = 0 then -1 else es.getD (m1 - 1) 0)), .val (.int (1 : Int32))] [(.int (2 : Int32)), (.int (Int32.ofNat m1))])) _
      refine XS.icmpYes X3.here hx rfl (pc0 := 83) (pc' := 121) rfl (hb hby d9_83) rfl (tlt (by rw [e0]; decide)).1 (by decide) (by decide) ?_
      show Steps p.tables e below (T3.setTop (mkF m 121 #[.val (.ref o), .val (.ref ea), .val (.int (Int32.ofNat m1)), .val (.int (if m1 = 0 then -1 else es.getD (m1 - 1) 0)), .val (.int (1 : Int32))] [])) _
      refine XS.iloadN X3.here hx rfl (hb hby d9_121) rfl ?_
      show Steps p.tables e below (T3.setTop (mkF m 122 #[.val (.ref o), .val (.ref ea), .val (.int (Int32.ofNat m1)), .val (.int (if m1 = 0 then -1 else es.getD (m1 - 1) 0)), .val (.int (1 : Int32))] [(.int (Int32.ofNat m1))])) _
      refine XS.iconst X3.here hx rfl (hb hby d9_122) ?_
      show Steps p.tables e below (T3.setTop (mkF m 123 #[.val (.ref o), .val (.ref ea), .val (.int (Int32.ofNat m1)), .val (.int (if m1 = 0 then -1 else es.getD (m1 - 1) 0)), .val (.int (1 : Int32))] [(.int (3 : Int32)), (.int (Int32.ofNat m1))])) _
      refine XS.icmpYes X3.here hx rfl (pc0 := 123) (pc' := 161) rfl (hb hby d9_123) rfl (tlt (by rw [e0]; decide)).1 (by decide) (by decide) ?_
      show Steps p.tables e below (T3.setTop (mkF m 161 #[.val (.ref o), .val (.ref ea), .val (.int (Int32.ofNat m1)), .val (.int (if m1 = 0 then -1 else es.getD (m1 - 1) 0)), .val (.int (1 : Int32))] [])) _
      refine XS.iload X3.here hx rfl (hb hby d9_161) rfl ?_
      exact kt
    obtain ⟨fs, hr, hrun, hended, hW, hsame⟩ := X3.leave (v := some (.int (1 : Int32))) (fun h => by rw [Bd.returns] at h; cases h)
    refine ⟨_, _, prex5 _ ?_, hrun, hended, _, _, rfl, ?_, ⟨_, rfl⟩, hW, hsame.mono (by decide) (by decide)⟩
    · exact retN X3 hx (t := .boolean) Bd.returns (by simp) (hb hby d9_163) hr
    · show QrmC Z o ad kc t ea ke es m1 h0 n0 _ T3.heap _
      rw [h3]
      exact ⟨rfl, Nx3, rfl⟩
  · obtain ⟨hr0, hp0, hn0⟩ := hi 0 (by omega)
    have hge0 : ¬ Int32.ofNat m1 < (1 : Int32) := by rcases hm' with rfl | rfl | rfl | rfl <;> first | decide | omega
    obtain ⟨cqu5, kqu5, qu5a, qu5b, qu5c⟩ := isOf hZ h3 (Tr.exa H0)
    obtain ⟨_, _, ⟨Tu5, Lu5, ku5, nu5⟩, -, Xu5, ⟨Lcu5, hQu5, lu5, yu5, zu5⟩, stu5⟩ := X3.virtualBack hx (y := (⟨"com/example/pith/pith/html/PageTree", "parent", "(I)I"⟩ : MethodName)) (z := (⟨"com/example/pith/pith/html/PageTree", "parent", "(I)I"⟩ : MethodName)) hown (mvT hZ (hw _ (List.mem_of_getElem? (i := 57) rfl))) (mvT hZ (hw _ (List.mem_of_getElem? (i := 58) rfl))) (notFace_of_selects (args := #[]) (mvT hZ (hw _ (List.mem_of_getElem? (i := 60) rfl)))) (mvT hZ (hw _ (List.mem_of_getElem? (i := 60) rfl))) (mvT hZ (hw _ (List.mem_of_getElem? (i := 59) rfl))) (by decide) (backOf (W := 0) (rmP l Z a0 hw [] o ad kc t (es.getD 0 0) h0 n0 Z0 H0 (own_r64 hr0)) hZ (hw _ (List.mem_of_getElem? (i := 61) rfl)) (hw _ (List.mem_of_getElem? (i := 2) rfl)) (by decide) (by decide)) qu5a qu5c (g := (mkF m 55 #[.val (.ref o), .val (.ref ea), .val (.int (Int32.ofNat m1)), .val (.int (if m1 = 0 then -1 else es.getD (m1 - 1) 0)), .val (.int (1 : Int32))] [(.int (es.getD 0 0)), (.ref o)])) rfl (by rw [hml]; rfl) (Steps.refl _) (argsL := [(.int (es.getD 0 0))]) (rest := []) (lenOf pd_2 rfl) rfl (by show 2 * 0 + _ ≤ _; exact Nat.le_of_eq rfl) (hb hby d9_55) (fun _ _ => ⟨rfl, h3, (by decide : 0 + 0 ≤ _), (by decide : 0 + 0 ≤ _)⟩)
    dsimp only [Pt.U, Pt.locs, Pt.cells, Pt.slots] at Xu5 lu5 yu5 zu5 stu5 hQu5
    subst lu5 yu5 zu5
    obtain ⟨rfl, Nu5q, hu5⟩ := hQu5
    have Nu5 := Fr.app Nx3 Nu5q
    obtain ⟨Lxu5, Xu5, Nxu5⟩ : ∃ L, Stand p l e ({ frames := 1, cells := 0, slots := 0, locals := 14 } : Room) s m #[(.ref o), (.ref ea), (.int (Int32.ofNat m1))] below meth c Tu5 L 0 0 ∧ Fr n0 L := ⟨_, Xu5.more (by decide) (by decide), Nu5⟩
    obtain ⟨cqu6, kqu6, qu6a, qu6b, qu6c⟩ := isOf hZ hu5 (Tr.exa H0)
    obtain ⟨_, _, ⟨Tu6, Lu6, ku6, nu6⟩, -, Xu6, ⟨Lcu6, hQu6, lu6, yu6, zu6⟩, stu6⟩ := Xu5.virtualBack hx (y := (⟨"com/example/pith/pith/html/PageTree", "next", "(I)I"⟩ : MethodName)) (z := (⟨"com/example/pith/pith/html/PageTree", "next", "(I)I"⟩ : MethodName)) hown (mvT hZ (hw _ (List.mem_of_getElem? (i := 62) rfl))) (mvT hZ (hw _ (List.mem_of_getElem? (i := 63) rfl))) (notFace_of_selects (args := #[]) (mvT hZ (hw _ (List.mem_of_getElem? (i := 65) rfl)))) (mvT hZ (hw _ (List.mem_of_getElem? (i := 65) rfl))) (mvT hZ (hw _ (List.mem_of_getElem? (i := 64) rfl))) (by decide) (backOf (W := 0) (rmX l Z a0 hw [] o ad kc t (es.getD 0 0) h0 n0 Z0 H0 (own_r64 hr0)) hZ (hw _ (List.mem_of_getElem? (i := 66) rfl)) (hw _ (List.mem_of_getElem? (i := 2) rfl)) (by decide) (by decide)) qu6a qu6c (g := (mkF m 65 #[.val (.ref o), .val (.ref ea), .val (.int (Int32.ofNat m1)), .val (.int (if m1 = 0 then -1 else es.getD (m1 - 1) 0)), .val (.int (1 : Int32))] [(.int (es.getD 0 0)), (.ref o)])) rfl (by rw [hml]; rfl) (Steps.refl _) (argsL := [(.int (es.getD 0 0))]) (rest := []) (lenOf pd_2 rfl) rfl (by show 2 * 0 + _ ≤ _; exact Nat.le_of_eq rfl) (hb hby d9_65) (fun _ _ => ⟨rfl, hu5, (by decide : 0 + 0 ≤ _), (by decide : 0 + 0 ≤ _)⟩)
    dsimp only [Pt.U, Pt.locs, Pt.cells, Pt.slots] at Xu6 lu6 yu6 zu6 stu6 hQu6
    subst lu6 yu6 zu6
    obtain ⟨rfl, Nu6q, hu6⟩ := hQu6
    have Nu6 := Fr.app Nxu5 Nu6q
    obtain ⟨Lxu6, Xu6, Nxu6⟩ : ∃ L, Stand p l e ({ frames := 1, cells := 0, slots := 0, locals := 14 } : Room) s m #[(.ref o), (.ref ea), (.int (Int32.ofNat m1))] below meth c Tu6 L 0 0 ∧ Fr n0 L := ⟨_, Xu6.more (by decide) (by decide), Nu6⟩
    have preu7 : ∀ tt, Steps p.tables e below (Tu6.setTop (mkF m 83 #[.val (.ref o), .val (.ref ea), .val (.int (Int32.ofNat m1)), .val (.int (if m1 = 0 then -1 else es.getD (m1 - 1) 0)), .val (.int (1 : Int32))] [(.int (2 : Int32)), (.int (Int32.ofNat m1))])) tt → Steps p.tables e below (s₁.setTop (entryFrame m #[(.ref o), (.ref ea), (.int (Int32.ofNat m1))] 5)) tt := by
      intro tt kt
      refine pre4 tt ?_
      show Steps p.tables e below (T3.setTop (mkF m 43 #[.val (.ref o), .val (.ref ea), .val (.int (Int32.ofNat m1)), .val (.int (if m1 = 0 then -1 else es.getD (m1 - 1) 0)), .val (.int (1 : Int32))] [(.int (1 : Int32)), (.int (Int32.ofNat m1))])) _
      refine XS.icmpNo X3.here hx rfl (hb hby d9_43) rfl (flt hge0).1 ?_
      show Steps p.tables e below (T3.setTop (mkF m 46 #[.val (.ref o), .val (.ref ea), .val (.int (Int32.ofNat m1)), .val (.int (if m1 = 0 then -1 else es.getD (m1 - 1) 0)), .val (.int (1 : Int32))] [])) _
      refine XS.iload X3.here hx rfl (hb hby d9_46) rfl ?_
      show Steps p.tables e below (T3.setTop (mkF m 48 #[.val (.ref o), .val (.ref ea), .val (.int (Int32.ofNat m1)), .val (.int (if m1 = 0 then -1 else es.getD (m1 - 1) 0)), .val (.int (1 : Int32))] [(.int (1 : Int32))])) _
      refine XS.ifNo X3.here hx rfl (hb hby d9_48) rfl ((if0 _ _).trans (feq (by decide)).1) ?_
      show Steps p.tables e below (T3.setTop (mkF m 51 #[.val (.ref o), .val (.ref ea), .val (.int (Int32.ofNat m1)), .val (.int (if m1 = 0 then -1 else es.getD (m1 - 1) 0)), .val (.int (1 : Int32))] [])) _
      refine XS.aloadN X3.here hx rfl (hb hby d9_51) rfl rfl ?_
      show Steps p.tables e below (T3.setTop (mkF m 52 #[.val (.ref o), .val (.ref ea), .val (.int (Int32.ofNat m1)), .val (.int (if m1 = 0 then -1 else es.getD (m1 - 1) 0)), .val (.int (1 : Int32))] [(.ref o)])) _
      refine XS.aloadN X3.here hx rfl (hb hby d9_52) rfl rfl ?_
      show Steps p.tables e below (T3.setTop (mkF m 53 #[.val (.ref o), .val (.ref ea), .val (.int (Int32.ofNat m1)), .val (.int (if m1 = 0 then -1 else es.getD (m1 - 1) 0)), .val (.int (1 : Int32))] [(.ref ea), (.ref o)])) _
      refine XS.iconst X3.here hx rfl (hb hby d9_53) ?_
      show Steps p.tables e below (T3.setTop (mkF m 54 #[.val (.ref o), .val (.ref ea), .val (.int (Int32.ofNat m1)), .val (.int (if m1 = 0 then -1 else es.getD (m1 - 1) 0)), .val (.int (1 : Int32))] [(.int (0 : Int32)), (.ref ea), (.ref o)])) _
      refine X3.iaload hx (j := (0 : Int32)) (v := (.int (es.getD 0 0))) (by rw [h3]; exact Ar.1) (State.isArrayOf_alike hZ.alike Ar.2.1) Ar.2.2 (inb_of Sz ⟨by decide, by decide⟩) (own_at4 Sz Hz (k := 0) rfl (by decide)) (g := (mkF m 54 #[.val (.ref o), .val (.ref ea), .val (.int (Int32.ofNat m1)), .val (.int (if m1 = 0 then -1 else es.getD (m1 - 1) 0)), .val (.int (1 : Int32))] [(.int (0 : Int32)), (.ref ea), (.ref o)])) rfl rfl (hb hby d9_54) _ ?_
      show Steps p.tables e below (T3.setTop (mkF m 55 #[.val (.ref o), .val (.ref ea), .val (.int (Int32.ofNat m1)), .val (.int (if m1 = 0 then -1 else es.getD (m1 - 1) 0)), .val (.int (1 : Int32))] [(.int (es.getD 0 0)), (.ref o)])) _
      refine stu5.trans ?_
      show Steps p.tables e below (Tu5.setTop (mkF m 58 #[.val (.ref o), .val (.ref ea), .val (.int (Int32.ofNat m1)), .val (.int (if m1 = 0 then -1 else es.getD (m1 - 1) 0)), .val (.int (1 : Int32))] [(.int (own_gt t 0 (es.getD 0 0)))])) _
      refine XS.ifNo Xu5.here hx rfl (hb hby d9_58) rfl ((if0 _ _).trans (teq hp0).2) ?_
      show Steps p.tables e below (Tu5.setTop (mkF m 61 #[.val (.ref o), .val (.ref ea), .val (.int (Int32.ofNat m1)), .val (.int (if m1 = 0 then -1 else es.getD (m1 - 1) 0)), .val (.int (1 : Int32))] [])) _
      refine XS.aloadN Xu5.here hx rfl (hb hby d9_61) rfl rfl ?_
      show Steps p.tables e below (Tu5.setTop (mkF m 62 #[.val (.ref o), .val (.ref ea), .val (.int (Int32.ofNat m1)), .val (.int (if m1 = 0 then -1 else es.getD (m1 - 1) 0)), .val (.int (1 : Int32))] [(.ref o)])) _
      refine XS.aloadN Xu5.here hx rfl (hb hby d9_62) rfl rfl ?_
      show Steps p.tables e below (Tu5.setTop (mkF m 63 #[.val (.ref o), .val (.ref ea), .val (.int (Int32.ofNat m1)), .val (.int (if m1 = 0 then -1 else es.getD (m1 - 1) 0)), .val (.int (1 : Int32))] [(.ref ea), (.ref o)])) _
      refine XS.iconst Xu5.here hx rfl (hb hby d9_63) ?_
      show Steps p.tables e below (Tu5.setTop (mkF m 64 #[.val (.ref o), .val (.ref ea), .val (.int (Int32.ofNat m1)), .val (.int (if m1 = 0 then -1 else es.getD (m1 - 1) 0)), .val (.int (1 : Int32))] [(.int (0 : Int32)), (.ref ea), (.ref o)])) _
      refine Xu5.iaload hx (j := (0 : Int32)) (v := (.int (es.getD 0 0))) (by rw [hu5]; exact Ar.1) (State.isArrayOf_alike hZ.alike Ar.2.1) Ar.2.2 (inb_of Sz ⟨by decide, by decide⟩) (own_at4 Sz Hz (k := 0) rfl (by decide)) (g := (mkF m 64 #[.val (.ref o), .val (.ref ea), .val (.int (Int32.ofNat m1)), .val (.int (if m1 = 0 then -1 else es.getD (m1 - 1) 0)), .val (.int (1 : Int32))] [(.int (0 : Int32)), (.ref ea), (.ref o)])) rfl rfl (hb hby d9_64) _ ?_
      show Steps p.tables e below (Tu5.setTop (mkF m 65 #[.val (.ref o), .val (.ref ea), .val (.int (Int32.ofNat m1)), .val (.int (if m1 = 0 then -1 else es.getD (m1 - 1) 0)), .val (.int (1 : Int32))] [(.int (es.getD 0 0)), (.ref o)])) _
      refine stu6.trans ?_
      show Steps p.tables e below (Tu6.setTop (mkF m 68 #[.val (.ref o), .val (.ref ea), .val (.int (Int32.ofNat m1)), .val (.int (if m1 = 0 then -1 else es.getD (m1 - 1) 0)), .val (.int (1 : Int32))] [(.int (own_gt t 3 (es.getD 0 0)))])) _
      refine XS.aloadN Xu6.here hx rfl (hb hby d9_68) rfl rfl ?_
      show Steps p.tables e below (Tu6.setTop (mkF m 69 #[.val (.ref o), .val (.ref ea), .val (.int (Int32.ofNat m1)), .val (.int (if m1 = 0 then -1 else es.getD (m1 - 1) 0)), .val (.int (1 : Int32))] [(.ref ea), (.int (own_gt t 3 (es.getD 0 0)))])) _
      refine XS.iconst Xu6.here hx rfl (hb hby d9_69) ?_
      show Steps p.tables e below (Tu6.setTop (mkF m 70 #[.val (.ref o), .val (.ref ea), .val (.int (Int32.ofNat m1)), .val (.int (if m1 = 0 then -1 else es.getD (m1 - 1) 0)), .val (.int (1 : Int32))] [(.int (1 : Int32)), (.ref ea), (.int (own_gt t 3 (es.getD 0 0)))])) _
      refine Xu6.iaload hx (j := (1 : Int32)) (v := (.int (es.getD 1 0))) (by rw [hu6]; exact Ar.1) (State.isArrayOf_alike hZ.alike Ar.2.1) Ar.2.2 (inb_of Sz ⟨by decide, by decide⟩) (own_at4 Sz Hz (k := 1) rfl (by decide)) (g := (mkF m 70 #[.val (.ref o), .val (.ref ea), .val (.int (Int32.ofNat m1)), .val (.int (if m1 = 0 then -1 else es.getD (m1 - 1) 0)), .val (.int (1 : Int32))] [(.int (1 : Int32)), (.ref ea), (.int (own_gt t 3 (es.getD 0 0)))])) rfl rfl (hb hby d9_70) _ ?_
      show Steps p.tables e below (Tu6.setTop (mkF m 71 #[.val (.ref o), .val (.ref ea), .val (.int (Int32.ofNat m1)), .val (.int (if m1 = 0 then -1 else es.getD (m1 - 1) 0)), .val (.int (1 : Int32))] [(.int (es.getD 1 0)), (.int (own_gt t 3 (es.getD 0 0)))])) _
      refine XS.icmpNo Xu6.here hx rfl (hb hby d9_71) rfl (teq hn0).2 ?_
      show Steps p.tables e below (Tu6.setTop (mkF m 74 #[.val (.ref o), .val (.ref ea), .val (.int (Int32.ofNat m1)), .val (.int (if m1 = 0 then -1 else es.getD (m1 - 1) 0)), .val (.int (1 : Int32))] [])) _
      refine XS.iconst Xu6.here hx rfl (hb hby d9_74) ?_
      show Steps p.tables e below (Tu6.setTop (mkF m 75 #[.val (.ref o), .val (.ref ea), .val (.int (Int32.ofNat m1)), .val (.int (if m1 = 0 then -1 else es.getD (m1 - 1) 0)), .val (.int (1 : Int32))] [(.int (1 : Int32))])) _
      refine XS.goto Xu6.here hx rfl (pc0 := 75) (pc' := 79) rfl (hb hby d9_75) (by decide) (by decide) ?_
      show Steps p.tables e below (Tu6.setTop (mkF m 79 #[.val (.ref o), .val (.ref ea), .val (.int (Int32.ofNat m1)), .val (.int (if m1 = 0 then -1 else es.getD (m1 - 1) 0)), .val (.int (1 : Int32))] [(.int (1 : Int32))])) _
      refine XS.istore Xu6.here hx rfl (hb hby d9_79) rfl (l' := #[.val (.ref o), .val (.ref ea), .val (.int (Int32.ofNat m1)), .val (.int (if m1 = 0 then -1 else es.getD (m1 - 1) 0)), .val (.int (1 : Int32))]) rfl ?_
      show Steps p.tables e below (Tu6.setTop (mkF m 81 #[.val (.ref o), .val (.ref ea), .val (.int (Int32.ofNat m1)), .val (.int (if m1 = 0 then -1 else es.getD (m1 - 1) 0)), .val (.int (1 : Int32))] [])) _
      refine XS.iloadN Xu6.here hx rfl (hb hby d9_81) rfl ?_
      show Steps p.tables e below (Tu6.setTop (mkF m 82 #[.val (.ref o), .val (.ref ea), .val (.int (Int32.ofNat m1)), .val (.int (if m1 = 0 then -1 else es.getD (m1 - 1) 0)), .val (.int (1 : Int32))] [(.int (Int32.ofNat m1))])) _
      refine XS.iconst Xu6.here hx rfl (hb hby d9_82) ?_
      exact kt
    by_cases e1 : m1 = 1
    · skip
      have preuy8 : ∀ tt, Steps p.tables e below (Tu6.setTop (mkF m 163 #[.val (.ref o), .val (.ref ea), .val (.int (Int32.ofNat m1)), .val (.int (if m1 = 0 then -1 else es.getD (m1 - 1) 0)), .val (.int (1 : Int32))] [(.int (1 : Int32))])) tt → Steps p.tables e below (s₁.setTop (entryFrame m #[(.ref o), (.ref ea), (.int (Int32.ofNat m1))] 5)) tt := by
        intro tt kt
        refine preu7 tt ?_
        show Steps p.tables e below (Tu6.setTop (mkF m 83 #[.val (.ref o), .val (.ref ea), .val (.int (Int32.ofNat m1)), .val (.int (if m1 = 0 then -1 else es.getD (m1 - 1) 0)), .val (.int (1 : Int32))] [(.int (2 : Int32)), (.int (Int32.ofNat m1))])) _
        refine XS.icmpYes Xu6.here hx rfl (pc0 := 83) (pc' := 121) rfl (hb hby d9_83) rfl (tlt (by rw [e1]; decide)).1 (by decide) (by decide) ?_
        show Steps p.tables e below (Tu6.setTop (mkF m 121 #[.val (.ref o), .val (.ref ea), .val (.int (Int32.ofNat m1)), .val (.int (if m1 = 0 then -1 else es.getD (m1 - 1) 0)), .val (.int (1 : Int32))] [])) _
        refine XS.iloadN Xu6.here hx rfl (hb hby d9_121) rfl ?_
        show Steps p.tables e below (Tu6.setTop (mkF m 122 #[.val (.ref o), .val (.ref ea), .val (.int (Int32.ofNat m1)), .val (.int (if m1 = 0 then -1 else es.getD (m1 - 1) 0)), .val (.int (1 : Int32))] [(.int (Int32.ofNat m1))])) _
        refine XS.iconst Xu6.here hx rfl (hb hby d9_122) ?_
        show Steps p.tables e below (Tu6.setTop (mkF m 123 #[.val (.ref o), .val (.ref ea), .val (.int (Int32.ofNat m1)), .val (.int (if m1 = 0 then -1 else es.getD (m1 - 1) 0)), .val (.int (1 : Int32))] [(.int (3 : Int32)), (.int (Int32.ofNat m1))])) _
        refine XS.icmpYes Xu6.here hx rfl (pc0 := 123) (pc' := 161) rfl (hb hby d9_123) rfl (tlt (by rw [e1]; decide)).1 (by decide) (by decide) ?_
        show Steps p.tables e below (Tu6.setTop (mkF m 161 #[.val (.ref o), .val (.ref ea), .val (.int (Int32.ofNat m1)), .val (.int (if m1 = 0 then -1 else es.getD (m1 - 1) 0)), .val (.int (1 : Int32))] [])) _
        refine XS.iload Xu6.here hx rfl (hb hby d9_161) rfl ?_
        exact kt
      obtain ⟨fs, hr, hrun, hended, hW, hsame⟩ := Xu6.leave (v := some (.int (1 : Int32))) (fun h => by rw [Bd.returns] at h; cases h)
      refine ⟨_, _, preuy8 _ ?_, hrun, hended, _, _, rfl, ?_, ⟨_, rfl⟩, hW, hsame.mono (by decide) (by decide)⟩
      · exact retN Xu6 hx (t := .boolean) Bd.returns (by simp) (hb hby d9_163) hr
      · show QrmC Z o ad kc t ea ke es m1 h0 n0 _ Tu6.heap _
        rw [hu6]
        exact ⟨rfl, Nxu6, rfl⟩
    · obtain ⟨hr1, hp1, hn1⟩ := hi 1 (by omega)
      have hge1 : ¬ Int32.ofNat m1 < (2 : Int32) := by rcases hm' with rfl | rfl | rfl | rfl <;> first | decide | omega
      obtain ⟨cquv8, kquv8, quv8a, quv8b, quv8c⟩ := isOf hZ hu6 (Tr.exa H0)
      obtain ⟨_, _, ⟨Tuv8, Luv8, kuv8, nuv8⟩, -, Xuv8, ⟨Lcuv8, hQuv8, luv8, yuv8, zuv8⟩, stuv8⟩ := Xu6.virtualBack hx (y := (⟨"com/example/pith/pith/html/PageTree", "parent", "(I)I"⟩ : MethodName)) (z := (⟨"com/example/pith/pith/html/PageTree", "parent", "(I)I"⟩ : MethodName)) hown (mvT hZ (hw _ (List.mem_of_getElem? (i := 57) rfl))) (mvT hZ (hw _ (List.mem_of_getElem? (i := 58) rfl))) (notFace_of_selects (args := #[]) (mvT hZ (hw _ (List.mem_of_getElem? (i := 60) rfl)))) (mvT hZ (hw _ (List.mem_of_getElem? (i := 60) rfl))) (mvT hZ (hw _ (List.mem_of_getElem? (i := 59) rfl))) (by decide) (backOf (W := 0) (rmP l Z a0 hw [] o ad kc t (es.getD 1 0) h0 n0 Z0 H0 (own_r64 hr1)) hZ (hw _ (List.mem_of_getElem? (i := 61) rfl)) (hw _ (List.mem_of_getElem? (i := 2) rfl)) (by decide) (by decide)) quv8a quv8c (g := (mkF m 95 #[.val (.ref o), .val (.ref ea), .val (.int (Int32.ofNat m1)), .val (.int (if m1 = 0 then -1 else es.getD (m1 - 1) 0)), .val (.int (1 : Int32))] [(.int (es.getD 1 0)), (.ref o)])) rfl (by rw [hml]; rfl) (Steps.refl _) (argsL := [(.int (es.getD 1 0))]) (rest := []) (lenOf pd_2 rfl) rfl (by show 2 * 0 + _ ≤ _; exact Nat.le_of_eq rfl) (hb hby d9_95) (fun _ _ => ⟨rfl, hu6, (by decide : 0 + 0 ≤ _), (by decide : 0 + 0 ≤ _)⟩)
      dsimp only [Pt.U, Pt.locs, Pt.cells, Pt.slots] at Xuv8 luv8 yuv8 zuv8 stuv8 hQuv8
      subst luv8 yuv8 zuv8
      obtain ⟨rfl, Nuv8q, huv8⟩ := hQuv8
      have Nuv8 := Fr.app Nxu6 Nuv8q
      obtain ⟨Lxuv8, Xuv8, Nxuv8⟩ : ∃ L, Stand p l e ({ frames := 1, cells := 0, slots := 0, locals := 14 } : Room) s m #[(.ref o), (.ref ea), (.int (Int32.ofNat m1))] below meth c Tuv8 L 0 0 ∧ Fr n0 L := ⟨_, Xuv8.more (by decide) (by decide), Nuv8⟩
      obtain ⟨cquv9, kquv9, quv9a, quv9b, quv9c⟩ := isOf hZ huv8 (Tr.exa H0)
      obtain ⟨_, _, ⟨Tuv9, Luv9, kuv9, nuv9⟩, -, Xuv9, ⟨Lcuv9, hQuv9, luv9, yuv9, zuv9⟩, stuv9⟩ := Xuv8.virtualBack hx (y := (⟨"com/example/pith/pith/html/PageTree", "next", "(I)I"⟩ : MethodName)) (z := (⟨"com/example/pith/pith/html/PageTree", "next", "(I)I"⟩ : MethodName)) hown (mvT hZ (hw _ (List.mem_of_getElem? (i := 62) rfl))) (mvT hZ (hw _ (List.mem_of_getElem? (i := 63) rfl))) (notFace_of_selects (args := #[]) (mvT hZ (hw _ (List.mem_of_getElem? (i := 65) rfl)))) (mvT hZ (hw _ (List.mem_of_getElem? (i := 65) rfl))) (mvT hZ (hw _ (List.mem_of_getElem? (i := 64) rfl))) (by decide) (backOf (W := 0) (rmX l Z a0 hw [] o ad kc t (es.getD 1 0) h0 n0 Z0 H0 (own_r64 hr1)) hZ (hw _ (List.mem_of_getElem? (i := 66) rfl)) (hw _ (List.mem_of_getElem? (i := 2) rfl)) (by decide) (by decide)) quv9a quv9c (g := (mkF m 105 #[.val (.ref o), .val (.ref ea), .val (.int (Int32.ofNat m1)), .val (.int (if m1 = 0 then -1 else es.getD (m1 - 1) 0)), .val (.int (1 : Int32))] [(.int (es.getD 1 0)), (.ref o)])) rfl (by rw [hml]; rfl) (Steps.refl _) (argsL := [(.int (es.getD 1 0))]) (rest := []) (lenOf pd_2 rfl) rfl (by show 2 * 0 + _ ≤ _; exact Nat.le_of_eq rfl) (hb hby d9_105) (fun _ _ => ⟨rfl, huv8, (by decide : 0 + 0 ≤ _), (by decide : 0 + 0 ≤ _)⟩)
      dsimp only [Pt.U, Pt.locs, Pt.cells, Pt.slots] at Xuv9 luv9 yuv9 zuv9 stuv9 hQuv9
      subst luv9 yuv9 zuv9
      obtain ⟨rfl, Nuv9q, huv9⟩ := hQuv9
      have Nuv9 := Fr.app Nxuv8 Nuv9q
      obtain ⟨Lxuv9, Xuv9, Nxuv9⟩ : ∃ L, Stand p l e ({ frames := 1, cells := 0, slots := 0, locals := 14 } : Room) s m #[(.ref o), (.ref ea), (.int (Int32.ofNat m1))] below meth c Tuv9 L 0 0 ∧ Fr n0 L := ⟨_, Xuv9.more (by decide) (by decide), Nuv9⟩
      have preuv10 : ∀ tt, Steps p.tables e below (Tuv9.setTop (mkF m 123 #[.val (.ref o), .val (.ref ea), .val (.int (Int32.ofNat m1)), .val (.int (if m1 = 0 then -1 else es.getD (m1 - 1) 0)), .val (.int (1 : Int32))] [(.int (3 : Int32)), (.int (Int32.ofNat m1))])) tt → Steps p.tables e below (s₁.setTop (entryFrame m #[(.ref o), (.ref ea), (.int (Int32.ofNat m1))] 5)) tt := by
        intro tt kt
        refine preu7 tt ?_
        show Steps p.tables e below (Tu6.setTop (mkF m 83 #[.val (.ref o), .val (.ref ea), .val (.int (Int32.ofNat m1)), .val (.int (if m1 = 0 then -1 else es.getD (m1 - 1) 0)), .val (.int (1 : Int32))] [(.int (2 : Int32)), (.int (Int32.ofNat m1))])) _
        refine XS.icmpNo Xu6.here hx rfl (hb hby d9_83) rfl (flt hge1).1 ?_
        show Steps p.tables e below (Tu6.setTop (mkF m 86 #[.val (.ref o), .val (.ref ea), .val (.int (Int32.ofNat m1)), .val (.int (if m1 = 0 then -1 else es.getD (m1 - 1) 0)), .val (.int (1 : Int32))] [])) _
        refine XS.iload Xu6.here hx rfl (hb hby d9_86) rfl ?_
        show Steps p.tables e below (Tu6.setTop (mkF m 88 #[.val (.ref o), .val (.ref ea), .val (.int (Int32.ofNat m1)), .val (.int (if m1 = 0 then -1 else es.getD (m1 - 1) 0)), .val (.int (1 : Int32))] [(.int (1 : Int32))])) _
        refine XS.ifNo Xu6.here hx rfl (hb hby d9_88) rfl ((if0 _ _).trans (feq (by decide)).1) ?_
        show Steps p.tables e below (Tu6.setTop (mkF m 91 #[.val (.ref o), .val (.ref ea), .val (.int (Int32.ofNat m1)), .val (.int (if m1 = 0 then -1 else es.getD (m1 - 1) 0)), .val (.int (1 : Int32))] [])) _
        refine XS.aloadN Xu6.here hx rfl (hb hby d9_91) rfl rfl ?_
        show Steps p.tables e below (Tu6.setTop (mkF m 92 #[.val (.ref o), .val (.ref ea), .val (.int (Int32.ofNat m1)), .val (.int (if m1 = 0 then -1 else es.getD (m1 - 1) 0)), .val (.int (1 : Int32))] [(.ref o)])) _
        refine XS.aloadN Xu6.here hx rfl (hb hby d9_92) rfl rfl ?_
        show Steps p.tables e below (Tu6.setTop (mkF m 93 #[.val (.ref o), .val (.ref ea), .val (.int (Int32.ofNat m1)), .val (.int (if m1 = 0 then -1 else es.getD (m1 - 1) 0)), .val (.int (1 : Int32))] [(.ref ea), (.ref o)])) _
        refine XS.iconst Xu6.here hx rfl (hb hby d9_93) ?_
        show Steps p.tables e below (Tu6.setTop (mkF m 94 #[.val (.ref o), .val (.ref ea), .val (.int (Int32.ofNat m1)), .val (.int (if m1 = 0 then -1 else es.getD (m1 - 1) 0)), .val (.int (1 : Int32))] [(.int (1 : Int32)), (.ref ea), (.ref o)])) _
        refine Xu6.iaload hx (j := (1 : Int32)) (v := (.int (es.getD 1 0))) (by rw [hu6]; exact Ar.1) (State.isArrayOf_alike hZ.alike Ar.2.1) Ar.2.2 (inb_of Sz ⟨by decide, by decide⟩) (own_at4 Sz Hz (k := 1) rfl (by decide)) (g := (mkF m 94 #[.val (.ref o), .val (.ref ea), .val (.int (Int32.ofNat m1)), .val (.int (if m1 = 0 then -1 else es.getD (m1 - 1) 0)), .val (.int (1 : Int32))] [(.int (1 : Int32)), (.ref ea), (.ref o)])) rfl rfl (hb hby d9_94) _ ?_
        show Steps p.tables e below (Tu6.setTop (mkF m 95 #[.val (.ref o), .val (.ref ea), .val (.int (Int32.ofNat m1)), .val (.int (if m1 = 0 then -1 else es.getD (m1 - 1) 0)), .val (.int (1 : Int32))] [(.int (es.getD 1 0)), (.ref o)])) _
        refine stuv8.trans ?_
        show Steps p.tables e below (Tuv8.setTop (mkF m 98 #[.val (.ref o), .val (.ref ea), .val (.int (Int32.ofNat m1)), .val (.int (if m1 = 0 then -1 else es.getD (m1 - 1) 0)), .val (.int (1 : Int32))] [(.int (own_gt t 0 (es.getD 1 0)))])) _
        refine XS.ifNo Xuv8.here hx rfl (hb hby d9_98) rfl ((if0 _ _).trans (teq hp1).2) ?_
        show Steps p.tables e below (Tuv8.setTop (mkF m 101 #[.val (.ref o), .val (.ref ea), .val (.int (Int32.ofNat m1)), .val (.int (if m1 = 0 then -1 else es.getD (m1 - 1) 0)), .val (.int (1 : Int32))] [])) _
        refine XS.aloadN Xuv8.here hx rfl (hb hby d9_101) rfl rfl ?_
        show Steps p.tables e below (Tuv8.setTop (mkF m 102 #[.val (.ref o), .val (.ref ea), .val (.int (Int32.ofNat m1)), .val (.int (if m1 = 0 then -1 else es.getD (m1 - 1) 0)), .val (.int (1 : Int32))] [(.ref o)])) _
        refine XS.aloadN Xuv8.here hx rfl (hb hby d9_102) rfl rfl ?_
        show Steps p.tables e below (Tuv8.setTop (mkF m 103 #[.val (.ref o), .val (.ref ea), .val (.int (Int32.ofNat m1)), .val (.int (if m1 = 0 then -1 else es.getD (m1 - 1) 0)), .val (.int (1 : Int32))] [(.ref ea), (.ref o)])) _
        refine XS.iconst Xuv8.here hx rfl (hb hby d9_103) ?_
        show Steps p.tables e below (Tuv8.setTop (mkF m 104 #[.val (.ref o), .val (.ref ea), .val (.int (Int32.ofNat m1)), .val (.int (if m1 = 0 then -1 else es.getD (m1 - 1) 0)), .val (.int (1 : Int32))] [(.int (1 : Int32)), (.ref ea), (.ref o)])) _
        refine Xuv8.iaload hx (j := (1 : Int32)) (v := (.int (es.getD 1 0))) (by rw [huv8]; exact Ar.1) (State.isArrayOf_alike hZ.alike Ar.2.1) Ar.2.2 (inb_of Sz ⟨by decide, by decide⟩) (own_at4 Sz Hz (k := 1) rfl (by decide)) (g := (mkF m 104 #[.val (.ref o), .val (.ref ea), .val (.int (Int32.ofNat m1)), .val (.int (if m1 = 0 then -1 else es.getD (m1 - 1) 0)), .val (.int (1 : Int32))] [(.int (1 : Int32)), (.ref ea), (.ref o)])) rfl rfl (hb hby d9_104) _ ?_
        show Steps p.tables e below (Tuv8.setTop (mkF m 105 #[.val (.ref o), .val (.ref ea), .val (.int (Int32.ofNat m1)), .val (.int (if m1 = 0 then -1 else es.getD (m1 - 1) 0)), .val (.int (1 : Int32))] [(.int (es.getD 1 0)), (.ref o)])) _
        refine stuv9.trans ?_
        show Steps p.tables e below (Tuv9.setTop (mkF m 108 #[.val (.ref o), .val (.ref ea), .val (.int (Int32.ofNat m1)), .val (.int (if m1 = 0 then -1 else es.getD (m1 - 1) 0)), .val (.int (1 : Int32))] [(.int (own_gt t 3 (es.getD 1 0)))])) _
        refine XS.aloadN Xuv9.here hx rfl (hb hby d9_108) rfl rfl ?_
        show Steps p.tables e below (Tuv9.setTop (mkF m 109 #[.val (.ref o), .val (.ref ea), .val (.int (Int32.ofNat m1)), .val (.int (if m1 = 0 then -1 else es.getD (m1 - 1) 0)), .val (.int (1 : Int32))] [(.ref ea), (.int (own_gt t 3 (es.getD 1 0)))])) _
        refine XS.iconst Xuv9.here hx rfl (hb hby d9_109) ?_
        show Steps p.tables e below (Tuv9.setTop (mkF m 110 #[.val (.ref o), .val (.ref ea), .val (.int (Int32.ofNat m1)), .val (.int (if m1 = 0 then -1 else es.getD (m1 - 1) 0)), .val (.int (1 : Int32))] [(.int (2 : Int32)), (.ref ea), (.int (own_gt t 3 (es.getD 1 0)))])) _
        refine Xuv9.iaload hx (j := (2 : Int32)) (v := (.int (es.getD 2 0))) (by rw [huv9]; exact Ar.1) (State.isArrayOf_alike hZ.alike Ar.2.1) Ar.2.2 (inb_of Sz ⟨by decide, by decide⟩) (own_at4 Sz Hz (k := 2) rfl (by decide)) (g := (mkF m 110 #[.val (.ref o), .val (.ref ea), .val (.int (Int32.ofNat m1)), .val (.int (if m1 = 0 then -1 else es.getD (m1 - 1) 0)), .val (.int (1 : Int32))] [(.int (2 : Int32)), (.ref ea), (.int (own_gt t 3 (es.getD 1 0)))])) rfl rfl (hb hby d9_110) _ ?_
        show Steps p.tables e below (Tuv9.setTop (mkF m 111 #[.val (.ref o), .val (.ref ea), .val (.int (Int32.ofNat m1)), .val (.int (if m1 = 0 then -1 else es.getD (m1 - 1) 0)), .val (.int (1 : Int32))] [(.int (es.getD 2 0)), (.int (own_gt t 3 (es.getD 1 0)))])) _
        refine XS.icmpNo Xuv9.here hx rfl (hb hby d9_111) rfl (teq hn1).2 ?_
        show Steps p.tables e below (Tuv9.setTop (mkF m 114 #[.val (.ref o), .val (.ref ea), .val (.int (Int32.ofNat m1)), .val (.int (if m1 = 0 then -1 else es.getD (m1 - 1) 0)), .val (.int (1 : Int32))] [])) _
        refine XS.iconst Xuv9.here hx rfl (hb hby d9_114) ?_
        show Steps p.tables e below (Tuv9.setTop (mkF m 115 #[.val (.ref o), .val (.ref ea), .val (.int (Int32.ofNat m1)), .val (.int (if m1 = 0 then -1 else es.getD (m1 - 1) 0)), .val (.int (1 : Int32))] [(.int (1 : Int32))])) _
        refine XS.goto Xuv9.here hx rfl (pc0 := 115) (pc' := 119) rfl (hb hby d9_115) (by decide) (by decide) ?_
        show Steps p.tables e below (Tuv9.setTop (mkF m 119 #[.val (.ref o), .val (.ref ea), .val (.int (Int32.ofNat m1)), .val (.int (if m1 = 0 then -1 else es.getD (m1 - 1) 0)), .val (.int (1 : Int32))] [(.int (1 : Int32))])) _
        refine XS.istore Xuv9.here hx rfl (hb hby d9_119) rfl (l' := #[.val (.ref o), .val (.ref ea), .val (.int (Int32.ofNat m1)), .val (.int (if m1 = 0 then -1 else es.getD (m1 - 1) 0)), .val (.int (1 : Int32))]) rfl ?_
        show Steps p.tables e below (Tuv9.setTop (mkF m 121 #[.val (.ref o), .val (.ref ea), .val (.int (Int32.ofNat m1)), .val (.int (if m1 = 0 then -1 else es.getD (m1 - 1) 0)), .val (.int (1 : Int32))] [])) _
        refine XS.iloadN Xuv9.here hx rfl (hb hby d9_121) rfl ?_
        show Steps p.tables e below (Tuv9.setTop (mkF m 122 #[.val (.ref o), .val (.ref ea), .val (.int (Int32.ofNat m1)), .val (.int (if m1 = 0 then -1 else es.getD (m1 - 1) 0)), .val (.int (1 : Int32))] [(.int (Int32.ofNat m1))])) _
        refine XS.iconst Xuv9.here hx rfl (hb hby d9_122) ?_
        exact kt
      by_cases e2 : m1 = 2
      · skip
        have preuvz11 : ∀ tt, Steps p.tables e below (Tuv9.setTop (mkF m 163 #[.val (.ref o), .val (.ref ea), .val (.int (Int32.ofNat m1)), .val (.int (if m1 = 0 then -1 else es.getD (m1 - 1) 0)), .val (.int (1 : Int32))] [(.int (1 : Int32))])) tt → Steps p.tables e below (s₁.setTop (entryFrame m #[(.ref o), (.ref ea), (.int (Int32.ofNat m1))] 5)) tt := by
          intro tt kt
          refine preuv10 tt ?_
          show Steps p.tables e below (Tuv9.setTop (mkF m 123 #[.val (.ref o), .val (.ref ea), .val (.int (Int32.ofNat m1)), .val (.int (if m1 = 0 then -1 else es.getD (m1 - 1) 0)), .val (.int (1 : Int32))] [(.int (3 : Int32)), (.int (Int32.ofNat m1))])) _
          refine XS.icmpYes Xuv9.here hx rfl (pc0 := 123) (pc' := 161) rfl (hb hby d9_123) rfl (tlt (by rw [e2]; decide)).1 (by decide) (by decide) ?_
          show Steps p.tables e below (Tuv9.setTop (mkF m 161 #[.val (.ref o), .val (.ref ea), .val (.int (Int32.ofNat m1)), .val (.int (if m1 = 0 then -1 else es.getD (m1 - 1) 0)), .val (.int (1 : Int32))] [])) _
          refine XS.iload Xuv9.here hx rfl (hb hby d9_161) rfl ?_
          exact kt
        obtain ⟨fs, hr, hrun, hended, hW, hsame⟩ := Xuv9.leave (v := some (.int (1 : Int32))) (fun h => by rw [Bd.returns] at h; cases h)
        refine ⟨_, _, preuvz11 _ ?_, hrun, hended, _, _, rfl, ?_, ⟨_, rfl⟩, hW, hsame.mono (by decide) (by decide)⟩
        · exact retN Xuv9 hx (t := .boolean) Bd.returns (by simp) (hb hby d9_163) hr
        · show QrmC Z o ad kc t ea ke es m1 h0 n0 _ Tuv9.heap _
          rw [huv9]
          exact ⟨rfl, Nxuv9, rfl⟩
      · obtain ⟨hr2, hp2, hn2⟩ := hi 2 (by omega)
        have hge2 : ¬ Int32.ofNat m1 < (3 : Int32) := by rcases hm' with rfl | rfl | rfl | rfl <;> first | decide | omega
        obtain ⟨cquvw11, kquvw11, quvw11a, quvw11b, quvw11c⟩ := isOf hZ huv9 (Tr.exa H0)
        obtain ⟨_, _, ⟨Tuvw11, Luvw11, kuvw11, nuvw11⟩, -, Xuvw11, ⟨Lcuvw11, hQuvw11, luvw11, yuvw11, zuvw11⟩, stuvw11⟩ := Xuv9.virtualBack hx (y := (⟨"com/example/pith/pith/html/PageTree", "parent", "(I)I"⟩ : MethodName)) (z := (⟨"com/example/pith/pith/html/PageTree", "parent", "(I)I"⟩ : MethodName)) hown (mvT hZ (hw _ (List.mem_of_getElem? (i := 57) rfl))) (mvT hZ (hw _ (List.mem_of_getElem? (i := 58) rfl))) (notFace_of_selects (args := #[]) (mvT hZ (hw _ (List.mem_of_getElem? (i := 60) rfl)))) (mvT hZ (hw _ (List.mem_of_getElem? (i := 60) rfl))) (mvT hZ (hw _ (List.mem_of_getElem? (i := 59) rfl))) (by decide) (backOf (W := 0) (rmP l Z a0 hw [] o ad kc t (es.getD 2 0) h0 n0 Z0 H0 (own_r64 hr2)) hZ (hw _ (List.mem_of_getElem? (i := 61) rfl)) (hw _ (List.mem_of_getElem? (i := 2) rfl)) (by decide) (by decide)) quvw11a quvw11c (g := (mkF m 135 #[.val (.ref o), .val (.ref ea), .val (.int (Int32.ofNat m1)), .val (.int (if m1 = 0 then -1 else es.getD (m1 - 1) 0)), .val (.int (1 : Int32))] [(.int (es.getD 2 0)), (.ref o)])) rfl (by rw [hml]; rfl) (Steps.refl _) (argsL := [(.int (es.getD 2 0))]) (rest := []) (lenOf pd_2 rfl) rfl (by show 2 * 0 + _ ≤ _; exact Nat.le_of_eq rfl) (hb hby d9_135) (fun _ _ => ⟨rfl, huv9, (by decide : 0 + 0 ≤ _), (by decide : 0 + 0 ≤ _)⟩)
        dsimp only [Pt.U, Pt.locs, Pt.cells, Pt.slots] at Xuvw11 luvw11 yuvw11 zuvw11 stuvw11 hQuvw11
        subst luvw11 yuvw11 zuvw11
        obtain ⟨rfl, Nuvw11q, huvw11⟩ := hQuvw11
        have Nuvw11 := Fr.app Nxuv9 Nuvw11q
        obtain ⟨Lxuvw11, Xuvw11, Nxuvw11⟩ : ∃ L, Stand p l e ({ frames := 1, cells := 0, slots := 0, locals := 14 } : Room) s m #[(.ref o), (.ref ea), (.int (Int32.ofNat m1))] below meth c Tuvw11 L 0 0 ∧ Fr n0 L := ⟨_, Xuvw11.more (by decide) (by decide), Nuvw11⟩
        obtain ⟨cquvw12, kquvw12, quvw12a, quvw12b, quvw12c⟩ := isOf hZ huvw11 (Tr.exa H0)
        obtain ⟨_, _, ⟨Tuvw12, Luvw12, kuvw12, nuvw12⟩, -, Xuvw12, ⟨Lcuvw12, hQuvw12, luvw12, yuvw12, zuvw12⟩, stuvw12⟩ := Xuvw11.virtualBack hx (y := (⟨"com/example/pith/pith/html/PageTree", "next", "(I)I"⟩ : MethodName)) (z := (⟨"com/example/pith/pith/html/PageTree", "next", "(I)I"⟩ : MethodName)) hown (mvT hZ (hw _ (List.mem_of_getElem? (i := 62) rfl))) (mvT hZ (hw _ (List.mem_of_getElem? (i := 63) rfl))) (notFace_of_selects (args := #[]) (mvT hZ (hw _ (List.mem_of_getElem? (i := 65) rfl)))) (mvT hZ (hw _ (List.mem_of_getElem? (i := 65) rfl))) (mvT hZ (hw _ (List.mem_of_getElem? (i := 64) rfl))) (by decide) (backOf (W := 0) (rmX l Z a0 hw [] o ad kc t (es.getD 2 0) h0 n0 Z0 H0 (own_r64 hr2)) hZ (hw _ (List.mem_of_getElem? (i := 66) rfl)) (hw _ (List.mem_of_getElem? (i := 2) rfl)) (by decide) (by decide)) quvw12a quvw12c (g := (mkF m 145 #[.val (.ref o), .val (.ref ea), .val (.int (Int32.ofNat m1)), .val (.int (if m1 = 0 then -1 else es.getD (m1 - 1) 0)), .val (.int (1 : Int32))] [(.int (es.getD 2 0)), (.ref o)])) rfl (by rw [hml]; rfl) (Steps.refl _) (argsL := [(.int (es.getD 2 0))]) (rest := []) (lenOf pd_2 rfl) rfl (by show 2 * 0 + _ ≤ _; exact Nat.le_of_eq rfl) (hb hby d9_145) (fun _ _ => ⟨rfl, huvw11, (by decide : 0 + 0 ≤ _), (by decide : 0 + 0 ≤ _)⟩)
        dsimp only [Pt.U, Pt.locs, Pt.cells, Pt.slots] at Xuvw12 luvw12 yuvw12 zuvw12 stuvw12 hQuvw12
        subst luvw12 yuvw12 zuvw12
        obtain ⟨rfl, Nuvw12q, huvw12⟩ := hQuvw12
        have Nuvw12 := Fr.app Nxuvw11 Nuvw12q
        obtain ⟨Lxuvw12, Xuvw12, Nxuvw12⟩ : ∃ L, Stand p l e ({ frames := 1, cells := 0, slots := 0, locals := 14 } : Room) s m #[(.ref o), (.ref ea), (.int (Int32.ofNat m1))] below meth c Tuvw12 L 0 0 ∧ Fr n0 L := ⟨_, Xuvw12.more (by decide) (by decide), Nuvw12⟩
        have preuvw13 : ∀ tt, Steps p.tables e below (Tuvw12.setTop (mkF m 163 #[.val (.ref o), .val (.ref ea), .val (.int (Int32.ofNat m1)), .val (.int (if m1 = 0 then -1 else es.getD (m1 - 1) 0)), .val (.int (1 : Int32))] [(.int (1 : Int32))])) tt → Steps p.tables e below (s₁.setTop (entryFrame m #[(.ref o), (.ref ea), (.int (Int32.ofNat m1))] 5)) tt := by
          intro tt kt
          refine preuv10 tt ?_
          show Steps p.tables e below (Tuv9.setTop (mkF m 123 #[.val (.ref o), .val (.ref ea), .val (.int (Int32.ofNat m1)), .val (.int (if m1 = 0 then -1 else es.getD (m1 - 1) 0)), .val (.int (1 : Int32))] [(.int (3 : Int32)), (.int (Int32.ofNat m1))])) _
          refine XS.icmpNo Xuv9.here hx rfl (hb hby d9_123) rfl (flt hge2).1 ?_
          show Steps p.tables e below (Tuv9.setTop (mkF m 126 #[.val (.ref o), .val (.ref ea), .val (.int (Int32.ofNat m1)), .val (.int (if m1 = 0 then -1 else es.getD (m1 - 1) 0)), .val (.int (1 : Int32))] [])) _
          refine XS.iload Xuv9.here hx rfl (hb hby d9_126) rfl ?_
          show Steps p.tables e below (Tuv9.setTop (mkF m 128 #[.val (.ref o), .val (.ref ea), .val (.int (Int32.ofNat m1)), .val (.int (if m1 = 0 then -1 else es.getD (m1 - 1) 0)), .val (.int (1 : Int32))] [(.int (1 : Int32))])) _
          refine XS.ifNo Xuv9.here hx rfl (hb hby d9_128) rfl ((if0 _ _).trans (feq (by decide)).1) ?_
          show Steps p.tables e below (Tuv9.setTop (mkF m 131 #[.val (.ref o), .val (.ref ea), .val (.int (Int32.ofNat m1)), .val (.int (if m1 = 0 then -1 else es.getD (m1 - 1) 0)), .val (.int (1 : Int32))] [])) _
          refine XS.aloadN Xuv9.here hx rfl (hb hby d9_131) rfl rfl ?_
          show Steps p.tables e below (Tuv9.setTop (mkF m 132 #[.val (.ref o), .val (.ref ea), .val (.int (Int32.ofNat m1)), .val (.int (if m1 = 0 then -1 else es.getD (m1 - 1) 0)), .val (.int (1 : Int32))] [(.ref o)])) _
          refine XS.aloadN Xuv9.here hx rfl (hb hby d9_132) rfl rfl ?_
          show Steps p.tables e below (Tuv9.setTop (mkF m 133 #[.val (.ref o), .val (.ref ea), .val (.int (Int32.ofNat m1)), .val (.int (if m1 = 0 then -1 else es.getD (m1 - 1) 0)), .val (.int (1 : Int32))] [(.ref ea), (.ref o)])) _
          refine XS.iconst Xuv9.here hx rfl (hb hby d9_133) ?_
          show Steps p.tables e below (Tuv9.setTop (mkF m 134 #[.val (.ref o), .val (.ref ea), .val (.int (Int32.ofNat m1)), .val (.int (if m1 = 0 then -1 else es.getD (m1 - 1) 0)), .val (.int (1 : Int32))] [(.int (2 : Int32)), (.ref ea), (.ref o)])) _
          refine Xuv9.iaload hx (j := (2 : Int32)) (v := (.int (es.getD 2 0))) (by rw [huv9]; exact Ar.1) (State.isArrayOf_alike hZ.alike Ar.2.1) Ar.2.2 (inb_of Sz ⟨by decide, by decide⟩) (own_at4 Sz Hz (k := 2) rfl (by decide)) (g := (mkF m 134 #[.val (.ref o), .val (.ref ea), .val (.int (Int32.ofNat m1)), .val (.int (if m1 = 0 then -1 else es.getD (m1 - 1) 0)), .val (.int (1 : Int32))] [(.int (2 : Int32)), (.ref ea), (.ref o)])) rfl rfl (hb hby d9_134) _ ?_
          show Steps p.tables e below (Tuv9.setTop (mkF m 135 #[.val (.ref o), .val (.ref ea), .val (.int (Int32.ofNat m1)), .val (.int (if m1 = 0 then -1 else es.getD (m1 - 1) 0)), .val (.int (1 : Int32))] [(.int (es.getD 2 0)), (.ref o)])) _
          refine stuvw11.trans ?_
          show Steps p.tables e below (Tuvw11.setTop (mkF m 138 #[.val (.ref o), .val (.ref ea), .val (.int (Int32.ofNat m1)), .val (.int (if m1 = 0 then -1 else es.getD (m1 - 1) 0)), .val (.int (1 : Int32))] [(.int (own_gt t 0 (es.getD 2 0)))])) _
          refine XS.ifNo Xuvw11.here hx rfl (hb hby d9_138) rfl ((if0 _ _).trans (teq hp2).2) ?_
          show Steps p.tables e below (Tuvw11.setTop (mkF m 141 #[.val (.ref o), .val (.ref ea), .val (.int (Int32.ofNat m1)), .val (.int (if m1 = 0 then -1 else es.getD (m1 - 1) 0)), .val (.int (1 : Int32))] [])) _
          refine XS.aloadN Xuvw11.here hx rfl (hb hby d9_141) rfl rfl ?_
          show Steps p.tables e below (Tuvw11.setTop (mkF m 142 #[.val (.ref o), .val (.ref ea), .val (.int (Int32.ofNat m1)), .val (.int (if m1 = 0 then -1 else es.getD (m1 - 1) 0)), .val (.int (1 : Int32))] [(.ref o)])) _
          refine XS.aloadN Xuvw11.here hx rfl (hb hby d9_142) rfl rfl ?_
          show Steps p.tables e below (Tuvw11.setTop (mkF m 143 #[.val (.ref o), .val (.ref ea), .val (.int (Int32.ofNat m1)), .val (.int (if m1 = 0 then -1 else es.getD (m1 - 1) 0)), .val (.int (1 : Int32))] [(.ref ea), (.ref o)])) _
          refine XS.iconst Xuvw11.here hx rfl (hb hby d9_143) ?_
          show Steps p.tables e below (Tuvw11.setTop (mkF m 144 #[.val (.ref o), .val (.ref ea), .val (.int (Int32.ofNat m1)), .val (.int (if m1 = 0 then -1 else es.getD (m1 - 1) 0)), .val (.int (1 : Int32))] [(.int (2 : Int32)), (.ref ea), (.ref o)])) _
          refine Xuvw11.iaload hx (j := (2 : Int32)) (v := (.int (es.getD 2 0))) (by rw [huvw11]; exact Ar.1) (State.isArrayOf_alike hZ.alike Ar.2.1) Ar.2.2 (inb_of Sz ⟨by decide, by decide⟩) (own_at4 Sz Hz (k := 2) rfl (by decide)) (g := (mkF m 144 #[.val (.ref o), .val (.ref ea), .val (.int (Int32.ofNat m1)), .val (.int (if m1 = 0 then -1 else es.getD (m1 - 1) 0)), .val (.int (1 : Int32))] [(.int (2 : Int32)), (.ref ea), (.ref o)])) rfl rfl (hb hby d9_144) _ ?_
          show Steps p.tables e below (Tuvw11.setTop (mkF m 145 #[.val (.ref o), .val (.ref ea), .val (.int (Int32.ofNat m1)), .val (.int (if m1 = 0 then -1 else es.getD (m1 - 1) 0)), .val (.int (1 : Int32))] [(.int (es.getD 2 0)), (.ref o)])) _
          refine stuvw12.trans ?_
          show Steps p.tables e below (Tuvw12.setTop (mkF m 148 #[.val (.ref o), .val (.ref ea), .val (.int (Int32.ofNat m1)), .val (.int (if m1 = 0 then -1 else es.getD (m1 - 1) 0)), .val (.int (1 : Int32))] [(.int (own_gt t 3 (es.getD 2 0)))])) _
          refine XS.aloadN Xuvw12.here hx rfl (hb hby d9_148) rfl rfl ?_
          show Steps p.tables e below (Tuvw12.setTop (mkF m 149 #[.val (.ref o), .val (.ref ea), .val (.int (Int32.ofNat m1)), .val (.int (if m1 = 0 then -1 else es.getD (m1 - 1) 0)), .val (.int (1 : Int32))] [(.ref ea), (.int (own_gt t 3 (es.getD 2 0)))])) _
          refine XS.iconst Xuvw12.here hx rfl (hb hby d9_149) ?_
          show Steps p.tables e below (Tuvw12.setTop (mkF m 150 #[.val (.ref o), .val (.ref ea), .val (.int (Int32.ofNat m1)), .val (.int (if m1 = 0 then -1 else es.getD (m1 - 1) 0)), .val (.int (1 : Int32))] [(.int (3 : Int32)), (.ref ea), (.int (own_gt t 3 (es.getD 2 0)))])) _
          refine Xuvw12.iaload hx (j := (3 : Int32)) (v := (.int (es.getD 3 0))) (by rw [huvw12]; exact Ar.1) (State.isArrayOf_alike hZ.alike Ar.2.1) Ar.2.2 (inb_of Sz ⟨by decide, by decide⟩) (own_at4 Sz Hz (k := 3) rfl (by decide)) (g := (mkF m 150 #[.val (.ref o), .val (.ref ea), .val (.int (Int32.ofNat m1)), .val (.int (if m1 = 0 then -1 else es.getD (m1 - 1) 0)), .val (.int (1 : Int32))] [(.int (3 : Int32)), (.ref ea), (.int (own_gt t 3 (es.getD 2 0)))])) rfl rfl (hb hby d9_150) _ ?_
          show Steps p.tables e below (Tuvw12.setTop (mkF m 151 #[.val (.ref o), .val (.ref ea), .val (.int (Int32.ofNat m1)), .val (.int (if m1 = 0 then -1 else es.getD (m1 - 1) 0)), .val (.int (1 : Int32))] [(.int (es.getD 3 0)), (.int (own_gt t 3 (es.getD 2 0)))])) _
          refine XS.icmpNo Xuvw12.here hx rfl (hb hby d9_151) rfl (teq hn2).2 ?_
          show Steps p.tables e below (Tuvw12.setTop (mkF m 154 #[.val (.ref o), .val (.ref ea), .val (.int (Int32.ofNat m1)), .val (.int (if m1 = 0 then -1 else es.getD (m1 - 1) 0)), .val (.int (1 : Int32))] [])) _
          refine XS.iconst Xuvw12.here hx rfl (hb hby d9_154) ?_
          show Steps p.tables e below (Tuvw12.setTop (mkF m 155 #[.val (.ref o), .val (.ref ea), .val (.int (Int32.ofNat m1)), .val (.int (if m1 = 0 then -1 else es.getD (m1 - 1) 0)), .val (.int (1 : Int32))] [(.int (1 : Int32))])) _
          refine XS.goto Xuvw12.here hx rfl (pc0 := 155) (pc' := 159) rfl (hb hby d9_155) (by decide) (by decide) ?_
          show Steps p.tables e below (Tuvw12.setTop (mkF m 159 #[.val (.ref o), .val (.ref ea), .val (.int (Int32.ofNat m1)), .val (.int (if m1 = 0 then -1 else es.getD (m1 - 1) 0)), .val (.int (1 : Int32))] [(.int (1 : Int32))])) _
          refine XS.istore Xuvw12.here hx rfl (hb hby d9_159) rfl (l' := #[.val (.ref o), .val (.ref ea), .val (.int (Int32.ofNat m1)), .val (.int (if m1 = 0 then -1 else es.getD (m1 - 1) 0)), .val (.int (1 : Int32))]) rfl ?_
          show Steps p.tables e below (Tuvw12.setTop (mkF m 161 #[.val (.ref o), .val (.ref ea), .val (.int (Int32.ofNat m1)), .val (.int (if m1 = 0 then -1 else es.getD (m1 - 1) 0)), .val (.int (1 : Int32))] [])) _
          refine XS.iload Xuvw12.here hx rfl (hb hby d9_161) rfl ?_
          exact kt
        obtain ⟨fs, hr, hrun, hended, hW, hsame⟩ := Xuvw12.leave (v := some (.int (1 : Int32))) (fun h => by rw [Bd.returns] at h; cases h)
        refine ⟨_, _, preuvw13 _ ?_, hrun, hended, _, _, rfl, ?_, ⟨_, rfl⟩, hW, hsame.mono (by decide) (by decide)⟩
        · exact retN Xuvw12 hx (t := .boolean) Bd.returns (by simp) (hb hby d9_163) hr
        · show QrmC Z o ad kc t ea ke es m1 h0 n0 _ Tuvw12.heap _
          rw [huvw12]
          exact ⟨rfl, Nxuvw12, rfl⟩
def own_lit (l0 l1 l2 l3 l4 : List Int32) : Tree := fun i => match i with | 0 => l0 | 1 => l1 | 2 => l2 | 3 => l3 | 4 => l4
def own_T1 : Tree := own_lit [-1, -1, -1, -1] [-1, -1, -1, -1] [-1, -1, -1, -1] [-1, -1, -1, -1] [-1, -1, -1, -1]
def own_A1 : Tree := own_lit [-1, 0, -1, -1] [1, -1, -1, -1] [1, -1, -1, -1] [-1, -1, -1, -1] [-1, -1, -1, -1]
def own_A2 : Tree := own_lit [-1, 0, 0, -1] [1, -1, -1, -1] [2, -1, -1, -1] [-1, 2, -1, -1] [-1, -1, 1, -1]
def own_A2b : Tree := own_lit [-1, 0, 0, 2] [1, -1, 3, -1] [2, -1, 3, -1] [-1, 2, -1, -1] [-1, -1, 1, -1]
def own_A3 : Tree := own_lit [-1, 0, 0, 0] [1, -1, -1, -1] [3, -1, -1, -1] [-1, 2, 3, -1] [-1, -1, 1, 2]
theorem own_eqT {t u : Tree} (h : ∀ i : Fin 5, t i = u i) : t = u := funext h
theorem own_made : own_new (own_new (own_new (own_new own_t0 0) 1) 2) 3 = own_T1 := own_eqT (by decide +kernel)
theorem own_ap1 : own_app own_T1 0 1 = own_A1 := own_eqT (by decide +kernel)
theorem own_ap2 : own_app own_A1 0 2 = own_A2 := own_eqT (by decide +kernel)
theorem own_ap2b : own_app own_A2 2 3 = own_A2b := own_eqT (by decide +kernel)
theorem own_ap3 : own_app own_A2 0 3 = own_A3 := own_eqT (by decide +kernel)
def own_tk (k : Nat) : Tree := match k with | 0 => own_T1 | 1 => own_A1 | 2 => own_A2b | _ => own_A3
def own_x (t : Nat) : Int32 := Int32.ofNat (t + 1)
def own_l (k : Nat) : List Int32 := [if 1 ≤ k then 1 else -1, if 2 ≤ k then 2 else -1, if k = 3 then 3 else -1, -1]
def own_e (k t : Nat) : List Int32 := if t < k then own_rem (own_l k) (Int32.ofNat t) else own_l k
def own_m (k t : Nat) : Nat := if t < k then k - 1 else k
def own_b (k t : Nat) : Int32 := if k = 2 then if t = 2 then -1 else 3 else -1
def own_t2 (k t : Nat) : Tree := own_det (own_tk k) (own_x t)
abbrev own_okD (t : Tree) : Prop := ∀ (i : Fin 5) (j : Fin 4), ¬ (t i).getD j.1 0 = -1 → ¬ (t i).getD j.1 0 < 0 ∧ (t i).getD j.1 0 < 4
theorem own_ok_of {t : Tree} (h : own_okD t) : own_ok t := fun i x hx hne => h i ⟨x.toNatClampNeg, own_r4n hx⟩ hne
abbrev own_lenD (t : Tree) : Prop := ∀ i : Fin 5, (t i).length = 4
theorem own_k3 {k : Nat} (h : k ≤ 3) : k = 0 ∨ k = 1 ∨ k = 2 ∨ k = 3 := by omega
theorem own_t3 {t : Nat} (h : t ≤ 2) : t = 0 ∨ t = 1 ∨ t = 2 := by omega
theorem own_okT1 : own_okD own_T1 := by decide +kernel
theorem own_okA1 : own_okD own_A1 := by decide +kernel
theorem own_okA2 : own_okD own_A2 := by decide +kernel
theorem own_lnT1 : own_lenD own_T1 := by decide +kernel
theorem own_lnA1 : own_lenD own_A1 := by decide +kernel
theorem own_lnA2 : own_lenD own_A2 := by decide +kernel
theorem own_F1 : ∀ k : Fin 4, own_lenD (own_tk k.1) ∧ own_okD (own_tk k.1) := by decide +kernel
theorem own_F2 : ∀ (k : Fin 4) (t : Fin 3), own_r4 (own_x t.1) ∧ own_gt (own_t2 k.1 t.1) 0 (own_x t.1) = -1 ∧ own_gt (own_t2 k.1 t.1) 3 (own_x t.1) = -1 := by decide +kernel
theorem own_F3 : ∀ (k : Fin 4) (t : Fin 3), own_m k.1 t.1 ≤ 3 ∧ own_chain (own_t2 k.1 t.1) (own_e k.1 t.1) (own_m k.1 t.1) := by decide +kernel
theorem own_F4 : ∀ (k : Fin 4) (t : Fin 3), own_gt (own_t2 k.1 t.1) 1 2 = own_b k.1 t.1 ∧ own_gt (own_t2 k.1 t.1) 2 2 = own_b k.1 t.1 := by decide +kernel
theorem own_F5 : ∀ (k : Fin 4) (t : Fin 3), ¬ own_b k.1 t.1 = -1 → own_gt (own_t2 k.1 t.1) 0 3 = 2 ∧ own_gt (own_t2 k.1 t.1) 3 3 = -1 := by decide +kernel
theorem own_F6 : ∀ (k : Fin 4) (t : Fin 3), own_lenD (own_t2 k.1 t.1) ∧ own_okD (own_t2 k.1 t.1) := by decide +kernel
theorem own_F7 : ∀ (k : Fin 4) (t : Fin 3) (r : Fin 3), ¬ own_m k.1 t.1 = 0 → (r.1 = own_m k.1 t.1 - 1 ∨ r.1 = 0) → own_r4 ((own_e k.1 t.1).getD r.1 0) ∧ own_gt (own_det (own_t2 k.1 t.1) ((own_e k.1 t.1).getD r.1 0)) 0 ((own_e k.1 t.1).getD r.1 0) = -1 ∧ own_gt (own_det (own_t2 k.1 t.1) ((own_e k.1 t.1).getD r.1 0)) 3 ((own_e k.1 t.1).getD r.1 0) = -1 ∧ own_chain (own_det (own_t2 k.1 t.1) ((own_e k.1 t.1).getD r.1 0)) (own_rem (own_e k.1 t.1) (Int32.ofNat r.1)) (own_m k.1 t.1 - 1) := by decide +kernel
theorem own_lt {i n : Nat} (h : i < n) (hn : n ≤ 5) : Int32.ofNat i < Int32.ofNat n := by
  rw [Int32.lt_iff_toInt_lt, Int32.toInt_ofNat_of_lt (by omega), Int32.toInt_ofNat_of_lt (by omega)]
  omega
theorem own_nlt {i n : Nat} (h : ¬ i < n) (hn : i ≤ 5) : ¬ Int32.ofNat i < Int32.ofNat n := by
  rw [Int32.lt_iff_toInt_lt, Int32.toInt_ofNat_of_lt (by omega), Int32.toInt_ofNat_of_lt (by omega)]
  omega
theorem own_mod3 (x : Int32) : ∃ k : Nat, k ≤ 2 ∧ (x &&& (2147483647 : Int32)) % (3 : Int32) = Int32.ofNat k := by
  have h0 : 0 ≤ (x &&& (2147483647 : Int32)).toInt := (c_andS x 2147483647).2.2 (by decide)
  have h1 := (c_irem (x &&& (2147483647 : Int32)) 3 3 rfl).1 h0
  refine ⟨((x &&& (2147483647 : Int32)) % (3 : Int32)).toInt.toNat, by omega, ?_⟩
  apply Int32.toInt_inj.mp
  rw [Int32.toInt_ofNat_of_lt (by omega)]
  omega
theorem own_and3 (x : Int32) : ∃ n : Nat, n ≤ 3 ∧ (x &&& (3 : Int32)) = Int32.ofNat n := by
  refine ⟨(x &&& 3).toBitVec.toNat, ?_, ?_⟩
  · simp only [Int32.toBitVec_and, BitVec.toNat_and]
    exact Nat.and_le_right
  · apply Int32.toBitVec_inj.mp
    show _ = BitVec.ofNat 32 _
    rw [BitVec.ofNat_toNat]; simp
theorem own_n32 {n : Nat} (hn : n ≤ 5) : (Int32.ofNat n).toNatClampNeg = n := by
  rw [Int32.toNatClampNeg, Int32.toInt_ofNat_of_lt (by omega)]; rfl
theorem own_sub1 {m : Nat} (h : ¬ m = 0) (h3 : m ≤ 3) : Int32.ofNat m - (1 : Int32) = Int32.ofNat (m - 1) := by
  have q : m = 1 ∨ m = 2 ∨ m = 3 := by omega
  rcases q with rfl | rfl | rfl <;> decide
theorem own_ne5 {ad : Fin 5 → Addr} {a : Addr} (h : ∀ i, ad i ≠ a) : a ∉ [ad 0, ad 1, ad 2, ad 3, ad 4] := by
  intro q
  simp only [List.mem_cons, List.not_mem_nil, or_false] at q
  rcases q with q | q | q | q | q <;> exact h _ q.symm
def Q0 (Z : State) (p1 : Int32) (p2 : Int32) (p3 : Int32) (h0 : Heap) (n0 : Nat) (v : Option Value) (h : Heap) (L : List Loc) : Prop := v = some (.int (1 : Int32)) ∧ Fr n0 L
theorem ef_rm0 (m : MethodId) (x0 : Int32) (x1 : Int32) (x2 : Int32) : entryFrame m #[(.int x0), (.int x1), (.int x2)] maxLocals = mkF m 0 #[.val (.int x0), .val (.int x1), .val (.int x2), .unset, .unset, .unset, .unset, .unset, .unset, .unset, .unset, .unset, .unset, .unset, .unset, .unset, .unset, .unset] [] := by first | (simp [entryFrame, mkF, argsToLocals, Value.category, maxLocals]; done) | rfl
theorem pn_rm0 : plainName "com/example/pith/pith/html/PageTreeDetachPinLaw" = true := by first | (simp [plainName, overriddenIn]; done) | decide +kernel
set_option maxRecDepth 65536 in
set_option maxHeartbeats 40000000 in
theorem rm0 (l : Launch) (Z : State) (a0 : Array Value) (hw : ∀ d ∈ tables_1, d.before a0 Z = true) (ws : List Jvm.Cond) (p1 : Int32) (p2 : Int32) (p3 : Int32) (h0 : Heap) (n0 : Nat) (Z0 : n0 ≤ h0.size)  :
    MetFree l x (head1 (Jvm.Cond.code x code maxLocals ret :: ws) room_1) (fun a U => a = #[(.int p1), (.int p2), (.int p3)] ∧ Z.Warmed39 U.vm ∧ U.heap = h0) (fun _ _ _ _ _ => True) (fun _ U oc U' => ∃ v L, oc = .returned v ∧ Q0 Z p1 p2 p3 h0 n0 v U'.heap L ∧ FrameEnd U oc U' L room_1.cells room_1.slots) := by
  refine MetFree.of_bodySF (plainFor_of_name pn_rm0) hisR ?_
  intro p e s m args below meth c s₁ Bd hml0 hP hK
  obtain ⟨rfl, hZ, hh⟩ := hP
  have hx := Bd.exec
  have hby := Bd.bytes
  have hml : c.maxLocals = 18 := hml0
  have hown : s.vm.findClass "com/example/pith/pith/html/PageTreeDetachPinLaw" = some m.cls := findClass_of_methodNamed Bd.named
  have hnm := (name_of_methodNamed Bd.named Bd.method).1
  have X0 : Stand p l e room_1 s m #[(.int p1), (.int p2), (.int p3)] below meth c s₁ [] 0 0 := Stand.of_body Bd
  have e0 : s₁.heap = h0 := by rw [← hh, Bd.state]; rfl
  have N0 := Fr.nil n0
  have pre0 : ∀ tt, Steps p.tables e below (s₁.setTop (mkF m 0 #[.val (.int p1), .val (.int p2), .val (.int p3), .unset, .unset, .unset, .unset, .unset, .unset, .unset, .unset, .unset, .unset, .unset, .unset, .unset, .unset, .unset] [])) tt → Steps p.tables e below (s₁.setTop (entryFrame m #[(.int p1), (.int p2), (.int p3)] maxLocals)) tt := fun tt kt => castTop (ef_rm0 m p1 p2 p3) kt
  obtain ⟨k, hk, ek⟩ := own_and3 p1
  obtain ⟨t, ht, et⟩ := own_mod3 p2
  obtain ⟨T1, h1, X1, e1, E1, A1, D1, -, st1⟩ := newO X0 hx hZ hown (hw _ (List.mem_of_getElem? (i := 0) rfl)) (hw _ (List.mem_of_getElem? (i := 1) rfl)) (hw _ (List.mem_of_getElem? (i := 2) rfl)) e0 (g := (mkF m 0 #[.val (.int p1), .val (.int p2), .val (.int p3), .unset, .unset, .unset, .unset, .unset, .unset, .unset, .unset, .unset, .unset, .unset, .unset, .unset, .unset, .unset] [])) rfl (hb hby at_0) (by decide) (by decide)
  obtain ⟨b1, g1⟩ : ∃ z, z = h0.size := ⟨_, rfl⟩
  rw [← g1] at A1 D1 st1
  obtain ⟨Lx1, X1, Nx1⟩ : ∃ L, Stand p l e room_1 s m #[(.int p1), (.int p2), (.int p3)] below meth c T1 L 1 19 ∧ Fr n0 L := ⟨_, X1.more (by decide) (by decide), N0⟩
  have go : n0 ≤ b1 := Nat.le_trans Z0 (Nat.le_of_eq g1.symm)
  have F1 : PF Z h1 b1 (fun i => defaultValue (own_f3 i)) := fun i => D1 (own_laid hw i) (own_parse i)
  obtain ⟨T2, h2, k2, X2, e2, E2, A2, st2⟩ := newP X1 hx hZ (hw _ (List.mem_of_getElem? (i := 3) rfl)) e1 (g := (mkF m 5 #[.val (.int p1), .val (.int p2), .val (.int p3), .unset, .unset, .unset, .unset, .unset, .unset, .unset, .unset, .unset, .unset, .unset, .unset, .unset, .unset, .unset] [(.int (0 : Int32)), (.ref b1), (.ref b1)])) rfl (hb hby at_5) rfl (by decide) (cap := 0) (by decide) (by decide) (by decide) (by decide)
  obtain ⟨b2, g2⟩ : ∃ z, z = h1.size := ⟨_, rfl⟩
  rw [← g2] at A2 st2
  have V2 := Arv.new A2 (by decide)
  obtain ⟨Lx2, X2, Nx2⟩ : ∃ L, Stand p l e room_1 s m #[(.int p1), (.int p2), (.int p3)] below meth c T2 L 2 19 ∧ Fr n0 L := ⟨_, X2.more (by decide) (by decide), Nx1⟩
  have zz2 : n0 ≤ h2.size := Nat.le_trans (Nat.le_trans Z0 E1.1) E2.1
  obtain ⟨_, _, ⟨T3, L3, k3, n3⟩, -, X3, ⟨Lc3, hQ3, l3, y3, z3⟩, st3⟩ := X2.specialBack hx (y := (⟨"com/example/pith/pith/html/PageTree", "<init>", "([CIZ)V"⟩ : MethodName)) rfl hown (mvT hZ (hw _ (List.mem_of_getElem? (i := 4) rfl))) (mvT hZ (hw _ (List.mem_of_getElem? (i := 5) rfl))) (mvT hZ (hw _ (List.mem_of_getElem? (i := 6) rfl))) (by decide) (backOf (W := 1) (rmI l Z a0 hw [] b1 b2 _ h2 n0 zz2 (Exa.ext E2 A1) (PF.ext F1 E2) rfl go) hZ (hw _ (List.mem_of_getElem? (i := 6) rfl)) (hw _ (List.mem_of_getElem? (i := 2) rfl)) (by decide) (by decide)) (g := (mkF m 9 #[.val (.int p1), .val (.int p2), .val (.int p3), .unset, .unset, .unset, .unset, .unset, .unset, .unset, .unset, .unset, .unset, .unset, .unset, .unset, .unset, .unset] [(.int (0 : Int32)), (.int (0 : Int32)), (.ref b2), (.ref b1), (.ref b1)])) rfl (by rw [hml]; rfl) (Steps.refl _) (a := b1) (argsL := [(.ref b2), (.int (0 : Int32)), (.int (0 : Int32))]) (rest := [(.ref b1)]) (lenOf pd_3 rfl) rfl (by show 2 * 0 + _ ≤ _; exact Nat.le_of_eq rfl) (hb hby at_9) (fun _ _ => ⟨rfl, e2, (by decide : 2 + 10 ≤ _), (by decide : 19 + 640 ≤ _)⟩)
  dsimp only [Pt.U, Pt.locs, Pt.cells, Pt.slots] at X3 l3 y3 z3 st3 hQ3
  subst l3 y3 z3
  obtain ⟨rfl, N3q, K3, ad, kc, nm, fl, H3, B3⟩ := hQ3
  have N3 := Fr.app Nx2 N3q
  obtain ⟨Lx3, X3, Nx3⟩ : ∃ L, Stand p l e room_1 s m #[(.int p1), (.int p2), (.int p3)] below meth c T3 L 12 659 ∧ Fr n0 L := ⟨_, X3.more (by decide) (by decide), N3⟩
  have zz3 : n0 ≤ T3.heap.size := Nat.le_trans zz2 K3.1
  obtain ⟨cq4, kq4, q4a, q4b, q4c⟩ := isOf hZ rfl (Tr.exa H3)
  obtain ⟨_, _, ⟨T4, L4, k4, n4⟩, -, X4, ⟨Lc4, hQ4, l4, y4, z4⟩, st4⟩ := X3.virtualBack hx (y := (⟨"com/example/pith/pith/html/PageTree", "createElement", "(II)I"⟩ : MethodName)) (z := (⟨"com/example/pith/pith/html/PageTree", "createElement", "(II)I"⟩ : MethodName)) hown (mvT hZ (hw _ (List.mem_of_getElem? (i := 46) rfl))) (mvT hZ (hw _ (List.mem_of_getElem? (i := 47) rfl))) (notFace_of_selects (args := #[]) (mvT hZ (hw _ (List.mem_of_getElem? (i := 49) rfl)))) (mvT hZ (hw _ (List.mem_of_getElem? (i := 49) rfl))) (mvT hZ (hw _ (List.mem_of_getElem? (i := 48) rfl))) (by decide) (backOf (W := 0) (rmE l Z a0 hw [] b1 ad kc (own_new own_t0 0) nm fl 1 (1000 : Int32) (0 : Int32) T3.heap n0 zz3 H3 B3 (by decide +kernel : own_lenD (own_new own_t0 0)) (by constructor <;> decide) go) hZ (hw _ (List.mem_of_getElem? (i := 50) rfl)) (hw _ (List.mem_of_getElem? (i := 2) rfl)) (by decide) (by decide)) q4a q4c (g := (mkF m 18 #[.val (.int p1), .val (.int p2), .val (.int p3), .val (.ref b1), .unset, .unset, .unset, .unset, .unset, .unset, .unset, .unset, .unset, .unset, .unset, .unset, .unset, .unset] [(.int (0 : Int32)), (.int (1000 : Int32)), (.ref b1)])) rfl (by rw [hml]; rfl) (Steps.refl _) (argsL := [(.int (1000 : Int32)), (.int (0 : Int32))]) (rest := []) (lenOf pd_1 rfl) rfl (by show 2 * 0 + _ ≤ _; exact Nat.le_of_eq rfl) (hb hby at_18) (fun _ _ => ⟨rfl, rfl, (by decide : 12 + 0 ≤ _), (by decide : 659 + 0 ≤ _)⟩)
  dsimp only [Pt.U, Pt.locs, Pt.cells, Pt.slots] at X4 l4 y4 z4 st4 hQ4
  subst l4 y4 z4
  obtain ⟨rfl, N4q, K4, H4, B4⟩ := hQ4
  have N4 := Fr.app Nx3 N4q
  obtain ⟨Lx4, X4, Nx4⟩ : ∃ L, Stand p l e room_1 s m #[(.int p1), (.int p2), (.int p3)] below meth c T4 L 12 659 ∧ Fr n0 L := ⟨_, X4.more (by decide) (by decide), N4⟩
  have zz4 : n0 ≤ T4.heap.size := Nat.le_trans zz3 K4.1
  rw [show (1 : Int32) + (1 : Int32) = 2 from by decide] at B4
  obtain ⟨cq5, kq5, q5a, q5b, q5c⟩ := isOf hZ rfl (Tr.exa H4)
  obtain ⟨_, _, ⟨T5, L5, k5, n5⟩, -, X5, ⟨Lc5, hQ5, l5, y5, z5⟩, st5⟩ := X4.virtualBack hx (y := (⟨"com/example/pith/pith/html/PageTree", "createElement", "(II)I"⟩ : MethodName)) (z := (⟨"com/example/pith/pith/html/PageTree", "createElement", "(II)I"⟩ : MethodName)) hown (mvT hZ (hw _ (List.mem_of_getElem? (i := 46) rfl))) (mvT hZ (hw _ (List.mem_of_getElem? (i := 47) rfl))) (notFace_of_selects (args := #[]) (mvT hZ (hw _ (List.mem_of_getElem? (i := 49) rfl)))) (mvT hZ (hw _ (List.mem_of_getElem? (i := 49) rfl))) (mvT hZ (hw _ (List.mem_of_getElem? (i := 48) rfl))) (by decide) (backOf (W := 0) (rmE l Z a0 hw [] b1 ad kc (own_new (own_new own_t0 0) 1) nm fl 2 (1001 : Int32) (0 : Int32) T4.heap n0 zz4 H4 B4 (by decide +kernel : own_lenD (own_new (own_new own_t0 0) 1)) (by constructor <;> decide) go) hZ (hw _ (List.mem_of_getElem? (i := 50) rfl)) (hw _ (List.mem_of_getElem? (i := 2) rfl)) (by decide) (by decide)) q5a q5c (g := (mkF m 28 #[.val (.int p1), .val (.int p2), .val (.int p3), .val (.ref b1), .val (.int (1 : Int32)), .unset, .unset, .unset, .unset, .unset, .unset, .unset, .unset, .unset, .unset, .unset, .unset, .unset] [(.int (0 : Int32)), (.int (1001 : Int32)), (.ref b1)])) rfl (by rw [hml]; rfl) (Steps.refl _) (argsL := [(.int (1001 : Int32)), (.int (0 : Int32))]) (rest := []) (lenOf pd_1 rfl) rfl (by show 2 * 0 + _ ≤ _; exact Nat.le_of_eq rfl) (hb hby at_28) (fun _ _ => ⟨rfl, rfl, (by decide : 12 + 0 ≤ _), (by decide : 659 + 0 ≤ _)⟩)
  dsimp only [Pt.U, Pt.locs, Pt.cells, Pt.slots] at X5 l5 y5 z5 st5 hQ5
  subst l5 y5 z5
  obtain ⟨rfl, N5q, K5, H5, B5⟩ := hQ5
  have N5 := Fr.app Nx4 N5q
  obtain ⟨Lx5, X5, Nx5⟩ : ∃ L, Stand p l e room_1 s m #[(.int p1), (.int p2), (.int p3)] below meth c T5 L 12 659 ∧ Fr n0 L := ⟨_, X5.more (by decide) (by decide), N5⟩
  have zz5 : n0 ≤ T5.heap.size := Nat.le_trans zz4 K5.1
  rw [show (2 : Int32) + (1 : Int32) = 3 from by decide] at B5
  obtain ⟨cq6, kq6, q6a, q6b, q6c⟩ := isOf hZ rfl (Tr.exa H5)
  obtain ⟨_, _, ⟨T6, L6, k6, n6⟩, -, X6, ⟨Lc6, hQ6, l6, y6, z6⟩, st6⟩ := X5.virtualBack hx (y := (⟨"com/example/pith/pith/html/PageTree", "createElement", "(II)I"⟩ : MethodName)) (z := (⟨"com/example/pith/pith/html/PageTree", "createElement", "(II)I"⟩ : MethodName)) hown (mvT hZ (hw _ (List.mem_of_getElem? (i := 46) rfl))) (mvT hZ (hw _ (List.mem_of_getElem? (i := 47) rfl))) (notFace_of_selects (args := #[]) (mvT hZ (hw _ (List.mem_of_getElem? (i := 49) rfl)))) (mvT hZ (hw _ (List.mem_of_getElem? (i := 49) rfl))) (mvT hZ (hw _ (List.mem_of_getElem? (i := 48) rfl))) (by decide) (backOf (W := 0) (rmE l Z a0 hw [] b1 ad kc (own_new (own_new (own_new own_t0 0) 1) 2) nm fl 3 (1002 : Int32) (0 : Int32) T5.heap n0 zz5 H5 B5 (by decide +kernel : own_lenD (own_new (own_new (own_new own_t0 0) 1) 2)) (by constructor <;> decide) go) hZ (hw _ (List.mem_of_getElem? (i := 50) rfl)) (hw _ (List.mem_of_getElem? (i := 2) rfl)) (by decide) (by decide)) q6a q6c (g := (mkF m 38 #[.val (.int p1), .val (.int p2), .val (.int p3), .val (.ref b1), .val (.int (1 : Int32)), .val (.int (2 : Int32)), .unset, .unset, .unset, .unset, .unset, .unset, .unset, .unset, .unset, .unset, .unset, .unset] [(.int (0 : Int32)), (.int (1002 : Int32)), (.ref b1)])) rfl (by rw [hml]; rfl) (Steps.refl _) (argsL := [(.int (1002 : Int32)), (.int (0 : Int32))]) (rest := []) (lenOf pd_1 rfl) rfl (by show 2 * 0 + _ ≤ _; exact Nat.le_of_eq rfl) (hb hby at_38) (fun _ _ => ⟨rfl, rfl, (by decide : 12 + 0 ≤ _), (by decide : 659 + 0 ≤ _)⟩)
  dsimp only [Pt.U, Pt.locs, Pt.cells, Pt.slots] at X6 l6 y6 z6 st6 hQ6
  subst l6 y6 z6
  obtain ⟨rfl, N6q, K6, H6, B6⟩ := hQ6
  have N6 := Fr.app Nx5 N6q
  obtain ⟨Lx6, X6, Nx6⟩ : ∃ L, Stand p l e room_1 s m #[(.int p1), (.int p2), (.int p3)] below meth c T6 L 12 659 ∧ Fr n0 L := ⟨_, X6.more (by decide) (by decide), N6⟩
  have zz6 : n0 ≤ T6.heap.size := Nat.le_trans zz5 K6.1
  rw [show (3 : Int32) + (1 : Int32) = 4 from by decide] at B6
  rw [own_made] at H6
  have pre7 : ∀ tt, Steps p.tables e below (T6.setTop (mkF m 59 #[.val (.int p1), .val (.int p2), .val (.int p3), .val (.ref b1), .val (.int (1 : Int32)), .val (.int (2 : Int32)), .val (.int (3 : Int32)), .val (.int (Int32.ofNat k)), .val (.int (Int32.ofNat t)), .unset, .unset, .unset, .unset, .unset, .unset, .unset, .unset, .unset] [(.int (1 : Int32)), (.int (Int32.ofNat k))])) tt → Steps p.tables e below (s₁.setTop (entryFrame m #[(.int p1), (.int p2), (.int p3)] maxLocals)) tt := by
    intro tt kt
    refine pre0 tt ?_
    show Steps p.tables e below (s₁.setTop (mkF m 0 #[.val (.int p1), .val (.int p2), .val (.int p3), .unset, .unset, .unset, .unset, .unset, .unset, .unset, .unset, .unset, .unset, .unset, .unset, .unset, .unset, .unset] [])) _
    refine st1 _ ?_
    show Steps p.tables e below (T1.setTop (mkF m 3 #[.val (.int p1), .val (.int p2), .val (.int p3), .unset, .unset, .unset, .unset, .unset, .unset, .unset, .unset, .unset, .unset, .unset, .unset, .unset, .unset, .unset] [(.ref b1)])) _
    refine XS.dup X1.here hx rfl (hb hby at_3) rfl rfl ?_
    show Steps p.tables e below (T1.setTop (mkF m 4 #[.val (.int p1), .val (.int p2), .val (.int p3), .unset, .unset, .unset, .unset, .unset, .unset, .unset, .unset, .unset, .unset, .unset, .unset, .unset, .unset, .unset] [(.ref b1), (.ref b1)])) _
    refine XS.iconst X1.here hx rfl (hb hby at_4) ?_
    show Steps p.tables e below (T1.setTop (mkF m 5 #[.val (.int p1), .val (.int p2), .val (.int p3), .unset, .unset, .unset, .unset, .unset, .unset, .unset, .unset, .unset, .unset, .unset, .unset, .unset, .unset, .unset] [(.int (0 : Int32)), (.ref b1), (.ref b1)])) _
    refine st2 _ ?_
    show Steps p.tables e below (T2.setTop (mkF m 7 #[.val (.int p1), .val (.int p2), .val (.int p3), .unset, .unset, .unset, .unset, .unset, .unset, .unset, .unset, .unset, .unset, .unset, .unset, .unset, .unset, .unset] [(.ref b2), (.ref b1), (.ref b1)])) _
    refine XS.iconst X2.here hx rfl (hb hby at_7) ?_
    show Steps p.tables e below (T2.setTop (mkF m 8 #[.val (.int p1), .val (.int p2), .val (.int p3), .unset, .unset, .unset, .unset, .unset, .unset, .unset, .unset, .unset, .unset, .unset, .unset, .unset, .unset, .unset] [(.int (0 : Int32)), (.ref b2), (.ref b1), (.ref b1)])) _
    refine XS.iconst X2.here hx rfl (hb hby at_8) ?_
    show Steps p.tables e below (T2.setTop (mkF m 9 #[.val (.int p1), .val (.int p2), .val (.int p3), .unset, .unset, .unset, .unset, .unset, .unset, .unset, .unset, .unset, .unset, .unset, .unset, .unset, .unset, .unset] [(.int (0 : Int32)), (.int (0 : Int32)), (.ref b2), (.ref b1), (.ref b1)])) _
    refine st3.trans ?_
    show Steps p.tables e below (T3.setTop (mkF m 12 #[.val (.int p1), .val (.int p2), .val (.int p3), .unset, .unset, .unset, .unset, .unset, .unset, .unset, .unset, .unset, .unset, .unset, .unset, .unset, .unset, .unset] [(.ref b1)])) _
    refine XS.astoreN X3.here hx rfl (hb hby at_12) rfl rfl (l' := #[.val (.int p1), .val (.int p2), .val (.int p3), .val (.ref b1), .unset, .unset, .unset, .unset, .unset, .unset, .unset, .unset, .unset, .unset, .unset, .unset, .unset, .unset]) rfl ?_
    show Steps p.tables e below (T3.setTop (mkF m 13 #[.val (.int p1), .val (.int p2), .val (.int p3), .val (.ref b1), .unset, .unset, .unset, .unset, .unset, .unset, .unset, .unset, .unset, .unset, .unset, .unset, .unset, .unset] [])) _
    refine XS.aloadN X3.here hx rfl (hb hby at_13) rfl rfl ?_
    show Steps p.tables e below (T3.setTop (mkF m 14 #[.val (.int p1), .val (.int p2), .val (.int p3), .val (.ref b1), .unset, .unset, .unset, .unset, .unset, .unset, .unset, .unset, .unset, .unset, .unset, .unset, .unset, .unset] [(.ref b1)])) _
    refine XS.sipush X3.here hx rfl (hb hby at_14) ?_
    show Steps p.tables e below (T3.setTop (mkF m 17 #[.val (.int p1), .val (.int p2), .val (.int p3), .val (.ref b1), .unset, .unset, .unset, .unset, .unset, .unset, .unset, .unset, .unset, .unset, .unset, .unset, .unset, .unset] [(.int (1000 : Int32)), (.ref b1)])) _
    refine XS.iconst X3.here hx rfl (hb hby at_17) ?_
    show Steps p.tables e below (T3.setTop (mkF m 18 #[.val (.int p1), .val (.int p2), .val (.int p3), .val (.ref b1), .unset, .unset, .unset, .unset, .unset, .unset, .unset, .unset, .unset, .unset, .unset, .unset, .unset, .unset] [(.int (0 : Int32)), (.int (1000 : Int32)), (.ref b1)])) _
    refine st4.trans ?_
    show Steps p.tables e below (T4.setTop (mkF m 21 #[.val (.int p1), .val (.int p2), .val (.int p3), .val (.ref b1), .unset, .unset, .unset, .unset, .unset, .unset, .unset, .unset, .unset, .unset, .unset, .unset, .unset, .unset] [(.int (1 : Int32))])) _
    refine XS.istore X4.here hx rfl (hb hby at_21) rfl (l' := #[.val (.int p1), .val (.int p2), .val (.int p3), .val (.ref b1), .val (.int (1 : Int32)), .unset, .unset, .unset, .unset, .unset, .unset, .unset, .unset, .unset, .unset, .unset, .unset, .unset]) rfl ?_
    show Steps p.tables e below (T4.setTop (mkF m 23 #[.val (.int p1), .val (.int p2), .val (.int p3), .val (.ref b1), .val (.int (1 : Int32)), .unset, .unset, .unset, .unset, .unset, .unset, .unset, .unset, .unset, .unset, .unset, .unset, .unset] [])) _
    refine XS.aloadN X4.here hx rfl (hb hby at_23) rfl rfl ?_
    show Steps p.tables e below (T4.setTop (mkF m 24 #[.val (.int p1), .val (.int p2), .val (.int p3), .val (.ref b1), .val (.int (1 : Int32)), .unset, .unset, .unset, .unset, .unset, .unset, .unset, .unset, .unset, .unset, .unset, .unset, .unset] [(.ref b1)])) _
    refine XS.sipush X4.here hx rfl (hb hby at_24) ?_
    show Steps p.tables e below (T4.setTop (mkF m 27 #[.val (.int p1), .val (.int p2), .val (.int p3), .val (.ref b1), .val (.int (1 : Int32)), .unset, .unset, .unset, .unset, .unset, .unset, .unset, .unset, .unset, .unset, .unset, .unset, .unset] [(.int (1001 : Int32)), (.ref b1)])) _
    refine XS.iconst X4.here hx rfl (hb hby at_27) ?_
    show Steps p.tables e below (T4.setTop (mkF m 28 #[.val (.int p1), .val (.int p2), .val (.int p3), .val (.ref b1), .val (.int (1 : Int32)), .unset, .unset, .unset, .unset, .unset, .unset, .unset, .unset, .unset, .unset, .unset, .unset, .unset] [(.int (0 : Int32)), (.int (1001 : Int32)), (.ref b1)])) _
    refine st5.trans ?_
    show Steps p.tables e below (T5.setTop (mkF m 31 #[.val (.int p1), .val (.int p2), .val (.int p3), .val (.ref b1), .val (.int (1 : Int32)), .unset, .unset, .unset, .unset, .unset, .unset, .unset, .unset, .unset, .unset, .unset, .unset, .unset] [(.int (2 : Int32))])) _
    refine XS.istore X5.here hx rfl (hb hby at_31) rfl (l' := #[.val (.int p1), .val (.int p2), .val (.int p3), .val (.ref b1), .val (.int (1 : Int32)), .val (.int (2 : Int32)), .unset, .unset, .unset, .unset, .unset, .unset, .unset, .unset, .unset, .unset, .unset, .unset]) rfl ?_
    show Steps p.tables e below (T5.setTop (mkF m 33 #[.val (.int p1), .val (.int p2), .val (.int p3), .val (.ref b1), .val (.int (1 : Int32)), .val (.int (2 : Int32)), .unset, .unset, .unset, .unset, .unset, .unset, .unset, .unset, .unset, .unset, .unset, .unset] [])) _
    refine XS.aloadN X5.here hx rfl (hb hby at_33) rfl rfl ?_
    show Steps p.tables e below (T5.setTop (mkF m 34 #[.val (.int p1), .val (.int p2), .val (.int p3), .val (.ref b1), .val (.int (1 : Int32)), .val (.int (2 : Int32)), .unset, .unset, .unset, .unset, .unset, .unset, .unset, .unset, .unset, .unset, .unset, .unset] [(.ref b1)])) _
    refine XS.sipush X5.here hx rfl (hb hby at_34) ?_
    show Steps p.tables e below (T5.setTop (mkF m 37 #[.val (.int p1), .val (.int p2), .val (.int p3), .val (.ref b1), .val (.int (1 : Int32)), .val (.int (2 : Int32)), .unset, .unset, .unset, .unset, .unset, .unset, .unset, .unset, .unset, .unset, .unset, .unset] [(.int (1002 : Int32)), (.ref b1)])) _
    refine XS.iconst X5.here hx rfl (hb hby at_37) ?_
    show Steps p.tables e below (T5.setTop (mkF m 38 #[.val (.int p1), .val (.int p2), .val (.int p3), .val (.ref b1), .val (.int (1 : Int32)), .val (.int (2 : Int32)), .unset, .unset, .unset, .unset, .unset, .unset, .unset, .unset, .unset, .unset, .unset, .unset] [(.int (0 : Int32)), (.int (1002 : Int32)), (.ref b1)])) _
    refine st6.trans ?_
    show Steps p.tables e below (T6.setTop (mkF m 41 #[.val (.int p1), .val (.int p2), .val (.int p3), .val (.ref b1), .val (.int (1 : Int32)), .val (.int (2 : Int32)), .unset, .unset, .unset, .unset, .unset, .unset, .unset, .unset, .unset, .unset, .unset, .unset] [(.int (3 : Int32))])) _
    refine XS.istore X6.here hx rfl (hb hby at_41) rfl (l' := #[.val (.int p1), .val (.int p2), .val (.int p3), .val (.ref b1), .val (.int (1 : Int32)), .val (.int (2 : Int32)), .val (.int (3 : Int32)), .unset, .unset, .unset, .unset, .unset, .unset, .unset, .unset, .unset, .unset, .unset]) rfl ?_
    show Steps p.tables e below (T6.setTop (mkF m 43 #[.val (.int p1), .val (.int p2), .val (.int p3), .val (.ref b1), .val (.int (1 : Int32)), .val (.int (2 : Int32)), .val (.int (3 : Int32)), .unset, .unset, .unset, .unset, .unset, .unset, .unset, .unset, .unset, .unset, .unset] [])) _
    refine XS.iloadN X6.here hx rfl (hb hby at_43) rfl ?_
    show Steps p.tables e below (T6.setTop (mkF m 44 #[.val (.int p1), .val (.int p2), .val (.int p3), .val (.ref b1), .val (.int (1 : Int32)), .val (.int (2 : Int32)), .val (.int (3 : Int32)), .unset, .unset, .unset, .unset, .unset, .unset, .unset, .unset, .unset, .unset, .unset] [(.int p1)])) _
    refine XS.iconst X6.here hx rfl (hb hby at_44) ?_
    show Steps p.tables e below (T6.setTop (mkF m 45 #[.val (.int p1), .val (.int p2), .val (.int p3), .val (.ref b1), .val (.int (1 : Int32)), .val (.int (2 : Int32)), .val (.int (3 : Int32)), .unset, .unset, .unset, .unset, .unset, .unset, .unset, .unset, .unset, .unset, .unset] [(.int (3 : Int32)), (.int p1)])) _
    refine XS.iand X6.here hx rfl (hb hby at_45) rfl ?_
    show Steps p.tables e below (T6.setTop (mkF m 46 #[.val (.int p1), .val (.int p2), .val (.int p3), .val (.ref b1), .val (.int (1 : Int32)), .val (.int (2 : Int32)), .val (.int (3 : Int32)), .unset, .unset, .unset, .unset, .unset, .unset, .unset, .unset, .unset, .unset, .unset] [(.int (p1 &&& (3 : Int32)))])) _
    rw [ek]
    show Steps p.tables e below (T6.setTop (mkF m 46 #[.val (.int p1), .val (.int p2), .val (.int p3), .val (.ref b1), .val (.int (1 : Int32)), .val (.int (2 : Int32)), .val (.int (3 : Int32)), .unset, .unset, .unset, .unset, .unset, .unset, .unset, .unset, .unset, .unset, .unset] [(.int (Int32.ofNat k))])) _
    refine XS.istore X6.here hx rfl (hb hby at_46) rfl (l' := #[.val (.int p1), .val (.int p2), .val (.int p3), .val (.ref b1), .val (.int (1 : Int32)), .val (.int (2 : Int32)), .val (.int (3 : Int32)), .val (.int (Int32.ofNat k)), .unset, .unset, .unset, .unset, .unset, .unset, .unset, .unset, .unset, .unset]) rfl ?_
    show Steps p.tables e below (T6.setTop (mkF m 48 #[.val (.int p1), .val (.int p2), .val (.int p3), .val (.ref b1), .val (.int (1 : Int32)), .val (.int (2 : Int32)), .val (.int (3 : Int32)), .val (.int (Int32.ofNat k)), .unset, .unset, .unset, .unset, .unset, .unset, .unset, .unset, .unset, .unset] [])) _
    refine XS.iloadN X6.here hx rfl (hb hby at_48) rfl ?_
    show Steps p.tables e below (T6.setTop (mkF m 49 #[.val (.int p1), .val (.int p2), .val (.int p3), .val (.ref b1), .val (.int (1 : Int32)), .val (.int (2 : Int32)), .val (.int (3 : Int32)), .val (.int (Int32.ofNat k)), .unset, .unset, .unset, .unset, .unset, .unset, .unset, .unset, .unset, .unset] [(.int p2)])) _
    refine X6.ldcInt hx hown (mvT hZ (hw _ (List.mem_of_getElem? (i := 51) rfl))) (g := (mkF m 49 #[.val (.int p1), .val (.int p2), .val (.int p3), .val (.ref b1), .val (.int (1 : Int32)), .val (.int (2 : Int32)), .val (.int (3 : Int32)), .val (.int (Int32.ofNat k)), .unset, .unset, .unset, .unset, .unset, .unset, .unset, .unset, .unset, .unset] [(.int p2)])) rfl (hb hby at_49) _ ?_
    show Steps p.tables e below (T6.setTop (mkF m 51 #[.val (.int p1), .val (.int p2), .val (.int p3), .val (.ref b1), .val (.int (1 : Int32)), .val (.int (2 : Int32)), .val (.int (3 : Int32)), .val (.int (Int32.ofNat k)), .unset, .unset, .unset, .unset, .unset, .unset, .unset, .unset, .unset, .unset] [(.int (2147483647 : Int32)), (.int p2)])) _
    refine XS.iand X6.here hx rfl (hb hby at_51) rfl ?_
    show Steps p.tables e below (T6.setTop (mkF m 52 #[.val (.int p1), .val (.int p2), .val (.int p3), .val (.ref b1), .val (.int (1 : Int32)), .val (.int (2 : Int32)), .val (.int (3 : Int32)), .val (.int (Int32.ofNat k)), .unset, .unset, .unset, .unset, .unset, .unset, .unset, .unset, .unset, .unset] [(.int (p2 &&& (2147483647 : Int32)))])) _
    refine XS.iconst X6.here hx rfl (hb hby at_52) ?_
    show Steps p.tables e below (T6.setTop (mkF m 53 #[.val (.int p1), .val (.int p2), .val (.int p3), .val (.ref b1), .val (.int (1 : Int32)), .val (.int (2 : Int32)), .val (.int (3 : Int32)), .val (.int (Int32.ofNat k)), .unset, .unset, .unset, .unset, .unset, .unset, .unset, .unset, .unset, .unset] [(.int (3 : Int32)), (.int (p2 &&& (2147483647 : Int32)))])) _
    refine iremM X6 hx rfl (hb hby at_53) rfl (by decide) ?_
    show Steps p.tables e below (T6.setTop (mkF m 54 #[.val (.int p1), .val (.int p2), .val (.int p3), .val (.ref b1), .val (.int (1 : Int32)), .val (.int (2 : Int32)), .val (.int (3 : Int32)), .val (.int (Int32.ofNat k)), .unset, .unset, .unset, .unset, .unset, .unset, .unset, .unset, .unset, .unset] [(.int ((p2 &&& (2147483647 : Int32)) % (3 : Int32)))])) _
    rw [et]
    show Steps p.tables e below (T6.setTop (mkF m 54 #[.val (.int p1), .val (.int p2), .val (.int p3), .val (.ref b1), .val (.int (1 : Int32)), .val (.int (2 : Int32)), .val (.int (3 : Int32)), .val (.int (Int32.ofNat k)), .unset, .unset, .unset, .unset, .unset, .unset, .unset, .unset, .unset, .unset] [(.int (Int32.ofNat t))])) _
    refine XS.istore X6.here hx rfl (hb hby at_54) rfl (l' := #[.val (.int p1), .val (.int p2), .val (.int p3), .val (.ref b1), .val (.int (1 : Int32)), .val (.int (2 : Int32)), .val (.int (3 : Int32)), .val (.int (Int32.ofNat k)), .val (.int (Int32.ofNat t)), .unset, .unset, .unset, .unset, .unset, .unset, .unset, .unset, .unset]) rfl ?_
    show Steps p.tables e below (T6.setTop (mkF m 56 #[.val (.int p1), .val (.int p2), .val (.int p3), .val (.ref b1), .val (.int (1 : Int32)), .val (.int (2 : Int32)), .val (.int (3 : Int32)), .val (.int (Int32.ofNat k)), .val (.int (Int32.ofNat t)), .unset, .unset, .unset, .unset, .unset, .unset, .unset, .unset, .unset] [])) _
    refine XS.iload X6.here hx rfl (hb hby at_56) rfl ?_
    show Steps p.tables e below (T6.setTop (mkF m 58 #[.val (.int p1), .val (.int p2), .val (.int p3), .val (.ref b1), .val (.int (1 : Int32)), .val (.int (2 : Int32)), .val (.int (3 : Int32)), .val (.int (Int32.ofNat k)), .val (.int (Int32.ofNat t)), .unset, .unset, .unset, .unset, .unset, .unset, .unset, .unset, .unset] [(.int (Int32.ofNat k))])) _
    refine XS.iconst X6.here hx rfl (hb hby at_58) ?_
    exact kt
  have ph2 : ∃ (T' : State) (locs' : List Loc), Stand p l e room_1 s m #[(.int p1), (.int p2), (.int p3)] below meth c T' locs' 12 659 ∧ Fr n0 locs' ∧ n0 ≤ T'.heap.size ∧ Tr Z T'.heap n0 b1 ad kc (own_tk k) ∧ ∀ t_, Steps p.tables e below (T'.setTop (mkF m 109 #[.val (.int p1), .val (.int p2), .val (.int p3), .val (.ref b1), .val (.int (1 : Int32)), .val (.int (2 : Int32)), .val (.int (3 : Int32)), .val (.int (Int32.ofNat k)), .val (.int (Int32.ofNat t)), .unset, .unset, .unset, .unset, .unset, .unset, .unset, .unset, .unset] [])) t_ → Steps p.tables e below (s₁.setTop (entryFrame m #[(.int p1), (.int p2), (.int p3)] maxLocals)) t_ := by
    rcases own_k3 hk with rfl | rfl | rfl | rfl
    · skip
      have pp := pre7
      have ppz : ∀ tt, Steps p.tables e below (T6.setTop (mkF m 109 #[.val (.int p1), .val (.int p2), .val (.int p3), .val (.ref b1), .val (.int (1 : Int32)), .val (.int (2 : Int32)), .val (.int (3 : Int32)), .val (.int (Int32.ofNat 0)), .val (.int (Int32.ofNat t)), .unset, .unset, .unset, .unset, .unset, .unset, .unset, .unset, .unset] [])) tt → Steps p.tables e below (s₁.setTop (entryFrame m #[(.int p1), (.int p2), (.int p3)] maxLocals)) tt := by
        intro tt kt
        refine pp tt ?_
        show Steps p.tables e below (T6.setTop (mkF m 59 #[.val (.int p1), .val (.int p2), .val (.int p3), .val (.ref b1), .val (.int (1 : Int32)), .val (.int (2 : Int32)), .val (.int (3 : Int32)), .val (.int (Int32.ofNat 0)), .val (.int (Int32.ofNat t)), .unset, .unset, .unset, .unset, .unset, .unset, .unset, .unset, .unset] [(.int (1 : Int32)), (.int (Int32.ofNat 0))])) _
        refine XS.icmpYes X6.here hx rfl (pc0 := 59) (pc' := 69) rfl (hb hby at_59) rfl (tlt (by decide)).1 (by decide) (by decide) ?_
        show Steps p.tables e below (T6.setTop (mkF m 69 #[.val (.int p1), .val (.int p2), .val (.int p3), .val (.ref b1), .val (.int (1 : Int32)), .val (.int (2 : Int32)), .val (.int (3 : Int32)), .val (.int (Int32.ofNat 0)), .val (.int (Int32.ofNat t)), .unset, .unset, .unset, .unset, .unset, .unset, .unset, .unset, .unset] [])) _
        refine XS.iload X6.here hx rfl (hb hby at_69) rfl ?_
        show Steps p.tables e below (T6.setTop (mkF m 71 #[.val (.int p1), .val (.int p2), .val (.int p3), .val (.ref b1), .val (.int (1 : Int32)), .val (.int (2 : Int32)), .val (.int (3 : Int32)), .val (.int (Int32.ofNat 0)), .val (.int (Int32.ofNat t)), .unset, .unset, .unset, .unset, .unset, .unset, .unset, .unset, .unset] [(.int (Int32.ofNat 0))])) _
        refine XS.iconst X6.here hx rfl (hb hby at_71) ?_
        show Steps p.tables e below (T6.setTop (mkF m 72 #[.val (.int p1), .val (.int p2), .val (.int p3), .val (.ref b1), .val (.int (1 : Int32)), .val (.int (2 : Int32)), .val (.int (3 : Int32)), .val (.int (Int32.ofNat 0)), .val (.int (Int32.ofNat t)), .unset, .unset, .unset, .unset, .unset, .unset, .unset, .unset, .unset] [(.int (2 : Int32)), (.int (Int32.ofNat 0))])) _
        refine XS.icmpYes X6.here hx rfl (pc0 := 72) (pc' := 82) rfl (hb hby at_72) rfl (tlt (by decide)).1 (by decide) (by decide) ?_
        show Steps p.tables e below (T6.setTop (mkF m 82 #[.val (.int p1), .val (.int p2), .val (.int p3), .val (.ref b1), .val (.int (1 : Int32)), .val (.int (2 : Int32)), .val (.int (3 : Int32)), .val (.int (Int32.ofNat 0)), .val (.int (Int32.ofNat t)), .unset, .unset, .unset, .unset, .unset, .unset, .unset, .unset, .unset] [])) _
        refine XS.iload X6.here hx rfl (hb hby at_82) rfl ?_
        show Steps p.tables e below (T6.setTop (mkF m 84 #[.val (.int p1), .val (.int p2), .val (.int p3), .val (.ref b1), .val (.int (1 : Int32)), .val (.int (2 : Int32)), .val (.int (3 : Int32)), .val (.int (Int32.ofNat 0)), .val (.int (Int32.ofNat t)), .unset, .unset, .unset, .unset, .unset, .unset, .unset, .unset, .unset] [(.int (Int32.ofNat 0))])) _
        refine XS.iconst X6.here hx rfl (hb hby at_84) ?_
        show Steps p.tables e below (T6.setTop (mkF m 85 #[.val (.int p1), .val (.int p2), .val (.int p3), .val (.ref b1), .val (.int (1 : Int32)), .val (.int (2 : Int32)), .val (.int (3 : Int32)), .val (.int (Int32.ofNat 0)), .val (.int (Int32.ofNat t)), .unset, .unset, .unset, .unset, .unset, .unset, .unset, .unset, .unset] [(.int (3 : Int32)), (.int (Int32.ofNat 0))])) _
        refine XS.icmpYes X6.here hx rfl (pc0 := 85) (pc' := 95) rfl (hb hby at_85) rfl (feq (by decide)).2 (by decide) (by decide) ?_
        show Steps p.tables e below (T6.setTop (mkF m 95 #[.val (.int p1), .val (.int p2), .val (.int p3), .val (.ref b1), .val (.int (1 : Int32)), .val (.int (2 : Int32)), .val (.int (3 : Int32)), .val (.int (Int32.ofNat 0)), .val (.int (Int32.ofNat t)), .unset, .unset, .unset, .unset, .unset, .unset, .unset, .unset, .unset] [])) _
        refine XS.iload X6.here hx rfl (hb hby at_95) rfl ?_
        show Steps p.tables e below (T6.setTop (mkF m 97 #[.val (.int p1), .val (.int p2), .val (.int p3), .val (.ref b1), .val (.int (1 : Int32)), .val (.int (2 : Int32)), .val (.int (3 : Int32)), .val (.int (Int32.ofNat 0)), .val (.int (Int32.ofNat t)), .unset, .unset, .unset, .unset, .unset, .unset, .unset, .unset, .unset] [(.int (Int32.ofNat 0))])) _
        refine XS.iconst X6.here hx rfl (hb hby at_97) ?_
        show Steps p.tables e below (T6.setTop (mkF m 98 #[.val (.int p1), .val (.int p2), .val (.int p3), .val (.ref b1), .val (.int (1 : Int32)), .val (.int (2 : Int32)), .val (.int (3 : Int32)), .val (.int (Int32.ofNat 0)), .val (.int (Int32.ofNat t)), .unset, .unset, .unset, .unset, .unset, .unset, .unset, .unset, .unset] [(.int (2 : Int32)), (.int (Int32.ofNat 0))])) _
        refine XS.icmpYes X6.here hx rfl (pc0 := 98) (pc' := 109) rfl (hb hby at_98) rfl (feq (by decide)).2 (by decide) (by decide) ?_
        exact kt
      exact ⟨T6, _, X6, Nx6, zz6, H6, ppz⟩
    · skip
      have pp := pre7
      obtain ⟨cqk18, kqk18, qk18a, qk18b, qk18c⟩ := isOf hZ rfl (Tr.exa H6)
      obtain ⟨_, _, ⟨Tk18, Lk18, kk18, nk18⟩, -, Xk18, ⟨Lck18, hQk18, lk18, yk18, zk18⟩, stk18⟩ := X6.virtualBack hx (y := (⟨"com/example/pith/pith/html/PageTree", "append", "(II)V"⟩ : MethodName)) (z := (⟨"com/example/pith/pith/html/PageTree", "append", "(II)V"⟩ : MethodName)) hown (mvT hZ (hw _ (List.mem_of_getElem? (i := 81) rfl))) (mvT hZ (hw _ (List.mem_of_getElem? (i := 82) rfl))) (notFace_of_selects (args := #[]) (mvT hZ (hw _ (List.mem_of_getElem? (i := 84) rfl)))) (mvT hZ (hw _ (List.mem_of_getElem? (i := 84) rfl))) (mvT hZ (hw _ (List.mem_of_getElem? (i := 83) rfl))) (by decide) (backOf (W := 0) (rmA l Z a0 hw [] b1 ad kc own_T1 (0 : Int32) (1 : Int32) T6.heap n0 zz6 H6 own_lnT1 (own_ok_of own_okT1) (by decide +kernel) (by constructor <;> decide) (by constructor <;> decide)) hZ (hw _ (List.mem_of_getElem? (i := 85) rfl)) (hw _ (List.mem_of_getElem? (i := 2) rfl)) (by decide) (by decide)) qk18a qk18c (g := (mkF m 66 #[.val (.int p1), .val (.int p2), .val (.int p3), .val (.ref b1), .val (.int (1 : Int32)), .val (.int (2 : Int32)), .val (.int (3 : Int32)), .val (.int (Int32.ofNat 1)), .val (.int (Int32.ofNat t)), .unset, .unset, .unset, .unset, .unset, .unset, .unset, .unset, .unset] [(.int (1 : Int32)), (.int (0 : Int32)), (.ref b1)])) rfl (by rw [hml]; rfl) (Steps.refl _) (argsL := [(.int (0 : Int32)), (.int (1 : Int32))]) (rest := []) (lenOf pd_4 rfl) rfl (by show 2 * 0 + _ ≤ _; exact Nat.le_of_eq rfl) (hb hby at_66) (fun _ _ => ⟨rfl, rfl, (by decide : 12 + 0 ≤ _), (by decide : 659 + 0 ≤ _)⟩)
      dsimp only [Pt.U, Pt.locs, Pt.cells, Pt.slots] at Xk18 lk18 yk18 zk18 stk18 hQk18
      subst lk18 yk18 zk18
      obtain ⟨rfl, Nk18q, Kk18, Hk18⟩ := hQk18
      have Nk18 := Fr.app Nx6 Nk18q
      obtain ⟨Lxk18, Xk18, Nxk18⟩ : ∃ L, Stand p l e room_1 s m #[(.int p1), (.int p2), (.int p3)] below meth c Tk18 L 12 659 ∧ Fr n0 L := ⟨_, Xk18.more (by decide) (by decide), Nk18⟩
      have zzk18 : n0 ≤ Tk18.heap.size := Nat.le_trans zz6 Kk18.1
      rw [own_ap1] at Hk18
      have ppz : ∀ tt, Steps p.tables e below (Tk18.setTop (mkF m 109 #[.val (.int p1), .val (.int p2), .val (.int p3), .val (.ref b1), .val (.int (1 : Int32)), .val (.int (2 : Int32)), .val (.int (3 : Int32)), .val (.int (Int32.ofNat 1)), .val (.int (Int32.ofNat t)), .unset, .unset, .unset, .unset, .unset, .unset, .unset, .unset, .unset] [])) tt → Steps p.tables e below (s₁.setTop (entryFrame m #[(.int p1), (.int p2), (.int p3)] maxLocals)) tt := by
        intro tt kt
        refine pp tt ?_
        show Steps p.tables e below (T6.setTop (mkF m 59 #[.val (.int p1), .val (.int p2), .val (.int p3), .val (.ref b1), .val (.int (1 : Int32)), .val (.int (2 : Int32)), .val (.int (3 : Int32)), .val (.int (Int32.ofNat 1)), .val (.int (Int32.ofNat t)), .unset, .unset, .unset, .unset, .unset, .unset, .unset, .unset, .unset] [(.int (1 : Int32)), (.int (Int32.ofNat 1))])) _
        refine XS.icmpNo X6.here hx rfl (hb hby at_59) rfl (flt (by decide)).1 ?_
        show Steps p.tables e below (T6.setTop (mkF m 62 #[.val (.int p1), .val (.int p2), .val (.int p3), .val (.ref b1), .val (.int (1 : Int32)), .val (.int (2 : Int32)), .val (.int (3 : Int32)), .val (.int (Int32.ofNat 1)), .val (.int (Int32.ofNat t)), .unset, .unset, .unset, .unset, .unset, .unset, .unset, .unset, .unset] [])) _
        refine XS.aloadN X6.here hx rfl (hb hby at_62) rfl rfl ?_
        show Steps p.tables e below (T6.setTop (mkF m 63 #[.val (.int p1), .val (.int p2), .val (.int p3), .val (.ref b1), .val (.int (1 : Int32)), .val (.int (2 : Int32)), .val (.int (3 : Int32)), .val (.int (Int32.ofNat 1)), .val (.int (Int32.ofNat t)), .unset, .unset, .unset, .unset, .unset, .unset, .unset, .unset, .unset] [(.ref b1)])) _
        refine XS.iconst X6.here hx rfl (hb hby at_63) ?_
        show Steps p.tables e below (T6.setTop (mkF m 64 #[.val (.int p1), .val (.int p2), .val (.int p3), .val (.ref b1), .val (.int (1 : Int32)), .val (.int (2 : Int32)), .val (.int (3 : Int32)), .val (.int (Int32.ofNat 1)), .val (.int (Int32.ofNat t)), .unset, .unset, .unset, .unset, .unset, .unset, .unset, .unset, .unset] [(.int (0 : Int32)), (.ref b1)])) _
        refine XS.iload X6.here hx rfl (hb hby at_64) rfl ?_
        show Steps p.tables e below (T6.setTop (mkF m 66 #[.val (.int p1), .val (.int p2), .val (.int p3), .val (.ref b1), .val (.int (1 : Int32)), .val (.int (2 : Int32)), .val (.int (3 : Int32)), .val (.int (Int32.ofNat 1)), .val (.int (Int32.ofNat t)), .unset, .unset, .unset, .unset, .unset, .unset, .unset, .unset, .unset] [(.int (1 : Int32)), (.int (0 : Int32)), (.ref b1)])) _
        refine stk18.trans ?_
        show Steps p.tables e below (Tk18.setTop (mkF m 69 #[.val (.int p1), .val (.int p2), .val (.int p3), .val (.ref b1), .val (.int (1 : Int32)), .val (.int (2 : Int32)), .val (.int (3 : Int32)), .val (.int (Int32.ofNat 1)), .val (.int (Int32.ofNat t)), .unset, .unset, .unset, .unset, .unset, .unset, .unset, .unset, .unset] [])) _
        refine XS.iload Xk18.here hx rfl (hb hby at_69) rfl ?_
        show Steps p.tables e below (Tk18.setTop (mkF m 71 #[.val (.int p1), .val (.int p2), .val (.int p3), .val (.ref b1), .val (.int (1 : Int32)), .val (.int (2 : Int32)), .val (.int (3 : Int32)), .val (.int (Int32.ofNat 1)), .val (.int (Int32.ofNat t)), .unset, .unset, .unset, .unset, .unset, .unset, .unset, .unset, .unset] [(.int (Int32.ofNat 1))])) _
        refine XS.iconst Xk18.here hx rfl (hb hby at_71) ?_
        show Steps p.tables e below (Tk18.setTop (mkF m 72 #[.val (.int p1), .val (.int p2), .val (.int p3), .val (.ref b1), .val (.int (1 : Int32)), .val (.int (2 : Int32)), .val (.int (3 : Int32)), .val (.int (Int32.ofNat 1)), .val (.int (Int32.ofNat t)), .unset, .unset, .unset, .unset, .unset, .unset, .unset, .unset, .unset] [(.int (2 : Int32)), (.int (Int32.ofNat 1))])) _
        refine XS.icmpYes Xk18.here hx rfl (pc0 := 72) (pc' := 82) rfl (hb hby at_72) rfl (tlt (by decide)).1 (by decide) (by decide) ?_
        show Steps p.tables e below (Tk18.setTop (mkF m 82 #[.val (.int p1), .val (.int p2), .val (.int p3), .val (.ref b1), .val (.int (1 : Int32)), .val (.int (2 : Int32)), .val (.int (3 : Int32)), .val (.int (Int32.ofNat 1)), .val (.int (Int32.ofNat t)), .unset, .unset, .unset, .unset, .unset, .unset, .unset, .unset, .unset] [])) _
        refine XS.iload Xk18.here hx rfl (hb hby at_82) rfl ?_
        show Steps p.tables e below (Tk18.setTop (mkF m 84 #[.val (.int p1), .val (.int p2), .val (.int p3), .val (.ref b1), .val (.int (1 : Int32)), .val (.int (2 : Int32)), .val (.int (3 : Int32)), .val (.int (Int32.ofNat 1)), .val (.int (Int32.ofNat t)), .unset, .unset, .unset, .unset, .unset, .unset, .unset, .unset, .unset] [(.int (Int32.ofNat 1))])) _
        refine XS.iconst Xk18.here hx rfl (hb hby at_84) ?_
        show Steps p.tables e below (Tk18.setTop (mkF m 85 #[.val (.int p1), .val (.int p2), .val (.int p3), .val (.ref b1), .val (.int (1 : Int32)), .val (.int (2 : Int32)), .val (.int (3 : Int32)), .val (.int (Int32.ofNat 1)), .val (.int (Int32.ofNat t)), .unset, .unset, .unset, .unset, .unset, .unset, .unset, .unset, .unset] [(.int (3 : Int32)), (.int (Int32.ofNat 1))])) _
        refine XS.icmpYes Xk18.here hx rfl (pc0 := 85) (pc' := 95) rfl (hb hby at_85) rfl (feq (by decide)).2 (by decide) (by decide) ?_
        show Steps p.tables e below (Tk18.setTop (mkF m 95 #[.val (.int p1), .val (.int p2), .val (.int p3), .val (.ref b1), .val (.int (1 : Int32)), .val (.int (2 : Int32)), .val (.int (3 : Int32)), .val (.int (Int32.ofNat 1)), .val (.int (Int32.ofNat t)), .unset, .unset, .unset, .unset, .unset, .unset, .unset, .unset, .unset] [])) _
        refine XS.iload Xk18.here hx rfl (hb hby at_95) rfl ?_
        show Steps p.tables e below (Tk18.setTop (mkF m 97 #[.val (.int p1), .val (.int p2), .val (.int p3), .val (.ref b1), .val (.int (1 : Int32)), .val (.int (2 : Int32)), .val (.int (3 : Int32)), .val (.int (Int32.ofNat 1)), .val (.int (Int32.ofNat t)), .unset, .unset, .unset, .unset, .unset, .unset, .unset, .unset, .unset] [(.int (Int32.ofNat 1))])) _
        refine XS.iconst Xk18.here hx rfl (hb hby at_97) ?_
        show Steps p.tables e below (Tk18.setTop (mkF m 98 #[.val (.int p1), .val (.int p2), .val (.int p3), .val (.ref b1), .val (.int (1 : Int32)), .val (.int (2 : Int32)), .val (.int (3 : Int32)), .val (.int (Int32.ofNat 1)), .val (.int (Int32.ofNat t)), .unset, .unset, .unset, .unset, .unset, .unset, .unset, .unset, .unset] [(.int (2 : Int32)), (.int (Int32.ofNat 1))])) _
        refine XS.icmpYes Xk18.here hx rfl (pc0 := 98) (pc' := 109) rfl (hb hby at_98) rfl (feq (by decide)).2 (by decide) (by decide) ?_
        exact kt
      exact ⟨Tk18, _, Xk18, Nxk18, zzk18, Hk18, ppz⟩
    · skip
      have pp := pre7
      obtain ⟨cqk28, kqk28, qk28a, qk28b, qk28c⟩ := isOf hZ rfl (Tr.exa H6)
      obtain ⟨_, _, ⟨Tk28, Lk28, kk28, nk28⟩, -, Xk28, ⟨Lck28, hQk28, lk28, yk28, zk28⟩, stk28⟩ := X6.virtualBack hx (y := (⟨"com/example/pith/pith/html/PageTree", "append", "(II)V"⟩ : MethodName)) (z := (⟨"com/example/pith/pith/html/PageTree", "append", "(II)V"⟩ : MethodName)) hown (mvT hZ (hw _ (List.mem_of_getElem? (i := 81) rfl))) (mvT hZ (hw _ (List.mem_of_getElem? (i := 82) rfl))) (notFace_of_selects (args := #[]) (mvT hZ (hw _ (List.mem_of_getElem? (i := 84) rfl)))) (mvT hZ (hw _ (List.mem_of_getElem? (i := 84) rfl))) (mvT hZ (hw _ (List.mem_of_getElem? (i := 83) rfl))) (by decide) (backOf (W := 0) (rmA l Z a0 hw [] b1 ad kc own_T1 (0 : Int32) (1 : Int32) T6.heap n0 zz6 H6 own_lnT1 (own_ok_of own_okT1) (by decide +kernel) (by constructor <;> decide) (by constructor <;> decide)) hZ (hw _ (List.mem_of_getElem? (i := 85) rfl)) (hw _ (List.mem_of_getElem? (i := 2) rfl)) (by decide) (by decide)) qk28a qk28c (g := (mkF m 66 #[.val (.int p1), .val (.int p2), .val (.int p3), .val (.ref b1), .val (.int (1 : Int32)), .val (.int (2 : Int32)), .val (.int (3 : Int32)), .val (.int (Int32.ofNat 2)), .val (.int (Int32.ofNat t)), .unset, .unset, .unset, .unset, .unset, .unset, .unset, .unset, .unset] [(.int (1 : Int32)), (.int (0 : Int32)), (.ref b1)])) rfl (by rw [hml]; rfl) (Steps.refl _) (argsL := [(.int (0 : Int32)), (.int (1 : Int32))]) (rest := []) (lenOf pd_4 rfl) rfl (by show 2 * 0 + _ ≤ _; exact Nat.le_of_eq rfl) (hb hby at_66) (fun _ _ => ⟨rfl, rfl, (by decide : 12 + 0 ≤ _), (by decide : 659 + 0 ≤ _)⟩)
      dsimp only [Pt.U, Pt.locs, Pt.cells, Pt.slots] at Xk28 lk28 yk28 zk28 stk28 hQk28
      subst lk28 yk28 zk28
      obtain ⟨rfl, Nk28q, Kk28, Hk28⟩ := hQk28
      have Nk28 := Fr.app Nx6 Nk28q
      obtain ⟨Lxk28, Xk28, Nxk28⟩ : ∃ L, Stand p l e room_1 s m #[(.int p1), (.int p2), (.int p3)] below meth c Tk28 L 12 659 ∧ Fr n0 L := ⟨_, Xk28.more (by decide) (by decide), Nk28⟩
      have zzk28 : n0 ≤ Tk28.heap.size := Nat.le_trans zz6 Kk28.1
      rw [own_ap1] at Hk28
      obtain ⟨cqk29, kqk29, qk29a, qk29b, qk29c⟩ := isOf hZ rfl (Tr.exa Hk28)
      obtain ⟨_, _, ⟨Tk29, Lk29, kk29, nk29⟩, -, Xk29, ⟨Lck29, hQk29, lk29, yk29, zk29⟩, stk29⟩ := Xk28.virtualBack hx (y := (⟨"com/example/pith/pith/html/PageTree", "append", "(II)V"⟩ : MethodName)) (z := (⟨"com/example/pith/pith/html/PageTree", "append", "(II)V"⟩ : MethodName)) hown (mvT hZ (hw _ (List.mem_of_getElem? (i := 81) rfl))) (mvT hZ (hw _ (List.mem_of_getElem? (i := 82) rfl))) (notFace_of_selects (args := #[]) (mvT hZ (hw _ (List.mem_of_getElem? (i := 84) rfl)))) (mvT hZ (hw _ (List.mem_of_getElem? (i := 84) rfl))) (mvT hZ (hw _ (List.mem_of_getElem? (i := 83) rfl))) (by decide) (backOf (W := 0) (rmA l Z a0 hw [] b1 ad kc own_A1 (0 : Int32) (2 : Int32) Tk28.heap n0 zzk28 Hk28 own_lnA1 (own_ok_of own_okA1) (by decide +kernel) (by constructor <;> decide) (by constructor <;> decide)) hZ (hw _ (List.mem_of_getElem? (i := 85) rfl)) (hw _ (List.mem_of_getElem? (i := 2) rfl)) (by decide) (by decide)) qk29a qk29c (g := (mkF m 79 #[.val (.int p1), .val (.int p2), .val (.int p3), .val (.ref b1), .val (.int (1 : Int32)), .val (.int (2 : Int32)), .val (.int (3 : Int32)), .val (.int (Int32.ofNat 2)), .val (.int (Int32.ofNat t)), .unset, .unset, .unset, .unset, .unset, .unset, .unset, .unset, .unset] [(.int (2 : Int32)), (.int (0 : Int32)), (.ref b1)])) rfl (by rw [hml]; rfl) (Steps.refl _) (argsL := [(.int (0 : Int32)), (.int (2 : Int32))]) (rest := []) (lenOf pd_4 rfl) rfl (by show 2 * 0 + _ ≤ _; exact Nat.le_of_eq rfl) (hb hby at_79) (fun _ _ => ⟨rfl, rfl, (by decide : 12 + 0 ≤ _), (by decide : 659 + 0 ≤ _)⟩)
      dsimp only [Pt.U, Pt.locs, Pt.cells, Pt.slots] at Xk29 lk29 yk29 zk29 stk29 hQk29
      subst lk29 yk29 zk29
      obtain ⟨rfl, Nk29q, Kk29, Hk29⟩ := hQk29
      have Nk29 := Fr.app Nxk28 Nk29q
      obtain ⟨Lxk29, Xk29, Nxk29⟩ : ∃ L, Stand p l e room_1 s m #[(.int p1), (.int p2), (.int p3)] below meth c Tk29 L 12 659 ∧ Fr n0 L := ⟨_, Xk29.more (by decide) (by decide), Nk29⟩
      have zzk29 : n0 ≤ Tk29.heap.size := Nat.le_trans zzk28 Kk29.1
      rw [own_ap2] at Hk29
      obtain ⟨cqk210, kqk210, qk210a, qk210b, qk210c⟩ := isOf hZ rfl (Tr.exa Hk29)
      obtain ⟨_, _, ⟨Tk210, Lk210, kk210, nk210⟩, -, Xk210, ⟨Lck210, hQk210, lk210, yk210, zk210⟩, stk210⟩ := Xk29.virtualBack hx (y := (⟨"com/example/pith/pith/html/PageTree", "append", "(II)V"⟩ : MethodName)) (z := (⟨"com/example/pith/pith/html/PageTree", "append", "(II)V"⟩ : MethodName)) hown (mvT hZ (hw _ (List.mem_of_getElem? (i := 81) rfl))) (mvT hZ (hw _ (List.mem_of_getElem? (i := 82) rfl))) (notFace_of_selects (args := #[]) (mvT hZ (hw _ (List.mem_of_getElem? (i := 84) rfl)))) (mvT hZ (hw _ (List.mem_of_getElem? (i := 84) rfl))) (mvT hZ (hw _ (List.mem_of_getElem? (i := 83) rfl))) (by decide) (backOf (W := 0) (rmA l Z a0 hw [] b1 ad kc own_A2 (2 : Int32) (3 : Int32) Tk29.heap n0 zzk29 Hk29 own_lnA2 (own_ok_of own_okA2) (by decide +kernel) (by constructor <;> decide) (by constructor <;> decide)) hZ (hw _ (List.mem_of_getElem? (i := 85) rfl)) (hw _ (List.mem_of_getElem? (i := 2) rfl)) (by decide) (by decide)) qk210a qk210c (g := (mkF m 106 #[.val (.int p1), .val (.int p2), .val (.int p3), .val (.ref b1), .val (.int (1 : Int32)), .val (.int (2 : Int32)), .val (.int (3 : Int32)), .val (.int (Int32.ofNat 2)), .val (.int (Int32.ofNat t)), .unset, .unset, .unset, .unset, .unset, .unset, .unset, .unset, .unset] [(.int (3 : Int32)), (.int (2 : Int32)), (.ref b1)])) rfl (by rw [hml]; rfl) (Steps.refl _) (argsL := [(.int (2 : Int32)), (.int (3 : Int32))]) (rest := []) (lenOf pd_4 rfl) rfl (by show 2 * 0 + _ ≤ _; exact Nat.le_of_eq rfl) (hb hby at_106) (fun _ _ => ⟨rfl, rfl, (by decide : 12 + 0 ≤ _), (by decide : 659 + 0 ≤ _)⟩)
      dsimp only [Pt.U, Pt.locs, Pt.cells, Pt.slots] at Xk210 lk210 yk210 zk210 stk210 hQk210
      subst lk210 yk210 zk210
      obtain ⟨rfl, Nk210q, Kk210, Hk210⟩ := hQk210
      have Nk210 := Fr.app Nxk29 Nk210q
      obtain ⟨Lxk210, Xk210, Nxk210⟩ : ∃ L, Stand p l e room_1 s m #[(.int p1), (.int p2), (.int p3)] below meth c Tk210 L 12 659 ∧ Fr n0 L := ⟨_, Xk210.more (by decide) (by decide), Nk210⟩
      have zzk210 : n0 ≤ Tk210.heap.size := Nat.le_trans zzk29 Kk210.1
      rw [own_ap2b] at Hk210
      have ppz : ∀ tt, Steps p.tables e below (Tk210.setTop (mkF m 109 #[.val (.int p1), .val (.int p2), .val (.int p3), .val (.ref b1), .val (.int (1 : Int32)), .val (.int (2 : Int32)), .val (.int (3 : Int32)), .val (.int (Int32.ofNat 2)), .val (.int (Int32.ofNat t)), .unset, .unset, .unset, .unset, .unset, .unset, .unset, .unset, .unset] [])) tt → Steps p.tables e below (s₁.setTop (entryFrame m #[(.int p1), (.int p2), (.int p3)] maxLocals)) tt := by
        intro tt kt
        refine pp tt ?_
        show Steps p.tables e below (T6.setTop (mkF m 59 #[.val (.int p1), .val (.int p2), .val (.int p3), .val (.ref b1), .val (.int (1 : Int32)), .val (.int (2 : Int32)), .val (.int (3 : Int32)), .val (.int (Int32.ofNat 2)), .val (.int (Int32.ofNat t)), .unset, .unset, .unset, .unset, .unset, .unset, .unset, .unset, .unset] [(.int (1 : Int32)), (.int (Int32.ofNat 2))])) _
        refine XS.icmpNo X6.here hx rfl (hb hby at_59) rfl (flt (by decide)).1 ?_
        show Steps p.tables e below (T6.setTop (mkF m 62 #[.val (.int p1), .val (.int p2), .val (.int p3), .val (.ref b1), .val (.int (1 : Int32)), .val (.int (2 : Int32)), .val (.int (3 : Int32)), .val (.int (Int32.ofNat 2)), .val (.int (Int32.ofNat t)), .unset, .unset, .unset, .unset, .unset, .unset, .unset, .unset, .unset] [])) _
        refine XS.aloadN X6.here hx rfl (hb hby at_62) rfl rfl ?_
        show Steps p.tables e below (T6.setTop (mkF m 63 #[.val (.int p1), .val (.int p2), .val (.int p3), .val (.ref b1), .val (.int (1 : Int32)), .val (.int (2 : Int32)), .val (.int (3 : Int32)), .val (.int (Int32.ofNat 2)), .val (.int (Int32.ofNat t)), .unset, .unset, .unset, .unset, .unset, .unset, .unset, .unset, .unset] [(.ref b1)])) _
        refine XS.iconst X6.here hx rfl (hb hby at_63) ?_
        show Steps p.tables e below (T6.setTop (mkF m 64 #[.val (.int p1), .val (.int p2), .val (.int p3), .val (.ref b1), .val (.int (1 : Int32)), .val (.int (2 : Int32)), .val (.int (3 : Int32)), .val (.int (Int32.ofNat 2)), .val (.int (Int32.ofNat t)), .unset, .unset, .unset, .unset, .unset, .unset, .unset, .unset, .unset] [(.int (0 : Int32)), (.ref b1)])) _
        refine XS.iload X6.here hx rfl (hb hby at_64) rfl ?_
        show Steps p.tables e below (T6.setTop (mkF m 66 #[.val (.int p1), .val (.int p2), .val (.int p3), .val (.ref b1), .val (.int (1 : Int32)), .val (.int (2 : Int32)), .val (.int (3 : Int32)), .val (.int (Int32.ofNat 2)), .val (.int (Int32.ofNat t)), .unset, .unset, .unset, .unset, .unset, .unset, .unset, .unset, .unset] [(.int (1 : Int32)), (.int (0 : Int32)), (.ref b1)])) _
        refine stk28.trans ?_
        show Steps p.tables e below (Tk28.setTop (mkF m 69 #[.val (.int p1), .val (.int p2), .val (.int p3), .val (.ref b1), .val (.int (1 : Int32)), .val (.int (2 : Int32)), .val (.int (3 : Int32)), .val (.int (Int32.ofNat 2)), .val (.int (Int32.ofNat t)), .unset, .unset, .unset, .unset, .unset, .unset, .unset, .unset, .unset] [])) _
        refine XS.iload Xk28.here hx rfl (hb hby at_69) rfl ?_
        show Steps p.tables e below (Tk28.setTop (mkF m 71 #[.val (.int p1), .val (.int p2), .val (.int p3), .val (.ref b1), .val (.int (1 : Int32)), .val (.int (2 : Int32)), .val (.int (3 : Int32)), .val (.int (Int32.ofNat 2)), .val (.int (Int32.ofNat t)), .unset, .unset, .unset, .unset, .unset, .unset, .unset, .unset, .unset] [(.int (Int32.ofNat 2))])) _
        refine XS.iconst Xk28.here hx rfl (hb hby at_71) ?_
        show Steps p.tables e below (Tk28.setTop (mkF m 72 #[.val (.int p1), .val (.int p2), .val (.int p3), .val (.ref b1), .val (.int (1 : Int32)), .val (.int (2 : Int32)), .val (.int (3 : Int32)), .val (.int (Int32.ofNat 2)), .val (.int (Int32.ofNat t)), .unset, .unset, .unset, .unset, .unset, .unset, .unset, .unset, .unset] [(.int (2 : Int32)), (.int (Int32.ofNat 2))])) _
        refine XS.icmpNo Xk28.here hx rfl (hb hby at_72) rfl (flt (by decide)).1 ?_
        show Steps p.tables e below (Tk28.setTop (mkF m 75 #[.val (.int p1), .val (.int p2), .val (.int p3), .val (.ref b1), .val (.int (1 : Int32)), .val (.int (2 : Int32)), .val (.int (3 : Int32)), .val (.int (Int32.ofNat 2)), .val (.int (Int32.ofNat t)), .unset, .unset, .unset, .unset, .unset, .unset, .unset, .unset, .unset] [])) _
        refine XS.aloadN Xk28.here hx rfl (hb hby at_75) rfl rfl ?_
        show Steps p.tables e below (Tk28.setTop (mkF m 76 #[.val (.int p1), .val (.int p2), .val (.int p3), .val (.ref b1), .val (.int (1 : Int32)), .val (.int (2 : Int32)), .val (.int (3 : Int32)), .val (.int (Int32.ofNat 2)), .val (.int (Int32.ofNat t)), .unset, .unset, .unset, .unset, .unset, .unset, .unset, .unset, .unset] [(.ref b1)])) _
        refine XS.iconst Xk28.here hx rfl (hb hby at_76) ?_
        show Steps p.tables e below (Tk28.setTop (mkF m 77 #[.val (.int p1), .val (.int p2), .val (.int p3), .val (.ref b1), .val (.int (1 : Int32)), .val (.int (2 : Int32)), .val (.int (3 : Int32)), .val (.int (Int32.ofNat 2)), .val (.int (Int32.ofNat t)), .unset, .unset, .unset, .unset, .unset, .unset, .unset, .unset, .unset] [(.int (0 : Int32)), (.ref b1)])) _
        refine XS.iload Xk28.here hx rfl (hb hby at_77) rfl ?_
        show Steps p.tables e below (Tk28.setTop (mkF m 79 #[.val (.int p1), .val (.int p2), .val (.int p3), .val (.ref b1), .val (.int (1 : Int32)), .val (.int (2 : Int32)), .val (.int (3 : Int32)), .val (.int (Int32.ofNat 2)), .val (.int (Int32.ofNat t)), .unset, .unset, .unset, .unset, .unset, .unset, .unset, .unset, .unset] [(.int (2 : Int32)), (.int (0 : Int32)), (.ref b1)])) _
        refine stk29.trans ?_
        show Steps p.tables e below (Tk29.setTop (mkF m 82 #[.val (.int p1), .val (.int p2), .val (.int p3), .val (.ref b1), .val (.int (1 : Int32)), .val (.int (2 : Int32)), .val (.int (3 : Int32)), .val (.int (Int32.ofNat 2)), .val (.int (Int32.ofNat t)), .unset, .unset, .unset, .unset, .unset, .unset, .unset, .unset, .unset] [])) _
        refine XS.iload Xk29.here hx rfl (hb hby at_82) rfl ?_
        show Steps p.tables e below (Tk29.setTop (mkF m 84 #[.val (.int p1), .val (.int p2), .val (.int p3), .val (.ref b1), .val (.int (1 : Int32)), .val (.int (2 : Int32)), .val (.int (3 : Int32)), .val (.int (Int32.ofNat 2)), .val (.int (Int32.ofNat t)), .unset, .unset, .unset, .unset, .unset, .unset, .unset, .unset, .unset] [(.int (Int32.ofNat 2))])) _
        refine XS.iconst Xk29.here hx rfl (hb hby at_84) ?_
        show Steps p.tables e below (Tk29.setTop (mkF m 85 #[.val (.int p1), .val (.int p2), .val (.int p3), .val (.ref b1), .val (.int (1 : Int32)), .val (.int (2 : Int32)), .val (.int (3 : Int32)), .val (.int (Int32.ofNat 2)), .val (.int (Int32.ofNat t)), .unset, .unset, .unset, .unset, .unset, .unset, .unset, .unset, .unset] [(.int (3 : Int32)), (.int (Int32.ofNat 2))])) _
        refine XS.icmpYes Xk29.here hx rfl (pc0 := 85) (pc' := 95) rfl (hb hby at_85) rfl (feq (by decide)).2 (by decide) (by decide) ?_
        show Steps p.tables e below (Tk29.setTop (mkF m 95 #[.val (.int p1), .val (.int p2), .val (.int p3), .val (.ref b1), .val (.int (1 : Int32)), .val (.int (2 : Int32)), .val (.int (3 : Int32)), .val (.int (Int32.ofNat 2)), .val (.int (Int32.ofNat t)), .unset, .unset, .unset, .unset, .unset, .unset, .unset, .unset, .unset] [])) _
        refine XS.iload Xk29.here hx rfl (hb hby at_95) rfl ?_
        show Steps p.tables e below (Tk29.setTop (mkF m 97 #[.val (.int p1), .val (.int p2), .val (.int p3), .val (.ref b1), .val (.int (1 : Int32)), .val (.int (2 : Int32)), .val (.int (3 : Int32)), .val (.int (Int32.ofNat 2)), .val (.int (Int32.ofNat t)), .unset, .unset, .unset, .unset, .unset, .unset, .unset, .unset, .unset] [(.int (Int32.ofNat 2))])) _
        refine XS.iconst Xk29.here hx rfl (hb hby at_97) ?_
        show Steps p.tables e below (Tk29.setTop (mkF m 98 #[.val (.int p1), .val (.int p2), .val (.int p3), .val (.ref b1), .val (.int (1 : Int32)), .val (.int (2 : Int32)), .val (.int (3 : Int32)), .val (.int (Int32.ofNat 2)), .val (.int (Int32.ofNat t)), .unset, .unset, .unset, .unset, .unset, .unset, .unset, .unset, .unset] [(.int (2 : Int32)), (.int (Int32.ofNat 2))])) _
        refine XS.icmpNo Xk29.here hx rfl (hb hby at_98) rfl (teq (by decide)).2 ?_
        show Steps p.tables e below (Tk29.setTop (mkF m 101 #[.val (.int p1), .val (.int p2), .val (.int p3), .val (.ref b1), .val (.int (1 : Int32)), .val (.int (2 : Int32)), .val (.int (3 : Int32)), .val (.int (Int32.ofNat 2)), .val (.int (Int32.ofNat t)), .unset, .unset, .unset, .unset, .unset, .unset, .unset, .unset, .unset] [])) _
        refine XS.aloadN Xk29.here hx rfl (hb hby at_101) rfl rfl ?_
        show Steps p.tables e below (Tk29.setTop (mkF m 102 #[.val (.int p1), .val (.int p2), .val (.int p3), .val (.ref b1), .val (.int (1 : Int32)), .val (.int (2 : Int32)), .val (.int (3 : Int32)), .val (.int (Int32.ofNat 2)), .val (.int (Int32.ofNat t)), .unset, .unset, .unset, .unset, .unset, .unset, .unset, .unset, .unset] [(.ref b1)])) _
        refine XS.iload Xk29.here hx rfl (hb hby at_102) rfl ?_
        show Steps p.tables e below (Tk29.setTop (mkF m 104 #[.val (.int p1), .val (.int p2), .val (.int p3), .val (.ref b1), .val (.int (1 : Int32)), .val (.int (2 : Int32)), .val (.int (3 : Int32)), .val (.int (Int32.ofNat 2)), .val (.int (Int32.ofNat t)), .unset, .unset, .unset, .unset, .unset, .unset, .unset, .unset, .unset] [(.int (2 : Int32)), (.ref b1)])) _
        refine XS.iload Xk29.here hx rfl (hb hby at_104) rfl ?_
        show Steps p.tables e below (Tk29.setTop (mkF m 106 #[.val (.int p1), .val (.int p2), .val (.int p3), .val (.ref b1), .val (.int (1 : Int32)), .val (.int (2 : Int32)), .val (.int (3 : Int32)), .val (.int (Int32.ofNat 2)), .val (.int (Int32.ofNat t)), .unset, .unset, .unset, .unset, .unset, .unset, .unset, .unset, .unset] [(.int (3 : Int32)), (.int (2 : Int32)), (.ref b1)])) _
        refine stk210.trans ?_
        exact kt
      exact ⟨Tk210, _, Xk210, Nxk210, zzk210, Hk210, ppz⟩
    · skip
      have pp := pre7
      obtain ⟨cqk38, kqk38, qk38a, qk38b, qk38c⟩ := isOf hZ rfl (Tr.exa H6)
      obtain ⟨_, _, ⟨Tk38, Lk38, kk38, nk38⟩, -, Xk38, ⟨Lck38, hQk38, lk38, yk38, zk38⟩, stk38⟩ := X6.virtualBack hx (y := (⟨"com/example/pith/pith/html/PageTree", "append", "(II)V"⟩ : MethodName)) (z := (⟨"com/example/pith/pith/html/PageTree", "append", "(II)V"⟩ : MethodName)) hown (mvT hZ (hw _ (List.mem_of_getElem? (i := 81) rfl))) (mvT hZ (hw _ (List.mem_of_getElem? (i := 82) rfl))) (notFace_of_selects (args := #[]) (mvT hZ (hw _ (List.mem_of_getElem? (i := 84) rfl)))) (mvT hZ (hw _ (List.mem_of_getElem? (i := 84) rfl))) (mvT hZ (hw _ (List.mem_of_getElem? (i := 83) rfl))) (by decide) (backOf (W := 0) (rmA l Z a0 hw [] b1 ad kc own_T1 (0 : Int32) (1 : Int32) T6.heap n0 zz6 H6 own_lnT1 (own_ok_of own_okT1) (by decide +kernel) (by constructor <;> decide) (by constructor <;> decide)) hZ (hw _ (List.mem_of_getElem? (i := 85) rfl)) (hw _ (List.mem_of_getElem? (i := 2) rfl)) (by decide) (by decide)) qk38a qk38c (g := (mkF m 66 #[.val (.int p1), .val (.int p2), .val (.int p3), .val (.ref b1), .val (.int (1 : Int32)), .val (.int (2 : Int32)), .val (.int (3 : Int32)), .val (.int (Int32.ofNat 3)), .val (.int (Int32.ofNat t)), .unset, .unset, .unset, .unset, .unset, .unset, .unset, .unset, .unset] [(.int (1 : Int32)), (.int (0 : Int32)), (.ref b1)])) rfl (by rw [hml]; rfl) (Steps.refl _) (argsL := [(.int (0 : Int32)), (.int (1 : Int32))]) (rest := []) (lenOf pd_4 rfl) rfl (by show 2 * 0 + _ ≤ _; exact Nat.le_of_eq rfl) (hb hby at_66) (fun _ _ => ⟨rfl, rfl, (by decide : 12 + 0 ≤ _), (by decide : 659 + 0 ≤ _)⟩)
      dsimp only [Pt.U, Pt.locs, Pt.cells, Pt.slots] at Xk38 lk38 yk38 zk38 stk38 hQk38
      subst lk38 yk38 zk38
      obtain ⟨rfl, Nk38q, Kk38, Hk38⟩ := hQk38
      have Nk38 := Fr.app Nx6 Nk38q
      obtain ⟨Lxk38, Xk38, Nxk38⟩ : ∃ L, Stand p l e room_1 s m #[(.int p1), (.int p2), (.int p3)] below meth c Tk38 L 12 659 ∧ Fr n0 L := ⟨_, Xk38.more (by decide) (by decide), Nk38⟩
      have zzk38 : n0 ≤ Tk38.heap.size := Nat.le_trans zz6 Kk38.1
      rw [own_ap1] at Hk38
      obtain ⟨cqk39, kqk39, qk39a, qk39b, qk39c⟩ := isOf hZ rfl (Tr.exa Hk38)
      obtain ⟨_, _, ⟨Tk39, Lk39, kk39, nk39⟩, -, Xk39, ⟨Lck39, hQk39, lk39, yk39, zk39⟩, stk39⟩ := Xk38.virtualBack hx (y := (⟨"com/example/pith/pith/html/PageTree", "append", "(II)V"⟩ : MethodName)) (z := (⟨"com/example/pith/pith/html/PageTree", "append", "(II)V"⟩ : MethodName)) hown (mvT hZ (hw _ (List.mem_of_getElem? (i := 81) rfl))) (mvT hZ (hw _ (List.mem_of_getElem? (i := 82) rfl))) (notFace_of_selects (args := #[]) (mvT hZ (hw _ (List.mem_of_getElem? (i := 84) rfl)))) (mvT hZ (hw _ (List.mem_of_getElem? (i := 84) rfl))) (mvT hZ (hw _ (List.mem_of_getElem? (i := 83) rfl))) (by decide) (backOf (W := 0) (rmA l Z a0 hw [] b1 ad kc own_A1 (0 : Int32) (2 : Int32) Tk38.heap n0 zzk38 Hk38 own_lnA1 (own_ok_of own_okA1) (by decide +kernel) (by constructor <;> decide) (by constructor <;> decide)) hZ (hw _ (List.mem_of_getElem? (i := 85) rfl)) (hw _ (List.mem_of_getElem? (i := 2) rfl)) (by decide) (by decide)) qk39a qk39c (g := (mkF m 79 #[.val (.int p1), .val (.int p2), .val (.int p3), .val (.ref b1), .val (.int (1 : Int32)), .val (.int (2 : Int32)), .val (.int (3 : Int32)), .val (.int (Int32.ofNat 3)), .val (.int (Int32.ofNat t)), .unset, .unset, .unset, .unset, .unset, .unset, .unset, .unset, .unset] [(.int (2 : Int32)), (.int (0 : Int32)), (.ref b1)])) rfl (by rw [hml]; rfl) (Steps.refl _) (argsL := [(.int (0 : Int32)), (.int (2 : Int32))]) (rest := []) (lenOf pd_4 rfl) rfl (by show 2 * 0 + _ ≤ _; exact Nat.le_of_eq rfl) (hb hby at_79) (fun _ _ => ⟨rfl, rfl, (by decide : 12 + 0 ≤ _), (by decide : 659 + 0 ≤ _)⟩)
      dsimp only [Pt.U, Pt.locs, Pt.cells, Pt.slots] at Xk39 lk39 yk39 zk39 stk39 hQk39
      subst lk39 yk39 zk39
      obtain ⟨rfl, Nk39q, Kk39, Hk39⟩ := hQk39
      have Nk39 := Fr.app Nxk38 Nk39q
      obtain ⟨Lxk39, Xk39, Nxk39⟩ : ∃ L, Stand p l e room_1 s m #[(.int p1), (.int p2), (.int p3)] below meth c Tk39 L 12 659 ∧ Fr n0 L := ⟨_, Xk39.more (by decide) (by decide), Nk39⟩
      have zzk39 : n0 ≤ Tk39.heap.size := Nat.le_trans zzk38 Kk39.1
      rw [own_ap2] at Hk39
      obtain ⟨cqk310, kqk310, qk310a, qk310b, qk310c⟩ := isOf hZ rfl (Tr.exa Hk39)
      obtain ⟨_, _, ⟨Tk310, Lk310, kk310, nk310⟩, -, Xk310, ⟨Lck310, hQk310, lk310, yk310, zk310⟩, stk310⟩ := Xk39.virtualBack hx (y := (⟨"com/example/pith/pith/html/PageTree", "append", "(II)V"⟩ : MethodName)) (z := (⟨"com/example/pith/pith/html/PageTree", "append", "(II)V"⟩ : MethodName)) hown (mvT hZ (hw _ (List.mem_of_getElem? (i := 81) rfl))) (mvT hZ (hw _ (List.mem_of_getElem? (i := 82) rfl))) (notFace_of_selects (args := #[]) (mvT hZ (hw _ (List.mem_of_getElem? (i := 84) rfl)))) (mvT hZ (hw _ (List.mem_of_getElem? (i := 84) rfl))) (mvT hZ (hw _ (List.mem_of_getElem? (i := 83) rfl))) (by decide) (backOf (W := 0) (rmA l Z a0 hw [] b1 ad kc own_A2 (0 : Int32) (3 : Int32) Tk39.heap n0 zzk39 Hk39 own_lnA2 (own_ok_of own_okA2) (by decide +kernel) (by constructor <;> decide) (by constructor <;> decide)) hZ (hw _ (List.mem_of_getElem? (i := 85) rfl)) (hw _ (List.mem_of_getElem? (i := 2) rfl)) (by decide) (by decide)) qk310a qk310c (g := (mkF m 92 #[.val (.int p1), .val (.int p2), .val (.int p3), .val (.ref b1), .val (.int (1 : Int32)), .val (.int (2 : Int32)), .val (.int (3 : Int32)), .val (.int (Int32.ofNat 3)), .val (.int (Int32.ofNat t)), .unset, .unset, .unset, .unset, .unset, .unset, .unset, .unset, .unset] [(.int (3 : Int32)), (.int (0 : Int32)), (.ref b1)])) rfl (by rw [hml]; rfl) (Steps.refl _) (argsL := [(.int (0 : Int32)), (.int (3 : Int32))]) (rest := []) (lenOf pd_4 rfl) rfl (by show 2 * 0 + _ ≤ _; exact Nat.le_of_eq rfl) (hb hby at_92) (fun _ _ => ⟨rfl, rfl, (by decide : 12 + 0 ≤ _), (by decide : 659 + 0 ≤ _)⟩)
      dsimp only [Pt.U, Pt.locs, Pt.cells, Pt.slots] at Xk310 lk310 yk310 zk310 stk310 hQk310
      subst lk310 yk310 zk310
      obtain ⟨rfl, Nk310q, Kk310, Hk310⟩ := hQk310
      have Nk310 := Fr.app Nxk39 Nk310q
      obtain ⟨Lxk310, Xk310, Nxk310⟩ : ∃ L, Stand p l e room_1 s m #[(.int p1), (.int p2), (.int p3)] below meth c Tk310 L 12 659 ∧ Fr n0 L := ⟨_, Xk310.more (by decide) (by decide), Nk310⟩
      have zzk310 : n0 ≤ Tk310.heap.size := Nat.le_trans zzk39 Kk310.1
      rw [own_ap3] at Hk310
      have ppz : ∀ tt, Steps p.tables e below (Tk310.setTop (mkF m 109 #[.val (.int p1), .val (.int p2), .val (.int p3), .val (.ref b1), .val (.int (1 : Int32)), .val (.int (2 : Int32)), .val (.int (3 : Int32)), .val (.int (Int32.ofNat 3)), .val (.int (Int32.ofNat t)), .unset, .unset, .unset, .unset, .unset, .unset, .unset, .unset, .unset] [])) tt → Steps p.tables e below (s₁.setTop (entryFrame m #[(.int p1), (.int p2), (.int p3)] maxLocals)) tt := by
        intro tt kt
        refine pp tt ?_
        show Steps p.tables e below (T6.setTop (mkF m 59 #[.val (.int p1), .val (.int p2), .val (.int p3), .val (.ref b1), .val (.int (1 : Int32)), .val (.int (2 : Int32)), .val (.int (3 : Int32)), .val (.int (Int32.ofNat 3)), .val (.int (Int32.ofNat t)), .unset, .unset, .unset, .unset, .unset, .unset, .unset, .unset, .unset] [(.int (1 : Int32)), (.int (Int32.ofNat 3))])) _
        refine XS.icmpNo X6.here hx rfl (hb hby at_59) rfl (flt (by decide)).1 ?_
        show Steps p.tables e below (T6.setTop (mkF m 62 #[.val (.int p1), .val (.int p2), .val (.int p3), .val (.ref b1), .val (.int (1 : Int32)), .val (.int (2 : Int32)), .val (.int (3 : Int32)), .val (.int (Int32.ofNat 3)), .val (.int (Int32.ofNat t)), .unset, .unset, .unset, .unset, .unset, .unset, .unset, .unset, .unset] [])) _
        refine XS.aloadN X6.here hx rfl (hb hby at_62) rfl rfl ?_
        show Steps p.tables e below (T6.setTop (mkF m 63 #[.val (.int p1), .val (.int p2), .val (.int p3), .val (.ref b1), .val (.int (1 : Int32)), .val (.int (2 : Int32)), .val (.int (3 : Int32)), .val (.int (Int32.ofNat 3)), .val (.int (Int32.ofNat t)), .unset, .unset, .unset, .unset, .unset, .unset, .unset, .unset, .unset] [(.ref b1)])) _
        refine XS.iconst X6.here hx rfl (hb hby at_63) ?_
        show Steps p.tables e below (T6.setTop (mkF m 64 #[.val (.int p1), .val (.int p2), .val (.int p3), .val (.ref b1), .val (.int (1 : Int32)), .val (.int (2 : Int32)), .val (.int (3 : Int32)), .val (.int (Int32.ofNat 3)), .val (.int (Int32.ofNat t)), .unset, .unset, .unset, .unset, .unset, .unset, .unset, .unset, .unset] [(.int (0 : Int32)), (.ref b1)])) _
        refine XS.iload X6.here hx rfl (hb hby at_64) rfl ?_
        show Steps p.tables e below (T6.setTop (mkF m 66 #[.val (.int p1), .val (.int p2), .val (.int p3), .val (.ref b1), .val (.int (1 : Int32)), .val (.int (2 : Int32)), .val (.int (3 : Int32)), .val (.int (Int32.ofNat 3)), .val (.int (Int32.ofNat t)), .unset, .unset, .unset, .unset, .unset, .unset, .unset, .unset, .unset] [(.int (1 : Int32)), (.int (0 : Int32)), (.ref b1)])) _
        refine stk38.trans ?_
        show Steps p.tables e below (Tk38.setTop (mkF m 69 #[.val (.int p1), .val (.int p2), .val (.int p3), .val (.ref b1), .val (.int (1 : Int32)), .val (.int (2 : Int32)), .val (.int (3 : Int32)), .val (.int (Int32.ofNat 3)), .val (.int (Int32.ofNat t)), .unset, .unset, .unset, .unset, .unset, .unset, .unset, .unset, .unset] [])) _
        refine XS.iload Xk38.here hx rfl (hb hby at_69) rfl ?_
        show Steps p.tables e below (Tk38.setTop (mkF m 71 #[.val (.int p1), .val (.int p2), .val (.int p3), .val (.ref b1), .val (.int (1 : Int32)), .val (.int (2 : Int32)), .val (.int (3 : Int32)), .val (.int (Int32.ofNat 3)), .val (.int (Int32.ofNat t)), .unset, .unset, .unset, .unset, .unset, .unset, .unset, .unset, .unset] [(.int (Int32.ofNat 3))])) _
        refine XS.iconst Xk38.here hx rfl (hb hby at_71) ?_
        show Steps p.tables e below (Tk38.setTop (mkF m 72 #[.val (.int p1), .val (.int p2), .val (.int p3), .val (.ref b1), .val (.int (1 : Int32)), .val (.int (2 : Int32)), .val (.int (3 : Int32)), .val (.int (Int32.ofNat 3)), .val (.int (Int32.ofNat t)), .unset, .unset, .unset, .unset, .unset, .unset, .unset, .unset, .unset] [(.int (2 : Int32)), (.int (Int32.ofNat 3))])) _
        refine XS.icmpNo Xk38.here hx rfl (hb hby at_72) rfl (flt (by decide)).1 ?_
        show Steps p.tables e below (Tk38.setTop (mkF m 75 #[.val (.int p1), .val (.int p2), .val (.int p3), .val (.ref b1), .val (.int (1 : Int32)), .val (.int (2 : Int32)), .val (.int (3 : Int32)), .val (.int (Int32.ofNat 3)), .val (.int (Int32.ofNat t)), .unset, .unset, .unset, .unset, .unset, .unset, .unset, .unset, .unset] [])) _
        refine XS.aloadN Xk38.here hx rfl (hb hby at_75) rfl rfl ?_
        show Steps p.tables e below (Tk38.setTop (mkF m 76 #[.val (.int p1), .val (.int p2), .val (.int p3), .val (.ref b1), .val (.int (1 : Int32)), .val (.int (2 : Int32)), .val (.int (3 : Int32)), .val (.int (Int32.ofNat 3)), .val (.int (Int32.ofNat t)), .unset, .unset, .unset, .unset, .unset, .unset, .unset, .unset, .unset] [(.ref b1)])) _
        refine XS.iconst Xk38.here hx rfl (hb hby at_76) ?_
        show Steps p.tables e below (Tk38.setTop (mkF m 77 #[.val (.int p1), .val (.int p2), .val (.int p3), .val (.ref b1), .val (.int (1 : Int32)), .val (.int (2 : Int32)), .val (.int (3 : Int32)), .val (.int (Int32.ofNat 3)), .val (.int (Int32.ofNat t)), .unset, .unset, .unset, .unset, .unset, .unset, .unset, .unset, .unset] [(.int (0 : Int32)), (.ref b1)])) _
        refine XS.iload Xk38.here hx rfl (hb hby at_77) rfl ?_
        show Steps p.tables e below (Tk38.setTop (mkF m 79 #[.val (.int p1), .val (.int p2), .val (.int p3), .val (.ref b1), .val (.int (1 : Int32)), .val (.int (2 : Int32)), .val (.int (3 : Int32)), .val (.int (Int32.ofNat 3)), .val (.int (Int32.ofNat t)), .unset, .unset, .unset, .unset, .unset, .unset, .unset, .unset, .unset] [(.int (2 : Int32)), (.int (0 : Int32)), (.ref b1)])) _
        refine stk39.trans ?_
        show Steps p.tables e below (Tk39.setTop (mkF m 82 #[.val (.int p1), .val (.int p2), .val (.int p3), .val (.ref b1), .val (.int (1 : Int32)), .val (.int (2 : Int32)), .val (.int (3 : Int32)), .val (.int (Int32.ofNat 3)), .val (.int (Int32.ofNat t)), .unset, .unset, .unset, .unset, .unset, .unset, .unset, .unset, .unset] [])) _
        refine XS.iload Xk39.here hx rfl (hb hby at_82) rfl ?_
        show Steps p.tables e below (Tk39.setTop (mkF m 84 #[.val (.int p1), .val (.int p2), .val (.int p3), .val (.ref b1), .val (.int (1 : Int32)), .val (.int (2 : Int32)), .val (.int (3 : Int32)), .val (.int (Int32.ofNat 3)), .val (.int (Int32.ofNat t)), .unset, .unset, .unset, .unset, .unset, .unset, .unset, .unset, .unset] [(.int (Int32.ofNat 3))])) _
        refine XS.iconst Xk39.here hx rfl (hb hby at_84) ?_
        show Steps p.tables e below (Tk39.setTop (mkF m 85 #[.val (.int p1), .val (.int p2), .val (.int p3), .val (.ref b1), .val (.int (1 : Int32)), .val (.int (2 : Int32)), .val (.int (3 : Int32)), .val (.int (Int32.ofNat 3)), .val (.int (Int32.ofNat t)), .unset, .unset, .unset, .unset, .unset, .unset, .unset, .unset, .unset] [(.int (3 : Int32)), (.int (Int32.ofNat 3))])) _
        refine XS.icmpNo Xk39.here hx rfl (hb hby at_85) rfl (teq (by decide)).2 ?_
        show Steps p.tables e below (Tk39.setTop (mkF m 88 #[.val (.int p1), .val (.int p2), .val (.int p3), .val (.ref b1), .val (.int (1 : Int32)), .val (.int (2 : Int32)), .val (.int (3 : Int32)), .val (.int (Int32.ofNat 3)), .val (.int (Int32.ofNat t)), .unset, .unset, .unset, .unset, .unset, .unset, .unset, .unset, .unset] [])) _
        refine XS.aloadN Xk39.here hx rfl (hb hby at_88) rfl rfl ?_
        show Steps p.tables e below (Tk39.setTop (mkF m 89 #[.val (.int p1), .val (.int p2), .val (.int p3), .val (.ref b1), .val (.int (1 : Int32)), .val (.int (2 : Int32)), .val (.int (3 : Int32)), .val (.int (Int32.ofNat 3)), .val (.int (Int32.ofNat t)), .unset, .unset, .unset, .unset, .unset, .unset, .unset, .unset, .unset] [(.ref b1)])) _
        refine XS.iconst Xk39.here hx rfl (hb hby at_89) ?_
        show Steps p.tables e below (Tk39.setTop (mkF m 90 #[.val (.int p1), .val (.int p2), .val (.int p3), .val (.ref b1), .val (.int (1 : Int32)), .val (.int (2 : Int32)), .val (.int (3 : Int32)), .val (.int (Int32.ofNat 3)), .val (.int (Int32.ofNat t)), .unset, .unset, .unset, .unset, .unset, .unset, .unset, .unset, .unset] [(.int (0 : Int32)), (.ref b1)])) _
        refine XS.iload Xk39.here hx rfl (hb hby at_90) rfl ?_
        show Steps p.tables e below (Tk39.setTop (mkF m 92 #[.val (.int p1), .val (.int p2), .val (.int p3), .val (.ref b1), .val (.int (1 : Int32)), .val (.int (2 : Int32)), .val (.int (3 : Int32)), .val (.int (Int32.ofNat 3)), .val (.int (Int32.ofNat t)), .unset, .unset, .unset, .unset, .unset, .unset, .unset, .unset, .unset] [(.int (3 : Int32)), (.int (0 : Int32)), (.ref b1)])) _
        refine stk310.trans ?_
        show Steps p.tables e below (Tk310.setTop (mkF m 95 #[.val (.int p1), .val (.int p2), .val (.int p3), .val (.ref b1), .val (.int (1 : Int32)), .val (.int (2 : Int32)), .val (.int (3 : Int32)), .val (.int (Int32.ofNat 3)), .val (.int (Int32.ofNat t)), .unset, .unset, .unset, .unset, .unset, .unset, .unset, .unset, .unset] [])) _
        refine XS.iload Xk310.here hx rfl (hb hby at_95) rfl ?_
        show Steps p.tables e below (Tk310.setTop (mkF m 97 #[.val (.int p1), .val (.int p2), .val (.int p3), .val (.ref b1), .val (.int (1 : Int32)), .val (.int (2 : Int32)), .val (.int (3 : Int32)), .val (.int (Int32.ofNat 3)), .val (.int (Int32.ofNat t)), .unset, .unset, .unset, .unset, .unset, .unset, .unset, .unset, .unset] [(.int (Int32.ofNat 3))])) _
        refine XS.iconst Xk310.here hx rfl (hb hby at_97) ?_
        show Steps p.tables e below (Tk310.setTop (mkF m 98 #[.val (.int p1), .val (.int p2), .val (.int p3), .val (.ref b1), .val (.int (1 : Int32)), .val (.int (2 : Int32)), .val (.int (3 : Int32)), .val (.int (Int32.ofNat 3)), .val (.int (Int32.ofNat t)), .unset, .unset, .unset, .unset, .unset, .unset, .unset, .unset, .unset] [(.int (2 : Int32)), (.int (Int32.ofNat 3))])) _
        refine XS.icmpYes Xk310.here hx rfl (pc0 := 98) (pc' := 109) rfl (hb hby at_98) rfl (feq (by decide)).2 (by decide) (by decide) ?_
        exact kt
      exact ⟨Tk310, _, Xk310, Nxk310, zzk310, Hk310, ppz⟩
  obtain ⟨U2, Lc2, XU2, NU2, zU2, HU2, pU2⟩ := ph2
  have pre8 : ∀ tt, Steps p.tables e below (U2.setTop (mkF m 132 #[.val (.int p1), .val (.int p2), .val (.int p3), .val (.ref b1), .val (.int (1 : Int32)), .val (.int (2 : Int32)), .val (.int (3 : Int32)), .val (.int (Int32.ofNat k)), .val (.int (Int32.ofNat t)), .unset, .unset, .unset, .unset, .unset, .unset, .unset, .unset, .unset] [(.int (own_x t))])) tt → Steps p.tables e below (s₁.setTop (entryFrame m #[(.int p1), (.int p2), (.int p3)] maxLocals)) tt := by
    intro tt kt
    refine pU2 tt ?_
    rcases own_t3 ht with rfl | rfl | rfl
    · skip
      show Steps p.tables e below (U2.setTop (mkF m 109 #[.val (.int p1), .val (.int p2), .val (.int p3), .val (.ref b1), .val (.int (1 : Int32)), .val (.int (2 : Int32)), .val (.int (3 : Int32)), .val (.int (Int32.ofNat k)), .val (.int (Int32.ofNat 0)), .unset, .unset, .unset, .unset, .unset, .unset, .unset, .unset, .unset] [])) _
      refine XS.iload XU2.here hx rfl (hb hby at_109) rfl ?_
      show Steps p.tables e below (U2.setTop (mkF m 111 #[.val (.int p1), .val (.int p2), .val (.int p3), .val (.ref b1), .val (.int (1 : Int32)), .val (.int (2 : Int32)), .val (.int (3 : Int32)), .val (.int (Int32.ofNat k)), .val (.int (Int32.ofNat 0)), .unset, .unset, .unset, .unset, .unset, .unset, .unset, .unset, .unset] [(.int (Int32.ofNat 0))])) _
      refine XS.ifNo XU2.here hx rfl (hb hby at_111) rfl ((if0 _ _).trans (teq (by decide)).2) ?_
      show Steps p.tables e below (U2.setTop (mkF m 114 #[.val (.int p1), .val (.int p2), .val (.int p3), .val (.ref b1), .val (.int (1 : Int32)), .val (.int (2 : Int32)), .val (.int (3 : Int32)), .val (.int (Int32.ofNat k)), .val (.int (Int32.ofNat 0)), .unset, .unset, .unset, .unset, .unset, .unset, .unset, .unset, .unset] [])) _
      refine XS.iload XU2.here hx rfl (hb hby at_114) rfl ?_
      show Steps p.tables e below (U2.setTop (mkF m 116 #[.val (.int p1), .val (.int p2), .val (.int p3), .val (.ref b1), .val (.int (1 : Int32)), .val (.int (2 : Int32)), .val (.int (3 : Int32)), .val (.int (Int32.ofNat k)), .val (.int (Int32.ofNat 0)), .unset, .unset, .unset, .unset, .unset, .unset, .unset, .unset, .unset] [(.int (1 : Int32))])) _
      refine XS.goto XU2.here hx rfl (pc0 := 116) (pc' := 132) rfl (hb hby at_116) (by decide) (by decide) ?_
      exact kt
    · skip
      show Steps p.tables e below (U2.setTop (mkF m 109 #[.val (.int p1), .val (.int p2), .val (.int p3), .val (.ref b1), .val (.int (1 : Int32)), .val (.int (2 : Int32)), .val (.int (3 : Int32)), .val (.int (Int32.ofNat k)), .val (.int (Int32.ofNat 1)), .unset, .unset, .unset, .unset, .unset, .unset, .unset, .unset, .unset] [])) _
      refine XS.iload XU2.here hx rfl (hb hby at_109) rfl ?_
      show Steps p.tables e below (U2.setTop (mkF m 111 #[.val (.int p1), .val (.int p2), .val (.int p3), .val (.ref b1), .val (.int (1 : Int32)), .val (.int (2 : Int32)), .val (.int (3 : Int32)), .val (.int (Int32.ofNat k)), .val (.int (Int32.ofNat 1)), .unset, .unset, .unset, .unset, .unset, .unset, .unset, .unset, .unset] [(.int (Int32.ofNat 1))])) _
      refine XS.ifYes XU2.here hx rfl (pc0 := 111) (pc' := 119) rfl (hb hby at_111) rfl ((if0 _ _).trans (feq (by decide)).2) (by decide) (by decide) ?_
      show Steps p.tables e below (U2.setTop (mkF m 119 #[.val (.int p1), .val (.int p2), .val (.int p3), .val (.ref b1), .val (.int (1 : Int32)), .val (.int (2 : Int32)), .val (.int (3 : Int32)), .val (.int (Int32.ofNat k)), .val (.int (Int32.ofNat 1)), .unset, .unset, .unset, .unset, .unset, .unset, .unset, .unset, .unset] [])) _
      refine XS.iload XU2.here hx rfl (hb hby at_119) rfl ?_
      show Steps p.tables e below (U2.setTop (mkF m 121 #[.val (.int p1), .val (.int p2), .val (.int p3), .val (.ref b1), .val (.int (1 : Int32)), .val (.int (2 : Int32)), .val (.int (3 : Int32)), .val (.int (Int32.ofNat k)), .val (.int (Int32.ofNat 1)), .unset, .unset, .unset, .unset, .unset, .unset, .unset, .unset, .unset] [(.int (Int32.ofNat 1))])) _
      refine XS.iconst XU2.here hx rfl (hb hby at_121) ?_
      show Steps p.tables e below (U2.setTop (mkF m 122 #[.val (.int p1), .val (.int p2), .val (.int p3), .val (.ref b1), .val (.int (1 : Int32)), .val (.int (2 : Int32)), .val (.int (3 : Int32)), .val (.int (Int32.ofNat k)), .val (.int (Int32.ofNat 1)), .unset, .unset, .unset, .unset, .unset, .unset, .unset, .unset, .unset] [(.int (1 : Int32)), (.int (Int32.ofNat 1))])) _
      refine XS.icmpNo XU2.here hx rfl (hb hby at_122) rfl (teq (by decide)).2 ?_
      show Steps p.tables e below (U2.setTop (mkF m 125 #[.val (.int p1), .val (.int p2), .val (.int p3), .val (.ref b1), .val (.int (1 : Int32)), .val (.int (2 : Int32)), .val (.int (3 : Int32)), .val (.int (Int32.ofNat k)), .val (.int (Int32.ofNat 1)), .unset, .unset, .unset, .unset, .unset, .unset, .unset, .unset, .unset] [])) _
      refine XS.iload XU2.here hx rfl (hb hby at_125) rfl ?_
      show Steps p.tables e below (U2.setTop (mkF m 127 #[.val (.int p1), .val (.int p2), .val (.int p3), .val (.ref b1), .val (.int (1 : Int32)), .val (.int (2 : Int32)), .val (.int (3 : Int32)), .val (.int (Int32.ofNat k)), .val (.int (Int32.ofNat 1)), .unset, .unset, .unset, .unset, .unset, .unset, .unset, .unset, .unset] [(.int (2 : Int32))])) _
      refine XS.goto XU2.here hx rfl (pc0 := 127) (pc' := 132) rfl (hb hby at_127) (by decide) (by decide) ?_
      exact kt
    · skip
      show Steps p.tables e below (U2.setTop (mkF m 109 #[.val (.int p1), .val (.int p2), .val (.int p3), .val (.ref b1), .val (.int (1 : Int32)), .val (.int (2 : Int32)), .val (.int (3 : Int32)), .val (.int (Int32.ofNat k)), .val (.int (Int32.ofNat 2)), .unset, .unset, .unset, .unset, .unset, .unset, .unset, .unset, .unset] [])) _
      refine XS.iload XU2.here hx rfl (hb hby at_109) rfl ?_
      show Steps p.tables e below (U2.setTop (mkF m 111 #[.val (.int p1), .val (.int p2), .val (.int p3), .val (.ref b1), .val (.int (1 : Int32)), .val (.int (2 : Int32)), .val (.int (3 : Int32)), .val (.int (Int32.ofNat k)), .val (.int (Int32.ofNat 2)), .unset, .unset, .unset, .unset, .unset, .unset, .unset, .unset, .unset] [(.int (Int32.ofNat 2))])) _
      refine XS.ifYes XU2.here hx rfl (pc0 := 111) (pc' := 119) rfl (hb hby at_111) rfl ((if0 _ _).trans (feq (by decide)).2) (by decide) (by decide) ?_
      show Steps p.tables e below (U2.setTop (mkF m 119 #[.val (.int p1), .val (.int p2), .val (.int p3), .val (.ref b1), .val (.int (1 : Int32)), .val (.int (2 : Int32)), .val (.int (3 : Int32)), .val (.int (Int32.ofNat k)), .val (.int (Int32.ofNat 2)), .unset, .unset, .unset, .unset, .unset, .unset, .unset, .unset, .unset] [])) _
      refine XS.iload XU2.here hx rfl (hb hby at_119) rfl ?_
      show Steps p.tables e below (U2.setTop (mkF m 121 #[.val (.int p1), .val (.int p2), .val (.int p3), .val (.ref b1), .val (.int (1 : Int32)), .val (.int (2 : Int32)), .val (.int (3 : Int32)), .val (.int (Int32.ofNat k)), .val (.int (Int32.ofNat 2)), .unset, .unset, .unset, .unset, .unset, .unset, .unset, .unset, .unset] [(.int (Int32.ofNat 2))])) _
      refine XS.iconst XU2.here hx rfl (hb hby at_121) ?_
      show Steps p.tables e below (U2.setTop (mkF m 122 #[.val (.int p1), .val (.int p2), .val (.int p3), .val (.ref b1), .val (.int (1 : Int32)), .val (.int (2 : Int32)), .val (.int (3 : Int32)), .val (.int (Int32.ofNat k)), .val (.int (Int32.ofNat 2)), .unset, .unset, .unset, .unset, .unset, .unset, .unset, .unset, .unset] [(.int (1 : Int32)), (.int (Int32.ofNat 2))])) _
      refine XS.icmpYes XU2.here hx rfl (pc0 := 122) (pc' := 130) rfl (hb hby at_122) rfl (feq (by decide)).2 (by decide) (by decide) ?_
      show Steps p.tables e below (U2.setTop (mkF m 130 #[.val (.int p1), .val (.int p2), .val (.int p3), .val (.ref b1), .val (.int (1 : Int32)), .val (.int (2 : Int32)), .val (.int (3 : Int32)), .val (.int (Int32.ofNat k)), .val (.int (Int32.ofNat 2)), .unset, .unset, .unset, .unset, .unset, .unset, .unset, .unset, .unset] [])) _
      refine XS.iload XU2.here hx rfl (hb hby at_130) rfl ?_
      exact kt
  obtain ⟨T9, h9, k9, X9, e9, E9, A9, st9⟩ := newP XU2 hx hZ (hw _ (List.mem_of_getElem? (i := 18) rfl)) rfl (g := (mkF m 135 #[.val (.int p1), .val (.int p2), .val (.int p3), .val (.ref b1), .val (.int (1 : Int32)), .val (.int (2 : Int32)), .val (.int (3 : Int32)), .val (.int (Int32.ofNat k)), .val (.int (Int32.ofNat t)), .val (.int (own_x t)), .unset, .unset, .unset, .unset, .unset, .unset, .unset, .unset] [(.int (4 : Int32))])) rfl (hb hby at_135) rfl (by decide) (cap := 4) (by decide) (by decide) (by decide) (by decide)
  obtain ⟨b9, g9⟩ : ∃ z, z = U2.heap.size := ⟨_, rfl⟩
  rw [← g9] at A9 st9
  have V9 := Arv.new A9 (by decide)
  obtain ⟨Lx9, X9, Nx9⟩ : ∃ L, Stand p l e room_1 s m #[(.int p1), (.int p2), (.int p3)] below meth c T9 L 13 663 ∧ Fr n0 L := ⟨_, X9.more (by decide) (by decide), NU2⟩
  have g_b9 : n0 ≤ b9 := Nat.le_trans zU2 (Nat.le_of_eq g9.symm)
  have zz9 : n0 ≤ h9.size := Nat.le_trans zU2 E9.1
  have H9 := Tr.keep0 HU2 ((Keep.refl _ []).ext E9)
  have nl : ∀ i, ad i ≠ b9 := fun i => Nat.ne_of_lt (Nat.lt_of_lt_of_le (HU2.2.2.1 i).lt (Nat.le_of_eq g9.symm))
  have nlo : b9 ≠ b1 := Nat.ne_of_gt (Nat.lt_of_lt_of_le HU2.1.lt (Nat.le_of_eq g9.symm))
  have V9_0 : Arv Z h9 b9 k9 .int 4 [(.int (0 : Int32)), (.int (0 : Int32)), (.int (0 : Int32)), (.int (0 : Int32))] (.int (0 : Int32)) := V9.pad (pad_rep [] (.int (0 : Int32)) 4)
  have pre10 : ∀ tt, Steps p.tables e below (T9.setTop (mkF m 151 #[.val (.int p1), .val (.int p2), .val (.int p3), .val (.ref b1), .val (.int (1 : Int32)), .val (.int (2 : Int32)), .val (.int (3 : Int32)), .val (.int (Int32.ofNat k)), .val (.int (Int32.ofNat t)), .val (.int (own_x t)), .unset, .unset, .unset, .unset, .unset, .unset, .unset, .unset] [(.int (if 1 ≤ k then (1 : Int32) else -1)), (.int (0 : Int32)), (.ref b9), (.ref b9)])) tt → Steps p.tables e below (s₁.setTop (entryFrame m #[(.int p1), (.int p2), (.int p3)] maxLocals)) tt := by
    intro tt kt
    refine pre8 tt ?_
    show Steps p.tables e below (U2.setTop (mkF m 132 #[.val (.int p1), .val (.int p2), .val (.int p3), .val (.ref b1), .val (.int (1 : Int32)), .val (.int (2 : Int32)), .val (.int (3 : Int32)), .val (.int (Int32.ofNat k)), .val (.int (Int32.ofNat t)), .unset, .unset, .unset, .unset, .unset, .unset, .unset, .unset, .unset] [(.int (own_x t))])) _
    refine XS.istore XU2.here hx rfl (hb hby at_132) rfl (l' := #[.val (.int p1), .val (.int p2), .val (.int p3), .val (.ref b1), .val (.int (1 : Int32)), .val (.int (2 : Int32)), .val (.int (3 : Int32)), .val (.int (Int32.ofNat k)), .val (.int (Int32.ofNat t)), .val (.int (own_x t)), .unset, .unset, .unset, .unset, .unset, .unset, .unset, .unset]) rfl ?_
    show Steps p.tables e below (U2.setTop (mkF m 134 #[.val (.int p1), .val (.int p2), .val (.int p3), .val (.ref b1), .val (.int (1 : Int32)), .val (.int (2 : Int32)), .val (.int (3 : Int32)), .val (.int (Int32.ofNat k)), .val (.int (Int32.ofNat t)), .val (.int (own_x t)), .unset, .unset, .unset, .unset, .unset, .unset, .unset, .unset] [])) _
    refine XS.iconst XU2.here hx rfl (hb hby at_134) ?_
    show Steps p.tables e below (U2.setTop (mkF m 135 #[.val (.int p1), .val (.int p2), .val (.int p3), .val (.ref b1), .val (.int (1 : Int32)), .val (.int (2 : Int32)), .val (.int (3 : Int32)), .val (.int (Int32.ofNat k)), .val (.int (Int32.ofNat t)), .val (.int (own_x t)), .unset, .unset, .unset, .unset, .unset, .unset, .unset, .unset] [(.int (4 : Int32))])) _
    refine st9 _ ?_
    show Steps p.tables e below (T9.setTop (mkF m 137 #[.val (.int p1), .val (.int p2), .val (.int p3), .val (.ref b1), .val (.int (1 : Int32)), .val (.int (2 : Int32)), .val (.int (3 : Int32)), .val (.int (Int32.ofNat k)), .val (.int (Int32.ofNat t)), .val (.int (own_x t)), .unset, .unset, .unset, .unset, .unset, .unset, .unset, .unset] [(.ref b9)])) _
    refine XS.dup X9.here hx rfl (hb hby at_137) rfl rfl ?_
    show Steps p.tables e below (T9.setTop (mkF m 138 #[.val (.int p1), .val (.int p2), .val (.int p3), .val (.ref b1), .val (.int (1 : Int32)), .val (.int (2 : Int32)), .val (.int (3 : Int32)), .val (.int (Int32.ofNat k)), .val (.int (Int32.ofNat t)), .val (.int (own_x t)), .unset, .unset, .unset, .unset, .unset, .unset, .unset, .unset] [(.ref b9), (.ref b9)])) _
    refine XS.iconst X9.here hx rfl (hb hby at_138) ?_
    show Steps p.tables e below (T9.setTop (mkF m 139 #[.val (.int p1), .val (.int p2), .val (.int p3), .val (.ref b1), .val (.int (1 : Int32)), .val (.int (2 : Int32)), .val (.int (3 : Int32)), .val (.int (Int32.ofNat k)), .val (.int (Int32.ofNat t)), .val (.int (own_x t)), .unset, .unset, .unset, .unset, .unset, .unset, .unset, .unset] [(.int (0 : Int32)), (.ref b9), (.ref b9)])) _
    refine XS.iload X9.here hx rfl (hb hby at_139) rfl ?_
    show Steps p.tables e below (T9.setTop (mkF m 141 #[.val (.int p1), .val (.int p2), .val (.int p3), .val (.ref b1), .val (.int (1 : Int32)), .val (.int (2 : Int32)), .val (.int (3 : Int32)), .val (.int (Int32.ofNat k)), .val (.int (Int32.ofNat t)), .val (.int (own_x t)), .unset, .unset, .unset, .unset, .unset, .unset, .unset, .unset] [(.int (Int32.ofNat k)), (.int (0 : Int32)), (.ref b9), (.ref b9)])) _
    refine XS.iconst X9.here hx rfl (hb hby at_141) ?_
    rcases own_k3 hk with rfl | rfl | rfl | rfl
    · skip
      show Steps p.tables e below (T9.setTop (mkF m 142 #[.val (.int p1), .val (.int p2), .val (.int p3), .val (.ref b1), .val (.int (1 : Int32)), .val (.int (2 : Int32)), .val (.int (3 : Int32)), .val (.int (Int32.ofNat 0)), .val (.int (Int32.ofNat t)), .val (.int (own_x t)), .unset, .unset, .unset, .unset, .unset, .unset, .unset, .unset] [(.int (1 : Int32)), (.int (Int32.ofNat 0)), (.int (0 : Int32)), (.ref b9), (.ref b9)])) _
      refine XS.icmpYes X9.here hx rfl (pc0 := 142) (pc' := 150) rfl (hb hby at_142) rfl (tlt (by decide)).1 (by decide) (by decide) ?_
      show Steps p.tables e below (T9.setTop (mkF m 150 #[.val (.int p1), .val (.int p2), .val (.int p3), .val (.ref b1), .val (.int (1 : Int32)), .val (.int (2 : Int32)), .val (.int (3 : Int32)), .val (.int (Int32.ofNat 0)), .val (.int (Int32.ofNat t)), .val (.int (own_x t)), .unset, .unset, .unset, .unset, .unset, .unset, .unset, .unset] [(.int (0 : Int32)), (.ref b9), (.ref b9)])) _
      refine XS.iconst X9.here hx rfl (hb hby at_150) ?_
      exact kt
    · skip
      show Steps p.tables e below (T9.setTop (mkF m 142 #[.val (.int p1), .val (.int p2), .val (.int p3), .val (.ref b1), .val (.int (1 : Int32)), .val (.int (2 : Int32)), .val (.int (3 : Int32)), .val (.int (Int32.ofNat 1)), .val (.int (Int32.ofNat t)), .val (.int (own_x t)), .unset, .unset, .unset, .unset, .unset, .unset, .unset, .unset] [(.int (1 : Int32)), (.int (Int32.ofNat 1)), (.int (0 : Int32)), (.ref b9), (.ref b9)])) _
      refine XS.icmpNo X9.here hx rfl (hb hby at_142) rfl (flt (by decide)).1 ?_
      show Steps p.tables e below (T9.setTop (mkF m 145 #[.val (.int p1), .val (.int p2), .val (.int p3), .val (.ref b1), .val (.int (1 : Int32)), .val (.int (2 : Int32)), .val (.int (3 : Int32)), .val (.int (Int32.ofNat 1)), .val (.int (Int32.ofNat t)), .val (.int (own_x t)), .unset, .unset, .unset, .unset, .unset, .unset, .unset, .unset] [(.int (0 : Int32)), (.ref b9), (.ref b9)])) _
      refine XS.iload X9.here hx rfl (hb hby at_145) rfl ?_
      show Steps p.tables e below (T9.setTop (mkF m 147 #[.val (.int p1), .val (.int p2), .val (.int p3), .val (.ref b1), .val (.int (1 : Int32)), .val (.int (2 : Int32)), .val (.int (3 : Int32)), .val (.int (Int32.ofNat 1)), .val (.int (Int32.ofNat t)), .val (.int (own_x t)), .unset, .unset, .unset, .unset, .unset, .unset, .unset, .unset] [(.int (1 : Int32)), (.int (0 : Int32)), (.ref b9), (.ref b9)])) _
      refine XS.goto X9.here hx rfl (pc0 := 147) (pc' := 151) rfl (hb hby at_147) (by decide) (by decide) ?_
      exact kt
    · skip
      show Steps p.tables e below (T9.setTop (mkF m 142 #[.val (.int p1), .val (.int p2), .val (.int p3), .val (.ref b1), .val (.int (1 : Int32)), .val (.int (2 : Int32)), .val (.int (3 : Int32)), .val (.int (Int32.ofNat 2)), .val (.int (Int32.ofNat t)), .val (.int (own_x t)), .unset, .unset, .unset, .unset, .unset, .unset, .unset, .unset] [(.int (1 : Int32)), (.int (Int32.ofNat 2)), (.int (0 : Int32)), (.ref b9), (.ref b9)])) _
      refine XS.icmpNo X9.here hx rfl (hb hby at_142) rfl (flt (by decide)).1 ?_
      show Steps p.tables e below (T9.setTop (mkF m 145 #[.val (.int p1), .val (.int p2), .val (.int p3), .val (.ref b1), .val (.int (1 : Int32)), .val (.int (2 : Int32)), .val (.int (3 : Int32)), .val (.int (Int32.ofNat 2)), .val (.int (Int32.ofNat t)), .val (.int (own_x t)), .unset, .unset, .unset, .unset, .unset, .unset, .unset, .unset] [(.int (0 : Int32)), (.ref b9), (.ref b9)])) _
      refine XS.iload X9.here hx rfl (hb hby at_145) rfl ?_
      show Steps p.tables e below (T9.setTop (mkF m 147 #[.val (.int p1), .val (.int p2), .val (.int p3), .val (.ref b1), .val (.int (1 : Int32)), .val (.int (2 : Int32)), .val (.int (3 : Int32)), .val (.int (Int32.ofNat 2)), .val (.int (Int32.ofNat t)), .val (.int (own_x t)), .unset, .unset, .unset, .unset, .unset, .unset, .unset, .unset] [(.int (1 : Int32)), (.int (0 : Int32)), (.ref b9), (.ref b9)])) _
      refine XS.goto X9.here hx rfl (pc0 := 147) (pc' := 151) rfl (hb hby at_147) (by decide) (by decide) ?_
      exact kt
    · skip
      show Steps p.tables e below (T9.setTop (mkF m 142 #[.val (.int p1), .val (.int p2), .val (.int p3), .val (.ref b1), .val (.int (1 : Int32)), .val (.int (2 : Int32)), .val (.int (3 : Int32)), .val (.int (Int32.ofNat 3)), .val (.int (Int32.ofNat t)), .val (.int (own_x t)), .unset, .unset, .unset, .unset, .unset, .unset, .unset, .unset] [(.int (1 : Int32)), (.int (Int32.ofNat 3)), (.int (0 : Int32)), (.ref b9), (.ref b9)])) _
      refine XS.icmpNo X9.here hx rfl (hb hby at_142) rfl (flt (by decide)).1 ?_
      show Steps p.tables e below (T9.setTop (mkF m 145 #[.val (.int p1), .val (.int p2), .val (.int p3), .val (.ref b1), .val (.int (1 : Int32)), .val (.int (2 : Int32)), .val (.int (3 : Int32)), .val (.int (Int32.ofNat 3)), .val (.int (Int32.ofNat t)), .val (.int (own_x t)), .unset, .unset, .unset, .unset, .unset, .unset, .unset, .unset] [(.int (0 : Int32)), (.ref b9), (.ref b9)])) _
      refine XS.iload X9.here hx rfl (hb hby at_145) rfl ?_
      show Steps p.tables e below (T9.setTop (mkF m 147 #[.val (.int p1), .val (.int p2), .val (.int p3), .val (.ref b1), .val (.int (1 : Int32)), .val (.int (2 : Int32)), .val (.int (3 : Int32)), .val (.int (Int32.ofNat 3)), .val (.int (Int32.ofNat t)), .val (.int (own_x t)), .unset, .unset, .unset, .unset, .unset, .unset, .unset, .unset] [(.int (1 : Int32)), (.int (0 : Int32)), (.ref b9), (.ref b9)])) _
      refine XS.goto X9.here hx rfl (pc0 := 147) (pc' := 151) rfl (hb hby at_147) (by decide) (by decide) ?_
      exact kt
  obtain ⟨c9_0, A9_0, q9_0, S9_0, M9_0, H9_0, G9_0⟩ := V9_0
  obtain ⟨T11, h11, X11, e11, W11, st11⟩ := stI X9 hx hZ e9 A9_0 (j := (0 : Int32)) (inb_of S9_0 ⟨by decide, by decide⟩) (g := (mkF m 151 #[.val (.int p1), .val (.int p2), .val (.int p3), .val (.ref b1), .val (.int (1 : Int32)), .val (.int (2 : Int32)), .val (.int (3 : Int32)), .val (.int (Int32.ofNat k)), .val (.int (Int32.ofNat t)), .val (.int (own_x t)), .unset, .unset, .unset, .unset, .unset, .unset, .unset, .unset] [(.int (if 1 ≤ k then (1 : Int32) else -1)), (.int (0 : Int32)), (.ref b9), (.ref b9)])) rfl rfl (hb hby at_151)
  have N11 := Fr.snoc X11 Nx9 g_b9
  obtain ⟨Lx11, X11, Nx11⟩ : ∃ L, Stand p l e room_1 s m #[(.int p1), (.int p2), (.int p3)] below meth c T11 L 13 663 ∧ Fr n0 L := ⟨_, X11.more (by decide) (by decide), N11⟩
  have V9_1 : Arv Z h11 b9 k9 .int 4 [(.int (if 1 ≤ k then (1 : Int32) else -1)), (.int (0 : Int32)), (.int (0 : Int32)), (.int (0 : Int32))] (.int (0 : Int32)) := Arv.set A9_0 q9_0 S9_0 M9_0 H9_0 G9_0 rfl W11 0 rfl (Nat.le_of_ble_eq_true rfl)
  have H11 := Tr.keep H9 (Keep.of_wr W11) (ninS (Ne.symm nlo) nin0) (fun i => ninS (nl i) nin0)
  have zz11 : n0 ≤ h11.size := Nat.le_trans zz9 (Keep.of_wr W11).1
  have pre12 : ∀ tt, Steps p.tables e below (T11.setTop (mkF m 166 #[.val (.int p1), .val (.int p2), .val (.int p3), .val (.ref b1), .val (.int (1 : Int32)), .val (.int (2 : Int32)), .val (.int (3 : Int32)), .val (.int (Int32.ofNat k)), .val (.int (Int32.ofNat t)), .val (.int (own_x t)), .unset, .unset, .unset, .unset, .unset, .unset, .unset, .unset] [(.int (if 2 ≤ k then (2 : Int32) else -1)), (.int (1 : Int32)), (.ref b9), (.ref b9)])) tt → Steps p.tables e below (s₁.setTop (entryFrame m #[(.int p1), (.int p2), (.int p3)] maxLocals)) tt := by
    intro tt kt
    refine pre10 tt ?_
    show Steps p.tables e below (T9.setTop (mkF m 151 #[.val (.int p1), .val (.int p2), .val (.int p3), .val (.ref b1), .val (.int (1 : Int32)), .val (.int (2 : Int32)), .val (.int (3 : Int32)), .val (.int (Int32.ofNat k)), .val (.int (Int32.ofNat t)), .val (.int (own_x t)), .unset, .unset, .unset, .unset, .unset, .unset, .unset, .unset] [(.int (if 1 ≤ k then (1 : Int32) else -1)), (.int (0 : Int32)), (.ref b9), (.ref b9)])) _
    refine st11 _ ?_
    show Steps p.tables e below (T11.setTop (mkF m 152 #[.val (.int p1), .val (.int p2), .val (.int p3), .val (.ref b1), .val (.int (1 : Int32)), .val (.int (2 : Int32)), .val (.int (3 : Int32)), .val (.int (Int32.ofNat k)), .val (.int (Int32.ofNat t)), .val (.int (own_x t)), .unset, .unset, .unset, .unset, .unset, .unset, .unset, .unset] [(.ref b9)])) _
    refine XS.dup X11.here hx rfl (hb hby at_152) rfl rfl ?_
    show Steps p.tables e below (T11.setTop (mkF m 153 #[.val (.int p1), .val (.int p2), .val (.int p3), .val (.ref b1), .val (.int (1 : Int32)), .val (.int (2 : Int32)), .val (.int (3 : Int32)), .val (.int (Int32.ofNat k)), .val (.int (Int32.ofNat t)), .val (.int (own_x t)), .unset, .unset, .unset, .unset, .unset, .unset, .unset, .unset] [(.ref b9), (.ref b9)])) _
    refine XS.iconst X11.here hx rfl (hb hby at_153) ?_
    show Steps p.tables e below (T11.setTop (mkF m 154 #[.val (.int p1), .val (.int p2), .val (.int p3), .val (.ref b1), .val (.int (1 : Int32)), .val (.int (2 : Int32)), .val (.int (3 : Int32)), .val (.int (Int32.ofNat k)), .val (.int (Int32.ofNat t)), .val (.int (own_x t)), .unset, .unset, .unset, .unset, .unset, .unset, .unset, .unset] [(.int (1 : Int32)), (.ref b9), (.ref b9)])) _
    refine XS.iload X11.here hx rfl (hb hby at_154) rfl ?_
    show Steps p.tables e below (T11.setTop (mkF m 156 #[.val (.int p1), .val (.int p2), .val (.int p3), .val (.ref b1), .val (.int (1 : Int32)), .val (.int (2 : Int32)), .val (.int (3 : Int32)), .val (.int (Int32.ofNat k)), .val (.int (Int32.ofNat t)), .val (.int (own_x t)), .unset, .unset, .unset, .unset, .unset, .unset, .unset, .unset] [(.int (Int32.ofNat k)), (.int (1 : Int32)), (.ref b9), (.ref b9)])) _
    refine XS.iconst X11.here hx rfl (hb hby at_156) ?_
    rcases own_k3 hk with rfl | rfl | rfl | rfl
    · skip
      show Steps p.tables e below (T11.setTop (mkF m 157 #[.val (.int p1), .val (.int p2), .val (.int p3), .val (.ref b1), .val (.int (1 : Int32)), .val (.int (2 : Int32)), .val (.int (3 : Int32)), .val (.int (Int32.ofNat 0)), .val (.int (Int32.ofNat t)), .val (.int (own_x t)), .unset, .unset, .unset, .unset, .unset, .unset, .unset, .unset] [(.int (2 : Int32)), (.int (Int32.ofNat 0)), (.int (1 : Int32)), (.ref b9), (.ref b9)])) _
      refine XS.icmpYes X11.here hx rfl (pc0 := 157) (pc' := 165) rfl (hb hby at_157) rfl (tlt (by decide)).1 (by decide) (by decide) ?_
      show Steps p.tables e below (T11.setTop (mkF m 165 #[.val (.int p1), .val (.int p2), .val (.int p3), .val (.ref b1), .val (.int (1 : Int32)), .val (.int (2 : Int32)), .val (.int (3 : Int32)), .val (.int (Int32.ofNat 0)), .val (.int (Int32.ofNat t)), .val (.int (own_x t)), .unset, .unset, .unset, .unset, .unset, .unset, .unset, .unset] [(.int (1 : Int32)), (.ref b9), (.ref b9)])) _
      refine XS.iconst X11.here hx rfl (hb hby at_165) ?_
      exact kt
    · skip
      show Steps p.tables e below (T11.setTop (mkF m 157 #[.val (.int p1), .val (.int p2), .val (.int p3), .val (.ref b1), .val (.int (1 : Int32)), .val (.int (2 : Int32)), .val (.int (3 : Int32)), .val (.int (Int32.ofNat 1)), .val (.int (Int32.ofNat t)), .val (.int (own_x t)), .unset, .unset, .unset, .unset, .unset, .unset, .unset, .unset] [(.int (2 : Int32)), (.int (Int32.ofNat 1)), (.int (1 : Int32)), (.ref b9), (.ref b9)])) _
      refine XS.icmpYes X11.here hx rfl (pc0 := 157) (pc' := 165) rfl (hb hby at_157) rfl (tlt (by decide)).1 (by decide) (by decide) ?_
      show Steps p.tables e below (T11.setTop (mkF m 165 #[.val (.int p1), .val (.int p2), .val (.int p3), .val (.ref b1), .val (.int (1 : Int32)), .val (.int (2 : Int32)), .val (.int (3 : Int32)), .val (.int (Int32.ofNat 1)), .val (.int (Int32.ofNat t)), .val (.int (own_x t)), .unset, .unset, .unset, .unset, .unset, .unset, .unset, .unset] [(.int (1 : Int32)), (.ref b9), (.ref b9)])) _
      refine XS.iconst X11.here hx rfl (hb hby at_165) ?_
      exact kt
    · skip
      show Steps p.tables e below (T11.setTop (mkF m 157 #[.val (.int p1), .val (.int p2), .val (.int p3), .val (.ref b1), .val (.int (1 : Int32)), .val (.int (2 : Int32)), .val (.int (3 : Int32)), .val (.int (Int32.ofNat 2)), .val (.int (Int32.ofNat t)), .val (.int (own_x t)), .unset, .unset, .unset, .unset, .unset, .unset, .unset, .unset] [(.int (2 : Int32)), (.int (Int32.ofNat 2)), (.int (1 : Int32)), (.ref b9), (.ref b9)])) _
      refine XS.icmpNo X11.here hx rfl (hb hby at_157) rfl (flt (by decide)).1 ?_
      show Steps p.tables e below (T11.setTop (mkF m 160 #[.val (.int p1), .val (.int p2), .val (.int p3), .val (.ref b1), .val (.int (1 : Int32)), .val (.int (2 : Int32)), .val (.int (3 : Int32)), .val (.int (Int32.ofNat 2)), .val (.int (Int32.ofNat t)), .val (.int (own_x t)), .unset, .unset, .unset, .unset, .unset, .unset, .unset, .unset] [(.int (1 : Int32)), (.ref b9), (.ref b9)])) _
      refine XS.iload X11.here hx rfl (hb hby at_160) rfl ?_
      show Steps p.tables e below (T11.setTop (mkF m 162 #[.val (.int p1), .val (.int p2), .val (.int p3), .val (.ref b1), .val (.int (1 : Int32)), .val (.int (2 : Int32)), .val (.int (3 : Int32)), .val (.int (Int32.ofNat 2)), .val (.int (Int32.ofNat t)), .val (.int (own_x t)), .unset, .unset, .unset, .unset, .unset, .unset, .unset, .unset] [(.int (2 : Int32)), (.int (1 : Int32)), (.ref b9), (.ref b9)])) _
      refine XS.goto X11.here hx rfl (pc0 := 162) (pc' := 166) rfl (hb hby at_162) (by decide) (by decide) ?_
      exact kt
    · skip
      show Steps p.tables e below (T11.setTop (mkF m 157 #[.val (.int p1), .val (.int p2), .val (.int p3), .val (.ref b1), .val (.int (1 : Int32)), .val (.int (2 : Int32)), .val (.int (3 : Int32)), .val (.int (Int32.ofNat 3)), .val (.int (Int32.ofNat t)), .val (.int (own_x t)), .unset, .unset, .unset, .unset, .unset, .unset, .unset, .unset] [(.int (2 : Int32)), (.int (Int32.ofNat 3)), (.int (1 : Int32)), (.ref b9), (.ref b9)])) _
      refine XS.icmpNo X11.here hx rfl (hb hby at_157) rfl (flt (by decide)).1 ?_
      show Steps p.tables e below (T11.setTop (mkF m 160 #[.val (.int p1), .val (.int p2), .val (.int p3), .val (.ref b1), .val (.int (1 : Int32)), .val (.int (2 : Int32)), .val (.int (3 : Int32)), .val (.int (Int32.ofNat 3)), .val (.int (Int32.ofNat t)), .val (.int (own_x t)), .unset, .unset, .unset, .unset, .unset, .unset, .unset, .unset] [(.int (1 : Int32)), (.ref b9), (.ref b9)])) _
      refine XS.iload X11.here hx rfl (hb hby at_160) rfl ?_
      show Steps p.tables e below (T11.setTop (mkF m 162 #[.val (.int p1), .val (.int p2), .val (.int p3), .val (.ref b1), .val (.int (1 : Int32)), .val (.int (2 : Int32)), .val (.int (3 : Int32)), .val (.int (Int32.ofNat 3)), .val (.int (Int32.ofNat t)), .val (.int (own_x t)), .unset, .unset, .unset, .unset, .unset, .unset, .unset, .unset] [(.int (2 : Int32)), (.int (1 : Int32)), (.ref b9), (.ref b9)])) _
      refine XS.goto X11.here hx rfl (pc0 := 162) (pc' := 166) rfl (hb hby at_162) (by decide) (by decide) ?_
      exact kt
  obtain ⟨c9_1, A9_1, q9_1, S9_1, M9_1, H9_1, G9_1⟩ := V9_1
  obtain ⟨T13, h13, X13, e13, W13, st13⟩ := stI X11 hx hZ e11 A9_1 (j := (1 : Int32)) (inb_of S9_1 ⟨by decide, by decide⟩) (g := (mkF m 166 #[.val (.int p1), .val (.int p2), .val (.int p3), .val (.ref b1), .val (.int (1 : Int32)), .val (.int (2 : Int32)), .val (.int (3 : Int32)), .val (.int (Int32.ofNat k)), .val (.int (Int32.ofNat t)), .val (.int (own_x t)), .unset, .unset, .unset, .unset, .unset, .unset, .unset, .unset] [(.int (if 2 ≤ k then (2 : Int32) else -1)), (.int (1 : Int32)), (.ref b9), (.ref b9)])) rfl rfl (hb hby at_166)
  have N13 := Fr.snoc X13 Nx11 g_b9
  obtain ⟨Lx13, X13, Nx13⟩ : ∃ L, Stand p l e room_1 s m #[(.int p1), (.int p2), (.int p3)] below meth c T13 L 13 663 ∧ Fr n0 L := ⟨_, X13.more (by decide) (by decide), N13⟩
  have V9_2 : Arv Z h13 b9 k9 .int 4 [(.int (if 1 ≤ k then (1 : Int32) else -1)), (.int (if 2 ≤ k then (2 : Int32) else -1)), (.int (0 : Int32)), (.int (0 : Int32))] (.int (0 : Int32)) := Arv.set A9_1 q9_1 S9_1 M9_1 H9_1 G9_1 rfl W13 1 rfl (Nat.le_of_ble_eq_true rfl)
  have H13 := Tr.keep H11 (Keep.of_wr W13) (ninS (Ne.symm nlo) nin0) (fun i => ninS (nl i) nin0)
  have zz13 : n0 ≤ h13.size := Nat.le_trans zz11 (Keep.of_wr W13).1
  have pre14 : ∀ tt, Steps p.tables e below (T13.setTop (mkF m 181 #[.val (.int p1), .val (.int p2), .val (.int p3), .val (.ref b1), .val (.int (1 : Int32)), .val (.int (2 : Int32)), .val (.int (3 : Int32)), .val (.int (Int32.ofNat k)), .val (.int (Int32.ofNat t)), .val (.int (own_x t)), .unset, .unset, .unset, .unset, .unset, .unset, .unset, .unset] [(.int (if k = 3 then (3 : Int32) else -1)), (.int (2 : Int32)), (.ref b9), (.ref b9)])) tt → Steps p.tables e below (s₁.setTop (entryFrame m #[(.int p1), (.int p2), (.int p3)] maxLocals)) tt := by
    intro tt kt
    refine pre12 tt ?_
    show Steps p.tables e below (T11.setTop (mkF m 166 #[.val (.int p1), .val (.int p2), .val (.int p3), .val (.ref b1), .val (.int (1 : Int32)), .val (.int (2 : Int32)), .val (.int (3 : Int32)), .val (.int (Int32.ofNat k)), .val (.int (Int32.ofNat t)), .val (.int (own_x t)), .unset, .unset, .unset, .unset, .unset, .unset, .unset, .unset] [(.int (if 2 ≤ k then (2 : Int32) else -1)), (.int (1 : Int32)), (.ref b9), (.ref b9)])) _
    refine st13 _ ?_
    show Steps p.tables e below (T13.setTop (mkF m 167 #[.val (.int p1), .val (.int p2), .val (.int p3), .val (.ref b1), .val (.int (1 : Int32)), .val (.int (2 : Int32)), .val (.int (3 : Int32)), .val (.int (Int32.ofNat k)), .val (.int (Int32.ofNat t)), .val (.int (own_x t)), .unset, .unset, .unset, .unset, .unset, .unset, .unset, .unset] [(.ref b9)])) _
    refine XS.dup X13.here hx rfl (hb hby at_167) rfl rfl ?_
    show Steps p.tables e below (T13.setTop (mkF m 168 #[.val (.int p1), .val (.int p2), .val (.int p3), .val (.ref b1), .val (.int (1 : Int32)), .val (.int (2 : Int32)), .val (.int (3 : Int32)), .val (.int (Int32.ofNat k)), .val (.int (Int32.ofNat t)), .val (.int (own_x t)), .unset, .unset, .unset, .unset, .unset, .unset, .unset, .unset] [(.ref b9), (.ref b9)])) _
    refine XS.iconst X13.here hx rfl (hb hby at_168) ?_
    show Steps p.tables e below (T13.setTop (mkF m 169 #[.val (.int p1), .val (.int p2), .val (.int p3), .val (.ref b1), .val (.int (1 : Int32)), .val (.int (2 : Int32)), .val (.int (3 : Int32)), .val (.int (Int32.ofNat k)), .val (.int (Int32.ofNat t)), .val (.int (own_x t)), .unset, .unset, .unset, .unset, .unset, .unset, .unset, .unset] [(.int (2 : Int32)), (.ref b9), (.ref b9)])) _
    refine XS.iload X13.here hx rfl (hb hby at_169) rfl ?_
    show Steps p.tables e below (T13.setTop (mkF m 171 #[.val (.int p1), .val (.int p2), .val (.int p3), .val (.ref b1), .val (.int (1 : Int32)), .val (.int (2 : Int32)), .val (.int (3 : Int32)), .val (.int (Int32.ofNat k)), .val (.int (Int32.ofNat t)), .val (.int (own_x t)), .unset, .unset, .unset, .unset, .unset, .unset, .unset, .unset] [(.int (Int32.ofNat k)), (.int (2 : Int32)), (.ref b9), (.ref b9)])) _
    refine XS.iconst X13.here hx rfl (hb hby at_171) ?_
    rcases own_k3 hk with rfl | rfl | rfl | rfl
    · skip
      show Steps p.tables e below (T13.setTop (mkF m 172 #[.val (.int p1), .val (.int p2), .val (.int p3), .val (.ref b1), .val (.int (1 : Int32)), .val (.int (2 : Int32)), .val (.int (3 : Int32)), .val (.int (Int32.ofNat 0)), .val (.int (Int32.ofNat t)), .val (.int (own_x t)), .unset, .unset, .unset, .unset, .unset, .unset, .unset, .unset] [(.int (3 : Int32)), (.int (Int32.ofNat 0)), (.int (2 : Int32)), (.ref b9), (.ref b9)])) _
      refine XS.icmpYes X13.here hx rfl (pc0 := 172) (pc' := 180) rfl (hb hby at_172) rfl (feq (by decide)).2 (by decide) (by decide) ?_
      show Steps p.tables e below (T13.setTop (mkF m 180 #[.val (.int p1), .val (.int p2), .val (.int p3), .val (.ref b1), .val (.int (1 : Int32)), .val (.int (2 : Int32)), .val (.int (3 : Int32)), .val (.int (Int32.ofNat 0)), .val (.int (Int32.ofNat t)), .val (.int (own_x t)), .unset, .unset, .unset, .unset, .unset, .unset, .unset, .unset] [(.int (2 : Int32)), (.ref b9), (.ref b9)])) _
      refine XS.iconst X13.here hx rfl (hb hby at_180) ?_
      exact kt
    · skip
      show Steps p.tables e below (T13.setTop (mkF m 172 #[.val (.int p1), .val (.int p2), .val (.int p3), .val (.ref b1), .val (.int (1 : Int32)), .val (.int (2 : Int32)), .val (.int (3 : Int32)), .val (.int (Int32.ofNat 1)), .val (.int (Int32.ofNat t)), .val (.int (own_x t)), .unset, .unset, .unset, .unset, .unset, .unset, .unset, .unset] [(.int (3 : Int32)), (.int (Int32.ofNat 1)), (.int (2 : Int32)), (.ref b9), (.ref b9)])) _
      refine XS.icmpYes X13.here hx rfl (pc0 := 172) (pc' := 180) rfl (hb hby at_172) rfl (feq (by decide)).2 (by decide) (by decide) ?_
      show Steps p.tables e below (T13.setTop (mkF m 180 #[.val (.int p1), .val (.int p2), .val (.int p3), .val (.ref b1), .val (.int (1 : Int32)), .val (.int (2 : Int32)), .val (.int (3 : Int32)), .val (.int (Int32.ofNat 1)), .val (.int (Int32.ofNat t)), .val (.int (own_x t)), .unset, .unset, .unset, .unset, .unset, .unset, .unset, .unset] [(.int (2 : Int32)), (.ref b9), (.ref b9)])) _
      refine XS.iconst X13.here hx rfl (hb hby at_180) ?_
      exact kt
    · skip
      show Steps p.tables e below (T13.setTop (mkF m 172 #[.val (.int p1), .val (.int p2), .val (.int p3), .val (.ref b1), .val (.int (1 : Int32)), .val (.int (2 : Int32)), .val (.int (3 : Int32)), .val (.int (Int32.ofNat 2)), .val (.int (Int32.ofNat t)), .val (.int (own_x t)), .unset, .unset, .unset, .unset, .unset, .unset, .unset, .unset] [(.int (3 : Int32)), (.int (Int32.ofNat 2)), (.int (2 : Int32)), (.ref b9), (.ref b9)])) _
      refine XS.icmpYes X13.here hx rfl (pc0 := 172) (pc' := 180) rfl (hb hby at_172) rfl (feq (by decide)).2 (by decide) (by decide) ?_
      show Steps p.tables e below (T13.setTop (mkF m 180 #[.val (.int p1), .val (.int p2), .val (.int p3), .val (.ref b1), .val (.int (1 : Int32)), .val (.int (2 : Int32)), .val (.int (3 : Int32)), .val (.int (Int32.ofNat 2)), .val (.int (Int32.ofNat t)), .val (.int (own_x t)), .unset, .unset, .unset, .unset, .unset, .unset, .unset, .unset] [(.int (2 : Int32)), (.ref b9), (.ref b9)])) _
      refine XS.iconst X13.here hx rfl (hb hby at_180) ?_
      exact kt
    · skip
      show Steps p.tables e below (T13.setTop (mkF m 172 #[.val (.int p1), .val (.int p2), .val (.int p3), .val (.ref b1), .val (.int (1 : Int32)), .val (.int (2 : Int32)), .val (.int (3 : Int32)), .val (.int (Int32.ofNat 3)), .val (.int (Int32.ofNat t)), .val (.int (own_x t)), .unset, .unset, .unset, .unset, .unset, .unset, .unset, .unset] [(.int (3 : Int32)), (.int (Int32.ofNat 3)), (.int (2 : Int32)), (.ref b9), (.ref b9)])) _
      refine XS.icmpNo X13.here hx rfl (hb hby at_172) rfl (teq (by decide)).2 ?_
      show Steps p.tables e below (T13.setTop (mkF m 175 #[.val (.int p1), .val (.int p2), .val (.int p3), .val (.ref b1), .val (.int (1 : Int32)), .val (.int (2 : Int32)), .val (.int (3 : Int32)), .val (.int (Int32.ofNat 3)), .val (.int (Int32.ofNat t)), .val (.int (own_x t)), .unset, .unset, .unset, .unset, .unset, .unset, .unset, .unset] [(.int (2 : Int32)), (.ref b9), (.ref b9)])) _
      refine XS.iload X13.here hx rfl (hb hby at_175) rfl ?_
      show Steps p.tables e below (T13.setTop (mkF m 177 #[.val (.int p1), .val (.int p2), .val (.int p3), .val (.ref b1), .val (.int (1 : Int32)), .val (.int (2 : Int32)), .val (.int (3 : Int32)), .val (.int (Int32.ofNat 3)), .val (.int (Int32.ofNat t)), .val (.int (own_x t)), .unset, .unset, .unset, .unset, .unset, .unset, .unset, .unset] [(.int (3 : Int32)), (.int (2 : Int32)), (.ref b9), (.ref b9)])) _
      refine XS.goto X13.here hx rfl (pc0 := 177) (pc' := 181) rfl (hb hby at_177) (by decide) (by decide) ?_
      exact kt
  obtain ⟨c9_2, A9_2, q9_2, S9_2, M9_2, H9_2, G9_2⟩ := V9_2
  obtain ⟨T15, h15, X15, e15, W15, st15⟩ := stI X13 hx hZ e13 A9_2 (j := (2 : Int32)) (inb_of S9_2 ⟨by decide, by decide⟩) (g := (mkF m 181 #[.val (.int p1), .val (.int p2), .val (.int p3), .val (.ref b1), .val (.int (1 : Int32)), .val (.int (2 : Int32)), .val (.int (3 : Int32)), .val (.int (Int32.ofNat k)), .val (.int (Int32.ofNat t)), .val (.int (own_x t)), .unset, .unset, .unset, .unset, .unset, .unset, .unset, .unset] [(.int (if k = 3 then (3 : Int32) else -1)), (.int (2 : Int32)), (.ref b9), (.ref b9)])) rfl rfl (hb hby at_181)
  have N15 := Fr.snoc X15 Nx13 g_b9
  obtain ⟨Lx15, X15, Nx15⟩ : ∃ L, Stand p l e room_1 s m #[(.int p1), (.int p2), (.int p3)] below meth c T15 L 13 663 ∧ Fr n0 L := ⟨_, X15.more (by decide) (by decide), N15⟩
  have V9_3 : Arv Z h15 b9 k9 .int 4 [(.int (if 1 ≤ k then (1 : Int32) else -1)), (.int (if 2 ≤ k then (2 : Int32) else -1)), (.int (if k = 3 then (3 : Int32) else -1)), (.int (0 : Int32))] (.int (0 : Int32)) := Arv.set A9_2 q9_2 S9_2 M9_2 H9_2 G9_2 rfl W15 2 rfl (Nat.le_of_ble_eq_true rfl)
  have H15 := Tr.keep H13 (Keep.of_wr W15) (ninS (Ne.symm nlo) nin0) (fun i => ninS (nl i) nin0)
  have zz15 : n0 ≤ h15.size := Nat.le_trans zz13 (Keep.of_wr W15).1
  obtain ⟨c9_3, A9_3, q9_3, S9_3, M9_3, H9_3, G9_3⟩ := V9_3
  obtain ⟨T16, h16, X16, e16, W16, st16⟩ := stI X15 hx hZ e15 A9_3 (j := (3 : Int32)) (inb_of S9_3 ⟨by decide, by decide⟩) (g := (mkF m 185 #[.val (.int p1), .val (.int p2), .val (.int p3), .val (.ref b1), .val (.int (1 : Int32)), .val (.int (2 : Int32)), .val (.int (3 : Int32)), .val (.int (Int32.ofNat k)), .val (.int (Int32.ofNat t)), .val (.int (own_x t)), .unset, .unset, .unset, .unset, .unset, .unset, .unset, .unset] [(.int (-1 : Int32)), (.int (3 : Int32)), (.ref b9), (.ref b9)])) rfl rfl (hb hby at_185)
  have N16 := Fr.snoc X16 Nx15 g_b9
  obtain ⟨Lx16, X16, Nx16⟩ : ∃ L, Stand p l e room_1 s m #[(.int p1), (.int p2), (.int p3)] below meth c T16 L 13 663 ∧ Fr n0 L := ⟨_, X16.more (by decide) (by decide), N16⟩
  have V9_4 : Arv Z h16 b9 k9 .int 4 [(.int (if 1 ≤ k then (1 : Int32) else -1)), (.int (if 2 ≤ k then (2 : Int32) else -1)), (.int (if k = 3 then (3 : Int32) else -1)), (.int (-1))] (.int (0 : Int32)) := Arv.set A9_3 q9_3 S9_3 M9_3 H9_3 G9_3 rfl W16 3 rfl (Nat.le_of_ble_eq_true rfl)
  have H16 := Tr.keep H15 (Keep.of_wr W16) (ninS (Ne.symm nlo) nin0) (fun i => ninS (nl i) nin0)
  have zz16 : n0 ≤ h16.size := Nat.le_trans zz15 (Keep.of_wr W16).1
  have VL : Arv Z h16 b9 k9 .int 4 ((own_l k).map Value.int) (.int (0 : Int32)) := V9_4
  have pre17 : ∀ tt, Steps p.tables e below (T16.setTop (mkF m 202 #[.val (.int p1), .val (.int p2), .val (.int p3), .val (.ref b1), .val (.int (1 : Int32)), .val (.int (2 : Int32)), .val (.int (3 : Int32)), .val (.int (Int32.ofNat k)), .val (.int (Int32.ofNat t)), .val (.int (own_x t)), .val (.ref b9), .val (.int (if t < k then (1 : Int32) else 0)), .unset, .unset, .unset, .unset, .unset, .unset] [])) tt → Steps p.tables e below (s₁.setTop (entryFrame m #[(.int p1), (.int p2), (.int p3)] maxLocals)) tt := by
    intro tt kt
    refine pre14 tt ?_
    show Steps p.tables e below (T13.setTop (mkF m 181 #[.val (.int p1), .val (.int p2), .val (.int p3), .val (.ref b1), .val (.int (1 : Int32)), .val (.int (2 : Int32)), .val (.int (3 : Int32)), .val (.int (Int32.ofNat k)), .val (.int (Int32.ofNat t)), .val (.int (own_x t)), .unset, .unset, .unset, .unset, .unset, .unset, .unset, .unset] [(.int (if k = 3 then (3 : Int32) else -1)), (.int (2 : Int32)), (.ref b9), (.ref b9)])) _
    refine st15 _ ?_
    show Steps p.tables e below (T15.setTop (mkF m 182 #[.val (.int p1), .val (.int p2), .val (.int p3), .val (.ref b1), .val (.int (1 : Int32)), .val (.int (2 : Int32)), .val (.int (3 : Int32)), .val (.int (Int32.ofNat k)), .val (.int (Int32.ofNat t)), .val (.int (own_x t)), .unset, .unset, .unset, .unset, .unset, .unset, .unset, .unset] [(.ref b9)])) _
    refine XS.dup X15.here hx rfl (hb hby at_182) rfl rfl ?_
    show Steps p.tables e below (T15.setTop (mkF m 183 #[.val (.int p1), .val (.int p2), .val (.int p3), .val (.ref b1), .val (.int (1 : Int32)), .val (.int (2 : Int32)), .val (.int (3 : Int32)), .val (.int (Int32.ofNat k)), .val (.int (Int32.ofNat t)), .val (.int (own_x t)), .unset, .unset, .unset, .unset, .unset, .unset, .unset, .unset] [(.ref b9), (.ref b9)])) _
    refine XS.iconst X15.here hx rfl (hb hby at_183) ?_
    show Steps p.tables e below (T15.setTop (mkF m 184 #[.val (.int p1), .val (.int p2), .val (.int p3), .val (.ref b1), .val (.int (1 : Int32)), .val (.int (2 : Int32)), .val (.int (3 : Int32)), .val (.int (Int32.ofNat k)), .val (.int (Int32.ofNat t)), .val (.int (own_x t)), .unset, .unset, .unset, .unset, .unset, .unset, .unset, .unset] [(.int (3 : Int32)), (.ref b9), (.ref b9)])) _
    refine XS.iconst X15.here hx rfl (hb hby at_184) ?_
    show Steps p.tables e below (T15.setTop (mkF m 185 #[.val (.int p1), .val (.int p2), .val (.int p3), .val (.ref b1), .val (.int (1 : Int32)), .val (.int (2 : Int32)), .val (.int (3 : Int32)), .val (.int (Int32.ofNat k)), .val (.int (Int32.ofNat t)), .val (.int (own_x t)), .unset, .unset, .unset, .unset, .unset, .unset, .unset, .unset] [(.int (-1 : Int32)), (.int (3 : Int32)), (.ref b9), (.ref b9)])) _
    refine st16 _ ?_
    show Steps p.tables e below (T16.setTop (mkF m 186 #[.val (.int p1), .val (.int p2), .val (.int p3), .val (.ref b1), .val (.int (1 : Int32)), .val (.int (2 : Int32)), .val (.int (3 : Int32)), .val (.int (Int32.ofNat k)), .val (.int (Int32.ofNat t)), .val (.int (own_x t)), .unset, .unset, .unset, .unset, .unset, .unset, .unset, .unset] [(.ref b9)])) _
    refine XS.astore X16.here hx rfl (hb hby at_186) rfl rfl (l' := #[.val (.int p1), .val (.int p2), .val (.int p3), .val (.ref b1), .val (.int (1 : Int32)), .val (.int (2 : Int32)), .val (.int (3 : Int32)), .val (.int (Int32.ofNat k)), .val (.int (Int32.ofNat t)), .val (.int (own_x t)), .val (.ref b9), .unset, .unset, .unset, .unset, .unset, .unset, .unset]) rfl ?_
    show Steps p.tables e below (T16.setTop (mkF m 188 #[.val (.int p1), .val (.int p2), .val (.int p3), .val (.ref b1), .val (.int (1 : Int32)), .val (.int (2 : Int32)), .val (.int (3 : Int32)), .val (.int (Int32.ofNat k)), .val (.int (Int32.ofNat t)), .val (.int (own_x t)), .val (.ref b9), .unset, .unset, .unset, .unset, .unset, .unset, .unset] [])) _
    refine XS.iload X16.here hx rfl (hb hby at_188) rfl ?_
    show Steps p.tables e below (T16.setTop (mkF m 190 #[.val (.int p1), .val (.int p2), .val (.int p3), .val (.ref b1), .val (.int (1 : Int32)), .val (.int (2 : Int32)), .val (.int (3 : Int32)), .val (.int (Int32.ofNat k)), .val (.int (Int32.ofNat t)), .val (.int (own_x t)), .val (.ref b9), .unset, .unset, .unset, .unset, .unset, .unset, .unset] [(.int (Int32.ofNat t))])) _
    refine XS.iload X16.here hx rfl (hb hby at_190) rfl ?_
    by_cases cq : t < k
    · rw [if_pos cq] at kt
      show Steps p.tables e below (T16.setTop (mkF m 192 #[.val (.int p1), .val (.int p2), .val (.int p3), .val (.ref b1), .val (.int (1 : Int32)), .val (.int (2 : Int32)), .val (.int (3 : Int32)), .val (.int (Int32.ofNat k)), .val (.int (Int32.ofNat t)), .val (.int (own_x t)), .val (.ref b9), .unset, .unset, .unset, .unset, .unset, .unset, .unset] [(.int (Int32.ofNat k)), (.int (Int32.ofNat t))])) _
      refine XS.icmpNo X16.here hx rfl (hb hby at_192) rfl (tlt (own_lt cq (by omega))).2.1 ?_
      show Steps p.tables e below (T16.setTop (mkF m 195 #[.val (.int p1), .val (.int p2), .val (.int p3), .val (.ref b1), .val (.int (1 : Int32)), .val (.int (2 : Int32)), .val (.int (3 : Int32)), .val (.int (Int32.ofNat k)), .val (.int (Int32.ofNat t)), .val (.int (own_x t)), .val (.ref b9), .unset, .unset, .unset, .unset, .unset, .unset, .unset] [])) _
      refine XS.iconst X16.here hx rfl (hb hby at_195) ?_
      show Steps p.tables e below (T16.setTop (mkF m 196 #[.val (.int p1), .val (.int p2), .val (.int p3), .val (.ref b1), .val (.int (1 : Int32)), .val (.int (2 : Int32)), .val (.int (3 : Int32)), .val (.int (Int32.ofNat k)), .val (.int (Int32.ofNat t)), .val (.int (own_x t)), .val (.ref b9), .unset, .unset, .unset, .unset, .unset, .unset, .unset] [(.int (1 : Int32))])) _
      refine XS.goto X16.here hx rfl (pc0 := 196) (pc' := 200) rfl (hb hby at_196) (by decide) (by decide) ?_
      show Steps p.tables e below (T16.setTop (mkF m 200 #[.val (.int p1), .val (.int p2), .val (.int p3), .val (.ref b1), .val (.int (1 : Int32)), .val (.int (2 : Int32)), .val (.int (3 : Int32)), .val (.int (Int32.ofNat k)), .val (.int (Int32.ofNat t)), .val (.int (own_x t)), .val (.ref b9), .unset, .unset, .unset, .unset, .unset, .unset, .unset] [(.int (1 : Int32))])) _
      refine XS.istore X16.here hx rfl (hb hby at_200) rfl (l' := #[.val (.int p1), .val (.int p2), .val (.int p3), .val (.ref b1), .val (.int (1 : Int32)), .val (.int (2 : Int32)), .val (.int (3 : Int32)), .val (.int (Int32.ofNat k)), .val (.int (Int32.ofNat t)), .val (.int (own_x t)), .val (.ref b9), .val (.int (1 : Int32)), .unset, .unset, .unset, .unset, .unset, .unset]) rfl ?_
      exact kt
    · rw [if_neg cq] at kt
      show Steps p.tables e below (T16.setTop (mkF m 192 #[.val (.int p1), .val (.int p2), .val (.int p3), .val (.ref b1), .val (.int (1 : Int32)), .val (.int (2 : Int32)), .val (.int (3 : Int32)), .val (.int (Int32.ofNat k)), .val (.int (Int32.ofNat t)), .val (.int (own_x t)), .val (.ref b9), .unset, .unset, .unset, .unset, .unset, .unset, .unset] [(.int (Int32.ofNat k)), (.int (Int32.ofNat t))])) _
      refine XS.icmpYes X16.here hx rfl (pc0 := 192) (pc' := 199) rfl (hb hby at_192) rfl (flt (own_nlt cq (by omega))).2.1 (by decide) (by decide) ?_
      show Steps p.tables e below (T16.setTop (mkF m 199 #[.val (.int p1), .val (.int p2), .val (.int p3), .val (.ref b1), .val (.int (1 : Int32)), .val (.int (2 : Int32)), .val (.int (3 : Int32)), .val (.int (Int32.ofNat k)), .val (.int (Int32.ofNat t)), .val (.int (own_x t)), .val (.ref b9), .unset, .unset, .unset, .unset, .unset, .unset, .unset] [])) _
      refine XS.iconst X16.here hx rfl (hb hby at_199) ?_
      show Steps p.tables e below (T16.setTop (mkF m 200 #[.val (.int p1), .val (.int p2), .val (.int p3), .val (.ref b1), .val (.int (1 : Int32)), .val (.int (2 : Int32)), .val (.int (3 : Int32)), .val (.int (Int32.ofNat k)), .val (.int (Int32.ofNat t)), .val (.int (own_x t)), .val (.ref b9), .unset, .unset, .unset, .unset, .unset, .unset, .unset] [(.int (0 : Int32))])) _
      refine XS.istore X16.here hx rfl (hb hby at_200) rfl (l' := #[.val (.int p1), .val (.int p2), .val (.int p3), .val (.ref b1), .val (.int (1 : Int32)), .val (.int (2 : Int32)), .val (.int (3 : Int32)), .val (.int (Int32.ofNat k)), .val (.int (Int32.ofNat t)), .val (.int (own_x t)), .val (.ref b9), .val (.int (0 : Int32)), .unset, .unset, .unset, .unset, .unset, .unset]) rfl ?_
      exact kt
  have pre18 : ∀ tt, Steps p.tables e below (T16.setTop (mkF m 204 #[.val (.int p1), .val (.int p2), .val (.int p3), .val (.ref b1), .val (.int (1 : Int32)), .val (.int (2 : Int32)), .val (.int (3 : Int32)), .val (.int (Int32.ofNat k)), .val (.int (Int32.ofNat t)), .val (.int (own_x t)), .val (.ref b9), .val (.int (if t < k then (1 : Int32) else 0)), .unset, .unset, .unset, .unset, .unset, .unset] [(.int (if t < k then (1 : Int32) else 0))])) tt → Steps p.tables e below (s₁.setTop (entryFrame m #[(.int p1), (.int p2), (.int p3)] maxLocals)) tt := by
    intro tt kt
    refine pre17 tt ?_
    show Steps p.tables e below (T16.setTop (mkF m 202 #[.val (.int p1), .val (.int p2), .val (.int p3), .val (.ref b1), .val (.int (1 : Int32)), .val (.int (2 : Int32)), .val (.int (3 : Int32)), .val (.int (Int32.ofNat k)), .val (.int (Int32.ofNat t)), .val (.int (own_x t)), .val (.ref b9), .val (.int (if t < k then (1 : Int32) else 0)), .unset, .unset, .unset, .unset, .unset, .unset] [])) _
    refine XS.iload X16.here hx rfl (hb hby at_202) rfl ?_
    exact kt
  have ph3 : ∃ (T' : State) (locs' : List Loc) (ea : Addr) (ke : ClassId), Stand p l e room_1 s m #[(.int p1), (.int p2), (.int p3)] below meth c T' locs' 14 667 ∧ Fr n0 locs' ∧ n0 ≤ T'.heap.size ∧ (∀ i, ad i ≠ ea) ∧ ea ≠ b1 ∧ Tr Z T'.heap n0 b1 ad kc (own_tk k) ∧ Arv Z T'.heap ea ke .int 4 ((own_e k t).map Value.int) (.int (0 : Int32)) ∧ ∀ t_, Steps p.tables e below (T'.setTop (mkF m 221 #[.val (.int p1), .val (.int p2), .val (.int p3), .val (.ref b1), .val (.int (1 : Int32)), .val (.int (2 : Int32)), .val (.int (3 : Int32)), .val (.int (Int32.ofNat k)), .val (.int (Int32.ofNat t)), .val (.int (own_x t)), .val (.ref b9), .val (.int (if t < k then (1 : Int32) else 0)), .val (.ref ea), .unset, .unset, .unset, .unset, .unset] [])) t_ → Steps p.tables e below (s₁.setTop (entryFrame m #[(.int p1), (.int p2), (.int p3)] maxLocals)) t_ := by
    by_cases cq : t < k
    · have he : own_e k t = own_rem (own_l k) (Int32.ofNat t) := if_pos cq
      obtain ⟨_, _, ⟨Ty19, Ly19, ky19, ny19⟩, -, Xy19, ⟨Lcy19, hQy19, ly19, yy19, zy19⟩, sty19⟩ := Jvm.LawKit.callS X16 hx (y := (⟨"com/example/pith/pith/html/PageTreeDetachPinLaw", "removeAt", "([II)[I"⟩ : MethodName)) hown (mvT hZ (hw _ (List.mem_of_getElem? (i := 87) rfl))) (mvT hZ (hw _ (List.mem_of_getElem? (i := 88) rfl))) (mvT hZ (hw _ (List.mem_of_getElem? (i := 69) rfl))) (mvT hZ (hw _ (List.mem_of_getElem? (i := 89) rfl))) (by decide) (backOf (W := 0) (rmR l Z a0 hw [] b9 k9 (own_l k) (Int32.ofNat t) h16 n0 zz16 VL) hZ (hw _ (List.mem_of_getElem? (i := 89) rfl)) (hw _ (List.mem_of_getElem? (i := 69) rfl)) (by decide) (by decide)) (g := (mkF m 211 #[.val (.int p1), .val (.int p2), .val (.int p3), .val (.ref b1), .val (.int (1 : Int32)), .val (.int (2 : Int32)), .val (.int (3 : Int32)), .val (.int (Int32.ofNat k)), .val (.int (Int32.ofNat t)), .val (.int (own_x t)), .val (.ref b9), .val (.int (if t < k then (1 : Int32) else 0)), .unset, .unset, .unset, .unset, .unset, .unset] [(.int (Int32.ofNat t)), (.ref b9)])) rfl (by rw [hml]; rfl) (argsL := [(.ref b9), (.int (Int32.ofNat t))]) (rest := []) (lenOf pd_5 rfl) rfl (by show 2 * 0 + _ ≤ _; exact Nat.le_of_eq rfl) (hb hby at_211) (fun _ _ => ⟨rfl, e16, (by decide : 13 + 1 ≤ _), (by decide : 663 + 4 ≤ _)⟩)
      dsimp only [Pt.U, Pt.locs, Pt.cells, Pt.slots] at Xy19 ly19 yy19 zy19 sty19 hQy19
      subst ly19 yy19 zy19
      obtain ⟨ay19, kay19, rfl, Ny19q, gy19, Ky19, Vy19⟩ := hQy19
      have Ny19 := Fr.app Nx16 Ny19q
      obtain ⟨Lxy19, Xy19, Nxy19⟩ : ∃ L, Stand p l e room_1 s m #[(.int p1), (.int p2), (.int p3)] below meth c Ty19 L 14 667 ∧ Fr n0 L := ⟨_, Xy19.more (by decide) (by decide), Ny19⟩
      have zzy19 : n0 ≤ Ty19.heap.size := Nat.le_trans zz16 Ky19.1
      have Hy19 := Tr.keep0 H16 Ky19
      have pp3 : ∀ tt, Steps p.tables e below (Ty19.setTop (mkF m 221 #[.val (.int p1), .val (.int p2), .val (.int p3), .val (.ref b1), .val (.int (1 : Int32)), .val (.int (2 : Int32)), .val (.int (3 : Int32)), .val (.int (Int32.ofNat k)), .val (.int (Int32.ofNat t)), .val (.int (own_x t)), .val (.ref b9), .val (.int (if t < k then (1 : Int32) else 0)), .val (.ref ay19), .unset, .unset, .unset, .unset, .unset] [])) tt → Steps p.tables e below (s₁.setTop (entryFrame m #[(.int p1), (.int p2), (.int p3)] maxLocals)) tt := by
        intro tt kt
        refine pre18 tt ?_
        show Steps p.tables e below (T16.setTop (mkF m 204 #[.val (.int p1), .val (.int p2), .val (.int p3), .val (.ref b1), .val (.int (1 : Int32)), .val (.int (2 : Int32)), .val (.int (3 : Int32)), .val (.int (Int32.ofNat k)), .val (.int (Int32.ofNat t)), .val (.int (own_x t)), .val (.ref b9), .val (.int (if t < k then (1 : Int32) else 0)), .unset, .unset, .unset, .unset, .unset, .unset] [(.int (if t < k then (1 : Int32) else 0))])) _
        refine XS.ifNo X16.here hx rfl (hb hby at_204) rfl ((if0 _ _).trans (feq (by rw [if_pos cq]; decide)).1) ?_
        show Steps p.tables e below (T16.setTop (mkF m 207 #[.val (.int p1), .val (.int p2), .val (.int p3), .val (.ref b1), .val (.int (1 : Int32)), .val (.int (2 : Int32)), .val (.int (3 : Int32)), .val (.int (Int32.ofNat k)), .val (.int (Int32.ofNat t)), .val (.int (own_x t)), .val (.ref b9), .val (.int (if t < k then (1 : Int32) else 0)), .unset, .unset, .unset, .unset, .unset, .unset] [])) _
        refine XS.aload X16.here hx rfl (hb hby at_207) rfl rfl ?_
        show Steps p.tables e below (T16.setTop (mkF m 209 #[.val (.int p1), .val (.int p2), .val (.int p3), .val (.ref b1), .val (.int (1 : Int32)), .val (.int (2 : Int32)), .val (.int (3 : Int32)), .val (.int (Int32.ofNat k)), .val (.int (Int32.ofNat t)), .val (.int (own_x t)), .val (.ref b9), .val (.int (if t < k then (1 : Int32) else 0)), .unset, .unset, .unset, .unset, .unset, .unset] [(.ref b9)])) _
        refine XS.iload X16.here hx rfl (hb hby at_209) rfl ?_
        show Steps p.tables e below (T16.setTop (mkF m 211 #[.val (.int p1), .val (.int p2), .val (.int p3), .val (.ref b1), .val (.int (1 : Int32)), .val (.int (2 : Int32)), .val (.int (3 : Int32)), .val (.int (Int32.ofNat k)), .val (.int (Int32.ofNat t)), .val (.int (own_x t)), .val (.ref b9), .val (.int (if t < k then (1 : Int32) else 0)), .unset, .unset, .unset, .unset, .unset, .unset] [(.int (Int32.ofNat t)), (.ref b9)])) _
        refine sty19 _ ?_
        show Steps p.tables e below (Ty19.setTop (mkF m 214 #[.val (.int p1), .val (.int p2), .val (.int p3), .val (.ref b1), .val (.int (1 : Int32)), .val (.int (2 : Int32)), .val (.int (3 : Int32)), .val (.int (Int32.ofNat k)), .val (.int (Int32.ofNat t)), .val (.int (own_x t)), .val (.ref b9), .val (.int (if t < k then (1 : Int32) else 0)), .unset, .unset, .unset, .unset, .unset, .unset] [(.ref ay19)])) _
        refine XS.goto Xy19.here hx rfl (pc0 := 214) (pc' := 219) rfl (hb hby at_214) (by decide) (by decide) ?_
        show Steps p.tables e below (Ty19.setTop (mkF m 219 #[.val (.int p1), .val (.int p2), .val (.int p3), .val (.ref b1), .val (.int (1 : Int32)), .val (.int (2 : Int32)), .val (.int (3 : Int32)), .val (.int (Int32.ofNat k)), .val (.int (Int32.ofNat t)), .val (.int (own_x t)), .val (.ref b9), .val (.int (if t < k then (1 : Int32) else 0)), .unset, .unset, .unset, .unset, .unset, .unset] [(.ref ay19)])) _
        refine XS.astore Xy19.here hx rfl (hb hby at_219) rfl rfl (l' := #[.val (.int p1), .val (.int p2), .val (.int p3), .val (.ref b1), .val (.int (1 : Int32)), .val (.int (2 : Int32)), .val (.int (3 : Int32)), .val (.int (Int32.ofNat k)), .val (.int (Int32.ofNat t)), .val (.int (own_x t)), .val (.ref b9), .val (.int (if t < k then (1 : Int32) else 0)), .val (.ref ay19), .unset, .unset, .unset, .unset, .unset]) rfl ?_
        exact kt
      exact ⟨Ty19, _, ay19, kay19, Xy19, Nxy19, zzy19, fun i => Nat.ne_of_lt (Nat.lt_of_lt_of_le (H16.2.2.1 i).lt gy19), Nat.ne_of_gt (Nat.lt_of_lt_of_le H16.1.lt gy19), Hy19, by rw [he]; exact Vy19, pp3⟩
    · have he : own_e k t = own_l k := if_neg cq
      have pp3 : ∀ tt, Steps p.tables e below (T16.setTop (mkF m 221 #[.val (.int p1), .val (.int p2), .val (.int p3), .val (.ref b1), .val (.int (1 : Int32)), .val (.int (2 : Int32)), .val (.int (3 : Int32)), .val (.int (Int32.ofNat k)), .val (.int (Int32.ofNat t)), .val (.int (own_x t)), .val (.ref b9), .val (.int (if t < k then (1 : Int32) else 0)), .val (.ref b9), .unset, .unset, .unset, .unset, .unset] [])) tt → Steps p.tables e below (s₁.setTop (entryFrame m #[(.int p1), (.int p2), (.int p3)] maxLocals)) tt := by
        intro tt kt
        refine pre18 tt ?_
        show Steps p.tables e below (T16.setTop (mkF m 204 #[.val (.int p1), .val (.int p2), .val (.int p3), .val (.ref b1), .val (.int (1 : Int32)), .val (.int (2 : Int32)), .val (.int (3 : Int32)), .val (.int (Int32.ofNat k)), .val (.int (Int32.ofNat t)), .val (.int (own_x t)), .val (.ref b9), .val (.int (if t < k then (1 : Int32) else 0)), .unset, .unset, .unset, .unset, .unset, .unset] [(.int (if t < k then (1 : Int32) else 0))])) _
        refine XS.ifYes X16.here hx rfl (pc0 := 204) (pc' := 217) rfl (hb hby at_204) rfl ((if0 _ _).trans (teq (by rw [if_neg cq])).1) (by decide) (by decide) ?_
        show Steps p.tables e below (T16.setTop (mkF m 217 #[.val (.int p1), .val (.int p2), .val (.int p3), .val (.ref b1), .val (.int (1 : Int32)), .val (.int (2 : Int32)), .val (.int (3 : Int32)), .val (.int (Int32.ofNat k)), .val (.int (Int32.ofNat t)), .val (.int (own_x t)), .val (.ref b9), .val (.int (if t < k then (1 : Int32) else 0)), .unset, .unset, .unset, .unset, .unset, .unset] [])) _
        refine XS.aload X16.here hx rfl (hb hby at_217) rfl rfl ?_
        show Steps p.tables e below (T16.setTop (mkF m 219 #[.val (.int p1), .val (.int p2), .val (.int p3), .val (.ref b1), .val (.int (1 : Int32)), .val (.int (2 : Int32)), .val (.int (3 : Int32)), .val (.int (Int32.ofNat k)), .val (.int (Int32.ofNat t)), .val (.int (own_x t)), .val (.ref b9), .val (.int (if t < k then (1 : Int32) else 0)), .unset, .unset, .unset, .unset, .unset, .unset] [(.ref b9)])) _
        refine XS.astore X16.here hx rfl (hb hby at_219) rfl rfl (l' := #[.val (.int p1), .val (.int p2), .val (.int p3), .val (.ref b1), .val (.int (1 : Int32)), .val (.int (2 : Int32)), .val (.int (3 : Int32)), .val (.int (Int32.ofNat k)), .val (.int (Int32.ofNat t)), .val (.int (own_x t)), .val (.ref b9), .val (.int (if t < k then (1 : Int32) else 0)), .val (.ref b9), .unset, .unset, .unset, .unset, .unset]) rfl ?_
        exact kt
      refine ⟨T16, _, b9, k9, X16.more (by decide) (by decide), Nx16, ?_, nl, nlo, ?_, ?_, pp3⟩
      · rw [e16]; exact zz16
      · rw [e16]; exact H16
      · rw [e16, he]; exact VL
  obtain ⟨U3, Lc3, ea, ke, XU3, NU3, zU3, na3, nao3, HU3, VE3, pU3⟩ := ph3
  have hm3 := (own_F3 ⟨k, by omega⟩ ⟨t, by omega⟩).1
  have hch := (own_F3 ⟨k, by omega⟩ ⟨t, by omega⟩).2
  dsimp only at hm3 hch
  have pre19 : ∀ tt, Steps p.tables e below (U3.setTop (mkF m 235 #[.val (.int p1), .val (.int p2), .val (.int p3), .val (.ref b1), .val (.int (1 : Int32)), .val (.int (2 : Int32)), .val (.int (3 : Int32)), .val (.int (Int32.ofNat k)), .val (.int (Int32.ofNat t)), .val (.int (own_x t)), .val (.ref b9), .val (.int (if t < k then (1 : Int32) else 0)), .val (.ref ea), .unset, .unset, .unset, .unset, .unset] [(.int (Int32.ofNat (own_m k t)))])) tt → Steps p.tables e below (s₁.setTop (entryFrame m #[(.int p1), (.int p2), (.int p3)] maxLocals)) tt := by
    intro tt kt
    refine pU3 tt ?_
    by_cases cq : t < k
    · have hm : Int32.ofNat (own_m k t) = Int32.ofNat k - (1 : Int32) := by rw [show own_m k t = k - 1 from if_pos cq, own_sub1 (by omega) (by omega)]
      rw [hm] at kt
      show Steps p.tables e below (U3.setTop (mkF m 221 #[.val (.int p1), .val (.int p2), .val (.int p3), .val (.ref b1), .val (.int (1 : Int32)), .val (.int (2 : Int32)), .val (.int (3 : Int32)), .val (.int (Int32.ofNat k)), .val (.int (Int32.ofNat t)), .val (.int (own_x t)), .val (.ref b9), .val (.int (if t < k then (1 : Int32) else 0)), .val (.ref ea), .unset, .unset, .unset, .unset, .unset] [])) _
      refine XS.iload XU3.here hx rfl (hb hby at_221) rfl ?_
      show Steps p.tables e below (U3.setTop (mkF m 223 #[.val (.int p1), .val (.int p2), .val (.int p3), .val (.ref b1), .val (.int (1 : Int32)), .val (.int (2 : Int32)), .val (.int (3 : Int32)), .val (.int (Int32.ofNat k)), .val (.int (Int32.ofNat t)), .val (.int (own_x t)), .val (.ref b9), .val (.int (if t < k then (1 : Int32) else 0)), .val (.ref ea), .unset, .unset, .unset, .unset, .unset] [(.int (if t < k then (1 : Int32) else 0))])) _
      refine XS.ifNo XU3.here hx rfl (hb hby at_223) rfl ((if0 _ _).trans (feq (by rw [if_pos cq]; decide)).1) ?_
      show Steps p.tables e below (U3.setTop (mkF m 226 #[.val (.int p1), .val (.int p2), .val (.int p3), .val (.ref b1), .val (.int (1 : Int32)), .val (.int (2 : Int32)), .val (.int (3 : Int32)), .val (.int (Int32.ofNat k)), .val (.int (Int32.ofNat t)), .val (.int (own_x t)), .val (.ref b9), .val (.int (if t < k then (1 : Int32) else 0)), .val (.ref ea), .unset, .unset, .unset, .unset, .unset] [])) _
      refine XS.iload XU3.here hx rfl (hb hby at_226) rfl ?_
      show Steps p.tables e below (U3.setTop (mkF m 228 #[.val (.int p1), .val (.int p2), .val (.int p3), .val (.ref b1), .val (.int (1 : Int32)), .val (.int (2 : Int32)), .val (.int (3 : Int32)), .val (.int (Int32.ofNat k)), .val (.int (Int32.ofNat t)), .val (.int (own_x t)), .val (.ref b9), .val (.int (if t < k then (1 : Int32) else 0)), .val (.ref ea), .unset, .unset, .unset, .unset, .unset] [(.int (Int32.ofNat k))])) _
      refine XS.iconst XU3.here hx rfl (hb hby at_228) ?_
      show Steps p.tables e below (U3.setTop (mkF m 229 #[.val (.int p1), .val (.int p2), .val (.int p3), .val (.ref b1), .val (.int (1 : Int32)), .val (.int (2 : Int32)), .val (.int (3 : Int32)), .val (.int (Int32.ofNat k)), .val (.int (Int32.ofNat t)), .val (.int (own_x t)), .val (.ref b9), .val (.int (if t < k then (1 : Int32) else 0)), .val (.ref ea), .unset, .unset, .unset, .unset, .unset] [(.int (1 : Int32)), (.int (Int32.ofNat k))])) _
      refine XS.isub XU3.here hx rfl (hb hby at_229) rfl ?_
      show Steps p.tables e below (U3.setTop (mkF m 230 #[.val (.int p1), .val (.int p2), .val (.int p3), .val (.ref b1), .val (.int (1 : Int32)), .val (.int (2 : Int32)), .val (.int (3 : Int32)), .val (.int (Int32.ofNat k)), .val (.int (Int32.ofNat t)), .val (.int (own_x t)), .val (.ref b9), .val (.int (if t < k then (1 : Int32) else 0)), .val (.ref ea), .unset, .unset, .unset, .unset, .unset] [(.int ((Int32.ofNat k) - (1 : Int32)))])) _
      refine XS.goto XU3.here hx rfl (pc0 := 230) (pc' := 235) rfl (hb hby at_230) (by decide) (by decide) ?_
      exact kt
    · rw [show own_m k t = k from if_neg cq] at kt
      show Steps p.tables e below (U3.setTop (mkF m 221 #[.val (.int p1), .val (.int p2), .val (.int p3), .val (.ref b1), .val (.int (1 : Int32)), .val (.int (2 : Int32)), .val (.int (3 : Int32)), .val (.int (Int32.ofNat k)), .val (.int (Int32.ofNat t)), .val (.int (own_x t)), .val (.ref b9), .val (.int (if t < k then (1 : Int32) else 0)), .val (.ref ea), .unset, .unset, .unset, .unset, .unset] [])) _
      refine XS.iload XU3.here hx rfl (hb hby at_221) rfl ?_
      show Steps p.tables e below (U3.setTop (mkF m 223 #[.val (.int p1), .val (.int p2), .val (.int p3), .val (.ref b1), .val (.int (1 : Int32)), .val (.int (2 : Int32)), .val (.int (3 : Int32)), .val (.int (Int32.ofNat k)), .val (.int (Int32.ofNat t)), .val (.int (own_x t)), .val (.ref b9), .val (.int (if t < k then (1 : Int32) else 0)), .val (.ref ea), .unset, .unset, .unset, .unset, .unset] [(.int (if t < k then (1 : Int32) else 0))])) _
      refine XS.ifYes XU3.here hx rfl (pc0 := 223) (pc' := 233) rfl (hb hby at_223) rfl ((if0 _ _).trans (teq (by rw [if_neg cq])).1) (by decide) (by decide) ?_
      show Steps p.tables e below (U3.setTop (mkF m 233 #[.val (.int p1), .val (.int p2), .val (.int p3), .val (.ref b1), .val (.int (1 : Int32)), .val (.int (2 : Int32)), .val (.int (3 : Int32)), .val (.int (Int32.ofNat k)), .val (.int (Int32.ofNat t)), .val (.int (own_x t)), .val (.ref b9), .val (.int (if t < k then (1 : Int32) else 0)), .val (.ref ea), .unset, .unset, .unset, .unset, .unset] [])) _
      refine XS.iload XU3.here hx rfl (hb hby at_233) rfl ?_
      exact kt
  have pre20 : ∀ tt, Steps p.tables e below (U3.setTop (mkF m 255 #[.val (.int p1), .val (.int p2), .val (.int p3), .val (.ref b1), .val (.int (1 : Int32)), .val (.int (2 : Int32)), .val (.int (3 : Int32)), .val (.int (Int32.ofNat k)), .val (.int (Int32.ofNat t)), .val (.int (own_x t)), .val (.ref b9), .val (.int (if t < k then (1 : Int32) else 0)), .val (.ref ea), .val (.int (Int32.ofNat (own_m k t))), .unset, .unset, .unset, .unset] [(.int (own_b k t))])) tt → Steps p.tables e below (s₁.setTop (entryFrame m #[(.int p1), (.int p2), (.int p3)] maxLocals)) tt := by
    intro tt kt
    refine pre19 tt ?_
    show Steps p.tables e below (U3.setTop (mkF m 235 #[.val (.int p1), .val (.int p2), .val (.int p3), .val (.ref b1), .val (.int (1 : Int32)), .val (.int (2 : Int32)), .val (.int (3 : Int32)), .val (.int (Int32.ofNat k)), .val (.int (Int32.ofNat t)), .val (.int (own_x t)), .val (.ref b9), .val (.int (if t < k then (1 : Int32) else 0)), .val (.ref ea), .unset, .unset, .unset, .unset, .unset] [(.int (Int32.ofNat (own_m k t)))])) _
    refine XS.istore XU3.here hx rfl (hb hby at_235) rfl (l' := #[.val (.int p1), .val (.int p2), .val (.int p3), .val (.ref b1), .val (.int (1 : Int32)), .val (.int (2 : Int32)), .val (.int (3 : Int32)), .val (.int (Int32.ofNat k)), .val (.int (Int32.ofNat t)), .val (.int (own_x t)), .val (.ref b9), .val (.int (if t < k then (1 : Int32) else 0)), .val (.ref ea), .val (.int (Int32.ofNat (own_m k t))), .unset, .unset, .unset, .unset]) rfl ?_
    show Steps p.tables e below (U3.setTop (mkF m 237 #[.val (.int p1), .val (.int p2), .val (.int p3), .val (.ref b1), .val (.int (1 : Int32)), .val (.int (2 : Int32)), .val (.int (3 : Int32)), .val (.int (Int32.ofNat k)), .val (.int (Int32.ofNat t)), .val (.int (own_x t)), .val (.ref b9), .val (.int (if t < k then (1 : Int32) else 0)), .val (.ref ea), .val (.int (Int32.ofNat (own_m k t))), .unset, .unset, .unset, .unset] [])) _
    refine XS.iload XU3.here hx rfl (hb hby at_237) rfl ?_
    show Steps p.tables e below (U3.setTop (mkF m 239 #[.val (.int p1), .val (.int p2), .val (.int p3), .val (.ref b1), .val (.int (1 : Int32)), .val (.int (2 : Int32)), .val (.int (3 : Int32)), .val (.int (Int32.ofNat k)), .val (.int (Int32.ofNat t)), .val (.int (own_x t)), .val (.ref b9), .val (.int (if t < k then (1 : Int32) else 0)), .val (.ref ea), .val (.int (Int32.ofNat (own_m k t))), .unset, .unset, .unset, .unset] [(.int (Int32.ofNat k))])) _
    refine XS.iconst XU3.here hx rfl (hb hby at_239) ?_
    by_cases cq : k = 2
    · subst cq
      by_cases c' : t = 2
      · subst c'
        show Steps p.tables e below (U3.setTop (mkF m 240 #[.val (.int p1), .val (.int p2), .val (.int p3), .val (.ref b1), .val (.int (1 : Int32)), .val (.int (2 : Int32)), .val (.int (3 : Int32)), .val (.int (Int32.ofNat 2)), .val (.int (Int32.ofNat 2)), .val (.int (own_x 2)), .val (.ref b9), .val (.int (if 2 < 2 then (1 : Int32) else 0)), .val (.ref ea), .val (.int (Int32.ofNat (own_m 2 2))), .unset, .unset, .unset, .unset] [(.int (2 : Int32)), (.int (Int32.ofNat 2))])) _
        refine XS.icmpNo XU3.here hx rfl (hb hby at_240) rfl (teq (by decide)).2 ?_
        show Steps p.tables e below (U3.setTop (mkF m 243 #[.val (.int p1), .val (.int p2), .val (.int p3), .val (.ref b1), .val (.int (1 : Int32)), .val (.int (2 : Int32)), .val (.int (3 : Int32)), .val (.int (Int32.ofNat 2)), .val (.int (Int32.ofNat 2)), .val (.int (own_x 2)), .val (.ref b9), .val (.int (if 2 < 2 then (1 : Int32) else 0)), .val (.ref ea), .val (.int (Int32.ofNat (own_m 2 2))), .unset, .unset, .unset, .unset] [])) _
        refine XS.iload XU3.here hx rfl (hb hby at_243) rfl ?_
        show Steps p.tables e below (U3.setTop (mkF m 245 #[.val (.int p1), .val (.int p2), .val (.int p3), .val (.ref b1), .val (.int (1 : Int32)), .val (.int (2 : Int32)), .val (.int (3 : Int32)), .val (.int (Int32.ofNat 2)), .val (.int (Int32.ofNat 2)), .val (.int (own_x 2)), .val (.ref b9), .val (.int (if 2 < 2 then (1 : Int32) else 0)), .val (.ref ea), .val (.int (Int32.ofNat (own_m 2 2))), .unset, .unset, .unset, .unset] [(.int (Int32.ofNat 2))])) _
        refine XS.iconst XU3.here hx rfl (hb hby at_245) ?_
        show Steps p.tables e below (U3.setTop (mkF m 246 #[.val (.int p1), .val (.int p2), .val (.int p3), .val (.ref b1), .val (.int (1 : Int32)), .val (.int (2 : Int32)), .val (.int (3 : Int32)), .val (.int (Int32.ofNat 2)), .val (.int (Int32.ofNat 2)), .val (.int (own_x 2)), .val (.ref b9), .val (.int (if 2 < 2 then (1 : Int32) else 0)), .val (.ref ea), .val (.int (Int32.ofNat (own_m 2 2))), .unset, .unset, .unset, .unset] [(.int (2 : Int32)), (.int (Int32.ofNat 2))])) _
        refine XS.icmpYes XU3.here hx rfl (pc0 := 246) (pc' := 254) rfl (hb hby at_246) rfl (teq (by decide)).1 (by decide) (by decide) ?_
        show Steps p.tables e below (U3.setTop (mkF m 254 #[.val (.int p1), .val (.int p2), .val (.int p3), .val (.ref b1), .val (.int (1 : Int32)), .val (.int (2 : Int32)), .val (.int (3 : Int32)), .val (.int (Int32.ofNat 2)), .val (.int (Int32.ofNat 2)), .val (.int (own_x 2)), .val (.ref b9), .val (.int (if 2 < 2 then (1 : Int32) else 0)), .val (.ref ea), .val (.int (Int32.ofNat (own_m 2 2))), .unset, .unset, .unset, .unset] [])) _
        refine XS.iconst XU3.here hx rfl (hb hby at_254) ?_
        exact kt
      · have hbb : own_b 2 t = 3 := by unfold own_b; rw [if_pos rfl, if_neg c']
        rw [hbb] at kt
        have hct : ¬ Int32.ofNat t = (2 : Int32) := by rcases own_t3 ht with rfl | rfl | rfl <;> first | decide | exact absurd rfl c'
        show Steps p.tables e below (U3.setTop (mkF m 240 #[.val (.int p1), .val (.int p2), .val (.int p3), .val (.ref b1), .val (.int (1 : Int32)), .val (.int (2 : Int32)), .val (.int (3 : Int32)), .val (.int (Int32.ofNat 2)), .val (.int (Int32.ofNat t)), .val (.int (own_x t)), .val (.ref b9), .val (.int (if t < 2 then (1 : Int32) else 0)), .val (.ref ea), .val (.int (Int32.ofNat (own_m 2 t))), .unset, .unset, .unset, .unset] [(.int (2 : Int32)), (.int (Int32.ofNat 2))])) _
        refine XS.icmpNo XU3.here hx rfl (hb hby at_240) rfl (teq (by decide)).2 ?_
        show Steps p.tables e below (U3.setTop (mkF m 243 #[.val (.int p1), .val (.int p2), .val (.int p3), .val (.ref b1), .val (.int (1 : Int32)), .val (.int (2 : Int32)), .val (.int (3 : Int32)), .val (.int (Int32.ofNat 2)), .val (.int (Int32.ofNat t)), .val (.int (own_x t)), .val (.ref b9), .val (.int (if t < 2 then (1 : Int32) else 0)), .val (.ref ea), .val (.int (Int32.ofNat (own_m 2 t))), .unset, .unset, .unset, .unset] [])) _
        refine XS.iload XU3.here hx rfl (hb hby at_243) rfl ?_
        show Steps p.tables e below (U3.setTop (mkF m 245 #[.val (.int p1), .val (.int p2), .val (.int p3), .val (.ref b1), .val (.int (1 : Int32)), .val (.int (2 : Int32)), .val (.int (3 : Int32)), .val (.int (Int32.ofNat 2)), .val (.int (Int32.ofNat t)), .val (.int (own_x t)), .val (.ref b9), .val (.int (if t < 2 then (1 : Int32) else 0)), .val (.ref ea), .val (.int (Int32.ofNat (own_m 2 t))), .unset, .unset, .unset, .unset] [(.int (Int32.ofNat t))])) _
        refine XS.iconst XU3.here hx rfl (hb hby at_245) ?_
        show Steps p.tables e below (U3.setTop (mkF m 246 #[.val (.int p1), .val (.int p2), .val (.int p3), .val (.ref b1), .val (.int (1 : Int32)), .val (.int (2 : Int32)), .val (.int (3 : Int32)), .val (.int (Int32.ofNat 2)), .val (.int (Int32.ofNat t)), .val (.int (own_x t)), .val (.ref b9), .val (.int (if t < 2 then (1 : Int32) else 0)), .val (.ref ea), .val (.int (Int32.ofNat (own_m 2 t))), .unset, .unset, .unset, .unset] [(.int (2 : Int32)), (.int (Int32.ofNat t))])) _
        refine XS.icmpNo XU3.here hx rfl (hb hby at_246) rfl (feq hct).1 ?_
        show Steps p.tables e below (U3.setTop (mkF m 249 #[.val (.int p1), .val (.int p2), .val (.int p3), .val (.ref b1), .val (.int (1 : Int32)), .val (.int (2 : Int32)), .val (.int (3 : Int32)), .val (.int (Int32.ofNat 2)), .val (.int (Int32.ofNat t)), .val (.int (own_x t)), .val (.ref b9), .val (.int (if t < 2 then (1 : Int32) else 0)), .val (.ref ea), .val (.int (Int32.ofNat (own_m 2 t))), .unset, .unset, .unset, .unset] [])) _
        refine XS.iload XU3.here hx rfl (hb hby at_249) rfl ?_
        show Steps p.tables e below (U3.setTop (mkF m 251 #[.val (.int p1), .val (.int p2), .val (.int p3), .val (.ref b1), .val (.int (1 : Int32)), .val (.int (2 : Int32)), .val (.int (3 : Int32)), .val (.int (Int32.ofNat 2)), .val (.int (Int32.ofNat t)), .val (.int (own_x t)), .val (.ref b9), .val (.int (if t < 2 then (1 : Int32) else 0)), .val (.ref ea), .val (.int (Int32.ofNat (own_m 2 t))), .unset, .unset, .unset, .unset] [(.int (3 : Int32))])) _
        refine XS.goto XU3.here hx rfl (pc0 := 251) (pc' := 255) rfl (hb hby at_251) (by decide) (by decide) ?_
        exact kt
    · have hbb : own_b k t = -1 := if_neg cq
      rw [hbb] at kt
      have hck : ¬ Int32.ofNat k = (2 : Int32) := by rcases own_k3 hk with rfl | rfl | rfl | rfl <;> first | decide | exact absurd rfl cq
      show Steps p.tables e below (U3.setTop (mkF m 240 #[.val (.int p1), .val (.int p2), .val (.int p3), .val (.ref b1), .val (.int (1 : Int32)), .val (.int (2 : Int32)), .val (.int (3 : Int32)), .val (.int (Int32.ofNat k)), .val (.int (Int32.ofNat t)), .val (.int (own_x t)), .val (.ref b9), .val (.int (if t < k then (1 : Int32) else 0)), .val (.ref ea), .val (.int (Int32.ofNat (own_m k t))), .unset, .unset, .unset, .unset] [(.int (2 : Int32)), (.int (Int32.ofNat k))])) _
      refine XS.icmpYes XU3.here hx rfl (pc0 := 240) (pc' := 254) rfl (hb hby at_240) rfl (feq hck).2 (by decide) (by decide) ?_
      show Steps p.tables e below (U3.setTop (mkF m 254 #[.val (.int p1), .val (.int p2), .val (.int p3), .val (.ref b1), .val (.int (1 : Int32)), .val (.int (2 : Int32)), .val (.int (3 : Int32)), .val (.int (Int32.ofNat k)), .val (.int (Int32.ofNat t)), .val (.int (own_x t)), .val (.ref b9), .val (.int (if t < k then (1 : Int32) else 0)), .val (.ref ea), .val (.int (Int32.ofNat (own_m k t))), .unset, .unset, .unset, .unset] [])) _
      refine XS.iconst XU3.here hx rfl (hb hby at_254) ?_
      exact kt
  have hf1 := own_F1 ⟨k, by omega⟩
  have hf2 := own_F2 ⟨k, by omega⟩ ⟨t, by omega⟩
  have hf4 := own_F4 ⟨k, by omega⟩ ⟨t, by omega⟩
  have hf5 := own_F5 ⟨k, by omega⟩ ⟨t, by omega⟩
  have hf6 := own_F6 ⟨k, by omega⟩ ⟨t, by omega⟩
  dsimp only at hf1 hf2 hf4 hf5 hf6
  obtain ⟨cq21, kq21, q21a, q21b, q21c⟩ := isOf hZ rfl (Tr.exa HU3)
  obtain ⟨_, _, ⟨T21, L21, k21, n21⟩, -, X21, ⟨Lc21, hQ21, l21, y21, z21⟩, st21⟩ := XU3.virtualBack hx (y := (⟨"com/example/pith/pith/html/PageTree", "detach", "(I)V"⟩ : MethodName)) (z := (⟨"com/example/pith/pith/html/PageTree", "detach", "(I)V"⟩ : MethodName)) hown (mvT hZ (hw _ (List.mem_of_getElem? (i := 52) rfl))) (mvT hZ (hw _ (List.mem_of_getElem? (i := 53) rfl))) (notFace_of_selects (args := #[]) (mvT hZ (hw _ (List.mem_of_getElem? (i := 55) rfl)))) (mvT hZ (hw _ (List.mem_of_getElem? (i := 55) rfl))) (mvT hZ (hw _ (List.mem_of_getElem? (i := 54) rfl))) (by decide) (backOf (W := 0) (rmD l Z a0 hw [] b1 ad kc (own_tk k) (own_x t) U3.heap n0 zU3 HU3 hf1.1 (own_ok_of hf1.2) hf2.1) hZ (hw _ (List.mem_of_getElem? (i := 56) rfl)) (hw _ (List.mem_of_getElem? (i := 2) rfl)) (by decide) (by decide)) q21a q21c (g := (mkF m 260 #[.val (.int p1), .val (.int p2), .val (.int p3), .val (.ref b1), .val (.int (1 : Int32)), .val (.int (2 : Int32)), .val (.int (3 : Int32)), .val (.int (Int32.ofNat k)), .val (.int (Int32.ofNat t)), .val (.int (own_x t)), .val (.ref b9), .val (.int (if t < k then (1 : Int32) else 0)), .val (.ref ea), .val (.int (Int32.ofNat (own_m k t))), .val (.int (own_b k t)), .unset, .unset, .unset] [(.int (own_x t)), (.ref b1)])) rfl (by rw [hml]; rfl) (Steps.refl _) (argsL := [(.int (own_x t))]) (rest := []) (lenOf pd_0 rfl) rfl (by show 2 * 0 + _ ≤ _; exact Nat.le_of_eq rfl) (hb hby at_260) (fun _ _ => ⟨rfl, rfl, (by decide : 14 + 0 ≤ _), (by decide : 667 + 0 ≤ _)⟩)
  dsimp only [Pt.U, Pt.locs, Pt.cells, Pt.slots] at X21 l21 y21 z21 st21 hQ21
  subst l21 y21 z21
  obtain ⟨rfl, N21q, K21, H21⟩ := hQ21
  have N21 := Fr.app NU3 N21q
  obtain ⟨Lx21, X21, Nx21⟩ : ∃ L, Stand p l e room_1 s m #[(.int p1), (.int p2), (.int p3)] below meth c T21 L 14 667 ∧ Fr n0 L := ⟨_, X21.more (by decide) (by decide), N21⟩
  have zz21 : n0 ≤ T21.heap.size := Nat.le_trans zU3 K21.1
  have HD : Tr Z T21.heap n0 b1 ad kc (own_t2 k t) := H21
  have VE := VE3.keep K21 (own_ne5 na3)
  obtain ⟨cq22, kq22, q22a, q22b, q22c⟩ := isOf hZ rfl (Tr.exa HD)
  obtain ⟨_, _, ⟨T22, L22, k22, n22⟩, -, X22, ⟨Lc22, hQ22, l22, y22, z22⟩, st22⟩ := X21.virtualBack hx (y := (⟨"com/example/pith/pith/html/PageTree", "parent", "(I)I"⟩ : MethodName)) (z := (⟨"com/example/pith/pith/html/PageTree", "parent", "(I)I"⟩ : MethodName)) hown (mvT hZ (hw _ (List.mem_of_getElem? (i := 57) rfl))) (mvT hZ (hw _ (List.mem_of_getElem? (i := 58) rfl))) (notFace_of_selects (args := #[]) (mvT hZ (hw _ (List.mem_of_getElem? (i := 60) rfl)))) (mvT hZ (hw _ (List.mem_of_getElem? (i := 60) rfl))) (mvT hZ (hw _ (List.mem_of_getElem? (i := 59) rfl))) (by decide) (backOf (W := 0) (rmP l Z a0 hw [] b1 ad kc (own_t2 k t) (own_x t) T21.heap n0 zz21 HD (own_r64 hf2.1)) hZ (hw _ (List.mem_of_getElem? (i := 61) rfl)) (hw _ (List.mem_of_getElem? (i := 2) rfl)) (by decide) (by decide)) q22a q22c (g := (mkF m 266 #[.val (.int p1), .val (.int p2), .val (.int p3), .val (.ref b1), .val (.int (1 : Int32)), .val (.int (2 : Int32)), .val (.int (3 : Int32)), .val (.int (Int32.ofNat k)), .val (.int (Int32.ofNat t)), .val (.int (own_x t)), .val (.ref b9), .val (.int (if t < k then (1 : Int32) else 0)), .val (.ref ea), .val (.int (Int32.ofNat (own_m k t))), .val (.int (own_b k t)), .unset, .unset, .unset] [(.int (own_x t)), (.ref b1)])) rfl (by rw [hml]; rfl) (Steps.refl _) (argsL := [(.int (own_x t))]) (rest := []) (lenOf pd_2 rfl) rfl (by show 2 * 0 + _ ≤ _; exact Nat.le_of_eq rfl) (hb hby at_266) (fun _ _ => ⟨rfl, rfl, (by decide : 14 + 0 ≤ _), (by decide : 667 + 0 ≤ _)⟩)
  dsimp only [Pt.U, Pt.locs, Pt.cells, Pt.slots] at X22 l22 y22 z22 st22 hQ22
  subst l22 y22 z22
  obtain ⟨rfl, N22q, h22⟩ := hQ22
  have N22 := Fr.app Nx21 N22q
  obtain ⟨Lx22, X22, Nx22⟩ : ∃ L, Stand p l e room_1 s m #[(.int p1), (.int p2), (.int p3)] below meth c T22 L 14 667 ∧ Fr n0 L := ⟨_, X22.more (by decide) (by decide), N22⟩
  obtain ⟨cq23, kq23, q23a, q23b, q23c⟩ := isOf hZ h22 (Tr.exa HD)
  obtain ⟨_, _, ⟨T23, L23, k23, n23⟩, -, X23, ⟨Lc23, hQ23, l23, y23, z23⟩, st23⟩ := X22.virtualBack hx (y := (⟨"com/example/pith/pith/html/PageTree", "next", "(I)I"⟩ : MethodName)) (z := (⟨"com/example/pith/pith/html/PageTree", "next", "(I)I"⟩ : MethodName)) hown (mvT hZ (hw _ (List.mem_of_getElem? (i := 62) rfl))) (mvT hZ (hw _ (List.mem_of_getElem? (i := 63) rfl))) (notFace_of_selects (args := #[]) (mvT hZ (hw _ (List.mem_of_getElem? (i := 65) rfl)))) (mvT hZ (hw _ (List.mem_of_getElem? (i := 65) rfl))) (mvT hZ (hw _ (List.mem_of_getElem? (i := 64) rfl))) (by decide) (backOf (W := 0) (rmX l Z a0 hw [] b1 ad kc (own_t2 k t) (own_x t) T21.heap n0 zz21 HD (own_r64 hf2.1)) hZ (hw _ (List.mem_of_getElem? (i := 66) rfl)) (hw _ (List.mem_of_getElem? (i := 2) rfl)) (by decide) (by decide)) q23a q23c (g := (mkF m 276 #[.val (.int p1), .val (.int p2), .val (.int p3), .val (.ref b1), .val (.int (1 : Int32)), .val (.int (2 : Int32)), .val (.int (3 : Int32)), .val (.int (Int32.ofNat k)), .val (.int (Int32.ofNat t)), .val (.int (own_x t)), .val (.ref b9), .val (.int (if t < k then (1 : Int32) else 0)), .val (.ref ea), .val (.int (Int32.ofNat (own_m k t))), .val (.int (own_b k t)), .unset, .unset, .unset] [(.int (own_x t)), (.ref b1)])) rfl (by rw [hml]; rfl) (Steps.refl _) (argsL := [(.int (own_x t))]) (rest := []) (lenOf pd_2 rfl) rfl (by show 2 * 0 + _ ≤ _; exact Nat.le_of_eq rfl) (hb hby at_276) (fun _ _ => ⟨rfl, h22, (by decide : 14 + 0 ≤ _), (by decide : 667 + 0 ≤ _)⟩)
  dsimp only [Pt.U, Pt.locs, Pt.cells, Pt.slots] at X23 l23 y23 z23 st23 hQ23
  subst l23 y23 z23
  obtain ⟨rfl, N23q, h23⟩ := hQ23
  have N23 := Fr.app Nx22 N23q
  obtain ⟨Lx23, X23, Nx23⟩ : ∃ L, Stand p l e room_1 s m #[(.int p1), (.int p2), (.int p3)] below meth c T23 L 14 667 ∧ Fr n0 L := ⟨_, X23.more (by decide) (by decide), N23⟩
  obtain ⟨_, _, ⟨T24, L24, k24, n24⟩, -, X24, ⟨Lc24, hQ24, l24, y24, z24⟩, st24⟩ := Jvm.LawKit.callS X23 hx (y := (⟨"com/example/pith/pith/html/PageTreeDetachPinLaw", "chainOk", "(Lcom/example/pith/pith/html/PageTree;[II)Z"⟩ : MethodName)) hown (mvT hZ (hw _ (List.mem_of_getElem? (i := 67) rfl))) (mvT hZ (hw _ (List.mem_of_getElem? (i := 68) rfl))) (mvT hZ (hw _ (List.mem_of_getElem? (i := 69) rfl))) (mvT hZ (hw _ (List.mem_of_getElem? (i := 70) rfl))) (by decide) (backOf (W := 0) (rmC l Z a0 hw [] b1 ad kc (own_t2 k t) ea ke (own_e k t) (own_m k t) T21.heap n0 zz21 HD VE hm3 hch) hZ (hw _ (List.mem_of_getElem? (i := 70) rfl)) (hw _ (List.mem_of_getElem? (i := 69) rfl)) (by decide) (by decide)) (g := (mkF m 288 #[.val (.int p1), .val (.int p2), .val (.int p3), .val (.ref b1), .val (.int (1 : Int32)), .val (.int (2 : Int32)), .val (.int (3 : Int32)), .val (.int (Int32.ofNat k)), .val (.int (Int32.ofNat t)), .val (.int (own_x t)), .val (.ref b9), .val (.int (if t < k then (1 : Int32) else 0)), .val (.ref ea), .val (.int (Int32.ofNat (own_m k t))), .val (.int (own_b k t)), .unset, .unset, .unset] [(.int (Int32.ofNat (own_m k t))), (.ref ea), (.ref b1)])) rfl (by rw [hml]; rfl) (argsL := [(.ref b1), (.ref ea), (.int (Int32.ofNat (own_m k t)))]) (rest := []) (lenOf pd_6 rfl) rfl (by show 2 * 0 + _ ≤ _; exact Nat.le_of_eq rfl) (hb hby at_288) (fun _ _ => ⟨rfl, h23, (by decide : 14 + 0 ≤ _), (by decide : 667 + 0 ≤ _)⟩)
  dsimp only [Pt.U, Pt.locs, Pt.cells, Pt.slots] at X24 l24 y24 z24 st24 hQ24
  subst l24 y24 z24
  obtain ⟨rfl, N24q, h24⟩ := hQ24
  have N24 := Fr.app Nx23 N24q
  obtain ⟨Lx24, X24, Nx24⟩ : ∃ L, Stand p l e room_1 s m #[(.int p1), (.int p2), (.int p3)] below meth c T24 L 14 667 ∧ Fr n0 L := ⟨_, X24.more (by decide) (by decide), N24⟩
  obtain ⟨cq25, kq25, q25a, q25b, q25c⟩ := isOf hZ h24 (Tr.exa HD)
  obtain ⟨_, _, ⟨T25, L25, k25, n25⟩, -, X25, ⟨Lc25, hQ25, l25, y25, z25⟩, st25⟩ := X24.virtualBack hx (y := (⟨"com/example/pith/pith/html/PageTree", "firstChild", "(I)I"⟩ : MethodName)) (z := (⟨"com/example/pith/pith/html/PageTree", "firstChild", "(I)I"⟩ : MethodName)) hown (mvT hZ (hw _ (List.mem_of_getElem? (i := 71) rfl))) (mvT hZ (hw _ (List.mem_of_getElem? (i := 72) rfl))) (notFace_of_selects (args := #[]) (mvT hZ (hw _ (List.mem_of_getElem? (i := 74) rfl)))) (mvT hZ (hw _ (List.mem_of_getElem? (i := 74) rfl))) (mvT hZ (hw _ (List.mem_of_getElem? (i := 73) rfl))) (by decide) (backOf (W := 0) (rmF l Z a0 hw [] b1 ad kc (own_t2 k t) (2 : Int32) T21.heap n0 zz21 HD (by decide)) hZ (hw _ (List.mem_of_getElem? (i := 75) rfl)) (hw _ (List.mem_of_getElem? (i := 2) rfl)) (by decide) (by decide)) q25a q25c (g := (mkF m 297 #[.val (.int p1), .val (.int p2), .val (.int p3), .val (.ref b1), .val (.int (1 : Int32)), .val (.int (2 : Int32)), .val (.int (3 : Int32)), .val (.int (Int32.ofNat k)), .val (.int (Int32.ofNat t)), .val (.int (own_x t)), .val (.ref b9), .val (.int (if t < k then (1 : Int32) else 0)), .val (.ref ea), .val (.int (Int32.ofNat (own_m k t))), .val (.int (own_b k t)), .unset, .unset, .unset] [(.int (2 : Int32)), (.ref b1)])) rfl (by rw [hml]; rfl) (Steps.refl _) (argsL := [(.int (2 : Int32))]) (rest := []) (lenOf pd_2 rfl) rfl (by show 2 * 0 + _ ≤ _; exact Nat.le_of_eq rfl) (hb hby at_297) (fun _ _ => ⟨rfl, h24, (by decide : 14 + 0 ≤ _), (by decide : 667 + 0 ≤ _)⟩)
  dsimp only [Pt.U, Pt.locs, Pt.cells, Pt.slots] at X25 l25 y25 z25 st25 hQ25
  subst l25 y25 z25
  obtain ⟨rfl, N25q, h25⟩ := hQ25
  have N25 := Fr.app Nx24 N25q
  obtain ⟨Lx25, X25, Nx25⟩ : ∃ L, Stand p l e room_1 s m #[(.int p1), (.int p2), (.int p3)] below meth c T25 L 14 667 ∧ Fr n0 L := ⟨_, X25.more (by decide) (by decide), N25⟩
  obtain ⟨cq26, kq26, q26a, q26b, q26c⟩ := isOf hZ h25 (Tr.exa HD)
  obtain ⟨_, _, ⟨T26, L26, k26, n26⟩, -, X26, ⟨Lc26, hQ26, l26, y26, z26⟩, st26⟩ := X25.virtualBack hx (y := (⟨"com/example/pith/pith/html/PageTree", "lastChild", "(I)I"⟩ : MethodName)) (z := (⟨"com/example/pith/pith/html/PageTree", "lastChild", "(I)I"⟩ : MethodName)) hown (mvT hZ (hw _ (List.mem_of_getElem? (i := 76) rfl))) (mvT hZ (hw _ (List.mem_of_getElem? (i := 77) rfl))) (notFace_of_selects (args := #[]) (mvT hZ (hw _ (List.mem_of_getElem? (i := 79) rfl)))) (mvT hZ (hw _ (List.mem_of_getElem? (i := 79) rfl))) (mvT hZ (hw _ (List.mem_of_getElem? (i := 78) rfl))) (by decide) (backOf (W := 0) (rmL l Z a0 hw [] b1 ad kc (own_t2 k t) (2 : Int32) T21.heap n0 zz21 HD (by decide)) hZ (hw _ (List.mem_of_getElem? (i := 80) rfl)) (hw _ (List.mem_of_getElem? (i := 2) rfl)) (by decide) (by decide)) q26a q26c (g := (mkF m 308 #[.val (.int p1), .val (.int p2), .val (.int p3), .val (.ref b1), .val (.int (1 : Int32)), .val (.int (2 : Int32)), .val (.int (3 : Int32)), .val (.int (Int32.ofNat k)), .val (.int (Int32.ofNat t)), .val (.int (own_x t)), .val (.ref b9), .val (.int (if t < k then (1 : Int32) else 0)), .val (.ref ea), .val (.int (Int32.ofNat (own_m k t))), .val (.int (own_b k t)), .unset, .unset, .unset] [(.int (2 : Int32)), (.ref b1)])) rfl (by rw [hml]; rfl) (Steps.refl _) (argsL := [(.int (2 : Int32))]) (rest := []) (lenOf pd_2 rfl) rfl (by show 2 * 0 + _ ≤ _; exact Nat.le_of_eq rfl) (hb hby at_308) (fun _ _ => ⟨rfl, h25, (by decide : 14 + 0 ≤ _), (by decide : 667 + 0 ≤ _)⟩)
  dsimp only [Pt.U, Pt.locs, Pt.cells, Pt.slots] at X26 l26 y26 z26 st26 hQ26
  subst l26 y26 z26
  obtain ⟨rfl, N26q, h26⟩ := hQ26
  have N26 := Fr.app Nx25 N26q
  obtain ⟨Lx26, X26, Nx26⟩ : ∃ L, Stand p l e room_1 s m #[(.int p1), (.int p2), (.int p3)] below meth c T26 L 14 667 ∧ Fr n0 L := ⟨_, X26.more (by decide) (by decide), N26⟩
  have pre27 : ∀ tt, Steps p.tables e below (T26.setTop (mkF m 326 #[.val (.int p1), .val (.int p2), .val (.int p3), .val (.ref b1), .val (.int (1 : Int32)), .val (.int (2 : Int32)), .val (.int (3 : Int32)), .val (.int (Int32.ofNat k)), .val (.int (Int32.ofNat t)), .val (.int (own_x t)), .val (.ref b9), .val (.int (if t < k then (1 : Int32) else 0)), .val (.ref ea), .val (.int (Int32.ofNat (own_m k t))), .val (.int (own_b k t)), .val (.int (1 : Int32)), .unset, .unset] [(.int (-1 : Int32)), (.int (own_b k t))])) tt → Steps p.tables e below (s₁.setTop (entryFrame m #[(.int p1), (.int p2), (.int p3)] maxLocals)) tt := by
    intro tt kt
    refine pre20 tt ?_
    show Steps p.tables e below (U3.setTop (mkF m 255 #[.val (.int p1), .val (.int p2), .val (.int p3), .val (.ref b1), .val (.int (1 : Int32)), .val (.int (2 : Int32)), .val (.int (3 : Int32)), .val (.int (Int32.ofNat k)), .val (.int (Int32.ofNat t)), .val (.int (own_x t)), .val (.ref b9), .val (.int (if t < k then (1 : Int32) else 0)), .val (.ref ea), .val (.int (Int32.ofNat (own_m k t))), .unset, .unset, .unset, .unset] [(.int (own_b k t))])) _
    refine XS.istore XU3.here hx rfl (hb hby at_255) rfl (l' := #[.val (.int p1), .val (.int p2), .val (.int p3), .val (.ref b1), .val (.int (1 : Int32)), .val (.int (2 : Int32)), .val (.int (3 : Int32)), .val (.int (Int32.ofNat k)), .val (.int (Int32.ofNat t)), .val (.int (own_x t)), .val (.ref b9), .val (.int (if t < k then (1 : Int32) else 0)), .val (.ref ea), .val (.int (Int32.ofNat (own_m k t))), .val (.int (own_b k t)), .unset, .unset, .unset]) rfl ?_
    show Steps p.tables e below (U3.setTop (mkF m 257 #[.val (.int p1), .val (.int p2), .val (.int p3), .val (.ref b1), .val (.int (1 : Int32)), .val (.int (2 : Int32)), .val (.int (3 : Int32)), .val (.int (Int32.ofNat k)), .val (.int (Int32.ofNat t)), .val (.int (own_x t)), .val (.ref b9), .val (.int (if t < k then (1 : Int32) else 0)), .val (.ref ea), .val (.int (Int32.ofNat (own_m k t))), .val (.int (own_b k t)), .unset, .unset, .unset] [])) _
    refine XS.aloadN XU3.here hx rfl (hb hby at_257) rfl rfl ?_
    show Steps p.tables e below (U3.setTop (mkF m 258 #[.val (.int p1), .val (.int p2), .val (.int p3), .val (.ref b1), .val (.int (1 : Int32)), .val (.int (2 : Int32)), .val (.int (3 : Int32)), .val (.int (Int32.ofNat k)), .val (.int (Int32.ofNat t)), .val (.int (own_x t)), .val (.ref b9), .val (.int (if t < k then (1 : Int32) else 0)), .val (.ref ea), .val (.int (Int32.ofNat (own_m k t))), .val (.int (own_b k t)), .unset, .unset, .unset] [(.ref b1)])) _
    refine XS.iload XU3.here hx rfl (hb hby at_258) rfl ?_
    show Steps p.tables e below (U3.setTop (mkF m 260 #[.val (.int p1), .val (.int p2), .val (.int p3), .val (.ref b1), .val (.int (1 : Int32)), .val (.int (2 : Int32)), .val (.int (3 : Int32)), .val (.int (Int32.ofNat k)), .val (.int (Int32.ofNat t)), .val (.int (own_x t)), .val (.ref b9), .val (.int (if t < k then (1 : Int32) else 0)), .val (.ref ea), .val (.int (Int32.ofNat (own_m k t))), .val (.int (own_b k t)), .unset, .unset, .unset] [(.int (own_x t)), (.ref b1)])) _
    refine st21.trans ?_
    show Steps p.tables e below (T21.setTop (mkF m 263 #[.val (.int p1), .val (.int p2), .val (.int p3), .val (.ref b1), .val (.int (1 : Int32)), .val (.int (2 : Int32)), .val (.int (3 : Int32)), .val (.int (Int32.ofNat k)), .val (.int (Int32.ofNat t)), .val (.int (own_x t)), .val (.ref b9), .val (.int (if t < k then (1 : Int32) else 0)), .val (.ref ea), .val (.int (Int32.ofNat (own_m k t))), .val (.int (own_b k t)), .unset, .unset, .unset] [])) _
    refine XS.aloadN X21.here hx rfl (hb hby at_263) rfl rfl ?_
    show Steps p.tables e below (T21.setTop (mkF m 264 #[.val (.int p1), .val (.int p2), .val (.int p3), .val (.ref b1), .val (.int (1 : Int32)), .val (.int (2 : Int32)), .val (.int (3 : Int32)), .val (.int (Int32.ofNat k)), .val (.int (Int32.ofNat t)), .val (.int (own_x t)), .val (.ref b9), .val (.int (if t < k then (1 : Int32) else 0)), .val (.ref ea), .val (.int (Int32.ofNat (own_m k t))), .val (.int (own_b k t)), .unset, .unset, .unset] [(.ref b1)])) _
    refine XS.iload X21.here hx rfl (hb hby at_264) rfl ?_
    show Steps p.tables e below (T21.setTop (mkF m 266 #[.val (.int p1), .val (.int p2), .val (.int p3), .val (.ref b1), .val (.int (1 : Int32)), .val (.int (2 : Int32)), .val (.int (3 : Int32)), .val (.int (Int32.ofNat k)), .val (.int (Int32.ofNat t)), .val (.int (own_x t)), .val (.ref b9), .val (.int (if t < k then (1 : Int32) else 0)), .val (.ref ea), .val (.int (Int32.ofNat (own_m k t))), .val (.int (own_b k t)), .unset, .unset, .unset] [(.int (own_x t)), (.ref b1)])) _
    refine st22.trans ?_
    show Steps p.tables e below (T22.setTop (mkF m 269 #[.val (.int p1), .val (.int p2), .val (.int p3), .val (.ref b1), .val (.int (1 : Int32)), .val (.int (2 : Int32)), .val (.int (3 : Int32)), .val (.int (Int32.ofNat k)), .val (.int (Int32.ofNat t)), .val (.int (own_x t)), .val (.ref b9), .val (.int (if t < k then (1 : Int32) else 0)), .val (.ref ea), .val (.int (Int32.ofNat (own_m k t))), .val (.int (own_b k t)), .unset, .unset, .unset] [(.int (own_gt (own_t2 k t) 0 (own_x t)))])) _
    refine XS.iconst X22.here hx rfl (hb hby at_269) ?_
    show Steps p.tables e below (T22.setTop (mkF m 270 #[.val (.int p1), .val (.int p2), .val (.int p3), .val (.ref b1), .val (.int (1 : Int32)), .val (.int (2 : Int32)), .val (.int (3 : Int32)), .val (.int (Int32.ofNat k)), .val (.int (Int32.ofNat t)), .val (.int (own_x t)), .val (.ref b9), .val (.int (if t < k then (1 : Int32) else 0)), .val (.ref ea), .val (.int (Int32.ofNat (own_m k t))), .val (.int (own_b k t)), .unset, .unset, .unset] [(.int (-1 : Int32)), (.int (own_gt (own_t2 k t) 0 (own_x t)))])) _
    refine XS.icmpNo X22.here hx rfl (hb hby at_270) rfl (teq hf2.2.1).2 ?_
    show Steps p.tables e below (T22.setTop (mkF m 273 #[.val (.int p1), .val (.int p2), .val (.int p3), .val (.ref b1), .val (.int (1 : Int32)), .val (.int (2 : Int32)), .val (.int (3 : Int32)), .val (.int (Int32.ofNat k)), .val (.int (Int32.ofNat t)), .val (.int (own_x t)), .val (.ref b9), .val (.int (if t < k then (1 : Int32) else 0)), .val (.ref ea), .val (.int (Int32.ofNat (own_m k t))), .val (.int (own_b k t)), .unset, .unset, .unset] [])) _
    refine XS.aloadN X22.here hx rfl (hb hby at_273) rfl rfl ?_
    show Steps p.tables e below (T22.setTop (mkF m 274 #[.val (.int p1), .val (.int p2), .val (.int p3), .val (.ref b1), .val (.int (1 : Int32)), .val (.int (2 : Int32)), .val (.int (3 : Int32)), .val (.int (Int32.ofNat k)), .val (.int (Int32.ofNat t)), .val (.int (own_x t)), .val (.ref b9), .val (.int (if t < k then (1 : Int32) else 0)), .val (.ref ea), .val (.int (Int32.ofNat (own_m k t))), .val (.int (own_b k t)), .unset, .unset, .unset] [(.ref b1)])) _
    refine XS.iload X22.here hx rfl (hb hby at_274) rfl ?_
    show Steps p.tables e below (T22.setTop (mkF m 276 #[.val (.int p1), .val (.int p2), .val (.int p3), .val (.ref b1), .val (.int (1 : Int32)), .val (.int (2 : Int32)), .val (.int (3 : Int32)), .val (.int (Int32.ofNat k)), .val (.int (Int32.ofNat t)), .val (.int (own_x t)), .val (.ref b9), .val (.int (if t < k then (1 : Int32) else 0)), .val (.ref ea), .val (.int (Int32.ofNat (own_m k t))), .val (.int (own_b k t)), .unset, .unset, .unset] [(.int (own_x t)), (.ref b1)])) _
    refine st23.trans ?_
    show Steps p.tables e below (T23.setTop (mkF m 279 #[.val (.int p1), .val (.int p2), .val (.int p3), .val (.ref b1), .val (.int (1 : Int32)), .val (.int (2 : Int32)), .val (.int (3 : Int32)), .val (.int (Int32.ofNat k)), .val (.int (Int32.ofNat t)), .val (.int (own_x t)), .val (.ref b9), .val (.int (if t < k then (1 : Int32) else 0)), .val (.ref ea), .val (.int (Int32.ofNat (own_m k t))), .val (.int (own_b k t)), .unset, .unset, .unset] [(.int (own_gt (own_t2 k t) 3 (own_x t)))])) _
    refine XS.iconst X23.here hx rfl (hb hby at_279) ?_
    show Steps p.tables e below (T23.setTop (mkF m 280 #[.val (.int p1), .val (.int p2), .val (.int p3), .val (.ref b1), .val (.int (1 : Int32)), .val (.int (2 : Int32)), .val (.int (3 : Int32)), .val (.int (Int32.ofNat k)), .val (.int (Int32.ofNat t)), .val (.int (own_x t)), .val (.ref b9), .val (.int (if t < k then (1 : Int32) else 0)), .val (.ref ea), .val (.int (Int32.ofNat (own_m k t))), .val (.int (own_b k t)), .unset, .unset, .unset] [(.int (-1 : Int32)), (.int (own_gt (own_t2 k t) 3 (own_x t)))])) _
    refine XS.icmpNo X23.here hx rfl (hb hby at_280) rfl (teq hf2.2.2).2 ?_
    show Steps p.tables e below (T23.setTop (mkF m 283 #[.val (.int p1), .val (.int p2), .val (.int p3), .val (.ref b1), .val (.int (1 : Int32)), .val (.int (2 : Int32)), .val (.int (3 : Int32)), .val (.int (Int32.ofNat k)), .val (.int (Int32.ofNat t)), .val (.int (own_x t)), .val (.ref b9), .val (.int (if t < k then (1 : Int32) else 0)), .val (.ref ea), .val (.int (Int32.ofNat (own_m k t))), .val (.int (own_b k t)), .unset, .unset, .unset] [])) _
    refine XS.aloadN X23.here hx rfl (hb hby at_283) rfl rfl ?_
    show Steps p.tables e below (T23.setTop (mkF m 284 #[.val (.int p1), .val (.int p2), .val (.int p3), .val (.ref b1), .val (.int (1 : Int32)), .val (.int (2 : Int32)), .val (.int (3 : Int32)), .val (.int (Int32.ofNat k)), .val (.int (Int32.ofNat t)), .val (.int (own_x t)), .val (.ref b9), .val (.int (if t < k then (1 : Int32) else 0)), .val (.ref ea), .val (.int (Int32.ofNat (own_m k t))), .val (.int (own_b k t)), .unset, .unset, .unset] [(.ref b1)])) _
    refine XS.aload X23.here hx rfl (hb hby at_284) rfl rfl ?_
    show Steps p.tables e below (T23.setTop (mkF m 286 #[.val (.int p1), .val (.int p2), .val (.int p3), .val (.ref b1), .val (.int (1 : Int32)), .val (.int (2 : Int32)), .val (.int (3 : Int32)), .val (.int (Int32.ofNat k)), .val (.int (Int32.ofNat t)), .val (.int (own_x t)), .val (.ref b9), .val (.int (if t < k then (1 : Int32) else 0)), .val (.ref ea), .val (.int (Int32.ofNat (own_m k t))), .val (.int (own_b k t)), .unset, .unset, .unset] [(.ref ea), (.ref b1)])) _
    refine XS.iload X23.here hx rfl (hb hby at_286) rfl ?_
    show Steps p.tables e below (T23.setTop (mkF m 288 #[.val (.int p1), .val (.int p2), .val (.int p3), .val (.ref b1), .val (.int (1 : Int32)), .val (.int (2 : Int32)), .val (.int (3 : Int32)), .val (.int (Int32.ofNat k)), .val (.int (Int32.ofNat t)), .val (.int (own_x t)), .val (.ref b9), .val (.int (if t < k then (1 : Int32) else 0)), .val (.ref ea), .val (.int (Int32.ofNat (own_m k t))), .val (.int (own_b k t)), .unset, .unset, .unset] [(.int (Int32.ofNat (own_m k t))), (.ref ea), (.ref b1)])) _
    refine st24 _ ?_
    show Steps p.tables e below (T24.setTop (mkF m 291 #[.val (.int p1), .val (.int p2), .val (.int p3), .val (.ref b1), .val (.int (1 : Int32)), .val (.int (2 : Int32)), .val (.int (3 : Int32)), .val (.int (Int32.ofNat k)), .val (.int (Int32.ofNat t)), .val (.int (own_x t)), .val (.ref b9), .val (.int (if t < k then (1 : Int32) else 0)), .val (.ref ea), .val (.int (Int32.ofNat (own_m k t))), .val (.int (own_b k t)), .unset, .unset, .unset] [(.int (1 : Int32))])) _
    refine XS.ifNo X24.here hx rfl (hb hby at_291) rfl ((if0 _ _).trans (feq (by decide)).1) ?_
    show Steps p.tables e below (T24.setTop (mkF m 294 #[.val (.int p1), .val (.int p2), .val (.int p3), .val (.ref b1), .val (.int (1 : Int32)), .val (.int (2 : Int32)), .val (.int (3 : Int32)), .val (.int (Int32.ofNat k)), .val (.int (Int32.ofNat t)), .val (.int (own_x t)), .val (.ref b9), .val (.int (if t < k then (1 : Int32) else 0)), .val (.ref ea), .val (.int (Int32.ofNat (own_m k t))), .val (.int (own_b k t)), .unset, .unset, .unset] [])) _
    refine XS.aloadN X24.here hx rfl (hb hby at_294) rfl rfl ?_
    show Steps p.tables e below (T24.setTop (mkF m 295 #[.val (.int p1), .val (.int p2), .val (.int p3), .val (.ref b1), .val (.int (1 : Int32)), .val (.int (2 : Int32)), .val (.int (3 : Int32)), .val (.int (Int32.ofNat k)), .val (.int (Int32.ofNat t)), .val (.int (own_x t)), .val (.ref b9), .val (.int (if t < k then (1 : Int32) else 0)), .val (.ref ea), .val (.int (Int32.ofNat (own_m k t))), .val (.int (own_b k t)), .unset, .unset, .unset] [(.ref b1)])) _
    refine XS.iload X24.here hx rfl (hb hby at_295) rfl ?_
    show Steps p.tables e below (T24.setTop (mkF m 297 #[.val (.int p1), .val (.int p2), .val (.int p3), .val (.ref b1), .val (.int (1 : Int32)), .val (.int (2 : Int32)), .val (.int (3 : Int32)), .val (.int (Int32.ofNat k)), .val (.int (Int32.ofNat t)), .val (.int (own_x t)), .val (.ref b9), .val (.int (if t < k then (1 : Int32) else 0)), .val (.ref ea), .val (.int (Int32.ofNat (own_m k t))), .val (.int (own_b k t)), .unset, .unset, .unset] [(.int (2 : Int32)), (.ref b1)])) _
    refine st25.trans ?_
    show Steps p.tables e below (T25.setTop (mkF m 300 #[.val (.int p1), .val (.int p2), .val (.int p3), .val (.ref b1), .val (.int (1 : Int32)), .val (.int (2 : Int32)), .val (.int (3 : Int32)), .val (.int (Int32.ofNat k)), .val (.int (Int32.ofNat t)), .val (.int (own_x t)), .val (.ref b9), .val (.int (if t < k then (1 : Int32) else 0)), .val (.ref ea), .val (.int (Int32.ofNat (own_m k t))), .val (.int (own_b k t)), .unset, .unset, .unset] [(.int (own_gt (own_t2 k t) 1 (2 : Int32)))])) _
    refine XS.iload X25.here hx rfl (hb hby at_300) rfl ?_
    show Steps p.tables e below (T25.setTop (mkF m 302 #[.val (.int p1), .val (.int p2), .val (.int p3), .val (.ref b1), .val (.int (1 : Int32)), .val (.int (2 : Int32)), .val (.int (3 : Int32)), .val (.int (Int32.ofNat k)), .val (.int (Int32.ofNat t)), .val (.int (own_x t)), .val (.ref b9), .val (.int (if t < k then (1 : Int32) else 0)), .val (.ref ea), .val (.int (Int32.ofNat (own_m k t))), .val (.int (own_b k t)), .unset, .unset, .unset] [(.int (own_b k t)), (.int (own_gt (own_t2 k t) 1 (2 : Int32)))])) _
    refine XS.icmpNo X25.here hx rfl (hb hby at_302) rfl (teq hf4.1).2 ?_
    show Steps p.tables e below (T25.setTop (mkF m 305 #[.val (.int p1), .val (.int p2), .val (.int p3), .val (.ref b1), .val (.int (1 : Int32)), .val (.int (2 : Int32)), .val (.int (3 : Int32)), .val (.int (Int32.ofNat k)), .val (.int (Int32.ofNat t)), .val (.int (own_x t)), .val (.ref b9), .val (.int (if t < k then (1 : Int32) else 0)), .val (.ref ea), .val (.int (Int32.ofNat (own_m k t))), .val (.int (own_b k t)), .unset, .unset, .unset] [])) _
    refine XS.aloadN X25.here hx rfl (hb hby at_305) rfl rfl ?_
    show Steps p.tables e below (T25.setTop (mkF m 306 #[.val (.int p1), .val (.int p2), .val (.int p3), .val (.ref b1), .val (.int (1 : Int32)), .val (.int (2 : Int32)), .val (.int (3 : Int32)), .val (.int (Int32.ofNat k)), .val (.int (Int32.ofNat t)), .val (.int (own_x t)), .val (.ref b9), .val (.int (if t < k then (1 : Int32) else 0)), .val (.ref ea), .val (.int (Int32.ofNat (own_m k t))), .val (.int (own_b k t)), .unset, .unset, .unset] [(.ref b1)])) _
    refine XS.iload X25.here hx rfl (hb hby at_306) rfl ?_
    show Steps p.tables e below (T25.setTop (mkF m 308 #[.val (.int p1), .val (.int p2), .val (.int p3), .val (.ref b1), .val (.int (1 : Int32)), .val (.int (2 : Int32)), .val (.int (3 : Int32)), .val (.int (Int32.ofNat k)), .val (.int (Int32.ofNat t)), .val (.int (own_x t)), .val (.ref b9), .val (.int (if t < k then (1 : Int32) else 0)), .val (.ref ea), .val (.int (Int32.ofNat (own_m k t))), .val (.int (own_b k t)), .unset, .unset, .unset] [(.int (2 : Int32)), (.ref b1)])) _
    refine st26.trans ?_
    show Steps p.tables e below (T26.setTop (mkF m 311 #[.val (.int p1), .val (.int p2), .val (.int p3), .val (.ref b1), .val (.int (1 : Int32)), .val (.int (2 : Int32)), .val (.int (3 : Int32)), .val (.int (Int32.ofNat k)), .val (.int (Int32.ofNat t)), .val (.int (own_x t)), .val (.ref b9), .val (.int (if t < k then (1 : Int32) else 0)), .val (.ref ea), .val (.int (Int32.ofNat (own_m k t))), .val (.int (own_b k t)), .unset, .unset, .unset] [(.int (own_gt (own_t2 k t) 2 (2 : Int32)))])) _
    refine XS.iload X26.here hx rfl (hb hby at_311) rfl ?_
    show Steps p.tables e below (T26.setTop (mkF m 313 #[.val (.int p1), .val (.int p2), .val (.int p3), .val (.ref b1), .val (.int (1 : Int32)), .val (.int (2 : Int32)), .val (.int (3 : Int32)), .val (.int (Int32.ofNat k)), .val (.int (Int32.ofNat t)), .val (.int (own_x t)), .val (.ref b9), .val (.int (if t < k then (1 : Int32) else 0)), .val (.ref ea), .val (.int (Int32.ofNat (own_m k t))), .val (.int (own_b k t)), .unset, .unset, .unset] [(.int (own_b k t)), (.int (own_gt (own_t2 k t) 2 (2 : Int32)))])) _
    refine XS.icmpNo X26.here hx rfl (hb hby at_313) rfl (teq hf4.2).2 ?_
    show Steps p.tables e below (T26.setTop (mkF m 316 #[.val (.int p1), .val (.int p2), .val (.int p3), .val (.ref b1), .val (.int (1 : Int32)), .val (.int (2 : Int32)), .val (.int (3 : Int32)), .val (.int (Int32.ofNat k)), .val (.int (Int32.ofNat t)), .val (.int (own_x t)), .val (.ref b9), .val (.int (if t < k then (1 : Int32) else 0)), .val (.ref ea), .val (.int (Int32.ofNat (own_m k t))), .val (.int (own_b k t)), .unset, .unset, .unset] [])) _
    refine XS.iconst X26.here hx rfl (hb hby at_316) ?_
    show Steps p.tables e below (T26.setTop (mkF m 317 #[.val (.int p1), .val (.int p2), .val (.int p3), .val (.ref b1), .val (.int (1 : Int32)), .val (.int (2 : Int32)), .val (.int (3 : Int32)), .val (.int (Int32.ofNat k)), .val (.int (Int32.ofNat t)), .val (.int (own_x t)), .val (.ref b9), .val (.int (if t < k then (1 : Int32) else 0)), .val (.ref ea), .val (.int (Int32.ofNat (own_m k t))), .val (.int (own_b k t)), .unset, .unset, .unset] [(.int (1 : Int32))])) _
    refine XS.goto X26.here hx rfl (pc0 := 317) (pc' := 321) rfl (hb hby at_317) (by decide) (by decide) ?_
    show Steps p.tables e below (T26.setTop (mkF m 321 #[.val (.int p1), .val (.int p2), .val (.int p3), .val (.ref b1), .val (.int (1 : Int32)), .val (.int (2 : Int32)), .val (.int (3 : Int32)), .val (.int (Int32.ofNat k)), .val (.int (Int32.ofNat t)), .val (.int (own_x t)), .val (.ref b9), .val (.int (if t < k then (1 : Int32) else 0)), .val (.ref ea), .val (.int (Int32.ofNat (own_m k t))), .val (.int (own_b k t)), .unset, .unset, .unset] [(.int (1 : Int32))])) _
    refine XS.istore X26.here hx rfl (hb hby at_321) rfl (l' := #[.val (.int p1), .val (.int p2), .val (.int p3), .val (.ref b1), .val (.int (1 : Int32)), .val (.int (2 : Int32)), .val (.int (3 : Int32)), .val (.int (Int32.ofNat k)), .val (.int (Int32.ofNat t)), .val (.int (own_x t)), .val (.ref b9), .val (.int (if t < k then (1 : Int32) else 0)), .val (.ref ea), .val (.int (Int32.ofNat (own_m k t))), .val (.int (own_b k t)), .val (.int (1 : Int32)), .unset, .unset]) rfl ?_
    show Steps p.tables e below (T26.setTop (mkF m 323 #[.val (.int p1), .val (.int p2), .val (.int p3), .val (.ref b1), .val (.int (1 : Int32)), .val (.int (2 : Int32)), .val (.int (3 : Int32)), .val (.int (Int32.ofNat k)), .val (.int (Int32.ofNat t)), .val (.int (own_x t)), .val (.ref b9), .val (.int (if t < k then (1 : Int32) else 0)), .val (.ref ea), .val (.int (Int32.ofNat (own_m k t))), .val (.int (own_b k t)), .val (.int (1 : Int32)), .unset, .unset] [])) _
    refine XS.iload X26.here hx rfl (hb hby at_323) rfl ?_
    show Steps p.tables e below (T26.setTop (mkF m 325 #[.val (.int p1), .val (.int p2), .val (.int p3), .val (.ref b1), .val (.int (1 : Int32)), .val (.int (2 : Int32)), .val (.int (3 : Int32)), .val (.int (Int32.ofNat k)), .val (.int (Int32.ofNat t)), .val (.int (own_x t)), .val (.ref b9), .val (.int (if t < k then (1 : Int32) else 0)), .val (.ref ea), .val (.int (Int32.ofNat (own_m k t))), .val (.int (own_b k t)), .val (.int (1 : Int32)), .unset, .unset] [(.int (own_b k t))])) _
    refine XS.iconst X26.here hx rfl (hb hby at_325) ?_
    exact kt
  have ph4 : ∃ (T' : State) (locs' : List Loc), Stand p l e room_1 s m #[(.int p1), (.int p2), (.int p3)] below meth c T' locs' 14 667 ∧ Fr n0 locs' ∧ T'.heap = T21.heap ∧ ∀ t_, Steps p.tables e below (T'.setTop (mkF m 362 #[.val (.int p1), .val (.int p2), .val (.int p3), .val (.ref b1), .val (.int (1 : Int32)), .val (.int (2 : Int32)), .val (.int (3 : Int32)), .val (.int (Int32.ofNat k)), .val (.int (Int32.ofNat t)), .val (.int (own_x t)), .val (.ref b9), .val (.int (if t < k then (1 : Int32) else 0)), .val (.ref ea), .val (.int (Int32.ofNat (own_m k t))), .val (.int (own_b k t)), .val (.int (1 : Int32)), .unset, .unset] [])) t_ → Steps p.tables e below (s₁.setTop (entryFrame m #[(.int p1), (.int p2), (.int p3)] maxLocals)) t_ := by
    by_cases cq : own_b k t = -1
    · skip
      have pp4 : ∀ tt, Steps p.tables e below (T26.setTop (mkF m 362 #[.val (.int p1), .val (.int p2), .val (.int p3), .val (.ref b1), .val (.int (1 : Int32)), .val (.int (2 : Int32)), .val (.int (3 : Int32)), .val (.int (Int32.ofNat k)), .val (.int (Int32.ofNat t)), .val (.int (own_x t)), .val (.ref b9), .val (.int (if t < k then (1 : Int32) else 0)), .val (.ref ea), .val (.int (Int32.ofNat (own_m k t))), .val (.int (own_b k t)), .val (.int (1 : Int32)), .unset, .unset] [])) tt → Steps p.tables e below (s₁.setTop (entryFrame m #[(.int p1), (.int p2), (.int p3)] maxLocals)) tt := by
        intro tt kt
        refine pre27 tt ?_
        show Steps p.tables e below (T26.setTop (mkF m 326 #[.val (.int p1), .val (.int p2), .val (.int p3), .val (.ref b1), .val (.int (1 : Int32)), .val (.int (2 : Int32)), .val (.int (3 : Int32)), .val (.int (Int32.ofNat k)), .val (.int (Int32.ofNat t)), .val (.int (own_x t)), .val (.ref b9), .val (.int (if t < k then (1 : Int32) else 0)), .val (.ref ea), .val (.int (Int32.ofNat (own_m k t))), .val (.int (own_b k t)), .val (.int (1 : Int32)), .unset, .unset] [(.int (-1 : Int32)), (.int (own_b k t))])) _
        refine XS.icmpYes X26.here hx rfl (pc0 := 326) (pc' := 362) rfl (hb hby at_326) rfl (teq cq).1 (by decide) (by decide) ?_
        exact kt
      exact ⟨T26, _, X26, Nx26, h26, pp4⟩
    · have hb5 := hf5 cq
      obtain ⟨cqn28, kqn28, qn28a, qn28b, qn28c⟩ := isOf hZ h26 (Tr.exa HD)
      obtain ⟨_, _, ⟨Tn28, Ln28, kn28, nn28⟩, -, Xn28, ⟨Lcn28, hQn28, ln28, yn28, zn28⟩, stn28⟩ := X26.virtualBack hx (y := (⟨"com/example/pith/pith/html/PageTree", "parent", "(I)I"⟩ : MethodName)) (z := (⟨"com/example/pith/pith/html/PageTree", "parent", "(I)I"⟩ : MethodName)) hown (mvT hZ (hw _ (List.mem_of_getElem? (i := 57) rfl))) (mvT hZ (hw _ (List.mem_of_getElem? (i := 58) rfl))) (notFace_of_selects (args := #[]) (mvT hZ (hw _ (List.mem_of_getElem? (i := 60) rfl)))) (mvT hZ (hw _ (List.mem_of_getElem? (i := 60) rfl))) (mvT hZ (hw _ (List.mem_of_getElem? (i := 59) rfl))) (by decide) (backOf (W := 0) (rmP l Z a0 hw [] b1 ad kc (own_t2 k t) (3 : Int32) T21.heap n0 zz21 HD (by decide)) hZ (hw _ (List.mem_of_getElem? (i := 61) rfl)) (hw _ (List.mem_of_getElem? (i := 2) rfl)) (by decide) (by decide)) qn28a qn28c (g := (mkF m 337 #[.val (.int p1), .val (.int p2), .val (.int p3), .val (.ref b1), .val (.int (1 : Int32)), .val (.int (2 : Int32)), .val (.int (3 : Int32)), .val (.int (Int32.ofNat k)), .val (.int (Int32.ofNat t)), .val (.int (own_x t)), .val (.ref b9), .val (.int (if t < k then (1 : Int32) else 0)), .val (.ref ea), .val (.int (Int32.ofNat (own_m k t))), .val (.int (own_b k t)), .val (.int (1 : Int32)), .unset, .unset] [(.int (3 : Int32)), (.ref b1)])) rfl (by rw [hml]; rfl) (Steps.refl _) (argsL := [(.int (3 : Int32))]) (rest := []) (lenOf pd_2 rfl) rfl (by show 2 * 0 + _ ≤ _; exact Nat.le_of_eq rfl) (hb hby at_337) (fun _ _ => ⟨rfl, h26, (by decide : 14 + 0 ≤ _), (by decide : 667 + 0 ≤ _)⟩)
      dsimp only [Pt.U, Pt.locs, Pt.cells, Pt.slots] at Xn28 ln28 yn28 zn28 stn28 hQn28
      subst ln28 yn28 zn28
      obtain ⟨rfl, Nn28q, hn28⟩ := hQn28
      have Nn28 := Fr.app Nx26 Nn28q
      obtain ⟨Lxn28, Xn28, Nxn28⟩ : ∃ L, Stand p l e room_1 s m #[(.int p1), (.int p2), (.int p3)] below meth c Tn28 L 14 667 ∧ Fr n0 L := ⟨_, Xn28.more (by decide) (by decide), Nn28⟩
      obtain ⟨cqn29, kqn29, qn29a, qn29b, qn29c⟩ := isOf hZ hn28 (Tr.exa HD)
      obtain ⟨_, _, ⟨Tn29, Ln29, kn29, nn29⟩, -, Xn29, ⟨Lcn29, hQn29, ln29, yn29, zn29⟩, stn29⟩ := Xn28.virtualBack hx (y := (⟨"com/example/pith/pith/html/PageTree", "next", "(I)I"⟩ : MethodName)) (z := (⟨"com/example/pith/pith/html/PageTree", "next", "(I)I"⟩ : MethodName)) hown (mvT hZ (hw _ (List.mem_of_getElem? (i := 62) rfl))) (mvT hZ (hw _ (List.mem_of_getElem? (i := 63) rfl))) (notFace_of_selects (args := #[]) (mvT hZ (hw _ (List.mem_of_getElem? (i := 65) rfl)))) (mvT hZ (hw _ (List.mem_of_getElem? (i := 65) rfl))) (mvT hZ (hw _ (List.mem_of_getElem? (i := 64) rfl))) (by decide) (backOf (W := 0) (rmX l Z a0 hw [] b1 ad kc (own_t2 k t) (3 : Int32) T21.heap n0 zz21 HD (by decide)) hZ (hw _ (List.mem_of_getElem? (i := 66) rfl)) (hw _ (List.mem_of_getElem? (i := 2) rfl)) (by decide) (by decide)) qn29a qn29c (g := (mkF m 348 #[.val (.int p1), .val (.int p2), .val (.int p3), .val (.ref b1), .val (.int (1 : Int32)), .val (.int (2 : Int32)), .val (.int (3 : Int32)), .val (.int (Int32.ofNat k)), .val (.int (Int32.ofNat t)), .val (.int (own_x t)), .val (.ref b9), .val (.int (if t < k then (1 : Int32) else 0)), .val (.ref ea), .val (.int (Int32.ofNat (own_m k t))), .val (.int (own_b k t)), .val (.int (1 : Int32)), .unset, .unset] [(.int (3 : Int32)), (.ref b1)])) rfl (by rw [hml]; rfl) (Steps.refl _) (argsL := [(.int (3 : Int32))]) (rest := []) (lenOf pd_2 rfl) rfl (by show 2 * 0 + _ ≤ _; exact Nat.le_of_eq rfl) (hb hby at_348) (fun _ _ => ⟨rfl, hn28, (by decide : 14 + 0 ≤ _), (by decide : 667 + 0 ≤ _)⟩)
      dsimp only [Pt.U, Pt.locs, Pt.cells, Pt.slots] at Xn29 ln29 yn29 zn29 stn29 hQn29
      subst ln29 yn29 zn29
      obtain ⟨rfl, Nn29q, hn29⟩ := hQn29
      have Nn29 := Fr.app Nxn28 Nn29q
      obtain ⟨Lxn29, Xn29, Nxn29⟩ : ∃ L, Stand p l e room_1 s m #[(.int p1), (.int p2), (.int p3)] below meth c Tn29 L 14 667 ∧ Fr n0 L := ⟨_, Xn29.more (by decide) (by decide), Nn29⟩
      have pp4 : ∀ tt, Steps p.tables e below (Tn29.setTop (mkF m 362 #[.val (.int p1), .val (.int p2), .val (.int p3), .val (.ref b1), .val (.int (1 : Int32)), .val (.int (2 : Int32)), .val (.int (3 : Int32)), .val (.int (Int32.ofNat k)), .val (.int (Int32.ofNat t)), .val (.int (own_x t)), .val (.ref b9), .val (.int (if t < k then (1 : Int32) else 0)), .val (.ref ea), .val (.int (Int32.ofNat (own_m k t))), .val (.int (own_b k t)), .val (.int (1 : Int32)), .unset, .unset] [])) tt → Steps p.tables e below (s₁.setTop (entryFrame m #[(.int p1), (.int p2), (.int p3)] maxLocals)) tt := by
        intro tt kt
        refine pre27 tt ?_
        show Steps p.tables e below (T26.setTop (mkF m 326 #[.val (.int p1), .val (.int p2), .val (.int p3), .val (.ref b1), .val (.int (1 : Int32)), .val (.int (2 : Int32)), .val (.int (3 : Int32)), .val (.int (Int32.ofNat k)), .val (.int (Int32.ofNat t)), .val (.int (own_x t)), .val (.ref b9), .val (.int (if t < k then (1 : Int32) else 0)), .val (.ref ea), .val (.int (Int32.ofNat (own_m k t))), .val (.int (own_b k t)), .val (.int (1 : Int32)), .unset, .unset] [(.int (-1 : Int32)), (.int (own_b k t))])) _
        refine XS.icmpNo X26.here hx rfl (hb hby at_326) rfl (feq cq).1 ?_
        show Steps p.tables e below (T26.setTop (mkF m 329 #[.val (.int p1), .val (.int p2), .val (.int p3), .val (.ref b1), .val (.int (1 : Int32)), .val (.int (2 : Int32)), .val (.int (3 : Int32)), .val (.int (Int32.ofNat k)), .val (.int (Int32.ofNat t)), .val (.int (own_x t)), .val (.ref b9), .val (.int (if t < k then (1 : Int32) else 0)), .val (.ref ea), .val (.int (Int32.ofNat (own_m k t))), .val (.int (own_b k t)), .val (.int (1 : Int32)), .unset, .unset] [])) _
        refine XS.iload X26.here hx rfl (hb hby at_329) rfl ?_
        show Steps p.tables e below (T26.setTop (mkF m 331 #[.val (.int p1), .val (.int p2), .val (.int p3), .val (.ref b1), .val (.int (1 : Int32)), .val (.int (2 : Int32)), .val (.int (3 : Int32)), .val (.int (Int32.ofNat k)), .val (.int (Int32.ofNat t)), .val (.int (own_x t)), .val (.ref b9), .val (.int (if t < k then (1 : Int32) else 0)), .val (.ref ea), .val (.int (Int32.ofNat (own_m k t))), .val (.int (own_b k t)), .val (.int (1 : Int32)), .unset, .unset] [(.int (1 : Int32))])) _
        refine XS.ifNo X26.here hx rfl (hb hby at_331) rfl ((if0 _ _).trans (feq (by decide)).1) ?_
        show Steps p.tables e below (T26.setTop (mkF m 334 #[.val (.int p1), .val (.int p2), .val (.int p3), .val (.ref b1), .val (.int (1 : Int32)), .val (.int (2 : Int32)), .val (.int (3 : Int32)), .val (.int (Int32.ofNat k)), .val (.int (Int32.ofNat t)), .val (.int (own_x t)), .val (.ref b9), .val (.int (if t < k then (1 : Int32) else 0)), .val (.ref ea), .val (.int (Int32.ofNat (own_m k t))), .val (.int (own_b k t)), .val (.int (1 : Int32)), .unset, .unset] [])) _
        refine XS.aloadN X26.here hx rfl (hb hby at_334) rfl rfl ?_
        show Steps p.tables e below (T26.setTop (mkF m 335 #[.val (.int p1), .val (.int p2), .val (.int p3), .val (.ref b1), .val (.int (1 : Int32)), .val (.int (2 : Int32)), .val (.int (3 : Int32)), .val (.int (Int32.ofNat k)), .val (.int (Int32.ofNat t)), .val (.int (own_x t)), .val (.ref b9), .val (.int (if t < k then (1 : Int32) else 0)), .val (.ref ea), .val (.int (Int32.ofNat (own_m k t))), .val (.int (own_b k t)), .val (.int (1 : Int32)), .unset, .unset] [(.ref b1)])) _
        refine XS.iload X26.here hx rfl (hb hby at_335) rfl ?_
        show Steps p.tables e below (T26.setTop (mkF m 337 #[.val (.int p1), .val (.int p2), .val (.int p3), .val (.ref b1), .val (.int (1 : Int32)), .val (.int (2 : Int32)), .val (.int (3 : Int32)), .val (.int (Int32.ofNat k)), .val (.int (Int32.ofNat t)), .val (.int (own_x t)), .val (.ref b9), .val (.int (if t < k then (1 : Int32) else 0)), .val (.ref ea), .val (.int (Int32.ofNat (own_m k t))), .val (.int (own_b k t)), .val (.int (1 : Int32)), .unset, .unset] [(.int (3 : Int32)), (.ref b1)])) _
        refine stn28.trans ?_
        show Steps p.tables e below (Tn28.setTop (mkF m 340 #[.val (.int p1), .val (.int p2), .val (.int p3), .val (.ref b1), .val (.int (1 : Int32)), .val (.int (2 : Int32)), .val (.int (3 : Int32)), .val (.int (Int32.ofNat k)), .val (.int (Int32.ofNat t)), .val (.int (own_x t)), .val (.ref b9), .val (.int (if t < k then (1 : Int32) else 0)), .val (.ref ea), .val (.int (Int32.ofNat (own_m k t))), .val (.int (own_b k t)), .val (.int (1 : Int32)), .unset, .unset] [(.int (own_gt (own_t2 k t) 0 (3 : Int32)))])) _
        refine XS.iload Xn28.here hx rfl (hb hby at_340) rfl ?_
        show Steps p.tables e below (Tn28.setTop (mkF m 342 #[.val (.int p1), .val (.int p2), .val (.int p3), .val (.ref b1), .val (.int (1 : Int32)), .val (.int (2 : Int32)), .val (.int (3 : Int32)), .val (.int (Int32.ofNat k)), .val (.int (Int32.ofNat t)), .val (.int (own_x t)), .val (.ref b9), .val (.int (if t < k then (1 : Int32) else 0)), .val (.ref ea), .val (.int (Int32.ofNat (own_m k t))), .val (.int (own_b k t)), .val (.int (1 : Int32)), .unset, .unset] [(.int (2 : Int32)), (.int (own_gt (own_t2 k t) 0 (3 : Int32)))])) _
        refine XS.icmpNo Xn28.here hx rfl (hb hby at_342) rfl (teq hb5.1).2 ?_
        show Steps p.tables e below (Tn28.setTop (mkF m 345 #[.val (.int p1), .val (.int p2), .val (.int p3), .val (.ref b1), .val (.int (1 : Int32)), .val (.int (2 : Int32)), .val (.int (3 : Int32)), .val (.int (Int32.ofNat k)), .val (.int (Int32.ofNat t)), .val (.int (own_x t)), .val (.ref b9), .val (.int (if t < k then (1 : Int32) else 0)), .val (.ref ea), .val (.int (Int32.ofNat (own_m k t))), .val (.int (own_b k t)), .val (.int (1 : Int32)), .unset, .unset] [])) _
        refine XS.aloadN Xn28.here hx rfl (hb hby at_345) rfl rfl ?_
        show Steps p.tables e below (Tn28.setTop (mkF m 346 #[.val (.int p1), .val (.int p2), .val (.int p3), .val (.ref b1), .val (.int (1 : Int32)), .val (.int (2 : Int32)), .val (.int (3 : Int32)), .val (.int (Int32.ofNat k)), .val (.int (Int32.ofNat t)), .val (.int (own_x t)), .val (.ref b9), .val (.int (if t < k then (1 : Int32) else 0)), .val (.ref ea), .val (.int (Int32.ofNat (own_m k t))), .val (.int (own_b k t)), .val (.int (1 : Int32)), .unset, .unset] [(.ref b1)])) _
        refine XS.iload Xn28.here hx rfl (hb hby at_346) rfl ?_
        show Steps p.tables e below (Tn28.setTop (mkF m 348 #[.val (.int p1), .val (.int p2), .val (.int p3), .val (.ref b1), .val (.int (1 : Int32)), .val (.int (2 : Int32)), .val (.int (3 : Int32)), .val (.int (Int32.ofNat k)), .val (.int (Int32.ofNat t)), .val (.int (own_x t)), .val (.ref b9), .val (.int (if t < k then (1 : Int32) else 0)), .val (.ref ea), .val (.int (Int32.ofNat (own_m k t))), .val (.int (own_b k t)), .val (.int (1 : Int32)), .unset, .unset] [(.int (3 : Int32)), (.ref b1)])) _
        refine stn29.trans ?_
        show Steps p.tables e below (Tn29.setTop (mkF m 351 #[.val (.int p1), .val (.int p2), .val (.int p3), .val (.ref b1), .val (.int (1 : Int32)), .val (.int (2 : Int32)), .val (.int (3 : Int32)), .val (.int (Int32.ofNat k)), .val (.int (Int32.ofNat t)), .val (.int (own_x t)), .val (.ref b9), .val (.int (if t < k then (1 : Int32) else 0)), .val (.ref ea), .val (.int (Int32.ofNat (own_m k t))), .val (.int (own_b k t)), .val (.int (1 : Int32)), .unset, .unset] [(.int (own_gt (own_t2 k t) 3 (3 : Int32)))])) _
        refine XS.iconst Xn29.here hx rfl (hb hby at_351) ?_
        show Steps p.tables e below (Tn29.setTop (mkF m 352 #[.val (.int p1), .val (.int p2), .val (.int p3), .val (.ref b1), .val (.int (1 : Int32)), .val (.int (2 : Int32)), .val (.int (3 : Int32)), .val (.int (Int32.ofNat k)), .val (.int (Int32.ofNat t)), .val (.int (own_x t)), .val (.ref b9), .val (.int (if t < k then (1 : Int32) else 0)), .val (.ref ea), .val (.int (Int32.ofNat (own_m k t))), .val (.int (own_b k t)), .val (.int (1 : Int32)), .unset, .unset] [(.int (-1 : Int32)), (.int (own_gt (own_t2 k t) 3 (3 : Int32)))])) _
        refine XS.icmpNo Xn29.here hx rfl (hb hby at_352) rfl (teq hb5.2).2 ?_
        show Steps p.tables e below (Tn29.setTop (mkF m 355 #[.val (.int p1), .val (.int p2), .val (.int p3), .val (.ref b1), .val (.int (1 : Int32)), .val (.int (2 : Int32)), .val (.int (3 : Int32)), .val (.int (Int32.ofNat k)), .val (.int (Int32.ofNat t)), .val (.int (own_x t)), .val (.ref b9), .val (.int (if t < k then (1 : Int32) else 0)), .val (.ref ea), .val (.int (Int32.ofNat (own_m k t))), .val (.int (own_b k t)), .val (.int (1 : Int32)), .unset, .unset] [])) _
        refine XS.iconst Xn29.here hx rfl (hb hby at_355) ?_
        show Steps p.tables e below (Tn29.setTop (mkF m 356 #[.val (.int p1), .val (.int p2), .val (.int p3), .val (.ref b1), .val (.int (1 : Int32)), .val (.int (2 : Int32)), .val (.int (3 : Int32)), .val (.int (Int32.ofNat k)), .val (.int (Int32.ofNat t)), .val (.int (own_x t)), .val (.ref b9), .val (.int (if t < k then (1 : Int32) else 0)), .val (.ref ea), .val (.int (Int32.ofNat (own_m k t))), .val (.int (own_b k t)), .val (.int (1 : Int32)), .unset, .unset] [(.int (1 : Int32))])) _
        refine XS.goto Xn29.here hx rfl (pc0 := 356) (pc' := 360) rfl (hb hby at_356) (by decide) (by decide) ?_
        show Steps p.tables e below (Tn29.setTop (mkF m 360 #[.val (.int p1), .val (.int p2), .val (.int p3), .val (.ref b1), .val (.int (1 : Int32)), .val (.int (2 : Int32)), .val (.int (3 : Int32)), .val (.int (Int32.ofNat k)), .val (.int (Int32.ofNat t)), .val (.int (own_x t)), .val (.ref b9), .val (.int (if t < k then (1 : Int32) else 0)), .val (.ref ea), .val (.int (Int32.ofNat (own_m k t))), .val (.int (own_b k t)), .val (.int (1 : Int32)), .unset, .unset] [(.int (1 : Int32))])) _
        refine XS.istore Xn29.here hx rfl (hb hby at_360) rfl (l' := #[.val (.int p1), .val (.int p2), .val (.int p3), .val (.ref b1), .val (.int (1 : Int32)), .val (.int (2 : Int32)), .val (.int (3 : Int32)), .val (.int (Int32.ofNat k)), .val (.int (Int32.ofNat t)), .val (.int (own_x t)), .val (.ref b9), .val (.int (if t < k then (1 : Int32) else 0)), .val (.ref ea), .val (.int (Int32.ofNat (own_m k t))), .val (.int (own_b k t)), .val (.int (1 : Int32)), .unset, .unset]) rfl ?_
        exact kt
      exact ⟨Tn29, _, Xn29, Nxn29, hn29, pp4⟩
  obtain ⟨U4, Lc4, XU4, NU4, eU4, pU4⟩ := ph4
  have pre28 : ∀ tt, Steps p.tables e below (U4.setTop (mkF m 364 #[.val (.int p1), .val (.int p2), .val (.int p3), .val (.ref b1), .val (.int (1 : Int32)), .val (.int (2 : Int32)), .val (.int (3 : Int32)), .val (.int (Int32.ofNat k)), .val (.int (Int32.ofNat t)), .val (.int (own_x t)), .val (.ref b9), .val (.int (if t < k then (1 : Int32) else 0)), .val (.ref ea), .val (.int (Int32.ofNat (own_m k t))), .val (.int (own_b k t)), .val (.int (1 : Int32)), .unset, .unset] [(.int (Int32.ofNat (own_m k t)))])) tt → Steps p.tables e below (s₁.setTop (entryFrame m #[(.int p1), (.int p2), (.int p3)] maxLocals)) tt := by
    intro tt kt
    refine pU4 tt ?_
    show Steps p.tables e below (U4.setTop (mkF m 362 #[.val (.int p1), .val (.int p2), .val (.int p3), .val (.ref b1), .val (.int (1 : Int32)), .val (.int (2 : Int32)), .val (.int (3 : Int32)), .val (.int (Int32.ofNat k)), .val (.int (Int32.ofNat t)), .val (.int (own_x t)), .val (.ref b9), .val (.int (if t < k then (1 : Int32) else 0)), .val (.ref ea), .val (.int (Int32.ofNat (own_m k t))), .val (.int (own_b k t)), .val (.int (1 : Int32)), .unset, .unset] [])) _
    refine XS.iload XU4.here hx rfl (hb hby at_362) rfl ?_
    exact kt
  by_cases cm : own_m k t = 0
  · skip
    have prey29 : ∀ tt, Steps p.tables e below (U4.setTop (mkF m 448 #[.val (.int p1), .val (.int p2), .val (.int p3), .val (.ref b1), .val (.int (1 : Int32)), .val (.int (2 : Int32)), .val (.int (3 : Int32)), .val (.int (Int32.ofNat k)), .val (.int (Int32.ofNat t)), .val (.int (own_x t)), .val (.ref b9), .val (.int (if t < k then (1 : Int32) else 0)), .val (.ref ea), .val (.int (Int32.ofNat (own_m k t))), .val (.int (own_b k t)), .val (.int (1 : Int32)), .unset, .unset] [(.int (1 : Int32))])) tt → Steps p.tables e below (s₁.setTop (entryFrame m #[(.int p1), (.int p2), (.int p3)] maxLocals)) tt := by
      intro tt kt
      refine pre28 tt ?_
      show Steps p.tables e below (U4.setTop (mkF m 364 #[.val (.int p1), .val (.int p2), .val (.int p3), .val (.ref b1), .val (.int (1 : Int32)), .val (.int (2 : Int32)), .val (.int (3 : Int32)), .val (.int (Int32.ofNat k)), .val (.int (Int32.ofNat t)), .val (.int (own_x t)), .val (.ref b9), .val (.int (if t < k then (1 : Int32) else 0)), .val (.ref ea), .val (.int (Int32.ofNat (own_m k t))), .val (.int (own_b k t)), .val (.int (1 : Int32)), .unset, .unset] [(.int (Int32.ofNat (own_m k t)))])) _
      refine XS.ifYes XU4.here hx rfl (pc0 := 364) (pc' := 446) rfl (hb hby at_364) rfl ((if0 _ _).trans (flt (by rw [cm]; decide)).2.2.2) (by decide) (by decide) ?_
      show Steps p.tables e below (U4.setTop (mkF m 446 #[.val (.int p1), .val (.int p2), .val (.int p3), .val (.ref b1), .val (.int (1 : Int32)), .val (.int (2 : Int32)), .val (.int (3 : Int32)), .val (.int (Int32.ofNat k)), .val (.int (Int32.ofNat t)), .val (.int (own_x t)), .val (.ref b9), .val (.int (if t < k then (1 : Int32) else 0)), .val (.ref ea), .val (.int (Int32.ofNat (own_m k t))), .val (.int (own_b k t)), .val (.int (1 : Int32)), .unset, .unset] [])) _
      refine XS.iload XU4.here hx rfl (hb hby at_446) rfl ?_
      exact kt
    obtain ⟨fs, hr, hrun, hended, hW, hsame⟩ := XU4.leave (v := some (.int (1 : Int32))) (fun h => by rw [Bd.returns] at h; cases h)
    refine ⟨_, _, prey29 _ ?_, hrun, hended, _, _, rfl, ?_, ⟨_, rfl⟩, hW, hsame.mono (by decide) (by decide)⟩
    · exact retN XU4 hx (t := .boolean) Bd.returns (by simp) (hb hby at_448) hr
    · show Q0 Z p1 p2 p3 h0 n0 _ U4.heap _
      rw [eU4]
      exact ⟨rfl, NU4⟩
  · have hm0 : (0 : Int32) < Int32.ofNat (own_m k t) := own_lt (i := 0) (by omega) (by omega)
    obtain ⟨r, hr1, hr2, hr3⟩ : ∃ r : Nat, (r = own_m k t - 1 ∨ r = 0) ∧ (p3 &&& (1 : Int32) = 0 → r = own_m k t - 1) ∧ (¬ p3 &&& (1 : Int32) = 0 → r = 0) := by
      by_cases cq : p3 &&& (1 : Int32) = 0
      · exact ⟨own_m k t - 1, Or.inl rfl, fun _ => rfl, fun q => absurd cq q⟩
      · exact ⟨0, Or.inr rfl, fun q => absurd q cq, fun _ => rfl⟩
    have hr4 : r ≤ 2 := by omega
    obtain ⟨hy, hy0, hy3, hyc⟩ := own_F7 ⟨k, by omega⟩ ⟨t, by omega⟩ ⟨r, by omega⟩ cm hr1
    dsimp only at hy hy0 hy3 hyc
    have pren29 : ∀ tt, Steps p.tables e below (U4.setTop (mkF m 381 #[.val (.int p1), .val (.int p2), .val (.int p3), .val (.ref b1), .val (.int (1 : Int32)), .val (.int (2 : Int32)), .val (.int (3 : Int32)), .val (.int (Int32.ofNat k)), .val (.int (Int32.ofNat t)), .val (.int (own_x t)), .val (.ref b9), .val (.int (if t < k then (1 : Int32) else 0)), .val (.ref ea), .val (.int (Int32.ofNat (own_m k t))), .val (.int (own_b k t)), .val (.int (1 : Int32)), .unset, .unset] [(.int (Int32.ofNat r))])) tt → Steps p.tables e below (s₁.setTop (entryFrame m #[(.int p1), (.int p2), (.int p3)] maxLocals)) tt := by
      intro tt kt
      refine pre28 tt ?_
      show Steps p.tables e below (U4.setTop (mkF m 364 #[.val (.int p1), .val (.int p2), .val (.int p3), .val (.ref b1), .val (.int (1 : Int32)), .val (.int (2 : Int32)), .val (.int (3 : Int32)), .val (.int (Int32.ofNat k)), .val (.int (Int32.ofNat t)), .val (.int (own_x t)), .val (.ref b9), .val (.int (if t < k then (1 : Int32) else 0)), .val (.ref ea), .val (.int (Int32.ofNat (own_m k t))), .val (.int (own_b k t)), .val (.int (1 : Int32)), .unset, .unset] [(.int (Int32.ofNat (own_m k t)))])) _
      refine XS.ifNo XU4.here hx rfl (hb hby at_364) rfl ((if0 _ _).trans (tlt hm0).2.2.2) ?_
      show Steps p.tables e below (U4.setTop (mkF m 367 #[.val (.int p1), .val (.int p2), .val (.int p3), .val (.ref b1), .val (.int (1 : Int32)), .val (.int (2 : Int32)), .val (.int (3 : Int32)), .val (.int (Int32.ofNat k)), .val (.int (Int32.ofNat t)), .val (.int (own_x t)), .val (.ref b9), .val (.int (if t < k then (1 : Int32) else 0)), .val (.ref ea), .val (.int (Int32.ofNat (own_m k t))), .val (.int (own_b k t)), .val (.int (1 : Int32)), .unset, .unset] [])) _
      refine XS.iloadN XU4.here hx rfl (hb hby at_367) rfl ?_
      show Steps p.tables e below (U4.setTop (mkF m 368 #[.val (.int p1), .val (.int p2), .val (.int p3), .val (.ref b1), .val (.int (1 : Int32)), .val (.int (2 : Int32)), .val (.int (3 : Int32)), .val (.int (Int32.ofNat k)), .val (.int (Int32.ofNat t)), .val (.int (own_x t)), .val (.ref b9), .val (.int (if t < k then (1 : Int32) else 0)), .val (.ref ea), .val (.int (Int32.ofNat (own_m k t))), .val (.int (own_b k t)), .val (.int (1 : Int32)), .unset, .unset] [(.int p3)])) _
      refine XS.iconst XU4.here hx rfl (hb hby at_368) ?_
      show Steps p.tables e below (U4.setTop (mkF m 369 #[.val (.int p1), .val (.int p2), .val (.int p3), .val (.ref b1), .val (.int (1 : Int32)), .val (.int (2 : Int32)), .val (.int (3 : Int32)), .val (.int (Int32.ofNat k)), .val (.int (Int32.ofNat t)), .val (.int (own_x t)), .val (.ref b9), .val (.int (if t < k then (1 : Int32) else 0)), .val (.ref ea), .val (.int (Int32.ofNat (own_m k t))), .val (.int (own_b k t)), .val (.int (1 : Int32)), .unset, .unset] [(.int (1 : Int32)), (.int p3)])) _
      refine XS.iand XU4.here hx rfl (hb hby at_369) rfl ?_
      by_cases cq : p3 &&& (1 : Int32) = 0
      · rw [hr2 cq, ← own_sub1 cm hm3] at kt
        show Steps p.tables e below (U4.setTop (mkF m 370 #[.val (.int p1), .val (.int p2), .val (.int p3), .val (.ref b1), .val (.int (1 : Int32)), .val (.int (2 : Int32)), .val (.int (3 : Int32)), .val (.int (Int32.ofNat k)), .val (.int (Int32.ofNat t)), .val (.int (own_x t)), .val (.ref b9), .val (.int (if t < k then (1 : Int32) else 0)), .val (.ref ea), .val (.int (Int32.ofNat (own_m k t))), .val (.int (own_b k t)), .val (.int (1 : Int32)), .unset, .unset] [(.int (p3 &&& (1 : Int32)))])) _
        refine XS.ifNo XU4.here hx rfl (hb hby at_370) rfl ((if0 _ _).trans (teq cq).2) ?_
        show Steps p.tables e below (U4.setTop (mkF m 373 #[.val (.int p1), .val (.int p2), .val (.int p3), .val (.ref b1), .val (.int (1 : Int32)), .val (.int (2 : Int32)), .val (.int (3 : Int32)), .val (.int (Int32.ofNat k)), .val (.int (Int32.ofNat t)), .val (.int (own_x t)), .val (.ref b9), .val (.int (if t < k then (1 : Int32) else 0)), .val (.ref ea), .val (.int (Int32.ofNat (own_m k t))), .val (.int (own_b k t)), .val (.int (1 : Int32)), .unset, .unset] [])) _
        refine XS.iload XU4.here hx rfl (hb hby at_373) rfl ?_
        show Steps p.tables e below (U4.setTop (mkF m 375 #[.val (.int p1), .val (.int p2), .val (.int p3), .val (.ref b1), .val (.int (1 : Int32)), .val (.int (2 : Int32)), .val (.int (3 : Int32)), .val (.int (Int32.ofNat k)), .val (.int (Int32.ofNat t)), .val (.int (own_x t)), .val (.ref b9), .val (.int (if t < k then (1 : Int32) else 0)), .val (.ref ea), .val (.int (Int32.ofNat (own_m k t))), .val (.int (own_b k t)), .val (.int (1 : Int32)), .unset, .unset] [(.int (Int32.ofNat (own_m k t)))])) _
        refine XS.iconst XU4.here hx rfl (hb hby at_375) ?_
        show Steps p.tables e below (U4.setTop (mkF m 376 #[.val (.int p1), .val (.int p2), .val (.int p3), .val (.ref b1), .val (.int (1 : Int32)), .val (.int (2 : Int32)), .val (.int (3 : Int32)), .val (.int (Int32.ofNat k)), .val (.int (Int32.ofNat t)), .val (.int (own_x t)), .val (.ref b9), .val (.int (if t < k then (1 : Int32) else 0)), .val (.ref ea), .val (.int (Int32.ofNat (own_m k t))), .val (.int (own_b k t)), .val (.int (1 : Int32)), .unset, .unset] [(.int (1 : Int32)), (.int (Int32.ofNat (own_m k t)))])) _
        refine XS.isub XU4.here hx rfl (hb hby at_376) rfl ?_
        show Steps p.tables e below (U4.setTop (mkF m 377 #[.val (.int p1), .val (.int p2), .val (.int p3), .val (.ref b1), .val (.int (1 : Int32)), .val (.int (2 : Int32)), .val (.int (3 : Int32)), .val (.int (Int32.ofNat k)), .val (.int (Int32.ofNat t)), .val (.int (own_x t)), .val (.ref b9), .val (.int (if t < k then (1 : Int32) else 0)), .val (.ref ea), .val (.int (Int32.ofNat (own_m k t))), .val (.int (own_b k t)), .val (.int (1 : Int32)), .unset, .unset] [(.int ((Int32.ofNat (own_m k t)) - (1 : Int32)))])) _
        refine XS.goto XU4.here hx rfl (pc0 := 377) (pc' := 381) rfl (hb hby at_377) (by decide) (by decide) ?_
        exact kt
      · rw [hr3 cq] at kt
        show Steps p.tables e below (U4.setTop (mkF m 370 #[.val (.int p1), .val (.int p2), .val (.int p3), .val (.ref b1), .val (.int (1 : Int32)), .val (.int (2 : Int32)), .val (.int (3 : Int32)), .val (.int (Int32.ofNat k)), .val (.int (Int32.ofNat t)), .val (.int (own_x t)), .val (.ref b9), .val (.int (if t < k then (1 : Int32) else 0)), .val (.ref ea), .val (.int (Int32.ofNat (own_m k t))), .val (.int (own_b k t)), .val (.int (1 : Int32)), .unset, .unset] [(.int (p3 &&& (1 : Int32)))])) _
        refine XS.ifYes XU4.here hx rfl (pc0 := 370) (pc' := 380) rfl (hb hby at_370) rfl ((if0 _ _).trans (feq cq).2) (by decide) (by decide) ?_
        show Steps p.tables e below (U4.setTop (mkF m 380 #[.val (.int p1), .val (.int p2), .val (.int p3), .val (.ref b1), .val (.int (1 : Int32)), .val (.int (2 : Int32)), .val (.int (3 : Int32)), .val (.int (Int32.ofNat k)), .val (.int (Int32.ofNat t)), .val (.int (own_x t)), .val (.ref b9), .val (.int (if t < k then (1 : Int32) else 0)), .val (.ref ea), .val (.int (Int32.ofNat (own_m k t))), .val (.int (own_b k t)), .val (.int (1 : Int32)), .unset, .unset] [])) _
        refine XS.iconst XU4.here hx rfl (hb hby at_380) ?_
        exact kt
    obtain ⟨cle, Are, -, Sze, Mze, Hze, -⟩ := VE
    have VE' : Arv Z T21.heap ea ke .int 4 ((own_e k t).map Value.int) (.int (0 : Int32)) := VE3.keep K21 (own_ne5 na3)
    have hin : ¬ (Int32.ofNat r < 0 ∨ cle.slots.size ≤ (Int32.ofNat r).toNatClampNeg) := inb_of Sze ⟨fun q => absurd (show Int32.ofNat r < Int32.ofNat 0 from q) (own_nlt (by omega) (by omega)), own_lt (n := 4) (by omega) (by omega)⟩
    obtain ⟨cqn30, kqn30, qn30a, qn30b, qn30c⟩ := isOf hZ eU4 (Tr.exa HD)
    obtain ⟨_, _, ⟨Tn30, Ln30, kn30, nn30⟩, -, Xn30, ⟨Lcn30, hQn30, ln30, yn30, zn30⟩, stn30⟩ := XU4.virtualBack hx (y := (⟨"com/example/pith/pith/html/PageTree", "detach", "(I)V"⟩ : MethodName)) (z := (⟨"com/example/pith/pith/html/PageTree", "detach", "(I)V"⟩ : MethodName)) hown (mvT hZ (hw _ (List.mem_of_getElem? (i := 52) rfl))) (mvT hZ (hw _ (List.mem_of_getElem? (i := 53) rfl))) (notFace_of_selects (args := #[]) (mvT hZ (hw _ (List.mem_of_getElem? (i := 55) rfl)))) (mvT hZ (hw _ (List.mem_of_getElem? (i := 55) rfl))) (mvT hZ (hw _ (List.mem_of_getElem? (i := 54) rfl))) (by decide) (backOf (W := 0) (rmD l Z a0 hw [] b1 ad kc (own_t2 k t) ((own_e k t).getD r 0) T21.heap n0 zz21 HD hf6.1 (own_ok_of hf6.2) hy) hZ (hw _ (List.mem_of_getElem? (i := 56) rfl)) (hw _ (List.mem_of_getElem? (i := 2) rfl)) (by decide) (by decide)) qn30a qn30c (g := (mkF m 393 #[.val (.int p1), .val (.int p2), .val (.int p3), .val (.ref b1), .val (.int (1 : Int32)), .val (.int (2 : Int32)), .val (.int (3 : Int32)), .val (.int (Int32.ofNat k)), .val (.int (Int32.ofNat t)), .val (.int (own_x t)), .val (.ref b9), .val (.int (if t < k then (1 : Int32) else 0)), .val (.ref ea), .val (.int (Int32.ofNat (own_m k t))), .val (.int (own_b k t)), .val (.int (1 : Int32)), .val (.int (Int32.ofNat r)), .val (.int ((own_e k t).getD r 0))] [(.int ((own_e k t).getD r 0)), (.ref b1)])) rfl (by rw [hml]; rfl) (Steps.refl _) (argsL := [(.int ((own_e k t).getD r 0))]) (rest := []) (lenOf pd_0 rfl) rfl (by show 2 * 0 + _ ≤ _; exact Nat.le_of_eq rfl) (hb hby at_393) (fun _ _ => ⟨rfl, eU4, (by decide : 14 + 0 ≤ _), (by decide : 667 + 0 ≤ _)⟩)
    dsimp only [Pt.U, Pt.locs, Pt.cells, Pt.slots] at Xn30 ln30 yn30 zn30 stn30 hQn30
    subst ln30 yn30 zn30
    obtain ⟨rfl, Nn30q, Kn30, Hn30⟩ := hQn30
    have Nn30 := Fr.app NU4 Nn30q
    obtain ⟨Lxn30, Xn30, Nxn30⟩ : ∃ L, Stand p l e room_1 s m #[(.int p1), (.int p2), (.int p3)] below meth c Tn30 L 14 667 ∧ Fr n0 L := ⟨_, Xn30.more (by decide) (by decide), Nn30⟩
    have zzn30 : n0 ≤ Tn30.heap.size := Nat.le_trans zz21 Kn30.1
    have VE2 := VE'.keep Kn30 (own_ne5 na3)
    obtain ⟨cqn31, kqn31, qn31a, qn31b, qn31c⟩ := isOf hZ rfl (Tr.exa Hn30)
    obtain ⟨_, _, ⟨Tn31, Ln31, kn31, nn31⟩, -, Xn31, ⟨Lcn31, hQn31, ln31, yn31, zn31⟩, stn31⟩ := Xn30.virtualBack hx (y := (⟨"com/example/pith/pith/html/PageTree", "parent", "(I)I"⟩ : MethodName)) (z := (⟨"com/example/pith/pith/html/PageTree", "parent", "(I)I"⟩ : MethodName)) hown (mvT hZ (hw _ (List.mem_of_getElem? (i := 57) rfl))) (mvT hZ (hw _ (List.mem_of_getElem? (i := 58) rfl))) (notFace_of_selects (args := #[]) (mvT hZ (hw _ (List.mem_of_getElem? (i := 60) rfl)))) (mvT hZ (hw _ (List.mem_of_getElem? (i := 60) rfl))) (mvT hZ (hw _ (List.mem_of_getElem? (i := 59) rfl))) (by decide) (backOf (W := 0) (rmP l Z a0 hw [] b1 ad kc (own_det (own_t2 k t) ((own_e k t).getD r 0)) ((own_e k t).getD r 0) Tn30.heap n0 zzn30 Hn30 (own_r64 hy)) hZ (hw _ (List.mem_of_getElem? (i := 61) rfl)) (hw _ (List.mem_of_getElem? (i := 2) rfl)) (by decide) (by decide)) qn31a qn31c (g := (mkF m 404 #[.val (.int p1), .val (.int p2), .val (.int p3), .val (.ref b1), .val (.int (1 : Int32)), .val (.int (2 : Int32)), .val (.int (3 : Int32)), .val (.int (Int32.ofNat k)), .val (.int (Int32.ofNat t)), .val (.int (own_x t)), .val (.ref b9), .val (.int (if t < k then (1 : Int32) else 0)), .val (.ref ea), .val (.int (Int32.ofNat (own_m k t))), .val (.int (own_b k t)), .val (.int (1 : Int32)), .val (.int (Int32.ofNat r)), .val (.int ((own_e k t).getD r 0))] [(.int ((own_e k t).getD r 0)), (.ref b1)])) rfl (by rw [hml]; rfl) (Steps.refl _) (argsL := [(.int ((own_e k t).getD r 0))]) (rest := []) (lenOf pd_2 rfl) rfl (by show 2 * 0 + _ ≤ _; exact Nat.le_of_eq rfl) (hb hby at_404) (fun _ _ => ⟨rfl, rfl, (by decide : 14 + 0 ≤ _), (by decide : 667 + 0 ≤ _)⟩)
    dsimp only [Pt.U, Pt.locs, Pt.cells, Pt.slots] at Xn31 ln31 yn31 zn31 stn31 hQn31
    subst ln31 yn31 zn31
    obtain ⟨rfl, Nn31q, hn31⟩ := hQn31
    have Nn31 := Fr.app Nxn30 Nn31q
    obtain ⟨Lxn31, Xn31, Nxn31⟩ : ∃ L, Stand p l e room_1 s m #[(.int p1), (.int p2), (.int p3)] below meth c Tn31 L 14 667 ∧ Fr n0 L := ⟨_, Xn31.more (by decide) (by decide), Nn31⟩
    obtain ⟨cqn32, kqn32, qn32a, qn32b, qn32c⟩ := isOf hZ hn31 (Tr.exa Hn30)
    obtain ⟨_, _, ⟨Tn32, Ln32, kn32, nn32⟩, -, Xn32, ⟨Lcn32, hQn32, ln32, yn32, zn32⟩, stn32⟩ := Xn31.virtualBack hx (y := (⟨"com/example/pith/pith/html/PageTree", "next", "(I)I"⟩ : MethodName)) (z := (⟨"com/example/pith/pith/html/PageTree", "next", "(I)I"⟩ : MethodName)) hown (mvT hZ (hw _ (List.mem_of_getElem? (i := 62) rfl))) (mvT hZ (hw _ (List.mem_of_getElem? (i := 63) rfl))) (notFace_of_selects (args := #[]) (mvT hZ (hw _ (List.mem_of_getElem? (i := 65) rfl)))) (mvT hZ (hw _ (List.mem_of_getElem? (i := 65) rfl))) (mvT hZ (hw _ (List.mem_of_getElem? (i := 64) rfl))) (by decide) (backOf (W := 0) (rmX l Z a0 hw [] b1 ad kc (own_det (own_t2 k t) ((own_e k t).getD r 0)) ((own_e k t).getD r 0) Tn30.heap n0 zzn30 Hn30 (own_r64 hy)) hZ (hw _ (List.mem_of_getElem? (i := 66) rfl)) (hw _ (List.mem_of_getElem? (i := 2) rfl)) (by decide) (by decide)) qn32a qn32c (g := (mkF m 414 #[.val (.int p1), .val (.int p2), .val (.int p3), .val (.ref b1), .val (.int (1 : Int32)), .val (.int (2 : Int32)), .val (.int (3 : Int32)), .val (.int (Int32.ofNat k)), .val (.int (Int32.ofNat t)), .val (.int (own_x t)), .val (.ref b9), .val (.int (if t < k then (1 : Int32) else 0)), .val (.ref ea), .val (.int (Int32.ofNat (own_m k t))), .val (.int (own_b k t)), .val (.int (1 : Int32)), .val (.int (Int32.ofNat r)), .val (.int ((own_e k t).getD r 0))] [(.int ((own_e k t).getD r 0)), (.ref b1)])) rfl (by rw [hml]; rfl) (Steps.refl _) (argsL := [(.int ((own_e k t).getD r 0))]) (rest := []) (lenOf pd_2 rfl) rfl (by show 2 * 0 + _ ≤ _; exact Nat.le_of_eq rfl) (hb hby at_414) (fun _ _ => ⟨rfl, hn31, (by decide : 14 + 0 ≤ _), (by decide : 667 + 0 ≤ _)⟩)
    dsimp only [Pt.U, Pt.locs, Pt.cells, Pt.slots] at Xn32 ln32 yn32 zn32 stn32 hQn32
    subst ln32 yn32 zn32
    obtain ⟨rfl, Nn32q, hn32⟩ := hQn32
    have Nn32 := Fr.app Nxn31 Nn32q
    obtain ⟨Lxn32, Xn32, Nxn32⟩ : ∃ L, Stand p l e room_1 s m #[(.int p1), (.int p2), (.int p3)] below meth c Tn32 L 14 667 ∧ Fr n0 L := ⟨_, Xn32.more (by decide) (by decide), Nn32⟩
    obtain ⟨_, _, ⟨Tn33, Ln33, kn33, nn33⟩, -, Xn33, ⟨Lcn33, hQn33, ln33, yn33, zn33⟩, stn33⟩ := Jvm.LawKit.callS Xn32 hx (y := (⟨"com/example/pith/pith/html/PageTreeDetachPinLaw", "removeAt", "([II)[I"⟩ : MethodName)) hown (mvT hZ (hw _ (List.mem_of_getElem? (i := 87) rfl))) (mvT hZ (hw _ (List.mem_of_getElem? (i := 88) rfl))) (mvT hZ (hw _ (List.mem_of_getElem? (i := 69) rfl))) (mvT hZ (hw _ (List.mem_of_getElem? (i := 89) rfl))) (by decide) (backOf (W := 1) (rmR l Z a0 hw [] ea ke (own_e k t) (Int32.ofNat r) Tn30.heap n0 zzn30 VE2) hZ (hw _ (List.mem_of_getElem? (i := 89) rfl)) (hw _ (List.mem_of_getElem? (i := 69) rfl)) (by decide) (by decide)) (g := (mkF m 426 #[.val (.int p1), .val (.int p2), .val (.int p3), .val (.ref b1), .val (.int (1 : Int32)), .val (.int (2 : Int32)), .val (.int (3 : Int32)), .val (.int (Int32.ofNat k)), .val (.int (Int32.ofNat t)), .val (.int (own_x t)), .val (.ref b9), .val (.int (if t < k then (1 : Int32) else 0)), .val (.ref ea), .val (.int (Int32.ofNat (own_m k t))), .val (.int (own_b k t)), .val (.int (1 : Int32)), .val (.int (Int32.ofNat r)), .val (.int ((own_e k t).getD r 0))] [(.int (Int32.ofNat r)), (.ref ea), (.ref b1)])) rfl (by rw [hml]; rfl) (argsL := [(.ref ea), (.int (Int32.ofNat r))]) (rest := [(.ref b1)]) (lenOf pd_5 rfl) rfl (by show 2 * 0 + _ ≤ _; exact Nat.le_of_eq rfl) (hb hby at_426) (fun _ _ => ⟨rfl, hn32, (by decide : 14 + 1 ≤ _), (by decide : 667 + 4 ≤ _)⟩)
    dsimp only [Pt.U, Pt.locs, Pt.cells, Pt.slots] at Xn33 ln33 yn33 zn33 stn33 hQn33
    subst ln33 yn33 zn33
    obtain ⟨an33, kan33, rfl, Nn33q, gn33, Kn33, Vn33⟩ := hQn33
    have Nn33 := Fr.app Nxn32 Nn33q
    obtain ⟨Lxn33, Xn33, Nxn33⟩ : ∃ L, Stand p l e room_1 s m #[(.int p1), (.int p2), (.int p3)] below meth c Tn33 L 15 671 ∧ Fr n0 L := ⟨_, Xn33.more (by decide) (by decide), Nn33⟩
    have zzn33 : n0 ≤ Tn33.heap.size := Nat.le_trans zzn30 Kn33.1
    have Hn33r := Tr.keep0 Hn30 Kn33
    obtain ⟨_, _, ⟨Tn34, Ln34, kn34, nn34⟩, -, Xn34, ⟨Lcn34, hQn34, ln34, yn34, zn34⟩, stn34⟩ := Jvm.LawKit.callS Xn33 hx (y := (⟨"com/example/pith/pith/html/PageTreeDetachPinLaw", "chainOk", "(Lcom/example/pith/pith/html/PageTree;[II)Z"⟩ : MethodName)) hown (mvT hZ (hw _ (List.mem_of_getElem? (i := 67) rfl))) (mvT hZ (hw _ (List.mem_of_getElem? (i := 68) rfl))) (mvT hZ (hw _ (List.mem_of_getElem? (i := 69) rfl))) (mvT hZ (hw _ (List.mem_of_getElem? (i := 70) rfl))) (by decide) (backOf (W := 0) (rmC l Z a0 hw [] b1 ad kc (own_det (own_t2 k t) ((own_e k t).getD r 0)) an33 kan33 (own_rem (own_e k t) (Int32.ofNat r)) (own_m k t - 1) Tn33.heap n0 zzn33 Hn33r Vn33 (by omega) hyc) hZ (hw _ (List.mem_of_getElem? (i := 70) rfl)) (hw _ (List.mem_of_getElem? (i := 69) rfl)) (by decide) (by decide)) (g := (mkF m 433 #[.val (.int p1), .val (.int p2), .val (.int p3), .val (.ref b1), .val (.int (1 : Int32)), .val (.int (2 : Int32)), .val (.int (3 : Int32)), .val (.int (Int32.ofNat k)), .val (.int (Int32.ofNat t)), .val (.int (own_x t)), .val (.ref b9), .val (.int (if t < k then (1 : Int32) else 0)), .val (.ref ea), .val (.int (Int32.ofNat (own_m k t))), .val (.int (own_b k t)), .val (.int (1 : Int32)), .val (.int (Int32.ofNat r)), .val (.int ((own_e k t).getD r 0))] [(.int (Int32.ofNat (own_m k t - 1))), (.ref an33), (.ref b1)])) rfl (by rw [hml]; rfl) (argsL := [(.ref b1), (.ref an33), (.int (Int32.ofNat (own_m k t - 1)))]) (rest := []) (lenOf pd_6 rfl) rfl (by show 2 * 0 + _ ≤ _; exact Nat.le_of_eq rfl) (hb hby at_433) (fun _ _ => ⟨rfl, rfl, (by decide : 15 + 0 ≤ _), (by decide : 671 + 0 ≤ _)⟩)
    dsimp only [Pt.U, Pt.locs, Pt.cells, Pt.slots] at Xn34 ln34 yn34 zn34 stn34 hQn34
    subst ln34 yn34 zn34
    obtain ⟨rfl, Nn34q, hn34⟩ := hQn34
    have Nn34 := Fr.app Nxn33 Nn34q
    obtain ⟨Lxn34, Xn34, Nxn34⟩ : ∃ L, Stand p l e room_1 s m #[(.int p1), (.int p2), (.int p3)] below meth c Tn34 L 15 671 ∧ Fr n0 L := ⟨_, Xn34.more (by decide) (by decide), Nn34⟩
    have pren35 : ∀ tt, Steps p.tables e below (Tn34.setTop (mkF m 448 #[.val (.int p1), .val (.int p2), .val (.int p3), .val (.ref b1), .val (.int (1 : Int32)), .val (.int (2 : Int32)), .val (.int (3 : Int32)), .val (.int (Int32.ofNat k)), .val (.int (Int32.ofNat t)), .val (.int (own_x t)), .val (.ref b9), .val (.int (if t < k then (1 : Int32) else 0)), .val (.ref ea), .val (.int (Int32.ofNat (own_m k t))), .val (.int (own_b k t)), .val (.int (1 : Int32)), .val (.int (Int32.ofNat r)), .val (.int ((own_e k t).getD r 0))] [(.int (1 : Int32))])) tt → Steps p.tables e below (s₁.setTop (entryFrame m #[(.int p1), (.int p2), (.int p3)] maxLocals)) tt := by
      intro tt kt
      refine pren29 tt ?_
      show Steps p.tables e below (U4.setTop (mkF m 381 #[.val (.int p1), .val (.int p2), .val (.int p3), .val (.ref b1), .val (.int (1 : Int32)), .val (.int (2 : Int32)), .val (.int (3 : Int32)), .val (.int (Int32.ofNat k)), .val (.int (Int32.ofNat t)), .val (.int (own_x t)), .val (.ref b9), .val (.int (if t < k then (1 : Int32) else 0)), .val (.ref ea), .val (.int (Int32.ofNat (own_m k t))), .val (.int (own_b k t)), .val (.int (1 : Int32)), .unset, .unset] [(.int (Int32.ofNat r))])) _
      refine XS.istore XU4.here hx rfl (hb hby at_381) rfl (l' := #[.val (.int p1), .val (.int p2), .val (.int p3), .val (.ref b1), .val (.int (1 : Int32)), .val (.int (2 : Int32)), .val (.int (3 : Int32)), .val (.int (Int32.ofNat k)), .val (.int (Int32.ofNat t)), .val (.int (own_x t)), .val (.ref b9), .val (.int (if t < k then (1 : Int32) else 0)), .val (.ref ea), .val (.int (Int32.ofNat (own_m k t))), .val (.int (own_b k t)), .val (.int (1 : Int32)), .val (.int (Int32.ofNat r)), .unset]) rfl ?_
      show Steps p.tables e below (U4.setTop (mkF m 383 #[.val (.int p1), .val (.int p2), .val (.int p3), .val (.ref b1), .val (.int (1 : Int32)), .val (.int (2 : Int32)), .val (.int (3 : Int32)), .val (.int (Int32.ofNat k)), .val (.int (Int32.ofNat t)), .val (.int (own_x t)), .val (.ref b9), .val (.int (if t < k then (1 : Int32) else 0)), .val (.ref ea), .val (.int (Int32.ofNat (own_m k t))), .val (.int (own_b k t)), .val (.int (1 : Int32)), .val (.int (Int32.ofNat r)), .unset] [])) _
      refine XS.aload XU4.here hx rfl (hb hby at_383) rfl rfl ?_
      show Steps p.tables e below (U4.setTop (mkF m 385 #[.val (.int p1), .val (.int p2), .val (.int p3), .val (.ref b1), .val (.int (1 : Int32)), .val (.int (2 : Int32)), .val (.int (3 : Int32)), .val (.int (Int32.ofNat k)), .val (.int (Int32.ofNat t)), .val (.int (own_x t)), .val (.ref b9), .val (.int (if t < k then (1 : Int32) else 0)), .val (.ref ea), .val (.int (Int32.ofNat (own_m k t))), .val (.int (own_b k t)), .val (.int (1 : Int32)), .val (.int (Int32.ofNat r)), .unset] [(.ref ea)])) _
      refine XS.iload XU4.here hx rfl (hb hby at_385) rfl ?_
      show Steps p.tables e below (U4.setTop (mkF m 387 #[.val (.int p1), .val (.int p2), .val (.int p3), .val (.ref b1), .val (.int (1 : Int32)), .val (.int (2 : Int32)), .val (.int (3 : Int32)), .val (.int (Int32.ofNat k)), .val (.int (Int32.ofNat t)), .val (.int (own_x t)), .val (.ref b9), .val (.int (if t < k then (1 : Int32) else 0)), .val (.ref ea), .val (.int (Int32.ofNat (own_m k t))), .val (.int (own_b k t)), .val (.int (1 : Int32)), .val (.int (Int32.ofNat r)), .unset] [(.int (Int32.ofNat r)), (.ref ea)])) _
      refine XU4.iaload hx (j := (Int32.ofNat r)) (v := (.int ((own_e k t).getD r 0))) (by rw [eU4]; exact Are.1) (State.isArrayOf_alike hZ.alike Are.2.1) Are.2.2 hin (own_at4 Sze Hze (own_n32 (by omega)) (by omega)) (g := (mkF m 387 #[.val (.int p1), .val (.int p2), .val (.int p3), .val (.ref b1), .val (.int (1 : Int32)), .val (.int (2 : Int32)), .val (.int (3 : Int32)), .val (.int (Int32.ofNat k)), .val (.int (Int32.ofNat t)), .val (.int (own_x t)), .val (.ref b9), .val (.int (if t < k then (1 : Int32) else 0)), .val (.ref ea), .val (.int (Int32.ofNat (own_m k t))), .val (.int (own_b k t)), .val (.int (1 : Int32)), .val (.int (Int32.ofNat r)), .unset] [(.int (Int32.ofNat r)), (.ref ea)])) rfl rfl (hb hby at_387) _ ?_
      show Steps p.tables e below (U4.setTop (mkF m 388 #[.val (.int p1), .val (.int p2), .val (.int p3), .val (.ref b1), .val (.int (1 : Int32)), .val (.int (2 : Int32)), .val (.int (3 : Int32)), .val (.int (Int32.ofNat k)), .val (.int (Int32.ofNat t)), .val (.int (own_x t)), .val (.ref b9), .val (.int (if t < k then (1 : Int32) else 0)), .val (.ref ea), .val (.int (Int32.ofNat (own_m k t))), .val (.int (own_b k t)), .val (.int (1 : Int32)), .val (.int (Int32.ofNat r)), .unset] [(.int ((own_e k t).getD r 0))])) _
      refine XS.istore XU4.here hx rfl (hb hby at_388) rfl (l' := #[.val (.int p1), .val (.int p2), .val (.int p3), .val (.ref b1), .val (.int (1 : Int32)), .val (.int (2 : Int32)), .val (.int (3 : Int32)), .val (.int (Int32.ofNat k)), .val (.int (Int32.ofNat t)), .val (.int (own_x t)), .val (.ref b9), .val (.int (if t < k then (1 : Int32) else 0)), .val (.ref ea), .val (.int (Int32.ofNat (own_m k t))), .val (.int (own_b k t)), .val (.int (1 : Int32)), .val (.int (Int32.ofNat r)), .val (.int ((own_e k t).getD r 0))]) rfl ?_
      show Steps p.tables e below (U4.setTop (mkF m 390 #[.val (.int p1), .val (.int p2), .val (.int p3), .val (.ref b1), .val (.int (1 : Int32)), .val (.int (2 : Int32)), .val (.int (3 : Int32)), .val (.int (Int32.ofNat k)), .val (.int (Int32.ofNat t)), .val (.int (own_x t)), .val (.ref b9), .val (.int (if t < k then (1 : Int32) else 0)), .val (.ref ea), .val (.int (Int32.ofNat (own_m k t))), .val (.int (own_b k t)), .val (.int (1 : Int32)), .val (.int (Int32.ofNat r)), .val (.int ((own_e k t).getD r 0))] [])) _
      refine XS.aloadN XU4.here hx rfl (hb hby at_390) rfl rfl ?_
      show Steps p.tables e below (U4.setTop (mkF m 391 #[.val (.int p1), .val (.int p2), .val (.int p3), .val (.ref b1), .val (.int (1 : Int32)), .val (.int (2 : Int32)), .val (.int (3 : Int32)), .val (.int (Int32.ofNat k)), .val (.int (Int32.ofNat t)), .val (.int (own_x t)), .val (.ref b9), .val (.int (if t < k then (1 : Int32) else 0)), .val (.ref ea), .val (.int (Int32.ofNat (own_m k t))), .val (.int (own_b k t)), .val (.int (1 : Int32)), .val (.int (Int32.ofNat r)), .val (.int ((own_e k t).getD r 0))] [(.ref b1)])) _
      refine XS.iload XU4.here hx rfl (hb hby at_391) rfl ?_
      show Steps p.tables e below (U4.setTop (mkF m 393 #[.val (.int p1), .val (.int p2), .val (.int p3), .val (.ref b1), .val (.int (1 : Int32)), .val (.int (2 : Int32)), .val (.int (3 : Int32)), .val (.int (Int32.ofNat k)), .val (.int (Int32.ofNat t)), .val (.int (own_x t)), .val (.ref b9), .val (.int (if t < k then (1 : Int32) else 0)), .val (.ref ea), .val (.int (Int32.ofNat (own_m k t))), .val (.int (own_b k t)), .val (.int (1 : Int32)), .val (.int (Int32.ofNat r)), .val (.int ((own_e k t).getD r 0))] [(.int ((own_e k t).getD r 0)), (.ref b1)])) _
      refine stn30.trans ?_
      show Steps p.tables e below (Tn30.setTop (mkF m 396 #[.val (.int p1), .val (.int p2), .val (.int p3), .val (.ref b1), .val (.int (1 : Int32)), .val (.int (2 : Int32)), .val (.int (3 : Int32)), .val (.int (Int32.ofNat k)), .val (.int (Int32.ofNat t)), .val (.int (own_x t)), .val (.ref b9), .val (.int (if t < k then (1 : Int32) else 0)), .val (.ref ea), .val (.int (Int32.ofNat (own_m k t))), .val (.int (own_b k t)), .val (.int (1 : Int32)), .val (.int (Int32.ofNat r)), .val (.int ((own_e k t).getD r 0))] [])) _
      refine XS.iload Xn30.here hx rfl (hb hby at_396) rfl ?_
      show Steps p.tables e below (Tn30.setTop (mkF m 398 #[.val (.int p1), .val (.int p2), .val (.int p3), .val (.ref b1), .val (.int (1 : Int32)), .val (.int (2 : Int32)), .val (.int (3 : Int32)), .val (.int (Int32.ofNat k)), .val (.int (Int32.ofNat t)), .val (.int (own_x t)), .val (.ref b9), .val (.int (if t < k then (1 : Int32) else 0)), .val (.ref ea), .val (.int (Int32.ofNat (own_m k t))), .val (.int (own_b k t)), .val (.int (1 : Int32)), .val (.int (Int32.ofNat r)), .val (.int ((own_e k t).getD r 0))] [(.int (1 : Int32))])) _
      refine XS.ifNo Xn30.here hx rfl (hb hby at_398) rfl ((if0 _ _).trans (feq (by decide)).1) ?_
      show Steps p.tables e below (Tn30.setTop (mkF m 401 #[.val (.int p1), .val (.int p2), .val (.int p3), .val (.ref b1), .val (.int (1 : Int32)), .val (.int (2 : Int32)), .val (.int (3 : Int32)), .val (.int (Int32.ofNat k)), .val (.int (Int32.ofNat t)), .val (.int (own_x t)), .val (.ref b9), .val (.int (if t < k then (1 : Int32) else 0)), .val (.ref ea), .val (.int (Int32.ofNat (own_m k t))), .val (.int (own_b k t)), .val (.int (1 : Int32)), .val (.int (Int32.ofNat r)), .val (.int ((own_e k t).getD r 0))] [])) _
      refine XS.aloadN Xn30.here hx rfl (hb hby at_401) rfl rfl ?_
      show Steps p.tables e below (Tn30.setTop (mkF m 402 #[.val (.int p1), .val (.int p2), .val (.int p3), .val (.ref b1), .val (.int (1 : Int32)), .val (.int (2 : Int32)), .val (.int (3 : Int32)), .val (.int (Int32.ofNat k)), .val (.int (Int32.ofNat t)), .val (.int (own_x t)), .val (.ref b9), .val (.int (if t < k then (1 : Int32) else 0)), .val (.ref ea), .val (.int (Int32.ofNat (own_m k t))), .val (.int (own_b k t)), .val (.int (1 : Int32)), .val (.int (Int32.ofNat r)), .val (.int ((own_e k t).getD r 0))] [(.ref b1)])) _
      refine XS.iload Xn30.here hx rfl (hb hby at_402) rfl ?_
      show Steps p.tables e below (Tn30.setTop (mkF m 404 #[.val (.int p1), .val (.int p2), .val (.int p3), .val (.ref b1), .val (.int (1 : Int32)), .val (.int (2 : Int32)), .val (.int (3 : Int32)), .val (.int (Int32.ofNat k)), .val (.int (Int32.ofNat t)), .val (.int (own_x t)), .val (.ref b9), .val (.int (if t < k then (1 : Int32) else 0)), .val (.ref ea), .val (.int (Int32.ofNat (own_m k t))), .val (.int (own_b k t)), .val (.int (1 : Int32)), .val (.int (Int32.ofNat r)), .val (.int ((own_e k t).getD r 0))] [(.int ((own_e k t).getD r 0)), (.ref b1)])) _
      refine stn31.trans ?_
      show Steps p.tables e below (Tn31.setTop (mkF m 407 #[.val (.int p1), .val (.int p2), .val (.int p3), .val (.ref b1), .val (.int (1 : Int32)), .val (.int (2 : Int32)), .val (.int (3 : Int32)), .val (.int (Int32.ofNat k)), .val (.int (Int32.ofNat t)), .val (.int (own_x t)), .val (.ref b9), .val (.int (if t < k then (1 : Int32) else 0)), .val (.ref ea), .val (.int (Int32.ofNat (own_m k t))), .val (.int (own_b k t)), .val (.int (1 : Int32)), .val (.int (Int32.ofNat r)), .val (.int ((own_e k t).getD r 0))] [(.int (own_gt (own_det (own_t2 k t) ((own_e k t).getD r 0)) 0 ((own_e k t).getD r 0)))])) _
      refine XS.iconst Xn31.here hx rfl (hb hby at_407) ?_
      show Steps p.tables e below (Tn31.setTop (mkF m 408 #[.val (.int p1), .val (.int p2), .val (.int p3), .val (.ref b1), .val (.int (1 : Int32)), .val (.int (2 : Int32)), .val (.int (3 : Int32)), .val (.int (Int32.ofNat k)), .val (.int (Int32.ofNat t)), .val (.int (own_x t)), .val (.ref b9), .val (.int (if t < k then (1 : Int32) else 0)), .val (.ref ea), .val (.int (Int32.ofNat (own_m k t))), .val (.int (own_b k t)), .val (.int (1 : Int32)), .val (.int (Int32.ofNat r)), .val (.int ((own_e k t).getD r 0))] [(.int (-1 : Int32)), (.int (own_gt (own_det (own_t2 k t) ((own_e k t).getD r 0)) 0 ((own_e k t).getD r 0)))])) _
      refine XS.icmpNo Xn31.here hx rfl (hb hby at_408) rfl (teq hy0).2 ?_
      show Steps p.tables e below (Tn31.setTop (mkF m 411 #[.val (.int p1), .val (.int p2), .val (.int p3), .val (.ref b1), .val (.int (1 : Int32)), .val (.int (2 : Int32)), .val (.int (3 : Int32)), .val (.int (Int32.ofNat k)), .val (.int (Int32.ofNat t)), .val (.int (own_x t)), .val (.ref b9), .val (.int (if t < k then (1 : Int32) else 0)), .val (.ref ea), .val (.int (Int32.ofNat (own_m k t))), .val (.int (own_b k t)), .val (.int (1 : Int32)), .val (.int (Int32.ofNat r)), .val (.int ((own_e k t).getD r 0))] [])) _
      refine XS.aloadN Xn31.here hx rfl (hb hby at_411) rfl rfl ?_
      show Steps p.tables e below (Tn31.setTop (mkF m 412 #[.val (.int p1), .val (.int p2), .val (.int p3), .val (.ref b1), .val (.int (1 : Int32)), .val (.int (2 : Int32)), .val (.int (3 : Int32)), .val (.int (Int32.ofNat k)), .val (.int (Int32.ofNat t)), .val (.int (own_x t)), .val (.ref b9), .val (.int (if t < k then (1 : Int32) else 0)), .val (.ref ea), .val (.int (Int32.ofNat (own_m k t))), .val (.int (own_b k t)), .val (.int (1 : Int32)), .val (.int (Int32.ofNat r)), .val (.int ((own_e k t).getD r 0))] [(.ref b1)])) _
      refine XS.iload Xn31.here hx rfl (hb hby at_412) rfl ?_
      show Steps p.tables e below (Tn31.setTop (mkF m 414 #[.val (.int p1), .val (.int p2), .val (.int p3), .val (.ref b1), .val (.int (1 : Int32)), .val (.int (2 : Int32)), .val (.int (3 : Int32)), .val (.int (Int32.ofNat k)), .val (.int (Int32.ofNat t)), .val (.int (own_x t)), .val (.ref b9), .val (.int (if t < k then (1 : Int32) else 0)), .val (.ref ea), .val (.int (Int32.ofNat (own_m k t))), .val (.int (own_b k t)), .val (.int (1 : Int32)), .val (.int (Int32.ofNat r)), .val (.int ((own_e k t).getD r 0))] [(.int ((own_e k t).getD r 0)), (.ref b1)])) _
      refine stn32.trans ?_
      show Steps p.tables e below (Tn32.setTop (mkF m 417 #[.val (.int p1), .val (.int p2), .val (.int p3), .val (.ref b1), .val (.int (1 : Int32)), .val (.int (2 : Int32)), .val (.int (3 : Int32)), .val (.int (Int32.ofNat k)), .val (.int (Int32.ofNat t)), .val (.int (own_x t)), .val (.ref b9), .val (.int (if t < k then (1 : Int32) else 0)), .val (.ref ea), .val (.int (Int32.ofNat (own_m k t))), .val (.int (own_b k t)), .val (.int (1 : Int32)), .val (.int (Int32.ofNat r)), .val (.int ((own_e k t).getD r 0))] [(.int (own_gt (own_det (own_t2 k t) ((own_e k t).getD r 0)) 3 ((own_e k t).getD r 0)))])) _
      refine XS.iconst Xn32.here hx rfl (hb hby at_417) ?_
      show Steps p.tables e below (Tn32.setTop (mkF m 418 #[.val (.int p1), .val (.int p2), .val (.int p3), .val (.ref b1), .val (.int (1 : Int32)), .val (.int (2 : Int32)), .val (.int (3 : Int32)), .val (.int (Int32.ofNat k)), .val (.int (Int32.ofNat t)), .val (.int (own_x t)), .val (.ref b9), .val (.int (if t < k then (1 : Int32) else 0)), .val (.ref ea), .val (.int (Int32.ofNat (own_m k t))), .val (.int (own_b k t)), .val (.int (1 : Int32)), .val (.int (Int32.ofNat r)), .val (.int ((own_e k t).getD r 0))] [(.int (-1 : Int32)), (.int (own_gt (own_det (own_t2 k t) ((own_e k t).getD r 0)) 3 ((own_e k t).getD r 0)))])) _
      refine XS.icmpNo Xn32.here hx rfl (hb hby at_418) rfl (teq hy3).2 ?_
      show Steps p.tables e below (Tn32.setTop (mkF m 421 #[.val (.int p1), .val (.int p2), .val (.int p3), .val (.ref b1), .val (.int (1 : Int32)), .val (.int (2 : Int32)), .val (.int (3 : Int32)), .val (.int (Int32.ofNat k)), .val (.int (Int32.ofNat t)), .val (.int (own_x t)), .val (.ref b9), .val (.int (if t < k then (1 : Int32) else 0)), .val (.ref ea), .val (.int (Int32.ofNat (own_m k t))), .val (.int (own_b k t)), .val (.int (1 : Int32)), .val (.int (Int32.ofNat r)), .val (.int ((own_e k t).getD r 0))] [])) _
      refine XS.aloadN Xn32.here hx rfl (hb hby at_421) rfl rfl ?_
      show Steps p.tables e below (Tn32.setTop (mkF m 422 #[.val (.int p1), .val (.int p2), .val (.int p3), .val (.ref b1), .val (.int (1 : Int32)), .val (.int (2 : Int32)), .val (.int (3 : Int32)), .val (.int (Int32.ofNat k)), .val (.int (Int32.ofNat t)), .val (.int (own_x t)), .val (.ref b9), .val (.int (if t < k then (1 : Int32) else 0)), .val (.ref ea), .val (.int (Int32.ofNat (own_m k t))), .val (.int (own_b k t)), .val (.int (1 : Int32)), .val (.int (Int32.ofNat r)), .val (.int ((own_e k t).getD r 0))] [(.ref b1)])) _
      refine XS.aload Xn32.here hx rfl (hb hby at_422) rfl rfl ?_
      show Steps p.tables e below (Tn32.setTop (mkF m 424 #[.val (.int p1), .val (.int p2), .val (.int p3), .val (.ref b1), .val (.int (1 : Int32)), .val (.int (2 : Int32)), .val (.int (3 : Int32)), .val (.int (Int32.ofNat k)), .val (.int (Int32.ofNat t)), .val (.int (own_x t)), .val (.ref b9), .val (.int (if t < k then (1 : Int32) else 0)), .val (.ref ea), .val (.int (Int32.ofNat (own_m k t))), .val (.int (own_b k t)), .val (.int (1 : Int32)), .val (.int (Int32.ofNat r)), .val (.int ((own_e k t).getD r 0))] [(.ref ea), (.ref b1)])) _
      refine XS.iload Xn32.here hx rfl (hb hby at_424) rfl ?_
      show Steps p.tables e below (Tn32.setTop (mkF m 426 #[.val (.int p1), .val (.int p2), .val (.int p3), .val (.ref b1), .val (.int (1 : Int32)), .val (.int (2 : Int32)), .val (.int (3 : Int32)), .val (.int (Int32.ofNat k)), .val (.int (Int32.ofNat t)), .val (.int (own_x t)), .val (.ref b9), .val (.int (if t < k then (1 : Int32) else 0)), .val (.ref ea), .val (.int (Int32.ofNat (own_m k t))), .val (.int (own_b k t)), .val (.int (1 : Int32)), .val (.int (Int32.ofNat r)), .val (.int ((own_e k t).getD r 0))] [(.int (Int32.ofNat r)), (.ref ea), (.ref b1)])) _
      refine stn33 _ ?_
      show Steps p.tables e below (Tn33.setTop (mkF m 429 #[.val (.int p1), .val (.int p2), .val (.int p3), .val (.ref b1), .val (.int (1 : Int32)), .val (.int (2 : Int32)), .val (.int (3 : Int32)), .val (.int (Int32.ofNat k)), .val (.int (Int32.ofNat t)), .val (.int (own_x t)), .val (.ref b9), .val (.int (if t < k then (1 : Int32) else 0)), .val (.ref ea), .val (.int (Int32.ofNat (own_m k t))), .val (.int (own_b k t)), .val (.int (1 : Int32)), .val (.int (Int32.ofNat r)), .val (.int ((own_e k t).getD r 0))] [(.ref an33), (.ref b1)])) _
      refine XS.iload Xn33.here hx rfl (hb hby at_429) rfl ?_
      show Steps p.tables e below (Tn33.setTop (mkF m 431 #[.val (.int p1), .val (.int p2), .val (.int p3), .val (.ref b1), .val (.int (1 : Int32)), .val (.int (2 : Int32)), .val (.int (3 : Int32)), .val (.int (Int32.ofNat k)), .val (.int (Int32.ofNat t)), .val (.int (own_x t)), .val (.ref b9), .val (.int (if t < k then (1 : Int32) else 0)), .val (.ref ea), .val (.int (Int32.ofNat (own_m k t))), .val (.int (own_b k t)), .val (.int (1 : Int32)), .val (.int (Int32.ofNat r)), .val (.int ((own_e k t).getD r 0))] [(.int (Int32.ofNat (own_m k t))), (.ref an33), (.ref b1)])) _
      refine XS.iconst Xn33.here hx rfl (hb hby at_431) ?_
      show Steps p.tables e below (Tn33.setTop (mkF m 432 #[.val (.int p1), .val (.int p2), .val (.int p3), .val (.ref b1), .val (.int (1 : Int32)), .val (.int (2 : Int32)), .val (.int (3 : Int32)), .val (.int (Int32.ofNat k)), .val (.int (Int32.ofNat t)), .val (.int (own_x t)), .val (.ref b9), .val (.int (if t < k then (1 : Int32) else 0)), .val (.ref ea), .val (.int (Int32.ofNat (own_m k t))), .val (.int (own_b k t)), .val (.int (1 : Int32)), .val (.int (Int32.ofNat r)), .val (.int ((own_e k t).getD r 0))] [(.int (1 : Int32)), (.int (Int32.ofNat (own_m k t))), (.ref an33), (.ref b1)])) _
      refine XS.isub Xn33.here hx rfl (hb hby at_432) rfl ?_
      show Steps p.tables e below (Tn33.setTop (mkF m 433 #[.val (.int p1), .val (.int p2), .val (.int p3), .val (.ref b1), .val (.int (1 : Int32)), .val (.int (2 : Int32)), .val (.int (3 : Int32)), .val (.int (Int32.ofNat k)), .val (.int (Int32.ofNat t)), .val (.int (own_x t)), .val (.ref b9), .val (.int (if t < k then (1 : Int32) else 0)), .val (.ref ea), .val (.int (Int32.ofNat (own_m k t))), .val (.int (own_b k t)), .val (.int (1 : Int32)), .val (.int (Int32.ofNat r)), .val (.int ((own_e k t).getD r 0))] [(.int ((Int32.ofNat (own_m k t)) - (1 : Int32))), (.ref an33), (.ref b1)])) _
      rw [own_sub1 cm hm3]
      show Steps p.tables e below (Tn33.setTop (mkF m 433 #[.val (.int p1), .val (.int p2), .val (.int p3), .val (.ref b1), .val (.int (1 : Int32)), .val (.int (2 : Int32)), .val (.int (3 : Int32)), .val (.int (Int32.ofNat k)), .val (.int (Int32.ofNat t)), .val (.int (own_x t)), .val (.ref b9), .val (.int (if t < k then (1 : Int32) else 0)), .val (.ref ea), .val (.int (Int32.ofNat (own_m k t))), .val (.int (own_b k t)), .val (.int (1 : Int32)), .val (.int (Int32.ofNat r)), .val (.int ((own_e k t).getD r 0))] [(.int (Int32.ofNat (own_m k t - 1))), (.ref an33), (.ref b1)])) _
      refine stn34 _ ?_
      show Steps p.tables e below (Tn34.setTop (mkF m 436 #[.val (.int p1), .val (.int p2), .val (.int p3), .val (.ref b1), .val (.int (1 : Int32)), .val (.int (2 : Int32)), .val (.int (3 : Int32)), .val (.int (Int32.ofNat k)), .val (.int (Int32.ofNat t)), .val (.int (own_x t)), .val (.ref b9), .val (.int (if t < k then (1 : Int32) else 0)), .val (.ref ea), .val (.int (Int32.ofNat (own_m k t))), .val (.int (own_b k t)), .val (.int (1 : Int32)), .val (.int (Int32.ofNat r)), .val (.int ((own_e k t).getD r 0))] [(.int (1 : Int32))])) _
      refine XS.ifNo Xn34.here hx rfl (hb hby at_436) rfl ((if0 _ _).trans (feq (by decide)).1) ?_
      show Steps p.tables e below (Tn34.setTop (mkF m 439 #[.val (.int p1), .val (.int p2), .val (.int p3), .val (.ref b1), .val (.int (1 : Int32)), .val (.int (2 : Int32)), .val (.int (3 : Int32)), .val (.int (Int32.ofNat k)), .val (.int (Int32.ofNat t)), .val (.int (own_x t)), .val (.ref b9), .val (.int (if t < k then (1 : Int32) else 0)), .val (.ref ea), .val (.int (Int32.ofNat (own_m k t))), .val (.int (own_b k t)), .val (.int (1 : Int32)), .val (.int (Int32.ofNat r)), .val (.int ((own_e k t).getD r 0))] [])) _
      refine XS.iconst Xn34.here hx rfl (hb hby at_439) ?_
      show Steps p.tables e below (Tn34.setTop (mkF m 440 #[.val (.int p1), .val (.int p2), .val (.int p3), .val (.ref b1), .val (.int (1 : Int32)), .val (.int (2 : Int32)), .val (.int (3 : Int32)), .val (.int (Int32.ofNat k)), .val (.int (Int32.ofNat t)), .val (.int (own_x t)), .val (.ref b9), .val (.int (if t < k then (1 : Int32) else 0)), .val (.ref ea), .val (.int (Int32.ofNat (own_m k t))), .val (.int (own_b k t)), .val (.int (1 : Int32)), .val (.int (Int32.ofNat r)), .val (.int ((own_e k t).getD r 0))] [(.int (1 : Int32))])) _
      refine XS.goto Xn34.here hx rfl (pc0 := 440) (pc' := 444) rfl (hb hby at_440) (by decide) (by decide) ?_
      show Steps p.tables e below (Tn34.setTop (mkF m 444 #[.val (.int p1), .val (.int p2), .val (.int p3), .val (.ref b1), .val (.int (1 : Int32)), .val (.int (2 : Int32)), .val (.int (3 : Int32)), .val (.int (Int32.ofNat k)), .val (.int (Int32.ofNat t)), .val (.int (own_x t)), .val (.ref b9), .val (.int (if t < k then (1 : Int32) else 0)), .val (.ref ea), .val (.int (Int32.ofNat (own_m k t))), .val (.int (own_b k t)), .val (.int (1 : Int32)), .val (.int (Int32.ofNat r)), .val (.int ((own_e k t).getD r 0))] [(.int (1 : Int32))])) _
      refine XS.istore Xn34.here hx rfl (hb hby at_444) rfl (l' := #[.val (.int p1), .val (.int p2), .val (.int p3), .val (.ref b1), .val (.int (1 : Int32)), .val (.int (2 : Int32)), .val (.int (3 : Int32)), .val (.int (Int32.ofNat k)), .val (.int (Int32.ofNat t)), .val (.int (own_x t)), .val (.ref b9), .val (.int (if t < k then (1 : Int32) else 0)), .val (.ref ea), .val (.int (Int32.ofNat (own_m k t))), .val (.int (own_b k t)), .val (.int (1 : Int32)), .val (.int (Int32.ofNat r)), .val (.int ((own_e k t).getD r 0))]) rfl ?_
      show Steps p.tables e below (Tn34.setTop (mkF m 446 #[.val (.int p1), .val (.int p2), .val (.int p3), .val (.ref b1), .val (.int (1 : Int32)), .val (.int (2 : Int32)), .val (.int (3 : Int32)), .val (.int (Int32.ofNat k)), .val (.int (Int32.ofNat t)), .val (.int (own_x t)), .val (.ref b9), .val (.int (if t < k then (1 : Int32) else 0)), .val (.ref ea), .val (.int (Int32.ofNat (own_m k t))), .val (.int (own_b k t)), .val (.int (1 : Int32)), .val (.int (Int32.ofNat r)), .val (.int ((own_e k t).getD r 0))] [])) _
      refine XS.iload Xn34.here hx rfl (hb hby at_446) rfl ?_
      exact kt
    obtain ⟨fs, hr, hrun, hended, hW, hsame⟩ := Xn34.leave (v := some (.int (1 : Int32))) (fun h => by rw [Bd.returns] at h; cases h)
    refine ⟨_, _, pren35 _ ?_, hrun, hended, _, _, rfl, ?_, ⟨_, rfl⟩, hW, hsame.mono (by decide) (by decide)⟩
    · exact retN Xn34 hx (t := .boolean) Bd.returns (by simp) (hb hby at_448) hr
    · show Q0 Z p1 p2 p3 h0 n0 _ Tn34.heap _
      rw [hn34]
      exact ⟨rfl, Nxn34⟩
set_option maxRecDepth 65536 in
set_option maxHeartbeats 40000000 in
theorem comes_1 {Post : Tables → Env → Array Value → State → Outcome → State → Prop} (hpost : ∀ tb e args s v u, (limb_1_1.after args s (.returned v) u = true ∧ limb_1_2.after args s (.returned v) u = true ∧ True) → FrameEnd s (.returned v) u (Jvm.fieldLocs frame_1_writes args s ++ Jvm.arrayLocs frame_1_arrays args s ++ Jvm.staticLocs frame_1_statics s) 40 1408 → Post tb e args s (.returned v) u) :
    ArmFor flags0 classFile x code maxLocals ret World_1 tables_1 room_1 Calls_1 rest_1 Pre_1 Post := by
  intro l hfl _ _ p e ha hc hk s m args below hf hA hF happ hP
  obtain ⟨hcalls, hrest, hpre⟩ := hP
  obtain ⟨-, -, -, hnamed, -, -, -, hat⟩ := (Spec.applies_iff hf).mp happ
  obtain ⟨hg, hn⟩ := and_e (Cond.before_iff.mp (show (Jvm.Cond.and given_1 narrow_1).before args s = true from hpre))
  obtain ⟨gc, r0⟩ := and_e hg
  obtain ⟨g0, r1⟩ := and_e r0
  obtain ⟨g1, r2⟩ := and_e r1
  obtain ⟨w0, w1, w2, rfl⟩ : ∃ w0 w1 w2 : Value, args = #[w0, w1, w2] := by
    have hs : args.size = 3 := by simpa [Cond.value, given_1] using gc
    obtain ⟨L⟩ := args
    match L, hs with
    | [w0, w1, w2], _ => exact ⟨w0, w1, w2, rfl⟩
  have hw := fun d (hd : d ∈ tables_1) => atoms_spec (ws := Jvm.Cond.code x code maxLocals ret :: tables_1) hat d (List.mem_cons_of_mem _ hd)
  obtain ⟨i0, ei0⟩ := is_v g0
  obtain rfl : w0 = (.int i0) := Option.some.inj ei0
  obtain ⟨i1, ei1⟩ := is_v g1
  obtain rfl : w1 = (.int i1) := Option.some.inj ei1
  obtain ⟨i2, ei2⟩ := is_v r2
  obtain rfl : w2 = (.int i2) := Option.some.inj ei2
  obtain ⟨n, o, h1, h2, h3, _, L, rfl, ⟨rfl, N⟩, hq⟩ := rm0 l s _ hw tables_1 i0 i1 i2 s.heap s.heap.size (Nat.le_refl _) p e ha hc hk s m _ below hf ((Spec.applies_iff_loose hf).mp happ).1 ⟨rfl, State.Warmed39.refl s, rfl⟩ trivial
  refine ⟨n, _, h1, h2, h3, hpost _ _ _ _ _ _ ⟨Cond.after_iff.mpr rfl, Cond.after_iff.mpr (eq_i res_at (Term.int_eval (1)) rfl), trivial⟩ ⟨hq.1, hq.2.1, (hq.2.2.sift fun y hy => Or.inr (N y hy)).mono (by decide) (by decide)⟩⟩
theorem main_1_1 : Claimed_1_1 := comes_1 fun _ _ _ _ _ _ h hF => ⟨h.1, hF⟩
theorem main_1_2 : Claimed_1_2 := comes_1 fun _ _ _ _ _ _ h hF => ⟨h.2.1, hF⟩
end Jvm.Pilot.@@N@@
namespace Jvm.Pilot.@@N@@
open Jvm Jvm.ClassFile Sem Op Lib Jvm.Free Jvm.Stand Jvm.Pilot.@@N@@.Jvm.D
/-! MADE BY PROGRAM (witnessworld.py) out of the Statement's table words and the real class files: 14 classes; the members and pool entries that the words name. The judged class is class 1, her method 1. -/
namespace start1
open Jvm.ClassFile
def u (s : String) : CpInfo := .utf8 (stringToUtf16 s)
/-- a pool by its gaps: so many unusable entries, then the entry; so many at the end -/
def gap : Nat → List CpInfo → List CpInfo
  | 0, r => r
  | n + 1, r => .unusable :: gap n r
def poolList (es : List (Nat × CpInfo)) (last : Nat) : List CpInfo := es.foldr (fun e r => gap e.1 (e.2 :: r)) (gap last [])
def pool (es : List (Nat × CpInfo)) (last : Nat) : Array CpInfo := ⟨poolList es last⟩
def fileOf (pool : Array CpInfo) (this : Nat) (attrs : Array Attribute := #[]) (ms : Array MethodInfo := #[]) (fl : Nat := 33) (sup : Nat := 0) (ifs : Array Nat := #[]) (fds : Array FieldInfo := #[]) : ClassFile where
  minorVersion := 0
  majorVersion := 65
  constantPool := pool
  accessFlags := fl
  thisClass := this
  superClass := sup
  interfaces := ifs
  fields := fds
  methods := ms
  attributes := attrs
def plain (name : String) (sup : Option ClassId) : Class where
  name := name
  kind := .ordinary
  loader := none
  accessFlags := 33
  super := sup
  interfaces := #[]
  cf := none
  fields := #[]
  methods := #[]
  instanceTypes := #[]
  staticTypes := #[]
  resolved := #[]
  callSites := []
  init := .initialized
  statics := none
  mirror := none

def pool0 : Array CpInfo := pool [(5, u "<init>"), (0, u "()V"), (1, .class_ 10), (1, u "java/lang/Object")] 113

def k0c0 : Code := { maxStack := 0, maxLocals := 1, code := object_method_1_code, exceptionTable := #[], attributes := #[] }
def k0m0 : Method := { name := "<init>", desc := "()V", sig := { parameters := [], returnType := none }, accessFlags := 1, code := some k0c0 }
/-- java/lang/Object -/
def k0 : Class := { plain "java/lang/Object" none with
  accessFlags := 33
  interfaces := #[]
  cf := some (fileOf pool0 8 #[] #[{ accessFlags := 1, nameIndex := 5, descriptorIndex := 6, attributes := #[] }] 33 0 #[] #[])
  fields := #[]
  methods := #[k0m0]
  instanceTypes := #[]
  staticTypes := #[]
  resolved := Array.replicate 124 none
  statics := none }

def pool1 : Array CpInfo := pool [(2, .class_ 4), (1, u "java/lang/Object"), (0, u "<init>"), (0, u "()V"), (0, .class_ 8), (0, u "com/example/pith/pith/html/PageTree"), (0, .methodref 7 10), (0, .nameAndType 5 11), (0, u "([CIZ)V"), (0, .methodref 7 13), (0, .nameAndType 14 15), (0, u "createElement"), (0, u "(II)I"), (0, .integer 2147483647), (0, .methodref 7 18), (0, .nameAndType 19 20), (0, u "append"), (0, u "(II)V"), (0, .methodref 22 23), (0, .class_ 24), (0, .nameAndType 25 26), (0, u "com/example/pith/pith/html/PageTreeDetachPinLaw"), (0, u "removeAt"), (0, u "([II)[I"), (0, .methodref 7 28), (0, .nameAndType 29 30), (0, u "detach"), (0, u "(I)V"), (0, .methodref 7 32), (0, .nameAndType 33 34), (0, u "parent"), (0, u "(I)I"), (0, .methodref 7 36), (0, .nameAndType 37 34), (0, u "next"), (0, .methodref 22 39), (0, .nameAndType 40 41), (0, u "chainOk"), (0, u "(Lcom/example/pith/pith/html/PageTree;[II)Z"), (0, .methodref 7 43), (0, .nameAndType 44 34), (0, u "firstChild"), (0, .methodref 7 46), (0, .nameAndType 47 34), (0, u "lastChild"), (2, u "law"), (0, u "(III)Z")] 5

def k1m0 : Method := { name := "<init>", desc := "()V", sig := { parameters := [], returnType := none }, accessFlags := 1, code := none }
def k1c1 : Code := { maxStack := 5, maxLocals := 18, code := code, exceptionTable := #[], attributes := #[] }
def k1m1 : Method := { name := "law", desc := "(III)Z", sig := { parameters := [.int, .int, .int], returnType := some .boolean }, accessFlags := 9, code := some k1c1 }
def k1c2 : Code := { maxStack := 5, maxLocals := 2, code := method_3_code, exceptionTable := #[], attributes := #[] }
def k1m2 : Method := { name := "removeAt", desc := "([II)[I", sig := { parameters := [(.array .int), .int], returnType := some (.array .int) }, accessFlags := 10, code := some k1c2 }
def k1c3 : Code := { maxStack := 3, maxLocals := 5, code := method_4_code, exceptionTable := #[], attributes := #[] }
def k1m3 : Method := { name := "chainOk", desc := "(Lcom/example/pith/pith/html/PageTree;[II)Z", sig := { parameters := [(.object "com/example/pith/pith/html/PageTree"), (.array .int), .int], returnType := some .boolean }, accessFlags := 10, code := some k1c3 }
/-- com/example/pith/pith/html/PageTreeDetachPinLaw -/
def k1 : Class := { plain "com/example/pith/pith/html/PageTreeDetachPinLaw" (some 0) with
  accessFlags := 49
  interfaces := #[]
  cf := some (fileOf pool1 22 #[] #[{ accessFlags := 1, nameIndex := 5, descriptorIndex := 6, attributes := #[] }, { accessFlags := 9, nameIndex := 50, descriptorIndex := 51, attributes := #[] }, { accessFlags := 10, nameIndex := 25, descriptorIndex := 26, attributes := #[] }, { accessFlags := 10, nameIndex := 40, descriptorIndex := 41, attributes := #[] }] 49 2 #[] #[])
  fields := #[]
  methods := #[k1m0, k1m1, k1m2, k1m3]
  instanceTypes := #[]
  staticTypes := #[]
  resolved := Array.replicate 57 none
  statics := none }

def pool2 : Array CpInfo := pool [(1, .methodref 2 3), (0, .class_ 4), (0, .nameAndType 5 6), (0, u "java/lang/Object"), (0, u "<init>"), (0, u "()V"), (0, .fieldref 8 9), (0, .class_ 10), (0, .nameAndType 11 12), (0, u "com/example/pith/pith/html/PageTree"), (0, u "page"), (0, u "[C"), (0, .fieldref 8 14), (0, .nameAndType 15 16), (0, u "scripting"), (0, u "Z"), (0, .methodref 18 19), (0, .class_ 20), (0, .nameAndType 21 22), (0, u "java/lang/Math"), (0, u "max"), (0, u "(II)I"), (0, .fieldref 8 24), (0, .nameAndType 25 26), (0, u "name"), (0, u "[I"), (0, .fieldref 8 28), (0, .nameAndType 29 26), (0, u "parent"), (0, .fieldref 8 31), (0, .nameAndType 32 26), (0, u "firstChild"), (0, .fieldref 8 34), (0, .nameAndType 35 26), (0, u "lastChild"), (0, .fieldref 8 37), (0, .nameAndType 38 26), (0, u "next"), (0, .fieldref 8 40), (0, .nameAndType 41 26), (0, u "previous"), (0, .fieldref 8 43), (0, .nameAndType 44 26), (0, u "textStart"), (0, .fieldref 8 46), (0, .nameAndType 47 26), (0, u "textEnd"), (0, .fieldref 8 49), (0, .nameAndType 50 51), (0, u "flags"), (0, u "[S"), (0, .fieldref 8 53), (0, .nameAndType 54 12), (0, u "text"), (0, .methodref 8 56), (0, .nameAndType 57 22), (0, u "newNode"), (14, u "append"), (0, u "(II)V"), (6, u "textLength"), (0, u "I"), (24, .methodref 8 107), (0, .nameAndType 108 109), (0, u "detach"), (0, u "(I)V"), (6, u "differsWithoutScripts"), (2, u "boilerplateNames"), (0, u "Lcom/example/pith/pith/html/BoilerplateNames;"), (11, u "classValues"), (0, u "Lcom/example/pith/pith/text/Numbering;"), (5, u "classNames"), (13, u "classNamesSeen"), (6, .fieldref 8 161), (0, .nameAndType 162 81), (0, u "size"), (21, u "(I)I"), (8, u "DOCUMENT"), (2, u "TEXT"), (1, u "HTML"), (0, u "SVG"), (1, u "MATHML"), (1, u "NAMESPACE"), (1, u "OPEN"), (1, u "HIDDEN_BY_PAGE"), (1, u "HTML_INTEGRATION"), (1, u "NAMED_BOILERPLATE"), (1, u "NAMED_BESIDE_ARTICLE"), (1, u "LINK_WITHIN_PAGE"), (1, u "NAMED_ANCHOR"), (1, u "LINK_NOWHERE"), (1, u "IN_BUFFER"), (1, u "CLASS_NAMES_READ"), (1, u "DOCUMENT_NAME"), (1, u "NONE"), (0, u "NODE_SPACING"), (0, u "([CIZ)V"), (2, u "createElement")] 25

def k2c0 : Code := { maxStack := 3, maxLocals := 5, code := prog_134_method_1_code, exceptionTable := #[], attributes := #[] }
def k2m0 : Method := { name := "<init>", desc := "([CIZ)V", sig := { parameters := [(.array .char), .int, .boolean], returnType := none }, accessFlags := 0, code := some k2c0 }
def k2c1 : Code := { maxStack := 3, maxLocals := 3, code := prog_134_method_2_code, exceptionTable := #[], attributes := #[] }
def k2m1 : Method := { name := "createElement", desc := "(II)I", sig := { parameters := [.int, .int], returnType := some .int }, accessFlags := 0, code := some k2c1 }
def k2c2 : Code := { maxStack := 3, maxLocals := 4, code := prog_134_method_7_code, exceptionTable := #[], attributes := #[] }
def k2m2 : Method := { name := "append", desc := "(II)V", sig := { parameters := [.int, .int], returnType := none }, accessFlags := 0, code := some k2c2 }
def k2c3 : Code := { maxStack := 3, maxLocals := 5, code := prog_134_method_11_code, exceptionTable := #[], attributes := #[] }
def k2m3 : Method := { name := "detach", desc := "(I)V", sig := { parameters := [.int], returnType := none }, accessFlags := 0, code := some k2c3 }
def k2c4 : Code := { maxStack := 2, maxLocals := 2, code := prog_134_method_18_code, exceptionTable := #[], attributes := #[] }
def k2m4 : Method := { name := "parent", desc := "(I)I", sig := { parameters := [.int], returnType := some .int }, accessFlags := 1, code := some k2c4 }
def k2c5 : Code := { maxStack := 2, maxLocals := 2, code := prog_134_method_19_code, exceptionTable := #[], attributes := #[] }
def k2m5 : Method := { name := "firstChild", desc := "(I)I", sig := { parameters := [.int], returnType := some .int }, accessFlags := 0, code := some k2c5 }
def k2c6 : Code := { maxStack := 2, maxLocals := 2, code := prog_134_method_20_code, exceptionTable := #[], attributes := #[] }
def k2m6 : Method := { name := "lastChild", desc := "(I)I", sig := { parameters := [.int], returnType := some .int }, accessFlags := 0, code := some k2c6 }
def k2c7 : Code := { maxStack := 2, maxLocals := 2, code := prog_134_method_21_code, exceptionTable := #[], attributes := #[] }
def k2m7 : Method := { name := "next", desc := "(I)I", sig := { parameters := [.int], returnType := some .int }, accessFlags := 0, code := some k2c7 }
def k2c8 : Code := { maxStack := 4, maxLocals := 4, code := prog_134_method_39_code, exceptionTable := #[], attributes := #[] }
def k2m8 : Method := { name := "newNode", desc := "(II)I", sig := { parameters := [.int, .int], returnType := some .int }, accessFlags := 2, code := some k2c8 }
/-- com/example/pith/pith/html/PageTree -/
def k2 : Class := { plain "com/example/pith/pith/html/PageTree" (some 0) with
  accessFlags := 49
  interfaces := #[]
  cf := some (fileOf pool2 8 #[] #[{ accessFlags := 0, nameIndex := 5, descriptorIndex := 229, attributes := #[] }, { accessFlags := 0, nameIndex := 232, descriptorIndex := 22, attributes := #[] }, { accessFlags := 0, nameIndex := 72, descriptorIndex := 73, attributes := #[] }, { accessFlags := 0, nameIndex := 108, descriptorIndex := 109, attributes := #[] }, { accessFlags := 1, nameIndex := 29, descriptorIndex := 184, attributes := #[] }, { accessFlags := 0, nameIndex := 32, descriptorIndex := 184, attributes := #[] }, { accessFlags := 0, nameIndex := 35, descriptorIndex := 184, attributes := #[] }, { accessFlags := 0, nameIndex := 38, descriptorIndex := 184, attributes := #[] }, { accessFlags := 2, nameIndex := 57, descriptorIndex := 22, attributes := #[] }] 49 2 #[] #[{ accessFlags := 25, nameIndex := 193, descriptorIndex := 81, attributes := #[] }, { accessFlags := 24, nameIndex := 196, descriptorIndex := 81, attributes := #[] }, { accessFlags := 24, nameIndex := 198, descriptorIndex := 81, attributes := #[] }, { accessFlags := 24, nameIndex := 199, descriptorIndex := 81, attributes := #[] }, { accessFlags := 24, nameIndex := 201, descriptorIndex := 81, attributes := #[] }, { accessFlags := 26, nameIndex := 203, descriptorIndex := 81, attributes := #[] }, { accessFlags := 24, nameIndex := 205, descriptorIndex := 81, attributes := #[] }, { accessFlags := 24, nameIndex := 207, descriptorIndex := 81, attributes := #[] }, { accessFlags := 24, nameIndex := 209, descriptorIndex := 81, attributes := #[] }, { accessFlags := 25, nameIndex := 211, descriptorIndex := 81, attributes := #[] }, { accessFlags := 25, nameIndex := 213, descriptorIndex := 81, attributes := #[] }, { accessFlags := 24, nameIndex := 215, descriptorIndex := 81, attributes := #[] }, { accessFlags := 24, nameIndex := 217, descriptorIndex := 81, attributes := #[] }, { accessFlags := 24, nameIndex := 219, descriptorIndex := 81, attributes := #[] }, { accessFlags := 26, nameIndex := 221, descriptorIndex := 81, attributes := #[] }, { accessFlags := 26, nameIndex := 223, descriptorIndex := 81, attributes := #[] }, { accessFlags := 26, nameIndex := 225, descriptorIndex := 81, attributes := #[] }, { accessFlags := 26, nameIndex := 227, descriptorIndex := 81, attributes := #[] }, { accessFlags := 26, nameIndex := 228, descriptorIndex := 81, attributes := #[] }, { accessFlags := 2, nameIndex := 25, descriptorIndex := 26, attributes := #[] }, { accessFlags := 2, nameIndex := 29, descriptorIndex := 26, attributes := #[] }, { accessFlags := 2, nameIndex := 32, descriptorIndex := 26, attributes := #[] }, { accessFlags := 2, nameIndex := 35, descriptorIndex := 26, attributes := #[] }, { accessFlags := 2, nameIndex := 38, descriptorIndex := 26, attributes := #[] }, { accessFlags := 2, nameIndex := 41, descriptorIndex := 26, attributes := #[] }, { accessFlags := 2, nameIndex := 44, descriptorIndex := 26, attributes := #[] }, { accessFlags := 2, nameIndex := 47, descriptorIndex := 26, attributes := #[] }, { accessFlags := 2, nameIndex := 50, descriptorIndex := 51, attributes := #[] }, { accessFlags := 2, nameIndex := 162, descriptorIndex := 81, attributes := #[] }, { accessFlags := 18, nameIndex := 11, descriptorIndex := 12, attributes := #[] }, { accessFlags := 2, nameIndex := 54, descriptorIndex := 12, attributes := #[] }, { accessFlags := 2, nameIndex := 80, descriptorIndex := 81, attributes := #[] }, { accessFlags := 2, nameIndex := 132, descriptorIndex := 133, attributes := #[] }, { accessFlags := 2, nameIndex := 139, descriptorIndex := 12, attributes := #[] }, { accessFlags := 2, nameIndex := 153, descriptorIndex := 133, attributes := #[] }, { accessFlags := 2, nameIndex := 119, descriptorIndex := 120, attributes := #[] }, { accessFlags := 18, nameIndex := 15, descriptorIndex := 16, attributes := #[] }, { accessFlags := 2, nameIndex := 116, descriptorIndex := 16, attributes := #[] }])
  fields := #[{ name := "DOCUMENT", type := .int, accessFlags := 25, slot := 0, constantValue := 0 }, { name := "TEXT", type := .int, accessFlags := 24, slot := 1, constantValue := 0 }, { name := "HTML", type := .int, accessFlags := 24, slot := 2, constantValue := 0 }, { name := "SVG", type := .int, accessFlags := 24, slot := 3, constantValue := 0 }, { name := "MATHML", type := .int, accessFlags := 24, slot := 4, constantValue := 0 }, { name := "NAMESPACE", type := .int, accessFlags := 26, slot := 5, constantValue := 0 }, { name := "OPEN", type := .int, accessFlags := 24, slot := 6, constantValue := 0 }, { name := "HIDDEN_BY_PAGE", type := .int, accessFlags := 24, slot := 7, constantValue := 0 }, { name := "HTML_INTEGRATION", type := .int, accessFlags := 24, slot := 8, constantValue := 0 }, { name := "NAMED_BOILERPLATE", type := .int, accessFlags := 25, slot := 9, constantValue := 0 }, { name := "NAMED_BESIDE_ARTICLE", type := .int, accessFlags := 25, slot := 10, constantValue := 0 }, { name := "LINK_WITHIN_PAGE", type := .int, accessFlags := 24, slot := 11, constantValue := 0 }, { name := "NAMED_ANCHOR", type := .int, accessFlags := 24, slot := 12, constantValue := 0 }, { name := "LINK_NOWHERE", type := .int, accessFlags := 24, slot := 13, constantValue := 0 }, { name := "IN_BUFFER", type := .int, accessFlags := 26, slot := 14, constantValue := 0 }, { name := "CLASS_NAMES_READ", type := .int, accessFlags := 26, slot := 15, constantValue := 0 }, { name := "DOCUMENT_NAME", type := .int, accessFlags := 26, slot := 16, constantValue := 0 }, { name := "NONE", type := .int, accessFlags := 26, slot := 17, constantValue := 0 }, { name := "NODE_SPACING", type := .int, accessFlags := 26, slot := 18, constantValue := 0 }, { name := "name", type := (.array .int), accessFlags := 2, slot := 0, constantValue := 0 }, { name := "parent", type := (.array .int), accessFlags := 2, slot := 1, constantValue := 0 }, { name := "firstChild", type := (.array .int), accessFlags := 2, slot := 2, constantValue := 0 }, { name := "lastChild", type := (.array .int), accessFlags := 2, slot := 3, constantValue := 0 }, { name := "next", type := (.array .int), accessFlags := 2, slot := 4, constantValue := 0 }, { name := "previous", type := (.array .int), accessFlags := 2, slot := 5, constantValue := 0 }, { name := "textStart", type := (.array .int), accessFlags := 2, slot := 6, constantValue := 0 }, { name := "textEnd", type := (.array .int), accessFlags := 2, slot := 7, constantValue := 0 }, { name := "flags", type := (.array .short), accessFlags := 2, slot := 8, constantValue := 0 }, { name := "size", type := .int, accessFlags := 2, slot := 9, constantValue := 0 }, { name := "page", type := (.array .char), accessFlags := 18, slot := 10, constantValue := 0 }, { name := "text", type := (.array .char), accessFlags := 2, slot := 11, constantValue := 0 }, { name := "textLength", type := .int, accessFlags := 2, slot := 12, constantValue := 0 }, { name := "classValues", type := (.object "com/example/pith/pith/text/Numbering"), accessFlags := 2, slot := 13, constantValue := 0 }, { name := "classNames", type := (.array .char), accessFlags := 2, slot := 14, constantValue := 0 }, { name := "classNamesSeen", type := (.object "com/example/pith/pith/text/Numbering"), accessFlags := 2, slot := 15, constantValue := 0 }, { name := "boilerplateNames", type := (.object "com/example/pith/pith/html/BoilerplateNames"), accessFlags := 2, slot := 16, constantValue := 0 }, { name := "scripting", type := .boolean, accessFlags := 18, slot := 17, constantValue := 0 }, { name := "differsWithoutScripts", type := .boolean, accessFlags := 2, slot := 18, constantValue := 0 }]
  methods := #[k2m0, k2m1, k2m2, k2m3, k2m4, k2m5, k2m6, k2m7, k2m8]
  instanceTypes := #[(.array .int), (.array .int), (.array .int), (.array .int), (.array .int), (.array .int), (.array .int), (.array .int), (.array .short), .int, (.array .char), (.array .char), .int, (.object "com/example/pith/pith/text/Numbering"), (.array .char), (.object "com/example/pith/pith/text/Numbering"), (.object "com/example/pith/pith/html/BoilerplateNames"), .boolean, .boolean]
  staticTypes := #[.int, .int, .int, .int, .int, .int, .int, .int, .int, .int, .int, .int, .int, .int, .int, .int, .int, .int, .int]
  resolved := Array.replicate 258 none
  statics := none }

def pool3 : Array CpInfo := pool [(1, .class_ 2), (0, u "java/lang/Math"), (1, .class_ 6), (1, u "java/lang/Object"), (0, u "<init>"), (0, u "()V"), (89, .class_ 100), (1, u "java/lang/Math$RandomNumberGeneratorHolder"), (71, u "negativeZeroFloatBits"), (0, u "J"), (2, u "negativeZeroDoubleBits"), (21, u "max"), (46, u "$assertionsDisabled"), (0, u "Z"), (88, u "(II)I"), (2, u "twoToTheDoubleScaleDown"), (0, u "D"), (4, u "twoToTheDoubleScaleUp"), (9, u "E"), (3, u "PI"), (2, u "TAU"), (2, u "DEGREES_TO_RADIANS"), (0, u "RADIANS_TO_DEGREES")] 94

def k3m0 : Method := { name := "<init>", desc := "()V", sig := { parameters := [], returnType := none }, accessFlags := 2, code := none }
def k3c1 : Code := { maxStack := 2, maxLocals := 2, code := jdk_29_method_65_code, exceptionTable := #[], attributes := #[] }
def k3m1 : Method := { name := "max", desc := "(II)I", sig := { parameters := [.int, .int], returnType := some .int }, accessFlags := 9, code := some k3c1 }
/-- java/lang/Math -/
def k3 : Class := { plain "java/lang/Math" (some 0) with
  accessFlags := 49
  interfaces := #[]
  cf := some (fileOf pool3 1 #[.nestMembers #[98]] #[{ accessFlags := 2, nameIndex := 7, descriptorIndex := 8, attributes := #[] }, { accessFlags := 9, nameIndex := 198, descriptorIndex := 335, attributes := #[] }] 49 4 #[] #[{ accessFlags := 25, nameIndex := 354, descriptorIndex := 339, attributes := #[] }, { accessFlags := 25, nameIndex := 358, descriptorIndex := 339, attributes := #[] }, { accessFlags := 25, nameIndex := 361, descriptorIndex := 339, attributes := #[] }, { accessFlags := 26, nameIndex := 364, descriptorIndex := 339, attributes := #[] }, { accessFlags := 26, nameIndex := 365, descriptorIndex := 339, attributes := #[] }, { accessFlags := 26, nameIndex := 172, descriptorIndex := 173, attributes := #[] }, { accessFlags := 26, nameIndex := 176, descriptorIndex := 173, attributes := #[] }, { accessFlags := 8, nameIndex := 344, descriptorIndex := 339, attributes := #[] }, { accessFlags := 8, nameIndex := 338, descriptorIndex := 339, attributes := #[] }, { accessFlags := 4120, nameIndex := 245, descriptorIndex := 246, attributes := #[] }])
  fields := #[{ name := "E", type := .double, accessFlags := 25, slot := 0, constantValue := 0 }, { name := "PI", type := .double, accessFlags := 25, slot := 1, constantValue := 0 }, { name := "TAU", type := .double, accessFlags := 25, slot := 2, constantValue := 0 }, { name := "DEGREES_TO_RADIANS", type := .double, accessFlags := 26, slot := 3, constantValue := 0 }, { name := "RADIANS_TO_DEGREES", type := .double, accessFlags := 26, slot := 4, constantValue := 0 }, { name := "negativeZeroFloatBits", type := .long, accessFlags := 26, slot := 5, constantValue := 0 }, { name := "negativeZeroDoubleBits", type := .long, accessFlags := 26, slot := 6, constantValue := 0 }, { name := "twoToTheDoubleScaleUp", type := .double, accessFlags := 8, slot := 7, constantValue := 0 }, { name := "twoToTheDoubleScaleDown", type := .double, accessFlags := 8, slot := 8, constantValue := 0 }, { name := "$assertionsDisabled", type := .boolean, accessFlags := 4120, slot := 9, constantValue := 0 }]
  methods := #[k3m0, k3m1]
  instanceTypes := #[]
  staticTypes := #[.double, .double, .double, .double, .double, .long, .long, .double, .double, .boolean]
  resolved := Array.replicate 460 none
  statics := none }

def pool4 : Array CpInfo := pool [(1, u "java/lang/Cloneable"), (0, .class_ 1), (0, u "java/lang/Object"), (0, .class_ 3)] 3

/-- java/lang/Cloneable -/
def k4 : Class := { plain "java/lang/Cloneable" (some 0) with
  accessFlags := 1537
  interfaces := #[]
  cf := some (fileOf pool4 2 #[] #[] 1537 4 #[] #[])
  fields := #[]
  methods := #[]
  instanceTypes := #[]
  staticTypes := #[]
  resolved := Array.replicate 8 none
  statics := none }

def pool5 : Array CpInfo := pool [(1, u "java/io/Serializable"), (0, .class_ 1), (0, u "java/lang/Object"), (0, .class_ 3)] 3

/-- java/io/Serializable -/
def k5 : Class := { plain "java/io/Serializable" (some 0) with
  accessFlags := 1537
  interfaces := #[]
  cf := some (fileOf pool5 2 #[] #[] 1537 4 #[] #[])
  fields := #[]
  methods := #[]
  instanceTypes := #[]
  staticTypes := #[]
  resolved := Array.replicate 8 none
  statics := none }

/-- the primitive byte -/
def k6 : Class := { plain "byte" none with kind := .primitive 'B', accessFlags := 0x411 }
/-- [B -/
def k7 : Class := { plain "[B" (some 0) with kind := .array 6 .byte, interfaces := #[4, 5], accessFlags := 1041 }

/-- the primitive char -/
def k8 : Class := { plain "char" none with kind := .primitive 'C', accessFlags := 0x411 }
/-- [C -/
def k9 : Class := { plain "[C" (some 0) with kind := .array 8 .char, interfaces := #[4, 5], accessFlags := 1041 }

/-- the primitive int -/
def k10 : Class := { plain "int" none with kind := .primitive 'I', accessFlags := 0x411 }
/-- [I -/
def k11 : Class := { plain "[I" (some 0) with kind := .array 10 .int, interfaces := #[4, 5], accessFlags := 1041 }

/-- the primitive short -/
def k12 : Class := { plain "short" none with kind := .primitive 'S', accessFlags := 0x411 }
/-- [S -/
def k13 : Class := { plain "[S" (some 0) with kind := .array 12 .short, interfaces := #[4, 5], accessFlags := 1041 }

def heap : Heap := #[]
def classes : Array Class := #[k0, k1, k2, k3, k4, k5, k6, k7, k8, k9, k10, k11, k12, k13]
def interned : List (Array UInt16 × Addr) := []
def slotsUsed : Nat := 0
def theMethod : MethodId := ⟨1, 1⟩
def args0 : Array Value := #[.int 2, .int 1, .int 0]
def aboutOver (below : List Frame) : State where
  vm := { classes := classes, interned := interned.toArray }
  heap := heap
  slotsUsed := slotsUsed
  threads := #[{ frames := .invoking theMethod args0 :: below }]
def below0 : List Frame := [.native { method := ⟨0, 0⟩, args := #[] }]
def about1 : State := aboutOver below0
def p0 : Program := .bare "" "" ""
def e0 : Env := launch0.env 0 0 0
theorem w_frames : about1.frames = Frame.invoking theMethod args0 :: below0 := rfl
set_option maxRecDepth 65536 in
theorem w_args : argsFit about1.vm theMethod args0 = true := by decide +kernel
set_option maxRecDepth 65536 in
theorem w_heap : heapFits about1 = true := by decide +kernel
set_option maxRecDepth 65536 in
theorem w_runnable : about1.curStatus? = some .runnable := by decide +kernel
set_option maxRecDepth 65536 in
theorem w_alone : about1.alone = true := by decide +kernel
set_option maxRecDepth 65536 in
theorem w_named : about1.methodNamed? x = some theMethod := by decide +kernel
set_option maxRecDepth 65536 in
theorem w_hears : about1.hears theMethod below0 = true := by decide +kernel
set_option maxRecDepth 65536 in
theorem w_ripe : about1.ripe theMethod args0 below0 = true := by decide +kernel
theorem w_running : about1.status = .running := rfl
set_option maxRecDepth 65536 in
theorem w_room : about1.hasRoom e0.platform room_1 = true :=
  launch0.hasRoom_least _ room_1 (by decide +kernel) (by decide +kernel) (by decide +kernel) (by decide +kernel) (by decide +kernel) (by decide +kernel)
theorem allAtoms_all (ts : List Jvm.Cond) (a : Array Jvm.Value) (st : Jvm.State) : (allAtoms ts).before a st = ts.all (fun c => c.before a st) := by
  induction ts with
  | nil => rfl
  | cons c t ih =>
    show (Jvm.Cond.and c (allAtoms t)).before a st = _
    rw [Jvm.Cond.before_and, ih, List.all_cons]
def words1 : List Jvm.Cond := Jvm.Cond.code x code maxLocals ret :: tables_1
/-- a 'code' word, met by the world's own term for the bytes: nothing is compared byte by byte -/
theorem code_word {y : MethodName} {bytes : ByteArray} {mx : Nat} {rt : Option FieldType} {a : Array Value} {s : State} {m : MethodId} {meth : Method} {c : Code} (h1 : s.methodNamed? y = some m) (h2 : s.vm.method? m = some meth) (h3 : meth.code = some c) (h4 : c.code = bytes)
    (h5 : (c.maxLocals == mx && c.exceptionTable.isEmpty && decide (c.maxStack ≤ mostOperands) && decide (meth.sig.returnType = rt) && !meth.locks && decide (parseMethodDescriptor y.desc = some meth.sig)) = true) : (Jvm.Cond.code y bytes mx rt).before a s = true := by
  simp only [Bool.and_eq_true, beq_iff_eq, Bool.not_eq_true', decide_eq_true_eq] at h5
  obtain ⟨⟨⟨⟨⟨g1, g2⟩, g3⟩, g4⟩, g5⟩, g6⟩ := h5
  simp [Cond.before, Cond.holds, Cond.value, h1, h2, h3, h4, g1, g2, g3, g4, g5, g6]
def isCode : Jvm.Cond → Bool
  | .code _ _ _ _ => true
  | _ => false
theorem all_split {L : List Jvm.Cond} {P : Jvm.Cond → Bool} (h1 : L.all (fun c => isCode c || P c) = true) (h2 : ∀ c ∈ L.filter isCode, P c = true) : L.all P = true := by
  refine List.all_eq_true.mpr fun c hc => ?_
  have h := List.all_eq_true.mp h1 c hc
  rcases Bool.eq_false_or_eq_true (isCode c) with hi | hi
  · exact h2 c (List.mem_filter.mpr ⟨hc, hi⟩)
  · simpa [hi] using h
set_option maxRecDepth 65536 in
theorem w_c0 : (Jvm.Cond.code x code maxLocals ret).before args0 about1 = true := code_word (m := ⟨1, 1⟩) (meth := k1m1) (c := k1c1) (by decide +kernel) rfl rfl rfl (by decide +kernel)
set_option maxRecDepth 65536 in
theorem w_c1 : (Jvm.Cond.code ({ cls := "com/example/pith/pith/html/PageTree", name := "<init>", desc := "([CIZ)V" } : Jvm.MethodName) prog_134_method_1_code (5 : Nat) (Option.none : Option Jvm.ClassFile.FieldType)).before args0 about1 = true := code_word (m := ⟨2, 0⟩) (meth := k2m0) (c := k2c0) (by decide +kernel) rfl rfl rfl (by decide +kernel)
set_option maxRecDepth 65536 in
theorem w_c2 : (Jvm.Cond.code ({ cls := "java/lang/Object", name := "<init>", desc := "()V" } : Jvm.MethodName) object_method_1_code (1 : Nat) (Option.none : Option Jvm.ClassFile.FieldType)).before args0 about1 = true := code_word (m := ⟨0, 0⟩) (meth := k0m0) (c := k0c0) (by decide +kernel) rfl rfl rfl (by decide +kernel)
set_option maxRecDepth 65536 in
theorem w_c3 : (Jvm.Cond.code ({ cls := "java/lang/Math", name := "max", desc := "(II)I" } : Jvm.MethodName) jdk_29_method_65_code (2 : Nat) (Option.some Jvm.ClassFile.FieldType.int)).before args0 about1 = true := code_word (m := ⟨3, 1⟩) (meth := k3m1) (c := k3c1) (by decide +kernel) rfl rfl rfl (by decide +kernel)
set_option maxRecDepth 65536 in
theorem w_c4 : (Jvm.Cond.code ({ cls := "com/example/pith/pith/html/PageTree", name := "newNode", desc := "(II)I" } : Jvm.MethodName) prog_134_method_39_code (4 : Nat) (Option.some Jvm.ClassFile.FieldType.int)).before args0 about1 = true := code_word (m := ⟨2, 8⟩) (meth := k2m8) (c := k2c8) (by decide +kernel) rfl rfl rfl (by decide +kernel)
set_option maxRecDepth 65536 in
theorem w_c5 : (Jvm.Cond.code ({ cls := "com/example/pith/pith/html/PageTree", name := "createElement", desc := "(II)I" } : Jvm.MethodName) prog_134_method_2_code (3 : Nat) (Option.some Jvm.ClassFile.FieldType.int)).before args0 about1 = true := code_word (m := ⟨2, 1⟩) (meth := k2m1) (c := k2c1) (by decide +kernel) rfl rfl rfl (by decide +kernel)
set_option maxRecDepth 65536 in
theorem w_c6 : (Jvm.Cond.code ({ cls := "com/example/pith/pith/html/PageTree", name := "detach", desc := "(I)V" } : Jvm.MethodName) prog_134_method_11_code (5 : Nat) (Option.none : Option Jvm.ClassFile.FieldType)).before args0 about1 = true := code_word (m := ⟨2, 3⟩) (meth := k2m3) (c := k2c3) (by decide +kernel) rfl rfl rfl (by decide +kernel)
set_option maxRecDepth 65536 in
theorem w_c7 : (Jvm.Cond.code ({ cls := "com/example/pith/pith/html/PageTree", name := "parent", desc := "(I)I" } : Jvm.MethodName) prog_134_method_18_code (2 : Nat) (Option.some Jvm.ClassFile.FieldType.int)).before args0 about1 = true := code_word (m := ⟨2, 4⟩) (meth := k2m4) (c := k2c4) (by decide +kernel) rfl rfl rfl (by decide +kernel)
set_option maxRecDepth 65536 in
theorem w_c8 : (Jvm.Cond.code ({ cls := "com/example/pith/pith/html/PageTree", name := "next", desc := "(I)I" } : Jvm.MethodName) prog_134_method_21_code (2 : Nat) (Option.some Jvm.ClassFile.FieldType.int)).before args0 about1 = true := code_word (m := ⟨2, 7⟩) (meth := k2m7) (c := k2c7) (by decide +kernel) rfl rfl rfl (by decide +kernel)
set_option maxRecDepth 65536 in
theorem w_c9 : (Jvm.Cond.code ({ cls := "com/example/pith/pith/html/PageTreeDetachPinLaw", name := "chainOk", desc := "(Lcom/example/pith/pith/html/PageTree;[II)Z" } : Jvm.MethodName) method_4_code (5 : Nat) (Option.some Jvm.ClassFile.FieldType.boolean)).before args0 about1 = true := code_word (m := ⟨1, 3⟩) (meth := k1m3) (c := k1c3) (by decide +kernel) rfl rfl rfl (by decide +kernel)
set_option maxRecDepth 65536 in
theorem w_c10 : (Jvm.Cond.code ({ cls := "com/example/pith/pith/html/PageTree", name := "firstChild", desc := "(I)I" } : Jvm.MethodName) prog_134_method_19_code (2 : Nat) (Option.some Jvm.ClassFile.FieldType.int)).before args0 about1 = true := code_word (m := ⟨2, 5⟩) (meth := k2m5) (c := k2c5) (by decide +kernel) rfl rfl rfl (by decide +kernel)
set_option maxRecDepth 65536 in
theorem w_c11 : (Jvm.Cond.code ({ cls := "com/example/pith/pith/html/PageTree", name := "lastChild", desc := "(I)I" } : Jvm.MethodName) prog_134_method_20_code (2 : Nat) (Option.some Jvm.ClassFile.FieldType.int)).before args0 about1 = true := code_word (m := ⟨2, 6⟩) (meth := k2m6) (c := k2c6) (by decide +kernel) rfl rfl rfl (by decide +kernel)
set_option maxRecDepth 65536 in
theorem w_c12 : (Jvm.Cond.code ({ cls := "com/example/pith/pith/html/PageTree", name := "append", desc := "(II)V" } : Jvm.MethodName) prog_134_method_7_code (4 : Nat) (Option.none : Option Jvm.ClassFile.FieldType)).before args0 about1 = true := code_word (m := ⟨2, 2⟩) (meth := k2m2) (c := k2c2) (by decide +kernel) rfl rfl rfl (by decide +kernel)
set_option maxRecDepth 65536 in
theorem w_c13 : (Jvm.Cond.code ({ cls := "com/example/pith/pith/html/PageTreeDetachPinLaw", name := "removeAt", desc := "([II)[I" } : Jvm.MethodName) method_3_code (2 : Nat) (Option.some (Jvm.ClassFile.FieldType.array Jvm.ClassFile.FieldType.int))).before args0 about1 = true := code_word (m := ⟨1, 2⟩) (meth := k1m2) (c := k1c2) (by decide +kernel) rfl rfl rfl (by decide +kernel)
def codes1 : List Jvm.Cond := [Jvm.Cond.code x code maxLocals ret, Jvm.Cond.code ({ cls := "com/example/pith/pith/html/PageTree", name := "<init>", desc := "([CIZ)V" } : Jvm.MethodName) prog_134_method_1_code (5 : Nat) (Option.none : Option Jvm.ClassFile.FieldType), Jvm.Cond.code ({ cls := "java/lang/Object", name := "<init>", desc := "()V" } : Jvm.MethodName) object_method_1_code (1 : Nat) (Option.none : Option Jvm.ClassFile.FieldType), Jvm.Cond.code ({ cls := "java/lang/Math", name := "max", desc := "(II)I" } : Jvm.MethodName) jdk_29_method_65_code (2 : Nat) (Option.some Jvm.ClassFile.FieldType.int), Jvm.Cond.code ({ cls := "com/example/pith/pith/html/PageTree", name := "newNode", desc := "(II)I" } : Jvm.MethodName) prog_134_method_39_code (4 : Nat) (Option.some Jvm.ClassFile.FieldType.int), Jvm.Cond.code ({ cls := "com/example/pith/pith/html/PageTree", name := "createElement", desc := "(II)I" } : Jvm.MethodName) prog_134_method_2_code (3 : Nat) (Option.some Jvm.ClassFile.FieldType.int), Jvm.Cond.code ({ cls := "com/example/pith/pith/html/PageTree", name := "detach", desc := "(I)V" } : Jvm.MethodName) prog_134_method_11_code (5 : Nat) (Option.none : Option Jvm.ClassFile.FieldType), Jvm.Cond.code ({ cls := "com/example/pith/pith/html/PageTree", name := "parent", desc := "(I)I" } : Jvm.MethodName) prog_134_method_18_code (2 : Nat) (Option.some Jvm.ClassFile.FieldType.int), Jvm.Cond.code ({ cls := "com/example/pith/pith/html/PageTree", name := "next", desc := "(I)I" } : Jvm.MethodName) prog_134_method_21_code (2 : Nat) (Option.some Jvm.ClassFile.FieldType.int), Jvm.Cond.code ({ cls := "com/example/pith/pith/html/PageTreeDetachPinLaw", name := "chainOk", desc := "(Lcom/example/pith/pith/html/PageTree;[II)Z" } : Jvm.MethodName) method_4_code (5 : Nat) (Option.some Jvm.ClassFile.FieldType.boolean), Jvm.Cond.code ({ cls := "com/example/pith/pith/html/PageTree", name := "firstChild", desc := "(I)I" } : Jvm.MethodName) prog_134_method_19_code (2 : Nat) (Option.some Jvm.ClassFile.FieldType.int), Jvm.Cond.code ({ cls := "com/example/pith/pith/html/PageTree", name := "lastChild", desc := "(I)I" } : Jvm.MethodName) prog_134_method_20_code (2 : Nat) (Option.some Jvm.ClassFile.FieldType.int), Jvm.Cond.code ({ cls := "com/example/pith/pith/html/PageTree", name := "append", desc := "(II)V" } : Jvm.MethodName) prog_134_method_7_code (4 : Nat) (Option.none : Option Jvm.ClassFile.FieldType), Jvm.Cond.code ({ cls := "com/example/pith/pith/html/PageTreeDetachPinLaw", name := "removeAt", desc := "([II)[I" } : Jvm.MethodName) method_3_code (2 : Nat) (Option.some (Jvm.ClassFile.FieldType.array Jvm.ClassFile.FieldType.int))]
set_option maxRecDepth 65536 in
theorem codes_eq : words1.filter isCode = codes1 := rfl
theorem w_codes : ∀ c ∈ words1.filter isCode, c.before args0 about1 = true := by
  rw [codes_eq]
  intro c hc
  simp only [codes1, List.mem_cons, List.not_mem_nil, or_false] at hc
  rcases hc with rfl | rfl | rfl | rfl | rfl | rfl | rfl | rfl | rfl | rfl | rfl | rfl | rfl | rfl
  · exact w_c0
  · exact w_c1
  · exact w_c2
  · exact w_c3
  · exact w_c4
  · exact w_c5
  · exact w_c6
  · exact w_c7
  · exact w_c8
  · exact w_c9
  · exact w_c10
  · exact w_c11
  · exact w_c12
  · exact w_c13
set_option maxRecDepth 65536 in
theorem w_t1 : (words1.take 24).all (fun c => isCode c || c.before args0 about1) = true := by decide +kernel
set_option maxRecDepth 65536 in
theorem w_t2 : ((words1.drop 24).take 24).all (fun c => isCode c || c.before args0 about1) = true := by decide +kernel
set_option maxRecDepth 65536 in
theorem w_t3 : (((words1.drop 24).drop 24).take 24).all (fun c => isCode c || c.before args0 about1) = true := by decide +kernel
set_option maxRecDepth 65536 in
theorem w_t4 : (((words1.drop 24).drop 24).drop 24).all (fun c => isCode c || c.before args0 about1) = true := by decide +kernel
theorem w_tables : (allAtoms (Jvm.Cond.code x code maxLocals ret :: tables_1)).before args0 about1 = true := by
  rw [allAtoms_all]
  show words1.all (fun c => c.before args0 about1) = true
  refine all_split ?_ w_codes
  rw [← List.take_append_drop 24 words1, List.all_append, w_t1, ← List.take_append_drop 24 (words1.drop 24), List.all_append, w_t2, ← List.take_append_drop 24 ((words1.drop 24).drop 24), List.all_append, w_t3, w_t4]
  rfl
set_option maxRecDepth 65536 in
theorem w_case : (Jvm.Cond.and given_1 narrow_1).before args0 about1 = true := by decide +kernel
theorem w_applies : (headSpec (Jvm.Cond.code x code maxLocals ret :: tables_1) room_1).applies x e0.platform about1 = true :=
  (Spec.applies_iff w_frames).mpr ⟨w_running, w_runnable, w_alone, w_named, w_hears, w_ripe, w_room, w_tables⟩
theorem atStart : AtStart classFile x code maxLocals ret World_1 tables_1 room_1 Calls_1 rest_1 Pre_1 launch0 p0 e0 about1 theMethod args0 below0 :=
  ⟨lists_1, trivial, launch0.admits_env _ _ _, launch0.least_env, fairChoices_fair.cas, fairChoices_fair.clock, w_frames, w_args, w_heap, w_applies, trivial, trivial, w_case⟩
end start1
theorem witness_1 : WitnessClaimed_1 := ⟨start1.p0, start1.e0, start1.about1, start1.theMethod, start1.args0, start1.below0, start1.atStart⟩
end Jvm.Pilot.@@N@@
