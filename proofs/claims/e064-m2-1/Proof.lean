import JvmDerived
import JvmDerived.Pilot.@@N@@Statement
import JvmDerived.Pilot.@@N@@Code
set_option linter.unusedVariables false
set_option linter.unusedSimpArgs false
namespace Jvm.RoadKit
open Sem ClassFile Op Lib Jvm.Stand Jvm.Free Jvm.LawKit
section New
variable {p : Program} {l : Launch} {e : Env} {R : Room} {s : State} {m : MethodId} {args : Array Value} {below : List Frame} {meth : Method} {c : Code} {T : State} {locs : List Loc} {cells slots : Nat}
theorem retI (X : Stand p l e R s m args below meth c T locs cells slots) (hx : p.tables.exec = Jvm.exec) {pc : Nat} {Ls : Array Slot} {z : Int32} {rest : List Value} (hret : meth.sig.returnType = some .int) (hd : decode c.code pc = .ok (.ireturn, 1)) {fs : List Frame}
    (hl : ∀ (f : JFrame) (acts : List Action), f.method = m → f.locked = none → f.entered = [] → (doReturn e (T.setTop f) acts (some (.int z))).1 = T.setFrames fs) : Steps p.tables e below (T.setTop (mkF m pc Ls (.int z :: rest))) (T.setFrames fs) := by
  have hm' : T.vm.method? m = some meth := X.method'
  have hn : narrow .int (.int z) = .int z := rfl
  show Steps p.tables e below (T.setTop { method := m, pc := pc, locals := Ls, stack := _ :: rest, locked := none }) _
  jvm_step X.here [X.here.top, hx, hd, hm', hret, hn]
  first | (intro acts; rw [hl _ acts rfl rfl rfl]) | rw [hl _ _ rfl rfl rfl]
  exact Steps.refl _
end New
end Jvm.RoadKit
namespace Jvm.Pilot.@@N@@
open Jvm Jvm.ClassFile Sem Op Lib Jvm.Free Jvm.Stand Jvm.LawKit Jvm.RoadKit Bundle Jvm.Pilot.@@N@@.Jvm.D
theorem d1_0 : decode method_2_code 0 = .ok (.iload_n 1, 1) := by decide +kernel
theorem d1_1 : decode method_2_code 1 = .ok (.iconst 1, 1) := by decide +kernel
theorem d1_2 : decode method_2_code 2 = .ok (.iand, 1) := by decide +kernel
theorem d1_3 : decode method_2_code 3 = .ok (.ifCond .eq 7, 3) := by decide +kernel
theorem d1_6 : decode method_2_code 6 = .ok (.iconst 1, 1) := by decide +kernel
theorem d1_7 : decode method_2_code 7 = .ok (.goto 4, 3) := by decide +kernel
theorem d1_10 : decode method_2_code 10 = .ok (.iconst 0, 1) := by decide +kernel
theorem d1_11 : decode method_2_code 11 = .ok (.istore_n 2, 1) := by decide +kernel
theorem d1_12 : decode method_2_code 12 = .ok (.iload_n 1, 1) := by decide +kernel
theorem d1_13 : decode method_2_code 13 = .ok (.iconst 2, 1) := by decide +kernel
theorem d1_14 : decode method_2_code 14 = .ok (.iand, 1) := by decide +kernel
theorem d1_15 : decode method_2_code 15 = .ok (.ifCond .eq 7, 3) := by decide +kernel
theorem d1_18 : decode method_2_code 18 = .ok (.iconst 1, 1) := by decide +kernel
theorem d1_19 : decode method_2_code 19 = .ok (.goto 4, 3) := by decide +kernel
theorem d1_22 : decode method_2_code 22 = .ok (.iconst 0, 1) := by decide +kernel
theorem d1_23 : decode method_2_code 23 = .ok (.istore_n 3, 1) := by decide +kernel
theorem d1_24 : decode method_2_code 24 = .ok (.iload_n 1, 1) := by decide +kernel
theorem d1_25 : decode method_2_code 25 = .ok (.iconst 4, 1) := by decide +kernel
theorem d1_26 : decode method_2_code 26 = .ok (.iand, 1) := by decide +kernel
theorem d1_27 : decode method_2_code 27 = .ok (.ifCond .eq 7, 3) := by decide +kernel
theorem d1_30 : decode method_2_code 30 = .ok (.iconst 1, 1) := by decide +kernel
theorem d1_31 : decode method_2_code 31 = .ok (.goto 4, 3) := by decide +kernel
theorem d1_34 : decode method_2_code 34 = .ok (.iconst 0, 1) := by decide +kernel
theorem d1_35 : decode method_2_code 35 = .ok (.istore 4, 2) := by decide +kernel
theorem d1_37 : decode method_2_code 37 = .ok (.iload_n 1, 1) := by decide +kernel
theorem d1_38 : decode method_2_code 38 = .ok (.bipush 8, 2) := by decide +kernel
theorem d1_40 : decode method_2_code 40 = .ok (.iand, 1) := by decide +kernel
theorem d1_41 : decode method_2_code 41 = .ok (.ifCond .eq 7, 3) := by decide +kernel
theorem d1_44 : decode method_2_code 44 = .ok (.iconst 1, 1) := by decide +kernel
theorem d1_45 : decode method_2_code 45 = .ok (.goto 4, 3) := by decide +kernel
theorem d1_48 : decode method_2_code 48 = .ok (.iconst 0, 1) := by decide +kernel
theorem d1_49 : decode method_2_code 49 = .ok (.istore 5, 2) := by decide +kernel
theorem d1_51 : decode method_2_code 51 = .ok (.iload_n 1, 1) := by decide +kernel
theorem d1_52 : decode method_2_code 52 = .ok (.bipush 16, 2) := by decide +kernel
theorem d1_54 : decode method_2_code 54 = .ok (.iand, 1) := by decide +kernel
theorem d1_55 : decode method_2_code 55 = .ok (.ifCond .eq 7, 3) := by decide +kernel
theorem d1_58 : decode method_2_code 58 = .ok (.iconst 1, 1) := by decide +kernel
theorem d1_59 : decode method_2_code 59 = .ok (.goto 4, 3) := by decide +kernel
theorem d1_62 : decode method_2_code 62 = .ok (.iconst 0, 1) := by decide +kernel
theorem d1_63 : decode method_2_code 63 = .ok (.istore 6, 2) := by decide +kernel
theorem d1_65 : decode method_2_code 65 = .ok (.iload_n 0, 1) := by decide +kernel
theorem d1_66 : decode method_2_code 66 = .ok (.ifCond .ne 7, 3) := by decide +kernel
theorem d1_69 : decode method_2_code 69 = .ok (.iconst 0, 1) := by decide +kernel
theorem d1_70 : decode method_2_code 70 = .ok (.newarray .boolean, 2) := by decide +kernel
theorem d1_72 : decode method_2_code 72 = .ok (.areturn, 1) := by decide +kernel
theorem d1_73 : decode method_2_code 73 = .ok (.iload_n 0, 1) := by decide +kernel
theorem d1_74 : decode method_2_code 74 = .ok (.iconst 1, 1) := by decide +kernel
theorem d1_75 : decode method_2_code 75 = .ok (.if_icmp .ne 11, 3) := by decide +kernel
theorem d1_78 : decode method_2_code 78 = .ok (.iconst 1, 1) := by decide +kernel
theorem d1_79 : decode method_2_code 79 = .ok (.newarray .boolean, 2) := by decide +kernel
theorem d1_81 : decode method_2_code 81 = .ok (.dup, 1) := by decide +kernel
theorem d1_82 : decode method_2_code 82 = .ok (.iconst 0, 1) := by decide +kernel
theorem d1_83 : decode method_2_code 83 = .ok (.iload_n 2, 1) := by decide +kernel
theorem d1_84 : decode method_2_code 84 = .ok (.bastore, 1) := by decide +kernel
theorem d1_85 : decode method_2_code 85 = .ok (.areturn, 1) := by decide +kernel
theorem d1_86 : decode method_2_code 86 = .ok (.iload_n 0, 1) := by decide +kernel
theorem d1_87 : decode method_2_code 87 = .ok (.iconst 2, 1) := by decide +kernel
theorem d1_88 : decode method_2_code 88 = .ok (.if_icmp .ne 15, 3) := by decide +kernel
theorem d1_91 : decode method_2_code 91 = .ok (.iconst 2, 1) := by decide +kernel
theorem d1_92 : decode method_2_code 92 = .ok (.newarray .boolean, 2) := by decide +kernel
theorem d1_94 : decode method_2_code 94 = .ok (.dup, 1) := by decide +kernel
theorem d1_95 : decode method_2_code 95 = .ok (.iconst 0, 1) := by decide +kernel
theorem d1_96 : decode method_2_code 96 = .ok (.iload_n 2, 1) := by decide +kernel
theorem d1_97 : decode method_2_code 97 = .ok (.bastore, 1) := by decide +kernel
theorem d1_98 : decode method_2_code 98 = .ok (.dup, 1) := by decide +kernel
theorem d1_99 : decode method_2_code 99 = .ok (.iconst 1, 1) := by decide +kernel
theorem d1_100 : decode method_2_code 100 = .ok (.iload_n 3, 1) := by decide +kernel
theorem d1_101 : decode method_2_code 101 = .ok (.bastore, 1) := by decide +kernel
theorem d1_102 : decode method_2_code 102 = .ok (.areturn, 1) := by decide +kernel
theorem d1_103 : decode method_2_code 103 = .ok (.iload_n 0, 1) := by decide +kernel
theorem d1_104 : decode method_2_code 104 = .ok (.iconst 3, 1) := by decide +kernel
theorem d1_105 : decode method_2_code 105 = .ok (.if_icmp .ne 20, 3) := by decide +kernel
theorem d1_108 : decode method_2_code 108 = .ok (.iconst 3, 1) := by decide +kernel
theorem d1_109 : decode method_2_code 109 = .ok (.newarray .boolean, 2) := by decide +kernel
theorem d1_111 : decode method_2_code 111 = .ok (.dup, 1) := by decide +kernel
theorem d1_112 : decode method_2_code 112 = .ok (.iconst 0, 1) := by decide +kernel
theorem d1_113 : decode method_2_code 113 = .ok (.iload_n 2, 1) := by decide +kernel
theorem d1_114 : decode method_2_code 114 = .ok (.bastore, 1) := by decide +kernel
theorem d1_115 : decode method_2_code 115 = .ok (.dup, 1) := by decide +kernel
theorem d1_116 : decode method_2_code 116 = .ok (.iconst 1, 1) := by decide +kernel
theorem d1_117 : decode method_2_code 117 = .ok (.iload_n 3, 1) := by decide +kernel
theorem d1_118 : decode method_2_code 118 = .ok (.bastore, 1) := by decide +kernel
theorem d1_119 : decode method_2_code 119 = .ok (.dup, 1) := by decide +kernel
theorem d1_120 : decode method_2_code 120 = .ok (.iconst 2, 1) := by decide +kernel
theorem d1_121 : decode method_2_code 121 = .ok (.iload 4, 2) := by decide +kernel
theorem d1_123 : decode method_2_code 123 = .ok (.bastore, 1) := by decide +kernel
theorem d1_124 : decode method_2_code 124 = .ok (.areturn, 1) := by decide +kernel
theorem d1_125 : decode method_2_code 125 = .ok (.iload_n 0, 1) := by decide +kernel
theorem d1_126 : decode method_2_code 126 = .ok (.iconst 4, 1) := by decide +kernel
theorem d1_127 : decode method_2_code 127 = .ok (.if_icmp .ne 25, 3) := by decide +kernel
theorem d1_130 : decode method_2_code 130 = .ok (.iconst 4, 1) := by decide +kernel
theorem d1_131 : decode method_2_code 131 = .ok (.newarray .boolean, 2) := by decide +kernel
theorem d1_133 : decode method_2_code 133 = .ok (.dup, 1) := by decide +kernel
theorem d1_134 : decode method_2_code 134 = .ok (.iconst 0, 1) := by decide +kernel
theorem d1_135 : decode method_2_code 135 = .ok (.iload_n 2, 1) := by decide +kernel
theorem d1_136 : decode method_2_code 136 = .ok (.bastore, 1) := by decide +kernel
theorem d1_137 : decode method_2_code 137 = .ok (.dup, 1) := by decide +kernel
theorem d1_138 : decode method_2_code 138 = .ok (.iconst 1, 1) := by decide +kernel
theorem d1_139 : decode method_2_code 139 = .ok (.iload_n 3, 1) := by decide +kernel
theorem d1_140 : decode method_2_code 140 = .ok (.bastore, 1) := by decide +kernel
theorem d1_141 : decode method_2_code 141 = .ok (.dup, 1) := by decide +kernel
theorem d1_142 : decode method_2_code 142 = .ok (.iconst 2, 1) := by decide +kernel
theorem d1_143 : decode method_2_code 143 = .ok (.iload 4, 2) := by decide +kernel
theorem d1_145 : decode method_2_code 145 = .ok (.bastore, 1) := by decide +kernel
theorem d1_146 : decode method_2_code 146 = .ok (.dup, 1) := by decide +kernel
theorem d1_147 : decode method_2_code 147 = .ok (.iconst 3, 1) := by decide +kernel
theorem d1_148 : decode method_2_code 148 = .ok (.iload 5, 2) := by decide +kernel
theorem d1_150 : decode method_2_code 150 = .ok (.bastore, 1) := by decide +kernel
theorem d1_151 : decode method_2_code 151 = .ok (.areturn, 1) := by decide +kernel
theorem d1_152 : decode method_2_code 152 = .ok (.iconst 5, 1) := by decide +kernel
theorem d1_153 : decode method_2_code 153 = .ok (.newarray .boolean, 2) := by decide +kernel
theorem d1_155 : decode method_2_code 155 = .ok (.dup, 1) := by decide +kernel
theorem d1_156 : decode method_2_code 156 = .ok (.iconst 0, 1) := by decide +kernel
theorem d1_157 : decode method_2_code 157 = .ok (.iload_n 2, 1) := by decide +kernel
theorem d1_158 : decode method_2_code 158 = .ok (.bastore, 1) := by decide +kernel
theorem d1_159 : decode method_2_code 159 = .ok (.dup, 1) := by decide +kernel
theorem d1_160 : decode method_2_code 160 = .ok (.iconst 1, 1) := by decide +kernel
theorem d1_161 : decode method_2_code 161 = .ok (.iload_n 3, 1) := by decide +kernel
theorem d1_162 : decode method_2_code 162 = .ok (.bastore, 1) := by decide +kernel
theorem d1_163 : decode method_2_code 163 = .ok (.dup, 1) := by decide +kernel
theorem d1_164 : decode method_2_code 164 = .ok (.iconst 2, 1) := by decide +kernel
theorem d1_165 : decode method_2_code 165 = .ok (.iload 4, 2) := by decide +kernel
theorem d1_167 : decode method_2_code 167 = .ok (.bastore, 1) := by decide +kernel
theorem d1_168 : decode method_2_code 168 = .ok (.dup, 1) := by decide +kernel
theorem d1_169 : decode method_2_code 169 = .ok (.iconst 3, 1) := by decide +kernel
theorem d1_170 : decode method_2_code 170 = .ok (.iload 5, 2) := by decide +kernel
theorem d1_172 : decode method_2_code 172 = .ok (.bastore, 1) := by decide +kernel
theorem d1_173 : decode method_2_code 173 = .ok (.dup, 1) := by decide +kernel
theorem d1_174 : decode method_2_code 174 = .ok (.iconst 4, 1) := by decide +kernel
theorem d1_175 : decode method_2_code 175 = .ok (.iload 6, 2) := by decide +kernel
theorem d1_177 : decode method_2_code 177 = .ok (.bastore, 1) := by decide +kernel
theorem d1_178 : decode method_2_code 178 = .ok (.areturn, 1) := by decide +kernel
theorem d2_0 : decode prog_6_method_4_code 0 = .ok (.aload_n 0, 1) := by decide +kernel
theorem d2_1 : decode prog_6_method_4_code 1 = .ok (.astore_n 1, 1) := by decide +kernel
theorem d2_2 : decode prog_6_method_4_code 2 = .ok (.aload_n 1, 1) := by decide +kernel
theorem d2_3 : decode prog_6_method_4_code 3 = .ok (.arraylength, 1) := by decide +kernel
theorem d2_4 : decode prog_6_method_4_code 4 = .ok (.istore_n 2, 1) := by decide +kernel
theorem d2_5 : decode prog_6_method_4_code 5 = .ok (.iconst 0, 1) := by decide +kernel
theorem d2_6 : decode prog_6_method_4_code 6 = .ok (.istore_n 3, 1) := by decide +kernel
theorem d2_7 : decode prog_6_method_4_code 7 = .ok (.iload_n 3, 1) := by decide +kernel
theorem d2_8 : decode prog_6_method_4_code 8 = .ok (.iload_n 2, 1) := by decide +kernel
theorem d2_9 : decode prog_6_method_4_code 9 = .ok (.if_icmp .ge 21, 3) := by decide +kernel
theorem d2_12 : decode prog_6_method_4_code 12 = .ok (.aload_n 1, 1) := by decide +kernel
theorem d2_13 : decode prog_6_method_4_code 13 = .ok (.iload_n 3, 1) := by decide +kernel
theorem d2_14 : decode prog_6_method_4_code 14 = .ok (.baload, 1) := by decide +kernel
theorem d2_15 : decode prog_6_method_4_code 15 = .ok (.istore 4, 2) := by decide +kernel
theorem d2_17 : decode prog_6_method_4_code 17 = .ok (.iload 4, 2) := by decide +kernel
theorem d2_19 : decode prog_6_method_4_code 19 = .ok (.ifCond .eq 5, 3) := by decide +kernel
theorem d2_22 : decode prog_6_method_4_code 22 = .ok (.iconst 1, 1) := by decide +kernel
theorem d2_23 : decode prog_6_method_4_code 23 = .ok (.ireturn, 1) := by decide +kernel
theorem d2_24 : decode prog_6_method_4_code 24 = .ok (.iinc 3 1, 3) := by decide +kernel
theorem d2_27 : decode prog_6_method_4_code 27 = .ok (.goto (-20), 3) := by decide +kernel
theorem d2_30 : decode prog_6_method_4_code 30 = .ok (.iconst 0, 1) := by decide +kernel
theorem d2_31 : decode prog_6_method_4_code 31 = .ok (.ireturn, 1) := by decide +kernel
theorem pd_0 : parseMethodDescriptor "(II)[Z" = some ⟨[.int, .int], some (.array .boolean)⟩ := by decide +kernel
theorem pd_1 : parseMethodDescriptor "([Z)Z" = some ⟨[(.array .boolean)], some .boolean⟩ := by decide +kernel
def own_bit (x m : Int32) : Int32 := if x &&& m = 0 then 0 else 1
theorem own_bit01 (x m : Int32) : own_bit x m = 0 ∨ own_bit x m = 1 := by unfold own_bit; split <;> simp
theorem own_nar {z : Int32} (h : z = 0 ∨ z = 1) : nar .boolean z = z := by rcases h with rfl | rfl <;> rfl
def own_f (x : Int32) : Nat → Int32
  | 0 => own_bit x 1
  | 1 => own_bit x 2
  | 2 => own_bit x 4
  | 3 => own_bit x 8
  | _ => own_bit x 16
def own_vals (f : Nat → Int32) (k : Nat) : List Value := (List.range k).map fun j => .int (f j)
theorem own_at (f : Nat → Int32) {i j : Nat} (h : j < i) (d : Value) : (own_vals f i).getD j d = .int (f j) := by simp [own_vals, List.getD_eq_getElem?_getD, h]
def own_any (f : Nat → Int32) : Nat → Nat → Int32
  | 0, _ => 0
  | k + 1, i => if f i = 0 then own_any f k (i + 1) else 1
theorem own_any01 (f : Nat → Int32) : ∀ k i, own_any f k i = 0 ∨ own_any f k i = 1
  | 0, _ => Or.inl rfl
  | k + 1, i => by unfold own_any; split; · exact own_any01 f k (i + 1)
                   · exact Or.inr rfl
theorem own_lt {i n : Nat} (h : i < n) (hn : n ≤ 5) : Int32.ofNat i < Int32.ofNat n := by
  rw [Int32.lt_iff_toInt_lt, Int32.toInt_ofNat_of_lt (by omega), Int32.toInt_ofNat_of_lt (by omega)]
  omega
theorem own_nlt (n : Nat) : ¬ Int32.ofNat n < Int32.ofNat n := Int32.lt_irrefl
theorem own_nn {n : Nat} (hn : n ≤ 5) : ¬ Int32.ofNat n < 0 := by
  rw [Int32.lt_iff_toInt_lt, Int32.toInt_ofNat_of_lt (by omega), show (0 : Int32).toInt = 0 from rfl]
  omega
theorem own_n32 {n : Nat} (hn : n ≤ 5) : (Int32.ofNat n).toNatClampNeg = n := by
  rw [Int32.toNatClampNeg, Int32.toInt_ofNat_of_lt (by omega)]; rfl
theorem own_one (i : Nat) : Int32.ofNat i + (1 : Int32) = Int32.ofNat (i + 1) := (Int32.ofNat_add i 1).symm
theorem own_mod (x : Int32) : ∃ k : Nat, k ≤ 5 ∧ (x &&& (2147483647 : Int32)) % (6 : Int32) = Int32.ofNat k := by
  have h0 : 0 ≤ (x &&& (2147483647 : Int32)).toInt := (c_andS x 2147483647).2.2 (by decide)
  have h1 := (c_irem (x &&& (2147483647 : Int32)) 6 6 rfl).1 h0
  refine ⟨((x &&& (2147483647 : Int32)) % (6 : Int32)).toInt.toNat, by omega, ?_⟩
  apply Int32.toInt_inj.mp
  rw [Int32.toInt_ofNat_of_lt (by omega)]
  omega
theorem own_or0 (a b : Int32) : (a ||| b = 0) ↔ (a = 0 ∧ b = 0) := by
  constructor
  · intro h
    have h' := congrArg Int32.toBitVec h
    simp only [Int32.toBitVec_or] at h'
    have h2 := BitVec.or_eq_zero_iff.mp h'
    exact ⟨Int32.toBitVec_inj.mp h2.1, Int32.toBitVec_inj.mp h2.2⟩
  · rintro ⟨rfl, rfl⟩; rfl
theorem own_ad (x a b : Int32) : x &&& (a ||| b) = (x &&& a) ||| (x &&& b) := by
  apply Int32.toBitVec_inj.mp
  simp only [Int32.toBitVec_and, Int32.toBitVec_or]
  exact BitVec.and_or_distrib_left
theorem own_split (x a b : Int32) : (x &&& (a ||| b) = 0) ↔ (x &&& a = 0 ∧ x &&& b = 0) := by rw [own_ad, own_or0]
theorem own_law (x : Int32) (k : Nat) (hk : k ≤ 5) : own_any (own_f x) k 0 = own_bit x (((1 : Int32) <<< (Int32.ofNat k &&& 31)) - (1 : Int32)) := by
  have hb : ∀ m, own_bit x m = 0 ↔ x &&& m = 0 := fun m => by unfold own_bit; split <;> simp [*]
  have e2 : (3 : Int32) = 1 ||| 2 := by decide
  have e3 : (7 : Int32) = 1 ||| (2 ||| 4) := by decide
  have e4 : (15 : Int32) = 1 ||| (2 ||| (4 ||| 8)) := by decide
  have e5 : (31 : Int32) = 1 ||| (2 ||| (4 ||| (8 ||| 16))) := by decide
  have z0 : x &&& (0 : Int32) = 0 := by simp
  have hk' : k = 0 ∨ k = 1 ∨ k = 2 ∨ k = 3 ∨ k = 4 ∨ k = 5 := by omega
  rcases hk' with rfl | rfl | rfl | rfl | rfl | rfl
  · rw [show ((1 : Int32) <<< (Int32.ofNat 0 &&& 31)) - (1 : Int32) = 0 by decide]; simp [own_any, own_bit]
  · rw [show ((1 : Int32) <<< (Int32.ofNat 1 &&& 31)) - (1 : Int32) = 1 by decide]
    simp only [own_any, own_f, hb]; unfold own_bit; rfl
  · rw [show ((1 : Int32) <<< (Int32.ofNat 2 &&& 31)) - (1 : Int32) = 3 by decide, e2]
    simp only [own_any, own_f, hb]; unfold own_bit; simp only [own_split]
    by_cases h1 : x &&& 1 = 0 <;> by_cases h2 : x &&& 2 = 0 <;> simp [h1, h2]
  · rw [show ((1 : Int32) <<< (Int32.ofNat 3 &&& 31)) - (1 : Int32) = 7 by decide, e3]
    simp only [own_any, own_f, hb]; unfold own_bit; simp only [own_split]
    by_cases h1 : x &&& 1 = 0 <;> by_cases h2 : x &&& 2 = 0 <;> by_cases h3 : x &&& 4 = 0 <;> simp [h1, h2, h3]
  · rw [show ((1 : Int32) <<< (Int32.ofNat 4 &&& 31)) - (1 : Int32) = 15 by decide, e4]
    simp only [own_any, own_f, hb]; unfold own_bit; simp only [own_split]
    by_cases h1 : x &&& 1 = 0 <;> by_cases h2 : x &&& 2 = 0 <;> by_cases h3 : x &&& 4 = 0 <;> by_cases h4 : x &&& 8 = 0 <;> simp [h1, h2, h3, h4]
  · rw [show ((1 : Int32) <<< (Int32.ofNat 5 &&& 31)) - (1 : Int32) = 31 by decide, e5]
    simp only [own_any, own_f, hb]; unfold own_bit; simp only [own_split]
    by_cases h1 : x &&& 1 = 0 <;> by_cases h2 : x &&& 2 = 0 <;> by_cases h3 : x &&& 4 = 0 <;> by_cases h4 : x &&& 8 = 0 <;> by_cases h5 : x &&& 16 = 0 <;> simp [h1, h2, h3, h4, h5]
set_option maxRecDepth 65536 in
set_option maxHeartbeats 4000000 in
theorem ck_b0 {p : Program} {e : Env} {below : List Frame} {m : MethodId} {c : Code} {T t : State} (s0 : Slot) (x : Int32) (h : At T m c below) (hx : p.tables.exec = Jvm.exec) (hby : c.code = method_2_code)  (kt : Steps p.tables e below (T.setTop (mkF m 12 #[s0, .val (.int x), .val (.int (own_bit x (1 : Int32))), .unset, .unset, .unset, .unset] [])) t) : Steps p.tables e below (T.setTop (mkF m 0 #[s0, .val (.int x), .unset, .unset, .unset, .unset, .unset] [])) t := by
  by_cases c1 : x &&& (1 : Int32) = 0
  · have hv : own_bit x (1 : Int32) = 0 := if_pos c1
    rw [hv] at kt
    show Steps p.tables e below (T.setTop (mkF m 0 #[s0, .val (.int x), .unset, .unset, .unset, .unset, .unset] [])) _
    refine XS.iloadN h hx rfl (hb hby d1_0) rfl ?_
    show Steps p.tables e below (T.setTop (mkF m 1 #[s0, .val (.int x), .unset, .unset, .unset, .unset, .unset] [(.int x)])) _
    refine XS.iconst h hx rfl (hb hby d1_1) ?_
    show Steps p.tables e below (T.setTop (mkF m 2 #[s0, .val (.int x), .unset, .unset, .unset, .unset, .unset] [(.int (1 : Int32)), (.int x)])) _
    refine XS.iand h hx rfl (hb hby d1_2) rfl ?_
    show Steps p.tables e below (T.setTop (mkF m 3 #[s0, .val (.int x), .unset, .unset, .unset, .unset, .unset] [(.int (x &&& (1 : Int32)))])) _
    refine XS.ifYes h hx rfl (pc0 := 3) (pc' := 10) rfl (hb hby d1_3) rfl ((if0 _ _).trans (teq c1).1) (by decide) (by decide) ?_
    show Steps p.tables e below (T.setTop (mkF m 10 #[s0, .val (.int x), .unset, .unset, .unset, .unset, .unset] [])) _
    refine XS.iconst h hx rfl (hb hby d1_10) ?_
    show Steps p.tables e below (T.setTop (mkF m 11 #[s0, .val (.int x), .unset, .unset, .unset, .unset, .unset] [(.int (0 : Int32))])) _
    refine XS.istoreN h hx rfl (hb hby d1_11) rfl (l' := #[s0, .val (.int x), .val (.int (0 : Int32)), .unset, .unset, .unset, .unset]) rfl ?_
    exact kt
  · have hv : own_bit x (1 : Int32) = 1 := if_neg c1
    rw [hv] at kt
    show Steps p.tables e below (T.setTop (mkF m 0 #[s0, .val (.int x), .unset, .unset, .unset, .unset, .unset] [])) _
    refine XS.iloadN h hx rfl (hb hby d1_0) rfl ?_
    show Steps p.tables e below (T.setTop (mkF m 1 #[s0, .val (.int x), .unset, .unset, .unset, .unset, .unset] [(.int x)])) _
    refine XS.iconst h hx rfl (hb hby d1_1) ?_
    show Steps p.tables e below (T.setTop (mkF m 2 #[s0, .val (.int x), .unset, .unset, .unset, .unset, .unset] [(.int (1 : Int32)), (.int x)])) _
    refine XS.iand h hx rfl (hb hby d1_2) rfl ?_
    show Steps p.tables e below (T.setTop (mkF m 3 #[s0, .val (.int x), .unset, .unset, .unset, .unset, .unset] [(.int (x &&& (1 : Int32)))])) _
    refine XS.ifNo h hx rfl (hb hby d1_3) rfl ((if0 _ _).trans (feq c1).1) ?_
    show Steps p.tables e below (T.setTop (mkF m 6 #[s0, .val (.int x), .unset, .unset, .unset, .unset, .unset] [])) _
    refine XS.iconst h hx rfl (hb hby d1_6) ?_
    show Steps p.tables e below (T.setTop (mkF m 7 #[s0, .val (.int x), .unset, .unset, .unset, .unset, .unset] [(.int (1 : Int32))])) _
    refine XS.goto h hx rfl (pc0 := 7) (pc' := 11) rfl (hb hby d1_7) (by decide) (by decide) ?_
    show Steps p.tables e below (T.setTop (mkF m 11 #[s0, .val (.int x), .unset, .unset, .unset, .unset, .unset] [(.int (1 : Int32))])) _
    refine XS.istoreN h hx rfl (hb hby d1_11) rfl (l' := #[s0, .val (.int x), .val (.int (1 : Int32)), .unset, .unset, .unset, .unset]) rfl ?_
    exact kt
set_option maxRecDepth 65536 in
set_option maxHeartbeats 4000000 in
theorem ck_b1 {p : Program} {e : Env} {below : List Frame} {m : MethodId} {c : Code} {T t : State} (s0 : Slot) (x : Int32) (s2 : Slot) (h : At T m c below) (hx : p.tables.exec = Jvm.exec) (hby : c.code = method_2_code)  (kt : Steps p.tables e below (T.setTop (mkF m 24 #[s0, .val (.int x), s2, .val (.int (own_bit x (2 : Int32))), .unset, .unset, .unset] [])) t) : Steps p.tables e below (T.setTop (mkF m 12 #[s0, .val (.int x), s2, .unset, .unset, .unset, .unset] [])) t := by
  by_cases c1 : x &&& (2 : Int32) = 0
  · have hv : own_bit x (2 : Int32) = 0 := if_pos c1
    rw [hv] at kt
    show Steps p.tables e below (T.setTop (mkF m 12 #[s0, .val (.int x), s2, .unset, .unset, .unset, .unset] [])) _
    refine XS.iloadN h hx rfl (hb hby d1_12) rfl ?_
    show Steps p.tables e below (T.setTop (mkF m 13 #[s0, .val (.int x), s2, .unset, .unset, .unset, .unset] [(.int x)])) _
    refine XS.iconst h hx rfl (hb hby d1_13) ?_
    show Steps p.tables e below (T.setTop (mkF m 14 #[s0, .val (.int x), s2, .unset, .unset, .unset, .unset] [(.int (2 : Int32)), (.int x)])) _
    refine XS.iand h hx rfl (hb hby d1_14) rfl ?_
    show Steps p.tables e below (T.setTop (mkF m 15 #[s0, .val (.int x), s2, .unset, .unset, .unset, .unset] [(.int (x &&& (2 : Int32)))])) _
    refine XS.ifYes h hx rfl (pc0 := 15) (pc' := 22) rfl (hb hby d1_15) rfl ((if0 _ _).trans (teq c1).1) (by decide) (by decide) ?_
    show Steps p.tables e below (T.setTop (mkF m 22 #[s0, .val (.int x), s2, .unset, .unset, .unset, .unset] [])) _
    refine XS.iconst h hx rfl (hb hby d1_22) ?_
    show Steps p.tables e below (T.setTop (mkF m 23 #[s0, .val (.int x), s2, .unset, .unset, .unset, .unset] [(.int (0 : Int32))])) _
    refine XS.istoreN h hx rfl (hb hby d1_23) rfl (l' := #[s0, .val (.int x), s2, .val (.int (0 : Int32)), .unset, .unset, .unset]) rfl ?_
    exact kt
  · have hv : own_bit x (2 : Int32) = 1 := if_neg c1
    rw [hv] at kt
    show Steps p.tables e below (T.setTop (mkF m 12 #[s0, .val (.int x), s2, .unset, .unset, .unset, .unset] [])) _
    refine XS.iloadN h hx rfl (hb hby d1_12) rfl ?_
    show Steps p.tables e below (T.setTop (mkF m 13 #[s0, .val (.int x), s2, .unset, .unset, .unset, .unset] [(.int x)])) _
    refine XS.iconst h hx rfl (hb hby d1_13) ?_
    show Steps p.tables e below (T.setTop (mkF m 14 #[s0, .val (.int x), s2, .unset, .unset, .unset, .unset] [(.int (2 : Int32)), (.int x)])) _
    refine XS.iand h hx rfl (hb hby d1_14) rfl ?_
    show Steps p.tables e below (T.setTop (mkF m 15 #[s0, .val (.int x), s2, .unset, .unset, .unset, .unset] [(.int (x &&& (2 : Int32)))])) _
    refine XS.ifNo h hx rfl (hb hby d1_15) rfl ((if0 _ _).trans (feq c1).1) ?_
    show Steps p.tables e below (T.setTop (mkF m 18 #[s0, .val (.int x), s2, .unset, .unset, .unset, .unset] [])) _
    refine XS.iconst h hx rfl (hb hby d1_18) ?_
    show Steps p.tables e below (T.setTop (mkF m 19 #[s0, .val (.int x), s2, .unset, .unset, .unset, .unset] [(.int (1 : Int32))])) _
    refine XS.goto h hx rfl (pc0 := 19) (pc' := 23) rfl (hb hby d1_19) (by decide) (by decide) ?_
    show Steps p.tables e below (T.setTop (mkF m 23 #[s0, .val (.int x), s2, .unset, .unset, .unset, .unset] [(.int (1 : Int32))])) _
    refine XS.istoreN h hx rfl (hb hby d1_23) rfl (l' := #[s0, .val (.int x), s2, .val (.int (1 : Int32)), .unset, .unset, .unset]) rfl ?_
    exact kt
set_option maxRecDepth 65536 in
set_option maxHeartbeats 4000000 in
theorem ck_b2 {p : Program} {e : Env} {below : List Frame} {m : MethodId} {c : Code} {T t : State} (s0 : Slot) (x : Int32) (s2 : Slot) (s3 : Slot) (h : At T m c below) (hx : p.tables.exec = Jvm.exec) (hby : c.code = method_2_code)  (kt : Steps p.tables e below (T.setTop (mkF m 37 #[s0, .val (.int x), s2, s3, .val (.int (own_bit x (4 : Int32))), .unset, .unset] [])) t) : Steps p.tables e below (T.setTop (mkF m 24 #[s0, .val (.int x), s2, s3, .unset, .unset, .unset] [])) t := by
  by_cases c1 : x &&& (4 : Int32) = 0
  · have hv : own_bit x (4 : Int32) = 0 := if_pos c1
    rw [hv] at kt
    show Steps p.tables e below (T.setTop (mkF m 24 #[s0, .val (.int x), s2, s3, .unset, .unset, .unset] [])) _
    refine XS.iloadN h hx rfl (hb hby d1_24) rfl ?_
    show Steps p.tables e below (T.setTop (mkF m 25 #[s0, .val (.int x), s2, s3, .unset, .unset, .unset] [(.int x)])) _
    refine XS.iconst h hx rfl (hb hby d1_25) ?_
    show Steps p.tables e below (T.setTop (mkF m 26 #[s0, .val (.int x), s2, s3, .unset, .unset, .unset] [(.int (4 : Int32)), (.int x)])) _
    refine XS.iand h hx rfl (hb hby d1_26) rfl ?_
    show Steps p.tables e below (T.setTop (mkF m 27 #[s0, .val (.int x), s2, s3, .unset, .unset, .unset] [(.int (x &&& (4 : Int32)))])) _
    refine XS.ifYes h hx rfl (pc0 := 27) (pc' := 34) rfl (hb hby d1_27) rfl ((if0 _ _).trans (teq c1).1) (by decide) (by decide) ?_
    show Steps p.tables e below (T.setTop (mkF m 34 #[s0, .val (.int x), s2, s3, .unset, .unset, .unset] [])) _
    refine XS.iconst h hx rfl (hb hby d1_34) ?_
    show Steps p.tables e below (T.setTop (mkF m 35 #[s0, .val (.int x), s2, s3, .unset, .unset, .unset] [(.int (0 : Int32))])) _
    refine XS.istore h hx rfl (hb hby d1_35) rfl (l' := #[s0, .val (.int x), s2, s3, .val (.int (0 : Int32)), .unset, .unset]) rfl ?_
    exact kt
  · have hv : own_bit x (4 : Int32) = 1 := if_neg c1
    rw [hv] at kt
    show Steps p.tables e below (T.setTop (mkF m 24 #[s0, .val (.int x), s2, s3, .unset, .unset, .unset] [])) _
    refine XS.iloadN h hx rfl (hb hby d1_24) rfl ?_
    show Steps p.tables e below (T.setTop (mkF m 25 #[s0, .val (.int x), s2, s3, .unset, .unset, .unset] [(.int x)])) _
    refine XS.iconst h hx rfl (hb hby d1_25) ?_
    show Steps p.tables e below (T.setTop (mkF m 26 #[s0, .val (.int x), s2, s3, .unset, .unset, .unset] [(.int (4 : Int32)), (.int x)])) _
    refine XS.iand h hx rfl (hb hby d1_26) rfl ?_
    show Steps p.tables e below (T.setTop (mkF m 27 #[s0, .val (.int x), s2, s3, .unset, .unset, .unset] [(.int (x &&& (4 : Int32)))])) _
    refine XS.ifNo h hx rfl (hb hby d1_27) rfl ((if0 _ _).trans (feq c1).1) ?_
    show Steps p.tables e below (T.setTop (mkF m 30 #[s0, .val (.int x), s2, s3, .unset, .unset, .unset] [])) _
    refine XS.iconst h hx rfl (hb hby d1_30) ?_
    show Steps p.tables e below (T.setTop (mkF m 31 #[s0, .val (.int x), s2, s3, .unset, .unset, .unset] [(.int (1 : Int32))])) _
    refine XS.goto h hx rfl (pc0 := 31) (pc' := 35) rfl (hb hby d1_31) (by decide) (by decide) ?_
    show Steps p.tables e below (T.setTop (mkF m 35 #[s0, .val (.int x), s2, s3, .unset, .unset, .unset] [(.int (1 : Int32))])) _
    refine XS.istore h hx rfl (hb hby d1_35) rfl (l' := #[s0, .val (.int x), s2, s3, .val (.int (1 : Int32)), .unset, .unset]) rfl ?_
    exact kt
set_option maxRecDepth 65536 in
set_option maxHeartbeats 4000000 in
theorem ck_b3 {p : Program} {e : Env} {below : List Frame} {m : MethodId} {c : Code} {T t : State} (s0 : Slot) (x : Int32) (s2 : Slot) (s3 : Slot) (s4 : Slot) (h : At T m c below) (hx : p.tables.exec = Jvm.exec) (hby : c.code = method_2_code)  (kt : Steps p.tables e below (T.setTop (mkF m 51 #[s0, .val (.int x), s2, s3, s4, .val (.int (own_bit x (8 : Int32))), .unset] [])) t) : Steps p.tables e below (T.setTop (mkF m 37 #[s0, .val (.int x), s2, s3, s4, .unset, .unset] [])) t := by
  by_cases c1 : x &&& (8 : Int32) = 0
  · have hv : own_bit x (8 : Int32) = 0 := if_pos c1
    rw [hv] at kt
    show Steps p.tables e below (T.setTop (mkF m 37 #[s0, .val (.int x), s2, s3, s4, .unset, .unset] [])) _
    refine XS.iloadN h hx rfl (hb hby d1_37) rfl ?_
    show Steps p.tables e below (T.setTop (mkF m 38 #[s0, .val (.int x), s2, s3, s4, .unset, .unset] [(.int x)])) _
    refine XS.bipush h hx rfl (hb hby d1_38) ?_
    show Steps p.tables e below (T.setTop (mkF m 40 #[s0, .val (.int x), s2, s3, s4, .unset, .unset] [(.int (8 : Int32)), (.int x)])) _
    refine XS.iand h hx rfl (hb hby d1_40) rfl ?_
    show Steps p.tables e below (T.setTop (mkF m 41 #[s0, .val (.int x), s2, s3, s4, .unset, .unset] [(.int (x &&& (8 : Int32)))])) _
    refine XS.ifYes h hx rfl (pc0 := 41) (pc' := 48) rfl (hb hby d1_41) rfl ((if0 _ _).trans (teq c1).1) (by decide) (by decide) ?_
    show Steps p.tables e below (T.setTop (mkF m 48 #[s0, .val (.int x), s2, s3, s4, .unset, .unset] [])) _
    refine XS.iconst h hx rfl (hb hby d1_48) ?_
    show Steps p.tables e below (T.setTop (mkF m 49 #[s0, .val (.int x), s2, s3, s4, .unset, .unset] [(.int (0 : Int32))])) _
    refine XS.istore h hx rfl (hb hby d1_49) rfl (l' := #[s0, .val (.int x), s2, s3, s4, .val (.int (0 : Int32)), .unset]) rfl ?_
    exact kt
  · have hv : own_bit x (8 : Int32) = 1 := if_neg c1
    rw [hv] at kt
    show Steps p.tables e below (T.setTop (mkF m 37 #[s0, .val (.int x), s2, s3, s4, .unset, .unset] [])) _
    refine XS.iloadN h hx rfl (hb hby d1_37) rfl ?_
    show Steps p.tables e below (T.setTop (mkF m 38 #[s0, .val (.int x), s2, s3, s4, .unset, .unset] [(.int x)])) _
    refine XS.bipush h hx rfl (hb hby d1_38) ?_
    show Steps p.tables e below (T.setTop (mkF m 40 #[s0, .val (.int x), s2, s3, s4, .unset, .unset] [(.int (8 : Int32)), (.int x)])) _
    refine XS.iand h hx rfl (hb hby d1_40) rfl ?_
    show Steps p.tables e below (T.setTop (mkF m 41 #[s0, .val (.int x), s2, s3, s4, .unset, .unset] [(.int (x &&& (8 : Int32)))])) _
    refine XS.ifNo h hx rfl (hb hby d1_41) rfl ((if0 _ _).trans (feq c1).1) ?_
    show Steps p.tables e below (T.setTop (mkF m 44 #[s0, .val (.int x), s2, s3, s4, .unset, .unset] [])) _
    refine XS.iconst h hx rfl (hb hby d1_44) ?_
    show Steps p.tables e below (T.setTop (mkF m 45 #[s0, .val (.int x), s2, s3, s4, .unset, .unset] [(.int (1 : Int32))])) _
    refine XS.goto h hx rfl (pc0 := 45) (pc' := 49) rfl (hb hby d1_45) (by decide) (by decide) ?_
    show Steps p.tables e below (T.setTop (mkF m 49 #[s0, .val (.int x), s2, s3, s4, .unset, .unset] [(.int (1 : Int32))])) _
    refine XS.istore h hx rfl (hb hby d1_49) rfl (l' := #[s0, .val (.int x), s2, s3, s4, .val (.int (1 : Int32)), .unset]) rfl ?_
    exact kt
set_option maxRecDepth 65536 in
set_option maxHeartbeats 4000000 in
theorem ck_b4 {p : Program} {e : Env} {below : List Frame} {m : MethodId} {c : Code} {T t : State} (s0 : Slot) (x : Int32) (s2 : Slot) (s3 : Slot) (s4 : Slot) (s5 : Slot) (h : At T m c below) (hx : p.tables.exec = Jvm.exec) (hby : c.code = method_2_code)  (kt : Steps p.tables e below (T.setTop (mkF m 65 #[s0, .val (.int x), s2, s3, s4, s5, .val (.int (own_bit x (16 : Int32)))] [])) t) : Steps p.tables e below (T.setTop (mkF m 51 #[s0, .val (.int x), s2, s3, s4, s5, .unset] [])) t := by
  by_cases c1 : x &&& (16 : Int32) = 0
  · have hv : own_bit x (16 : Int32) = 0 := if_pos c1
    rw [hv] at kt
    show Steps p.tables e below (T.setTop (mkF m 51 #[s0, .val (.int x), s2, s3, s4, s5, .unset] [])) _
    refine XS.iloadN h hx rfl (hb hby d1_51) rfl ?_
    show Steps p.tables e below (T.setTop (mkF m 52 #[s0, .val (.int x), s2, s3, s4, s5, .unset] [(.int x)])) _
    refine XS.bipush h hx rfl (hb hby d1_52) ?_
    show Steps p.tables e below (T.setTop (mkF m 54 #[s0, .val (.int x), s2, s3, s4, s5, .unset] [(.int (16 : Int32)), (.int x)])) _
    refine XS.iand h hx rfl (hb hby d1_54) rfl ?_
    show Steps p.tables e below (T.setTop (mkF m 55 #[s0, .val (.int x), s2, s3, s4, s5, .unset] [(.int (x &&& (16 : Int32)))])) _
    refine XS.ifYes h hx rfl (pc0 := 55) (pc' := 62) rfl (hb hby d1_55) rfl ((if0 _ _).trans (teq c1).1) (by decide) (by decide) ?_
    show Steps p.tables e below (T.setTop (mkF m 62 #[s0, .val (.int x), s2, s3, s4, s5, .unset] [])) _
    refine XS.iconst h hx rfl (hb hby d1_62) ?_
    show Steps p.tables e below (T.setTop (mkF m 63 #[s0, .val (.int x), s2, s3, s4, s5, .unset] [(.int (0 : Int32))])) _
    refine XS.istore h hx rfl (hb hby d1_63) rfl (l' := #[s0, .val (.int x), s2, s3, s4, s5, .val (.int (0 : Int32))]) rfl ?_
    exact kt
  · have hv : own_bit x (16 : Int32) = 1 := if_neg c1
    rw [hv] at kt
    show Steps p.tables e below (T.setTop (mkF m 51 #[s0, .val (.int x), s2, s3, s4, s5, .unset] [])) _
    refine XS.iloadN h hx rfl (hb hby d1_51) rfl ?_
    show Steps p.tables e below (T.setTop (mkF m 52 #[s0, .val (.int x), s2, s3, s4, s5, .unset] [(.int x)])) _
    refine XS.bipush h hx rfl (hb hby d1_52) ?_
    show Steps p.tables e below (T.setTop (mkF m 54 #[s0, .val (.int x), s2, s3, s4, s5, .unset] [(.int (16 : Int32)), (.int x)])) _
    refine XS.iand h hx rfl (hb hby d1_54) rfl ?_
    show Steps p.tables e below (T.setTop (mkF m 55 #[s0, .val (.int x), s2, s3, s4, s5, .unset] [(.int (x &&& (16 : Int32)))])) _
    refine XS.ifNo h hx rfl (hb hby d1_55) rfl ((if0 _ _).trans (feq c1).1) ?_
    show Steps p.tables e below (T.setTop (mkF m 58 #[s0, .val (.int x), s2, s3, s4, s5, .unset] [])) _
    refine XS.iconst h hx rfl (hb hby d1_58) ?_
    show Steps p.tables e below (T.setTop (mkF m 59 #[s0, .val (.int x), s2, s3, s4, s5, .unset] [(.int (1 : Int32))])) _
    refine XS.goto h hx rfl (pc0 := 59) (pc' := 63) rfl (hb hby d1_59) (by decide) (by decide) ?_
    show Steps p.tables e below (T.setTop (mkF m 63 #[s0, .val (.int x), s2, s3, s4, s5, .unset] [(.int (1 : Int32))])) _
    refine XS.istore h hx rfl (hb hby d1_63) rfl (l' := #[s0, .val (.int x), s2, s3, s4, s5, .val (.int (1 : Int32))]) rfl ?_
    exact kt
def Q1 (Z : State) (k : Nat) (x : Int32) (h0 : Heap) (n0 : Nat) (v : Option Value) (h : Heap) (L : List Loc) : Prop := ∃ (a : Addr) (kc : ClassId), v = some (.ref a) ∧ Fr n0 L ∧ n0 ≤ a ∧ Keep h0 h [] ∧ Arv Z h a kc .boolean (Int32.ofNat k) (own_vals (own_f x) k) (.int (0 : Int32))
theorem ef_rm1 (m : MethodId) (x0 : Int32) (x1 : Int32) : entryFrame m #[(.int x0), (.int x1)] 7 = mkF m 0 #[.val (.int x0), .val (.int x1), .unset, .unset, .unset, .unset, .unset] [] := by first | (simp [entryFrame, mkF, argsToLocals, Value.category]; done) | rfl
theorem pn_rm1 : plainName "com/example/fanoutlint/fanoutlint/check/LabelsAnyPinLaw" = true := by first | (simp [plainName, overriddenIn]; done) | decide +kernel
set_option maxRecDepth 65536 in
set_option maxHeartbeats 40000000 in
theorem rm1 (l : Launch) (Z : State) (a0 : Array Value) (hw : ∀ d ∈ tables_1, d.before a0 Z = true) (ws : List Jvm.Cond) (k : Nat) (x : Int32) (h0 : Heap) (n0 : Nat) (Z0 : n0 ≤ h0.size) (hk : k ≤ 5) :
    MetFree l (⟨"com/example/fanoutlint/fanoutlint/check/LabelsAnyPinLaw", "make", "(II)[Z"⟩ : MethodName) (head1 (Jvm.Cond.code (⟨"com/example/fanoutlint/fanoutlint/check/LabelsAnyPinLaw", "make", "(II)[Z"⟩ : MethodName) method_2_code 7 (some (.array .boolean)) :: ws) ({ frames := 0, cells := 1, slots := 5, locals := 0 } : Room)) (fun a U => a = #[(.int (Int32.ofNat k)), (.int x)] ∧ Z.Warmed39 U.vm ∧ U.heap = h0) (fun _ _ _ _ _ => True) (fun _ U oc U' => ∃ v L, oc = .returned v ∧ Q1 Z k x h0 n0 v U'.heap L ∧ FrameEnd U oc U' L ({ frames := 0, cells := 1, slots := 5, locals := 0 } : Room).cells ({ frames := 0, cells := 1, slots := 5, locals := 0 } : Room).slots) := by
  refine MetFree.of_bodySF (plainFor_of_name pn_rm1) hisR ?_
  intro p e s m args below meth c s₁ Bd hml0 hP hK
  obtain ⟨rfl, hZ, hh⟩ := hP
  have hx := Bd.exec
  have hby := Bd.bytes
  have hml : c.maxLocals = 7 := hml0
  have hown : s.vm.findClass "com/example/fanoutlint/fanoutlint/check/LabelsAnyPinLaw" = some m.cls := findClass_of_methodNamed Bd.named
  have hnm := (name_of_methodNamed Bd.named Bd.method).1
  have X0 : Stand p l e ({ frames := 0, cells := 1, slots := 5, locals := 0 } : Room) s m #[(.int (Int32.ofNat k)), (.int x)] below meth c s₁ [] 0 0 := Stand.of_body Bd
  have e0 : s₁.heap = h0 := by rw [← hh, Bd.state]; rfl
  have N0 := Fr.nil n0
  have pre0 : ∀ tt, Steps p.tables e below (s₁.setTop (mkF m 0 #[.val (.int (Int32.ofNat k)), .val (.int x), .unset, .unset, .unset, .unset, .unset] [])) tt → Steps p.tables e below (s₁.setTop (entryFrame m #[(.int (Int32.ofNat k)), (.int x)] 7)) tt := fun tt kt => castTop (ef_rm1 m (Int32.ofNat k) x) kt
  have pre1 : ∀ tt, Steps p.tables e below (s₁.setTop (mkF m 65 #[.val (.int (Int32.ofNat k)), .val (.int x), .val (.int (own_bit x (1 : Int32))), .val (.int (own_bit x (2 : Int32))), .val (.int (own_bit x (4 : Int32))), .val (.int (own_bit x (8 : Int32))), .val (.int (own_bit x (16 : Int32)))] [])) tt → Steps p.tables e below (s₁.setTop (entryFrame m #[(.int (Int32.ofNat k)), (.int x)] 7)) tt := by
    intro tt kt
    refine pre0 tt ?_
    show Steps p.tables e below (s₁.setTop (mkF m 0 #[.val (.int (Int32.ofNat k)), .val (.int x), .unset, .unset, .unset, .unset, .unset] [])) _
    refine ck_b0 _ _ X0.here hx hby ?_
    show Steps p.tables e below (s₁.setTop (mkF m 12 #[.val (.int (Int32.ofNat k)), .val (.int x), .val (.int (own_bit x (1 : Int32))), .unset, .unset, .unset, .unset] [])) _
    refine ck_b1 _ _ _ X0.here hx hby ?_
    show Steps p.tables e below (s₁.setTop (mkF m 24 #[.val (.int (Int32.ofNat k)), .val (.int x), .val (.int (own_bit x (1 : Int32))), .val (.int (own_bit x (2 : Int32))), .unset, .unset, .unset] [])) _
    refine ck_b2 _ _ _ _ X0.here hx hby ?_
    show Steps p.tables e below (s₁.setTop (mkF m 37 #[.val (.int (Int32.ofNat k)), .val (.int x), .val (.int (own_bit x (1 : Int32))), .val (.int (own_bit x (2 : Int32))), .val (.int (own_bit x (4 : Int32))), .unset, .unset] [])) _
    refine ck_b3 _ _ _ _ _ X0.here hx hby ?_
    show Steps p.tables e below (s₁.setTop (mkF m 51 #[.val (.int (Int32.ofNat k)), .val (.int x), .val (.int (own_bit x (1 : Int32))), .val (.int (own_bit x (2 : Int32))), .val (.int (own_bit x (4 : Int32))), .val (.int (own_bit x (8 : Int32))), .unset] [])) _
    refine ck_b4 _ _ _ _ _ _ X0.here hx hby ?_
    exact kt
  have hk' : k = 0 ∨ k = 1 ∨ k = 2 ∨ k = 3 ∨ k = 4 ∨ k = 5 := by omega
  rcases hk' with rfl | rfl | rfl | rfl | rfl | rfl
  · skip
    obtain ⟨Ta2, ha2, ka2, Xa2, ea2, Ea2, Aa2, sta2⟩ := newP X0 hx hZ (hw _ (List.mem_of_getElem? (i := 5) rfl)) e0 (g := (mkF m 70 #[.val (.int (Int32.ofNat 0)), .val (.int x), .val (.int (own_bit x (1 : Int32))), .val (.int (own_bit x (2 : Int32))), .val (.int (own_bit x (4 : Int32))), .val (.int (own_bit x (8 : Int32))), .val (.int (own_bit x (16 : Int32)))] [(.int (0 : Int32))])) rfl (hb hby d1_70) rfl (by decide) (cap := 0) (by decide) (by decide) (by decide) (by decide)
    obtain ⟨ba2, ga2⟩ : ∃ z, z = h0.size := ⟨_, rfl⟩
    rw [← ga2] at Aa2 sta2
    have Va2 := Arv.new Aa2 (by decide)
    have g_ba2 : n0 ≤ ba2 := Nat.le_trans Z0 (Nat.le_of_eq ga2.symm)
    have sz_ba2 : h0.size ≤ ba2 := Nat.le_of_eq ga2.symm
    have Ka2 : Keep h0 ha2 [] := (Keep.refl h0 []).ext Ea2
    have Va2_0 : Arv Z ha2 ba2 ka2 .boolean (0 : Int32) [] (.int (0 : Int32)) := Va2.pad (pad_rep [] (.int (0 : Int32)) 0)
    have prea3 : ∀ tt, Steps p.tables e below (Ta2.setTop (mkF m 72 #[.val (.int (Int32.ofNat 0)), .val (.int x), .val (.int (own_bit x (1 : Int32))), .val (.int (own_bit x (2 : Int32))), .val (.int (own_bit x (4 : Int32))), .val (.int (own_bit x (8 : Int32))), .val (.int (own_bit x (16 : Int32)))] [(.ref ba2)])) tt → Steps p.tables e below (s₁.setTop (entryFrame m #[(.int (Int32.ofNat 0)), (.int x)] 7)) tt := by
      intro tt kt
      refine pre1 tt ?_
      show Steps p.tables e below (s₁.setTop (mkF m 65 #[.val (.int (Int32.ofNat 0)), .val (.int x), .val (.int (own_bit x (1 : Int32))), .val (.int (own_bit x (2 : Int32))), .val (.int (own_bit x (4 : Int32))), .val (.int (own_bit x (8 : Int32))), .val (.int (own_bit x (16 : Int32)))] [])) _
      refine XS.iloadN X0.here hx rfl (hb hby d1_65) rfl ?_
      show Steps p.tables e below (s₁.setTop (mkF m 66 #[.val (.int (Int32.ofNat 0)), .val (.int x), .val (.int (own_bit x (1 : Int32))), .val (.int (own_bit x (2 : Int32))), .val (.int (own_bit x (4 : Int32))), .val (.int (own_bit x (8 : Int32))), .val (.int (own_bit x (16 : Int32)))] [(.int (Int32.ofNat 0))])) _
      refine XS.ifNo X0.here hx rfl (hb hby d1_66) rfl ((if0 _ _).trans (teq (by decide)).2) ?_
      show Steps p.tables e below (s₁.setTop (mkF m 69 #[.val (.int (Int32.ofNat 0)), .val (.int x), .val (.int (own_bit x (1 : Int32))), .val (.int (own_bit x (2 : Int32))), .val (.int (own_bit x (4 : Int32))), .val (.int (own_bit x (8 : Int32))), .val (.int (own_bit x (16 : Int32)))] [])) _
      refine XS.iconst X0.here hx rfl (hb hby d1_69) ?_
      show Steps p.tables e below (s₁.setTop (mkF m 70 #[.val (.int (Int32.ofNat 0)), .val (.int x), .val (.int (own_bit x (1 : Int32))), .val (.int (own_bit x (2 : Int32))), .val (.int (own_bit x (4 : Int32))), .val (.int (own_bit x (8 : Int32))), .val (.int (own_bit x (16 : Int32)))] [(.int (0 : Int32))])) _
      refine sta2 _ ?_
      exact kt
    obtain ⟨fs, hr, hrun, hended, hW, hsame⟩ := Xa2.leave (v := some (.ref ba2)) (fun h => by rw [Bd.returns] at h; cases h)
    refine ⟨_, _, prea3 _ ?_, hrun, hended, _, _, rfl, ?_, ⟨_, rfl⟩, hW, hsame.mono (by decide) (by decide)⟩
    · exact retOut Xa2 hx Bd.returns rfl (Or.inr (Or.inr (Or.inr (Or.inr ⟨rfl, rfl, rfl⟩)))) (hb hby d1_72) hr
    · show Q1 Z 0 x h0 n0 _ Ta2.heap _
      rw [ea2]
      exact ⟨ba2, ka2, rfl, N0, g_ba2, Ka2, Va2_0⟩
  · skip
    obtain ⟨Tb2, hb2, kb2, Xb2, eb2, Eb2, Ab2, stb2⟩ := newP X0 hx hZ (hw _ (List.mem_of_getElem? (i := 5) rfl)) e0 (g := (mkF m 79 #[.val (.int (Int32.ofNat 1)), .val (.int x), .val (.int (own_bit x (1 : Int32))), .val (.int (own_bit x (2 : Int32))), .val (.int (own_bit x (4 : Int32))), .val (.int (own_bit x (8 : Int32))), .val (.int (own_bit x (16 : Int32)))] [(.int (1 : Int32))])) rfl (hb hby d1_79) rfl (by decide) (cap := 1) (by decide) (by decide) (by decide) (by decide)
    obtain ⟨bb2, gb2⟩ : ∃ z, z = h0.size := ⟨_, rfl⟩
    rw [← gb2] at Ab2 stb2
    have Vb2 := Arv.new Ab2 (by decide)
    have g_bb2 : n0 ≤ bb2 := Nat.le_trans Z0 (Nat.le_of_eq gb2.symm)
    have sz_bb2 : h0.size ≤ bb2 := Nat.le_of_eq gb2.symm
    have Kb2 : Keep h0 hb2 [] := (Keep.refl h0 []).ext Eb2
    have Vb2_0 : Arv Z hb2 bb2 kb2 .boolean (1 : Int32) [(.int (0 : Int32))] (.int (0 : Int32)) := Vb2.pad (pad_rep [] (.int (0 : Int32)) 1)
    obtain ⟨cb2_0, Ab2_0, qb2_0, Sb2_0, Mb2_0, Hb2_0, Gb2_0⟩ := Vb2_0
    obtain ⟨Tb3, hb3, Xb3, eb3, Wb3, stb3⟩ := stZ Xb2 hx hZ eb2 Ab2_0 (j := (0 : Int32)) (inb_of Sb2_0 ⟨by decide, by decide⟩) (g := (mkF m 84 #[.val (.int (Int32.ofNat 1)), .val (.int x), .val (.int (own_bit x (1 : Int32))), .val (.int (own_bit x (2 : Int32))), .val (.int (own_bit x (4 : Int32))), .val (.int (own_bit x (8 : Int32))), .val (.int (own_bit x (16 : Int32)))] [(.int (own_bit x (1 : Int32))), (.int (0 : Int32)), (.ref bb2), (.ref bb2)])) rfl rfl (hb hby d1_84)
    have Nb3 := Fr.snoc Xb3 N0 g_bb2
    rw [own_nar (own_bit01 _ _)] at Wb3
    have Vb2_1 : Arv Z hb3 bb2 kb2 .boolean (1 : Int32) [(.int (own_bit x (1 : Int32)))] (.int (0 : Int32)) := Arv.set Ab2_0 qb2_0 Sb2_0 Mb2_0 Hb2_0 Gb2_0 (by rw [← own_nar (own_bit01 _ _)]; exact fits_nar_bool _) Wb3 0 rfl (Nat.le_of_ble_eq_true rfl)
    have Kb3 : Keep h0 hb3 [] := Kb2.wr Wb3 (Or.inr sz_bb2)
    have preb4 : ∀ tt, Steps p.tables e below (Tb3.setTop (mkF m 85 #[.val (.int (Int32.ofNat 1)), .val (.int x), .val (.int (own_bit x (1 : Int32))), .val (.int (own_bit x (2 : Int32))), .val (.int (own_bit x (4 : Int32))), .val (.int (own_bit x (8 : Int32))), .val (.int (own_bit x (16 : Int32)))] [(.ref bb2)])) tt → Steps p.tables e below (s₁.setTop (entryFrame m #[(.int (Int32.ofNat 1)), (.int x)] 7)) tt := by
      intro tt kt
      refine pre1 tt ?_
      show Steps p.tables e below (s₁.setTop (mkF m 65 #[.val (.int (Int32.ofNat 1)), .val (.int x), .val (.int (own_bit x (1 : Int32))), .val (.int (own_bit x (2 : Int32))), .val (.int (own_bit x (4 : Int32))), .val (.int (own_bit x (8 : Int32))), .val (.int (own_bit x (16 : Int32)))] [])) _
      refine XS.iloadN X0.here hx rfl (hb hby d1_65) rfl ?_
      show Steps p.tables e below (s₁.setTop (mkF m 66 #[.val (.int (Int32.ofNat 1)), .val (.int x), .val (.int (own_bit x (1 : Int32))), .val (.int (own_bit x (2 : Int32))), .val (.int (own_bit x (4 : Int32))), .val (.int (own_bit x (8 : Int32))), .val (.int (own_bit x (16 : Int32)))] [(.int (Int32.ofNat 1))])) _
      refine XS.ifYes X0.here hx rfl (pc0 := 66) (pc' := 73) rfl (hb hby d1_66) rfl ((if0 _ _).trans (feq (by decide)).2) (by decide) (by decide) ?_
      show Steps p.tables e below (s₁.setTop (mkF m 73 #[.val (.int (Int32.ofNat 1)), .val (.int x), .val (.int (own_bit x (1 : Int32))), .val (.int (own_bit x (2 : Int32))), .val (.int (own_bit x (4 : Int32))), .val (.int (own_bit x (8 : Int32))), .val (.int (own_bit x (16 : Int32)))] [])) _
      refine XS.iloadN X0.here hx rfl (hb hby d1_73) rfl ?_
      show Steps p.tables e below (s₁.setTop (mkF m 74 #[.val (.int (Int32.ofNat 1)), .val (.int x), .val (.int (own_bit x (1 : Int32))), .val (.int (own_bit x (2 : Int32))), .val (.int (own_bit x (4 : Int32))), .val (.int (own_bit x (8 : Int32))), .val (.int (own_bit x (16 : Int32)))] [(.int (Int32.ofNat 1))])) _
      refine XS.iconst X0.here hx rfl (hb hby d1_74) ?_
      show Steps p.tables e below (s₁.setTop (mkF m 75 #[.val (.int (Int32.ofNat 1)), .val (.int x), .val (.int (own_bit x (1 : Int32))), .val (.int (own_bit x (2 : Int32))), .val (.int (own_bit x (4 : Int32))), .val (.int (own_bit x (8 : Int32))), .val (.int (own_bit x (16 : Int32)))] [(.int (1 : Int32)), (.int (Int32.ofNat 1))])) _
      refine XS.icmpNo X0.here hx rfl (hb hby d1_75) rfl (teq (by decide)).2 ?_
      show Steps p.tables e below (s₁.setTop (mkF m 78 #[.val (.int (Int32.ofNat 1)), .val (.int x), .val (.int (own_bit x (1 : Int32))), .val (.int (own_bit x (2 : Int32))), .val (.int (own_bit x (4 : Int32))), .val (.int (own_bit x (8 : Int32))), .val (.int (own_bit x (16 : Int32)))] [])) _
      refine XS.iconst X0.here hx rfl (hb hby d1_78) ?_
      show Steps p.tables e below (s₁.setTop (mkF m 79 #[.val (.int (Int32.ofNat 1)), .val (.int x), .val (.int (own_bit x (1 : Int32))), .val (.int (own_bit x (2 : Int32))), .val (.int (own_bit x (4 : Int32))), .val (.int (own_bit x (8 : Int32))), .val (.int (own_bit x (16 : Int32)))] [(.int (1 : Int32))])) _
      refine stb2 _ ?_
      show Steps p.tables e below (Tb2.setTop (mkF m 81 #[.val (.int (Int32.ofNat 1)), .val (.int x), .val (.int (own_bit x (1 : Int32))), .val (.int (own_bit x (2 : Int32))), .val (.int (own_bit x (4 : Int32))), .val (.int (own_bit x (8 : Int32))), .val (.int (own_bit x (16 : Int32)))] [(.ref bb2)])) _
      refine XS.dup Xb2.here hx rfl (hb hby d1_81) rfl rfl ?_
      show Steps p.tables e below (Tb2.setTop (mkF m 82 #[.val (.int (Int32.ofNat 1)), .val (.int x), .val (.int (own_bit x (1 : Int32))), .val (.int (own_bit x (2 : Int32))), .val (.int (own_bit x (4 : Int32))), .val (.int (own_bit x (8 : Int32))), .val (.int (own_bit x (16 : Int32)))] [(.ref bb2), (.ref bb2)])) _
      refine XS.iconst Xb2.here hx rfl (hb hby d1_82) ?_
      show Steps p.tables e below (Tb2.setTop (mkF m 83 #[.val (.int (Int32.ofNat 1)), .val (.int x), .val (.int (own_bit x (1 : Int32))), .val (.int (own_bit x (2 : Int32))), .val (.int (own_bit x (4 : Int32))), .val (.int (own_bit x (8 : Int32))), .val (.int (own_bit x (16 : Int32)))] [(.int (0 : Int32)), (.ref bb2), (.ref bb2)])) _
      refine XS.iloadN Xb2.here hx rfl (hb hby d1_83) rfl ?_
      show Steps p.tables e below (Tb2.setTop (mkF m 84 #[.val (.int (Int32.ofNat 1)), .val (.int x), .val (.int (own_bit x (1 : Int32))), .val (.int (own_bit x (2 : Int32))), .val (.int (own_bit x (4 : Int32))), .val (.int (own_bit x (8 : Int32))), .val (.int (own_bit x (16 : Int32)))] [(.int (own_bit x (1 : Int32))), (.int (0 : Int32)), (.ref bb2), (.ref bb2)])) _
      refine stb3 _ ?_
      exact kt
    obtain ⟨fs, hr, hrun, hended, hW, hsame⟩ := Xb3.leave (v := some (.ref bb2)) (fun h => by rw [Bd.returns] at h; cases h)
    refine ⟨_, _, preb4 _ ?_, hrun, hended, _, _, rfl, ?_, ⟨_, rfl⟩, hW, hsame.mono (by decide) (by decide)⟩
    · exact retOut Xb3 hx Bd.returns rfl (Or.inr (Or.inr (Or.inr (Or.inr ⟨rfl, rfl, rfl⟩)))) (hb hby d1_85) hr
    · show Q1 Z 1 x h0 n0 _ Tb3.heap _
      rw [eb3]
      exact ⟨bb2, kb2, rfl, Nb3, g_bb2, Kb3, Vb2_1⟩
  · skip
    obtain ⟨Tc2, hc2, kc2, Xc2, ec2, Ec2, Ac2, stc2⟩ := newP X0 hx hZ (hw _ (List.mem_of_getElem? (i := 5) rfl)) e0 (g := (mkF m 92 #[.val (.int (Int32.ofNat 2)), .val (.int x), .val (.int (own_bit x (1 : Int32))), .val (.int (own_bit x (2 : Int32))), .val (.int (own_bit x (4 : Int32))), .val (.int (own_bit x (8 : Int32))), .val (.int (own_bit x (16 : Int32)))] [(.int (2 : Int32))])) rfl (hb hby d1_92) rfl (by decide) (cap := 2) (by decide) (by decide) (by decide) (by decide)
    obtain ⟨bc2, gc2⟩ : ∃ z, z = h0.size := ⟨_, rfl⟩
    rw [← gc2] at Ac2 stc2
    have Vc2 := Arv.new Ac2 (by decide)
    have g_bc2 : n0 ≤ bc2 := Nat.le_trans Z0 (Nat.le_of_eq gc2.symm)
    have sz_bc2 : h0.size ≤ bc2 := Nat.le_of_eq gc2.symm
    have Kc2 : Keep h0 hc2 [] := (Keep.refl h0 []).ext Ec2
    have Vc2_0 : Arv Z hc2 bc2 kc2 .boolean (2 : Int32) [(.int (0 : Int32)), (.int (0 : Int32))] (.int (0 : Int32)) := Vc2.pad (pad_rep [] (.int (0 : Int32)) 2)
    obtain ⟨cc2_0, Ac2_0, qc2_0, Sc2_0, Mc2_0, Hc2_0, Gc2_0⟩ := Vc2_0
    obtain ⟨Tc3, hc3, Xc3, ec3, Wc3, stc3⟩ := stZ Xc2 hx hZ ec2 Ac2_0 (j := (0 : Int32)) (inb_of Sc2_0 ⟨by decide, by decide⟩) (g := (mkF m 97 #[.val (.int (Int32.ofNat 2)), .val (.int x), .val (.int (own_bit x (1 : Int32))), .val (.int (own_bit x (2 : Int32))), .val (.int (own_bit x (4 : Int32))), .val (.int (own_bit x (8 : Int32))), .val (.int (own_bit x (16 : Int32)))] [(.int (own_bit x (1 : Int32))), (.int (0 : Int32)), (.ref bc2), (.ref bc2)])) rfl rfl (hb hby d1_97)
    have Nc3 := Fr.snoc Xc3 N0 g_bc2
    rw [own_nar (own_bit01 _ _)] at Wc3
    have Vc2_1 : Arv Z hc3 bc2 kc2 .boolean (2 : Int32) [(.int (own_bit x (1 : Int32))), (.int (0 : Int32))] (.int (0 : Int32)) := Arv.set Ac2_0 qc2_0 Sc2_0 Mc2_0 Hc2_0 Gc2_0 (by rw [← own_nar (own_bit01 _ _)]; exact fits_nar_bool _) Wc3 0 rfl (Nat.le_of_ble_eq_true rfl)
    have Kc3 : Keep h0 hc3 [] := Kc2.wr Wc3 (Or.inr sz_bc2)
    obtain ⟨cc2_1, Ac2_1, qc2_1, Sc2_1, Mc2_1, Hc2_1, Gc2_1⟩ := Vc2_1
    obtain ⟨Tc4, hc4, Xc4, ec4, Wc4, stc4⟩ := stZ Xc3 hx hZ ec3 Ac2_1 (j := (1 : Int32)) (inb_of Sc2_1 ⟨by decide, by decide⟩) (g := (mkF m 101 #[.val (.int (Int32.ofNat 2)), .val (.int x), .val (.int (own_bit x (1 : Int32))), .val (.int (own_bit x (2 : Int32))), .val (.int (own_bit x (4 : Int32))), .val (.int (own_bit x (8 : Int32))), .val (.int (own_bit x (16 : Int32)))] [(.int (own_bit x (2 : Int32))), (.int (1 : Int32)), (.ref bc2), (.ref bc2)])) rfl rfl (hb hby d1_101)
    have Nc4 := Fr.snoc Xc4 Nc3 g_bc2
    rw [own_nar (own_bit01 _ _)] at Wc4
    have Vc2_2 : Arv Z hc4 bc2 kc2 .boolean (2 : Int32) [(.int (own_bit x (1 : Int32))), (.int (own_bit x (2 : Int32)))] (.int (0 : Int32)) := Arv.set Ac2_1 qc2_1 Sc2_1 Mc2_1 Hc2_1 Gc2_1 (by rw [← own_nar (own_bit01 _ _)]; exact fits_nar_bool _) Wc4 1 rfl (Nat.le_of_ble_eq_true rfl)
    have Kc4 : Keep h0 hc4 [] := Kc3.wr Wc4 (Or.inr sz_bc2)
    have prec5 : ∀ tt, Steps p.tables e below (Tc4.setTop (mkF m 102 #[.val (.int (Int32.ofNat 2)), .val (.int x), .val (.int (own_bit x (1 : Int32))), .val (.int (own_bit x (2 : Int32))), .val (.int (own_bit x (4 : Int32))), .val (.int (own_bit x (8 : Int32))), .val (.int (own_bit x (16 : Int32)))] [(.ref bc2)])) tt → Steps p.tables e below (s₁.setTop (entryFrame m #[(.int (Int32.ofNat 2)), (.int x)] 7)) tt := by
      intro tt kt
      refine pre1 tt ?_
      show Steps p.tables e below (s₁.setTop (mkF m 65 #[.val (.int (Int32.ofNat 2)), .val (.int x), .val (.int (own_bit x (1 : Int32))), .val (.int (own_bit x (2 : Int32))), .val (.int (own_bit x (4 : Int32))), .val (.int (own_bit x (8 : Int32))), .val (.int (own_bit x (16 : Int32)))] [])) _
      refine XS.iloadN X0.here hx rfl (hb hby d1_65) rfl ?_
      show Steps p.tables e below (s₁.setTop (mkF m 66 #[.val (.int (Int32.ofNat 2)), .val (.int x), .val (.int (own_bit x (1 : Int32))), .val (.int (own_bit x (2 : Int32))), .val (.int (own_bit x (4 : Int32))), .val (.int (own_bit x (8 : Int32))), .val (.int (own_bit x (16 : Int32)))] [(.int (Int32.ofNat 2))])) _
      refine XS.ifYes X0.here hx rfl (pc0 := 66) (pc' := 73) rfl (hb hby d1_66) rfl ((if0 _ _).trans (feq (by decide)).2) (by decide) (by decide) ?_
      show Steps p.tables e below (s₁.setTop (mkF m 73 #[.val (.int (Int32.ofNat 2)), .val (.int x), .val (.int (own_bit x (1 : Int32))), .val (.int (own_bit x (2 : Int32))), .val (.int (own_bit x (4 : Int32))), .val (.int (own_bit x (8 : Int32))), .val (.int (own_bit x (16 : Int32)))] [])) _
      refine XS.iloadN X0.here hx rfl (hb hby d1_73) rfl ?_
      show Steps p.tables e below (s₁.setTop (mkF m 74 #[.val (.int (Int32.ofNat 2)), .val (.int x), .val (.int (own_bit x (1 : Int32))), .val (.int (own_bit x (2 : Int32))), .val (.int (own_bit x (4 : Int32))), .val (.int (own_bit x (8 : Int32))), .val (.int (own_bit x (16 : Int32)))] [(.int (Int32.ofNat 2))])) _
      refine XS.iconst X0.here hx rfl (hb hby d1_74) ?_
      show Steps p.tables e below (s₁.setTop (mkF m 75 #[.val (.int (Int32.ofNat 2)), .val (.int x), .val (.int (own_bit x (1 : Int32))), .val (.int (own_bit x (2 : Int32))), .val (.int (own_bit x (4 : Int32))), .val (.int (own_bit x (8 : Int32))), .val (.int (own_bit x (16 : Int32)))] [(.int (1 : Int32)), (.int (Int32.ofNat 2))])) _
      refine XS.icmpYes X0.here hx rfl (pc0 := 75) (pc' := 86) rfl (hb hby d1_75) rfl (feq (by decide)).2 (by decide) (by decide) ?_
      show Steps p.tables e below (s₁.setTop (mkF m 86 #[.val (.int (Int32.ofNat 2)), .val (.int x), .val (.int (own_bit x (1 : Int32))), .val (.int (own_bit x (2 : Int32))), .val (.int (own_bit x (4 : Int32))), .val (.int (own_bit x (8 : Int32))), .val (.int (own_bit x (16 : Int32)))] [])) _
      refine XS.iloadN X0.here hx rfl (hb hby d1_86) rfl ?_
      show Steps p.tables e below (s₁.setTop (mkF m 87 #[.val (.int (Int32.ofNat 2)), .val (.int x), .val (.int (own_bit x (1 : Int32))), .val (.int (own_bit x (2 : Int32))), .val (.int (own_bit x (4 : Int32))), .val (.int (own_bit x (8 : Int32))), .val (.int (own_bit x (16 : Int32)))] [(.int (Int32.ofNat 2))])) _
      refine XS.iconst X0.here hx rfl (hb hby d1_87) ?_
      show Steps p.tables e below (s₁.setTop (mkF m 88 #[.val (.int (Int32.ofNat 2)), .val (.int x), .val (.int (own_bit x (1 : Int32))), .val (.int (own_bit x (2 : Int32))), .val (.int (own_bit x (4 : Int32))), .val (.int (own_bit x (8 : Int32))), .val (.int (own_bit x (16 : Int32)))] [(.int (2 : Int32)), (.int (Int32.ofNat 2))])) _
      refine XS.icmpNo X0.here hx rfl (hb hby d1_88) rfl (teq (by decide)).2 ?_
      show Steps p.tables e below (s₁.setTop (mkF m 91 #[.val (.int (Int32.ofNat 2)), .val (.int x), .val (.int (own_bit x (1 : Int32))), .val (.int (own_bit x (2 : Int32))), .val (.int (own_bit x (4 : Int32))), .val (.int (own_bit x (8 : Int32))), .val (.int (own_bit x (16 : Int32)))] [])) _
      refine XS.iconst X0.here hx rfl (hb hby d1_91) ?_
      show Steps p.tables e below (s₁.setTop (mkF m 92 #[.val (.int (Int32.ofNat 2)), .val (.int x), .val (.int (own_bit x (1 : Int32))), .val (.int (own_bit x (2 : Int32))), .val (.int (own_bit x (4 : Int32))), .val (.int (own_bit x (8 : Int32))), .val (.int (own_bit x (16 : Int32)))] [(.int (2 : Int32))])) _
      refine stc2 _ ?_
      show Steps p.tables e below (Tc2.setTop (mkF m 94 #[.val (.int (Int32.ofNat 2)), .val (.int x), .val (.int (own_bit x (1 : Int32))), .val (.int (own_bit x (2 : Int32))), .val (.int (own_bit x (4 : Int32))), .val (.int (own_bit x (8 : Int32))), .val (.int (own_bit x (16 : Int32)))] [(.ref bc2)])) _
      refine XS.dup Xc2.here hx rfl (hb hby d1_94) rfl rfl ?_
      show Steps p.tables e below (Tc2.setTop (mkF m 95 #[.val (.int (Int32.ofNat 2)), .val (.int x), .val (.int (own_bit x (1 : Int32))), .val (.int (own_bit x (2 : Int32))), .val (.int (own_bit x (4 : Int32))), .val (.int (own_bit x (8 : Int32))), .val (.int (own_bit x (16 : Int32)))] [(.ref bc2), (.ref bc2)])) _
      refine XS.iconst Xc2.here hx rfl (hb hby d1_95) ?_
      show Steps p.tables e below (Tc2.setTop (mkF m 96 #[.val (.int (Int32.ofNat 2)), .val (.int x), .val (.int (own_bit x (1 : Int32))), .val (.int (own_bit x (2 : Int32))), .val (.int (own_bit x (4 : Int32))), .val (.int (own_bit x (8 : Int32))), .val (.int (own_bit x (16 : Int32)))] [(.int (0 : Int32)), (.ref bc2), (.ref bc2)])) _
      refine XS.iloadN Xc2.here hx rfl (hb hby d1_96) rfl ?_
      show Steps p.tables e below (Tc2.setTop (mkF m 97 #[.val (.int (Int32.ofNat 2)), .val (.int x), .val (.int (own_bit x (1 : Int32))), .val (.int (own_bit x (2 : Int32))), .val (.int (own_bit x (4 : Int32))), .val (.int (own_bit x (8 : Int32))), .val (.int (own_bit x (16 : Int32)))] [(.int (own_bit x (1 : Int32))), (.int (0 : Int32)), (.ref bc2), (.ref bc2)])) _
      refine stc3 _ ?_
      show Steps p.tables e below (Tc3.setTop (mkF m 98 #[.val (.int (Int32.ofNat 2)), .val (.int x), .val (.int (own_bit x (1 : Int32))), .val (.int (own_bit x (2 : Int32))), .val (.int (own_bit x (4 : Int32))), .val (.int (own_bit x (8 : Int32))), .val (.int (own_bit x (16 : Int32)))] [(.ref bc2)])) _
      refine XS.dup Xc3.here hx rfl (hb hby d1_98) rfl rfl ?_
      show Steps p.tables e below (Tc3.setTop (mkF m 99 #[.val (.int (Int32.ofNat 2)), .val (.int x), .val (.int (own_bit x (1 : Int32))), .val (.int (own_bit x (2 : Int32))), .val (.int (own_bit x (4 : Int32))), .val (.int (own_bit x (8 : Int32))), .val (.int (own_bit x (16 : Int32)))] [(.ref bc2), (.ref bc2)])) _
      refine XS.iconst Xc3.here hx rfl (hb hby d1_99) ?_
      show Steps p.tables e below (Tc3.setTop (mkF m 100 #[.val (.int (Int32.ofNat 2)), .val (.int x), .val (.int (own_bit x (1 : Int32))), .val (.int (own_bit x (2 : Int32))), .val (.int (own_bit x (4 : Int32))), .val (.int (own_bit x (8 : Int32))), .val (.int (own_bit x (16 : Int32)))] [(.int (1 : Int32)), (.ref bc2), (.ref bc2)])) _
      refine XS.iloadN Xc3.here hx rfl (hb hby d1_100) rfl ?_
      show Steps p.tables e below (Tc3.setTop (mkF m 101 #[.val (.int (Int32.ofNat 2)), .val (.int x), .val (.int (own_bit x (1 : Int32))), .val (.int (own_bit x (2 : Int32))), .val (.int (own_bit x (4 : Int32))), .val (.int (own_bit x (8 : Int32))), .val (.int (own_bit x (16 : Int32)))] [(.int (own_bit x (2 : Int32))), (.int (1 : Int32)), (.ref bc2), (.ref bc2)])) _
      refine stc4 _ ?_
      exact kt
    obtain ⟨fs, hr, hrun, hended, hW, hsame⟩ := Xc4.leave (v := some (.ref bc2)) (fun h => by rw [Bd.returns] at h; cases h)
    refine ⟨_, _, prec5 _ ?_, hrun, hended, _, _, rfl, ?_, ⟨_, rfl⟩, hW, hsame.mono (by decide) (by decide)⟩
    · exact retOut Xc4 hx Bd.returns rfl (Or.inr (Or.inr (Or.inr (Or.inr ⟨rfl, rfl, rfl⟩)))) (hb hby d1_102) hr
    · show Q1 Z 2 x h0 n0 _ Tc4.heap _
      rw [ec4]
      exact ⟨bc2, kc2, rfl, Nc4, g_bc2, Kc4, Vc2_2⟩
  · skip
    obtain ⟨Td2, hd2, kd2, Xd2, ed2, Ed2, Ad2, std2⟩ := newP X0 hx hZ (hw _ (List.mem_of_getElem? (i := 5) rfl)) e0 (g := (mkF m 109 #[.val (.int (Int32.ofNat 3)), .val (.int x), .val (.int (own_bit x (1 : Int32))), .val (.int (own_bit x (2 : Int32))), .val (.int (own_bit x (4 : Int32))), .val (.int (own_bit x (8 : Int32))), .val (.int (own_bit x (16 : Int32)))] [(.int (3 : Int32))])) rfl (hb hby d1_109) rfl (by decide) (cap := 3) (by decide) (by decide) (by decide) (by decide)
    obtain ⟨bd2, gd2⟩ : ∃ z, z = h0.size := ⟨_, rfl⟩
    rw [← gd2] at Ad2 std2
    have Vd2 := Arv.new Ad2 (by decide)
    have g_bd2 : n0 ≤ bd2 := Nat.le_trans Z0 (Nat.le_of_eq gd2.symm)
    have sz_bd2 : h0.size ≤ bd2 := Nat.le_of_eq gd2.symm
    have Kd2 : Keep h0 hd2 [] := (Keep.refl h0 []).ext Ed2
    have Vd2_0 : Arv Z hd2 bd2 kd2 .boolean (3 : Int32) [(.int (0 : Int32)), (.int (0 : Int32)), (.int (0 : Int32))] (.int (0 : Int32)) := Vd2.pad (pad_rep [] (.int (0 : Int32)) 3)
    obtain ⟨cd2_0, Ad2_0, qd2_0, Sd2_0, Md2_0, Hd2_0, Gd2_0⟩ := Vd2_0
    obtain ⟨Td3, hd3, Xd3, ed3, Wd3, std3⟩ := stZ Xd2 hx hZ ed2 Ad2_0 (j := (0 : Int32)) (inb_of Sd2_0 ⟨by decide, by decide⟩) (g := (mkF m 114 #[.val (.int (Int32.ofNat 3)), .val (.int x), .val (.int (own_bit x (1 : Int32))), .val (.int (own_bit x (2 : Int32))), .val (.int (own_bit x (4 : Int32))), .val (.int (own_bit x (8 : Int32))), .val (.int (own_bit x (16 : Int32)))] [(.int (own_bit x (1 : Int32))), (.int (0 : Int32)), (.ref bd2), (.ref bd2)])) rfl rfl (hb hby d1_114)
    have Nd3 := Fr.snoc Xd3 N0 g_bd2
    rw [own_nar (own_bit01 _ _)] at Wd3
    have Vd2_1 : Arv Z hd3 bd2 kd2 .boolean (3 : Int32) [(.int (own_bit x (1 : Int32))), (.int (0 : Int32)), (.int (0 : Int32))] (.int (0 : Int32)) := Arv.set Ad2_0 qd2_0 Sd2_0 Md2_0 Hd2_0 Gd2_0 (by rw [← own_nar (own_bit01 _ _)]; exact fits_nar_bool _) Wd3 0 rfl (Nat.le_of_ble_eq_true rfl)
    have Kd3 : Keep h0 hd3 [] := Kd2.wr Wd3 (Or.inr sz_bd2)
    obtain ⟨cd2_1, Ad2_1, qd2_1, Sd2_1, Md2_1, Hd2_1, Gd2_1⟩ := Vd2_1
    obtain ⟨Td4, hd4, Xd4, ed4, Wd4, std4⟩ := stZ Xd3 hx hZ ed3 Ad2_1 (j := (1 : Int32)) (inb_of Sd2_1 ⟨by decide, by decide⟩) (g := (mkF m 118 #[.val (.int (Int32.ofNat 3)), .val (.int x), .val (.int (own_bit x (1 : Int32))), .val (.int (own_bit x (2 : Int32))), .val (.int (own_bit x (4 : Int32))), .val (.int (own_bit x (8 : Int32))), .val (.int (own_bit x (16 : Int32)))] [(.int (own_bit x (2 : Int32))), (.int (1 : Int32)), (.ref bd2), (.ref bd2)])) rfl rfl (hb hby d1_118)
    have Nd4 := Fr.snoc Xd4 Nd3 g_bd2
    rw [own_nar (own_bit01 _ _)] at Wd4
    have Vd2_2 : Arv Z hd4 bd2 kd2 .boolean (3 : Int32) [(.int (own_bit x (1 : Int32))), (.int (own_bit x (2 : Int32))), (.int (0 : Int32))] (.int (0 : Int32)) := Arv.set Ad2_1 qd2_1 Sd2_1 Md2_1 Hd2_1 Gd2_1 (by rw [← own_nar (own_bit01 _ _)]; exact fits_nar_bool _) Wd4 1 rfl (Nat.le_of_ble_eq_true rfl)
    have Kd4 : Keep h0 hd4 [] := Kd3.wr Wd4 (Or.inr sz_bd2)
    obtain ⟨cd2_2, Ad2_2, qd2_2, Sd2_2, Md2_2, Hd2_2, Gd2_2⟩ := Vd2_2
    obtain ⟨Td5, hd5, Xd5, ed5, Wd5, std5⟩ := stZ Xd4 hx hZ ed4 Ad2_2 (j := (2 : Int32)) (inb_of Sd2_2 ⟨by decide, by decide⟩) (g := (mkF m 123 #[.val (.int (Int32.ofNat 3)), .val (.int x), .val (.int (own_bit x (1 : Int32))), .val (.int (own_bit x (2 : Int32))), .val (.int (own_bit x (4 : Int32))), .val (.int (own_bit x (8 : Int32))), .val (.int (own_bit x (16 : Int32)))] [(.int (own_bit x (4 : Int32))), (.int (2 : Int32)), (.ref bd2), (.ref bd2)])) rfl rfl (hb hby d1_123)
    have Nd5 := Fr.snoc Xd5 Nd4 g_bd2
    rw [own_nar (own_bit01 _ _)] at Wd5
    have Vd2_3 : Arv Z hd5 bd2 kd2 .boolean (3 : Int32) [(.int (own_bit x (1 : Int32))), (.int (own_bit x (2 : Int32))), (.int (own_bit x (4 : Int32)))] (.int (0 : Int32)) := Arv.set Ad2_2 qd2_2 Sd2_2 Md2_2 Hd2_2 Gd2_2 (by rw [← own_nar (own_bit01 _ _)]; exact fits_nar_bool _) Wd5 2 rfl (Nat.le_of_ble_eq_true rfl)
    have Kd5 : Keep h0 hd5 [] := Kd4.wr Wd5 (Or.inr sz_bd2)
    have pred6 : ∀ tt, Steps p.tables e below (Td5.setTop (mkF m 124 #[.val (.int (Int32.ofNat 3)), .val (.int x), .val (.int (own_bit x (1 : Int32))), .val (.int (own_bit x (2 : Int32))), .val (.int (own_bit x (4 : Int32))), .val (.int (own_bit x (8 : Int32))), .val (.int (own_bit x (16 : Int32)))] [(.ref bd2)])) tt → Steps p.tables e below (s₁.setTop (entryFrame m #[(.int (Int32.ofNat 3)), (.int x)] 7)) tt := by
      intro tt kt
      refine pre1 tt ?_
      show Steps p.tables e below (s₁.setTop (mkF m 65 #[.val (.int (Int32.ofNat 3)), .val (.int x), .val (.int (own_bit x (1 : Int32))), .val (.int (own_bit x (2 : Int32))), .val (.int (own_bit x (4 : Int32))), .val (.int (own_bit x (8 : Int32))), .val (.int (own_bit x (16 : Int32)))] [])) _
      refine XS.iloadN X0.here hx rfl (hb hby d1_65) rfl ?_
      show Steps p.tables e below (s₁.setTop (mkF m 66 #[.val (.int (Int32.ofNat 3)), .val (.int x), .val (.int (own_bit x (1 : Int32))), .val (.int (own_bit x (2 : Int32))), .val (.int (own_bit x (4 : Int32))), .val (.int (own_bit x (8 : Int32))), .val (.int (own_bit x (16 : Int32)))] [(.int (Int32.ofNat 3))])) _
      refine XS.ifYes X0.here hx rfl (pc0 := 66) (pc' := 73) rfl (hb hby d1_66) rfl ((if0 _ _).trans (feq (by decide)).2) (by decide) (by decide) ?_
      show Steps p.tables e below (s₁.setTop (mkF m 73 #[.val (.int (Int32.ofNat 3)), .val (.int x), .val (.int (own_bit x (1 : Int32))), .val (.int (own_bit x (2 : Int32))), .val (.int (own_bit x (4 : Int32))), .val (.int (own_bit x (8 : Int32))), .val (.int (own_bit x (16 : Int32)))] [])) _
      refine XS.iloadN X0.here hx rfl (hb hby d1_73) rfl ?_
      show Steps p.tables e below (s₁.setTop (mkF m 74 #[.val (.int (Int32.ofNat 3)), .val (.int x), .val (.int (own_bit x (1 : Int32))), .val (.int (own_bit x (2 : Int32))), .val (.int (own_bit x (4 : Int32))), .val (.int (own_bit x (8 : Int32))), .val (.int (own_bit x (16 : Int32)))] [(.int (Int32.ofNat 3))])) _
      refine XS.iconst X0.here hx rfl (hb hby d1_74) ?_
      show Steps p.tables e below (s₁.setTop (mkF m 75 #[.val (.int (Int32.ofNat 3)), .val (.int x), .val (.int (own_bit x (1 : Int32))), .val (.int (own_bit x (2 : Int32))), .val (.int (own_bit x (4 : Int32))), .val (.int (own_bit x (8 : Int32))), .val (.int (own_bit x (16 : Int32)))] [(.int (1 : Int32)), (.int (Int32.ofNat 3))])) _
      refine XS.icmpYes X0.here hx rfl (pc0 := 75) (pc' := 86) rfl (hb hby d1_75) rfl (feq (by decide)).2 (by decide) (by decide) ?_
      show Steps p.tables e below (s₁.setTop (mkF m 86 #[.val (.int (Int32.ofNat 3)), .val (.int x), .val (.int (own_bit x (1 : Int32))), .val (.int (own_bit x (2 : Int32))), .val (.int (own_bit x (4 : Int32))), .val (.int (own_bit x (8 : Int32))), .val (.int (own_bit x (16 : Int32)))] [])) _
      refine XS.iloadN X0.here hx rfl (hb hby d1_86) rfl ?_
      show Steps p.tables e below (s₁.setTop (mkF m 87 #[.val (.int (Int32.ofNat 3)), .val (.int x), .val (.int (own_bit x (1 : Int32))), .val (.int (own_bit x (2 : Int32))), .val (.int (own_bit x (4 : Int32))), .val (.int (own_bit x (8 : Int32))), .val (.int (own_bit x (16 : Int32)))] [(.int (Int32.ofNat 3))])) _
      refine XS.iconst X0.here hx rfl (hb hby d1_87) ?_
      show Steps p.tables e below (s₁.setTop (mkF m 88 #[.val (.int (Int32.ofNat 3)), .val (.int x), .val (.int (own_bit x (1 : Int32))), .val (.int (own_bit x (2 : Int32))), .val (.int (own_bit x (4 : Int32))), .val (.int (own_bit x (8 : Int32))), .val (.int (own_bit x (16 : Int32)))] [(.int (2 : Int32)), (.int (Int32.ofNat 3))])) _
      refine XS.icmpYes X0.here hx rfl (pc0 := 88) (pc' := 103) rfl (hb hby d1_88) rfl (feq (by decide)).2 (by decide) (by decide) ?_
      show Steps p.tables e below (s₁.setTop (mkF m 103 #[.val (.int (Int32.ofNat 3)), .val (.int x), .val (.int (own_bit x (1 : Int32))), .val (.int (own_bit x (2 : Int32))), .val (.int (own_bit x (4 : Int32))), .val (.int (own_bit x (8 : Int32))), .val (.int (own_bit x (16 : Int32)))] [])) _
      refine XS.iloadN X0.here hx rfl (hb hby d1_103) rfl ?_
      show Steps p.tables e below (s₁.setTop (mkF m 104 #[.val (.int (Int32.ofNat 3)), .val (.int x), .val (.int (own_bit x (1 : Int32))), .val (.int (own_bit x (2 : Int32))), .val (.int (own_bit x (4 : Int32))), .val (.int (own_bit x (8 : Int32))), .val (.int (own_bit x (16 : Int32)))] [(.int (Int32.ofNat 3))])) _
      refine XS.iconst X0.here hx rfl (hb hby d1_104) ?_
      show Steps p.tables e below (s₁.setTop (mkF m 105 #[.val (.int (Int32.ofNat 3)), .val (.int x), .val (.int (own_bit x (1 : Int32))), .val (.int (own_bit x (2 : Int32))), .val (.int (own_bit x (4 : Int32))), .val (.int (own_bit x (8 : Int32))), .val (.int (own_bit x (16 : Int32)))] [(.int (3 : Int32)), (.int (Int32.ofNat 3))])) _
      refine XS.icmpNo X0.here hx rfl (hb hby d1_105) rfl (teq (by decide)).2 ?_
      show Steps p.tables e below (s₁.setTop (mkF m 108 #[.val (.int (Int32.ofNat 3)), .val (.int x), .val (.int (own_bit x (1 : Int32))), .val (.int (own_bit x (2 : Int32))), .val (.int (own_bit x (4 : Int32))), .val (.int (own_bit x (8 : Int32))), .val (.int (own_bit x (16 : Int32)))] [])) _
      refine XS.iconst X0.here hx rfl (hb hby d1_108) ?_
      show Steps p.tables e below (s₁.setTop (mkF m 109 #[.val (.int (Int32.ofNat 3)), .val (.int x), .val (.int (own_bit x (1 : Int32))), .val (.int (own_bit x (2 : Int32))), .val (.int (own_bit x (4 : Int32))), .val (.int (own_bit x (8 : Int32))), .val (.int (own_bit x (16 : Int32)))] [(.int (3 : Int32))])) _
      refine std2 _ ?_
      show Steps p.tables e below (Td2.setTop (mkF m 111 #[.val (.int (Int32.ofNat 3)), .val (.int x), .val (.int (own_bit x (1 : Int32))), .val (.int (own_bit x (2 : Int32))), .val (.int (own_bit x (4 : Int32))), .val (.int (own_bit x (8 : Int32))), .val (.int (own_bit x (16 : Int32)))] [(.ref bd2)])) _
      refine XS.dup Xd2.here hx rfl (hb hby d1_111) rfl rfl ?_
      show Steps p.tables e below (Td2.setTop (mkF m 112 #[.val (.int (Int32.ofNat 3)), .val (.int x), .val (.int (own_bit x (1 : Int32))), .val (.int (own_bit x (2 : Int32))), .val (.int (own_bit x (4 : Int32))), .val (.int (own_bit x (8 : Int32))), .val (.int (own_bit x (16 : Int32)))] [(.ref bd2), (.ref bd2)])) _
      refine XS.iconst Xd2.here hx rfl (hb hby d1_112) ?_
      show Steps p.tables e below (Td2.setTop (mkF m 113 #[.val (.int (Int32.ofNat 3)), .val (.int x), .val (.int (own_bit x (1 : Int32))), .val (.int (own_bit x (2 : Int32))), .val (.int (own_bit x (4 : Int32))), .val (.int (own_bit x (8 : Int32))), .val (.int (own_bit x (16 : Int32)))] [(.int (0 : Int32)), (.ref bd2), (.ref bd2)])) _
      refine XS.iloadN Xd2.here hx rfl (hb hby d1_113) rfl ?_
      show Steps p.tables e below (Td2.setTop (mkF m 114 #[.val (.int (Int32.ofNat 3)), .val (.int x), .val (.int (own_bit x (1 : Int32))), .val (.int (own_bit x (2 : Int32))), .val (.int (own_bit x (4 : Int32))), .val (.int (own_bit x (8 : Int32))), .val (.int (own_bit x (16 : Int32)))] [(.int (own_bit x (1 : Int32))), (.int (0 : Int32)), (.ref bd2), (.ref bd2)])) _
      refine std3 _ ?_
      show Steps p.tables e below (Td3.setTop (mkF m 115 #[.val (.int (Int32.ofNat 3)), .val (.int x), .val (.int (own_bit x (1 : Int32))), .val (.int (own_bit x (2 : Int32))), .val (.int (own_bit x (4 : Int32))), .val (.int (own_bit x (8 : Int32))), .val (.int (own_bit x (16 : Int32)))] [(.ref bd2)])) _
      refine XS.dup Xd3.here hx rfl (hb hby d1_115) rfl rfl ?_
      show Steps p.tables e below (Td3.setTop (mkF m 116 #[.val (.int (Int32.ofNat 3)), .val (.int x), .val (.int (own_bit x (1 : Int32))), .val (.int (own_bit x (2 : Int32))), .val (.int (own_bit x (4 : Int32))), .val (.int (own_bit x (8 : Int32))), .val (.int (own_bit x (16 : Int32)))] [(.ref bd2), (.ref bd2)])) _
      refine XS.iconst Xd3.here hx rfl (hb hby d1_116) ?_
      show Steps p.tables e below (Td3.setTop (mkF m 117 #[.val (.int (Int32.ofNat 3)), .val (.int x), .val (.int (own_bit x (1 : Int32))), .val (.int (own_bit x (2 : Int32))), .val (.int (own_bit x (4 : Int32))), .val (.int (own_bit x (8 : Int32))), .val (.int (own_bit x (16 : Int32)))] [(.int (1 : Int32)), (.ref bd2), (.ref bd2)])) _
      refine XS.iloadN Xd3.here hx rfl (hb hby d1_117) rfl ?_
      show Steps p.tables e below (Td3.setTop (mkF m 118 #[.val (.int (Int32.ofNat 3)), .val (.int x), .val (.int (own_bit x (1 : Int32))), .val (.int (own_bit x (2 : Int32))), .val (.int (own_bit x (4 : Int32))), .val (.int (own_bit x (8 : Int32))), .val (.int (own_bit x (16 : Int32)))] [(.int (own_bit x (2 : Int32))), (.int (1 : Int32)), (.ref bd2), (.ref bd2)])) _
      refine std4 _ ?_
      show Steps p.tables e below (Td4.setTop (mkF m 119 #[.val (.int (Int32.ofNat 3)), .val (.int x), .val (.int (own_bit x (1 : Int32))), .val (.int (own_bit x (2 : Int32))), .val (.int (own_bit x (4 : Int32))), .val (.int (own_bit x (8 : Int32))), .val (.int (own_bit x (16 : Int32)))] [(.ref bd2)])) _
      refine XS.dup Xd4.here hx rfl (hb hby d1_119) rfl rfl ?_
      show Steps p.tables e below (Td4.setTop (mkF m 120 #[.val (.int (Int32.ofNat 3)), .val (.int x), .val (.int (own_bit x (1 : Int32))), .val (.int (own_bit x (2 : Int32))), .val (.int (own_bit x (4 : Int32))), .val (.int (own_bit x (8 : Int32))), .val (.int (own_bit x (16 : Int32)))] [(.ref bd2), (.ref bd2)])) _
      refine XS.iconst Xd4.here hx rfl (hb hby d1_120) ?_
      show Steps p.tables e below (Td4.setTop (mkF m 121 #[.val (.int (Int32.ofNat 3)), .val (.int x), .val (.int (own_bit x (1 : Int32))), .val (.int (own_bit x (2 : Int32))), .val (.int (own_bit x (4 : Int32))), .val (.int (own_bit x (8 : Int32))), .val (.int (own_bit x (16 : Int32)))] [(.int (2 : Int32)), (.ref bd2), (.ref bd2)])) _
      refine XS.iload Xd4.here hx rfl (hb hby d1_121) rfl ?_
      show Steps p.tables e below (Td4.setTop (mkF m 123 #[.val (.int (Int32.ofNat 3)), .val (.int x), .val (.int (own_bit x (1 : Int32))), .val (.int (own_bit x (2 : Int32))), .val (.int (own_bit x (4 : Int32))), .val (.int (own_bit x (8 : Int32))), .val (.int (own_bit x (16 : Int32)))] [(.int (own_bit x (4 : Int32))), (.int (2 : Int32)), (.ref bd2), (.ref bd2)])) _
      refine std5 _ ?_
      exact kt
    obtain ⟨fs, hr, hrun, hended, hW, hsame⟩ := Xd5.leave (v := some (.ref bd2)) (fun h => by rw [Bd.returns] at h; cases h)
    refine ⟨_, _, pred6 _ ?_, hrun, hended, _, _, rfl, ?_, ⟨_, rfl⟩, hW, hsame.mono (by decide) (by decide)⟩
    · exact retOut Xd5 hx Bd.returns rfl (Or.inr (Or.inr (Or.inr (Or.inr ⟨rfl, rfl, rfl⟩)))) (hb hby d1_124) hr
    · show Q1 Z 3 x h0 n0 _ Td5.heap _
      rw [ed5]
      exact ⟨bd2, kd2, rfl, Nd5, g_bd2, Kd5, Vd2_3⟩
  · skip
    obtain ⟨Te2, he2, ke2, Xe2, ee2, Ee2, Ae2, ste2⟩ := newP X0 hx hZ (hw _ (List.mem_of_getElem? (i := 5) rfl)) e0 (g := (mkF m 131 #[.val (.int (Int32.ofNat 4)), .val (.int x), .val (.int (own_bit x (1 : Int32))), .val (.int (own_bit x (2 : Int32))), .val (.int (own_bit x (4 : Int32))), .val (.int (own_bit x (8 : Int32))), .val (.int (own_bit x (16 : Int32)))] [(.int (4 : Int32))])) rfl (hb hby d1_131) rfl (by decide) (cap := 4) (by decide) (by decide) (by decide) (by decide)
    obtain ⟨be2, ge2⟩ : ∃ z, z = h0.size := ⟨_, rfl⟩
    rw [← ge2] at Ae2 ste2
    have Ve2 := Arv.new Ae2 (by decide)
    have g_be2 : n0 ≤ be2 := Nat.le_trans Z0 (Nat.le_of_eq ge2.symm)
    have sz_be2 : h0.size ≤ be2 := Nat.le_of_eq ge2.symm
    have Ke2 : Keep h0 he2 [] := (Keep.refl h0 []).ext Ee2
    have Ve2_0 : Arv Z he2 be2 ke2 .boolean (4 : Int32) [(.int (0 : Int32)), (.int (0 : Int32)), (.int (0 : Int32)), (.int (0 : Int32))] (.int (0 : Int32)) := Ve2.pad (pad_rep [] (.int (0 : Int32)) 4)
    obtain ⟨ce2_0, Ae2_0, qe2_0, Se2_0, Me2_0, He2_0, Ge2_0⟩ := Ve2_0
    obtain ⟨Te3, he3, Xe3, ee3, We3, ste3⟩ := stZ Xe2 hx hZ ee2 Ae2_0 (j := (0 : Int32)) (inb_of Se2_0 ⟨by decide, by decide⟩) (g := (mkF m 136 #[.val (.int (Int32.ofNat 4)), .val (.int x), .val (.int (own_bit x (1 : Int32))), .val (.int (own_bit x (2 : Int32))), .val (.int (own_bit x (4 : Int32))), .val (.int (own_bit x (8 : Int32))), .val (.int (own_bit x (16 : Int32)))] [(.int (own_bit x (1 : Int32))), (.int (0 : Int32)), (.ref be2), (.ref be2)])) rfl rfl (hb hby d1_136)
    have Ne3 := Fr.snoc Xe3 N0 g_be2
    rw [own_nar (own_bit01 _ _)] at We3
    have Ve2_1 : Arv Z he3 be2 ke2 .boolean (4 : Int32) [(.int (own_bit x (1 : Int32))), (.int (0 : Int32)), (.int (0 : Int32)), (.int (0 : Int32))] (.int (0 : Int32)) := Arv.set Ae2_0 qe2_0 Se2_0 Me2_0 He2_0 Ge2_0 (by rw [← own_nar (own_bit01 _ _)]; exact fits_nar_bool _) We3 0 rfl (Nat.le_of_ble_eq_true rfl)
    have Ke3 : Keep h0 he3 [] := Ke2.wr We3 (Or.inr sz_be2)
    obtain ⟨ce2_1, Ae2_1, qe2_1, Se2_1, Me2_1, He2_1, Ge2_1⟩ := Ve2_1
    obtain ⟨Te4, he4, Xe4, ee4, We4, ste4⟩ := stZ Xe3 hx hZ ee3 Ae2_1 (j := (1 : Int32)) (inb_of Se2_1 ⟨by decide, by decide⟩) (g := (mkF m 140 #[.val (.int (Int32.ofNat 4)), .val (.int x), .val (.int (own_bit x (1 : Int32))), .val (.int (own_bit x (2 : Int32))), .val (.int (own_bit x (4 : Int32))), .val (.int (own_bit x (8 : Int32))), .val (.int (own_bit x (16 : Int32)))] [(.int (own_bit x (2 : Int32))), (.int (1 : Int32)), (.ref be2), (.ref be2)])) rfl rfl (hb hby d1_140)
    have Ne4 := Fr.snoc Xe4 Ne3 g_be2
    rw [own_nar (own_bit01 _ _)] at We4
    have Ve2_2 : Arv Z he4 be2 ke2 .boolean (4 : Int32) [(.int (own_bit x (1 : Int32))), (.int (own_bit x (2 : Int32))), (.int (0 : Int32)), (.int (0 : Int32))] (.int (0 : Int32)) := Arv.set Ae2_1 qe2_1 Se2_1 Me2_1 He2_1 Ge2_1 (by rw [← own_nar (own_bit01 _ _)]; exact fits_nar_bool _) We4 1 rfl (Nat.le_of_ble_eq_true rfl)
    have Ke4 : Keep h0 he4 [] := Ke3.wr We4 (Or.inr sz_be2)
    obtain ⟨ce2_2, Ae2_2, qe2_2, Se2_2, Me2_2, He2_2, Ge2_2⟩ := Ve2_2
    obtain ⟨Te5, he5, Xe5, ee5, We5, ste5⟩ := stZ Xe4 hx hZ ee4 Ae2_2 (j := (2 : Int32)) (inb_of Se2_2 ⟨by decide, by decide⟩) (g := (mkF m 145 #[.val (.int (Int32.ofNat 4)), .val (.int x), .val (.int (own_bit x (1 : Int32))), .val (.int (own_bit x (2 : Int32))), .val (.int (own_bit x (4 : Int32))), .val (.int (own_bit x (8 : Int32))), .val (.int (own_bit x (16 : Int32)))] [(.int (own_bit x (4 : Int32))), (.int (2 : Int32)), (.ref be2), (.ref be2)])) rfl rfl (hb hby d1_145)
    have Ne5 := Fr.snoc Xe5 Ne4 g_be2
    rw [own_nar (own_bit01 _ _)] at We5
    have Ve2_3 : Arv Z he5 be2 ke2 .boolean (4 : Int32) [(.int (own_bit x (1 : Int32))), (.int (own_bit x (2 : Int32))), (.int (own_bit x (4 : Int32))), (.int (0 : Int32))] (.int (0 : Int32)) := Arv.set Ae2_2 qe2_2 Se2_2 Me2_2 He2_2 Ge2_2 (by rw [← own_nar (own_bit01 _ _)]; exact fits_nar_bool _) We5 2 rfl (Nat.le_of_ble_eq_true rfl)
    have Ke5 : Keep h0 he5 [] := Ke4.wr We5 (Or.inr sz_be2)
    obtain ⟨ce2_3, Ae2_3, qe2_3, Se2_3, Me2_3, He2_3, Ge2_3⟩ := Ve2_3
    obtain ⟨Te6, he6, Xe6, ee6, We6, ste6⟩ := stZ Xe5 hx hZ ee5 Ae2_3 (j := (3 : Int32)) (inb_of Se2_3 ⟨by decide, by decide⟩) (g := (mkF m 150 #[.val (.int (Int32.ofNat 4)), .val (.int x), .val (.int (own_bit x (1 : Int32))), .val (.int (own_bit x (2 : Int32))), .val (.int (own_bit x (4 : Int32))), .val (.int (own_bit x (8 : Int32))), .val (.int (own_bit x (16 : Int32)))] [(.int (own_bit x (8 : Int32))), (.int (3 : Int32)), (.ref be2), (.ref be2)])) rfl rfl (hb hby d1_150)
    have Ne6 := Fr.snoc Xe6 Ne5 g_be2
    rw [own_nar (own_bit01 _ _)] at We6
    have Ve2_4 : Arv Z he6 be2 ke2 .boolean (4 : Int32) [(.int (own_bit x (1 : Int32))), (.int (own_bit x (2 : Int32))), (.int (own_bit x (4 : Int32))), (.int (own_bit x (8 : Int32)))] (.int (0 : Int32)) := Arv.set Ae2_3 qe2_3 Se2_3 Me2_3 He2_3 Ge2_3 (by rw [← own_nar (own_bit01 _ _)]; exact fits_nar_bool _) We6 3 rfl (Nat.le_of_ble_eq_true rfl)
    have Ke6 : Keep h0 he6 [] := Ke5.wr We6 (Or.inr sz_be2)
    have pree7 : ∀ tt, Steps p.tables e below (Te6.setTop (mkF m 151 #[.val (.int (Int32.ofNat 4)), .val (.int x), .val (.int (own_bit x (1 : Int32))), .val (.int (own_bit x (2 : Int32))), .val (.int (own_bit x (4 : Int32))), .val (.int (own_bit x (8 : Int32))), .val (.int (own_bit x (16 : Int32)))] [(.ref be2)])) tt → Steps p.tables e below (s₁.setTop (entryFrame m #[(.int (Int32.ofNat 4)), (.int x)] 7)) tt := by
      intro tt kt
      refine pre1 tt ?_
      show Steps p.tables e below (s₁.setTop (mkF m 65 #[.val (.int (Int32.ofNat 4)), .val (.int x), .val (.int (own_bit x (1 : Int32))), .val (.int (own_bit x (2 : Int32))), .val (.int (own_bit x (4 : Int32))), .val (.int (own_bit x (8 : Int32))), .val (.int (own_bit x (16 : Int32)))] [])) _
      refine XS.iloadN X0.here hx rfl (hb hby d1_65) rfl ?_
      show Steps p.tables e below (s₁.setTop (mkF m 66 #[.val (.int (Int32.ofNat 4)), .val (.int x), .val (.int (own_bit x (1 : Int32))), .val (.int (own_bit x (2 : Int32))), .val (.int (own_bit x (4 : Int32))), .val (.int (own_bit x (8 : Int32))), .val (.int (own_bit x (16 : Int32)))] [(.int (Int32.ofNat 4))])) _
      refine XS.ifYes X0.here hx rfl (pc0 := 66) (pc' := 73) rfl (hb hby d1_66) rfl ((if0 _ _).trans (feq (by decide)).2) (by decide) (by decide) ?_
      show Steps p.tables e below (s₁.setTop (mkF m 73 #[.val (.int (Int32.ofNat 4)), .val (.int x), .val (.int (own_bit x (1 : Int32))), .val (.int (own_bit x (2 : Int32))), .val (.int (own_bit x (4 : Int32))), .val (.int (own_bit x (8 : Int32))), .val (.int (own_bit x (16 : Int32)))] [])) _
      refine XS.iloadN X0.here hx rfl (hb hby d1_73) rfl ?_
      show Steps p.tables e below (s₁.setTop (mkF m 74 #[.val (.int (Int32.ofNat 4)), .val (.int x), .val (.int (own_bit x (1 : Int32))), .val (.int (own_bit x (2 : Int32))), .val (.int (own_bit x (4 : Int32))), .val (.int (own_bit x (8 : Int32))), .val (.int (own_bit x (16 : Int32)))] [(.int (Int32.ofNat 4))])) _
      refine XS.iconst X0.here hx rfl (hb hby d1_74) ?_
      show Steps p.tables e below (s₁.setTop (mkF m 75 #[.val (.int (Int32.ofNat 4)), .val (.int x), .val (.int (own_bit x (1 : Int32))), .val (.int (own_bit x (2 : Int32))), .val (.int (own_bit x (4 : Int32))), .val (.int (own_bit x (8 : Int32))), .val (.int (own_bit x (16 : Int32)))] [(.int (1 : Int32)), (.int (Int32.ofNat 4))])) _
      refine XS.icmpYes X0.here hx rfl (pc0 := 75) (pc' := 86) rfl (hb hby d1_75) rfl (feq (by decide)).2 (by decide) (by decide) ?_
      show Steps p.tables e below (s₁.setTop (mkF m 86 #[.val (.int (Int32.ofNat 4)), .val (.int x), .val (.int (own_bit x (1 : Int32))), .val (.int (own_bit x (2 : Int32))), .val (.int (own_bit x (4 : Int32))), .val (.int (own_bit x (8 : Int32))), .val (.int (own_bit x (16 : Int32)))] [])) _
      refine XS.iloadN X0.here hx rfl (hb hby d1_86) rfl ?_
      show Steps p.tables e below (s₁.setTop (mkF m 87 #[.val (.int (Int32.ofNat 4)), .val (.int x), .val (.int (own_bit x (1 : Int32))), .val (.int (own_bit x (2 : Int32))), .val (.int (own_bit x (4 : Int32))), .val (.int (own_bit x (8 : Int32))), .val (.int (own_bit x (16 : Int32)))] [(.int (Int32.ofNat 4))])) _
      refine XS.iconst X0.here hx rfl (hb hby d1_87) ?_
      show Steps p.tables e below (s₁.setTop (mkF m 88 #[.val (.int (Int32.ofNat 4)), .val (.int x), .val (.int (own_bit x (1 : Int32))), .val (.int (own_bit x (2 : Int32))), .val (.int (own_bit x (4 : Int32))), .val (.int (own_bit x (8 : Int32))), .val (.int (own_bit x (16 : Int32)))] [(.int (2 : Int32)), (.int (Int32.ofNat 4))])) _
      refine XS.icmpYes X0.here hx rfl (pc0 := 88) (pc' := 103) rfl (hb hby d1_88) rfl (feq (by decide)).2 (by decide) (by decide) ?_
      show Steps p.tables e below (s₁.setTop (mkF m 103 #[.val (.int (Int32.ofNat 4)), .val (.int x), .val (.int (own_bit x (1 : Int32))), .val (.int (own_bit x (2 : Int32))), .val (.int (own_bit x (4 : Int32))), .val (.int (own_bit x (8 : Int32))), .val (.int (own_bit x (16 : Int32)))] [])) _
      refine XS.iloadN X0.here hx rfl (hb hby d1_103) rfl ?_
      show Steps p.tables e below (s₁.setTop (mkF m 104 #[.val (.int (Int32.ofNat 4)), .val (.int x), .val (.int (own_bit x (1 : Int32))), .val (.int (own_bit x (2 : Int32))), .val (.int (own_bit x (4 : Int32))), .val (.int (own_bit x (8 : Int32))), .val (.int (own_bit x (16 : Int32)))] [(.int (Int32.ofNat 4))])) _
      refine XS.iconst X0.here hx rfl (hb hby d1_104) ?_
      show Steps p.tables e below (s₁.setTop (mkF m 105 #[.val (.int (Int32.ofNat 4)), .val (.int x), .val (.int (own_bit x (1 : Int32))), .val (.int (own_bit x (2 : Int32))), .val (.int (own_bit x (4 : Int32))), .val (.int (own_bit x (8 : Int32))), .val (.int (own_bit x (16 : Int32)))] [(.int (3 : Int32)), (.int (Int32.ofNat 4))])) _
      refine XS.icmpYes X0.here hx rfl (pc0 := 105) (pc' := 125) rfl (hb hby d1_105) rfl (feq (by decide)).2 (by decide) (by decide) ?_
      show Steps p.tables e below (s₁.setTop (mkF m 125 #[.val (.int (Int32.ofNat 4)), .val (.int x), .val (.int (own_bit x (1 : Int32))), .val (.int (own_bit x (2 : Int32))), .val (.int (own_bit x (4 : Int32))), .val (.int (own_bit x (8 : Int32))), .val (.int (own_bit x (16 : Int32)))] [])) _
      refine XS.iloadN X0.here hx rfl (hb hby d1_125) rfl ?_
      show Steps p.tables e below (s₁.setTop (mkF m 126 #[.val (.int (Int32.ofNat 4)), .val (.int x), .val (.int (own_bit x (1 : Int32))), .val (.int (own_bit x (2 : Int32))), .val (.int (own_bit x (4 : Int32))), .val (.int (own_bit x (8 : Int32))), .val (.int (own_bit x (16 : Int32)))] [(.int (Int32.ofNat 4))])) _
      refine XS.iconst X0.here hx rfl (hb hby d1_126) ?_
      show Steps p.tables e below (s₁.setTop (mkF m 127 #[.val (.int (Int32.ofNat 4)), .val (.int x), .val (.int (own_bit x (1 : Int32))), .val (.int (own_bit x (2 : Int32))), .val (.int (own_bit x (4 : Int32))), .val (.int (own_bit x (8 : Int32))), .val (.int (own_bit x (16 : Int32)))] [(.int (4 : Int32)), (.int (Int32.ofNat 4))])) _
      refine XS.icmpNo X0.here hx rfl (hb hby d1_127) rfl (teq (by decide)).2 ?_
      show Steps p.tables e below (s₁.setTop (mkF m 130 #[.val (.int (Int32.ofNat 4)), .val (.int x), .val (.int (own_bit x (1 : Int32))), .val (.int (own_bit x (2 : Int32))), .val (.int (own_bit x (4 : Int32))), .val (.int (own_bit x (8 : Int32))), .val (.int (own_bit x (16 : Int32)))] [])) _
      refine XS.iconst X0.here hx rfl (hb hby d1_130) ?_
      show Steps p.tables e below (s₁.setTop (mkF m 131 #[.val (.int (Int32.ofNat 4)), .val (.int x), .val (.int (own_bit x (1 : Int32))), .val (.int (own_bit x (2 : Int32))), .val (.int (own_bit x (4 : Int32))), .val (.int (own_bit x (8 : Int32))), .val (.int (own_bit x (16 : Int32)))] [(.int (4 : Int32))])) _
      refine ste2 _ ?_
      show Steps p.tables e below (Te2.setTop (mkF m 133 #[.val (.int (Int32.ofNat 4)), .val (.int x), .val (.int (own_bit x (1 : Int32))), .val (.int (own_bit x (2 : Int32))), .val (.int (own_bit x (4 : Int32))), .val (.int (own_bit x (8 : Int32))), .val (.int (own_bit x (16 : Int32)))] [(.ref be2)])) _
      refine XS.dup Xe2.here hx rfl (hb hby d1_133) rfl rfl ?_
      show Steps p.tables e below (Te2.setTop (mkF m 134 #[.val (.int (Int32.ofNat 4)), .val (.int x), .val (.int (own_bit x (1 : Int32))), .val (.int (own_bit x (2 : Int32))), .val (.int (own_bit x (4 : Int32))), .val (.int (own_bit x (8 : Int32))), .val (.int (own_bit x (16 : Int32)))] [(.ref be2), (.ref be2)])) _
      refine XS.iconst Xe2.here hx rfl (hb hby d1_134) ?_
      show Steps p.tables e below (Te2.setTop (mkF m 135 #[.val (.int (Int32.ofNat 4)), .val (.int x), .val (.int (own_bit x (1 : Int32))), .val (.int (own_bit x (2 : Int32))), .val (.int (own_bit x (4 : Int32))), .val (.int (own_bit x (8 : Int32))), .val (.int (own_bit x (16 : Int32)))] [(.int (0 : Int32)), (.ref be2), (.ref be2)])) _
      refine XS.iloadN Xe2.here hx rfl (hb hby d1_135) rfl ?_
      show Steps p.tables e below (Te2.setTop (mkF m 136 #[.val (.int (Int32.ofNat 4)), .val (.int x), .val (.int (own_bit x (1 : Int32))), .val (.int (own_bit x (2 : Int32))), .val (.int (own_bit x (4 : Int32))), .val (.int (own_bit x (8 : Int32))), .val (.int (own_bit x (16 : Int32)))] [(.int (own_bit x (1 : Int32))), (.int (0 : Int32)), (.ref be2), (.ref be2)])) _
      refine ste3 _ ?_
      show Steps p.tables e below (Te3.setTop (mkF m 137 #[.val (.int (Int32.ofNat 4)), .val (.int x), .val (.int (own_bit x (1 : Int32))), .val (.int (own_bit x (2 : Int32))), .val (.int (own_bit x (4 : Int32))), .val (.int (own_bit x (8 : Int32))), .val (.int (own_bit x (16 : Int32)))] [(.ref be2)])) _
      refine XS.dup Xe3.here hx rfl (hb hby d1_137) rfl rfl ?_
      show Steps p.tables e below (Te3.setTop (mkF m 138 #[.val (.int (Int32.ofNat 4)), .val (.int x), .val (.int (own_bit x (1 : Int32))), .val (.int (own_bit x (2 : Int32))), .val (.int (own_bit x (4 : Int32))), .val (.int (own_bit x (8 : Int32))), .val (.int (own_bit x (16 : Int32)))] [(.ref be2), (.ref be2)])) _
      refine XS.iconst Xe3.here hx rfl (hb hby d1_138) ?_
      show Steps p.tables e below (Te3.setTop (mkF m 139 #[.val (.int (Int32.ofNat 4)), .val (.int x), .val (.int (own_bit x (1 : Int32))), .val (.int (own_bit x (2 : Int32))), .val (.int (own_bit x (4 : Int32))), .val (.int (own_bit x (8 : Int32))), .val (.int (own_bit x (16 : Int32)))] [(.int (1 : Int32)), (.ref be2), (.ref be2)])) _
      refine XS.iloadN Xe3.here hx rfl (hb hby d1_139) rfl ?_
      show Steps p.tables e below (Te3.setTop (mkF m 140 #[.val (.int (Int32.ofNat 4)), .val (.int x), .val (.int (own_bit x (1 : Int32))), .val (.int (own_bit x (2 : Int32))), .val (.int (own_bit x (4 : Int32))), .val (.int (own_bit x (8 : Int32))), .val (.int (own_bit x (16 : Int32)))] [(.int (own_bit x (2 : Int32))), (.int (1 : Int32)), (.ref be2), (.ref be2)])) _
      refine ste4 _ ?_
      show Steps p.tables e below (Te4.setTop (mkF m 141 #[.val (.int (Int32.ofNat 4)), .val (.int x), .val (.int (own_bit x (1 : Int32))), .val (.int (own_bit x (2 : Int32))), .val (.int (own_bit x (4 : Int32))), .val (.int (own_bit x (8 : Int32))), .val (.int (own_bit x (16 : Int32)))] [(.ref be2)])) _
      refine XS.dup Xe4.here hx rfl (hb hby d1_141) rfl rfl ?_
      show Steps p.tables e below (Te4.setTop (mkF m 142 #[.val (.int (Int32.ofNat 4)), .val (.int x), .val (.int (own_bit x (1 : Int32))), .val (.int (own_bit x (2 : Int32))), .val (.int (own_bit x (4 : Int32))), .val (.int (own_bit x (8 : Int32))), .val (.int (own_bit x (16 : Int32)))] [(.ref be2), (.ref be2)])) _
      refine XS.iconst Xe4.here hx rfl (hb hby d1_142) ?_
      show Steps p.tables e below (Te4.setTop (mkF m 143 #[.val (.int (Int32.ofNat 4)), .val (.int x), .val (.int (own_bit x (1 : Int32))), .val (.int (own_bit x (2 : Int32))), .val (.int (own_bit x (4 : Int32))), .val (.int (own_bit x (8 : Int32))), .val (.int (own_bit x (16 : Int32)))] [(.int (2 : Int32)), (.ref be2), (.ref be2)])) _
      refine XS.iload Xe4.here hx rfl (hb hby d1_143) rfl ?_
      show Steps p.tables e below (Te4.setTop (mkF m 145 #[.val (.int (Int32.ofNat 4)), .val (.int x), .val (.int (own_bit x (1 : Int32))), .val (.int (own_bit x (2 : Int32))), .val (.int (own_bit x (4 : Int32))), .val (.int (own_bit x (8 : Int32))), .val (.int (own_bit x (16 : Int32)))] [(.int (own_bit x (4 : Int32))), (.int (2 : Int32)), (.ref be2), (.ref be2)])) _
      refine ste5 _ ?_
      show Steps p.tables e below (Te5.setTop (mkF m 146 #[.val (.int (Int32.ofNat 4)), .val (.int x), .val (.int (own_bit x (1 : Int32))), .val (.int (own_bit x (2 : Int32))), .val (.int (own_bit x (4 : Int32))), .val (.int (own_bit x (8 : Int32))), .val (.int (own_bit x (16 : Int32)))] [(.ref be2)])) _
      refine XS.dup Xe5.here hx rfl (hb hby d1_146) rfl rfl ?_
      show Steps p.tables e below (Te5.setTop (mkF m 147 #[.val (.int (Int32.ofNat 4)), .val (.int x), .val (.int (own_bit x (1 : Int32))), .val (.int (own_bit x (2 : Int32))), .val (.int (own_bit x (4 : Int32))), .val (.int (own_bit x (8 : Int32))), .val (.int (own_bit x (16 : Int32)))] [(.ref be2), (.ref be2)])) _
      refine XS.iconst Xe5.here hx rfl (hb hby d1_147) ?_
      show Steps p.tables e below (Te5.setTop (mkF m 148 #[.val (.int (Int32.ofNat 4)), .val (.int x), .val (.int (own_bit x (1 : Int32))), .val (.int (own_bit x (2 : Int32))), .val (.int (own_bit x (4 : Int32))), .val (.int (own_bit x (8 : Int32))), .val (.int (own_bit x (16 : Int32)))] [(.int (3 : Int32)), (.ref be2), (.ref be2)])) _
      refine XS.iload Xe5.here hx rfl (hb hby d1_148) rfl ?_
      show Steps p.tables e below (Te5.setTop (mkF m 150 #[.val (.int (Int32.ofNat 4)), .val (.int x), .val (.int (own_bit x (1 : Int32))), .val (.int (own_bit x (2 : Int32))), .val (.int (own_bit x (4 : Int32))), .val (.int (own_bit x (8 : Int32))), .val (.int (own_bit x (16 : Int32)))] [(.int (own_bit x (8 : Int32))), (.int (3 : Int32)), (.ref be2), (.ref be2)])) _
      refine ste6 _ ?_
      exact kt
    obtain ⟨fs, hr, hrun, hended, hW, hsame⟩ := Xe6.leave (v := some (.ref be2)) (fun h => by rw [Bd.returns] at h; cases h)
    refine ⟨_, _, pree7 _ ?_, hrun, hended, _, _, rfl, ?_, ⟨_, rfl⟩, hW, hsame.mono (by decide) (by decide)⟩
    · exact retOut Xe6 hx Bd.returns rfl (Or.inr (Or.inr (Or.inr (Or.inr ⟨rfl, rfl, rfl⟩)))) (hb hby d1_151) hr
    · show Q1 Z 4 x h0 n0 _ Te6.heap _
      rw [ee6]
      exact ⟨be2, ke2, rfl, Ne6, g_be2, Ke6, Ve2_4⟩
  · skip
    obtain ⟨Tf2, hf2, kf2, Xf2, ef2, Ef2, Af2, stf2⟩ := newP X0 hx hZ (hw _ (List.mem_of_getElem? (i := 5) rfl)) e0 (g := (mkF m 153 #[.val (.int (Int32.ofNat 5)), .val (.int x), .val (.int (own_bit x (1 : Int32))), .val (.int (own_bit x (2 : Int32))), .val (.int (own_bit x (4 : Int32))), .val (.int (own_bit x (8 : Int32))), .val (.int (own_bit x (16 : Int32)))] [(.int (5 : Int32))])) rfl (hb hby d1_153) rfl (by decide) (cap := 5) (by decide) (by decide) (by decide) (by decide)
    obtain ⟨bf2, gf2⟩ : ∃ z, z = h0.size := ⟨_, rfl⟩
    rw [← gf2] at Af2 stf2
    have Vf2 := Arv.new Af2 (by decide)
    have g_bf2 : n0 ≤ bf2 := Nat.le_trans Z0 (Nat.le_of_eq gf2.symm)
    have sz_bf2 : h0.size ≤ bf2 := Nat.le_of_eq gf2.symm
    have Kf2 : Keep h0 hf2 [] := (Keep.refl h0 []).ext Ef2
    have Vf2_0 : Arv Z hf2 bf2 kf2 .boolean (5 : Int32) [(.int (0 : Int32)), (.int (0 : Int32)), (.int (0 : Int32)), (.int (0 : Int32)), (.int (0 : Int32))] (.int (0 : Int32)) := Vf2.pad (pad_rep [] (.int (0 : Int32)) 5)
    obtain ⟨cf2_0, Af2_0, qf2_0, Sf2_0, Mf2_0, Hf2_0, Gf2_0⟩ := Vf2_0
    obtain ⟨Tf3, hf3, Xf3, ef3, Wf3, stf3⟩ := stZ Xf2 hx hZ ef2 Af2_0 (j := (0 : Int32)) (inb_of Sf2_0 ⟨by decide, by decide⟩) (g := (mkF m 158 #[.val (.int (Int32.ofNat 5)), .val (.int x), .val (.int (own_bit x (1 : Int32))), .val (.int (own_bit x (2 : Int32))), .val (.int (own_bit x (4 : Int32))), .val (.int (own_bit x (8 : Int32))), .val (.int (own_bit x (16 : Int32)))] [(.int (own_bit x (1 : Int32))), (.int (0 : Int32)), (.ref bf2), (.ref bf2)])) rfl rfl (hb hby d1_158)
    have Nf3 := Fr.snoc Xf3 N0 g_bf2
    rw [own_nar (own_bit01 _ _)] at Wf3
    have Vf2_1 : Arv Z hf3 bf2 kf2 .boolean (5 : Int32) [(.int (own_bit x (1 : Int32))), (.int (0 : Int32)), (.int (0 : Int32)), (.int (0 : Int32)), (.int (0 : Int32))] (.int (0 : Int32)) := Arv.set Af2_0 qf2_0 Sf2_0 Mf2_0 Hf2_0 Gf2_0 (by rw [← own_nar (own_bit01 _ _)]; exact fits_nar_bool _) Wf3 0 rfl (Nat.le_of_ble_eq_true rfl)
    have Kf3 : Keep h0 hf3 [] := Kf2.wr Wf3 (Or.inr sz_bf2)
    obtain ⟨cf2_1, Af2_1, qf2_1, Sf2_1, Mf2_1, Hf2_1, Gf2_1⟩ := Vf2_1
    obtain ⟨Tf4, hf4, Xf4, ef4, Wf4, stf4⟩ := stZ Xf3 hx hZ ef3 Af2_1 (j := (1 : Int32)) (inb_of Sf2_1 ⟨by decide, by decide⟩) (g := (mkF m 162 #[.val (.int (Int32.ofNat 5)), .val (.int x), .val (.int (own_bit x (1 : Int32))), .val (.int (own_bit x (2 : Int32))), .val (.int (own_bit x (4 : Int32))), .val (.int (own_bit x (8 : Int32))), .val (.int (own_bit x (16 : Int32)))] [(.int (own_bit x (2 : Int32))), (.int (1 : Int32)), (.ref bf2), (.ref bf2)])) rfl rfl (hb hby d1_162)
    have Nf4 := Fr.snoc Xf4 Nf3 g_bf2
    rw [own_nar (own_bit01 _ _)] at Wf4
    have Vf2_2 : Arv Z hf4 bf2 kf2 .boolean (5 : Int32) [(.int (own_bit x (1 : Int32))), (.int (own_bit x (2 : Int32))), (.int (0 : Int32)), (.int (0 : Int32)), (.int (0 : Int32))] (.int (0 : Int32)) := Arv.set Af2_1 qf2_1 Sf2_1 Mf2_1 Hf2_1 Gf2_1 (by rw [← own_nar (own_bit01 _ _)]; exact fits_nar_bool _) Wf4 1 rfl (Nat.le_of_ble_eq_true rfl)
    have Kf4 : Keep h0 hf4 [] := Kf3.wr Wf4 (Or.inr sz_bf2)
    obtain ⟨cf2_2, Af2_2, qf2_2, Sf2_2, Mf2_2, Hf2_2, Gf2_2⟩ := Vf2_2
    obtain ⟨Tf5, hf5, Xf5, ef5, Wf5, stf5⟩ := stZ Xf4 hx hZ ef4 Af2_2 (j := (2 : Int32)) (inb_of Sf2_2 ⟨by decide, by decide⟩) (g := (mkF m 167 #[.val (.int (Int32.ofNat 5)), .val (.int x), .val (.int (own_bit x (1 : Int32))), .val (.int (own_bit x (2 : Int32))), .val (.int (own_bit x (4 : Int32))), .val (.int (own_bit x (8 : Int32))), .val (.int (own_bit x (16 : Int32)))] [(.int (own_bit x (4 : Int32))), (.int (2 : Int32)), (.ref bf2), (.ref bf2)])) rfl rfl (hb hby d1_167)
    have Nf5 := Fr.snoc Xf5 Nf4 g_bf2
    rw [own_nar (own_bit01 _ _)] at Wf5
    have Vf2_3 : Arv Z hf5 bf2 kf2 .boolean (5 : Int32) [(.int (own_bit x (1 : Int32))), (.int (own_bit x (2 : Int32))), (.int (own_bit x (4 : Int32))), (.int (0 : Int32)), (.int (0 : Int32))] (.int (0 : Int32)) := Arv.set Af2_2 qf2_2 Sf2_2 Mf2_2 Hf2_2 Gf2_2 (by rw [← own_nar (own_bit01 _ _)]; exact fits_nar_bool _) Wf5 2 rfl (Nat.le_of_ble_eq_true rfl)
    have Kf5 : Keep h0 hf5 [] := Kf4.wr Wf5 (Or.inr sz_bf2)
    obtain ⟨cf2_3, Af2_3, qf2_3, Sf2_3, Mf2_3, Hf2_3, Gf2_3⟩ := Vf2_3
    obtain ⟨Tf6, hf6, Xf6, ef6, Wf6, stf6⟩ := stZ Xf5 hx hZ ef5 Af2_3 (j := (3 : Int32)) (inb_of Sf2_3 ⟨by decide, by decide⟩) (g := (mkF m 172 #[.val (.int (Int32.ofNat 5)), .val (.int x), .val (.int (own_bit x (1 : Int32))), .val (.int (own_bit x (2 : Int32))), .val (.int (own_bit x (4 : Int32))), .val (.int (own_bit x (8 : Int32))), .val (.int (own_bit x (16 : Int32)))] [(.int (own_bit x (8 : Int32))), (.int (3 : Int32)), (.ref bf2), (.ref bf2)])) rfl rfl (hb hby d1_172)
    have Nf6 := Fr.snoc Xf6 Nf5 g_bf2
    rw [own_nar (own_bit01 _ _)] at Wf6
    have Vf2_4 : Arv Z hf6 bf2 kf2 .boolean (5 : Int32) [(.int (own_bit x (1 : Int32))), (.int (own_bit x (2 : Int32))), (.int (own_bit x (4 : Int32))), (.int (own_bit x (8 : Int32))), (.int (0 : Int32))] (.int (0 : Int32)) := Arv.set Af2_3 qf2_3 Sf2_3 Mf2_3 Hf2_3 Gf2_3 (by rw [← own_nar (own_bit01 _ _)]; exact fits_nar_bool _) Wf6 3 rfl (Nat.le_of_ble_eq_true rfl)
    have Kf6 : Keep h0 hf6 [] := Kf5.wr Wf6 (Or.inr sz_bf2)
    obtain ⟨cf2_4, Af2_4, qf2_4, Sf2_4, Mf2_4, Hf2_4, Gf2_4⟩ := Vf2_4
    obtain ⟨Tf7, hf7, Xf7, ef7, Wf7, stf7⟩ := stZ Xf6 hx hZ ef6 Af2_4 (j := (4 : Int32)) (inb_of Sf2_4 ⟨by decide, by decide⟩) (g := (mkF m 177 #[.val (.int (Int32.ofNat 5)), .val (.int x), .val (.int (own_bit x (1 : Int32))), .val (.int (own_bit x (2 : Int32))), .val (.int (own_bit x (4 : Int32))), .val (.int (own_bit x (8 : Int32))), .val (.int (own_bit x (16 : Int32)))] [(.int (own_bit x (16 : Int32))), (.int (4 : Int32)), (.ref bf2), (.ref bf2)])) rfl rfl (hb hby d1_177)
    have Nf7 := Fr.snoc Xf7 Nf6 g_bf2
    rw [own_nar (own_bit01 _ _)] at Wf7
    have Vf2_5 : Arv Z hf7 bf2 kf2 .boolean (5 : Int32) [(.int (own_bit x (1 : Int32))), (.int (own_bit x (2 : Int32))), (.int (own_bit x (4 : Int32))), (.int (own_bit x (8 : Int32))), (.int (own_bit x (16 : Int32)))] (.int (0 : Int32)) := Arv.set Af2_4 qf2_4 Sf2_4 Mf2_4 Hf2_4 Gf2_4 (by rw [← own_nar (own_bit01 _ _)]; exact fits_nar_bool _) Wf7 4 rfl (Nat.le_of_ble_eq_true rfl)
    have Kf7 : Keep h0 hf7 [] := Kf6.wr Wf7 (Or.inr sz_bf2)
    have pref8 : ∀ tt, Steps p.tables e below (Tf7.setTop (mkF m 178 #[.val (.int (Int32.ofNat 5)), .val (.int x), .val (.int (own_bit x (1 : Int32))), .val (.int (own_bit x (2 : Int32))), .val (.int (own_bit x (4 : Int32))), .val (.int (own_bit x (8 : Int32))), .val (.int (own_bit x (16 : Int32)))] [(.ref bf2)])) tt → Steps p.tables e below (s₁.setTop (entryFrame m #[(.int (Int32.ofNat 5)), (.int x)] 7)) tt := by
      intro tt kt
      refine pre1 tt ?_
      show Steps p.tables e below (s₁.setTop (mkF m 65 #[.val (.int (Int32.ofNat 5)), .val (.int x), .val (.int (own_bit x (1 : Int32))), .val (.int (own_bit x (2 : Int32))), .val (.int (own_bit x (4 : Int32))), .val (.int (own_bit x (8 : Int32))), .val (.int (own_bit x (16 : Int32)))] [])) _
      refine XS.iloadN X0.here hx rfl (hb hby d1_65) rfl ?_
      show Steps p.tables e below (s₁.setTop (mkF m 66 #[.val (.int (Int32.ofNat 5)), .val (.int x), .val (.int (own_bit x (1 : Int32))), .val (.int (own_bit x (2 : Int32))), .val (.int (own_bit x (4 : Int32))), .val (.int (own_bit x (8 : Int32))), .val (.int (own_bit x (16 : Int32)))] [(.int (Int32.ofNat 5))])) _
      refine XS.ifYes X0.here hx rfl (pc0 := 66) (pc' := 73) rfl (hb hby d1_66) rfl ((if0 _ _).trans (feq (by decide)).2) (by decide) (by decide) ?_
      show Steps p.tables e below (s₁.setTop (mkF m 73 #[.val (.int (Int32.ofNat 5)), .val (.int x), .val (.int (own_bit x (1 : Int32))), .val (.int (own_bit x (2 : Int32))), .val (.int (own_bit x (4 : Int32))), .val (.int (own_bit x (8 : Int32))), .val (.int (own_bit x (16 : Int32)))] [])) _
      refine XS.iloadN X0.here hx rfl (hb hby d1_73) rfl ?_
      show Steps p.tables e below (s₁.setTop (mkF m 74 #[.val (.int (Int32.ofNat 5)), .val (.int x), .val (.int (own_bit x (1 : Int32))), .val (.int (own_bit x (2 : Int32))), .val (.int (own_bit x (4 : Int32))), .val (.int (own_bit x (8 : Int32))), .val (.int (own_bit x (16 : Int32)))] [(.int (Int32.ofNat 5))])) _
      refine XS.iconst X0.here hx rfl (hb hby d1_74) ?_
      show Steps p.tables e below (s₁.setTop (mkF m 75 #[.val (.int (Int32.ofNat 5)), .val (.int x), .val (.int (own_bit x (1 : Int32))), .val (.int (own_bit x (2 : Int32))), .val (.int (own_bit x (4 : Int32))), .val (.int (own_bit x (8 : Int32))), .val (.int (own_bit x (16 : Int32)))] [(.int (1 : Int32)), (.int (Int32.ofNat 5))])) _
      refine XS.icmpYes X0.here hx rfl (pc0 := 75) (pc' := 86) rfl (hb hby d1_75) rfl (feq (by decide)).2 (by decide) (by decide) ?_
      show Steps p.tables e below (s₁.setTop (mkF m 86 #[.val (.int (Int32.ofNat 5)), .val (.int x), .val (.int (own_bit x (1 : Int32))), .val (.int (own_bit x (2 : Int32))), .val (.int (own_bit x (4 : Int32))), .val (.int (own_bit x (8 : Int32))), .val (.int (own_bit x (16 : Int32)))] [])) _
      refine XS.iloadN X0.here hx rfl (hb hby d1_86) rfl ?_
      show Steps p.tables e below (s₁.setTop (mkF m 87 #[.val (.int (Int32.ofNat 5)), .val (.int x), .val (.int (own_bit x (1 : Int32))), .val (.int (own_bit x (2 : Int32))), .val (.int (own_bit x (4 : Int32))), .val (.int (own_bit x (8 : Int32))), .val (.int (own_bit x (16 : Int32)))] [(.int (Int32.ofNat 5))])) _
      refine XS.iconst X0.here hx rfl (hb hby d1_87) ?_
      show Steps p.tables e below (s₁.setTop (mkF m 88 #[.val (.int (Int32.ofNat 5)), .val (.int x), .val (.int (own_bit x (1 : Int32))), .val (.int (own_bit x (2 : Int32))), .val (.int (own_bit x (4 : Int32))), .val (.int (own_bit x (8 : Int32))), .val (.int (own_bit x (16 : Int32)))] [(.int (2 : Int32)), (.int (Int32.ofNat 5))])) _
      refine XS.icmpYes X0.here hx rfl (pc0 := 88) (pc' := 103) rfl (hb hby d1_88) rfl (feq (by decide)).2 (by decide) (by decide) ?_
      show Steps p.tables e below (s₁.setTop (mkF m 103 #[.val (.int (Int32.ofNat 5)), .val (.int x), .val (.int (own_bit x (1 : Int32))), .val (.int (own_bit x (2 : Int32))), .val (.int (own_bit x (4 : Int32))), .val (.int (own_bit x (8 : Int32))), .val (.int (own_bit x (16 : Int32)))] [])) _
      refine XS.iloadN X0.here hx rfl (hb hby d1_103) rfl ?_
      show Steps p.tables e below (s₁.setTop (mkF m 104 #[.val (.int (Int32.ofNat 5)), .val (.int x), .val (.int (own_bit x (1 : Int32))), .val (.int (own_bit x (2 : Int32))), .val (.int (own_bit x (4 : Int32))), .val (.int (own_bit x (8 : Int32))), .val (.int (own_bit x (16 : Int32)))] [(.int (Int32.ofNat 5))])) _
      refine XS.iconst X0.here hx rfl (hb hby d1_104) ?_
      show Steps p.tables e below (s₁.setTop (mkF m 105 #[.val (.int (Int32.ofNat 5)), .val (.int x), .val (.int (own_bit x (1 : Int32))), .val (.int (own_bit x (2 : Int32))), .val (.int (own_bit x (4 : Int32))), .val (.int (own_bit x (8 : Int32))), .val (.int (own_bit x (16 : Int32)))] [(.int (3 : Int32)), (.int (Int32.ofNat 5))])) _
      refine XS.icmpYes X0.here hx rfl (pc0 := 105) (pc' := 125) rfl (hb hby d1_105) rfl (feq (by decide)).2 (by decide) (by decide) ?_
      show Steps p.tables e below (s₁.setTop (mkF m 125 #[.val (.int (Int32.ofNat 5)), .val (.int x), .val (.int (own_bit x (1 : Int32))), .val (.int (own_bit x (2 : Int32))), .val (.int (own_bit x (4 : Int32))), .val (.int (own_bit x (8 : Int32))), .val (.int (own_bit x (16 : Int32)))] [])) _
      refine XS.iloadN X0.here hx rfl (hb hby d1_125) rfl ?_
      show Steps p.tables e below (s₁.setTop (mkF m 126 #[.val (.int (Int32.ofNat 5)), .val (.int x), .val (.int (own_bit x (1 : Int32))), .val (.int (own_bit x (2 : Int32))), .val (.int (own_bit x (4 : Int32))), .val (.int (own_bit x (8 : Int32))), .val (.int (own_bit x (16 : Int32)))] [(.int (Int32.ofNat 5))])) _
      refine XS.iconst X0.here hx rfl (hb hby d1_126) ?_
      show Steps p.tables e below (s₁.setTop (mkF m 127 #[.val (.int (Int32.ofNat 5)), .val (.int x), .val (.int (own_bit x (1 : Int32))), .val (.int (own_bit x (2 : Int32))), .val (.int (own_bit x (4 : Int32))), .val (.int (own_bit x (8 : Int32))), .val (.int (own_bit x (16 : Int32)))] [(.int (4 : Int32)), (.int (Int32.ofNat 5))])) _
      refine XS.icmpYes X0.here hx rfl (pc0 := 127) (pc' := 152) rfl (hb hby d1_127) rfl (feq (by decide)).2 (by decide) (by decide) ?_
      show Steps p.tables e below (s₁.setTop (mkF m 152 #[.val (.int (Int32.ofNat 5)), .val (.int x), .val (.int (own_bit x (1 : Int32))), .val (.int (own_bit x (2 : Int32))), .val (.int (own_bit x (4 : Int32))), .val (.int (own_bit x (8 : Int32))), .val (.int (own_bit x (16 : Int32)))] [])) _
      refine XS.iconst X0.here hx rfl (hb hby d1_152) ?_
      show Steps p.tables e below (s₁.setTop (mkF m 153 #[.val (.int (Int32.ofNat 5)), .val (.int x), .val (.int (own_bit x (1 : Int32))), .val (.int (own_bit x (2 : Int32))), .val (.int (own_bit x (4 : Int32))), .val (.int (own_bit x (8 : Int32))), .val (.int (own_bit x (16 : Int32)))] [(.int (5 : Int32))])) _
      refine stf2 _ ?_
      show Steps p.tables e below (Tf2.setTop (mkF m 155 #[.val (.int (Int32.ofNat 5)), .val (.int x), .val (.int (own_bit x (1 : Int32))), .val (.int (own_bit x (2 : Int32))), .val (.int (own_bit x (4 : Int32))), .val (.int (own_bit x (8 : Int32))), .val (.int (own_bit x (16 : Int32)))] [(.ref bf2)])) _
      refine XS.dup Xf2.here hx rfl (hb hby d1_155) rfl rfl ?_
      show Steps p.tables e below (Tf2.setTop (mkF m 156 #[.val (.int (Int32.ofNat 5)), .val (.int x), .val (.int (own_bit x (1 : Int32))), .val (.int (own_bit x (2 : Int32))), .val (.int (own_bit x (4 : Int32))), .val (.int (own_bit x (8 : Int32))), .val (.int (own_bit x (16 : Int32)))] [(.ref bf2), (.ref bf2)])) _
      refine XS.iconst Xf2.here hx rfl (hb hby d1_156) ?_
      show Steps p.tables e below (Tf2.setTop (mkF m 157 #[.val (.int (Int32.ofNat 5)), .val (.int x), .val (.int (own_bit x (1 : Int32))), .val (.int (own_bit x (2 : Int32))), .val (.int (own_bit x (4 : Int32))), .val (.int (own_bit x (8 : Int32))), .val (.int (own_bit x (16 : Int32)))] [(.int (0 : Int32)), (.ref bf2), (.ref bf2)])) _
      refine XS.iloadN Xf2.here hx rfl (hb hby d1_157) rfl ?_
      show Steps p.tables e below (Tf2.setTop (mkF m 158 #[.val (.int (Int32.ofNat 5)), .val (.int x), .val (.int (own_bit x (1 : Int32))), .val (.int (own_bit x (2 : Int32))), .val (.int (own_bit x (4 : Int32))), .val (.int (own_bit x (8 : Int32))), .val (.int (own_bit x (16 : Int32)))] [(.int (own_bit x (1 : Int32))), (.int (0 : Int32)), (.ref bf2), (.ref bf2)])) _
      refine stf3 _ ?_
      show Steps p.tables e below (Tf3.setTop (mkF m 159 #[.val (.int (Int32.ofNat 5)), .val (.int x), .val (.int (own_bit x (1 : Int32))), .val (.int (own_bit x (2 : Int32))), .val (.int (own_bit x (4 : Int32))), .val (.int (own_bit x (8 : Int32))), .val (.int (own_bit x (16 : Int32)))] [(.ref bf2)])) _
      refine XS.dup Xf3.here hx rfl (hb hby d1_159) rfl rfl ?_
      show Steps p.tables e below (Tf3.setTop (mkF m 160 #[.val (.int (Int32.ofNat 5)), .val (.int x), .val (.int (own_bit x (1 : Int32))), .val (.int (own_bit x (2 : Int32))), .val (.int (own_bit x (4 : Int32))), .val (.int (own_bit x (8 : Int32))), .val (.int (own_bit x (16 : Int32)))] [(.ref bf2), (.ref bf2)])) _
      refine XS.iconst Xf3.here hx rfl (hb hby d1_160) ?_
      show Steps p.tables e below (Tf3.setTop (mkF m 161 #[.val (.int (Int32.ofNat 5)), .val (.int x), .val (.int (own_bit x (1 : Int32))), .val (.int (own_bit x (2 : Int32))), .val (.int (own_bit x (4 : Int32))), .val (.int (own_bit x (8 : Int32))), .val (.int (own_bit x (16 : Int32)))] [(.int (1 : Int32)), (.ref bf2), (.ref bf2)])) _
      refine XS.iloadN Xf3.here hx rfl (hb hby d1_161) rfl ?_
      show Steps p.tables e below (Tf3.setTop (mkF m 162 #[.val (.int (Int32.ofNat 5)), .val (.int x), .val (.int (own_bit x (1 : Int32))), .val (.int (own_bit x (2 : Int32))), .val (.int (own_bit x (4 : Int32))), .val (.int (own_bit x (8 : Int32))), .val (.int (own_bit x (16 : Int32)))] [(.int (own_bit x (2 : Int32))), (.int (1 : Int32)), (.ref bf2), (.ref bf2)])) _
      refine stf4 _ ?_
      show Steps p.tables e below (Tf4.setTop (mkF m 163 #[.val (.int (Int32.ofNat 5)), .val (.int x), .val (.int (own_bit x (1 : Int32))), .val (.int (own_bit x (2 : Int32))), .val (.int (own_bit x (4 : Int32))), .val (.int (own_bit x (8 : Int32))), .val (.int (own_bit x (16 : Int32)))] [(.ref bf2)])) _
      refine XS.dup Xf4.here hx rfl (hb hby d1_163) rfl rfl ?_
      show Steps p.tables e below (Tf4.setTop (mkF m 164 #[.val (.int (Int32.ofNat 5)), .val (.int x), .val (.int (own_bit x (1 : Int32))), .val (.int (own_bit x (2 : Int32))), .val (.int (own_bit x (4 : Int32))), .val (.int (own_bit x (8 : Int32))), .val (.int (own_bit x (16 : Int32)))] [(.ref bf2), (.ref bf2)])) _
      refine XS.iconst Xf4.here hx rfl (hb hby d1_164) ?_
      show Steps p.tables e below (Tf4.setTop (mkF m 165 #[.val (.int (Int32.ofNat 5)), .val (.int x), .val (.int (own_bit x (1 : Int32))), .val (.int (own_bit x (2 : Int32))), .val (.int (own_bit x (4 : Int32))), .val (.int (own_bit x (8 : Int32))), .val (.int (own_bit x (16 : Int32)))] [(.int (2 : Int32)), (.ref bf2), (.ref bf2)])) _
      refine XS.iload Xf4.here hx rfl (hb hby d1_165) rfl ?_
      show Steps p.tables e below (Tf4.setTop (mkF m 167 #[.val (.int (Int32.ofNat 5)), .val (.int x), .val (.int (own_bit x (1 : Int32))), .val (.int (own_bit x (2 : Int32))), .val (.int (own_bit x (4 : Int32))), .val (.int (own_bit x (8 : Int32))), .val (.int (own_bit x (16 : Int32)))] [(.int (own_bit x (4 : Int32))), (.int (2 : Int32)), (.ref bf2), (.ref bf2)])) _
      refine stf5 _ ?_
      show Steps p.tables e below (Tf5.setTop (mkF m 168 #[.val (.int (Int32.ofNat 5)), .val (.int x), .val (.int (own_bit x (1 : Int32))), .val (.int (own_bit x (2 : Int32))), .val (.int (own_bit x (4 : Int32))), .val (.int (own_bit x (8 : Int32))), .val (.int (own_bit x (16 : Int32)))] [(.ref bf2)])) _
      refine XS.dup Xf5.here hx rfl (hb hby d1_168) rfl rfl ?_
      show Steps p.tables e below (Tf5.setTop (mkF m 169 #[.val (.int (Int32.ofNat 5)), .val (.int x), .val (.int (own_bit x (1 : Int32))), .val (.int (own_bit x (2 : Int32))), .val (.int (own_bit x (4 : Int32))), .val (.int (own_bit x (8 : Int32))), .val (.int (own_bit x (16 : Int32)))] [(.ref bf2), (.ref bf2)])) _
      refine XS.iconst Xf5.here hx rfl (hb hby d1_169) ?_
      show Steps p.tables e below (Tf5.setTop (mkF m 170 #[.val (.int (Int32.ofNat 5)), .val (.int x), .val (.int (own_bit x (1 : Int32))), .val (.int (own_bit x (2 : Int32))), .val (.int (own_bit x (4 : Int32))), .val (.int (own_bit x (8 : Int32))), .val (.int (own_bit x (16 : Int32)))] [(.int (3 : Int32)), (.ref bf2), (.ref bf2)])) _
      refine XS.iload Xf5.here hx rfl (hb hby d1_170) rfl ?_
      show Steps p.tables e below (Tf5.setTop (mkF m 172 #[.val (.int (Int32.ofNat 5)), .val (.int x), .val (.int (own_bit x (1 : Int32))), .val (.int (own_bit x (2 : Int32))), .val (.int (own_bit x (4 : Int32))), .val (.int (own_bit x (8 : Int32))), .val (.int (own_bit x (16 : Int32)))] [(.int (own_bit x (8 : Int32))), (.int (3 : Int32)), (.ref bf2), (.ref bf2)])) _
      refine stf6 _ ?_
      show Steps p.tables e below (Tf6.setTop (mkF m 173 #[.val (.int (Int32.ofNat 5)), .val (.int x), .val (.int (own_bit x (1 : Int32))), .val (.int (own_bit x (2 : Int32))), .val (.int (own_bit x (4 : Int32))), .val (.int (own_bit x (8 : Int32))), .val (.int (own_bit x (16 : Int32)))] [(.ref bf2)])) _
      refine XS.dup Xf6.here hx rfl (hb hby d1_173) rfl rfl ?_
      show Steps p.tables e below (Tf6.setTop (mkF m 174 #[.val (.int (Int32.ofNat 5)), .val (.int x), .val (.int (own_bit x (1 : Int32))), .val (.int (own_bit x (2 : Int32))), .val (.int (own_bit x (4 : Int32))), .val (.int (own_bit x (8 : Int32))), .val (.int (own_bit x (16 : Int32)))] [(.ref bf2), (.ref bf2)])) _
      refine XS.iconst Xf6.here hx rfl (hb hby d1_174) ?_
      show Steps p.tables e below (Tf6.setTop (mkF m 175 #[.val (.int (Int32.ofNat 5)), .val (.int x), .val (.int (own_bit x (1 : Int32))), .val (.int (own_bit x (2 : Int32))), .val (.int (own_bit x (4 : Int32))), .val (.int (own_bit x (8 : Int32))), .val (.int (own_bit x (16 : Int32)))] [(.int (4 : Int32)), (.ref bf2), (.ref bf2)])) _
      refine XS.iload Xf6.here hx rfl (hb hby d1_175) rfl ?_
      show Steps p.tables e below (Tf6.setTop (mkF m 177 #[.val (.int (Int32.ofNat 5)), .val (.int x), .val (.int (own_bit x (1 : Int32))), .val (.int (own_bit x (2 : Int32))), .val (.int (own_bit x (4 : Int32))), .val (.int (own_bit x (8 : Int32))), .val (.int (own_bit x (16 : Int32)))] [(.int (own_bit x (16 : Int32))), (.int (4 : Int32)), (.ref bf2), (.ref bf2)])) _
      refine stf7 _ ?_
      exact kt
    obtain ⟨fs, hr, hrun, hended, hW, hsame⟩ := Xf7.leave (v := some (.ref bf2)) (fun h => by rw [Bd.returns] at h; cases h)
    refine ⟨_, _, pref8 _ ?_, hrun, hended, _, _, rfl, ?_, ⟨_, rfl⟩, hW, hsame.mono (by decide) (by decide)⟩
    · exact retOut Xf7 hx Bd.returns rfl (Or.inr (Or.inr (Or.inr (Or.inr ⟨rfl, rfl, rfl⟩)))) (hb hby d1_178) hr
    · show Q1 Z 5 x h0 n0 _ Tf7.heap _
      rw [ef7]
      exact ⟨bf2, kf2, rfl, Nf7, g_bf2, Kf7, Vf2_5⟩
theorem own_os {s0 : Slot} {z1 z2 z3 : Value} {s4 : Slot} {v : Int32} (h : One s4) : storeLocals #[s0, .val z1, .val z2, .val z3, s4] 4 (.int v) = some #[s0, .val z1, .val z2, .val z3, .val (.int v)] := by
  rcases h with rfl | ⟨w, rfl, hw⟩
  · rfl
  · cases w <;> first | rfl | (simp [Value.category] at hw)
set_option maxRecDepth 65536 in
set_option maxHeartbeats 4000000 in
theorem own_loop {p : Program} {l : Launch} {e : Env} {R : Room} {s : State} {m : MethodId} {args : Array Value} {below : List Frame} {meth : Method} {c : Code} {T : State} {locs : List Loc} {cells slots : Nat} {Z : State} {h0 : Heap} {t : State} (o : Addr) (cl : Cell) (n : Nat) (f : Nat → Int32)
    (X : Stand p l e R s m args below meth c T locs cells slots) (hx : p.tables.exec = Jvm.exec) (hZ : Z.Warmed39 s.vm) (hby : c.code = prog_6_method_4_code) (e0 : T.heap = h0) (Ar : Arr Z h0 o cl .boolean) (hn : n ≤ 5) (Sz : cl.slots.size = n) (hat : ∀ j, j < n → cl.slots[j]? = some (.int (f j))) (k : Nat) :
    ∀ (i : Nat) (s4 : Slot), One s4 → i + k = n → (∀ pc', (pc' = 23 ∨ pc' = 31) → ∀ s3 s4, Steps p.tables e below (T.setTop (mkF m pc' #[.val (.ref o), .val (.ref o), .val (.int (Int32.ofNat n)), s3, s4] [.int (own_any f k i)])) t) →
      Steps p.tables e below (T.setTop (mkF m 7 #[.val (.ref o), .val (.ref o), .val (.int (Int32.ofNat n)), .val (.int (Int32.ofNat i)), s4] [])) t := by
  induction k with
  | zero =>
    intro i s4 h4 hi kt
    have ei : i = n := by omega
    subst ei
    show Steps p.tables e below (T.setTop (mkF m 7 #[.val (.ref o), .val (.ref o), .val (.int (Int32.ofNat i)), .val (.int (Int32.ofNat i)), s4] [])) _
    refine XS.iloadN X.here hx rfl (hb hby d2_7) rfl ?_
    show Steps p.tables e below (T.setTop (mkF m 8 #[.val (.ref o), .val (.ref o), .val (.int (Int32.ofNat i)), .val (.int (Int32.ofNat i)), s4] [(.int (Int32.ofNat i))])) _
    refine XS.iloadN X.here hx rfl (hb hby d2_8) rfl ?_
    show Steps p.tables e below (T.setTop (mkF m 9 #[.val (.ref o), .val (.ref o), .val (.int (Int32.ofNat i)), .val (.int (Int32.ofNat i)), s4] [(.int (Int32.ofNat i)), (.int (Int32.ofNat i))])) _
    refine XS.icmpYes X.here hx rfl (pc0 := 9) (pc' := 30) rfl (hb hby d2_9) rfl (flt (own_nlt i)).2.1 (by decide) (by decide) ?_
    show Steps p.tables e below (T.setTop (mkF m 30 #[.val (.ref o), .val (.ref o), .val (.int (Int32.ofNat i)), .val (.int (Int32.ofNat i)), s4] [])) _
    refine XS.iconst X.here hx rfl (hb hby d2_30) ?_
    exact kt 31 (Or.inr rfl) _ _
  | succ k ih =>
    intro i s4 h4 hi kt
    have hlt : i < n := by omega
    have hin : ¬ (Int32.ofNat i < 0 ∨ cl.slots.size ≤ (Int32.ofNat i).toNatClampNeg) := by
      rw [Sz, own_n32 (by omega)]
      exact fun q => q.elim (own_nn (by omega)) (fun q => by omega)
    have hat' : cl.slots[(Int32.ofNat i).toNatClampNeg]? = some (.int (f i)) := by rw [own_n32 (by omega)]; exact hat i hlt
    by_cases c1 : f i = 0
    · have hv : own_any f (k + 1) i = own_any f k (i + 1) := if_pos c1
      rw [hv] at kt
      show Steps p.tables e below (T.setTop (mkF m 7 #[.val (.ref o), .val (.ref o), .val (.int (Int32.ofNat n)), .val (.int (Int32.ofNat i)), s4] [])) _
      refine XS.iloadN X.here hx rfl (hb hby d2_7) rfl ?_
      show Steps p.tables e below (T.setTop (mkF m 8 #[.val (.ref o), .val (.ref o), .val (.int (Int32.ofNat n)), .val (.int (Int32.ofNat i)), s4] [(.int (Int32.ofNat i))])) _
      refine XS.iloadN X.here hx rfl (hb hby d2_8) rfl ?_
      show Steps p.tables e below (T.setTop (mkF m 9 #[.val (.ref o), .val (.ref o), .val (.int (Int32.ofNat n)), .val (.int (Int32.ofNat i)), s4] [(.int (Int32.ofNat n)), (.int (Int32.ofNat i))])) _
      refine XS.icmpNo X.here hx rfl (hb hby d2_9) rfl (tlt (own_lt hlt hn)).2.1 ?_
      show Steps p.tables e below (T.setTop (mkF m 12 #[.val (.ref o), .val (.ref o), .val (.int (Int32.ofNat n)), .val (.int (Int32.ofNat i)), s4] [])) _
      refine XS.aloadN X.here hx rfl (hb hby d2_12) rfl rfl ?_
      show Steps p.tables e below (T.setTop (mkF m 13 #[.val (.ref o), .val (.ref o), .val (.int (Int32.ofNat n)), .val (.int (Int32.ofNat i)), s4] [(.ref o)])) _
      refine XS.iloadN X.here hx rfl (hb hby d2_13) rfl ?_
      show Steps p.tables e below (T.setTop (mkF m 14 #[.val (.ref o), .val (.ref o), .val (.int (Int32.ofNat n)), .val (.int (Int32.ofNat i)), s4] [(.int (Int32.ofNat i)), (.ref o)])) _
      refine X.baloadBooleans hx (j := (Int32.ofNat i)) (v := (.int (f i))) (by rw [e0]; exact Ar.1) (State.isArrayOf_alike hZ.alike Ar.2.1) Ar.2.2 hin hat' (g := (mkF m 14 #[.val (.ref o), .val (.ref o), .val (.int (Int32.ofNat n)), .val (.int (Int32.ofNat i)), s4] [(.int (Int32.ofNat i)), (.ref o)])) rfl rfl (hb hby d2_14) _ ?_
      show Steps p.tables e below (T.setTop (mkF m 15 #[.val (.ref o), .val (.ref o), .val (.int (Int32.ofNat n)), .val (.int (Int32.ofNat i)), s4] [(.int (f i))])) _
      refine XS.istore X.here hx rfl (hb hby d2_15) rfl (l' := #[.val (.ref o), .val (.ref o), .val (.int (Int32.ofNat n)), .val (.int (Int32.ofNat i)), .val (.int (f i))]) (own_os h4) ?_
      show Steps p.tables e below (T.setTop (mkF m 17 #[.val (.ref o), .val (.ref o), .val (.int (Int32.ofNat n)), .val (.int (Int32.ofNat i)), .val (.int (f i))] [])) _
      refine XS.iload X.here hx rfl (hb hby d2_17) rfl ?_
      show Steps p.tables e below (T.setTop (mkF m 19 #[.val (.ref o), .val (.ref o), .val (.int (Int32.ofNat n)), .val (.int (Int32.ofNat i)), .val (.int (f i))] [(.int (f i))])) _
      refine XS.ifYes X.here hx rfl (pc0 := 19) (pc' := 24) rfl (hb hby d2_19) rfl ((if0 _ _).trans (teq c1).1) (by decide) (by decide) ?_
      show Steps p.tables e below (T.setTop (mkF m 24 #[.val (.ref o), .val (.ref o), .val (.int (Int32.ofNat n)), .val (.int (Int32.ofNat i)), .val (.int (f i))] [])) _
      refine XS.iinc X.here hx rfl (hb hby d2_24) rfl (l' := #[.val (.ref o), .val (.ref o), .val (.int (Int32.ofNat n)), .val (.int ((Int32.ofNat i) + (1 : Int32))), .val (.int (f i))]) rfl ?_
      show Steps p.tables e below (T.setTop (mkF m 27 #[.val (.ref o), .val (.ref o), .val (.int (Int32.ofNat n)), .val (.int ((Int32.ofNat i) + (1 : Int32))), .val (.int (f i))] [])) _
      refine XS.goto X.here hx rfl (pc0 := 27) (pc' := 7) rfl (hb hby d2_27) (by decide) (by decide) ?_
      show Steps p.tables e below (T.setTop (mkF m 7 #[.val (.ref o), .val (.ref o), .val (.int (Int32.ofNat n)), .val (.int ((Int32.ofNat i) + (1 : Int32))), .val (.int (f i))] [])) _
      rw [own_one]
      exact ih (i + 1) _ (One.val rfl) (by omega) kt
    · have hv : own_any f (k + 1) i = 1 := if_neg c1
      rw [hv] at kt
      show Steps p.tables e below (T.setTop (mkF m 7 #[.val (.ref o), .val (.ref o), .val (.int (Int32.ofNat n)), .val (.int (Int32.ofNat i)), s4] [])) _
      refine XS.iloadN X.here hx rfl (hb hby d2_7) rfl ?_
      show Steps p.tables e below (T.setTop (mkF m 8 #[.val (.ref o), .val (.ref o), .val (.int (Int32.ofNat n)), .val (.int (Int32.ofNat i)), s4] [(.int (Int32.ofNat i))])) _
      refine XS.iloadN X.here hx rfl (hb hby d2_8) rfl ?_
      show Steps p.tables e below (T.setTop (mkF m 9 #[.val (.ref o), .val (.ref o), .val (.int (Int32.ofNat n)), .val (.int (Int32.ofNat i)), s4] [(.int (Int32.ofNat n)), (.int (Int32.ofNat i))])) _
      refine XS.icmpNo X.here hx rfl (hb hby d2_9) rfl (tlt (own_lt hlt hn)).2.1 ?_
      show Steps p.tables e below (T.setTop (mkF m 12 #[.val (.ref o), .val (.ref o), .val (.int (Int32.ofNat n)), .val (.int (Int32.ofNat i)), s4] [])) _
      refine XS.aloadN X.here hx rfl (hb hby d2_12) rfl rfl ?_
      show Steps p.tables e below (T.setTop (mkF m 13 #[.val (.ref o), .val (.ref o), .val (.int (Int32.ofNat n)), .val (.int (Int32.ofNat i)), s4] [(.ref o)])) _
      refine XS.iloadN X.here hx rfl (hb hby d2_13) rfl ?_
      show Steps p.tables e below (T.setTop (mkF m 14 #[.val (.ref o), .val (.ref o), .val (.int (Int32.ofNat n)), .val (.int (Int32.ofNat i)), s4] [(.int (Int32.ofNat i)), (.ref o)])) _
      refine X.baloadBooleans hx (j := (Int32.ofNat i)) (v := (.int (f i))) (by rw [e0]; exact Ar.1) (State.isArrayOf_alike hZ.alike Ar.2.1) Ar.2.2 hin hat' (g := (mkF m 14 #[.val (.ref o), .val (.ref o), .val (.int (Int32.ofNat n)), .val (.int (Int32.ofNat i)), s4] [(.int (Int32.ofNat i)), (.ref o)])) rfl rfl (hb hby d2_14) _ ?_
      show Steps p.tables e below (T.setTop (mkF m 15 #[.val (.ref o), .val (.ref o), .val (.int (Int32.ofNat n)), .val (.int (Int32.ofNat i)), s4] [(.int (f i))])) _
      refine XS.istore X.here hx rfl (hb hby d2_15) rfl (l' := #[.val (.ref o), .val (.ref o), .val (.int (Int32.ofNat n)), .val (.int (Int32.ofNat i)), .val (.int (f i))]) (own_os h4) ?_
      show Steps p.tables e below (T.setTop (mkF m 17 #[.val (.ref o), .val (.ref o), .val (.int (Int32.ofNat n)), .val (.int (Int32.ofNat i)), .val (.int (f i))] [])) _
      refine XS.iload X.here hx rfl (hb hby d2_17) rfl ?_
      show Steps p.tables e below (T.setTop (mkF m 19 #[.val (.ref o), .val (.ref o), .val (.int (Int32.ofNat n)), .val (.int (Int32.ofNat i)), .val (.int (f i))] [(.int (f i))])) _
      refine XS.ifNo X.here hx rfl (hb hby d2_19) rfl ((if0 _ _).trans (feq c1).1) ?_
      show Steps p.tables e below (T.setTop (mkF m 22 #[.val (.ref o), .val (.ref o), .val (.int (Int32.ofNat n)), .val (.int (Int32.ofNat i)), .val (.int (f i))] [])) _
      refine XS.iconst X.here hx rfl (hb hby d2_22) ?_
      exact kt 23 (Or.inl rfl) _ _
def Q2 (Z : State) (o : Addr) (k : Nat) (kc : ClassId) (f : Nat → Int32) (h0 : Heap) (n0 : Nat) (v : Option Value) (h : Heap) (L : List Loc) : Prop := v = some (.int (own_any f k 0)) ∧ Fr n0 L ∧ h = h0
theorem ef_rm2 (m : MethodId) (x0 : Addr) : entryFrame m #[(.ref x0)] 5 = mkF m 0 #[.val (.ref x0), .unset, .unset, .unset, .unset] [] := by first | (simp [entryFrame, mkF, argsToLocals, Value.category]; done) | rfl
theorem pn_rm2 : plainName "com/example/fanoutlint/fanoutlint/check/Labels" = true := by first | (simp [plainName, overriddenIn]; done) | decide +kernel
set_option maxRecDepth 65536 in
set_option maxHeartbeats 40000000 in
theorem rm2 (l : Launch) (Z : State) (a0 : Array Value) (hw : ∀ d ∈ tables_1, d.before a0 Z = true) (ws : List Jvm.Cond) (o : Addr) (k : Nat) (kc : ClassId) (f : Nat → Int32) (h0 : Heap) (n0 : Nat) (Z0 : n0 ≤ h0.size) (hk : k ≤ 5) (V0 : Arv Z h0 o kc .boolean (Int32.ofNat k) (own_vals f k) (.int (0 : Int32))) :
    MetFree l (⟨"com/example/fanoutlint/fanoutlint/check/Labels", "any", "([Z)Z"⟩ : MethodName) (head1 (Jvm.Cond.code (⟨"com/example/fanoutlint/fanoutlint/check/Labels", "any", "([Z)Z"⟩ : MethodName) prog_6_method_4_code 5 (some .boolean) :: ws) ({ frames := 0, cells := 0, slots := 0, locals := 0 } : Room)) (fun a U => a = #[(.ref o)] ∧ Z.Warmed39 U.vm ∧ U.heap = h0) (fun _ _ _ _ _ => True) (fun _ U oc U' => ∃ v L, oc = .returned v ∧ Q2 Z o k kc f h0 n0 v U'.heap L ∧ FrameEnd U oc U' L ({ frames := 0, cells := 0, slots := 0, locals := 0 } : Room).cells ({ frames := 0, cells := 0, slots := 0, locals := 0 } : Room).slots) := by
  refine MetFree.of_bodySF (plainFor_of_name pn_rm2) hisR ?_
  intro p e s m args below meth c s₁ Bd hml0 hP hK
  obtain ⟨rfl, hZ, hh⟩ := hP
  have hx := Bd.exec
  have hby := Bd.bytes
  have hml : c.maxLocals = 5 := hml0
  have hown : s.vm.findClass "com/example/fanoutlint/fanoutlint/check/Labels" = some m.cls := findClass_of_methodNamed Bd.named
  have hnm := (name_of_methodNamed Bd.named Bd.method).1
  have X0 : Stand p l e ({ frames := 0, cells := 0, slots := 0, locals := 0 } : Room) s m #[(.ref o)] below meth c s₁ [] 0 0 := Stand.of_body Bd
  have e0 : s₁.heap = h0 := by rw [← hh, Bd.state]; rfl
  have N0 := Fr.nil n0
  have pre0 : ∀ tt, Steps p.tables e below (s₁.setTop (mkF m 0 #[.val (.ref o), .unset, .unset, .unset, .unset] [])) tt → Steps p.tables e below (s₁.setTop (entryFrame m #[(.ref o)] 5)) tt := fun tt kt => castTop (ef_rm2 m o) kt
  obtain ⟨cl, Ar, -, Sz, Mz, Hz, -⟩ := V0
  have Sz' : cl.slots.size = k := by rw [Sz]; exact own_n32 hk
  have hat : ∀ j, j < k → cl.slots[j]? = some (.int (f j)) := fun j hj => by rw [Hz j (by omega), own_at f hj]
  have pre1 : ∀ tt, Steps p.tables e below (s₁.setTop (mkF m 7 #[.val (.ref o), .val (.ref o), .val (.int (Int32.ofNat k)), .val (.int (0 : Int32)), .unset] [])) tt → Steps p.tables e below (s₁.setTop (entryFrame m #[(.ref o)] 5)) tt := by
    intro tt kt
    refine pre0 tt ?_
    show Steps p.tables e below (s₁.setTop (mkF m 0 #[.val (.ref o), .unset, .unset, .unset, .unset] [])) _
    refine XS.aloadN X0.here hx rfl (hb hby d2_0) rfl rfl ?_
    show Steps p.tables e below (s₁.setTop (mkF m 1 #[.val (.ref o), .unset, .unset, .unset, .unset] [(.ref o)])) _
    refine XS.astoreN X0.here hx rfl (hb hby d2_1) rfl rfl (l' := #[.val (.ref o), .val (.ref o), .unset, .unset, .unset]) rfl ?_
    show Steps p.tables e below (s₁.setTop (mkF m 2 #[.val (.ref o), .val (.ref o), .unset, .unset, .unset] [])) _
    refine XS.aloadN X0.here hx rfl (hb hby d2_2) rfl rfl ?_
    show Steps p.tables e below (s₁.setTop (mkF m 3 #[.val (.ref o), .val (.ref o), .unset, .unset, .unset] [(.ref o)])) _
    refine X0.arraylength hx (by rw [e0]; exact Ar.1) (State.isArrayOf_alike hZ.alike Ar.2.1) (g := (mkF m 3 #[.val (.ref o), .val (.ref o), .unset, .unset, .unset] [(.ref o)])) rfl rfl (hb hby d2_3) _ ?_
    rw [len_of Sz Mz]
    show Steps p.tables e below (s₁.setTop (mkF m 4 #[.val (.ref o), .val (.ref o), .unset, .unset, .unset] [(.int (Int32.ofNat k))])) _
    refine XS.istoreN X0.here hx rfl (hb hby d2_4) rfl (l' := #[.val (.ref o), .val (.ref o), .val (.int (Int32.ofNat k)), .unset, .unset]) rfl ?_
    show Steps p.tables e below (s₁.setTop (mkF m 5 #[.val (.ref o), .val (.ref o), .val (.int (Int32.ofNat k)), .unset, .unset] [])) _
    refine XS.iconst X0.here hx rfl (hb hby d2_5) ?_
    show Steps p.tables e below (s₁.setTop (mkF m 6 #[.val (.ref o), .val (.ref o), .val (.int (Int32.ofNat k)), .unset, .unset] [(.int (0 : Int32))])) _
    refine XS.istoreN X0.here hx rfl (hb hby d2_6) rfl (l' := #[.val (.ref o), .val (.ref o), .val (.int (Int32.ofNat k)), .val (.int (0 : Int32)), .unset]) rfl ?_
    exact kt
  obtain ⟨fs, hr, hrun, hended, hW, hsame⟩ := X0.leave (v := some (.int (nar .boolean (own_any f k 0)))) (fun h => by rw [Bd.returns] at h; cases h)
  refine ⟨_, _, pre1 _ ?_, hrun, hended, _, _, rfl, ?_, ⟨_, rfl⟩, hW, hsame.mono (by decide) (by decide)⟩
  · refine own_loop o cl k f X0 hx hZ hby e0 Ar hk Sz' hat k 0 .unset One.u (by omega) ?_
    intro pc' hpc s3 s4
    rcases hpc with rfl | rfl
    · exact retN X0 hx (t := .boolean) Bd.returns (by simp) (hb hby d2_23) hr
    · exact retN X0 hx (t := .boolean) Bd.returns (by simp) (hb hby d2_31) hr
  · show Q2 Z o k kc f h0 n0 _ s₁.heap _
    rw [e0]
    exact ⟨by rw [own_nar (own_any01 _ _ _)], N0, rfl⟩
set_option maxRecDepth 65536 in
set_option maxHeartbeats 4000000 in
theorem ck_exp {p : Program} {e : Env} {below : List Frame} {m : MethodId} {c : Code} {T t : State} (s0 : Slot) (x : Int32) (s2 : Slot) (s3 : Slot) (mk : Int32) (h : At T m c below) (hx : p.tables.exec = Jvm.exec) (hby : c.code = code)  (kt : Steps p.tables e below (T.setTop (mkF m 35 #[s0, .val (.int x), s2, s3, .val (.int mk), .val (.int (own_bit x mk))] [])) t) : Steps p.tables e below (T.setTop (mkF m 21 #[s0, .val (.int x), s2, s3, .val (.int mk), .unset] [])) t := by
  by_cases c1 : x &&& mk = 0
  · have hv : own_bit x mk = 0 := if_pos c1
    rw [hv] at kt
    show Steps p.tables e below (T.setTop (mkF m 21 #[s0, .val (.int x), s2, s3, .val (.int mk), .unset] [])) _
    refine XS.iloadN h hx rfl (hb hby at_21) rfl ?_
    show Steps p.tables e below (T.setTop (mkF m 22 #[s0, .val (.int x), s2, s3, .val (.int mk), .unset] [(.int x)])) _
    refine XS.iload h hx rfl (hb hby at_22) rfl ?_
    show Steps p.tables e below (T.setTop (mkF m 24 #[s0, .val (.int x), s2, s3, .val (.int mk), .unset] [(.int mk), (.int x)])) _
    refine XS.iand h hx rfl (hb hby at_24) rfl ?_
    show Steps p.tables e below (T.setTop (mkF m 25 #[s0, .val (.int x), s2, s3, .val (.int mk), .unset] [(.int (x &&& mk))])) _
    refine XS.ifYes h hx rfl (pc0 := 25) (pc' := 32) rfl (hb hby at_25) rfl ((if0 _ _).trans (teq c1).1) (by decide) (by decide) ?_
    show Steps p.tables e below (T.setTop (mkF m 32 #[s0, .val (.int x), s2, s3, .val (.int mk), .unset] [])) _
    refine XS.iconst h hx rfl (hb hby at_32) ?_
    show Steps p.tables e below (T.setTop (mkF m 33 #[s0, .val (.int x), s2, s3, .val (.int mk), .unset] [(.int (0 : Int32))])) _
    refine XS.istore h hx rfl (hb hby at_33) rfl (l' := #[s0, .val (.int x), s2, s3, .val (.int mk), .val (.int (0 : Int32))]) rfl ?_
    exact kt
  · have hv : own_bit x mk = 1 := if_neg c1
    rw [hv] at kt
    show Steps p.tables e below (T.setTop (mkF m 21 #[s0, .val (.int x), s2, s3, .val (.int mk), .unset] [])) _
    refine XS.iloadN h hx rfl (hb hby at_21) rfl ?_
    show Steps p.tables e below (T.setTop (mkF m 22 #[s0, .val (.int x), s2, s3, .val (.int mk), .unset] [(.int x)])) _
    refine XS.iload h hx rfl (hb hby at_22) rfl ?_
    show Steps p.tables e below (T.setTop (mkF m 24 #[s0, .val (.int x), s2, s3, .val (.int mk), .unset] [(.int mk), (.int x)])) _
    refine XS.iand h hx rfl (hb hby at_24) rfl ?_
    show Steps p.tables e below (T.setTop (mkF m 25 #[s0, .val (.int x), s2, s3, .val (.int mk), .unset] [(.int (x &&& mk))])) _
    refine XS.ifNo h hx rfl (hb hby at_25) rfl ((if0 _ _).trans (feq c1).1) ?_
    show Steps p.tables e below (T.setTop (mkF m 28 #[s0, .val (.int x), s2, s3, .val (.int mk), .unset] [])) _
    refine XS.iconst h hx rfl (hb hby at_28) ?_
    show Steps p.tables e below (T.setTop (mkF m 29 #[s0, .val (.int x), s2, s3, .val (.int mk), .unset] [(.int (1 : Int32))])) _
    refine XS.goto h hx rfl (pc0 := 29) (pc' := 33) rfl (hb hby at_29) (by decide) (by decide) ?_
    show Steps p.tables e below (T.setTop (mkF m 33 #[s0, .val (.int x), s2, s3, .val (.int mk), .unset] [(.int (1 : Int32))])) _
    refine XS.istore h hx rfl (hb hby at_33) rfl (l' := #[s0, .val (.int x), s2, s3, .val (.int mk), .val (.int (1 : Int32))]) rfl ?_
    exact kt
def Q0 (Z : State) (p1 : Int32) (p2 : Int32) (h0 : Heap) (n0 : Nat) (v : Option Value) (h : Heap) (L : List Loc) : Prop := v = some (.int (1 : Int32)) ∧ Fr n0 L
theorem ef_rm0 (m : MethodId) (x0 : Int32) (x1 : Int32) : entryFrame m #[(.int x0), (.int x1)] maxLocals = mkF m 0 #[.val (.int x0), .val (.int x1), .unset, .unset, .unset, .unset] [] := by first | (simp [entryFrame, mkF, argsToLocals, Value.category, maxLocals]; done) | rfl
theorem pn_rm0 : plainName "com/example/fanoutlint/fanoutlint/check/LabelsAnyPinLaw" = true := by first | (simp [plainName, overriddenIn]; done) | decide +kernel
set_option maxRecDepth 65536 in
set_option maxHeartbeats 40000000 in
theorem rm0 (l : Launch) (Z : State) (a0 : Array Value) (hw : ∀ d ∈ tables_1, d.before a0 Z = true) (ws : List Jvm.Cond) (p1 : Int32) (p2 : Int32) (h0 : Heap) (n0 : Nat) (Z0 : n0 ≤ h0.size)  :
    MetFree l x (head1 (Jvm.Cond.code x code maxLocals ret :: ws) room_1) (fun a U => a = #[(.int p1), (.int p2)] ∧ Z.Warmed39 U.vm ∧ U.heap = h0) (fun _ _ _ _ _ => True) (fun _ U oc U' => ∃ v L, oc = .returned v ∧ Q0 Z p1 p2 h0 n0 v U'.heap L ∧ FrameEnd U oc U' L room_1.cells room_1.slots) := by
  refine MetFree.of_bodySF (plainFor_of_name pn_rm0) hisR ?_
  intro p e s m args below meth c s₁ Bd hml0 hP hK
  obtain ⟨rfl, hZ, hh⟩ := hP
  have hx := Bd.exec
  have hby := Bd.bytes
  have hml : c.maxLocals = 6 := hml0
  have hown : s.vm.findClass "com/example/fanoutlint/fanoutlint/check/LabelsAnyPinLaw" = some m.cls := findClass_of_methodNamed Bd.named
  have hnm := (name_of_methodNamed Bd.named Bd.method).1
  have X0 : Stand p l e room_1 s m #[(.int p1), (.int p2)] below meth c s₁ [] 0 0 := Stand.of_body Bd
  have e0 : s₁.heap = h0 := by rw [← hh, Bd.state]; rfl
  have N0 := Fr.nil n0
  have pre0 : ∀ tt, Steps p.tables e below (s₁.setTop (mkF m 0 #[.val (.int p1), .val (.int p2), .unset, .unset, .unset, .unset] [])) tt → Steps p.tables e below (s₁.setTop (entryFrame m #[(.int p1), (.int p2)] maxLocals)) tt := fun tt kt => castTop (ef_rm0 m p1 p2) kt
  obtain ⟨k, hk, ek⟩ := own_mod p1
  obtain ⟨_, _, ⟨T1, L1, k1, n1⟩, -, X1, ⟨Lc1, hQ1, l1, y1, z1⟩, st1⟩ := Jvm.LawKit.callS X0 hx (y := (⟨"com/example/fanoutlint/fanoutlint/check/LabelsAnyPinLaw", "make", "(II)[Z"⟩ : MethodName)) hown (mvT hZ (hw _ (List.mem_of_getElem? (i := 1) rfl))) (mvT hZ (hw _ (List.mem_of_getElem? (i := 2) rfl))) (mvT hZ (hw _ (List.mem_of_getElem? (i := 3) rfl))) (mvT hZ (hw _ (List.mem_of_getElem? (i := 4) rfl))) (by decide) (backOf (W := 0) (rm1 l Z a0 hw [] k p2 h0 n0 Z0 hk) hZ (hw _ (List.mem_of_getElem? (i := 4) rfl)) (hw _ (List.mem_of_getElem? (i := 3) rfl)) (by decide) (by decide)) (g := (mkF m 10 #[.val (.int p1), .val (.int p2), .val (.int (Int32.ofNat k)), .unset, .unset, .unset] [(.int p2), (.int (Int32.ofNat k))])) rfl (by rw [hml]; rfl) (argsL := [(.int (Int32.ofNat k)), (.int p2)]) (rest := []) (lenOf pd_0 rfl) rfl (by show 2 * 0 + _ ≤ _; exact Nat.le_of_eq rfl) (hb hby at_10) (fun _ _ => ⟨rfl, e0, (by decide : 0 + 1 ≤ _), (by decide : 0 + 5 ≤ _)⟩)
  dsimp only [Pt.U, Pt.locs, Pt.cells, Pt.slots] at X1 l1 y1 z1 st1 hQ1
  subst l1 y1 z1
  obtain ⟨a1, kc1, rfl, N1q, g1, K1, V1⟩ := hQ1
  have N1 := Fr.app N0 N1q
  have Z1 : n0 ≤ T1.heap.size := Nat.le_trans Z0 K1.1
  obtain ⟨_, _, ⟨T2, L2, k2, n2⟩, -, X2, ⟨Lc2, hQ2, l2, y2, z2⟩, st2⟩ := Jvm.LawKit.callS X1 hx (y := (⟨"com/example/fanoutlint/fanoutlint/check/Labels", "any", "([Z)Z"⟩ : MethodName)) hown (mvT hZ (hw _ (List.mem_of_getElem? (i := 6) rfl))) (mvT hZ (hw _ (List.mem_of_getElem? (i := 7) rfl))) (mvT hZ (hw _ (List.mem_of_getElem? (i := 8) rfl))) (mvT hZ (hw _ (List.mem_of_getElem? (i := 9) rfl))) (by decide) (backOf (W := 0) (rm2 l Z a0 hw [] a1 k kc1 (own_f p2) T1.heap n0 Z1 hk V1) hZ (hw _ (List.mem_of_getElem? (i := 9) rfl)) (hw _ (List.mem_of_getElem? (i := 8) rfl)) (by decide) (by decide)) (g := (mkF m 36 #[.val (.int p1), .val (.int p2), .val (.int (Int32.ofNat k)), .val (.ref a1), .val (.int (((1 : Int32) <<< ((Int32.ofNat k) &&& 31)) - (1 : Int32))), .val (.int (own_bit p2 (((1 : Int32) <<< ((Int32.ofNat k) &&& 31)) - (1 : Int32))))] [(.ref a1)])) rfl (by rw [hml]; rfl) (argsL := [(.ref a1)]) (rest := []) (lenOf pd_1 rfl) rfl (by show 2 * 0 + _ ≤ _; exact Nat.le_of_eq rfl) (hb hby at_36) (fun _ _ => ⟨rfl, rfl, (by decide : 1 + 0 ≤ _), (by decide : 5 + 0 ≤ _)⟩)
  dsimp only [Pt.U, Pt.locs, Pt.cells, Pt.slots] at X2 l2 y2 z2 st2 hQ2
  subst l2 y2 z2
  obtain ⟨rfl, N2q, h2⟩ := hQ2
  have N2 := Fr.app N1 N2q
  have pre3 : ∀ tt, Steps p.tables e below (T2.setTop (mkF m 49 #[.val (.int p1), .val (.int p2), .val (.int (Int32.ofNat k)), .val (.ref a1), .val (.int (((1 : Int32) <<< ((Int32.ofNat k) &&& 31)) - (1 : Int32))), .val (.int (own_bit p2 (((1 : Int32) <<< ((Int32.ofNat k) &&& 31)) - (1 : Int32))))] [(.int (1 : Int32))])) tt → Steps p.tables e below (s₁.setTop (entryFrame m #[(.int p1), (.int p2)] maxLocals)) tt := by
    intro tt kt
    refine pre0 tt ?_
    show Steps p.tables e below (s₁.setTop (mkF m 0 #[.val (.int p1), .val (.int p2), .unset, .unset, .unset, .unset] [])) _
    refine XS.iloadN X0.here hx rfl (hb hby at_0) rfl ?_
    show Steps p.tables e below (s₁.setTop (mkF m 1 #[.val (.int p1), .val (.int p2), .unset, .unset, .unset, .unset] [(.int p1)])) _
    refine X0.ldcInt hx hown (mvT hZ (hw _ (List.mem_of_getElem? (i := 0) rfl))) (g := (mkF m 1 #[.val (.int p1), .val (.int p2), .unset, .unset, .unset, .unset] [(.int p1)])) rfl (hb hby at_1) _ ?_
    show Steps p.tables e below (s₁.setTop (mkF m 3 #[.val (.int p1), .val (.int p2), .unset, .unset, .unset, .unset] [(.int (2147483647 : Int32)), (.int p1)])) _
    refine XS.iand X0.here hx rfl (hb hby at_3) rfl ?_
    show Steps p.tables e below (s₁.setTop (mkF m 4 #[.val (.int p1), .val (.int p2), .unset, .unset, .unset, .unset] [(.int (p1 &&& (2147483647 : Int32)))])) _
    refine XS.bipush X0.here hx rfl (hb hby at_4) ?_
    show Steps p.tables e below (s₁.setTop (mkF m 6 #[.val (.int p1), .val (.int p2), .unset, .unset, .unset, .unset] [(.int (6 : Int32)), (.int (p1 &&& (2147483647 : Int32)))])) _
    refine iremM X0 hx rfl (hb hby at_6) rfl (by decide) ?_
    show Steps p.tables e below (s₁.setTop (mkF m 7 #[.val (.int p1), .val (.int p2), .unset, .unset, .unset, .unset] [(.int ((p1 &&& (2147483647 : Int32)) % (6 : Int32)))])) _
    rw [ek]
    show Steps p.tables e below (s₁.setTop (mkF m 7 #[.val (.int p1), .val (.int p2), .unset, .unset, .unset, .unset] [(.int (Int32.ofNat k))])) _
    refine XS.istoreN X0.here hx rfl (hb hby at_7) rfl (l' := #[.val (.int p1), .val (.int p2), .val (.int (Int32.ofNat k)), .unset, .unset, .unset]) rfl ?_
    show Steps p.tables e below (s₁.setTop (mkF m 8 #[.val (.int p1), .val (.int p2), .val (.int (Int32.ofNat k)), .unset, .unset, .unset] [])) _
    refine XS.iloadN X0.here hx rfl (hb hby at_8) rfl ?_
    show Steps p.tables e below (s₁.setTop (mkF m 9 #[.val (.int p1), .val (.int p2), .val (.int (Int32.ofNat k)), .unset, .unset, .unset] [(.int (Int32.ofNat k))])) _
    refine XS.iloadN X0.here hx rfl (hb hby at_9) rfl ?_
    show Steps p.tables e below (s₁.setTop (mkF m 10 #[.val (.int p1), .val (.int p2), .val (.int (Int32.ofNat k)), .unset, .unset, .unset] [(.int p2), (.int (Int32.ofNat k))])) _
    refine st1 _ ?_
    show Steps p.tables e below (T1.setTop (mkF m 13 #[.val (.int p1), .val (.int p2), .val (.int (Int32.ofNat k)), .unset, .unset, .unset] [(.ref a1)])) _
    refine XS.astoreN X1.here hx rfl (hb hby at_13) rfl rfl (l' := #[.val (.int p1), .val (.int p2), .val (.int (Int32.ofNat k)), .val (.ref a1), .unset, .unset]) rfl ?_
    show Steps p.tables e below (T1.setTop (mkF m 14 #[.val (.int p1), .val (.int p2), .val (.int (Int32.ofNat k)), .val (.ref a1), .unset, .unset] [])) _
    refine XS.iconst X1.here hx rfl (hb hby at_14) ?_
    show Steps p.tables e below (T1.setTop (mkF m 15 #[.val (.int p1), .val (.int p2), .val (.int (Int32.ofNat k)), .val (.ref a1), .unset, .unset] [(.int (1 : Int32))])) _
    refine XS.iloadN X1.here hx rfl (hb hby at_15) rfl ?_
    show Steps p.tables e below (T1.setTop (mkF m 16 #[.val (.int p1), .val (.int p2), .val (.int (Int32.ofNat k)), .val (.ref a1), .unset, .unset] [(.int (Int32.ofNat k)), (.int (1 : Int32))])) _
    refine XS.ishl X1.here hx rfl (hb hby at_16) rfl ?_
    show Steps p.tables e below (T1.setTop (mkF m 17 #[.val (.int p1), .val (.int p2), .val (.int (Int32.ofNat k)), .val (.ref a1), .unset, .unset] [(.int ((1 : Int32) <<< ((Int32.ofNat k) &&& 31)))])) _
    refine XS.iconst X1.here hx rfl (hb hby at_17) ?_
    show Steps p.tables e below (T1.setTop (mkF m 18 #[.val (.int p1), .val (.int p2), .val (.int (Int32.ofNat k)), .val (.ref a1), .unset, .unset] [(.int (1 : Int32)), (.int ((1 : Int32) <<< ((Int32.ofNat k) &&& 31)))])) _
    refine XS.isub X1.here hx rfl (hb hby at_18) rfl ?_
    show Steps p.tables e below (T1.setTop (mkF m 19 #[.val (.int p1), .val (.int p2), .val (.int (Int32.ofNat k)), .val (.ref a1), .unset, .unset] [(.int (((1 : Int32) <<< ((Int32.ofNat k) &&& 31)) - (1 : Int32)))])) _
    refine XS.istore X1.here hx rfl (hb hby at_19) rfl (l' := #[.val (.int p1), .val (.int p2), .val (.int (Int32.ofNat k)), .val (.ref a1), .val (.int (((1 : Int32) <<< ((Int32.ofNat k) &&& 31)) - (1 : Int32))), .unset]) rfl ?_
    show Steps p.tables e below (T1.setTop (mkF m 21 #[.val (.int p1), .val (.int p2), .val (.int (Int32.ofNat k)), .val (.ref a1), .val (.int (((1 : Int32) <<< ((Int32.ofNat k) &&& 31)) - (1 : Int32))), .unset] [])) _
    refine ck_exp _ _ _ _ _ X1.here hx hby ?_
    show Steps p.tables e below (T1.setTop (mkF m 35 #[.val (.int p1), .val (.int p2), .val (.int (Int32.ofNat k)), .val (.ref a1), .val (.int (((1 : Int32) <<< ((Int32.ofNat k) &&& 31)) - (1 : Int32))), .val (.int (own_bit p2 (((1 : Int32) <<< ((Int32.ofNat k) &&& 31)) - (1 : Int32))))] [])) _
    refine XS.aloadN X1.here hx rfl (hb hby at_35) rfl rfl ?_
    show Steps p.tables e below (T1.setTop (mkF m 36 #[.val (.int p1), .val (.int p2), .val (.int (Int32.ofNat k)), .val (.ref a1), .val (.int (((1 : Int32) <<< ((Int32.ofNat k) &&& 31)) - (1 : Int32))), .val (.int (own_bit p2 (((1 : Int32) <<< ((Int32.ofNat k) &&& 31)) - (1 : Int32))))] [(.ref a1)])) _
    refine st2 _ ?_
    show Steps p.tables e below (T2.setTop (mkF m 39 #[.val (.int p1), .val (.int p2), .val (.int (Int32.ofNat k)), .val (.ref a1), .val (.int (((1 : Int32) <<< ((Int32.ofNat k) &&& 31)) - (1 : Int32))), .val (.int (own_bit p2 (((1 : Int32) <<< ((Int32.ofNat k) &&& 31)) - (1 : Int32))))] [(.int (own_any (own_f p2) k 0))])) _
    refine XS.iload X2.here hx rfl (hb hby at_39) rfl ?_
    show Steps p.tables e below (T2.setTop (mkF m 41 #[.val (.int p1), .val (.int p2), .val (.int (Int32.ofNat k)), .val (.ref a1), .val (.int (((1 : Int32) <<< ((Int32.ofNat k) &&& 31)) - (1 : Int32))), .val (.int (own_bit p2 (((1 : Int32) <<< ((Int32.ofNat k) &&& 31)) - (1 : Int32))))] [(.int (own_bit p2 (((1 : Int32) <<< ((Int32.ofNat k) &&& 31)) - (1 : Int32)))), (.int (own_any (own_f p2) k 0))])) _
    refine XS.icmpNo X2.here hx rfl (hb hby at_41) rfl (teq (own_law p2 k hk)).2 ?_
    show Steps p.tables e below (T2.setTop (mkF m 44 #[.val (.int p1), .val (.int p2), .val (.int (Int32.ofNat k)), .val (.ref a1), .val (.int (((1 : Int32) <<< ((Int32.ofNat k) &&& 31)) - (1 : Int32))), .val (.int (own_bit p2 (((1 : Int32) <<< ((Int32.ofNat k) &&& 31)) - (1 : Int32))))] [])) _
    refine XS.iconst X2.here hx rfl (hb hby at_44) ?_
    show Steps p.tables e below (T2.setTop (mkF m 45 #[.val (.int p1), .val (.int p2), .val (.int (Int32.ofNat k)), .val (.ref a1), .val (.int (((1 : Int32) <<< ((Int32.ofNat k) &&& 31)) - (1 : Int32))), .val (.int (own_bit p2 (((1 : Int32) <<< ((Int32.ofNat k) &&& 31)) - (1 : Int32))))] [(.int (1 : Int32))])) _
    refine XS.goto X2.here hx rfl (pc0 := 45) (pc' := 49) rfl (hb hby at_45) (by decide) (by decide) ?_
    exact kt
  obtain ⟨fs, hr, hrun, hended, hW, hsame⟩ := X2.leave (v := some (.int (1 : Int32))) (fun h => by rw [Bd.returns] at h; cases h)
  refine ⟨_, _, pre3 _ ?_, hrun, hended, _, _, rfl, ?_, ⟨_, rfl⟩, hW, hsame.mono (by decide) (by decide)⟩
  · exact retN X2 hx (t := .boolean) Bd.returns (by simp) (hb hby at_49) hr
  · show Q0 Z p1 p2 h0 n0 _ T2.heap _
    exact ⟨rfl, N2⟩
set_option maxRecDepth 65536 in
set_option maxHeartbeats 40000000 in
theorem comes_1 {Post : Tables → Env → Array Value → State → Outcome → State → Prop} (hpost : ∀ tb e args s v u, (limb_1_1.after args s (.returned v) u = true ∧ limb_1_2.after args s (.returned v) u = true ∧ True) → FrameEnd s (.returned v) u (Jvm.fieldLocs frame_1_writes args s ++ Jvm.arrayLocs frame_1_arrays args s ++ Jvm.staticLocs frame_1_statics s) 16 128 → Post tb e args s (.returned v) u) :
    ArmFor flags0 classFile x code maxLocals ret World_1 tables_1 room_1 Calls_1 rest_1 Pre_1 Post := by
  intro l hfl _ _ p e ha hc hk s m args below hf hA hF happ hP
  obtain ⟨hcalls, hrest, hpre⟩ := hP
  obtain ⟨-, -, -, hnamed, -, -, -, hat⟩ := (Spec.applies_iff hf).mp happ
  obtain ⟨hg, hn⟩ := and_e (Cond.before_iff.mp (show (Jvm.Cond.and given_1 narrow_1).before args s = true from hpre))
  obtain ⟨gc, r0⟩ := and_e hg
  obtain ⟨g0, r1⟩ := and_e r0
  obtain ⟨w0, w1, rfl⟩ : ∃ w0 w1 : Value, args = #[w0, w1] := by
    have hs : args.size = 2 := by simpa [Cond.value, given_1] using gc
    obtain ⟨L⟩ := args
    match L, hs with
    | [w0, w1], _ => exact ⟨w0, w1, rfl⟩
  have hw := fun d (hd : d ∈ tables_1) => atoms_spec (ws := Jvm.Cond.code x code maxLocals ret :: tables_1) hat d (List.mem_cons_of_mem _ hd)
  obtain ⟨i0, ei0⟩ := is_v g0
  obtain rfl : w0 = (.int i0) := Option.some.inj ei0
  obtain ⟨i1, ei1⟩ := is_v r1
  obtain rfl : w1 = (.int i1) := Option.some.inj ei1
  obtain ⟨n, o, h1, h2, h3, _, L, rfl, ⟨rfl, N⟩, hq⟩ := rm0 l s _ hw tables_1 i0 i1 s.heap s.heap.size (Nat.le_refl _) p e ha hc hk s m _ below hf ((Spec.applies_iff_loose hf).mp happ).1 ⟨rfl, State.Warmed39.refl s, rfl⟩ trivial
  refine ⟨n, _, h1, h2, h3, hpost _ _ _ _ _ _ ⟨Cond.after_iff.mpr rfl, Cond.after_iff.mpr (eq_i res_at (Term.int_eval (1)) rfl), trivial⟩ ⟨hq.1, hq.2.1, (hq.2.2.sift fun y hy => Or.inr (N y hy)).mono (by decide) (by decide)⟩⟩
theorem main_1_1 : Claimed_1_1 := comes_1 fun _ _ _ _ _ _ h hF => ⟨h.1, hF⟩
theorem main_1_2 : Claimed_1_2 := comes_1 fun _ _ _ _ _ _ h hF => ⟨h.2.1, hF⟩
end Jvm.Pilot.@@N@@
namespace Jvm.Pilot.@@N@@
open Jvm Jvm.ClassFile Sem Op Lib Jvm.Free Jvm.Stand Jvm.Pilot.@@N@@.Jvm.D
/-! MADE BY PROGRAM (witnessworld.py) out of the Statement's table words and the real class files: 11 classes; the members and pool entries that the words name. The judged class is class 1, her method 2. -/
namespace start1
open Jvm.ClassFile
def u (s : String) : CpInfo := .utf8 (stringToUtf16 s)
/-- a pool by its gaps: so many unusable entries, then the entry; so many at the end -/
def gap : Nat → List CpInfo → List CpInfo
  | 0, r => r
  | n + 1, r => .unusable :: gap n r
def poolList (es : List (Nat × CpInfo)) (last : Nat) : List CpInfo := es.foldr (fun e r => gap e.1 (e.2 :: r)) (gap last [])
def pool (es : List (Nat × CpInfo)) (last : Nat) : Array CpInfo := ⟨poolList es last⟩
def fileOf (pool : Array CpInfo) (this : Nat) (attrs : Array Attribute := #[]) (ms : Array MethodInfo := #[]) (fl : Nat := 33) (sup : Nat := 0) (ifs : Array Nat := #[]) (fds : Array FieldInfo := #[]) : ClassFile where
  minorVersion := 0
  majorVersion := 65
  constantPool := pool
  accessFlags := fl
  thisClass := this
  superClass := sup
  interfaces := ifs
  fields := fds
  methods := ms
  attributes := attrs
def plain (name : String) (sup : Option ClassId) : Class where
  name := name
  kind := .ordinary
  loader := none
  accessFlags := 33
  super := sup
  interfaces := #[]
  cf := none
  fields := #[]
  methods := #[]
  instanceTypes := #[]
  staticTypes := #[]
  resolved := #[]
  callSites := []
  init := .initialized
  statics := none
  mirror := none

def pool0 : Array CpInfo := pool [(5, u "<init>"), (0, u "()V"), (1, .class_ 10), (1, u "java/lang/Object")] 113

def k0m0 : Method := { name := "<init>", desc := "()V", sig := { parameters := [], returnType := none }, accessFlags := 1, code := none }
/-- java/lang/Object -/
def k0 : Class := { plain "java/lang/Object" none with
  accessFlags := 33
  interfaces := #[]
  cf := some (fileOf pool0 8 #[] #[{ accessFlags := 1, nameIndex := 5, descriptorIndex := 6, attributes := #[] }] 33 0 #[] #[])
  fields := #[]
  methods := #[k0m0]
  instanceTypes := #[]
  staticTypes := #[]
  resolved := Array.replicate 124 none
  statics := none }

def pool1 : Array CpInfo := pool [(2, .class_ 4), (1, u "java/lang/Object"), (0, u "<init>"), (0, u "()V"), (0, .integer 2147483647), (0, .methodref 9 10), (0, .class_ 11), (0, .nameAndType 12 13), (0, u "com/example/fanoutlint/fanoutlint/check/LabelsAnyPinLaw"), (0, u "make"), (0, u "(II)[Z"), (0, .methodref 15 16), (0, .class_ 17), (0, .nameAndType 18 19), (0, u "com/example/fanoutlint/fanoutlint/check/Labels"), (0, u "any"), (0, u "([Z)Z"), (3, u "law"), (0, u "(II)Z")] 4

def k1m0 : Method := { name := "<init>", desc := "()V", sig := { parameters := [], returnType := none }, accessFlags := 2, code := none }
def k1c1 : Code := { maxStack := 4, maxLocals := 7, code := method_2_code, exceptionTable := #[], attributes := #[] }
def k1m1 : Method := { name := "make", desc := "(II)[Z", sig := { parameters := [.int, .int], returnType := some (.array .boolean) }, accessFlags := 10, code := some k1c1 }
def k1c2 : Code := { maxStack := 2, maxLocals := 6, code := code, exceptionTable := #[], attributes := #[] }
def k1m2 : Method := { name := "law", desc := "(II)Z", sig := { parameters := [.int, .int], returnType := some .boolean }, accessFlags := 9, code := some k1c2 }
/-- com/example/fanoutlint/fanoutlint/check/LabelsAnyPinLaw -/
def k1 : Class := { plain "com/example/fanoutlint/fanoutlint/check/LabelsAnyPinLaw" (some 0) with
  accessFlags := 49
  interfaces := #[]
  cf := some (fileOf pool1 9 #[] #[{ accessFlags := 2, nameIndex := 5, descriptorIndex := 6, attributes := #[] }, { accessFlags := 10, nameIndex := 12, descriptorIndex := 13, attributes := #[] }, { accessFlags := 9, nameIndex := 23, descriptorIndex := 24, attributes := #[] }] 49 2 #[] #[])
  fields := #[]
  methods := #[k1m0, k1m1, k1m2]
  instanceTypes := #[]
  staticTypes := #[]
  resolved := Array.replicate 29 none
  statics := none }

def pool2 : Array CpInfo := pool [(2, .class_ 4), (1, u "java/lang/Object"), (0, u "<init>"), (0, u "()V"), (17, .class_ 26), (1, u "com/example/fanoutlint/fanoutlint/check/Labels"), (47, u "any"), (0, u "([Z)Z"), (3, .class_ 80), (0, u "com/example/fanoutlint/fanoutlint/check/Labels$ByBinding")] 3

def k2m0 : Method := { name := "<init>", desc := "()V", sig := { parameters := [], returnType := none }, accessFlags := 2, code := none }
def k2c1 : Code := { maxStack := 2, maxLocals := 5, code := prog_6_method_4_code, exceptionTable := #[], attributes := #[] }
def k2m1 : Method := { name := "any", desc := "([Z)Z", sig := { parameters := [(.array .boolean)], returnType := some .boolean }, accessFlags := 8, code := some k2c1 }
/-- com/example/fanoutlint/fanoutlint/check/Labels -/
def k2 : Class := { plain "com/example/fanoutlint/fanoutlint/check/Labels" (some 0) with
  accessFlags := 32
  interfaces := #[]
  cf := some (fileOf pool2 24 #[.nestMembers #[79]] #[{ accessFlags := 2, nameIndex := 5, descriptorIndex := 6, attributes := #[] }, { accessFlags := 8, nameIndex := 74, descriptorIndex := 75, attributes := #[] }] 32 2 #[] #[])
  fields := #[]
  methods := #[k2m0, k2m1]
  instanceTypes := #[]
  staticTypes := #[]
  resolved := Array.replicate 84 none
  statics := none }

def pool3 : Array CpInfo := pool [(1, u "java/lang/Cloneable"), (0, .class_ 1), (0, u "java/lang/Object"), (0, .class_ 3)] 3

/-- java/lang/Cloneable -/
def k3 : Class := { plain "java/lang/Cloneable" (some 0) with
  accessFlags := 1537
  interfaces := #[]
  cf := some (fileOf pool3 2 #[] #[] 1537 4 #[] #[])
  fields := #[]
  methods := #[]
  instanceTypes := #[]
  staticTypes := #[]
  resolved := Array.replicate 8 none
  statics := none }

def pool4 : Array CpInfo := pool [(1, u "java/io/Serializable"), (0, .class_ 1), (0, u "java/lang/Object"), (0, .class_ 3)] 3

/-- java/io/Serializable -/
def k4 : Class := { plain "java/io/Serializable" (some 0) with
  accessFlags := 1537
  interfaces := #[]
  cf := some (fileOf pool4 2 #[] #[] 1537 4 #[] #[])
  fields := #[]
  methods := #[]
  instanceTypes := #[]
  staticTypes := #[]
  resolved := Array.replicate 8 none
  statics := none }

/-- the primitive boolean -/
def k5 : Class := { plain "boolean" none with kind := .primitive 'Z', accessFlags := 0x411 }
/-- [Z -/
def k6 : Class := { plain "[Z" (some 0) with kind := .array 5 .boolean, interfaces := #[3, 4], accessFlags := 1041 }

/-- the primitive byte -/
def k7 : Class := { plain "byte" none with kind := .primitive 'B', accessFlags := 0x411 }
/-- [B -/
def k8 : Class := { plain "[B" (some 0) with kind := .array 7 .byte, interfaces := #[3, 4], accessFlags := 1041 }

/-- the primitive int -/
def k9 : Class := { plain "int" none with kind := .primitive 'I', accessFlags := 0x411 }
/-- [I -/
def k10 : Class := { plain "[I" (some 0) with kind := .array 9 .int, interfaces := #[3, 4], accessFlags := 1041 }

def heap : Heap := #[]
def classes : Array Class := #[k0, k1, k2, k3, k4, k5, k6, k7, k8, k9, k10]
def interned : List (Array UInt16 × Addr) := []
def slotsUsed : Nat := 0
def theMethod : MethodId := ⟨1, 2⟩
def args0 : Array Value := #[.int 3, .int 5]
def aboutOver (below : List Frame) : State where
  vm := { classes := classes, interned := interned.toArray }
  heap := heap
  slotsUsed := slotsUsed
  threads := #[{ frames := .invoking theMethod args0 :: below }]
def below0 : List Frame := [.native { method := ⟨0, 0⟩, args := #[] }]
def about1 : State := aboutOver below0
def p0 : Program := .bare "" "" ""
def e0 : Env := launch0.env 0 0 0
theorem w_frames : about1.frames = Frame.invoking theMethod args0 :: below0 := rfl
set_option maxRecDepth 65536 in
theorem w_args : argsFit about1.vm theMethod args0 = true := by decide +kernel
set_option maxRecDepth 65536 in
theorem w_heap : heapFits about1 = true := by decide +kernel
set_option maxRecDepth 65536 in
theorem w_runnable : about1.curStatus? = some .runnable := by decide +kernel
set_option maxRecDepth 65536 in
theorem w_alone : about1.alone = true := by decide +kernel
set_option maxRecDepth 65536 in
theorem w_named : about1.methodNamed? x = some theMethod := by decide +kernel
set_option maxRecDepth 65536 in
theorem w_hears : about1.hears theMethod below0 = true := by decide +kernel
set_option maxRecDepth 65536 in
theorem w_ripe : about1.ripe theMethod args0 below0 = true := by decide +kernel
theorem w_running : about1.status = .running := rfl
set_option maxRecDepth 65536 in
theorem w_room : about1.hasRoom e0.platform room_1 = true :=
  launch0.hasRoom_least _ room_1 (by decide +kernel) (by decide +kernel) (by decide +kernel) (by decide +kernel) (by decide +kernel) (by decide +kernel)
theorem allAtoms_all (ts : List Jvm.Cond) (a : Array Jvm.Value) (st : Jvm.State) : (allAtoms ts).before a st = ts.all (fun c => c.before a st) := by
  induction ts with
  | nil => rfl
  | cons c t ih =>
    show (Jvm.Cond.and c (allAtoms t)).before a st = _
    rw [Jvm.Cond.before_and, ih, List.all_cons]
def words1 : List Jvm.Cond := Jvm.Cond.code x code maxLocals ret :: tables_1
/-- a 'code' word, met by the world's own term for the bytes: nothing is compared byte by byte -/
theorem code_word {y : MethodName} {bytes : ByteArray} {mx : Nat} {rt : Option FieldType} {a : Array Value} {s : State} {m : MethodId} {meth : Method} {c : Code} (h1 : s.methodNamed? y = some m) (h2 : s.vm.method? m = some meth) (h3 : meth.code = some c) (h4 : c.code = bytes)
    (h5 : (c.maxLocals == mx && c.exceptionTable.isEmpty && decide (c.maxStack ≤ mostOperands) && decide (meth.sig.returnType = rt) && !meth.locks && decide (parseMethodDescriptor y.desc = some meth.sig)) = true) : (Jvm.Cond.code y bytes mx rt).before a s = true := by
  simp only [Bool.and_eq_true, beq_iff_eq, Bool.not_eq_true', decide_eq_true_eq] at h5
  obtain ⟨⟨⟨⟨⟨g1, g2⟩, g3⟩, g4⟩, g5⟩, g6⟩ := h5
  simp [Cond.before, Cond.holds, Cond.value, h1, h2, h3, h4, g1, g2, g3, g4, g5, g6]
def isCode : Jvm.Cond → Bool
  | .code _ _ _ _ => true
  | _ => false
theorem all_split {L : List Jvm.Cond} {P : Jvm.Cond → Bool} (h1 : L.all (fun c => isCode c || P c) = true) (h2 : ∀ c ∈ L.filter isCode, P c = true) : L.all P = true := by
  refine List.all_eq_true.mpr fun c hc => ?_
  have h := List.all_eq_true.mp h1 c hc
  rcases Bool.eq_false_or_eq_true (isCode c) with hi | hi
  · exact h2 c (List.mem_filter.mpr ⟨hc, hi⟩)
  · simpa [hi] using h
set_option maxRecDepth 65536 in
theorem w_c0 : (Jvm.Cond.code x code maxLocals ret).before args0 about1 = true := code_word (m := ⟨1, 2⟩) (meth := k1m2) (c := k1c2) (by decide +kernel) rfl rfl rfl (by decide +kernel)
set_option maxRecDepth 65536 in
theorem w_c1 : (Jvm.Cond.code ({ cls := "com/example/fanoutlint/fanoutlint/check/LabelsAnyPinLaw", name := "make", desc := "(II)[Z" } : Jvm.MethodName) method_2_code (7 : Nat) (Option.some (Jvm.ClassFile.FieldType.array Jvm.ClassFile.FieldType.boolean))).before args0 about1 = true := code_word (m := ⟨1, 1⟩) (meth := k1m1) (c := k1c1) (by decide +kernel) rfl rfl rfl (by decide +kernel)
set_option maxRecDepth 65536 in
theorem w_c2 : (Jvm.Cond.code ({ cls := "com/example/fanoutlint/fanoutlint/check/Labels", name := "any", desc := "([Z)Z" } : Jvm.MethodName) prog_6_method_4_code (5 : Nat) (Option.some Jvm.ClassFile.FieldType.boolean)).before args0 about1 = true := code_word (m := ⟨2, 1⟩) (meth := k2m1) (c := k2c1) (by decide +kernel) rfl rfl rfl (by decide +kernel)
def codes1 : List Jvm.Cond := [Jvm.Cond.code x code maxLocals ret, Jvm.Cond.code ({ cls := "com/example/fanoutlint/fanoutlint/check/LabelsAnyPinLaw", name := "make", desc := "(II)[Z" } : Jvm.MethodName) method_2_code (7 : Nat) (Option.some (Jvm.ClassFile.FieldType.array Jvm.ClassFile.FieldType.boolean)), Jvm.Cond.code ({ cls := "com/example/fanoutlint/fanoutlint/check/Labels", name := "any", desc := "([Z)Z" } : Jvm.MethodName) prog_6_method_4_code (5 : Nat) (Option.some Jvm.ClassFile.FieldType.boolean)]
set_option maxRecDepth 65536 in
theorem codes_eq : words1.filter isCode = codes1 := rfl
theorem w_codes : ∀ c ∈ words1.filter isCode, c.before args0 about1 = true := by
  rw [codes_eq]
  intro c hc
  simp only [codes1, List.mem_cons, List.not_mem_nil, or_false] at hc
  rcases hc with rfl | rfl | rfl
  · exact w_c0
  · exact w_c1
  · exact w_c2
set_option maxRecDepth 65536 in
theorem w_t1 : words1.all (fun c => isCode c || c.before args0 about1) = true := by decide +kernel
theorem w_tables : (allAtoms (Jvm.Cond.code x code maxLocals ret :: tables_1)).before args0 about1 = true := by
  rw [allAtoms_all]
  show words1.all (fun c => c.before args0 about1) = true
  refine all_split ?_ w_codes
  rw [w_t1]
set_option maxRecDepth 65536 in
theorem w_case : (Jvm.Cond.and given_1 narrow_1).before args0 about1 = true := by decide +kernel
theorem w_applies : (headSpec (Jvm.Cond.code x code maxLocals ret :: tables_1) room_1).applies x e0.platform about1 = true :=
  (Spec.applies_iff w_frames).mpr ⟨w_running, w_runnable, w_alone, w_named, w_hears, w_ripe, w_room, w_tables⟩
theorem atStart : AtStart classFile x code maxLocals ret World_1 tables_1 room_1 Calls_1 rest_1 Pre_1 launch0 p0 e0 about1 theMethod args0 below0 :=
  ⟨lists_1, trivial, launch0.admits_env _ _ _, launch0.least_env, fairChoices_fair.cas, fairChoices_fair.clock, w_frames, w_args, w_heap, w_applies, trivial, trivial, w_case⟩
end start1
theorem witness_1 : WitnessClaimed_1 := ⟨start1.p0, start1.e0, start1.about1, start1.theMethod, start1.args0, start1.below0, start1.atStart⟩
end Jvm.Pilot.@@N@@
