import JvmDerived
import JvmDerived.Pilot.@@N@@Statement
import JvmDerived.Pilot.@@N@@Code
set_option linter.unusedVariables false
set_option linter.unusedSimpArgs false
namespace Jvm.RoadKit
open Sem ClassFile Op Lib Jvm.Stand Jvm.Free Jvm.LawKit
section New
variable {p : Program} {l : Launch} {e : Env} {R : Room} {s : State} {m : MethodId} {args : Array Value} {below : List Frame} {meth : Method} {c : Code} {T : State} {locs : List Loc} {cells slots : Nat}
theorem retI (X : Stand p l e R s m args below meth c T locs cells slots) (hx : p.tables.exec = Jvm.exec) {pc : Nat} {Ls : Array Slot} {z : Int32} {rest : List Value} (hret : meth.sig.returnType = some .int) (hd : decode c.code pc = .ok (.ireturn, 1)) {fs : List Frame}
    (hl : ∀ (f : JFrame) (acts : List Action), f.method = m → f.locked = none → f.entered = [] → (doReturn e (T.setTop f) acts (some (.int z))).1 = T.setFrames fs) : Steps p.tables e below (T.setTop (mkF m pc Ls (.int z :: rest))) (T.setFrames fs) := by
  have hm' : T.vm.method? m = some meth := X.method'
  have hn : narrow .int (.int z) = .int z := rfl
  show Steps p.tables e below (T.setTop { method := m, pc := pc, locals := Ls, stack := _ :: rest, locked := none }) _
  jvm_step X.here [X.here.top, hx, hd, hm', hret, hn]
  first | (intro acts; rw [hl _ acts rfl rfl rfl]) | rw [hl _ _ rfl rfl rfl]
  exact Steps.refl _
end New
end Jvm.RoadKit
namespace Jvm.Pilot.@@N@@
open Jvm Jvm.ClassFile Sem Op Lib Jvm.Free Jvm.Stand Jvm.LawKit Jvm.RoadKit Bundle Jvm.Pilot.@@N@@.Jvm.D
theorem d1_0 : decode prog_28_method_7_code 0 = .ok (.iload_n 0, 1) := by decide +kernel
theorem d1_124 : decode prog_28_method_7_code 124 = .ok (.ldc 31, 2) := by decide +kernel
theorem d1_126 : decode prog_28_method_7_code 126 = .ok (.areturn, 1) := by decide +kernel
theorem d1_127 : decode prog_28_method_7_code 127 = .ok (.ldc 33, 2) := by decide +kernel
theorem d1_129 : decode prog_28_method_7_code 129 = .ok (.areturn, 1) := by decide +kernel
theorem d1_130 : decode prog_28_method_7_code 130 = .ok (.ldc 35, 2) := by decide +kernel
theorem d1_132 : decode prog_28_method_7_code 132 = .ok (.areturn, 1) := by decide +kernel
theorem d1_133 : decode prog_28_method_7_code 133 = .ok (.ldc 37, 2) := by decide +kernel
theorem d1_135 : decode prog_28_method_7_code 135 = .ok (.areturn, 1) := by decide +kernel
theorem d1_136 : decode prog_28_method_7_code 136 = .ok (.ldc 39, 2) := by decide +kernel
theorem d1_138 : decode prog_28_method_7_code 138 = .ok (.areturn, 1) := by decide +kernel
theorem d1_139 : decode prog_28_method_7_code 139 = .ok (.ldc 41, 2) := by decide +kernel
theorem d1_141 : decode prog_28_method_7_code 141 = .ok (.areturn, 1) := by decide +kernel
theorem d1_142 : decode prog_28_method_7_code 142 = .ok (.ldc 43, 2) := by decide +kernel
theorem d1_144 : decode prog_28_method_7_code 144 = .ok (.areturn, 1) := by decide +kernel
theorem d1_145 : decode prog_28_method_7_code 145 = .ok (.ldc 45, 2) := by decide +kernel
theorem d1_147 : decode prog_28_method_7_code 147 = .ok (.areturn, 1) := by decide +kernel
theorem d1_148 : decode prog_28_method_7_code 148 = .ok (.ldc 47, 2) := by decide +kernel
theorem d1_150 : decode prog_28_method_7_code 150 = .ok (.areturn, 1) := by decide +kernel
theorem d1_151 : decode prog_28_method_7_code 151 = .ok (.ldc 49, 2) := by decide +kernel
theorem d1_153 : decode prog_28_method_7_code 153 = .ok (.areturn, 1) := by decide +kernel
theorem d1_154 : decode prog_28_method_7_code 154 = .ok (.ldc 51, 2) := by decide +kernel
theorem d1_156 : decode prog_28_method_7_code 156 = .ok (.areturn, 1) := by decide +kernel
theorem d1_157 : decode prog_28_method_7_code 157 = .ok (.ldc 53, 2) := by decide +kernel
theorem d1_159 : decode prog_28_method_7_code 159 = .ok (.areturn, 1) := by decide +kernel
theorem d1_160 : decode prog_28_method_7_code 160 = .ok (.ldc 55, 2) := by decide +kernel
theorem d1_162 : decode prog_28_method_7_code 162 = .ok (.areturn, 1) := by decide +kernel
theorem d1_163 : decode prog_28_method_7_code 163 = .ok (.ldc 57, 2) := by decide +kernel
theorem d1_165 : decode prog_28_method_7_code 165 = .ok (.areturn, 1) := by decide +kernel
theorem d1_166 : decode prog_28_method_7_code 166 = .ok (.ldc 59, 2) := by decide +kernel
theorem d1_168 : decode prog_28_method_7_code 168 = .ok (.areturn, 1) := by decide +kernel
theorem d2_0 : decode jdk_42_method_66_code 0 = .ok (.aload_n 0, 1) := by decide +kernel
theorem d2_1 : decode jdk_42_method_66_code 1 = .ok (.aload_n 1, 1) := by decide +kernel
theorem d2_2 : decode jdk_42_method_66_code 2 = .ok (.if_acmp .ne 5, 3) := by decide +kernel
theorem d2_5 : decode jdk_42_method_66_code 5 = .ok (.iconst 1, 1) := by decide +kernel
theorem d2_6 : decode jdk_42_method_66_code 6 = .ok (.ireturn, 1) := by decide +kernel
theorem d2_7 : decode jdk_42_method_66_code 7 = .ok (.aload_n 1, 1) := by decide +kernel
theorem d2_8 : decode jdk_42_method_66_code 8 = .ok (.instanceof 10, 3) := by decide +kernel
theorem d2_11 : decode jdk_42_method_66_code 11 = .ok (.ifCond .eq 43, 3) := by decide +kernel
theorem d2_14 : decode jdk_42_method_66_code 14 = .ok (.aload_n 1, 1) := by decide +kernel
theorem d2_15 : decode jdk_42_method_66_code 15 = .ok (.checkcast 10, 3) := by decide +kernel
theorem d2_18 : decode jdk_42_method_66_code 18 = .ok (.astore_n 2, 1) := by decide +kernel
theorem d2_19 : decode jdk_42_method_66_code 19 = .ok (.getstatic 38, 3) := by decide +kernel
theorem d2_22 : decode jdk_42_method_66_code 22 = .ok (.ifCond .eq 14, 3) := by decide +kernel
theorem d2_25 : decode jdk_42_method_66_code 25 = .ok (.aload_n 0, 1) := by decide +kernel
theorem d2_26 : decode jdk_42_method_66_code 26 = .ok (.getfield 15, 3) := by decide +kernel
theorem d2_29 : decode jdk_42_method_66_code 29 = .ok (.aload_n 2, 1) := by decide +kernel
theorem d2_30 : decode jdk_42_method_66_code 30 = .ok (.getfield 15, 3) := by decide +kernel
theorem d2_33 : decode jdk_42_method_66_code 33 = .ok (.if_icmp .ne 21, 3) := by decide +kernel
theorem d2_36 : decode jdk_42_method_66_code 36 = .ok (.aload_n 0, 1) := by decide +kernel
theorem d2_37 : decode jdk_42_method_66_code 37 = .ok (.getfield 9, 3) := by decide +kernel
theorem d2_40 : decode jdk_42_method_66_code 40 = .ok (.aload_n 2, 1) := by decide +kernel
theorem d2_41 : decode jdk_42_method_66_code 41 = .ok (.getfield 9, 3) := by decide +kernel
theorem d2_44 : decode jdk_42_method_66_code 44 = .ok (.invokestatic 541, 3) := by decide +kernel
theorem d2_47 : decode jdk_42_method_66_code 47 = .ok (.ifCond .eq 7, 3) := by decide +kernel
theorem d2_50 : decode jdk_42_method_66_code 50 = .ok (.iconst 1, 1) := by decide +kernel
theorem d2_51 : decode jdk_42_method_66_code 51 = .ok (.goto 4, 3) := by decide +kernel
theorem d2_54 : decode jdk_42_method_66_code 54 = .ok (.iconst 0, 1) := by decide +kernel
theorem d2_55 : decode jdk_42_method_66_code 55 = .ok (.ireturn, 1) := by decide +kernel
theorem d3_0 : decode method_2_code 0 = .ok (.iload_n 0, 1) := by decide +kernel
theorem d3_1 : decode method_2_code 1 = .ok (.iconst 5, 1) := by decide +kernel
theorem d3_2 : decode method_2_code 2 = .ok (.if_icmp .eq 81, 3) := by decide +kernel
theorem d3_5 : decode method_2_code 5 = .ok (.iload_n 0, 1) := by decide +kernel
theorem d3_6 : decode method_2_code 6 = .ok (.bipush 6, 2) := by decide +kernel
theorem d3_8 : decode method_2_code 8 = .ok (.if_icmp .eq 75, 3) := by decide +kernel
theorem d3_11 : decode method_2_code 11 = .ok (.iload_n 0, 1) := by decide +kernel
theorem d3_12 : decode method_2_code 12 = .ok (.bipush 7, 2) := by decide +kernel
theorem d3_14 : decode method_2_code 14 = .ok (.if_icmp .eq 69, 3) := by decide +kernel
theorem d3_17 : decode method_2_code 17 = .ok (.iload_n 0, 1) := by decide +kernel
theorem d3_18 : decode method_2_code 18 = .ok (.bipush 9, 2) := by decide +kernel
theorem d3_20 : decode method_2_code 20 = .ok (.if_icmp .eq 63, 3) := by decide +kernel
theorem d3_23 : decode method_2_code 23 = .ok (.iload_n 0, 1) := by decide +kernel
theorem d3_24 : decode method_2_code 24 = .ok (.bipush 11, 2) := by decide +kernel
theorem d3_26 : decode method_2_code 26 = .ok (.if_icmp .eq 57, 3) := by decide +kernel
theorem d3_29 : decode method_2_code 29 = .ok (.iload_n 0, 1) := by decide +kernel
theorem d3_30 : decode method_2_code 30 = .ok (.bipush 13, 2) := by decide +kernel
theorem d3_32 : decode method_2_code 32 = .ok (.if_icmp .eq 51, 3) := by decide +kernel
theorem d3_35 : decode method_2_code 35 = .ok (.iload_n 0, 1) := by decide +kernel
theorem d3_36 : decode method_2_code 36 = .ok (.bipush 14, 2) := by decide +kernel
theorem d3_38 : decode method_2_code 38 = .ok (.if_icmp .eq 45, 3) := by decide +kernel
theorem d3_41 : decode method_2_code 41 = .ok (.iload_n 0, 1) := by decide +kernel
theorem d3_42 : decode method_2_code 42 = .ok (.bipush 20, 2) := by decide +kernel
theorem d3_44 : decode method_2_code 44 = .ok (.if_icmp .eq 39, 3) := by decide +kernel
theorem d3_47 : decode method_2_code 47 = .ok (.iload_n 0, 1) := by decide +kernel
theorem d3_48 : decode method_2_code 48 = .ok (.bipush 52, 2) := by decide +kernel
theorem d3_50 : decode method_2_code 50 = .ok (.if_icmp .eq 33, 3) := by decide +kernel
theorem d3_53 : decode method_2_code 53 = .ok (.iload_n 0, 1) := by decide +kernel
theorem d3_54 : decode method_2_code 54 = .ok (.bipush 55, 2) := by decide +kernel
theorem d3_56 : decode method_2_code 56 = .ok (.if_icmp .eq 27, 3) := by decide +kernel
theorem d3_59 : decode method_2_code 59 = .ok (.iload_n 0, 1) := by decide +kernel
theorem d3_60 : decode method_2_code 60 = .ok (.bipush 57, 2) := by decide +kernel
theorem d3_62 : decode method_2_code 62 = .ok (.if_icmp .eq 21, 3) := by decide +kernel
theorem d3_65 : decode method_2_code 65 = .ok (.iload_n 0, 1) := by decide +kernel
theorem d3_66 : decode method_2_code 66 = .ok (.bipush 75, 2) := by decide +kernel
theorem d3_68 : decode method_2_code 68 = .ok (.if_icmp .eq 15, 3) := by decide +kernel
theorem d3_71 : decode method_2_code 71 = .ok (.iload_n 0, 1) := by decide +kernel
theorem d3_72 : decode method_2_code 72 = .ok (.bipush 76, 2) := by decide +kernel
theorem d3_74 : decode method_2_code 74 = .ok (.if_icmp .eq 9, 3) := by decide +kernel
theorem d3_77 : decode method_2_code 77 = .ok (.iload_n 0, 1) := by decide +kernel
theorem d3_78 : decode method_2_code 78 = .ok (.bipush 91, 2) := by decide +kernel
theorem d3_80 : decode method_2_code 80 = .ok (.if_icmp .ne 7, 3) := by decide +kernel
theorem d3_83 : decode method_2_code 83 = .ok (.iconst 1, 1) := by decide +kernel
theorem d3_84 : decode method_2_code 84 = .ok (.goto 4, 3) := by decide +kernel
theorem d3_87 : decode method_2_code 87 = .ok (.iconst 0, 1) := by decide +kernel
theorem d3_88 : decode method_2_code 88 = .ok (.ireturn, 1) := by decide +kernel
theorem d4_0 : decode jdk_43_method_13_code 0 = .ok (.aload_n 0, 1) := by decide +kernel
theorem d4_1 : decode jdk_43_method_13_code 1 = .ok (.arraylength, 1) := by decide +kernel
theorem d4_2 : decode jdk_43_method_13_code 2 = .ok (.aload_n 1, 1) := by decide +kernel
theorem d4_3 : decode jdk_43_method_13_code 3 = .ok (.arraylength, 1) := by decide +kernel
theorem d4_4 : decode jdk_43_method_13_code 4 = .ok (.if_icmp .ne 30, 3) := by decide +kernel
theorem d4_7 : decode jdk_43_method_13_code 7 = .ok (.iconst 0, 1) := by decide +kernel
theorem d4_8 : decode jdk_43_method_13_code 8 = .ok (.istore_n 2, 1) := by decide +kernel
theorem d4_9 : decode jdk_43_method_13_code 9 = .ok (.iload_n 2, 1) := by decide +kernel
theorem d4_10 : decode jdk_43_method_13_code 10 = .ok (.aload_n 0, 1) := by decide +kernel
theorem d4_11 : decode jdk_43_method_13_code 11 = .ok (.arraylength, 1) := by decide +kernel
theorem d4_12 : decode jdk_43_method_13_code 12 = .ok (.if_icmp .ge 20, 3) := by decide +kernel
theorem d4_15 : decode jdk_43_method_13_code 15 = .ok (.aload_n 0, 1) := by decide +kernel
theorem d4_16 : decode jdk_43_method_13_code 16 = .ok (.iload_n 2, 1) := by decide +kernel
theorem d4_17 : decode jdk_43_method_13_code 17 = .ok (.baload, 1) := by decide +kernel
theorem d4_18 : decode jdk_43_method_13_code 18 = .ok (.aload_n 1, 1) := by decide +kernel
theorem d4_19 : decode jdk_43_method_13_code 19 = .ok (.iload_n 2, 1) := by decide +kernel
theorem d4_20 : decode jdk_43_method_13_code 20 = .ok (.baload, 1) := by decide +kernel
theorem d4_21 : decode jdk_43_method_13_code 21 = .ok (.if_icmp .eq 5, 3) := by decide +kernel
theorem d4_24 : decode jdk_43_method_13_code 24 = .ok (.iconst 0, 1) := by decide +kernel
theorem d4_25 : decode jdk_43_method_13_code 25 = .ok (.ireturn, 1) := by decide +kernel
theorem d4_26 : decode jdk_43_method_13_code 26 = .ok (.iinc 2 1, 3) := by decide +kernel
theorem d4_29 : decode jdk_43_method_13_code 29 = .ok (.goto (-20), 3) := by decide +kernel
theorem d4_32 : decode jdk_43_method_13_code 32 = .ok (.iconst 1, 1) := by decide +kernel
theorem d4_33 : decode jdk_43_method_13_code 33 = .ok (.ireturn, 1) := by decide +kernel
theorem d4_34 : decode jdk_43_method_13_code 34 = .ok (.iconst 0, 1) := by decide +kernel
theorem d4_35 : decode jdk_43_method_13_code 35 = .ok (.ireturn, 1) := by decide +kernel
theorem d1_1 : decode prog_28_method_7_code 1 = .ok (.lookupswitch 165 #[(5, 123), (6, 126), (7, 129), (9, 132), (11, 135), (13, 138), (14, 141), (20, 144), (52, 147), (55, 150), (57, 153), (75, 156), (76, 159), (91, 162)], 123) := by decide +kernel
theorem pd_0 : parseMethodDescriptor "([B[B)Z" = some ⟨[(.array .byte), (.array .byte)], some .boolean⟩ := by decide +kernel
theorem pd_1 : parseMethodDescriptor "(I)Ljava/lang/String;" = some ⟨[.int], some (.object "java/lang/String")⟩ := by decide +kernel
theorem pd_2 : parseMethodDescriptor "(Ljava/lang/Object;)Z" = some ⟨[(.object "java/lang/Object")], some .boolean⟩ := by decide +kernel
theorem pd_3 : parseMethodDescriptor "(I)Z" = some ⟨[.int], some .boolean⟩ := by decide +kernel
/-- the text that the sheet's word at this place names -/
def own_txt (k : Nat) : String := match tables_1[k]? with | some (.stringLink _ _ t) => t | _ => ""
def own_bs (t : String) : List Int32 := t.toList.map fun c => Jvm.Lit.byteI c.toNat.toUInt16
theorem own_map (t : String) : t.toList.map (fun c => Value.int (Jvm.Lit.byteI c.toNat.toUInt16)) = (own_bs t).map Value.int := by unfold own_bs; rw [List.map_map]; rfl
/-- a String at a, its bytes at b -/
def StrB (Z : State) (h : Heap) (a b : Addr) (bs : List Int32) : Prop := Exa Z h a "java/lang/String" ∧ Fld Z h a "java/lang/String" "coder" "B" (.int (0 : Int32)) ∧ Fld Z h a "java/lang/String" "value" "[B" (.ref b) ∧ ∃ k : ClassId, Arv Z h b k .byte (Int32.ofNat bs.length) (bs.map Value.int) (.int (0 : Int32))
theorem StrB.ext {Z : State} {h h' : Heap} {a b : Addr} {bs : List Int32} (F : StrB Z h a b bs) (E : Ext h h') : StrB Z h' a b bs := by obtain ⟨f1, f2, f3, k, f4⟩ := F; exact ⟨f1.ext E, f2.ext E, f3.ext E, k, f4.ext E⟩
theorem StrB.keep {Z : State} {h h' : Heap} {a b : Addr} {bs : List Int32} {ws : List Addr} (F : StrB Z h a b bs) (K : Keep h h' ws) (ha : a ∉ ws) (hb : b ∉ ws) : StrB Z h' a b bs := by obtain ⟨f1, f2, f3, k, f4⟩ := F; exact ⟨f1.keep K, f2.keep K ha, f3.keep K ha, k, f4.keep K hb⟩
theorem own_map_getD (l : List Int32) (k : Nat) : (l.map Value.int).getD k (.int (0 : Int32)) = .int (l.getD k 0) := by
  simp only [List.getD_eq_getElem?_getD, List.getElem?_map]
  cases l[k]? <;> rfl
theorem own_lt {i n : Nat} (h : i < n) (hn : n < 1000) : Int32.ofNat i < Int32.ofNat n := by
  rw [Int32.lt_iff_toInt_lt, Int32.toInt_ofNat_of_lt (by omega), Int32.toInt_ofNat_of_lt (by omega)]
  omega
theorem own_nlt (n : Nat) : ¬ Int32.ofNat n < Int32.ofNat n := Int32.lt_irrefl
theorem own_nn {n : Nat} (hn : n < 1000) : ¬ Int32.ofNat n < 0 := by
  rw [Int32.lt_iff_toInt_lt, Int32.toInt_ofNat_of_lt (by omega), show (0 : Int32).toInt = 0 from rfl]
  omega
theorem own_n32 {n : Nat} (hn : n < 1000) : (Int32.ofNat n).toNatClampNeg = n := by
  rw [Int32.toNatClampNeg, Int32.toInt_ofNat_of_lt (by omega)]; rfl
theorem own_one (i : Nat) : Int32.ofNat i + (1 : Int32) = Int32.ofNat (i + 1) := (Int32.ofNat_add i 1).symm
theorem own_n_ne {m n : Nat} (h : m ≠ n) (hm : m < 1000) (hn : n < 1000) : ¬ Int32.ofNat m = Int32.ofNat n := fun e => h (by rw [← own_n32 hm, ← own_n32 hn, e])
/-- two Strings whose bytes are of different number are not one -/
theorem StrB.ne {Z : State} {h : Heap} {a1 b1 a2 b2 : Addr} {s1 s2 : List Int32} (F : StrB Z h a1 b1 s1) (G : StrB Z h a2 b2 s2) (hl : s1.length ≠ s2.length) (h1 : s1.length < 1000) (h2 : s2.length < 1000) : ¬ a1 = a2 := fun e => by
  subst e
  obtain ⟨-, -, f3, k, f4⟩ := F
  obtain ⟨-, -, g3, k', g4⟩ := G
  obtain ⟨c1, _, _, _, _, q1, q2, -, -, -, -, q7⟩ := f3
  obtain ⟨c2, _, _, _, _, r1, r2, -, -, -, -, r7⟩ := g3
  cases q1.symm.trans r1
  cases q2.symm.trans r2
  cases Option.some.inj (q7.symm.trans r7)
  obtain ⟨cl, A, -, S1, -⟩ := f4
  obtain ⟨cl', A', -, S2, -⟩ := g4
  cases A.1.symm.trans A'.1
  rw [S1, own_n32 h1, own_n32 h2] at S2
  exact hl S2
theorem own_EW {Z : State} {a0 : Array Value} (hw : ∀ d ∈ tables_1, d.before a0 Z = true) : EW Z a0 consts_1 := (EW.cons (hw _ (List.mem_of_getElem? (i := 38) rfl)) (by decide +kernel) (EW.cons (hw _ (List.mem_of_getElem? (i := 36) rfl)) (by decide +kernel) (EW.cons (hw _ (List.mem_of_getElem? (i := 45) rfl)) (by decide +kernel) (EW.cons (hw _ (List.mem_of_getElem? (i := 30) rfl)) (by decide +kernel) (EW.cons (hw _ (List.mem_of_getElem? (i := 44) rfl)) (by decide +kernel) (EW.cons (hw _ (List.mem_of_getElem? (i := 42) rfl)) (by decide +kernel) (EW.cons (hw _ (List.mem_of_getElem? (i := 43) rfl)) (by decide +kernel) (EW.cons (hw _ (List.mem_of_getElem? (i := 41) rfl)) (by decide +kernel) (EW.cons (hw _ (List.mem_of_getElem? (i := 54) rfl)) (by decide +kernel) (EW.cons (hw _ (List.mem_of_getElem? (i := 53) rfl)) (by decide +kernel) (EW.cons (hw _ (List.mem_of_getElem? (i := 40) rfl)) (by decide +kernel) (EW.cons (hw _ (List.mem_of_getElem? (i := 37) rfl)) (by decide +kernel) (EW.cons (hw _ (List.mem_of_getElem? (i := 52) rfl)) (by decide +kernel) (EW.cons (hw _ (List.mem_of_getElem? (i := 39) rfl)) (by decide +kernel) (EW.cons (hw _ (List.mem_of_getElem? (i := 46) rfl)) (by decide +kernel) (EW.cons (hw _ (List.mem_of_getElem? (i := 3) rfl)) (by decide +kernel) (EW.cons (hw _ (List.mem_of_getElem? (i := 12) rfl)) (by decide +kernel) (EW.cons (hw _ (List.mem_of_getElem? (i := 13) rfl)) (by decide +kernel) (EW.cons (hw _ (List.mem_of_getElem? (i := 14) rfl)) (by decide +kernel) (EW.cons (hw _ (List.mem_of_getElem? (i := 15) rfl)) (by decide +kernel) (EW.cons (hw _ (List.mem_of_getElem? (i := 16) rfl)) (by decide +kernel) (EW.cons (hw _ (List.mem_of_getElem? (i := 17) rfl)) (by decide +kernel) (EW.cons (hw _ (List.mem_of_getElem? (i := 18) rfl)) (by decide +kernel) (EW.cons (hw _ (List.mem_of_getElem? (i := 19) rfl)) (by decide +kernel) (EW.cons (hw _ (List.mem_of_getElem? (i := 20) rfl)) (by decide +kernel) (EW.cons (hw _ (List.mem_of_getElem? (i := 21) rfl)) (by decide +kernel) (EW.cons (hw _ (List.mem_of_getElem? (i := 22) rfl)) (by decide +kernel) (EW.cons (hw _ (List.mem_of_getElem? (i := 23) rfl)) (by decide +kernel) (EW.cons (hw _ (List.mem_of_getElem? (i := 24) rfl)) (by decide +kernel) (EW.cons (hw _ (List.mem_of_getElem? (i := 51) rfl)) (by decide +kernel) EW.nil))))))))))))))))))))))))))))))
theorem own_wS {Z : State} {a0 : Array Value} (hw : ∀ d ∈ tables_1, d.before a0 Z = true) : ∀ d ∈ Bundle.stringAtoms, d.before a0 Z = true := fun d hd => hw d ((by decide +kernel : ∀ d ∈ Bundle.stringAtoms, d ∈ tables_1) d hd)
theorem own_os {z0 z1 : Value} {s2 : Slot} {v : Int32} (h : One s2) : storeLocals #[.val z0, .val z1, s2] 2 (.int v) = some #[.val z0, .val z1, .val (.int v)] := by
  rcases h with rfl | ⟨w, rfl, hw⟩
  · rfl
  · cases w <;> first | rfl | (simp [Value.category] at hw)
set_option maxRecDepth 65536 in
set_option maxHeartbeats 4000000 in
theorem own_loop {p : Program} {l : Launch} {e : Env} {R : Room} {s : State} {m : MethodId} {args : Array Value} {below : List Frame} {meth : Method} {c : Code} {T : State} {locs : List Loc} {cells slots : Nat} {Z : State} {h0 : Heap} {t : State} (x y : Addr) (c1 c2 : Cell) (bs : List Int32)
    (X : Stand p l e R s m args below meth c T locs cells slots) (hx : p.tables.exec = Jvm.exec) (hZ : Z.Warmed39 s.vm) (hby : c.code = jdk_43_method_13_code) (e0 : T.heap = h0) (A1 : Arr Z h0 x c1 .byte) (A2 : Arr Z h0 y c2 .byte) (hn : bs.length < 1000) (S1 : c1.slots.size = (Int32.ofNat bs.length).toNatClampNeg) (S2 : c2.slots.size = (Int32.ofNat bs.length).toNatClampNeg)
    (H1 : Has c1 (bs.map Value.int) (.int (0 : Int32))) (H2 : Has c2 (bs.map Value.int) (.int (0 : Int32))) (k : Nat) :
    ∀ (i : Nat), i + k = bs.length → (∀ i', Steps p.tables e below (T.setTop (mkF m 33 #[.val (.ref x), .val (.ref y), i'] [.int (1 : Int32)])) t) →
      Steps p.tables e below (T.setTop (mkF m 9 #[.val (.ref x), .val (.ref y), .val (.int (Int32.ofNat i))] [])) t := by
  have M := own_nn hn
  induction k with
  | zero =>
    intro i hi kt
    have ei : i = bs.length := by omega
    subst ei
    show Steps p.tables e below (T.setTop (mkF m 9 #[.val (.ref x), .val (.ref y), .val (.int (Int32.ofNat bs.length))] [])) _
    refine XS.iloadN X.here hx rfl (hb hby d4_9) rfl ?_
    show Steps p.tables e below (T.setTop (mkF m 10 #[.val (.ref x), .val (.ref y), .val (.int (Int32.ofNat bs.length))] [(.int (Int32.ofNat bs.length))])) _
    refine XS.aloadN X.here hx rfl (hb hby d4_10) rfl rfl ?_
    show Steps p.tables e below (T.setTop (mkF m 11 #[.val (.ref x), .val (.ref y), .val (.int (Int32.ofNat bs.length))] [(.ref x), (.int (Int32.ofNat bs.length))])) _
    refine X.arraylength hx (by rw [e0]; exact A1.1) (State.isArrayOf_alike hZ.alike A1.2.1) (g := (mkF m 11 #[.val (.ref x), .val (.ref y), .val (.int (Int32.ofNat bs.length))] [(.ref x), (.int (Int32.ofNat bs.length))])) rfl rfl (hb hby d4_11) _ ?_
    rw [len_of S1 M]
    show Steps p.tables e below (T.setTop (mkF m 12 #[.val (.ref x), .val (.ref y), .val (.int (Int32.ofNat bs.length))] [(.int (Int32.ofNat bs.length)), (.int (Int32.ofNat bs.length))])) _
    refine XS.icmpYes X.here hx rfl (pc0 := 12) (pc' := 32) rfl (hb hby d4_12) rfl (flt (own_nlt _)).2.1 (by decide) (by decide) ?_
    show Steps p.tables e below (T.setTop (mkF m 32 #[.val (.ref x), .val (.ref y), .val (.int (Int32.ofNat bs.length))] [])) _
    refine XS.iconst X.here hx rfl (hb hby d4_32) ?_
    exact kt _
  | succ k ih =>
    intro i hi kt
    have hlt : i < bs.length := by omega
    have hin1 : ¬ (Int32.ofNat i < 0 ∨ c1.slots.size ≤ (Int32.ofNat i).toNatClampNeg) := inb_of S1 ⟨own_nn (by omega), own_lt hlt hn⟩
    have hin2 : ¬ (Int32.ofNat i < 0 ∨ c2.slots.size ≤ (Int32.ofNat i).toNatClampNeg) := inb_of S2 ⟨own_nn (by omega), own_lt hlt hn⟩
    have at1 : c1.slots[(Int32.ofNat i).toNatClampNeg]? = some (.int (bs.getD i 0)) := by
      rw [H1 _ (Nat.lt_of_not_le fun q => hin1 (Or.inr q)), own_map_getD, own_n32 (by omega)]
    have at2 : c2.slots[(Int32.ofNat i).toNatClampNeg]? = some (.int (bs.getD i 0)) := by
      rw [H2 _ (Nat.lt_of_not_le fun q => hin2 (Or.inr q)), own_map_getD, own_n32 (by omega)]
    show Steps p.tables e below (T.setTop (mkF m 9 #[.val (.ref x), .val (.ref y), .val (.int (Int32.ofNat i))] [])) _
    refine XS.iloadN X.here hx rfl (hb hby d4_9) rfl ?_
    show Steps p.tables e below (T.setTop (mkF m 10 #[.val (.ref x), .val (.ref y), .val (.int (Int32.ofNat i))] [(.int (Int32.ofNat i))])) _
    refine XS.aloadN X.here hx rfl (hb hby d4_10) rfl rfl ?_
    show Steps p.tables e below (T.setTop (mkF m 11 #[.val (.ref x), .val (.ref y), .val (.int (Int32.ofNat i))] [(.ref x), (.int (Int32.ofNat i))])) _
    refine X.arraylength hx (by rw [e0]; exact A1.1) (State.isArrayOf_alike hZ.alike A1.2.1) (g := (mkF m 11 #[.val (.ref x), .val (.ref y), .val (.int (Int32.ofNat i))] [(.ref x), (.int (Int32.ofNat i))])) rfl rfl (hb hby d4_11) _ ?_
    rw [len_of S1 M]
    show Steps p.tables e below (T.setTop (mkF m 12 #[.val (.ref x), .val (.ref y), .val (.int (Int32.ofNat i))] [(.int (Int32.ofNat bs.length)), (.int (Int32.ofNat i))])) _
    refine XS.icmpNo X.here hx rfl (hb hby d4_12) rfl (tlt (own_lt hlt hn)).2.1 ?_
    show Steps p.tables e below (T.setTop (mkF m 15 #[.val (.ref x), .val (.ref y), .val (.int (Int32.ofNat i))] [])) _
    refine XS.aloadN X.here hx rfl (hb hby d4_15) rfl rfl ?_
    show Steps p.tables e below (T.setTop (mkF m 16 #[.val (.ref x), .val (.ref y), .val (.int (Int32.ofNat i))] [(.ref x)])) _
    refine XS.iloadN X.here hx rfl (hb hby d4_16) rfl ?_
    show Steps p.tables e below (T.setTop (mkF m 17 #[.val (.ref x), .val (.ref y), .val (.int (Int32.ofNat i))] [(.int (Int32.ofNat i)), (.ref x)])) _
    refine X.baloadBytes hx (j := (Int32.ofNat i)) (v := (.int (bs.getD i 0))) (by rw [e0]; exact A1.1) (State.isArrayOf_alike hZ.alike A1.2.1) A1.2.2 hin1 at1 (g := (mkF m 17 #[.val (.ref x), .val (.ref y), .val (.int (Int32.ofNat i))] [(.int (Int32.ofNat i)), (.ref x)])) rfl rfl (hb hby d4_17) _ ?_
    show Steps p.tables e below (T.setTop (mkF m 18 #[.val (.ref x), .val (.ref y), .val (.int (Int32.ofNat i))] [(.int (bs.getD i 0))])) _
    refine XS.aloadN X.here hx rfl (hb hby d4_18) rfl rfl ?_
    show Steps p.tables e below (T.setTop (mkF m 19 #[.val (.ref x), .val (.ref y), .val (.int (Int32.ofNat i))] [(.ref y), (.int (bs.getD i 0))])) _
    refine XS.iloadN X.here hx rfl (hb hby d4_19) rfl ?_
    show Steps p.tables e below (T.setTop (mkF m 20 #[.val (.ref x), .val (.ref y), .val (.int (Int32.ofNat i))] [(.int (Int32.ofNat i)), (.ref y), (.int (bs.getD i 0))])) _
    refine X.baloadBytes hx (j := (Int32.ofNat i)) (v := (.int (bs.getD i 0))) (by rw [e0]; exact A2.1) (State.isArrayOf_alike hZ.alike A2.2.1) A2.2.2 hin2 at2 (g := (mkF m 20 #[.val (.ref x), .val (.ref y), .val (.int (Int32.ofNat i))] [(.int (Int32.ofNat i)), (.ref y), (.int (bs.getD i 0))])) rfl rfl (hb hby d4_20) _ ?_
    show Steps p.tables e below (T.setTop (mkF m 21 #[.val (.ref x), .val (.ref y), .val (.int (Int32.ofNat i))] [(.int (bs.getD i 0)), (.int (bs.getD i 0))])) _
    refine XS.icmpYes X.here hx rfl (pc0 := 21) (pc' := 26) rfl (hb hby d4_21) rfl (teq rfl).1 (by decide) (by decide) ?_
    show Steps p.tables e below (T.setTop (mkF m 26 #[.val (.ref x), .val (.ref y), .val (.int (Int32.ofNat i))] [])) _
    refine XS.iinc X.here hx rfl (hb hby d4_26) rfl (l' := #[.val (.ref x), .val (.ref y), .val (.int ((Int32.ofNat i) + (1 : Int32)))]) rfl ?_
    show Steps p.tables e below (T.setTop (mkF m 29 #[.val (.ref x), .val (.ref y), .val (.int ((Int32.ofNat i) + (1 : Int32)))] [])) _
    refine XS.goto X.here hx rfl (pc0 := 29) (pc' := 9) rfl (hb hby d4_29) (by decide) (by decide) ?_
    show Steps p.tables e below (T.setTop (mkF m 9 #[.val (.ref x), .val (.ref y), .val (.int ((Int32.ofNat i) + (1 : Int32)))] [])) _
    rw [own_one]
    exact ih (i + 1) (by omega) kt
def QL1 (Z : State) (x : Addr) (y : Addr) (kx : ClassId) (ky : ClassId) (bs : List Int32) (h0 : Heap) (n0 : Nat) (v : Option Value) (h : Heap) (L : List Loc) : Prop := v = some (.int (1 : Int32)) ∧ Fr n0 L ∧ h = h0
theorem ef_rmL1 (m : MethodId) (x0 : Addr) (x1 : Addr) : entryFrame m #[(.ref x0), (.ref x1)] 3 = mkF m 0 #[.val (.ref x0), .val (.ref x1), .unset] [] := by first | (simp [entryFrame, mkF, argsToLocals, Value.category]; done) | rfl
theorem pn_rmL1 : plainName "java/lang/StringLatin1" = true := by first | (simp [plainName, overriddenIn]; done) | decide +kernel
set_option maxRecDepth 65536 in
set_option maxHeartbeats 40000000 in
theorem rmL1 (l : Launch) (Z : State) (a0 : Array Value) (hw : ∀ d ∈ tables_1, d.before a0 Z = true) (ws : List Jvm.Cond) (x : Addr) (y : Addr) (kx : ClassId) (ky : ClassId) (bs : List Int32) (h0 : Heap) (n0 : Nat) (Z0 : n0 ≤ h0.size) (hn : bs.length < 1000) (V1 : Arv Z h0 x kx .byte (Int32.ofNat bs.length) (bs.map Value.int) (.int (0 : Int32))) (V2 : Arv Z h0 y ky .byte (Int32.ofNat bs.length) (bs.map Value.int) (.int (0 : Int32))) :
    MetFree l (⟨"java/lang/StringLatin1", "equals", "([B[B)Z"⟩ : MethodName) (head1 (Jvm.Cond.code (⟨"java/lang/StringLatin1", "equals", "([B[B)Z"⟩ : MethodName) jdk_43_method_13_code 3 (some .boolean) :: ws) ({ frames := 0, cells := 0, slots := 0, locals := 0 } : Room)) (fun a U => a = #[(.ref x), (.ref y)] ∧ Z.Warmed39 U.vm ∧ U.heap = h0) (fun _ _ _ _ _ => True) (fun _ U oc U' => ∃ v L, oc = .returned v ∧ QL1 Z x y kx ky bs h0 n0 v U'.heap L ∧ FrameEnd U oc U' L ({ frames := 0, cells := 0, slots := 0, locals := 0 } : Room).cells ({ frames := 0, cells := 0, slots := 0, locals := 0 } : Room).slots) := by
  refine MetFree.of_bodySF (plainFor_of_name pn_rmL1) hisR ?_
  intro p e s m args below meth c s₁ Bd hml0 hP hK
  obtain ⟨rfl, hZ, hh⟩ := hP
  have hx := Bd.exec
  have hby := Bd.bytes
  have hml : c.maxLocals = 3 := hml0
  have hown : s.vm.findClass "java/lang/StringLatin1" = some m.cls := findClass_of_methodNamed Bd.named
  have hnm := (name_of_methodNamed Bd.named Bd.method).1
  have X0 : Stand p l e ({ frames := 0, cells := 0, slots := 0, locals := 0 } : Room) s m #[(.ref x), (.ref y)] below meth c s₁ [] 0 0 := Stand.of_body Bd
  have e0 : s₁.heap = h0 := by rw [← hh, Bd.state]; rfl
  have N0 := Fr.nil n0
  have pre0 : ∀ tt, Steps p.tables e below (s₁.setTop (mkF m 0 #[.val (.ref x), .val (.ref y), .unset] [])) tt → Steps p.tables e below (s₁.setTop (entryFrame m #[(.ref x), (.ref y)] 3)) tt := fun tt kt => castTop (ef_rmL1 m x y) kt
  obtain ⟨c1, A1, -, S1, M1, H1, -⟩ := V1
  obtain ⟨c2, A2, -, S2, M2, H2, -⟩ := V2
  have pre1 : ∀ tt, Steps p.tables e below (s₁.setTop (mkF m 9 #[.val (.ref x), .val (.ref y), .val (.int (0 : Int32))] [])) tt → Steps p.tables e below (s₁.setTop (entryFrame m #[(.ref x), (.ref y)] 3)) tt := by
    intro tt kt
    refine pre0 tt ?_
    show Steps p.tables e below (s₁.setTop (mkF m 0 #[.val (.ref x), .val (.ref y), .unset] [])) _
    refine XS.aloadN X0.here hx rfl (hb hby d4_0) rfl rfl ?_
    show Steps p.tables e below (s₁.setTop (mkF m 1 #[.val (.ref x), .val (.ref y), .unset] [(.ref x)])) _
    refine X0.arraylength hx (by rw [e0]; exact A1.1) (State.isArrayOf_alike hZ.alike A1.2.1) (g := (mkF m 1 #[.val (.ref x), .val (.ref y), .unset] [(.ref x)])) rfl rfl (hb hby d4_1) _ ?_
    rw [len_of S1 M1]
    show Steps p.tables e below (s₁.setTop (mkF m 2 #[.val (.ref x), .val (.ref y), .unset] [(.int (Int32.ofNat bs.length))])) _
    refine XS.aloadN X0.here hx rfl (hb hby d4_2) rfl rfl ?_
    show Steps p.tables e below (s₁.setTop (mkF m 3 #[.val (.ref x), .val (.ref y), .unset] [(.ref y), (.int (Int32.ofNat bs.length))])) _
    refine X0.arraylength hx (by rw [e0]; exact A2.1) (State.isArrayOf_alike hZ.alike A2.2.1) (g := (mkF m 3 #[.val (.ref x), .val (.ref y), .unset] [(.ref y), (.int (Int32.ofNat bs.length))])) rfl rfl (hb hby d4_3) _ ?_
    rw [len_of S2 M2]
    show Steps p.tables e below (s₁.setTop (mkF m 4 #[.val (.ref x), .val (.ref y), .unset] [(.int (Int32.ofNat bs.length)), (.int (Int32.ofNat bs.length))])) _
    refine XS.icmpNo X0.here hx rfl (hb hby d4_4) rfl (teq rfl).2 ?_
    show Steps p.tables e below (s₁.setTop (mkF m 7 #[.val (.ref x), .val (.ref y), .unset] [])) _
    refine XS.iconst X0.here hx rfl (hb hby d4_7) ?_
    show Steps p.tables e below (s₁.setTop (mkF m 8 #[.val (.ref x), .val (.ref y), .unset] [(.int (0 : Int32))])) _
    refine XS.istoreN X0.here hx rfl (hb hby d4_8) rfl (l' := #[.val (.ref x), .val (.ref y), .val (.int (0 : Int32))]) rfl ?_
    exact kt
  obtain ⟨fs, hr, hrun, hended, hW, hsame⟩ := X0.leave (v := some (.int (1 : Int32))) (fun h => by rw [Bd.returns] at h; cases h)
  refine ⟨_, _, pre1 _ ?_, hrun, hended, _, _, rfl, ?_, ⟨_, rfl⟩, hW, hsame.mono (by decide) (by decide)⟩
  · exact own_loop x y c1 c2 bs X0 hx hZ hby e0 A1 A2 hn S1 S2 H1 H2 bs.length 0 (by omega) (fun i' => retN X0 hx (t := .boolean) Bd.returns (by simp) (hb hby d4_33) hr)
  · show QL1 Z x y kx ky bs h0 n0 _ s₁.heap _
    rw [e0]
    exact ⟨rfl, N0, rfl⟩
def QL0 (Z : State) (x : Addr) (y : Addr) (kx : ClassId) (ky : ClassId) (bs : List Int32) (bt : List Int32) (h0 : Heap) (n0 : Nat) (v : Option Value) (h : Heap) (L : List Loc) : Prop := v = some (.int (0 : Int32)) ∧ Fr n0 L ∧ h = h0
theorem ef_rmL0 (m : MethodId) (x0 : Addr) (x1 : Addr) : entryFrame m #[(.ref x0), (.ref x1)] 3 = mkF m 0 #[.val (.ref x0), .val (.ref x1), .unset] [] := by first | (simp [entryFrame, mkF, argsToLocals, Value.category]; done) | rfl
theorem pn_rmL0 : plainName "java/lang/StringLatin1" = true := by first | (simp [plainName, overriddenIn]; done) | decide +kernel
set_option maxRecDepth 65536 in
set_option maxHeartbeats 40000000 in
theorem rmL0 (l : Launch) (Z : State) (a0 : Array Value) (hw : ∀ d ∈ tables_1, d.before a0 Z = true) (ws : List Jvm.Cond) (x : Addr) (y : Addr) (kx : ClassId) (ky : ClassId) (bs : List Int32) (bt : List Int32) (h0 : Heap) (n0 : Nat) (Z0 : n0 ≤ h0.size) (hn : bs.length < 1000) (hn' : bt.length < 1000) (hne : bs.length ≠ bt.length) (V1 : Arv Z h0 x kx .byte (Int32.ofNat bs.length) (bs.map Value.int) (.int (0 : Int32))) (V2 : Arv Z h0 y ky .byte (Int32.ofNat bt.length) (bt.map Value.int) (.int (0 : Int32))) :
    MetFree l (⟨"java/lang/StringLatin1", "equals", "([B[B)Z"⟩ : MethodName) (head1 (Jvm.Cond.code (⟨"java/lang/StringLatin1", "equals", "([B[B)Z"⟩ : MethodName) jdk_43_method_13_code 3 (some .boolean) :: ws) ({ frames := 0, cells := 0, slots := 0, locals := 0 } : Room)) (fun a U => a = #[(.ref x), (.ref y)] ∧ Z.Warmed39 U.vm ∧ U.heap = h0) (fun _ _ _ _ _ => True) (fun _ U oc U' => ∃ v L, oc = .returned v ∧ QL0 Z x y kx ky bs bt h0 n0 v U'.heap L ∧ FrameEnd U oc U' L ({ frames := 0, cells := 0, slots := 0, locals := 0 } : Room).cells ({ frames := 0, cells := 0, slots := 0, locals := 0 } : Room).slots) := by
  refine MetFree.of_bodySF (plainFor_of_name pn_rmL0) hisR ?_
  intro p e s m args below meth c s₁ Bd hml0 hP hK
  obtain ⟨rfl, hZ, hh⟩ := hP
  have hx := Bd.exec
  have hby := Bd.bytes
  have hml : c.maxLocals = 3 := hml0
  have hown : s.vm.findClass "java/lang/StringLatin1" = some m.cls := findClass_of_methodNamed Bd.named
  have hnm := (name_of_methodNamed Bd.named Bd.method).1
  have X0 : Stand p l e ({ frames := 0, cells := 0, slots := 0, locals := 0 } : Room) s m #[(.ref x), (.ref y)] below meth c s₁ [] 0 0 := Stand.of_body Bd
  have e0 : s₁.heap = h0 := by rw [← hh, Bd.state]; rfl
  have N0 := Fr.nil n0
  have pre0 : ∀ tt, Steps p.tables e below (s₁.setTop (mkF m 0 #[.val (.ref x), .val (.ref y), .unset] [])) tt → Steps p.tables e below (s₁.setTop (entryFrame m #[(.ref x), (.ref y)] 3)) tt := fun tt kt => castTop (ef_rmL0 m x y) kt
  obtain ⟨c1, A1, -, S1, M1, H1, -⟩ := V1
  obtain ⟨c2, A2, -, S2, M2, H2, -⟩ := V2
  have pre1 : ∀ tt, Steps p.tables e below (s₁.setTop (mkF m 35 #[.val (.ref x), .val (.ref y), .unset] [(.int (0 : Int32))])) tt → Steps p.tables e below (s₁.setTop (entryFrame m #[(.ref x), (.ref y)] 3)) tt := by
    intro tt kt
    refine pre0 tt ?_
    show Steps p.tables e below (s₁.setTop (mkF m 0 #[.val (.ref x), .val (.ref y), .unset] [])) _
    refine XS.aloadN X0.here hx rfl (hb hby d4_0) rfl rfl ?_
    show Steps p.tables e below (s₁.setTop (mkF m 1 #[.val (.ref x), .val (.ref y), .unset] [(.ref x)])) _
    refine X0.arraylength hx (by rw [e0]; exact A1.1) (State.isArrayOf_alike hZ.alike A1.2.1) (g := (mkF m 1 #[.val (.ref x), .val (.ref y), .unset] [(.ref x)])) rfl rfl (hb hby d4_1) _ ?_
    rw [len_of S1 M1]
    show Steps p.tables e below (s₁.setTop (mkF m 2 #[.val (.ref x), .val (.ref y), .unset] [(.int (Int32.ofNat bs.length))])) _
    refine XS.aloadN X0.here hx rfl (hb hby d4_2) rfl rfl ?_
    show Steps p.tables e below (s₁.setTop (mkF m 3 #[.val (.ref x), .val (.ref y), .unset] [(.ref y), (.int (Int32.ofNat bs.length))])) _
    refine X0.arraylength hx (by rw [e0]; exact A2.1) (State.isArrayOf_alike hZ.alike A2.2.1) (g := (mkF m 3 #[.val (.ref x), .val (.ref y), .unset] [(.ref y), (.int (Int32.ofNat bs.length))])) rfl rfl (hb hby d4_3) _ ?_
    rw [len_of S2 M2]
    show Steps p.tables e below (s₁.setTop (mkF m 4 #[.val (.ref x), .val (.ref y), .unset] [(.int (Int32.ofNat bt.length)), (.int (Int32.ofNat bs.length))])) _
    refine XS.icmpYes X0.here hx rfl (pc0 := 4) (pc' := 34) rfl (hb hby d4_4) rfl (feq (own_n_ne hne hn hn')).2 (by decide) (by decide) ?_
    show Steps p.tables e below (s₁.setTop (mkF m 34 #[.val (.ref x), .val (.ref y), .unset] [])) _
    refine XS.iconst X0.here hx rfl (hb hby d4_34) ?_
    exact kt
  obtain ⟨fs, hr, hrun, hended, hW, hsame⟩ := X0.leave (v := some (.int (0 : Int32))) (fun h => by rw [Bd.returns] at h; cases h)
  refine ⟨_, _, pre1 _ ?_, hrun, hended, _, _, rfl, ?_, ⟨_, rfl⟩, hW, hsame.mono (by decide) (by decide)⟩
  · exact retN X0 hx (t := .boolean) Bd.returns (by simp) (hb hby d4_35) hr
  · show QL0 Z x y kx ky bs bt h0 n0 _ s₁.heap _
    rw [e0]
    exact ⟨rfl, N0, rfl⟩
def QrmQ1 (Z : State) (a1 : Addr) (b1 : Addr) (a2 : Addr) (b2 : Addr) (bs : List Int32) (cz : Int32) (h0 : Heap) (n0 : Nat) (v : Option Value) (h : Heap) (L : List Loc) : Prop := v = some (.int (1 : Int32)) ∧ Fr n0 L ∧ h = h0
theorem ef_rmQ1 (m : MethodId) (x0 : Addr) (x1 : Addr) : entryFrame m #[(.ref x0), (.ref x1)] 3 = mkF m 0 #[.val (.ref x0), .val (.ref x1), .unset] [] := by first | (simp [entryFrame, mkF, argsToLocals, Value.category]; done) | rfl
theorem pn_rmQ1 : plainName "java/lang/String" = true := by first | (simp [plainName, overriddenIn]; done) | decide +kernel
set_option maxRecDepth 65536 in
set_option maxHeartbeats 40000000 in
theorem rmQ1 (l : Launch) (Z : State) (a0 : Array Value) (hw : ∀ d ∈ tables_1, d.before a0 Z = true) (ws : List Jvm.Cond) (a1 : Addr) (b1 : Addr) (a2 : Addr) (b2 : Addr) (bs : List Int32) (cz : Int32) (h0 : Heap) (n0 : Nat) (Z0 : n0 ≤ h0.size) (F1 : StrB Z h0 a1 b1 bs) (F2 : StrB Z h0 a2 b2 bs) (S0 : Sta Z h0 "java/lang/String" "COMPACT_STRINGS" "Z" (.int cz)) (hcz : ¬ cz = (0 : Int32)) (hn : bs.length < 1000) :
    MetFree l (⟨"java/lang/String", "equals", "(Ljava/lang/Object;)Z"⟩ : MethodName) (head1 (Jvm.Cond.code (⟨"java/lang/String", "equals", "(Ljava/lang/Object;)Z"⟩ : MethodName) jdk_42_method_66_code 3 (some .boolean) :: ws) ({ frames := 1, cells := 0, slots := 0, locals := 14 } : Room)) (fun a U => a = #[(.ref a1), (.ref a2)] ∧ Z.Warmed39 U.vm ∧ U.heap = h0) (fun _ _ _ _ _ => True) (fun _ U oc U' => ∃ v L, oc = .returned v ∧ QrmQ1 Z a1 b1 a2 b2 bs cz h0 n0 v U'.heap L ∧ FrameEnd U oc U' L ({ frames := 1, cells := 0, slots := 0, locals := 14 } : Room).cells ({ frames := 1, cells := 0, slots := 0, locals := 14 } : Room).slots) := by
  refine MetFree.of_bodySF (plainFor_of_name pn_rmQ1) hisR ?_
  intro p e s m args below meth c s₁ Bd hml0 hP hK
  obtain ⟨rfl, hZ, hh⟩ := hP
  have hx := Bd.exec
  have hby := Bd.bytes
  have hml : c.maxLocals = 3 := hml0
  have hown : s.vm.findClass "java/lang/String" = some m.cls := findClass_of_methodNamed Bd.named
  have hnm := (name_of_methodNamed Bd.named Bd.method).1
  have X0 : Stand p l e ({ frames := 1, cells := 0, slots := 0, locals := 14 } : Room) s m #[(.ref a1), (.ref a2)] below meth c s₁ [] 0 0 := Stand.of_body Bd
  have e0 : s₁.heap = h0 := by rw [← hh, Bd.state]; rfl
  have N0 := Fr.nil n0
  have pre0 : ∀ tt, Steps p.tables e below (s₁.setTop (mkF m 0 #[.val (.ref a1), .val (.ref a2), .unset] [])) tt → Steps p.tables e below (s₁.setTop (entryFrame m #[(.ref a1), (.ref a2)] 3)) tt := fun tt kt => castTop (ef_rmQ1 m a1 a2) kt
  obtain ⟨f1, f2, f3, kx, f4⟩ := F1
  obtain ⟨g1, g2, g3, ky, g4⟩ := F2
  have pre1 : ∀ tt, Steps p.tables e below (s₁.setTop (mkF m 2 #[.val (.ref a1), .val (.ref a2), .unset] [(.ref a2), (.ref a1)])) tt → Steps p.tables e below (s₁.setTop (entryFrame m #[(.ref a1), (.ref a2)] 3)) tt := by
    intro tt kt
    refine pre0 tt ?_
    show Steps p.tables e below (s₁.setTop (mkF m 0 #[.val (.ref a1), .val (.ref a2), .unset] [])) _
    refine XS.aloadN X0.here hx rfl (hb hby d2_0) rfl rfl ?_
    show Steps p.tables e below (s₁.setTop (mkF m 1 #[.val (.ref a1), .val (.ref a2), .unset] [(.ref a1)])) _
    refine XS.aloadN X0.here hx rfl (hb hby d2_1) rfl rfl ?_
    exact kt
  by_cases ha : a1 = a2
  · skip
    have prea2 : ∀ tt, Steps p.tables e below (s₁.setTop (mkF m 6 #[.val (.ref a1), .val (.ref a2), .unset] [(.int (1 : Int32))])) tt → Steps p.tables e below (s₁.setTop (entryFrame m #[(.ref a1), (.ref a2)] 3)) tt := by
      intro tt kt
      refine pre1 tt ?_
      show Steps p.tables e below (s₁.setTop (mkF m 2 #[.val (.ref a1), .val (.ref a2), .unset] [(.ref a2), (.ref a1)])) _
      refine Jvm.RoadKit.acmp (g := (mkF m 2 #[.val (.ref a1), .val (.ref a2), .unset] [(.ref a2), (.ref a1)])) X0 hx rfl rfl rfl (pc0 := 2) (pc' := 5) (same := true) rfl (hb hby d2_2) rfl (decide_eq_true (congrArg Value.ref ha)) (by decide) (by decide) ?_
      show Steps p.tables e below (s₁.setTop (mkF m 5 #[.val (.ref a1), .val (.ref a2), .unset] [])) _
      refine XS.iconst X0.here hx rfl (hb hby d2_5) ?_
      exact kt
    obtain ⟨fs, hr, hrun, hended, hW, hsame⟩ := X0.leave (v := some (.int (1 : Int32))) (fun h => by rw [Bd.returns] at h; cases h)
    refine ⟨_, _, prea2 _ ?_, hrun, hended, _, _, rfl, ?_, ⟨_, rfl⟩, hW, hsame.mono (by decide) (by decide)⟩
    · exact retN X0 hx (t := .boolean) Bd.returns (by simp) (hb hby d2_6) hr
    · show QrmQ1 Z a1 b1 a2 b2 bs cz h0 n0 _ s₁.heap _
      rw [e0]
      exact ⟨rfl, N0, rfl⟩
  · skip
    obtain ⟨Tb2, Xb2, eb2, stb2⟩ := instY X0 hx hZ hown (hw _ (List.mem_of_getElem? (i := 55) rfl)) e0 (Ins.self g1) (g := (mkF m 8 #[.val (.ref a1), .val (.ref a2), .unset] [(.ref a2)])) rfl rfl (hb hby d2_8)
    obtain ⟨Tb3, Xb3, eb3, stb3⟩ := castY Xb2 hx hZ hown (hw _ (List.mem_of_getElem? (i := 55) rfl)) eb2 (Ins.self g1) (g := (mkF m 15 #[.val (.ref a1), .val (.ref a2), .unset] [(.ref a2)])) rfl rfl (hb hby d2_15)
    obtain ⟨Tb4, Xb4, eb4, stb4⟩ := getS2 Xb3 hx hZ hown (host := "") (Or.inl (hw _ (List.mem_of_getElem? (i := 56) rfl))) Via.refl eb3 S0 (g := (mkF m 19 #[.val (.ref a1), .val (.ref a2), .val (.ref a2)] [])) rfl (hb hby d2_19)
    obtain ⟨Tb5, Xb5, eb5, stb5⟩ := getF Xb4 hx hZ hown (host := "") (Or.inl (hw _ (List.mem_of_getElem? (i := 57) rfl))) Via.refl eb4 f2 (g := (mkF m 26 #[.val (.ref a1), .val (.ref a2), .val (.ref a2)] [(.ref a1)])) rfl rfl (hb hby d2_26)
    obtain ⟨Tb6, Xb6, eb6, stb6⟩ := getF Xb5 hx hZ hown (host := "") (Or.inl (hw _ (List.mem_of_getElem? (i := 57) rfl))) Via.refl eb5 g2 (g := (mkF m 30 #[.val (.ref a1), .val (.ref a2), .val (.ref a2)] [(.ref a2), (.int (0 : Int32))])) rfl rfl (hb hby d2_30)
    obtain ⟨Tb7, Xb7, eb7, stb7⟩ := getF Xb6 hx hZ hown (host := "") (Or.inl (hw _ (List.mem_of_getElem? (i := 58) rfl))) Via.refl eb6 f3 (g := (mkF m 37 #[.val (.ref a1), .val (.ref a2), .val (.ref a2)] [(.ref a1)])) rfl rfl (hb hby d2_37)
    obtain ⟨Tb8, Xb8, eb8, stb8⟩ := getF Xb7 hx hZ hown (host := "") (Or.inl (hw _ (List.mem_of_getElem? (i := 58) rfl))) Via.refl eb7 g3 (g := (mkF m 41 #[.val (.ref a1), .val (.ref a2), .val (.ref a2)] [(.ref a2), (.ref b1)])) rfl rfl (hb hby d2_41)
    obtain ⟨_, _, ⟨Tb9, Lb9, kb9, nb9⟩, -, Xb9, ⟨Lcb9, hQb9, lb9, yb9, zb9⟩, stb9⟩ := Jvm.LawKit.callS Xb8 hx (y := (⟨"java/lang/StringLatin1", "equals", "([B[B)Z"⟩ : MethodName)) hown (mvT hZ (hw _ (List.mem_of_getElem? (i := 59) rfl))) (mvT hZ (hw _ (List.mem_of_getElem? (i := 60) rfl))) (mvT hZ (hw _ (List.mem_of_getElem? (i := 61) rfl))) (mvT hZ (hw _ (List.mem_of_getElem? (i := 62) rfl))) (by decide) (backOf (W := 0) (rmL1 l Z a0 hw [] b1 b2 kx ky bs h0 n0 Z0 hn f4 g4) hZ (hw _ (List.mem_of_getElem? (i := 62) rfl)) (hw _ (List.mem_of_getElem? (i := 61) rfl)) (by decide) (by decide)) (g := (mkF m 44 #[.val (.ref a1), .val (.ref a2), .val (.ref a2)] [(.ref b2), (.ref b1)])) rfl (by rw [hml]; rfl) (argsL := [(.ref b1), (.ref b2)]) (rest := []) (lenOf pd_0 rfl) rfl (by show 2 * 0 + _ ≤ _; exact Nat.le_of_eq rfl) (hb hby d2_44) (fun _ _ => ⟨rfl, eb8, (by decide : 0 + 0 ≤ _), (by decide : 0 + 0 ≤ _)⟩)
    dsimp only [Pt.U, Pt.locs, Pt.cells, Pt.slots] at Xb9 lb9 yb9 zb9 stb9 hQb9
    subst lb9 yb9 zb9
    obtain ⟨rfl, Nb9q, hb9⟩ := hQb9
    have Nb9 := Fr.app N0 Nb9q
    obtain ⟨Lxb9, Xb9, Nxb9⟩ : ∃ L, Stand p l e ({ frames := 1, cells := 0, slots := 0, locals := 14 } : Room) s m #[(.ref a1), (.ref a2)] below meth c Tb9 L 0 0 ∧ Fr n0 L := ⟨_, Xb9.more (by decide) (by decide), Nb9⟩
    have preb10 : ∀ tt, Steps p.tables e below (Tb9.setTop (mkF m 55 #[.val (.ref a1), .val (.ref a2), .val (.ref a2)] [(.int (1 : Int32))])) tt → Steps p.tables e below (s₁.setTop (entryFrame m #[(.ref a1), (.ref a2)] 3)) tt := by
      intro tt kt
      refine pre1 tt ?_
      show Steps p.tables e below (s₁.setTop (mkF m 2 #[.val (.ref a1), .val (.ref a2), .unset] [(.ref a2), (.ref a1)])) _
      refine Jvm.RoadKit.acmp (g := (mkF m 2 #[.val (.ref a1), .val (.ref a2), .unset] [(.ref a2), (.ref a1)])) X0 hx rfl rfl rfl (pc0 := 2) (pc' := 7) (same := false) rfl (hb hby d2_2) rfl (decide_eq_false fun q => ha (Value.ref.inj q)) (by decide) (by decide) ?_
      show Steps p.tables e below (s₁.setTop (mkF m 7 #[.val (.ref a1), .val (.ref a2), .unset] [])) _
      refine XS.aloadN X0.here hx rfl (hb hby d2_7) rfl rfl ?_
      show Steps p.tables e below (s₁.setTop (mkF m 8 #[.val (.ref a1), .val (.ref a2), .unset] [(.ref a2)])) _
      refine stb2 _ ?_
      show Steps p.tables e below (Tb2.setTop (mkF m 11 #[.val (.ref a1), .val (.ref a2), .unset] [(.int (1 : Int32))])) _
      refine XS.ifNo Xb2.here hx rfl (hb hby d2_11) rfl ((if0 _ _).trans (feq (by decide)).1) ?_
      show Steps p.tables e below (Tb2.setTop (mkF m 14 #[.val (.ref a1), .val (.ref a2), .unset] [])) _
      refine XS.aloadN Xb2.here hx rfl (hb hby d2_14) rfl rfl ?_
      show Steps p.tables e below (Tb2.setTop (mkF m 15 #[.val (.ref a1), .val (.ref a2), .unset] [(.ref a2)])) _
      refine stb3 _ ?_
      show Steps p.tables e below (Tb3.setTop (mkF m 18 #[.val (.ref a1), .val (.ref a2), .unset] [(.ref a2)])) _
      refine XS.astoreN Xb3.here hx rfl (hb hby d2_18) rfl rfl (l' := #[.val (.ref a1), .val (.ref a2), .val (.ref a2)]) rfl ?_
      show Steps p.tables e below (Tb3.setTop (mkF m 19 #[.val (.ref a1), .val (.ref a2), .val (.ref a2)] [])) _
      refine stb4 _ ?_
      show Steps p.tables e below (Tb4.setTop (mkF m 22 #[.val (.ref a1), .val (.ref a2), .val (.ref a2)] [(.int cz)])) _
      refine XS.ifNo Xb4.here hx rfl (hb hby d2_22) rfl ((if0 _ _).trans (feq hcz).1) ?_
      show Steps p.tables e below (Tb4.setTop (mkF m 25 #[.val (.ref a1), .val (.ref a2), .val (.ref a2)] [])) _
      refine XS.aloadN Xb4.here hx rfl (hb hby d2_25) rfl rfl ?_
      show Steps p.tables e below (Tb4.setTop (mkF m 26 #[.val (.ref a1), .val (.ref a2), .val (.ref a2)] [(.ref a1)])) _
      refine stb5 _ ?_
      show Steps p.tables e below (Tb5.setTop (mkF m 29 #[.val (.ref a1), .val (.ref a2), .val (.ref a2)] [(.int (0 : Int32))])) _
      refine XS.aloadN Xb5.here hx rfl (hb hby d2_29) rfl rfl ?_
      show Steps p.tables e below (Tb5.setTop (mkF m 30 #[.val (.ref a1), .val (.ref a2), .val (.ref a2)] [(.ref a2), (.int (0 : Int32))])) _
      refine stb6 _ ?_
      show Steps p.tables e below (Tb6.setTop (mkF m 33 #[.val (.ref a1), .val (.ref a2), .val (.ref a2)] [(.int (0 : Int32)), (.int (0 : Int32))])) _
      refine XS.icmpNo Xb6.here hx rfl (hb hby d2_33) rfl (teq rfl).2 ?_
      show Steps p.tables e below (Tb6.setTop (mkF m 36 #[.val (.ref a1), .val (.ref a2), .val (.ref a2)] [])) _
      refine XS.aloadN Xb6.here hx rfl (hb hby d2_36) rfl rfl ?_
      show Steps p.tables e below (Tb6.setTop (mkF m 37 #[.val (.ref a1), .val (.ref a2), .val (.ref a2)] [(.ref a1)])) _
      refine stb7 _ ?_
      show Steps p.tables e below (Tb7.setTop (mkF m 40 #[.val (.ref a1), .val (.ref a2), .val (.ref a2)] [(.ref b1)])) _
      refine XS.aloadN Xb7.here hx rfl (hb hby d2_40) rfl rfl ?_
      show Steps p.tables e below (Tb7.setTop (mkF m 41 #[.val (.ref a1), .val (.ref a2), .val (.ref a2)] [(.ref a2), (.ref b1)])) _
      refine stb8 _ ?_
      show Steps p.tables e below (Tb8.setTop (mkF m 44 #[.val (.ref a1), .val (.ref a2), .val (.ref a2)] [(.ref b2), (.ref b1)])) _
      refine stb9 _ ?_
      show Steps p.tables e below (Tb9.setTop (mkF m 47 #[.val (.ref a1), .val (.ref a2), .val (.ref a2)] [(.int (1 : Int32))])) _
      refine XS.ifNo Xb9.here hx rfl (hb hby d2_47) rfl ((if0 _ _).trans (feq (by decide)).1) ?_
      show Steps p.tables e below (Tb9.setTop (mkF m 50 #[.val (.ref a1), .val (.ref a2), .val (.ref a2)] [])) _
      refine XS.iconst Xb9.here hx rfl (hb hby d2_50) ?_
      show Steps p.tables e below (Tb9.setTop (mkF m 51 #[.val (.ref a1), .val (.ref a2), .val (.ref a2)] [(.int (1 : Int32))])) _
      refine XS.goto Xb9.here hx rfl (pc0 := 51) (pc' := 55) rfl (hb hby d2_51) (by decide) (by decide) ?_
      exact kt
    obtain ⟨fs, hr, hrun, hended, hW, hsame⟩ := Xb9.leave (v := some (.int (1 : Int32))) (fun h => by rw [Bd.returns] at h; cases h)
    refine ⟨_, _, preb10 _ ?_, hrun, hended, _, _, rfl, ?_, ⟨_, rfl⟩, hW, hsame.mono (by decide) (by decide)⟩
    · exact retN Xb9 hx (t := .boolean) Bd.returns (by simp) (hb hby d2_55) hr
    · show QrmQ1 Z a1 b1 a2 b2 bs cz h0 n0 _ Tb9.heap _
      rw [hb9]
      exact ⟨rfl, Nxb9, rfl⟩
def QrmQ0 (Z : State) (a1 : Addr) (b1 : Addr) (a2 : Addr) (b2 : Addr) (bs : List Int32) (bt : List Int32) (cz : Int32) (h0 : Heap) (n0 : Nat) (v : Option Value) (h : Heap) (L : List Loc) : Prop := v = some (.int (0 : Int32)) ∧ Fr n0 L ∧ h = h0
theorem ef_rmQ0 (m : MethodId) (x0 : Addr) (x1 : Addr) : entryFrame m #[(.ref x0), (.ref x1)] 3 = mkF m 0 #[.val (.ref x0), .val (.ref x1), .unset] [] := by first | (simp [entryFrame, mkF, argsToLocals, Value.category]; done) | rfl
theorem pn_rmQ0 : plainName "java/lang/String" = true := by first | (simp [plainName, overriddenIn]; done) | decide +kernel
set_option maxRecDepth 65536 in
set_option maxHeartbeats 40000000 in
theorem rmQ0 (l : Launch) (Z : State) (a0 : Array Value) (hw : ∀ d ∈ tables_1, d.before a0 Z = true) (ws : List Jvm.Cond) (a1 : Addr) (b1 : Addr) (a2 : Addr) (b2 : Addr) (bs : List Int32) (bt : List Int32) (cz : Int32) (h0 : Heap) (n0 : Nat) (Z0 : n0 ≤ h0.size) (F1 : StrB Z h0 a1 b1 bs) (F2 : StrB Z h0 a2 b2 bt) (S0 : Sta Z h0 "java/lang/String" "COMPACT_STRINGS" "Z" (.int cz)) (hcz : ¬ cz = (0 : Int32)) (hn : bs.length < 1000) (hn' : bt.length < 1000) (hne : bs.length ≠ bt.length) :
    MetFree l (⟨"java/lang/String", "equals", "(Ljava/lang/Object;)Z"⟩ : MethodName) (head1 (Jvm.Cond.code (⟨"java/lang/String", "equals", "(Ljava/lang/Object;)Z"⟩ : MethodName) jdk_42_method_66_code 3 (some .boolean) :: ws) ({ frames := 1, cells := 0, slots := 0, locals := 14 } : Room)) (fun a U => a = #[(.ref a1), (.ref a2)] ∧ Z.Warmed39 U.vm ∧ U.heap = h0) (fun _ _ _ _ _ => True) (fun _ U oc U' => ∃ v L, oc = .returned v ∧ QrmQ0 Z a1 b1 a2 b2 bs bt cz h0 n0 v U'.heap L ∧ FrameEnd U oc U' L ({ frames := 1, cells := 0, slots := 0, locals := 14 } : Room).cells ({ frames := 1, cells := 0, slots := 0, locals := 14 } : Room).slots) := by
  refine MetFree.of_bodySF (plainFor_of_name pn_rmQ0) hisR ?_
  intro p e s m args below meth c s₁ Bd hml0 hP hK
  obtain ⟨rfl, hZ, hh⟩ := hP
  have hx := Bd.exec
  have hby := Bd.bytes
  have hml : c.maxLocals = 3 := hml0
  have hown : s.vm.findClass "java/lang/String" = some m.cls := findClass_of_methodNamed Bd.named
  have hnm := (name_of_methodNamed Bd.named Bd.method).1
  have X0 : Stand p l e ({ frames := 1, cells := 0, slots := 0, locals := 14 } : Room) s m #[(.ref a1), (.ref a2)] below meth c s₁ [] 0 0 := Stand.of_body Bd
  have e0 : s₁.heap = h0 := by rw [← hh, Bd.state]; rfl
  have N0 := Fr.nil n0
  have pre0 : ∀ tt, Steps p.tables e below (s₁.setTop (mkF m 0 #[.val (.ref a1), .val (.ref a2), .unset] [])) tt → Steps p.tables e below (s₁.setTop (entryFrame m #[(.ref a1), (.ref a2)] 3)) tt := fun tt kt => castTop (ef_rmQ0 m a1 a2) kt
  obtain ⟨f1, f2, f3, kx, f4⟩ := id F1
  obtain ⟨g1, g2, g3, ky, g4⟩ := id F2
  have ha : ¬ a1 = a2 := StrB.ne F1 F2 hne hn hn'
  obtain ⟨T1, X1, e1, st1⟩ := instY X0 hx hZ hown (hw _ (List.mem_of_getElem? (i := 55) rfl)) e0 (Ins.self g1) (g := (mkF m 8 #[.val (.ref a1), .val (.ref a2), .unset] [(.ref a2)])) rfl rfl (hb hby d2_8)
  obtain ⟨T2, X2, e2, st2⟩ := castY X1 hx hZ hown (hw _ (List.mem_of_getElem? (i := 55) rfl)) e1 (Ins.self g1) (g := (mkF m 15 #[.val (.ref a1), .val (.ref a2), .unset] [(.ref a2)])) rfl rfl (hb hby d2_15)
  obtain ⟨T3, X3, e3, st3⟩ := getS2 X2 hx hZ hown (host := "") (Or.inl (hw _ (List.mem_of_getElem? (i := 56) rfl))) Via.refl e2 S0 (g := (mkF m 19 #[.val (.ref a1), .val (.ref a2), .val (.ref a2)] [])) rfl (hb hby d2_19)
  obtain ⟨T4, X4, e4, st4⟩ := getF X3 hx hZ hown (host := "") (Or.inl (hw _ (List.mem_of_getElem? (i := 57) rfl))) Via.refl e3 f2 (g := (mkF m 26 #[.val (.ref a1), .val (.ref a2), .val (.ref a2)] [(.ref a1)])) rfl rfl (hb hby d2_26)
  obtain ⟨T5, X5, e5, st5⟩ := getF X4 hx hZ hown (host := "") (Or.inl (hw _ (List.mem_of_getElem? (i := 57) rfl))) Via.refl e4 g2 (g := (mkF m 30 #[.val (.ref a1), .val (.ref a2), .val (.ref a2)] [(.ref a2), (.int (0 : Int32))])) rfl rfl (hb hby d2_30)
  obtain ⟨T6, X6, e6, st6⟩ := getF X5 hx hZ hown (host := "") (Or.inl (hw _ (List.mem_of_getElem? (i := 58) rfl))) Via.refl e5 f3 (g := (mkF m 37 #[.val (.ref a1), .val (.ref a2), .val (.ref a2)] [(.ref a1)])) rfl rfl (hb hby d2_37)
  obtain ⟨T7, X7, e7, st7⟩ := getF X6 hx hZ hown (host := "") (Or.inl (hw _ (List.mem_of_getElem? (i := 58) rfl))) Via.refl e6 g3 (g := (mkF m 41 #[.val (.ref a1), .val (.ref a2), .val (.ref a2)] [(.ref a2), (.ref b1)])) rfl rfl (hb hby d2_41)
  obtain ⟨_, _, ⟨T8, L8, k8, n8⟩, -, X8, ⟨Lc8, hQ8, l8, y8, z8⟩, st8⟩ := Jvm.LawKit.callS X7 hx (y := (⟨"java/lang/StringLatin1", "equals", "([B[B)Z"⟩ : MethodName)) hown (mvT hZ (hw _ (List.mem_of_getElem? (i := 59) rfl))) (mvT hZ (hw _ (List.mem_of_getElem? (i := 60) rfl))) (mvT hZ (hw _ (List.mem_of_getElem? (i := 61) rfl))) (mvT hZ (hw _ (List.mem_of_getElem? (i := 62) rfl))) (by decide) (backOf (W := 0) (rmL0 l Z a0 hw [] b1 b2 kx ky bs bt h0 n0 Z0 hn hn' hne f4 g4) hZ (hw _ (List.mem_of_getElem? (i := 62) rfl)) (hw _ (List.mem_of_getElem? (i := 61) rfl)) (by decide) (by decide)) (g := (mkF m 44 #[.val (.ref a1), .val (.ref a2), .val (.ref a2)] [(.ref b2), (.ref b1)])) rfl (by rw [hml]; rfl) (argsL := [(.ref b1), (.ref b2)]) (rest := []) (lenOf pd_0 rfl) rfl (by show 2 * 0 + _ ≤ _; exact Nat.le_of_eq rfl) (hb hby d2_44) (fun _ _ => ⟨rfl, e7, (by decide : 0 + 0 ≤ _), (by decide : 0 + 0 ≤ _)⟩)
  dsimp only [Pt.U, Pt.locs, Pt.cells, Pt.slots] at X8 l8 y8 z8 st8 hQ8
  subst l8 y8 z8
  obtain ⟨rfl, N8q, h8⟩ := hQ8
  have N8 := Fr.app N0 N8q
  obtain ⟨Lx8, X8, Nx8⟩ : ∃ L, Stand p l e ({ frames := 1, cells := 0, slots := 0, locals := 14 } : Room) s m #[(.ref a1), (.ref a2)] below meth c T8 L 0 0 ∧ Fr n0 L := ⟨_, X8.more (by decide) (by decide), N8⟩
  have pre9 : ∀ tt, Steps p.tables e below (T8.setTop (mkF m 55 #[.val (.ref a1), .val (.ref a2), .val (.ref a2)] [(.int (0 : Int32))])) tt → Steps p.tables e below (s₁.setTop (entryFrame m #[(.ref a1), (.ref a2)] 3)) tt := by
    intro tt kt
    refine pre0 tt ?_
    show Steps p.tables e below (s₁.setTop (mkF m 0 #[.val (.ref a1), .val (.ref a2), .unset] [])) _
    refine XS.aloadN X0.here hx rfl (hb hby d2_0) rfl rfl ?_
    show Steps p.tables e below (s₁.setTop (mkF m 1 #[.val (.ref a1), .val (.ref a2), .unset] [(.ref a1)])) _
    refine XS.aloadN X0.here hx rfl (hb hby d2_1) rfl rfl ?_
    show Steps p.tables e below (s₁.setTop (mkF m 2 #[.val (.ref a1), .val (.ref a2), .unset] [(.ref a2), (.ref a1)])) _
    refine Jvm.RoadKit.acmp (g := (mkF m 2 #[.val (.ref a1), .val (.ref a2), .unset] [(.ref a2), (.ref a1)])) X0 hx rfl rfl rfl (pc0 := 2) (pc' := 7) (same := false) rfl (hb hby d2_2) rfl (decide_eq_false fun q => ha (Value.ref.inj q)) (by decide) (by decide) ?_
    show Steps p.tables e below (s₁.setTop (mkF m 7 #[.val (.ref a1), .val (.ref a2), .unset] [])) _
    refine XS.aloadN X0.here hx rfl (hb hby d2_7) rfl rfl ?_
    show Steps p.tables e below (s₁.setTop (mkF m 8 #[.val (.ref a1), .val (.ref a2), .unset] [(.ref a2)])) _
    refine st1 _ ?_
    show Steps p.tables e below (T1.setTop (mkF m 11 #[.val (.ref a1), .val (.ref a2), .unset] [(.int (1 : Int32))])) _
    refine XS.ifNo X1.here hx rfl (hb hby d2_11) rfl ((if0 _ _).trans (feq (by decide)).1) ?_
    show Steps p.tables e below (T1.setTop (mkF m 14 #[.val (.ref a1), .val (.ref a2), .unset] [])) _
    refine XS.aloadN X1.here hx rfl (hb hby d2_14) rfl rfl ?_
    show Steps p.tables e below (T1.setTop (mkF m 15 #[.val (.ref a1), .val (.ref a2), .unset] [(.ref a2)])) _
    refine st2 _ ?_
    show Steps p.tables e below (T2.setTop (mkF m 18 #[.val (.ref a1), .val (.ref a2), .unset] [(.ref a2)])) _
    refine XS.astoreN X2.here hx rfl (hb hby d2_18) rfl rfl (l' := #[.val (.ref a1), .val (.ref a2), .val (.ref a2)]) rfl ?_
    show Steps p.tables e below (T2.setTop (mkF m 19 #[.val (.ref a1), .val (.ref a2), .val (.ref a2)] [])) _
    refine st3 _ ?_
    show Steps p.tables e below (T3.setTop (mkF m 22 #[.val (.ref a1), .val (.ref a2), .val (.ref a2)] [(.int cz)])) _
    refine XS.ifNo X3.here hx rfl (hb hby d2_22) rfl ((if0 _ _).trans (feq hcz).1) ?_
    show Steps p.tables e below (T3.setTop (mkF m 25 #[.val (.ref a1), .val (.ref a2), .val (.ref a2)] [])) _
    refine XS.aloadN X3.here hx rfl (hb hby d2_25) rfl rfl ?_
    show Steps p.tables e below (T3.setTop (mkF m 26 #[.val (.ref a1), .val (.ref a2), .val (.ref a2)] [(.ref a1)])) _
    refine st4 _ ?_
    show Steps p.tables e below (T4.setTop (mkF m 29 #[.val (.ref a1), .val (.ref a2), .val (.ref a2)] [(.int (0 : Int32))])) _
    refine XS.aloadN X4.here hx rfl (hb hby d2_29) rfl rfl ?_
    show Steps p.tables e below (T4.setTop (mkF m 30 #[.val (.ref a1), .val (.ref a2), .val (.ref a2)] [(.ref a2), (.int (0 : Int32))])) _
    refine st5 _ ?_
    show Steps p.tables e below (T5.setTop (mkF m 33 #[.val (.ref a1), .val (.ref a2), .val (.ref a2)] [(.int (0 : Int32)), (.int (0 : Int32))])) _
    refine XS.icmpNo X5.here hx rfl (hb hby d2_33) rfl (teq rfl).2 ?_
    show Steps p.tables e below (T5.setTop (mkF m 36 #[.val (.ref a1), .val (.ref a2), .val (.ref a2)] [])) _
    refine XS.aloadN X5.here hx rfl (hb hby d2_36) rfl rfl ?_
    show Steps p.tables e below (T5.setTop (mkF m 37 #[.val (.ref a1), .val (.ref a2), .val (.ref a2)] [(.ref a1)])) _
    refine st6 _ ?_
    show Steps p.tables e below (T6.setTop (mkF m 40 #[.val (.ref a1), .val (.ref a2), .val (.ref a2)] [(.ref b1)])) _
    refine XS.aloadN X6.here hx rfl (hb hby d2_40) rfl rfl ?_
    show Steps p.tables e below (T6.setTop (mkF m 41 #[.val (.ref a1), .val (.ref a2), .val (.ref a2)] [(.ref a2), (.ref b1)])) _
    refine st7 _ ?_
    show Steps p.tables e below (T7.setTop (mkF m 44 #[.val (.ref a1), .val (.ref a2), .val (.ref a2)] [(.ref b2), (.ref b1)])) _
    refine st8 _ ?_
    show Steps p.tables e below (T8.setTop (mkF m 47 #[.val (.ref a1), .val (.ref a2), .val (.ref a2)] [(.int (0 : Int32))])) _
    refine XS.ifYes X8.here hx rfl (pc0 := 47) (pc' := 54) rfl (hb hby d2_47) rfl ((if0 _ _).trans (teq rfl).1) (by decide) (by decide) ?_
    show Steps p.tables e below (T8.setTop (mkF m 54 #[.val (.ref a1), .val (.ref a2), .val (.ref a2)] [])) _
    refine XS.iconst X8.here hx rfl (hb hby d2_54) ?_
    exact kt
  obtain ⟨fs, hr, hrun, hended, hW, hsame⟩ := X8.leave (v := some (.int (0 : Int32))) (fun h => by rw [Bd.returns] at h; cases h)
  refine ⟨_, _, pre9 _ ?_, hrun, hended, _, _, rfl, ?_, ⟨_, rfl⟩, hW, hsame.mono (by decide) (by decide)⟩
  · exact retN X8 hx (t := .boolean) Bd.returns (by simp) (hb hby d2_55) hr
  · show QrmQ0 Z a1 b1 a2 b2 bs bt cz h0 n0 _ T8.heap _
    rw [h8]
    exact ⟨rfl, Nx8, rfl⟩
def own_codes : List Int32 := [5, 6, 7, 9, 11, 13, 14, 20, 52, 55, 57, 75, 76, 91]
def own_known (n : Int32) : Int32 := if n ∈ own_codes then 1 else 0
def QK (Z : State) (n1 : Int32) (h0 : Heap) (n0 : Nat) (v : Option Value) (h : Heap) (L : List Loc) : Prop := v = some (.int (own_known n1)) ∧ Fr n0 L ∧ h = h0
theorem ef_rmK (m : MethodId) (x0 : Int32) : entryFrame m #[(.int x0)] 1 = mkF m 0 #[.val (.int x0)] [] := by first | (simp [entryFrame, mkF, argsToLocals, Value.category]; done) | rfl
theorem pn_rmK : plainName "com/example/causeway/causeway/runtime/VbErrorStandardDescriptionPinLaw" = true := by first | (simp [plainName, overriddenIn]; done) | decide +kernel
set_option maxRecDepth 65536 in
set_option maxHeartbeats 40000000 in
theorem rmK (l : Launch) (Z : State) (a0 : Array Value) (hw : ∀ d ∈ tables_1, d.before a0 Z = true) (ws : List Jvm.Cond) (n1 : Int32) (h0 : Heap) (n0 : Nat) (Z0 : n0 ≤ h0.size)  :
    MetFree l (⟨"com/example/causeway/causeway/runtime/VbErrorStandardDescriptionPinLaw", "isKnown", "(I)Z"⟩ : MethodName) (head1 (Jvm.Cond.code (⟨"com/example/causeway/causeway/runtime/VbErrorStandardDescriptionPinLaw", "isKnown", "(I)Z"⟩ : MethodName) method_2_code 1 (some .boolean) :: ws) ({ frames := 0, cells := 0, slots := 0, locals := 0 } : Room)) (fun a U => a = #[(.int n1)] ∧ Z.Warmed39 U.vm ∧ U.heap = h0) (fun _ _ _ _ _ => True) (fun _ U oc U' => ∃ v L, oc = .returned v ∧ QK Z n1 h0 n0 v U'.heap L ∧ FrameEnd U oc U' L ({ frames := 0, cells := 0, slots := 0, locals := 0 } : Room).cells ({ frames := 0, cells := 0, slots := 0, locals := 0 } : Room).slots) := by
  refine MetFree.of_bodySF (plainFor_of_name pn_rmK) hisR ?_
  intro p e s m args below meth c s₁ Bd hml0 hP hK
  obtain ⟨rfl, hZ, hh⟩ := hP
  have hx := Bd.exec
  have hby := Bd.bytes
  have hml : c.maxLocals = 1 := hml0
  have hown : s.vm.findClass "com/example/causeway/causeway/runtime/VbErrorStandardDescriptionPinLaw" = some m.cls := findClass_of_methodNamed Bd.named
  have hnm := (name_of_methodNamed Bd.named Bd.method).1
  have X0 : Stand p l e ({ frames := 0, cells := 0, slots := 0, locals := 0 } : Room) s m #[(.int n1)] below meth c s₁ [] 0 0 := Stand.of_body Bd
  have e0 : s₁.heap = h0 := by rw [← hh, Bd.state]; rfl
  have N0 := Fr.nil n0
  have pre0 : ∀ tt, Steps p.tables e below (s₁.setTop (mkF m 0 #[.val (.int n1)] [])) tt → Steps p.tables e below (s₁.setTop (entryFrame m #[(.int n1)] 1)) tt := fun tt kt => castTop (ef_rmK m n1) kt
  obtain ⟨fs, hr, hrun, hended, hW, hsame⟩ := X0.leave (v := some (.int (own_known n1))) (fun h => by rw [Bd.returns] at h; cases h)
  refine ⟨_, _, pre0 _ ?_, hrun, hended, _, _, rfl, ?_, ⟨_, rfl⟩, hW, hsame.mono (by decide) (by decide)⟩
  · skip
    have end1 : n1 ∈ own_codes → Steps p.tables e below (s₁.setTop (mkF m 83 #[.val (.int n1)] [])) (s₁.setFrames fs) := fun q => by
      rw [show own_known n1 = 1 from if_pos q] at hr
      show Steps p.tables e below (s₁.setTop (mkF m 83 #[.val (.int n1)] [])) _
      refine XS.iconst X0.here hx rfl (hb hby d3_83) ?_
      show Steps p.tables e below (s₁.setTop (mkF m 84 #[.val (.int n1)] [(.int (1 : Int32))])) _
      refine XS.goto X0.here hx rfl (pc0 := 84) (pc' := 88) rfl (hb hby d3_84) (by decide) (by decide) ?_
      exact retN X0 hx (t := .boolean) Bd.returns (by simp) (hb hby d3_88) hr
    by_cases q0 : n1 = (5 : Int32)
    · have q := end1 (by rw [q0]; decide)
      show Steps p.tables e below (s₁.setTop (mkF m 0 #[.val (.int n1)] [])) _
      refine XS.iloadN X0.here hx rfl (hb hby d3_0) rfl ?_
      show Steps p.tables e below (s₁.setTop (mkF m 1 #[.val (.int n1)] [(.int n1)])) _
      refine XS.iconst X0.here hx rfl (hb hby d3_1) ?_
      show Steps p.tables e below (s₁.setTop (mkF m 2 #[.val (.int n1)] [(.int (5 : Int32)), (.int n1)])) _
      refine XS.icmpYes X0.here hx rfl (pc0 := 2) (pc' := 83) rfl (hb hby d3_2) rfl (teq q0).1 (by decide) (by decide) ?_
      exact q
    show Steps p.tables e below (s₁.setTop (mkF m 0 #[.val (.int n1)] [])) _
    refine XS.iloadN X0.here hx rfl (hb hby d3_0) rfl ?_
    show Steps p.tables e below (s₁.setTop (mkF m 1 #[.val (.int n1)] [(.int n1)])) _
    refine XS.iconst X0.here hx rfl (hb hby d3_1) ?_
    show Steps p.tables e below (s₁.setTop (mkF m 2 #[.val (.int n1)] [(.int (5 : Int32)), (.int n1)])) _
    refine XS.icmpNo X0.here hx rfl (hb hby d3_2) rfl (feq q0).1 ?_
    by_cases q1 : n1 = (6 : Int32)
    · have q := end1 (by rw [q1]; decide)
      show Steps p.tables e below (s₁.setTop (mkF m 5 #[.val (.int n1)] [])) _
      refine XS.iloadN X0.here hx rfl (hb hby d3_5) rfl ?_
      show Steps p.tables e below (s₁.setTop (mkF m 6 #[.val (.int n1)] [(.int n1)])) _
      refine XS.bipush X0.here hx rfl (hb hby d3_6) ?_
      show Steps p.tables e below (s₁.setTop (mkF m 8 #[.val (.int n1)] [(.int (6 : Int32)), (.int n1)])) _
      refine XS.icmpYes X0.here hx rfl (pc0 := 8) (pc' := 83) rfl (hb hby d3_8) rfl (teq q1).1 (by decide) (by decide) ?_
      exact q
    show Steps p.tables e below (s₁.setTop (mkF m 5 #[.val (.int n1)] [])) _
    refine XS.iloadN X0.here hx rfl (hb hby d3_5) rfl ?_
    show Steps p.tables e below (s₁.setTop (mkF m 6 #[.val (.int n1)] [(.int n1)])) _
    refine XS.bipush X0.here hx rfl (hb hby d3_6) ?_
    show Steps p.tables e below (s₁.setTop (mkF m 8 #[.val (.int n1)] [(.int (6 : Int32)), (.int n1)])) _
    refine XS.icmpNo X0.here hx rfl (hb hby d3_8) rfl (feq q1).1 ?_
    by_cases q2 : n1 = (7 : Int32)
    · have q := end1 (by rw [q2]; decide)
      show Steps p.tables e below (s₁.setTop (mkF m 11 #[.val (.int n1)] [])) _
      refine XS.iloadN X0.here hx rfl (hb hby d3_11) rfl ?_
      show Steps p.tables e below (s₁.setTop (mkF m 12 #[.val (.int n1)] [(.int n1)])) _
      refine XS.bipush X0.here hx rfl (hb hby d3_12) ?_
      show Steps p.tables e below (s₁.setTop (mkF m 14 #[.val (.int n1)] [(.int (7 : Int32)), (.int n1)])) _
      refine XS.icmpYes X0.here hx rfl (pc0 := 14) (pc' := 83) rfl (hb hby d3_14) rfl (teq q2).1 (by decide) (by decide) ?_
      exact q
    show Steps p.tables e below (s₁.setTop (mkF m 11 #[.val (.int n1)] [])) _
    refine XS.iloadN X0.here hx rfl (hb hby d3_11) rfl ?_
    show Steps p.tables e below (s₁.setTop (mkF m 12 #[.val (.int n1)] [(.int n1)])) _
    refine XS.bipush X0.here hx rfl (hb hby d3_12) ?_
    show Steps p.tables e below (s₁.setTop (mkF m 14 #[.val (.int n1)] [(.int (7 : Int32)), (.int n1)])) _
    refine XS.icmpNo X0.here hx rfl (hb hby d3_14) rfl (feq q2).1 ?_
    by_cases q3 : n1 = (9 : Int32)
    · have q := end1 (by rw [q3]; decide)
      show Steps p.tables e below (s₁.setTop (mkF m 17 #[.val (.int n1)] [])) _
      refine XS.iloadN X0.here hx rfl (hb hby d3_17) rfl ?_
      show Steps p.tables e below (s₁.setTop (mkF m 18 #[.val (.int n1)] [(.int n1)])) _
      refine XS.bipush X0.here hx rfl (hb hby d3_18) ?_
      show Steps p.tables e below (s₁.setTop (mkF m 20 #[.val (.int n1)] [(.int (9 : Int32)), (.int n1)])) _
      refine XS.icmpYes X0.here hx rfl (pc0 := 20) (pc' := 83) rfl (hb hby d3_20) rfl (teq q3).1 (by decide) (by decide) ?_
      exact q
    show Steps p.tables e below (s₁.setTop (mkF m 17 #[.val (.int n1)] [])) _
    refine XS.iloadN X0.here hx rfl (hb hby d3_17) rfl ?_
    show Steps p.tables e below (s₁.setTop (mkF m 18 #[.val (.int n1)] [(.int n1)])) _
    refine XS.bipush X0.here hx rfl (hb hby d3_18) ?_
    show Steps p.tables e below (s₁.setTop (mkF m 20 #[.val (.int n1)] [(.int (9 : Int32)), (.int n1)])) _
    refine XS.icmpNo X0.here hx rfl (hb hby d3_20) rfl (feq q3).1 ?_
    by_cases q4 : n1 = (11 : Int32)
    · have q := end1 (by rw [q4]; decide)
      show Steps p.tables e below (s₁.setTop (mkF m 23 #[.val (.int n1)] [])) _
      refine XS.iloadN X0.here hx rfl (hb hby d3_23) rfl ?_
      show Steps p.tables e below (s₁.setTop (mkF m 24 #[.val (.int n1)] [(.int n1)])) _
      refine XS.bipush X0.here hx rfl (hb hby d3_24) ?_
      show Steps p.tables e below (s₁.setTop (mkF m 26 #[.val (.int n1)] [(.int (11 : Int32)), (.int n1)])) _
      refine XS.icmpYes X0.here hx rfl (pc0 := 26) (pc' := 83) rfl (hb hby d3_26) rfl (teq q4).1 (by decide) (by decide) ?_
      exact q
    show Steps p.tables e below (s₁.setTop (mkF m 23 #[.val (.int n1)] [])) _
    refine XS.iloadN X0.here hx rfl (hb hby d3_23) rfl ?_
    show Steps p.tables e below (s₁.setTop (mkF m 24 #[.val (.int n1)] [(.int n1)])) _
    refine XS.bipush X0.here hx rfl (hb hby d3_24) ?_
    show Steps p.tables e below (s₁.setTop (mkF m 26 #[.val (.int n1)] [(.int (11 : Int32)), (.int n1)])) _
    refine XS.icmpNo X0.here hx rfl (hb hby d3_26) rfl (feq q4).1 ?_
    by_cases q5 : n1 = (13 : Int32)
    · have q := end1 (by rw [q5]; decide)
      show Steps p.tables e below (s₁.setTop (mkF m 29 #[.val (.int n1)] [])) _
      refine XS.iloadN X0.here hx rfl (hb hby d3_29) rfl ?_
      show Steps p.tables e below (s₁.setTop (mkF m 30 #[.val (.int n1)] [(.int n1)])) _
      refine XS.bipush X0.here hx rfl (hb hby d3_30) ?_
      show Steps p.tables e below (s₁.setTop (mkF m 32 #[.val (.int n1)] [(.int (13 : Int32)), (.int n1)])) _
      refine XS.icmpYes X0.here hx rfl (pc0 := 32) (pc' := 83) rfl (hb hby d3_32) rfl (teq q5).1 (by decide) (by decide) ?_
      exact q
    show Steps p.tables e below (s₁.setTop (mkF m 29 #[.val (.int n1)] [])) _
    refine XS.iloadN X0.here hx rfl (hb hby d3_29) rfl ?_
    show Steps p.tables e below (s₁.setTop (mkF m 30 #[.val (.int n1)] [(.int n1)])) _
    refine XS.bipush X0.here hx rfl (hb hby d3_30) ?_
    show Steps p.tables e below (s₁.setTop (mkF m 32 #[.val (.int n1)] [(.int (13 : Int32)), (.int n1)])) _
    refine XS.icmpNo X0.here hx rfl (hb hby d3_32) rfl (feq q5).1 ?_
    by_cases q6 : n1 = (14 : Int32)
    · have q := end1 (by rw [q6]; decide)
      show Steps p.tables e below (s₁.setTop (mkF m 35 #[.val (.int n1)] [])) _
      refine XS.iloadN X0.here hx rfl (hb hby d3_35) rfl ?_
      show Steps p.tables e below (s₁.setTop (mkF m 36 #[.val (.int n1)] [(.int n1)])) _
      refine XS.bipush X0.here hx rfl (hb hby d3_36) ?_
      show Steps p.tables e below (s₁.setTop (mkF m 38 #[.val (.int n1)] [(.int (14 : Int32)), (.int n1)])) _
      refine XS.icmpYes X0.here hx rfl (pc0 := 38) (pc' := 83) rfl (hb hby d3_38) rfl (teq q6).1 (by decide) (by decide) ?_
      exact q
    show Steps p.tables e below (s₁.setTop (mkF m 35 #[.val (.int n1)] [])) _
    refine XS.iloadN X0.here hx rfl (hb hby d3_35) rfl ?_
    show Steps p.tables e below (s₁.setTop (mkF m 36 #[.val (.int n1)] [(.int n1)])) _
    refine XS.bipush X0.here hx rfl (hb hby d3_36) ?_
    show Steps p.tables e below (s₁.setTop (mkF m 38 #[.val (.int n1)] [(.int (14 : Int32)), (.int n1)])) _
    refine XS.icmpNo X0.here hx rfl (hb hby d3_38) rfl (feq q6).1 ?_
    by_cases q7 : n1 = (20 : Int32)
    · have q := end1 (by rw [q7]; decide)
      show Steps p.tables e below (s₁.setTop (mkF m 41 #[.val (.int n1)] [])) _
      refine XS.iloadN X0.here hx rfl (hb hby d3_41) rfl ?_
      show Steps p.tables e below (s₁.setTop (mkF m 42 #[.val (.int n1)] [(.int n1)])) _
      refine XS.bipush X0.here hx rfl (hb hby d3_42) ?_
      show Steps p.tables e below (s₁.setTop (mkF m 44 #[.val (.int n1)] [(.int (20 : Int32)), (.int n1)])) _
      refine XS.icmpYes X0.here hx rfl (pc0 := 44) (pc' := 83) rfl (hb hby d3_44) rfl (teq q7).1 (by decide) (by decide) ?_
      exact q
    show Steps p.tables e below (s₁.setTop (mkF m 41 #[.val (.int n1)] [])) _
    refine XS.iloadN X0.here hx rfl (hb hby d3_41) rfl ?_
    show Steps p.tables e below (s₁.setTop (mkF m 42 #[.val (.int n1)] [(.int n1)])) _
    refine XS.bipush X0.here hx rfl (hb hby d3_42) ?_
    show Steps p.tables e below (s₁.setTop (mkF m 44 #[.val (.int n1)] [(.int (20 : Int32)), (.int n1)])) _
    refine XS.icmpNo X0.here hx rfl (hb hby d3_44) rfl (feq q7).1 ?_
    by_cases q8 : n1 = (52 : Int32)
    · have q := end1 (by rw [q8]; decide)
      show Steps p.tables e below (s₁.setTop (mkF m 47 #[.val (.int n1)] [])) _
      refine XS.iloadN X0.here hx rfl (hb hby d3_47) rfl ?_
      show Steps p.tables e below (s₁.setTop (mkF m 48 #[.val (.int n1)] [(.int n1)])) _
      refine XS.bipush X0.here hx rfl (hb hby d3_48) ?_
      show Steps p.tables e below (s₁.setTop (mkF m 50 #[.val (.int n1)] [(.int (52 : Int32)), (.int n1)])) _
      refine XS.icmpYes X0.here hx rfl (pc0 := 50) (pc' := 83) rfl (hb hby d3_50) rfl (teq q8).1 (by decide) (by decide) ?_
      exact q
    show Steps p.tables e below (s₁.setTop (mkF m 47 #[.val (.int n1)] [])) _
    refine XS.iloadN X0.here hx rfl (hb hby d3_47) rfl ?_
    show Steps p.tables e below (s₁.setTop (mkF m 48 #[.val (.int n1)] [(.int n1)])) _
    refine XS.bipush X0.here hx rfl (hb hby d3_48) ?_
    show Steps p.tables e below (s₁.setTop (mkF m 50 #[.val (.int n1)] [(.int (52 : Int32)), (.int n1)])) _
    refine XS.icmpNo X0.here hx rfl (hb hby d3_50) rfl (feq q8).1 ?_
    by_cases q9 : n1 = (55 : Int32)
    · have q := end1 (by rw [q9]; decide)
      show Steps p.tables e below (s₁.setTop (mkF m 53 #[.val (.int n1)] [])) _
      refine XS.iloadN X0.here hx rfl (hb hby d3_53) rfl ?_
      show Steps p.tables e below (s₁.setTop (mkF m 54 #[.val (.int n1)] [(.int n1)])) _
      refine XS.bipush X0.here hx rfl (hb hby d3_54) ?_
      show Steps p.tables e below (s₁.setTop (mkF m 56 #[.val (.int n1)] [(.int (55 : Int32)), (.int n1)])) _
      refine XS.icmpYes X0.here hx rfl (pc0 := 56) (pc' := 83) rfl (hb hby d3_56) rfl (teq q9).1 (by decide) (by decide) ?_
      exact q
    show Steps p.tables e below (s₁.setTop (mkF m 53 #[.val (.int n1)] [])) _
    refine XS.iloadN X0.here hx rfl (hb hby d3_53) rfl ?_
    show Steps p.tables e below (s₁.setTop (mkF m 54 #[.val (.int n1)] [(.int n1)])) _
    refine XS.bipush X0.here hx rfl (hb hby d3_54) ?_
    show Steps p.tables e below (s₁.setTop (mkF m 56 #[.val (.int n1)] [(.int (55 : Int32)), (.int n1)])) _
    refine XS.icmpNo X0.here hx rfl (hb hby d3_56) rfl (feq q9).1 ?_
    by_cases q10 : n1 = (57 : Int32)
    · have q := end1 (by rw [q10]; decide)
      show Steps p.tables e below (s₁.setTop (mkF m 59 #[.val (.int n1)] [])) _
      refine XS.iloadN X0.here hx rfl (hb hby d3_59) rfl ?_
      show Steps p.tables e below (s₁.setTop (mkF m 60 #[.val (.int n1)] [(.int n1)])) _
      refine XS.bipush X0.here hx rfl (hb hby d3_60) ?_
      show Steps p.tables e below (s₁.setTop (mkF m 62 #[.val (.int n1)] [(.int (57 : Int32)), (.int n1)])) _
      refine XS.icmpYes X0.here hx rfl (pc0 := 62) (pc' := 83) rfl (hb hby d3_62) rfl (teq q10).1 (by decide) (by decide) ?_
      exact q
    show Steps p.tables e below (s₁.setTop (mkF m 59 #[.val (.int n1)] [])) _
    refine XS.iloadN X0.here hx rfl (hb hby d3_59) rfl ?_
    show Steps p.tables e below (s₁.setTop (mkF m 60 #[.val (.int n1)] [(.int n1)])) _
    refine XS.bipush X0.here hx rfl (hb hby d3_60) ?_
    show Steps p.tables e below (s₁.setTop (mkF m 62 #[.val (.int n1)] [(.int (57 : Int32)), (.int n1)])) _
    refine XS.icmpNo X0.here hx rfl (hb hby d3_62) rfl (feq q10).1 ?_
    by_cases q11 : n1 = (75 : Int32)
    · have q := end1 (by rw [q11]; decide)
      show Steps p.tables e below (s₁.setTop (mkF m 65 #[.val (.int n1)] [])) _
      refine XS.iloadN X0.here hx rfl (hb hby d3_65) rfl ?_
      show Steps p.tables e below (s₁.setTop (mkF m 66 #[.val (.int n1)] [(.int n1)])) _
      refine XS.bipush X0.here hx rfl (hb hby d3_66) ?_
      show Steps p.tables e below (s₁.setTop (mkF m 68 #[.val (.int n1)] [(.int (75 : Int32)), (.int n1)])) _
      refine XS.icmpYes X0.here hx rfl (pc0 := 68) (pc' := 83) rfl (hb hby d3_68) rfl (teq q11).1 (by decide) (by decide) ?_
      exact q
    show Steps p.tables e below (s₁.setTop (mkF m 65 #[.val (.int n1)] [])) _
    refine XS.iloadN X0.here hx rfl (hb hby d3_65) rfl ?_
    show Steps p.tables e below (s₁.setTop (mkF m 66 #[.val (.int n1)] [(.int n1)])) _
    refine XS.bipush X0.here hx rfl (hb hby d3_66) ?_
    show Steps p.tables e below (s₁.setTop (mkF m 68 #[.val (.int n1)] [(.int (75 : Int32)), (.int n1)])) _
    refine XS.icmpNo X0.here hx rfl (hb hby d3_68) rfl (feq q11).1 ?_
    by_cases q12 : n1 = (76 : Int32)
    · have q := end1 (by rw [q12]; decide)
      show Steps p.tables e below (s₁.setTop (mkF m 71 #[.val (.int n1)] [])) _
      refine XS.iloadN X0.here hx rfl (hb hby d3_71) rfl ?_
      show Steps p.tables e below (s₁.setTop (mkF m 72 #[.val (.int n1)] [(.int n1)])) _
      refine XS.bipush X0.here hx rfl (hb hby d3_72) ?_
      show Steps p.tables e below (s₁.setTop (mkF m 74 #[.val (.int n1)] [(.int (76 : Int32)), (.int n1)])) _
      refine XS.icmpYes X0.here hx rfl (pc0 := 74) (pc' := 83) rfl (hb hby d3_74) rfl (teq q12).1 (by decide) (by decide) ?_
      exact q
    show Steps p.tables e below (s₁.setTop (mkF m 71 #[.val (.int n1)] [])) _
    refine XS.iloadN X0.here hx rfl (hb hby d3_71) rfl ?_
    show Steps p.tables e below (s₁.setTop (mkF m 72 #[.val (.int n1)] [(.int n1)])) _
    refine XS.bipush X0.here hx rfl (hb hby d3_72) ?_
    show Steps p.tables e below (s₁.setTop (mkF m 74 #[.val (.int n1)] [(.int (76 : Int32)), (.int n1)])) _
    refine XS.icmpNo X0.here hx rfl (hb hby d3_74) rfl (feq q12).1 ?_
    by_cases q13 : n1 = (91 : Int32)
    · have q := end1 (by rw [q13]; decide)
      show Steps p.tables e below (s₁.setTop (mkF m 77 #[.val (.int n1)] [])) _
      refine XS.iloadN X0.here hx rfl (hb hby d3_77) rfl ?_
      show Steps p.tables e below (s₁.setTop (mkF m 78 #[.val (.int n1)] [(.int n1)])) _
      refine XS.bipush X0.here hx rfl (hb hby d3_78) ?_
      show Steps p.tables e below (s₁.setTop (mkF m 80 #[.val (.int n1)] [(.int (91 : Int32)), (.int n1)])) _
      refine XS.icmpNo X0.here hx rfl (hb hby d3_80) rfl (teq q13).2 ?_
      exact q
    show Steps p.tables e below (s₁.setTop (mkF m 77 #[.val (.int n1)] [])) _
    refine XS.iloadN X0.here hx rfl (hb hby d3_77) rfl ?_
    show Steps p.tables e below (s₁.setTop (mkF m 78 #[.val (.int n1)] [(.int n1)])) _
    refine XS.bipush X0.here hx rfl (hb hby d3_78) ?_
    show Steps p.tables e below (s₁.setTop (mkF m 80 #[.val (.int n1)] [(.int (91 : Int32)), (.int n1)])) _
    refine XS.icmpYes X0.here hx rfl (pc0 := 80) (pc' := 87) rfl (hb hby d3_80) rfl (feq q13).2 (by decide) (by decide) ?_
    show Steps p.tables e below (s₁.setTop (mkF m 87 #[.val (.int n1)] [])) _
    refine XS.iconst X0.here hx rfl (hb hby d3_87) ?_
    have hno : n1 ∉ own_codes := by simp only [own_codes, List.mem_cons, List.not_mem_nil, or_false, not_or]; exact ⟨q0, q1, q2, q3, q4, q5, q6, q7, q8, q9, q10, q11, q12, q13⟩
    rw [show own_known n1 = 0 from if_neg hno] at hr
    exact retN X0 hx (t := .boolean) Bd.returns (by simp) (hb hby d3_88) hr
  · show QK Z n1 h0 n0 _ s₁.heap _
    rw [e0]
    exact ⟨rfl, N0, rfl⟩
def own_desc (n : Int32) : List Int32 := if n = 5 then own_bs (own_txt 38) else if n = 6 then own_bs (own_txt 36) else if n = 7 then own_bs (own_txt 45) else if n = 9 then own_bs (own_txt 30) else if n = 11 then own_bs (own_txt 44) else if n = 13 then own_bs (own_txt 42) else if n = 14 then own_bs (own_txt 43) else if n = 20 then own_bs (own_txt 41) else if n = 52 then own_bs (own_txt 54) else if n = 55 then own_bs (own_txt 53) else if n = 57 then own_bs (own_txt 40) else if n = 75 then own_bs (own_txt 37) else if n = 76 then own_bs (own_txt 52) else if n = 91 then own_bs (own_txt 39) else own_bs (own_txt 46)
def QS (Z : State) (n1 : Int32) (h0 : Heap) (n0 : Nat) (v : Option Value) (h : Heap) (L : List Loc) : Prop := ∃ (a b : Addr), v = some (.ref a) ∧ Fr n0 L ∧ Ext h0 h ∧ StrB Z h a b (own_desc n1)
theorem ef_rmS (m : MethodId) (x0 : Int32) : entryFrame m #[(.int x0)] 1 = mkF m 0 #[.val (.int x0)] [] := by first | (simp [entryFrame, mkF, argsToLocals, Value.category]; done) | rfl
theorem pn_rmS : plainName "com/example/causeway/causeway/runtime/VbError" = true := by first | (simp [plainName, overriddenIn]; done) | decide +kernel
set_option maxRecDepth 65536 in
set_option maxHeartbeats 40000000 in
theorem rmS (l : Launch) (Z : State) (a0 : Array Value) (hw : ∀ d ∈ tables_1, d.before a0 Z = true) (ws : List Jvm.Cond) (n1 : Int32) (h0 : Heap) (n0 : Nat) (Z0 : n0 ≤ h0.size)  :
    MetFree l (⟨"com/example/causeway/causeway/runtime/VbError", "standardDescription", "(I)Ljava/lang/String;"⟩ : MethodName) (head1 (Jvm.Cond.code (⟨"com/example/causeway/causeway/runtime/VbError", "standardDescription", "(I)Ljava/lang/String;"⟩ : MethodName) prog_28_method_7_code 1 (some (.object "java/lang/String")) :: ws) ({ frames := 0, cells := 2, slots := 188, locals := 0 } : Room)) (fun a U => a = #[(.int n1)] ∧ Z.Warmed39 U.vm ∧ U.heap = h0 ∧ CHv Z consts_1 U.vm h0) (fun _ _ _ _ _ => True) (fun _ U oc U' => ∃ v L, oc = .returned v ∧ QS Z n1 h0 n0 v U'.heap L ∧ CHr Z consts_1 U.vm U.heap U'.vm U'.heap ∧ ReturnedEndW U oc U' L ({ frames := 0, cells := 2, slots := 188, locals := 0 } : Room).cells ({ frames := 0, cells := 2, slots := 188, locals := 0 } : Room).slots) := by
  refine MetFree.of_bodySF (plainFor_of_name pn_rmS) hisR ?_
  intro p e s m args below meth c s₁ Bd hml0 hP hK
  obtain ⟨rfl, hZ, hh, hC⟩ := hP
  have hx := Bd.exec
  have hby := Bd.bytes
  have hml : c.maxLocals = 1 := hml0
  have hown : s.vm.findClass "com/example/causeway/causeway/runtime/VbError" = some m.cls := findClass_of_methodNamed Bd.named
  have hnm := (name_of_methodNamed Bd.named Bd.method).1
  have X0 : Stand p l e ({ frames := 0, cells := 2, slots := 188, locals := 0 } : Room) (s.setVm s.vm) m #[(.int n1)] below meth c s₁ [] 0 0 := Stand.of_body Bd
  have e0 : s₁.heap = h0 := by rw [← hh, Bd.state]; rfl
  have N0 := Fr.nil n0
  have pre0 : ∀ tt, Steps p.tables e below (s₁.setTop (mkF m 0 #[.val (.int n1)] [])) tt → Steps p.tables e below (s₁.setTop (entryFrame m #[(.int n1)] 1)) tt := fun tt kt => castTop (ef_rmS m n1) kt
  have hS0 : s.Since s.vm h0.size := (State.WarmedH.refl s).since _
  have pre1 : ∀ tt, Steps p.tables e below (s₁.setTop (mkF m 1 #[.val (.int n1)] [(.int n1)])) tt → Steps p.tables e below (s₁.setTop (entryFrame m #[(.int n1)] 1)) tt := by
    intro tt kt
    refine pre0 tt ?_
    show Steps p.tables e below (s₁.setTop (mkF m 0 #[.val (.int n1)] [])) _
    refine XS.iloadN X0.here hx rfl (hb hby d1_0) rfl ?_
    exact kt
  by_cases q0 : n1 = (5 : Int32)
  · have hv : own_desc n1 = own_bs (own_txt 38) := by unfold own_desc; rw [if_pos q0]
    have hfd : (#[(5, 123), (6, 126), (7, 129), (9, 132), (11, 135), (13, 138), (14, 141), (20, 144), (52, 147), (55, 150), (57, 153), (75, 156), (76, 159), (91, 162)] : Array (Int × Int)).find? (·.1 == n1.toInt) = some (5, 123) := by rw [q0]; decide
    have prer0_2 : ∀ tt, Steps p.tables e below (s₁.setTop (mkF m 124 #[.val (.int n1)] [])) tt → Steps p.tables e below (s₁.setTop (entryFrame m #[(.int n1)] 1)) tt := by
      intro tt kt
      refine pre1 tt ?_
      show Steps p.tables e below (s₁.setTop (mkF m 1 #[.val (.int n1)] [(.int n1)])) _
      refine X0.lookupswitchHit hx (g := (mkF m 1 #[.val (.int n1)] [(.int n1)])) rfl rfl (hb hby d1_1) (by decide) hfd (show (0 : Int) ≤ ((1 : Nat) : Int) + 123 by decide) _ ?_
      exact kt
    obtain ⟨ar0_3, Tr0_3, hr0_3, kkr0_3, br0_3, kr0_3, Xr0_3, er0_3, Er0_3, hSr0_3, hkr0_3, hZ, hown, Ar0_3, Cr0_3, Fr0_3, Vr0_3, lar0_3, lbr0_3, CRr0_3, -, Sr0_3, str0_3⟩ := ldcCH (text := (own_txt 38)) X0 hx hZ hown (hw _ (List.mem_of_getElem? (i := 38) rfl)) (own_wS hw) e0 hS0 (Nat.le_refl h0.size) (own_EW hw) (by decide +kernel) hC (vs := (own_bs (own_txt 38)).map Value.int) (z := Int32.ofNat (own_bs (own_txt 38)).length) ⟨by decide +kernel, own_map _⟩ (by decide +kernel) (by decide +kernel) (g := (mkF m 124 #[.val (.int n1)] [])) rfl (hb hby d1_124) (n := 136) (by decide +kernel) (by decide) (by decide) (by decide)
    have Br0_3 : StrB Z hr0_3 ar0_3 br0_3 (own_bs (own_txt 38)) := ⟨Ar0_3, Cr0_3, Fr0_3, kr0_3, Vr0_3⟩
    have prer0_4 : ∀ tt, Steps p.tables e below (Tr0_3.setTop (mkF m 126 #[.val (.int n1)] [(.ref ar0_3)])) tt → Steps p.tables e below (s₁.setTop (entryFrame m #[(.int n1)] 1)) tt := by
      intro tt kt
      refine prer0_2 tt ?_
      show Steps p.tables e below (s₁.setTop (mkF m 124 #[.val (.int n1)] [])) _
      refine str0_3 _ ?_
      exact kt
    replace Xr0_3 := Xr0_3.more (cells' := 2) (slots' := 188) (by decide) (by decide)
    obtain ⟨fs, hr, hrun, hended, hRW⟩ := Xr0_3.leaveW hSr0_3 (by rw [er0_3]; exact hkr0_3) (v := some (.ref ar0_3)) (fun h => by rw [Bd.returns] at h; cases h)
    refine ⟨_, _, prer0_4 _ ?_, hrun, hended, _, _, rfl, ?_, ?_, hRW⟩
    · exact retOut Xr0_3 hx Bd.returns rfl (Or.inr (Or.inr (Or.inr (Or.inr ⟨rfl, rfl, rfl⟩)))) (hb hby d1_126) hr
    · show QS Z n1 h0 n0 _ Tr0_3.heap _
      rw [er0_3]
      exact ⟨ar0_3, br0_3, rfl, N0, Er0_3, by rw [hv]; exact Br0_3⟩
    · show CHr Z consts_1 s.vm s.heap Tr0_3.vm Tr0_3.heap
      rw [hh, er0_3]
      exact CRr0_3
  by_cases q1 : n1 = (6 : Int32)
  · have hv : own_desc n1 = own_bs (own_txt 36) := by unfold own_desc; rw [if_neg q0, if_pos q1]
    have hfd : (#[(5, 123), (6, 126), (7, 129), (9, 132), (11, 135), (13, 138), (14, 141), (20, 144), (52, 147), (55, 150), (57, 153), (75, 156), (76, 159), (91, 162)] : Array (Int × Int)).find? (·.1 == n1.toInt) = some (6, 126) := by rw [q1]; decide
    have prer1_2 : ∀ tt, Steps p.tables e below (s₁.setTop (mkF m 127 #[.val (.int n1)] [])) tt → Steps p.tables e below (s₁.setTop (entryFrame m #[(.int n1)] 1)) tt := by
      intro tt kt
      refine pre1 tt ?_
      show Steps p.tables e below (s₁.setTop (mkF m 1 #[.val (.int n1)] [(.int n1)])) _
      refine X0.lookupswitchHit hx (g := (mkF m 1 #[.val (.int n1)] [(.int n1)])) rfl rfl (hb hby d1_1) (by decide) hfd (show (0 : Int) ≤ ((1 : Nat) : Int) + 126 by decide) _ ?_
      exact kt
    obtain ⟨ar1_3, Tr1_3, hr1_3, kkr1_3, br1_3, kr1_3, Xr1_3, er1_3, Er1_3, hSr1_3, hkr1_3, hZ, hown, Ar1_3, Cr1_3, Fr1_3, Vr1_3, lar1_3, lbr1_3, CRr1_3, -, Sr1_3, str1_3⟩ := ldcCH (text := (own_txt 36)) X0 hx hZ hown (hw _ (List.mem_of_getElem? (i := 36) rfl)) (own_wS hw) e0 hS0 (Nat.le_refl h0.size) (own_EW hw) (by decide +kernel) hC (vs := (own_bs (own_txt 36)).map Value.int) (z := Int32.ofNat (own_bs (own_txt 36)).length) ⟨by decide +kernel, own_map _⟩ (by decide +kernel) (by decide +kernel) (g := (mkF m 127 #[.val (.int n1)] [])) rfl (hb hby d1_127) (n := 32) (by decide +kernel) (by decide) (by decide) (by decide)
    have Br1_3 : StrB Z hr1_3 ar1_3 br1_3 (own_bs (own_txt 36)) := ⟨Ar1_3, Cr1_3, Fr1_3, kr1_3, Vr1_3⟩
    have prer1_4 : ∀ tt, Steps p.tables e below (Tr1_3.setTop (mkF m 129 #[.val (.int n1)] [(.ref ar1_3)])) tt → Steps p.tables e below (s₁.setTop (entryFrame m #[(.int n1)] 1)) tt := by
      intro tt kt
      refine prer1_2 tt ?_
      show Steps p.tables e below (s₁.setTop (mkF m 127 #[.val (.int n1)] [])) _
      refine str1_3 _ ?_
      exact kt
    replace Xr1_3 := Xr1_3.more (cells' := 2) (slots' := 188) (by decide) (by decide)
    obtain ⟨fs, hr, hrun, hended, hRW⟩ := Xr1_3.leaveW hSr1_3 (by rw [er1_3]; exact hkr1_3) (v := some (.ref ar1_3)) (fun h => by rw [Bd.returns] at h; cases h)
    refine ⟨_, _, prer1_4 _ ?_, hrun, hended, _, _, rfl, ?_, ?_, hRW⟩
    · exact retOut Xr1_3 hx Bd.returns rfl (Or.inr (Or.inr (Or.inr (Or.inr ⟨rfl, rfl, rfl⟩)))) (hb hby d1_129) hr
    · show QS Z n1 h0 n0 _ Tr1_3.heap _
      rw [er1_3]
      exact ⟨ar1_3, br1_3, rfl, N0, Er1_3, by rw [hv]; exact Br1_3⟩
    · show CHr Z consts_1 s.vm s.heap Tr1_3.vm Tr1_3.heap
      rw [hh, er1_3]
      exact CRr1_3
  by_cases q2 : n1 = (7 : Int32)
  · have hv : own_desc n1 = own_bs (own_txt 45) := by unfold own_desc; rw [if_neg q0, if_neg q1, if_pos q2]
    have hfd : (#[(5, 123), (6, 126), (7, 129), (9, 132), (11, 135), (13, 138), (14, 141), (20, 144), (52, 147), (55, 150), (57, 153), (75, 156), (76, 159), (91, 162)] : Array (Int × Int)).find? (·.1 == n1.toInt) = some (7, 129) := by rw [q2]; decide
    have prer2_2 : ∀ tt, Steps p.tables e below (s₁.setTop (mkF m 130 #[.val (.int n1)] [])) tt → Steps p.tables e below (s₁.setTop (entryFrame m #[(.int n1)] 1)) tt := by
      intro tt kt
      refine pre1 tt ?_
      show Steps p.tables e below (s₁.setTop (mkF m 1 #[.val (.int n1)] [(.int n1)])) _
      refine X0.lookupswitchHit hx (g := (mkF m 1 #[.val (.int n1)] [(.int n1)])) rfl rfl (hb hby d1_1) (by decide) hfd (show (0 : Int) ≤ ((1 : Nat) : Int) + 129 by decide) _ ?_
      exact kt
    obtain ⟨ar2_3, Tr2_3, hr2_3, kkr2_3, br2_3, kr2_3, Xr2_3, er2_3, Er2_3, hSr2_3, hkr2_3, hZ, hown, Ar2_3, Cr2_3, Fr2_3, Vr2_3, lar2_3, lbr2_3, CRr2_3, -, Sr2_3, str2_3⟩ := ldcCH (text := (own_txt 45)) X0 hx hZ hown (hw _ (List.mem_of_getElem? (i := 45) rfl)) (own_wS hw) e0 hS0 (Nat.le_refl h0.size) (own_EW hw) (by decide +kernel) hC (vs := (own_bs (own_txt 45)).map Value.int) (z := Int32.ofNat (own_bs (own_txt 45)).length) ⟨by decide +kernel, own_map _⟩ (by decide +kernel) (by decide +kernel) (g := (mkF m 130 #[.val (.int n1)] [])) rfl (hb hby d1_130) (n := 52) (by decide +kernel) (by decide) (by decide) (by decide)
    have Br2_3 : StrB Z hr2_3 ar2_3 br2_3 (own_bs (own_txt 45)) := ⟨Ar2_3, Cr2_3, Fr2_3, kr2_3, Vr2_3⟩
    have prer2_4 : ∀ tt, Steps p.tables e below (Tr2_3.setTop (mkF m 132 #[.val (.int n1)] [(.ref ar2_3)])) tt → Steps p.tables e below (s₁.setTop (entryFrame m #[(.int n1)] 1)) tt := by
      intro tt kt
      refine prer2_2 tt ?_
      show Steps p.tables e below (s₁.setTop (mkF m 130 #[.val (.int n1)] [])) _
      refine str2_3 _ ?_
      exact kt
    replace Xr2_3 := Xr2_3.more (cells' := 2) (slots' := 188) (by decide) (by decide)
    obtain ⟨fs, hr, hrun, hended, hRW⟩ := Xr2_3.leaveW hSr2_3 (by rw [er2_3]; exact hkr2_3) (v := some (.ref ar2_3)) (fun h => by rw [Bd.returns] at h; cases h)
    refine ⟨_, _, prer2_4 _ ?_, hrun, hended, _, _, rfl, ?_, ?_, hRW⟩
    · exact retOut Xr2_3 hx Bd.returns rfl (Or.inr (Or.inr (Or.inr (Or.inr ⟨rfl, rfl, rfl⟩)))) (hb hby d1_132) hr
    · show QS Z n1 h0 n0 _ Tr2_3.heap _
      rw [er2_3]
      exact ⟨ar2_3, br2_3, rfl, N0, Er2_3, by rw [hv]; exact Br2_3⟩
    · show CHr Z consts_1 s.vm s.heap Tr2_3.vm Tr2_3.heap
      rw [hh, er2_3]
      exact CRr2_3
  by_cases q3 : n1 = (9 : Int32)
  · have hv : own_desc n1 = own_bs (own_txt 30) := by unfold own_desc; rw [if_neg q0, if_neg q1, if_neg q2, if_pos q3]
    have hfd : (#[(5, 123), (6, 126), (7, 129), (9, 132), (11, 135), (13, 138), (14, 141), (20, 144), (52, 147), (55, 150), (57, 153), (75, 156), (76, 159), (91, 162)] : Array (Int × Int)).find? (·.1 == n1.toInt) = some (9, 132) := by rw [q3]; decide
    have prer3_2 : ∀ tt, Steps p.tables e below (s₁.setTop (mkF m 133 #[.val (.int n1)] [])) tt → Steps p.tables e below (s₁.setTop (entryFrame m #[(.int n1)] 1)) tt := by
      intro tt kt
      refine pre1 tt ?_
      show Steps p.tables e below (s₁.setTop (mkF m 1 #[.val (.int n1)] [(.int n1)])) _
      refine X0.lookupswitchHit hx (g := (mkF m 1 #[.val (.int n1)] [(.int n1)])) rfl rfl (hb hby d1_1) (by decide) hfd (show (0 : Int) ≤ ((1 : Nat) : Int) + 132 by decide) _ ?_
      exact kt
    obtain ⟨ar3_3, Tr3_3, hr3_3, kkr3_3, br3_3, kr3_3, Xr3_3, er3_3, Er3_3, hSr3_3, hkr3_3, hZ, hown, Ar3_3, Cr3_3, Fr3_3, Vr3_3, lar3_3, lbr3_3, CRr3_3, -, Sr3_3, str3_3⟩ := ldcCH (text := (own_txt 30)) X0 hx hZ hown (hw _ (List.mem_of_getElem? (i := 30) rfl)) (own_wS hw) e0 hS0 (Nat.le_refl h0.size) (own_EW hw) (by decide +kernel) hC (vs := (own_bs (own_txt 30)).map Value.int) (z := Int32.ofNat (own_bs (own_txt 30)).length) ⟨by decide +kernel, own_map _⟩ (by decide +kernel) (by decide +kernel) (g := (mkF m 133 #[.val (.int n1)] [])) rfl (hb hby d1_133) (n := 88) (by decide +kernel) (by decide) (by decide) (by decide)
    have Br3_3 : StrB Z hr3_3 ar3_3 br3_3 (own_bs (own_txt 30)) := ⟨Ar3_3, Cr3_3, Fr3_3, kr3_3, Vr3_3⟩
    have prer3_4 : ∀ tt, Steps p.tables e below (Tr3_3.setTop (mkF m 135 #[.val (.int n1)] [(.ref ar3_3)])) tt → Steps p.tables e below (s₁.setTop (entryFrame m #[(.int n1)] 1)) tt := by
      intro tt kt
      refine prer3_2 tt ?_
      show Steps p.tables e below (s₁.setTop (mkF m 133 #[.val (.int n1)] [])) _
      refine str3_3 _ ?_
      exact kt
    replace Xr3_3 := Xr3_3.more (cells' := 2) (slots' := 188) (by decide) (by decide)
    obtain ⟨fs, hr, hrun, hended, hRW⟩ := Xr3_3.leaveW hSr3_3 (by rw [er3_3]; exact hkr3_3) (v := some (.ref ar3_3)) (fun h => by rw [Bd.returns] at h; cases h)
    refine ⟨_, _, prer3_4 _ ?_, hrun, hended, _, _, rfl, ?_, ?_, hRW⟩
    · exact retOut Xr3_3 hx Bd.returns rfl (Or.inr (Or.inr (Or.inr (Or.inr ⟨rfl, rfl, rfl⟩)))) (hb hby d1_135) hr
    · show QS Z n1 h0 n0 _ Tr3_3.heap _
      rw [er3_3]
      exact ⟨ar3_3, br3_3, rfl, N0, Er3_3, by rw [hv]; exact Br3_3⟩
    · show CHr Z consts_1 s.vm s.heap Tr3_3.vm Tr3_3.heap
      rw [hh, er3_3]
      exact CRr3_3
  by_cases q4 : n1 = (11 : Int32)
  · have hv : own_desc n1 = own_bs (own_txt 44) := by unfold own_desc; rw [if_neg q0, if_neg q1, if_neg q2, if_neg q3, if_pos q4]
    have hfd : (#[(5, 123), (6, 126), (7, 129), (9, 132), (11, 135), (13, 138), (14, 141), (20, 144), (52, 147), (55, 150), (57, 153), (75, 156), (76, 159), (91, 162)] : Array (Int × Int)).find? (·.1 == n1.toInt) = some (11, 135) := by rw [q4]; decide
    have prer4_2 : ∀ tt, Steps p.tables e below (s₁.setTop (mkF m 136 #[.val (.int n1)] [])) tt → Steps p.tables e below (s₁.setTop (entryFrame m #[(.int n1)] 1)) tt := by
      intro tt kt
      refine pre1 tt ?_
      show Steps p.tables e below (s₁.setTop (mkF m 1 #[.val (.int n1)] [(.int n1)])) _
      refine X0.lookupswitchHit hx (g := (mkF m 1 #[.val (.int n1)] [(.int n1)])) rfl rfl (hb hby d1_1) (by decide) hfd (show (0 : Int) ≤ ((1 : Nat) : Int) + 135 by decide) _ ?_
      exact kt
    obtain ⟨ar4_3, Tr4_3, hr4_3, kkr4_3, br4_3, kr4_3, Xr4_3, er4_3, Er4_3, hSr4_3, hkr4_3, hZ, hown, Ar4_3, Cr4_3, Fr4_3, Vr4_3, lar4_3, lbr4_3, CRr4_3, -, Sr4_3, str4_3⟩ := ldcCH (text := (own_txt 44)) X0 hx hZ hown (hw _ (List.mem_of_getElem? (i := 44) rfl)) (own_wS hw) e0 hS0 (Nat.le_refl h0.size) (own_EW hw) (by decide +kernel) hC (vs := (own_bs (own_txt 44)).map Value.int) (z := Int32.ofNat (own_bs (own_txt 44)).length) ⟨by decide +kernel, own_map _⟩ (by decide +kernel) (by decide +kernel) (g := (mkF m 136 #[.val (.int n1)] [])) rfl (hb hby d1_136) (n := 64) (by decide +kernel) (by decide) (by decide) (by decide)
    have Br4_3 : StrB Z hr4_3 ar4_3 br4_3 (own_bs (own_txt 44)) := ⟨Ar4_3, Cr4_3, Fr4_3, kr4_3, Vr4_3⟩
    have prer4_4 : ∀ tt, Steps p.tables e below (Tr4_3.setTop (mkF m 138 #[.val (.int n1)] [(.ref ar4_3)])) tt → Steps p.tables e below (s₁.setTop (entryFrame m #[(.int n1)] 1)) tt := by
      intro tt kt
      refine prer4_2 tt ?_
      show Steps p.tables e below (s₁.setTop (mkF m 136 #[.val (.int n1)] [])) _
      refine str4_3 _ ?_
      exact kt
    replace Xr4_3 := Xr4_3.more (cells' := 2) (slots' := 188) (by decide) (by decide)
    obtain ⟨fs, hr, hrun, hended, hRW⟩ := Xr4_3.leaveW hSr4_3 (by rw [er4_3]; exact hkr4_3) (v := some (.ref ar4_3)) (fun h => by rw [Bd.returns] at h; cases h)
    refine ⟨_, _, prer4_4 _ ?_, hrun, hended, _, _, rfl, ?_, ?_, hRW⟩
    · exact retOut Xr4_3 hx Bd.returns rfl (Or.inr (Or.inr (Or.inr (Or.inr ⟨rfl, rfl, rfl⟩)))) (hb hby d1_138) hr
    · show QS Z n1 h0 n0 _ Tr4_3.heap _
      rw [er4_3]
      exact ⟨ar4_3, br4_3, rfl, N0, Er4_3, by rw [hv]; exact Br4_3⟩
    · show CHr Z consts_1 s.vm s.heap Tr4_3.vm Tr4_3.heap
      rw [hh, er4_3]
      exact CRr4_3
  by_cases q5 : n1 = (13 : Int32)
  · have hv : own_desc n1 = own_bs (own_txt 42) := by unfold own_desc; rw [if_neg q0, if_neg q1, if_neg q2, if_neg q3, if_neg q4, if_pos q5]
    have hfd : (#[(5, 123), (6, 126), (7, 129), (9, 132), (11, 135), (13, 138), (14, 141), (20, 144), (52, 147), (55, 150), (57, 153), (75, 156), (76, 159), (91, 162)] : Array (Int × Int)).find? (·.1 == n1.toInt) = some (13, 138) := by rw [q5]; decide
    have prer5_2 : ∀ tt, Steps p.tables e below (s₁.setTop (mkF m 139 #[.val (.int n1)] [])) tt → Steps p.tables e below (s₁.setTop (entryFrame m #[(.int n1)] 1)) tt := by
      intro tt kt
      refine pre1 tt ?_
      show Steps p.tables e below (s₁.setTop (mkF m 1 #[.val (.int n1)] [(.int n1)])) _
      refine X0.lookupswitchHit hx (g := (mkF m 1 #[.val (.int n1)] [(.int n1)])) rfl rfl (hb hby d1_1) (by decide) hfd (show (0 : Int) ≤ ((1 : Nat) : Int) + 138 by decide) _ ?_
      exact kt
    obtain ⟨ar5_3, Tr5_3, hr5_3, kkr5_3, br5_3, kr5_3, Xr5_3, er5_3, Er5_3, hSr5_3, hkr5_3, hZ, hown, Ar5_3, Cr5_3, Fr5_3, Vr5_3, lar5_3, lbr5_3, CRr5_3, -, Sr5_3, str5_3⟩ := ldcCH (text := (own_txt 42)) X0 hx hZ hown (hw _ (List.mem_of_getElem? (i := 42) rfl)) (own_wS hw) e0 hS0 (Nat.le_refl h0.size) (own_EW hw) (by decide +kernel) hC (vs := (own_bs (own_txt 42)).map Value.int) (z := Int32.ofNat (own_bs (own_txt 42)).length) ⟨by decide +kernel, own_map _⟩ (by decide +kernel) (by decide +kernel) (g := (mkF m 139 #[.val (.int n1)] [])) rfl (hb hby d1_139) (n := 52) (by decide +kernel) (by decide) (by decide) (by decide)
    have Br5_3 : StrB Z hr5_3 ar5_3 br5_3 (own_bs (own_txt 42)) := ⟨Ar5_3, Cr5_3, Fr5_3, kr5_3, Vr5_3⟩
    have prer5_4 : ∀ tt, Steps p.tables e below (Tr5_3.setTop (mkF m 141 #[.val (.int n1)] [(.ref ar5_3)])) tt → Steps p.tables e below (s₁.setTop (entryFrame m #[(.int n1)] 1)) tt := by
      intro tt kt
      refine prer5_2 tt ?_
      show Steps p.tables e below (s₁.setTop (mkF m 139 #[.val (.int n1)] [])) _
      refine str5_3 _ ?_
      exact kt
    replace Xr5_3 := Xr5_3.more (cells' := 2) (slots' := 188) (by decide) (by decide)
    obtain ⟨fs, hr, hrun, hended, hRW⟩ := Xr5_3.leaveW hSr5_3 (by rw [er5_3]; exact hkr5_3) (v := some (.ref ar5_3)) (fun h => by rw [Bd.returns] at h; cases h)
    refine ⟨_, _, prer5_4 _ ?_, hrun, hended, _, _, rfl, ?_, ?_, hRW⟩
    · exact retOut Xr5_3 hx Bd.returns rfl (Or.inr (Or.inr (Or.inr (Or.inr ⟨rfl, rfl, rfl⟩)))) (hb hby d1_141) hr
    · show QS Z n1 h0 n0 _ Tr5_3.heap _
      rw [er5_3]
      exact ⟨ar5_3, br5_3, rfl, N0, Er5_3, by rw [hv]; exact Br5_3⟩
    · show CHr Z consts_1 s.vm s.heap Tr5_3.vm Tr5_3.heap
      rw [hh, er5_3]
      exact CRr5_3
  by_cases q6 : n1 = (14 : Int32)
  · have hv : own_desc n1 = own_bs (own_txt 43) := by unfold own_desc; rw [if_neg q0, if_neg q1, if_neg q2, if_neg q3, if_neg q4, if_neg q5, if_pos q6]
    have hfd : (#[(5, 123), (6, 126), (7, 129), (9, 132), (11, 135), (13, 138), (14, 141), (20, 144), (52, 147), (55, 150), (57, 153), (75, 156), (76, 159), (91, 162)] : Array (Int × Int)).find? (·.1 == n1.toInt) = some (14, 141) := by rw [q6]; decide
    have prer6_2 : ∀ tt, Steps p.tables e below (s₁.setTop (mkF m 142 #[.val (.int n1)] [])) tt → Steps p.tables e below (s₁.setTop (entryFrame m #[(.int n1)] 1)) tt := by
      intro tt kt
      refine pre1 tt ?_
      show Steps p.tables e below (s₁.setTop (mkF m 1 #[.val (.int n1)] [(.int n1)])) _
      refine X0.lookupswitchHit hx (g := (mkF m 1 #[.val (.int n1)] [(.int n1)])) rfl rfl (hb hby d1_1) (by decide) hfd (show (0 : Int) ≤ ((1 : Nat) : Int) + 141 by decide) _ ?_
      exact kt
    obtain ⟨ar6_3, Tr6_3, hr6_3, kkr6_3, br6_3, kr6_3, Xr6_3, er6_3, Er6_3, hSr6_3, hkr6_3, hZ, hown, Ar6_3, Cr6_3, Fr6_3, Vr6_3, lar6_3, lbr6_3, CRr6_3, -, Sr6_3, str6_3⟩ := ldcCH (text := (own_txt 43)) X0 hx hZ hown (hw _ (List.mem_of_getElem? (i := 43) rfl)) (own_wS hw) e0 hS0 (Nat.le_refl h0.size) (own_EW hw) (by decide +kernel) hC (vs := (own_bs (own_txt 43)).map Value.int) (z := Int32.ofNat (own_bs (own_txt 43)).length) ⟨by decide +kernel, own_map _⟩ (by decide +kernel) (by decide +kernel) (g := (mkF m 142 #[.val (.int n1)] [])) rfl (hb hby d1_142) (n := 76) (by decide +kernel) (by decide) (by decide) (by decide)
    have Br6_3 : StrB Z hr6_3 ar6_3 br6_3 (own_bs (own_txt 43)) := ⟨Ar6_3, Cr6_3, Fr6_3, kr6_3, Vr6_3⟩
    have prer6_4 : ∀ tt, Steps p.tables e below (Tr6_3.setTop (mkF m 144 #[.val (.int n1)] [(.ref ar6_3)])) tt → Steps p.tables e below (s₁.setTop (entryFrame m #[(.int n1)] 1)) tt := by
      intro tt kt
      refine prer6_2 tt ?_
      show Steps p.tables e below (s₁.setTop (mkF m 142 #[.val (.int n1)] [])) _
      refine str6_3 _ ?_
      exact kt
    replace Xr6_3 := Xr6_3.more (cells' := 2) (slots' := 188) (by decide) (by decide)
    obtain ⟨fs, hr, hrun, hended, hRW⟩ := Xr6_3.leaveW hSr6_3 (by rw [er6_3]; exact hkr6_3) (v := some (.ref ar6_3)) (fun h => by rw [Bd.returns] at h; cases h)
    refine ⟨_, _, prer6_4 _ ?_, hrun, hended, _, _, rfl, ?_, ?_, hRW⟩
    · exact retOut Xr6_3 hx Bd.returns rfl (Or.inr (Or.inr (Or.inr (Or.inr ⟨rfl, rfl, rfl⟩)))) (hb hby d1_144) hr
    · show QS Z n1 h0 n0 _ Tr6_3.heap _
      rw [er6_3]
      exact ⟨ar6_3, br6_3, rfl, N0, Er6_3, by rw [hv]; exact Br6_3⟩
    · show CHr Z consts_1 s.vm s.heap Tr6_3.vm Tr6_3.heap
      rw [hh, er6_3]
      exact CRr6_3
  by_cases q7 : n1 = (20 : Int32)
  · have hv : own_desc n1 = own_bs (own_txt 41) := by unfold own_desc; rw [if_neg q0, if_neg q1, if_neg q2, if_neg q3, if_neg q4, if_neg q5, if_neg q6, if_pos q7]
    have hfd : (#[(5, 123), (6, 126), (7, 129), (9, 132), (11, 135), (13, 138), (14, 141), (20, 144), (52, 147), (55, 150), (57, 153), (75, 156), (76, 159), (91, 162)] : Array (Int × Int)).find? (·.1 == n1.toInt) = some (20, 144) := by rw [q7]; decide
    have prer7_2 : ∀ tt, Steps p.tables e below (s₁.setTop (mkF m 145 #[.val (.int n1)] [])) tt → Steps p.tables e below (s₁.setTop (entryFrame m #[(.int n1)] 1)) tt := by
      intro tt kt
      refine pre1 tt ?_
      show Steps p.tables e below (s₁.setTop (mkF m 1 #[.val (.int n1)] [(.int n1)])) _
      refine X0.lookupswitchHit hx (g := (mkF m 1 #[.val (.int n1)] [(.int n1)])) rfl rfl (hb hby d1_1) (by decide) hfd (show (0 : Int) ≤ ((1 : Nat) : Int) + 144 by decide) _ ?_
      exact kt
    obtain ⟨ar7_3, Tr7_3, hr7_3, kkr7_3, br7_3, kr7_3, Xr7_3, er7_3, Er7_3, hSr7_3, hkr7_3, hZ, hown, Ar7_3, Cr7_3, Fr7_3, Vr7_3, lar7_3, lbr7_3, CRr7_3, -, Sr7_3, str7_3⟩ := ldcCH (text := (own_txt 41)) X0 hx hZ hown (hw _ (List.mem_of_getElem? (i := 41) rfl)) (own_wS hw) e0 hS0 (Nat.le_refl h0.size) (own_EW hw) (by decide +kernel) hC (vs := (own_bs (own_txt 41)).map Value.int) (z := Int32.ofNat (own_bs (own_txt 41)).length) ⟨by decide +kernel, own_map _⟩ (by decide +kernel) (by decide +kernel) (g := (mkF m 145 #[.val (.int n1)] [])) rfl (hb hby d1_145) (n := 80) (by decide +kernel) (by decide) (by decide) (by decide)
    have Br7_3 : StrB Z hr7_3 ar7_3 br7_3 (own_bs (own_txt 41)) := ⟨Ar7_3, Cr7_3, Fr7_3, kr7_3, Vr7_3⟩
    have prer7_4 : ∀ tt, Steps p.tables e below (Tr7_3.setTop (mkF m 147 #[.val (.int n1)] [(.ref ar7_3)])) tt → Steps p.tables e below (s₁.setTop (entryFrame m #[(.int n1)] 1)) tt := by
      intro tt kt
      refine prer7_2 tt ?_
      show Steps p.tables e below (s₁.setTop (mkF m 145 #[.val (.int n1)] [])) _
      refine str7_3 _ ?_
      exact kt
    replace Xr7_3 := Xr7_3.more (cells' := 2) (slots' := 188) (by decide) (by decide)
    obtain ⟨fs, hr, hrun, hended, hRW⟩ := Xr7_3.leaveW hSr7_3 (by rw [er7_3]; exact hkr7_3) (v := some (.ref ar7_3)) (fun h => by rw [Bd.returns] at h; cases h)
    refine ⟨_, _, prer7_4 _ ?_, hrun, hended, _, _, rfl, ?_, ?_, hRW⟩
    · exact retOut Xr7_3 hx Bd.returns rfl (Or.inr (Or.inr (Or.inr (Or.inr ⟨rfl, rfl, rfl⟩)))) (hb hby d1_147) hr
    · show QS Z n1 h0 n0 _ Tr7_3.heap _
      rw [er7_3]
      exact ⟨ar7_3, br7_3, rfl, N0, Er7_3, by rw [hv]; exact Br7_3⟩
    · show CHr Z consts_1 s.vm s.heap Tr7_3.vm Tr7_3.heap
      rw [hh, er7_3]
      exact CRr7_3
  by_cases q8 : n1 = (52 : Int32)
  · have hv : own_desc n1 = own_bs (own_txt 54) := by unfold own_desc; rw [if_neg q0, if_neg q1, if_neg q2, if_neg q3, if_neg q4, if_neg q5, if_neg q6, if_neg q7, if_pos q8]
    have hfd : (#[(5, 123), (6, 126), (7, 129), (9, 132), (11, 135), (13, 138), (14, 141), (20, 144), (52, 147), (55, 150), (57, 153), (75, 156), (76, 159), (91, 162)] : Array (Int × Int)).find? (·.1 == n1.toInt) = some (52, 147) := by rw [q8]; decide
    have prer8_2 : ∀ tt, Steps p.tables e below (s₁.setTop (mkF m 148 #[.val (.int n1)] [])) tt → Steps p.tables e below (s₁.setTop (entryFrame m #[(.int n1)] 1)) tt := by
      intro tt kt
      refine pre1 tt ?_
      show Steps p.tables e below (s₁.setTop (mkF m 1 #[.val (.int n1)] [(.int n1)])) _
      refine X0.lookupswitchHit hx (g := (mkF m 1 #[.val (.int n1)] [(.int n1)])) rfl rfl (hb hby d1_1) (by decide) hfd (show (0 : Int) ≤ ((1 : Nat) : Int) + 147 by decide) _ ?_
      exact kt
    obtain ⟨ar8_3, Tr8_3, hr8_3, kkr8_3, br8_3, kr8_3, Xr8_3, er8_3, Er8_3, hSr8_3, hkr8_3, hZ, hown, Ar8_3, Cr8_3, Fr8_3, Vr8_3, lar8_3, lbr8_3, CRr8_3, -, Sr8_3, str8_3⟩ := ldcCH (text := (own_txt 54)) X0 hx hZ hown (hw _ (List.mem_of_getElem? (i := 54) rfl)) (own_wS hw) e0 hS0 (Nat.le_refl h0.size) (own_EW hw) (by decide +kernel) hC (vs := (own_bs (own_txt 54)).map Value.int) (z := Int32.ofNat (own_bs (own_txt 54)).length) ⟨by decide +kernel, own_map _⟩ (by decide +kernel) (by decide +kernel) (g := (mkF m 148 #[.val (.int n1)] [])) rfl (hb hby d1_148) (n := 92) (by decide +kernel) (by decide) (by decide) (by decide)
    have Br8_3 : StrB Z hr8_3 ar8_3 br8_3 (own_bs (own_txt 54)) := ⟨Ar8_3, Cr8_3, Fr8_3, kr8_3, Vr8_3⟩
    have prer8_4 : ∀ tt, Steps p.tables e below (Tr8_3.setTop (mkF m 150 #[.val (.int n1)] [(.ref ar8_3)])) tt → Steps p.tables e below (s₁.setTop (entryFrame m #[(.int n1)] 1)) tt := by
      intro tt kt
      refine prer8_2 tt ?_
      show Steps p.tables e below (s₁.setTop (mkF m 148 #[.val (.int n1)] [])) _
      refine str8_3 _ ?_
      exact kt
    replace Xr8_3 := Xr8_3.more (cells' := 2) (slots' := 188) (by decide) (by decide)
    obtain ⟨fs, hr, hrun, hended, hRW⟩ := Xr8_3.leaveW hSr8_3 (by rw [er8_3]; exact hkr8_3) (v := some (.ref ar8_3)) (fun h => by rw [Bd.returns] at h; cases h)
    refine ⟨_, _, prer8_4 _ ?_, hrun, hended, _, _, rfl, ?_, ?_, hRW⟩
    · exact retOut Xr8_3 hx Bd.returns rfl (Or.inr (Or.inr (Or.inr (Or.inr ⟨rfl, rfl, rfl⟩)))) (hb hby d1_150) hr
    · show QS Z n1 h0 n0 _ Tr8_3.heap _
      rw [er8_3]
      exact ⟨ar8_3, br8_3, rfl, N0, Er8_3, by rw [hv]; exact Br8_3⟩
    · show CHr Z consts_1 s.vm s.heap Tr8_3.vm Tr8_3.heap
      rw [hh, er8_3]
      exact CRr8_3
  by_cases q9 : n1 = (55 : Int32)
  · have hv : own_desc n1 = own_bs (own_txt 53) := by unfold own_desc; rw [if_neg q0, if_neg q1, if_neg q2, if_neg q3, if_neg q4, if_neg q5, if_neg q6, if_neg q7, if_neg q8, if_pos q9]
    have hfd : (#[(5, 123), (6, 126), (7, 129), (9, 132), (11, 135), (13, 138), (14, 141), (20, 144), (52, 147), (55, 150), (57, 153), (75, 156), (76, 159), (91, 162)] : Array (Int × Int)).find? (·.1 == n1.toInt) = some (55, 150) := by rw [q9]; decide
    have prer9_2 : ∀ tt, Steps p.tables e below (s₁.setTop (mkF m 151 #[.val (.int n1)] [])) tt → Steps p.tables e below (s₁.setTop (entryFrame m #[(.int n1)] 1)) tt := by
      intro tt kt
      refine pre1 tt ?_
      show Steps p.tables e below (s₁.setTop (mkF m 1 #[.val (.int n1)] [(.int n1)])) _
      refine X0.lookupswitchHit hx (g := (mkF m 1 #[.val (.int n1)] [(.int n1)])) rfl rfl (hb hby d1_1) (by decide) hfd (show (0 : Int) ≤ ((1 : Nat) : Int) + 150 by decide) _ ?_
      exact kt
    obtain ⟨ar9_3, Tr9_3, hr9_3, kkr9_3, br9_3, kr9_3, Xr9_3, er9_3, Er9_3, hSr9_3, hkr9_3, hZ, hown, Ar9_3, Cr9_3, Fr9_3, Vr9_3, lar9_3, lbr9_3, CRr9_3, -, Sr9_3, str9_3⟩ := ldcCH (text := (own_txt 53)) X0 hx hZ hown (hw _ (List.mem_of_getElem? (i := 53) rfl)) (own_wS hw) e0 hS0 (Nat.le_refl h0.size) (own_EW hw) (by decide +kernel) hC (vs := (own_bs (own_txt 53)).map Value.int) (z := Int32.ofNat (own_bs (own_txt 53)).length) ⟨by decide +kernel, own_map _⟩ (by decide +kernel) (by decide +kernel) (g := (mkF m 151 #[.val (.int n1)] [])) rfl (hb hby d1_151) (n := 68) (by decide +kernel) (by decide) (by decide) (by decide)
    have Br9_3 : StrB Z hr9_3 ar9_3 br9_3 (own_bs (own_txt 53)) := ⟨Ar9_3, Cr9_3, Fr9_3, kr9_3, Vr9_3⟩
    have prer9_4 : ∀ tt, Steps p.tables e below (Tr9_3.setTop (mkF m 153 #[.val (.int n1)] [(.ref ar9_3)])) tt → Steps p.tables e below (s₁.setTop (entryFrame m #[(.int n1)] 1)) tt := by
      intro tt kt
      refine prer9_2 tt ?_
      show Steps p.tables e below (s₁.setTop (mkF m 151 #[.val (.int n1)] [])) _
      refine str9_3 _ ?_
      exact kt
    replace Xr9_3 := Xr9_3.more (cells' := 2) (slots' := 188) (by decide) (by decide)
    obtain ⟨fs, hr, hrun, hended, hRW⟩ := Xr9_3.leaveW hSr9_3 (by rw [er9_3]; exact hkr9_3) (v := some (.ref ar9_3)) (fun h => by rw [Bd.returns] at h; cases h)
    refine ⟨_, _, prer9_4 _ ?_, hrun, hended, _, _, rfl, ?_, ?_, hRW⟩
    · exact retOut Xr9_3 hx Bd.returns rfl (Or.inr (Or.inr (Or.inr (Or.inr ⟨rfl, rfl, rfl⟩)))) (hb hby d1_153) hr
    · show QS Z n1 h0 n0 _ Tr9_3.heap _
      rw [er9_3]
      exact ⟨ar9_3, br9_3, rfl, N0, Er9_3, by rw [hv]; exact Br9_3⟩
    · show CHr Z consts_1 s.vm s.heap Tr9_3.vm Tr9_3.heap
      rw [hh, er9_3]
      exact CRr9_3
  by_cases q10 : n1 = (57 : Int32)
  · have hv : own_desc n1 = own_bs (own_txt 40) := by unfold own_desc; rw [if_neg q0, if_neg q1, if_neg q2, if_neg q3, if_neg q4, if_neg q5, if_neg q6, if_neg q7, if_neg q8, if_neg q9, if_pos q10]
    have hfd : (#[(5, 123), (6, 126), (7, 129), (9, 132), (11, 135), (13, 138), (14, 141), (20, 144), (52, 147), (55, 150), (57, 153), (75, 156), (76, 159), (91, 162)] : Array (Int × Int)).find? (·.1 == n1.toInt) = some (57, 153) := by rw [q10]; decide
    have prer10_2 : ∀ tt, Steps p.tables e below (s₁.setTop (mkF m 154 #[.val (.int n1)] [])) tt → Steps p.tables e below (s₁.setTop (entryFrame m #[(.int n1)] 1)) tt := by
      intro tt kt
      refine pre1 tt ?_
      show Steps p.tables e below (s₁.setTop (mkF m 1 #[.val (.int n1)] [(.int n1)])) _
      refine X0.lookupswitchHit hx (g := (mkF m 1 #[.val (.int n1)] [(.int n1)])) rfl rfl (hb hby d1_1) (by decide) hfd (show (0 : Int) ≤ ((1 : Nat) : Int) + 153 by decide) _ ?_
      exact kt
    obtain ⟨ar10_3, Tr10_3, hr10_3, kkr10_3, br10_3, kr10_3, Xr10_3, er10_3, Er10_3, hSr10_3, hkr10_3, hZ, hown, Ar10_3, Cr10_3, Fr10_3, Vr10_3, lar10_3, lbr10_3, CRr10_3, -, Sr10_3, str10_3⟩ := ldcCH (text := (own_txt 40)) X0 hx hZ hown (hw _ (List.mem_of_getElem? (i := 40) rfl)) (own_wS hw) e0 hS0 (Nat.le_refl h0.size) (own_EW hw) (by decide +kernel) hC (vs := (own_bs (own_txt 40)).map Value.int) (z := Int32.ofNat (own_bs (own_txt 40)).length) ⟨by decide +kernel, own_map _⟩ (by decide +kernel) (by decide +kernel) (g := (mkF m 154 #[.val (.int n1)] [])) rfl (hb hby d1_154) (n := 64) (by decide +kernel) (by decide) (by decide) (by decide)
    have Br10_3 : StrB Z hr10_3 ar10_3 br10_3 (own_bs (own_txt 40)) := ⟨Ar10_3, Cr10_3, Fr10_3, kr10_3, Vr10_3⟩
    have prer10_4 : ∀ tt, Steps p.tables e below (Tr10_3.setTop (mkF m 156 #[.val (.int n1)] [(.ref ar10_3)])) tt → Steps p.tables e below (s₁.setTop (entryFrame m #[(.int n1)] 1)) tt := by
      intro tt kt
      refine prer10_2 tt ?_
      show Steps p.tables e below (s₁.setTop (mkF m 154 #[.val (.int n1)] [])) _
      refine str10_3 _ ?_
      exact kt
    replace Xr10_3 := Xr10_3.more (cells' := 2) (slots' := 188) (by decide) (by decide)
    obtain ⟨fs, hr, hrun, hended, hRW⟩ := Xr10_3.leaveW hSr10_3 (by rw [er10_3]; exact hkr10_3) (v := some (.ref ar10_3)) (fun h => by rw [Bd.returns] at h; cases h)
    refine ⟨_, _, prer10_4 _ ?_, hrun, hended, _, _, rfl, ?_, ?_, hRW⟩
    · exact retOut Xr10_3 hx Bd.returns rfl (Or.inr (Or.inr (Or.inr (Or.inr ⟨rfl, rfl, rfl⟩)))) (hb hby d1_156) hr
    · show QS Z n1 h0 n0 _ Tr10_3.heap _
      rw [er10_3]
      exact ⟨ar10_3, br10_3, rfl, N0, Er10_3, by rw [hv]; exact Br10_3⟩
    · show CHr Z consts_1 s.vm s.heap Tr10_3.vm Tr10_3.heap
      rw [hh, er10_3]
      exact CRr10_3
  by_cases q11 : n1 = (75 : Int32)
  · have hv : own_desc n1 = own_bs (own_txt 37) := by unfold own_desc; rw [if_neg q0, if_neg q1, if_neg q2, if_neg q3, if_neg q4, if_neg q5, if_neg q6, if_neg q7, if_neg q8, if_neg q9, if_neg q10, if_pos q11]
    have hfd : (#[(5, 123), (6, 126), (7, 129), (9, 132), (11, 135), (13, 138), (14, 141), (20, 144), (52, 147), (55, 150), (57, 153), (75, 156), (76, 159), (91, 162)] : Array (Int × Int)).find? (·.1 == n1.toInt) = some (75, 156) := by rw [q11]; decide
    have prer11_2 : ∀ tt, Steps p.tables e below (s₁.setTop (mkF m 157 #[.val (.int n1)] [])) tt → Steps p.tables e below (s₁.setTop (entryFrame m #[(.int n1)] 1)) tt := by
      intro tt kt
      refine pre1 tt ?_
      show Steps p.tables e below (s₁.setTop (mkF m 1 #[.val (.int n1)] [(.int n1)])) _
      refine X0.lookupswitchHit hx (g := (mkF m 1 #[.val (.int n1)] [(.int n1)])) rfl rfl (hb hby d1_1) (by decide) hfd (show (0 : Int) ≤ ((1 : Nat) : Int) + 156 by decide) _ ?_
      exact kt
    obtain ⟨ar11_3, Tr11_3, hr11_3, kkr11_3, br11_3, kr11_3, Xr11_3, er11_3, Er11_3, hSr11_3, hkr11_3, hZ, hown, Ar11_3, Cr11_3, Fr11_3, Vr11_3, lar11_3, lbr11_3, CRr11_3, -, Sr11_3, str11_3⟩ := ldcCH (text := (own_txt 37)) X0 hx hZ hown (hw _ (List.mem_of_getElem? (i := 37) rfl)) (own_wS hw) e0 hS0 (Nat.le_refl h0.size) (own_EW hw) (by decide +kernel) hC (vs := (own_bs (own_txt 37)).map Value.int) (z := Int32.ofNat (own_bs (own_txt 37)).length) ⟨by decide +kernel, own_map _⟩ (by decide +kernel) (by decide +kernel) (g := (mkF m 157 #[.val (.int n1)] [])) rfl (hb hby d1_157) (n := 88) (by decide +kernel) (by decide) (by decide) (by decide)
    have Br11_3 : StrB Z hr11_3 ar11_3 br11_3 (own_bs (own_txt 37)) := ⟨Ar11_3, Cr11_3, Fr11_3, kr11_3, Vr11_3⟩
    have prer11_4 : ∀ tt, Steps p.tables e below (Tr11_3.setTop (mkF m 159 #[.val (.int n1)] [(.ref ar11_3)])) tt → Steps p.tables e below (s₁.setTop (entryFrame m #[(.int n1)] 1)) tt := by
      intro tt kt
      refine prer11_2 tt ?_
      show Steps p.tables e below (s₁.setTop (mkF m 157 #[.val (.int n1)] [])) _
      refine str11_3 _ ?_
      exact kt
    replace Xr11_3 := Xr11_3.more (cells' := 2) (slots' := 188) (by decide) (by decide)
    obtain ⟨fs, hr, hrun, hended, hRW⟩ := Xr11_3.leaveW hSr11_3 (by rw [er11_3]; exact hkr11_3) (v := some (.ref ar11_3)) (fun h => by rw [Bd.returns] at h; cases h)
    refine ⟨_, _, prer11_4 _ ?_, hrun, hended, _, _, rfl, ?_, ?_, hRW⟩
    · exact retOut Xr11_3 hx Bd.returns rfl (Or.inr (Or.inr (Or.inr (Or.inr ⟨rfl, rfl, rfl⟩)))) (hb hby d1_159) hr
    · show QS Z n1 h0 n0 _ Tr11_3.heap _
      rw [er11_3]
      exact ⟨ar11_3, br11_3, rfl, N0, Er11_3, by rw [hv]; exact Br11_3⟩
    · show CHr Z consts_1 s.vm s.heap Tr11_3.vm Tr11_3.heap
      rw [hh, er11_3]
      exact CRr11_3
  by_cases q12 : n1 = (76 : Int32)
  · have hv : own_desc n1 = own_bs (own_txt 52) := by unfold own_desc; rw [if_neg q0, if_neg q1, if_neg q2, if_neg q3, if_neg q4, if_neg q5, if_neg q6, if_neg q7, if_neg q8, if_neg q9, if_neg q10, if_neg q11, if_pos q12]
    have hfd : (#[(5, 123), (6, 126), (7, 129), (9, 132), (11, 135), (13, 138), (14, 141), (20, 144), (52, 147), (55, 150), (57, 153), (75, 156), (76, 159), (91, 162)] : Array (Int × Int)).find? (·.1 == n1.toInt) = some (76, 159) := by rw [q12]; decide
    have prer12_2 : ∀ tt, Steps p.tables e below (s₁.setTop (mkF m 160 #[.val (.int n1)] [])) tt → Steps p.tables e below (s₁.setTop (entryFrame m #[(.int n1)] 1)) tt := by
      intro tt kt
      refine pre1 tt ?_
      show Steps p.tables e below (s₁.setTop (mkF m 1 #[.val (.int n1)] [(.int n1)])) _
      refine X0.lookupswitchHit hx (g := (mkF m 1 #[.val (.int n1)] [(.int n1)])) rfl rfl (hb hby d1_1) (by decide) hfd (show (0 : Int) ≤ ((1 : Nat) : Int) + 159 by decide) _ ?_
      exact kt
    obtain ⟨ar12_3, Tr12_3, hr12_3, kkr12_3, br12_3, kr12_3, Xr12_3, er12_3, Er12_3, hSr12_3, hkr12_3, hZ, hown, Ar12_3, Cr12_3, Fr12_3, Vr12_3, lar12_3, lbr12_3, CRr12_3, -, Sr12_3, str12_3⟩ := ldcCH (text := (own_txt 52)) X0 hx hZ hown (hw _ (List.mem_of_getElem? (i := 52) rfl)) (own_wS hw) e0 hS0 (Nat.le_refl h0.size) (own_EW hw) (by decide +kernel) hC (vs := (own_bs (own_txt 52)).map Value.int) (z := Int32.ofNat (own_bs (own_txt 52)).length) ⟨by decide +kernel, own_map _⟩ (by decide +kernel) (by decide +kernel) (g := (mkF m 160 #[.val (.int n1)] [])) rfl (hb hby d1_160) (n := 56) (by decide +kernel) (by decide) (by decide) (by decide)
    have Br12_3 : StrB Z hr12_3 ar12_3 br12_3 (own_bs (own_txt 52)) := ⟨Ar12_3, Cr12_3, Fr12_3, kr12_3, Vr12_3⟩
    have prer12_4 : ∀ tt, Steps p.tables e below (Tr12_3.setTop (mkF m 162 #[.val (.int n1)] [(.ref ar12_3)])) tt → Steps p.tables e below (s₁.setTop (entryFrame m #[(.int n1)] 1)) tt := by
      intro tt kt
      refine prer12_2 tt ?_
      show Steps p.tables e below (s₁.setTop (mkF m 160 #[.val (.int n1)] [])) _
      refine str12_3 _ ?_
      exact kt
    replace Xr12_3 := Xr12_3.more (cells' := 2) (slots' := 188) (by decide) (by decide)
    obtain ⟨fs, hr, hrun, hended, hRW⟩ := Xr12_3.leaveW hSr12_3 (by rw [er12_3]; exact hkr12_3) (v := some (.ref ar12_3)) (fun h => by rw [Bd.returns] at h; cases h)
    refine ⟨_, _, prer12_4 _ ?_, hrun, hended, _, _, rfl, ?_, ?_, hRW⟩
    · exact retOut Xr12_3 hx Bd.returns rfl (Or.inr (Or.inr (Or.inr (Or.inr ⟨rfl, rfl, rfl⟩)))) (hb hby d1_162) hr
    · show QS Z n1 h0 n0 _ Tr12_3.heap _
      rw [er12_3]
      exact ⟨ar12_3, br12_3, rfl, N0, Er12_3, by rw [hv]; exact Br12_3⟩
    · show CHr Z consts_1 s.vm s.heap Tr12_3.vm Tr12_3.heap
      rw [hh, er12_3]
      exact CRr12_3
  by_cases q13 : n1 = (91 : Int32)
  · have hv : own_desc n1 = own_bs (own_txt 39) := by unfold own_desc; rw [if_neg q0, if_neg q1, if_neg q2, if_neg q3, if_neg q4, if_neg q5, if_neg q6, if_neg q7, if_neg q8, if_neg q9, if_neg q10, if_neg q11, if_neg q12, if_pos q13]
    have hfd : (#[(5, 123), (6, 126), (7, 129), (9, 132), (11, 135), (13, 138), (14, 141), (20, 144), (52, 147), (55, 150), (57, 153), (75, 156), (76, 159), (91, 162)] : Array (Int × Int)).find? (·.1 == n1.toInt) = some (91, 162) := by rw [q13]; decide
    have prer13_2 : ∀ tt, Steps p.tables e below (s₁.setTop (mkF m 163 #[.val (.int n1)] [])) tt → Steps p.tables e below (s₁.setTop (entryFrame m #[(.int n1)] 1)) tt := by
      intro tt kt
      refine pre1 tt ?_
      show Steps p.tables e below (s₁.setTop (mkF m 1 #[.val (.int n1)] [(.int n1)])) _
      refine X0.lookupswitchHit hx (g := (mkF m 1 #[.val (.int n1)] [(.int n1)])) rfl rfl (hb hby d1_1) (by decide) hfd (show (0 : Int) ≤ ((1 : Nat) : Int) + 162 by decide) _ ?_
      exact kt
    obtain ⟨ar13_3, Tr13_3, hr13_3, kkr13_3, br13_3, kr13_3, Xr13_3, er13_3, Er13_3, hSr13_3, hkr13_3, hZ, hown, Ar13_3, Cr13_3, Fr13_3, Vr13_3, lar13_3, lbr13_3, CRr13_3, -, Sr13_3, str13_3⟩ := ldcCH (text := (own_txt 39)) X0 hx hZ hown (hw _ (List.mem_of_getElem? (i := 39) rfl)) (own_wS hw) e0 hS0 (Nat.le_refl h0.size) (own_EW hw) (by decide +kernel) hC (vs := (own_bs (own_txt 39)).map Value.int) (z := Int32.ofNat (own_bs (own_txt 39)).length) ⟨by decide +kernel, own_map _⟩ (by decide +kernel) (by decide +kernel) (g := (mkF m 163 #[.val (.int n1)] [])) rfl (hb hby d1_163) (n := 184) (by decide +kernel) (by decide) (by decide) (by decide)
    have Br13_3 : StrB Z hr13_3 ar13_3 br13_3 (own_bs (own_txt 39)) := ⟨Ar13_3, Cr13_3, Fr13_3, kr13_3, Vr13_3⟩
    have prer13_4 : ∀ tt, Steps p.tables e below (Tr13_3.setTop (mkF m 165 #[.val (.int n1)] [(.ref ar13_3)])) tt → Steps p.tables e below (s₁.setTop (entryFrame m #[(.int n1)] 1)) tt := by
      intro tt kt
      refine prer13_2 tt ?_
      show Steps p.tables e below (s₁.setTop (mkF m 163 #[.val (.int n1)] [])) _
      refine str13_3 _ ?_
      exact kt
    replace Xr13_3 := Xr13_3.more (cells' := 2) (slots' := 188) (by decide) (by decide)
    obtain ⟨fs, hr, hrun, hended, hRW⟩ := Xr13_3.leaveW hSr13_3 (by rw [er13_3]; exact hkr13_3) (v := some (.ref ar13_3)) (fun h => by rw [Bd.returns] at h; cases h)
    refine ⟨_, _, prer13_4 _ ?_, hrun, hended, _, _, rfl, ?_, ?_, hRW⟩
    · exact retOut Xr13_3 hx Bd.returns rfl (Or.inr (Or.inr (Or.inr (Or.inr ⟨rfl, rfl, rfl⟩)))) (hb hby d1_165) hr
    · show QS Z n1 h0 n0 _ Tr13_3.heap _
      rw [er13_3]
      exact ⟨ar13_3, br13_3, rfl, N0, Er13_3, by rw [hv]; exact Br13_3⟩
    · show CHr Z consts_1 s.vm s.heap Tr13_3.vm Tr13_3.heap
      rw [hh, er13_3]
      exact CRr13_3
  have hv : own_desc n1 = own_bs (own_txt 46) := by unfold own_desc; rw [if_neg q0, if_neg q1, if_neg q2, if_neg q3, if_neg q4, if_neg q5, if_neg q6, if_neg q7, if_neg q8, if_neg q9, if_neg q10, if_neg q11, if_neg q12, if_neg q13]
  have hfd : (#[(5, 123), (6, 126), (7, 129), (9, 132), (11, 135), (13, 138), (14, 141), (20, 144), (52, 147), (55, 150), (57, 153), (75, 156), (76, 159), (91, 162)] : Array (Int × Int)).find? (·.1 == n1.toInt) = none := find_miss (by
    intro pr hpr e1
    simp only [List.mem_cons, List.not_mem_nil, or_false] at hpr
    rcases hpr with rfl | rfl | rfl | rfl | rfl | rfl | rfl | rfl | rfl | rfl | rfl | rfl | rfl | rfl
    · exact q0 (Int32.toInt_inj.mp e1.symm)
    · exact q1 (Int32.toInt_inj.mp e1.symm)
    · exact q2 (Int32.toInt_inj.mp e1.symm)
    · exact q3 (Int32.toInt_inj.mp e1.symm)
    · exact q4 (Int32.toInt_inj.mp e1.symm)
    · exact q5 (Int32.toInt_inj.mp e1.symm)
    · exact q6 (Int32.toInt_inj.mp e1.symm)
    · exact q7 (Int32.toInt_inj.mp e1.symm)
    · exact q8 (Int32.toInt_inj.mp e1.symm)
    · exact q9 (Int32.toInt_inj.mp e1.symm)
    · exact q10 (Int32.toInt_inj.mp e1.symm)
    · exact q11 (Int32.toInt_inj.mp e1.symm)
    · exact q12 (Int32.toInt_inj.mp e1.symm)
    · exact q13 (Int32.toInt_inj.mp e1.symm))
  have pre2 : ∀ tt, Steps p.tables e below (s₁.setTop (mkF m 166 #[.val (.int n1)] [])) tt → Steps p.tables e below (s₁.setTop (entryFrame m #[(.int n1)] 1)) tt := by
    intro tt kt
    refine pre1 tt ?_
    show Steps p.tables e below (s₁.setTop (mkF m 1 #[.val (.int n1)] [(.int n1)])) _
    refine X0.lookupswitchMiss hx (g := (mkF m 1 #[.val (.int n1)] [(.int n1)])) rfl rfl (hb hby d1_1) (by decide) hfd (show (0 : Int) ≤ ((1 : Nat) : Int) + 165 by decide) _ ?_
    exact kt
  obtain ⟨a3, T3, h3, kk3, b3, k3, X3, e3, E3, hS3, hk3, hZ, hown, A3, C3, F3, V3, la3, lb3, CR3, -, S3, st3⟩ := ldcCH (text := (own_txt 46)) X0 hx hZ hown (hw _ (List.mem_of_getElem? (i := 46) rfl)) (own_wS hw) e0 hS0 (Nat.le_refl h0.size) (own_EW hw) (by decide +kernel) hC (vs := (own_bs (own_txt 46)).map Value.int) (z := Int32.ofNat (own_bs (own_txt 46)).length) ⟨by decide +kernel, own_map _⟩ (by decide +kernel) (by decide +kernel) (g := (mkF m 166 #[.val (.int n1)] [])) rfl (hb hby d1_166) (n := 172) (by decide +kernel) (by decide) (by decide) (by decide)
  have B3 : StrB Z h3 a3 b3 (own_bs (own_txt 46)) := ⟨A3, C3, F3, k3, V3⟩
  have pre4 : ∀ tt, Steps p.tables e below (T3.setTop (mkF m 168 #[.val (.int n1)] [(.ref a3)])) tt → Steps p.tables e below (s₁.setTop (entryFrame m #[(.int n1)] 1)) tt := by
    intro tt kt
    refine pre2 tt ?_
    show Steps p.tables e below (s₁.setTop (mkF m 166 #[.val (.int n1)] [])) _
    refine st3 _ ?_
    exact kt
  replace X3 := X3.more (cells' := 2) (slots' := 188) (by decide) (by decide)
  obtain ⟨fs, hr, hrun, hended, hRW⟩ := X3.leaveW hS3 (by rw [e3]; exact hk3) (v := some (.ref a3)) (fun h => by rw [Bd.returns] at h; cases h)
  refine ⟨_, _, pre4 _ ?_, hrun, hended, _, _, rfl, ?_, ?_, hRW⟩
  · exact retOut X3 hx Bd.returns rfl (Or.inr (Or.inr (Or.inr (Or.inr ⟨rfl, rfl, rfl⟩)))) (hb hby d1_168) hr
  · show QS Z n1 h0 n0 _ T3.heap _
    rw [e3]
    exact ⟨a3, b3, rfl, N0, E3, by rw [hv]; exact B3⟩
  · show CHr Z consts_1 s.vm s.heap T3.vm T3.heap
    rw [hh, e3]
    exact CR3
theorem own_desc_len (n : Int32) : (own_desc n).length < 1000 := by
  unfold own_desc
  by_cases q0 : n = 5
  · rw [if_pos q0]; decide +kernel
  rw [if_neg q0]
  by_cases q1 : n = 6
  · rw [if_pos q1]; decide +kernel
  rw [if_neg q1]
  by_cases q2 : n = 7
  · rw [if_pos q2]; decide +kernel
  rw [if_neg q2]
  by_cases q3 : n = 9
  · rw [if_pos q3]; decide +kernel
  rw [if_neg q3]
  by_cases q4 : n = 11
  · rw [if_pos q4]; decide +kernel
  rw [if_neg q4]
  by_cases q5 : n = 13
  · rw [if_pos q5]; decide +kernel
  rw [if_neg q5]
  by_cases q6 : n = 14
  · rw [if_pos q6]; decide +kernel
  rw [if_neg q6]
  by_cases q7 : n = 20
  · rw [if_pos q7]; decide +kernel
  rw [if_neg q7]
  by_cases q8 : n = 52
  · rw [if_pos q8]; decide +kernel
  rw [if_neg q8]
  by_cases q9 : n = 55
  · rw [if_pos q9]; decide +kernel
  rw [if_neg q9]
  by_cases q10 : n = 57
  · rw [if_pos q10]; decide +kernel
  rw [if_neg q10]
  by_cases q11 : n = 75
  · rw [if_pos q11]; decide +kernel
  rw [if_neg q11]
  by_cases q12 : n = 76
  · rw [if_pos q12]; decide +kernel
  rw [if_neg q12]
  by_cases q13 : n = 91
  · rw [if_pos q13]; decide +kernel
  rw [if_neg q13]
  decide +kernel
theorem own_known_ne : ∀ n ∈ own_codes, (own_desc n).length ≠ (own_bs (own_txt 51)).length := by decide +kernel
theorem own_unknown {n : Int32} (h : n ∉ own_codes) : own_desc n = own_bs (own_txt 51) := by
  simp only [own_codes, List.mem_cons, List.not_mem_nil, or_false, not_or] at h
  obtain ⟨q0, q1, q2, q3, q4, q5, q6, q7, q8, q9, q10, q11, q12, q13⟩ := h
  unfold own_desc
  rw [if_neg q0, if_neg q1, if_neg q2, if_neg q3, if_neg q4, if_neg q5, if_neg q6, if_neg q7, if_neg q8, if_neg q9, if_neg q10, if_neg q11, if_neg q12, if_neg q13]
  rfl
theorem own_awlen : (own_bs (own_txt 51)).length < 1000 := by decide +kernel
theorem own_mod (x : Int32) : ∃ k : Nat, k ≤ 14 ∧ (x &&& (2147483647 : Int32)) % (15 : Int32) = Int32.ofNat k := by
  have h0 : 0 ≤ (x &&& (2147483647 : Int32)).toInt := (c_andS x 2147483647).2.2 (by decide)
  have h1 := (c_irem (x &&& (2147483647 : Int32)) 15 15 rfl).1 h0
  refine ⟨((x &&& (2147483647 : Int32)) % (15 : Int32)).toInt.toNat, by omega, ?_⟩
  apply Int32.toInt_inj.mp
  rw [Int32.toInt_ofNat_of_lt (by omega)]
  omega
def Q0 (Z : State) (p1 : Int32) (p2 : Int32) (cz : Int32) (h0 : Heap) (n0 : Nat) (v : Option Value) (h : Heap) (L : List Loc) : Prop := v = some (.int (1 : Int32)) ∧ Fr n0 L
theorem ef_rm0 (m : MethodId) (x0 : Int32) (x1 : Int32) : entryFrame m #[(.int x0), (.int x1)] maxLocals = mkF m 0 #[.val (.int x0), .val (.int x1), .unset, .unset, .unset, .unset] [] := by first | (simp [entryFrame, mkF, argsToLocals, Value.category, maxLocals]; done) | rfl
theorem pn_rm0 : plainName "com/example/causeway/causeway/runtime/VbErrorStandardDescriptionPinLaw" = true := by first | (simp [plainName, overriddenIn]; done) | decide +kernel
set_option maxRecDepth 65536 in
set_option maxHeartbeats 40000000 in
theorem rm0 (l : Launch) (Z : State) (a0 : Array Value) (hw : ∀ d ∈ tables_1, d.before a0 Z = true) (ws : List Jvm.Cond) (p1 : Int32) (p2 : Int32) (cz : Int32) (h0 : Heap) (n0 : Nat) (Z0 : n0 ≤ h0.size) (S0 : Sta Z h0 "java/lang/String" "COMPACT_STRINGS" "Z" (.int cz)) (hcz : ¬ cz = (0 : Int32)) :
    MetFree l x (head1 (Jvm.Cond.code x code maxLocals ret :: ws) room_1) (fun a U => a = #[(.int p1), (.int p2)] ∧ Z.Warmed39 U.vm ∧ U.heap = h0 ∧ CHv Z consts_1 U.vm h0) (fun _ _ _ _ _ => True) (fun _ U oc U' => ∃ v L, oc = .returned v ∧ Q0 Z p1 p2 cz h0 n0 v U'.heap L ∧ ReturnedEndW U oc U' L room_1.cells room_1.slots) := by
  refine MetFree.of_bodySF (plainFor_of_name pn_rm0) hisR ?_
  intro p e s m args below meth c s₁ Bd hml0 hP hK
  obtain ⟨rfl, hZ, hh, hC⟩ := hP
  have hx := Bd.exec
  have hby := Bd.bytes
  have hml : c.maxLocals = 6 := hml0
  have hown : s.vm.findClass "com/example/causeway/causeway/runtime/VbErrorStandardDescriptionPinLaw" = some m.cls := findClass_of_methodNamed Bd.named
  have hnm := (name_of_methodNamed Bd.named Bd.method).1
  have X0 : Stand p l e room_1 (s.setVm s.vm) m #[(.int p1), (.int p2)] below meth c s₁ [] 0 0 := Stand.of_body Bd
  have e0 : s₁.heap = h0 := by rw [← hh, Bd.state]; rfl
  have N0 := Fr.nil n0
  have pre0 : ∀ tt, Steps p.tables e below (s₁.setTop (mkF m 0 #[.val (.int p1), .val (.int p2), .unset, .unset, .unset, .unset] [])) tt → Steps p.tables e below (s₁.setTop (entryFrame m #[(.int p1), (.int p2)] maxLocals)) tt := fun tt kt => castTop (ef_rm0 m p1 p2) kt
  have hS0 : s.Since s.vm h0.size := (State.WarmedH.refl s).since _
  obtain ⟨j, hj, ej⟩ := own_mod p2
  obtain ⟨T1, h1, k1, X1, e1, E1, A1, st1⟩ := newP X0 hx hZ (hw _ (List.mem_of_getElem? (i := 0) rfl)) e0 (g := (mkF m 2 #[.val (.int p1), .val (.int p2), .unset, .unset, .unset, .unset] [(.int (14 : Int32))])) rfl (hb hby at_2) rfl (by decide) (cap := 14) (by decide) (by decide) (by decide) (by decide)
  obtain ⟨b1, g1⟩ : ∃ z, z = h0.size := ⟨_, rfl⟩
  rw [← g1] at A1 st1
  have V1 := Arv.new A1 (by decide)
  obtain ⟨Lx1, X1, Nx1⟩ : ∃ L, Stand p l e room_1 (s.setVm s.vm) m #[(.int p1), (.int p2)] below meth c T1 L 1 14 ∧ Fr n0 L := ⟨_, X1.more (by decide) (by decide), N0⟩
  have g_b1 : n0 ≤ b1 := Nat.le_trans Z0 (Nat.le_of_eq g1.symm)
  have CH1 := CHv.ext E1 hC
  have hkx1 := Nat.le_trans (Nat.le_refl h0.size) E1.1
  have St1 := Sta.ext E1 S0
  have zz1 : n0 ≤ h1.size := Nat.le_trans Z0 E1.1
  have V1_0 : Arv Z h1 b1 k1 .int 14 [(.int (0 : Int32)), (.int (0 : Int32)), (.int (0 : Int32)), (.int (0 : Int32)), (.int (0 : Int32)), (.int (0 : Int32)), (.int (0 : Int32)), (.int (0 : Int32)), (.int (0 : Int32)), (.int (0 : Int32)), (.int (0 : Int32)), (.int (0 : Int32)), (.int (0 : Int32)), (.int (0 : Int32))] (.int (0 : Int32)) := V1.pad (pad_rep [] (.int (0 : Int32)) 14)
  obtain ⟨c1_0, A1_0, q1_0, S1_0, M1_0, H1_0, G1_0⟩ := V1_0
  obtain ⟨T2, h2, X2, e2, W2, st2⟩ := stI X1 hx hZ e1 A1_0 (j := (0 : Int32)) (inb_of S1_0 ⟨by decide, by decide⟩) (g := (mkF m 7 #[.val (.int p1), .val (.int p2), .unset, .unset, .unset, .unset] [(.int (5 : Int32)), (.int (0 : Int32)), (.ref b1), (.ref b1)])) rfl rfl (hb hby at_7)
  have N2 := Fr.snoc X2 Nx1 g_b1
  obtain ⟨Lx2, X2, Nx2⟩ : ∃ L, Stand p l e room_1 (s.setVm s.vm) m #[(.int p1), (.int p2)] below meth c T2 L 1 14 ∧ Fr n0 L := ⟨_, X2.more (by decide) (by decide), N2⟩
  have V1_1 : Arv Z h2 b1 k1 .int 14 [(.int (5 : Int32)), (.int (0 : Int32)), (.int (0 : Int32)), (.int (0 : Int32)), (.int (0 : Int32)), (.int (0 : Int32)), (.int (0 : Int32)), (.int (0 : Int32)), (.int (0 : Int32)), (.int (0 : Int32)), (.int (0 : Int32)), (.int (0 : Int32)), (.int (0 : Int32)), (.int (0 : Int32))] (.int (0 : Int32)) := Arv.set A1_0 q1_0 S1_0 M1_0 H1_0 G1_0 rfl W2 0 rfl (Nat.le_of_ble_eq_true rfl)
  have CH2 := CHv.wr W2 (Safe.arr hZ.alike A1_0 (by decide)) CH1
  have hkx2 := Nat.le_trans hkx1 (Keep.of_wr W2).1
  have St2 := Sta.wr W2 St1
  have zz2 : n0 ≤ h2.size := Nat.le_trans zz1 (Keep.of_wr W2).1
  obtain ⟨c1_1, A1_1, q1_1, S1_1, M1_1, H1_1, G1_1⟩ := V1_1
  obtain ⟨T3, h3, X3, e3, W3, st3⟩ := stI X2 hx hZ e2 A1_1 (j := (1 : Int32)) (inb_of S1_1 ⟨by decide, by decide⟩) (g := (mkF m 12 #[.val (.int p1), .val (.int p2), .unset, .unset, .unset, .unset] [(.int (6 : Int32)), (.int (1 : Int32)), (.ref b1), (.ref b1)])) rfl rfl (hb hby at_12)
  have N3 := Fr.snoc X3 Nx2 g_b1
  obtain ⟨Lx3, X3, Nx3⟩ : ∃ L, Stand p l e room_1 (s.setVm s.vm) m #[(.int p1), (.int p2)] below meth c T3 L 1 14 ∧ Fr n0 L := ⟨_, X3.more (by decide) (by decide), N3⟩
  have V1_2 : Arv Z h3 b1 k1 .int 14 [(.int (5 : Int32)), (.int (6 : Int32)), (.int (0 : Int32)), (.int (0 : Int32)), (.int (0 : Int32)), (.int (0 : Int32)), (.int (0 : Int32)), (.int (0 : Int32)), (.int (0 : Int32)), (.int (0 : Int32)), (.int (0 : Int32)), (.int (0 : Int32)), (.int (0 : Int32)), (.int (0 : Int32))] (.int (0 : Int32)) := Arv.set A1_1 q1_1 S1_1 M1_1 H1_1 G1_1 rfl W3 1 rfl (Nat.le_of_ble_eq_true rfl)
  have CH3 := CHv.wr W3 (Safe.arr hZ.alike A1_1 (by decide)) CH2
  have hkx3 := Nat.le_trans hkx2 (Keep.of_wr W3).1
  have St3 := Sta.wr W3 St2
  have zz3 : n0 ≤ h3.size := Nat.le_trans zz2 (Keep.of_wr W3).1
  obtain ⟨c1_2, A1_2, q1_2, S1_2, M1_2, H1_2, G1_2⟩ := V1_2
  obtain ⟨T4, h4, X4, e4, W4, st4⟩ := stI X3 hx hZ e3 A1_2 (j := (2 : Int32)) (inb_of S1_2 ⟨by decide, by decide⟩) (g := (mkF m 17 #[.val (.int p1), .val (.int p2), .unset, .unset, .unset, .unset] [(.int (7 : Int32)), (.int (2 : Int32)), (.ref b1), (.ref b1)])) rfl rfl (hb hby at_17)
  have N4 := Fr.snoc X4 Nx3 g_b1
  obtain ⟨Lx4, X4, Nx4⟩ : ∃ L, Stand p l e room_1 (s.setVm s.vm) m #[(.int p1), (.int p2)] below meth c T4 L 1 14 ∧ Fr n0 L := ⟨_, X4.more (by decide) (by decide), N4⟩
  have V1_3 : Arv Z h4 b1 k1 .int 14 [(.int (5 : Int32)), (.int (6 : Int32)), (.int (7 : Int32)), (.int (0 : Int32)), (.int (0 : Int32)), (.int (0 : Int32)), (.int (0 : Int32)), (.int (0 : Int32)), (.int (0 : Int32)), (.int (0 : Int32)), (.int (0 : Int32)), (.int (0 : Int32)), (.int (0 : Int32)), (.int (0 : Int32))] (.int (0 : Int32)) := Arv.set A1_2 q1_2 S1_2 M1_2 H1_2 G1_2 rfl W4 2 rfl (Nat.le_of_ble_eq_true rfl)
  have CH4 := CHv.wr W4 (Safe.arr hZ.alike A1_2 (by decide)) CH3
  have hkx4 := Nat.le_trans hkx3 (Keep.of_wr W4).1
  have St4 := Sta.wr W4 St3
  have zz4 : n0 ≤ h4.size := Nat.le_trans zz3 (Keep.of_wr W4).1
  obtain ⟨c1_3, A1_3, q1_3, S1_3, M1_3, H1_3, G1_3⟩ := V1_3
  obtain ⟨T5, h5, X5, e5, W5, st5⟩ := stI X4 hx hZ e4 A1_3 (j := (3 : Int32)) (inb_of S1_3 ⟨by decide, by decide⟩) (g := (mkF m 22 #[.val (.int p1), .val (.int p2), .unset, .unset, .unset, .unset] [(.int (9 : Int32)), (.int (3 : Int32)), (.ref b1), (.ref b1)])) rfl rfl (hb hby at_22)
  have N5 := Fr.snoc X5 Nx4 g_b1
  obtain ⟨Lx5, X5, Nx5⟩ : ∃ L, Stand p l e room_1 (s.setVm s.vm) m #[(.int p1), (.int p2)] below meth c T5 L 1 14 ∧ Fr n0 L := ⟨_, X5.more (by decide) (by decide), N5⟩
  have V1_4 : Arv Z h5 b1 k1 .int 14 [(.int (5 : Int32)), (.int (6 : Int32)), (.int (7 : Int32)), (.int (9 : Int32)), (.int (0 : Int32)), (.int (0 : Int32)), (.int (0 : Int32)), (.int (0 : Int32)), (.int (0 : Int32)), (.int (0 : Int32)), (.int (0 : Int32)), (.int (0 : Int32)), (.int (0 : Int32)), (.int (0 : Int32))] (.int (0 : Int32)) := Arv.set A1_3 q1_3 S1_3 M1_3 H1_3 G1_3 rfl W5 3 rfl (Nat.le_of_ble_eq_true rfl)
  have CH5 := CHv.wr W5 (Safe.arr hZ.alike A1_3 (by decide)) CH4
  have hkx5 := Nat.le_trans hkx4 (Keep.of_wr W5).1
  have St5 := Sta.wr W5 St4
  have zz5 : n0 ≤ h5.size := Nat.le_trans zz4 (Keep.of_wr W5).1
  obtain ⟨c1_4, A1_4, q1_4, S1_4, M1_4, H1_4, G1_4⟩ := V1_4
  obtain ⟨T6, h6, X6, e6, W6, st6⟩ := stI X5 hx hZ e5 A1_4 (j := (4 : Int32)) (inb_of S1_4 ⟨by decide, by decide⟩) (g := (mkF m 27 #[.val (.int p1), .val (.int p2), .unset, .unset, .unset, .unset] [(.int (11 : Int32)), (.int (4 : Int32)), (.ref b1), (.ref b1)])) rfl rfl (hb hby at_27)
  have N6 := Fr.snoc X6 Nx5 g_b1
  obtain ⟨Lx6, X6, Nx6⟩ : ∃ L, Stand p l e room_1 (s.setVm s.vm) m #[(.int p1), (.int p2)] below meth c T6 L 1 14 ∧ Fr n0 L := ⟨_, X6.more (by decide) (by decide), N6⟩
  have V1_5 : Arv Z h6 b1 k1 .int 14 [(.int (5 : Int32)), (.int (6 : Int32)), (.int (7 : Int32)), (.int (9 : Int32)), (.int (11 : Int32)), (.int (0 : Int32)), (.int (0 : Int32)), (.int (0 : Int32)), (.int (0 : Int32)), (.int (0 : Int32)), (.int (0 : Int32)), (.int (0 : Int32)), (.int (0 : Int32)), (.int (0 : Int32))] (.int (0 : Int32)) := Arv.set A1_4 q1_4 S1_4 M1_4 H1_4 G1_4 rfl W6 4 rfl (Nat.le_of_ble_eq_true rfl)
  have CH6 := CHv.wr W6 (Safe.arr hZ.alike A1_4 (by decide)) CH5
  have hkx6 := Nat.le_trans hkx5 (Keep.of_wr W6).1
  have St6 := Sta.wr W6 St5
  have zz6 : n0 ≤ h6.size := Nat.le_trans zz5 (Keep.of_wr W6).1
  obtain ⟨c1_5, A1_5, q1_5, S1_5, M1_5, H1_5, G1_5⟩ := V1_5
  obtain ⟨T7, h7, X7, e7, W7, st7⟩ := stI X6 hx hZ e6 A1_5 (j := (5 : Int32)) (inb_of S1_5 ⟨by decide, by decide⟩) (g := (mkF m 32 #[.val (.int p1), .val (.int p2), .unset, .unset, .unset, .unset] [(.int (13 : Int32)), (.int (5 : Int32)), (.ref b1), (.ref b1)])) rfl rfl (hb hby at_32)
  have N7 := Fr.snoc X7 Nx6 g_b1
  obtain ⟨Lx7, X7, Nx7⟩ : ∃ L, Stand p l e room_1 (s.setVm s.vm) m #[(.int p1), (.int p2)] below meth c T7 L 1 14 ∧ Fr n0 L := ⟨_, X7.more (by decide) (by decide), N7⟩
  have V1_6 : Arv Z h7 b1 k1 .int 14 [(.int (5 : Int32)), (.int (6 : Int32)), (.int (7 : Int32)), (.int (9 : Int32)), (.int (11 : Int32)), (.int (13 : Int32)), (.int (0 : Int32)), (.int (0 : Int32)), (.int (0 : Int32)), (.int (0 : Int32)), (.int (0 : Int32)), (.int (0 : Int32)), (.int (0 : Int32)), (.int (0 : Int32))] (.int (0 : Int32)) := Arv.set A1_5 q1_5 S1_5 M1_5 H1_5 G1_5 rfl W7 5 rfl (Nat.le_of_ble_eq_true rfl)
  have CH7 := CHv.wr W7 (Safe.arr hZ.alike A1_5 (by decide)) CH6
  have hkx7 := Nat.le_trans hkx6 (Keep.of_wr W7).1
  have St7 := Sta.wr W7 St6
  have zz7 : n0 ≤ h7.size := Nat.le_trans zz6 (Keep.of_wr W7).1
  obtain ⟨c1_6, A1_6, q1_6, S1_6, M1_6, H1_6, G1_6⟩ := V1_6
  obtain ⟨T8, h8, X8, e8, W8, st8⟩ := stI X7 hx hZ e7 A1_6 (j := (6 : Int32)) (inb_of S1_6 ⟨by decide, by decide⟩) (g := (mkF m 38 #[.val (.int p1), .val (.int p2), .unset, .unset, .unset, .unset] [(.int (14 : Int32)), (.int (6 : Int32)), (.ref b1), (.ref b1)])) rfl rfl (hb hby at_38)
  have N8 := Fr.snoc X8 Nx7 g_b1
  obtain ⟨Lx8, X8, Nx8⟩ : ∃ L, Stand p l e room_1 (s.setVm s.vm) m #[(.int p1), (.int p2)] below meth c T8 L 1 14 ∧ Fr n0 L := ⟨_, X8.more (by decide) (by decide), N8⟩
  have V1_7 : Arv Z h8 b1 k1 .int 14 [(.int (5 : Int32)), (.int (6 : Int32)), (.int (7 : Int32)), (.int (9 : Int32)), (.int (11 : Int32)), (.int (13 : Int32)), (.int (14 : Int32)), (.int (0 : Int32)), (.int (0 : Int32)), (.int (0 : Int32)), (.int (0 : Int32)), (.int (0 : Int32)), (.int (0 : Int32)), (.int (0 : Int32))] (.int (0 : Int32)) := Arv.set A1_6 q1_6 S1_6 M1_6 H1_6 G1_6 rfl W8 6 rfl (Nat.le_of_ble_eq_true rfl)
  have CH8 := CHv.wr W8 (Safe.arr hZ.alike A1_6 (by decide)) CH7
  have hkx8 := Nat.le_trans hkx7 (Keep.of_wr W8).1
  have St8 := Sta.wr W8 St7
  have zz8 : n0 ≤ h8.size := Nat.le_trans zz7 (Keep.of_wr W8).1
  obtain ⟨c1_7, A1_7, q1_7, S1_7, M1_7, H1_7, G1_7⟩ := V1_7
  obtain ⟨T9, h9, X9, e9, W9, st9⟩ := stI X8 hx hZ e8 A1_7 (j := (7 : Int32)) (inb_of S1_7 ⟨by decide, by decide⟩) (g := (mkF m 44 #[.val (.int p1), .val (.int p2), .unset, .unset, .unset, .unset] [(.int (20 : Int32)), (.int (7 : Int32)), (.ref b1), (.ref b1)])) rfl rfl (hb hby at_44)
  have N9 := Fr.snoc X9 Nx8 g_b1
  obtain ⟨Lx9, X9, Nx9⟩ : ∃ L, Stand p l e room_1 (s.setVm s.vm) m #[(.int p1), (.int p2)] below meth c T9 L 1 14 ∧ Fr n0 L := ⟨_, X9.more (by decide) (by decide), N9⟩
  have V1_8 : Arv Z h9 b1 k1 .int 14 [(.int (5 : Int32)), (.int (6 : Int32)), (.int (7 : Int32)), (.int (9 : Int32)), (.int (11 : Int32)), (.int (13 : Int32)), (.int (14 : Int32)), (.int (20 : Int32)), (.int (0 : Int32)), (.int (0 : Int32)), (.int (0 : Int32)), (.int (0 : Int32)), (.int (0 : Int32)), (.int (0 : Int32))] (.int (0 : Int32)) := Arv.set A1_7 q1_7 S1_7 M1_7 H1_7 G1_7 rfl W9 7 rfl (Nat.le_of_ble_eq_true rfl)
  have CH9 := CHv.wr W9 (Safe.arr hZ.alike A1_7 (by decide)) CH8
  have hkx9 := Nat.le_trans hkx8 (Keep.of_wr W9).1
  have St9 := Sta.wr W9 St8
  have zz9 : n0 ≤ h9.size := Nat.le_trans zz8 (Keep.of_wr W9).1
  obtain ⟨c1_8, A1_8, q1_8, S1_8, M1_8, H1_8, G1_8⟩ := V1_8
  obtain ⟨T10, h10, X10, e10, W10, st10⟩ := stI X9 hx hZ e9 A1_8 (j := (8 : Int32)) (inb_of S1_8 ⟨by decide, by decide⟩) (g := (mkF m 50 #[.val (.int p1), .val (.int p2), .unset, .unset, .unset, .unset] [(.int (52 : Int32)), (.int (8 : Int32)), (.ref b1), (.ref b1)])) rfl rfl (hb hby at_50)
  have N10 := Fr.snoc X10 Nx9 g_b1
  obtain ⟨Lx10, X10, Nx10⟩ : ∃ L, Stand p l e room_1 (s.setVm s.vm) m #[(.int p1), (.int p2)] below meth c T10 L 1 14 ∧ Fr n0 L := ⟨_, X10.more (by decide) (by decide), N10⟩
  have V1_9 : Arv Z h10 b1 k1 .int 14 [(.int (5 : Int32)), (.int (6 : Int32)), (.int (7 : Int32)), (.int (9 : Int32)), (.int (11 : Int32)), (.int (13 : Int32)), (.int (14 : Int32)), (.int (20 : Int32)), (.int (52 : Int32)), (.int (0 : Int32)), (.int (0 : Int32)), (.int (0 : Int32)), (.int (0 : Int32)), (.int (0 : Int32))] (.int (0 : Int32)) := Arv.set A1_8 q1_8 S1_8 M1_8 H1_8 G1_8 rfl W10 8 rfl (Nat.le_of_ble_eq_true rfl)
  have CH10 := CHv.wr W10 (Safe.arr hZ.alike A1_8 (by decide)) CH9
  have hkx10 := Nat.le_trans hkx9 (Keep.of_wr W10).1
  have St10 := Sta.wr W10 St9
  have zz10 : n0 ≤ h10.size := Nat.le_trans zz9 (Keep.of_wr W10).1
  obtain ⟨c1_9, A1_9, q1_9, S1_9, M1_9, H1_9, G1_9⟩ := V1_9
  obtain ⟨T11, h11, X11, e11, W11, st11⟩ := stI X10 hx hZ e10 A1_9 (j := (9 : Int32)) (inb_of S1_9 ⟨by decide, by decide⟩) (g := (mkF m 56 #[.val (.int p1), .val (.int p2), .unset, .unset, .unset, .unset] [(.int (55 : Int32)), (.int (9 : Int32)), (.ref b1), (.ref b1)])) rfl rfl (hb hby at_56)
  have N11 := Fr.snoc X11 Nx10 g_b1
  obtain ⟨Lx11, X11, Nx11⟩ : ∃ L, Stand p l e room_1 (s.setVm s.vm) m #[(.int p1), (.int p2)] below meth c T11 L 1 14 ∧ Fr n0 L := ⟨_, X11.more (by decide) (by decide), N11⟩
  have V1_10 : Arv Z h11 b1 k1 .int 14 [(.int (5 : Int32)), (.int (6 : Int32)), (.int (7 : Int32)), (.int (9 : Int32)), (.int (11 : Int32)), (.int (13 : Int32)), (.int (14 : Int32)), (.int (20 : Int32)), (.int (52 : Int32)), (.int (55 : Int32)), (.int (0 : Int32)), (.int (0 : Int32)), (.int (0 : Int32)), (.int (0 : Int32))] (.int (0 : Int32)) := Arv.set A1_9 q1_9 S1_9 M1_9 H1_9 G1_9 rfl W11 9 rfl (Nat.le_of_ble_eq_true rfl)
  have CH11 := CHv.wr W11 (Safe.arr hZ.alike A1_9 (by decide)) CH10
  have hkx11 := Nat.le_trans hkx10 (Keep.of_wr W11).1
  have St11 := Sta.wr W11 St10
  have zz11 : n0 ≤ h11.size := Nat.le_trans zz10 (Keep.of_wr W11).1
  obtain ⟨c1_10, A1_10, q1_10, S1_10, M1_10, H1_10, G1_10⟩ := V1_10
  obtain ⟨T12, h12, X12, e12, W12, st12⟩ := stI X11 hx hZ e11 A1_10 (j := (10 : Int32)) (inb_of S1_10 ⟨by decide, by decide⟩) (g := (mkF m 62 #[.val (.int p1), .val (.int p2), .unset, .unset, .unset, .unset] [(.int (57 : Int32)), (.int (10 : Int32)), (.ref b1), (.ref b1)])) rfl rfl (hb hby at_62)
  have N12 := Fr.snoc X12 Nx11 g_b1
  obtain ⟨Lx12, X12, Nx12⟩ : ∃ L, Stand p l e room_1 (s.setVm s.vm) m #[(.int p1), (.int p2)] below meth c T12 L 1 14 ∧ Fr n0 L := ⟨_, X12.more (by decide) (by decide), N12⟩
  have V1_11 : Arv Z h12 b1 k1 .int 14 [(.int (5 : Int32)), (.int (6 : Int32)), (.int (7 : Int32)), (.int (9 : Int32)), (.int (11 : Int32)), (.int (13 : Int32)), (.int (14 : Int32)), (.int (20 : Int32)), (.int (52 : Int32)), (.int (55 : Int32)), (.int (57 : Int32)), (.int (0 : Int32)), (.int (0 : Int32)), (.int (0 : Int32))] (.int (0 : Int32)) := Arv.set A1_10 q1_10 S1_10 M1_10 H1_10 G1_10 rfl W12 10 rfl (Nat.le_of_ble_eq_true rfl)
  have CH12 := CHv.wr W12 (Safe.arr hZ.alike A1_10 (by decide)) CH11
  have hkx12 := Nat.le_trans hkx11 (Keep.of_wr W12).1
  have St12 := Sta.wr W12 St11
  have zz12 : n0 ≤ h12.size := Nat.le_trans zz11 (Keep.of_wr W12).1
  obtain ⟨c1_11, A1_11, q1_11, S1_11, M1_11, H1_11, G1_11⟩ := V1_11
  obtain ⟨T13, h13, X13, e13, W13, st13⟩ := stI X12 hx hZ e12 A1_11 (j := (11 : Int32)) (inb_of S1_11 ⟨by decide, by decide⟩) (g := (mkF m 68 #[.val (.int p1), .val (.int p2), .unset, .unset, .unset, .unset] [(.int (75 : Int32)), (.int (11 : Int32)), (.ref b1), (.ref b1)])) rfl rfl (hb hby at_68)
  have N13 := Fr.snoc X13 Nx12 g_b1
  obtain ⟨Lx13, X13, Nx13⟩ : ∃ L, Stand p l e room_1 (s.setVm s.vm) m #[(.int p1), (.int p2)] below meth c T13 L 1 14 ∧ Fr n0 L := ⟨_, X13.more (by decide) (by decide), N13⟩
  have V1_12 : Arv Z h13 b1 k1 .int 14 [(.int (5 : Int32)), (.int (6 : Int32)), (.int (7 : Int32)), (.int (9 : Int32)), (.int (11 : Int32)), (.int (13 : Int32)), (.int (14 : Int32)), (.int (20 : Int32)), (.int (52 : Int32)), (.int (55 : Int32)), (.int (57 : Int32)), (.int (75 : Int32)), (.int (0 : Int32)), (.int (0 : Int32))] (.int (0 : Int32)) := Arv.set A1_11 q1_11 S1_11 M1_11 H1_11 G1_11 rfl W13 11 rfl (Nat.le_of_ble_eq_true rfl)
  have CH13 := CHv.wr W13 (Safe.arr hZ.alike A1_11 (by decide)) CH12
  have hkx13 := Nat.le_trans hkx12 (Keep.of_wr W13).1
  have St13 := Sta.wr W13 St12
  have zz13 : n0 ≤ h13.size := Nat.le_trans zz12 (Keep.of_wr W13).1
  obtain ⟨c1_12, A1_12, q1_12, S1_12, M1_12, H1_12, G1_12⟩ := V1_12
  obtain ⟨T14, h14, X14, e14, W14, st14⟩ := stI X13 hx hZ e13 A1_12 (j := (12 : Int32)) (inb_of S1_12 ⟨by decide, by decide⟩) (g := (mkF m 74 #[.val (.int p1), .val (.int p2), .unset, .unset, .unset, .unset] [(.int (76 : Int32)), (.int (12 : Int32)), (.ref b1), (.ref b1)])) rfl rfl (hb hby at_74)
  have N14 := Fr.snoc X14 Nx13 g_b1
  obtain ⟨Lx14, X14, Nx14⟩ : ∃ L, Stand p l e room_1 (s.setVm s.vm) m #[(.int p1), (.int p2)] below meth c T14 L 1 14 ∧ Fr n0 L := ⟨_, X14.more (by decide) (by decide), N14⟩
  have V1_13 : Arv Z h14 b1 k1 .int 14 [(.int (5 : Int32)), (.int (6 : Int32)), (.int (7 : Int32)), (.int (9 : Int32)), (.int (11 : Int32)), (.int (13 : Int32)), (.int (14 : Int32)), (.int (20 : Int32)), (.int (52 : Int32)), (.int (55 : Int32)), (.int (57 : Int32)), (.int (75 : Int32)), (.int (76 : Int32)), (.int (0 : Int32))] (.int (0 : Int32)) := Arv.set A1_12 q1_12 S1_12 M1_12 H1_12 G1_12 rfl W14 12 rfl (Nat.le_of_ble_eq_true rfl)
  have CH14 := CHv.wr W14 (Safe.arr hZ.alike A1_12 (by decide)) CH13
  have hkx14 := Nat.le_trans hkx13 (Keep.of_wr W14).1
  have St14 := Sta.wr W14 St13
  have zz14 : n0 ≤ h14.size := Nat.le_trans zz13 (Keep.of_wr W14).1
  obtain ⟨c1_13, A1_13, q1_13, S1_13, M1_13, H1_13, G1_13⟩ := V1_13
  obtain ⟨T15, h15, X15, e15, W15, st15⟩ := stI X14 hx hZ e14 A1_13 (j := (13 : Int32)) (inb_of S1_13 ⟨by decide, by decide⟩) (g := (mkF m 80 #[.val (.int p1), .val (.int p2), .unset, .unset, .unset, .unset] [(.int (91 : Int32)), (.int (13 : Int32)), (.ref b1), (.ref b1)])) rfl rfl (hb hby at_80)
  have N15 := Fr.snoc X15 Nx14 g_b1
  obtain ⟨Lx15, X15, Nx15⟩ : ∃ L, Stand p l e room_1 (s.setVm s.vm) m #[(.int p1), (.int p2)] below meth c T15 L 1 14 ∧ Fr n0 L := ⟨_, X15.more (by decide) (by decide), N15⟩
  have V1_14 : Arv Z h15 b1 k1 .int 14 [(.int (5 : Int32)), (.int (6 : Int32)), (.int (7 : Int32)), (.int (9 : Int32)), (.int (11 : Int32)), (.int (13 : Int32)), (.int (14 : Int32)), (.int (20 : Int32)), (.int (52 : Int32)), (.int (55 : Int32)), (.int (57 : Int32)), (.int (75 : Int32)), (.int (76 : Int32)), (.int (91 : Int32))] (.int (0 : Int32)) := Arv.set A1_13 q1_13 S1_13 M1_13 H1_13 G1_13 rfl W15 13 rfl (Nat.le_of_ble_eq_true rfl)
  have CH15 := CHv.wr W15 (Safe.arr hZ.alike A1_13 (by decide)) CH14
  have hkx15 := Nat.le_trans hkx14 (Keep.of_wr W15).1
  have St15 := Sta.wr W15 St14
  have zz15 : n0 ≤ h15.size := Nat.le_trans zz14 (Keep.of_wr W15).1
  have VI : Arv Z h15 b1 k1 .int 14 (own_codes.map Value.int) (.int (0 : Int32)) := V1_14
  obtain ⟨T16, h16, k16, X16, e16, E16, A16, O16, st16⟩ := newR X15 hx hZ hown (hw _ (List.mem_of_getElem? (i := 1) rfl)) (hw _ (List.mem_of_getElem? (i := 2) rfl)) e15 (g := (mkF m 84 #[.val (.int p1), .val (.int p2), .val (.ref b1), .unset, .unset, .unset] [(.int (14 : Int32))])) rfl (hb hby at_84) rfl (by decide) (cap := 14) (by decide) (by decide) (by decide) (by decide)
  obtain ⟨b16, g16⟩ : ∃ z, z = h15.size := ⟨_, rfl⟩
  rw [← g16] at A16 st16
  have V16 := Arv.new A16 (by decide)
  have g_b16 : n0 ≤ b16 := Nat.le_trans zz15 (Nat.le_of_eq g16.symm)
  obtain ⟨Lx16, X16, Nx16⟩ : ∃ L, Stand p l e room_1 (s.setVm s.vm) m #[(.int p1), (.int p2)] below meth c T16 L 2 28 ∧ Fr n0 L := ⟨_, X16.more (by decide) (by decide), Nx15⟩
  have CH16 := CHv.ext E16 CH15
  have hkx16 := Nat.le_trans hkx15 E16.1
  have St16 := Sta.ext E16 St15
  have zz16 : n0 ≤ h16.size := Nat.le_trans zz15 E16.1
  have nei : b1 ≠ b16 := Nat.ne_of_lt (Nat.lt_of_lt_of_le VI.lt (Nat.le_of_eq g16.symm))
  have V16_0 : Arv Z h16 b16 k16 (.object "java/lang/String") 14 [.null, .null, .null, .null, .null, .null, .null, .null, .null, .null, .null, .null, .null, .null] .null := V16.pad (pad_rep [] .null 14)
  have pre17 : ∀ tt, Steps p.tables e below (T16.setTop (mkF m 89 #[.val (.int p1), .val (.int p2), .val (.ref b1), .unset, .unset, .unset] [(.int (0 : Int32)), (.ref b16), (.ref b16)])) tt → Steps p.tables e below (s₁.setTop (entryFrame m #[(.int p1), (.int p2)] maxLocals)) tt := by
    intro tt kt
    refine pre0 tt ?_
    show Steps p.tables e below (s₁.setTop (mkF m 0 #[.val (.int p1), .val (.int p2), .unset, .unset, .unset, .unset] [])) _
    refine XS.bipush X0.here hx rfl (hb hby at_0) ?_
    show Steps p.tables e below (s₁.setTop (mkF m 2 #[.val (.int p1), .val (.int p2), .unset, .unset, .unset, .unset] [(.int (14 : Int32))])) _
    refine st1 _ ?_
    show Steps p.tables e below (T1.setTop (mkF m 4 #[.val (.int p1), .val (.int p2), .unset, .unset, .unset, .unset] [(.ref b1)])) _
    refine XS.dup X1.here hx rfl (hb hby at_4) rfl rfl ?_
    show Steps p.tables e below (T1.setTop (mkF m 5 #[.val (.int p1), .val (.int p2), .unset, .unset, .unset, .unset] [(.ref b1), (.ref b1)])) _
    refine XS.iconst X1.here hx rfl (hb hby at_5) ?_
    show Steps p.tables e below (T1.setTop (mkF m 6 #[.val (.int p1), .val (.int p2), .unset, .unset, .unset, .unset] [(.int (0 : Int32)), (.ref b1), (.ref b1)])) _
    refine XS.iconst X1.here hx rfl (hb hby at_6) ?_
    show Steps p.tables e below (T1.setTop (mkF m 7 #[.val (.int p1), .val (.int p2), .unset, .unset, .unset, .unset] [(.int (5 : Int32)), (.int (0 : Int32)), (.ref b1), (.ref b1)])) _
    refine st2 _ ?_
    show Steps p.tables e below (T2.setTop (mkF m 8 #[.val (.int p1), .val (.int p2), .unset, .unset, .unset, .unset] [(.ref b1)])) _
    refine XS.dup X2.here hx rfl (hb hby at_8) rfl rfl ?_
    show Steps p.tables e below (T2.setTop (mkF m 9 #[.val (.int p1), .val (.int p2), .unset, .unset, .unset, .unset] [(.ref b1), (.ref b1)])) _
    refine XS.iconst X2.here hx rfl (hb hby at_9) ?_
    show Steps p.tables e below (T2.setTop (mkF m 10 #[.val (.int p1), .val (.int p2), .unset, .unset, .unset, .unset] [(.int (1 : Int32)), (.ref b1), (.ref b1)])) _
    refine XS.bipush X2.here hx rfl (hb hby at_10) ?_
    show Steps p.tables e below (T2.setTop (mkF m 12 #[.val (.int p1), .val (.int p2), .unset, .unset, .unset, .unset] [(.int (6 : Int32)), (.int (1 : Int32)), (.ref b1), (.ref b1)])) _
    refine st3 _ ?_
    show Steps p.tables e below (T3.setTop (mkF m 13 #[.val (.int p1), .val (.int p2), .unset, .unset, .unset, .unset] [(.ref b1)])) _
    refine XS.dup X3.here hx rfl (hb hby at_13) rfl rfl ?_
    show Steps p.tables e below (T3.setTop (mkF m 14 #[.val (.int p1), .val (.int p2), .unset, .unset, .unset, .unset] [(.ref b1), (.ref b1)])) _
    refine XS.iconst X3.here hx rfl (hb hby at_14) ?_
    show Steps p.tables e below (T3.setTop (mkF m 15 #[.val (.int p1), .val (.int p2), .unset, .unset, .unset, .unset] [(.int (2 : Int32)), (.ref b1), (.ref b1)])) _
    refine XS.bipush X3.here hx rfl (hb hby at_15) ?_
    show Steps p.tables e below (T3.setTop (mkF m 17 #[.val (.int p1), .val (.int p2), .unset, .unset, .unset, .unset] [(.int (7 : Int32)), (.int (2 : Int32)), (.ref b1), (.ref b1)])) _
    refine st4 _ ?_
    show Steps p.tables e below (T4.setTop (mkF m 18 #[.val (.int p1), .val (.int p2), .unset, .unset, .unset, .unset] [(.ref b1)])) _
    refine XS.dup X4.here hx rfl (hb hby at_18) rfl rfl ?_
    show Steps p.tables e below (T4.setTop (mkF m 19 #[.val (.int p1), .val (.int p2), .unset, .unset, .unset, .unset] [(.ref b1), (.ref b1)])) _
    refine XS.iconst X4.here hx rfl (hb hby at_19) ?_
    show Steps p.tables e below (T4.setTop (mkF m 20 #[.val (.int p1), .val (.int p2), .unset, .unset, .unset, .unset] [(.int (3 : Int32)), (.ref b1), (.ref b1)])) _
    refine XS.bipush X4.here hx rfl (hb hby at_20) ?_
    show Steps p.tables e below (T4.setTop (mkF m 22 #[.val (.int p1), .val (.int p2), .unset, .unset, .unset, .unset] [(.int (9 : Int32)), (.int (3 : Int32)), (.ref b1), (.ref b1)])) _
    refine st5 _ ?_
    show Steps p.tables e below (T5.setTop (mkF m 23 #[.val (.int p1), .val (.int p2), .unset, .unset, .unset, .unset] [(.ref b1)])) _
    refine XS.dup X5.here hx rfl (hb hby at_23) rfl rfl ?_
    show Steps p.tables e below (T5.setTop (mkF m 24 #[.val (.int p1), .val (.int p2), .unset, .unset, .unset, .unset] [(.ref b1), (.ref b1)])) _
    refine XS.iconst X5.here hx rfl (hb hby at_24) ?_
    show Steps p.tables e below (T5.setTop (mkF m 25 #[.val (.int p1), .val (.int p2), .unset, .unset, .unset, .unset] [(.int (4 : Int32)), (.ref b1), (.ref b1)])) _
    refine XS.bipush X5.here hx rfl (hb hby at_25) ?_
    show Steps p.tables e below (T5.setTop (mkF m 27 #[.val (.int p1), .val (.int p2), .unset, .unset, .unset, .unset] [(.int (11 : Int32)), (.int (4 : Int32)), (.ref b1), (.ref b1)])) _
    refine st6 _ ?_
    show Steps p.tables e below (T6.setTop (mkF m 28 #[.val (.int p1), .val (.int p2), .unset, .unset, .unset, .unset] [(.ref b1)])) _
    refine XS.dup X6.here hx rfl (hb hby at_28) rfl rfl ?_
    show Steps p.tables e below (T6.setTop (mkF m 29 #[.val (.int p1), .val (.int p2), .unset, .unset, .unset, .unset] [(.ref b1), (.ref b1)])) _
    refine XS.iconst X6.here hx rfl (hb hby at_29) ?_
    show Steps p.tables e below (T6.setTop (mkF m 30 #[.val (.int p1), .val (.int p2), .unset, .unset, .unset, .unset] [(.int (5 : Int32)), (.ref b1), (.ref b1)])) _
    refine XS.bipush X6.here hx rfl (hb hby at_30) ?_
    show Steps p.tables e below (T6.setTop (mkF m 32 #[.val (.int p1), .val (.int p2), .unset, .unset, .unset, .unset] [(.int (13 : Int32)), (.int (5 : Int32)), (.ref b1), (.ref b1)])) _
    refine st7 _ ?_
    show Steps p.tables e below (T7.setTop (mkF m 33 #[.val (.int p1), .val (.int p2), .unset, .unset, .unset, .unset] [(.ref b1)])) _
    refine XS.dup X7.here hx rfl (hb hby at_33) rfl rfl ?_
    show Steps p.tables e below (T7.setTop (mkF m 34 #[.val (.int p1), .val (.int p2), .unset, .unset, .unset, .unset] [(.ref b1), (.ref b1)])) _
    refine XS.bipush X7.here hx rfl (hb hby at_34) ?_
    show Steps p.tables e below (T7.setTop (mkF m 36 #[.val (.int p1), .val (.int p2), .unset, .unset, .unset, .unset] [(.int (6 : Int32)), (.ref b1), (.ref b1)])) _
    refine XS.bipush X7.here hx rfl (hb hby at_36) ?_
    show Steps p.tables e below (T7.setTop (mkF m 38 #[.val (.int p1), .val (.int p2), .unset, .unset, .unset, .unset] [(.int (14 : Int32)), (.int (6 : Int32)), (.ref b1), (.ref b1)])) _
    refine st8 _ ?_
    show Steps p.tables e below (T8.setTop (mkF m 39 #[.val (.int p1), .val (.int p2), .unset, .unset, .unset, .unset] [(.ref b1)])) _
    refine XS.dup X8.here hx rfl (hb hby at_39) rfl rfl ?_
    show Steps p.tables e below (T8.setTop (mkF m 40 #[.val (.int p1), .val (.int p2), .unset, .unset, .unset, .unset] [(.ref b1), (.ref b1)])) _
    refine XS.bipush X8.here hx rfl (hb hby at_40) ?_
    show Steps p.tables e below (T8.setTop (mkF m 42 #[.val (.int p1), .val (.int p2), .unset, .unset, .unset, .unset] [(.int (7 : Int32)), (.ref b1), (.ref b1)])) _
    refine XS.bipush X8.here hx rfl (hb hby at_42) ?_
    show Steps p.tables e below (T8.setTop (mkF m 44 #[.val (.int p1), .val (.int p2), .unset, .unset, .unset, .unset] [(.int (20 : Int32)), (.int (7 : Int32)), (.ref b1), (.ref b1)])) _
    refine st9 _ ?_
    show Steps p.tables e below (T9.setTop (mkF m 45 #[.val (.int p1), .val (.int p2), .unset, .unset, .unset, .unset] [(.ref b1)])) _
    refine XS.dup X9.here hx rfl (hb hby at_45) rfl rfl ?_
    show Steps p.tables e below (T9.setTop (mkF m 46 #[.val (.int p1), .val (.int p2), .unset, .unset, .unset, .unset] [(.ref b1), (.ref b1)])) _
    refine XS.bipush X9.here hx rfl (hb hby at_46) ?_
    show Steps p.tables e below (T9.setTop (mkF m 48 #[.val (.int p1), .val (.int p2), .unset, .unset, .unset, .unset] [(.int (8 : Int32)), (.ref b1), (.ref b1)])) _
    refine XS.bipush X9.here hx rfl (hb hby at_48) ?_
    show Steps p.tables e below (T9.setTop (mkF m 50 #[.val (.int p1), .val (.int p2), .unset, .unset, .unset, .unset] [(.int (52 : Int32)), (.int (8 : Int32)), (.ref b1), (.ref b1)])) _
    refine st10 _ ?_
    show Steps p.tables e below (T10.setTop (mkF m 51 #[.val (.int p1), .val (.int p2), .unset, .unset, .unset, .unset] [(.ref b1)])) _
    refine XS.dup X10.here hx rfl (hb hby at_51) rfl rfl ?_
    show Steps p.tables e below (T10.setTop (mkF m 52 #[.val (.int p1), .val (.int p2), .unset, .unset, .unset, .unset] [(.ref b1), (.ref b1)])) _
    refine XS.bipush X10.here hx rfl (hb hby at_52) ?_
    show Steps p.tables e below (T10.setTop (mkF m 54 #[.val (.int p1), .val (.int p2), .unset, .unset, .unset, .unset] [(.int (9 : Int32)), (.ref b1), (.ref b1)])) _
    refine XS.bipush X10.here hx rfl (hb hby at_54) ?_
    show Steps p.tables e below (T10.setTop (mkF m 56 #[.val (.int p1), .val (.int p2), .unset, .unset, .unset, .unset] [(.int (55 : Int32)), (.int (9 : Int32)), (.ref b1), (.ref b1)])) _
    refine st11 _ ?_
    show Steps p.tables e below (T11.setTop (mkF m 57 #[.val (.int p1), .val (.int p2), .unset, .unset, .unset, .unset] [(.ref b1)])) _
    refine XS.dup X11.here hx rfl (hb hby at_57) rfl rfl ?_
    show Steps p.tables e below (T11.setTop (mkF m 58 #[.val (.int p1), .val (.int p2), .unset, .unset, .unset, .unset] [(.ref b1), (.ref b1)])) _
    refine XS.bipush X11.here hx rfl (hb hby at_58) ?_
    show Steps p.tables e below (T11.setTop (mkF m 60 #[.val (.int p1), .val (.int p2), .unset, .unset, .unset, .unset] [(.int (10 : Int32)), (.ref b1), (.ref b1)])) _
    refine XS.bipush X11.here hx rfl (hb hby at_60) ?_
    show Steps p.tables e below (T11.setTop (mkF m 62 #[.val (.int p1), .val (.int p2), .unset, .unset, .unset, .unset] [(.int (57 : Int32)), (.int (10 : Int32)), (.ref b1), (.ref b1)])) _
    refine st12 _ ?_
    show Steps p.tables e below (T12.setTop (mkF m 63 #[.val (.int p1), .val (.int p2), .unset, .unset, .unset, .unset] [(.ref b1)])) _
    refine XS.dup X12.here hx rfl (hb hby at_63) rfl rfl ?_
    show Steps p.tables e below (T12.setTop (mkF m 64 #[.val (.int p1), .val (.int p2), .unset, .unset, .unset, .unset] [(.ref b1), (.ref b1)])) _
    refine XS.bipush X12.here hx rfl (hb hby at_64) ?_
    show Steps p.tables e below (T12.setTop (mkF m 66 #[.val (.int p1), .val (.int p2), .unset, .unset, .unset, .unset] [(.int (11 : Int32)), (.ref b1), (.ref b1)])) _
    refine XS.bipush X12.here hx rfl (hb hby at_66) ?_
    show Steps p.tables e below (T12.setTop (mkF m 68 #[.val (.int p1), .val (.int p2), .unset, .unset, .unset, .unset] [(.int (75 : Int32)), (.int (11 : Int32)), (.ref b1), (.ref b1)])) _
    refine st13 _ ?_
    show Steps p.tables e below (T13.setTop (mkF m 69 #[.val (.int p1), .val (.int p2), .unset, .unset, .unset, .unset] [(.ref b1)])) _
    refine XS.dup X13.here hx rfl (hb hby at_69) rfl rfl ?_
    show Steps p.tables e below (T13.setTop (mkF m 70 #[.val (.int p1), .val (.int p2), .unset, .unset, .unset, .unset] [(.ref b1), (.ref b1)])) _
    refine XS.bipush X13.here hx rfl (hb hby at_70) ?_
    show Steps p.tables e below (T13.setTop (mkF m 72 #[.val (.int p1), .val (.int p2), .unset, .unset, .unset, .unset] [(.int (12 : Int32)), (.ref b1), (.ref b1)])) _
    refine XS.bipush X13.here hx rfl (hb hby at_72) ?_
    show Steps p.tables e below (T13.setTop (mkF m 74 #[.val (.int p1), .val (.int p2), .unset, .unset, .unset, .unset] [(.int (76 : Int32)), (.int (12 : Int32)), (.ref b1), (.ref b1)])) _
    refine st14 _ ?_
    show Steps p.tables e below (T14.setTop (mkF m 75 #[.val (.int p1), .val (.int p2), .unset, .unset, .unset, .unset] [(.ref b1)])) _
    refine XS.dup X14.here hx rfl (hb hby at_75) rfl rfl ?_
    show Steps p.tables e below (T14.setTop (mkF m 76 #[.val (.int p1), .val (.int p2), .unset, .unset, .unset, .unset] [(.ref b1), (.ref b1)])) _
    refine XS.bipush X14.here hx rfl (hb hby at_76) ?_
    show Steps p.tables e below (T14.setTop (mkF m 78 #[.val (.int p1), .val (.int p2), .unset, .unset, .unset, .unset] [(.int (13 : Int32)), (.ref b1), (.ref b1)])) _
    refine XS.bipush X14.here hx rfl (hb hby at_78) ?_
    show Steps p.tables e below (T14.setTop (mkF m 80 #[.val (.int p1), .val (.int p2), .unset, .unset, .unset, .unset] [(.int (91 : Int32)), (.int (13 : Int32)), (.ref b1), (.ref b1)])) _
    refine st15 _ ?_
    show Steps p.tables e below (T15.setTop (mkF m 81 #[.val (.int p1), .val (.int p2), .unset, .unset, .unset, .unset] [(.ref b1)])) _
    refine XS.astoreN X15.here hx rfl (hb hby at_81) rfl rfl (l' := #[.val (.int p1), .val (.int p2), .val (.ref b1), .unset, .unset, .unset]) rfl ?_
    show Steps p.tables e below (T15.setTop (mkF m 82 #[.val (.int p1), .val (.int p2), .val (.ref b1), .unset, .unset, .unset] [])) _
    refine XS.bipush X15.here hx rfl (hb hby at_82) ?_
    show Steps p.tables e below (T15.setTop (mkF m 84 #[.val (.int p1), .val (.int p2), .val (.ref b1), .unset, .unset, .unset] [(.int (14 : Int32))])) _
    refine st16 _ ?_
    show Steps p.tables e below (T16.setTop (mkF m 87 #[.val (.int p1), .val (.int p2), .val (.ref b1), .unset, .unset, .unset] [(.ref b16)])) _
    refine XS.dup X16.here hx rfl (hb hby at_87) rfl rfl ?_
    show Steps p.tables e below (T16.setTop (mkF m 88 #[.val (.int p1), .val (.int p2), .val (.ref b1), .unset, .unset, .unset] [(.ref b16), (.ref b16)])) _
    refine XS.iconst X16.here hx rfl (hb hby at_88) ?_
    exact kt
  obtain ⟨a18, T18, h18, kk18, b18, k18, X18, e18, E18, hS18, hk18, hZ, hown, A18, C18, F18, V18, la18, lb18, CR18, -, S18, st18⟩ := ldcCH (text := (own_txt 3)) X16 hx hZ hown (hw _ (List.mem_of_getElem? (i := 3) rfl)) (own_wS hw) e16 hS0 hkx16 (own_EW hw) (by decide +kernel) CH16 (vs := (own_bs (own_txt 3)).map Value.int) (z := Int32.ofNat (own_bs (own_txt 3)).length) ⟨by decide +kernel, own_map _⟩ (by decide +kernel) (by decide +kernel) (g := (mkF m 89 #[.val (.int p1), .val (.int p2), .val (.ref b1), .unset, .unset, .unset] [(.int (0 : Int32)), (.ref b16), (.ref b16)])) rfl (hb hby at_89) (n := 136) (by decide +kernel) (by decide) (by decide) (by decide)
  have B18 : StrB Z h18 a18 b18 (own_bs (own_txt 3)) := ⟨A18, C18, F18, k18, V18⟩
  obtain ⟨Lx18, X18, Nx18⟩ : ∃ L, Stand p l e room_1 (s.setVm T18.vm) m #[(.int p1), (.int p2)] below meth c T18 L 4 168 ∧ Fr n0 L := ⟨_, X18.more (by decide) (by decide), Nx16⟩
  have St18 := Sta.ext E18 St16
  have zz18 : n0 ≤ h18.size := Nat.le_trans zz16 E18.1
  obtain ⟨c16_0, A16_0, q16_0, S16_0, M16_0, H16_0, G16_0⟩ := Arv.ext V16_0 E18
  have ne18 := S18 b16 (Safe.arr hZ.alike A16_0 (by decide))
  obtain ⟨T19, h19, X19, e19, W19, st19⟩ := stR X18 hx hZ e18 A16_0 (j := (0 : Int32)) (inb_of S16_0 ⟨by decide, by decide⟩) rfl (Sto.ofV A16_0 q16_0 O16 (Ins.self A18)) (g := (mkF m 91 #[.val (.int p1), .val (.int p2), .val (.ref b1), .unset, .unset, .unset] [(.ref a18), (.int (0 : Int32)), (.ref b16), (.ref b16)])) rfl rfl (hb hby at_91)
  have N19 := Fr.snoc X19 Nx18 g_b16
  obtain ⟨Lx19, X19, Nx19⟩ : ∃ L, Stand p l e room_1 (s.setVm T18.vm) m #[(.int p1), (.int p2)] below meth c T19 L 4 168 ∧ Fr n0 L := ⟨_, X19.more (by decide) (by decide), N19⟩
  have V16_1 : Arv Z h19 b16 k16 (.object "java/lang/String") 14 [(.ref a18), .null, .null, .null, .null, .null, .null, .null, .null, .null, .null, .null, .null, .null] .null := Arv.set A16_0 q16_0 S16_0 M16_0 H16_0 G16_0 rfl W19 0 rfl (Nat.le_of_ble_eq_true rfl)
  have CH19 := CHv.wr W19 (Safe.arr hZ.alike A16_0 (by decide)) CR18.1
  have hkx19 := Nat.le_trans hk18 (Keep.of_wr W19).1
  have St19 := Sta.wr W19 St18
  have zz19 : n0 ≤ h19.size := Nat.le_trans zz18 (Keep.of_wr W19).1
  have pre20 : ∀ tt, Steps p.tables e below (T19.setTop (mkF m 94 #[.val (.int p1), .val (.int p2), .val (.ref b1), .unset, .unset, .unset] [(.int (1 : Int32)), (.ref b16), (.ref b16)])) tt → Steps p.tables e below (s₁.setTop (entryFrame m #[(.int p1), (.int p2)] maxLocals)) tt := by
    intro tt kt
    refine pre17 tt ?_
    show Steps p.tables e below (T16.setTop (mkF m 89 #[.val (.int p1), .val (.int p2), .val (.ref b1), .unset, .unset, .unset] [(.int (0 : Int32)), (.ref b16), (.ref b16)])) _
    refine st18 _ ?_
    show Steps p.tables e below (T18.setTop (mkF m 91 #[.val (.int p1), .val (.int p2), .val (.ref b1), .unset, .unset, .unset] [(.ref a18), (.int (0 : Int32)), (.ref b16), (.ref b16)])) _
    refine st19 _ ?_
    show Steps p.tables e below (T19.setTop (mkF m 92 #[.val (.int p1), .val (.int p2), .val (.ref b1), .unset, .unset, .unset] [(.ref b16)])) _
    refine XS.dup X19.here hx rfl (hb hby at_92) rfl rfl ?_
    show Steps p.tables e below (T19.setTop (mkF m 93 #[.val (.int p1), .val (.int p2), .val (.ref b1), .unset, .unset, .unset] [(.ref b16), (.ref b16)])) _
    refine XS.iconst X19.here hx rfl (hb hby at_93) ?_
    exact kt
  obtain ⟨a21, T21, h21, kk21, b21, k21, X21, e21, E21, hS21, hk21, hZ, hown, A21, C21, F21, V21, la21, lb21, CR21, -, S21, st21⟩ := ldcCH (text := (own_txt 12)) X19 hx hZ hown (hw _ (List.mem_of_getElem? (i := 12) rfl)) (own_wS hw) e19 hS18 hkx19 (own_EW hw) (by decide +kernel) CH19 (vs := (own_bs (own_txt 12)).map Value.int) (z := Int32.ofNat (own_bs (own_txt 12)).length) ⟨by decide +kernel, own_map _⟩ (by decide +kernel) (by decide +kernel) (g := (mkF m 94 #[.val (.int p1), .val (.int p2), .val (.ref b1), .unset, .unset, .unset] [(.int (1 : Int32)), (.ref b16), (.ref b16)])) rfl (hb hby at_94) (n := 32) (by decide +kernel) (by decide) (by decide) (by decide)
  have B21 : StrB Z h21 a21 b21 (own_bs (own_txt 12)) := ⟨A21, C21, F21, k21, V21⟩
  obtain ⟨Lx21, X21, Nx21⟩ : ∃ L, Stand p l e room_1 (s.setVm T21.vm) m #[(.int p1), (.int p2)] below meth c T21 L 6 204 ∧ Fr n0 L := ⟨_, X21.more (by decide) (by decide), Nx19⟩
  have St21 := Sta.ext E21 St19
  have zz21 : n0 ≤ h21.size := Nat.le_trans zz19 E21.1
  obtain ⟨c16_1, A16_1, q16_1, S16_1, M16_1, H16_1, G16_1⟩ := Arv.ext V16_1 E21
  have ne21 := S21 b16 (Safe.arr hZ.alike A16_1 (by decide))
  obtain ⟨T22, h22, X22, e22, W22, st22⟩ := stR X21 hx hZ e21 A16_1 (j := (1 : Int32)) (inb_of S16_1 ⟨by decide, by decide⟩) rfl (Sto.ofV A16_1 q16_1 O16 (Ins.self A21)) (g := (mkF m 96 #[.val (.int p1), .val (.int p2), .val (.ref b1), .unset, .unset, .unset] [(.ref a21), (.int (1 : Int32)), (.ref b16), (.ref b16)])) rfl rfl (hb hby at_96)
  have N22 := Fr.snoc X22 Nx21 g_b16
  obtain ⟨Lx22, X22, Nx22⟩ : ∃ L, Stand p l e room_1 (s.setVm T21.vm) m #[(.int p1), (.int p2)] below meth c T22 L 6 204 ∧ Fr n0 L := ⟨_, X22.more (by decide) (by decide), N22⟩
  have V16_2 : Arv Z h22 b16 k16 (.object "java/lang/String") 14 [(.ref a18), (.ref a21), .null, .null, .null, .null, .null, .null, .null, .null, .null, .null, .null, .null] .null := Arv.set A16_1 q16_1 S16_1 M16_1 H16_1 G16_1 rfl W22 1 rfl (Nat.le_of_ble_eq_true rfl)
  have CH22 := CHv.wr W22 (Safe.arr hZ.alike A16_1 (by decide)) CR21.1
  have hkx22 := Nat.le_trans hk21 (Keep.of_wr W22).1
  have St22 := Sta.wr W22 St21
  have zz22 : n0 ≤ h22.size := Nat.le_trans zz21 (Keep.of_wr W22).1
  have pre23 : ∀ tt, Steps p.tables e below (T22.setTop (mkF m 99 #[.val (.int p1), .val (.int p2), .val (.ref b1), .unset, .unset, .unset] [(.int (2 : Int32)), (.ref b16), (.ref b16)])) tt → Steps p.tables e below (s₁.setTop (entryFrame m #[(.int p1), (.int p2)] maxLocals)) tt := by
    intro tt kt
    refine pre20 tt ?_
    show Steps p.tables e below (T19.setTop (mkF m 94 #[.val (.int p1), .val (.int p2), .val (.ref b1), .unset, .unset, .unset] [(.int (1 : Int32)), (.ref b16), (.ref b16)])) _
    refine st21 _ ?_
    show Steps p.tables e below (T21.setTop (mkF m 96 #[.val (.int p1), .val (.int p2), .val (.ref b1), .unset, .unset, .unset] [(.ref a21), (.int (1 : Int32)), (.ref b16), (.ref b16)])) _
    refine st22 _ ?_
    show Steps p.tables e below (T22.setTop (mkF m 97 #[.val (.int p1), .val (.int p2), .val (.ref b1), .unset, .unset, .unset] [(.ref b16)])) _
    refine XS.dup X22.here hx rfl (hb hby at_97) rfl rfl ?_
    show Steps p.tables e below (T22.setTop (mkF m 98 #[.val (.int p1), .val (.int p2), .val (.ref b1), .unset, .unset, .unset] [(.ref b16), (.ref b16)])) _
    refine XS.iconst X22.here hx rfl (hb hby at_98) ?_
    exact kt
  obtain ⟨a24, T24, h24, kk24, b24, k24, X24, e24, E24, hS24, hk24, hZ, hown, A24, C24, F24, V24, la24, lb24, CR24, -, S24, st24⟩ := ldcCH (text := (own_txt 13)) X22 hx hZ hown (hw _ (List.mem_of_getElem? (i := 13) rfl)) (own_wS hw) e22 hS21 hkx22 (own_EW hw) (by decide +kernel) CH22 (vs := (own_bs (own_txt 13)).map Value.int) (z := Int32.ofNat (own_bs (own_txt 13)).length) ⟨by decide +kernel, own_map _⟩ (by decide +kernel) (by decide +kernel) (g := (mkF m 99 #[.val (.int p1), .val (.int p2), .val (.ref b1), .unset, .unset, .unset] [(.int (2 : Int32)), (.ref b16), (.ref b16)])) rfl (hb hby at_99) (n := 52) (by decide +kernel) (by decide) (by decide) (by decide)
  have B24 : StrB Z h24 a24 b24 (own_bs (own_txt 13)) := ⟨A24, C24, F24, k24, V24⟩
  obtain ⟨Lx24, X24, Nx24⟩ : ∃ L, Stand p l e room_1 (s.setVm T24.vm) m #[(.int p1), (.int p2)] below meth c T24 L 8 260 ∧ Fr n0 L := ⟨_, X24.more (by decide) (by decide), Nx22⟩
  have St24 := Sta.ext E24 St22
  have zz24 : n0 ≤ h24.size := Nat.le_trans zz22 E24.1
  obtain ⟨c16_2, A16_2, q16_2, S16_2, M16_2, H16_2, G16_2⟩ := Arv.ext V16_2 E24
  have ne24 := S24 b16 (Safe.arr hZ.alike A16_2 (by decide))
  obtain ⟨T25, h25, X25, e25, W25, st25⟩ := stR X24 hx hZ e24 A16_2 (j := (2 : Int32)) (inb_of S16_2 ⟨by decide, by decide⟩) rfl (Sto.ofV A16_2 q16_2 O16 (Ins.self A24)) (g := (mkF m 101 #[.val (.int p1), .val (.int p2), .val (.ref b1), .unset, .unset, .unset] [(.ref a24), (.int (2 : Int32)), (.ref b16), (.ref b16)])) rfl rfl (hb hby at_101)
  have N25 := Fr.snoc X25 Nx24 g_b16
  obtain ⟨Lx25, X25, Nx25⟩ : ∃ L, Stand p l e room_1 (s.setVm T24.vm) m #[(.int p1), (.int p2)] below meth c T25 L 8 260 ∧ Fr n0 L := ⟨_, X25.more (by decide) (by decide), N25⟩
  have V16_3 : Arv Z h25 b16 k16 (.object "java/lang/String") 14 [(.ref a18), (.ref a21), (.ref a24), .null, .null, .null, .null, .null, .null, .null, .null, .null, .null, .null] .null := Arv.set A16_2 q16_2 S16_2 M16_2 H16_2 G16_2 rfl W25 2 rfl (Nat.le_of_ble_eq_true rfl)
  have CH25 := CHv.wr W25 (Safe.arr hZ.alike A16_2 (by decide)) CR24.1
  have hkx25 := Nat.le_trans hk24 (Keep.of_wr W25).1
  have St25 := Sta.wr W25 St24
  have zz25 : n0 ≤ h25.size := Nat.le_trans zz24 (Keep.of_wr W25).1
  have pre26 : ∀ tt, Steps p.tables e below (T25.setTop (mkF m 104 #[.val (.int p1), .val (.int p2), .val (.ref b1), .unset, .unset, .unset] [(.int (3 : Int32)), (.ref b16), (.ref b16)])) tt → Steps p.tables e below (s₁.setTop (entryFrame m #[(.int p1), (.int p2)] maxLocals)) tt := by
    intro tt kt
    refine pre23 tt ?_
    show Steps p.tables e below (T22.setTop (mkF m 99 #[.val (.int p1), .val (.int p2), .val (.ref b1), .unset, .unset, .unset] [(.int (2 : Int32)), (.ref b16), (.ref b16)])) _
    refine st24 _ ?_
    show Steps p.tables e below (T24.setTop (mkF m 101 #[.val (.int p1), .val (.int p2), .val (.ref b1), .unset, .unset, .unset] [(.ref a24), (.int (2 : Int32)), (.ref b16), (.ref b16)])) _
    refine st25 _ ?_
    show Steps p.tables e below (T25.setTop (mkF m 102 #[.val (.int p1), .val (.int p2), .val (.ref b1), .unset, .unset, .unset] [(.ref b16)])) _
    refine XS.dup X25.here hx rfl (hb hby at_102) rfl rfl ?_
    show Steps p.tables e below (T25.setTop (mkF m 103 #[.val (.int p1), .val (.int p2), .val (.ref b1), .unset, .unset, .unset] [(.ref b16), (.ref b16)])) _
    refine XS.iconst X25.here hx rfl (hb hby at_103) ?_
    exact kt
  obtain ⟨a27, T27, h27, kk27, b27, k27, X27, e27, E27, hS27, hk27, hZ, hown, A27, C27, F27, V27, la27, lb27, CR27, -, S27, st27⟩ := ldcCH (text := (own_txt 14)) X25 hx hZ hown (hw _ (List.mem_of_getElem? (i := 14) rfl)) (own_wS hw) e25 hS24 hkx25 (own_EW hw) (by decide +kernel) CH25 (vs := (own_bs (own_txt 14)).map Value.int) (z := Int32.ofNat (own_bs (own_txt 14)).length) ⟨by decide +kernel, own_map _⟩ (by decide +kernel) (by decide +kernel) (g := (mkF m 104 #[.val (.int p1), .val (.int p2), .val (.ref b1), .unset, .unset, .unset] [(.int (3 : Int32)), (.ref b16), (.ref b16)])) rfl (hb hby at_104) (n := 88) (by decide +kernel) (by decide) (by decide) (by decide)
  have B27 : StrB Z h27 a27 b27 (own_bs (own_txt 14)) := ⟨A27, C27, F27, k27, V27⟩
  obtain ⟨Lx27, X27, Nx27⟩ : ∃ L, Stand p l e room_1 (s.setVm T27.vm) m #[(.int p1), (.int p2)] below meth c T27 L 10 352 ∧ Fr n0 L := ⟨_, X27.more (by decide) (by decide), Nx25⟩
  have St27 := Sta.ext E27 St25
  have zz27 : n0 ≤ h27.size := Nat.le_trans zz25 E27.1
  obtain ⟨c16_3, A16_3, q16_3, S16_3, M16_3, H16_3, G16_3⟩ := Arv.ext V16_3 E27
  have ne27 := S27 b16 (Safe.arr hZ.alike A16_3 (by decide))
  obtain ⟨T28, h28, X28, e28, W28, st28⟩ := stR X27 hx hZ e27 A16_3 (j := (3 : Int32)) (inb_of S16_3 ⟨by decide, by decide⟩) rfl (Sto.ofV A16_3 q16_3 O16 (Ins.self A27)) (g := (mkF m 106 #[.val (.int p1), .val (.int p2), .val (.ref b1), .unset, .unset, .unset] [(.ref a27), (.int (3 : Int32)), (.ref b16), (.ref b16)])) rfl rfl (hb hby at_106)
  have N28 := Fr.snoc X28 Nx27 g_b16
  obtain ⟨Lx28, X28, Nx28⟩ : ∃ L, Stand p l e room_1 (s.setVm T27.vm) m #[(.int p1), (.int p2)] below meth c T28 L 10 352 ∧ Fr n0 L := ⟨_, X28.more (by decide) (by decide), N28⟩
  have V16_4 : Arv Z h28 b16 k16 (.object "java/lang/String") 14 [(.ref a18), (.ref a21), (.ref a24), (.ref a27), .null, .null, .null, .null, .null, .null, .null, .null, .null, .null] .null := Arv.set A16_3 q16_3 S16_3 M16_3 H16_3 G16_3 rfl W28 3 rfl (Nat.le_of_ble_eq_true rfl)
  have CH28 := CHv.wr W28 (Safe.arr hZ.alike A16_3 (by decide)) CR27.1
  have hkx28 := Nat.le_trans hk27 (Keep.of_wr W28).1
  have St28 := Sta.wr W28 St27
  have zz28 : n0 ≤ h28.size := Nat.le_trans zz27 (Keep.of_wr W28).1
  have pre29 : ∀ tt, Steps p.tables e below (T28.setTop (mkF m 109 #[.val (.int p1), .val (.int p2), .val (.ref b1), .unset, .unset, .unset] [(.int (4 : Int32)), (.ref b16), (.ref b16)])) tt → Steps p.tables e below (s₁.setTop (entryFrame m #[(.int p1), (.int p2)] maxLocals)) tt := by
    intro tt kt
    refine pre26 tt ?_
    show Steps p.tables e below (T25.setTop (mkF m 104 #[.val (.int p1), .val (.int p2), .val (.ref b1), .unset, .unset, .unset] [(.int (3 : Int32)), (.ref b16), (.ref b16)])) _
    refine st27 _ ?_
    show Steps p.tables e below (T27.setTop (mkF m 106 #[.val (.int p1), .val (.int p2), .val (.ref b1), .unset, .unset, .unset] [(.ref a27), (.int (3 : Int32)), (.ref b16), (.ref b16)])) _
    refine st28 _ ?_
    show Steps p.tables e below (T28.setTop (mkF m 107 #[.val (.int p1), .val (.int p2), .val (.ref b1), .unset, .unset, .unset] [(.ref b16)])) _
    refine XS.dup X28.here hx rfl (hb hby at_107) rfl rfl ?_
    show Steps p.tables e below (T28.setTop (mkF m 108 #[.val (.int p1), .val (.int p2), .val (.ref b1), .unset, .unset, .unset] [(.ref b16), (.ref b16)])) _
    refine XS.iconst X28.here hx rfl (hb hby at_108) ?_
    exact kt
  obtain ⟨a30, T30, h30, kk30, b30, k30, X30, e30, E30, hS30, hk30, hZ, hown, A30, C30, F30, V30, la30, lb30, CR30, -, S30, st30⟩ := ldcCH (text := (own_txt 15)) X28 hx hZ hown (hw _ (List.mem_of_getElem? (i := 15) rfl)) (own_wS hw) e28 hS27 hkx28 (own_EW hw) (by decide +kernel) CH28 (vs := (own_bs (own_txt 15)).map Value.int) (z := Int32.ofNat (own_bs (own_txt 15)).length) ⟨by decide +kernel, own_map _⟩ (by decide +kernel) (by decide +kernel) (g := (mkF m 109 #[.val (.int p1), .val (.int p2), .val (.ref b1), .unset, .unset, .unset] [(.int (4 : Int32)), (.ref b16), (.ref b16)])) rfl (hb hby at_109) (n := 64) (by decide +kernel) (by decide) (by decide) (by decide)
  have B30 : StrB Z h30 a30 b30 (own_bs (own_txt 15)) := ⟨A30, C30, F30, k30, V30⟩
  obtain ⟨Lx30, X30, Nx30⟩ : ∃ L, Stand p l e room_1 (s.setVm T30.vm) m #[(.int p1), (.int p2)] below meth c T30 L 12 420 ∧ Fr n0 L := ⟨_, X30.more (by decide) (by decide), Nx28⟩
  have St30 := Sta.ext E30 St28
  have zz30 : n0 ≤ h30.size := Nat.le_trans zz28 E30.1
  obtain ⟨c16_4, A16_4, q16_4, S16_4, M16_4, H16_4, G16_4⟩ := Arv.ext V16_4 E30
  have ne30 := S30 b16 (Safe.arr hZ.alike A16_4 (by decide))
  obtain ⟨T31, h31, X31, e31, W31, st31⟩ := stR X30 hx hZ e30 A16_4 (j := (4 : Int32)) (inb_of S16_4 ⟨by decide, by decide⟩) rfl (Sto.ofV A16_4 q16_4 O16 (Ins.self A30)) (g := (mkF m 111 #[.val (.int p1), .val (.int p2), .val (.ref b1), .unset, .unset, .unset] [(.ref a30), (.int (4 : Int32)), (.ref b16), (.ref b16)])) rfl rfl (hb hby at_111)
  have N31 := Fr.snoc X31 Nx30 g_b16
  obtain ⟨Lx31, X31, Nx31⟩ : ∃ L, Stand p l e room_1 (s.setVm T30.vm) m #[(.int p1), (.int p2)] below meth c T31 L 12 420 ∧ Fr n0 L := ⟨_, X31.more (by decide) (by decide), N31⟩
  have V16_5 : Arv Z h31 b16 k16 (.object "java/lang/String") 14 [(.ref a18), (.ref a21), (.ref a24), (.ref a27), (.ref a30), .null, .null, .null, .null, .null, .null, .null, .null, .null] .null := Arv.set A16_4 q16_4 S16_4 M16_4 H16_4 G16_4 rfl W31 4 rfl (Nat.le_of_ble_eq_true rfl)
  have CH31 := CHv.wr W31 (Safe.arr hZ.alike A16_4 (by decide)) CR30.1
  have hkx31 := Nat.le_trans hk30 (Keep.of_wr W31).1
  have St31 := Sta.wr W31 St30
  have zz31 : n0 ≤ h31.size := Nat.le_trans zz30 (Keep.of_wr W31).1
  have pre32 : ∀ tt, Steps p.tables e below (T31.setTop (mkF m 114 #[.val (.int p1), .val (.int p2), .val (.ref b1), .unset, .unset, .unset] [(.int (5 : Int32)), (.ref b16), (.ref b16)])) tt → Steps p.tables e below (s₁.setTop (entryFrame m #[(.int p1), (.int p2)] maxLocals)) tt := by
    intro tt kt
    refine pre29 tt ?_
    show Steps p.tables e below (T28.setTop (mkF m 109 #[.val (.int p1), .val (.int p2), .val (.ref b1), .unset, .unset, .unset] [(.int (4 : Int32)), (.ref b16), (.ref b16)])) _
    refine st30 _ ?_
    show Steps p.tables e below (T30.setTop (mkF m 111 #[.val (.int p1), .val (.int p2), .val (.ref b1), .unset, .unset, .unset] [(.ref a30), (.int (4 : Int32)), (.ref b16), (.ref b16)])) _
    refine st31 _ ?_
    show Steps p.tables e below (T31.setTop (mkF m 112 #[.val (.int p1), .val (.int p2), .val (.ref b1), .unset, .unset, .unset] [(.ref b16)])) _
    refine XS.dup X31.here hx rfl (hb hby at_112) rfl rfl ?_
    show Steps p.tables e below (T31.setTop (mkF m 113 #[.val (.int p1), .val (.int p2), .val (.ref b1), .unset, .unset, .unset] [(.ref b16), (.ref b16)])) _
    refine XS.iconst X31.here hx rfl (hb hby at_113) ?_
    exact kt
  obtain ⟨a33, T33, h33, kk33, b33, k33, X33, e33, E33, hS33, hk33, hZ, hown, A33, C33, F33, V33, la33, lb33, CR33, -, S33, st33⟩ := ldcCH (text := (own_txt 16)) X31 hx hZ hown (hw _ (List.mem_of_getElem? (i := 16) rfl)) (own_wS hw) e31 hS30 hkx31 (own_EW hw) (by decide +kernel) CH31 (vs := (own_bs (own_txt 16)).map Value.int) (z := Int32.ofNat (own_bs (own_txt 16)).length) ⟨by decide +kernel, own_map _⟩ (by decide +kernel) (by decide +kernel) (g := (mkF m 114 #[.val (.int p1), .val (.int p2), .val (.ref b1), .unset, .unset, .unset] [(.int (5 : Int32)), (.ref b16), (.ref b16)])) rfl (hb hby at_114) (n := 52) (by decide +kernel) (by decide) (by decide) (by decide)
  have B33 : StrB Z h33 a33 b33 (own_bs (own_txt 16)) := ⟨A33, C33, F33, k33, V33⟩
  obtain ⟨Lx33, X33, Nx33⟩ : ∃ L, Stand p l e room_1 (s.setVm T33.vm) m #[(.int p1), (.int p2)] below meth c T33 L 14 476 ∧ Fr n0 L := ⟨_, X33.more (by decide) (by decide), Nx31⟩
  have St33 := Sta.ext E33 St31
  have zz33 : n0 ≤ h33.size := Nat.le_trans zz31 E33.1
  obtain ⟨c16_5, A16_5, q16_5, S16_5, M16_5, H16_5, G16_5⟩ := Arv.ext V16_5 E33
  have ne33 := S33 b16 (Safe.arr hZ.alike A16_5 (by decide))
  obtain ⟨T34, h34, X34, e34, W34, st34⟩ := stR X33 hx hZ e33 A16_5 (j := (5 : Int32)) (inb_of S16_5 ⟨by decide, by decide⟩) rfl (Sto.ofV A16_5 q16_5 O16 (Ins.self A33)) (g := (mkF m 116 #[.val (.int p1), .val (.int p2), .val (.ref b1), .unset, .unset, .unset] [(.ref a33), (.int (5 : Int32)), (.ref b16), (.ref b16)])) rfl rfl (hb hby at_116)
  have N34 := Fr.snoc X34 Nx33 g_b16
  obtain ⟨Lx34, X34, Nx34⟩ : ∃ L, Stand p l e room_1 (s.setVm T33.vm) m #[(.int p1), (.int p2)] below meth c T34 L 14 476 ∧ Fr n0 L := ⟨_, X34.more (by decide) (by decide), N34⟩
  have V16_6 : Arv Z h34 b16 k16 (.object "java/lang/String") 14 [(.ref a18), (.ref a21), (.ref a24), (.ref a27), (.ref a30), (.ref a33), .null, .null, .null, .null, .null, .null, .null, .null] .null := Arv.set A16_5 q16_5 S16_5 M16_5 H16_5 G16_5 rfl W34 5 rfl (Nat.le_of_ble_eq_true rfl)
  have CH34 := CHv.wr W34 (Safe.arr hZ.alike A16_5 (by decide)) CR33.1
  have hkx34 := Nat.le_trans hk33 (Keep.of_wr W34).1
  have St34 := Sta.wr W34 St33
  have zz34 : n0 ≤ h34.size := Nat.le_trans zz33 (Keep.of_wr W34).1
  have pre35 : ∀ tt, Steps p.tables e below (T34.setTop (mkF m 120 #[.val (.int p1), .val (.int p2), .val (.ref b1), .unset, .unset, .unset] [(.int (6 : Int32)), (.ref b16), (.ref b16)])) tt → Steps p.tables e below (s₁.setTop (entryFrame m #[(.int p1), (.int p2)] maxLocals)) tt := by
    intro tt kt
    refine pre32 tt ?_
    show Steps p.tables e below (T31.setTop (mkF m 114 #[.val (.int p1), .val (.int p2), .val (.ref b1), .unset, .unset, .unset] [(.int (5 : Int32)), (.ref b16), (.ref b16)])) _
    refine st33 _ ?_
    show Steps p.tables e below (T33.setTop (mkF m 116 #[.val (.int p1), .val (.int p2), .val (.ref b1), .unset, .unset, .unset] [(.ref a33), (.int (5 : Int32)), (.ref b16), (.ref b16)])) _
    refine st34 _ ?_
    show Steps p.tables e below (T34.setTop (mkF m 117 #[.val (.int p1), .val (.int p2), .val (.ref b1), .unset, .unset, .unset] [(.ref b16)])) _
    refine XS.dup X34.here hx rfl (hb hby at_117) rfl rfl ?_
    show Steps p.tables e below (T34.setTop (mkF m 118 #[.val (.int p1), .val (.int p2), .val (.ref b1), .unset, .unset, .unset] [(.ref b16), (.ref b16)])) _
    refine XS.bipush X34.here hx rfl (hb hby at_118) ?_
    exact kt
  obtain ⟨a36, T36, h36, kk36, b36, k36, X36, e36, E36, hS36, hk36, hZ, hown, A36, C36, F36, V36, la36, lb36, CR36, -, S36, st36⟩ := ldcCH (text := (own_txt 17)) X34 hx hZ hown (hw _ (List.mem_of_getElem? (i := 17) rfl)) (own_wS hw) e34 hS33 hkx34 (own_EW hw) (by decide +kernel) CH34 (vs := (own_bs (own_txt 17)).map Value.int) (z := Int32.ofNat (own_bs (own_txt 17)).length) ⟨by decide +kernel, own_map _⟩ (by decide +kernel) (by decide +kernel) (g := (mkF m 120 #[.val (.int p1), .val (.int p2), .val (.ref b1), .unset, .unset, .unset] [(.int (6 : Int32)), (.ref b16), (.ref b16)])) rfl (hb hby at_120) (n := 76) (by decide +kernel) (by decide) (by decide) (by decide)
  have B36 : StrB Z h36 a36 b36 (own_bs (own_txt 17)) := ⟨A36, C36, F36, k36, V36⟩
  obtain ⟨Lx36, X36, Nx36⟩ : ∃ L, Stand p l e room_1 (s.setVm T36.vm) m #[(.int p1), (.int p2)] below meth c T36 L 16 556 ∧ Fr n0 L := ⟨_, X36.more (by decide) (by decide), Nx34⟩
  have St36 := Sta.ext E36 St34
  have zz36 : n0 ≤ h36.size := Nat.le_trans zz34 E36.1
  obtain ⟨c16_6, A16_6, q16_6, S16_6, M16_6, H16_6, G16_6⟩ := Arv.ext V16_6 E36
  have ne36 := S36 b16 (Safe.arr hZ.alike A16_6 (by decide))
  obtain ⟨T37, h37, X37, e37, W37, st37⟩ := stR X36 hx hZ e36 A16_6 (j := (6 : Int32)) (inb_of S16_6 ⟨by decide, by decide⟩) rfl (Sto.ofV A16_6 q16_6 O16 (Ins.self A36)) (g := (mkF m 122 #[.val (.int p1), .val (.int p2), .val (.ref b1), .unset, .unset, .unset] [(.ref a36), (.int (6 : Int32)), (.ref b16), (.ref b16)])) rfl rfl (hb hby at_122)
  have N37 := Fr.snoc X37 Nx36 g_b16
  obtain ⟨Lx37, X37, Nx37⟩ : ∃ L, Stand p l e room_1 (s.setVm T36.vm) m #[(.int p1), (.int p2)] below meth c T37 L 16 556 ∧ Fr n0 L := ⟨_, X37.more (by decide) (by decide), N37⟩
  have V16_7 : Arv Z h37 b16 k16 (.object "java/lang/String") 14 [(.ref a18), (.ref a21), (.ref a24), (.ref a27), (.ref a30), (.ref a33), (.ref a36), .null, .null, .null, .null, .null, .null, .null] .null := Arv.set A16_6 q16_6 S16_6 M16_6 H16_6 G16_6 rfl W37 6 rfl (Nat.le_of_ble_eq_true rfl)
  have CH37 := CHv.wr W37 (Safe.arr hZ.alike A16_6 (by decide)) CR36.1
  have hkx37 := Nat.le_trans hk36 (Keep.of_wr W37).1
  have St37 := Sta.wr W37 St36
  have zz37 : n0 ≤ h37.size := Nat.le_trans zz36 (Keep.of_wr W37).1
  have pre38 : ∀ tt, Steps p.tables e below (T37.setTop (mkF m 126 #[.val (.int p1), .val (.int p2), .val (.ref b1), .unset, .unset, .unset] [(.int (7 : Int32)), (.ref b16), (.ref b16)])) tt → Steps p.tables e below (s₁.setTop (entryFrame m #[(.int p1), (.int p2)] maxLocals)) tt := by
    intro tt kt
    refine pre35 tt ?_
    show Steps p.tables e below (T34.setTop (mkF m 120 #[.val (.int p1), .val (.int p2), .val (.ref b1), .unset, .unset, .unset] [(.int (6 : Int32)), (.ref b16), (.ref b16)])) _
    refine st36 _ ?_
    show Steps p.tables e below (T36.setTop (mkF m 122 #[.val (.int p1), .val (.int p2), .val (.ref b1), .unset, .unset, .unset] [(.ref a36), (.int (6 : Int32)), (.ref b16), (.ref b16)])) _
    refine st37 _ ?_
    show Steps p.tables e below (T37.setTop (mkF m 123 #[.val (.int p1), .val (.int p2), .val (.ref b1), .unset, .unset, .unset] [(.ref b16)])) _
    refine XS.dup X37.here hx rfl (hb hby at_123) rfl rfl ?_
    show Steps p.tables e below (T37.setTop (mkF m 124 #[.val (.int p1), .val (.int p2), .val (.ref b1), .unset, .unset, .unset] [(.ref b16), (.ref b16)])) _
    refine XS.bipush X37.here hx rfl (hb hby at_124) ?_
    exact kt
  obtain ⟨a39, T39, h39, kk39, b39, k39, X39, e39, E39, hS39, hk39, hZ, hown, A39, C39, F39, V39, la39, lb39, CR39, -, S39, st39⟩ := ldcCH (text := (own_txt 18)) X37 hx hZ hown (hw _ (List.mem_of_getElem? (i := 18) rfl)) (own_wS hw) e37 hS36 hkx37 (own_EW hw) (by decide +kernel) CH37 (vs := (own_bs (own_txt 18)).map Value.int) (z := Int32.ofNat (own_bs (own_txt 18)).length) ⟨by decide +kernel, own_map _⟩ (by decide +kernel) (by decide +kernel) (g := (mkF m 126 #[.val (.int p1), .val (.int p2), .val (.ref b1), .unset, .unset, .unset] [(.int (7 : Int32)), (.ref b16), (.ref b16)])) rfl (hb hby at_126) (n := 80) (by decide +kernel) (by decide) (by decide) (by decide)
  have B39 : StrB Z h39 a39 b39 (own_bs (own_txt 18)) := ⟨A39, C39, F39, k39, V39⟩
  obtain ⟨Lx39, X39, Nx39⟩ : ∃ L, Stand p l e room_1 (s.setVm T39.vm) m #[(.int p1), (.int p2)] below meth c T39 L 18 640 ∧ Fr n0 L := ⟨_, X39.more (by decide) (by decide), Nx37⟩
  have St39 := Sta.ext E39 St37
  have zz39 : n0 ≤ h39.size := Nat.le_trans zz37 E39.1
  obtain ⟨c16_7, A16_7, q16_7, S16_7, M16_7, H16_7, G16_7⟩ := Arv.ext V16_7 E39
  have ne39 := S39 b16 (Safe.arr hZ.alike A16_7 (by decide))
  obtain ⟨T40, h40, X40, e40, W40, st40⟩ := stR X39 hx hZ e39 A16_7 (j := (7 : Int32)) (inb_of S16_7 ⟨by decide, by decide⟩) rfl (Sto.ofV A16_7 q16_7 O16 (Ins.self A39)) (g := (mkF m 128 #[.val (.int p1), .val (.int p2), .val (.ref b1), .unset, .unset, .unset] [(.ref a39), (.int (7 : Int32)), (.ref b16), (.ref b16)])) rfl rfl (hb hby at_128)
  have N40 := Fr.snoc X40 Nx39 g_b16
  obtain ⟨Lx40, X40, Nx40⟩ : ∃ L, Stand p l e room_1 (s.setVm T39.vm) m #[(.int p1), (.int p2)] below meth c T40 L 18 640 ∧ Fr n0 L := ⟨_, X40.more (by decide) (by decide), N40⟩
  have V16_8 : Arv Z h40 b16 k16 (.object "java/lang/String") 14 [(.ref a18), (.ref a21), (.ref a24), (.ref a27), (.ref a30), (.ref a33), (.ref a36), (.ref a39), .null, .null, .null, .null, .null, .null] .null := Arv.set A16_7 q16_7 S16_7 M16_7 H16_7 G16_7 rfl W40 7 rfl (Nat.le_of_ble_eq_true rfl)
  have CH40 := CHv.wr W40 (Safe.arr hZ.alike A16_7 (by decide)) CR39.1
  have hkx40 := Nat.le_trans hk39 (Keep.of_wr W40).1
  have St40 := Sta.wr W40 St39
  have zz40 : n0 ≤ h40.size := Nat.le_trans zz39 (Keep.of_wr W40).1
  have pre41 : ∀ tt, Steps p.tables e below (T40.setTop (mkF m 132 #[.val (.int p1), .val (.int p2), .val (.ref b1), .unset, .unset, .unset] [(.int (8 : Int32)), (.ref b16), (.ref b16)])) tt → Steps p.tables e below (s₁.setTop (entryFrame m #[(.int p1), (.int p2)] maxLocals)) tt := by
    intro tt kt
    refine pre38 tt ?_
    show Steps p.tables e below (T37.setTop (mkF m 126 #[.val (.int p1), .val (.int p2), .val (.ref b1), .unset, .unset, .unset] [(.int (7 : Int32)), (.ref b16), (.ref b16)])) _
    refine st39 _ ?_
    show Steps p.tables e below (T39.setTop (mkF m 128 #[.val (.int p1), .val (.int p2), .val (.ref b1), .unset, .unset, .unset] [(.ref a39), (.int (7 : Int32)), (.ref b16), (.ref b16)])) _
    refine st40 _ ?_
    show Steps p.tables e below (T40.setTop (mkF m 129 #[.val (.int p1), .val (.int p2), .val (.ref b1), .unset, .unset, .unset] [(.ref b16)])) _
    refine XS.dup X40.here hx rfl (hb hby at_129) rfl rfl ?_
    show Steps p.tables e below (T40.setTop (mkF m 130 #[.val (.int p1), .val (.int p2), .val (.ref b1), .unset, .unset, .unset] [(.ref b16), (.ref b16)])) _
    refine XS.bipush X40.here hx rfl (hb hby at_130) ?_
    exact kt
  obtain ⟨a42, T42, h42, kk42, b42, k42, X42, e42, E42, hS42, hk42, hZ, hown, A42, C42, F42, V42, la42, lb42, CR42, -, S42, st42⟩ := ldcCH (text := (own_txt 19)) X40 hx hZ hown (hw _ (List.mem_of_getElem? (i := 19) rfl)) (own_wS hw) e40 hS39 hkx40 (own_EW hw) (by decide +kernel) CH40 (vs := (own_bs (own_txt 19)).map Value.int) (z := Int32.ofNat (own_bs (own_txt 19)).length) ⟨by decide +kernel, own_map _⟩ (by decide +kernel) (by decide +kernel) (g := (mkF m 132 #[.val (.int p1), .val (.int p2), .val (.ref b1), .unset, .unset, .unset] [(.int (8 : Int32)), (.ref b16), (.ref b16)])) rfl (hb hby at_132) (n := 92) (by decide +kernel) (by decide) (by decide) (by decide)
  have B42 : StrB Z h42 a42 b42 (own_bs (own_txt 19)) := ⟨A42, C42, F42, k42, V42⟩
  obtain ⟨Lx42, X42, Nx42⟩ : ∃ L, Stand p l e room_1 (s.setVm T42.vm) m #[(.int p1), (.int p2)] below meth c T42 L 20 736 ∧ Fr n0 L := ⟨_, X42.more (by decide) (by decide), Nx40⟩
  have St42 := Sta.ext E42 St40
  have zz42 : n0 ≤ h42.size := Nat.le_trans zz40 E42.1
  obtain ⟨c16_8, A16_8, q16_8, S16_8, M16_8, H16_8, G16_8⟩ := Arv.ext V16_8 E42
  have ne42 := S42 b16 (Safe.arr hZ.alike A16_8 (by decide))
  obtain ⟨T43, h43, X43, e43, W43, st43⟩ := stR X42 hx hZ e42 A16_8 (j := (8 : Int32)) (inb_of S16_8 ⟨by decide, by decide⟩) rfl (Sto.ofV A16_8 q16_8 O16 (Ins.self A42)) (g := (mkF m 134 #[.val (.int p1), .val (.int p2), .val (.ref b1), .unset, .unset, .unset] [(.ref a42), (.int (8 : Int32)), (.ref b16), (.ref b16)])) rfl rfl (hb hby at_134)
  have N43 := Fr.snoc X43 Nx42 g_b16
  obtain ⟨Lx43, X43, Nx43⟩ : ∃ L, Stand p l e room_1 (s.setVm T42.vm) m #[(.int p1), (.int p2)] below meth c T43 L 20 736 ∧ Fr n0 L := ⟨_, X43.more (by decide) (by decide), N43⟩
  have V16_9 : Arv Z h43 b16 k16 (.object "java/lang/String") 14 [(.ref a18), (.ref a21), (.ref a24), (.ref a27), (.ref a30), (.ref a33), (.ref a36), (.ref a39), (.ref a42), .null, .null, .null, .null, .null] .null := Arv.set A16_8 q16_8 S16_8 M16_8 H16_8 G16_8 rfl W43 8 rfl (Nat.le_of_ble_eq_true rfl)
  have CH43 := CHv.wr W43 (Safe.arr hZ.alike A16_8 (by decide)) CR42.1
  have hkx43 := Nat.le_trans hk42 (Keep.of_wr W43).1
  have St43 := Sta.wr W43 St42
  have zz43 : n0 ≤ h43.size := Nat.le_trans zz42 (Keep.of_wr W43).1
  have pre44 : ∀ tt, Steps p.tables e below (T43.setTop (mkF m 138 #[.val (.int p1), .val (.int p2), .val (.ref b1), .unset, .unset, .unset] [(.int (9 : Int32)), (.ref b16), (.ref b16)])) tt → Steps p.tables e below (s₁.setTop (entryFrame m #[(.int p1), (.int p2)] maxLocals)) tt := by
    intro tt kt
    refine pre41 tt ?_
    show Steps p.tables e below (T40.setTop (mkF m 132 #[.val (.int p1), .val (.int p2), .val (.ref b1), .unset, .unset, .unset] [(.int (8 : Int32)), (.ref b16), (.ref b16)])) _
    refine st42 _ ?_
    show Steps p.tables e below (T42.setTop (mkF m 134 #[.val (.int p1), .val (.int p2), .val (.ref b1), .unset, .unset, .unset] [(.ref a42), (.int (8 : Int32)), (.ref b16), (.ref b16)])) _
    refine st43 _ ?_
    show Steps p.tables e below (T43.setTop (mkF m 135 #[.val (.int p1), .val (.int p2), .val (.ref b1), .unset, .unset, .unset] [(.ref b16)])) _
    refine XS.dup X43.here hx rfl (hb hby at_135) rfl rfl ?_
    show Steps p.tables e below (T43.setTop (mkF m 136 #[.val (.int p1), .val (.int p2), .val (.ref b1), .unset, .unset, .unset] [(.ref b16), (.ref b16)])) _
    refine XS.bipush X43.here hx rfl (hb hby at_136) ?_
    exact kt
  obtain ⟨a45, T45, h45, kk45, b45, k45, X45, e45, E45, hS45, hk45, hZ, hown, A45, C45, F45, V45, la45, lb45, CR45, -, S45, st45⟩ := ldcCH (text := (own_txt 20)) X43 hx hZ hown (hw _ (List.mem_of_getElem? (i := 20) rfl)) (own_wS hw) e43 hS42 hkx43 (own_EW hw) (by decide +kernel) CH43 (vs := (own_bs (own_txt 20)).map Value.int) (z := Int32.ofNat (own_bs (own_txt 20)).length) ⟨by decide +kernel, own_map _⟩ (by decide +kernel) (by decide +kernel) (g := (mkF m 138 #[.val (.int p1), .val (.int p2), .val (.ref b1), .unset, .unset, .unset] [(.int (9 : Int32)), (.ref b16), (.ref b16)])) rfl (hb hby at_138) (n := 68) (by decide +kernel) (by decide) (by decide) (by decide)
  have B45 : StrB Z h45 a45 b45 (own_bs (own_txt 20)) := ⟨A45, C45, F45, k45, V45⟩
  obtain ⟨Lx45, X45, Nx45⟩ : ∃ L, Stand p l e room_1 (s.setVm T45.vm) m #[(.int p1), (.int p2)] below meth c T45 L 22 808 ∧ Fr n0 L := ⟨_, X45.more (by decide) (by decide), Nx43⟩
  have St45 := Sta.ext E45 St43
  have zz45 : n0 ≤ h45.size := Nat.le_trans zz43 E45.1
  obtain ⟨c16_9, A16_9, q16_9, S16_9, M16_9, H16_9, G16_9⟩ := Arv.ext V16_9 E45
  have ne45 := S45 b16 (Safe.arr hZ.alike A16_9 (by decide))
  obtain ⟨T46, h46, X46, e46, W46, st46⟩ := stR X45 hx hZ e45 A16_9 (j := (9 : Int32)) (inb_of S16_9 ⟨by decide, by decide⟩) rfl (Sto.ofV A16_9 q16_9 O16 (Ins.self A45)) (g := (mkF m 140 #[.val (.int p1), .val (.int p2), .val (.ref b1), .unset, .unset, .unset] [(.ref a45), (.int (9 : Int32)), (.ref b16), (.ref b16)])) rfl rfl (hb hby at_140)
  have N46 := Fr.snoc X46 Nx45 g_b16
  obtain ⟨Lx46, X46, Nx46⟩ : ∃ L, Stand p l e room_1 (s.setVm T45.vm) m #[(.int p1), (.int p2)] below meth c T46 L 22 808 ∧ Fr n0 L := ⟨_, X46.more (by decide) (by decide), N46⟩
  have V16_10 : Arv Z h46 b16 k16 (.object "java/lang/String") 14 [(.ref a18), (.ref a21), (.ref a24), (.ref a27), (.ref a30), (.ref a33), (.ref a36), (.ref a39), (.ref a42), (.ref a45), .null, .null, .null, .null] .null := Arv.set A16_9 q16_9 S16_9 M16_9 H16_9 G16_9 rfl W46 9 rfl (Nat.le_of_ble_eq_true rfl)
  have CH46 := CHv.wr W46 (Safe.arr hZ.alike A16_9 (by decide)) CR45.1
  have hkx46 := Nat.le_trans hk45 (Keep.of_wr W46).1
  have St46 := Sta.wr W46 St45
  have zz46 : n0 ≤ h46.size := Nat.le_trans zz45 (Keep.of_wr W46).1
  have pre47 : ∀ tt, Steps p.tables e below (T46.setTop (mkF m 144 #[.val (.int p1), .val (.int p2), .val (.ref b1), .unset, .unset, .unset] [(.int (10 : Int32)), (.ref b16), (.ref b16)])) tt → Steps p.tables e below (s₁.setTop (entryFrame m #[(.int p1), (.int p2)] maxLocals)) tt := by
    intro tt kt
    refine pre44 tt ?_
    show Steps p.tables e below (T43.setTop (mkF m 138 #[.val (.int p1), .val (.int p2), .val (.ref b1), .unset, .unset, .unset] [(.int (9 : Int32)), (.ref b16), (.ref b16)])) _
    refine st45 _ ?_
    show Steps p.tables e below (T45.setTop (mkF m 140 #[.val (.int p1), .val (.int p2), .val (.ref b1), .unset, .unset, .unset] [(.ref a45), (.int (9 : Int32)), (.ref b16), (.ref b16)])) _
    refine st46 _ ?_
    show Steps p.tables e below (T46.setTop (mkF m 141 #[.val (.int p1), .val (.int p2), .val (.ref b1), .unset, .unset, .unset] [(.ref b16)])) _
    refine XS.dup X46.here hx rfl (hb hby at_141) rfl rfl ?_
    show Steps p.tables e below (T46.setTop (mkF m 142 #[.val (.int p1), .val (.int p2), .val (.ref b1), .unset, .unset, .unset] [(.ref b16), (.ref b16)])) _
    refine XS.bipush X46.here hx rfl (hb hby at_142) ?_
    exact kt
  obtain ⟨a48, T48, h48, kk48, b48, k48, X48, e48, E48, hS48, hk48, hZ, hown, A48, C48, F48, V48, la48, lb48, CR48, -, S48, st48⟩ := ldcCH (text := (own_txt 21)) X46 hx hZ hown (hw _ (List.mem_of_getElem? (i := 21) rfl)) (own_wS hw) e46 hS45 hkx46 (own_EW hw) (by decide +kernel) CH46 (vs := (own_bs (own_txt 21)).map Value.int) (z := Int32.ofNat (own_bs (own_txt 21)).length) ⟨by decide +kernel, own_map _⟩ (by decide +kernel) (by decide +kernel) (g := (mkF m 144 #[.val (.int p1), .val (.int p2), .val (.ref b1), .unset, .unset, .unset] [(.int (10 : Int32)), (.ref b16), (.ref b16)])) rfl (hb hby at_144) (n := 64) (by decide +kernel) (by decide) (by decide) (by decide)
  have B48 : StrB Z h48 a48 b48 (own_bs (own_txt 21)) := ⟨A48, C48, F48, k48, V48⟩
  obtain ⟨Lx48, X48, Nx48⟩ : ∃ L, Stand p l e room_1 (s.setVm T48.vm) m #[(.int p1), (.int p2)] below meth c T48 L 24 876 ∧ Fr n0 L := ⟨_, X48.more (by decide) (by decide), Nx46⟩
  have St48 := Sta.ext E48 St46
  have zz48 : n0 ≤ h48.size := Nat.le_trans zz46 E48.1
  obtain ⟨c16_10, A16_10, q16_10, S16_10, M16_10, H16_10, G16_10⟩ := Arv.ext V16_10 E48
  have ne48 := S48 b16 (Safe.arr hZ.alike A16_10 (by decide))
  obtain ⟨T49, h49, X49, e49, W49, st49⟩ := stR X48 hx hZ e48 A16_10 (j := (10 : Int32)) (inb_of S16_10 ⟨by decide, by decide⟩) rfl (Sto.ofV A16_10 q16_10 O16 (Ins.self A48)) (g := (mkF m 146 #[.val (.int p1), .val (.int p2), .val (.ref b1), .unset, .unset, .unset] [(.ref a48), (.int (10 : Int32)), (.ref b16), (.ref b16)])) rfl rfl (hb hby at_146)
  have N49 := Fr.snoc X49 Nx48 g_b16
  obtain ⟨Lx49, X49, Nx49⟩ : ∃ L, Stand p l e room_1 (s.setVm T48.vm) m #[(.int p1), (.int p2)] below meth c T49 L 24 876 ∧ Fr n0 L := ⟨_, X49.more (by decide) (by decide), N49⟩
  have V16_11 : Arv Z h49 b16 k16 (.object "java/lang/String") 14 [(.ref a18), (.ref a21), (.ref a24), (.ref a27), (.ref a30), (.ref a33), (.ref a36), (.ref a39), (.ref a42), (.ref a45), (.ref a48), .null, .null, .null] .null := Arv.set A16_10 q16_10 S16_10 M16_10 H16_10 G16_10 rfl W49 10 rfl (Nat.le_of_ble_eq_true rfl)
  have CH49 := CHv.wr W49 (Safe.arr hZ.alike A16_10 (by decide)) CR48.1
  have hkx49 := Nat.le_trans hk48 (Keep.of_wr W49).1
  have St49 := Sta.wr W49 St48
  have zz49 : n0 ≤ h49.size := Nat.le_trans zz48 (Keep.of_wr W49).1
  have pre50 : ∀ tt, Steps p.tables e below (T49.setTop (mkF m 150 #[.val (.int p1), .val (.int p2), .val (.ref b1), .unset, .unset, .unset] [(.int (11 : Int32)), (.ref b16), (.ref b16)])) tt → Steps p.tables e below (s₁.setTop (entryFrame m #[(.int p1), (.int p2)] maxLocals)) tt := by
    intro tt kt
    refine pre47 tt ?_
    show Steps p.tables e below (T46.setTop (mkF m 144 #[.val (.int p1), .val (.int p2), .val (.ref b1), .unset, .unset, .unset] [(.int (10 : Int32)), (.ref b16), (.ref b16)])) _
    refine st48 _ ?_
    show Steps p.tables e below (T48.setTop (mkF m 146 #[.val (.int p1), .val (.int p2), .val (.ref b1), .unset, .unset, .unset] [(.ref a48), (.int (10 : Int32)), (.ref b16), (.ref b16)])) _
    refine st49 _ ?_
    show Steps p.tables e below (T49.setTop (mkF m 147 #[.val (.int p1), .val (.int p2), .val (.ref b1), .unset, .unset, .unset] [(.ref b16)])) _
    refine XS.dup X49.here hx rfl (hb hby at_147) rfl rfl ?_
    show Steps p.tables e below (T49.setTop (mkF m 148 #[.val (.int p1), .val (.int p2), .val (.ref b1), .unset, .unset, .unset] [(.ref b16), (.ref b16)])) _
    refine XS.bipush X49.here hx rfl (hb hby at_148) ?_
    exact kt
  obtain ⟨a51, T51, h51, kk51, b51, k51, X51, e51, E51, hS51, hk51, hZ, hown, A51, C51, F51, V51, la51, lb51, CR51, -, S51, st51⟩ := ldcCH (text := (own_txt 22)) X49 hx hZ hown (hw _ (List.mem_of_getElem? (i := 22) rfl)) (own_wS hw) e49 hS48 hkx49 (own_EW hw) (by decide +kernel) CH49 (vs := (own_bs (own_txt 22)).map Value.int) (z := Int32.ofNat (own_bs (own_txt 22)).length) ⟨by decide +kernel, own_map _⟩ (by decide +kernel) (by decide +kernel) (g := (mkF m 150 #[.val (.int p1), .val (.int p2), .val (.ref b1), .unset, .unset, .unset] [(.int (11 : Int32)), (.ref b16), (.ref b16)])) rfl (hb hby at_150) (n := 88) (by decide +kernel) (by decide) (by decide) (by decide)
  have B51 : StrB Z h51 a51 b51 (own_bs (own_txt 22)) := ⟨A51, C51, F51, k51, V51⟩
  obtain ⟨Lx51, X51, Nx51⟩ : ∃ L, Stand p l e room_1 (s.setVm T51.vm) m #[(.int p1), (.int p2)] below meth c T51 L 26 968 ∧ Fr n0 L := ⟨_, X51.more (by decide) (by decide), Nx49⟩
  have St51 := Sta.ext E51 St49
  have zz51 : n0 ≤ h51.size := Nat.le_trans zz49 E51.1
  obtain ⟨c16_11, A16_11, q16_11, S16_11, M16_11, H16_11, G16_11⟩ := Arv.ext V16_11 E51
  have ne51 := S51 b16 (Safe.arr hZ.alike A16_11 (by decide))
  obtain ⟨T52, h52, X52, e52, W52, st52⟩ := stR X51 hx hZ e51 A16_11 (j := (11 : Int32)) (inb_of S16_11 ⟨by decide, by decide⟩) rfl (Sto.ofV A16_11 q16_11 O16 (Ins.self A51)) (g := (mkF m 152 #[.val (.int p1), .val (.int p2), .val (.ref b1), .unset, .unset, .unset] [(.ref a51), (.int (11 : Int32)), (.ref b16), (.ref b16)])) rfl rfl (hb hby at_152)
  have N52 := Fr.snoc X52 Nx51 g_b16
  obtain ⟨Lx52, X52, Nx52⟩ : ∃ L, Stand p l e room_1 (s.setVm T51.vm) m #[(.int p1), (.int p2)] below meth c T52 L 26 968 ∧ Fr n0 L := ⟨_, X52.more (by decide) (by decide), N52⟩
  have V16_12 : Arv Z h52 b16 k16 (.object "java/lang/String") 14 [(.ref a18), (.ref a21), (.ref a24), (.ref a27), (.ref a30), (.ref a33), (.ref a36), (.ref a39), (.ref a42), (.ref a45), (.ref a48), (.ref a51), .null, .null] .null := Arv.set A16_11 q16_11 S16_11 M16_11 H16_11 G16_11 rfl W52 11 rfl (Nat.le_of_ble_eq_true rfl)
  have CH52 := CHv.wr W52 (Safe.arr hZ.alike A16_11 (by decide)) CR51.1
  have hkx52 := Nat.le_trans hk51 (Keep.of_wr W52).1
  have St52 := Sta.wr W52 St51
  have zz52 : n0 ≤ h52.size := Nat.le_trans zz51 (Keep.of_wr W52).1
  have pre53 : ∀ tt, Steps p.tables e below (T52.setTop (mkF m 156 #[.val (.int p1), .val (.int p2), .val (.ref b1), .unset, .unset, .unset] [(.int (12 : Int32)), (.ref b16), (.ref b16)])) tt → Steps p.tables e below (s₁.setTop (entryFrame m #[(.int p1), (.int p2)] maxLocals)) tt := by
    intro tt kt
    refine pre50 tt ?_
    show Steps p.tables e below (T49.setTop (mkF m 150 #[.val (.int p1), .val (.int p2), .val (.ref b1), .unset, .unset, .unset] [(.int (11 : Int32)), (.ref b16), (.ref b16)])) _
    refine st51 _ ?_
    show Steps p.tables e below (T51.setTop (mkF m 152 #[.val (.int p1), .val (.int p2), .val (.ref b1), .unset, .unset, .unset] [(.ref a51), (.int (11 : Int32)), (.ref b16), (.ref b16)])) _
    refine st52 _ ?_
    show Steps p.tables e below (T52.setTop (mkF m 153 #[.val (.int p1), .val (.int p2), .val (.ref b1), .unset, .unset, .unset] [(.ref b16)])) _
    refine XS.dup X52.here hx rfl (hb hby at_153) rfl rfl ?_
    show Steps p.tables e below (T52.setTop (mkF m 154 #[.val (.int p1), .val (.int p2), .val (.ref b1), .unset, .unset, .unset] [(.ref b16), (.ref b16)])) _
    refine XS.bipush X52.here hx rfl (hb hby at_154) ?_
    exact kt
  obtain ⟨a54, T54, h54, kk54, b54, k54, X54, e54, E54, hS54, hk54, hZ, hown, A54, C54, F54, V54, la54, lb54, CR54, -, S54, st54⟩ := ldcCH (text := (own_txt 23)) X52 hx hZ hown (hw _ (List.mem_of_getElem? (i := 23) rfl)) (own_wS hw) e52 hS51 hkx52 (own_EW hw) (by decide +kernel) CH52 (vs := (own_bs (own_txt 23)).map Value.int) (z := Int32.ofNat (own_bs (own_txt 23)).length) ⟨by decide +kernel, own_map _⟩ (by decide +kernel) (by decide +kernel) (g := (mkF m 156 #[.val (.int p1), .val (.int p2), .val (.ref b1), .unset, .unset, .unset] [(.int (12 : Int32)), (.ref b16), (.ref b16)])) rfl (hb hby at_156) (n := 56) (by decide +kernel) (by decide) (by decide) (by decide)
  have B54 : StrB Z h54 a54 b54 (own_bs (own_txt 23)) := ⟨A54, C54, F54, k54, V54⟩
  obtain ⟨Lx54, X54, Nx54⟩ : ∃ L, Stand p l e room_1 (s.setVm T54.vm) m #[(.int p1), (.int p2)] below meth c T54 L 28 1028 ∧ Fr n0 L := ⟨_, X54.more (by decide) (by decide), Nx52⟩
  have St54 := Sta.ext E54 St52
  have zz54 : n0 ≤ h54.size := Nat.le_trans zz52 E54.1
  obtain ⟨c16_12, A16_12, q16_12, S16_12, M16_12, H16_12, G16_12⟩ := Arv.ext V16_12 E54
  have ne54 := S54 b16 (Safe.arr hZ.alike A16_12 (by decide))
  obtain ⟨T55, h55, X55, e55, W55, st55⟩ := stR X54 hx hZ e54 A16_12 (j := (12 : Int32)) (inb_of S16_12 ⟨by decide, by decide⟩) rfl (Sto.ofV A16_12 q16_12 O16 (Ins.self A54)) (g := (mkF m 158 #[.val (.int p1), .val (.int p2), .val (.ref b1), .unset, .unset, .unset] [(.ref a54), (.int (12 : Int32)), (.ref b16), (.ref b16)])) rfl rfl (hb hby at_158)
  have N55 := Fr.snoc X55 Nx54 g_b16
  obtain ⟨Lx55, X55, Nx55⟩ : ∃ L, Stand p l e room_1 (s.setVm T54.vm) m #[(.int p1), (.int p2)] below meth c T55 L 28 1028 ∧ Fr n0 L := ⟨_, X55.more (by decide) (by decide), N55⟩
  have V16_13 : Arv Z h55 b16 k16 (.object "java/lang/String") 14 [(.ref a18), (.ref a21), (.ref a24), (.ref a27), (.ref a30), (.ref a33), (.ref a36), (.ref a39), (.ref a42), (.ref a45), (.ref a48), (.ref a51), (.ref a54), .null] .null := Arv.set A16_12 q16_12 S16_12 M16_12 H16_12 G16_12 rfl W55 12 rfl (Nat.le_of_ble_eq_true rfl)
  have CH55 := CHv.wr W55 (Safe.arr hZ.alike A16_12 (by decide)) CR54.1
  have hkx55 := Nat.le_trans hk54 (Keep.of_wr W55).1
  have St55 := Sta.wr W55 St54
  have zz55 : n0 ≤ h55.size := Nat.le_trans zz54 (Keep.of_wr W55).1
  have pre56 : ∀ tt, Steps p.tables e below (T55.setTop (mkF m 162 #[.val (.int p1), .val (.int p2), .val (.ref b1), .unset, .unset, .unset] [(.int (13 : Int32)), (.ref b16), (.ref b16)])) tt → Steps p.tables e below (s₁.setTop (entryFrame m #[(.int p1), (.int p2)] maxLocals)) tt := by
    intro tt kt
    refine pre53 tt ?_
    show Steps p.tables e below (T52.setTop (mkF m 156 #[.val (.int p1), .val (.int p2), .val (.ref b1), .unset, .unset, .unset] [(.int (12 : Int32)), (.ref b16), (.ref b16)])) _
    refine st54 _ ?_
    show Steps p.tables e below (T54.setTop (mkF m 158 #[.val (.int p1), .val (.int p2), .val (.ref b1), .unset, .unset, .unset] [(.ref a54), (.int (12 : Int32)), (.ref b16), (.ref b16)])) _
    refine st55 _ ?_
    show Steps p.tables e below (T55.setTop (mkF m 159 #[.val (.int p1), .val (.int p2), .val (.ref b1), .unset, .unset, .unset] [(.ref b16)])) _
    refine XS.dup X55.here hx rfl (hb hby at_159) rfl rfl ?_
    show Steps p.tables e below (T55.setTop (mkF m 160 #[.val (.int p1), .val (.int p2), .val (.ref b1), .unset, .unset, .unset] [(.ref b16), (.ref b16)])) _
    refine XS.bipush X55.here hx rfl (hb hby at_160) ?_
    exact kt
  obtain ⟨a57, T57, h57, kk57, b57, k57, X57, e57, E57, hS57, hk57, hZ, hown, A57, C57, F57, V57, la57, lb57, CR57, -, S57, st57⟩ := ldcCH (text := (own_txt 24)) X55 hx hZ hown (hw _ (List.mem_of_getElem? (i := 24) rfl)) (own_wS hw) e55 hS54 hkx55 (own_EW hw) (by decide +kernel) CH55 (vs := (own_bs (own_txt 24)).map Value.int) (z := Int32.ofNat (own_bs (own_txt 24)).length) ⟨by decide +kernel, own_map _⟩ (by decide +kernel) (by decide +kernel) (g := (mkF m 162 #[.val (.int p1), .val (.int p2), .val (.ref b1), .unset, .unset, .unset] [(.int (13 : Int32)), (.ref b16), (.ref b16)])) rfl (hb hby at_162) (n := 184) (by decide +kernel) (by decide) (by decide) (by decide)
  have B57 : StrB Z h57 a57 b57 (own_bs (own_txt 24)) := ⟨A57, C57, F57, k57, V57⟩
  obtain ⟨Lx57, X57, Nx57⟩ : ∃ L, Stand p l e room_1 (s.setVm T57.vm) m #[(.int p1), (.int p2)] below meth c T57 L 30 1216 ∧ Fr n0 L := ⟨_, X57.more (by decide) (by decide), Nx55⟩
  have St57 := Sta.ext E57 St55
  have zz57 : n0 ≤ h57.size := Nat.le_trans zz55 E57.1
  obtain ⟨c16_13, A16_13, q16_13, S16_13, M16_13, H16_13, G16_13⟩ := Arv.ext V16_13 E57
  have ne57 := S57 b16 (Safe.arr hZ.alike A16_13 (by decide))
  obtain ⟨T58, h58, X58, e58, W58, st58⟩ := stR X57 hx hZ e57 A16_13 (j := (13 : Int32)) (inb_of S16_13 ⟨by decide, by decide⟩) rfl (Sto.ofV A16_13 q16_13 O16 (Ins.self A57)) (g := (mkF m 164 #[.val (.int p1), .val (.int p2), .val (.ref b1), .unset, .unset, .unset] [(.ref a57), (.int (13 : Int32)), (.ref b16), (.ref b16)])) rfl rfl (hb hby at_164)
  have N58 := Fr.snoc X58 Nx57 g_b16
  obtain ⟨Lx58, X58, Nx58⟩ : ∃ L, Stand p l e room_1 (s.setVm T57.vm) m #[(.int p1), (.int p2)] below meth c T58 L 30 1216 ∧ Fr n0 L := ⟨_, X58.more (by decide) (by decide), N58⟩
  have V16_14 : Arv Z h58 b16 k16 (.object "java/lang/String") 14 [(.ref a18), (.ref a21), (.ref a24), (.ref a27), (.ref a30), (.ref a33), (.ref a36), (.ref a39), (.ref a42), (.ref a45), (.ref a48), (.ref a51), (.ref a54), (.ref a57)] .null := Arv.set A16_13 q16_13 S16_13 M16_13 H16_13 G16_13 rfl W58 13 rfl (Nat.le_of_ble_eq_true rfl)
  have CH58 := CHv.wr W58 (Safe.arr hZ.alike A16_13 (by decide)) CR57.1
  have hkx58 := Nat.le_trans hk57 (Keep.of_wr W58).1
  have St58 := Sta.wr W58 St57
  have zz58 : n0 ≤ h58.size := Nat.le_trans zz57 (Keep.of_wr W58).1
  have R29 : Keep h58 h58 [b16] := Keep.refl _ _
  have R28 : Keep h57 h58 [b16] := (Keep.of_wr W58).trans R29 (fun x hx => Or.inl hx)
  have R27 : Keep h55 h58 [b16] := ((Keep.refl h55 [b16]).ext E57).trans R28 (fun x hx => Or.inl hx)
  have R26 : Keep h54 h58 [b16] := (Keep.of_wr W55).trans R27 (fun x hx => Or.inl hx)
  have R25 : Keep h52 h58 [b16] := ((Keep.refl h52 [b16]).ext E54).trans R26 (fun x hx => Or.inl hx)
  have R24 : Keep h51 h58 [b16] := (Keep.of_wr W52).trans R25 (fun x hx => Or.inl hx)
  have R23 : Keep h49 h58 [b16] := ((Keep.refl h49 [b16]).ext E51).trans R24 (fun x hx => Or.inl hx)
  have R22 : Keep h48 h58 [b16] := (Keep.of_wr W49).trans R23 (fun x hx => Or.inl hx)
  have R21 : Keep h46 h58 [b16] := ((Keep.refl h46 [b16]).ext E48).trans R22 (fun x hx => Or.inl hx)
  have R20 : Keep h45 h58 [b16] := (Keep.of_wr W46).trans R21 (fun x hx => Or.inl hx)
  have R19 : Keep h43 h58 [b16] := ((Keep.refl h43 [b16]).ext E45).trans R20 (fun x hx => Or.inl hx)
  have R18 : Keep h42 h58 [b16] := (Keep.of_wr W43).trans R19 (fun x hx => Or.inl hx)
  have R17 : Keep h40 h58 [b16] := ((Keep.refl h40 [b16]).ext E42).trans R18 (fun x hx => Or.inl hx)
  have R16 : Keep h39 h58 [b16] := (Keep.of_wr W40).trans R17 (fun x hx => Or.inl hx)
  have R15 : Keep h37 h58 [b16] := ((Keep.refl h37 [b16]).ext E39).trans R16 (fun x hx => Or.inl hx)
  have R14 : Keep h36 h58 [b16] := (Keep.of_wr W37).trans R15 (fun x hx => Or.inl hx)
  have R13 : Keep h34 h58 [b16] := ((Keep.refl h34 [b16]).ext E36).trans R14 (fun x hx => Or.inl hx)
  have R12 : Keep h33 h58 [b16] := (Keep.of_wr W34).trans R13 (fun x hx => Or.inl hx)
  have R11 : Keep h31 h58 [b16] := ((Keep.refl h31 [b16]).ext E33).trans R12 (fun x hx => Or.inl hx)
  have R10 : Keep h30 h58 [b16] := (Keep.of_wr W31).trans R11 (fun x hx => Or.inl hx)
  have R9 : Keep h28 h58 [b16] := ((Keep.refl h28 [b16]).ext E30).trans R10 (fun x hx => Or.inl hx)
  have R8 : Keep h27 h58 [b16] := (Keep.of_wr W28).trans R9 (fun x hx => Or.inl hx)
  have R7 : Keep h25 h58 [b16] := ((Keep.refl h25 [b16]).ext E27).trans R8 (fun x hx => Or.inl hx)
  have R6 : Keep h24 h58 [b16] := (Keep.of_wr W25).trans R7 (fun x hx => Or.inl hx)
  have R5 : Keep h22 h58 [b16] := ((Keep.refl h22 [b16]).ext E24).trans R6 (fun x hx => Or.inl hx)
  have R4 : Keep h21 h58 [b16] := (Keep.of_wr W22).trans R5 (fun x hx => Or.inl hx)
  have R3 : Keep h19 h58 [b16] := ((Keep.refl h19 [b16]).ext E21).trans R4 (fun x hx => Or.inl hx)
  have R2 : Keep h18 h58 [b16] := (Keep.of_wr W19).trans R3 (fun x hx => Or.inl hx)
  have R1 : Keep h16 h58 [b16] := ((Keep.refl h16 [b16]).ext E18).trans R2 (fun x hx => Or.inl hx)
  have R0 : Keep h15 h58 [b16] := ((Keep.refl h15 [b16]).ext E16).trans R1 (fun x hx => Or.inl hx)
  have VIz := VI.keep R0 (ninS nei nin0)
  have Z18 := B18.keep R2 (ninS (Ne.symm ne18.1) nin0) (ninS (Ne.symm ne18.2) nin0)
  have Z21 := B21.keep R4 (ninS (Ne.symm ne21.1) nin0) (ninS (Ne.symm ne21.2) nin0)
  have Z24 := B24.keep R6 (ninS (Ne.symm ne24.1) nin0) (ninS (Ne.symm ne24.2) nin0)
  have Z27 := B27.keep R8 (ninS (Ne.symm ne27.1) nin0) (ninS (Ne.symm ne27.2) nin0)
  have Z30 := B30.keep R10 (ninS (Ne.symm ne30.1) nin0) (ninS (Ne.symm ne30.2) nin0)
  have Z33 := B33.keep R12 (ninS (Ne.symm ne33.1) nin0) (ninS (Ne.symm ne33.2) nin0)
  have Z36 := B36.keep R14 (ninS (Ne.symm ne36.1) nin0) (ninS (Ne.symm ne36.2) nin0)
  have Z39 := B39.keep R16 (ninS (Ne.symm ne39.1) nin0) (ninS (Ne.symm ne39.2) nin0)
  have Z42 := B42.keep R18 (ninS (Ne.symm ne42.1) nin0) (ninS (Ne.symm ne42.2) nin0)
  have Z45 := B45.keep R20 (ninS (Ne.symm ne45.1) nin0) (ninS (Ne.symm ne45.2) nin0)
  have Z48 := B48.keep R22 (ninS (Ne.symm ne48.1) nin0) (ninS (Ne.symm ne48.2) nin0)
  have Z51 := B51.keep R24 (ninS (Ne.symm ne51.1) nin0) (ninS (Ne.symm ne51.2) nin0)
  have Z54 := B54.keep R26 (ninS (Ne.symm ne54.1) nin0) (ninS (Ne.symm ne54.2) nin0)
  have Z57 := B57.keep R28 (ninS (Ne.symm ne57.1) nin0) (ninS (Ne.symm ne57.2) nin0)
  obtain ⟨cs, As, -, Ss, Ms, Hs, -⟩ := V16_14
  obtain ⟨ci, Ai, -, Si, Mi, Hi, -⟩ := VIz
  have pre59 : ∀ tt, Steps p.tables e below (T58.setTop (mkF m 179 #[.val (.int p1), .val (.int p2), .val (.ref b1), .val (.ref b16), .val (.int (Int32.ofNat j)), .unset] [(.int (14 : Int32)), (.int (Int32.ofNat j))])) tt → Steps p.tables e below (s₁.setTop (entryFrame m #[(.int p1), (.int p2)] maxLocals)) tt := by
    intro tt kt
    refine pre56 tt ?_
    show Steps p.tables e below (T55.setTop (mkF m 162 #[.val (.int p1), .val (.int p2), .val (.ref b1), .unset, .unset, .unset] [(.int (13 : Int32)), (.ref b16), (.ref b16)])) _
    refine st57 _ ?_
    show Steps p.tables e below (T57.setTop (mkF m 164 #[.val (.int p1), .val (.int p2), .val (.ref b1), .unset, .unset, .unset] [(.ref a57), (.int (13 : Int32)), (.ref b16), (.ref b16)])) _
    refine st58 _ ?_
    show Steps p.tables e below (T58.setTop (mkF m 165 #[.val (.int p1), .val (.int p2), .val (.ref b1), .unset, .unset, .unset] [(.ref b16)])) _
    refine XS.astoreN X58.here hx rfl (hb hby at_165) rfl rfl (l' := #[.val (.int p1), .val (.int p2), .val (.ref b1), .val (.ref b16), .unset, .unset]) rfl ?_
    show Steps p.tables e below (T58.setTop (mkF m 166 #[.val (.int p1), .val (.int p2), .val (.ref b1), .val (.ref b16), .unset, .unset] [])) _
    refine XS.iloadN X58.here hx rfl (hb hby at_166) rfl ?_
    show Steps p.tables e below (T58.setTop (mkF m 167 #[.val (.int p1), .val (.int p2), .val (.ref b1), .val (.ref b16), .unset, .unset] [(.int p2)])) _
    refine X58.ldcInt hx hown (mvT hZ (hw _ (List.mem_of_getElem? (i := 25) rfl))) (g := (mkF m 167 #[.val (.int p1), .val (.int p2), .val (.ref b1), .val (.ref b16), .unset, .unset] [(.int p2)])) rfl (hb hby at_167) _ ?_
    show Steps p.tables e below (T58.setTop (mkF m 169 #[.val (.int p1), .val (.int p2), .val (.ref b1), .val (.ref b16), .unset, .unset] [(.int (2147483647 : Int32)), (.int p2)])) _
    refine XS.iand X58.here hx rfl (hb hby at_169) rfl ?_
    show Steps p.tables e below (T58.setTop (mkF m 170 #[.val (.int p1), .val (.int p2), .val (.ref b1), .val (.ref b16), .unset, .unset] [(.int (p2 &&& (2147483647 : Int32)))])) _
    refine XS.bipush X58.here hx rfl (hb hby at_170) ?_
    show Steps p.tables e below (T58.setTop (mkF m 172 #[.val (.int p1), .val (.int p2), .val (.ref b1), .val (.ref b16), .unset, .unset] [(.int (15 : Int32)), (.int (p2 &&& (2147483647 : Int32)))])) _
    refine iremM X58 hx rfl (hb hby at_172) rfl (by decide) ?_
    show Steps p.tables e below (T58.setTop (mkF m 173 #[.val (.int p1), .val (.int p2), .val (.ref b1), .val (.ref b16), .unset, .unset] [(.int ((p2 &&& (2147483647 : Int32)) % (15 : Int32)))])) _
    rw [ej]
    show Steps p.tables e below (T58.setTop (mkF m 173 #[.val (.int p1), .val (.int p2), .val (.ref b1), .val (.ref b16), .unset, .unset] [(.int (Int32.ofNat j))])) _
    refine XS.istore X58.here hx rfl (hb hby at_173) rfl (l' := #[.val (.int p1), .val (.int p2), .val (.ref b1), .val (.ref b16), .val (.int (Int32.ofNat j)), .unset]) rfl ?_
    show Steps p.tables e below (T58.setTop (mkF m 175 #[.val (.int p1), .val (.int p2), .val (.ref b1), .val (.ref b16), .val (.int (Int32.ofNat j)), .unset] [])) _
    refine XS.iload X58.here hx rfl (hb hby at_175) rfl ?_
    show Steps p.tables e below (T58.setTop (mkF m 177 #[.val (.int p1), .val (.int p2), .val (.ref b1), .val (.ref b16), .val (.int (Int32.ofNat j)), .unset] [(.int (Int32.ofNat j))])) _
    refine XS.bipush X58.here hx rfl (hb hby at_177) ?_
    exact kt
  by_cases cj : j < 14
  · skip
    have hji : ∀ c : Cell, c.slots.size = (14 : Int32).toNatClampNeg → ¬ (Int32.ofNat j < 0 ∨ c.slots.size ≤ (Int32.ofNat j).toNatClampNeg) := fun c hc => inb_of hc ⟨own_nn (by omega), own_lt (n := 14) cj (by decide)⟩
    have ati : ci.slots[(Int32.ofNat j).toNatClampNeg]? = some (.int (own_codes.getD j 0)) := by
      rw [Hi _ (Nat.lt_of_not_le fun q => hji ci Si (Or.inr q)), own_map_getD, own_n32 (by omega)]
    have ats : ∃ a b, cs.slots[(Int32.ofNat j).toNatClampNeg]? = some (.ref a) ∧ StrB Z h58 a b (own_desc (own_codes.getD j 0)) := by
      rw [Hs _ (Nat.lt_of_not_le fun q => hji cs Ss (Or.inr q)), own_n32 (by omega)]
      have qj : j = 0 ∨ j = 1 ∨ j = 2 ∨ j = 3 ∨ j = 4 ∨ j = 5 ∨ j = 6 ∨ j = 7 ∨ j = 8 ∨ j = 9 ∨ j = 10 ∨ j = 11 ∨ j = 12 ∨ j = 13 := by omega
      rcases qj with rfl | rfl | rfl | rfl | rfl | rfl | rfl | rfl | rfl | rfl | rfl | rfl | rfl | rfl
      · exact ⟨a18, b18, rfl, Z18⟩
      · exact ⟨a21, b21, rfl, Z21⟩
      · exact ⟨a24, b24, rfl, Z24⟩
      · exact ⟨a27, b27, rfl, Z27⟩
      · exact ⟨a30, b30, rfl, Z30⟩
      · exact ⟨a33, b33, rfl, Z33⟩
      · exact ⟨a36, b36, rfl, Z36⟩
      · exact ⟨a39, b39, rfl, Z39⟩
      · exact ⟨a42, b42, rfl, Z42⟩
      · exact ⟨a45, b45, rfl, Z45⟩
      · exact ⟨a48, b48, rfl, Z48⟩
      · exact ⟨a51, b51, rfl, Z51⟩
      · exact ⟨a54, b54, rfl, Z54⟩
      · exact ⟨a57, b57, rfl, Z57⟩
    obtain ⟨aj, bj, atj, Bj⟩ := ats
    have prey60 : ∀ tt, Steps p.tables e below (T58.setTop (mkF m 186 #[.val (.int p1), .val (.int p2), .val (.ref b1), .val (.ref b16), .val (.int (Int32.ofNat j)), .unset] [(.int (own_codes.getD j 0))])) tt → Steps p.tables e below (s₁.setTop (entryFrame m #[(.int p1), (.int p2)] maxLocals)) tt := by
      intro tt kt
      refine pre59 tt ?_
      show Steps p.tables e below (T58.setTop (mkF m 179 #[.val (.int p1), .val (.int p2), .val (.ref b1), .val (.ref b16), .val (.int (Int32.ofNat j)), .unset] [(.int (14 : Int32)), (.int (Int32.ofNat j))])) _
      refine XS.icmpNo X58.here hx rfl (hb hby at_179) rfl (tlt (own_lt (n := 14) cj (by decide))).2.1 ?_
      show Steps p.tables e below (T58.setTop (mkF m 182 #[.val (.int p1), .val (.int p2), .val (.ref b1), .val (.ref b16), .val (.int (Int32.ofNat j)), .unset] [])) _
      refine XS.aloadN X58.here hx rfl (hb hby at_182) rfl rfl ?_
      show Steps p.tables e below (T58.setTop (mkF m 183 #[.val (.int p1), .val (.int p2), .val (.ref b1), .val (.ref b16), .val (.int (Int32.ofNat j)), .unset] [(.ref b1)])) _
      refine XS.iload X58.here hx rfl (hb hby at_183) rfl ?_
      show Steps p.tables e below (T58.setTop (mkF m 185 #[.val (.int p1), .val (.int p2), .val (.ref b1), .val (.ref b16), .val (.int (Int32.ofNat j)), .unset] [(.int (Int32.ofNat j)), (.ref b1)])) _
      refine X58.iaload hx (j := (Int32.ofNat j)) (v := (.int (own_codes.getD j 0))) (by rw [e58]; exact Ai.1) (State.isArrayOf_alike hZ.alike Ai.2.1) Ai.2.2 (hji ci Si) ati (g := (mkF m 185 #[.val (.int p1), .val (.int p2), .val (.ref b1), .val (.ref b16), .val (.int (Int32.ofNat j)), .unset] [(.int (Int32.ofNat j)), (.ref b1)])) rfl rfl (hb hby at_185) _ ?_
      exact kt
    obtain ⟨_, _, ⟨Ty61, Ly61, ky61, ny61⟩, -, Xy61, hsy61, hgy61, ⟨Lcy61, hQy61, ly61, yy61, zy61, CRy61⟩, sty61⟩ := callSS X58 hx (y := (⟨"com/example/causeway/causeway/runtime/VbError", "standardDescription", "(I)Ljava/lang/String;"⟩ : MethodName)) hown (mvT hZ (hw _ (List.mem_of_getElem? (i := 26) rfl))) (mvT hZ (hw _ (List.mem_of_getElem? (i := 27) rfl))) (mvT hZ (hw _ (List.mem_of_getElem? (i := 28) rfl))) (mvT hZ (hw _ (List.mem_of_getElem? (i := 29) rfl))) (by decide) (backOfSH (W := 0) (rmS l Z a0 hw [] (own_codes.getD j 0) h58 n0 zz58) hZ (hw _ (List.mem_of_getElem? (i := 29) rfl)) (hw _ (List.mem_of_getElem? (i := 28) rfl)) (by decide) (by decide) (own_EW hw) CH58) (g := (mkF m 186 #[.val (.int p1), .val (.int p2), .val (.ref b1), .val (.ref b16), .val (.int (Int32.ofNat j)), .unset] [(.int (own_codes.getD j 0))])) rfl (by rw [hml]; rfl) (argsL := [(.int (own_codes.getD j 0))]) (rest := []) (lenOf pd_1 rfl) rfl (by show 2 * 0 + _ ≤ _; exact Nat.le_of_eq rfl) (hb hby at_186) (fun _ _ => ⟨rfl, e58, (by decide : 30 + 2 ≤ _), (by decide : 1216 + 188 ≤ _)⟩)
    dsimp only [Pt.U, Pt.locs, Pt.cells, Pt.slots] at Xy61 hsy61 hgy61 ly61 yy61 zy61 sty61 hQy61 CRy61
    subst ly61 yy61 zy61
    obtain ⟨ay61, by61, rfl, Ny61q, Ey61, By61⟩ := hQy61
    have Ny61 := Fr.app Nx58 Ny61q
    obtain ⟨Xy61, hSy61, hZ, hown⟩ := rebS hS57 (show _ ≤ T58.heap.size by rw [e58]; exact hkx58) Xy61 hsy61 hgy61 hZ hown
    obtain ⟨Lxy61, Xy61, Nxy61⟩ : ∃ L, Stand p l e room_1 (s.setVm Ty61.vm) m #[(.int p1), (.int p2)] below meth c Ty61 L 32 1404 ∧ Fr n0 L := ⟨_, Xy61.more (by decide) (by decide), Ny61⟩
    have zzy61 : n0 ≤ Ty61.heap.size := Nat.le_trans zz58 Ey61.1
    have Sty61 := Sta.ext Ey61 St58
    have As' := As.ext Ey61
    obtain ⟨cqy62, kqy62, qy62a, qy62b, qy62c⟩ := isOf hZ rfl By61.1
    obtain ⟨_, _, ⟨Ty62, Ly62, ky62, ny62⟩, -, Xy62, ⟨Lcy62, hQy62, ly62, yy62, zy62⟩, sty62⟩ := Xy61.virtualBack hx (y := (⟨"java/lang/String", "equals", "(Ljava/lang/Object;)Z"⟩ : MethodName)) (z := (⟨"java/lang/String", "equals", "(Ljava/lang/Object;)Z"⟩ : MethodName)) hown (mvT hZ (hw _ (List.mem_of_getElem? (i := 31) rfl))) (mvT hZ (hw _ (List.mem_of_getElem? (i := 32) rfl))) (notFace_of_selects (args := #[]) (mvT hZ (hw _ (List.mem_of_getElem? (i := 34) rfl)))) (mvT hZ (hw _ (List.mem_of_getElem? (i := 34) rfl))) (mvT hZ (hw _ (List.mem_of_getElem? (i := 33) rfl))) (by decide) (backOf (W := 0) (rmQ1 l Z a0 hw [] ay61 by61 aj bj (own_desc (own_codes.getD j 0)) cz Ty61.heap n0 zzy61 By61 (Bj.ext Ey61) Sty61 hcz (own_desc_len _)) hZ (hw _ (List.mem_of_getElem? (i := 35) rfl)) (hw _ (List.mem_of_getElem? (i := 4) rfl)) (by decide) (by decide)) qy62a qy62c (g := (mkF m 202 #[.val (.int p1), .val (.int p2), .val (.ref b1), .val (.ref b16), .val (.int (Int32.ofNat j)), .val (.ref ay61)] [(.ref aj), (.ref ay61)])) rfl (by rw [hml]; rfl) (Steps.refl _) (argsL := [(.ref aj)]) (rest := []) (lenOf pd_2 rfl) rfl (by show 2 * 0 + _ ≤ _; exact Nat.le_of_eq rfl) (hb hby at_202) (fun _ _ => ⟨rfl, rfl, (by decide : 32 + 0 ≤ _), (by decide : 1404 + 0 ≤ _)⟩)
    dsimp only [Pt.U, Pt.locs, Pt.cells, Pt.slots] at Xy62 ly62 yy62 zy62 sty62 hQy62
    subst ly62 yy62 zy62
    obtain ⟨rfl, Ny62q, hy62⟩ := hQy62
    have Ny62 := Fr.app Nxy61 Ny62q
    obtain ⟨Lxy62, Xy62, Nxy62⟩ : ∃ L, Stand p l e room_1 (s.setVm Ty61.vm) m #[(.int p1), (.int p2)] below meth c Ty62 L 32 1404 ∧ Fr n0 L := ⟨_, Xy62.more (by decide) (by decide), Ny62⟩
    have prey63 : ∀ tt, Steps p.tables e below (Ty62.setTop (mkF m 213 #[.val (.int p1), .val (.int p2), .val (.ref b1), .val (.ref b16), .val (.int (Int32.ofNat j)), .val (.ref ay61)] [(.int (1 : Int32))])) tt → Steps p.tables e below (s₁.setTop (entryFrame m #[(.int p1), (.int p2)] maxLocals)) tt := by
      intro tt kt
      refine prey60 tt ?_
      show Steps p.tables e below (T58.setTop (mkF m 186 #[.val (.int p1), .val (.int p2), .val (.ref b1), .val (.ref b16), .val (.int (Int32.ofNat j)), .unset] [(.int (own_codes.getD j 0))])) _
      refine sty61.trans ?_
      show Steps p.tables e below (Ty61.setTop (mkF m 189 #[.val (.int p1), .val (.int p2), .val (.ref b1), .val (.ref b16), .val (.int (Int32.ofNat j)), .unset] [(.ref ay61)])) _
      refine XS.astore Xy61.here hx rfl (hb hby at_189) rfl rfl (l' := #[.val (.int p1), .val (.int p2), .val (.ref b1), .val (.ref b16), .val (.int (Int32.ofNat j)), .val (.ref ay61)]) rfl ?_
      show Steps p.tables e below (Ty61.setTop (mkF m 191 #[.val (.int p1), .val (.int p2), .val (.ref b1), .val (.ref b16), .val (.int (Int32.ofNat j)), .val (.ref ay61)] [])) _
      refine XS.aload Xy61.here hx rfl (hb hby at_191) rfl rfl ?_
      show Steps p.tables e below (Ty61.setTop (mkF m 193 #[.val (.int p1), .val (.int p2), .val (.ref b1), .val (.ref b16), .val (.int (Int32.ofNat j)), .val (.ref ay61)] [(.ref ay61)])) _
      refine XS.ifnullNo Xy61.here hx rfl (hb hby at_193) rfl ?_
      show Steps p.tables e below (Ty61.setTop (mkF m 196 #[.val (.int p1), .val (.int p2), .val (.ref b1), .val (.ref b16), .val (.int (Int32.ofNat j)), .val (.ref ay61)] [])) _
      refine XS.aload Xy61.here hx rfl (hb hby at_196) rfl rfl ?_
      show Steps p.tables e below (Ty61.setTop (mkF m 198 #[.val (.int p1), .val (.int p2), .val (.ref b1), .val (.ref b16), .val (.int (Int32.ofNat j)), .val (.ref ay61)] [(.ref ay61)])) _
      refine XS.aloadN Xy61.here hx rfl (hb hby at_198) rfl rfl ?_
      show Steps p.tables e below (Ty61.setTop (mkF m 199 #[.val (.int p1), .val (.int p2), .val (.ref b1), .val (.ref b16), .val (.int (Int32.ofNat j)), .val (.ref ay61)] [(.ref b16), (.ref ay61)])) _
      refine XS.iload Xy61.here hx rfl (hb hby at_199) rfl ?_
      show Steps p.tables e below (Ty61.setTop (mkF m 201 #[.val (.int p1), .val (.int p2), .val (.ref b1), .val (.ref b16), .val (.int (Int32.ofNat j)), .val (.ref ay61)] [(.int (Int32.ofNat j)), (.ref b16), (.ref ay61)])) _
      refine Xy61.aaload hx (j := (Int32.ofNat j)) (v := (.ref aj)) As'.1 (State.isArrayOf_alike hZ.alike As'.2.1) rfl As'.2.2 (hji cs Ss) atj (g := (mkF m 201 #[.val (.int p1), .val (.int p2), .val (.ref b1), .val (.ref b16), .val (.int (Int32.ofNat j)), .val (.ref ay61)] [(.int (Int32.ofNat j)), (.ref b16), (.ref ay61)])) rfl rfl (hb hby at_201) _ ?_
      show Steps p.tables e below (Ty61.setTop (mkF m 202 #[.val (.int p1), .val (.int p2), .val (.ref b1), .val (.ref b16), .val (.int (Int32.ofNat j)), .val (.ref ay61)] [(.ref aj), (.ref ay61)])) _
      refine sty62.trans ?_
      show Steps p.tables e below (Ty62.setTop (mkF m 205 #[.val (.int p1), .val (.int p2), .val (.ref b1), .val (.ref b16), .val (.int (Int32.ofNat j)), .val (.ref ay61)] [(.int (1 : Int32))])) _
      refine XS.ifNo Xy62.here hx rfl (hb hby at_205) rfl ((if0 _ _).trans (feq (by decide)).1) ?_
      show Steps p.tables e below (Ty62.setTop (mkF m 208 #[.val (.int p1), .val (.int p2), .val (.ref b1), .val (.ref b16), .val (.int (Int32.ofNat j)), .val (.ref ay61)] [])) _
      refine XS.iconst Xy62.here hx rfl (hb hby at_208) ?_
      show Steps p.tables e below (Ty62.setTop (mkF m 209 #[.val (.int p1), .val (.int p2), .val (.ref b1), .val (.ref b16), .val (.int (Int32.ofNat j)), .val (.ref ay61)] [(.int (1 : Int32))])) _
      refine XS.goto Xy62.here hx rfl (pc0 := 209) (pc' := 213) rfl (hb hby at_209) (by decide) (by decide) ?_
      exact kt
    replace Xy62 := Xy62.more (cells' := 72) (slots' := 30976) (by decide) (by decide)
    obtain ⟨fs, hr, hrun, hended, hRW⟩ := Xy62.leaveW hSy61 (by rw [hy62]; exact (Nat.le_refl _)) (v := some (.int (1 : Int32))) (fun h => by rw [Bd.returns] at h; cases h)
    refine ⟨_, _, prey63 _ ?_, hrun, hended, _, _, rfl, ?_, hRW⟩
    · exact retN Xy62 hx (t := .boolean) Bd.returns (by simp) (hb hby at_213) hr
    · show Q0 Z p1 p2 cz h0 n0 _ Ty62.heap _
      exact ⟨rfl, Nxy62⟩
  · have ejj : j = 14 := by omega
    have pren60 : ∀ tt, Steps p.tables e below (T58.setTop (mkF m 215 #[.val (.int p1), .val (.int p2), .val (.ref b1), .val (.ref b16), .val (.int (Int32.ofNat j)), .unset] [(.int p1)])) tt → Steps p.tables e below (s₁.setTop (entryFrame m #[(.int p1), (.int p2)] maxLocals)) tt := by
      intro tt kt
      refine pre59 tt ?_
      show Steps p.tables e below (T58.setTop (mkF m 179 #[.val (.int p1), .val (.int p2), .val (.ref b1), .val (.ref b16), .val (.int (Int32.ofNat j)), .unset] [(.int (14 : Int32)), (.int (Int32.ofNat j))])) _
      refine XS.icmpYes X58.here hx rfl (pc0 := 179) (pc' := 214) rfl (hb hby at_179) rfl (flt (by rw [ejj]; decide)).2.1 (by decide) (by decide) ?_
      show Steps p.tables e below (T58.setTop (mkF m 214 #[.val (.int p1), .val (.int p2), .val (.ref b1), .val (.ref b16), .val (.int (Int32.ofNat j)), .unset] [])) _
      refine XS.iloadN X58.here hx rfl (hb hby at_214) rfl ?_
      exact kt
    obtain ⟨_, _, ⟨Tn61, Ln61, kn61, nn61⟩, -, Xn61, hsn61, hgn61, ⟨Lcn61, hQn61, ln61, yn61, zn61, CRn61⟩, stn61⟩ := callSS X58 hx (y := (⟨"com/example/causeway/causeway/runtime/VbError", "standardDescription", "(I)Ljava/lang/String;"⟩ : MethodName)) hown (mvT hZ (hw _ (List.mem_of_getElem? (i := 26) rfl))) (mvT hZ (hw _ (List.mem_of_getElem? (i := 27) rfl))) (mvT hZ (hw _ (List.mem_of_getElem? (i := 28) rfl))) (mvT hZ (hw _ (List.mem_of_getElem? (i := 29) rfl))) (by decide) (backOfSH (W := 0) (rmS l Z a0 hw [] p1 h58 n0 zz58) hZ (hw _ (List.mem_of_getElem? (i := 29) rfl)) (hw _ (List.mem_of_getElem? (i := 28) rfl)) (by decide) (by decide) (own_EW hw) CH58) (g := (mkF m 215 #[.val (.int p1), .val (.int p2), .val (.ref b1), .val (.ref b16), .val (.int (Int32.ofNat j)), .unset] [(.int p1)])) rfl (by rw [hml]; rfl) (argsL := [(.int p1)]) (rest := []) (lenOf pd_1 rfl) rfl (by show 2 * 0 + _ ≤ _; exact Nat.le_of_eq rfl) (hb hby at_215) (fun _ _ => ⟨rfl, e58, (by decide : 30 + 2 ≤ _), (by decide : 1216 + 188 ≤ _)⟩)
    dsimp only [Pt.U, Pt.locs, Pt.cells, Pt.slots] at Xn61 hsn61 hgn61 ln61 yn61 zn61 stn61 hQn61 CRn61
    subst ln61 yn61 zn61
    obtain ⟨an61, bn61, rfl, Nn61q, En61, Bn61⟩ := hQn61
    have Nn61 := Fr.app Nx58 Nn61q
    obtain ⟨Xn61, hSn61, hZ, hown⟩ := rebS hS57 (show _ ≤ T58.heap.size by rw [e58]; exact hkx58) Xn61 hsn61 hgn61 hZ hown
    obtain ⟨Lxn61, Xn61, Nxn61⟩ : ∃ L, Stand p l e room_1 (s.setVm Tn61.vm) m #[(.int p1), (.int p2)] below meth c Tn61 L 32 1404 ∧ Fr n0 L := ⟨_, Xn61.more (by decide) (by decide), Nn61⟩
    have zzn61 : n0 ≤ Tn61.heap.size := Nat.le_trans zz58 En61.1
    have Stn61 := Sta.ext En61 St58
    obtain ⟨_, _, ⟨Tn62, Ln62, kn62, nn62⟩, -, Xn62, ⟨Lcn62, hQn62, ln62, yn62, zn62⟩, stn62⟩ := Jvm.LawKit.callS Xn61 hx (y := (⟨"com/example/causeway/causeway/runtime/VbErrorStandardDescriptionPinLaw", "isKnown", "(I)Z"⟩ : MethodName)) hown (mvT hZ (hw _ (List.mem_of_getElem? (i := 47) rfl))) (mvT hZ (hw _ (List.mem_of_getElem? (i := 48) rfl))) (mvT hZ (hw _ (List.mem_of_getElem? (i := 49) rfl))) (mvT hZ (hw _ (List.mem_of_getElem? (i := 50) rfl))) (by decide) (backOf (W := 0) (rmK l Z a0 hw [] p1 Tn61.heap n0 zzn61) hZ (hw _ (List.mem_of_getElem? (i := 50) rfl)) (hw _ (List.mem_of_getElem? (i := 49) rfl)) (by decide) (by decide)) (g := (mkF m 228 #[.val (.int p1), .val (.int p2), .val (.ref b1), .val (.ref b16), .val (.int (Int32.ofNat j)), .val (.ref an61)] [(.int p1)])) rfl (by rw [hml]; rfl) (argsL := [(.int p1)]) (rest := []) (lenOf pd_3 rfl) rfl (by show 2 * 0 + _ ≤ _; exact Nat.le_of_eq rfl) (hb hby at_228) (fun _ _ => ⟨rfl, rfl, (by decide : 32 + 0 ≤ _), (by decide : 1404 + 0 ≤ _)⟩)
    dsimp only [Pt.U, Pt.locs, Pt.cells, Pt.slots] at Xn62 ln62 yn62 zn62 stn62 hQn62
    subst ln62 yn62 zn62
    obtain ⟨rfl, Nn62q, hn62⟩ := hQn62
    have Nn62 := Fr.app Nxn61 Nn62q
    obtain ⟨Lxn62, Xn62, Nxn62⟩ : ∃ L, Stand p l e room_1 (s.setVm Tn61.vm) m #[(.int p1), (.int p2)] below meth c Tn62 L 32 1404 ∧ Fr n0 L := ⟨_, Xn62.more (by decide) (by decide), Nn62⟩
    have pren63 : ∀ tt, Steps p.tables e below (Tn62.setTop (mkF m 231 #[.val (.int p1), .val (.int p2), .val (.ref b1), .val (.ref b16), .val (.int (Int32.ofNat j)), .val (.ref an61)] [(.int (own_known p1))])) tt → Steps p.tables e below (s₁.setTop (entryFrame m #[(.int p1), (.int p2)] maxLocals)) tt := by
      intro tt kt
      refine pren60 tt ?_
      show Steps p.tables e below (T58.setTop (mkF m 215 #[.val (.int p1), .val (.int p2), .val (.ref b1), .val (.ref b16), .val (.int (Int32.ofNat j)), .unset] [(.int p1)])) _
      refine stn61.trans ?_
      show Steps p.tables e below (Tn61.setTop (mkF m 218 #[.val (.int p1), .val (.int p2), .val (.ref b1), .val (.ref b16), .val (.int (Int32.ofNat j)), .unset] [(.ref an61)])) _
      refine XS.astore Xn61.here hx rfl (hb hby at_218) rfl rfl (l' := #[.val (.int p1), .val (.int p2), .val (.ref b1), .val (.ref b16), .val (.int (Int32.ofNat j)), .val (.ref an61)]) rfl ?_
      show Steps p.tables e below (Tn61.setTop (mkF m 220 #[.val (.int p1), .val (.int p2), .val (.ref b1), .val (.ref b16), .val (.int (Int32.ofNat j)), .val (.ref an61)] [])) _
      refine XS.aload Xn61.here hx rfl (hb hby at_220) rfl rfl ?_
      show Steps p.tables e below (Tn61.setTop (mkF m 222 #[.val (.int p1), .val (.int p2), .val (.ref b1), .val (.ref b16), .val (.int (Int32.ofNat j)), .val (.ref an61)] [(.ref an61)])) _
      refine XS.ifnonnullYes Xn61.here hx rfl (pc0 := 222) (pc' := 227) rfl (hb hby at_222) rfl (by decide) (by decide) ?_
      show Steps p.tables e below (Tn61.setTop (mkF m 227 #[.val (.int p1), .val (.int p2), .val (.ref b1), .val (.ref b16), .val (.int (Int32.ofNat j)), .val (.ref an61)] [])) _
      refine XS.iloadN Xn61.here hx rfl (hb hby at_227) rfl ?_
      show Steps p.tables e below (Tn61.setTop (mkF m 228 #[.val (.int p1), .val (.int p2), .val (.ref b1), .val (.ref b16), .val (.int (Int32.ofNat j)), .val (.ref an61)] [(.int p1)])) _
      refine stn62 _ ?_
      exact kt
    by_cases ck : p1 ∈ own_codes
    · skip
      have prek_64 : ∀ tt, Steps p.tables e below (Tn62.setTop (mkF m 236 #[.val (.int p1), .val (.int p2), .val (.ref b1), .val (.ref b16), .val (.int (Int32.ofNat j)), .val (.ref an61)] [(.ref an61)])) tt → Steps p.tables e below (s₁.setTop (entryFrame m #[(.int p1), (.int p2)] maxLocals)) tt := by
        intro tt kt
        refine pren63 tt ?_
        show Steps p.tables e below (Tn62.setTop (mkF m 231 #[.val (.int p1), .val (.int p2), .val (.ref b1), .val (.ref b16), .val (.int (Int32.ofNat j)), .val (.ref an61)] [(.int (own_known p1))])) _
        refine XS.ifNo Xn62.here hx rfl (hb hby at_231) rfl ((if0 _ _).trans (feq (by rw [show own_known p1 = 1 from if_pos ck]; decide)).1) ?_
        show Steps p.tables e below (Tn62.setTop (mkF m 234 #[.val (.int p1), .val (.int p2), .val (.ref b1), .val (.ref b16), .val (.int (Int32.ofNat j)), .val (.ref an61)] [])) _
        refine XS.aload Xn62.here hx rfl (hb hby at_234) rfl rfl ?_
        exact kt
      obtain ⟨ak_65, Tk_65, hk_65, kkk_65, bk_65, kk_65, Xk_65, ek_65, Ek_65, hSk_65, hkk_65, hZ, hown, Ak_65, Ck_65, Fk_65, Vk_65, lak_65, lbk_65, CRk_65, -, Sk_65, stk_65⟩ := ldcCH (text := (own_txt 51)) Xn62 hx hZ hown (hw _ (List.mem_of_getElem? (i := 51) rfl)) (own_wS hw) hn62 hSn61 (Nat.le_refl _) (own_EW hw) (by decide +kernel) CRn61.1 (vs := (own_bs (own_txt 51)).map Value.int) (z := Int32.ofNat (own_bs (own_txt 51)).length) ⟨by decide +kernel, own_map _⟩ (by decide +kernel) (by decide +kernel) (g := (mkF m 236 #[.val (.int p1), .val (.int p2), .val (.ref b1), .val (.ref b16), .val (.int (Int32.ofNat j)), .val (.ref an61)] [(.ref an61)])) rfl (hb hby at_236) (n := 172) (by decide +kernel) (by decide) (by decide) (by decide)
      have Bk_65 : StrB Z hk_65 ak_65 bk_65 (own_bs (own_txt 51)) := ⟨Ak_65, Ck_65, Fk_65, kk_65, Vk_65⟩
      obtain ⟨Lxk_65, Xk_65, Nxk_65⟩ : ∃ L, Stand p l e room_1 (s.setVm Tk_65.vm) m #[(.int p1), (.int p2)] below meth c Tk_65 L 34 1580 ∧ Fr n0 L := ⟨_, Xk_65.more (by decide) (by decide), Nxn62⟩
      have zzk_65 : n0 ≤ hk_65.size := Nat.le_trans zzn61 Ek_65.1
      have Stk_65 := Sta.ext Ek_65 Stn61
      obtain ⟨cqk_66, kqk_66, qk_66a, qk_66b, qk_66c⟩ := isOf hZ ek_65 (Bn61.ext Ek_65).1
      obtain ⟨_, _, ⟨Tk_66, Lk_66, kk_66, nk_66⟩, -, Xk_66, ⟨Lck_66, hQk_66, lk_66, yk_66, zk_66⟩, stk_66⟩ := Xk_65.virtualBack hx (y := (⟨"java/lang/String", "equals", "(Ljava/lang/Object;)Z"⟩ : MethodName)) (z := (⟨"java/lang/String", "equals", "(Ljava/lang/Object;)Z"⟩ : MethodName)) hown (mvT hZ (hw _ (List.mem_of_getElem? (i := 31) rfl))) (mvT hZ (hw _ (List.mem_of_getElem? (i := 32) rfl))) (notFace_of_selects (args := #[]) (mvT hZ (hw _ (List.mem_of_getElem? (i := 34) rfl)))) (mvT hZ (hw _ (List.mem_of_getElem? (i := 34) rfl))) (mvT hZ (hw _ (List.mem_of_getElem? (i := 33) rfl))) (by decide) (backOf (W := 0) (rmQ0 l Z a0 hw [] an61 bn61 ak_65 bk_65 (own_desc p1) (own_bs (own_txt 51)) cz hk_65 n0 zzk_65 (Bn61.ext Ek_65) Bk_65 Stk_65 hcz (own_desc_len _) own_awlen (own_known_ne _ ck)) hZ (hw _ (List.mem_of_getElem? (i := 35) rfl)) (hw _ (List.mem_of_getElem? (i := 4) rfl)) (by decide) (by decide)) qk_66a qk_66c (g := (mkF m 238 #[.val (.int p1), .val (.int p2), .val (.ref b1), .val (.ref b16), .val (.int (Int32.ofNat j)), .val (.ref an61)] [(.ref ak_65), (.ref an61)])) rfl (by rw [hml]; rfl) (Steps.refl _) (argsL := [(.ref ak_65)]) (rest := []) (lenOf pd_2 rfl) rfl (by show 2 * 0 + _ ≤ _; exact Nat.le_of_eq rfl) (hb hby at_238) (fun _ _ => ⟨rfl, ek_65, (by decide : 34 + 0 ≤ _), (by decide : 1580 + 0 ≤ _)⟩)
      dsimp only [Pt.U, Pt.locs, Pt.cells, Pt.slots] at Xk_66 lk_66 yk_66 zk_66 stk_66 hQk_66
      subst lk_66 yk_66 zk_66
      obtain ⟨rfl, Nk_66q, hk_66⟩ := hQk_66
      have Nk_66 := Fr.app Nxk_65 Nk_66q
      obtain ⟨Lxk_66, Xk_66, Nxk_66⟩ : ∃ L, Stand p l e room_1 (s.setVm Tk_65.vm) m #[(.int p1), (.int p2)] below meth c Tk_66 L 34 1580 ∧ Fr n0 L := ⟨_, Xk_66.more (by decide) (by decide), Nk_66⟩
      have prek_67 : ∀ tt, Steps p.tables e below (Tk_66.setTop (mkF m 249 #[.val (.int p1), .val (.int p2), .val (.ref b1), .val (.ref b16), .val (.int (Int32.ofNat j)), .val (.ref an61)] [(.int (1 : Int32))])) tt → Steps p.tables e below (s₁.setTop (entryFrame m #[(.int p1), (.int p2)] maxLocals)) tt := by
        intro tt kt
        refine prek_64 tt ?_
        show Steps p.tables e below (Tn62.setTop (mkF m 236 #[.val (.int p1), .val (.int p2), .val (.ref b1), .val (.ref b16), .val (.int (Int32.ofNat j)), .val (.ref an61)] [(.ref an61)])) _
        refine stk_65 _ ?_
        show Steps p.tables e below (Tk_65.setTop (mkF m 238 #[.val (.int p1), .val (.int p2), .val (.ref b1), .val (.ref b16), .val (.int (Int32.ofNat j)), .val (.ref an61)] [(.ref ak_65), (.ref an61)])) _
        refine stk_66.trans ?_
        show Steps p.tables e below (Tk_66.setTop (mkF m 241 #[.val (.int p1), .val (.int p2), .val (.ref b1), .val (.ref b16), .val (.int (Int32.ofNat j)), .val (.ref an61)] [(.int (0 : Int32))])) _
        refine XS.ifNo Xk_66.here hx rfl (hb hby at_241) rfl ((if0 _ _).trans (teq rfl).2) ?_
        show Steps p.tables e below (Tk_66.setTop (mkF m 244 #[.val (.int p1), .val (.int p2), .val (.ref b1), .val (.ref b16), .val (.int (Int32.ofNat j)), .val (.ref an61)] [])) _
        refine XS.iconst Xk_66.here hx rfl (hb hby at_244) ?_
        show Steps p.tables e below (Tk_66.setTop (mkF m 245 #[.val (.int p1), .val (.int p2), .val (.ref b1), .val (.ref b16), .val (.int (Int32.ofNat j)), .val (.ref an61)] [(.int (1 : Int32))])) _
        refine XS.goto Xk_66.here hx rfl (pc0 := 245) (pc' := 249) rfl (hb hby at_245) (by decide) (by decide) ?_
        exact kt
      replace Xk_66 := Xk_66.more (cells' := 72) (slots' := 30976) (by decide) (by decide)
      obtain ⟨fs, hr, hrun, hended, hRW⟩ := Xk_66.leaveW hSk_65 (by rw [hk_66]; exact hkk_65) (v := some (.int (1 : Int32))) (fun h => by rw [Bd.returns] at h; cases h)
      refine ⟨_, _, prek_67 _ ?_, hrun, hended, _, _, rfl, ?_, hRW⟩
      · exact retN Xk_66 hx (t := .boolean) Bd.returns (by simp) (hb hby at_249) hr
      · show Q0 Z p1 p2 cz h0 n0 _ Tk_66.heap _
        exact ⟨rfl, Nxk_66⟩
    · skip
      have pren_64 : ∀ tt, Steps p.tables e below (Tn62.setTop (mkF m 252 #[.val (.int p1), .val (.int p2), .val (.ref b1), .val (.ref b16), .val (.int (Int32.ofNat j)), .val (.ref an61)] [(.ref an61)])) tt → Steps p.tables e below (s₁.setTop (entryFrame m #[(.int p1), (.int p2)] maxLocals)) tt := by
        intro tt kt
        refine pren63 tt ?_
        show Steps p.tables e below (Tn62.setTop (mkF m 231 #[.val (.int p1), .val (.int p2), .val (.ref b1), .val (.ref b16), .val (.int (Int32.ofNat j)), .val (.ref an61)] [(.int (own_known p1))])) _
        refine XS.ifYes Xn62.here hx rfl (pc0 := 231) (pc' := 250) rfl (hb hby at_231) rfl ((if0 _ _).trans (teq (show own_known p1 = 0 from if_neg ck)).1) (by decide) (by decide) ?_
        show Steps p.tables e below (Tn62.setTop (mkF m 250 #[.val (.int p1), .val (.int p2), .val (.ref b1), .val (.ref b16), .val (.int (Int32.ofNat j)), .val (.ref an61)] [])) _
        refine XS.aload Xn62.here hx rfl (hb hby at_250) rfl rfl ?_
        exact kt
      obtain ⟨an_65, Tn_65, hn_65, kkn_65, bn_65, kn_65, Xn_65, en_65, En_65, hSn_65, hkn_65, hZ, hown, An_65, Cn_65, Fn_65, Vn_65, lan_65, lbn_65, CRn_65, -, Sn_65, stn_65⟩ := ldcCH (text := (own_txt 51)) Xn62 hx hZ hown (hw _ (List.mem_of_getElem? (i := 51) rfl)) (own_wS hw) hn62 hSn61 (Nat.le_refl _) (own_EW hw) (by decide +kernel) CRn61.1 (vs := (own_bs (own_txt 51)).map Value.int) (z := Int32.ofNat (own_bs (own_txt 51)).length) ⟨by decide +kernel, own_map _⟩ (by decide +kernel) (by decide +kernel) (g := (mkF m 252 #[.val (.int p1), .val (.int p2), .val (.ref b1), .val (.ref b16), .val (.int (Int32.ofNat j)), .val (.ref an61)] [(.ref an61)])) rfl (hb hby at_252) (n := 172) (by decide +kernel) (by decide) (by decide) (by decide)
      have Bn_65 : StrB Z hn_65 an_65 bn_65 (own_bs (own_txt 51)) := ⟨An_65, Cn_65, Fn_65, kn_65, Vn_65⟩
      obtain ⟨Lxn_65, Xn_65, Nxn_65⟩ : ∃ L, Stand p l e room_1 (s.setVm Tn_65.vm) m #[(.int p1), (.int p2)] below meth c Tn_65 L 34 1580 ∧ Fr n0 L := ⟨_, Xn_65.more (by decide) (by decide), Nxn62⟩
      have zzn_65 : n0 ≤ hn_65.size := Nat.le_trans zzn61 En_65.1
      have Stn_65 := Sta.ext En_65 Stn61
      have Bu : StrB Z hn_65 an61 bn61 (own_bs (own_txt 51)) := by rw [← own_unknown ck]; exact Bn61.ext En_65
      obtain ⟨cqn_66, kqn_66, qn_66a, qn_66b, qn_66c⟩ := isOf hZ en_65 Bu.1
      obtain ⟨_, _, ⟨Tn_66, Ln_66, kn_66, nn_66⟩, -, Xn_66, ⟨Lcn_66, hQn_66, ln_66, yn_66, zn_66⟩, stn_66⟩ := Xn_65.virtualBack hx (y := (⟨"java/lang/String", "equals", "(Ljava/lang/Object;)Z"⟩ : MethodName)) (z := (⟨"java/lang/String", "equals", "(Ljava/lang/Object;)Z"⟩ : MethodName)) hown (mvT hZ (hw _ (List.mem_of_getElem? (i := 31) rfl))) (mvT hZ (hw _ (List.mem_of_getElem? (i := 32) rfl))) (notFace_of_selects (args := #[]) (mvT hZ (hw _ (List.mem_of_getElem? (i := 34) rfl)))) (mvT hZ (hw _ (List.mem_of_getElem? (i := 34) rfl))) (mvT hZ (hw _ (List.mem_of_getElem? (i := 33) rfl))) (by decide) (backOf (W := 0) (rmQ1 l Z a0 hw [] an61 bn61 an_65 bn_65 (own_bs (own_txt 51)) cz hn_65 n0 zzn_65 Bu Bn_65 Stn_65 hcz own_awlen) hZ (hw _ (List.mem_of_getElem? (i := 35) rfl)) (hw _ (List.mem_of_getElem? (i := 4) rfl)) (by decide) (by decide)) qn_66a qn_66c (g := (mkF m 254 #[.val (.int p1), .val (.int p2), .val (.ref b1), .val (.ref b16), .val (.int (Int32.ofNat j)), .val (.ref an61)] [(.ref an_65), (.ref an61)])) rfl (by rw [hml]; rfl) (Steps.refl _) (argsL := [(.ref an_65)]) (rest := []) (lenOf pd_2 rfl) rfl (by show 2 * 0 + _ ≤ _; exact Nat.le_of_eq rfl) (hb hby at_254) (fun _ _ => ⟨rfl, en_65, (by decide : 34 + 0 ≤ _), (by decide : 1580 + 0 ≤ _)⟩)
      dsimp only [Pt.U, Pt.locs, Pt.cells, Pt.slots] at Xn_66 ln_66 yn_66 zn_66 stn_66 hQn_66
      subst ln_66 yn_66 zn_66
      obtain ⟨rfl, Nn_66q, hn_66⟩ := hQn_66
      have Nn_66 := Fr.app Nxn_65 Nn_66q
      obtain ⟨Lxn_66, Xn_66, Nxn_66⟩ : ∃ L, Stand p l e room_1 (s.setVm Tn_65.vm) m #[(.int p1), (.int p2)] below meth c Tn_66 L 34 1580 ∧ Fr n0 L := ⟨_, Xn_66.more (by decide) (by decide), Nn_66⟩
      have pren_67 : ∀ tt, Steps p.tables e below (Tn_66.setTop (mkF m 257 #[.val (.int p1), .val (.int p2), .val (.ref b1), .val (.ref b16), .val (.int (Int32.ofNat j)), .val (.ref an61)] [(.int (1 : Int32))])) tt → Steps p.tables e below (s₁.setTop (entryFrame m #[(.int p1), (.int p2)] maxLocals)) tt := by
        intro tt kt
        refine pren_64 tt ?_
        show Steps p.tables e below (Tn62.setTop (mkF m 252 #[.val (.int p1), .val (.int p2), .val (.ref b1), .val (.ref b16), .val (.int (Int32.ofNat j)), .val (.ref an61)] [(.ref an61)])) _
        refine stn_65 _ ?_
        show Steps p.tables e below (Tn_65.setTop (mkF m 254 #[.val (.int p1), .val (.int p2), .val (.ref b1), .val (.ref b16), .val (.int (Int32.ofNat j)), .val (.ref an61)] [(.ref an_65), (.ref an61)])) _
        refine stn_66.trans ?_
        exact kt
      replace Xn_66 := Xn_66.more (cells' := 72) (slots' := 30976) (by decide) (by decide)
      obtain ⟨fs, hr, hrun, hended, hRW⟩ := Xn_66.leaveW hSn_65 (by rw [hn_66]; exact hkn_65) (v := some (.int (1 : Int32))) (fun h => by rw [Bd.returns] at h; cases h)
      refine ⟨_, _, pren_67 _ ?_, hrun, hended, _, _, rfl, ?_, hRW⟩
      · exact retN Xn_66 hx (t := .boolean) Bd.returns (by simp) (hb hby at_257) hr
      · show Q0 Z p1 p2 cz h0 n0 _ Tn_66.heap _
        exact ⟨rfl, Nxn_66⟩
set_option maxRecDepth 65536 in
set_option maxHeartbeats 40000000 in
theorem comes_1 {Post : Tables → Env → Array Value → State → Outcome → State → Prop} (hpost : ∀ tb e args s v u, (limb_1_1.after args s (.returned v) u = true ∧ limb_1_2.after args s (.returned v) u = true ∧ True) → Jvm.D.FramedW s (.returned v) u (Jvm.fieldLocs frame_1_writes args s ++ Jvm.arrayLocs frame_1_arrays args s ++ Jvm.staticLocs frame_1_statics s) 72 30976 → Post tb e args s (.returned v) u) :
    ArmFor flags0 classFile x code maxLocals ret World_1 tables_1 room_1 Calls_1 rest_1 Pre_1 Post := by
  intro l hfl _ _ p e ha hc hk s m args below hf hA hF happ hP
  obtain ⟨hcalls, hrest, hpre⟩ := hP
  obtain ⟨-, -, -, hnamed, -, -, -, hat⟩ := (Spec.applies_iff hf).mp happ
  obtain ⟨hg, hn⟩ := and_e (Cond.before_iff.mp (show (Jvm.Cond.and given_1 narrow_1).before args s = true from hpre))
  obtain ⟨gc, r0⟩ := and_e hg
  obtain ⟨g0, r1⟩ := and_e r0
  obtain ⟨w0, w1, rfl⟩ : ∃ w0 w1 : Value, args = #[w0, w1] := by
    have hs : args.size = 2 := by simpa [Cond.value, given_1] using gc
    obtain ⟨L⟩ := args
    match L, hs with
    | [w0, w1], _ => exact ⟨w0, w1, rfl⟩
  have hw := fun d (hd : d ∈ tables_1) => atoms_spec (ws := Jvm.Cond.code x code maxLocals ret :: tables_1) hat d (List.mem_cons_of_mem _ hd)
  obtain ⟨hsets, hown0⟩ := atoms_of _ (rest_1_c_eq ▸ (show rest_1_c.before _ s = true from hrest))
  have n3 := not_v (Cond.before_iff.mp (hsets _ (List.mem_of_getElem? (i := 2) rfl)))
  obtain ⟨i0, ei0⟩ := is_v g0
  obtain rfl : w0 = (.int i0) := Option.some.inj ei0
  obtain ⟨i1, ei1⟩ := is_v r1
  obtain rfl : w1 = (.int i1) := Option.some.inj ei1
  obtain ⟨i7, e6⟩ := is_v (Cond.before_iff.mp (hsets _ (List.mem_of_getElem? (i := 1) rfl)))
  have S8 : Sta s s.heap "java/lang/String" "COMPACT_STRINGS" "Z" (.int i7) := Sta.start e6 (Or.inl (hsets _ (List.mem_of_getElem? (i := 0) rfl)))
  have c13 : ¬ (i7 = (0 : Int32)) := gotF (Cond.eq_ints e6 (Term.int_eval (0))) n3
  have hC : CHv s consts_1 s.vm s.heap := CHv.start (own_EW hw) (fun p hp => (show Jvm.Lit.constHeld s p.1 p.2 from hcalls.1 p hp)) (hsets _ (List.mem_of_getElem? (i := 2) rfl)) (hw _ (List.mem_of_getElem? (i := 6) rfl)) (hw _ (List.mem_of_getElem? (i := 5) rfl))
  obtain ⟨n, o, h1, h2, h3, _, L, rfl, ⟨rfl, N⟩, hq⟩ := rm0 l s _ hw tables_1 i0 i1 i7 s.heap s.heap.size (Nat.le_refl _) S8 c13 p e ha hc hk s m _ below hf ((Spec.applies_iff_loose hf).mp happ).1 ⟨rfl, State.Warmed39.refl s, rfl, hC⟩ trivial
  refine ⟨n, _, h1, h2, h3, hpost _ _ _ _ _ _ ⟨Cond.after_iff.mpr rfl, Cond.after_iff.mpr (eq_i res_at (Term.int_eval (1)) rfl), trivial⟩ ⟨hq.1, hq.2.1, hq.2.2.1, (hq.2.2.2.sift fun y hy => Or.inr (N y hy)).mono (by decide) (by decide)⟩⟩
theorem main_1_1 : Claimed_1_1 := comes_1 fun _ _ _ _ _ _ h hF => ⟨h.1, hF⟩
theorem main_1_2 : Claimed_1_2 := comes_1 fun _ _ _ _ _ _ h hF => ⟨h.2.1, hF⟩
end Jvm.Pilot.@@N@@
namespace Jvm.Pilot.@@N@@
open Jvm Jvm.ClassFile Sem Op Lib Jvm.Free Jvm.Stand Jvm.Pilot.@@N@@.Jvm.D
/-! MADE BY PROGRAM (witnessworld.py) out of the Statement's table words and the real class files: 21 classes; the members and pool entries that the words name. The judged class is class 1, her method 2. -/
namespace start1
open Jvm.ClassFile
def u (s : String) : CpInfo := .utf8 (stringToUtf16 s)
/-- a pool by its gaps: so many unusable entries, then the entry; so many at the end -/
def gap : Nat → List CpInfo → List CpInfo
  | 0, r => r
  | n + 1, r => .unusable :: gap n r
def poolList (es : List (Nat × CpInfo)) (last : Nat) : List CpInfo := es.foldr (fun e r => gap e.1 (e.2 :: r)) (gap last [])
def pool (es : List (Nat × CpInfo)) (last : Nat) : Array CpInfo := ⟨poolList es last⟩
def fileOf (pool : Array CpInfo) (this : Nat) (attrs : Array Attribute := #[]) (ms : Array MethodInfo := #[]) (fl : Nat := 33) (sup : Nat := 0) (ifs : Array Nat := #[]) (fds : Array FieldInfo := #[]) : ClassFile where
  minorVersion := 0
  majorVersion := 65
  constantPool := pool
  accessFlags := fl
  thisClass := this
  superClass := sup
  interfaces := ifs
  fields := fds
  methods := ms
  attributes := attrs
def plain (name : String) (sup : Option ClassId) : Class where
  name := name
  kind := .ordinary
  loader := none
  accessFlags := 33
  super := sup
  interfaces := #[]
  cf := none
  fields := #[]
  methods := #[]
  instanceTypes := #[]
  staticTypes := #[]
  resolved := #[]
  callSites := []
  init := .initialized
  statics := none
  mirror := none

def pool0 : Array CpInfo := pool [(5, u "<init>"), (0, u "()V"), (1, .class_ 10), (1, u "java/lang/Object")] 113

def k0m0 : Method := { name := "<init>", desc := "()V", sig := { parameters := [], returnType := none }, accessFlags := 1, code := none }
/-- java/lang/Object -/
def k0 : Class := { plain "java/lang/Object" none with
  accessFlags := 33
  interfaces := #[]
  cf := some (fileOf pool0 8 #[] #[{ accessFlags := 1, nameIndex := 5, descriptorIndex := 6, attributes := #[] }] 33 0 #[] #[])
  fields := #[]
  methods := #[k0m0]
  instanceTypes := #[]
  staticTypes := #[]
  resolved := Array.replicate 124 none
  statics := none }

def pool1 : Array CpInfo := pool [(2, .class_ 4), (1, u "java/lang/Object"), (0, u "<init>"), (0, u "()V"), (0, .class_ 8), (0, u "java/lang/String"), (0, .string 10), (0, u "Invalid procedure call or argument"), (0, .string 12), (0, u "Overflow"), (0, .string 14), (0, u "Out of memory"), (0, .string 16), (0, u "Subscript out of range"), (0, .string 18), (0, u "Division by zero"), (0, .string 20), (0, u "Type mismatch"), (0, .string 22), (0, u "Out of string space"), (0, .string 24), (0, u "Resume without error"), (0, .string 26), (0, u "Bad file name or number"), (0, .string 28), (0, u "File already open"), (0, .string 30), (0, u "Device I/O error"), (0, .string 32), (0, u "Path/File access error"), (0, .string 34), (0, u "Path not found"), (0, .string 36), (0, u "Object variable or With block variable not set"), (0, .integer 2147483647), (0, .methodref 39 40), (0, .class_ 41), (0, .nameAndType 42 43), (0, u "com/example/causeway/causeway/runtime/VbError"), (0, u "standardDescription"), (0, u "(I)Ljava/lang/String;"), (0, .methodref 7 45), (0, .nameAndType 46 47), (0, u "equals"), (0, u "(Ljava/lang/Object;)Z"), (0, .methodref 49 50), (0, .class_ 51), (0, .nameAndType 52 53), (0, u "com/example/causeway/causeway/runtime/VbErrorStandardDescriptionPinLaw"), (0, u "isKnown"), (0, u "(I)Z"), (0, .string 55), (0, u "Application-defined or object-defined error"), (3, u "law"), (0, u "(II)Z")] 6

def k1m0 : Method := { name := "<init>", desc := "()V", sig := { parameters := [], returnType := none }, accessFlags := 2, code := none }
def k1c1 : Code := { maxStack := 2, maxLocals := 1, code := method_2_code, exceptionTable := #[], attributes := #[] }
def k1m1 : Method := { name := "isKnown", desc := "(I)Z", sig := { parameters := [.int], returnType := some .boolean }, accessFlags := 10, code := some k1c1 }
def k1c2 : Code := { maxStack := 4, maxLocals := 6, code := code, exceptionTable := #[], attributes := #[] }
def k1m2 : Method := { name := "law", desc := "(II)Z", sig := { parameters := [.int, .int], returnType := some .boolean }, accessFlags := 9, code := some k1c2 }
/-- com/example/causeway/causeway/runtime/VbErrorStandardDescriptionPinLaw -/
def k1 : Class := { plain "com/example/causeway/causeway/runtime/VbErrorStandardDescriptionPinLaw" (some 0) with
  accessFlags := 49
  interfaces := #[]
  cf := some (fileOf pool1 49 #[] #[{ accessFlags := 2, nameIndex := 5, descriptorIndex := 6, attributes := #[] }, { accessFlags := 10, nameIndex := 52, descriptorIndex := 53, attributes := #[] }, { accessFlags := 9, nameIndex := 59, descriptorIndex := 60, attributes := #[] }] 49 2 #[] #[])
  fields := #[]
  methods := #[k1m0, k1m1, k1m2]
  instanceTypes := #[]
  staticTypes := #[]
  resolved := Array.replicate 67 none
  statics := none }

def pool2 : Array CpInfo := pool [(1, .class_ 2), (0, u "java/io/Serializable"), (0, .class_ 4), (0, u "java/lang/Object")] 2

/-- java/io/Serializable -/
def k2 : Class := { plain "java/io/Serializable" (some 0) with
  accessFlags := 1537
  interfaces := #[]
  cf := some (fileOf pool2 1 #[] #[] 1537 3 #[] #[])
  fields := #[]
  methods := #[]
  instanceTypes := #[]
  staticTypes := #[]
  resolved := Array.replicate 7 none
  statics := none }

def pool3 : Array CpInfo := pool [(1, .class_ 2), (0, u "java/lang/Comparable"), (0, .class_ 4), (0, u "java/lang/Object")] 7

/-- java/lang/Comparable -/
def k3 : Class := { plain "java/lang/Comparable" (some 0) with
  accessFlags := 1537
  interfaces := #[]
  cf := some (fileOf pool3 1 #[] #[] 1537 3 #[] #[])
  fields := #[]
  methods := #[]
  instanceTypes := #[]
  staticTypes := #[]
  resolved := Array.replicate 12 none
  statics := none }

def pool4 : Array CpInfo := pool [(2, .class_ 4), (1, u "java/lang/CharSequence"), (42, .class_ 48), (0, u "java/lang/CharSequence$1CodePointIterator"), (10, .class_ 60), (0, u "java/lang/CharSequence$1CharIterator"), (5, .class_ 67), (0, u "java/lang/Object")] 63

/-- java/lang/CharSequence -/
def k4 : Class := { plain "java/lang/CharSequence" (some 0) with
  accessFlags := 1537
  interfaces := #[]
  cf := some (fileOf pool4 2 #[.nestMembers #[47, 59]] #[] 1537 66 #[] #[])
  fields := #[]
  methods := #[]
  instanceTypes := #[]
  staticTypes := #[]
  resolved := Array.replicate 131 none
  statics := none }

def pool5 : Array CpInfo := pool [(1, .class_ 2), (0, u "java/lang/constant/Constable"), (0, .class_ 4), (0, u "java/lang/Object")] 6

/-- java/lang/constant/Constable -/
def k5 : Class := { plain "java/lang/constant/Constable" (some 0) with
  accessFlags := 1537
  interfaces := #[]
  cf := some (fileOf pool5 1 #[] #[] 1537 3 #[] #[])
  fields := #[]
  methods := #[]
  instanceTypes := #[]
  staticTypes := #[]
  resolved := Array.replicate 11 none
  statics := none }

def pool6 : Array CpInfo := pool [(1, .class_ 2), (0, u "java/lang/constant/ConstantDesc"), (0, .class_ 4), (0, u "java/lang/Object")] 32

/-- java/lang/constant/ConstantDesc -/
def k6 : Class := { plain "java/lang/constant/ConstantDesc" (some 0) with
  accessFlags := 1537
  interfaces := #[]
  cf := some (fileOf pool6 1 #[] #[] 1537 3 #[] #[])
  fields := #[]
  methods := #[]
  instanceTypes := #[]
  staticTypes := #[]
  resolved := Array.replicate 37 none
  statics := none }

def pool7 : Array CpInfo := pool [(2, .class_ 4), (1, u "java/lang/Object"), (0, u "<init>"), (0, u "()V"), (2, .fieldref 10 11), (0, .class_ 12), (0, .nameAndType 13 14), (0, u "java/lang/String"), (0, u "value"), (0, u "[B"), (0, .fieldref 10 16), (0, .nameAndType 17 18), (0, u "coder"), (0, u "B"), (2, u "hash"), (0, u "I"), (2, u "hashIsZero"), (0, u "Z"), (11, .fieldref 10 39), (0, .nameAndType 40 26), (0, u "COMPACT_STRINGS"), (66, .class_ 109), (1, u "java/lang/StringLatin1"), (431, .methodref 107 542), (0, .nameAndType 543 544), (0, u "equals"), (0, u "([B[B)Z"), (28, u "(Ljava/lang/Object;)Z"), (1, .class_ 576), (0, u "java/lang/CharSequence"), (22, u "CASE_INSENSITIVE_ORDER"), (0, u "Ljava/util/Comparator;"), (500, u "serialPersistentFields"), (0, u "[Ljava/io/ObjectStreamField;"), (0, .class_ 1104), (0, u "java/lang/String$CaseInsensitiveComparator"), (1, .class_ 1107), (0, u "java/io/Serializable"), (0, .class_ 1109), (0, u "java/lang/Comparable"), (0, .class_ 1111), (0, u "java/lang/constant/Constable"), (0, .class_ 1113), (0, u "java/lang/constant/ConstantDesc"), (2, u "serialVersionUID"), (0, u "J"), (3, u "REPL"), (0, u "C"), (2, u "LATIN1"), (1, u "UTF16")] 323

def k7m0 : Method := { name := "<init>", desc := "()V", sig := { parameters := [], returnType := none }, accessFlags := 1, code := none }
def k7c1 : Code := { maxStack := 2, maxLocals := 3, code := jdk_42_method_66_code, exceptionTable := #[], attributes := #[] }
def k7m1 : Method := { name := "equals", desc := "(Ljava/lang/Object;)Z", sig := { parameters := [(.object "java/lang/Object")], returnType := some .boolean }, accessFlags := 1, code := some k7c1 }
/-- java/lang/String -/
def k7 : Class := { plain "java/lang/String" (some 0) with
  accessFlags := 49
  interfaces := #[2, 3, 4, 5, 6]
  cf := some (fileOf pool7 10 #[.nestMembers #[1103]] #[{ accessFlags := 1, nameIndex := 5, descriptorIndex := 6, attributes := #[] }, { accessFlags := 1, nameIndex := 543, descriptorIndex := 573, attributes := #[] }] 49 2 #[1106, 1108, 575, 1110, 1112] #[{ accessFlags := 18, nameIndex := 13, descriptorIndex := 14, attributes := #[] }, { accessFlags := 18, nameIndex := 17, descriptorIndex := 18, attributes := #[] }, { accessFlags := 2, nameIndex := 21, descriptorIndex := 22, attributes := #[] }, { accessFlags := 2, nameIndex := 25, descriptorIndex := 26, attributes := #[] }, { accessFlags := 26, nameIndex := 1116, descriptorIndex := 1117, attributes := #[] }, { accessFlags := 24, nameIndex := 40, descriptorIndex := 26, attributes := #[] }, { accessFlags := 26, nameIndex := 1101, descriptorIndex := 1102, attributes := #[] }, { accessFlags := 26, nameIndex := 1121, descriptorIndex := 1122, attributes := #[] }, { accessFlags := 25, nameIndex := 599, descriptorIndex := 600, attributes := #[] }, { accessFlags := 24, nameIndex := 1125, descriptorIndex := 18, attributes := #[] }, { accessFlags := 24, nameIndex := 1127, descriptorIndex := 18, attributes := #[] }])
  fields := #[{ name := "value", type := (.array .byte), accessFlags := 18, slot := 0, constantValue := 0 }, { name := "coder", type := .byte, accessFlags := 18, slot := 1, constantValue := 0 }, { name := "hash", type := .int, accessFlags := 2, slot := 2, constantValue := 0 }, { name := "hashIsZero", type := .boolean, accessFlags := 2, slot := 3, constantValue := 0 }, { name := "serialVersionUID", type := .long, accessFlags := 26, slot := 0, constantValue := 0 }, { name := "COMPACT_STRINGS", type := .boolean, accessFlags := 24, slot := 1, constantValue := 0 }, { name := "serialPersistentFields", type := (.array (.object "java/io/ObjectStreamField")), accessFlags := 26, slot := 2, constantValue := 0 }, { name := "REPL", type := .char, accessFlags := 26, slot := 3, constantValue := 0 }, { name := "CASE_INSENSITIVE_ORDER", type := (.object "java/util/Comparator"), accessFlags := 25, slot := 4, constantValue := 0 }, { name := "LATIN1", type := .byte, accessFlags := 24, slot := 5, constantValue := 0 }, { name := "UTF16", type := .byte, accessFlags := 24, slot := 6, constantValue := 0 }]
  methods := #[k7m0, k7m1]
  instanceTypes := #[(.array .byte), .byte, .int, .boolean]
  staticTypes := #[.long, .boolean, (.array (.object "java/io/ObjectStreamField")), .char, (.object "java/util/Comparator"), .byte, .byte]
  resolved := Array.replicate 1451 none
  statics := some 0 }

def pool8 : Array CpInfo := pool [(2, .class_ 4), (1, u "java/lang/Object"), (0, u "<init>"), (0, u "()V"), (1, .class_ 10), (1, u "java/lang/Throwable"), (0, u "cause"), (0, u "Ljava/lang/Throwable;"), (2, u "UNASSIGNED_STACK"), (0, u "[Ljava/lang/StackTraceElement;"), (2, u "stackTrace"), (2, u "SUPPRESSED_SENTINEL"), (0, u "Ljava/util/List;"), (2, u "suppressedExceptions"), (6, u "detailMessage"), (0, u "Ljava/lang/String;"), (58, .class_ 94), (0, u "java/lang/Throwable$WrappedPrintStream"), (6, .class_ 103), (1, u "java/lang/Throwable$PrintStreamOrWriter"), (61, u "$assertionsDisabled"), (0, u "Z"), (26, .class_ 194), (0, u "java/lang/Throwable$WrappedPrintWriter"), (5, u "backtrace"), (0, u "Ljava/lang/Object;"), (9, u "depth"), (0, u "I"), (56, .class_ 271), (1, u "java/lang/Throwable$SentinelHolder"), (32, u "EMPTY_THROWABLE_ARRAY"), (0, u "[Ljava/lang/Throwable;"), (12, .class_ 319), (0, u "java/io/Serializable"), (0, u "serialVersionUID"), (0, u "J"), (5, u "NULL_CAUSE_MESSAGE"), (0, u "SELF_SUPPRESSION_MESSAGE"), (0, u "CAUSE_CAPTION"), (0, u "SUPPRESSED_CAPTION")] 73

def k8m0 : Method := { name := "<init>", desc := "()V", sig := { parameters := [], returnType := none }, accessFlags := 1, code := none }
/-- java/lang/Throwable -/
def k8 : Class := { plain "java/lang/Throwable" (some 0) with
  accessFlags := 33
  interfaces := #[2]
  cf := some (fileOf pool8 8 #[.nestMembers #[193, 93, 101, 269]] #[{ accessFlags := 1, nameIndex := 5, descriptorIndex := 6, attributes := #[] }] 33 2 #[318] #[{ accessFlags := 26, nameIndex := 320, descriptorIndex := 321, attributes := #[] }, { accessFlags := 130, nameIndex := 200, descriptorIndex := 201, attributes := #[] }, { accessFlags := 2, nameIndex := 33, descriptorIndex := 34, attributes := #[] }, { accessFlags := 26, nameIndex := 15, descriptorIndex := 16, attributes := #[] }, { accessFlags := 2, nameIndex := 11, descriptorIndex := 12, attributes := #[] }, { accessFlags := 2, nameIndex := 19, descriptorIndex := 16, attributes := #[] }, { accessFlags := 130, nameIndex := 211, descriptorIndex := 212, attributes := #[] }, { accessFlags := 26, nameIndex := 22, descriptorIndex := 23, attributes := #[] }, { accessFlags := 2, nameIndex := 26, descriptorIndex := 23, attributes := #[] }, { accessFlags := 26, nameIndex := 327, descriptorIndex := 34, attributes := #[] }, { accessFlags := 26, nameIndex := 328, descriptorIndex := 34, attributes := #[] }, { accessFlags := 26, nameIndex := 329, descriptorIndex := 34, attributes := #[] }, { accessFlags := 26, nameIndex := 330, descriptorIndex := 34, attributes := #[] }, { accessFlags := 26, nameIndex := 304, descriptorIndex := 305, attributes := #[] }, { accessFlags := 4120, nameIndex := 165, descriptorIndex := 166, attributes := #[] }])
  fields := #[{ name := "serialVersionUID", type := .long, accessFlags := 26, slot := 0, constantValue := 0 }, { name := "backtrace", type := (.object "java/lang/Object"), accessFlags := 130, slot := 0, constantValue := 0 }, { name := "detailMessage", type := (.object "java/lang/String"), accessFlags := 2, slot := 1, constantValue := 0 }, { name := "UNASSIGNED_STACK", type := (.array (.object "java/lang/StackTraceElement")), accessFlags := 26, slot := 1, constantValue := 0 }, { name := "cause", type := (.object "java/lang/Throwable"), accessFlags := 2, slot := 2, constantValue := 0 }, { name := "stackTrace", type := (.array (.object "java/lang/StackTraceElement")), accessFlags := 2, slot := 3, constantValue := 0 }, { name := "depth", type := .int, accessFlags := 130, slot := 4, constantValue := 0 }, { name := "SUPPRESSED_SENTINEL", type := (.object "java/util/List"), accessFlags := 26, slot := 2, constantValue := 0 }, { name := "suppressedExceptions", type := (.object "java/util/List"), accessFlags := 2, slot := 5, constantValue := 0 }, { name := "NULL_CAUSE_MESSAGE", type := (.object "java/lang/String"), accessFlags := 26, slot := 3, constantValue := 0 }, { name := "SELF_SUPPRESSION_MESSAGE", type := (.object "java/lang/String"), accessFlags := 26, slot := 4, constantValue := 0 }, { name := "CAUSE_CAPTION", type := (.object "java/lang/String"), accessFlags := 26, slot := 5, constantValue := 0 }, { name := "SUPPRESSED_CAPTION", type := (.object "java/lang/String"), accessFlags := 26, slot := 6, constantValue := 0 }, { name := "EMPTY_THROWABLE_ARRAY", type := (.array (.object "java/lang/Throwable")), accessFlags := 26, slot := 7, constantValue := 0 }, { name := "$assertionsDisabled", type := .boolean, accessFlags := 4120, slot := 8, constantValue := 0 }]
  methods := #[k8m0]
  instanceTypes := #[(.object "java/lang/Object"), (.object "java/lang/String"), (.object "java/lang/Throwable"), (.array (.object "java/lang/StackTraceElement")), .int, (.object "java/util/List")]
  staticTypes := #[.long, (.array (.object "java/lang/StackTraceElement")), (.object "java/util/List"), (.object "java/lang/String"), (.object "java/lang/String"), (.object "java/lang/String"), (.object "java/lang/String"), (.array (.object "java/lang/Throwable")), .boolean]
  resolved := Array.replicate 404 none
  statics := none }

def pool9 : Array CpInfo := pool [(2, .class_ 4), (1, u "java/lang/Throwable"), (0, u "<init>"), (0, u "()V"), (12, .class_ 20), (0, u "java/lang/Exception"), (0, u "serialVersionUID"), (0, u "J")] 17

def k9m0 : Method := { name := "<init>", desc := "()V", sig := { parameters := [], returnType := none }, accessFlags := 1, code := none }
/-- java/lang/Exception -/
def k9 : Class := { plain "java/lang/Exception" (some 8) with
  accessFlags := 33
  interfaces := #[]
  cf := some (fileOf pool9 19 #[] #[{ accessFlags := 1, nameIndex := 5, descriptorIndex := 6, attributes := #[] }] 33 2 #[] #[{ accessFlags := 24, nameIndex := 21, descriptorIndex := 22, attributes := #[] }])
  fields := #[{ name := "serialVersionUID", type := .long, accessFlags := 24, slot := 0, constantValue := 0 }]
  methods := #[k9m0]
  instanceTypes := #[(.object "java/lang/Object"), (.object "java/lang/String"), (.object "java/lang/Throwable"), (.array (.object "java/lang/StackTraceElement")), .int, (.object "java/util/List")]
  staticTypes := #[.long]
  resolved := Array.replicate 40 none
  statics := none }

def pool10 : Array CpInfo := pool [(2, .class_ 4), (1, u "java/lang/Exception"), (0, u "<init>"), (0, u "()V"), (12, .class_ 20), (0, u "java/lang/RuntimeException"), (0, u "serialVersionUID"), (0, u "J")] 17

def k10m0 : Method := { name := "<init>", desc := "()V", sig := { parameters := [], returnType := none }, accessFlags := 1, code := none }
/-- java/lang/RuntimeException -/
def k10 : Class := { plain "java/lang/RuntimeException" (some 9) with
  accessFlags := 33
  interfaces := #[]
  cf := some (fileOf pool10 19 #[] #[{ accessFlags := 1, nameIndex := 5, descriptorIndex := 6, attributes := #[] }] 33 2 #[] #[{ accessFlags := 24, nameIndex := 21, descriptorIndex := 22, attributes := #[] }])
  fields := #[{ name := "serialVersionUID", type := .long, accessFlags := 24, slot := 0, constantValue := 0 }]
  methods := #[k10m0]
  instanceTypes := #[(.object "java/lang/Object"), (.object "java/lang/String"), (.object "java/lang/Throwable"), (.array (.object "java/lang/StackTraceElement")), .int, (.object "java/util/List")]
  staticTypes := #[.long]
  resolved := Array.replicate 40 none
  statics := none }

def pool11 : Array CpInfo := pool [(2, .class_ 4), (1, u "com/example/causeway/causeway/runtime/VbError"), (3, .class_ 10), (1, u "java/lang/RuntimeException"), (3, u "number"), (0, u "I"), (2, u "source"), (0, u "Ljava/lang/String;"), (2, u "standardDescription"), (0, u "(I)Ljava/lang/String;"), (7, .string 32), (0, u "Invalid procedure call or argument"), (0, .string 34), (0, u "Overflow"), (0, .string 36), (0, u "Out of memory"), (0, .string 38), (0, u "Subscript out of range"), (0, .string 40), (0, u "Division by zero"), (0, .string 42), (0, u "Type mismatch"), (0, .string 44), (0, u "Out of string space"), (0, .string 46), (0, u "Resume without error"), (0, .string 48), (0, u "Bad file name or number"), (0, .string 50), (0, u "File already open"), (0, .string 52), (0, u "Device I/O error"), (0, .string 54), (0, u "Path/File access error"), (0, .string 56), (0, u "Path not found"), (0, .string 58), (0, u "Object variable or With block variable not set"), (0, .string 60), (0, u "Application-defined or object-defined error"), (0, u "serialVersionUID"), (0, u "J"), (3, u "INVALID_PROCEDURE_CALL"), (1, u "OVERFLOW"), (1, u "OUT_OF_MEMORY"), (1, u "SUBSCRIPT_OUT_OF_RANGE"), (1, u "DIVISION_BY_ZERO"), (1, u "TYPE_MISMATCH"), (1, u "OUT_OF_STRING_SPACE"), (1, u "RESUME_WITHOUT_ERROR"), (1, u "BAD_FILE_NAME_OR_NUMBER"), (1, u "FILE_ALREADY_OPEN"), (1, u "DEVICE_IO_ERROR"), (1, u "PATH_FILE_ACCESS_ERROR"), (1, u "PATH_NOT_FOUND"), (1, u "OBJECT_NOT_SET")] 9

def k11c0 : Code := { maxStack := 1, maxLocals := 1, code := prog_28_method_7_code, exceptionTable := #[], attributes := #[] }
def k11m0 : Method := { name := "standardDescription", desc := "(I)Ljava/lang/String;", sig := { parameters := [.int], returnType := some (.object "java/lang/String") }, accessFlags := 8, code := some k11c0 }
/-- com/example/causeway/causeway/runtime/VbError -/
def k11 : Class := { plain "com/example/causeway/causeway/runtime/VbError" (some 10) with
  accessFlags := 49
  interfaces := #[]
  cf := some (fileOf pool11 2 #[] #[{ accessFlags := 8, nameIndex := 22, descriptorIndex := 23, attributes := #[] }] 49 8 #[] #[{ accessFlags := 26, nameIndex := 61, descriptorIndex := 62, attributes := #[] }, { accessFlags := 25, nameIndex := 66, descriptorIndex := 15, attributes := #[] }, { accessFlags := 25, nameIndex := 68, descriptorIndex := 15, attributes := #[] }, { accessFlags := 25, nameIndex := 70, descriptorIndex := 15, attributes := #[] }, { accessFlags := 25, nameIndex := 72, descriptorIndex := 15, attributes := #[] }, { accessFlags := 25, nameIndex := 74, descriptorIndex := 15, attributes := #[] }, { accessFlags := 25, nameIndex := 76, descriptorIndex := 15, attributes := #[] }, { accessFlags := 25, nameIndex := 78, descriptorIndex := 15, attributes := #[] }, { accessFlags := 25, nameIndex := 80, descriptorIndex := 15, attributes := #[] }, { accessFlags := 25, nameIndex := 82, descriptorIndex := 15, attributes := #[] }, { accessFlags := 25, nameIndex := 84, descriptorIndex := 15, attributes := #[] }, { accessFlags := 25, nameIndex := 86, descriptorIndex := 15, attributes := #[] }, { accessFlags := 25, nameIndex := 88, descriptorIndex := 15, attributes := #[] }, { accessFlags := 25, nameIndex := 90, descriptorIndex := 15, attributes := #[] }, { accessFlags := 25, nameIndex := 92, descriptorIndex := 15, attributes := #[] }, { accessFlags := 18, nameIndex := 14, descriptorIndex := 15, attributes := #[] }, { accessFlags := 18, nameIndex := 18, descriptorIndex := 19, attributes := #[] }])
  fields := #[{ name := "serialVersionUID", type := .long, accessFlags := 26, slot := 0, constantValue := 0 }, { name := "INVALID_PROCEDURE_CALL", type := .int, accessFlags := 25, slot := 1, constantValue := 0 }, { name := "OVERFLOW", type := .int, accessFlags := 25, slot := 2, constantValue := 0 }, { name := "OUT_OF_MEMORY", type := .int, accessFlags := 25, slot := 3, constantValue := 0 }, { name := "SUBSCRIPT_OUT_OF_RANGE", type := .int, accessFlags := 25, slot := 4, constantValue := 0 }, { name := "DIVISION_BY_ZERO", type := .int, accessFlags := 25, slot := 5, constantValue := 0 }, { name := "TYPE_MISMATCH", type := .int, accessFlags := 25, slot := 6, constantValue := 0 }, { name := "OUT_OF_STRING_SPACE", type := .int, accessFlags := 25, slot := 7, constantValue := 0 }, { name := "RESUME_WITHOUT_ERROR", type := .int, accessFlags := 25, slot := 8, constantValue := 0 }, { name := "BAD_FILE_NAME_OR_NUMBER", type := .int, accessFlags := 25, slot := 9, constantValue := 0 }, { name := "FILE_ALREADY_OPEN", type := .int, accessFlags := 25, slot := 10, constantValue := 0 }, { name := "DEVICE_IO_ERROR", type := .int, accessFlags := 25, slot := 11, constantValue := 0 }, { name := "PATH_FILE_ACCESS_ERROR", type := .int, accessFlags := 25, slot := 12, constantValue := 0 }, { name := "PATH_NOT_FOUND", type := .int, accessFlags := 25, slot := 13, constantValue := 0 }, { name := "OBJECT_NOT_SET", type := .int, accessFlags := 25, slot := 14, constantValue := 0 }, { name := "number", type := .int, accessFlags := 18, slot := 6, constantValue := 0 }, { name := "source", type := (.object "java/lang/String"), accessFlags := 18, slot := 7, constantValue := 0 }]
  methods := #[k11m0]
  instanceTypes := #[(.object "java/lang/Object"), (.object "java/lang/String"), (.object "java/lang/Throwable"), (.array (.object "java/lang/StackTraceElement")), .int, (.object "java/util/List"), .int, (.object "java/lang/String")]
  staticTypes := #[.long, .int, .int, .int, .int, .int, .int, .int, .int, .int, .int, .int, .int, .int, .int]
  resolved := Array.replicate 102 none
  statics := none }

def pool12 : Array CpInfo := pool [(4, .class_ 6), (1, u "java/lang/Object"), (0, u "<init>"), (0, u "()V"), (5, .class_ 16), (1, u "java/lang/StringLatin1"), (104, u "$assertionsDisabled"), (0, u "Z"), (98, .class_ 223), (1, u "java/lang/StringLatin1$LinesSpliterator"), (57, u "equals"), (0, u "([B[B)Z"), (107, .class_ 391), (0, u "java/lang/StringLatin1$CharsSpliterator")] 3

def k12m0 : Method := { name := "<init>", desc := "()V", sig := { parameters := [], returnType := none }, accessFlags := 0, code := none }
def k12c1 : Code := { maxStack := 3, maxLocals := 3, code := jdk_43_method_13_code, exceptionTable := #[], attributes := #[] }
def k12m1 : Method := { name := "equals", desc := "([B[B)Z", sig := { parameters := [(.array .byte), (.array .byte)], returnType := some .boolean }, accessFlags := 9, code := some k12c1 }
/-- java/lang/StringLatin1 -/
def k12 : Class := { plain "java/lang/StringLatin1" (some 0) with
  accessFlags := 48
  interfaces := #[]
  cf := some (fileOf pool12 14 #[.nestMembers #[390, 221]] #[{ accessFlags := 0, nameIndex := 7, descriptorIndex := 8, attributes := #[] }, { accessFlags := 9, nameIndex := 281, descriptorIndex := 282, attributes := #[] }] 48 4 #[] #[{ accessFlags := 4120, nameIndex := 121, descriptorIndex := 122, attributes := #[] }])
  fields := #[{ name := "$assertionsDisabled", type := .boolean, accessFlags := 4120, slot := 0, constantValue := 0 }]
  methods := #[k12m0, k12m1]
  instanceTypes := #[]
  staticTypes := #[.boolean]
  resolved := Array.replicate 395 none
  statics := none }

def pool13 : Array CpInfo := pool [(2, .class_ 4), (1, u "java/lang/Object"), (0, u "<init>"), (0, u "()V"), (17, .class_ 26), (1, u "jdk/internal/util/Preconditions"), (28, .class_ 56), (0, u "jdk/internal/util/Preconditions$4"), (57, .class_ 115), (0, u "jdk/internal/util/Preconditions$1"), (7, u "SIOOBE_FORMATTER"), (0, u "Ljava/util/function/BiFunction;"), (0, .class_ 126), (0, u "jdk/internal/util/Preconditions$2"), (3, u "AIOOBE_FORMATTER"), (0, .class_ 132), (0, u "jdk/internal/util/Preconditions$3"), (3, u "IOOBE_FORMATTER")] 57

def k13m0 : Method := { name := "<init>", desc := "()V", sig := { parameters := [], returnType := none }, accessFlags := 1, code := none }
/-- jdk/internal/util/Preconditions -/
def k13 : Class := { plain "jdk/internal/util/Preconditions" (some 0) with
  accessFlags := 33
  interfaces := #[]
  cf := some (fileOf pool13 24 #[.nestMembers #[55, 131, 125, 114]] #[{ accessFlags := 1, nameIndex := 5, descriptorIndex := 6, attributes := #[] }] 33 2 #[] #[{ accessFlags := 25, nameIndex := 123, descriptorIndex := 124, attributes := #[] }, { accessFlags := 25, nameIndex := 130, descriptorIndex := 124, attributes := #[] }, { accessFlags := 25, nameIndex := 136, descriptorIndex := 124, attributes := #[] }])
  fields := #[{ name := "SIOOBE_FORMATTER", type := (.object "java/util/function/BiFunction"), accessFlags := 25, slot := 0, constantValue := 0 }, { name := "AIOOBE_FORMATTER", type := (.object "java/util/function/BiFunction"), accessFlags := 25, slot := 1, constantValue := 0 }, { name := "IOOBE_FORMATTER", type := (.object "java/util/function/BiFunction"), accessFlags := 25, slot := 2, constantValue := 0 }]
  methods := #[k13m0]
  instanceTypes := #[]
  staticTypes := #[(.object "java/util/function/BiFunction"), (.object "java/util/function/BiFunction"), (.object "java/util/function/BiFunction")]
  resolved := Array.replicate 194 none
  statics := some 1 }

def pool14 : Array CpInfo := pool [(9, u "<init>"), (6, .class_ 18), (1, u "java/lang/Object"), (0, u "()V"), (1, .class_ 23), (1, u "jdk/internal/util/ArraysSupport"), (0, u "LOG2_ARRAY_LONG_INDEX_SCALE"), (0, u "I"), (2, u "U"), (0, u "Ljdk/internal/misc/Unsafe;"), (8, u "BIG_ENDIAN"), (0, u "Z"), (8, u "LOG2_BYTE_BIT_SIZE"), (4, u "LOG2_ARRAY_INT_INDEX_SCALE"), (54, u "JLA"), (0, u "Ljdk/internal/access/JavaLangAccess;"), (11, u "LOG2_ARRAY_BOOLEAN_INDEX_SCALE"), (9, u "LOG2_ARRAY_BYTE_INDEX_SCALE"), (5, u "LOG2_ARRAY_CHAR_INDEX_SCALE"), (5, u "LOG2_ARRAY_SHORT_INDEX_SCALE"), (18, u "LOG2_ARRAY_FLOAT_INDEX_SCALE"), (24, u "LOG2_ARRAY_DOUBLE_INDEX_SCALE"), (89, u "T_BOOLEAN"), (2, u "T_CHAR"), (1, u "T_FLOAT"), (1, u "T_DOUBLE"), (1, u "T_BYTE"), (1, u "T_SHORT"), (1, u "T_INT"), (1, u "T_LONG"), (1, u "SOFT_MAX_ARRAY_LENGTH")] 83

def k14m0 : Method := { name := "<init>", desc := "()V", sig := { parameters := [], returnType := none }, accessFlags := 2, code := none }
/-- jdk/internal/util/ArraysSupport -/
def k14 : Class := { plain "jdk/internal/util/ArraysSupport" (some 0) with
  accessFlags := 33
  interfaces := #[]
  cf := some (fileOf pool14 21 #[] #[{ accessFlags := 2, nameIndex := 9, descriptorIndex := 19, attributes := #[] }] 33 16 #[] #[{ accessFlags := 24, nameIndex := 28, descriptorIndex := 29, attributes := #[] }, { accessFlags := 26, nameIndex := 38, descriptorIndex := 39, attributes := #[] }, { accessFlags := 25, nameIndex := 121, descriptorIndex := 25, attributes := #[] }, { accessFlags := 25, nameIndex := 131, descriptorIndex := 25, attributes := #[] }, { accessFlags := 25, nameIndex := 137, descriptorIndex := 25, attributes := #[] }, { accessFlags := 25, nameIndex := 143, descriptorIndex := 25, attributes := #[] }, { accessFlags := 25, nameIndex := 53, descriptorIndex := 25, attributes := #[] }, { accessFlags := 25, nameIndex := 24, descriptorIndex := 25, attributes := #[] }, { accessFlags := 25, nameIndex := 162, descriptorIndex := 25, attributes := #[] }, { accessFlags := 25, nameIndex := 187, descriptorIndex := 25, attributes := #[] }, { accessFlags := 26, nameIndex := 48, descriptorIndex := 25, attributes := #[] }, { accessFlags := 25, nameIndex := 277, descriptorIndex := 25, attributes := #[] }, { accessFlags := 25, nameIndex := 280, descriptorIndex := 25, attributes := #[] }, { accessFlags := 25, nameIndex := 282, descriptorIndex := 25, attributes := #[] }, { accessFlags := 25, nameIndex := 284, descriptorIndex := 25, attributes := #[] }, { accessFlags := 25, nameIndex := 286, descriptorIndex := 25, attributes := #[] }, { accessFlags := 25, nameIndex := 288, descriptorIndex := 25, attributes := #[] }, { accessFlags := 25, nameIndex := 290, descriptorIndex := 25, attributes := #[] }, { accessFlags := 25, nameIndex := 292, descriptorIndex := 25, attributes := #[] }, { accessFlags := 26, nameIndex := 108, descriptorIndex := 109, attributes := #[] }, { accessFlags := 25, nameIndex := 294, descriptorIndex := 25, attributes := #[] }])
  fields := #[{ name := "U", type := (.object "jdk/internal/misc/Unsafe"), accessFlags := 24, slot := 0, constantValue := 0 }, { name := "BIG_ENDIAN", type := .boolean, accessFlags := 26, slot := 1, constantValue := 0 }, { name := "LOG2_ARRAY_BOOLEAN_INDEX_SCALE", type := .int, accessFlags := 25, slot := 2, constantValue := 0 }, { name := "LOG2_ARRAY_BYTE_INDEX_SCALE", type := .int, accessFlags := 25, slot := 3, constantValue := 0 }, { name := "LOG2_ARRAY_CHAR_INDEX_SCALE", type := .int, accessFlags := 25, slot := 4, constantValue := 0 }, { name := "LOG2_ARRAY_SHORT_INDEX_SCALE", type := .int, accessFlags := 25, slot := 5, constantValue := 0 }, { name := "LOG2_ARRAY_INT_INDEX_SCALE", type := .int, accessFlags := 25, slot := 6, constantValue := 0 }, { name := "LOG2_ARRAY_LONG_INDEX_SCALE", type := .int, accessFlags := 25, slot := 7, constantValue := 0 }, { name := "LOG2_ARRAY_FLOAT_INDEX_SCALE", type := .int, accessFlags := 25, slot := 8, constantValue := 0 }, { name := "LOG2_ARRAY_DOUBLE_INDEX_SCALE", type := .int, accessFlags := 25, slot := 9, constantValue := 0 }, { name := "LOG2_BYTE_BIT_SIZE", type := .int, accessFlags := 26, slot := 10, constantValue := 0 }, { name := "T_BOOLEAN", type := .int, accessFlags := 25, slot := 11, constantValue := 0 }, { name := "T_CHAR", type := .int, accessFlags := 25, slot := 12, constantValue := 0 }, { name := "T_FLOAT", type := .int, accessFlags := 25, slot := 13, constantValue := 0 }, { name := "T_DOUBLE", type := .int, accessFlags := 25, slot := 14, constantValue := 0 }, { name := "T_BYTE", type := .int, accessFlags := 25, slot := 15, constantValue := 0 }, { name := "T_SHORT", type := .int, accessFlags := 25, slot := 16, constantValue := 0 }, { name := "T_INT", type := .int, accessFlags := 25, slot := 17, constantValue := 0 }, { name := "T_LONG", type := .int, accessFlags := 25, slot := 18, constantValue := 0 }, { name := "JLA", type := (.object "jdk/internal/access/JavaLangAccess"), accessFlags := 26, slot := 19, constantValue := 0 }, { name := "SOFT_MAX_ARRAY_LENGTH", type := .int, accessFlags := 25, slot := 20, constantValue := 0 }]
  methods := #[k14m0]
  instanceTypes := #[]
  staticTypes := #[(.object "jdk/internal/misc/Unsafe"), .boolean, .int, .int, .int, .int, .int, .int, .int, .int, .int, .int, .int, .int, .int, .int, .int, .int, .int, (.object "jdk/internal/access/JavaLangAccess"), .int]
  resolved := Array.replicate 378 none
  statics := none }

def pool15 : Array CpInfo := pool [(1, u "java/lang/Cloneable"), (0, .class_ 1), (0, u "java/lang/Object"), (0, .class_ 3)] 3

/-- java/lang/Cloneable -/
def k15 : Class := { plain "java/lang/Cloneable" (some 0) with
  accessFlags := 1537
  interfaces := #[]
  cf := some (fileOf pool15 2 #[] #[] 1537 4 #[] #[])
  fields := #[]
  methods := #[]
  instanceTypes := #[]
  staticTypes := #[]
  resolved := Array.replicate 8 none
  statics := none }

/-- the primitive byte -/
def k16 : Class := { plain "byte" none with kind := .primitive 'B', accessFlags := 0x411 }
/-- [B -/
def k17 : Class := { plain "[B" (some 0) with kind := .array 16 .byte, interfaces := #[15, 2], accessFlags := 1041 }

/-- the primitive int -/
def k18 : Class := { plain "int" none with kind := .primitive 'I', accessFlags := 0x411 }
/-- [I -/
def k19 : Class := { plain "[I" (some 0) with kind := .array 18 .int, interfaces := #[15, 2], accessFlags := 1041 }

/-- [Ljava/lang/String; -/
def k20 : Class := { plain "[Ljava/lang/String;" (some 0) with kind := .array 7 (.object "java/lang/String"), interfaces := #[15, 2], accessFlags := 1041 }

def heap : Heap := #[{ cls := 7, slots := #[.long 0, .int 1, .null, .int 0, .null, .int 0, .int 0], vm := .statics 7 },
  { cls := 13, slots := #[.null, .null, .null], vm := .statics 13 }]
def classes : Array Class := #[k0, k1, k2, k3, k4, k5, k6, k7, k8, k9, k10, k11, k12, k13, k14, k15, k16, k17, k18, k19, k20]
def interned : List (Array UInt16 × Addr) := []
def slotsUsed : Nat := 10
def theMethod : MethodId := ⟨1, 2⟩
def args0 : Array Value := #[.int 5, .int 3]
def aboutOver (below : List Frame) : State where
  vm := { classes := classes, interned := interned.toArray }
  heap := heap
  slotsUsed := slotsUsed
  threads := #[{ frames := .invoking theMethod args0 :: below }]
def below0 : List Frame := [.native { method := ⟨0, 0⟩, args := #[] }]
def about1 : State := aboutOver below0
def p0 : Program := .bare "" "" ""
def e0 : Env := launch0.env 0 0 0
theorem w_frames : about1.frames = Frame.invoking theMethod args0 :: below0 := rfl
set_option maxRecDepth 65536 in
theorem w_args : argsFit about1.vm theMethod args0 = true := by decide +kernel
set_option maxRecDepth 65536 in
theorem w_heap : heapFits about1 = true := by decide +kernel
set_option maxRecDepth 65536 in
theorem w_runnable : about1.curStatus? = some .runnable := by decide +kernel
set_option maxRecDepth 65536 in
theorem w_alone : about1.alone = true := by decide +kernel
set_option maxRecDepth 65536 in
theorem w_named : about1.methodNamed? x = some theMethod := by decide +kernel
set_option maxRecDepth 65536 in
theorem w_hears : about1.hears theMethod below0 = true := by decide +kernel
set_option maxRecDepth 65536 in
theorem w_ripe : about1.ripe theMethod args0 below0 = true := by decide +kernel
theorem w_running : about1.status = .running := rfl
set_option maxRecDepth 65536 in
theorem w_room : about1.hasRoom e0.platform room_1 = true :=
  launch0.hasRoom_least _ room_1 (by decide +kernel) (by decide +kernel) (by decide +kernel) (by decide +kernel) (by decide +kernel) (by decide +kernel)
theorem allAtoms_all (ts : List Jvm.Cond) (a : Array Jvm.Value) (st : Jvm.State) : (allAtoms ts).before a st = ts.all (fun c => c.before a st) := by
  induction ts with
  | nil => rfl
  | cons c t ih =>
    show (Jvm.Cond.and c (allAtoms t)).before a st = _
    rw [Jvm.Cond.before_and, ih, List.all_cons]
def words1 : List Jvm.Cond := Jvm.Cond.code x code maxLocals ret :: tables_1
/-- a 'code' word, met by the world's own term for the bytes: nothing is compared byte by byte -/
theorem code_word {y : MethodName} {bytes : ByteArray} {mx : Nat} {rt : Option FieldType} {a : Array Value} {s : State} {m : MethodId} {meth : Method} {c : Code} (h1 : s.methodNamed? y = some m) (h2 : s.vm.method? m = some meth) (h3 : meth.code = some c) (h4 : c.code = bytes)
    (h5 : (c.maxLocals == mx && c.exceptionTable.isEmpty && decide (c.maxStack ≤ mostOperands) && decide (meth.sig.returnType = rt) && !meth.locks && decide (parseMethodDescriptor y.desc = some meth.sig)) = true) : (Jvm.Cond.code y bytes mx rt).before a s = true := by
  simp only [Bool.and_eq_true, beq_iff_eq, Bool.not_eq_true', decide_eq_true_eq] at h5
  obtain ⟨⟨⟨⟨⟨g1, g2⟩, g3⟩, g4⟩, g5⟩, g6⟩ := h5
  simp [Cond.before, Cond.holds, Cond.value, h1, h2, h3, h4, g1, g2, g3, g4, g5, g6]
def isCode : Jvm.Cond → Bool
  | .code _ _ _ _ => true
  | _ => false
theorem all_split {L : List Jvm.Cond} {P : Jvm.Cond → Bool} (h1 : L.all (fun c => isCode c || P c) = true) (h2 : ∀ c ∈ L.filter isCode, P c = true) : L.all P = true := by
  refine List.all_eq_true.mpr fun c hc => ?_
  have h := List.all_eq_true.mp h1 c hc
  rcases Bool.eq_false_or_eq_true (isCode c) with hi | hi
  · exact h2 c (List.mem_filter.mpr ⟨hc, hi⟩)
  · simpa [hi] using h
set_option maxRecDepth 65536 in
theorem w_c0 : (Jvm.Cond.code x code maxLocals ret).before args0 about1 = true := code_word (m := ⟨1, 2⟩) (meth := k1m2) (c := k1c2) (by decide +kernel) rfl rfl rfl (by decide +kernel)
set_option maxRecDepth 65536 in
theorem w_c1 : (Jvm.Cond.code ({ cls := "com/example/causeway/causeway/runtime/VbError", name := "standardDescription", desc := "(I)Ljava/lang/String;" } : Jvm.MethodName) prog_28_method_7_code (1 : Nat) (Option.some (Jvm.ClassFile.FieldType.object "java/lang/String"))).before args0 about1 = true := code_word (m := ⟨11, 0⟩) (meth := k11m0) (c := k11c0) (by decide +kernel) rfl rfl rfl (by decide +kernel)
set_option maxRecDepth 65536 in
theorem w_c2 : (Jvm.Cond.code ({ cls := "java/lang/String", name := "equals", desc := "(Ljava/lang/Object;)Z" } : Jvm.MethodName) jdk_42_method_66_code (3 : Nat) (Option.some Jvm.ClassFile.FieldType.boolean)).before args0 about1 = true := code_word (m := ⟨7, 1⟩) (meth := k7m1) (c := k7c1) (by decide +kernel) rfl rfl rfl (by decide +kernel)
set_option maxRecDepth 65536 in
theorem w_c3 : (Jvm.Cond.code ({ cls := "com/example/causeway/causeway/runtime/VbErrorStandardDescriptionPinLaw", name := "isKnown", desc := "(I)Z" } : Jvm.MethodName) method_2_code (1 : Nat) (Option.some Jvm.ClassFile.FieldType.boolean)).before args0 about1 = true := code_word (m := ⟨1, 1⟩) (meth := k1m1) (c := k1c1) (by decide +kernel) rfl rfl rfl (by decide +kernel)
set_option maxRecDepth 65536 in
theorem w_c4 : (Jvm.Cond.code ({ cls := "java/lang/StringLatin1", name := "equals", desc := "([B[B)Z" } : Jvm.MethodName) jdk_43_method_13_code (3 : Nat) (Option.some Jvm.ClassFile.FieldType.boolean)).before args0 about1 = true := code_word (m := ⟨12, 1⟩) (meth := k12m1) (c := k12c1) (by decide +kernel) rfl rfl rfl (by decide +kernel)
def codes1 : List Jvm.Cond := [Jvm.Cond.code x code maxLocals ret, Jvm.Cond.code ({ cls := "com/example/causeway/causeway/runtime/VbError", name := "standardDescription", desc := "(I)Ljava/lang/String;" } : Jvm.MethodName) prog_28_method_7_code (1 : Nat) (Option.some (Jvm.ClassFile.FieldType.object "java/lang/String")), Jvm.Cond.code ({ cls := "java/lang/String", name := "equals", desc := "(Ljava/lang/Object;)Z" } : Jvm.MethodName) jdk_42_method_66_code (3 : Nat) (Option.some Jvm.ClassFile.FieldType.boolean), Jvm.Cond.code ({ cls := "com/example/causeway/causeway/runtime/VbErrorStandardDescriptionPinLaw", name := "isKnown", desc := "(I)Z" } : Jvm.MethodName) method_2_code (1 : Nat) (Option.some Jvm.ClassFile.FieldType.boolean), Jvm.Cond.code ({ cls := "java/lang/StringLatin1", name := "equals", desc := "([B[B)Z" } : Jvm.MethodName) jdk_43_method_13_code (3 : Nat) (Option.some Jvm.ClassFile.FieldType.boolean)]
set_option maxRecDepth 65536 in
theorem codes_eq : words1.filter isCode = codes1 := rfl
theorem w_codes : ∀ c ∈ words1.filter isCode, c.before args0 about1 = true := by
  rw [codes_eq]
  intro c hc
  simp only [codes1, List.mem_cons, List.not_mem_nil, or_false] at hc
  rcases hc with rfl | rfl | rfl | rfl | rfl
  · exact w_c0
  · exact w_c1
  · exact w_c2
  · exact w_c3
  · exact w_c4
set_option maxRecDepth 65536 in
theorem w_t1 : (words1.take 24).all (fun c => isCode c || c.before args0 about1) = true := by decide +kernel
set_option maxRecDepth 65536 in
theorem w_t2 : ((words1.drop 24).take 24).all (fun c => isCode c || c.before args0 about1) = true := by decide +kernel
set_option maxRecDepth 65536 in
theorem w_t3 : ((words1.drop 24).drop 24).all (fun c => isCode c || c.before args0 about1) = true := by decide +kernel
theorem w_tables : (allAtoms (Jvm.Cond.code x code maxLocals ret :: tables_1)).before args0 about1 = true := by
  rw [allAtoms_all]
  show words1.all (fun c => c.before args0 about1) = true
  refine all_split ?_ w_codes
  rw [← List.take_append_drop 24 words1, List.all_append, w_t1, ← List.take_append_drop 24 (words1.drop 24), List.all_append, w_t2, w_t3]
  rfl
set_option maxRecDepth 65536 in
theorem w_rest : rest_1_c.before args0 about1 = true := by decide +kernel
set_option maxRecDepth 65536 in
theorem w_case : (Jvm.Cond.and given_1 narrow_1).before args0 about1 = true := by decide +kernel
set_option maxRecDepth 65536 in
theorem w_consts : constsHeld consts_1 about1 := Jvm.Lit.constsHeldB_iff.mp (by decide +kernel)
theorem w_applies : (headSpec (Jvm.Cond.code x code maxLocals ret :: tables_1) room_1).applies x e0.platform about1 = true :=
  (Spec.applies_iff w_frames).mpr ⟨w_running, w_runnable, w_alone, w_named, w_hears, w_ripe, w_room, w_tables⟩
theorem atStart : AtStart classFile x code maxLocals ret World_1 tables_1 room_1 Calls_1 rest_1 Pre_1 launch0 p0 e0 about1 theMethod args0 below0 :=
  ⟨lists_1, trivial, launch0.admits_env _ _ _, launch0.least_env, fairChoices_fair.cas, fairChoices_fair.clock, w_frames, w_args, w_heap, w_applies, ⟨w_consts, trivial⟩, w_rest, w_case⟩
end start1
theorem witness_1 : WitnessClaimed_1 := ⟨start1.p0, start1.e0, start1.about1, start1.theMethod, start1.args0, start1.below0, start1.atStart⟩
end Jvm.Pilot.@@N@@
