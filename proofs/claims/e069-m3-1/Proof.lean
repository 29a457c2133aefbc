import JvmDerived
import JvmDerived.Pilot.@@N@@Statement
import JvmDerived.Pilot.@@N@@Code
set_option linter.unusedVariables false
set_option linter.unusedSimpArgs false
namespace Jvm.RoadKit
open Sem ClassFile Op Lib Jvm.Stand Jvm.Free Jvm.LawKit
section New
variable {p : Program} {l : Launch} {e : Env} {R : Room} {s : State} {m : MethodId} {args : Array Value} {below : List Frame} {meth : Method} {c : Code} {T : State} {locs : List Loc} {cells slots : Nat}
theorem retI (X : Stand p l e R s m args below meth c T locs cells slots) (hx : p.tables.exec = Jvm.exec) {pc : Nat} {Ls : Array Slot} {z : Int32} {rest : List Value} (hret : meth.sig.returnType = some .int) (hd : decode c.code pc = .ok (.ireturn, 1)) {fs : List Frame}
    (hl : ∀ (f : JFrame) (acts : List Action), f.method = m → f.locked = none → f.entered = [] → (doReturn e (T.setTop f) acts (some (.int z))).1 = T.setFrames fs) : Steps p.tables e below (T.setTop (mkF m pc Ls (.int z :: rest))) (T.setFrames fs) := by
  have hm' : T.vm.method? m = some meth := X.method'
  have hn : narrow .int (.int z) = .int z := rfl
  show Steps p.tables e below (T.setTop { method := m, pc := pc, locals := Ls, stack := _ :: rest, locked := none }) _
  jvm_step X.here [X.here.top, hx, hd, hm', hret, hn]
  first | (intro acts; rw [hl _ acts rfl rfl rfl]) | rw [hl _ _ rfl rfl rfl]
  exact Steps.refl _
end New
end Jvm.RoadKit
namespace Jvm.Pilot.@@N@@
open Jvm Jvm.ClassFile Sem Op Lib Jvm.Free Jvm.Stand Jvm.LawKit Jvm.RoadKit Bundle Jvm.Pilot.@@N@@.Jvm.D
theorem d1_0 : decode prog_271_method_1_code 0 = .ok (.aload_n 0, 1) := by decide +kernel
theorem d1_1 : decode prog_271_method_1_code 1 = .ok (.iload_n 1, 1) := by decide +kernel
theorem d1_2 : decode prog_271_method_1_code 2 = .ok (.iload_n 2, 1) := by decide +kernel
theorem d1_3 : decode prog_271_method_1_code 3 = .ok (.aconst_null, 1) := by decide +kernel
theorem d1_4 : decode prog_271_method_1_code 4 = .ok (.iload_n 3, 1) := by decide +kernel
theorem d1_5 : decode prog_271_method_1_code 5 = .ok (.invokespecial 1, 3) := by decide +kernel
theorem d1_8 : decode prog_271_method_1_code 8 = .ok (.return_, 1) := by decide +kernel
theorem d2_0 : decode prog_271_method_2_code 0 = .ok (.aload_n 0, 1) := by decide +kernel
theorem d2_1 : decode prog_271_method_2_code 1 = .ok (.invokespecial 7, 3) := by decide +kernel
theorem d2_4 : decode prog_271_method_2_code 4 = .ok (.aload_n 0, 1) := by decide +kernel
theorem d2_5 : decode prog_271_method_2_code 5 = .ok (.iload_n 1, 1) := by decide +kernel
theorem d2_6 : decode prog_271_method_2_code 6 = .ok (.putfield 12, 3) := by decide +kernel
theorem d2_9 : decode prog_271_method_2_code 9 = .ok (.aload_n 0, 1) := by decide +kernel
theorem d2_10 : decode prog_271_method_2_code 10 = .ok (.iload_n 2, 1) := by decide +kernel
theorem d2_11 : decode prog_271_method_2_code 11 = .ok (.putfield 16, 3) := by decide +kernel
theorem d2_14 : decode prog_271_method_2_code 14 = .ok (.aload_n 0, 1) := by decide +kernel
theorem d2_15 : decode prog_271_method_2_code 15 = .ok (.aload_n 3, 1) := by decide +kernel
theorem d2_16 : decode prog_271_method_2_code 16 = .ok (.putfield 19, 3) := by decide +kernel
theorem d2_19 : decode prog_271_method_2_code 19 = .ok (.aload_n 0, 1) := by decide +kernel
theorem d2_20 : decode prog_271_method_2_code 20 = .ok (.iload 4, 2) := by decide +kernel
theorem d2_22 : decode prog_271_method_2_code 22 = .ok (.putfield 23, 3) := by decide +kernel
theorem d2_25 : decode prog_271_method_2_code 25 = .ok (.return_, 1) := by decide +kernel
theorem d4_0 : decode prog_271_method_8_code 0 = .ok (.aload_n 1, 1) := by decide +kernel
theorem d4_1 : decode prog_271_method_8_code 1 = .ok (.getfield 12, 3) := by decide +kernel
theorem d4_4 : decode prog_271_method_8_code 4 = .ok (.aload_n 0, 1) := by decide +kernel
theorem d4_5 : decode prog_271_method_8_code 5 = .ok (.getfield 16, 3) := by decide +kernel
theorem d4_8 : decode prog_271_method_8_code 8 = .ok (.if_icmp .lt 18, 3) := by decide +kernel
theorem d4_11 : decode prog_271_method_8_code 11 = .ok (.aload_n 1, 1) := by decide +kernel
theorem d4_12 : decode prog_271_method_8_code 12 = .ok (.getfield 12, 3) := by decide +kernel
theorem d4_15 : decode prog_271_method_8_code 15 = .ok (.aload_n 0, 1) := by decide +kernel
theorem d4_16 : decode prog_271_method_8_code 16 = .ok (.getfield 12, 3) := by decide +kernel
theorem d4_19 : decode prog_271_method_8_code 19 = .ok (.if_icmp .ge 7, 3) := by decide +kernel
theorem d4_22 : decode prog_271_method_8_code 22 = .ok (.iconst 1, 1) := by decide +kernel
theorem d4_23 : decode prog_271_method_8_code 23 = .ok (.goto 4, 3) := by decide +kernel
theorem d4_26 : decode prog_271_method_8_code 26 = .ok (.iconst 0, 1) := by decide +kernel
theorem d4_27 : decode prog_271_method_8_code 27 = .ok (.ireturn, 1) := by decide +kernel
theorem d5_0 : decode prog_271_method_5_code 0 = .ok (.aload_n 0, 1) := by decide +kernel
theorem d5_1 : decode prog_271_method_5_code 1 = .ok (.getfield 12, 3) := by decide +kernel
theorem d5_4 : decode prog_271_method_5_code 4 = .ok (.aload_n 1, 1) := by decide +kernel
theorem d5_5 : decode prog_271_method_5_code 5 = .ok (.getfield 12, 3) := by decide +kernel
theorem d5_8 : decode prog_271_method_5_code 8 = .ok (.if_icmp .le 7, 3) := by decide +kernel
theorem d5_11 : decode prog_271_method_5_code 11 = .ok (.iconst 1, 1) := by decide +kernel
theorem d5_12 : decode prog_271_method_5_code 12 = .ok (.goto 4, 3) := by decide +kernel
theorem d5_15 : decode prog_271_method_5_code 15 = .ok (.iconst 0, 1) := by decide +kernel
theorem d5_16 : decode prog_271_method_5_code 16 = .ok (.ireturn, 1) := by decide +kernel
theorem pd_0 : parseMethodDescriptor "(IILjava/math/BigDecimal;I)V" = some ⟨[.int, .int, (.object "java/math/BigDecimal"), .int], none⟩ := by decide +kernel
theorem pd_1 : parseMethodDescriptor "(III)V" = some ⟨[.int, .int, .int], none⟩ := by decide +kernel
theorem pd_2 : parseMethodDescriptor "(Lcom/example/quillwarp/quillwarp/xslt/Rank;)Z" = some ⟨[(.object "com/example/quillwarp/quillwarp/xslt/Rank")], some .boolean⟩ := by decide +kernel
/-- what imports answers: o's precedence q, r's lowest lo, r's precedence p -/
def own_imp (q lo p : Int32) : Int32 := if ¬ (q < lo) ∧ q < p then 1 else 0
def own_abv (p q : Int32) : Int32 := if q < p then 1 else 0
def own_exp (d w : Int64) : Int32 := if ¬ (d < 0) ∧ d < w then 1 else 0
theorem own_sub_toInt (a b : Int32) : (a.toInt64 - b.toInt64).toInt = a.toInt - b.toInt := by
  have h1 := rng32 a; have h2 := rng32 b
  rw [Int64.toInt_sub, Int32.toInt_toInt64, Int32.toInt_toInt64]
  apply Int.bmod_eq_of_le <;> omega
theorem own_law (p lo q : Int32) : own_exp (q.toInt64 - lo.toInt64) (p.toInt64 - lo.toInt64) = own_imp q lo p := by
  unfold own_exp own_imp
  have e0 : (0 : Int64).toInt = 0 := rfl
  simp only [Int64.lt_iff_toInt_lt, Int32.lt_iff_toInt_lt, own_sub_toInt, e0]
  have : (¬ (q.toInt - lo.toInt < 0) ∧ q.toInt - lo.toInt < p.toInt - lo.toInt) ↔ (¬ (q.toInt < lo.toInt) ∧ q.toInt < p.toInt) := by omega
  simp only [this]
theorem own_self (lo p : Int32) : own_imp p lo p = 0 := by
  unfold own_imp
  rw [if_neg]
  exact fun h => absurd h.2 (Int32.lt_irrefl)
theorem own_one {p lo q : Int32} (h : ¬ own_imp q lo p = 0) : own_abv p q = 1 := by
  unfold own_imp at h; unfold own_abv
  split at h
  · rename_i g; rw [if_pos g.2]
  · exact absurd rfl h
def Q2 (Z : State) (a1 : Addr) (p2 : Int32) (p3 : Int32) (p4 : Int32) (u_precedence : Value) (u_lowestImported : Value) (u_priority : Value) (u_order : Value) (h0 : Heap) (n0 : Nat) (v : Option Value) (h : Heap) (L : List Loc) : Prop := v = none ∧ Fr n0 L ∧ Keep h0 h [a1] ∧ Exa Z h a1 "com/example/quillwarp/quillwarp/xslt/Rank" ∧ Fld Z h a1 "com/example/quillwarp/quillwarp/xslt/Rank" "precedence" "I" (.int p2) ∧ Fld Z h a1 "com/example/quillwarp/quillwarp/xslt/Rank" "lowestImported" "I" (.int p3)
theorem ef_rm2 (m : MethodId) (x0 : Addr) (x1 : Int32) (x2 : Int32) (x4 : Int32) : entryFrame m #[(.ref x0), (.int x1), (.int x2), .null, (.int x4)] 5 = mkF m 0 #[.val (.ref x0), .val (.int x1), .val (.int x2), .val .null, .val (.int x4)] [] := by first | (simp [entryFrame, mkF, argsToLocals, Value.category]; done) | rfl
theorem pn_rm2 : plainName "com/example/quillwarp/quillwarp/xslt/Rank" = true := by first | (simp [plainName, overriddenIn]; done) | decide +kernel
set_option maxRecDepth 65536 in
set_option maxHeartbeats 40000000 in
theorem rm2 (l : Launch) (Z : State) (a0 : Array Value) (hw : ∀ d ∈ tables_1, d.before a0 Z = true) (ws : List Jvm.Cond) (a1 : Addr) (p2 : Int32) (p3 : Int32) (p4 : Int32) (u_precedence : Value) (u_lowestImported : Value) (u_priority : Value) (u_order : Value) (h0 : Heap) (n0 : Nat) (Z0 : n0 ≤ h0.size) (E_a1 : Exa Z h0 a1 "com/example/quillwarp/quillwarp/xslt/Rank") (g_a1 : n0 ≤ a1) (F_precedence : Fld Z h0 a1 "com/example/quillwarp/quillwarp/xslt/Rank" "precedence" "I" u_precedence) (F_lowestImported : Fld Z h0 a1 "com/example/quillwarp/quillwarp/xslt/Rank" "lowestImported" "I" u_lowestImported) (F_priority : Fld Z h0 a1 "com/example/quillwarp/quillwarp/xslt/Rank" "priority" "Ljava/math/BigDecimal;" u_priority) (F_order : Fld Z h0 a1 "com/example/quillwarp/quillwarp/xslt/Rank" "order" "I" u_order) :
    MetFree l (⟨"com/example/quillwarp/quillwarp/xslt/Rank", "<init>", "(IILjava/math/BigDecimal;I)V"⟩ : MethodName) (head1 (Jvm.Cond.code (⟨"com/example/quillwarp/quillwarp/xslt/Rank", "<init>", "(IILjava/math/BigDecimal;I)V"⟩ : MethodName) prog_271_method_2_code 5 none :: ws) ({ frames := 1, cells := 0, slots := 0, locals := 12 } : Room)) (fun a U => a = #[(.ref a1), (.int p2), (.int p3), .null, (.int p4)] ∧ Z.Warmed39 U.vm ∧ U.heap = h0) (fun _ _ _ _ _ => True) (fun _ U o U' => ∃ v L, o = .returned v ∧ Q2 Z a1 p2 p3 p4 u_precedence u_lowestImported u_priority u_order h0 n0 v U'.heap L ∧ FrameEnd U o U' L ({ frames := 1, cells := 0, slots := 0, locals := 12 } : Room).cells ({ frames := 1, cells := 0, slots := 0, locals := 12 } : Room).slots) := by
  refine MetFree.of_bodySF (plainFor_of_name pn_rm2) hisR ?_
  intro p e s m args below meth c s₁ Bd hml0 hP hK
  obtain ⟨rfl, hZ, hh⟩ := hP
  have hx := Bd.exec
  have hby := Bd.bytes
  have hml : c.maxLocals = 5 := hml0
  have hown : s.vm.findClass "com/example/quillwarp/quillwarp/xslt/Rank" = some m.cls := findClass_of_methodNamed Bd.named
  have hnm := (name_of_methodNamed Bd.named Bd.method).1
  have X0 : Stand p l e ({ frames := 1, cells := 0, slots := 0, locals := 12 } : Room) s m #[(.ref a1), (.int p2), (.int p3), .null, (.int p4)] below meth c s₁ [] 0 0 := Stand.of_body Bd
  have e0 : s₁.heap = h0 := by rw [← hh, Bd.state]; rfl
  have N0 := Fr.nil n0
  have pre0 : ∀ t, Steps p.tables e below (s₁.setTop (mkF m 0 #[.val (.ref a1), .val (.int p2), .val (.int p3), .val .null, .val (.int p4)] [])) t → Steps p.tables e below (s₁.setTop (entryFrame m #[(.ref a1), (.int p2), (.int p3), .null, (.int p4)] 5)) t := fun t k => castTop (ef_rm2 m a1 p2 p3 p4) k
  obtain ⟨T1, X1, e1, st1⟩ := initO X0 hx hZ hown (hw _ (List.mem_of_getElem? (i := 9) rfl)) (hw _ (List.mem_of_getElem? (i := 10) rfl)) (hw _ (List.mem_of_getElem? (i := 11) rfl)) e0 (g := (mkF m 1 #[.val (.ref a1), .val (.int p2), .val (.int p3), .val .null, .val (.int p4)] [(.ref a1)])) rfl (by rw [hml]; rfl) rfl (hb hby d2_1) (by decide) (W := 0) (by show 2 * 0 + _ ≤ _; exact Nat.le_of_eq rfl) (by decide)
  obtain ⟨T2, h2, X2, e2, W2, st2⟩ := putF X1 hx hZ hown (host := "") (Or.inl (hw _ (List.mem_of_getElem? (i := 12) rfl))) Via.refl e1 F_precedence E_a1 (Or.inr ⟨(hw _ (List.mem_of_getElem? (i := 13) rfl)), rfl, hnm⟩) (hw _ (List.mem_of_getElem? (i := 1) rfl)) (ty := .int) (by decide) rfl rfl (g := (mkF m 6 #[.val (.ref a1), .val (.int p2), .val (.int p3), .val .null, .val (.int p4)] [(.int p2), (.ref a1)])) rfl rfl (hb hby d2_6)
  have N2 := Fr.snoc X2 N0 g_a1
  have G2_precedence := Fld.same W2 F_precedence
  have G2_lowestImported := Fld.other W2 F_lowestImported (Or.inr (slot_ne (Or.inr (hw _ (List.mem_of_getElem? (i := 15) rfl))) (Or.inr (hw _ (List.mem_of_getElem? (i := 13) rfl))) (by decide) (t := .int) (t' := .int) (by decide) (by decide)))
  have G2_priority := Fld.other W2 F_priority (Or.inr (slot_ne (Or.inr (hw _ (List.mem_of_getElem? (i := 17) rfl))) (Or.inr (hw _ (List.mem_of_getElem? (i := 13) rfl))) (by decide) (t := (.object "java/math/BigDecimal")) (t' := .int) (by decide) (by decide)))
  have G2_order := Fld.other W2 F_order (Or.inr (slot_ne (Or.inr (hw _ (List.mem_of_getElem? (i := 19) rfl))) (Or.inr (hw _ (List.mem_of_getElem? (i := 13) rfl))) (by decide) (t := .int) (t' := .int) (by decide) (by decide)))
  have A2 := Exa.wr W2 E_a1
  have K2 : Keep h0 h2 [a1] := (Keep.refl h0 [a1]).wr W2 (Or.inl (List.mem_of_getElem? (i := 0) rfl))
  obtain ⟨T3, h3, X3, e3, W3, st3⟩ := putF X2 hx hZ hown (host := "") (Or.inl (hw _ (List.mem_of_getElem? (i := 14) rfl))) Via.refl e2 G2_lowestImported A2 (Or.inr ⟨(hw _ (List.mem_of_getElem? (i := 15) rfl)), rfl, hnm⟩) (hw _ (List.mem_of_getElem? (i := 1) rfl)) (ty := .int) (by decide) rfl rfl (g := (mkF m 11 #[.val (.ref a1), .val (.int p2), .val (.int p3), .val .null, .val (.int p4)] [(.int p3), (.ref a1)])) rfl rfl (hb hby d2_11)
  have N3 := Fr.snoc X3 N2 g_a1
  have G3_precedence := Fld.other W3 G2_precedence (Or.inr (slot_ne (Or.inr (hw _ (List.mem_of_getElem? (i := 13) rfl))) (Or.inr (hw _ (List.mem_of_getElem? (i := 15) rfl))) (by decide) (t := .int) (t' := .int) (by decide) (by decide)))
  have G3_lowestImported := Fld.same W3 G2_lowestImported
  have G3_priority := Fld.other W3 G2_priority (Or.inr (slot_ne (Or.inr (hw _ (List.mem_of_getElem? (i := 17) rfl))) (Or.inr (hw _ (List.mem_of_getElem? (i := 15) rfl))) (by decide) (t := (.object "java/math/BigDecimal")) (t' := .int) (by decide) (by decide)))
  have G3_order := Fld.other W3 G2_order (Or.inr (slot_ne (Or.inr (hw _ (List.mem_of_getElem? (i := 19) rfl))) (Or.inr (hw _ (List.mem_of_getElem? (i := 15) rfl))) (by decide) (t := .int) (t' := .int) (by decide) (by decide)))
  have A3 := Exa.wr W3 A2
  have K3 : Keep h0 h3 [a1] := K2.wr W3 (Or.inl (List.mem_of_getElem? (i := 0) rfl))
  obtain ⟨T4, h4, X4, e4, W4, st4⟩ := putF X3 hx hZ hown (host := "") (Or.inl (hw _ (List.mem_of_getElem? (i := 16) rfl))) Via.refl e3 G3_priority A3 (Or.inr ⟨(hw _ (List.mem_of_getElem? (i := 17) rfl)), rfl, hnm⟩) (hw _ (List.mem_of_getElem? (i := 1) rfl)) (ty := (.object "java/math/BigDecimal")) (by decide) rfl rfl (g := (mkF m 16 #[.val (.ref a1), .val (.int p2), .val (.int p3), .val .null, .val (.int p4)] [.null, (.ref a1)])) rfl rfl (hb hby d2_16)
  have N4 := Fr.snoc X4 N3 g_a1
  have G4_precedence := Fld.other W4 G3_precedence (Or.inr (slot_ne (Or.inr (hw _ (List.mem_of_getElem? (i := 13) rfl))) (Or.inr (hw _ (List.mem_of_getElem? (i := 17) rfl))) (by decide) (t := .int) (t' := (.object "java/math/BigDecimal")) (by decide) (by decide)))
  have G4_lowestImported := Fld.other W4 G3_lowestImported (Or.inr (slot_ne (Or.inr (hw _ (List.mem_of_getElem? (i := 15) rfl))) (Or.inr (hw _ (List.mem_of_getElem? (i := 17) rfl))) (by decide) (t := .int) (t' := (.object "java/math/BigDecimal")) (by decide) (by decide)))
  have G4_priority := Fld.same W4 G3_priority
  have G4_order := Fld.other W4 G3_order (Or.inr (slot_ne (Or.inr (hw _ (List.mem_of_getElem? (i := 19) rfl))) (Or.inr (hw _ (List.mem_of_getElem? (i := 17) rfl))) (by decide) (t := .int) (t' := (.object "java/math/BigDecimal")) (by decide) (by decide)))
  have A4 := Exa.wr W4 A3
  have K4 : Keep h0 h4 [a1] := K3.wr W4 (Or.inl (List.mem_of_getElem? (i := 0) rfl))
  obtain ⟨T5, h5, X5, e5, W5, st5⟩ := putF X4 hx hZ hown (host := "") (Or.inl (hw _ (List.mem_of_getElem? (i := 18) rfl))) Via.refl e4 G4_order A4 (Or.inr ⟨(hw _ (List.mem_of_getElem? (i := 19) rfl)), rfl, hnm⟩) (hw _ (List.mem_of_getElem? (i := 1) rfl)) (ty := .int) (by decide) rfl rfl (g := (mkF m 22 #[.val (.ref a1), .val (.int p2), .val (.int p3), .val .null, .val (.int p4)] [(.int p4), (.ref a1)])) rfl rfl (hb hby d2_22)
  have N5 := Fr.snoc X5 N4 g_a1
  have G5_precedence := Fld.other W5 G4_precedence (Or.inr (slot_ne (Or.inr (hw _ (List.mem_of_getElem? (i := 13) rfl))) (Or.inr (hw _ (List.mem_of_getElem? (i := 19) rfl))) (by decide) (t := .int) (t' := .int) (by decide) (by decide)))
  have G5_lowestImported := Fld.other W5 G4_lowestImported (Or.inr (slot_ne (Or.inr (hw _ (List.mem_of_getElem? (i := 15) rfl))) (Or.inr (hw _ (List.mem_of_getElem? (i := 19) rfl))) (by decide) (t := .int) (t' := .int) (by decide) (by decide)))
  have G5_priority := Fld.other W5 G4_priority (Or.inr (slot_ne (Or.inr (hw _ (List.mem_of_getElem? (i := 17) rfl))) (Or.inr (hw _ (List.mem_of_getElem? (i := 19) rfl))) (by decide) (t := (.object "java/math/BigDecimal")) (t' := .int) (by decide) (by decide)))
  have G5_order := Fld.same W5 G4_order
  have A5 := Exa.wr W5 A4
  have K5 : Keep h0 h5 [a1] := K4.wr W5 (Or.inl (List.mem_of_getElem? (i := 0) rfl))
  have pre6 : ∀ t, Steps p.tables e below (T5.setTop (mkF m 25 #[.val (.ref a1), .val (.int p2), .val (.int p3), .val .null, .val (.int p4)] [])) t → Steps p.tables e below (s₁.setTop (entryFrame m #[(.ref a1), (.int p2), (.int p3), .null, (.int p4)] 5)) t := by
    intro t kt
    refine pre0 t ?_
    show Steps p.tables e below (s₁.setTop (mkF m 0 #[.val (.ref a1), .val (.int p2), .val (.int p3), .val .null, .val (.int p4)] [])) _
    refine XS.aloadN X0.here hx rfl (hb hby d2_0) rfl rfl ?_
    show Steps p.tables e below (s₁.setTop (mkF m 1 #[.val (.ref a1), .val (.int p2), .val (.int p3), .val .null, .val (.int p4)] [(.ref a1)])) _
    refine st1 _ ?_
    show Steps p.tables e below (T1.setTop (mkF m 4 #[.val (.ref a1), .val (.int p2), .val (.int p3), .val .null, .val (.int p4)] [])) _
    refine XS.aloadN X1.here hx rfl (hb hby d2_4) rfl rfl ?_
    show Steps p.tables e below (T1.setTop (mkF m 5 #[.val (.ref a1), .val (.int p2), .val (.int p3), .val .null, .val (.int p4)] [(.ref a1)])) _
    refine XS.iloadN X1.here hx rfl (hb hby d2_5) rfl ?_
    show Steps p.tables e below (T1.setTop (mkF m 6 #[.val (.ref a1), .val (.int p2), .val (.int p3), .val .null, .val (.int p4)] [(.int p2), (.ref a1)])) _
    refine st2 _ ?_
    show Steps p.tables e below (T2.setTop (mkF m 9 #[.val (.ref a1), .val (.int p2), .val (.int p3), .val .null, .val (.int p4)] [])) _
    refine XS.aloadN X2.here hx rfl (hb hby d2_9) rfl rfl ?_
    show Steps p.tables e below (T2.setTop (mkF m 10 #[.val (.ref a1), .val (.int p2), .val (.int p3), .val .null, .val (.int p4)] [(.ref a1)])) _
    refine XS.iloadN X2.here hx rfl (hb hby d2_10) rfl ?_
    show Steps p.tables e below (T2.setTop (mkF m 11 #[.val (.ref a1), .val (.int p2), .val (.int p3), .val .null, .val (.int p4)] [(.int p3), (.ref a1)])) _
    refine st3 _ ?_
    show Steps p.tables e below (T3.setTop (mkF m 14 #[.val (.ref a1), .val (.int p2), .val (.int p3), .val .null, .val (.int p4)] [])) _
    refine XS.aloadN X3.here hx rfl (hb hby d2_14) rfl rfl ?_
    show Steps p.tables e below (T3.setTop (mkF m 15 #[.val (.ref a1), .val (.int p2), .val (.int p3), .val .null, .val (.int p4)] [(.ref a1)])) _
    refine XS.aloadN X3.here hx rfl (hb hby d2_15) rfl rfl ?_
    show Steps p.tables e below (T3.setTop (mkF m 16 #[.val (.ref a1), .val (.int p2), .val (.int p3), .val .null, .val (.int p4)] [.null, (.ref a1)])) _
    refine st4 _ ?_
    show Steps p.tables e below (T4.setTop (mkF m 19 #[.val (.ref a1), .val (.int p2), .val (.int p3), .val .null, .val (.int p4)] [])) _
    refine XS.aloadN X4.here hx rfl (hb hby d2_19) rfl rfl ?_
    show Steps p.tables e below (T4.setTop (mkF m 20 #[.val (.ref a1), .val (.int p2), .val (.int p3), .val .null, .val (.int p4)] [(.ref a1)])) _
    refine XS.iload X4.here hx rfl (hb hby d2_20) rfl ?_
    show Steps p.tables e below (T4.setTop (mkF m 22 #[.val (.ref a1), .val (.int p2), .val (.int p3), .val .null, .val (.int p4)] [(.int p4), (.ref a1)])) _
    refine st5 _ ?_
    exact kt
  obtain ⟨fs, hr, hrun, hended, hW, hsame⟩ := X5.leave (v := none) (fun _ => rfl)
  refine ⟨_, _, pre6 _ ?_, hrun, hended, _, _, rfl, ?_, ⟨_, rfl⟩, hW, hsame.mono (by decide) (by decide)⟩
  · exact X5.returnOut hx Bd.returns (hb hby d2_25) hr
  · show Q2 Z a1 p2 p3 p4 u_precedence u_lowestImported u_priority u_order h0 n0 _ T5.heap _
    rw [e5]
    exact ⟨rfl, N5, K5, A5, G5_precedence, G5_lowestImported⟩
def Q1 (Z : State) (a1 : Addr) (p2 : Int32) (p3 : Int32) (p4 : Int32) (u_precedence : Value) (u_lowestImported : Value) (u_priority : Value) (u_order : Value) (h0 : Heap) (n0 : Nat) (v : Option Value) (h : Heap) (L : List Loc) : Prop := v = none ∧ Fr n0 L ∧ Keep h0 h [a1] ∧ Exa Z h a1 "com/example/quillwarp/quillwarp/xslt/Rank" ∧ Fld Z h a1 "com/example/quillwarp/quillwarp/xslt/Rank" "precedence" "I" (.int p2) ∧ Fld Z h a1 "com/example/quillwarp/quillwarp/xslt/Rank" "lowestImported" "I" (.int p3)
theorem ef_rm1 (m : MethodId) (x0 : Addr) (x1 : Int32) (x2 : Int32) (x3 : Int32) : entryFrame m #[(.ref x0), (.int x1), (.int x2), (.int x3)] 4 = mkF m 0 #[.val (.ref x0), .val (.int x1), .val (.int x2), .val (.int x3)] [] := by first | (simp [entryFrame, mkF, argsToLocals, Value.category]; done) | rfl
theorem pn_rm1 : plainName "com/example/quillwarp/quillwarp/xslt/Rank" = true := by first | (simp [plainName, overriddenIn]; done) | decide +kernel
set_option maxRecDepth 65536 in
set_option maxHeartbeats 40000000 in
theorem rm1 (l : Launch) (Z : State) (a0 : Array Value) (hw : ∀ d ∈ tables_1, d.before a0 Z = true) (ws : List Jvm.Cond) (a1 : Addr) (p2 : Int32) (p3 : Int32) (p4 : Int32) (u_precedence : Value) (u_lowestImported : Value) (u_priority : Value) (u_order : Value) (h0 : Heap) (n0 : Nat) (Z0 : n0 ≤ h0.size) (E_a1 : Exa Z h0 a1 "com/example/quillwarp/quillwarp/xslt/Rank") (g_a1 : n0 ≤ a1) (F_precedence : Fld Z h0 a1 "com/example/quillwarp/quillwarp/xslt/Rank" "precedence" "I" u_precedence) (F_lowestImported : Fld Z h0 a1 "com/example/quillwarp/quillwarp/xslt/Rank" "lowestImported" "I" u_lowestImported) (F_priority : Fld Z h0 a1 "com/example/quillwarp/quillwarp/xslt/Rank" "priority" "Ljava/math/BigDecimal;" u_priority) (F_order : Fld Z h0 a1 "com/example/quillwarp/quillwarp/xslt/Rank" "order" "I" u_order) :
    MetFree l (⟨"com/example/quillwarp/quillwarp/xslt/Rank", "<init>", "(III)V"⟩ : MethodName) (head1 (Jvm.Cond.code (⟨"com/example/quillwarp/quillwarp/xslt/Rank", "<init>", "(III)V"⟩ : MethodName) prog_271_method_1_code 4 none :: ws) ({ frames := 2, cells := 0, slots := 0, locals := 28 } : Room)) (fun a U => a = #[(.ref a1), (.int p2), (.int p3), (.int p4)] ∧ Z.Warmed39 U.vm ∧ U.heap = h0) (fun _ _ _ _ _ => True) (fun _ U o U' => ∃ v L, o = .returned v ∧ Q1 Z a1 p2 p3 p4 u_precedence u_lowestImported u_priority u_order h0 n0 v U'.heap L ∧ FrameEnd U o U' L ({ frames := 2, cells := 0, slots := 0, locals := 28 } : Room).cells ({ frames := 2, cells := 0, slots := 0, locals := 28 } : Room).slots) := by
  refine MetFree.of_bodySF (plainFor_of_name pn_rm1) hisR ?_
  intro p e s m args below meth c s₁ Bd hml0 hP hK
  obtain ⟨rfl, hZ, hh⟩ := hP
  have hx := Bd.exec
  have hby := Bd.bytes
  have hml : c.maxLocals = 4 := hml0
  have hown : s.vm.findClass "com/example/quillwarp/quillwarp/xslt/Rank" = some m.cls := findClass_of_methodNamed Bd.named
  have hnm := (name_of_methodNamed Bd.named Bd.method).1
  have X0 : Stand p l e ({ frames := 2, cells := 0, slots := 0, locals := 28 } : Room) s m #[(.ref a1), (.int p2), (.int p3), (.int p4)] below meth c s₁ [] 0 0 := Stand.of_body Bd
  have e0 : s₁.heap = h0 := by rw [← hh, Bd.state]; rfl
  have N0 := Fr.nil n0
  have pre0 : ∀ t, Steps p.tables e below (s₁.setTop (mkF m 0 #[.val (.ref a1), .val (.int p2), .val (.int p3), .val (.int p4)] [])) t → Steps p.tables e below (s₁.setTop (entryFrame m #[(.ref a1), (.int p2), (.int p3), (.int p4)] 4)) t := fun t k => castTop (ef_rm1 m a1 p2 p3 p4) k
  obtain ⟨_, _, ⟨T1, L1, k1, n1⟩, -, X1, ⟨Lc1, hQ1, l1, y1, z1⟩, st1⟩ := X0.specialBack hx (y := (⟨"com/example/quillwarp/quillwarp/xslt/Rank", "<init>", "(IILjava/math/BigDecimal;I)V"⟩ : MethodName)) rfl hown (mvT hZ (hw _ (List.mem_of_getElem? (i := 6) rfl))) (mvT hZ (hw _ (List.mem_of_getElem? (i := 7) rfl))) (mvT hZ (hw _ (List.mem_of_getElem? (i := 8) rfl))) (by decide) (backOf (W := 0) (rm2 l Z a0 hw [] a1 p2 p3 p4 u_precedence u_lowestImported u_priority u_order h0 n0 Z0 E_a1 g_a1 F_precedence F_lowestImported F_priority F_order) hZ (hw _ (List.mem_of_getElem? (i := 8) rfl)) (hw _ (List.mem_of_getElem? (i := 2) rfl)) (by decide) (by decide)) (g := (mkF m 5 #[.val (.ref a1), .val (.int p2), .val (.int p3), .val (.int p4)] [(.int p4), .null, (.int p3), (.int p2), (.ref a1)])) rfl (by rw [hml]; rfl) (Steps.refl _) (a := a1) (argsL := [(.int p2), (.int p3), .null, (.int p4)]) (rest := []) (lenOf pd_0 rfl) rfl (by show 2 * 0 + _ ≤ _; exact Nat.le_of_eq rfl) (hb hby d1_5) (fun _ _ => ⟨rfl, e0, (by decide : 0 + 0 ≤ _), (by decide : 0 + 0 ≤ _)⟩)
  dsimp only [Pt.U, Pt.locs, Pt.cells, Pt.slots] at X1 l1 y1 z1 st1 hQ1
  subst l1 y1 z1
  obtain ⟨rfl, N1q, K1, E1, F1, G1⟩ := hQ1
  have N1 := Fr.app N0 N1q
  have pre2 : ∀ t, Steps p.tables e below (T1.setTop (mkF m 8 #[.val (.ref a1), .val (.int p2), .val (.int p3), .val (.int p4)] [])) t → Steps p.tables e below (s₁.setTop (entryFrame m #[(.ref a1), (.int p2), (.int p3), (.int p4)] 4)) t := by
    intro t kt
    refine pre0 t ?_
    show Steps p.tables e below (s₁.setTop (mkF m 0 #[.val (.ref a1), .val (.int p2), .val (.int p3), .val (.int p4)] [])) _
    refine XS.aloadN X0.here hx rfl (hb hby d1_0) rfl rfl ?_
    show Steps p.tables e below (s₁.setTop (mkF m 1 #[.val (.ref a1), .val (.int p2), .val (.int p3), .val (.int p4)] [(.ref a1)])) _
    refine XS.iloadN X0.here hx rfl (hb hby d1_1) rfl ?_
    show Steps p.tables e below (s₁.setTop (mkF m 2 #[.val (.ref a1), .val (.int p2), .val (.int p3), .val (.int p4)] [(.int p2), (.ref a1)])) _
    refine XS.iloadN X0.here hx rfl (hb hby d1_2) rfl ?_
    show Steps p.tables e below (s₁.setTop (mkF m 3 #[.val (.ref a1), .val (.int p2), .val (.int p3), .val (.int p4)] [(.int p3), (.int p2), (.ref a1)])) _
    refine XS.aconstNull X0.here hx rfl (hb hby d1_3) ?_
    show Steps p.tables e below (s₁.setTop (mkF m 4 #[.val (.ref a1), .val (.int p2), .val (.int p3), .val (.int p4)] [.null, (.int p3), (.int p2), (.ref a1)])) _
    refine XS.iloadN X0.here hx rfl (hb hby d1_4) rfl ?_
    show Steps p.tables e below (s₁.setTop (mkF m 5 #[.val (.ref a1), .val (.int p2), .val (.int p3), .val (.int p4)] [(.int p4), .null, (.int p3), (.int p2), (.ref a1)])) _
    refine st1.trans ?_
    exact kt
  obtain ⟨fs, hr, hrun, hended, hW, hsame⟩ := X1.leave (v := none) (fun _ => rfl)
  refine ⟨_, _, pre2 _ ?_, hrun, hended, _, _, rfl, ?_, ⟨_, rfl⟩, hW, hsame.mono (by decide) (by decide)⟩
  · exact X1.returnOut hx Bd.returns (hb hby d1_8) hr
  · show Q1 Z a1 p2 p3 p4 u_precedence u_lowestImported u_priority u_order h0 n0 _ T1.heap _
    exact ⟨rfl, N1, K1, E1, F1, G1⟩
def Q4 (Z : State) (a1 : Addr) (a2 : Addr) (q : Int32) (lo : Int32) (p1 : Int32) (h0 : Heap) (n0 : Nat) (v : Option Value) (h : Heap) (L : List Loc) : Prop := v = some (.int (own_imp q lo p1)) ∧ Fr n0 L ∧ h = h0
theorem ef_rm4 (m : MethodId) (x0 : Addr) (x1 : Addr) : entryFrame m #[(.ref x0), (.ref x1)] 2 = mkF m 0 #[.val (.ref x0), .val (.ref x1)] [] := by first | (simp [entryFrame, mkF, argsToLocals, Value.category]; done) | rfl
theorem pn_rm4 : plainName "com/example/quillwarp/quillwarp/xslt/Rank" = true := by first | (simp [plainName, overriddenIn]; done) | decide +kernel
set_option maxRecDepth 65536 in
set_option maxHeartbeats 40000000 in
theorem rm4 (l : Launch) (Z : State) (a0 : Array Value) (hw : ∀ d ∈ tables_1, d.before a0 Z = true) (ws : List Jvm.Cond) (a1 : Addr) (a2 : Addr) (q : Int32) (lo : Int32) (p1 : Int32) (h0 : Heap) (n0 : Nat) (Z0 : n0 ≤ h0.size) (Fq : Fld Z h0 a2 "com/example/quillwarp/quillwarp/xslt/Rank" "precedence" "I" (.int q)) (Fl : Fld Z h0 a1 "com/example/quillwarp/quillwarp/xslt/Rank" "lowestImported" "I" (.int lo)) (Fp : Fld Z h0 a1 "com/example/quillwarp/quillwarp/xslt/Rank" "precedence" "I" (.int p1)) :
    MetFree l (⟨"com/example/quillwarp/quillwarp/xslt/Rank", "imports", "(Lcom/example/quillwarp/quillwarp/xslt/Rank;)Z"⟩ : MethodName) (head1 (Jvm.Cond.code (⟨"com/example/quillwarp/quillwarp/xslt/Rank", "imports", "(Lcom/example/quillwarp/quillwarp/xslt/Rank;)Z"⟩ : MethodName) prog_271_method_8_code 2 (some .boolean) :: ws) ({ frames := 0, cells := 0, slots := 0, locals := 0 } : Room)) (fun a U => a = #[(.ref a1), (.ref a2)] ∧ Z.Warmed39 U.vm ∧ U.heap = h0) (fun _ _ _ _ _ => True) (fun _ U o U' => ∃ v L, o = .returned v ∧ Q4 Z a1 a2 q lo p1 h0 n0 v U'.heap L ∧ FrameEnd U o U' L ({ frames := 0, cells := 0, slots := 0, locals := 0 } : Room).cells ({ frames := 0, cells := 0, slots := 0, locals := 0 } : Room).slots) := by
  refine MetFree.of_bodySF (plainFor_of_name pn_rm4) hisR ?_
  intro p e s m args below meth c s₁ Bd hml0 hP hK
  obtain ⟨rfl, hZ, hh⟩ := hP
  have hx := Bd.exec
  have hby := Bd.bytes
  have hml : c.maxLocals = 2 := hml0
  have hown : s.vm.findClass "com/example/quillwarp/quillwarp/xslt/Rank" = some m.cls := findClass_of_methodNamed Bd.named
  have hnm := (name_of_methodNamed Bd.named Bd.method).1
  have X0 : Stand p l e ({ frames := 0, cells := 0, slots := 0, locals := 0 } : Room) s m #[(.ref a1), (.ref a2)] below meth c s₁ [] 0 0 := Stand.of_body Bd
  have e0 : s₁.heap = h0 := by rw [← hh, Bd.state]; rfl
  have N0 := Fr.nil n0
  have pre0 : ∀ t, Steps p.tables e below (s₁.setTop (mkF m 0 #[.val (.ref a1), .val (.ref a2)] [])) t → Steps p.tables e below (s₁.setTop (entryFrame m #[(.ref a1), (.ref a2)] 2)) t := fun t k => castTop (ef_rm4 m a1 a2) k
  obtain ⟨T1, X1, e1, st1⟩ := getF X0 hx hZ hown (host := "") (Or.inl (hw _ (List.mem_of_getElem? (i := 12) rfl))) Via.refl e0 Fq (g := (mkF m 1 #[.val (.ref a1), .val (.ref a2)] [(.ref a2)])) rfl rfl (hb hby d4_1)
  obtain ⟨T2, X2, e2, st2⟩ := getF X1 hx hZ hown (host := "") (Or.inl (hw _ (List.mem_of_getElem? (i := 14) rfl))) Via.refl e1 Fl (g := (mkF m 5 #[.val (.ref a1), .val (.ref a2)] [(.ref a1), (.int q)])) rfl rfl (hb hby d4_5)
  have pre3 : ∀ t, Steps p.tables e below (T2.setTop (mkF m 8 #[.val (.ref a1), .val (.ref a2)] [(.int lo), (.int q)])) t → Steps p.tables e below (s₁.setTop (entryFrame m #[(.ref a1), (.ref a2)] 2)) t := by
    intro t kt
    refine pre0 t ?_
    show Steps p.tables e below (s₁.setTop (mkF m 0 #[.val (.ref a1), .val (.ref a2)] [])) _
    refine XS.aloadN X0.here hx rfl (hb hby d4_0) rfl rfl ?_
    show Steps p.tables e below (s₁.setTop (mkF m 1 #[.val (.ref a1), .val (.ref a2)] [(.ref a2)])) _
    refine st1 _ ?_
    show Steps p.tables e below (T1.setTop (mkF m 4 #[.val (.ref a1), .val (.ref a2)] [(.int q)])) _
    refine XS.aloadN X1.here hx rfl (hb hby d4_4) rfl rfl ?_
    show Steps p.tables e below (T1.setTop (mkF m 5 #[.val (.ref a1), .val (.ref a2)] [(.ref a1), (.int q)])) _
    refine st2 _ ?_
    exact kt
  by_cases c1 : q < lo
  · have hv : own_imp q lo p1 = 0 := if_neg fun k => k.1 c1
    have prea4 : ∀ t, Steps p.tables e below (T2.setTop (mkF m 27 #[.val (.ref a1), .val (.ref a2)] [(.int (0 : Int32))])) t → Steps p.tables e below (s₁.setTop (entryFrame m #[(.ref a1), (.ref a2)] 2)) t := by
      intro t kt
      refine pre3 t ?_
      show Steps p.tables e below (T2.setTop (mkF m 8 #[.val (.ref a1), .val (.ref a2)] [(.int lo), (.int q)])) _
      refine XS.icmpYes X2.here hx rfl (pc0 := 8) (pc' := 26) rfl (hb hby d4_8) rfl (tlt c1).1 (by decide) (by decide) ?_
      show Steps p.tables e below (T2.setTop (mkF m 26 #[.val (.ref a1), .val (.ref a2)] [])) _
      refine XS.iconst X2.here hx rfl (hb hby d4_26) ?_
      exact kt
    obtain ⟨fs, hr, hrun, hended, hW, hsame⟩ := X2.leave (v := some (.int (0 : Int32))) (fun h => by rw [Bd.returns] at h; cases h)
    refine ⟨_, _, prea4 _ ?_, hrun, hended, _, _, rfl, ?_, ⟨_, rfl⟩, hW, hsame.mono (by decide) (by decide)⟩
    · exact retN X2 hx (t := .boolean) Bd.returns (by simp) (hb hby d4_27) hr
    · show Q4 Z a1 a2 q lo p1 h0 n0 _ T2.heap _
      rw [e2]
      exact ⟨by rw [hv], N0, rfl⟩
  · skip
    obtain ⟨Tb4, Xb4, eb4, stb4⟩ := getF X2 hx hZ hown (host := "") (Or.inl (hw _ (List.mem_of_getElem? (i := 12) rfl))) Via.refl e2 Fq (g := (mkF m 12 #[.val (.ref a1), .val (.ref a2)] [(.ref a2)])) rfl rfl (hb hby d4_12)
    obtain ⟨Tb5, Xb5, eb5, stb5⟩ := getF Xb4 hx hZ hown (host := "") (Or.inl (hw _ (List.mem_of_getElem? (i := 12) rfl))) Via.refl eb4 Fp (g := (mkF m 16 #[.val (.ref a1), .val (.ref a2)] [(.ref a1), (.int q)])) rfl rfl (hb hby d4_16)
    have preb6 : ∀ t, Steps p.tables e below (Tb5.setTop (mkF m 19 #[.val (.ref a1), .val (.ref a2)] [(.int p1), (.int q)])) t → Steps p.tables e below (s₁.setTop (entryFrame m #[(.ref a1), (.ref a2)] 2)) t := by
      intro t kt
      refine pre3 t ?_
      show Steps p.tables e below (T2.setTop (mkF m 8 #[.val (.ref a1), .val (.ref a2)] [(.int lo), (.int q)])) _
      refine XS.icmpNo X2.here hx rfl (hb hby d4_8) rfl (flt c1).1 ?_
      show Steps p.tables e below (T2.setTop (mkF m 11 #[.val (.ref a1), .val (.ref a2)] [])) _
      refine XS.aloadN X2.here hx rfl (hb hby d4_11) rfl rfl ?_
      show Steps p.tables e below (T2.setTop (mkF m 12 #[.val (.ref a1), .val (.ref a2)] [(.ref a2)])) _
      refine stb4 _ ?_
      show Steps p.tables e below (Tb4.setTop (mkF m 15 #[.val (.ref a1), .val (.ref a2)] [(.int q)])) _
      refine XS.aloadN Xb4.here hx rfl (hb hby d4_15) rfl rfl ?_
      show Steps p.tables e below (Tb4.setTop (mkF m 16 #[.val (.ref a1), .val (.ref a2)] [(.ref a1), (.int q)])) _
      refine stb5 _ ?_
      exact kt
    by_cases c2 : q < p1
    · have hv : own_imp q lo p1 = 1 := if_pos ⟨c1, c2⟩
      have prec7 : ∀ t, Steps p.tables e below (Tb5.setTop (mkF m 27 #[.val (.ref a1), .val (.ref a2)] [(.int (1 : Int32))])) t → Steps p.tables e below (s₁.setTop (entryFrame m #[(.ref a1), (.ref a2)] 2)) t := by
        intro t kt
        refine preb6 t ?_
        show Steps p.tables e below (Tb5.setTop (mkF m 19 #[.val (.ref a1), .val (.ref a2)] [(.int p1), (.int q)])) _
        refine XS.icmpNo Xb5.here hx rfl (hb hby d4_19) rfl (tlt c2).2.1 ?_
        show Steps p.tables e below (Tb5.setTop (mkF m 22 #[.val (.ref a1), .val (.ref a2)] [])) _
        refine XS.iconst Xb5.here hx rfl (hb hby d4_22) ?_
        show Steps p.tables e below (Tb5.setTop (mkF m 23 #[.val (.ref a1), .val (.ref a2)] [(.int (1 : Int32))])) _
        refine XS.goto Xb5.here hx rfl (pc0 := 23) (pc' := 27) rfl (hb hby d4_23) (by decide) (by decide) ?_
        exact kt
      obtain ⟨fs, hr, hrun, hended, hW, hsame⟩ := Xb5.leave (v := some (.int (1 : Int32))) (fun h => by rw [Bd.returns] at h; cases h)
      refine ⟨_, _, prec7 _ ?_, hrun, hended, _, _, rfl, ?_, ⟨_, rfl⟩, hW, hsame.mono (by decide) (by decide)⟩
      · exact retN Xb5 hx (t := .boolean) Bd.returns (by simp) (hb hby d4_27) hr
      · show Q4 Z a1 a2 q lo p1 h0 n0 _ Tb5.heap _
        rw [eb5]
        exact ⟨by rw [hv], N0, rfl⟩
    · have hv : own_imp q lo p1 = 0 := if_neg fun k => c2 k.2
      have pred7 : ∀ t, Steps p.tables e below (Tb5.setTop (mkF m 27 #[.val (.ref a1), .val (.ref a2)] [(.int (0 : Int32))])) t → Steps p.tables e below (s₁.setTop (entryFrame m #[(.ref a1), (.ref a2)] 2)) t := by
        intro t kt
        refine preb6 t ?_
        show Steps p.tables e below (Tb5.setTop (mkF m 19 #[.val (.ref a1), .val (.ref a2)] [(.int p1), (.int q)])) _
        refine XS.icmpYes Xb5.here hx rfl (pc0 := 19) (pc' := 26) rfl (hb hby d4_19) rfl (flt c2).2.1 (by decide) (by decide) ?_
        show Steps p.tables e below (Tb5.setTop (mkF m 26 #[.val (.ref a1), .val (.ref a2)] [])) _
        refine XS.iconst Xb5.here hx rfl (hb hby d4_26) ?_
        exact kt
      obtain ⟨fs, hr, hrun, hended, hW, hsame⟩ := Xb5.leave (v := some (.int (0 : Int32))) (fun h => by rw [Bd.returns] at h; cases h)
      refine ⟨_, _, pred7 _ ?_, hrun, hended, _, _, rfl, ?_, ⟨_, rfl⟩, hW, hsame.mono (by decide) (by decide)⟩
      · exact retN Xb5 hx (t := .boolean) Bd.returns (by simp) (hb hby d4_27) hr
      · show Q4 Z a1 a2 q lo p1 h0 n0 _ Tb5.heap _
        rw [eb5]
        exact ⟨by rw [hv], N0, rfl⟩
def Q5 (Z : State) (a1 : Addr) (a2 : Addr) (p1 : Int32) (q : Int32) (h0 : Heap) (n0 : Nat) (v : Option Value) (h : Heap) (L : List Loc) : Prop := v = some (.int (own_abv p1 q)) ∧ Fr n0 L ∧ h = h0
theorem ef_rm5 (m : MethodId) (x0 : Addr) (x1 : Addr) : entryFrame m #[(.ref x0), (.ref x1)] 2 = mkF m 0 #[.val (.ref x0), .val (.ref x1)] [] := by first | (simp [entryFrame, mkF, argsToLocals, Value.category]; done) | rfl
theorem pn_rm5 : plainName "com/example/quillwarp/quillwarp/xslt/Rank" = true := by first | (simp [plainName, overriddenIn]; done) | decide +kernel
set_option maxRecDepth 65536 in
set_option maxHeartbeats 40000000 in
theorem rm5 (l : Launch) (Z : State) (a0 : Array Value) (hw : ∀ d ∈ tables_1, d.before a0 Z = true) (ws : List Jvm.Cond) (a1 : Addr) (a2 : Addr) (p1 : Int32) (q : Int32) (h0 : Heap) (n0 : Nat) (Z0 : n0 ≤ h0.size) (Fp : Fld Z h0 a1 "com/example/quillwarp/quillwarp/xslt/Rank" "precedence" "I" (.int p1)) (Fq : Fld Z h0 a2 "com/example/quillwarp/quillwarp/xslt/Rank" "precedence" "I" (.int q)) :
    MetFree l (⟨"com/example/quillwarp/quillwarp/xslt/Rank", "isAbove", "(Lcom/example/quillwarp/quillwarp/xslt/Rank;)Z"⟩ : MethodName) (head1 (Jvm.Cond.code (⟨"com/example/quillwarp/quillwarp/xslt/Rank", "isAbove", "(Lcom/example/quillwarp/quillwarp/xslt/Rank;)Z"⟩ : MethodName) prog_271_method_5_code 2 (some .boolean) :: ws) ({ frames := 0, cells := 0, slots := 0, locals := 0 } : Room)) (fun a U => a = #[(.ref a1), (.ref a2)] ∧ Z.Warmed39 U.vm ∧ U.heap = h0) (fun _ _ _ _ _ => True) (fun _ U o U' => ∃ v L, o = .returned v ∧ Q5 Z a1 a2 p1 q h0 n0 v U'.heap L ∧ FrameEnd U o U' L ({ frames := 0, cells := 0, slots := 0, locals := 0 } : Room).cells ({ frames := 0, cells := 0, slots := 0, locals := 0 } : Room).slots) := by
  refine MetFree.of_bodySF (plainFor_of_name pn_rm5) hisR ?_
  intro p e s m args below meth c s₁ Bd hml0 hP hK
  obtain ⟨rfl, hZ, hh⟩ := hP
  have hx := Bd.exec
  have hby := Bd.bytes
  have hml : c.maxLocals = 2 := hml0
  have hown : s.vm.findClass "com/example/quillwarp/quillwarp/xslt/Rank" = some m.cls := findClass_of_methodNamed Bd.named
  have hnm := (name_of_methodNamed Bd.named Bd.method).1
  have X0 : Stand p l e ({ frames := 0, cells := 0, slots := 0, locals := 0 } : Room) s m #[(.ref a1), (.ref a2)] below meth c s₁ [] 0 0 := Stand.of_body Bd
  have e0 : s₁.heap = h0 := by rw [← hh, Bd.state]; rfl
  have N0 := Fr.nil n0
  have pre0 : ∀ t, Steps p.tables e below (s₁.setTop (mkF m 0 #[.val (.ref a1), .val (.ref a2)] [])) t → Steps p.tables e below (s₁.setTop (entryFrame m #[(.ref a1), (.ref a2)] 2)) t := fun t k => castTop (ef_rm5 m a1 a2) k
  obtain ⟨T1, X1, e1, st1⟩ := getF X0 hx hZ hown (host := "") (Or.inl (hw _ (List.mem_of_getElem? (i := 12) rfl))) Via.refl e0 Fp (g := (mkF m 1 #[.val (.ref a1), .val (.ref a2)] [(.ref a1)])) rfl rfl (hb hby d5_1)
  obtain ⟨T2, X2, e2, st2⟩ := getF X1 hx hZ hown (host := "") (Or.inl (hw _ (List.mem_of_getElem? (i := 12) rfl))) Via.refl e1 Fq (g := (mkF m 5 #[.val (.ref a1), .val (.ref a2)] [(.ref a2), (.int p1)])) rfl rfl (hb hby d5_5)
  have pre3 : ∀ t, Steps p.tables e below (T2.setTop (mkF m 8 #[.val (.ref a1), .val (.ref a2)] [(.int q), (.int p1)])) t → Steps p.tables e below (s₁.setTop (entryFrame m #[(.ref a1), (.ref a2)] 2)) t := by
    intro t kt
    refine pre0 t ?_
    show Steps p.tables e below (s₁.setTop (mkF m 0 #[.val (.ref a1), .val (.ref a2)] [])) _
    refine XS.aloadN X0.here hx rfl (hb hby d5_0) rfl rfl ?_
    show Steps p.tables e below (s₁.setTop (mkF m 1 #[.val (.ref a1), .val (.ref a2)] [(.ref a1)])) _
    refine st1 _ ?_
    show Steps p.tables e below (T1.setTop (mkF m 4 #[.val (.ref a1), .val (.ref a2)] [(.int p1)])) _
    refine XS.aloadN X1.here hx rfl (hb hby d5_4) rfl rfl ?_
    show Steps p.tables e below (T1.setTop (mkF m 5 #[.val (.ref a1), .val (.ref a2)] [(.ref a2), (.int p1)])) _
    refine st2 _ ?_
    exact kt
  by_cases c1 : q < p1
  · have hv : own_abv p1 q = 1 := if_pos c1
    have prea4 : ∀ t, Steps p.tables e below (T2.setTop (mkF m 16 #[.val (.ref a1), .val (.ref a2)] [(.int (1 : Int32))])) t → Steps p.tables e below (s₁.setTop (entryFrame m #[(.ref a1), (.ref a2)] 2)) t := by
      intro t kt
      refine pre3 t ?_
      show Steps p.tables e below (T2.setTop (mkF m 8 #[.val (.ref a1), .val (.ref a2)] [(.int q), (.int p1)])) _
      refine XS.icmpNo X2.here hx rfl (hb hby d5_8) rfl (tlt c1).2.2.2 ?_
      show Steps p.tables e below (T2.setTop (mkF m 11 #[.val (.ref a1), .val (.ref a2)] [])) _
      refine XS.iconst X2.here hx rfl (hb hby d5_11) ?_
      show Steps p.tables e below (T2.setTop (mkF m 12 #[.val (.ref a1), .val (.ref a2)] [(.int (1 : Int32))])) _
      refine XS.goto X2.here hx rfl (pc0 := 12) (pc' := 16) rfl (hb hby d5_12) (by decide) (by decide) ?_
      exact kt
    obtain ⟨fs, hr, hrun, hended, hW, hsame⟩ := X2.leave (v := some (.int (1 : Int32))) (fun h => by rw [Bd.returns] at h; cases h)
    refine ⟨_, _, prea4 _ ?_, hrun, hended, _, _, rfl, ?_, ⟨_, rfl⟩, hW, hsame.mono (by decide) (by decide)⟩
    · exact retN X2 hx (t := .boolean) Bd.returns (by simp) (hb hby d5_16) hr
    · show Q5 Z a1 a2 p1 q h0 n0 _ T2.heap _
      rw [e2]
      exact ⟨by rw [hv], N0, rfl⟩
  · have hv : own_abv p1 q = 0 := if_neg c1
    have preb4 : ∀ t, Steps p.tables e below (T2.setTop (mkF m 16 #[.val (.ref a1), .val (.ref a2)] [(.int (0 : Int32))])) t → Steps p.tables e below (s₁.setTop (entryFrame m #[(.ref a1), (.ref a2)] 2)) t := by
      intro t kt
      refine pre3 t ?_
      show Steps p.tables e below (T2.setTop (mkF m 8 #[.val (.ref a1), .val (.ref a2)] [(.int q), (.int p1)])) _
      refine XS.icmpYes X2.here hx rfl (pc0 := 8) (pc' := 15) rfl (hb hby d5_8) rfl (flt c1).2.2.2 (by decide) (by decide) ?_
      show Steps p.tables e below (T2.setTop (mkF m 15 #[.val (.ref a1), .val (.ref a2)] [])) _
      refine XS.iconst X2.here hx rfl (hb hby d5_15) ?_
      exact kt
    obtain ⟨fs, hr, hrun, hended, hW, hsame⟩ := X2.leave (v := some (.int (0 : Int32))) (fun h => by rw [Bd.returns] at h; cases h)
    refine ⟨_, _, preb4 _ ?_, hrun, hended, _, _, rfl, ?_, ⟨_, rfl⟩, hW, hsame.mono (by decide) (by decide)⟩
    · exact retN X2 hx (t := .boolean) Bd.returns (by simp) (hb hby d5_16) hr
    · show Q5 Z a1 a2 p1 q h0 n0 _ T2.heap _
      rw [e2]
      exact ⟨by rw [hv], N0, rfl⟩
set_option maxRecDepth 65536 in
set_option maxHeartbeats 4000000 in
theorem ck_exp {p : Program} {e : Env} {below : List Frame} {m : MethodId} {c : Code} {T t : State} (s0 : Slot) (s1 : Slot) (s2 : Slot) (s3 : Slot) (s4 : Slot) (s5 : Slot) (s6 : Slot) (s7 : Slot) (s8 : Slot) (g : Int32) (d : Int64) (w : Int64) (h : At T m c below) (hx : p.tables.exec = Jvm.exec) (hby : c.code = code)  (kt : Steps p.tables e below (T.setTop (mkF m 85 #[s0, s1, s2, s3, s4, s5, s6, s7, s8, .val (.int g), .val (.long d), .second, .val (.long w), .second, .val (.int (own_exp d w))] [])) t) : Steps p.tables e below (T.setTop (mkF m 63 #[s0, s1, s2, s3, s4, s5, s6, s7, s8, .val (.int g), .val (.long d), .second, .val (.long w), .second, .unset] [])) t := by
  by_cases c1 : d < 0
  · have hv : own_exp d w = 0 := if_neg fun k => k.1 c1
    rw [hv] at kt
    show Steps p.tables e below (T.setTop (mkF m 63 #[s0, s1, s2, s3, s4, s5, s6, s7, s8, .val (.int g), .val (.long d), .second, .val (.long w), .second, .unset] [])) _
    refine XS.lload h hx rfl (hb hby at_63) rfl ?_
    show Steps p.tables e below (T.setTop (mkF m 65 #[s0, s1, s2, s3, s4, s5, s6, s7, s8, .val (.int g), .val (.long d), .second, .val (.long w), .second, .unset] [(.long d)])) _
    refine XS.lconst h hx rfl (hb hby at_65) ?_
    show Steps p.tables e below (T.setTop (mkF m 66 #[s0, s1, s2, s3, s4, s5, s6, s7, s8, .val (.int g), .val (.long d), .second, .val (.long w), .second, .unset] [(.long (0 : Int64)), (.long d)])) _
    refine XS.lcmp h hx rfl (hb hby at_66) rfl ?_
    show Steps p.tables e below (T.setTop (mkF m 67 #[s0, s1, s2, s3, s4, s5, s6, s7, s8, .val (.int g), .val (.long d), .second, .val (.long w), .second, .unset] [(.int (lcmpW d (0 : Int64)))])) _
    refine XS.ifYes h hx rfl (pc0 := 67) (pc' := 82) rfl (hb hby at_67) rfl ((if0 _ _).trans (tlt ((lw_lt _ _).mpr c1)).1) (by decide) (by decide) ?_
    show Steps p.tables e below (T.setTop (mkF m 82 #[s0, s1, s2, s3, s4, s5, s6, s7, s8, .val (.int g), .val (.long d), .second, .val (.long w), .second, .unset] [])) _
    refine XS.iconst h hx rfl (hb hby at_82) ?_
    show Steps p.tables e below (T.setTop (mkF m 83 #[s0, s1, s2, s3, s4, s5, s6, s7, s8, .val (.int g), .val (.long d), .second, .val (.long w), .second, .unset] [(.int (0 : Int32))])) _
    refine XS.istore h hx rfl (hb hby at_83) rfl (l' := #[s0, s1, s2, s3, s4, s5, s6, s7, s8, .val (.int g), .val (.long d), .second, .val (.long w), .second, .val (.int (0 : Int32))]) rfl ?_
    exact kt
  · by_cases c2 : d < w
    · have hv : own_exp d w = 1 := if_pos ⟨c1, c2⟩
      rw [hv] at kt
      show Steps p.tables e below (T.setTop (mkF m 63 #[s0, s1, s2, s3, s4, s5, s6, s7, s8, .val (.int g), .val (.long d), .second, .val (.long w), .second, .unset] [])) _
      refine XS.lload h hx rfl (hb hby at_63) rfl ?_
      show Steps p.tables e below (T.setTop (mkF m 65 #[s0, s1, s2, s3, s4, s5, s6, s7, s8, .val (.int g), .val (.long d), .second, .val (.long w), .second, .unset] [(.long d)])) _
      refine XS.lconst h hx rfl (hb hby at_65) ?_
      show Steps p.tables e below (T.setTop (mkF m 66 #[s0, s1, s2, s3, s4, s5, s6, s7, s8, .val (.int g), .val (.long d), .second, .val (.long w), .second, .unset] [(.long (0 : Int64)), (.long d)])) _
      refine XS.lcmp h hx rfl (hb hby at_66) rfl ?_
      show Steps p.tables e below (T.setTop (mkF m 67 #[s0, s1, s2, s3, s4, s5, s6, s7, s8, .val (.int g), .val (.long d), .second, .val (.long w), .second, .unset] [(.int (lcmpW d (0 : Int64)))])) _
      refine XS.ifNo h hx rfl (hb hby at_67) rfl ((if0 _ _).trans (flt (fun k => c1 ((lw_lt _ _).mp k))).1) ?_
      show Steps p.tables e below (T.setTop (mkF m 70 #[s0, s1, s2, s3, s4, s5, s6, s7, s8, .val (.int g), .val (.long d), .second, .val (.long w), .second, .unset] [])) _
      refine XS.lload h hx rfl (hb hby at_70) rfl ?_
      show Steps p.tables e below (T.setTop (mkF m 72 #[s0, s1, s2, s3, s4, s5, s6, s7, s8, .val (.int g), .val (.long d), .second, .val (.long w), .second, .unset] [(.long d)])) _
      refine XS.lload h hx rfl (hb hby at_72) rfl ?_
      show Steps p.tables e below (T.setTop (mkF m 74 #[s0, s1, s2, s3, s4, s5, s6, s7, s8, .val (.int g), .val (.long d), .second, .val (.long w), .second, .unset] [(.long w), (.long d)])) _
      refine XS.lcmp h hx rfl (hb hby at_74) rfl ?_
      show Steps p.tables e below (T.setTop (mkF m 75 #[s0, s1, s2, s3, s4, s5, s6, s7, s8, .val (.int g), .val (.long d), .second, .val (.long w), .second, .unset] [(.int (lcmpW d w))])) _
      refine XS.ifNo h hx rfl (hb hby at_75) rfl ((if0 _ _).trans (tlt ((lw_lt _ _).mpr c2)).2.1) ?_
      show Steps p.tables e below (T.setTop (mkF m 78 #[s0, s1, s2, s3, s4, s5, s6, s7, s8, .val (.int g), .val (.long d), .second, .val (.long w), .second, .unset] [])) _
      refine XS.iconst h hx rfl (hb hby at_78) ?_
      show Steps p.tables e below (T.setTop (mkF m 79 #[s0, s1, s2, s3, s4, s5, s6, s7, s8, .val (.int g), .val (.long d), .second, .val (.long w), .second, .unset] [(.int (1 : Int32))])) _
      refine XS.goto h hx rfl (pc0 := 79) (pc' := 83) rfl (hb hby at_79) (by decide) (by decide) ?_
      show Steps p.tables e below (T.setTop (mkF m 83 #[s0, s1, s2, s3, s4, s5, s6, s7, s8, .val (.int g), .val (.long d), .second, .val (.long w), .second, .unset] [(.int (1 : Int32))])) _
      refine XS.istore h hx rfl (hb hby at_83) rfl (l' := #[s0, s1, s2, s3, s4, s5, s6, s7, s8, .val (.int g), .val (.long d), .second, .val (.long w), .second, .val (.int (1 : Int32))]) rfl ?_
      exact kt
    · have hv : own_exp d w = 0 := if_neg fun k => c2 k.2
      rw [hv] at kt
      show Steps p.tables e below (T.setTop (mkF m 63 #[s0, s1, s2, s3, s4, s5, s6, s7, s8, .val (.int g), .val (.long d), .second, .val (.long w), .second, .unset] [])) _
      refine XS.lload h hx rfl (hb hby at_63) rfl ?_
      show Steps p.tables e below (T.setTop (mkF m 65 #[s0, s1, s2, s3, s4, s5, s6, s7, s8, .val (.int g), .val (.long d), .second, .val (.long w), .second, .unset] [(.long d)])) _
      refine XS.lconst h hx rfl (hb hby at_65) ?_
      show Steps p.tables e below (T.setTop (mkF m 66 #[s0, s1, s2, s3, s4, s5, s6, s7, s8, .val (.int g), .val (.long d), .second, .val (.long w), .second, .unset] [(.long (0 : Int64)), (.long d)])) _
      refine XS.lcmp h hx rfl (hb hby at_66) rfl ?_
      show Steps p.tables e below (T.setTop (mkF m 67 #[s0, s1, s2, s3, s4, s5, s6, s7, s8, .val (.int g), .val (.long d), .second, .val (.long w), .second, .unset] [(.int (lcmpW d (0 : Int64)))])) _
      refine XS.ifNo h hx rfl (hb hby at_67) rfl ((if0 _ _).trans (flt (fun k => c1 ((lw_lt _ _).mp k))).1) ?_
      show Steps p.tables e below (T.setTop (mkF m 70 #[s0, s1, s2, s3, s4, s5, s6, s7, s8, .val (.int g), .val (.long d), .second, .val (.long w), .second, .unset] [])) _
      refine XS.lload h hx rfl (hb hby at_70) rfl ?_
      show Steps p.tables e below (T.setTop (mkF m 72 #[s0, s1, s2, s3, s4, s5, s6, s7, s8, .val (.int g), .val (.long d), .second, .val (.long w), .second, .unset] [(.long d)])) _
      refine XS.lload h hx rfl (hb hby at_72) rfl ?_
      show Steps p.tables e below (T.setTop (mkF m 74 #[s0, s1, s2, s3, s4, s5, s6, s7, s8, .val (.int g), .val (.long d), .second, .val (.long w), .second, .unset] [(.long w), (.long d)])) _
      refine XS.lcmp h hx rfl (hb hby at_74) rfl ?_
      show Steps p.tables e below (T.setTop (mkF m 75 #[s0, s1, s2, s3, s4, s5, s6, s7, s8, .val (.int g), .val (.long d), .second, .val (.long w), .second, .unset] [(.int (lcmpW d w))])) _
      refine XS.ifYes h hx rfl (pc0 := 75) (pc' := 82) rfl (hb hby at_75) rfl ((if0 _ _).trans (flt (fun k => c2 ((lw_lt _ _).mp k))).2.1) (by decide) (by decide) ?_
      show Steps p.tables e below (T.setTop (mkF m 82 #[s0, s1, s2, s3, s4, s5, s6, s7, s8, .val (.int g), .val (.long d), .second, .val (.long w), .second, .unset] [])) _
      refine XS.iconst h hx rfl (hb hby at_82) ?_
      show Steps p.tables e below (T.setTop (mkF m 83 #[s0, s1, s2, s3, s4, s5, s6, s7, s8, .val (.int g), .val (.long d), .second, .val (.long w), .second, .unset] [(.int (0 : Int32))])) _
      refine XS.istore h hx rfl (hb hby at_83) rfl (l' := #[s0, s1, s2, s3, s4, s5, s6, s7, s8, .val (.int g), .val (.long d), .second, .val (.long w), .second, .val (.int (0 : Int32))]) rfl ?_
      exact kt
def Q0 (Z : State) (p1 : Int32) (p2 : Int32) (p3 : Int32) (p4 : Int32) (p5 : Int32) (p6 : Int32) (h0 : Heap) (n0 : Nat) (v : Option Value) (h : Heap) (L : List Loc) : Prop := v = some (.int (1 : Int32)) ∧ Fr n0 L
theorem ef_rm0 (m : MethodId) (x0 : Int32) (x1 : Int32) (x2 : Int32) (x3 : Int32) (x4 : Int32) (x5 : Int32) : entryFrame m #[(.int x0), (.int x1), (.int x2), (.int x3), (.int x4), (.int x5)] maxLocals = mkF m 0 #[.val (.int x0), .val (.int x1), .val (.int x2), .val (.int x3), .val (.int x4), .val (.int x5), .unset, .unset, .unset, .unset, .unset, .unset, .unset, .unset, .unset] [] := by first | (simp [entryFrame, mkF, argsToLocals, Value.category, maxLocals]; done) | rfl
theorem pn_rm0 : plainName "com/example/quillwarp/quillwarp/xslt/RankImportsPinLaw" = true := by first | (simp [plainName, overriddenIn]; done) | decide +kernel
set_option maxRecDepth 65536 in
set_option maxHeartbeats 40000000 in
theorem rm0 (l : Launch) (Z : State) (a0 : Array Value) (hw : ∀ d ∈ tables_1, d.before a0 Z = true) (ws : List Jvm.Cond) (p1 : Int32) (p2 : Int32) (p3 : Int32) (p4 : Int32) (p5 : Int32) (p6 : Int32) (h0 : Heap) (n0 : Nat) (Z0 : n0 ≤ h0.size)  :
    MetFree l x (head1 (Jvm.Cond.code x code maxLocals ret :: ws) room_1) (fun a U => a = #[(.int p1), (.int p2), (.int p3), (.int p4), (.int p5), (.int p6)] ∧ Z.Warmed39 U.vm ∧ U.heap = h0) (fun _ _ _ _ _ => True) (fun _ U o U' => ∃ v L, o = .returned v ∧ Q0 Z p1 p2 p3 p4 p5 p6 h0 n0 v U'.heap L ∧ FrameEnd U o U' L room_1.cells room_1.slots) := by
  refine MetFree.of_bodySF (plainFor_of_name pn_rm0) hisR ?_
  intro p e s m args below meth c s₁ Bd hml0 hP hK
  obtain ⟨rfl, hZ, hh⟩ := hP
  have hx := Bd.exec
  have hby := Bd.bytes
  have hml : c.maxLocals = 15 := hml0
  have hown : s.vm.findClass "com/example/quillwarp/quillwarp/xslt/RankImportsPinLaw" = some m.cls := findClass_of_methodNamed Bd.named
  have hnm := (name_of_methodNamed Bd.named Bd.method).1
  have X0 : Stand p l e room_1 s m #[(.int p1), (.int p2), (.int p3), (.int p4), (.int p5), (.int p6)] below meth c s₁ [] 0 0 := Stand.of_body Bd
  have e0 : s₁.heap = h0 := by rw [← hh, Bd.state]; rfl
  have N0 := Fr.nil n0
  have pre0 : ∀ t, Steps p.tables e below (s₁.setTop (mkF m 0 #[.val (.int p1), .val (.int p2), .val (.int p3), .val (.int p4), .val (.int p5), .val (.int p6), .unset, .unset, .unset, .unset, .unset, .unset, .unset, .unset, .unset] [])) t → Steps p.tables e below (s₁.setTop (entryFrame m #[(.int p1), (.int p2), (.int p3), (.int p4), (.int p5), (.int p6)] maxLocals)) t := fun t k => castTop (ef_rm0 m p1 p2 p3 p4 p5 p6) k
  obtain ⟨T1, h1, X1, e1, E1, A1, D1, -, st1⟩ := newO X0 hx hZ hown (hw _ (List.mem_of_getElem? (i := 0) rfl)) (hw _ (List.mem_of_getElem? (i := 1) rfl)) (hw _ (List.mem_of_getElem? (i := 2) rfl)) e0 (g := (mkF m 0 #[.val (.int p1), .val (.int p2), .val (.int p3), .val (.int p4), .val (.int p5), .val (.int p6), .unset, .unset, .unset, .unset, .unset, .unset, .unset, .unset, .unset] [])) rfl (hb hby at_0) (by decide) (by decide)
  obtain ⟨b1, g1⟩ : ∃ z, z = h0.size := ⟨_, rfl⟩
  rw [← g1] at A1 D1 st1
  have g_b1 : n0 ≤ b1 := Nat.le_trans Z0 (Nat.le_of_eq g1.symm)
  have zz1 : n0 ≤ h1.size := Nat.le_trans Z0 E1.1
  obtain ⟨_, _, ⟨T2, L2, k2, n2⟩, -, X2, ⟨Lc2, hQ2, l2, y2, z2⟩, st2⟩ := X1.specialBack hx (y := (⟨"com/example/quillwarp/quillwarp/xslt/Rank", "<init>", "(III)V"⟩ : MethodName)) rfl hown (mvT hZ (hw _ (List.mem_of_getElem? (i := 3) rfl))) (mvT hZ (hw _ (List.mem_of_getElem? (i := 4) rfl))) (mvT hZ (hw _ (List.mem_of_getElem? (i := 5) rfl))) (by decide) (backOf (W := 1) (rm1 l Z a0 hw [] b1 p1 p2 p3 _ _ _ _ h1 n0 zz1 A1 g_b1 (D1 (Or.inr (hw _ (List.mem_of_getElem? (i := 13) rfl))) (ty := .int) (by decide)) (D1 (Or.inr (hw _ (List.mem_of_getElem? (i := 15) rfl))) (ty := .int) (by decide)) (D1 (Or.inr (hw _ (List.mem_of_getElem? (i := 17) rfl))) (ty := (.object "java/math/BigDecimal")) (by decide)) (D1 (Or.inr (hw _ (List.mem_of_getElem? (i := 19) rfl))) (ty := .int) (by decide))) hZ (hw _ (List.mem_of_getElem? (i := 5) rfl)) (hw _ (List.mem_of_getElem? (i := 2) rfl)) (by decide) (by decide)) (g := (mkF m 7 #[.val (.int p1), .val (.int p2), .val (.int p3), .val (.int p4), .val (.int p5), .val (.int p6), .unset, .unset, .unset, .unset, .unset, .unset, .unset, .unset, .unset] [(.int p3), (.int p2), (.int p1), (.ref b1), (.ref b1)])) rfl (by rw [hml]; rfl) (Steps.refl _) (a := b1) (argsL := [(.int p1), (.int p2), (.int p3)]) (rest := [(.ref b1)]) (lenOf pd_1 rfl) rfl (by show 2 * 0 + _ ≤ _; exact Nat.le_of_eq rfl) (hb hby at_7) (fun _ _ => ⟨rfl, e1, (by decide : 1 + 0 ≤ _), (by decide : 4 + 0 ≤ _)⟩)
  dsimp only [Pt.U, Pt.locs, Pt.cells, Pt.slots] at X2 l2 y2 z2 st2 hQ2
  subst l2 y2 z2
  obtain ⟨rfl, N2q, K2, E2, P2, L2⟩ := hQ2
  have N2 := Fr.app N0 N2q
  have zz2 : n0 ≤ T2.heap.size := Nat.le_trans zz1 K2.1
  obtain ⟨T3, h3, X3, e3, E3, A3, D3, -, st3⟩ := newO X2 hx hZ hown (hw _ (List.mem_of_getElem? (i := 0) rfl)) (hw _ (List.mem_of_getElem? (i := 1) rfl)) (hw _ (List.mem_of_getElem? (i := 2) rfl)) rfl (g := (mkF m 12 #[.val (.int p1), .val (.int p2), .val (.int p3), .val (.int p4), .val (.int p5), .val (.int p6), .val (.ref b1), .unset, .unset, .unset, .unset, .unset, .unset, .unset, .unset] [])) rfl (hb hby at_12) (by decide) (by decide)
  obtain ⟨b3, g3⟩ : ∃ z, z = T2.heap.size := ⟨_, rfl⟩
  rw [← g3] at A3 D3 st3
  have g_b3 : n0 ≤ b3 := Nat.le_trans zz2 (Nat.le_of_eq g3.symm)
  have zz3 : n0 ≤ h3.size := Nat.le_trans zz2 E3.1
  have ne3_b1 : b1 ≠ b3 := Nat.ne_of_lt (Nat.lt_of_lt_of_le E2.lt (Nat.le_of_eq g3.symm))
  have E3_b1 := Exa.ext E3 E2
  have P3_b1 := Fld.ext E3 P2
  have L3_b1 := Fld.ext E3 L2
  obtain ⟨_, _, ⟨T4, L4, k4, n4⟩, -, X4, ⟨Lc4, hQ4, l4, y4, z4⟩, st4⟩ := X3.specialBack hx (y := (⟨"com/example/quillwarp/quillwarp/xslt/Rank", "<init>", "(III)V"⟩ : MethodName)) rfl hown (mvT hZ (hw _ (List.mem_of_getElem? (i := 3) rfl))) (mvT hZ (hw _ (List.mem_of_getElem? (i := 4) rfl))) (mvT hZ (hw _ (List.mem_of_getElem? (i := 5) rfl))) (by decide) (backOf (W := 1) (rm1 l Z a0 hw [] b3 p4 p5 p6 _ _ _ _ h3 n0 zz3 A3 g_b3 (D3 (Or.inr (hw _ (List.mem_of_getElem? (i := 13) rfl))) (ty := .int) (by decide)) (D3 (Or.inr (hw _ (List.mem_of_getElem? (i := 15) rfl))) (ty := .int) (by decide)) (D3 (Or.inr (hw _ (List.mem_of_getElem? (i := 17) rfl))) (ty := (.object "java/math/BigDecimal")) (by decide)) (D3 (Or.inr (hw _ (List.mem_of_getElem? (i := 19) rfl))) (ty := .int) (by decide))) hZ (hw _ (List.mem_of_getElem? (i := 5) rfl)) (hw _ (List.mem_of_getElem? (i := 2) rfl)) (by decide) (by decide)) (g := (mkF m 21 #[.val (.int p1), .val (.int p2), .val (.int p3), .val (.int p4), .val (.int p5), .val (.int p6), .val (.ref b1), .unset, .unset, .unset, .unset, .unset, .unset, .unset, .unset] [(.int p6), (.int p5), (.int p4), (.ref b3), (.ref b3)])) rfl (by rw [hml]; rfl) (Steps.refl _) (a := b3) (argsL := [(.int p4), (.int p5), (.int p6)]) (rest := [(.ref b3)]) (lenOf pd_1 rfl) rfl (by show 2 * 0 + _ ≤ _; exact Nat.le_of_eq rfl) (hb hby at_21) (fun _ _ => ⟨rfl, e3, (by decide : 2 + 0 ≤ _), (by decide : 8 + 0 ≤ _)⟩)
  dsimp only [Pt.U, Pt.locs, Pt.cells, Pt.slots] at X4 l4 y4 z4 st4 hQ4
  subst l4 y4 z4
  obtain ⟨rfl, N4q, K4, E4, P4, L4⟩ := hQ4
  have N4 := Fr.app N2 N4q
  have zz4 : n0 ≤ T4.heap.size := Nat.le_trans zz3 K4.1
  have E4_b1 := Exa.keep E3_b1 K4
  have P4_b1 := Fld.keep P3_b1 K4 (ninS ne3_b1 nin0)
  have L4_b1 := Fld.keep L3_b1 K4 (ninS ne3_b1 nin0)
  obtain ⟨T5, h5, X5, e5, E5, A5, D5, -, st5⟩ := newO X4 hx hZ hown (hw _ (List.mem_of_getElem? (i := 0) rfl)) (hw _ (List.mem_of_getElem? (i := 1) rfl)) (hw _ (List.mem_of_getElem? (i := 2) rfl)) rfl (g := (mkF m 26 #[.val (.int p1), .val (.int p2), .val (.int p3), .val (.int p4), .val (.int p5), .val (.int p6), .val (.ref b1), .val (.ref b3), .unset, .unset, .unset, .unset, .unset, .unset, .unset] [])) rfl (hb hby at_26) (by decide) (by decide)
  obtain ⟨b5, g5⟩ : ∃ z, z = T4.heap.size := ⟨_, rfl⟩
  rw [← g5] at A5 D5 st5
  have g_b5 : n0 ≤ b5 := Nat.le_trans zz4 (Nat.le_of_eq g5.symm)
  have zz5 : n0 ≤ h5.size := Nat.le_trans zz4 E5.1
  have ne5_b1 : b1 ≠ b5 := Nat.ne_of_lt (Nat.lt_of_lt_of_le E4_b1.lt (Nat.le_of_eq g5.symm))
  have E5_b1 := Exa.ext E5 E4_b1
  have P5_b1 := Fld.ext E5 P4_b1
  have L5_b1 := Fld.ext E5 L4_b1
  have ne5_b3 : b3 ≠ b5 := Nat.ne_of_lt (Nat.lt_of_lt_of_le E4.lt (Nat.le_of_eq g5.symm))
  have E5_b3 := Exa.ext E5 E4
  have P5_b3 := Fld.ext E5 P4
  have L5_b3 := Fld.ext E5 L4
  obtain ⟨_, _, ⟨T6, L6, k6, n6⟩, -, X6, ⟨Lc6, hQ6, l6, y6, z6⟩, st6⟩ := X5.specialBack hx (y := (⟨"com/example/quillwarp/quillwarp/xslt/Rank", "<init>", "(III)V"⟩ : MethodName)) rfl hown (mvT hZ (hw _ (List.mem_of_getElem? (i := 3) rfl))) (mvT hZ (hw _ (List.mem_of_getElem? (i := 4) rfl))) (mvT hZ (hw _ (List.mem_of_getElem? (i := 5) rfl))) (by decide) (backOf (W := 1) (rm1 l Z a0 hw [] b5 p4 p6 p5 _ _ _ _ h5 n0 zz5 A5 g_b5 (D5 (Or.inr (hw _ (List.mem_of_getElem? (i := 13) rfl))) (ty := .int) (by decide)) (D5 (Or.inr (hw _ (List.mem_of_getElem? (i := 15) rfl))) (ty := .int) (by decide)) (D5 (Or.inr (hw _ (List.mem_of_getElem? (i := 17) rfl))) (ty := (.object "java/math/BigDecimal")) (by decide)) (D5 (Or.inr (hw _ (List.mem_of_getElem? (i := 19) rfl))) (ty := .int) (by decide))) hZ (hw _ (List.mem_of_getElem? (i := 5) rfl)) (hw _ (List.mem_of_getElem? (i := 2) rfl)) (by decide) (by decide)) (g := (mkF m 35 #[.val (.int p1), .val (.int p2), .val (.int p3), .val (.int p4), .val (.int p5), .val (.int p6), .val (.ref b1), .val (.ref b3), .unset, .unset, .unset, .unset, .unset, .unset, .unset] [(.int p5), (.int p6), (.int p4), (.ref b5), (.ref b5)])) rfl (by rw [hml]; rfl) (Steps.refl _) (a := b5) (argsL := [(.int p4), (.int p6), (.int p5)]) (rest := [(.ref b5)]) (lenOf pd_1 rfl) rfl (by show 2 * 0 + _ ≤ _; exact Nat.le_of_eq rfl) (hb hby at_35) (fun _ _ => ⟨rfl, e5, (by decide : 3 + 0 ≤ _), (by decide : 12 + 0 ≤ _)⟩)
  dsimp only [Pt.U, Pt.locs, Pt.cells, Pt.slots] at X6 l6 y6 z6 st6 hQ6
  subst l6 y6 z6
  obtain ⟨rfl, N6q, K6, E6, P6, L6⟩ := hQ6
  have N6 := Fr.app N4 N6q
  have zz6 : n0 ≤ T6.heap.size := Nat.le_trans zz5 K6.1
  have E6_b1 := Exa.keep E5_b1 K6
  have P6_b1 := Fld.keep P5_b1 K6 (ninS ne5_b1 nin0)
  have L6_b1 := Fld.keep L5_b1 K6 (ninS ne5_b1 nin0)
  have E6_b3 := Exa.keep E5_b3 K6
  have P6_b3 := Fld.keep P5_b3 K6 (ninS ne5_b3 nin0)
  have L6_b3 := Fld.keep L5_b3 K6 (ninS ne5_b3 nin0)
  obtain ⟨cq7, kq7, q7a, q7b, q7c⟩ := isOf hZ rfl E6_b1
  obtain ⟨_, _, ⟨T7, L7, k7, n7⟩, -, X7, ⟨Lc7, hQ7, l7, y7, z7⟩, st7⟩ := X6.virtualBack hx (y := (⟨"com/example/quillwarp/quillwarp/xslt/Rank", "imports", "(Lcom/example/quillwarp/quillwarp/xslt/Rank;)Z"⟩ : MethodName)) (z := (⟨"com/example/quillwarp/quillwarp/xslt/Rank", "imports", "(Lcom/example/quillwarp/quillwarp/xslt/Rank;)Z"⟩ : MethodName)) hown (mvT hZ (hw _ (List.mem_of_getElem? (i := 20) rfl))) (mvT hZ (hw _ (List.mem_of_getElem? (i := 21) rfl))) (notFace_of_selects (args := #[]) (mvT hZ (hw _ (List.mem_of_getElem? (i := 23) rfl)))) (mvT hZ (hw _ (List.mem_of_getElem? (i := 23) rfl))) (mvT hZ (hw _ (List.mem_of_getElem? (i := 22) rfl))) (by decide) (backOf (W := 0) (rm4 l Z a0 hw [] b1 b3 p4 p2 p1 T6.heap n0 zz6 P6_b3 L6_b1 P6_b1) hZ (hw _ (List.mem_of_getElem? (i := 24) rfl)) (hw _ (List.mem_of_getElem? (i := 2) rfl)) (by decide) (by decide)) q7a q7c (g := (mkF m 44 #[.val (.int p1), .val (.int p2), .val (.int p3), .val (.int p4), .val (.int p5), .val (.int p6), .val (.ref b1), .val (.ref b3), .val (.ref b5), .unset, .unset, .unset, .unset, .unset, .unset] [(.ref b3), (.ref b1)])) rfl (by rw [hml]; rfl) (Steps.refl _) (argsL := [(.ref b3)]) (rest := []) (lenOf pd_2 rfl) rfl (by show 2 * 0 + _ ≤ _; exact Nat.le_of_eq rfl) (hb hby at_44) (fun _ _ => ⟨rfl, rfl, (by decide : 3 + 0 ≤ _), (by decide : 12 + 0 ≤ _)⟩)
  dsimp only [Pt.U, Pt.locs, Pt.cells, Pt.slots] at X7 l7 y7 z7 st7 hQ7
  subst l7 y7 z7
  obtain ⟨rfl, N7q, h7⟩ := hQ7
  have N7 := Fr.app N6 N7q
  have zz7 : n0 ≤ T7.heap.size := by rw [h7]; exact zz6
  obtain ⟨cq8, kq8, q8a, q8b, q8c⟩ := isOf hZ rfl (by rw [h7]; exact E6_b1)
  obtain ⟨_, _, ⟨T8, L8, k8, n8⟩, -, X8, ⟨Lc8, hQ8, l8, y8, z8⟩, st8⟩ := X7.virtualBack hx (y := (⟨"com/example/quillwarp/quillwarp/xslt/Rank", "imports", "(Lcom/example/quillwarp/quillwarp/xslt/Rank;)Z"⟩ : MethodName)) (z := (⟨"com/example/quillwarp/quillwarp/xslt/Rank", "imports", "(Lcom/example/quillwarp/quillwarp/xslt/Rank;)Z"⟩ : MethodName)) hown (mvT hZ (hw _ (List.mem_of_getElem? (i := 20) rfl))) (mvT hZ (hw _ (List.mem_of_getElem? (i := 21) rfl))) (notFace_of_selects (args := #[]) (mvT hZ (hw _ (List.mem_of_getElem? (i := 23) rfl)))) (mvT hZ (hw _ (List.mem_of_getElem? (i := 23) rfl))) (mvT hZ (hw _ (List.mem_of_getElem? (i := 22) rfl))) (by decide) (backOf (W := 0) (rm4 l Z a0 hw [] b1 b5 p4 p2 p1 T7.heap n0 zz7 (by rw [h7]; exact P6) (by rw [h7]; exact L6_b1) (by rw [h7]; exact P6_b1)) hZ (hw _ (List.mem_of_getElem? (i := 24) rfl)) (hw _ (List.mem_of_getElem? (i := 2) rfl)) (by decide) (by decide)) q8a q8c (g := (mkF m 98 #[.val (.int p1), .val (.int p2), .val (.int p3), .val (.int p4), .val (.int p5), .val (.int p6), .val (.ref b1), .val (.ref b3), .val (.ref b5), .val (.int (own_imp p4 p2 p1)), .val (.long ((p4.toInt64) - (p2.toInt64))), .second, .val (.long ((p1.toInt64) - (p2.toInt64))), .second, .val (.int (own_exp ((p4.toInt64) - (p2.toInt64)) ((p1.toInt64) - (p2.toInt64))))] [(.ref b5), (.ref b1)])) rfl (by rw [hml]; rfl) (Steps.refl _) (argsL := [(.ref b5)]) (rest := []) (lenOf pd_2 rfl) rfl (by show 2 * 0 + _ ≤ _; exact Nat.le_of_eq rfl) (hb hby at_98) (fun _ _ => ⟨rfl, rfl, (by decide : 3 + 0 ≤ _), (by decide : 12 + 0 ≤ _)⟩)
  dsimp only [Pt.U, Pt.locs, Pt.cells, Pt.slots] at X8 l8 y8 z8 st8 hQ8
  subst l8 y8 z8
  obtain ⟨rfl, N8q, h8⟩ := hQ8
  have N8 := Fr.app N7 N8q
  have zz8 : n0 ≤ T8.heap.size := by rw [h8]; exact zz7
  obtain ⟨cq9, kq9, q9a, q9b, q9c⟩ := isOf hZ rfl (by rw [h8, h7]; exact E6_b1)
  obtain ⟨_, _, ⟨T9, L9, k9, n9⟩, -, X9, ⟨Lc9, hQ9, l9, y9, z9⟩, st9⟩ := X8.virtualBack hx (y := (⟨"com/example/quillwarp/quillwarp/xslt/Rank", "imports", "(Lcom/example/quillwarp/quillwarp/xslt/Rank;)Z"⟩ : MethodName)) (z := (⟨"com/example/quillwarp/quillwarp/xslt/Rank", "imports", "(Lcom/example/quillwarp/quillwarp/xslt/Rank;)Z"⟩ : MethodName)) hown (mvT hZ (hw _ (List.mem_of_getElem? (i := 20) rfl))) (mvT hZ (hw _ (List.mem_of_getElem? (i := 21) rfl))) (notFace_of_selects (args := #[]) (mvT hZ (hw _ (List.mem_of_getElem? (i := 23) rfl)))) (mvT hZ (hw _ (List.mem_of_getElem? (i := 23) rfl))) (mvT hZ (hw _ (List.mem_of_getElem? (i := 22) rfl))) (by decide) (backOf (W := 0) (rm4 l Z a0 hw [] b1 b1 p1 p2 p1 T8.heap n0 zz8 (by rw [h8, h7]; exact P6_b1) (by rw [h8, h7]; exact L6_b1) (by rw [h8, h7]; exact P6_b1)) hZ (hw _ (List.mem_of_getElem? (i := 24) rfl)) (hw _ (List.mem_of_getElem? (i := 2) rfl)) (by decide) (by decide)) q9a q9c (g := (mkF m 112 #[.val (.int p1), .val (.int p2), .val (.int p3), .val (.int p4), .val (.int p5), .val (.int p6), .val (.ref b1), .val (.ref b3), .val (.ref b5), .val (.int (own_imp p4 p2 p1)), .val (.long ((p4.toInt64) - (p2.toInt64))), .second, .val (.long ((p1.toInt64) - (p2.toInt64))), .second, .val (.int (own_exp ((p4.toInt64) - (p2.toInt64)) ((p1.toInt64) - (p2.toInt64))))] [(.ref b1), (.ref b1)])) rfl (by rw [hml]; rfl) (Steps.refl _) (argsL := [(.ref b1)]) (rest := []) (lenOf pd_2 rfl) rfl (by show 2 * 0 + _ ≤ _; exact Nat.le_of_eq rfl) (hb hby at_112) (fun _ _ => ⟨rfl, rfl, (by decide : 3 + 0 ≤ _), (by decide : 12 + 0 ≤ _)⟩)
  dsimp only [Pt.U, Pt.locs, Pt.cells, Pt.slots] at X9 l9 y9 z9 st9 hQ9
  subst l9 y9 z9
  obtain ⟨rfl, N9q, h9⟩ := hQ9
  have N9 := Fr.app N8 N9q
  have zz9 : n0 ≤ T9.heap.size := by rw [h9]; exact zz8
  have pre10 : ∀ t, Steps p.tables e below (T9.setTop (mkF m 122 #[.val (.int p1), .val (.int p2), .val (.int p3), .val (.int p4), .val (.int p5), .val (.int p6), .val (.ref b1), .val (.ref b3), .val (.ref b5), .val (.int (own_imp p4 p2 p1)), .val (.long ((p4.toInt64) - (p2.toInt64))), .second, .val (.long ((p1.toInt64) - (p2.toInt64))), .second, .val (.int (own_exp ((p4.toInt64) - (p2.toInt64)) ((p1.toInt64) - (p2.toInt64))))] [(.int (own_imp p4 p2 p1))])) t → Steps p.tables e below (s₁.setTop (entryFrame m #[(.int p1), (.int p2), (.int p3), (.int p4), (.int p5), (.int p6)] maxLocals)) t := by
    intro t kt
    refine pre0 t ?_
    show Steps p.tables e below (s₁.setTop (mkF m 0 #[.val (.int p1), .val (.int p2), .val (.int p3), .val (.int p4), .val (.int p5), .val (.int p6), .unset, .unset, .unset, .unset, .unset, .unset, .unset, .unset, .unset] [])) _
    refine st1 _ ?_
    show Steps p.tables e below (T1.setTop (mkF m 3 #[.val (.int p1), .val (.int p2), .val (.int p3), .val (.int p4), .val (.int p5), .val (.int p6), .unset, .unset, .unset, .unset, .unset, .unset, .unset, .unset, .unset] [(.ref b1)])) _
    refine XS.dup X1.here hx rfl (hb hby at_3) rfl rfl ?_
    show Steps p.tables e below (T1.setTop (mkF m 4 #[.val (.int p1), .val (.int p2), .val (.int p3), .val (.int p4), .val (.int p5), .val (.int p6), .unset, .unset, .unset, .unset, .unset, .unset, .unset, .unset, .unset] [(.ref b1), (.ref b1)])) _
    refine XS.iloadN X1.here hx rfl (hb hby at_4) rfl ?_
    show Steps p.tables e below (T1.setTop (mkF m 5 #[.val (.int p1), .val (.int p2), .val (.int p3), .val (.int p4), .val (.int p5), .val (.int p6), .unset, .unset, .unset, .unset, .unset, .unset, .unset, .unset, .unset] [(.int p1), (.ref b1), (.ref b1)])) _
    refine XS.iloadN X1.here hx rfl (hb hby at_5) rfl ?_
    show Steps p.tables e below (T1.setTop (mkF m 6 #[.val (.int p1), .val (.int p2), .val (.int p3), .val (.int p4), .val (.int p5), .val (.int p6), .unset, .unset, .unset, .unset, .unset, .unset, .unset, .unset, .unset] [(.int p2), (.int p1), (.ref b1), (.ref b1)])) _
    refine XS.iloadN X1.here hx rfl (hb hby at_6) rfl ?_
    show Steps p.tables e below (T1.setTop (mkF m 7 #[.val (.int p1), .val (.int p2), .val (.int p3), .val (.int p4), .val (.int p5), .val (.int p6), .unset, .unset, .unset, .unset, .unset, .unset, .unset, .unset, .unset] [(.int p3), (.int p2), (.int p1), (.ref b1), (.ref b1)])) _
    refine st2.trans ?_
    show Steps p.tables e below (T2.setTop (mkF m 10 #[.val (.int p1), .val (.int p2), .val (.int p3), .val (.int p4), .val (.int p5), .val (.int p6), .unset, .unset, .unset, .unset, .unset, .unset, .unset, .unset, .unset] [(.ref b1)])) _
    refine XS.astore X2.here hx rfl (hb hby at_10) rfl rfl (l' := #[.val (.int p1), .val (.int p2), .val (.int p3), .val (.int p4), .val (.int p5), .val (.int p6), .val (.ref b1), .unset, .unset, .unset, .unset, .unset, .unset, .unset, .unset]) rfl ?_
    show Steps p.tables e below (T2.setTop (mkF m 12 #[.val (.int p1), .val (.int p2), .val (.int p3), .val (.int p4), .val (.int p5), .val (.int p6), .val (.ref b1), .unset, .unset, .unset, .unset, .unset, .unset, .unset, .unset] [])) _
    refine st3 _ ?_
    show Steps p.tables e below (T3.setTop (mkF m 15 #[.val (.int p1), .val (.int p2), .val (.int p3), .val (.int p4), .val (.int p5), .val (.int p6), .val (.ref b1), .unset, .unset, .unset, .unset, .unset, .unset, .unset, .unset] [(.ref b3)])) _
    refine XS.dup X3.here hx rfl (hb hby at_15) rfl rfl ?_
    show Steps p.tables e below (T3.setTop (mkF m 16 #[.val (.int p1), .val (.int p2), .val (.int p3), .val (.int p4), .val (.int p5), .val (.int p6), .val (.ref b1), .unset, .unset, .unset, .unset, .unset, .unset, .unset, .unset] [(.ref b3), (.ref b3)])) _
    refine XS.iloadN X3.here hx rfl (hb hby at_16) rfl ?_
    show Steps p.tables e below (T3.setTop (mkF m 17 #[.val (.int p1), .val (.int p2), .val (.int p3), .val (.int p4), .val (.int p5), .val (.int p6), .val (.ref b1), .unset, .unset, .unset, .unset, .unset, .unset, .unset, .unset] [(.int p4), (.ref b3), (.ref b3)])) _
    refine XS.iload X3.here hx rfl (hb hby at_17) rfl ?_
    show Steps p.tables e below (T3.setTop (mkF m 19 #[.val (.int p1), .val (.int p2), .val (.int p3), .val (.int p4), .val (.int p5), .val (.int p6), .val (.ref b1), .unset, .unset, .unset, .unset, .unset, .unset, .unset, .unset] [(.int p5), (.int p4), (.ref b3), (.ref b3)])) _
    refine XS.iload X3.here hx rfl (hb hby at_19) rfl ?_
    show Steps p.tables e below (T3.setTop (mkF m 21 #[.val (.int p1), .val (.int p2), .val (.int p3), .val (.int p4), .val (.int p5), .val (.int p6), .val (.ref b1), .unset, .unset, .unset, .unset, .unset, .unset, .unset, .unset] [(.int p6), (.int p5), (.int p4), (.ref b3), (.ref b3)])) _
    refine st4.trans ?_
    show Steps p.tables e below (T4.setTop (mkF m 24 #[.val (.int p1), .val (.int p2), .val (.int p3), .val (.int p4), .val (.int p5), .val (.int p6), .val (.ref b1), .unset, .unset, .unset, .unset, .unset, .unset, .unset, .unset] [(.ref b3)])) _
    refine XS.astore X4.here hx rfl (hb hby at_24) rfl rfl (l' := #[.val (.int p1), .val (.int p2), .val (.int p3), .val (.int p4), .val (.int p5), .val (.int p6), .val (.ref b1), .val (.ref b3), .unset, .unset, .unset, .unset, .unset, .unset, .unset]) rfl ?_
    show Steps p.tables e below (T4.setTop (mkF m 26 #[.val (.int p1), .val (.int p2), .val (.int p3), .val (.int p4), .val (.int p5), .val (.int p6), .val (.ref b1), .val (.ref b3), .unset, .unset, .unset, .unset, .unset, .unset, .unset] [])) _
    refine st5 _ ?_
    show Steps p.tables e below (T5.setTop (mkF m 29 #[.val (.int p1), .val (.int p2), .val (.int p3), .val (.int p4), .val (.int p5), .val (.int p6), .val (.ref b1), .val (.ref b3), .unset, .unset, .unset, .unset, .unset, .unset, .unset] [(.ref b5)])) _
    refine XS.dup X5.here hx rfl (hb hby at_29) rfl rfl ?_
    show Steps p.tables e below (T5.setTop (mkF m 30 #[.val (.int p1), .val (.int p2), .val (.int p3), .val (.int p4), .val (.int p5), .val (.int p6), .val (.ref b1), .val (.ref b3), .unset, .unset, .unset, .unset, .unset, .unset, .unset] [(.ref b5), (.ref b5)])) _
    refine XS.iloadN X5.here hx rfl (hb hby at_30) rfl ?_
    show Steps p.tables e below (T5.setTop (mkF m 31 #[.val (.int p1), .val (.int p2), .val (.int p3), .val (.int p4), .val (.int p5), .val (.int p6), .val (.ref b1), .val (.ref b3), .unset, .unset, .unset, .unset, .unset, .unset, .unset] [(.int p4), (.ref b5), (.ref b5)])) _
    refine XS.iload X5.here hx rfl (hb hby at_31) rfl ?_
    show Steps p.tables e below (T5.setTop (mkF m 33 #[.val (.int p1), .val (.int p2), .val (.int p3), .val (.int p4), .val (.int p5), .val (.int p6), .val (.ref b1), .val (.ref b3), .unset, .unset, .unset, .unset, .unset, .unset, .unset] [(.int p6), (.int p4), (.ref b5), (.ref b5)])) _
    refine XS.iload X5.here hx rfl (hb hby at_33) rfl ?_
    show Steps p.tables e below (T5.setTop (mkF m 35 #[.val (.int p1), .val (.int p2), .val (.int p3), .val (.int p4), .val (.int p5), .val (.int p6), .val (.ref b1), .val (.ref b3), .unset, .unset, .unset, .unset, .unset, .unset, .unset] [(.int p5), (.int p6), (.int p4), (.ref b5), (.ref b5)])) _
    refine st6.trans ?_
    show Steps p.tables e below (T6.setTop (mkF m 38 #[.val (.int p1), .val (.int p2), .val (.int p3), .val (.int p4), .val (.int p5), .val (.int p6), .val (.ref b1), .val (.ref b3), .unset, .unset, .unset, .unset, .unset, .unset, .unset] [(.ref b5)])) _
    refine XS.astore X6.here hx rfl (hb hby at_38) rfl rfl (l' := #[.val (.int p1), .val (.int p2), .val (.int p3), .val (.int p4), .val (.int p5), .val (.int p6), .val (.ref b1), .val (.ref b3), .val (.ref b5), .unset, .unset, .unset, .unset, .unset, .unset]) rfl ?_
    show Steps p.tables e below (T6.setTop (mkF m 40 #[.val (.int p1), .val (.int p2), .val (.int p3), .val (.int p4), .val (.int p5), .val (.int p6), .val (.ref b1), .val (.ref b3), .val (.ref b5), .unset, .unset, .unset, .unset, .unset, .unset] [])) _
    refine XS.aload X6.here hx rfl (hb hby at_40) rfl rfl ?_
    show Steps p.tables e below (T6.setTop (mkF m 42 #[.val (.int p1), .val (.int p2), .val (.int p3), .val (.int p4), .val (.int p5), .val (.int p6), .val (.ref b1), .val (.ref b3), .val (.ref b5), .unset, .unset, .unset, .unset, .unset, .unset] [(.ref b1)])) _
    refine XS.aload X6.here hx rfl (hb hby at_42) rfl rfl ?_
    show Steps p.tables e below (T6.setTop (mkF m 44 #[.val (.int p1), .val (.int p2), .val (.int p3), .val (.int p4), .val (.int p5), .val (.int p6), .val (.ref b1), .val (.ref b3), .val (.ref b5), .unset, .unset, .unset, .unset, .unset, .unset] [(.ref b3), (.ref b1)])) _
    refine st7.trans ?_
    show Steps p.tables e below (T7.setTop (mkF m 47 #[.val (.int p1), .val (.int p2), .val (.int p3), .val (.int p4), .val (.int p5), .val (.int p6), .val (.ref b1), .val (.ref b3), .val (.ref b5), .unset, .unset, .unset, .unset, .unset, .unset] [(.int (own_imp p4 p2 p1))])) _
    refine XS.istore X7.here hx rfl (hb hby at_47) rfl (l' := #[.val (.int p1), .val (.int p2), .val (.int p3), .val (.int p4), .val (.int p5), .val (.int p6), .val (.ref b1), .val (.ref b3), .val (.ref b5), .val (.int (own_imp p4 p2 p1)), .unset, .unset, .unset, .unset, .unset]) rfl ?_
    show Steps p.tables e below (T7.setTop (mkF m 49 #[.val (.int p1), .val (.int p2), .val (.int p3), .val (.int p4), .val (.int p5), .val (.int p6), .val (.ref b1), .val (.ref b3), .val (.ref b5), .val (.int (own_imp p4 p2 p1)), .unset, .unset, .unset, .unset, .unset] [])) _
    refine XS.iloadN X7.here hx rfl (hb hby at_49) rfl ?_
    show Steps p.tables e below (T7.setTop (mkF m 50 #[.val (.int p1), .val (.int p2), .val (.int p3), .val (.int p4), .val (.int p5), .val (.int p6), .val (.ref b1), .val (.ref b3), .val (.ref b5), .val (.int (own_imp p4 p2 p1)), .unset, .unset, .unset, .unset, .unset] [(.int p4)])) _
    refine XS.i2l X7.here hx rfl (hb hby at_50) rfl ?_
    show Steps p.tables e below (T7.setTop (mkF m 51 #[.val (.int p1), .val (.int p2), .val (.int p3), .val (.int p4), .val (.int p5), .val (.int p6), .val (.ref b1), .val (.ref b3), .val (.ref b5), .val (.int (own_imp p4 p2 p1)), .unset, .unset, .unset, .unset, .unset] [(.long (p4.toInt64))])) _
    refine XS.iloadN X7.here hx rfl (hb hby at_51) rfl ?_
    show Steps p.tables e below (T7.setTop (mkF m 52 #[.val (.int p1), .val (.int p2), .val (.int p3), .val (.int p4), .val (.int p5), .val (.int p6), .val (.ref b1), .val (.ref b3), .val (.ref b5), .val (.int (own_imp p4 p2 p1)), .unset, .unset, .unset, .unset, .unset] [(.int p2), (.long (p4.toInt64))])) _
    refine XS.i2l X7.here hx rfl (hb hby at_52) rfl ?_
    show Steps p.tables e below (T7.setTop (mkF m 53 #[.val (.int p1), .val (.int p2), .val (.int p3), .val (.int p4), .val (.int p5), .val (.int p6), .val (.ref b1), .val (.ref b3), .val (.ref b5), .val (.int (own_imp p4 p2 p1)), .unset, .unset, .unset, .unset, .unset] [(.long (p2.toInt64)), (.long (p4.toInt64))])) _
    refine XS.lsub X7.here hx rfl (hb hby at_53) rfl ?_
    show Steps p.tables e below (T7.setTop (mkF m 54 #[.val (.int p1), .val (.int p2), .val (.int p3), .val (.int p4), .val (.int p5), .val (.int p6), .val (.ref b1), .val (.ref b3), .val (.ref b5), .val (.int (own_imp p4 p2 p1)), .unset, .unset, .unset, .unset, .unset] [(.long ((p4.toInt64) - (p2.toInt64)))])) _
    refine XS.lstore X7.here hx rfl (hb hby at_54) rfl (l' := #[.val (.int p1), .val (.int p2), .val (.int p3), .val (.int p4), .val (.int p5), .val (.int p6), .val (.ref b1), .val (.ref b3), .val (.ref b5), .val (.int (own_imp p4 p2 p1)), .val (.long ((p4.toInt64) - (p2.toInt64))), .second, .unset, .unset, .unset]) rfl ?_
    show Steps p.tables e below (T7.setTop (mkF m 56 #[.val (.int p1), .val (.int p2), .val (.int p3), .val (.int p4), .val (.int p5), .val (.int p6), .val (.ref b1), .val (.ref b3), .val (.ref b5), .val (.int (own_imp p4 p2 p1)), .val (.long ((p4.toInt64) - (p2.toInt64))), .second, .unset, .unset, .unset] [])) _
    refine XS.iloadN X7.here hx rfl (hb hby at_56) rfl ?_
    show Steps p.tables e below (T7.setTop (mkF m 57 #[.val (.int p1), .val (.int p2), .val (.int p3), .val (.int p4), .val (.int p5), .val (.int p6), .val (.ref b1), .val (.ref b3), .val (.ref b5), .val (.int (own_imp p4 p2 p1)), .val (.long ((p4.toInt64) - (p2.toInt64))), .second, .unset, .unset, .unset] [(.int p1)])) _
    refine XS.i2l X7.here hx rfl (hb hby at_57) rfl ?_
    show Steps p.tables e below (T7.setTop (mkF m 58 #[.val (.int p1), .val (.int p2), .val (.int p3), .val (.int p4), .val (.int p5), .val (.int p6), .val (.ref b1), .val (.ref b3), .val (.ref b5), .val (.int (own_imp p4 p2 p1)), .val (.long ((p4.toInt64) - (p2.toInt64))), .second, .unset, .unset, .unset] [(.long (p1.toInt64))])) _
    refine XS.iloadN X7.here hx rfl (hb hby at_58) rfl ?_
    show Steps p.tables e below (T7.setTop (mkF m 59 #[.val (.int p1), .val (.int p2), .val (.int p3), .val (.int p4), .val (.int p5), .val (.int p6), .val (.ref b1), .val (.ref b3), .val (.ref b5), .val (.int (own_imp p4 p2 p1)), .val (.long ((p4.toInt64) - (p2.toInt64))), .second, .unset, .unset, .unset] [(.int p2), (.long (p1.toInt64))])) _
    refine XS.i2l X7.here hx rfl (hb hby at_59) rfl ?_
    show Steps p.tables e below (T7.setTop (mkF m 60 #[.val (.int p1), .val (.int p2), .val (.int p3), .val (.int p4), .val (.int p5), .val (.int p6), .val (.ref b1), .val (.ref b3), .val (.ref b5), .val (.int (own_imp p4 p2 p1)), .val (.long ((p4.toInt64) - (p2.toInt64))), .second, .unset, .unset, .unset] [(.long (p2.toInt64)), (.long (p1.toInt64))])) _
    refine XS.lsub X7.here hx rfl (hb hby at_60) rfl ?_
    show Steps p.tables e below (T7.setTop (mkF m 61 #[.val (.int p1), .val (.int p2), .val (.int p3), .val (.int p4), .val (.int p5), .val (.int p6), .val (.ref b1), .val (.ref b3), .val (.ref b5), .val (.int (own_imp p4 p2 p1)), .val (.long ((p4.toInt64) - (p2.toInt64))), .second, .unset, .unset, .unset] [(.long ((p1.toInt64) - (p2.toInt64)))])) _
    refine XS.lstore X7.here hx rfl (hb hby at_61) rfl (l' := #[.val (.int p1), .val (.int p2), .val (.int p3), .val (.int p4), .val (.int p5), .val (.int p6), .val (.ref b1), .val (.ref b3), .val (.ref b5), .val (.int (own_imp p4 p2 p1)), .val (.long ((p4.toInt64) - (p2.toInt64))), .second, .val (.long ((p1.toInt64) - (p2.toInt64))), .second, .unset]) rfl ?_
    refine ck_exp _ _ _ _ _ _ _ _ _ _ _ _ X7.here hx hby ?_
    show Steps p.tables e below (T7.setTop (mkF m 85 #[.val (.int p1), .val (.int p2), .val (.int p3), .val (.int p4), .val (.int p5), .val (.int p6), .val (.ref b1), .val (.ref b3), .val (.ref b5), .val (.int (own_imp p4 p2 p1)), .val (.long ((p4.toInt64) - (p2.toInt64))), .second, .val (.long ((p1.toInt64) - (p2.toInt64))), .second, .val (.int (own_exp ((p4.toInt64) - (p2.toInt64)) ((p1.toInt64) - (p2.toInt64))))] [])) _
    refine XS.iload X7.here hx rfl (hb hby at_85) rfl ?_
    show Steps p.tables e below (T7.setTop (mkF m 87 #[.val (.int p1), .val (.int p2), .val (.int p3), .val (.int p4), .val (.int p5), .val (.int p6), .val (.ref b1), .val (.ref b3), .val (.ref b5), .val (.int (own_imp p4 p2 p1)), .val (.long ((p4.toInt64) - (p2.toInt64))), .second, .val (.long ((p1.toInt64) - (p2.toInt64))), .second, .val (.int (own_exp ((p4.toInt64) - (p2.toInt64)) ((p1.toInt64) - (p2.toInt64))))] [(.int (own_imp p4 p2 p1))])) _
    refine XS.iload X7.here hx rfl (hb hby at_87) rfl ?_
    show Steps p.tables e below (T7.setTop (mkF m 89 #[.val (.int p1), .val (.int p2), .val (.int p3), .val (.int p4), .val (.int p5), .val (.int p6), .val (.ref b1), .val (.ref b3), .val (.ref b5), .val (.int (own_imp p4 p2 p1)), .val (.long ((p4.toInt64) - (p2.toInt64))), .second, .val (.long ((p1.toInt64) - (p2.toInt64))), .second, .val (.int (own_exp ((p4.toInt64) - (p2.toInt64)) ((p1.toInt64) - (p2.toInt64))))] [(.int (own_exp ((p4.toInt64) - (p2.toInt64)) ((p1.toInt64) - (p2.toInt64)))), (.int (own_imp p4 p2 p1))])) _
    refine XS.icmpYes X7.here hx rfl (pc0 := 89) (pc' := 94) rfl (hb hby at_89) rfl (teq ((own_law p1 p2 p4).symm)).1 (by decide) (by decide) ?_
    show Steps p.tables e below (T7.setTop (mkF m 94 #[.val (.int p1), .val (.int p2), .val (.int p3), .val (.int p4), .val (.int p5), .val (.int p6), .val (.ref b1), .val (.ref b3), .val (.ref b5), .val (.int (own_imp p4 p2 p1)), .val (.long ((p4.toInt64) - (p2.toInt64))), .second, .val (.long ((p1.toInt64) - (p2.toInt64))), .second, .val (.int (own_exp ((p4.toInt64) - (p2.toInt64)) ((p1.toInt64) - (p2.toInt64))))] [])) _
    refine XS.aload X7.here hx rfl (hb hby at_94) rfl rfl ?_
    show Steps p.tables e below (T7.setTop (mkF m 96 #[.val (.int p1), .val (.int p2), .val (.int p3), .val (.int p4), .val (.int p5), .val (.int p6), .val (.ref b1), .val (.ref b3), .val (.ref b5), .val (.int (own_imp p4 p2 p1)), .val (.long ((p4.toInt64) - (p2.toInt64))), .second, .val (.long ((p1.toInt64) - (p2.toInt64))), .second, .val (.int (own_exp ((p4.toInt64) - (p2.toInt64)) ((p1.toInt64) - (p2.toInt64))))] [(.ref b1)])) _
    refine XS.aload X7.here hx rfl (hb hby at_96) rfl rfl ?_
    show Steps p.tables e below (T7.setTop (mkF m 98 #[.val (.int p1), .val (.int p2), .val (.int p3), .val (.int p4), .val (.int p5), .val (.int p6), .val (.ref b1), .val (.ref b3), .val (.ref b5), .val (.int (own_imp p4 p2 p1)), .val (.long ((p4.toInt64) - (p2.toInt64))), .second, .val (.long ((p1.toInt64) - (p2.toInt64))), .second, .val (.int (own_exp ((p4.toInt64) - (p2.toInt64)) ((p1.toInt64) - (p2.toInt64))))] [(.ref b5), (.ref b1)])) _
    refine st8.trans ?_
    show Steps p.tables e below (T8.setTop (mkF m 101 #[.val (.int p1), .val (.int p2), .val (.int p3), .val (.int p4), .val (.int p5), .val (.int p6), .val (.ref b1), .val (.ref b3), .val (.ref b5), .val (.int (own_imp p4 p2 p1)), .val (.long ((p4.toInt64) - (p2.toInt64))), .second, .val (.long ((p1.toInt64) - (p2.toInt64))), .second, .val (.int (own_exp ((p4.toInt64) - (p2.toInt64)) ((p1.toInt64) - (p2.toInt64))))] [(.int (own_imp p4 p2 p1))])) _
    refine XS.iload X8.here hx rfl (hb hby at_101) rfl ?_
    show Steps p.tables e below (T8.setTop (mkF m 103 #[.val (.int p1), .val (.int p2), .val (.int p3), .val (.int p4), .val (.int p5), .val (.int p6), .val (.ref b1), .val (.ref b3), .val (.ref b5), .val (.int (own_imp p4 p2 p1)), .val (.long ((p4.toInt64) - (p2.toInt64))), .second, .val (.long ((p1.toInt64) - (p2.toInt64))), .second, .val (.int (own_exp ((p4.toInt64) - (p2.toInt64)) ((p1.toInt64) - (p2.toInt64))))] [(.int (own_imp p4 p2 p1)), (.int (own_imp p4 p2 p1))])) _
    refine XS.icmpYes X8.here hx rfl (pc0 := 103) (pc' := 108) rfl (hb hby at_103) rfl (teq rfl).1 (by decide) (by decide) ?_
    show Steps p.tables e below (T8.setTop (mkF m 108 #[.val (.int p1), .val (.int p2), .val (.int p3), .val (.int p4), .val (.int p5), .val (.int p6), .val (.ref b1), .val (.ref b3), .val (.ref b5), .val (.int (own_imp p4 p2 p1)), .val (.long ((p4.toInt64) - (p2.toInt64))), .second, .val (.long ((p1.toInt64) - (p2.toInt64))), .second, .val (.int (own_exp ((p4.toInt64) - (p2.toInt64)) ((p1.toInt64) - (p2.toInt64))))] [])) _
    refine XS.aload X8.here hx rfl (hb hby at_108) rfl rfl ?_
    show Steps p.tables e below (T8.setTop (mkF m 110 #[.val (.int p1), .val (.int p2), .val (.int p3), .val (.int p4), .val (.int p5), .val (.int p6), .val (.ref b1), .val (.ref b3), .val (.ref b5), .val (.int (own_imp p4 p2 p1)), .val (.long ((p4.toInt64) - (p2.toInt64))), .second, .val (.long ((p1.toInt64) - (p2.toInt64))), .second, .val (.int (own_exp ((p4.toInt64) - (p2.toInt64)) ((p1.toInt64) - (p2.toInt64))))] [(.ref b1)])) _
    refine XS.aload X8.here hx rfl (hb hby at_110) rfl rfl ?_
    show Steps p.tables e below (T8.setTop (mkF m 112 #[.val (.int p1), .val (.int p2), .val (.int p3), .val (.int p4), .val (.int p5), .val (.int p6), .val (.ref b1), .val (.ref b3), .val (.ref b5), .val (.int (own_imp p4 p2 p1)), .val (.long ((p4.toInt64) - (p2.toInt64))), .second, .val (.long ((p1.toInt64) - (p2.toInt64))), .second, .val (.int (own_exp ((p4.toInt64) - (p2.toInt64)) ((p1.toInt64) - (p2.toInt64))))] [(.ref b1), (.ref b1)])) _
    refine st9.trans ?_
    show Steps p.tables e below (T9.setTop (mkF m 115 #[.val (.int p1), .val (.int p2), .val (.int p3), .val (.int p4), .val (.int p5), .val (.int p6), .val (.ref b1), .val (.ref b3), .val (.ref b5), .val (.int (own_imp p4 p2 p1)), .val (.long ((p4.toInt64) - (p2.toInt64))), .second, .val (.long ((p1.toInt64) - (p2.toInt64))), .second, .val (.int (own_exp ((p4.toInt64) - (p2.toInt64)) ((p1.toInt64) - (p2.toInt64))))] [(.int (own_imp p1 p2 p1))])) _
    refine XS.ifYes X9.here hx rfl (pc0 := 115) (pc' := 120) rfl (hb hby at_115) rfl ((if0 _ _).trans (teq (own_self p2 p1)).1) (by decide) (by decide) ?_
    show Steps p.tables e below (T9.setTop (mkF m 120 #[.val (.int p1), .val (.int p2), .val (.int p3), .val (.int p4), .val (.int p5), .val (.int p6), .val (.ref b1), .val (.ref b3), .val (.ref b5), .val (.int (own_imp p4 p2 p1)), .val (.long ((p4.toInt64) - (p2.toInt64))), .second, .val (.long ((p1.toInt64) - (p2.toInt64))), .second, .val (.int (own_exp ((p4.toInt64) - (p2.toInt64)) ((p1.toInt64) - (p2.toInt64))))] [])) _
    refine XS.iload X9.here hx rfl (hb hby at_120) rfl ?_
    exact kt
  by_cases c1 : own_imp p4 p2 p1 = 0
  · skip
    have prea11 : ∀ t, Steps p.tables e below (T9.setTop (mkF m 138 #[.val (.int p1), .val (.int p2), .val (.int p3), .val (.int p4), .val (.int p5), .val (.int p6), .val (.ref b1), .val (.ref b3), .val (.ref b5), .val (.int (own_imp p4 p2 p1)), .val (.long ((p4.toInt64) - (p2.toInt64))), .second, .val (.long ((p1.toInt64) - (p2.toInt64))), .second, .val (.int (own_exp ((p4.toInt64) - (p2.toInt64)) ((p1.toInt64) - (p2.toInt64))))] [(.int (1 : Int32))])) t → Steps p.tables e below (s₁.setTop (entryFrame m #[(.int p1), (.int p2), (.int p3), (.int p4), (.int p5), (.int p6)] maxLocals)) t := by
      intro t kt
      refine pre10 t ?_
      show Steps p.tables e below (T9.setTop (mkF m 122 #[.val (.int p1), .val (.int p2), .val (.int p3), .val (.int p4), .val (.int p5), .val (.int p6), .val (.ref b1), .val (.ref b3), .val (.ref b5), .val (.int (own_imp p4 p2 p1)), .val (.long ((p4.toInt64) - (p2.toInt64))), .second, .val (.long ((p1.toInt64) - (p2.toInt64))), .second, .val (.int (own_exp ((p4.toInt64) - (p2.toInt64)) ((p1.toInt64) - (p2.toInt64))))] [(.int (own_imp p4 p2 p1))])) _
      refine XS.ifYes X9.here hx rfl (pc0 := 122) (pc' := 137) rfl (hb hby at_122) rfl ((if0 _ _).trans (teq c1).1) (by decide) (by decide) ?_
      show Steps p.tables e below (T9.setTop (mkF m 137 #[.val (.int p1), .val (.int p2), .val (.int p3), .val (.int p4), .val (.int p5), .val (.int p6), .val (.ref b1), .val (.ref b3), .val (.ref b5), .val (.int (own_imp p4 p2 p1)), .val (.long ((p4.toInt64) - (p2.toInt64))), .second, .val (.long ((p1.toInt64) - (p2.toInt64))), .second, .val (.int (own_exp ((p4.toInt64) - (p2.toInt64)) ((p1.toInt64) - (p2.toInt64))))] [])) _
      refine XS.iconst X9.here hx rfl (hb hby at_137) ?_
      exact kt
    obtain ⟨fs, hr, hrun, hended, hW, hsame⟩ := X9.leave (v := some (.int (1 : Int32))) (fun h => by rw [Bd.returns] at h; cases h)
    refine ⟨_, _, prea11 _ ?_, hrun, hended, _, _, rfl, ?_, ⟨_, rfl⟩, hW, hsame.mono (by decide) (by decide)⟩
    · exact retN X9 hx (t := .boolean) Bd.returns (by simp) (hb hby at_138) hr
    · show Q0 Z p1 p2 p3 p4 p5 p6 h0 n0 _ T9.heap _
      exact ⟨rfl, N9⟩
  · skip
    obtain ⟨cqb11, kqb11, qb11a, qb11b, qb11c⟩ := isOf hZ rfl (by rw [h9, h8, h7]; exact E6_b1)
    obtain ⟨_, _, ⟨Tb11, Lb11, kb11, nb11⟩, -, Xb11, ⟨Lcb11, hQb11, lb11, yb11, zb11⟩, stb11⟩ := X9.virtualBack hx (y := (⟨"com/example/quillwarp/quillwarp/xslt/Rank", "isAbove", "(Lcom/example/quillwarp/quillwarp/xslt/Rank;)Z"⟩ : MethodName)) (z := (⟨"com/example/quillwarp/quillwarp/xslt/Rank", "isAbove", "(Lcom/example/quillwarp/quillwarp/xslt/Rank;)Z"⟩ : MethodName)) hown (mvT hZ (hw _ (List.mem_of_getElem? (i := 25) rfl))) (mvT hZ (hw _ (List.mem_of_getElem? (i := 26) rfl))) (notFace_of_selects (args := #[]) (mvT hZ (hw _ (List.mem_of_getElem? (i := 28) rfl)))) (mvT hZ (hw _ (List.mem_of_getElem? (i := 28) rfl))) (mvT hZ (hw _ (List.mem_of_getElem? (i := 27) rfl))) (by decide) (backOf (W := 0) (rm5 l Z a0 hw [] b1 b3 p1 p4 T9.heap n0 zz9 (by rw [h9, h8, h7]; exact P6_b1) (by rw [h9, h8, h7]; exact P6_b3)) hZ (hw _ (List.mem_of_getElem? (i := 29) rfl)) (hw _ (List.mem_of_getElem? (i := 2) rfl)) (by decide) (by decide)) qb11a qb11c (g := (mkF m 129 #[.val (.int p1), .val (.int p2), .val (.int p3), .val (.int p4), .val (.int p5), .val (.int p6), .val (.ref b1), .val (.ref b3), .val (.ref b5), .val (.int (own_imp p4 p2 p1)), .val (.long ((p4.toInt64) - (p2.toInt64))), .second, .val (.long ((p1.toInt64) - (p2.toInt64))), .second, .val (.int (own_exp ((p4.toInt64) - (p2.toInt64)) ((p1.toInt64) - (p2.toInt64))))] [(.ref b3), (.ref b1)])) rfl (by rw [hml]; rfl) (Steps.refl _) (argsL := [(.ref b3)]) (rest := []) (lenOf pd_2 rfl) rfl (by show 2 * 0 + _ ≤ _; exact Nat.le_of_eq rfl) (hb hby at_129) (fun _ _ => ⟨rfl, rfl, (by decide : 3 + 0 ≤ _), (by decide : 12 + 0 ≤ _)⟩)
    dsimp only [Pt.U, Pt.locs, Pt.cells, Pt.slots] at Xb11 lb11 yb11 zb11 stb11 hQb11
    subst lb11 yb11 zb11
    obtain ⟨rfl, Nb11q, hb11⟩ := hQb11
    have Nb11 := Fr.app N9 Nb11q
    have preb12 : ∀ t, Steps p.tables e below (Tb11.setTop (mkF m 138 #[.val (.int p1), .val (.int p2), .val (.int p3), .val (.int p4), .val (.int p5), .val (.int p6), .val (.ref b1), .val (.ref b3), .val (.ref b5), .val (.int (own_imp p4 p2 p1)), .val (.long ((p4.toInt64) - (p2.toInt64))), .second, .val (.long ((p1.toInt64) - (p2.toInt64))), .second, .val (.int (own_exp ((p4.toInt64) - (p2.toInt64)) ((p1.toInt64) - (p2.toInt64))))] [(.int (1 : Int32))])) t → Steps p.tables e below (s₁.setTop (entryFrame m #[(.int p1), (.int p2), (.int p3), (.int p4), (.int p5), (.int p6)] maxLocals)) t := by
      intro t kt
      refine pre10 t ?_
      show Steps p.tables e below (T9.setTop (mkF m 122 #[.val (.int p1), .val (.int p2), .val (.int p3), .val (.int p4), .val (.int p5), .val (.int p6), .val (.ref b1), .val (.ref b3), .val (.ref b5), .val (.int (own_imp p4 p2 p1)), .val (.long ((p4.toInt64) - (p2.toInt64))), .second, .val (.long ((p1.toInt64) - (p2.toInt64))), .second, .val (.int (own_exp ((p4.toInt64) - (p2.toInt64)) ((p1.toInt64) - (p2.toInt64))))] [(.int (own_imp p4 p2 p1))])) _
      refine XS.ifNo X9.here hx rfl (hb hby at_122) rfl ((if0 _ _).trans (feq c1).1) ?_
      show Steps p.tables e below (T9.setTop (mkF m 125 #[.val (.int p1), .val (.int p2), .val (.int p3), .val (.int p4), .val (.int p5), .val (.int p6), .val (.ref b1), .val (.ref b3), .val (.ref b5), .val (.int (own_imp p4 p2 p1)), .val (.long ((p4.toInt64) - (p2.toInt64))), .second, .val (.long ((p1.toInt64) - (p2.toInt64))), .second, .val (.int (own_exp ((p4.toInt64) - (p2.toInt64)) ((p1.toInt64) - (p2.toInt64))))] [])) _
      refine XS.aload X9.here hx rfl (hb hby at_125) rfl rfl ?_
      show Steps p.tables e below (T9.setTop (mkF m 127 #[.val (.int p1), .val (.int p2), .val (.int p3), .val (.int p4), .val (.int p5), .val (.int p6), .val (.ref b1), .val (.ref b3), .val (.ref b5), .val (.int (own_imp p4 p2 p1)), .val (.long ((p4.toInt64) - (p2.toInt64))), .second, .val (.long ((p1.toInt64) - (p2.toInt64))), .second, .val (.int (own_exp ((p4.toInt64) - (p2.toInt64)) ((p1.toInt64) - (p2.toInt64))))] [(.ref b1)])) _
      refine XS.aload X9.here hx rfl (hb hby at_127) rfl rfl ?_
      show Steps p.tables e below (T9.setTop (mkF m 129 #[.val (.int p1), .val (.int p2), .val (.int p3), .val (.int p4), .val (.int p5), .val (.int p6), .val (.ref b1), .val (.ref b3), .val (.ref b5), .val (.int (own_imp p4 p2 p1)), .val (.long ((p4.toInt64) - (p2.toInt64))), .second, .val (.long ((p1.toInt64) - (p2.toInt64))), .second, .val (.int (own_exp ((p4.toInt64) - (p2.toInt64)) ((p1.toInt64) - (p2.toInt64))))] [(.ref b3), (.ref b1)])) _
      refine stb11.trans ?_
      show Steps p.tables e below (Tb11.setTop (mkF m 132 #[.val (.int p1), .val (.int p2), .val (.int p3), .val (.int p4), .val (.int p5), .val (.int p6), .val (.ref b1), .val (.ref b3), .val (.ref b5), .val (.int (own_imp p4 p2 p1)), .val (.long ((p4.toInt64) - (p2.toInt64))), .second, .val (.long ((p1.toInt64) - (p2.toInt64))), .second, .val (.int (own_exp ((p4.toInt64) - (p2.toInt64)) ((p1.toInt64) - (p2.toInt64))))] [(.int (own_abv p1 p4))])) _
      refine XS.ifYes Xb11.here hx rfl (pc0 := 132) (pc' := 137) rfl (hb hby at_132) rfl ((if0 _ _).trans (feq (by rw [own_one c1]; decide)).2) (by decide) (by decide) ?_
      show Steps p.tables e below (Tb11.setTop (mkF m 137 #[.val (.int p1), .val (.int p2), .val (.int p3), .val (.int p4), .val (.int p5), .val (.int p6), .val (.ref b1), .val (.ref b3), .val (.ref b5), .val (.int (own_imp p4 p2 p1)), .val (.long ((p4.toInt64) - (p2.toInt64))), .second, .val (.long ((p1.toInt64) - (p2.toInt64))), .second, .val (.int (own_exp ((p4.toInt64) - (p2.toInt64)) ((p1.toInt64) - (p2.toInt64))))] [])) _
      refine XS.iconst Xb11.here hx rfl (hb hby at_137) ?_
      exact kt
    obtain ⟨fs, hr, hrun, hended, hW, hsame⟩ := Xb11.leave (v := some (.int (1 : Int32))) (fun h => by rw [Bd.returns] at h; cases h)
    refine ⟨_, _, preb12 _ ?_, hrun, hended, _, _, rfl, ?_, ⟨_, rfl⟩, hW, hsame.mono (by decide) (by decide)⟩
    · exact retN Xb11 hx (t := .boolean) Bd.returns (by simp) (hb hby at_138) hr
    · show Q0 Z p1 p2 p3 p4 p5 p6 h0 n0 _ Tb11.heap _
      exact ⟨rfl, Nb11⟩
set_option maxRecDepth 65536 in
set_option maxHeartbeats 40000000 in
theorem comes_1 {Post : Tables → Env → Array Value → State → Outcome → State → Prop} (hpost : ∀ tb e args s v u, (limb_1_1.after args s (.returned v) u = true ∧ limb_1_2.after args s (.returned v) u = true ∧ True) → FrameEnd s (.returned v) u (Jvm.fieldLocs frame_1_writes args s ++ Jvm.arrayLocs frame_1_arrays args s ++ Jvm.staticLocs frame_1_statics s) 16 128 → Post tb e args s (.returned v) u) :
    ArmFor flags0 classFile x code maxLocals ret World_1 tables_1 room_1 Calls_1 rest_1 Pre_1 Post := by
  intro l hfl _ _ p e ha hc hk s m args below hf hA hF happ hP
  obtain ⟨hcalls, hrest, hpre⟩ := hP
  obtain ⟨-, -, -, hnamed, -, -, -, hat⟩ := (Spec.applies_iff hf).mp happ
  obtain ⟨hg, hn⟩ := and_e (Cond.before_iff.mp (show (Jvm.Cond.and given_1 narrow_1).before args s = true from hpre))
  obtain ⟨gc, r0⟩ := and_e hg
  obtain ⟨g0, r1⟩ := and_e r0
  obtain ⟨g1, r2⟩ := and_e r1
  obtain ⟨g2, r3⟩ := and_e r2
  obtain ⟨g3, r4⟩ := and_e r3
  obtain ⟨g4, r5⟩ := and_e r4
  obtain ⟨w0, w1, w2, w3, w4, w5, rfl⟩ : ∃ w0 w1 w2 w3 w4 w5 : Value, args = #[w0, w1, w2, w3, w4, w5] := by
    have hs : args.size = 6 := by simpa [Cond.value, given_1] using gc
    obtain ⟨L⟩ := args
    match L, hs with
    | [w0, w1, w2, w3, w4, w5], _ => exact ⟨w0, w1, w2, w3, w4, w5, rfl⟩
  have hw := fun d (hd : d ∈ tables_1) => atoms_spec (ws := Jvm.Cond.code x code maxLocals ret :: tables_1) hat d (List.mem_cons_of_mem _ hd)
  obtain ⟨i0, ei0⟩ := is_v g0
  obtain rfl : w0 = (.int i0) := Option.some.inj ei0
  obtain ⟨i1, ei1⟩ := is_v g1
  obtain rfl : w1 = (.int i1) := Option.some.inj ei1
  obtain ⟨i2, ei2⟩ := is_v g2
  obtain rfl : w2 = (.int i2) := Option.some.inj ei2
  obtain ⟨i3, ei3⟩ := is_v g3
  obtain rfl : w3 = (.int i3) := Option.some.inj ei3
  obtain ⟨i4, ei4⟩ := is_v g4
  obtain rfl : w4 = (.int i4) := Option.some.inj ei4
  obtain ⟨i5, ei5⟩ := is_v r5
  obtain rfl : w5 = (.int i5) := Option.some.inj ei5
  obtain ⟨n, o, h1, h2, h3, _, L, rfl, ⟨rfl, N⟩, hq⟩ := rm0 l s _ hw tables_1 i0 i1 i2 i3 i4 i5 s.heap s.heap.size (Nat.le_refl _) p e ha hc hk s m _ below hf ((Spec.applies_iff_loose hf).mp happ).1 ⟨rfl, State.Warmed39.refl s, rfl⟩ trivial
  refine ⟨n, _, h1, h2, h3, hpost _ _ _ _ _ _ ⟨Cond.after_iff.mpr rfl, Cond.after_iff.mpr (eq_i res_at (Term.int_eval (1)) rfl), trivial⟩ ⟨hq.1, hq.2.1, (hq.2.2.sift fun y hy => Or.inr (N y hy)).mono (by decide) (by decide)⟩⟩
theorem main_1_1 : Claimed_1_1 := comes_1 fun _ _ _ _ _ _ h hF => ⟨h.1, hF⟩
theorem main_1_2 : Claimed_1_2 := comes_1 fun _ _ _ _ _ _ h hF => ⟨h.2.1, hF⟩
end Jvm.Pilot.@@N@@
namespace Jvm.Pilot.@@N@@
open Jvm Jvm.ClassFile Sem Op Lib Jvm.Free Jvm.Stand Jvm.Pilot.@@N@@.Jvm.D
/-! MADE BY PROGRAM (witnessworld.py) out of the Statement's table words and the real class files: 7 classes; the members and pool entries that the words name. The judged class is class 1, her method 1. -/
namespace start1
open Jvm.ClassFile
def u (s : String) : CpInfo := .utf8 (stringToUtf16 s)
/-- a pool by its gaps: so many unusable entries, then the entry; so many at the end -/
def gap : Nat → List CpInfo → List CpInfo
  | 0, r => r
  | n + 1, r => .unusable :: gap n r
def poolList (es : List (Nat × CpInfo)) (last : Nat) : List CpInfo := es.foldr (fun e r => gap e.1 (e.2 :: r)) (gap last [])
def pool (es : List (Nat × CpInfo)) (last : Nat) : Array CpInfo := ⟨poolList es last⟩
def fileOf (pool : Array CpInfo) (this : Nat) (attrs : Array Attribute := #[]) (ms : Array MethodInfo := #[]) (fl : Nat := 33) (sup : Nat := 0) (ifs : Array Nat := #[]) (fds : Array FieldInfo := #[]) : ClassFile where
  minorVersion := 0
  majorVersion := 65
  constantPool := pool
  accessFlags := fl
  thisClass := this
  superClass := sup
  interfaces := ifs
  fields := fds
  methods := ms
  attributes := attrs
def plain (name : String) (sup : Option ClassId) : Class where
  name := name
  kind := .ordinary
  loader := none
  accessFlags := 33
  super := sup
  interfaces := #[]
  cf := none
  fields := #[]
  methods := #[]
  instanceTypes := #[]
  staticTypes := #[]
  resolved := #[]
  callSites := []
  init := .initialized
  statics := none
  mirror := none

def pool0 : Array CpInfo := pool [(5, u "<init>"), (0, u "()V"), (1, .class_ 10), (1, u "java/lang/Object")] 113

def k0c0 : Code := { maxStack := 0, maxLocals := 1, code := object_method_1_code, exceptionTable := #[], attributes := #[] }
def k0m0 : Method := { name := "<init>", desc := "()V", sig := { parameters := [], returnType := none }, accessFlags := 1, code := some k0c0 }
/-- java/lang/Object -/
def k0 : Class := { plain "java/lang/Object" none with
  accessFlags := 33
  interfaces := #[]
  cf := some (fileOf pool0 8 #[] #[{ accessFlags := 1, nameIndex := 5, descriptorIndex := 6, attributes := #[] }] 33 0 #[] #[])
  fields := #[]
  methods := #[k0m0]
  instanceTypes := #[]
  staticTypes := #[]
  resolved := Array.replicate 124 none
  statics := none }

def pool1 : Array CpInfo := pool [(2, .class_ 4), (1, u "java/lang/Object"), (0, u "<init>"), (0, u "()V"), (0, .class_ 8), (0, u "com/example/quillwarp/quillwarp/xslt/Rank"), (0, .methodref 7 10), (0, .nameAndType 5 11), (0, u "(III)V"), (0, .methodref 7 13), (0, .nameAndType 14 15), (0, u "imports"), (0, u "(Lcom/example/quillwarp/quillwarp/xslt/Rank;)Z"), (0, .methodref 7 17), (0, .nameAndType 18 15), (0, u "isAbove"), (0, .class_ 20), (0, u "com/example/quillwarp/quillwarp/xslt/RankImportsPinLaw"), (2, u "law"), (0, u "(IIIIII)Z")] 3

def k1m0 : Method := { name := "<init>", desc := "()V", sig := { parameters := [], returnType := none }, accessFlags := 2, code := none }
def k1c1 : Code := { maxStack := 5, maxLocals := 15, code := code, exceptionTable := #[], attributes := #[] }
def k1m1 : Method := { name := "law", desc := "(IIIIII)Z", sig := { parameters := [.int, .int, .int, .int, .int, .int], returnType := some .boolean }, accessFlags := 9, code := some k1c1 }
/-- com/example/quillwarp/quillwarp/xslt/RankImportsPinLaw -/
def k1 : Class := { plain "com/example/quillwarp/quillwarp/xslt/RankImportsPinLaw" (some 0) with
  accessFlags := 49
  interfaces := #[]
  cf := some (fileOf pool1 19 #[] #[{ accessFlags := 2, nameIndex := 5, descriptorIndex := 6, attributes := #[] }, { accessFlags := 9, nameIndex := 23, descriptorIndex := 24, attributes := #[] }] 49 2 #[] #[])
  fields := #[]
  methods := #[k1m0, k1m1]
  instanceTypes := #[]
  staticTypes := #[]
  resolved := Array.replicate 28 none
  statics := none }

def pool2 : Array CpInfo := pool [(1, .methodref 2 3), (0, .class_ 4), (0, .nameAndType 5 6), (0, u "com/example/quillwarp/quillwarp/xslt/Rank"), (0, u "<init>"), (0, u "(IILjava/math/BigDecimal;I)V"), (0, .methodref 8 9), (0, .class_ 10), (0, .nameAndType 5 11), (0, u "java/lang/Object"), (0, u "()V"), (0, .fieldref 2 13), (0, .nameAndType 14 15), (0, u "precedence"), (0, u "I"), (0, .fieldref 2 17), (0, .nameAndType 18 15), (0, u "lowestImported"), (0, .fieldref 2 20), (0, .nameAndType 21 22), (0, u "priority"), (0, u "Ljava/math/BigDecimal;"), (0, .fieldref 2 24), (0, .nameAndType 25 15), (0, u "order"), (12, u "NO_PRIORITY"), (0, .class_ 40), (0, u "com/example/quillwarp/quillwarp/xslt/Rank$Precedence"), (3, u "PRECEDENCE"), (0, u "Ljava/util/Comparator;"), (5, u "(III)V"), (4, u "isAbove"), (0, u "(Lcom/example/quillwarp/quillwarp/xslt/Rank;)Z"), (3, u "imports")] 6

def k2c0 : Code := { maxStack := 5, maxLocals := 4, code := prog_271_method_1_code, exceptionTable := #[], attributes := #[] }
def k2m0 : Method := { name := "<init>", desc := "(III)V", sig := { parameters := [.int, .int, .int], returnType := none }, accessFlags := 0, code := some k2c0 }
def k2c1 : Code := { maxStack := 2, maxLocals := 5, code := prog_271_method_2_code, exceptionTable := #[], attributes := #[] }
def k2m1 : Method := { name := "<init>", desc := "(IILjava/math/BigDecimal;I)V", sig := { parameters := [.int, .int, (.object "java/math/BigDecimal"), .int], returnType := none }, accessFlags := 2, code := some k2c1 }
def k2c2 : Code := { maxStack := 2, maxLocals := 2, code := prog_271_method_5_code, exceptionTable := #[], attributes := #[] }
def k2m2 : Method := { name := "isAbove", desc := "(Lcom/example/quillwarp/quillwarp/xslt/Rank;)Z", sig := { parameters := [(.object "com/example/quillwarp/quillwarp/xslt/Rank")], returnType := some .boolean }, accessFlags := 0, code := some k2c2 }
def k2c3 : Code := { maxStack := 2, maxLocals := 2, code := prog_271_method_8_code, exceptionTable := #[], attributes := #[] }
def k2m3 : Method := { name := "imports", desc := "(Lcom/example/quillwarp/quillwarp/xslt/Rank;)Z", sig := { parameters := [(.object "com/example/quillwarp/quillwarp/xslt/Rank")], returnType := some .boolean }, accessFlags := 0, code := some k2c3 }
/-- com/example/quillwarp/quillwarp/xslt/Rank -/
def k2 : Class := { plain "com/example/quillwarp/quillwarp/xslt/Rank" (some 0) with
  accessFlags := 48
  interfaces := #[]
  cf := some (fileOf pool2 2 #[.nestMembers #[39]] #[{ accessFlags := 0, nameIndex := 5, descriptorIndex := 51, attributes := #[] }, { accessFlags := 2, nameIndex := 5, descriptorIndex := 6, attributes := #[] }, { accessFlags := 0, nameIndex := 56, descriptorIndex := 57, attributes := #[] }, { accessFlags := 0, nameIndex := 61, descriptorIndex := 57, attributes := #[] }] 48 8 #[] #[{ accessFlags := 24, nameIndex := 44, descriptorIndex := 45, attributes := #[] }, { accessFlags := 26, nameIndex := 38, descriptorIndex := 22, attributes := #[] }, { accessFlags := 18, nameIndex := 14, descriptorIndex := 15, attributes := #[] }, { accessFlags := 18, nameIndex := 18, descriptorIndex := 15, attributes := #[] }, { accessFlags := 18, nameIndex := 21, descriptorIndex := 22, attributes := #[] }, { accessFlags := 18, nameIndex := 25, descriptorIndex := 15, attributes := #[] }])
  fields := #[{ name := "PRECEDENCE", type := (.object "java/util/Comparator"), accessFlags := 24, slot := 0, constantValue := 0 }, { name := "NO_PRIORITY", type := (.object "java/math/BigDecimal"), accessFlags := 26, slot := 1, constantValue := 0 }, { name := "precedence", type := .int, accessFlags := 18, slot := 0, constantValue := 0 }, { name := "lowestImported", type := .int, accessFlags := 18, slot := 1, constantValue := 0 }, { name := "priority", type := (.object "java/math/BigDecimal"), accessFlags := 18, slot := 2, constantValue := 0 }, { name := "order", type := .int, accessFlags := 18, slot := 3, constantValue := 0 }]
  methods := #[k2m0, k2m1, k2m2, k2m3]
  instanceTypes := #[.int, .int, (.object "java/math/BigDecimal"), .int]
  staticTypes := #[(.object "java/util/Comparator"), (.object "java/math/BigDecimal")]
  resolved := Array.replicate 68 none
  statics := none }

def pool3 : Array CpInfo := pool [(1, u "java/lang/Cloneable"), (0, .class_ 1), (0, u "java/lang/Object"), (0, .class_ 3)] 3

/-- java/lang/Cloneable -/
def k3 : Class := { plain "java/lang/Cloneable" (some 0) with
  accessFlags := 1537
  interfaces := #[]
  cf := some (fileOf pool3 2 #[] #[] 1537 4 #[] #[])
  fields := #[]
  methods := #[]
  instanceTypes := #[]
  staticTypes := #[]
  resolved := Array.replicate 8 none
  statics := none }

def pool4 : Array CpInfo := pool [(1, u "java/io/Serializable"), (0, .class_ 1), (0, u "java/lang/Object"), (0, .class_ 3)] 3

/-- java/io/Serializable -/
def k4 : Class := { plain "java/io/Serializable" (some 0) with
  accessFlags := 1537
  interfaces := #[]
  cf := some (fileOf pool4 2 #[] #[] 1537 4 #[] #[])
  fields := #[]
  methods := #[]
  instanceTypes := #[]
  staticTypes := #[]
  resolved := Array.replicate 8 none
  statics := none }

/-- the primitive byte -/
def k5 : Class := { plain "byte" none with kind := .primitive 'B', accessFlags := 0x411 }
/-- [B -/
def k6 : Class := { plain "[B" (some 0) with kind := .array 5 .byte, interfaces := #[3, 4], accessFlags := 1041 }

def heap : Heap := #[]
def classes : Array Class := #[k0, k1, k2, k3, k4, k5, k6]
def interned : List (Array UInt16 × Addr) := []
def slotsUsed : Nat := 0
def theMethod : MethodId := ⟨1, 1⟩
def args0 : Array Value := #[.int 5, .int 1, .int 1, .int 3, .int 1, .int 1]
def aboutOver (below : List Frame) : State where
  vm := { classes := classes, interned := interned.toArray }
  heap := heap
  slotsUsed := slotsUsed
  threads := #[{ frames := .invoking theMethod args0 :: below }]
def below0 : List Frame := [.native { method := ⟨0, 0⟩, args := #[] }]
def about1 : State := aboutOver below0
def p0 : Program := .bare "" "" ""
def e0 : Env := launch0.env 0 0 0
theorem w_frames : about1.frames = Frame.invoking theMethod args0 :: below0 := rfl
set_option maxRecDepth 65536 in
theorem w_args : argsFit about1.vm theMethod args0 = true := by decide +kernel
set_option maxRecDepth 65536 in
theorem w_heap : heapFits about1 = true := by decide +kernel
set_option maxRecDepth 65536 in
theorem w_runnable : about1.curStatus? = some .runnable := by decide +kernel
set_option maxRecDepth 65536 in
theorem w_alone : about1.alone = true := by decide +kernel
set_option maxRecDepth 65536 in
theorem w_named : about1.methodNamed? x = some theMethod := by decide +kernel
set_option maxRecDepth 65536 in
theorem w_hears : about1.hears theMethod below0 = true := by decide +kernel
set_option maxRecDepth 65536 in
theorem w_ripe : about1.ripe theMethod args0 below0 = true := by decide +kernel
theorem w_running : about1.status = .running := rfl
set_option maxRecDepth 65536 in
theorem w_room : about1.hasRoom e0.platform room_1 = true :=
  launch0.hasRoom_least _ room_1 (by decide +kernel) (by decide +kernel) (by decide +kernel) (by decide +kernel) (by decide +kernel) (by decide +kernel)
theorem allAtoms_all (ts : List Jvm.Cond) (a : Array Jvm.Value) (st : Jvm.State) : (allAtoms ts).before a st = ts.all (fun c => c.before a st) := by
  induction ts with
  | nil => rfl
  | cons c t ih =>
    show (Jvm.Cond.and c (allAtoms t)).before a st = _
    rw [Jvm.Cond.before_and, ih, List.all_cons]
def words1 : List Jvm.Cond := Jvm.Cond.code x code maxLocals ret :: tables_1
/-- a 'code' word, met by the world's own term for the bytes: nothing is compared byte by byte -/
theorem code_word {y : MethodName} {bytes : ByteArray} {mx : Nat} {rt : Option FieldType} {a : Array Value} {s : State} {m : MethodId} {meth : Method} {c : Code} (h1 : s.methodNamed? y = some m) (h2 : s.vm.method? m = some meth) (h3 : meth.code = some c) (h4 : c.code = bytes)
    (h5 : (c.maxLocals == mx && c.exceptionTable.isEmpty && decide (c.maxStack ≤ mostOperands) && decide (meth.sig.returnType = rt) && !meth.locks && decide (parseMethodDescriptor y.desc = some meth.sig)) = true) : (Jvm.Cond.code y bytes mx rt).before a s = true := by
  simp only [Bool.and_eq_true, beq_iff_eq, Bool.not_eq_true', decide_eq_true_eq] at h5
  obtain ⟨⟨⟨⟨⟨g1, g2⟩, g3⟩, g4⟩, g5⟩, g6⟩ := h5
  simp [Cond.before, Cond.holds, Cond.value, h1, h2, h3, h4, g1, g2, g3, g4, g5, g6]
def isCode : Jvm.Cond → Bool
  | .code _ _ _ _ => true
  | _ => false
theorem all_split {L : List Jvm.Cond} {P : Jvm.Cond → Bool} (h1 : L.all (fun c => isCode c || P c) = true) (h2 : ∀ c ∈ L.filter isCode, P c = true) : L.all P = true := by
  refine List.all_eq_true.mpr fun c hc => ?_
  have h := List.all_eq_true.mp h1 c hc
  rcases Bool.eq_false_or_eq_true (isCode c) with hi | hi
  · exact h2 c (List.mem_filter.mpr ⟨hc, hi⟩)
  · simpa [hi] using h
set_option maxRecDepth 65536 in
theorem w_c0 : (Jvm.Cond.code x code maxLocals ret).before args0 about1 = true := code_word (m := ⟨1, 1⟩) (meth := k1m1) (c := k1c1) (by decide +kernel) rfl rfl rfl (by decide +kernel)
set_option maxRecDepth 65536 in
theorem w_c1 : (Jvm.Cond.code ({ cls := "com/example/quillwarp/quillwarp/xslt/Rank", name := "<init>", desc := "(III)V" } : Jvm.MethodName) prog_271_method_1_code (4 : Nat) (Option.none : Option Jvm.ClassFile.FieldType)).before args0 about1 = true := code_word (m := ⟨2, 0⟩) (meth := k2m0) (c := k2c0) (by decide +kernel) rfl rfl rfl (by decide +kernel)
set_option maxRecDepth 65536 in
theorem w_c2 : (Jvm.Cond.code ({ cls := "com/example/quillwarp/quillwarp/xslt/Rank", name := "<init>", desc := "(IILjava/math/BigDecimal;I)V" } : Jvm.MethodName) prog_271_method_2_code (5 : Nat) (Option.none : Option Jvm.ClassFile.FieldType)).before args0 about1 = true := code_word (m := ⟨2, 1⟩) (meth := k2m1) (c := k2c1) (by decide +kernel) rfl rfl rfl (by decide +kernel)
set_option maxRecDepth 65536 in
theorem w_c3 : (Jvm.Cond.code ({ cls := "java/lang/Object", name := "<init>", desc := "()V" } : Jvm.MethodName) object_method_1_code (1 : Nat) (Option.none : Option Jvm.ClassFile.FieldType)).before args0 about1 = true := code_word (m := ⟨0, 0⟩) (meth := k0m0) (c := k0c0) (by decide +kernel) rfl rfl rfl (by decide +kernel)
set_option maxRecDepth 65536 in
theorem w_c4 : (Jvm.Cond.code ({ cls := "com/example/quillwarp/quillwarp/xslt/Rank", name := "imports", desc := "(Lcom/example/quillwarp/quillwarp/xslt/Rank;)Z" } : Jvm.MethodName) prog_271_method_8_code (2 : Nat) (Option.some Jvm.ClassFile.FieldType.boolean)).before args0 about1 = true := code_word (m := ⟨2, 3⟩) (meth := k2m3) (c := k2c3) (by decide +kernel) rfl rfl rfl (by decide +kernel)
set_option maxRecDepth 65536 in
theorem w_c5 : (Jvm.Cond.code ({ cls := "com/example/quillwarp/quillwarp/xslt/Rank", name := "isAbove", desc := "(Lcom/example/quillwarp/quillwarp/xslt/Rank;)Z" } : Jvm.MethodName) prog_271_method_5_code (2 : Nat) (Option.some Jvm.ClassFile.FieldType.boolean)).before args0 about1 = true := code_word (m := ⟨2, 2⟩) (meth := k2m2) (c := k2c2) (by decide +kernel) rfl rfl rfl (by decide +kernel)
def codes1 : List Jvm.Cond := [Jvm.Cond.code x code maxLocals ret, Jvm.Cond.code ({ cls := "com/example/quillwarp/quillwarp/xslt/Rank", name := "<init>", desc := "(III)V" } : Jvm.MethodName) prog_271_method_1_code (4 : Nat) (Option.none : Option Jvm.ClassFile.FieldType), Jvm.Cond.code ({ cls := "com/example/quillwarp/quillwarp/xslt/Rank", name := "<init>", desc := "(IILjava/math/BigDecimal;I)V" } : Jvm.MethodName) prog_271_method_2_code (5 : Nat) (Option.none : Option Jvm.ClassFile.FieldType), Jvm.Cond.code ({ cls := "java/lang/Object", name := "<init>", desc := "()V" } : Jvm.MethodName) object_method_1_code (1 : Nat) (Option.none : Option Jvm.ClassFile.FieldType), Jvm.Cond.code ({ cls := "com/example/quillwarp/quillwarp/xslt/Rank", name := "imports", desc := "(Lcom/example/quillwarp/quillwarp/xslt/Rank;)Z" } : Jvm.MethodName) prog_271_method_8_code (2 : Nat) (Option.some Jvm.ClassFile.FieldType.boolean), Jvm.Cond.code ({ cls := "com/example/quillwarp/quillwarp/xslt/Rank", name := "isAbove", desc := "(Lcom/example/quillwarp/quillwarp/xslt/Rank;)Z" } : Jvm.MethodName) prog_271_method_5_code (2 : Nat) (Option.some Jvm.ClassFile.FieldType.boolean)]
set_option maxRecDepth 65536 in
theorem codes_eq : words1.filter isCode = codes1 := rfl
theorem w_codes : ∀ c ∈ words1.filter isCode, c.before args0 about1 = true := by
  rw [codes_eq]
  intro c hc
  simp only [codes1, List.mem_cons, List.not_mem_nil, or_false] at hc
  rcases hc with rfl | rfl | rfl | rfl | rfl | rfl
  · exact w_c0
  · exact w_c1
  · exact w_c2
  · exact w_c3
  · exact w_c4
  · exact w_c5
set_option maxRecDepth 65536 in
theorem w_t1 : (words1.take 24).all (fun c => isCode c || c.before args0 about1) = true := by decide +kernel
set_option maxRecDepth 65536 in
theorem w_t2 : (words1.drop 24).all (fun c => isCode c || c.before args0 about1) = true := by decide +kernel
theorem w_tables : (allAtoms (Jvm.Cond.code x code maxLocals ret :: tables_1)).before args0 about1 = true := by
  rw [allAtoms_all]
  show words1.all (fun c => c.before args0 about1) = true
  refine all_split ?_ w_codes
  rw [← List.take_append_drop 24 words1, List.all_append, w_t1, w_t2]
  rfl
set_option maxRecDepth 65536 in
theorem w_case : (Jvm.Cond.and given_1 narrow_1).before args0 about1 = true := by decide +kernel
theorem w_applies : (headSpec (Jvm.Cond.code x code maxLocals ret :: tables_1) room_1).applies x e0.platform about1 = true :=
  (Spec.applies_iff w_frames).mpr ⟨w_running, w_runnable, w_alone, w_named, w_hears, w_ripe, w_room, w_tables⟩
theorem atStart : AtStart classFile x code maxLocals ret World_1 tables_1 room_1 Calls_1 rest_1 Pre_1 launch0 p0 e0 about1 theMethod args0 below0 :=
  ⟨lists_1, trivial, launch0.admits_env _ _ _, launch0.least_env, fairChoices_fair.cas, fairChoices_fair.clock, w_frames, w_args, w_heap, w_applies, trivial, trivial, w_case⟩
end start1
theorem witness_1 : WitnessClaimed_1 := ⟨start1.p0, start1.e0, start1.about1, start1.theMethod, start1.args0, start1.below0, start1.atStart⟩
end Jvm.Pilot.@@N@@
