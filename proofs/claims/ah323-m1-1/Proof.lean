import JvmDerived
import JvmDerived.Pilot.@@N@@Statement
import JvmDerived.Pilot.@@N@@Code
set_option linter.unusedVariables false
set_option linter.unusedSimpArgs false
namespace Jvm.RoadKit
open Sem ClassFile Op Lib Jvm.Stand Jvm.Free Jvm.LawKit
section New
variable {p : Program} {l : Launch} {e : Env} {R : Room} {s : State} {m : MethodId} {args : Array Value} {below : List Frame} {meth : Method} {c : Code} {T : State} {locs : List Loc} {cells slots : Nat}
theorem retI (X : Stand p l e R s m args below meth c T locs cells slots) (hx : p.tables.exec = Jvm.exec) {pc : Nat} {Ls : Array Slot} {z : Int32} {rest : List Value} (hret : meth.sig.returnType = some .int) (hd : decode c.code pc = .ok (.ireturn, 1)) {fs : List Frame}
    (hl : ∀ (f : JFrame) (acts : List Action), f.method = m → f.locked = none → f.entered = [] → (doReturn e (T.setTop f) acts (some (.int z))).1 = T.setFrames fs) : Steps p.tables e below (T.setTop (mkF m pc Ls (.int z :: rest))) (T.setFrames fs) := by
  have hm' : T.vm.method? m = some meth := X.method'
  have hn : narrow .int (.int z) = .int z := rfl
  show Steps p.tables e below (T.setTop { method := m, pc := pc, locals := Ls, stack := _ :: rest, locked := none }) _
  jvm_step X.here [X.here.top, hx, hd, hm', hret, hn]
  first | (intro acts; rw [hl _ acts rfl rfl rfl]) | rw [hl _ _ rfl rfl rfl]
  exact Steps.refl _
end New
end Jvm.RoadKit
namespace Jvm.Pilot.@@N@@
open Jvm Jvm.ClassFile Sem Op Lib Jvm.Free Jvm.Stand Jvm.LawKit Jvm.RoadKit Bundle Jvm.Pilot.@@N@@.Jvm.D
theorem d2_0 : decode jdk_30_method_1_code 0 = .ok (.aload_n 0, 1) := by decide +kernel
theorem d2_1 : decode jdk_30_method_1_code 1 = .ok (.invokespecial 1, 3) := by decide +kernel
theorem d2_4 : decode jdk_30_method_1_code 4 = .ok (.return_, 1) := by decide +kernel
theorem pn_java_lang_Record : plainName "java/lang/Record" = true := by first | (simp [plainName, overriddenIn]; done) | decide +kernel
theorem ef_2 (m : MethodId) (x0 : Addr) : entryFrame m #[(.ref x0)] 1 = mkF m 0 #[.val (.ref x0)] [] := by first | (simp [entryFrame, mkF, argsToLocals, Value.category]; done) | rfl
def Q2 (h0 : Heap) (n0 : Nat) (v : Option Value) (h : Heap) (L : List Loc) : Prop := v = none ∧ Fr n0 L ∧ h = h0
set_option maxRecDepth 65536 in
set_option maxHeartbeats 40000000 in
theorem rm2 (l : Launch) (Z : State) (a0 : Array Value) (hw : ∀ d ∈ tables_1, d.before a0 Z = true) (ws : List Jvm.Cond) (a1 : Addr) (h0 : Heap) (n0 : Nat) (Z0 : n0 ≤ h0.size)   :
    MetFree l (⟨"java/lang/Record", "<init>", "()V"⟩ : MethodName) (head1 (Jvm.Cond.code (⟨"java/lang/Record", "<init>", "()V"⟩ : MethodName) jdk_30_method_1_code 1 none :: ws) ({ frames := 1, cells := 0, slots := 0, locals := 12 } : Room)) (fun a U => a = #[(.ref a1)] ∧ Z.Warmed39 U.vm ∧ U.heap = h0) (fun _ _ _ _ _ => True) (fun _ U o U' => ∃ v L, o = .returned v ∧ Q2 h0 n0 v U'.heap L ∧ FrameEnd U o U' L ({ frames := 1, cells := 0, slots := 0, locals := 12 } : Room).cells ({ frames := 1, cells := 0, slots := 0, locals := 12 } : Room).slots) := by
  refine MetFree.of_bodySF (plainFor_of_name pn_java_lang_Record) hisR ?_
  intro p e s m args below meth cd s₁ Bd hml0 hPre hKc
  obtain ⟨rfl, hZ, hHp⟩ := hPre
  have hx := Bd.exec
  have hby := Bd.bytes
  have hml : cd.maxLocals = 1 := hml0
  have hown : s.vm.findClass "java/lang/Record" = some m.cls := findClass_of_methodNamed Bd.named
  have hnm := (name_of_methodNamed Bd.named Bd.method).1
  have X0 : Stand p l e ({ frames := 1, cells := 0, slots := 0, locals := 12 } : Room) s m #[(.ref a1)] below meth cd s₁ [] 0 0 := Stand.of_body Bd
  have e0 : s₁.heap = h0 := by rw [← hHp, Bd.state]; rfl
  have N0 := Fr.nil n0
  have pre0 : ∀ t, Steps p.tables e below (s₁.setTop (mkF m 0 #[.val (.ref a1)] [])) t → Steps p.tables e below (s₁.setTop (entryFrame m #[(.ref a1)] 1)) t := fun t k => castTop (ef_2 m a1) k
  obtain ⟨T1, X1, e1, st1⟩ := initO X0 hx hZ hown (hw _ (List.mem_of_getElem? (i := 20) rfl)) (hw _ (List.mem_of_getElem? (i := 21) rfl)) (hw _ (List.mem_of_getElem? (i := 22) rfl)) e0 (g := (mkF m 1 #[.val (.ref a1)] [(.ref a1)])) rfl (by rw [hml]; rfl) rfl (hb hby d2_1) (by decide) (W := 0) (by show 2 * 0 + _ ≤ _; exact Nat.le_of_eq rfl) (by decide)
  obtain ⟨fs, hr, hrun, hended, hW, hsame⟩ := X1.leave (v := none) (fun _ => rfl)
  refine ⟨_, _, pre0 _ ?_, hrun, hended, _, _, rfl, ?_, ⟨_, rfl⟩, hW, hsame.mono (by decide) (by decide)⟩
  · show Steps p.tables e below (s₁.setTop (mkF m 0 #[.val (.ref a1)] [])) _
    refine XS.aloadN X0.here hx rfl (hb hby d2_0) rfl rfl ?_
    show Steps p.tables e below (s₁.setTop (mkF m 1 #[.val (.ref a1)] [(.ref a1)])) _
    refine st1 _ ?_
    show Steps p.tables e below (T1.setTop (mkF m 4 #[.val (.ref a1)] [])) _
    exact X1.returnOut hx Bd.returns (hb hby d2_4) hr
  · show Q2 h0 n0 _ T1.heap _
    rw [e1]
    exact ⟨rfl, N0, rfl⟩
theorem d1_0 : decode prog_22_method_1_code 0 = .ok (.aload_n 0, 1) := by decide +kernel
theorem d1_1 : decode prog_22_method_1_code 1 = .ok (.invokespecial 3, 3) := by decide +kernel
theorem d1_4 : decode prog_22_method_1_code 4 = .ok (.aload_n 0, 1) := by decide +kernel
theorem d1_5 : decode prog_22_method_1_code 5 = .ok (.aload_n 1, 1) := by decide +kernel
theorem d1_6 : decode prog_22_method_1_code 6 = .ok (.putfield 9, 3) := by decide +kernel
theorem d1_9 : decode prog_22_method_1_code 9 = .ok (.aload_n 0, 1) := by decide +kernel
theorem d1_10 : decode prog_22_method_1_code 10 = .ok (.iload_n 2, 1) := by decide +kernel
theorem d1_11 : decode prog_22_method_1_code 11 = .ok (.putfield 15, 3) := by decide +kernel
theorem d1_14 : decode prog_22_method_1_code 14 = .ok (.aload_n 0, 1) := by decide +kernel
theorem d1_15 : decode prog_22_method_1_code 15 = .ok (.aload_n 3, 1) := by decide +kernel
theorem d1_16 : decode prog_22_method_1_code 16 = .ok (.putfield 19, 3) := by decide +kernel
theorem d1_19 : decode prog_22_method_1_code 19 = .ok (.aload_n 0, 1) := by decide +kernel
theorem d1_20 : decode prog_22_method_1_code 20 = .ok (.aload 4, 2) := by decide +kernel
theorem d1_22 : decode prog_22_method_1_code 22 = .ok (.putfield 22, 3) := by decide +kernel
theorem d1_25 : decode prog_22_method_1_code 25 = .ok (.aload_n 0, 1) := by decide +kernel
theorem d1_26 : decode prog_22_method_1_code 26 = .ok (.aload 5, 2) := by decide +kernel
theorem d1_28 : decode prog_22_method_1_code 28 = .ok (.putfield 26, 3) := by decide +kernel
theorem d1_31 : decode prog_22_method_1_code 31 = .ok (.return_, 1) := by decide +kernel
theorem pd___V : parseMethodDescriptor "()V" = some ⟨[], none⟩ := by decide +kernel
theorem pn_com_example_transaxle_transaxle_declarative_DeclaredMethods_Declaration : plainName "com/example/transaxle/transaxle/declarative/DeclaredMethods$Declaration" = true := by first | (simp [plainName, overriddenIn]; done) | decide +kernel
theorem ef_1 (m : MethodId) (x0 : Addr) (x1 : Addr) (x2 : Int32) (x3 : Addr) : entryFrame m #[(.ref x0), (.ref x1), (.int x2), (.ref x3), .null, .null] 6 = mkF m 0 #[.val (.ref x0), .val (.ref x1), .val (.int x2), .val (.ref x3), .val .null, .val .null] [] := by first | (simp [entryFrame, mkF, argsToLocals, Value.category]; done) | rfl
def Q1 (Z : State) (a1 : Addr) (p3 : Int32) (h0 : Heap) (n0 : Nat) (v : Option Value) (h : Heap) (L : List Loc) : Prop := v = none ∧ Fr n0 L ∧ Keep h0 h [a1] ∧ Exa Z h a1 "com/example/transaxle/transaxle/declarative/DeclaredMethods$Declaration" ∧ Fld Z h a1 "com/example/transaxle/transaxle/declarative/DeclaredMethods$Declaration" "modifiers" "I" (.int p3)
set_option maxRecDepth 65536 in
set_option maxHeartbeats 40000000 in
theorem rm1 (l : Launch) (Z : State) (a0 : Array Value) (hw : ∀ d ∈ tables_1, d.before a0 Z = true) (ws : List Jvm.Cond) (a1 a2 : Addr) (p3 : Int32) (a4 : Addr) (u_owner : Value) (u_modifiers : Value) (u_name : Value) (u_parameterTypes : Value) (u_annotationTypes : Value) (h0 : Heap) (n0 : Nat) (Z0 : n0 ≤ h0.size) (E_a1 : Exa Z h0 a1 "com/example/transaxle/transaxle/declarative/DeclaredMethods$Declaration") (g_a1 : n0 ≤ a1) (F_owner : Fld Z h0 a1 "com/example/transaxle/transaxle/declarative/DeclaredMethods$Declaration" "owner" "Ljava/lang/String;" u_owner) (F_modifiers : Fld Z h0 a1 "com/example/transaxle/transaxle/declarative/DeclaredMethods$Declaration" "modifiers" "I" u_modifiers) (F_name : Fld Z h0 a1 "com/example/transaxle/transaxle/declarative/DeclaredMethods$Declaration" "name" "Ljava/lang/String;" u_name) (F_parameterTypes : Fld Z h0 a1 "com/example/transaxle/transaxle/declarative/DeclaredMethods$Declaration" "parameterTypes" "Ljava/util/List;" u_parameterTypes) (F_annotationTypes : Fld Z h0 a1 "com/example/transaxle/transaxle/declarative/DeclaredMethods$Declaration" "annotationTypes" "Ljava/util/Set;" u_annotationTypes)  :
    MetFree l (⟨"com/example/transaxle/transaxle/declarative/DeclaredMethods$Declaration", "<init>", "(Ljava/lang/String;ILjava/lang/String;Ljava/util/List;Ljava/util/Set;)V"⟩ : MethodName) (head1 (Jvm.Cond.code (⟨"com/example/transaxle/transaxle/declarative/DeclaredMethods$Declaration", "<init>", "(Ljava/lang/String;ILjava/lang/String;Ljava/util/List;Ljava/util/Set;)V"⟩ : MethodName) prog_22_method_1_code 6 none :: ws) ({ frames := 2, cells := 0, slots := 0, locals := 24 } : Room)) (fun a U => a = #[(.ref a1), (.ref a2), (.int p3), (.ref a4), .null, .null] ∧ Z.Warmed39 U.vm ∧ U.heap = h0) (fun _ _ _ _ _ => True) (fun _ U o U' => ∃ v L, o = .returned v ∧ Q1 Z a1 p3 h0 n0 v U'.heap L ∧ FrameEnd U o U' L ({ frames := 2, cells := 0, slots := 0, locals := 24 } : Room).cells ({ frames := 2, cells := 0, slots := 0, locals := 24 } : Room).slots) := by
  refine MetFree.of_bodySF (plainFor_of_name pn_com_example_transaxle_transaxle_declarative_DeclaredMethods_Declaration) hisR ?_
  intro p e s m args below meth cd s₁ Bd hml0 hPre hKc
  obtain ⟨rfl, hZ, hHp⟩ := hPre
  have hx := Bd.exec
  have hby := Bd.bytes
  have hml : cd.maxLocals = 6 := hml0
  have hown : s.vm.findClass "com/example/transaxle/transaxle/declarative/DeclaredMethods$Declaration" = some m.cls := findClass_of_methodNamed Bd.named
  have hnm := (name_of_methodNamed Bd.named Bd.method).1
  have X0 : Stand p l e ({ frames := 2, cells := 0, slots := 0, locals := 24 } : Room) s m #[(.ref a1), (.ref a2), (.int p3), (.ref a4), .null, .null] below meth cd s₁ [] 0 0 := Stand.of_body Bd
  have e0 : s₁.heap = h0 := by rw [← hHp, Bd.state]; rfl
  have N0 := Fr.nil n0
  have pre0 : ∀ t, Steps p.tables e below (s₁.setTop (mkF m 0 #[.val (.ref a1), .val (.ref a2), .val (.int p3), .val (.ref a4), .val .null, .val .null] [])) t → Steps p.tables e below (s₁.setTop (entryFrame m #[(.ref a1), (.ref a2), (.int p3), (.ref a4), .null, .null] 6)) t := fun t k => castTop (ef_1 m a1 a2 p3 a4) k
  obtain ⟨_, _, ⟨T1, L1, k1, n1⟩, -, X1, ⟨Lc1, hQ1, l1, y1, z1⟩, st1⟩ := X0.specialBack hx (y := (⟨"java/lang/Record", "<init>", "()V"⟩ : MethodName)) rfl hown (mvT hZ (hw _ (List.mem_of_getElem? (i := 15) rfl))) (mvT hZ (hw _ (List.mem_of_getElem? (i := 16) rfl))) (mvT hZ (hw _ (List.mem_of_getElem? (i := 19) rfl))) (by decide) (backOf (W := 0) (rm2 l Z a0 hw [] a1 h0 n0 Z0) hZ (hw _ (List.mem_of_getElem? (i := 19) rfl)) (hw _ (List.mem_of_getElem? (i := 18) rfl)) (by decide) (by decide)) (g := (mkF m 1 #[.val (.ref a1), .val (.ref a2), .val (.int p3), .val (.ref a4), .val .null, .val .null] [(.ref a1)])) rfl (by rw [hml]; rfl) (Steps.refl _) (a := a1) (argsL := []) (rest := []) (lenOf pd___V rfl) rfl (by show 2 * 0 + _ ≤ _; exact Nat.le_of_eq rfl) (hb hby d1_1) (fun _ _ => ⟨rfl, e0, (Nat.le_of_ble_eq_true rfl), (Nat.le_of_ble_eq_true rfl)⟩)
  dsimp only [Pt.U, Pt.locs, Pt.cells, Pt.slots] at X1 l1 y1 z1 st1 hQ1
  subst l1 y1 z1
  obtain ⟨rfl, N1q, e1⟩ := hQ1
  have N1 := Fr.app N0 N1q
  obtain ⟨T2, h2, X2, e2, W2, st2⟩ := putF X1 hx hZ hown (host := "") (Or.inl (hw _ (List.mem_of_getElem? (i := 23) rfl))) Via.refl e1 F_owner E_a1 (Or.inr ⟨(hw _ (List.mem_of_getElem? (i := 24) rfl)), rfl, hnm⟩) (hw _ (List.mem_of_getElem? (i := 1) rfl)) (ty := (.object "java/lang/String")) (by decide) rfl rfl (g := (mkF m 6 #[.val (.ref a1), .val (.ref a2), .val (.int p3), .val (.ref a4), .val .null, .val .null] [(.ref a2), (.ref a1)])) rfl rfl (hb hby d1_6)
  have f3_E_a1 := E_a1.wr W2
  have f4_F_a1_modifiers := F_modifiers.other W2 (Or.inr (slot_ne (Or.inr (hw _ (List.mem_of_getElem? (i := 26) rfl))) (Or.inr (hw _ (List.mem_of_getElem? (i := 24) rfl))) (by decide) (t := .int) (t' := (.object "java/lang/String")) (by decide) (by decide)))
  have f5_F_a1_name := F_name.other W2 (Or.inr (slot_ne (Or.inr (hw _ (List.mem_of_getElem? (i := 28) rfl))) (Or.inr (hw _ (List.mem_of_getElem? (i := 24) rfl))) (by decide) (t := (.object "java/lang/String")) (t' := (.object "java/lang/String")) (by decide) (by decide)))
  have f6_F_a1_parameterTypes := F_parameterTypes.other W2 (Or.inr (slot_ne (Or.inr (hw _ (List.mem_of_getElem? (i := 30) rfl))) (Or.inr (hw _ (List.mem_of_getElem? (i := 24) rfl))) (by decide) (t := (.object "java/util/List")) (t' := (.object "java/lang/String")) (by decide) (by decide)))
  have f7_F_a1_annotationTypes := F_annotationTypes.other W2 (Or.inr (slot_ne (Or.inr (hw _ (List.mem_of_getElem? (i := 32) rfl))) (Or.inr (hw _ (List.mem_of_getElem? (i := 24) rfl))) (by decide) (t := (.object "java/util/Set")) (t' := (.object "java/lang/String")) (by decide) (by decide)))
  have fw2 := F_owner.same W2
  have K8 : Keep h0 h2 [a1] := (Keep.refl h0 [a1]).wr W2 (Or.inl (List.mem_of_getElem? (i := 0) rfl))
  have N2 := Fr.snoc X2 N1 g_a1
  have z2 : n0 ≤ h2.size := Nat.le_trans Z0 (Keep.of_wr W2).1
  obtain ⟨T9, h9, X9, e9, W9, st9⟩ := putF X2 hx hZ hown (host := "") (Or.inl (hw _ (List.mem_of_getElem? (i := 25) rfl))) Via.refl e2 f4_F_a1_modifiers f3_E_a1 (Or.inr ⟨(hw _ (List.mem_of_getElem? (i := 26) rfl)), rfl, hnm⟩) (hw _ (List.mem_of_getElem? (i := 1) rfl)) (ty := .int) (by decide) rfl rfl (g := (mkF m 11 #[.val (.ref a1), .val (.ref a2), .val (.int p3), .val (.ref a4), .val .null, .val .null] [(.int p3), (.ref a1)])) rfl rfl (hb hby d1_11)
  have f10_E_a1 := f3_E_a1.wr W9
  have f11_F_a1_owner := fw2.other W9 (Or.inr (slot_ne (Or.inr (hw _ (List.mem_of_getElem? (i := 24) rfl))) (Or.inr (hw _ (List.mem_of_getElem? (i := 26) rfl))) (by decide) (t := (.object "java/lang/String")) (t' := .int) (by decide) (by decide)))
  have f12_F_a1_name := f5_F_a1_name.other W9 (Or.inr (slot_ne (Or.inr (hw _ (List.mem_of_getElem? (i := 28) rfl))) (Or.inr (hw _ (List.mem_of_getElem? (i := 26) rfl))) (by decide) (t := (.object "java/lang/String")) (t' := .int) (by decide) (by decide)))
  have f13_F_a1_parameterTypes := f6_F_a1_parameterTypes.other W9 (Or.inr (slot_ne (Or.inr (hw _ (List.mem_of_getElem? (i := 30) rfl))) (Or.inr (hw _ (List.mem_of_getElem? (i := 26) rfl))) (by decide) (t := (.object "java/util/List")) (t' := .int) (by decide) (by decide)))
  have f14_F_a1_annotationTypes := f7_F_a1_annotationTypes.other W9 (Or.inr (slot_ne (Or.inr (hw _ (List.mem_of_getElem? (i := 32) rfl))) (Or.inr (hw _ (List.mem_of_getElem? (i := 26) rfl))) (by decide) (t := (.object "java/util/Set")) (t' := .int) (by decide) (by decide)))
  have fw9 := f4_F_a1_modifiers.same W9
  have K15 : Keep h0 h9 [a1] := K8.wr W9 (Or.inl (List.mem_of_getElem? (i := 0) rfl))
  have N9 := Fr.snoc X9 N2 g_a1
  have z9 : n0 ≤ h9.size := Nat.le_trans z2 (Keep.of_wr W9).1
  obtain ⟨T16, h16, X16, e16, W16, st16⟩ := putF X9 hx hZ hown (host := "") (Or.inl (hw _ (List.mem_of_getElem? (i := 27) rfl))) Via.refl e9 f12_F_a1_name f10_E_a1 (Or.inr ⟨(hw _ (List.mem_of_getElem? (i := 28) rfl)), rfl, hnm⟩) (hw _ (List.mem_of_getElem? (i := 1) rfl)) (ty := (.object "java/lang/String")) (by decide) rfl rfl (g := (mkF m 16 #[.val (.ref a1), .val (.ref a2), .val (.int p3), .val (.ref a4), .val .null, .val .null] [(.ref a4), (.ref a1)])) rfl rfl (hb hby d1_16)
  have f17_E_a1 := f10_E_a1.wr W16
  have f18_F_a1_owner := f11_F_a1_owner.other W16 (Or.inr (slot_ne (Or.inr (hw _ (List.mem_of_getElem? (i := 24) rfl))) (Or.inr (hw _ (List.mem_of_getElem? (i := 28) rfl))) (by decide) (t := (.object "java/lang/String")) (t' := (.object "java/lang/String")) (by decide) (by decide)))
  have f19_F_a1_modifiers := fw9.other W16 (Or.inr (slot_ne (Or.inr (hw _ (List.mem_of_getElem? (i := 26) rfl))) (Or.inr (hw _ (List.mem_of_getElem? (i := 28) rfl))) (by decide) (t := .int) (t' := (.object "java/lang/String")) (by decide) (by decide)))
  have f20_F_a1_parameterTypes := f13_F_a1_parameterTypes.other W16 (Or.inr (slot_ne (Or.inr (hw _ (List.mem_of_getElem? (i := 30) rfl))) (Or.inr (hw _ (List.mem_of_getElem? (i := 28) rfl))) (by decide) (t := (.object "java/util/List")) (t' := (.object "java/lang/String")) (by decide) (by decide)))
  have f21_F_a1_annotationTypes := f14_F_a1_annotationTypes.other W16 (Or.inr (slot_ne (Or.inr (hw _ (List.mem_of_getElem? (i := 32) rfl))) (Or.inr (hw _ (List.mem_of_getElem? (i := 28) rfl))) (by decide) (t := (.object "java/util/Set")) (t' := (.object "java/lang/String")) (by decide) (by decide)))
  have fw16 := f12_F_a1_name.same W16
  have K22 : Keep h0 h16 [a1] := K15.wr W16 (Or.inl (List.mem_of_getElem? (i := 0) rfl))
  have N16 := Fr.snoc X16 N9 g_a1
  have z16 : n0 ≤ h16.size := Nat.le_trans z9 (Keep.of_wr W16).1
  obtain ⟨T23, h23, X23, e23, W23, st23⟩ := putF X16 hx hZ hown (host := "") (Or.inl (hw _ (List.mem_of_getElem? (i := 29) rfl))) Via.refl e16 f20_F_a1_parameterTypes f17_E_a1 (Or.inr ⟨(hw _ (List.mem_of_getElem? (i := 30) rfl)), rfl, hnm⟩) (hw _ (List.mem_of_getElem? (i := 1) rfl)) (ty := (.object "java/util/List")) (by decide) rfl rfl (g := (mkF m 22 #[.val (.ref a1), .val (.ref a2), .val (.int p3), .val (.ref a4), .val .null, .val .null] [.null, (.ref a1)])) rfl rfl (hb hby d1_22)
  have f24_E_a1 := f17_E_a1.wr W23
  have f25_F_a1_owner := f18_F_a1_owner.other W23 (Or.inr (slot_ne (Or.inr (hw _ (List.mem_of_getElem? (i := 24) rfl))) (Or.inr (hw _ (List.mem_of_getElem? (i := 30) rfl))) (by decide) (t := (.object "java/lang/String")) (t' := (.object "java/util/List")) (by decide) (by decide)))
  have f26_F_a1_modifiers := f19_F_a1_modifiers.other W23 (Or.inr (slot_ne (Or.inr (hw _ (List.mem_of_getElem? (i := 26) rfl))) (Or.inr (hw _ (List.mem_of_getElem? (i := 30) rfl))) (by decide) (t := .int) (t' := (.object "java/util/List")) (by decide) (by decide)))
  have f27_F_a1_name := fw16.other W23 (Or.inr (slot_ne (Or.inr (hw _ (List.mem_of_getElem? (i := 28) rfl))) (Or.inr (hw _ (List.mem_of_getElem? (i := 30) rfl))) (by decide) (t := (.object "java/lang/String")) (t' := (.object "java/util/List")) (by decide) (by decide)))
  have f28_F_a1_annotationTypes := f21_F_a1_annotationTypes.other W23 (Or.inr (slot_ne (Or.inr (hw _ (List.mem_of_getElem? (i := 32) rfl))) (Or.inr (hw _ (List.mem_of_getElem? (i := 30) rfl))) (by decide) (t := (.object "java/util/Set")) (t' := (.object "java/util/List")) (by decide) (by decide)))
  have fw23 := f20_F_a1_parameterTypes.same W23
  have K29 : Keep h0 h23 [a1] := K22.wr W23 (Or.inl (List.mem_of_getElem? (i := 0) rfl))
  have N23 := Fr.snoc X23 N16 g_a1
  have z23 : n0 ≤ h23.size := Nat.le_trans z16 (Keep.of_wr W23).1
  obtain ⟨T30, h30, X30, e30, W30, st30⟩ := putF X23 hx hZ hown (host := "") (Or.inl (hw _ (List.mem_of_getElem? (i := 31) rfl))) Via.refl e23 f28_F_a1_annotationTypes f24_E_a1 (Or.inr ⟨(hw _ (List.mem_of_getElem? (i := 32) rfl)), rfl, hnm⟩) (hw _ (List.mem_of_getElem? (i := 1) rfl)) (ty := (.object "java/util/Set")) (by decide) rfl rfl (g := (mkF m 28 #[.val (.ref a1), .val (.ref a2), .val (.int p3), .val (.ref a4), .val .null, .val .null] [.null, (.ref a1)])) rfl rfl (hb hby d1_28)
  have f31_E_a1 := f24_E_a1.wr W30
  have f32_F_a1_owner := f25_F_a1_owner.other W30 (Or.inr (slot_ne (Or.inr (hw _ (List.mem_of_getElem? (i := 24) rfl))) (Or.inr (hw _ (List.mem_of_getElem? (i := 32) rfl))) (by decide) (t := (.object "java/lang/String")) (t' := (.object "java/util/Set")) (by decide) (by decide)))
  have f33_F_a1_modifiers := f26_F_a1_modifiers.other W30 (Or.inr (slot_ne (Or.inr (hw _ (List.mem_of_getElem? (i := 26) rfl))) (Or.inr (hw _ (List.mem_of_getElem? (i := 32) rfl))) (by decide) (t := .int) (t' := (.object "java/util/Set")) (by decide) (by decide)))
  have f34_F_a1_name := f27_F_a1_name.other W30 (Or.inr (slot_ne (Or.inr (hw _ (List.mem_of_getElem? (i := 28) rfl))) (Or.inr (hw _ (List.mem_of_getElem? (i := 32) rfl))) (by decide) (t := (.object "java/lang/String")) (t' := (.object "java/util/Set")) (by decide) (by decide)))
  have f35_F_a1_parameterTypes := fw23.other W30 (Or.inr (slot_ne (Or.inr (hw _ (List.mem_of_getElem? (i := 30) rfl))) (Or.inr (hw _ (List.mem_of_getElem? (i := 32) rfl))) (by decide) (t := (.object "java/util/List")) (t' := (.object "java/util/Set")) (by decide) (by decide)))
  have fw30 := f28_F_a1_annotationTypes.same W30
  have K36 : Keep h0 h30 [a1] := K29.wr W30 (Or.inl (List.mem_of_getElem? (i := 0) rfl))
  have N30 := Fr.snoc X30 N23 g_a1
  have z30 : n0 ≤ h30.size := Nat.le_trans z23 (Keep.of_wr W30).1
  obtain ⟨fs, hr, hrun, hended, hW, hsame⟩ := X30.leave (v := none) (fun _ => rfl)
  refine ⟨_, _, pre0 _ ?_, hrun, hended, _, _, rfl, ?_, ⟨_, rfl⟩, hW, hsame.mono (by decide) (by decide)⟩
  · show Steps p.tables e below (s₁.setTop (mkF m 0 #[.val (.ref a1), .val (.ref a2), .val (.int p3), .val (.ref a4), .val .null, .val .null] [])) _
    refine XS.aloadN X0.here hx rfl (hb hby d1_0) rfl rfl ?_
    show Steps p.tables e below (s₁.setTop (mkF m 1 #[.val (.ref a1), .val (.ref a2), .val (.int p3), .val (.ref a4), .val .null, .val .null] [(.ref a1)])) _
    refine st1.trans ?_
    show Steps p.tables e below (T1.setTop (mkF m 4 #[.val (.ref a1), .val (.ref a2), .val (.int p3), .val (.ref a4), .val .null, .val .null] [])) _
    refine XS.aloadN X1.here hx rfl (hb hby d1_4) rfl rfl ?_
    show Steps p.tables e below (T1.setTop (mkF m 5 #[.val (.ref a1), .val (.ref a2), .val (.int p3), .val (.ref a4), .val .null, .val .null] [(.ref a1)])) _
    refine XS.aloadN X1.here hx rfl (hb hby d1_5) rfl rfl ?_
    show Steps p.tables e below (T1.setTop (mkF m 6 #[.val (.ref a1), .val (.ref a2), .val (.int p3), .val (.ref a4), .val .null, .val .null] [(.ref a2), (.ref a1)])) _
    refine st2 _ ?_
    show Steps p.tables e below (T2.setTop (mkF m 9 #[.val (.ref a1), .val (.ref a2), .val (.int p3), .val (.ref a4), .val .null, .val .null] [])) _
    refine XS.aloadN X2.here hx rfl (hb hby d1_9) rfl rfl ?_
    show Steps p.tables e below (T2.setTop (mkF m 10 #[.val (.ref a1), .val (.ref a2), .val (.int p3), .val (.ref a4), .val .null, .val .null] [(.ref a1)])) _
    refine XS.iloadN X2.here hx rfl (hb hby d1_10) rfl ?_
    show Steps p.tables e below (T2.setTop (mkF m 11 #[.val (.ref a1), .val (.ref a2), .val (.int p3), .val (.ref a4), .val .null, .val .null] [(.int p3), (.ref a1)])) _
    refine st9 _ ?_
    show Steps p.tables e below (T9.setTop (mkF m 14 #[.val (.ref a1), .val (.ref a2), .val (.int p3), .val (.ref a4), .val .null, .val .null] [])) _
    refine XS.aloadN X9.here hx rfl (hb hby d1_14) rfl rfl ?_
    show Steps p.tables e below (T9.setTop (mkF m 15 #[.val (.ref a1), .val (.ref a2), .val (.int p3), .val (.ref a4), .val .null, .val .null] [(.ref a1)])) _
    refine XS.aloadN X9.here hx rfl (hb hby d1_15) rfl rfl ?_
    show Steps p.tables e below (T9.setTop (mkF m 16 #[.val (.ref a1), .val (.ref a2), .val (.int p3), .val (.ref a4), .val .null, .val .null] [(.ref a4), (.ref a1)])) _
    refine st16 _ ?_
    show Steps p.tables e below (T16.setTop (mkF m 19 #[.val (.ref a1), .val (.ref a2), .val (.int p3), .val (.ref a4), .val .null, .val .null] [])) _
    refine XS.aloadN X16.here hx rfl (hb hby d1_19) rfl rfl ?_
    show Steps p.tables e below (T16.setTop (mkF m 20 #[.val (.ref a1), .val (.ref a2), .val (.int p3), .val (.ref a4), .val .null, .val .null] [(.ref a1)])) _
    refine XS.aload X16.here hx rfl (hb hby d1_20) rfl rfl ?_
    show Steps p.tables e below (T16.setTop (mkF m 22 #[.val (.ref a1), .val (.ref a2), .val (.int p3), .val (.ref a4), .val .null, .val .null] [.null, (.ref a1)])) _
    refine st23 _ ?_
    show Steps p.tables e below (T23.setTop (mkF m 25 #[.val (.ref a1), .val (.ref a2), .val (.int p3), .val (.ref a4), .val .null, .val .null] [])) _
    refine XS.aloadN X23.here hx rfl (hb hby d1_25) rfl rfl ?_
    show Steps p.tables e below (T23.setTop (mkF m 26 #[.val (.ref a1), .val (.ref a2), .val (.int p3), .val (.ref a4), .val .null, .val .null] [(.ref a1)])) _
    refine XS.aload X23.here hx rfl (hb hby d1_26) rfl rfl ?_
    show Steps p.tables e below (T23.setTop (mkF m 28 #[.val (.ref a1), .val (.ref a2), .val (.int p3), .val (.ref a4), .val .null, .val .null] [.null, (.ref a1)])) _
    refine st30 _ ?_
    show Steps p.tables e below (T30.setTop (mkF m 31 #[.val (.ref a1), .val (.ref a2), .val (.int p3), .val (.ref a4), .val .null, .val .null] [])) _
    exact X30.returnOut hx Bd.returns (hb hby d1_31) hr
  · show Q1 Z a1 p3 h0 n0 _ T30.heap _
    rw [e30]
    exact ⟨rfl, N30, K36, f31_E_a1, f33_F_a1_modifiers⟩
theorem d4_0 : decode prog_22_method_2_code 0 = .ok (.aload_n 0, 1) := by decide +kernel
theorem d4_1 : decode prog_22_method_2_code 1 = .ok (.getfield 15, 3) := by decide +kernel
theorem d4_4 : decode prog_22_method_2_code 4 = .ok (.bipush 64, 2) := by decide +kernel
theorem d4_6 : decode prog_22_method_2_code 6 = .ok (.iand, 1) := by decide +kernel
theorem d4_7 : decode prog_22_method_2_code 7 = .ok (.ifCond .eq 7, 3) := by decide +kernel
theorem d4_14 : decode prog_22_method_2_code 14 = .ok (.iconst 0, 1) := by decide +kernel
theorem d4_15 : decode prog_22_method_2_code 15 = .ok (.ireturn, 1) := by decide +kernel
theorem ef_4 (m : MethodId) (x0 : Addr) : entryFrame m #[(.ref x0)] 1 = mkF m 0 #[.val (.ref x0)] [] := by first | (simp [entryFrame, mkF, argsToLocals, Value.category]; done) | rfl
def Q4 (r : Int32) (h0 : Heap) (n0 : Nat) (v : Option Value) (h : Heap) (L : List Loc) : Prop := v = some (.int r) ∧ Fr n0 L ∧ h = h0
set_option maxRecDepth 65536 in
set_option maxHeartbeats 40000000 in
theorem rm4t (l : Launch) (Z : State) (a0 : Array Value) (hw : ∀ d ∈ tables_1, d.before a0 Z = true) (ws : List Jvm.Cond) (a1 : Addr) (w2 : Int32) (h0 : Heap) (n0 : Nat) (Z0 : n0 ≤ h0.size) (F_m : Fld Z h0 a1 "com/example/transaxle/transaxle/declarative/DeclaredMethods$Declaration" "modifiers" "I" (.int w2)) (hc7 : (w2 &&& (64 : Int32)) = (0 : Int32)) :
    MetFree l (⟨"com/example/transaxle/transaxle/declarative/DeclaredMethods$Declaration", "isBridge", "()Z"⟩ : MethodName) (head1 (Jvm.Cond.code (⟨"com/example/transaxle/transaxle/declarative/DeclaredMethods$Declaration", "isBridge", "()Z"⟩ : MethodName) prog_22_method_2_code 1 (some .boolean) :: ws) ({ frames := 0, cells := 0, slots := 0, locals := 0 } : Room)) (fun a U => a = #[(.ref a1)] ∧ Z.Warmed39 U.vm ∧ U.heap = h0) (fun _ _ _ _ _ => True) (fun _ U o U' => ∃ v L, o = .returned v ∧ Q4 0 h0 n0 v U'.heap L ∧ FrameEnd U o U' L ({ frames := 0, cells := 0, slots := 0, locals := 0 } : Room).cells ({ frames := 0, cells := 0, slots := 0, locals := 0 } : Room).slots) := by
  refine MetFree.of_bodySF (plainFor_of_name pn_com_example_transaxle_transaxle_declarative_DeclaredMethods_Declaration) hisR ?_
  intro p e s m args below meth cd s₁ Bd hml0 hPre hKc
  obtain ⟨rfl, hZ, hHp⟩ := hPre
  have hx := Bd.exec
  have hby := Bd.bytes
  have hml : cd.maxLocals = 1 := hml0
  have hown : s.vm.findClass "com/example/transaxle/transaxle/declarative/DeclaredMethods$Declaration" = some m.cls := findClass_of_methodNamed Bd.named
  have hnm := (name_of_methodNamed Bd.named Bd.method).1
  have X0 : Stand p l e ({ frames := 0, cells := 0, slots := 0, locals := 0 } : Room) s m #[(.ref a1)] below meth cd s₁ [] 0 0 := Stand.of_body Bd
  have e0 : s₁.heap = h0 := by rw [← hHp, Bd.state]; rfl
  have N0 := Fr.nil n0
  have pre0 : ∀ t, Steps p.tables e below (s₁.setTop (mkF m 0 #[.val (.ref a1)] [])) t → Steps p.tables e below (s₁.setTop (entryFrame m #[(.ref a1)] 1)) t := fun t k => castTop (ef_4 m a1) k
  obtain ⟨T1, X1, e1, st1⟩ := getF X0 hx hZ hown (host := "") (Or.inl (hw _ (List.mem_of_getElem? (i := 25) rfl))) Via.refl e0 F_m (g := (mkF m 1 #[.val (.ref a1)] [(.ref a1)])) rfl rfl (hb hby d4_1)
  obtain ⟨fs, hr, hrun, hended, hW, hsame⟩ := X1.leave (v := some (.int (0 : Int32))) (fun h => by rw [Bd.returns] at h; cases h)
  refine ⟨_, _, pre0 _ ?_, hrun, hended, _, _, rfl, ?_, ⟨_, rfl⟩, hW, hsame.mono (by decide) (by decide)⟩
  · show Steps p.tables e below (s₁.setTop (mkF m 0 #[.val (.ref a1)] [])) _
    refine XS.aloadN X0.here hx rfl (hb hby d4_0) rfl rfl ?_
    show Steps p.tables e below (s₁.setTop (mkF m 1 #[.val (.ref a1)] [(.ref a1)])) _
    refine st1 _ ?_
    show Steps p.tables e below (T1.setTop (mkF m 4 #[.val (.ref a1)] [(.int w2)])) _
    refine XS.bipush X1.here hx rfl (hb hby d4_4) ?_
    show Steps p.tables e below (T1.setTop (mkF m 6 #[.val (.ref a1)] [(.int (64 : Int32)), (.int w2)])) _
    refine XS.iand X1.here hx rfl (hb hby d4_6) rfl ?_
    show Steps p.tables e below (T1.setTop (mkF m 7 #[.val (.ref a1)] [(.int (w2 &&& (64 : Int32)))])) _
    refine XS.ifYes X1.here hx rfl (pc0 := 7) (pc' := 14) rfl (hb hby d4_7) rfl ((if0 _ _).trans (teq hc7).1) (by decide) (by decide) ?_
    show Steps p.tables e below (T1.setTop (mkF m 14 #[.val (.ref a1)] [])) _
    refine XS.iconst X1.here hx rfl (hb hby d4_14) ?_
    show Steps p.tables e below (T1.setTop (mkF m 15 #[.val (.ref a1)] [(.int (0 : Int32))])) _
    exact retN X1 hx (t := .boolean) Bd.returns (by simp) (hb hby d4_15) hr
  · show Q4 0 h0 n0 _ T1.heap _
    rw [e1]
    exact ⟨rfl, N0, rfl⟩
theorem d4_10 : decode prog_22_method_2_code 10 = .ok (.iconst 1, 1) := by decide +kernel
theorem d4_11 : decode prog_22_method_2_code 11 = .ok (.goto 4, 3) := by decide +kernel
set_option maxRecDepth 65536 in
set_option maxHeartbeats 40000000 in
theorem rm4f (l : Launch) (Z : State) (a0 : Array Value) (hw : ∀ d ∈ tables_1, d.before a0 Z = true) (ws : List Jvm.Cond) (a1 : Addr) (w2 : Int32) (h0 : Heap) (n0 : Nat) (Z0 : n0 ≤ h0.size) (F_m : Fld Z h0 a1 "com/example/transaxle/transaxle/declarative/DeclaredMethods$Declaration" "modifiers" "I" (.int w2)) (hc7 : ¬ ((w2 &&& (64 : Int32)) = (0 : Int32))) :
    MetFree l (⟨"com/example/transaxle/transaxle/declarative/DeclaredMethods$Declaration", "isBridge", "()Z"⟩ : MethodName) (head1 (Jvm.Cond.code (⟨"com/example/transaxle/transaxle/declarative/DeclaredMethods$Declaration", "isBridge", "()Z"⟩ : MethodName) prog_22_method_2_code 1 (some .boolean) :: ws) ({ frames := 0, cells := 0, slots := 0, locals := 0 } : Room)) (fun a U => a = #[(.ref a1)] ∧ Z.Warmed39 U.vm ∧ U.heap = h0) (fun _ _ _ _ _ => True) (fun _ U o U' => ∃ v L, o = .returned v ∧ Q4 1 h0 n0 v U'.heap L ∧ FrameEnd U o U' L ({ frames := 0, cells := 0, slots := 0, locals := 0 } : Room).cells ({ frames := 0, cells := 0, slots := 0, locals := 0 } : Room).slots) := by
  refine MetFree.of_bodySF (plainFor_of_name pn_com_example_transaxle_transaxle_declarative_DeclaredMethods_Declaration) hisR ?_
  intro p e s m args below meth cd s₁ Bd hml0 hPre hKc
  obtain ⟨rfl, hZ, hHp⟩ := hPre
  have hx := Bd.exec
  have hby := Bd.bytes
  have hml : cd.maxLocals = 1 := hml0
  have hown : s.vm.findClass "com/example/transaxle/transaxle/declarative/DeclaredMethods$Declaration" = some m.cls := findClass_of_methodNamed Bd.named
  have hnm := (name_of_methodNamed Bd.named Bd.method).1
  have X0 : Stand p l e ({ frames := 0, cells := 0, slots := 0, locals := 0 } : Room) s m #[(.ref a1)] below meth cd s₁ [] 0 0 := Stand.of_body Bd
  have e0 : s₁.heap = h0 := by rw [← hHp, Bd.state]; rfl
  have N0 := Fr.nil n0
  have pre0 : ∀ t, Steps p.tables e below (s₁.setTop (mkF m 0 #[.val (.ref a1)] [])) t → Steps p.tables e below (s₁.setTop (entryFrame m #[(.ref a1)] 1)) t := fun t k => castTop (ef_4 m a1) k
  obtain ⟨T1, X1, e1, st1⟩ := getF X0 hx hZ hown (host := "") (Or.inl (hw _ (List.mem_of_getElem? (i := 25) rfl))) Via.refl e0 F_m (g := (mkF m 1 #[.val (.ref a1)] [(.ref a1)])) rfl rfl (hb hby d4_1)
  obtain ⟨fs, hr, hrun, hended, hW, hsame⟩ := X1.leave (v := some (.int (1 : Int32))) (fun h => by rw [Bd.returns] at h; cases h)
  refine ⟨_, _, pre0 _ ?_, hrun, hended, _, _, rfl, ?_, ⟨_, rfl⟩, hW, hsame.mono (by decide) (by decide)⟩
  · show Steps p.tables e below (s₁.setTop (mkF m 0 #[.val (.ref a1)] [])) _
    refine XS.aloadN X0.here hx rfl (hb hby d4_0) rfl rfl ?_
    show Steps p.tables e below (s₁.setTop (mkF m 1 #[.val (.ref a1)] [(.ref a1)])) _
    refine st1 _ ?_
    show Steps p.tables e below (T1.setTop (mkF m 4 #[.val (.ref a1)] [(.int w2)])) _
    refine XS.bipush X1.here hx rfl (hb hby d4_4) ?_
    show Steps p.tables e below (T1.setTop (mkF m 6 #[.val (.ref a1)] [(.int (64 : Int32)), (.int w2)])) _
    refine XS.iand X1.here hx rfl (hb hby d4_6) rfl ?_
    show Steps p.tables e below (T1.setTop (mkF m 7 #[.val (.ref a1)] [(.int (w2 &&& (64 : Int32)))])) _
    refine XS.ifNo X1.here hx rfl (hb hby d4_7) rfl ((if0 _ _).trans (feq hc7).1) ?_
    show Steps p.tables e below (T1.setTop (mkF m 10 #[.val (.ref a1)] [])) _
    refine XS.iconst X1.here hx rfl (hb hby d4_10) ?_
    show Steps p.tables e below (T1.setTop (mkF m 11 #[.val (.ref a1)] [(.int (1 : Int32))])) _
    refine XS.goto X1.here hx rfl (pc0 := 11) (pc' := 15) rfl (hb hby d4_11) (by decide) (by decide) ?_
    show Steps p.tables e below (T1.setTop (mkF m 15 #[.val (.ref a1)] [(.int (1 : Int32))])) _
    exact retN X1 hx (t := .boolean) Bd.returns (by simp) (hb hby d4_15) hr
  · show Q4 1 h0 n0 _ T1.heap _
    rw [e1]
    exact ⟨rfl, N0, rfl⟩
theorem rm4 (l : Launch) (Z : State) (a0 : Array Value) (hw : ∀ d ∈ tables_1, d.before a0 Z = true) (ws : List Jvm.Cond) (a1 : Addr) (w2 : Int32) (h0 : Heap) (n0 : Nat) (Z0 : n0 ≤ h0.size) (F_m : Fld Z h0 a1 "com/example/transaxle/transaxle/declarative/DeclaredMethods$Declaration" "modifiers" "I" (.int w2)) (r : Int32) (hr : (¬ (w2 &&& (64 : Int32)) = 0 ∧ r = 1) ∨ ((w2 &&& (64 : Int32)) = 0 ∧ r = 0)) :
    MetFree l (⟨"com/example/transaxle/transaxle/declarative/DeclaredMethods$Declaration", "isBridge", "()Z"⟩ : MethodName) (head1 (Jvm.Cond.code (⟨"com/example/transaxle/transaxle/declarative/DeclaredMethods$Declaration", "isBridge", "()Z"⟩ : MethodName) prog_22_method_2_code 1 (some .boolean) :: ws) ({ frames := 0, cells := 0, slots := 0, locals := 0 } : Room)) (fun a U => a = #[(.ref a1)] ∧ Z.Warmed39 U.vm ∧ U.heap = h0) (fun _ _ _ _ _ => True) (fun _ U o U' => ∃ v L, o = .returned v ∧ Q4 r h0 n0 v U'.heap L ∧ FrameEnd U o U' L ({ frames := 0, cells := 0, slots := 0, locals := 0 } : Room).cells ({ frames := 0, cells := 0, slots := 0, locals := 0 } : Room).slots) := by
  rcases hr with ⟨h, rfl⟩ | ⟨h, rfl⟩
  · exact rm4f l Z a0 hw ws a1 w2 h0 n0 Z0 F_m h
  · exact rm4t l Z a0 hw ws a1 w2 h0 n0 Z0 F_m h
theorem own_g1 : ∀ i : Fin 32, (1#32).getLsbD i.val = decide (i.val = 0) := by decide
theorem own_bit (b : BitVec 32) (k : Nat) : (b >>> k &&& 1#32) = if b.getLsbD k = true then 1#32 else 0#32 := by
  apply BitVec.eq_of_getLsbD_eq
  intro i hi
  have g : (1#32).getLsbD i = decide (i = 0) := own_g1 ⟨i, hi⟩
  rw [BitVec.getLsbD_and, BitVec.getLsbD_ushiftRight, g]
  by_cases h0 : i = 0
  · subst h0
    rw [Nat.add_zero]
    generalize b.getLsbD k = t
    cases t <;> rfl
  · rw [decide_eq_false h0, Bool.and_false]
    generalize b.getLsbD k = t
    cases t
    · show false = (0#32).getLsbD i
      rw [BitVec.getLsbD_zero]
    · show false = (1#32).getLsbD i
      rw [g, decide_eq_false h0]
theorem own_gK : ∀ i : Fin 32, (64#32).getLsbD i.val = decide (i.val = 6) := by decide
theorem own_andK (b : BitVec 32) : (b &&& 64#32) = if b.getLsbD 6 = true then 64#32 else 0#32 := by
  apply BitVec.eq_of_getLsbD_eq
  intro i hi
  have g : (64#32).getLsbD i = decide (i = 6) := own_gK ⟨i, hi⟩
  rw [BitVec.getLsbD_and, g]
  by_cases h0 : i = 6
  · subst h0
    generalize b.getLsbD 6 = t
    cases t <;> rfl
  · rw [decide_eq_false h0, Bool.and_false]
    generalize b.getLsbD 6 = t
    cases t
    · show false = (0#32).getLsbD i
      rw [BitVec.getLsbD_zero]
    · show false = (64#32).getLsbD i
      rw [g, decide_eq_false h0]
theorem own_bits (p : Int32) : ((p.toUInt32 >>> ((6 : Int32) &&& 31).toUInt32).toInt32 &&& (1 : Int32)) = (1 : Int32) ↔ ¬ (p &&& (64 : Int32)) = (0 : Int32) := by
  rw [← Int32.toBitVec_inj, ← Int32.toBitVec_inj]
  have e1 : ((p.toUInt32 >>> ((6 : Int32) &&& 31).toUInt32).toInt32 &&& (1 : Int32)).toBitVec = (p.toBitVec >>> 6) &&& 1#32 := rfl
  have e2 : (p &&& (64 : Int32)).toBitVec = p.toBitVec &&& 64#32 := rfl
  rw [e1, e2, own_bit, own_andK]
  show (if p.toBitVec.getLsbD 6 = true then 1#32 else 0#32) = 1#32 ↔ ¬ (if p.toBitVec.getLsbD 6 = true then 64#32 else 0#32) = 0#32
  generalize p.toBitVec.getLsbD 6 = t
  cases t
  · exact ⟨fun h => absurd h (by decide), fun h => absurd rfl h⟩
  · exact ⟨fun _ => by decide, fun _ => rfl⟩
theorem own_with (p : Int32) : ¬ ((p ||| (64 : Int32)) &&& (64 : Int32)) = 0 := by
  rw [← Int32.toBitVec_inj]
  show ¬ ((p.toBitVec ||| 64#32) &&& 64#32) = 0#32
  rw [own_andK]
  have h : (p.toBitVec ||| 64#32).getLsbD 6 = true := by
    rw [BitVec.getLsbD_or, show (64#32).getLsbD 6 = true from by decide, Bool.or_true]
  rw [h]; decide
theorem own_without (p : Int32) : ((p &&& (-65 : Int32)) &&& (64 : Int32)) = 0 := by
  rw [Int32.and_assoc, show ((-65 : Int32) &&& (64 : Int32)) = 0 from by decide]
  exact Int32.and_zero
theorem pd__Ljava_lang_String_ILjava_lang_String_Ljava_util_List_Ljava_util_Set__V : parseMethodDescriptor "(Ljava/lang/String;ILjava/lang/String;Ljava/util/List;Ljava/util/Set;)V" = some ⟨[(.object "java/lang/String"), .int, (.object "java/lang/String"), (.object "java/util/List"), (.object "java/util/Set")], none⟩ := by decide +kernel
theorem pd___Z : parseMethodDescriptor "()Z" = some ⟨[], some .boolean⟩ := by decide +kernel
theorem pn_com_example_transaxle_transaxle_declarative_DeclarationIsBridgePinLaw : plainName "com/example/transaxle/transaxle/declarative/DeclarationIsBridgePinLaw" = true := by first | (simp [plainName, overriddenIn]; done) | decide +kernel
theorem ef_0 (m : MethodId) (x0 : Int32) : entryFrame m #[(.int x0)] maxLocals = mkF m 0 #[.val (.int x0), .unset, .unset, .unset, .unset] [] := by first | (simp [entryFrame, mkF, argsToLocals, Value.category, maxLocals]; done) | rfl
def Q0 (n0 : Nat) (v : Option Value) (h : Heap) (L : List Loc) : Prop := v = some (.int (1 : Int32)) ∧ Fr n0 L
set_option maxRecDepth 65536 in
set_option maxHeartbeats 40000000 in
theorem rm0f (l : Launch) (Z : State) (a0 : Array Value) (hw : ∀ d ∈ tables_1, d.before a0 Z = true) (ws : List Jvm.Cond) (p1 : Int32) (h0 : Heap) (n0 : Nat) (Z0 : n0 ≤ h0.size)  (hc58 : (((p1.toUInt32 >>> ((6 : Int32) &&& 31).toUInt32).toInt32) &&& (1 : Int32)) = (1 : Int32)) :
    MetFree l x (head1 (Jvm.Cond.code x code maxLocals ret :: ws) room_1) (fun a U => a = #[(.int p1)] ∧ Z.Warmed39 U.vm ∧ U.heap = h0) (fun _ _ _ _ _ => True) (fun _ U o U' => ∃ v L, o = .returned v ∧ Q0 n0 v U'.heap L ∧ ReturnedEndW U o U' L room_1.cells room_1.slots) := by
  refine MetFree.of_bodySF (plainFor_of_name pn_com_example_transaxle_transaxle_declarative_DeclarationIsBridgePinLaw) hisR ?_
  intro p e s m args below meth cd s₁ Bd hml0 hPre hKc
  obtain ⟨rfl, hZ, hHp⟩ := hPre
  have hx := Bd.exec
  have hby := Bd.bytes
  have hml : cd.maxLocals = 5 := hml0
  have hown : s.vm.findClass "com/example/transaxle/transaxle/declarative/DeclarationIsBridgePinLaw" = some m.cls := findClass_of_methodNamed Bd.named
  have hnm := (name_of_methodNamed Bd.named Bd.method).1
  have X0 : Stand p l e room_1 s m #[(.int p1)] below meth cd s₁ [] 0 0 := Stand.of_body Bd
  have e0 : s₁.heap = h0 := by rw [← hHp, Bd.state]; rfl
  have N0 := Fr.nil n0
  have pre0 : ∀ t, Steps p.tables e below (s₁.setTop (mkF m 0 #[.val (.int p1), .unset, .unset, .unset, .unset] [])) t → Steps p.tables e below (s₁.setTop (entryFrame m #[(.int p1)] maxLocals)) t := fun t k => castTop (ef_0 m p1) k
  have wS : ∀ a ∈ Bundle.stringAtoms, a.before a0 Z = true := by
    intro a ha
    simp only [Bundle.stringAtoms, List.mem_cons, List.not_mem_nil, or_false] at ha
    rcases ha with rfl | rfl | rfl | rfl | rfl | rfl | rfl
    · exact (hw _ (List.mem_of_getElem? (i := 4) rfl))
    · exact (hw _ (List.mem_of_getElem? (i := 5) rfl))
    · exact (hw _ (List.mem_of_getElem? (i := 6) rfl))
    · exact (hw _ (List.mem_of_getElem? (i := 7) rfl))
    · exact (hw _ (List.mem_of_getElem? (i := 8) rfl))
    · exact (hw _ (List.mem_of_getElem? (i := 9) rfl))
    · exact (hw _ (List.mem_of_getElem? (i := 10) rfl))
  have X0' : Stand p l e room_1 (s.setVm s.vm) m #[(.int p1)] below meth cd s₁ [] 0 0 := X0
  have hS0 : s.Since s.vm 0 := (State.WarmedH.refl s).since 0
  obtain ⟨T1, h1, X1, e1, E1, A1, D1, -, st1⟩ := newO X0' hx hZ hown (hw _ (List.mem_of_getElem? (i := 0) rfl)) (hw _ (List.mem_of_getElem? (i := 1) rfl)) (hw _ (List.mem_of_getElem? (i := 2) rfl)) e0 (g := (mkF m 0 #[.val (.int p1), .unset, .unset, .unset, .unset] [])) rfl (hb hby at_0) (Nat.le_of_ble_eq_true rfl) (Nat.le_of_ble_eq_true rfl)
  obtain ⟨o0, g1⟩ : ∃ z, z = h0.size := ⟨_, rfl⟩
  rw [← g1] at A1 D1 st1
  have g_o0 : n0 ≤ o0 := Nat.le_trans Z0 (Nat.le_of_eq g1.symm)
  have z1 : n0 ≤ h1.size := Nat.le_trans Z0 E1.1
  have y1 := Nat.le_trans (Nat.zero_le _) E1.1
  have F_owner_o0 : Fld Z h1 o0 "com/example/transaxle/transaxle/declarative/DeclaredMethods$Declaration" "owner" "Ljava/lang/String;" .null := D1 (Or.inr (hw _ (List.mem_of_getElem? (i := 24) rfl))) (ty := (.object "java/lang/String")) (by decide)
  have F_modifiers_o0 : Fld Z h1 o0 "com/example/transaxle/transaxle/declarative/DeclaredMethods$Declaration" "modifiers" "I" (.int (0 : Int32)) := D1 (Or.inr (hw _ (List.mem_of_getElem? (i := 26) rfl))) (ty := .int) (by decide)
  have F_name_o0 : Fld Z h1 o0 "com/example/transaxle/transaxle/declarative/DeclaredMethods$Declaration" "name" "Ljava/lang/String;" .null := D1 (Or.inr (hw _ (List.mem_of_getElem? (i := 28) rfl))) (ty := (.object "java/lang/String")) (by decide)
  have F_parameterTypes_o0 : Fld Z h1 o0 "com/example/transaxle/transaxle/declarative/DeclaredMethods$Declaration" "parameterTypes" "Ljava/util/List;" .null := D1 (Or.inr (hw _ (List.mem_of_getElem? (i := 30) rfl))) (ty := (.object "java/util/List")) (by decide)
  have F_annotationTypes_o0 : Fld Z h1 o0 "com/example/transaxle/transaxle/declarative/DeclaredMethods$Declaration" "annotationTypes" "Ljava/util/Set;" .null := D1 (Or.inr (hw _ (List.mem_of_getElem? (i := 32) rfl))) (ty := (.object "java/util/Set")) (by decide)
  obtain ⟨a2, T2, h2, k2, X2, e2, E2, hS2, y2, hZ2, hown2, st2⟩ := ldcS X1 hx hZ hown (hw _ (List.mem_of_getElem? (i := 3) rfl)) wS e1 hS0 y1 (g := (mkF m 4 #[.val (.int p1), .unset, .unset, .unset, .unset] [(.ref o0), (.ref o0)])) rfl (hb hby at_4) (n := 4) (by decide) (by decide) (Nat.le_of_ble_eq_true rfl) (Nat.le_of_ble_eq_true rfl)
  have z2 : n0 ≤ h2.size := Nat.le_trans z1 E2.1
  have f3_E_o0 := A1.ext E2
  have f4_F_o0_owner := F_owner_o0.ext E2
  have f5_F_o0_modifiers := F_modifiers_o0.ext E2
  have f6_F_o0_name := F_name_o0.ext E2
  have f7_F_o0_parameterTypes := F_parameterTypes_o0.ext E2
  have f8_F_o0_annotationTypes := F_annotationTypes_o0.ext E2
  obtain ⟨a9, T9, h9, k9, X9, e9, E9, hS9, y9, hZ9, hown9, st9⟩ := ldcS X2 hx hZ2 hown2 (hw _ (List.mem_of_getElem? (i := 11) rfl)) wS e2 hS2 y2 (g := (mkF m 7 #[.val (.int p1), .unset, .unset, .unset, .unset] [(.int p1), (.ref a2), (.ref o0), (.ref o0)])) rfl (hb hby at_7) (n := 4) (by decide) (by decide) (Nat.le_of_ble_eq_true rfl) (Nat.le_of_ble_eq_true rfl)
  have z9 : n0 ≤ h9.size := Nat.le_trans z2 E9.1
  have f10_E_o0 := f3_E_o0.ext E9
  have f11_F_o0_owner := f4_F_o0_owner.ext E9
  have f12_F_o0_modifiers := f5_F_o0_modifiers.ext E9
  have f13_F_o0_name := f6_F_o0_name.ext E9
  have f14_F_o0_parameterTypes := f7_F_o0_parameterTypes.ext E9
  have f15_F_o0_annotationTypes := f8_F_o0_annotationTypes.ext E9
  obtain ⟨_, _, ⟨T16, L16, k16, n16⟩, -, X16, ⟨Lc16, hQ16, l16, y16, z16⟩, st16⟩ := X9.specialBack hx (y := (⟨"com/example/transaxle/transaxle/declarative/DeclaredMethods$Declaration", "<init>", "(Ljava/lang/String;ILjava/lang/String;Ljava/util/List;Ljava/util/Set;)V"⟩ : MethodName)) rfl hown9 (mvT hZ9 (hw _ (List.mem_of_getElem? (i := 12) rfl))) (mvT hZ9 (hw _ (List.mem_of_getElem? (i := 13) rfl))) (mvT hZ9 (hw _ (List.mem_of_getElem? (i := 14) rfl))) (by decide) (backOf (W := 1) (rm1 l Z a0 hw [] o0 a2 p1 a9 _ _ _ _ _ h9 n0 z9 f10_E_o0 g_o0 f11_F_o0_owner f12_F_o0_modifiers f13_F_o0_name f14_F_o0_parameterTypes f15_F_o0_annotationTypes) hZ9 (hw _ (List.mem_of_getElem? (i := 14) rfl)) (hw _ (List.mem_of_getElem? (i := 2) rfl)) (by decide) (by decide)) (g := (mkF m 11 #[.val (.int p1), .unset, .unset, .unset, .unset] [.null, .null, (.ref a9), (.int p1), (.ref a2), (.ref o0), (.ref o0)])) rfl (by rw [hml]; rfl) (Steps.refl _) (a := o0) (argsL := [(.ref a2), (.int p1), (.ref a9), .null, .null]) (rest := [(.ref o0)]) (lenOf pd__Ljava_lang_String_ILjava_lang_String_Ljava_util_List_Ljava_util_Set__V rfl) rfl (by show 2 * 0 + _ ≤ _; exact Nat.le_of_eq rfl) (hb hby at_11) (fun _ _ => ⟨rfl, e9, (Nat.le_of_ble_eq_true rfl), (Nat.le_of_ble_eq_true rfl)⟩)
  dsimp only [Pt.U, Pt.locs, Pt.cells, Pt.slots] at X16 l16 y16 z16 st16 hQ16
  subst l16 y16 z16
  obtain ⟨rfl, N16q, Kc16, -, Fm16⟩ := hQ16
  have N16 := Fr.app N0 N16q
  have f17_E_o0 := f10_E_o0.keep Kc16
  have zz16 : n0 ≤ T16.heap.size := Nat.le_trans z9 Kc16.1
  have yz16 := Nat.le_trans y9 Kc16.1
  obtain ⟨T18, h18, X18, e18, E18, A18, D18, -, st18⟩ := newO X16 hx hZ9 hown9 (hw _ (List.mem_of_getElem? (i := 0) rfl)) (hw _ (List.mem_of_getElem? (i := 1) rfl)) (hw _ (List.mem_of_getElem? (i := 2) rfl)) rfl (g := (mkF m 15 #[.val (.int p1), .val (.ref o0), .unset, .unset, .unset] [])) rfl (hb hby at_15) (Nat.le_of_ble_eq_true rfl) (Nat.le_of_ble_eq_true rfl)
  obtain ⟨o1, g18⟩ : ∃ z, z = T16.heap.size := ⟨_, rfl⟩
  rw [← g18] at A18 D18 st18
  have g_o1 : n0 ≤ o1 := Nat.le_trans zz16 (Nat.le_of_eq g18.symm)
  have ne_o0_o1 : o0 ≠ o1 := Nat.ne_of_lt (Nat.lt_of_lt_of_le f17_E_o0.lt (Nat.le_of_eq g18.symm))
  have z18 : n0 ≤ h18.size := Nat.le_trans zz16 E18.1
  have y18 := Nat.le_trans yz16 E18.1
  have f19_E_o0 := f17_E_o0.ext E18
  have f20_F_o0_modifiers := Fm16.ext E18
  have F_owner_o1 : Fld Z h18 o1 "com/example/transaxle/transaxle/declarative/DeclaredMethods$Declaration" "owner" "Ljava/lang/String;" .null := D18 (Or.inr (hw _ (List.mem_of_getElem? (i := 24) rfl))) (ty := (.object "java/lang/String")) (by decide)
  have F_modifiers_o1 : Fld Z h18 o1 "com/example/transaxle/transaxle/declarative/DeclaredMethods$Declaration" "modifiers" "I" (.int (0 : Int32)) := D18 (Or.inr (hw _ (List.mem_of_getElem? (i := 26) rfl))) (ty := .int) (by decide)
  have F_name_o1 : Fld Z h18 o1 "com/example/transaxle/transaxle/declarative/DeclaredMethods$Declaration" "name" "Ljava/lang/String;" .null := D18 (Or.inr (hw _ (List.mem_of_getElem? (i := 28) rfl))) (ty := (.object "java/lang/String")) (by decide)
  have F_parameterTypes_o1 : Fld Z h18 o1 "com/example/transaxle/transaxle/declarative/DeclaredMethods$Declaration" "parameterTypes" "Ljava/util/List;" .null := D18 (Or.inr (hw _ (List.mem_of_getElem? (i := 30) rfl))) (ty := (.object "java/util/List")) (by decide)
  have F_annotationTypes_o1 : Fld Z h18 o1 "com/example/transaxle/transaxle/declarative/DeclaredMethods$Declaration" "annotationTypes" "Ljava/util/Set;" .null := D18 (Or.inr (hw _ (List.mem_of_getElem? (i := 32) rfl))) (ty := (.object "java/util/Set")) (by decide)
  obtain ⟨a21, T21, h21, k21, X21, e21, E21, hS21, y21, hZ21, hown21, st21⟩ := ldcS X18 hx hZ9 hown9 (hw _ (List.mem_of_getElem? (i := 3) rfl)) wS e18 hS9 y18 (g := (mkF m 19 #[.val (.int p1), .val (.ref o0), .unset, .unset, .unset] [(.ref o1), (.ref o1)])) rfl (hb hby at_19) (n := 4) (by decide) (by decide) (Nat.le_of_ble_eq_true rfl) (Nat.le_of_ble_eq_true rfl)
  have z21 : n0 ≤ h21.size := Nat.le_trans z18 E21.1
  have f22_E_o0 := f19_E_o0.ext E21
  have f23_F_o0_modifiers := f20_F_o0_modifiers.ext E21
  have f24_E_o1 := A18.ext E21
  have f25_F_o1_owner := F_owner_o1.ext E21
  have f26_F_o1_modifiers := F_modifiers_o1.ext E21
  have f27_F_o1_name := F_name_o1.ext E21
  have f28_F_o1_parameterTypes := F_parameterTypes_o1.ext E21
  have f29_F_o1_annotationTypes := F_annotationTypes_o1.ext E21
  obtain ⟨a30, T30, h30, k30, X30, e30, E30, hS30, y30, hZ30, hown30, st30⟩ := ldcS X21 hx hZ21 hown21 (hw _ (List.mem_of_getElem? (i := 11) rfl)) wS e21 hS21 y21 (g := (mkF m 25 #[.val (.int p1), .val (.ref o0), .unset, .unset, .unset] [(.int (p1 ||| (64 : Int32))), (.ref a21), (.ref o1), (.ref o1)])) rfl (hb hby at_25) (n := 4) (by decide) (by decide) (Nat.le_of_ble_eq_true rfl) (Nat.le_of_ble_eq_true rfl)
  have z30 : n0 ≤ h30.size := Nat.le_trans z21 E30.1
  have f31_E_o0 := f22_E_o0.ext E30
  have f32_F_o0_modifiers := f23_F_o0_modifiers.ext E30
  have f33_E_o1 := f24_E_o1.ext E30
  have f34_F_o1_owner := f25_F_o1_owner.ext E30
  have f35_F_o1_modifiers := f26_F_o1_modifiers.ext E30
  have f36_F_o1_name := f27_F_o1_name.ext E30
  have f37_F_o1_parameterTypes := f28_F_o1_parameterTypes.ext E30
  have f38_F_o1_annotationTypes := f29_F_o1_annotationTypes.ext E30
  obtain ⟨_, _, ⟨T39, L39, k39, n39⟩, -, X39, ⟨Lc39, hQ39, l39, y39, z39⟩, st39⟩ := X30.specialBack hx (y := (⟨"com/example/transaxle/transaxle/declarative/DeclaredMethods$Declaration", "<init>", "(Ljava/lang/String;ILjava/lang/String;Ljava/util/List;Ljava/util/Set;)V"⟩ : MethodName)) rfl hown30 (mvT hZ30 (hw _ (List.mem_of_getElem? (i := 12) rfl))) (mvT hZ30 (hw _ (List.mem_of_getElem? (i := 13) rfl))) (mvT hZ30 (hw _ (List.mem_of_getElem? (i := 14) rfl))) (by decide) (backOf (W := 1) (rm1 l Z a0 hw [] o1 a21 (p1 ||| (64 : Int32)) a30 _ _ _ _ _ h30 n0 z30 f33_E_o1 g_o1 f34_F_o1_owner f35_F_o1_modifiers f36_F_o1_name f37_F_o1_parameterTypes f38_F_o1_annotationTypes) hZ30 (hw _ (List.mem_of_getElem? (i := 14) rfl)) (hw _ (List.mem_of_getElem? (i := 2) rfl)) (by decide) (by decide)) (g := (mkF m 29 #[.val (.int p1), .val (.ref o0), .unset, .unset, .unset] [.null, .null, (.ref a30), (.int (p1 ||| (64 : Int32))), (.ref a21), (.ref o1), (.ref o1)])) rfl (by rw [hml]; rfl) (Steps.refl _) (a := o1) (argsL := [(.ref a21), (.int (p1 ||| (64 : Int32))), (.ref a30), .null, .null]) (rest := [(.ref o1)]) (lenOf pd__Ljava_lang_String_ILjava_lang_String_Ljava_util_List_Ljava_util_Set__V rfl) rfl (by show 2 * 0 + _ ≤ _; exact Nat.le_of_eq rfl) (hb hby at_29) (fun _ _ => ⟨rfl, e30, (Nat.le_of_ble_eq_true rfl), (Nat.le_of_ble_eq_true rfl)⟩)
  dsimp only [Pt.U, Pt.locs, Pt.cells, Pt.slots] at X39 l39 y39 z39 st39 hQ39
  subst l39 y39 z39
  obtain ⟨rfl, N39q, Kc39, -, Fm39⟩ := hQ39
  have N39 := Fr.app N16 N39q
  have f40_E_o0 := f31_E_o0.keep Kc39
  have f41_F_o0_modifiers := f32_F_o0_modifiers.keep Kc39 (ninS ne_o0_o1 nin0)
  have f42_E_o1 := f33_E_o1.keep Kc39
  have zz39 : n0 ≤ T39.heap.size := Nat.le_trans z30 Kc39.1
  have yz39 := Nat.le_trans y30 Kc39.1
  obtain ⟨T43, h43, X43, e43, E43, A43, D43, -, st43⟩ := newO X39 hx hZ30 hown30 (hw _ (List.mem_of_getElem? (i := 0) rfl)) (hw _ (List.mem_of_getElem? (i := 1) rfl)) (hw _ (List.mem_of_getElem? (i := 2) rfl)) rfl (g := (mkF m 33 #[.val (.int p1), .val (.ref o0), .val (.ref o1), .unset, .unset] [])) rfl (hb hby at_33) (Nat.le_of_ble_eq_true rfl) (Nat.le_of_ble_eq_true rfl)
  obtain ⟨o2, g43⟩ : ∃ z, z = T39.heap.size := ⟨_, rfl⟩
  rw [← g43] at A43 D43 st43
  have g_o2 : n0 ≤ o2 := Nat.le_trans zz39 (Nat.le_of_eq g43.symm)
  have ne_o0_o2 : o0 ≠ o2 := Nat.ne_of_lt (Nat.lt_of_lt_of_le f40_E_o0.lt (Nat.le_of_eq g43.symm))
  have ne_o1_o2 : o1 ≠ o2 := Nat.ne_of_lt (Nat.lt_of_lt_of_le f42_E_o1.lt (Nat.le_of_eq g43.symm))
  have z43 : n0 ≤ h43.size := Nat.le_trans zz39 E43.1
  have y43 := Nat.le_trans yz39 E43.1
  have f44_E_o0 := f40_E_o0.ext E43
  have f45_F_o0_modifiers := f41_F_o0_modifiers.ext E43
  have f46_E_o1 := f42_E_o1.ext E43
  have f47_F_o1_modifiers := Fm39.ext E43
  have F_owner_o2 : Fld Z h43 o2 "com/example/transaxle/transaxle/declarative/DeclaredMethods$Declaration" "owner" "Ljava/lang/String;" .null := D43 (Or.inr (hw _ (List.mem_of_getElem? (i := 24) rfl))) (ty := (.object "java/lang/String")) (by decide)
  have F_modifiers_o2 : Fld Z h43 o2 "com/example/transaxle/transaxle/declarative/DeclaredMethods$Declaration" "modifiers" "I" (.int (0 : Int32)) := D43 (Or.inr (hw _ (List.mem_of_getElem? (i := 26) rfl))) (ty := .int) (by decide)
  have F_name_o2 : Fld Z h43 o2 "com/example/transaxle/transaxle/declarative/DeclaredMethods$Declaration" "name" "Ljava/lang/String;" .null := D43 (Or.inr (hw _ (List.mem_of_getElem? (i := 28) rfl))) (ty := (.object "java/lang/String")) (by decide)
  have F_parameterTypes_o2 : Fld Z h43 o2 "com/example/transaxle/transaxle/declarative/DeclaredMethods$Declaration" "parameterTypes" "Ljava/util/List;" .null := D43 (Or.inr (hw _ (List.mem_of_getElem? (i := 30) rfl))) (ty := (.object "java/util/List")) (by decide)
  have F_annotationTypes_o2 : Fld Z h43 o2 "com/example/transaxle/transaxle/declarative/DeclaredMethods$Declaration" "annotationTypes" "Ljava/util/Set;" .null := D43 (Or.inr (hw _ (List.mem_of_getElem? (i := 32) rfl))) (ty := (.object "java/util/Set")) (by decide)
  obtain ⟨a48, T48, h48, k48, X48, e48, E48, hS48, y48, hZ48, hown48, st48⟩ := ldcS X43 hx hZ30 hown30 (hw _ (List.mem_of_getElem? (i := 3) rfl)) wS e43 hS30 y43 (g := (mkF m 37 #[.val (.int p1), .val (.ref o0), .val (.ref o1), .unset, .unset] [(.ref o2), (.ref o2)])) rfl (hb hby at_37) (n := 4) (by decide) (by decide) (Nat.le_of_ble_eq_true rfl) (Nat.le_of_ble_eq_true rfl)
  have z48 : n0 ≤ h48.size := Nat.le_trans z43 E48.1
  have f49_E_o0 := f44_E_o0.ext E48
  have f50_F_o0_modifiers := f45_F_o0_modifiers.ext E48
  have f51_E_o1 := f46_E_o1.ext E48
  have f52_F_o1_modifiers := f47_F_o1_modifiers.ext E48
  have f53_E_o2 := A43.ext E48
  have f54_F_o2_owner := F_owner_o2.ext E48
  have f55_F_o2_modifiers := F_modifiers_o2.ext E48
  have f56_F_o2_name := F_name_o2.ext E48
  have f57_F_o2_parameterTypes := F_parameterTypes_o2.ext E48
  have f58_F_o2_annotationTypes := F_annotationTypes_o2.ext E48
  obtain ⟨a59, T59, h59, k59, X59, e59, E59, hS59, y59, hZ59, hown59, st59⟩ := ldcS X48 hx hZ48 hown48 (hw _ (List.mem_of_getElem? (i := 11) rfl)) wS e48 hS48 y48 (g := (mkF m 43 #[.val (.int p1), .val (.ref o0), .val (.ref o1), .unset, .unset] [(.int (p1 &&& (-65 : Int32))), (.ref a48), (.ref o2), (.ref o2)])) rfl (hb hby at_43) (n := 4) (by decide) (by decide) (Nat.le_of_ble_eq_true rfl) (Nat.le_of_ble_eq_true rfl)
  have z59 : n0 ≤ h59.size := Nat.le_trans z48 E59.1
  have f60_E_o0 := f49_E_o0.ext E59
  have f61_F_o0_modifiers := f50_F_o0_modifiers.ext E59
  have f62_E_o1 := f51_E_o1.ext E59
  have f63_F_o1_modifiers := f52_F_o1_modifiers.ext E59
  have f64_E_o2 := f53_E_o2.ext E59
  have f65_F_o2_owner := f54_F_o2_owner.ext E59
  have f66_F_o2_modifiers := f55_F_o2_modifiers.ext E59
  have f67_F_o2_name := f56_F_o2_name.ext E59
  have f68_F_o2_parameterTypes := f57_F_o2_parameterTypes.ext E59
  have f69_F_o2_annotationTypes := f58_F_o2_annotationTypes.ext E59
  obtain ⟨_, _, ⟨T70, L70, k70, n70⟩, -, X70, ⟨Lc70, hQ70, l70, y70, z70⟩, st70⟩ := X59.specialBack hx (y := (⟨"com/example/transaxle/transaxle/declarative/DeclaredMethods$Declaration", "<init>", "(Ljava/lang/String;ILjava/lang/String;Ljava/util/List;Ljava/util/Set;)V"⟩ : MethodName)) rfl hown59 (mvT hZ59 (hw _ (List.mem_of_getElem? (i := 12) rfl))) (mvT hZ59 (hw _ (List.mem_of_getElem? (i := 13) rfl))) (mvT hZ59 (hw _ (List.mem_of_getElem? (i := 14) rfl))) (by decide) (backOf (W := 1) (rm1 l Z a0 hw [] o2 a48 (p1 &&& (-65 : Int32)) a59 _ _ _ _ _ h59 n0 z59 f64_E_o2 g_o2 f65_F_o2_owner f66_F_o2_modifiers f67_F_o2_name f68_F_o2_parameterTypes f69_F_o2_annotationTypes) hZ59 (hw _ (List.mem_of_getElem? (i := 14) rfl)) (hw _ (List.mem_of_getElem? (i := 2) rfl)) (by decide) (by decide)) (g := (mkF m 47 #[.val (.int p1), .val (.ref o0), .val (.ref o1), .unset, .unset] [.null, .null, (.ref a59), (.int (p1 &&& (-65 : Int32))), (.ref a48), (.ref o2), (.ref o2)])) rfl (by rw [hml]; rfl) (Steps.refl _) (a := o2) (argsL := [(.ref a48), (.int (p1 &&& (-65 : Int32))), (.ref a59), .null, .null]) (rest := [(.ref o2)]) (lenOf pd__Ljava_lang_String_ILjava_lang_String_Ljava_util_List_Ljava_util_Set__V rfl) rfl (by show 2 * 0 + _ ≤ _; exact Nat.le_of_eq rfl) (hb hby at_47) (fun _ _ => ⟨rfl, e59, (Nat.le_of_ble_eq_true rfl), (Nat.le_of_ble_eq_true rfl)⟩)
  dsimp only [Pt.U, Pt.locs, Pt.cells, Pt.slots] at X70 l70 y70 z70 st70 hQ70
  subst l70 y70 z70
  obtain ⟨rfl, N70q, Kc70, -, Fm70⟩ := hQ70
  have N70 := Fr.app N39 N70q
  have f71_E_o0 := f60_E_o0.keep Kc70
  have f72_F_o0_modifiers := f61_F_o0_modifiers.keep Kc70 (ninS ne_o0_o2 nin0)
  have f73_E_o1 := f62_E_o1.keep Kc70
  have f74_F_o1_modifiers := f63_F_o1_modifiers.keep Kc70 (ninS ne_o1_o2 nin0)
  have f75_E_o2 := f64_E_o2.keep Kc70
  have zz70 : n0 ≤ T70.heap.size := Nat.le_trans z59 Kc70.1
  have yz70 := Nat.le_trans y59 Kc70.1
  obtain ⟨cq76, kq76, q76a, q76b, q76c⟩ := isOf hZ59 rfl f71_E_o0
  obtain ⟨_, _, ⟨T76, L76, k76, n76⟩, -, X76, ⟨Lc76, hQ76, l76, y76, z76⟩, st76⟩ := X70.virtualBack hx (y := (⟨"com/example/transaxle/transaxle/declarative/DeclaredMethods$Declaration", "isBridge", "()Z"⟩ : MethodName)) (z := (⟨"com/example/transaxle/transaxle/declarative/DeclaredMethods$Declaration", "isBridge", "()Z"⟩ : MethodName)) hown59 (mvT hZ59 (hw _ (List.mem_of_getElem? (i := 33) rfl))) (mvT hZ59 (hw _ (List.mem_of_getElem? (i := 34) rfl))) (notFace_of_selects (args := #[]) (mvT hZ59 (hw _ (List.mem_of_getElem? (i := 36) rfl)))) (mvT hZ59 (hw _ (List.mem_of_getElem? (i := 36) rfl))) (mvT hZ59 (hw _ (List.mem_of_getElem? (i := 35) rfl))) (by decide) (backOf (W := 0) (rm4 l Z a0 hw [] o0 p1 T70.heap n0 zz70 f72_F_o0_modifiers 1 (Or.inl ⟨(own_bits p1).1 hc58, rfl⟩)) hZ59 (hw _ (List.mem_of_getElem? (i := 37) rfl)) (hw _ (List.mem_of_getElem? (i := 2) rfl)) (by decide) (by decide)) q76a q76c (g := (mkF m 69 #[.val (.int p1), .val (.ref o0), .val (.ref o1), .val (.ref o2), .val (.int (1 : Int32))] [(.ref o0)])) rfl (by rw [hml]; rfl) (Steps.refl _) (argsL := []) (rest := []) (lenOf pd___Z rfl) rfl (by show 2 * 0 + _ ≤ _; exact Nat.le_of_eq rfl) (hb hby at_69) (fun _ _ => ⟨rfl, rfl, (Nat.le_of_ble_eq_true rfl), (Nat.le_of_ble_eq_true rfl)⟩)
  dsimp only [Pt.U, Pt.locs, Pt.cells, Pt.slots] at X76 l76 y76 z76 st76 hQ76
  subst l76 y76 z76
  obtain ⟨rfl, N76q, e76⟩ := hQ76
  have N76 := Fr.app N70 N76q
  obtain ⟨cq77, kq77, q77a, q77b, q77c⟩ := isOf hZ59 e76 f73_E_o1
  obtain ⟨_, _, ⟨T77, L77, k77, n77⟩, -, X77, ⟨Lc77, hQ77, l77, y77, z77⟩, st77⟩ := X76.virtualBack hx (y := (⟨"com/example/transaxle/transaxle/declarative/DeclaredMethods$Declaration", "isBridge", "()Z"⟩ : MethodName)) (z := (⟨"com/example/transaxle/transaxle/declarative/DeclaredMethods$Declaration", "isBridge", "()Z"⟩ : MethodName)) hown59 (mvT hZ59 (hw _ (List.mem_of_getElem? (i := 33) rfl))) (mvT hZ59 (hw _ (List.mem_of_getElem? (i := 34) rfl))) (notFace_of_selects (args := #[]) (mvT hZ59 (hw _ (List.mem_of_getElem? (i := 36) rfl)))) (mvT hZ59 (hw _ (List.mem_of_getElem? (i := 36) rfl))) (mvT hZ59 (hw _ (List.mem_of_getElem? (i := 35) rfl))) (by decide) (backOf (W := 0) (rm4 l Z a0 hw [] o1 (p1 ||| (64 : Int32)) T70.heap n0 zz70 f74_F_o1_modifiers 1 (Or.inl ⟨own_with p1, rfl⟩)) hZ59 (hw _ (List.mem_of_getElem? (i := 37) rfl)) (hw _ (List.mem_of_getElem? (i := 2) rfl)) (by decide) (by decide)) q77a q77c (g := (mkF m 78 #[.val (.int p1), .val (.ref o0), .val (.ref o1), .val (.ref o2), .val (.int (1 : Int32))] [(.ref o1)])) rfl (by rw [hml]; rfl) (Steps.refl _) (argsL := []) (rest := []) (lenOf pd___Z rfl) rfl (by show 2 * 0 + _ ≤ _; exact Nat.le_of_eq rfl) (hb hby at_78) (fun _ _ => ⟨rfl, e76, (Nat.le_of_ble_eq_true rfl), (Nat.le_of_ble_eq_true rfl)⟩)
  dsimp only [Pt.U, Pt.locs, Pt.cells, Pt.slots] at X77 l77 y77 z77 st77 hQ77
  subst l77 y77 z77
  obtain ⟨rfl, N77q, e77⟩ := hQ77
  have N77 := Fr.app N76 N77q
  obtain ⟨cq78, kq78, q78a, q78b, q78c⟩ := isOf hZ59 e77 f75_E_o2
  obtain ⟨_, _, ⟨T78, L78, k78, n78⟩, -, X78, ⟨Lc78, hQ78, l78, y78, z78⟩, st78⟩ := X77.virtualBack hx (y := (⟨"com/example/transaxle/transaxle/declarative/DeclaredMethods$Declaration", "isBridge", "()Z"⟩ : MethodName)) (z := (⟨"com/example/transaxle/transaxle/declarative/DeclaredMethods$Declaration", "isBridge", "()Z"⟩ : MethodName)) hown59 (mvT hZ59 (hw _ (List.mem_of_getElem? (i := 33) rfl))) (mvT hZ59 (hw _ (List.mem_of_getElem? (i := 34) rfl))) (notFace_of_selects (args := #[]) (mvT hZ59 (hw _ (List.mem_of_getElem? (i := 36) rfl)))) (mvT hZ59 (hw _ (List.mem_of_getElem? (i := 36) rfl))) (mvT hZ59 (hw _ (List.mem_of_getElem? (i := 35) rfl))) (by decide) (backOf (W := 0) (rm4 l Z a0 hw [] o2 (p1 &&& (-65 : Int32)) T70.heap n0 zz70 Fm70 0 (Or.inr ⟨own_without p1, rfl⟩)) hZ59 (hw _ (List.mem_of_getElem? (i := 37) rfl)) (hw _ (List.mem_of_getElem? (i := 2) rfl)) (by decide) (by decide)) q78a q78c (g := (mkF m 85 #[.val (.int p1), .val (.ref o0), .val (.ref o1), .val (.ref o2), .val (.int (1 : Int32))] [(.ref o2)])) rfl (by rw [hml]; rfl) (Steps.refl _) (argsL := []) (rest := []) (lenOf pd___Z rfl) rfl (by show 2 * 0 + _ ≤ _; exact Nat.le_of_eq rfl) (hb hby at_85) (fun _ _ => ⟨rfl, e77, (Nat.le_of_ble_eq_true rfl), (Nat.le_of_ble_eq_true rfl)⟩)
  dsimp only [Pt.U, Pt.locs, Pt.cells, Pt.slots] at X78 l78 y78 z78 st78 hQ78
  subst l78 y78 z78
  obtain ⟨rfl, N78q, e78⟩ := hQ78
  have N78 := Fr.app N77 N78q
  obtain ⟨fs, hr, hrun, hended, hW⟩ := X78.leaveW hS59 (by rw [e78]; exact yz70) (v := some (.int (1 : Int32))) (fun h => by rw [Bd.returns] at h; cases h)
  refine ⟨_, _, pre0 _ ?_, hrun, hended, _, _, rfl, ?_, hW.1, hW.2.1, hW.2.2.1, hW.2.2.2.mono (by decide) (by decide)⟩
  · show Steps p.tables e below (s₁.setTop (mkF m 0 #[.val (.int p1), .unset, .unset, .unset, .unset] [])) _
    refine st1 _ ?_
    show Steps p.tables e below (T1.setTop (mkF m 3 #[.val (.int p1), .unset, .unset, .unset, .unset] [(.ref o0)])) _
    refine XS.dup X1.here hx rfl (hb hby at_3) rfl rfl ?_
    show Steps p.tables e below (T1.setTop (mkF m 4 #[.val (.int p1), .unset, .unset, .unset, .unset] [(.ref o0), (.ref o0)])) _
    refine st2 _ ?_
    show Steps p.tables e below (T2.setTop (mkF m 6 #[.val (.int p1), .unset, .unset, .unset, .unset] [(.ref a2), (.ref o0), (.ref o0)])) _
    refine XS.iloadN X2.here hx rfl (hb hby at_6) rfl ?_
    show Steps p.tables e below (T2.setTop (mkF m 7 #[.val (.int p1), .unset, .unset, .unset, .unset] [(.int p1), (.ref a2), (.ref o0), (.ref o0)])) _
    refine st9 _ ?_
    show Steps p.tables e below (T9.setTop (mkF m 9 #[.val (.int p1), .unset, .unset, .unset, .unset] [(.ref a9), (.int p1), (.ref a2), (.ref o0), (.ref o0)])) _
    refine XS.aconstNull X9.here hx rfl (hb hby at_9) ?_
    show Steps p.tables e below (T9.setTop (mkF m 10 #[.val (.int p1), .unset, .unset, .unset, .unset] [.null, (.ref a9), (.int p1), (.ref a2), (.ref o0), (.ref o0)])) _
    refine XS.aconstNull X9.here hx rfl (hb hby at_10) ?_
    show Steps p.tables e below (T9.setTop (mkF m 11 #[.val (.int p1), .unset, .unset, .unset, .unset] [.null, .null, (.ref a9), (.int p1), (.ref a2), (.ref o0), (.ref o0)])) _
    refine st16.trans ?_
    show Steps p.tables e below (T16.setTop (mkF m 14 #[.val (.int p1), .unset, .unset, .unset, .unset] [(.ref o0)])) _
    refine XS.astoreN X16.here hx rfl (hb hby at_14) rfl rfl (l' := #[.val (.int p1), .val (.ref o0), .unset, .unset, .unset]) rfl ?_
    show Steps p.tables e below (T16.setTop (mkF m 15 #[.val (.int p1), .val (.ref o0), .unset, .unset, .unset] [])) _
    refine st18 _ ?_
    show Steps p.tables e below (T18.setTop (mkF m 18 #[.val (.int p1), .val (.ref o0), .unset, .unset, .unset] [(.ref o1)])) _
    refine XS.dup X18.here hx rfl (hb hby at_18) rfl rfl ?_
    show Steps p.tables e below (T18.setTop (mkF m 19 #[.val (.int p1), .val (.ref o0), .unset, .unset, .unset] [(.ref o1), (.ref o1)])) _
    refine st21 _ ?_
    show Steps p.tables e below (T21.setTop (mkF m 21 #[.val (.int p1), .val (.ref o0), .unset, .unset, .unset] [(.ref a21), (.ref o1), (.ref o1)])) _
    refine XS.iloadN X21.here hx rfl (hb hby at_21) rfl ?_
    show Steps p.tables e below (T21.setTop (mkF m 22 #[.val (.int p1), .val (.ref o0), .unset, .unset, .unset] [(.int p1), (.ref a21), (.ref o1), (.ref o1)])) _
    refine XS.bipush X21.here hx rfl (hb hby at_22) ?_
    show Steps p.tables e below (T21.setTop (mkF m 24 #[.val (.int p1), .val (.ref o0), .unset, .unset, .unset] [(.int (64 : Int32)), (.int p1), (.ref a21), (.ref o1), (.ref o1)])) _
    refine XS.ior X21.here hx rfl (hb hby at_24) rfl ?_
    show Steps p.tables e below (T21.setTop (mkF m 25 #[.val (.int p1), .val (.ref o0), .unset, .unset, .unset] [(.int (p1 ||| (64 : Int32))), (.ref a21), (.ref o1), (.ref o1)])) _
    refine st30 _ ?_
    show Steps p.tables e below (T30.setTop (mkF m 27 #[.val (.int p1), .val (.ref o0), .unset, .unset, .unset] [(.ref a30), (.int (p1 ||| (64 : Int32))), (.ref a21), (.ref o1), (.ref o1)])) _
    refine XS.aconstNull X30.here hx rfl (hb hby at_27) ?_
    show Steps p.tables e below (T30.setTop (mkF m 28 #[.val (.int p1), .val (.ref o0), .unset, .unset, .unset] [.null, (.ref a30), (.int (p1 ||| (64 : Int32))), (.ref a21), (.ref o1), (.ref o1)])) _
    refine XS.aconstNull X30.here hx rfl (hb hby at_28) ?_
    show Steps p.tables e below (T30.setTop (mkF m 29 #[.val (.int p1), .val (.ref o0), .unset, .unset, .unset] [.null, .null, (.ref a30), (.int (p1 ||| (64 : Int32))), (.ref a21), (.ref o1), (.ref o1)])) _
    refine st39.trans ?_
    show Steps p.tables e below (T39.setTop (mkF m 32 #[.val (.int p1), .val (.ref o0), .unset, .unset, .unset] [(.ref o1)])) _
    refine XS.astoreN X39.here hx rfl (hb hby at_32) rfl rfl (l' := #[.val (.int p1), .val (.ref o0), .val (.ref o1), .unset, .unset]) rfl ?_
    show Steps p.tables e below (T39.setTop (mkF m 33 #[.val (.int p1), .val (.ref o0), .val (.ref o1), .unset, .unset] [])) _
    refine st43 _ ?_
    show Steps p.tables e below (T43.setTop (mkF m 36 #[.val (.int p1), .val (.ref o0), .val (.ref o1), .unset, .unset] [(.ref o2)])) _
    refine XS.dup X43.here hx rfl (hb hby at_36) rfl rfl ?_
    show Steps p.tables e below (T43.setTop (mkF m 37 #[.val (.int p1), .val (.ref o0), .val (.ref o1), .unset, .unset] [(.ref o2), (.ref o2)])) _
    refine st48 _ ?_
    show Steps p.tables e below (T48.setTop (mkF m 39 #[.val (.int p1), .val (.ref o0), .val (.ref o1), .unset, .unset] [(.ref a48), (.ref o2), (.ref o2)])) _
    refine XS.iloadN X48.here hx rfl (hb hby at_39) rfl ?_
    show Steps p.tables e below (T48.setTop (mkF m 40 #[.val (.int p1), .val (.ref o0), .val (.ref o1), .unset, .unset] [(.int p1), (.ref a48), (.ref o2), (.ref o2)])) _
    refine XS.bipush X48.here hx rfl (hb hby at_40) ?_
    show Steps p.tables e below (T48.setTop (mkF m 42 #[.val (.int p1), .val (.ref o0), .val (.ref o1), .unset, .unset] [(.int (-65 : Int32)), (.int p1), (.ref a48), (.ref o2), (.ref o2)])) _
    refine XS.iand X48.here hx rfl (hb hby at_42) rfl ?_
    show Steps p.tables e below (T48.setTop (mkF m 43 #[.val (.int p1), .val (.ref o0), .val (.ref o1), .unset, .unset] [(.int (p1 &&& (-65 : Int32))), (.ref a48), (.ref o2), (.ref o2)])) _
    refine st59 _ ?_
    show Steps p.tables e below (T59.setTop (mkF m 45 #[.val (.int p1), .val (.ref o0), .val (.ref o1), .unset, .unset] [(.ref a59), (.int (p1 &&& (-65 : Int32))), (.ref a48), (.ref o2), (.ref o2)])) _
    refine XS.aconstNull X59.here hx rfl (hb hby at_45) ?_
    show Steps p.tables e below (T59.setTop (mkF m 46 #[.val (.int p1), .val (.ref o0), .val (.ref o1), .unset, .unset] [.null, (.ref a59), (.int (p1 &&& (-65 : Int32))), (.ref a48), (.ref o2), (.ref o2)])) _
    refine XS.aconstNull X59.here hx rfl (hb hby at_46) ?_
    show Steps p.tables e below (T59.setTop (mkF m 47 #[.val (.int p1), .val (.ref o0), .val (.ref o1), .unset, .unset] [.null, .null, (.ref a59), (.int (p1 &&& (-65 : Int32))), (.ref a48), (.ref o2), (.ref o2)])) _
    refine st70.trans ?_
    show Steps p.tables e below (T70.setTop (mkF m 50 #[.val (.int p1), .val (.ref o0), .val (.ref o1), .unset, .unset] [(.ref o2)])) _
    refine XS.astoreN X70.here hx rfl (hb hby at_50) rfl rfl (l' := #[.val (.int p1), .val (.ref o0), .val (.ref o1), .val (.ref o2), .unset]) rfl ?_
    show Steps p.tables e below (T70.setTop (mkF m 51 #[.val (.int p1), .val (.ref o0), .val (.ref o1), .val (.ref o2), .unset] [])) _
    refine XS.iloadN X70.here hx rfl (hb hby at_51) rfl ?_
    show Steps p.tables e below (T70.setTop (mkF m 52 #[.val (.int p1), .val (.ref o0), .val (.ref o1), .val (.ref o2), .unset] [(.int p1)])) _
    refine XS.bipush X70.here hx rfl (hb hby at_52) ?_
    show Steps p.tables e below (T70.setTop (mkF m 54 #[.val (.int p1), .val (.ref o0), .val (.ref o1), .val (.ref o2), .unset] [(.int (6 : Int32)), (.int p1)])) _
    refine XS.iushr X70.here hx rfl (hb hby at_54) rfl ?_
    show Steps p.tables e below (T70.setTop (mkF m 55 #[.val (.int p1), .val (.ref o0), .val (.ref o1), .val (.ref o2), .unset] [(.int ((p1.toUInt32 >>> ((6 : Int32) &&& 31).toUInt32).toInt32))])) _
    refine XS.iconst X70.here hx rfl (hb hby at_55) ?_
    show Steps p.tables e below (T70.setTop (mkF m 56 #[.val (.int p1), .val (.ref o0), .val (.ref o1), .val (.ref o2), .unset] [(.int (1 : Int32)), (.int ((p1.toUInt32 >>> ((6 : Int32) &&& 31).toUInt32).toInt32))])) _
    refine XS.iand X70.here hx rfl (hb hby at_56) rfl ?_
    show Steps p.tables e below (T70.setTop (mkF m 57 #[.val (.int p1), .val (.ref o0), .val (.ref o1), .val (.ref o2), .unset] [(.int (((p1.toUInt32 >>> ((6 : Int32) &&& 31).toUInt32).toInt32) &&& (1 : Int32)))])) _
    refine XS.iconst X70.here hx rfl (hb hby at_57) ?_
    show Steps p.tables e below (T70.setTop (mkF m 58 #[.val (.int p1), .val (.ref o0), .val (.ref o1), .val (.ref o2), .unset] [(.int (1 : Int32)), (.int (((p1.toUInt32 >>> ((6 : Int32) &&& 31).toUInt32).toInt32) &&& (1 : Int32)))])) _
    refine XS.icmpNo X70.here hx rfl (hb hby at_58) rfl (teq hc58).2 ?_
    show Steps p.tables e below (T70.setTop (mkF m 61 #[.val (.int p1), .val (.ref o0), .val (.ref o1), .val (.ref o2), .unset] [])) _
    refine XS.iconst X70.here hx rfl (hb hby at_61) ?_
    show Steps p.tables e below (T70.setTop (mkF m 62 #[.val (.int p1), .val (.ref o0), .val (.ref o1), .val (.ref o2), .unset] [(.int (1 : Int32))])) _
    refine XS.goto X70.here hx rfl (pc0 := 62) (pc' := 66) rfl (hb hby at_62) (by decide) (by decide) ?_
    show Steps p.tables e below (T70.setTop (mkF m 66 #[.val (.int p1), .val (.ref o0), .val (.ref o1), .val (.ref o2), .unset] [(.int (1 : Int32))])) _
    refine XS.istore X70.here hx rfl (hb hby at_66) rfl (l' := #[.val (.int p1), .val (.ref o0), .val (.ref o1), .val (.ref o2), .val (.int (1 : Int32))]) rfl ?_
    show Steps p.tables e below (T70.setTop (mkF m 68 #[.val (.int p1), .val (.ref o0), .val (.ref o1), .val (.ref o2), .val (.int (1 : Int32))] [])) _
    refine XS.aloadN X70.here hx rfl (hb hby at_68) rfl rfl ?_
    show Steps p.tables e below (T70.setTop (mkF m 69 #[.val (.int p1), .val (.ref o0), .val (.ref o1), .val (.ref o2), .val (.int (1 : Int32))] [(.ref o0)])) _
    refine st76.trans ?_
    show Steps p.tables e below (T76.setTop (mkF m 72 #[.val (.int p1), .val (.ref o0), .val (.ref o1), .val (.ref o2), .val (.int (1 : Int32))] [(.int (1 : Int32))])) _
    refine XS.iload X76.here hx rfl (hb hby at_72) rfl ?_
    show Steps p.tables e below (T76.setTop (mkF m 74 #[.val (.int p1), .val (.ref o0), .val (.ref o1), .val (.ref o2), .val (.int (1 : Int32))] [(.int (1 : Int32)), (.int (1 : Int32))])) _
    refine XS.icmpNo X76.here hx rfl (hb hby at_74) rfl (teq (rfl : (1 : Int32) = (1 : Int32))).2 ?_
    show Steps p.tables e below (T76.setTop (mkF m 77 #[.val (.int p1), .val (.ref o0), .val (.ref o1), .val (.ref o2), .val (.int (1 : Int32))] [])) _
    refine XS.aloadN X76.here hx rfl (hb hby at_77) rfl rfl ?_
    show Steps p.tables e below (T76.setTop (mkF m 78 #[.val (.int p1), .val (.ref o0), .val (.ref o1), .val (.ref o2), .val (.int (1 : Int32))] [(.ref o1)])) _
    refine st77.trans ?_
    show Steps p.tables e below (T77.setTop (mkF m 81 #[.val (.int p1), .val (.ref o0), .val (.ref o1), .val (.ref o2), .val (.int (1 : Int32))] [(.int (1 : Int32))])) _
    refine XS.ifNo X77.here hx rfl (hb hby at_81) rfl ((if0 _ _).trans (feq (by decide : ¬ ((1 : Int32) = (0 : Int32)))).1) ?_
    show Steps p.tables e below (T77.setTop (mkF m 84 #[.val (.int p1), .val (.ref o0), .val (.ref o1), .val (.ref o2), .val (.int (1 : Int32))] [])) _
    refine XS.aloadN X77.here hx rfl (hb hby at_84) rfl rfl ?_
    show Steps p.tables e below (T77.setTop (mkF m 85 #[.val (.int p1), .val (.ref o0), .val (.ref o1), .val (.ref o2), .val (.int (1 : Int32))] [(.ref o2)])) _
    refine st78.trans ?_
    show Steps p.tables e below (T78.setTop (mkF m 88 #[.val (.int p1), .val (.ref o0), .val (.ref o1), .val (.ref o2), .val (.int (1 : Int32))] [(.int (0 : Int32))])) _
    refine XS.ifNo X78.here hx rfl (hb hby at_88) rfl ((if0 _ _).trans (teq (rfl : (0 : Int32) = (0 : Int32))).2) ?_
    show Steps p.tables e below (T78.setTop (mkF m 91 #[.val (.int p1), .val (.ref o0), .val (.ref o1), .val (.ref o2), .val (.int (1 : Int32))] [])) _
    refine XS.iconst X78.here hx rfl (hb hby at_91) ?_
    show Steps p.tables e below (T78.setTop (mkF m 92 #[.val (.int p1), .val (.ref o0), .val (.ref o1), .val (.ref o2), .val (.int (1 : Int32))] [(.int (1 : Int32))])) _
    refine XS.goto X78.here hx rfl (pc0 := 92) (pc' := 96) rfl (hb hby at_92) (by decide) (by decide) ?_
    show Steps p.tables e below (T78.setTop (mkF m 96 #[.val (.int p1), .val (.ref o0), .val (.ref o1), .val (.ref o2), .val (.int (1 : Int32))] [(.int (1 : Int32))])) _
    exact retN X78 hx (t := .boolean) Bd.returns (by simp) (hb hby at_96) hr
  · show Q0 n0 _ _ _
    exact ⟨rfl, N78⟩
set_option maxRecDepth 65536 in
set_option maxHeartbeats 40000000 in
theorem rm0t (l : Launch) (Z : State) (a0 : Array Value) (hw : ∀ d ∈ tables_1, d.before a0 Z = true) (ws : List Jvm.Cond) (p1 : Int32) (h0 : Heap) (n0 : Nat) (Z0 : n0 ≤ h0.size)  (hc58 : ¬ ((((p1.toUInt32 >>> ((6 : Int32) &&& 31).toUInt32).toInt32) &&& (1 : Int32)) = (1 : Int32))) :
    MetFree l x (head1 (Jvm.Cond.code x code maxLocals ret :: ws) room_1) (fun a U => a = #[(.int p1)] ∧ Z.Warmed39 U.vm ∧ U.heap = h0) (fun _ _ _ _ _ => True) (fun _ U o U' => ∃ v L, o = .returned v ∧ Q0 n0 v U'.heap L ∧ ReturnedEndW U o U' L room_1.cells room_1.slots) := by
  refine MetFree.of_bodySF (plainFor_of_name pn_com_example_transaxle_transaxle_declarative_DeclarationIsBridgePinLaw) hisR ?_
  intro p e s m args below meth cd s₁ Bd hml0 hPre hKc
  obtain ⟨rfl, hZ, hHp⟩ := hPre
  have hx := Bd.exec
  have hby := Bd.bytes
  have hml : cd.maxLocals = 5 := hml0
  have hown : s.vm.findClass "com/example/transaxle/transaxle/declarative/DeclarationIsBridgePinLaw" = some m.cls := findClass_of_methodNamed Bd.named
  have hnm := (name_of_methodNamed Bd.named Bd.method).1
  have X0 : Stand p l e room_1 s m #[(.int p1)] below meth cd s₁ [] 0 0 := Stand.of_body Bd
  have e0 : s₁.heap = h0 := by rw [← hHp, Bd.state]; rfl
  have N0 := Fr.nil n0
  have pre0 : ∀ t, Steps p.tables e below (s₁.setTop (mkF m 0 #[.val (.int p1), .unset, .unset, .unset, .unset] [])) t → Steps p.tables e below (s₁.setTop (entryFrame m #[(.int p1)] maxLocals)) t := fun t k => castTop (ef_0 m p1) k
  have wS : ∀ a ∈ Bundle.stringAtoms, a.before a0 Z = true := by
    intro a ha
    simp only [Bundle.stringAtoms, List.mem_cons, List.not_mem_nil, or_false] at ha
    rcases ha with rfl | rfl | rfl | rfl | rfl | rfl | rfl
    · exact (hw _ (List.mem_of_getElem? (i := 4) rfl))
    · exact (hw _ (List.mem_of_getElem? (i := 5) rfl))
    · exact (hw _ (List.mem_of_getElem? (i := 6) rfl))
    · exact (hw _ (List.mem_of_getElem? (i := 7) rfl))
    · exact (hw _ (List.mem_of_getElem? (i := 8) rfl))
    · exact (hw _ (List.mem_of_getElem? (i := 9) rfl))
    · exact (hw _ (List.mem_of_getElem? (i := 10) rfl))
  have X0' : Stand p l e room_1 (s.setVm s.vm) m #[(.int p1)] below meth cd s₁ [] 0 0 := X0
  have hS0 : s.Since s.vm 0 := (State.WarmedH.refl s).since 0
  obtain ⟨T1, h1, X1, e1, E1, A1, D1, -, st1⟩ := newO X0' hx hZ hown (hw _ (List.mem_of_getElem? (i := 0) rfl)) (hw _ (List.mem_of_getElem? (i := 1) rfl)) (hw _ (List.mem_of_getElem? (i := 2) rfl)) e0 (g := (mkF m 0 #[.val (.int p1), .unset, .unset, .unset, .unset] [])) rfl (hb hby at_0) (Nat.le_of_ble_eq_true rfl) (Nat.le_of_ble_eq_true rfl)
  obtain ⟨o0, g1⟩ : ∃ z, z = h0.size := ⟨_, rfl⟩
  rw [← g1] at A1 D1 st1
  have g_o0 : n0 ≤ o0 := Nat.le_trans Z0 (Nat.le_of_eq g1.symm)
  have z1 : n0 ≤ h1.size := Nat.le_trans Z0 E1.1
  have y1 := Nat.le_trans (Nat.zero_le _) E1.1
  have F_owner_o0 : Fld Z h1 o0 "com/example/transaxle/transaxle/declarative/DeclaredMethods$Declaration" "owner" "Ljava/lang/String;" .null := D1 (Or.inr (hw _ (List.mem_of_getElem? (i := 24) rfl))) (ty := (.object "java/lang/String")) (by decide)
  have F_modifiers_o0 : Fld Z h1 o0 "com/example/transaxle/transaxle/declarative/DeclaredMethods$Declaration" "modifiers" "I" (.int (0 : Int32)) := D1 (Or.inr (hw _ (List.mem_of_getElem? (i := 26) rfl))) (ty := .int) (by decide)
  have F_name_o0 : Fld Z h1 o0 "com/example/transaxle/transaxle/declarative/DeclaredMethods$Declaration" "name" "Ljava/lang/String;" .null := D1 (Or.inr (hw _ (List.mem_of_getElem? (i := 28) rfl))) (ty := (.object "java/lang/String")) (by decide)
  have F_parameterTypes_o0 : Fld Z h1 o0 "com/example/transaxle/transaxle/declarative/DeclaredMethods$Declaration" "parameterTypes" "Ljava/util/List;" .null := D1 (Or.inr (hw _ (List.mem_of_getElem? (i := 30) rfl))) (ty := (.object "java/util/List")) (by decide)
  have F_annotationTypes_o0 : Fld Z h1 o0 "com/example/transaxle/transaxle/declarative/DeclaredMethods$Declaration" "annotationTypes" "Ljava/util/Set;" .null := D1 (Or.inr (hw _ (List.mem_of_getElem? (i := 32) rfl))) (ty := (.object "java/util/Set")) (by decide)
  obtain ⟨a2, T2, h2, k2, X2, e2, E2, hS2, y2, hZ2, hown2, st2⟩ := ldcS X1 hx hZ hown (hw _ (List.mem_of_getElem? (i := 3) rfl)) wS e1 hS0 y1 (g := (mkF m 4 #[.val (.int p1), .unset, .unset, .unset, .unset] [(.ref o0), (.ref o0)])) rfl (hb hby at_4) (n := 4) (by decide) (by decide) (Nat.le_of_ble_eq_true rfl) (Nat.le_of_ble_eq_true rfl)
  have z2 : n0 ≤ h2.size := Nat.le_trans z1 E2.1
  have f3_E_o0 := A1.ext E2
  have f4_F_o0_owner := F_owner_o0.ext E2
  have f5_F_o0_modifiers := F_modifiers_o0.ext E2
  have f6_F_o0_name := F_name_o0.ext E2
  have f7_F_o0_parameterTypes := F_parameterTypes_o0.ext E2
  have f8_F_o0_annotationTypes := F_annotationTypes_o0.ext E2
  obtain ⟨a9, T9, h9, k9, X9, e9, E9, hS9, y9, hZ9, hown9, st9⟩ := ldcS X2 hx hZ2 hown2 (hw _ (List.mem_of_getElem? (i := 11) rfl)) wS e2 hS2 y2 (g := (mkF m 7 #[.val (.int p1), .unset, .unset, .unset, .unset] [(.int p1), (.ref a2), (.ref o0), (.ref o0)])) rfl (hb hby at_7) (n := 4) (by decide) (by decide) (Nat.le_of_ble_eq_true rfl) (Nat.le_of_ble_eq_true rfl)
  have z9 : n0 ≤ h9.size := Nat.le_trans z2 E9.1
  have f10_E_o0 := f3_E_o0.ext E9
  have f11_F_o0_owner := f4_F_o0_owner.ext E9
  have f12_F_o0_modifiers := f5_F_o0_modifiers.ext E9
  have f13_F_o0_name := f6_F_o0_name.ext E9
  have f14_F_o0_parameterTypes := f7_F_o0_parameterTypes.ext E9
  have f15_F_o0_annotationTypes := f8_F_o0_annotationTypes.ext E9
  obtain ⟨_, _, ⟨T16, L16, k16, n16⟩, -, X16, ⟨Lc16, hQ16, l16, y16, z16⟩, st16⟩ := X9.specialBack hx (y := (⟨"com/example/transaxle/transaxle/declarative/DeclaredMethods$Declaration", "<init>", "(Ljava/lang/String;ILjava/lang/String;Ljava/util/List;Ljava/util/Set;)V"⟩ : MethodName)) rfl hown9 (mvT hZ9 (hw _ (List.mem_of_getElem? (i := 12) rfl))) (mvT hZ9 (hw _ (List.mem_of_getElem? (i := 13) rfl))) (mvT hZ9 (hw _ (List.mem_of_getElem? (i := 14) rfl))) (by decide) (backOf (W := 1) (rm1 l Z a0 hw [] o0 a2 p1 a9 _ _ _ _ _ h9 n0 z9 f10_E_o0 g_o0 f11_F_o0_owner f12_F_o0_modifiers f13_F_o0_name f14_F_o0_parameterTypes f15_F_o0_annotationTypes) hZ9 (hw _ (List.mem_of_getElem? (i := 14) rfl)) (hw _ (List.mem_of_getElem? (i := 2) rfl)) (by decide) (by decide)) (g := (mkF m 11 #[.val (.int p1), .unset, .unset, .unset, .unset] [.null, .null, (.ref a9), (.int p1), (.ref a2), (.ref o0), (.ref o0)])) rfl (by rw [hml]; rfl) (Steps.refl _) (a := o0) (argsL := [(.ref a2), (.int p1), (.ref a9), .null, .null]) (rest := [(.ref o0)]) (lenOf pd__Ljava_lang_String_ILjava_lang_String_Ljava_util_List_Ljava_util_Set__V rfl) rfl (by show 2 * 0 + _ ≤ _; exact Nat.le_of_eq rfl) (hb hby at_11) (fun _ _ => ⟨rfl, e9, (Nat.le_of_ble_eq_true rfl), (Nat.le_of_ble_eq_true rfl)⟩)
  dsimp only [Pt.U, Pt.locs, Pt.cells, Pt.slots] at X16 l16 y16 z16 st16 hQ16
  subst l16 y16 z16
  obtain ⟨rfl, N16q, Kc16, -, Fm16⟩ := hQ16
  have N16 := Fr.app N0 N16q
  have f17_E_o0 := f10_E_o0.keep Kc16
  have zz16 : n0 ≤ T16.heap.size := Nat.le_trans z9 Kc16.1
  have yz16 := Nat.le_trans y9 Kc16.1
  obtain ⟨T18, h18, X18, e18, E18, A18, D18, -, st18⟩ := newO X16 hx hZ9 hown9 (hw _ (List.mem_of_getElem? (i := 0) rfl)) (hw _ (List.mem_of_getElem? (i := 1) rfl)) (hw _ (List.mem_of_getElem? (i := 2) rfl)) rfl (g := (mkF m 15 #[.val (.int p1), .val (.ref o0), .unset, .unset, .unset] [])) rfl (hb hby at_15) (Nat.le_of_ble_eq_true rfl) (Nat.le_of_ble_eq_true rfl)
  obtain ⟨o1, g18⟩ : ∃ z, z = T16.heap.size := ⟨_, rfl⟩
  rw [← g18] at A18 D18 st18
  have g_o1 : n0 ≤ o1 := Nat.le_trans zz16 (Nat.le_of_eq g18.symm)
  have ne_o0_o1 : o0 ≠ o1 := Nat.ne_of_lt (Nat.lt_of_lt_of_le f17_E_o0.lt (Nat.le_of_eq g18.symm))
  have z18 : n0 ≤ h18.size := Nat.le_trans zz16 E18.1
  have y18 := Nat.le_trans yz16 E18.1
  have f19_E_o0 := f17_E_o0.ext E18
  have f20_F_o0_modifiers := Fm16.ext E18
  have F_owner_o1 : Fld Z h18 o1 "com/example/transaxle/transaxle/declarative/DeclaredMethods$Declaration" "owner" "Ljava/lang/String;" .null := D18 (Or.inr (hw _ (List.mem_of_getElem? (i := 24) rfl))) (ty := (.object "java/lang/String")) (by decide)
  have F_modifiers_o1 : Fld Z h18 o1 "com/example/transaxle/transaxle/declarative/DeclaredMethods$Declaration" "modifiers" "I" (.int (0 : Int32)) := D18 (Or.inr (hw _ (List.mem_of_getElem? (i := 26) rfl))) (ty := .int) (by decide)
  have F_name_o1 : Fld Z h18 o1 "com/example/transaxle/transaxle/declarative/DeclaredMethods$Declaration" "name" "Ljava/lang/String;" .null := D18 (Or.inr (hw _ (List.mem_of_getElem? (i := 28) rfl))) (ty := (.object "java/lang/String")) (by decide)
  have F_parameterTypes_o1 : Fld Z h18 o1 "com/example/transaxle/transaxle/declarative/DeclaredMethods$Declaration" "parameterTypes" "Ljava/util/List;" .null := D18 (Or.inr (hw _ (List.mem_of_getElem? (i := 30) rfl))) (ty := (.object "java/util/List")) (by decide)
  have F_annotationTypes_o1 : Fld Z h18 o1 "com/example/transaxle/transaxle/declarative/DeclaredMethods$Declaration" "annotationTypes" "Ljava/util/Set;" .null := D18 (Or.inr (hw _ (List.mem_of_getElem? (i := 32) rfl))) (ty := (.object "java/util/Set")) (by decide)
  obtain ⟨a21, T21, h21, k21, X21, e21, E21, hS21, y21, hZ21, hown21, st21⟩ := ldcS X18 hx hZ9 hown9 (hw _ (List.mem_of_getElem? (i := 3) rfl)) wS e18 hS9 y18 (g := (mkF m 19 #[.val (.int p1), .val (.ref o0), .unset, .unset, .unset] [(.ref o1), (.ref o1)])) rfl (hb hby at_19) (n := 4) (by decide) (by decide) (Nat.le_of_ble_eq_true rfl) (Nat.le_of_ble_eq_true rfl)
  have z21 : n0 ≤ h21.size := Nat.le_trans z18 E21.1
  have f22_E_o0 := f19_E_o0.ext E21
  have f23_F_o0_modifiers := f20_F_o0_modifiers.ext E21
  have f24_E_o1 := A18.ext E21
  have f25_F_o1_owner := F_owner_o1.ext E21
  have f26_F_o1_modifiers := F_modifiers_o1.ext E21
  have f27_F_o1_name := F_name_o1.ext E21
  have f28_F_o1_parameterTypes := F_parameterTypes_o1.ext E21
  have f29_F_o1_annotationTypes := F_annotationTypes_o1.ext E21
  obtain ⟨a30, T30, h30, k30, X30, e30, E30, hS30, y30, hZ30, hown30, st30⟩ := ldcS X21 hx hZ21 hown21 (hw _ (List.mem_of_getElem? (i := 11) rfl)) wS e21 hS21 y21 (g := (mkF m 25 #[.val (.int p1), .val (.ref o0), .unset, .unset, .unset] [(.int (p1 ||| (64 : Int32))), (.ref a21), (.ref o1), (.ref o1)])) rfl (hb hby at_25) (n := 4) (by decide) (by decide) (Nat.le_of_ble_eq_true rfl) (Nat.le_of_ble_eq_true rfl)
  have z30 : n0 ≤ h30.size := Nat.le_trans z21 E30.1
  have f31_E_o0 := f22_E_o0.ext E30
  have f32_F_o0_modifiers := f23_F_o0_modifiers.ext E30
  have f33_E_o1 := f24_E_o1.ext E30
  have f34_F_o1_owner := f25_F_o1_owner.ext E30
  have f35_F_o1_modifiers := f26_F_o1_modifiers.ext E30
  have f36_F_o1_name := f27_F_o1_name.ext E30
  have f37_F_o1_parameterTypes := f28_F_o1_parameterTypes.ext E30
  have f38_F_o1_annotationTypes := f29_F_o1_annotationTypes.ext E30
  obtain ⟨_, _, ⟨T39, L39, k39, n39⟩, -, X39, ⟨Lc39, hQ39, l39, y39, z39⟩, st39⟩ := X30.specialBack hx (y := (⟨"com/example/transaxle/transaxle/declarative/DeclaredMethods$Declaration", "<init>", "(Ljava/lang/String;ILjava/lang/String;Ljava/util/List;Ljava/util/Set;)V"⟩ : MethodName)) rfl hown30 (mvT hZ30 (hw _ (List.mem_of_getElem? (i := 12) rfl))) (mvT hZ30 (hw _ (List.mem_of_getElem? (i := 13) rfl))) (mvT hZ30 (hw _ (List.mem_of_getElem? (i := 14) rfl))) (by decide) (backOf (W := 1) (rm1 l Z a0 hw [] o1 a21 (p1 ||| (64 : Int32)) a30 _ _ _ _ _ h30 n0 z30 f33_E_o1 g_o1 f34_F_o1_owner f35_F_o1_modifiers f36_F_o1_name f37_F_o1_parameterTypes f38_F_o1_annotationTypes) hZ30 (hw _ (List.mem_of_getElem? (i := 14) rfl)) (hw _ (List.mem_of_getElem? (i := 2) rfl)) (by decide) (by decide)) (g := (mkF m 29 #[.val (.int p1), .val (.ref o0), .unset, .unset, .unset] [.null, .null, (.ref a30), (.int (p1 ||| (64 : Int32))), (.ref a21), (.ref o1), (.ref o1)])) rfl (by rw [hml]; rfl) (Steps.refl _) (a := o1) (argsL := [(.ref a21), (.int (p1 ||| (64 : Int32))), (.ref a30), .null, .null]) (rest := [(.ref o1)]) (lenOf pd__Ljava_lang_String_ILjava_lang_String_Ljava_util_List_Ljava_util_Set__V rfl) rfl (by show 2 * 0 + _ ≤ _; exact Nat.le_of_eq rfl) (hb hby at_29) (fun _ _ => ⟨rfl, e30, (Nat.le_of_ble_eq_true rfl), (Nat.le_of_ble_eq_true rfl)⟩)
  dsimp only [Pt.U, Pt.locs, Pt.cells, Pt.slots] at X39 l39 y39 z39 st39 hQ39
  subst l39 y39 z39
  obtain ⟨rfl, N39q, Kc39, -, Fm39⟩ := hQ39
  have N39 := Fr.app N16 N39q
  have f40_E_o0 := f31_E_o0.keep Kc39
  have f41_F_o0_modifiers := f32_F_o0_modifiers.keep Kc39 (ninS ne_o0_o1 nin0)
  have f42_E_o1 := f33_E_o1.keep Kc39
  have zz39 : n0 ≤ T39.heap.size := Nat.le_trans z30 Kc39.1
  have yz39 := Nat.le_trans y30 Kc39.1
  obtain ⟨T43, h43, X43, e43, E43, A43, D43, -, st43⟩ := newO X39 hx hZ30 hown30 (hw _ (List.mem_of_getElem? (i := 0) rfl)) (hw _ (List.mem_of_getElem? (i := 1) rfl)) (hw _ (List.mem_of_getElem? (i := 2) rfl)) rfl (g := (mkF m 33 #[.val (.int p1), .val (.ref o0), .val (.ref o1), .unset, .unset] [])) rfl (hb hby at_33) (Nat.le_of_ble_eq_true rfl) (Nat.le_of_ble_eq_true rfl)
  obtain ⟨o2, g43⟩ : ∃ z, z = T39.heap.size := ⟨_, rfl⟩
  rw [← g43] at A43 D43 st43
  have g_o2 : n0 ≤ o2 := Nat.le_trans zz39 (Nat.le_of_eq g43.symm)
  have ne_o0_o2 : o0 ≠ o2 := Nat.ne_of_lt (Nat.lt_of_lt_of_le f40_E_o0.lt (Nat.le_of_eq g43.symm))
  have ne_o1_o2 : o1 ≠ o2 := Nat.ne_of_lt (Nat.lt_of_lt_of_le f42_E_o1.lt (Nat.le_of_eq g43.symm))
  have z43 : n0 ≤ h43.size := Nat.le_trans zz39 E43.1
  have y43 := Nat.le_trans yz39 E43.1
  have f44_E_o0 := f40_E_o0.ext E43
  have f45_F_o0_modifiers := f41_F_o0_modifiers.ext E43
  have f46_E_o1 := f42_E_o1.ext E43
  have f47_F_o1_modifiers := Fm39.ext E43
  have F_owner_o2 : Fld Z h43 o2 "com/example/transaxle/transaxle/declarative/DeclaredMethods$Declaration" "owner" "Ljava/lang/String;" .null := D43 (Or.inr (hw _ (List.mem_of_getElem? (i := 24) rfl))) (ty := (.object "java/lang/String")) (by decide)
  have F_modifiers_o2 : Fld Z h43 o2 "com/example/transaxle/transaxle/declarative/DeclaredMethods$Declaration" "modifiers" "I" (.int (0 : Int32)) := D43 (Or.inr (hw _ (List.mem_of_getElem? (i := 26) rfl))) (ty := .int) (by decide)
  have F_name_o2 : Fld Z h43 o2 "com/example/transaxle/transaxle/declarative/DeclaredMethods$Declaration" "name" "Ljava/lang/String;" .null := D43 (Or.inr (hw _ (List.mem_of_getElem? (i := 28) rfl))) (ty := (.object "java/lang/String")) (by decide)
  have F_parameterTypes_o2 : Fld Z h43 o2 "com/example/transaxle/transaxle/declarative/DeclaredMethods$Declaration" "parameterTypes" "Ljava/util/List;" .null := D43 (Or.inr (hw _ (List.mem_of_getElem? (i := 30) rfl))) (ty := (.object "java/util/List")) (by decide)
  have F_annotationTypes_o2 : Fld Z h43 o2 "com/example/transaxle/transaxle/declarative/DeclaredMethods$Declaration" "annotationTypes" "Ljava/util/Set;" .null := D43 (Or.inr (hw _ (List.mem_of_getElem? (i := 32) rfl))) (ty := (.object "java/util/Set")) (by decide)
  obtain ⟨a48, T48, h48, k48, X48, e48, E48, hS48, y48, hZ48, hown48, st48⟩ := ldcS X43 hx hZ30 hown30 (hw _ (List.mem_of_getElem? (i := 3) rfl)) wS e43 hS30 y43 (g := (mkF m 37 #[.val (.int p1), .val (.ref o0), .val (.ref o1), .unset, .unset] [(.ref o2), (.ref o2)])) rfl (hb hby at_37) (n := 4) (by decide) (by decide) (Nat.le_of_ble_eq_true rfl) (Nat.le_of_ble_eq_true rfl)
  have z48 : n0 ≤ h48.size := Nat.le_trans z43 E48.1
  have f49_E_o0 := f44_E_o0.ext E48
  have f50_F_o0_modifiers := f45_F_o0_modifiers.ext E48
  have f51_E_o1 := f46_E_o1.ext E48
  have f52_F_o1_modifiers := f47_F_o1_modifiers.ext E48
  have f53_E_o2 := A43.ext E48
  have f54_F_o2_owner := F_owner_o2.ext E48
  have f55_F_o2_modifiers := F_modifiers_o2.ext E48
  have f56_F_o2_name := F_name_o2.ext E48
  have f57_F_o2_parameterTypes := F_parameterTypes_o2.ext E48
  have f58_F_o2_annotationTypes := F_annotationTypes_o2.ext E48
  obtain ⟨a59, T59, h59, k59, X59, e59, E59, hS59, y59, hZ59, hown59, st59⟩ := ldcS X48 hx hZ48 hown48 (hw _ (List.mem_of_getElem? (i := 11) rfl)) wS e48 hS48 y48 (g := (mkF m 43 #[.val (.int p1), .val (.ref o0), .val (.ref o1), .unset, .unset] [(.int (p1 &&& (-65 : Int32))), (.ref a48), (.ref o2), (.ref o2)])) rfl (hb hby at_43) (n := 4) (by decide) (by decide) (Nat.le_of_ble_eq_true rfl) (Nat.le_of_ble_eq_true rfl)
  have z59 : n0 ≤ h59.size := Nat.le_trans z48 E59.1
  have f60_E_o0 := f49_E_o0.ext E59
  have f61_F_o0_modifiers := f50_F_o0_modifiers.ext E59
  have f62_E_o1 := f51_E_o1.ext E59
  have f63_F_o1_modifiers := f52_F_o1_modifiers.ext E59
  have f64_E_o2 := f53_E_o2.ext E59
  have f65_F_o2_owner := f54_F_o2_owner.ext E59
  have f66_F_o2_modifiers := f55_F_o2_modifiers.ext E59
  have f67_F_o2_name := f56_F_o2_name.ext E59
  have f68_F_o2_parameterTypes := f57_F_o2_parameterTypes.ext E59
  have f69_F_o2_annotationTypes := f58_F_o2_annotationTypes.ext E59
  obtain ⟨_, _, ⟨T70, L70, k70, n70⟩, -, X70, ⟨Lc70, hQ70, l70, y70, z70⟩, st70⟩ := X59.specialBack hx (y := (⟨"com/example/transaxle/transaxle/declarative/DeclaredMethods$Declaration", "<init>", "(Ljava/lang/String;ILjava/lang/String;Ljava/util/List;Ljava/util/Set;)V"⟩ : MethodName)) rfl hown59 (mvT hZ59 (hw _ (List.mem_of_getElem? (i := 12) rfl))) (mvT hZ59 (hw _ (List.mem_of_getElem? (i := 13) rfl))) (mvT hZ59 (hw _ (List.mem_of_getElem? (i := 14) rfl))) (by decide) (backOf (W := 1) (rm1 l Z a0 hw [] o2 a48 (p1 &&& (-65 : Int32)) a59 _ _ _ _ _ h59 n0 z59 f64_E_o2 g_o2 f65_F_o2_owner f66_F_o2_modifiers f67_F_o2_name f68_F_o2_parameterTypes f69_F_o2_annotationTypes) hZ59 (hw _ (List.mem_of_getElem? (i := 14) rfl)) (hw _ (List.mem_of_getElem? (i := 2) rfl)) (by decide) (by decide)) (g := (mkF m 47 #[.val (.int p1), .val (.ref o0), .val (.ref o1), .unset, .unset] [.null, .null, (.ref a59), (.int (p1 &&& (-65 : Int32))), (.ref a48), (.ref o2), (.ref o2)])) rfl (by rw [hml]; rfl) (Steps.refl _) (a := o2) (argsL := [(.ref a48), (.int (p1 &&& (-65 : Int32))), (.ref a59), .null, .null]) (rest := [(.ref o2)]) (lenOf pd__Ljava_lang_String_ILjava_lang_String_Ljava_util_List_Ljava_util_Set__V rfl) rfl (by show 2 * 0 + _ ≤ _; exact Nat.le_of_eq rfl) (hb hby at_47) (fun _ _ => ⟨rfl, e59, (Nat.le_of_ble_eq_true rfl), (Nat.le_of_ble_eq_true rfl)⟩)
  dsimp only [Pt.U, Pt.locs, Pt.cells, Pt.slots] at X70 l70 y70 z70 st70 hQ70
  subst l70 y70 z70
  obtain ⟨rfl, N70q, Kc70, -, Fm70⟩ := hQ70
  have N70 := Fr.app N39 N70q
  have f71_E_o0 := f60_E_o0.keep Kc70
  have f72_F_o0_modifiers := f61_F_o0_modifiers.keep Kc70 (ninS ne_o0_o2 nin0)
  have f73_E_o1 := f62_E_o1.keep Kc70
  have f74_F_o1_modifiers := f63_F_o1_modifiers.keep Kc70 (ninS ne_o1_o2 nin0)
  have f75_E_o2 := f64_E_o2.keep Kc70
  have zz70 : n0 ≤ T70.heap.size := Nat.le_trans z59 Kc70.1
  have yz70 := Nat.le_trans y59 Kc70.1
  obtain ⟨cq76, kq76, q76a, q76b, q76c⟩ := isOf hZ59 rfl f71_E_o0
  obtain ⟨_, _, ⟨T76, L76, k76, n76⟩, -, X76, ⟨Lc76, hQ76, l76, y76, z76⟩, st76⟩ := X70.virtualBack hx (y := (⟨"com/example/transaxle/transaxle/declarative/DeclaredMethods$Declaration", "isBridge", "()Z"⟩ : MethodName)) (z := (⟨"com/example/transaxle/transaxle/declarative/DeclaredMethods$Declaration", "isBridge", "()Z"⟩ : MethodName)) hown59 (mvT hZ59 (hw _ (List.mem_of_getElem? (i := 33) rfl))) (mvT hZ59 (hw _ (List.mem_of_getElem? (i := 34) rfl))) (notFace_of_selects (args := #[]) (mvT hZ59 (hw _ (List.mem_of_getElem? (i := 36) rfl)))) (mvT hZ59 (hw _ (List.mem_of_getElem? (i := 36) rfl))) (mvT hZ59 (hw _ (List.mem_of_getElem? (i := 35) rfl))) (by decide) (backOf (W := 0) (rm4 l Z a0 hw [] o0 p1 T70.heap n0 zz70 f72_F_o0_modifiers 0 (Or.inr ⟨Classical.byContradiction fun g => hc58 ((own_bits p1).2 g), rfl⟩)) hZ59 (hw _ (List.mem_of_getElem? (i := 37) rfl)) (hw _ (List.mem_of_getElem? (i := 2) rfl)) (by decide) (by decide)) q76a q76c (g := (mkF m 69 #[.val (.int p1), .val (.ref o0), .val (.ref o1), .val (.ref o2), .val (.int (0 : Int32))] [(.ref o0)])) rfl (by rw [hml]; rfl) (Steps.refl _) (argsL := []) (rest := []) (lenOf pd___Z rfl) rfl (by show 2 * 0 + _ ≤ _; exact Nat.le_of_eq rfl) (hb hby at_69) (fun _ _ => ⟨rfl, rfl, (Nat.le_of_ble_eq_true rfl), (Nat.le_of_ble_eq_true rfl)⟩)
  dsimp only [Pt.U, Pt.locs, Pt.cells, Pt.slots] at X76 l76 y76 z76 st76 hQ76
  subst l76 y76 z76
  obtain ⟨rfl, N76q, e76⟩ := hQ76
  have N76 := Fr.app N70 N76q
  obtain ⟨cq77, kq77, q77a, q77b, q77c⟩ := isOf hZ59 e76 f73_E_o1
  obtain ⟨_, _, ⟨T77, L77, k77, n77⟩, -, X77, ⟨Lc77, hQ77, l77, y77, z77⟩, st77⟩ := X76.virtualBack hx (y := (⟨"com/example/transaxle/transaxle/declarative/DeclaredMethods$Declaration", "isBridge", "()Z"⟩ : MethodName)) (z := (⟨"com/example/transaxle/transaxle/declarative/DeclaredMethods$Declaration", "isBridge", "()Z"⟩ : MethodName)) hown59 (mvT hZ59 (hw _ (List.mem_of_getElem? (i := 33) rfl))) (mvT hZ59 (hw _ (List.mem_of_getElem? (i := 34) rfl))) (notFace_of_selects (args := #[]) (mvT hZ59 (hw _ (List.mem_of_getElem? (i := 36) rfl)))) (mvT hZ59 (hw _ (List.mem_of_getElem? (i := 36) rfl))) (mvT hZ59 (hw _ (List.mem_of_getElem? (i := 35) rfl))) (by decide) (backOf (W := 0) (rm4 l Z a0 hw [] o1 (p1 ||| (64 : Int32)) T70.heap n0 zz70 f74_F_o1_modifiers 1 (Or.inl ⟨own_with p1, rfl⟩)) hZ59 (hw _ (List.mem_of_getElem? (i := 37) rfl)) (hw _ (List.mem_of_getElem? (i := 2) rfl)) (by decide) (by decide)) q77a q77c (g := (mkF m 78 #[.val (.int p1), .val (.ref o0), .val (.ref o1), .val (.ref o2), .val (.int (0 : Int32))] [(.ref o1)])) rfl (by rw [hml]; rfl) (Steps.refl _) (argsL := []) (rest := []) (lenOf pd___Z rfl) rfl (by show 2 * 0 + _ ≤ _; exact Nat.le_of_eq rfl) (hb hby at_78) (fun _ _ => ⟨rfl, e76, (Nat.le_of_ble_eq_true rfl), (Nat.le_of_ble_eq_true rfl)⟩)
  dsimp only [Pt.U, Pt.locs, Pt.cells, Pt.slots] at X77 l77 y77 z77 st77 hQ77
  subst l77 y77 z77
  obtain ⟨rfl, N77q, e77⟩ := hQ77
  have N77 := Fr.app N76 N77q
  obtain ⟨cq78, kq78, q78a, q78b, q78c⟩ := isOf hZ59 e77 f75_E_o2
  obtain ⟨_, _, ⟨T78, L78, k78, n78⟩, -, X78, ⟨Lc78, hQ78, l78, y78, z78⟩, st78⟩ := X77.virtualBack hx (y := (⟨"com/example/transaxle/transaxle/declarative/DeclaredMethods$Declaration", "isBridge", "()Z"⟩ : MethodName)) (z := (⟨"com/example/transaxle/transaxle/declarative/DeclaredMethods$Declaration", "isBridge", "()Z"⟩ : MethodName)) hown59 (mvT hZ59 (hw _ (List.mem_of_getElem? (i := 33) rfl))) (mvT hZ59 (hw _ (List.mem_of_getElem? (i := 34) rfl))) (notFace_of_selects (args := #[]) (mvT hZ59 (hw _ (List.mem_of_getElem? (i := 36) rfl)))) (mvT hZ59 (hw _ (List.mem_of_getElem? (i := 36) rfl))) (mvT hZ59 (hw _ (List.mem_of_getElem? (i := 35) rfl))) (by decide) (backOf (W := 0) (rm4 l Z a0 hw [] o2 (p1 &&& (-65 : Int32)) T70.heap n0 zz70 Fm70 0 (Or.inr ⟨own_without p1, rfl⟩)) hZ59 (hw _ (List.mem_of_getElem? (i := 37) rfl)) (hw _ (List.mem_of_getElem? (i := 2) rfl)) (by decide) (by decide)) q78a q78c (g := (mkF m 85 #[.val (.int p1), .val (.ref o0), .val (.ref o1), .val (.ref o2), .val (.int (0 : Int32))] [(.ref o2)])) rfl (by rw [hml]; rfl) (Steps.refl _) (argsL := []) (rest := []) (lenOf pd___Z rfl) rfl (by show 2 * 0 + _ ≤ _; exact Nat.le_of_eq rfl) (hb hby at_85) (fun _ _ => ⟨rfl, e77, (Nat.le_of_ble_eq_true rfl), (Nat.le_of_ble_eq_true rfl)⟩)
  dsimp only [Pt.U, Pt.locs, Pt.cells, Pt.slots] at X78 l78 y78 z78 st78 hQ78
  subst l78 y78 z78
  obtain ⟨rfl, N78q, e78⟩ := hQ78
  have N78 := Fr.app N77 N78q
  obtain ⟨fs, hr, hrun, hended, hW⟩ := X78.leaveW hS59 (by rw [e78]; exact yz70) (v := some (.int (1 : Int32))) (fun h => by rw [Bd.returns] at h; cases h)
  refine ⟨_, _, pre0 _ ?_, hrun, hended, _, _, rfl, ?_, hW.1, hW.2.1, hW.2.2.1, hW.2.2.2.mono (by decide) (by decide)⟩
  · show Steps p.tables e below (s₁.setTop (mkF m 0 #[.val (.int p1), .unset, .unset, .unset, .unset] [])) _
    refine st1 _ ?_
    show Steps p.tables e below (T1.setTop (mkF m 3 #[.val (.int p1), .unset, .unset, .unset, .unset] [(.ref o0)])) _
    refine XS.dup X1.here hx rfl (hb hby at_3) rfl rfl ?_
    show Steps p.tables e below (T1.setTop (mkF m 4 #[.val (.int p1), .unset, .unset, .unset, .unset] [(.ref o0), (.ref o0)])) _
    refine st2 _ ?_
    show Steps p.tables e below (T2.setTop (mkF m 6 #[.val (.int p1), .unset, .unset, .unset, .unset] [(.ref a2), (.ref o0), (.ref o0)])) _
    refine XS.iloadN X2.here hx rfl (hb hby at_6) rfl ?_
    show Steps p.tables e below (T2.setTop (mkF m 7 #[.val (.int p1), .unset, .unset, .unset, .unset] [(.int p1), (.ref a2), (.ref o0), (.ref o0)])) _
    refine st9 _ ?_
    show Steps p.tables e below (T9.setTop (mkF m 9 #[.val (.int p1), .unset, .unset, .unset, .unset] [(.ref a9), (.int p1), (.ref a2), (.ref o0), (.ref o0)])) _
    refine XS.aconstNull X9.here hx rfl (hb hby at_9) ?_
    show Steps p.tables e below (T9.setTop (mkF m 10 #[.val (.int p1), .unset, .unset, .unset, .unset] [.null, (.ref a9), (.int p1), (.ref a2), (.ref o0), (.ref o0)])) _
    refine XS.aconstNull X9.here hx rfl (hb hby at_10) ?_
    show Steps p.tables e below (T9.setTop (mkF m 11 #[.val (.int p1), .unset, .unset, .unset, .unset] [.null, .null, (.ref a9), (.int p1), (.ref a2), (.ref o0), (.ref o0)])) _
    refine st16.trans ?_
    show Steps p.tables e below (T16.setTop (mkF m 14 #[.val (.int p1), .unset, .unset, .unset, .unset] [(.ref o0)])) _
    refine XS.astoreN X16.here hx rfl (hb hby at_14) rfl rfl (l' := #[.val (.int p1), .val (.ref o0), .unset, .unset, .unset]) rfl ?_
    show Steps p.tables e below (T16.setTop (mkF m 15 #[.val (.int p1), .val (.ref o0), .unset, .unset, .unset] [])) _
    refine st18 _ ?_
    show Steps p.tables e below (T18.setTop (mkF m 18 #[.val (.int p1), .val (.ref o0), .unset, .unset, .unset] [(.ref o1)])) _
    refine XS.dup X18.here hx rfl (hb hby at_18) rfl rfl ?_
    show Steps p.tables e below (T18.setTop (mkF m 19 #[.val (.int p1), .val (.ref o0), .unset, .unset, .unset] [(.ref o1), (.ref o1)])) _
    refine st21 _ ?_
    show Steps p.tables e below (T21.setTop (mkF m 21 #[.val (.int p1), .val (.ref o0), .unset, .unset, .unset] [(.ref a21), (.ref o1), (.ref o1)])) _
    refine XS.iloadN X21.here hx rfl (hb hby at_21) rfl ?_
    show Steps p.tables e below (T21.setTop (mkF m 22 #[.val (.int p1), .val (.ref o0), .unset, .unset, .unset] [(.int p1), (.ref a21), (.ref o1), (.ref o1)])) _
    refine XS.bipush X21.here hx rfl (hb hby at_22) ?_
    show Steps p.tables e below (T21.setTop (mkF m 24 #[.val (.int p1), .val (.ref o0), .unset, .unset, .unset] [(.int (64 : Int32)), (.int p1), (.ref a21), (.ref o1), (.ref o1)])) _
    refine XS.ior X21.here hx rfl (hb hby at_24) rfl ?_
    show Steps p.tables e below (T21.setTop (mkF m 25 #[.val (.int p1), .val (.ref o0), .unset, .unset, .unset] [(.int (p1 ||| (64 : Int32))), (.ref a21), (.ref o1), (.ref o1)])) _
    refine st30 _ ?_
    show Steps p.tables e below (T30.setTop (mkF m 27 #[.val (.int p1), .val (.ref o0), .unset, .unset, .unset] [(.ref a30), (.int (p1 ||| (64 : Int32))), (.ref a21), (.ref o1), (.ref o1)])) _
    refine XS.aconstNull X30.here hx rfl (hb hby at_27) ?_
    show Steps p.tables e below (T30.setTop (mkF m 28 #[.val (.int p1), .val (.ref o0), .unset, .unset, .unset] [.null, (.ref a30), (.int (p1 ||| (64 : Int32))), (.ref a21), (.ref o1), (.ref o1)])) _
    refine XS.aconstNull X30.here hx rfl (hb hby at_28) ?_
    show Steps p.tables e below (T30.setTop (mkF m 29 #[.val (.int p1), .val (.ref o0), .unset, .unset, .unset] [.null, .null, (.ref a30), (.int (p1 ||| (64 : Int32))), (.ref a21), (.ref o1), (.ref o1)])) _
    refine st39.trans ?_
    show Steps p.tables e below (T39.setTop (mkF m 32 #[.val (.int p1), .val (.ref o0), .unset, .unset, .unset] [(.ref o1)])) _
    refine XS.astoreN X39.here hx rfl (hb hby at_32) rfl rfl (l' := #[.val (.int p1), .val (.ref o0), .val (.ref o1), .unset, .unset]) rfl ?_
    show Steps p.tables e below (T39.setTop (mkF m 33 #[.val (.int p1), .val (.ref o0), .val (.ref o1), .unset, .unset] [])) _
    refine st43 _ ?_
    show Steps p.tables e below (T43.setTop (mkF m 36 #[.val (.int p1), .val (.ref o0), .val (.ref o1), .unset, .unset] [(.ref o2)])) _
    refine XS.dup X43.here hx rfl (hb hby at_36) rfl rfl ?_
    show Steps p.tables e below (T43.setTop (mkF m 37 #[.val (.int p1), .val (.ref o0), .val (.ref o1), .unset, .unset] [(.ref o2), (.ref o2)])) _
    refine st48 _ ?_
    show Steps p.tables e below (T48.setTop (mkF m 39 #[.val (.int p1), .val (.ref o0), .val (.ref o1), .unset, .unset] [(.ref a48), (.ref o2), (.ref o2)])) _
    refine XS.iloadN X48.here hx rfl (hb hby at_39) rfl ?_
    show Steps p.tables e below (T48.setTop (mkF m 40 #[.val (.int p1), .val (.ref o0), .val (.ref o1), .unset, .unset] [(.int p1), (.ref a48), (.ref o2), (.ref o2)])) _
    refine XS.bipush X48.here hx rfl (hb hby at_40) ?_
    show Steps p.tables e below (T48.setTop (mkF m 42 #[.val (.int p1), .val (.ref o0), .val (.ref o1), .unset, .unset] [(.int (-65 : Int32)), (.int p1), (.ref a48), (.ref o2), (.ref o2)])) _
    refine XS.iand X48.here hx rfl (hb hby at_42) rfl ?_
    show Steps p.tables e below (T48.setTop (mkF m 43 #[.val (.int p1), .val (.ref o0), .val (.ref o1), .unset, .unset] [(.int (p1 &&& (-65 : Int32))), (.ref a48), (.ref o2), (.ref o2)])) _
    refine st59 _ ?_
    show Steps p.tables e below (T59.setTop (mkF m 45 #[.val (.int p1), .val (.ref o0), .val (.ref o1), .unset, .unset] [(.ref a59), (.int (p1 &&& (-65 : Int32))), (.ref a48), (.ref o2), (.ref o2)])) _
    refine XS.aconstNull X59.here hx rfl (hb hby at_45) ?_
    show Steps p.tables e below (T59.setTop (mkF m 46 #[.val (.int p1), .val (.ref o0), .val (.ref o1), .unset, .unset] [.null, (.ref a59), (.int (p1 &&& (-65 : Int32))), (.ref a48), (.ref o2), (.ref o2)])) _
    refine XS.aconstNull X59.here hx rfl (hb hby at_46) ?_
    show Steps p.tables e below (T59.setTop (mkF m 47 #[.val (.int p1), .val (.ref o0), .val (.ref o1), .unset, .unset] [.null, .null, (.ref a59), (.int (p1 &&& (-65 : Int32))), (.ref a48), (.ref o2), (.ref o2)])) _
    refine st70.trans ?_
    show Steps p.tables e below (T70.setTop (mkF m 50 #[.val (.int p1), .val (.ref o0), .val (.ref o1), .unset, .unset] [(.ref o2)])) _
    refine XS.astoreN X70.here hx rfl (hb hby at_50) rfl rfl (l' := #[.val (.int p1), .val (.ref o0), .val (.ref o1), .val (.ref o2), .unset]) rfl ?_
    show Steps p.tables e below (T70.setTop (mkF m 51 #[.val (.int p1), .val (.ref o0), .val (.ref o1), .val (.ref o2), .unset] [])) _
    refine XS.iloadN X70.here hx rfl (hb hby at_51) rfl ?_
    show Steps p.tables e below (T70.setTop (mkF m 52 #[.val (.int p1), .val (.ref o0), .val (.ref o1), .val (.ref o2), .unset] [(.int p1)])) _
    refine XS.bipush X70.here hx rfl (hb hby at_52) ?_
    show Steps p.tables e below (T70.setTop (mkF m 54 #[.val (.int p1), .val (.ref o0), .val (.ref o1), .val (.ref o2), .unset] [(.int (6 : Int32)), (.int p1)])) _
    refine XS.iushr X70.here hx rfl (hb hby at_54) rfl ?_
    show Steps p.tables e below (T70.setTop (mkF m 55 #[.val (.int p1), .val (.ref o0), .val (.ref o1), .val (.ref o2), .unset] [(.int ((p1.toUInt32 >>> ((6 : Int32) &&& 31).toUInt32).toInt32))])) _
    refine XS.iconst X70.here hx rfl (hb hby at_55) ?_
    show Steps p.tables e below (T70.setTop (mkF m 56 #[.val (.int p1), .val (.ref o0), .val (.ref o1), .val (.ref o2), .unset] [(.int (1 : Int32)), (.int ((p1.toUInt32 >>> ((6 : Int32) &&& 31).toUInt32).toInt32))])) _
    refine XS.iand X70.here hx rfl (hb hby at_56) rfl ?_
    show Steps p.tables e below (T70.setTop (mkF m 57 #[.val (.int p1), .val (.ref o0), .val (.ref o1), .val (.ref o2), .unset] [(.int (((p1.toUInt32 >>> ((6 : Int32) &&& 31).toUInt32).toInt32) &&& (1 : Int32)))])) _
    refine XS.iconst X70.here hx rfl (hb hby at_57) ?_
    show Steps p.tables e below (T70.setTop (mkF m 58 #[.val (.int p1), .val (.ref o0), .val (.ref o1), .val (.ref o2), .unset] [(.int (1 : Int32)), (.int (((p1.toUInt32 >>> ((6 : Int32) &&& 31).toUInt32).toInt32) &&& (1 : Int32)))])) _
    refine XS.icmpYes X70.here hx rfl (pc0 := 58) (pc' := 65) rfl (hb hby at_58) rfl (feq hc58).2 (by decide) (by decide) ?_
    show Steps p.tables e below (T70.setTop (mkF m 65 #[.val (.int p1), .val (.ref o0), .val (.ref o1), .val (.ref o2), .unset] [])) _
    refine XS.iconst X70.here hx rfl (hb hby at_65) ?_
    show Steps p.tables e below (T70.setTop (mkF m 66 #[.val (.int p1), .val (.ref o0), .val (.ref o1), .val (.ref o2), .unset] [(.int (0 : Int32))])) _
    refine XS.istore X70.here hx rfl (hb hby at_66) rfl (l' := #[.val (.int p1), .val (.ref o0), .val (.ref o1), .val (.ref o2), .val (.int (0 : Int32))]) rfl ?_
    show Steps p.tables e below (T70.setTop (mkF m 68 #[.val (.int p1), .val (.ref o0), .val (.ref o1), .val (.ref o2), .val (.int (0 : Int32))] [])) _
    refine XS.aloadN X70.here hx rfl (hb hby at_68) rfl rfl ?_
    show Steps p.tables e below (T70.setTop (mkF m 69 #[.val (.int p1), .val (.ref o0), .val (.ref o1), .val (.ref o2), .val (.int (0 : Int32))] [(.ref o0)])) _
    refine st76.trans ?_
    show Steps p.tables e below (T76.setTop (mkF m 72 #[.val (.int p1), .val (.ref o0), .val (.ref o1), .val (.ref o2), .val (.int (0 : Int32))] [(.int (0 : Int32))])) _
    refine XS.iload X76.here hx rfl (hb hby at_72) rfl ?_
    show Steps p.tables e below (T76.setTop (mkF m 74 #[.val (.int p1), .val (.ref o0), .val (.ref o1), .val (.ref o2), .val (.int (0 : Int32))] [(.int (0 : Int32)), (.int (0 : Int32))])) _
    refine XS.icmpNo X76.here hx rfl (hb hby at_74) rfl (teq (rfl : (0 : Int32) = (0 : Int32))).2 ?_
    show Steps p.tables e below (T76.setTop (mkF m 77 #[.val (.int p1), .val (.ref o0), .val (.ref o1), .val (.ref o2), .val (.int (0 : Int32))] [])) _
    refine XS.aloadN X76.here hx rfl (hb hby at_77) rfl rfl ?_
    show Steps p.tables e below (T76.setTop (mkF m 78 #[.val (.int p1), .val (.ref o0), .val (.ref o1), .val (.ref o2), .val (.int (0 : Int32))] [(.ref o1)])) _
    refine st77.trans ?_
    show Steps p.tables e below (T77.setTop (mkF m 81 #[.val (.int p1), .val (.ref o0), .val (.ref o1), .val (.ref o2), .val (.int (0 : Int32))] [(.int (1 : Int32))])) _
    refine XS.ifNo X77.here hx rfl (hb hby at_81) rfl ((if0 _ _).trans (feq (by decide : ¬ ((1 : Int32) = (0 : Int32)))).1) ?_
    show Steps p.tables e below (T77.setTop (mkF m 84 #[.val (.int p1), .val (.ref o0), .val (.ref o1), .val (.ref o2), .val (.int (0 : Int32))] [])) _
    refine XS.aloadN X77.here hx rfl (hb hby at_84) rfl rfl ?_
    show Steps p.tables e below (T77.setTop (mkF m 85 #[.val (.int p1), .val (.ref o0), .val (.ref o1), .val (.ref o2), .val (.int (0 : Int32))] [(.ref o2)])) _
    refine st78.trans ?_
    show Steps p.tables e below (T78.setTop (mkF m 88 #[.val (.int p1), .val (.ref o0), .val (.ref o1), .val (.ref o2), .val (.int (0 : Int32))] [(.int (0 : Int32))])) _
    refine XS.ifNo X78.here hx rfl (hb hby at_88) rfl ((if0 _ _).trans (teq (rfl : (0 : Int32) = (0 : Int32))).2) ?_
    show Steps p.tables e below (T78.setTop (mkF m 91 #[.val (.int p1), .val (.ref o0), .val (.ref o1), .val (.ref o2), .val (.int (0 : Int32))] [])) _
    refine XS.iconst X78.here hx rfl (hb hby at_91) ?_
    show Steps p.tables e below (T78.setTop (mkF m 92 #[.val (.int p1), .val (.ref o0), .val (.ref o1), .val (.ref o2), .val (.int (0 : Int32))] [(.int (1 : Int32))])) _
    refine XS.goto X78.here hx rfl (pc0 := 92) (pc' := 96) rfl (hb hby at_92) (by decide) (by decide) ?_
    show Steps p.tables e below (T78.setTop (mkF m 96 #[.val (.int p1), .val (.ref o0), .val (.ref o1), .val (.ref o2), .val (.int (0 : Int32))] [(.int (1 : Int32))])) _
    exact retN X78 hx (t := .boolean) Bd.returns (by simp) (hb hby at_96) hr
  · show Q0 n0 _ _ _
    exact ⟨rfl, N78⟩
theorem rm0 (l : Launch) (Z : State) (a0 : Array Value) (hw : ∀ d ∈ tables_1, d.before a0 Z = true) (ws : List Jvm.Cond) (p1 : Int32) (h0 : Heap) (n0 : Nat) (Z0 : n0 ≤ h0.size)  :
    MetFree l x (head1 (Jvm.Cond.code x code maxLocals ret :: ws) room_1) (fun a U => a = #[(.int p1)] ∧ Z.Warmed39 U.vm ∧ U.heap = h0) (fun _ _ _ _ _ => True) (fun _ U o U' => ∃ v L, o = .returned v ∧ Q0 n0 v U'.heap L ∧ ReturnedEndW U o U' L room_1.cells room_1.slots) := by
  by_cases h : (((p1.toUInt32 >>> ((6 : Int32) &&& 31).toUInt32).toInt32) &&& (1 : Int32)) = (1 : Int32)
  · exact rm0f l Z a0 hw ws p1 h0 n0 Z0 h
  · exact rm0t l Z a0 hw ws p1 h0 n0 Z0 h
set_option maxRecDepth 65536 in
set_option maxHeartbeats 40000000 in
theorem comes_1 {Post : Tables → Env → Array Value → State → Outcome → State → Prop} (hpost : ∀ tb e args s v u, (limb_1_1.after args s (.returned v) u = true ∧ limb_1_2.after args s (.returned v) u = true ∧ True) → ReturnedEndW s (.returned v) u (Jvm.fieldLocs frame_1_writes args s ++ Jvm.arrayLocs frame_1_arrays args s ++ Jvm.staticLocs frame_1_statics s) 24 2176 → Post tb e args s (.returned v) u) :
    ArmFor flags0 classFile x code maxLocals ret World_1 tables_1 room_1 Calls_1 rest_1 Pre_1 Post := by
  intro l hfl _ _ p e ha hc hk s m args below hf hA hF happ hP
  obtain ⟨hcalls, hrest, hpre⟩ := hP
  obtain ⟨-, -, -, hnamed, -, -, -, hat⟩ := (Spec.applies_iff hf).mp happ
  obtain ⟨hg, hn⟩ := and_e (Cond.before_iff.mp (show (Jvm.Cond.and given_1 narrow_1).before args s = true from hpre))
  obtain ⟨g5, g6⟩ := and_e hg
  obtain ⟨w0, rfl⟩ : ∃ w0 : Value, args = #[w0] := by
    have hs : args.size = 1 := by simpa [Cond.value, given_1] using g5
    obtain ⟨L⟩ := args
    match L, hs with
    | [w0], _ => exact ⟨w0, rfl⟩
  have hw := fun d (hd : d ∈ tables_1) => atoms_spec (ws := Jvm.Cond.code x code maxLocals ret :: tables_1) hat d (List.mem_cons_of_mem _ hd)
  have hfit : Fit s := fun {y c} hc i hi => by
    obtain ⟨ha, rfl⟩ := Array.getElem?_eq_some_iff.mp hc
    have q := List.all_eq_true.mp ((Array.all_eq_true_iff_forall_mem.mp hF) _ (Array.getElem_mem ha)) i (List.mem_range.mpr hi)
    simpa [Array.getElem?_eq_getElem hi] using q
  obtain ⟨i0, ei0⟩ := is_v g6
  obtain rfl : w0 = (.int i0) := Option.some.inj ei0
  obtain ⟨n, o, h1, h2, h3, _, L, rfl, ⟨rfl, N⟩, hq⟩ := rm0 l s _ hw tables_1 i0 s.heap s.heap.size (Nat.le_refl _) p e ha hc hk s m _ below hf ((Spec.applies_iff_loose hf).mp happ).1 ⟨rfl, State.Warmed39.refl s, rfl⟩ trivial
  refine ⟨n, _, h1, h2, h3, hpost _ _ _ _ _ _ ⟨Cond.after_iff.mpr rfl, Cond.after_iff.mpr (eq_i res_at (Term.int_eval (1)) rfl), trivial⟩ ⟨hq.1, hq.2.1, hq.2.2.1, (hq.2.2.2.sift fun y hy => Or.inr (N y hy)).mono (by decide) (by decide)⟩⟩
theorem main_1_1 : Claimed_1_1 := comes_1 fun _ _ _ _ _ _ h hF => ⟨h.1, hF⟩
theorem main_1_2 : Claimed_1_2 := comes_1 fun _ _ _ _ _ _ h hF => ⟨h.2.1, hF⟩
end Jvm.Pilot.@@N@@
namespace Jvm.Pilot.@@N@@
open Jvm Jvm.ClassFile Sem Op Lib Jvm.Free Jvm.Stand Jvm.Pilot.@@N@@.Jvm.D
/-! MADE BY PROGRAM (witnessworld.py) out of the Statement's table words and the real class files: 15 classes; the members and pool entries that the words name. The judged class is class 1, her method 1. -/
namespace start1
open Jvm.ClassFile
def u (s : String) : CpInfo := .utf8 (stringToUtf16 s)
/-- a pool by its gaps: so many unusable entries, then the entry; so many at the end -/
def gap : Nat → List CpInfo → List CpInfo
  | 0, r => r
  | n + 1, r => .unusable :: gap n r
def poolList (es : List (Nat × CpInfo)) (last : Nat) : List CpInfo := es.foldr (fun e r => gap e.1 (e.2 :: r)) (gap last [])
def pool (es : List (Nat × CpInfo)) (last : Nat) : Array CpInfo := ⟨poolList es last⟩
def fileOf (pool : Array CpInfo) (this : Nat) (attrs : Array Attribute := #[]) (ms : Array MethodInfo := #[]) (fl : Nat := 33) (sup : Nat := 0) (ifs : Array Nat := #[]) (fds : Array FieldInfo := #[]) : ClassFile where
  minorVersion := 0
  majorVersion := 65
  constantPool := pool
  accessFlags := fl
  thisClass := this
  superClass := sup
  interfaces := ifs
  fields := fds
  methods := ms
  attributes := attrs
def plain (name : String) (sup : Option ClassId) : Class where
  name := name
  kind := .ordinary
  loader := none
  accessFlags := 33
  super := sup
  interfaces := #[]
  cf := none
  fields := #[]
  methods := #[]
  instanceTypes := #[]
  staticTypes := #[]
  resolved := #[]
  callSites := []
  init := .initialized
  statics := none
  mirror := none

def pool0 : Array CpInfo := pool [(5, u "<init>"), (0, u "()V"), (1, .class_ 10), (1, u "java/lang/Object")] 113

def k0c0 : Code := { maxStack := 0, maxLocals := 1, code := object_method_1_code, exceptionTable := #[], attributes := #[] }
def k0m0 : Method := { name := "<init>", desc := "()V", sig := { parameters := [], returnType := none }, accessFlags := 1, code := some k0c0 }
/-- java/lang/Object -/
def k0 : Class := { plain "java/lang/Object" none with
  accessFlags := 33
  interfaces := #[]
  cf := some (fileOf pool0 8 #[] #[{ accessFlags := 1, nameIndex := 5, descriptorIndex := 6, attributes := #[] }] 33 0 #[] #[])
  fields := #[]
  methods := #[k0m0]
  instanceTypes := #[]
  staticTypes := #[]
  resolved := Array.replicate 124 none
  statics := none }

def pool1 : Array CpInfo := pool [(2, .class_ 4), (1, u "java/lang/Object"), (0, u "<init>"), (0, u "()V"), (0, .class_ 8), (0, u "com/example/transaxle/transaxle/declarative/DeclaredMethods$Declaration"), (0, .string 10), (0, u "C"), (0, .string 12), (0, u "m"), (0, .methodref 7 14), (0, .nameAndType 5 15), (0, u "(Ljava/lang/String;ILjava/lang/String;Ljava/util/List;Ljava/util/Set;)V"), (0, .methodref 7 17), (0, .nameAndType 18 19), (0, u "isBridge"), (0, u "()Z"), (0, .class_ 21), (0, u "com/example/transaxle/transaxle/declarative/DeclarationIsBridgePinLaw"), (2, u "law"), (0, u "(I)Z")] 7

def k1m0 : Method := { name := "<init>", desc := "()V", sig := { parameters := [], returnType := none }, accessFlags := 2, code := none }
def k1c1 : Code := { maxStack := 7, maxLocals := 5, code := code, exceptionTable := #[], attributes := #[] }
def k1m1 : Method := { name := "law", desc := "(I)Z", sig := { parameters := [.int], returnType := some .boolean }, accessFlags := 9, code := some k1c1 }
/-- com/example/transaxle/transaxle/declarative/DeclarationIsBridgePinLaw -/
def k1 : Class := { plain "com/example/transaxle/transaxle/declarative/DeclarationIsBridgePinLaw" (some 0) with
  accessFlags := 49
  interfaces := #[]
  cf := some (fileOf pool1 20 #[] #[{ accessFlags := 2, nameIndex := 5, descriptorIndex := 6, attributes := #[] }, { accessFlags := 9, nameIndex := 24, descriptorIndex := 25, attributes := #[] }] 49 2 #[] #[])
  fields := #[]
  methods := #[k1m0, k1m1]
  instanceTypes := #[]
  staticTypes := #[]
  resolved := Array.replicate 33 none
  statics := none }

def pool2 : Array CpInfo := pool [(1, .methodref 2 3), (0, .class_ 4), (0, .nameAndType 5 6), (0, u "java/lang/Object"), (0, u "<init>"), (0, u "()V"), (0, .class_ 8), (0, u "java/lang/Record")] 13

def k2c0 : Code := { maxStack := 1, maxLocals := 1, code := jdk_30_method_1_code, exceptionTable := #[], attributes := #[] }
def k2m0 : Method := { name := "<init>", desc := "()V", sig := { parameters := [], returnType := none }, accessFlags := 4, code := some k2c0 }
/-- java/lang/Record -/
def k2 : Class := { plain "java/lang/Record" (some 0) with
  accessFlags := 1057
  interfaces := #[]
  cf := some (fileOf pool2 7 #[] #[{ accessFlags := 4, nameIndex := 5, descriptorIndex := 6, attributes := #[] }] 1057 2 #[] #[])
  fields := #[]
  methods := #[k2m0]
  instanceTypes := #[]
  staticTypes := #[]
  resolved := Array.replicate 22 none
  statics := none }

def pool3 : Array CpInfo := pool [(1, .class_ 2), (0, u "com/example/transaxle/transaxle/declarative/DeclaredMethods"), (0, .methodref 4 5), (0, .class_ 6), (0, .nameAndType 7 8), (0, u "java/lang/Record"), (0, u "<init>"), (0, u "()V"), (0, .fieldref 10 11), (0, .class_ 12), (0, .nameAndType 13 14), (0, u "com/example/transaxle/transaxle/declarative/DeclaredMethods$Declaration"), (0, u "owner"), (0, u "Ljava/lang/String;"), (0, .fieldref 10 16), (0, .nameAndType 17 18), (0, u "modifiers"), (0, u "I"), (0, .fieldref 10 20), (0, .nameAndType 21 14), (0, u "name"), (0, .fieldref 10 23), (0, .nameAndType 24 25), (0, u "parameterTypes"), (0, u "Ljava/util/List;"), (0, .fieldref 10 27), (0, .nameAndType 28 29), (0, u "annotationTypes"), (0, u "Ljava/util/Set;"), (23, u "(Ljava/lang/String;ILjava/lang/String;Ljava/util/List;Ljava/util/Set;)V"), (4, u "isBridge"), (0, u "()Z")] 43

def k3c0 : Code := { maxStack := 2, maxLocals := 6, code := prog_22_method_1_code, exceptionTable := #[], attributes := #[] }
def k3m0 : Method := { name := "<init>", desc := "(Ljava/lang/String;ILjava/lang/String;Ljava/util/List;Ljava/util/Set;)V", sig := { parameters := [(.object "java/lang/String"), .int, (.object "java/lang/String"), (.object "java/util/List"), (.object "java/util/Set")], returnType := none }, accessFlags := 0, code := some k3c0 }
def k3c1 : Code := { maxStack := 2, maxLocals := 1, code := prog_22_method_2_code, exceptionTable := #[], attributes := #[] }
def k3m1 : Method := { name := "isBridge", desc := "()Z", sig := { parameters := [], returnType := some .boolean }, accessFlags := 0, code := some k3c1 }
/-- com/example/transaxle/transaxle/declarative/DeclaredMethods$Declaration -/
def k3 : Class := { plain "com/example/transaxle/transaxle/declarative/DeclaredMethods$Declaration" (some 2) with
  accessFlags := 48
  interfaces := #[]
  cf := some (fileOf pool3 10 #[.nestHost 1] #[{ accessFlags := 0, nameIndex := 7, descriptorIndex := 53, attributes := #[] }, { accessFlags := 0, nameIndex := 58, descriptorIndex := 59, attributes := #[] }] 48 4 #[] #[{ accessFlags := 18, nameIndex := 13, descriptorIndex := 14, attributes := #[] }, { accessFlags := 18, nameIndex := 17, descriptorIndex := 18, attributes := #[] }, { accessFlags := 18, nameIndex := 21, descriptorIndex := 14, attributes := #[] }, { accessFlags := 18, nameIndex := 24, descriptorIndex := 25, attributes := #[] }, { accessFlags := 18, nameIndex := 28, descriptorIndex := 29, attributes := #[] }])
  fields := #[{ name := "owner", type := (.object "java/lang/String"), accessFlags := 18, slot := 0, constantValue := 0 }, { name := "modifiers", type := .int, accessFlags := 18, slot := 1, constantValue := 0 }, { name := "name", type := (.object "java/lang/String"), accessFlags := 18, slot := 2, constantValue := 0 }, { name := "parameterTypes", type := (.object "java/util/List"), accessFlags := 18, slot := 3, constantValue := 0 }, { name := "annotationTypes", type := (.object "java/util/Set"), accessFlags := 18, slot := 4, constantValue := 0 }]
  methods := #[k3m0, k3m1]
  instanceTypes := #[(.object "java/lang/String"), .int, (.object "java/lang/String"), (.object "java/util/List"), (.object "java/util/Set")]
  staticTypes := #[]
  resolved := Array.replicate 103 none
  statics := none }

def pool4 : Array CpInfo := pool [(1, .class_ 2), (0, u "java/io/Serializable"), (0, .class_ 4), (0, u "java/lang/Object")] 2

/-- java/io/Serializable -/
def k4 : Class := { plain "java/io/Serializable" (some 0) with
  accessFlags := 1537
  interfaces := #[]
  cf := some (fileOf pool4 1 #[] #[] 1537 3 #[] #[])
  fields := #[]
  methods := #[]
  instanceTypes := #[]
  staticTypes := #[]
  resolved := Array.replicate 7 none
  statics := none }

def pool5 : Array CpInfo := pool [(1, .class_ 2), (0, u "java/lang/Comparable"), (0, .class_ 4), (0, u "java/lang/Object")] 7

/-- java/lang/Comparable -/
def k5 : Class := { plain "java/lang/Comparable" (some 0) with
  accessFlags := 1537
  interfaces := #[]
  cf := some (fileOf pool5 1 #[] #[] 1537 3 #[] #[])
  fields := #[]
  methods := #[]
  instanceTypes := #[]
  staticTypes := #[]
  resolved := Array.replicate 12 none
  statics := none }

def pool6 : Array CpInfo := pool [(2, .class_ 4), (1, u "java/lang/CharSequence"), (42, .class_ 48), (0, u "java/lang/CharSequence$1CodePointIterator"), (10, .class_ 60), (0, u "java/lang/CharSequence$1CharIterator"), (5, .class_ 67), (0, u "java/lang/Object")] 63

/-- java/lang/CharSequence -/
def k6 : Class := { plain "java/lang/CharSequence" (some 0) with
  accessFlags := 1537
  interfaces := #[]
  cf := some (fileOf pool6 2 #[.nestMembers #[47, 59]] #[] 1537 66 #[] #[])
  fields := #[]
  methods := #[]
  instanceTypes := #[]
  staticTypes := #[]
  resolved := Array.replicate 131 none
  statics := none }

def pool7 : Array CpInfo := pool [(1, .class_ 2), (0, u "java/lang/constant/Constable"), (0, .class_ 4), (0, u "java/lang/Object")] 6

/-- java/lang/constant/Constable -/
def k7 : Class := { plain "java/lang/constant/Constable" (some 0) with
  accessFlags := 1537
  interfaces := #[]
  cf := some (fileOf pool7 1 #[] #[] 1537 3 #[] #[])
  fields := #[]
  methods := #[]
  instanceTypes := #[]
  staticTypes := #[]
  resolved := Array.replicate 11 none
  statics := none }

def pool8 : Array CpInfo := pool [(1, .class_ 2), (0, u "java/lang/constant/ConstantDesc"), (0, .class_ 4), (0, u "java/lang/Object")] 32

/-- java/lang/constant/ConstantDesc -/
def k8 : Class := { plain "java/lang/constant/ConstantDesc" (some 0) with
  accessFlags := 1537
  interfaces := #[]
  cf := some (fileOf pool8 1 #[] #[] 1537 3 #[] #[])
  fields := #[]
  methods := #[]
  instanceTypes := #[]
  staticTypes := #[]
  resolved := Array.replicate 37 none
  statics := none }

def pool9 : Array CpInfo := pool [(2, .class_ 4), (1, u "java/lang/Object"), (0, u "<init>"), (0, u "()V"), (3, .class_ 12), (1, u "java/lang/String"), (0, u "value"), (0, u "[B"), (2, u "coder"), (0, u "B"), (2, u "hash"), (0, u "I"), (2, u "hashIsZero"), (0, u "Z"), (13, u "COMPACT_STRINGS"), (534, .class_ 576), (0, u "java/lang/CharSequence"), (22, u "CASE_INSENSITIVE_ORDER"), (0, u "Ljava/util/Comparator;"), (500, u "serialPersistentFields"), (0, u "[Ljava/io/ObjectStreamField;"), (0, .class_ 1104), (0, u "java/lang/String$CaseInsensitiveComparator"), (1, .class_ 1107), (0, u "java/io/Serializable"), (0, .class_ 1109), (0, u "java/lang/Comparable"), (0, .class_ 1111), (0, u "java/lang/constant/Constable"), (0, .class_ 1113), (0, u "java/lang/constant/ConstantDesc"), (2, u "serialVersionUID"), (0, u "J"), (3, u "REPL"), (0, u "C"), (2, u "LATIN1"), (1, u "UTF16")] 323

def k9m0 : Method := { name := "<init>", desc := "()V", sig := { parameters := [], returnType := none }, accessFlags := 1, code := none }
/-- java/lang/String -/
def k9 : Class := { plain "java/lang/String" (some 0) with
  accessFlags := 49
  interfaces := #[4, 5, 6, 7, 8]
  cf := some (fileOf pool9 10 #[.nestMembers #[1103]] #[{ accessFlags := 1, nameIndex := 5, descriptorIndex := 6, attributes := #[] }] 49 2 #[1106, 1108, 575, 1110, 1112] #[{ accessFlags := 18, nameIndex := 13, descriptorIndex := 14, attributes := #[] }, { accessFlags := 18, nameIndex := 17, descriptorIndex := 18, attributes := #[] }, { accessFlags := 2, nameIndex := 21, descriptorIndex := 22, attributes := #[] }, { accessFlags := 2, nameIndex := 25, descriptorIndex := 26, attributes := #[] }, { accessFlags := 26, nameIndex := 1116, descriptorIndex := 1117, attributes := #[] }, { accessFlags := 24, nameIndex := 40, descriptorIndex := 26, attributes := #[] }, { accessFlags := 26, nameIndex := 1101, descriptorIndex := 1102, attributes := #[] }, { accessFlags := 26, nameIndex := 1121, descriptorIndex := 1122, attributes := #[] }, { accessFlags := 25, nameIndex := 599, descriptorIndex := 600, attributes := #[] }, { accessFlags := 24, nameIndex := 1125, descriptorIndex := 18, attributes := #[] }, { accessFlags := 24, nameIndex := 1127, descriptorIndex := 18, attributes := #[] }])
  fields := #[{ name := "value", type := (.array .byte), accessFlags := 18, slot := 0, constantValue := 0 }, { name := "coder", type := .byte, accessFlags := 18, slot := 1, constantValue := 0 }, { name := "hash", type := .int, accessFlags := 2, slot := 2, constantValue := 0 }, { name := "hashIsZero", type := .boolean, accessFlags := 2, slot := 3, constantValue := 0 }, { name := "serialVersionUID", type := .long, accessFlags := 26, slot := 0, constantValue := 0 }, { name := "COMPACT_STRINGS", type := .boolean, accessFlags := 24, slot := 1, constantValue := 0 }, { name := "serialPersistentFields", type := (.array (.object "java/io/ObjectStreamField")), accessFlags := 26, slot := 2, constantValue := 0 }, { name := "REPL", type := .char, accessFlags := 26, slot := 3, constantValue := 0 }, { name := "CASE_INSENSITIVE_ORDER", type := (.object "java/util/Comparator"), accessFlags := 25, slot := 4, constantValue := 0 }, { name := "LATIN1", type := .byte, accessFlags := 24, slot := 5, constantValue := 0 }, { name := "UTF16", type := .byte, accessFlags := 24, slot := 6, constantValue := 0 }]
  methods := #[k9m0]
  instanceTypes := #[(.array .byte), .byte, .int, .boolean]
  staticTypes := #[.long, .boolean, (.array (.object "java/io/ObjectStreamField")), .char, (.object "java/util/Comparator"), .byte, .byte]
  resolved := Array.replicate 1451 none
  statics := none }

def pool10 : Array CpInfo := pool [(1, u "java/lang/Cloneable"), (0, .class_ 1), (0, u "java/lang/Object"), (0, .class_ 3)] 3

/-- java/lang/Cloneable -/
def k10 : Class := { plain "java/lang/Cloneable" (some 0) with
  accessFlags := 1537
  interfaces := #[]
  cf := some (fileOf pool10 2 #[] #[] 1537 4 #[] #[])
  fields := #[]
  methods := #[]
  instanceTypes := #[]
  staticTypes := #[]
  resolved := Array.replicate 8 none
  statics := none }

/-- the primitive byte -/
def k11 : Class := { plain "byte" none with kind := .primitive 'B', accessFlags := 0x411 }
/-- [B -/
def k12 : Class := { plain "[B" (some 0) with kind := .array 11 .byte, interfaces := #[10, 4], accessFlags := 1041 }

/-- the primitive int -/
def k13 : Class := { plain "int" none with kind := .primitive 'I', accessFlags := 0x411 }
/-- [I -/
def k14 : Class := { plain "[I" (some 0) with kind := .array 13 .int, interfaces := #[10, 4], accessFlags := 1041 }

def heap : Heap := #[]
def classes : Array Class := #[k0, k1, k2, k3, k4, k5, k6, k7, k8, k9, k10, k11, k12, k13, k14]
def interned : List (Array UInt16 × Addr) := []
def slotsUsed : Nat := 0
def theMethod : MethodId := ⟨1, 1⟩
def args0 : Array Value := #[.int 5]
def aboutOver (below : List Frame) : State where
  vm := { classes := classes, interned := interned.toArray }
  heap := heap
  slotsUsed := slotsUsed
  threads := #[{ frames := .invoking theMethod args0 :: below }]
def below0 : List Frame := [.native { method := ⟨0, 0⟩, args := #[] }]
def about1 : State := aboutOver below0
def p0 : Program := .bare "" "" ""
def e0 : Env := launch0.env 0 0 0
theorem w_frames : about1.frames = Frame.invoking theMethod args0 :: below0 := rfl
set_option maxRecDepth 65536 in
theorem w_args : argsFit about1.vm theMethod args0 = true := by decide +kernel
set_option maxRecDepth 65536 in
theorem w_heap : heapFits about1 = true := by decide +kernel
set_option maxRecDepth 65536 in
theorem w_runnable : about1.curStatus? = some .runnable := by decide +kernel
set_option maxRecDepth 65536 in
theorem w_alone : about1.alone = true := by decide +kernel
set_option maxRecDepth 65536 in
theorem w_named : about1.methodNamed? x = some theMethod := by decide +kernel
set_option maxRecDepth 65536 in
theorem w_hears : about1.hears theMethod below0 = true := by decide +kernel
set_option maxRecDepth 65536 in
theorem w_ripe : about1.ripe theMethod args0 below0 = true := by decide +kernel
theorem w_running : about1.status = .running := rfl
set_option maxRecDepth 65536 in
theorem w_room : about1.hasRoom e0.platform room_1 = true :=
  launch0.hasRoom_least _ room_1 (by decide +kernel) (by decide +kernel) (by decide +kernel) (by decide +kernel) (by decide +kernel) (by decide +kernel)
theorem allAtoms_all (ts : List Jvm.Cond) (a : Array Jvm.Value) (st : Jvm.State) : (allAtoms ts).before a st = ts.all (fun c => c.before a st) := by
  induction ts with
  | nil => rfl
  | cons c t ih =>
    show (Jvm.Cond.and c (allAtoms t)).before a st = _
    rw [Jvm.Cond.before_and, ih, List.all_cons]
def words1 : List Jvm.Cond := Jvm.Cond.code x code maxLocals ret :: tables_1
/-- a 'code' word, met by the world's own term for the bytes: nothing is compared byte by byte -/
theorem code_word {y : MethodName} {bytes : ByteArray} {mx : Nat} {rt : Option FieldType} {a : Array Value} {s : State} {m : MethodId} {meth : Method} {c : Code} (h1 : s.methodNamed? y = some m) (h2 : s.vm.method? m = some meth) (h3 : meth.code = some c) (h4 : c.code = bytes)
    (h5 : (c.maxLocals == mx && c.exceptionTable.isEmpty && decide (c.maxStack ≤ mostOperands) && decide (meth.sig.returnType = rt) && !meth.locks && decide (parseMethodDescriptor y.desc = some meth.sig)) = true) : (Jvm.Cond.code y bytes mx rt).before a s = true := by
  simp only [Bool.and_eq_true, beq_iff_eq, Bool.not_eq_true', decide_eq_true_eq] at h5
  obtain ⟨⟨⟨⟨⟨g1, g2⟩, g3⟩, g4⟩, g5⟩, g6⟩ := h5
  simp [Cond.before, Cond.holds, Cond.value, h1, h2, h3, h4, g1, g2, g3, g4, g5, g6]
def isCode : Jvm.Cond → Bool
  | .code _ _ _ _ => true
  | _ => false
theorem all_split {L : List Jvm.Cond} {P : Jvm.Cond → Bool} (h1 : L.all (fun c => isCode c || P c) = true) (h2 : ∀ c ∈ L.filter isCode, P c = true) : L.all P = true := by
  refine List.all_eq_true.mpr fun c hc => ?_
  have h := List.all_eq_true.mp h1 c hc
  rcases Bool.eq_false_or_eq_true (isCode c) with hi | hi
  · exact h2 c (List.mem_filter.mpr ⟨hc, hi⟩)
  · simpa [hi] using h
set_option maxRecDepth 65536 in
theorem w_c0 : (Jvm.Cond.code x code maxLocals ret).before args0 about1 = true := code_word (m := ⟨1, 1⟩) (meth := k1m1) (c := k1c1) (by decide +kernel) rfl rfl rfl (by decide +kernel)
set_option maxRecDepth 65536 in
theorem w_c1 : (Jvm.Cond.code ({ cls := "com/example/transaxle/transaxle/declarative/DeclaredMethods$Declaration", name := "<init>", desc := "(Ljava/lang/String;ILjava/lang/String;Ljava/util/List;Ljava/util/Set;)V" } : Jvm.MethodName) prog_22_method_1_code (6 : Nat) (Option.none : Option Jvm.ClassFile.FieldType)).before args0 about1 = true := code_word (m := ⟨3, 0⟩) (meth := k3m0) (c := k3c0) (by decide +kernel) rfl rfl rfl (by decide +kernel)
set_option maxRecDepth 65536 in
theorem w_c2 : (Jvm.Cond.code ({ cls := "java/lang/Record", name := "<init>", desc := "()V" } : Jvm.MethodName) jdk_30_method_1_code (1 : Nat) (Option.none : Option Jvm.ClassFile.FieldType)).before args0 about1 = true := code_word (m := ⟨2, 0⟩) (meth := k2m0) (c := k2c0) (by decide +kernel) rfl rfl rfl (by decide +kernel)
set_option maxRecDepth 65536 in
theorem w_c3 : (Jvm.Cond.code ({ cls := "java/lang/Object", name := "<init>", desc := "()V" } : Jvm.MethodName) object_method_1_code (1 : Nat) (Option.none : Option Jvm.ClassFile.FieldType)).before args0 about1 = true := code_word (m := ⟨0, 0⟩) (meth := k0m0) (c := k0c0) (by decide +kernel) rfl rfl rfl (by decide +kernel)
set_option maxRecDepth 65536 in
theorem w_c4 : (Jvm.Cond.code ({ cls := "com/example/transaxle/transaxle/declarative/DeclaredMethods$Declaration", name := "isBridge", desc := "()Z" } : Jvm.MethodName) prog_22_method_2_code (1 : Nat) (Option.some Jvm.ClassFile.FieldType.boolean)).before args0 about1 = true := code_word (m := ⟨3, 1⟩) (meth := k3m1) (c := k3c1) (by decide +kernel) rfl rfl rfl (by decide +kernel)
def codes1 : List Jvm.Cond := [Jvm.Cond.code x code maxLocals ret, Jvm.Cond.code ({ cls := "com/example/transaxle/transaxle/declarative/DeclaredMethods$Declaration", name := "<init>", desc := "(Ljava/lang/String;ILjava/lang/String;Ljava/util/List;Ljava/util/Set;)V" } : Jvm.MethodName) prog_22_method_1_code (6 : Nat) (Option.none : Option Jvm.ClassFile.FieldType), Jvm.Cond.code ({ cls := "java/lang/Record", name := "<init>", desc := "()V" } : Jvm.MethodName) jdk_30_method_1_code (1 : Nat) (Option.none : Option Jvm.ClassFile.FieldType), Jvm.Cond.code ({ cls := "java/lang/Object", name := "<init>", desc := "()V" } : Jvm.MethodName) object_method_1_code (1 : Nat) (Option.none : Option Jvm.ClassFile.FieldType), Jvm.Cond.code ({ cls := "com/example/transaxle/transaxle/declarative/DeclaredMethods$Declaration", name := "isBridge", desc := "()Z" } : Jvm.MethodName) prog_22_method_2_code (1 : Nat) (Option.some Jvm.ClassFile.FieldType.boolean)]
set_option maxRecDepth 65536 in
theorem codes_eq : words1.filter isCode = codes1 := rfl
theorem w_codes : ∀ c ∈ words1.filter isCode, c.before args0 about1 = true := by
  rw [codes_eq]
  intro c hc
  simp only [codes1, List.mem_cons, List.not_mem_nil, or_false] at hc
  rcases hc with rfl | rfl | rfl | rfl | rfl
  · exact w_c0
  · exact w_c1
  · exact w_c2
  · exact w_c3
  · exact w_c4
set_option maxRecDepth 65536 in
theorem w_t1 : (words1.take 24).all (fun c => isCode c || c.before args0 about1) = true := by decide +kernel
set_option maxRecDepth 65536 in
theorem w_t2 : (words1.drop 24).all (fun c => isCode c || c.before args0 about1) = true := by decide +kernel
theorem w_tables : (allAtoms (Jvm.Cond.code x code maxLocals ret :: tables_1)).before args0 about1 = true := by
  rw [allAtoms_all]
  show words1.all (fun c => c.before args0 about1) = true
  refine all_split ?_ w_codes
  rw [← List.take_append_drop 24 words1, List.all_append, w_t1, w_t2]
  rfl
set_option maxRecDepth 65536 in
theorem w_case : (Jvm.Cond.and given_1 narrow_1).before args0 about1 = true := by decide +kernel
theorem w_applies : (headSpec (Jvm.Cond.code x code maxLocals ret :: tables_1) room_1).applies x e0.platform about1 = true :=
  (Spec.applies_iff w_frames).mpr ⟨w_running, w_runnable, w_alone, w_named, w_hears, w_ripe, w_room, w_tables⟩
theorem atStart : AtStart classFile x code maxLocals ret World_1 tables_1 room_1 Calls_1 rest_1 Pre_1 launch0 p0 e0 about1 theMethod args0 below0 :=
  ⟨lists_1, trivial, launch0.admits_env _ _ _, launch0.least_env, fairChoices_fair.cas, fairChoices_fair.clock, w_frames, w_args, w_heap, w_applies, trivial, trivial, w_case⟩
end start1
theorem witness_1 : WitnessClaimed_1 := ⟨start1.p0, start1.e0, start1.about1, start1.theMethod, start1.args0, start1.below0, start1.atStart⟩
end Jvm.Pilot.@@N@@
