import JvmDerived
import JvmDerived.Pilot.@@N@@Statement
import JvmDerived.Pilot.@@N@@Code
set_option linter.unusedVariables false
set_option linter.unusedSimpArgs false
namespace Jvm.RoadKit
open Sem ClassFile Op Lib Jvm.Stand Jvm.Free Jvm.LawKit
section New
variable {p : Program} {l : Launch} {e : Env} {R : Room} {s : State} {m : MethodId} {args : Array Value} {below : List Frame} {meth : Method} {c : Code} {T : State} {locs : List Loc} {cells slots : Nat}
theorem retI (X : Stand p l e R s m args below meth c T locs cells slots) (hx : p.tables.exec = Jvm.exec) {pc : Nat} {Ls : Array Slot} {z : Int32} {rest : List Value} (hret : meth.sig.returnType = some .int) (hd : decode c.code pc = .ok (.ireturn, 1)) {fs : List Frame}
    (hl : ∀ (f : JFrame) (acts : List Action), f.method = m → f.locked = none → f.entered = [] → (doReturn e (T.setTop f) acts (some (.int z))).1 = T.setFrames fs) : Steps p.tables e below (T.setTop (mkF m pc Ls (.int z :: rest))) (T.setFrames fs) := by
  have hm' : T.vm.method? m = some meth := X.method'
  have hn : narrow .int (.int z) = .int z := rfl
  show Steps p.tables e below (T.setTop { method := m, pc := pc, locals := Ls, stack := _ :: rest, locked := none }) _
  jvm_step X.here [X.here.top, hx, hd, hm', hret, hn]
  first | (intro acts; rw [hl _ acts rfl rfl rfl]) | rw [hl _ _ rfl rfl rfl]
  exact Steps.refl _
end New
end Jvm.RoadKit
namespace Jvm.Pilot.@@N@@
open Jvm Jvm.ClassFile Sem Op Lib Jvm.Free Jvm.Stand Jvm.LawKit Jvm.RoadKit Bundle Jvm.Pilot.@@N@@.Jvm.D
theorem own_mvM {Z s : State} {a0 args : Array Value} {own host : String} {y : MethodName} {index : Nat} (hZ : Z.Warmed39 s.vm) (w : (Cond.methodLinkNest own index y host).before a0 Z = true) : (Cond.methodLinkNest own index y host).before args s = true := (Cond.methodLinkNest_wide hZ w :)
theorem own_ne16 {c : Int32} (h : c < 16) : ¬ (c = (16 : Int32)) := fun e => by
  rw [e, Int32.lt_iff_toInt_lt] at h
  exact absurd h (by decide)
theorem own_take0 (us : List Value) (k : Nat) (v : Value) : (List.replicate k v).take (0 : Int32).toNatClampNeg ++ us ++ (List.replicate k v).drop ((0 : Int32).toNatClampNeg + k) = us := by
  have e : (0 : Int32).toNatClampNeg = 0 := by decide
  rw [e]; simp
theorem own_range (vs : List Value) (d : Value) (k : Nat) : (List.range k).map (fun i => vs.getD i d) = (List.range k).map (fun i => vs.getD ((0 : Int32).toNatClampNeg + i) d) := by
  have e : (0 : Int32).toNatClampNeg = 0 := by decide
  rw [e]; simp
theorem own_three {Z : State} {h : Heap} {b : Addr} {k : ClassId} {vs : List Value} {d : Value} (V : Arv Z h b k .int ((2 : Int32) + (1 : Int32)) vs d) : Arv Z h b k .int (3 : Int32) vs d := by
  rw [show (3 : Int32) = (2 : Int32) + (1 : Int32) from by decide]; exact V
theorem d1_0 : decode prog_158_method_1_code 0 = .ok (.aload_n 0, 1) := by decide +kernel
theorem d1_1 : decode prog_158_method_1_code 1 = .ok (.invokespecial 1, 3) := by decide +kernel
theorem d1_4 : decode prog_158_method_1_code 4 = .ok (.aload_n 0, 1) := by decide +kernel
theorem d1_5 : decode prog_158_method_1_code 5 = .ok (.bipush 16, 2) := by decide +kernel
theorem d1_7 : decode prog_158_method_1_code 7 = .ok (.newarray .int, 2) := by decide +kernel
theorem d1_9 : decode prog_158_method_1_code 9 = .ok (.putfield 7, 3) := by decide +kernel
theorem d1_12 : decode prog_158_method_1_code 12 = .ok (.aload_n 0, 1) := by decide +kernel
theorem d1_13 : decode prog_158_method_1_code 13 = .ok (.iload_n 1, 1) := by decide +kernel
theorem d1_14 : decode prog_158_method_1_code 14 = .ok (.iconst 1, 1) := by decide +kernel
theorem d1_15 : decode prog_158_method_1_code 15 = .ok (.iadd, 1) := by decide +kernel
theorem d1_16 : decode prog_158_method_1_code 16 = .ok (.newarray .int, 2) := by decide +kernel
theorem d1_18 : decode prog_158_method_1_code 18 = .ok (.putfield 13, 3) := by decide +kernel
theorem d1_21 : decode prog_158_method_1_code 21 = .ok (.return_, 1) := by decide +kernel
theorem pn_org_keyward_securitymodel_NumberLists_Builder : plainName "org/keyward/securitymodel/NumberLists$Builder" = true := by first | (simp [plainName, overriddenIn]; done) | decide +kernel
theorem ef_1 (m : MethodId) (x0 : Addr) (x1 : Int32) : entryFrame m #[(.ref x0), (.int x1)] 2 = mkF m 0 #[.val (.ref x0), .val (.int x1)] [] := by first | (simp [entryFrame, mkF, argsToLocals, Value.category]; done) | rfl
def Q1 (Z : State) (a1 : Addr) (h0 : Heap) (n0 : Nat) (v : Option Value) (h : Heap) (L : List Loc) : Prop := v = none ∧ Fr n0 L ∧ ∃ (nb sb : Addr) (kn ks : ClassId), Keep h0 h [a1] ∧ Exa Z h a1 "org/keyward/securitymodel/NumberLists$Builder" ∧ Fld Z h a1 "org/keyward/securitymodel/NumberLists$Builder" "numbers" "[I" (.ref nb) ∧ Fld Z h a1 "org/keyward/securitymodel/NumberLists$Builder" "starts" "[I" (.ref sb) ∧ Fld Z h a1 "org/keyward/securitymodel/NumberLists$Builder" "count" "I" (.int (0 : Int32)) ∧ Fld Z h a1 "org/keyward/securitymodel/NumberLists$Builder" "listed" "I" (.int (0 : Int32)) ∧ Arv Z h nb kn .int (16 : Int32) [(.int (0 : Int32)), (.int (0 : Int32)), (.int (0 : Int32)), (.int (0 : Int32)), (.int (0 : Int32)), (.int (0 : Int32)), (.int (0 : Int32)), (.int (0 : Int32)), (.int (0 : Int32)), (.int (0 : Int32)), (.int (0 : Int32)), (.int (0 : Int32)), (.int (0 : Int32)), (.int (0 : Int32)), (.int (0 : Int32)), (.int (0 : Int32))] (.int (0 : Int32)) ∧ Arv Z h sb ks .int (3 : Int32) [(.int (0 : Int32)), (.int (0 : Int32)), (.int (0 : Int32))] (.int (0 : Int32)) ∧ n0 ≤ nb ∧ n0 ≤ sb ∧ a1 ≠ nb ∧ a1 ≠ sb ∧ nb ≠ sb
set_option maxRecDepth 65536 in
set_option maxHeartbeats 40000000 in
theorem rm1 (l : Launch) (Z : State) (a0 : Array Value) (hw : ∀ d ∈ tables_1, d.before a0 Z = true) (ws : List Jvm.Cond) (a1 : Addr) (u1 u2 : Value) (h0 : Heap) (n0 : Nat) (Z0 : n0 ≤ h0.size) (E_a1 : Exa Z h0 a1 "org/keyward/securitymodel/NumberLists$Builder") (g_a1 : n0 ≤ a1) (F_numbers : Fld Z h0 a1 "org/keyward/securitymodel/NumberLists$Builder" "numbers" "[I" u1) (F_starts : Fld Z h0 a1 "org/keyward/securitymodel/NumberLists$Builder" "starts" "[I" u2) (F_count : Fld Z h0 a1 "org/keyward/securitymodel/NumberLists$Builder" "count" "I" (.int (0 : Int32))) (F_listed : Fld Z h0 a1 "org/keyward/securitymodel/NumberLists$Builder" "listed" "I" (.int (0 : Int32)))  :
    MetFree l (⟨"org/keyward/securitymodel/NumberLists$Builder", "<init>", "(I)V"⟩ : MethodName) (head1 (Jvm.Cond.code (⟨"org/keyward/securitymodel/NumberLists$Builder", "<init>", "(I)V"⟩ : MethodName) prog_158_method_1_code 2 none :: ws) ({ frames := 1, cells := 2, slots := 19, locals := 12 } : Room)) (fun a U => a = #[(.ref a1), (.int (2 : Int32))] ∧ Z.Warmed39 U.vm ∧ U.heap = h0) (fun _ _ _ _ _ => True) (fun _ U o U' => ∃ v L, o = .returned v ∧ Q1 Z a1 h0 n0 v U'.heap L ∧ FrameEnd U o U' L ({ frames := 1, cells := 2, slots := 19, locals := 12 } : Room).cells ({ frames := 1, cells := 2, slots := 19, locals := 12 } : Room).slots) := by
  refine MetFree.of_bodySF (plainFor_of_name pn_org_keyward_securitymodel_NumberLists_Builder) hisR ?_
  intro p e s m args below meth cd s₁ Bd hml0 hPre hKc
  obtain ⟨rfl, hZ, hHp⟩ := hPre
  have hx := Bd.exec
  have hby := Bd.bytes
  have hml : cd.maxLocals = 2 := hml0
  have hown : s.vm.findClass "org/keyward/securitymodel/NumberLists$Builder" = some m.cls := findClass_of_methodNamed Bd.named
  have hnm := (name_of_methodNamed Bd.named Bd.method).1
  have X0 : Stand p l e ({ frames := 1, cells := 2, slots := 19, locals := 12 } : Room) s m #[(.ref a1), (.int (2 : Int32))] below meth cd s₁ [] 0 0 := Stand.of_body Bd
  have e0 : s₁.heap = h0 := by rw [← hHp, Bd.state]; rfl
  have N0 := Fr.nil n0
  have pre0 : ∀ t, Steps p.tables e below (s₁.setTop (mkF m 0 #[.val (.ref a1), .val (.int (2 : Int32))] [])) t → Steps p.tables e below (s₁.setTop (entryFrame m #[(.ref a1), (.int (2 : Int32))] 2)) t := fun t k => castTop (ef_1 m a1 (2 : Int32)) k
  obtain ⟨T1, X1, e1, st1⟩ := initO X0 hx hZ hown (hw _ (List.mem_of_getElem? (i := 6) rfl)) (hw _ (List.mem_of_getElem? (i := 7) rfl)) (hw _ (List.mem_of_getElem? (i := 8) rfl)) e0 (g := (mkF m 1 #[.val (.ref a1), .val (.int (2 : Int32))] [(.ref a1)])) rfl (by rw [hml]; rfl) rfl (hb hby d1_1) (by decide) (W := 0) (by show 2 * 0 + _ ≤ _; exact Nat.le_of_eq rfl) (by decide)
  obtain ⟨T2, h2, k2, X2, e2, E2, A2, st2⟩ := newP X1 hx hZ (hw _ (List.mem_of_getElem? (i := 9) rfl)) e1 (g := (mkF m 7 #[.val (.ref a1), .val (.int (2 : Int32))] [(.int (16 : Int32)), (.ref a1)])) rfl (hb hby d1_7) rfl (by decide) (cap := 16) (by decide) (by decide) (Nat.le_of_ble_eq_true rfl) (Nat.le_of_ble_eq_true rfl)
  obtain ⟨nb, g2⟩ : ∃ z, z = h0.size := ⟨_, rfl⟩
  rw [← g2] at A2 st2
  have g_nb : n0 ≤ nb := Nat.le_trans Z0 (Nat.le_of_eq g2.symm)
  have sz_nb : h0.size ≤ nb := Nat.le_trans (Keep.refl h0 [a1]).1 (Nat.le_of_eq g2.symm)
  have ne_a1_nb : a1 ≠ nb := Nat.ne_of_lt (Nat.lt_of_lt_of_le E_a1.lt (Nat.le_of_eq g2.symm))
  have z2 : n0 ≤ h2.size := Nat.le_trans Z0 E2.1
  have f3_E_a1 := E_a1.ext E2
  have f4_F_a1_numbers := F_numbers.ext E2
  have f5_F_a1_starts := F_starts.ext E2
  have f6_F_a1_count := F_count.ext E2
  have f7_F_a1_listed := F_listed.ext E2
  have K8 : Keep h0 h2 [a1] := (Keep.refl h0 [a1]).ext E2
  have V_nb : Arv Z h2 nb k2 .int (16 : Int32) [(.int (0 : Int32)), (.int (0 : Int32)), (.int (0 : Int32)), (.int (0 : Int32)), (.int (0 : Int32)), (.int (0 : Int32)), (.int (0 : Int32)), (.int (0 : Int32)), (.int (0 : Int32)), (.int (0 : Int32)), (.int (0 : Int32)), (.int (0 : Int32)), (.int (0 : Int32)), (.int (0 : Int32)), (.int (0 : Int32)), (.int (0 : Int32))] (.int (0 : Int32)) := (Arv.new A2 (by decide)).pad (pad_rep [] (.int (0 : Int32)) 16)
  obtain ⟨T9, h9, X9, e9, W9, st9⟩ := putF X2 hx hZ hown (host := "") (Or.inl (hw _ (List.mem_of_getElem? (i := 10) rfl))) Via.refl e2 f4_F_a1_numbers f3_E_a1 (Or.inl (hw _ (List.mem_of_getElem? (i := 11) rfl))) (hw _ (List.mem_of_getElem? (i := 1) rfl)) (ty := (.array .int)) (by decide) rfl rfl (g := (mkF m 9 #[.val (.ref a1), .val (.int (2 : Int32))] [(.ref nb), (.ref a1)])) rfl rfl (hb hby d1_9)
  have f10_E_a1 := f3_E_a1.wr W9
  have f11_F_a1_starts := f5_F_a1_starts.other W9 (Or.inr (slot_ne (Or.inr (hw _ (List.mem_of_getElem? (i := 13) rfl))) (Or.inl (hw _ (List.mem_of_getElem? (i := 11) rfl))) (by decide) (t := (.array .int)) (t' := (.array .int)) (by decide) (by decide)))
  have f12_F_a1_count := f6_F_a1_count.other W9 (Or.inr (slot_ne (Or.inl (hw _ (List.mem_of_getElem? (i := 20) rfl))) (Or.inl (hw _ (List.mem_of_getElem? (i := 11) rfl))) (by decide) (t := .int) (t' := (.array .int)) (by decide) (by decide)))
  have f13_F_a1_listed := f7_F_a1_listed.other W9 (Or.inr (slot_ne (Or.inl (hw _ (List.mem_of_getElem? (i := 27) rfl))) (Or.inl (hw _ (List.mem_of_getElem? (i := 11) rfl))) (by decide) (t := .int) (t' := (.array .int)) (by decide) (by decide)))
  have f14_V_nb := V_nb.other W9 (Ne.symm ne_a1_nb)
  have fw9 := f4_F_a1_numbers.same W9
  have K15 : Keep h0 h9 [a1] := K8.wr W9 (Or.inl (List.mem_of_getElem? (i := 0) rfl))
  have N9 := Fr.snoc X9 N0 g_a1
  have z9 : n0 ≤ h9.size := Nat.le_trans z2 (Keep.of_wr W9).1
  obtain ⟨T16, h16, k16, X16, e16, E16, A16, st16⟩ := newP X9 hx hZ (hw _ (List.mem_of_getElem? (i := 9) rfl)) e9 (g := (mkF m 16 #[.val (.ref a1), .val (.int (2 : Int32))] [(.int ((2 : Int32) + (1 : Int32))), (.ref a1)])) rfl (hb hby d1_16) rfl (by decide) (cap := 3) (by decide) (by decide) (Nat.le_of_ble_eq_true rfl) (Nat.le_of_ble_eq_true rfl)
  obtain ⟨sb, g16⟩ : ∃ z, z = h9.size := ⟨_, rfl⟩
  rw [← g16] at A16 st16
  have g_sb : n0 ≤ sb := Nat.le_trans z9 (Nat.le_of_eq g16.symm)
  have sz_sb : h0.size ≤ sb := Nat.le_trans K15.1 (Nat.le_of_eq g16.symm)
  have ne_a1_sb : a1 ≠ sb := Nat.ne_of_lt (Nat.lt_of_lt_of_le f10_E_a1.lt (Nat.le_of_eq g16.symm))
  have ne_nb_sb : nb ≠ sb := Nat.ne_of_lt (Nat.lt_of_lt_of_le f14_V_nb.lt (Nat.le_of_eq g16.symm))
  have z16 : n0 ≤ h16.size := Nat.le_trans z9 E16.1
  have f17_E_a1 := f10_E_a1.ext E16
  have f18_F_a1_numbers := fw9.ext E16
  have f19_F_a1_starts := f11_F_a1_starts.ext E16
  have f20_F_a1_count := f12_F_a1_count.ext E16
  have f21_F_a1_listed := f13_F_a1_listed.ext E16
  have f22_V_nb := f14_V_nb.ext E16
  have K23 : Keep h0 h16 [a1] := K15.ext E16
  have V_sb := Arv.new A16 (by decide)
  obtain ⟨T24, h24, X24, e24, W24, st24⟩ := putF X16 hx hZ hown (host := "") (Or.inl (hw _ (List.mem_of_getElem? (i := 12) rfl))) Via.refl e16 f19_F_a1_starts f17_E_a1 (Or.inr ⟨(hw _ (List.mem_of_getElem? (i := 13) rfl)), rfl, hnm⟩) (hw _ (List.mem_of_getElem? (i := 1) rfl)) (ty := (.array .int)) (by decide) rfl rfl (g := (mkF m 18 #[.val (.ref a1), .val (.int (2 : Int32))] [(.ref sb), (.ref a1)])) rfl rfl (hb hby d1_18)
  have f25_E_a1 := f17_E_a1.wr W24
  have f26_F_a1_numbers := f18_F_a1_numbers.other W24 (Or.inr (slot_ne (Or.inl (hw _ (List.mem_of_getElem? (i := 11) rfl))) (Or.inr (hw _ (List.mem_of_getElem? (i := 13) rfl))) (by decide) (t := (.array .int)) (t' := (.array .int)) (by decide) (by decide)))
  have f27_F_a1_count := f20_F_a1_count.other W24 (Or.inr (slot_ne (Or.inl (hw _ (List.mem_of_getElem? (i := 20) rfl))) (Or.inr (hw _ (List.mem_of_getElem? (i := 13) rfl))) (by decide) (t := .int) (t' := (.array .int)) (by decide) (by decide)))
  have f28_F_a1_listed := f21_F_a1_listed.other W24 (Or.inr (slot_ne (Or.inl (hw _ (List.mem_of_getElem? (i := 27) rfl))) (Or.inr (hw _ (List.mem_of_getElem? (i := 13) rfl))) (by decide) (t := .int) (t' := (.array .int)) (by decide) (by decide)))
  have f29_V_nb := f22_V_nb.other W24 (Ne.symm ne_a1_nb)
  have f30_V_sb := V_sb.other W24 (Ne.symm ne_a1_sb)
  have fw24 := f19_F_a1_starts.same W24
  have K31 : Keep h0 h24 [a1] := K23.wr W24 (Or.inl (List.mem_of_getElem? (i := 0) rfl))
  have N24 := Fr.snoc X24 N9 g_a1
  have z24 : n0 ≤ h24.size := Nat.le_trans z16 (Keep.of_wr W24).1
  obtain ⟨fs, hr, hrun, hended, hW, hsame⟩ := X24.leave (v := none) (fun _ => rfl)
  refine ⟨_, _, pre0 _ ?_, hrun, hended, _, _, rfl, ?_, ⟨_, rfl⟩, hW, hsame.mono (by decide) (by decide)⟩
  · show Steps p.tables e below (s₁.setTop (mkF m 0 #[.val (.ref a1), .val (.int (2 : Int32))] [])) _
    refine XS.aloadN X0.here hx rfl (hb hby d1_0) rfl rfl ?_
    show Steps p.tables e below (s₁.setTop (mkF m 1 #[.val (.ref a1), .val (.int (2 : Int32))] [(.ref a1)])) _
    refine st1 _ ?_
    show Steps p.tables e below (T1.setTop (mkF m 4 #[.val (.ref a1), .val (.int (2 : Int32))] [])) _
    refine XS.aloadN X1.here hx rfl (hb hby d1_4) rfl rfl ?_
    show Steps p.tables e below (T1.setTop (mkF m 5 #[.val (.ref a1), .val (.int (2 : Int32))] [(.ref a1)])) _
    refine XS.bipush X1.here hx rfl (hb hby d1_5) ?_
    show Steps p.tables e below (T1.setTop (mkF m 7 #[.val (.ref a1), .val (.int (2 : Int32))] [(.int (16 : Int32)), (.ref a1)])) _
    refine st2 _ ?_
    show Steps p.tables e below (T2.setTop (mkF m 9 #[.val (.ref a1), .val (.int (2 : Int32))] [(.ref nb), (.ref a1)])) _
    refine st9 _ ?_
    show Steps p.tables e below (T9.setTop (mkF m 12 #[.val (.ref a1), .val (.int (2 : Int32))] [])) _
    refine XS.aloadN X9.here hx rfl (hb hby d1_12) rfl rfl ?_
    show Steps p.tables e below (T9.setTop (mkF m 13 #[.val (.ref a1), .val (.int (2 : Int32))] [(.ref a1)])) _
    refine XS.iloadN X9.here hx rfl (hb hby d1_13) rfl ?_
    show Steps p.tables e below (T9.setTop (mkF m 14 #[.val (.ref a1), .val (.int (2 : Int32))] [(.int (2 : Int32)), (.ref a1)])) _
    refine XS.iconst X9.here hx rfl (hb hby d1_14) ?_
    show Steps p.tables e below (T9.setTop (mkF m 15 #[.val (.ref a1), .val (.int (2 : Int32))] [(.int (1 : Int32)), (.int (2 : Int32)), (.ref a1)])) _
    refine XS.iadd X9.here hx rfl (hb hby d1_15) rfl ?_
    show Steps p.tables e below (T9.setTop (mkF m 16 #[.val (.ref a1), .val (.int (2 : Int32))] [(.int ((2 : Int32) + (1 : Int32))), (.ref a1)])) _
    refine st16 _ ?_
    show Steps p.tables e below (T16.setTop (mkF m 18 #[.val (.ref a1), .val (.int (2 : Int32))] [(.ref sb), (.ref a1)])) _
    refine st24 _ ?_
    show Steps p.tables e below (T24.setTop (mkF m 21 #[.val (.ref a1), .val (.int (2 : Int32))] [])) _
    exact X24.returnOut hx Bd.returns (hb hby d1_21) hr
  · show Q1 Z a1 h0 n0 _ T24.heap _
    rw [e24]
    exact ⟨rfl, N24, nb, sb, k2, k16, K31, f25_E_a1, f26_F_a1_numbers, fw24, f27_F_a1_count, f28_F_a1_listed, f29_V_nb, Arv.pad (vs' := [(.int (0 : Int32)), (.int (0 : Int32)), (.int (0 : Int32))]) (own_three f30_V_sb) (pad_rep [] (.int (0 : Int32)) 3), g_nb, g_sb, ne_a1_nb, ne_a1_sb, ne_nb_sb⟩
theorem d3_0 : decode prog_158_method_2_code 0 = .ok (.aload_n 0, 1) := by decide +kernel
theorem d3_1 : decode prog_158_method_2_code 1 = .ok (.getfield 16, 3) := by decide +kernel
theorem d3_4 : decode prog_158_method_2_code 4 = .ok (.aload_n 0, 1) := by decide +kernel
theorem d3_5 : decode prog_158_method_2_code 5 = .ok (.getfield 7, 3) := by decide +kernel
theorem d3_8 : decode prog_158_method_2_code 8 = .ok (.arraylength, 1) := by decide +kernel
theorem d3_9 : decode prog_158_method_2_code 9 = .ok (.if_icmp .ne 20, 3) := by decide +kernel
theorem d3_29 : decode prog_158_method_2_code 29 = .ok (.aload_n 0, 1) := by decide +kernel
theorem d3_30 : decode prog_158_method_2_code 30 = .ok (.getfield 7, 3) := by decide +kernel
theorem d3_33 : decode prog_158_method_2_code 33 = .ok (.aload_n 0, 1) := by decide +kernel
theorem d3_34 : decode prog_158_method_2_code 34 = .ok (.dup, 1) := by decide +kernel
theorem d3_35 : decode prog_158_method_2_code 35 = .ok (.getfield 16, 3) := by decide +kernel
theorem d3_38 : decode prog_158_method_2_code 38 = .ok (.dup_x1, 1) := by decide +kernel
theorem d3_39 : decode prog_158_method_2_code 39 = .ok (.iconst 1, 1) := by decide +kernel
theorem d3_40 : decode prog_158_method_2_code 40 = .ok (.iadd, 1) := by decide +kernel
theorem d3_41 : decode prog_158_method_2_code 41 = .ok (.putfield 16, 3) := by decide +kernel
theorem d3_44 : decode prog_158_method_2_code 44 = .ok (.iload_n 1, 1) := by decide +kernel
theorem d3_45 : decode prog_158_method_2_code 45 = .ok (.iastore, 1) := by decide +kernel
theorem d3_46 : decode prog_158_method_2_code 46 = .ok (.return_, 1) := by decide +kernel
theorem ef_3 (m : MethodId) (x0 : Addr) (x1 : Int32) : entryFrame m #[(.ref x0), (.int x1)] 2 = mkF m 0 #[.val (.ref x0), .val (.int x1)] [] := by first | (simp [entryFrame, mkF, argsToLocals, Value.category]; done) | rfl
def Q3 (Z : State) (a1 nb sb : Addr) (p2 c li : Int32) (kn : ClassId) (vs : List Value) (k : Nat) (h0 : Heap) (n0 : Nat) (v : Option Value) (h : Heap) (L : List Loc) : Prop := v = none ∧ Fr n0 L ∧ Keep h0 h [a1, nb] ∧ Exa Z h a1 "org/keyward/securitymodel/NumberLists$Builder" ∧ Fld Z h a1 "org/keyward/securitymodel/NumberLists$Builder" "numbers" "[I" (.ref nb) ∧ Fld Z h a1 "org/keyward/securitymodel/NumberLists$Builder" "starts" "[I" (.ref sb) ∧ Fld Z h a1 "org/keyward/securitymodel/NumberLists$Builder" "count" "I" (.int (c + (1 : Int32))) ∧ Fld Z h a1 "org/keyward/securitymodel/NumberLists$Builder" "listed" "I" (.int li) ∧ Arv Z h nb kn .int (16 : Int32) (vs.set k (.int p2)) (.int (0 : Int32))
set_option maxRecDepth 65536 in
set_option maxHeartbeats 40000000 in
theorem rm3 (l : Launch) (Z : State) (a0 : Array Value) (hw : ∀ d ∈ tables_1, d.before a0 Z = true) (ws : List Jvm.Cond) (a1 : Addr) (p2 : Int32) (nb sb : Addr) (c li : Int32) (kn : ClassId) (vs : List Value) (k : Nat) (h0 : Heap) (n0 : Nat) (Z0 : n0 ≤ h0.size) (E_a1 : Exa Z h0 a1 "org/keyward/securitymodel/NumberLists$Builder") (F_numbers : Fld Z h0 a1 "org/keyward/securitymodel/NumberLists$Builder" "numbers" "[I" (.ref nb)) (F_starts : Fld Z h0 a1 "org/keyward/securitymodel/NumberLists$Builder" "starts" "[I" (.ref sb)) (F_count : Fld Z h0 a1 "org/keyward/securitymodel/NumberLists$Builder" "count" "I" (.int c)) (F_listed : Fld Z h0 a1 "org/keyward/securitymodel/NumberLists$Builder" "listed" "I" (.int li)) (g_a1 : n0 ≤ a1) (g_nb : n0 ≤ nb) (ne : a1 ≠ nb) (V : Arv Z h0 nb kn .int (16 : Int32) vs (.int (0 : Int32))) (hc : ¬ c < 0 ∧ c < 16) (hk : c.toNatClampNeg = k) (hl : k < vs.length)  :
    MetFree l (⟨"org/keyward/securitymodel/NumberLists$Builder", "add", "(I)V"⟩ : MethodName) (head1 (Jvm.Cond.code (⟨"org/keyward/securitymodel/NumberLists$Builder", "add", "(I)V"⟩ : MethodName) prog_158_method_2_code 2 none :: ws) ({ frames := 0, cells := 0, slots := 0, locals := 0 } : Room)) (fun a U => a = #[(.ref a1), (.int p2)] ∧ Z.Warmed39 U.vm ∧ U.heap = h0) (fun _ _ _ _ _ => True) (fun _ U o U' => ∃ v L, o = .returned v ∧ Q3 Z a1 nb sb p2 c li kn vs k h0 n0 v U'.heap L ∧ FrameEnd U o U' L ({ frames := 0, cells := 0, slots := 0, locals := 0 } : Room).cells ({ frames := 0, cells := 0, slots := 0, locals := 0 } : Room).slots) := by
  refine MetFree.of_bodySF (plainFor_of_name pn_org_keyward_securitymodel_NumberLists_Builder) hisR ?_
  intro p e s m args below meth cd s₁ Bd hml0 hPre hKc
  obtain ⟨rfl, hZ, hHp⟩ := hPre
  have hx := Bd.exec
  have hby := Bd.bytes
  have hml : cd.maxLocals = 2 := hml0
  have hown : s.vm.findClass "org/keyward/securitymodel/NumberLists$Builder" = some m.cls := findClass_of_methodNamed Bd.named
  have hnm := (name_of_methodNamed Bd.named Bd.method).1
  have X0 : Stand p l e ({ frames := 0, cells := 0, slots := 0, locals := 0 } : Room) s m #[(.ref a1), (.int p2)] below meth cd s₁ [] 0 0 := Stand.of_body Bd
  have e0 : s₁.heap = h0 := by rw [← hHp, Bd.state]; rfl
  have N0 := Fr.nil n0
  have pre0 : ∀ t, Steps p.tables e below (s₁.setTop (mkF m 0 #[.val (.ref a1), .val (.int p2)] [])) t → Steps p.tables e below (s₁.setTop (entryFrame m #[(.ref a1), (.int p2)] 2)) t := fun t k => castTop (ef_3 m a1 p2) k
  obtain ⟨T1, X1, e1, st1⟩ := getF X0 hx hZ hown (host := "") (Or.inl (hw _ (List.mem_of_getElem? (i := 19) rfl))) Via.refl e0 F_count (g := (mkF m 1 #[.val (.ref a1), .val (.int p2)] [(.ref a1)])) rfl rfl (hb hby d3_1)
  obtain ⟨T2, X2, e2, st2⟩ := getF X1 hx hZ hown (host := "") (Or.inl (hw _ (List.mem_of_getElem? (i := 10) rfl))) Via.refl e1 F_numbers (g := (mkF m 5 #[.val (.ref a1), .val (.int p2)] [(.ref a1), (.int c)])) rfl rfl (hb hby d3_5)
  obtain ⟨c3, Ar3, -, S3, M3, -, -⟩ := (id V)
  obtain ⟨T4, X4, e4, st4⟩ := getF X2 hx hZ hown (host := "") (Or.inl (hw _ (List.mem_of_getElem? (i := 10) rfl))) Via.refl e2 F_numbers (g := (mkF m 30 #[.val (.ref a1), .val (.int p2)] [(.ref a1)])) rfl rfl (hb hby d3_30)
  obtain ⟨T5, X5, e5, st5⟩ := getF X4 hx hZ hown (host := "") (Or.inl (hw _ (List.mem_of_getElem? (i := 19) rfl))) Via.refl e4 F_count (g := (mkF m 35 #[.val (.ref a1), .val (.int p2)] [(.ref a1), (.ref a1), (.ref nb)])) rfl rfl (hb hby d3_35)
  obtain ⟨T6, h6, X6, e6, W6, st6⟩ := putF X5 hx hZ hown (host := "") (Or.inl (hw _ (List.mem_of_getElem? (i := 19) rfl))) Via.refl e5 F_count E_a1 (Or.inl (hw _ (List.mem_of_getElem? (i := 20) rfl))) (hw _ (List.mem_of_getElem? (i := 1) rfl)) (ty := .int) (by decide) rfl rfl (g := (mkF m 41 #[.val (.ref a1), .val (.int p2)] [(.int (c + (1 : Int32))), (.ref a1), (.int c), (.ref nb)])) rfl rfl (hb hby d3_41)
  have f7_E_a1 := E_a1.wr W6
  have f8_F_a1_numbers := F_numbers.other W6 (Or.inr (slot_ne (Or.inl (hw _ (List.mem_of_getElem? (i := 11) rfl))) (Or.inl (hw _ (List.mem_of_getElem? (i := 20) rfl))) (by decide) (t := (.array .int)) (t' := .int) (by decide) (by decide)))
  have f9_F_a1_starts := F_starts.other W6 (Or.inr (slot_ne (Or.inr (hw _ (List.mem_of_getElem? (i := 13) rfl))) (Or.inl (hw _ (List.mem_of_getElem? (i := 20) rfl))) (by decide) (t := (.array .int)) (t' := .int) (by decide) (by decide)))
  have f10_F_a1_listed := F_listed.other W6 (Or.inr (slot_ne (Or.inl (hw _ (List.mem_of_getElem? (i := 27) rfl))) (Or.inl (hw _ (List.mem_of_getElem? (i := 20) rfl))) (by decide) (t := .int) (t' := .int) (by decide) (by decide)))
  have f11_V_nb := V.other W6 (Ne.symm ne)
  have fw6 := F_count.same W6
  have K12 : Keep h0 h6 [a1, nb] := (Keep.refl h0 [a1, nb]).wr W6 (Or.inl (List.mem_of_getElem? (i := 0) rfl))
  have N6 := Fr.snoc X6 N0 g_a1
  have z6 : n0 ≤ h6.size := Nat.le_trans Z0 (Keep.of_wr W6).1
  obtain ⟨c13, Ar13, q13, S13, M13, H13, G13⟩ := (id f11_V_nb)
  have hin13 : ¬ (c < 0 ∨ c13.slots.size ≤ (c).toNatClampNeg) := inb_of S13 hc
  obtain ⟨T14, h14, X14, e14, W14, st14⟩ := stI X6 hx hZ e6 Ar13 (j := c) hin13 (g := (mkF m 45 #[.val (.ref a1), .val (.int p2)] [(.int p2), (.int c), (.ref nb)])) rfl rfl (hb hby d3_45)
  have f15_E_a1 := f7_E_a1.wr W14
  have f16_F_a1_numbers := f8_F_a1_numbers.other W14 (Or.inl ne)
  have f17_F_a1_starts := f9_F_a1_starts.other W14 (Or.inl ne)
  have f18_F_a1_count := fw6.other W14 (Or.inl ne)
  have f19_F_a1_listed := f10_F_a1_listed.other W14 (Or.inl ne)
  have V14 := Arv.set Ar13 q13 S13 M13 H13 G13 rfl W14 k hk hl
  have K20 : Keep h0 h14 [a1, nb] := K12.wr W14 (Or.inl (List.mem_of_getElem? (i := 1) rfl))
  have N14 := Fr.snoc X14 N6 g_nb
  have z14 : n0 ≤ h14.size := Nat.le_trans z6 (Keep.of_wr W14).1
  obtain ⟨fs, hr, hrun, hended, hW, hsame⟩ := X14.leave (v := none) (fun _ => rfl)
  refine ⟨_, _, pre0 _ ?_, hrun, hended, _, _, rfl, ?_, ⟨_, rfl⟩, hW, hsame.mono (by decide) (by decide)⟩
  · show Steps p.tables e below (s₁.setTop (mkF m 0 #[.val (.ref a1), .val (.int p2)] [])) _
    refine XS.aloadN X0.here hx rfl (hb hby d3_0) rfl rfl ?_
    show Steps p.tables e below (s₁.setTop (mkF m 1 #[.val (.ref a1), .val (.int p2)] [(.ref a1)])) _
    refine st1 _ ?_
    show Steps p.tables e below (T1.setTop (mkF m 4 #[.val (.ref a1), .val (.int p2)] [(.int c)])) _
    refine XS.aloadN X1.here hx rfl (hb hby d3_4) rfl rfl ?_
    show Steps p.tables e below (T1.setTop (mkF m 5 #[.val (.ref a1), .val (.int p2)] [(.ref a1), (.int c)])) _
    refine st2 _ ?_
    show Steps p.tables e below (T2.setTop (mkF m 8 #[.val (.ref a1), .val (.int p2)] [(.ref nb), (.int c)])) _
    refine X2.arraylength hx (by rw [e2]; exact Ar3.1) (State.isArrayOf_alike hZ.alike Ar3.2.1) (g := (mkF m 8 #[.val (.ref a1), .val (.int p2)] [(.ref nb), (.int c)])) rfl rfl (hb hby d3_8) _ ?_
    rw [len_of S3 M3]
    show Steps p.tables e below (T2.setTop (mkF m 9 #[.val (.ref a1), .val (.int p2)] [(.int (16 : Int32)), (.int c)])) _
    refine XS.icmpYes X2.here hx rfl (pc0 := 9) (pc' := 29) rfl (hb hby d3_9) rfl (feq (own_ne16 hc.2 : ¬ (c = (16 : Int32)))).2 (by decide) (by decide) ?_
    show Steps p.tables e below (T2.setTop (mkF m 29 #[.val (.ref a1), .val (.int p2)] [])) _
    refine XS.aloadN X2.here hx rfl (hb hby d3_29) rfl rfl ?_
    show Steps p.tables e below (T2.setTop (mkF m 30 #[.val (.ref a1), .val (.int p2)] [(.ref a1)])) _
    refine st4 _ ?_
    show Steps p.tables e below (T4.setTop (mkF m 33 #[.val (.ref a1), .val (.int p2)] [(.ref nb)])) _
    refine XS.aloadN X4.here hx rfl (hb hby d3_33) rfl rfl ?_
    show Steps p.tables e below (T4.setTop (mkF m 34 #[.val (.ref a1), .val (.int p2)] [(.ref a1), (.ref nb)])) _
    refine XS.dup X4.here hx rfl (hb hby d3_34) rfl rfl ?_
    show Steps p.tables e below (T4.setTop (mkF m 35 #[.val (.ref a1), .val (.int p2)] [(.ref a1), (.ref a1), (.ref nb)])) _
    refine st5 _ ?_
    show Steps p.tables e below (T5.setTop (mkF m 38 #[.val (.ref a1), .val (.int p2)] [(.int c), (.ref a1), (.ref nb)])) _
    refine XS.dupX1 X5.here hx rfl (hb hby d3_38) rfl rfl rfl ?_
    show Steps p.tables e below (T5.setTop (mkF m 39 #[.val (.ref a1), .val (.int p2)] [(.int c), (.ref a1), (.int c), (.ref nb)])) _
    refine XS.iconst X5.here hx rfl (hb hby d3_39) ?_
    show Steps p.tables e below (T5.setTop (mkF m 40 #[.val (.ref a1), .val (.int p2)] [(.int (1 : Int32)), (.int c), (.ref a1), (.int c), (.ref nb)])) _
    refine XS.iadd X5.here hx rfl (hb hby d3_40) rfl ?_
    show Steps p.tables e below (T5.setTop (mkF m 41 #[.val (.ref a1), .val (.int p2)] [(.int (c + (1 : Int32))), (.ref a1), (.int c), (.ref nb)])) _
    refine st6 _ ?_
    show Steps p.tables e below (T6.setTop (mkF m 44 #[.val (.ref a1), .val (.int p2)] [(.int c), (.ref nb)])) _
    refine XS.iloadN X6.here hx rfl (hb hby d3_44) rfl ?_
    show Steps p.tables e below (T6.setTop (mkF m 45 #[.val (.ref a1), .val (.int p2)] [(.int p2), (.int c), (.ref nb)])) _
    refine st14 _ ?_
    show Steps p.tables e below (T14.setTop (mkF m 46 #[.val (.ref a1), .val (.int p2)] [])) _
    exact X14.returnOut hx Bd.returns (hb hby d3_46) hr
  · show Q3 Z a1 nb sb p2 c li kn vs k h0 n0 _ T14.heap _
    rw [e14]
    exact ⟨rfl, N14, K20, f15_E_a1, f16_F_a1_numbers, f17_F_a1_starts, f18_F_a1_count, f19_F_a1_listed, V14⟩
theorem d4_0 : decode prog_158_method_3_code 0 = .ok (.aload_n 0, 1) := by decide +kernel
theorem d4_1 : decode prog_158_method_3_code 1 = .ok (.getfield 13, 3) := by decide +kernel
theorem d4_4 : decode prog_158_method_3_code 4 = .ok (.aload_n 0, 1) := by decide +kernel
theorem d4_5 : decode prog_158_method_3_code 5 = .ok (.dup, 1) := by decide +kernel
theorem d4_6 : decode prog_158_method_3_code 6 = .ok (.getfield 26, 3) := by decide +kernel
theorem d4_9 : decode prog_158_method_3_code 9 = .ok (.iconst 1, 1) := by decide +kernel
theorem d4_10 : decode prog_158_method_3_code 10 = .ok (.iadd, 1) := by decide +kernel
theorem d4_11 : decode prog_158_method_3_code 11 = .ok (.dup_x1, 1) := by decide +kernel
theorem d4_12 : decode prog_158_method_3_code 12 = .ok (.putfield 26, 3) := by decide +kernel
theorem d4_15 : decode prog_158_method_3_code 15 = .ok (.aload_n 0, 1) := by decide +kernel
theorem d4_16 : decode prog_158_method_3_code 16 = .ok (.getfield 16, 3) := by decide +kernel
theorem d4_19 : decode prog_158_method_3_code 19 = .ok (.iastore, 1) := by decide +kernel
theorem d4_20 : decode prog_158_method_3_code 20 = .ok (.return_, 1) := by decide +kernel
theorem ef_4 (m : MethodId) (x0 : Addr) : entryFrame m #[(.ref x0)] 1 = mkF m 0 #[.val (.ref x0)] [] := by first | (simp [entryFrame, mkF, argsToLocals, Value.category]; done) | rfl
def Q4 (Z : State) (a1 nb sb : Addr) (c li : Int32) (ks : ClassId) (vs : List Value) (k : Nat) (h0 : Heap) (n0 : Nat) (v : Option Value) (h : Heap) (L : List Loc) : Prop := v = none ∧ Fr n0 L ∧ Keep h0 h [a1, sb] ∧ Exa Z h a1 "org/keyward/securitymodel/NumberLists$Builder" ∧ Fld Z h a1 "org/keyward/securitymodel/NumberLists$Builder" "numbers" "[I" (.ref nb) ∧ Fld Z h a1 "org/keyward/securitymodel/NumberLists$Builder" "starts" "[I" (.ref sb) ∧ Fld Z h a1 "org/keyward/securitymodel/NumberLists$Builder" "count" "I" (.int c) ∧ Fld Z h a1 "org/keyward/securitymodel/NumberLists$Builder" "listed" "I" (.int (li + (1 : Int32))) ∧ Arv Z h sb ks .int (3 : Int32) (vs.set k (.int c)) (.int (0 : Int32))
set_option maxRecDepth 65536 in
set_option maxHeartbeats 40000000 in
theorem rm4 (l : Launch) (Z : State) (a0 : Array Value) (hw : ∀ d ∈ tables_1, d.before a0 Z = true) (ws : List Jvm.Cond) (a1 : Addr) (nb sb : Addr) (c li : Int32) (ks : ClassId) (vs : List Value) (k : Nat) (h0 : Heap) (n0 : Nat) (Z0 : n0 ≤ h0.size) (E_a1 : Exa Z h0 a1 "org/keyward/securitymodel/NumberLists$Builder") (F_numbers : Fld Z h0 a1 "org/keyward/securitymodel/NumberLists$Builder" "numbers" "[I" (.ref nb)) (F_starts : Fld Z h0 a1 "org/keyward/securitymodel/NumberLists$Builder" "starts" "[I" (.ref sb)) (F_count : Fld Z h0 a1 "org/keyward/securitymodel/NumberLists$Builder" "count" "I" (.int c)) (F_listed : Fld Z h0 a1 "org/keyward/securitymodel/NumberLists$Builder" "listed" "I" (.int li)) (g_a1 : n0 ≤ a1) (g_sb : n0 ≤ sb) (ne : a1 ≠ sb) (V : Arv Z h0 sb ks .int (3 : Int32) vs (.int (0 : Int32))) (hi : ¬ (li + (1 : Int32)) < 0 ∧ (li + (1 : Int32)) < 3) (hk : (li + (1 : Int32)).toNatClampNeg = k) (hl : k < vs.length)  :
    MetFree l (⟨"org/keyward/securitymodel/NumberLists$Builder", "end", "()V"⟩ : MethodName) (head1 (Jvm.Cond.code (⟨"org/keyward/securitymodel/NumberLists$Builder", "end", "()V"⟩ : MethodName) prog_158_method_3_code 1 none :: ws) ({ frames := 0, cells := 0, slots := 0, locals := 0 } : Room)) (fun a U => a = #[(.ref a1)] ∧ Z.Warmed39 U.vm ∧ U.heap = h0) (fun _ _ _ _ _ => True) (fun _ U o U' => ∃ v L, o = .returned v ∧ Q4 Z a1 nb sb c li ks vs k h0 n0 v U'.heap L ∧ FrameEnd U o U' L ({ frames := 0, cells := 0, slots := 0, locals := 0 } : Room).cells ({ frames := 0, cells := 0, slots := 0, locals := 0 } : Room).slots) := by
  refine MetFree.of_bodySF (plainFor_of_name pn_org_keyward_securitymodel_NumberLists_Builder) hisR ?_
  intro p e s m args below meth cd s₁ Bd hml0 hPre hKc
  obtain ⟨rfl, hZ, hHp⟩ := hPre
  have hx := Bd.exec
  have hby := Bd.bytes
  have hml : cd.maxLocals = 1 := hml0
  have hown : s.vm.findClass "org/keyward/securitymodel/NumberLists$Builder" = some m.cls := findClass_of_methodNamed Bd.named
  have hnm := (name_of_methodNamed Bd.named Bd.method).1
  have X0 : Stand p l e ({ frames := 0, cells := 0, slots := 0, locals := 0 } : Room) s m #[(.ref a1)] below meth cd s₁ [] 0 0 := Stand.of_body Bd
  have e0 : s₁.heap = h0 := by rw [← hHp, Bd.state]; rfl
  have N0 := Fr.nil n0
  have pre0 : ∀ t, Steps p.tables e below (s₁.setTop (mkF m 0 #[.val (.ref a1)] [])) t → Steps p.tables e below (s₁.setTop (entryFrame m #[(.ref a1)] 1)) t := fun t k => castTop (ef_4 m a1) k
  obtain ⟨T1, X1, e1, st1⟩ := getF X0 hx hZ hown (host := "") (Or.inl (hw _ (List.mem_of_getElem? (i := 12) rfl))) Via.refl e0 F_starts (g := (mkF m 1 #[.val (.ref a1)] [(.ref a1)])) rfl rfl (hb hby d4_1)
  obtain ⟨T2, X2, e2, st2⟩ := getF X1 hx hZ hown (host := "") (Or.inl (hw _ (List.mem_of_getElem? (i := 26) rfl))) Via.refl e1 F_listed (g := (mkF m 6 #[.val (.ref a1)] [(.ref a1), (.ref a1), (.ref sb)])) rfl rfl (hb hby d4_6)
  obtain ⟨T3, h3, X3, e3, W3, st3⟩ := putF X2 hx hZ hown (host := "") (Or.inl (hw _ (List.mem_of_getElem? (i := 26) rfl))) Via.refl e2 F_listed E_a1 (Or.inl (hw _ (List.mem_of_getElem? (i := 27) rfl))) (hw _ (List.mem_of_getElem? (i := 1) rfl)) (ty := .int) (by decide) rfl rfl (g := (mkF m 12 #[.val (.ref a1)] [(.int (li + (1 : Int32))), (.ref a1), (.int (li + (1 : Int32))), (.ref sb)])) rfl rfl (hb hby d4_12)
  have f4_E_a1 := E_a1.wr W3
  have f5_F_a1_numbers := F_numbers.other W3 (Or.inr (slot_ne (Or.inl (hw _ (List.mem_of_getElem? (i := 11) rfl))) (Or.inl (hw _ (List.mem_of_getElem? (i := 27) rfl))) (by decide) (t := (.array .int)) (t' := .int) (by decide) (by decide)))
  have f6_F_a1_starts := F_starts.other W3 (Or.inr (slot_ne (Or.inr (hw _ (List.mem_of_getElem? (i := 13) rfl))) (Or.inl (hw _ (List.mem_of_getElem? (i := 27) rfl))) (by decide) (t := (.array .int)) (t' := .int) (by decide) (by decide)))
  have f7_F_a1_count := F_count.other W3 (Or.inr (slot_ne (Or.inl (hw _ (List.mem_of_getElem? (i := 20) rfl))) (Or.inl (hw _ (List.mem_of_getElem? (i := 27) rfl))) (by decide) (t := .int) (t' := .int) (by decide) (by decide)))
  have f8_V_sb := V.other W3 (Ne.symm ne)
  have fw3 := F_listed.same W3
  have K9 : Keep h0 h3 [a1, sb] := (Keep.refl h0 [a1, sb]).wr W3 (Or.inl (List.mem_of_getElem? (i := 0) rfl))
  have N3 := Fr.snoc X3 N0 g_a1
  have z3 : n0 ≤ h3.size := Nat.le_trans Z0 (Keep.of_wr W3).1
  obtain ⟨T10, X10, e10, st10⟩ := getF X3 hx hZ hown (host := "") (Or.inl (hw _ (List.mem_of_getElem? (i := 19) rfl))) Via.refl e3 f7_F_a1_count (g := (mkF m 16 #[.val (.ref a1)] [(.ref a1), (.int (li + (1 : Int32))), (.ref sb)])) rfl rfl (hb hby d4_16)
  obtain ⟨c11, Ar11, q11, S11, M11, H11, G11⟩ := (id f8_V_sb)
  have hin11 : ¬ ((li + (1 : Int32)) < 0 ∨ c11.slots.size ≤ ((li + (1 : Int32))).toNatClampNeg) := inb_of S11 hi
  obtain ⟨T12, h12, X12, e12, W12, st12⟩ := stI X10 hx hZ e10 Ar11 (j := (li + (1 : Int32))) hin11 (g := (mkF m 19 #[.val (.ref a1)] [(.int c), (.int (li + (1 : Int32))), (.ref sb)])) rfl rfl (hb hby d4_19)
  have f13_E_a1 := f4_E_a1.wr W12
  have f14_F_a1_numbers := f5_F_a1_numbers.other W12 (Or.inl ne)
  have f15_F_a1_starts := f6_F_a1_starts.other W12 (Or.inl ne)
  have f16_F_a1_count := f7_F_a1_count.other W12 (Or.inl ne)
  have f17_F_a1_listed := fw3.other W12 (Or.inl ne)
  have V12 := Arv.set Ar11 q11 S11 M11 H11 G11 rfl W12 k hk hl
  have K18 : Keep h0 h12 [a1, sb] := K9.wr W12 (Or.inl (List.mem_of_getElem? (i := 1) rfl))
  have N12 := Fr.snoc X12 N3 g_sb
  have z12 : n0 ≤ h12.size := Nat.le_trans z3 (Keep.of_wr W12).1
  obtain ⟨fs, hr, hrun, hended, hW, hsame⟩ := X12.leave (v := none) (fun _ => rfl)
  refine ⟨_, _, pre0 _ ?_, hrun, hended, _, _, rfl, ?_, ⟨_, rfl⟩, hW, hsame.mono (by decide) (by decide)⟩
  · show Steps p.tables e below (s₁.setTop (mkF m 0 #[.val (.ref a1)] [])) _
    refine XS.aloadN X0.here hx rfl (hb hby d4_0) rfl rfl ?_
    show Steps p.tables e below (s₁.setTop (mkF m 1 #[.val (.ref a1)] [(.ref a1)])) _
    refine st1 _ ?_
    show Steps p.tables e below (T1.setTop (mkF m 4 #[.val (.ref a1)] [(.ref sb)])) _
    refine XS.aloadN X1.here hx rfl (hb hby d4_4) rfl rfl ?_
    show Steps p.tables e below (T1.setTop (mkF m 5 #[.val (.ref a1)] [(.ref a1), (.ref sb)])) _
    refine XS.dup X1.here hx rfl (hb hby d4_5) rfl rfl ?_
    show Steps p.tables e below (T1.setTop (mkF m 6 #[.val (.ref a1)] [(.ref a1), (.ref a1), (.ref sb)])) _
    refine st2 _ ?_
    show Steps p.tables e below (T2.setTop (mkF m 9 #[.val (.ref a1)] [(.int li), (.ref a1), (.ref sb)])) _
    refine XS.iconst X2.here hx rfl (hb hby d4_9) ?_
    show Steps p.tables e below (T2.setTop (mkF m 10 #[.val (.ref a1)] [(.int (1 : Int32)), (.int li), (.ref a1), (.ref sb)])) _
    refine XS.iadd X2.here hx rfl (hb hby d4_10) rfl ?_
    show Steps p.tables e below (T2.setTop (mkF m 11 #[.val (.ref a1)] [(.int (li + (1 : Int32))), (.ref a1), (.ref sb)])) _
    refine XS.dupX1 X2.here hx rfl (hb hby d4_11) rfl rfl rfl ?_
    show Steps p.tables e below (T2.setTop (mkF m 12 #[.val (.ref a1)] [(.int (li + (1 : Int32))), (.ref a1), (.int (li + (1 : Int32))), (.ref sb)])) _
    refine st3 _ ?_
    show Steps p.tables e below (T3.setTop (mkF m 15 #[.val (.ref a1)] [(.int (li + (1 : Int32))), (.ref sb)])) _
    refine XS.aloadN X3.here hx rfl (hb hby d4_15) rfl rfl ?_
    show Steps p.tables e below (T3.setTop (mkF m 16 #[.val (.ref a1)] [(.ref a1), (.int (li + (1 : Int32))), (.ref sb)])) _
    refine st10 _ ?_
    show Steps p.tables e below (T10.setTop (mkF m 19 #[.val (.ref a1)] [(.int c), (.int (li + (1 : Int32))), (.ref sb)])) _
    refine st12 _ ?_
    show Steps p.tables e below (T12.setTop (mkF m 20 #[.val (.ref a1)] [])) _
    exact X12.returnOut hx Bd.returns (hb hby d4_20) hr
  · show Q4 Z a1 nb sb c li ks vs k h0 n0 _ T12.heap _
    rw [e12]
    exact ⟨rfl, N12, K18, f13_E_a1, f14_F_a1_numbers, f15_F_a1_starts, f16_F_a1_count, f17_F_a1_listed, V12⟩
theorem d7_0 : decode jdk_29_method_69_code 0 = .ok (.iload_n 0, 1) := by decide +kernel
theorem d7_1 : decode jdk_29_method_69_code 1 = .ok (.iload_n 1, 1) := by decide +kernel
theorem d7_2 : decode jdk_29_method_69_code 2 = .ok (.if_icmp .gt 7, 3) := by decide +kernel
theorem d7_9 : decode jdk_29_method_69_code 9 = .ok (.iload_n 1, 1) := by decide +kernel
theorem d7_10 : decode jdk_29_method_69_code 10 = .ok (.ireturn, 1) := by decide +kernel
theorem ef_7 (m : MethodId) (x0 : Int32) (x1 : Int32) : entryFrame m #[(.int x0), (.int x1)] 2 = mkF m 0 #[.val (.int x0), .val (.int x1)] [] := by first | (simp [entryFrame, mkF, argsToLocals, Value.category]; done) | rfl
def Q7 (r : Int32) (h0 : Heap) (n0 : Nat) (v : Option Value) (h : Heap) (L : List Loc) : Prop := v = some (.int r) ∧ Fr n0 L ∧ h = h0
set_option maxRecDepth 65536 in
set_option maxHeartbeats 40000000 in
theorem rm7 (l : Launch) (Z : State) (a0 : Array Value) (hw : ∀ d ∈ tables_1, d.before a0 Z = true) (ws : List Jvm.Cond) (p1 p2 : Int32) (h0 : Heap) (n0 : Nat) (Z0 : n0 ≤ h0.size)  (hc2 : p2 < p1) :
    MetFree l (⟨"java/lang/Math", "min", "(II)I"⟩ : MethodName) (head1 (Jvm.Cond.code (⟨"java/lang/Math", "min", "(II)I"⟩ : MethodName) jdk_29_method_69_code 2 (some .int) :: ws) ({ frames := 0, cells := 0, slots := 0, locals := 0 } : Room)) (fun a U => a = #[(.int p1), (.int p2)] ∧ Z.Warmed39 U.vm ∧ U.heap = h0) (fun _ _ _ _ _ => True) (fun _ U o U' => ∃ v L, o = .returned v ∧ Q7 p2 h0 n0 v U'.heap L ∧ FrameEnd U o U' L ({ frames := 0, cells := 0, slots := 0, locals := 0 } : Room).cells ({ frames := 0, cells := 0, slots := 0, locals := 0 } : Room).slots) := by
  refine MetFree.of_bodySF (Jvm.Free.JP.mathPlain rfl (by decide +kernel)) hisR ?_
  intro p e s m args below meth cd s₁ Bd hml0 hPre hKc
  obtain ⟨rfl, hZ, hHp⟩ := hPre
  have hx := Bd.exec
  have hby := Bd.bytes
  have hml : cd.maxLocals = 2 := hml0
  have hown : s.vm.findClass "java/lang/Math" = some m.cls := findClass_of_methodNamed Bd.named
  have hnm := (name_of_methodNamed Bd.named Bd.method).1
  have X0 : Stand p l e ({ frames := 0, cells := 0, slots := 0, locals := 0 } : Room) s m #[(.int p1), (.int p2)] below meth cd s₁ [] 0 0 := Stand.of_body Bd
  have e0 : s₁.heap = h0 := by rw [← hHp, Bd.state]; rfl
  have N0 := Fr.nil n0
  have pre0 : ∀ t, Steps p.tables e below (s₁.setTop (mkF m 0 #[.val (.int p1), .val (.int p2)] [])) t → Steps p.tables e below (s₁.setTop (entryFrame m #[(.int p1), (.int p2)] 2)) t := fun t k => castTop (ef_7 m p1 p2) k
  obtain ⟨fs, hr, hrun, hended, hW, hsame⟩ := X0.leave (v := some (.int p2)) (fun h => by rw [Bd.returns] at h; cases h)
  refine ⟨_, _, pre0 _ ?_, hrun, hended, _, _, rfl, ?_, ⟨_, rfl⟩, hW, hsame.mono (by decide) (by decide)⟩
  · show Steps p.tables e below (s₁.setTop (mkF m 0 #[.val (.int p1), .val (.int p2)] [])) _
    refine XS.iloadN X0.here hx rfl (hb hby d7_0) rfl ?_
    show Steps p.tables e below (s₁.setTop (mkF m 1 #[.val (.int p1), .val (.int p2)] [(.int p1)])) _
    refine XS.iloadN X0.here hx rfl (hb hby d7_1) rfl ?_
    show Steps p.tables e below (s₁.setTop (mkF m 2 #[.val (.int p1), .val (.int p2)] [(.int p2), (.int p1)])) _
    refine XS.icmpYes X0.here hx rfl (pc0 := 2) (pc' := 9) rfl (hb hby d7_2) rfl (tlt hc2).2.2.1 (by decide) (by decide) ?_
    show Steps p.tables e below (s₁.setTop (mkF m 9 #[.val (.int p1), .val (.int p2)] [])) _
    refine XS.iloadN X0.here hx rfl (hb hby d7_9) rfl ?_
    show Steps p.tables e below (s₁.setTop (mkF m 10 #[.val (.int p1), .val (.int p2)] [(.int p2)])) _
    exact retI X0 hx Bd.returns (hb hby d7_10) hr
  · show Q7 p2 h0 n0 _ s₁.heap _
    rw [e0]
    exact ⟨rfl, N0, rfl⟩
theorem own_le16 {k : Nat} (h : k ≤ 3) : (0 : Int32).toNatClampNeg + k ≤ (16 : Int32).toNatClampNeg := by
  have e : (0 : Int32).toNatClampNeg = 0 := by decide
  have e2 : (16 : Int32).toNatClampNeg = 16 := by decide
  rw [e, e2]; omega
theorem d6_0 : decode jdk_65_method_123_code 0 = .ok (.iload_n 1, 1) := by decide +kernel
theorem d6_1 : decode jdk_65_method_123_code 1 = .ok (.aload_n 0, 1) := by decide +kernel
theorem d6_2 : decode jdk_65_method_123_code 2 = .ok (.arraylength, 1) := by decide +kernel
theorem d6_3 : decode jdk_65_method_123_code 3 = .ok (.if_icmp .ne 11, 3) := by decide +kernel
theorem d6_14 : decode jdk_65_method_123_code 14 = .ok (.iload_n 1, 1) := by decide +kernel
theorem d6_15 : decode jdk_65_method_123_code 15 = .ok (.newarray .int, 2) := by decide +kernel
theorem d6_17 : decode jdk_65_method_123_code 17 = .ok (.astore_n 2, 1) := by decide +kernel
theorem d6_18 : decode jdk_65_method_123_code 18 = .ok (.aload_n 0, 1) := by decide +kernel
theorem d6_19 : decode jdk_65_method_123_code 19 = .ok (.iconst 0, 1) := by decide +kernel
theorem d6_20 : decode jdk_65_method_123_code 20 = .ok (.aload_n 2, 1) := by decide +kernel
theorem d6_21 : decode jdk_65_method_123_code 21 = .ok (.iconst 0, 1) := by decide +kernel
theorem d6_22 : decode jdk_65_method_123_code 22 = .ok (.aload_n 0, 1) := by decide +kernel
theorem d6_23 : decode jdk_65_method_123_code 23 = .ok (.arraylength, 1) := by decide +kernel
theorem d6_24 : decode jdk_65_method_123_code 24 = .ok (.iload_n 1, 1) := by decide +kernel
theorem d6_25 : decode jdk_65_method_123_code 25 = .ok (.invokestatic 304, 3) := by decide +kernel
theorem d6_28 : decode jdk_65_method_123_code 28 = .ok (.invokestatic 150, 3) := by decide +kernel
theorem d6_31 : decode jdk_65_method_123_code 31 = .ok (.aload_n 2, 1) := by decide +kernel
theorem d6_32 : decode jdk_65_method_123_code 32 = .ok (.areturn, 1) := by decide +kernel
theorem pd__II_I : parseMethodDescriptor "(II)I" = some ⟨[.int, .int], some .int⟩ := by decide +kernel
theorem pn_java_util_Arrays : plainName "java/util/Arrays" = true := by first | (simp [plainName, overriddenIn]; done) | decide +kernel
theorem ef_6 (m : MethodId) (x0 : Addr) (x1 : Int32) : entryFrame m #[(.ref x0), (.int x1)] 3 = mkF m 0 #[.val (.ref x0), .val (.int x1), .unset] [] := by first | (simp [entryFrame, mkF, argsToLocals, Value.category]; done) | rfl
def Q6 (Z : State) (c : Int32) (vs : List Value) (k : Nat) (h0 : Heap) (n0 : Nat) (v : Option Value) (h : Heap) (L : List Loc) : Prop := ∃ (mb : Addr) (km : ClassId), v = some (.ref mb) ∧ Fr n0 L ∧ Keep h0 h [] ∧ h0.size ≤ mb ∧ n0 ≤ mb ∧ Arv Z h mb km .int c ((List.range k).map fun i => vs.getD i (.int (0 : Int32))) (.int (0 : Int32))
set_option maxRecDepth 65536 in
set_option maxHeartbeats 40000000 in
theorem rm6 (l : Launch) (Z : State) (a0 : Array Value) (hw : ∀ d ∈ tables_1, d.before a0 Z = true) (ws : List Jvm.Cond) (nb : Addr) (c : Int32) (kn : ClassId) (vs : List Value) (k : Nat) (h0 : Heap) (n0 : Nat) (Z0 : n0 ≤ h0.size) (V : Arv Z h0 nb kn .int (16 : Int32) vs (.int (0 : Int32))) (hc : ¬ c < 0 ∧ c < 16) (hk : c.toNatClampNeg = k) (hk3 : k ≤ 3)  :
    MetFree l (⟨"java/util/Arrays", "copyOf", "([II)[I"⟩ : MethodName) (head1 (Jvm.Cond.code (⟨"java/util/Arrays", "copyOf", "([II)[I"⟩ : MethodName) jdk_65_method_123_code 3 (some (.array .int)) :: ws) ({ frames := 1, cells := 1, slots := 3, locals := 18 } : Room)) (fun a U => a = #[(.ref nb), (.int c)] ∧ Z.Warmed39 U.vm ∧ U.heap = h0) (fun _ _ _ _ _ => True) (fun _ U o U' => ∃ v L, o = .returned v ∧ Q6 Z c vs k h0 n0 v U'.heap L ∧ FrameEnd U o U' L ({ frames := 1, cells := 1, slots := 3, locals := 18 } : Room).cells ({ frames := 1, cells := 1, slots := 3, locals := 18 } : Room).slots) := by
  refine MetFree.of_bodySF (plainFor_of_name pn_java_util_Arrays) hisR ?_
  intro p e s m args below meth cd s₁ Bd hml0 hPre hKc
  obtain ⟨rfl, hZ, hHp⟩ := hPre
  have hx := Bd.exec
  have hby := Bd.bytes
  have hml : cd.maxLocals = 3 := hml0
  have hown : s.vm.findClass "java/util/Arrays" = some m.cls := findClass_of_methodNamed Bd.named
  have hnm := (name_of_methodNamed Bd.named Bd.method).1
  have X0 : Stand p l e ({ frames := 1, cells := 1, slots := 3, locals := 18 } : Room) s m #[(.ref nb), (.int c)] below meth cd s₁ [] 0 0 := Stand.of_body Bd
  have e0 : s₁.heap = h0 := by rw [← hHp, Bd.state]; rfl
  have N0 := Fr.nil n0
  have pre0 : ∀ t, Steps p.tables e below (s₁.setTop (mkF m 0 #[.val (.ref nb), .val (.int c), .unset] [])) t → Steps p.tables e below (s₁.setTop (entryFrame m #[(.ref nb), (.int c)] 3)) t := fun t k => castTop (ef_6 m nb c) k
  obtain ⟨c1, Ar1, -, S1, M1, -, -⟩ := (id V)
  obtain ⟨T2, h2, k2, X2, e2, E2, A2, st2⟩ := newP X0 hx hZ (hw _ (List.mem_of_getElem? (i := 9) rfl)) e0 (g := (mkF m 15 #[.val (.ref nb), .val (.int c), .unset] [(.int c)])) rfl (hb hby d6_15) rfl hc.1 (cap := 3) (by rw [hk]; exact hk3) (by decide) (Nat.le_of_ble_eq_true rfl) (Nat.le_of_ble_eq_true rfl)
  obtain ⟨mb, g2⟩ : ∃ z, z = h0.size := ⟨_, rfl⟩
  rw [← g2] at A2 st2
  have g_mb : n0 ≤ mb := Nat.le_trans Z0 (Nat.le_of_eq g2.symm)
  have sz_mb : h0.size ≤ mb := Nat.le_trans (Keep.refl h0 []).1 (Nat.le_of_eq g2.symm)
  have ne_nb_mb : nb ≠ mb := Nat.ne_of_lt (Nat.lt_of_lt_of_le V.lt (Nat.le_of_eq g2.symm))
  have z2 : n0 ≤ h2.size := Nat.le_trans Z0 E2.1
  have f3_V_nb := V.ext E2
  have K4 : Keep h0 h2 [] := (Keep.refl h0 []).ext E2
  have V_mb := Arv.new A2 hc.1
  obtain ⟨c5, Ar5, -, S5, M5, -, -⟩ := (id f3_V_nb)
  obtain ⟨_, _, ⟨T6, L6, k6, n6⟩, -, X6, ⟨Lc6, hQ6, l6, y6, z6⟩, st6⟩ := Jvm.LawKit.callS X2 hx (y := (⟨"java/lang/Math", "min", "(II)I"⟩ : MethodName)) hown (mvT hZ (hw _ (List.mem_of_getElem? (i := 40) rfl))) (mvT hZ (hw _ (List.mem_of_getElem? (i := 41) rfl))) (mvT hZ (hw _ (List.mem_of_getElem? (i := 42) rfl))) (mvT hZ (hw _ (List.mem_of_getElem? (i := 43) rfl))) (by decide) (backOf (W := 4) (rm7 l Z a0 hw [] (16 : Int32) c h2 n0 z2 hc.2) hZ (hw _ (List.mem_of_getElem? (i := 43) rfl)) (hw _ (List.mem_of_getElem? (i := 42) rfl)) (by decide) (by decide)) (g := (mkF m 25 #[.val (.ref nb), .val (.int c), .val (.ref mb)] [(.int c), (.int (16 : Int32)), (.int (0 : Int32)), (.ref mb), (.int (0 : Int32)), (.ref nb)])) rfl (by rw [hml]; rfl) (argsL := [(.int (16 : Int32)), (.int c)]) (rest := [(.int (0 : Int32)), (.ref mb), (.int (0 : Int32)), (.ref nb)]) (lenOf pd__II_I rfl) rfl (by show 2 * 0 + _ ≤ _; exact Nat.le_of_eq rfl) (hb hby d6_25) (fun _ _ => ⟨rfl, e2, (Nat.le_of_ble_eq_true rfl), (Nat.le_of_ble_eq_true rfl)⟩)
  dsimp only [Pt.U, Pt.locs, Pt.cells, Pt.slots] at X6 l6 y6 z6 st6 hQ6
  subst l6 y6 z6
  obtain ⟨rfl, N6q, e6⟩ := hQ6
  have N6 := Fr.app N0 N6q
  have P7 := (V_mb).pad (pad_rep [] (.int (0 : Int32)) k)
  obtain ⟨T7, h7, L7, X7, e7, N7, Kc7, Vc7, st7⟩ := cpA X6 hx hZ hown (hw _ (List.mem_of_getElem? (i := 44) rfl)) (hw _ (List.mem_of_getElem? (i := 47) rfl)) (hw _ (List.mem_of_getElem? (i := 45) rfl)) (hw _ (List.mem_of_getElem? (i := 46) rfl)) e6 (us := (List.range k).map fun i => vs.getD i (.int (0 : Int32))) f3_V_nb P7 (Or.inl ⟨rfl, rfl⟩) (sp := (0 : Int32)) (dp := (0 : Int32)) (nn := c) (by decide) (by decide) hc.1 (by rw [hk]; exact own_le16 hk3) (by rw [hk]; exact Nat.le_of_eq (Nat.zero_add k)) (by rw [hk]; exact own_range vs _ k) (by rw [hk]; simp) N6 g_mb (g := (mkF m 28 #[.val (.ref nb), .val (.int c), .val (.ref mb)] [(.int c), (.int (0 : Int32)), (.ref mb), (.int (0 : Int32)), (.ref nb)])) rfl (by rw [hml]; rfl) (rest := []) rfl (hb hby d6_28) (by decide) (W := 0) (by show 2 * 0 + _ ≤ _; exact Nat.le_of_eq rfl) (by decide)
  have V7 : Arv Z h7 mb k2 .int c ((List.range k).map fun i => vs.getD i (.int (0 : Int32))) (.int (0 : Int32)) := by
    rw [hk] at Vc7
    have q := own_take0 ((List.range k).map fun i => vs.getD i (.int (0 : Int32))) k (.int (0 : Int32))
    rw [← q]
    exact Vc7
  have K8 : Keep h0 h7 [] := K4.trans Kc7 (allS (Or.inr sz_mb) all0)
  have zz7 : n0 ≤ h7.size := Nat.le_trans z2 Kc7.1
  obtain ⟨fs, hr, hrun, hended, hW, hsame⟩ := X7.leave (v := some (.ref mb)) (fun h => by rw [Bd.returns] at h; cases h)
  refine ⟨_, _, pre0 _ ?_, hrun, hended, _, _, rfl, ?_, ⟨_, rfl⟩, hW, hsame.mono (by decide) (by decide)⟩
  · show Steps p.tables e below (s₁.setTop (mkF m 0 #[.val (.ref nb), .val (.int c), .unset] [])) _
    refine XS.iloadN X0.here hx rfl (hb hby d6_0) rfl ?_
    show Steps p.tables e below (s₁.setTop (mkF m 1 #[.val (.ref nb), .val (.int c), .unset] [(.int c)])) _
    refine XS.aloadN X0.here hx rfl (hb hby d6_1) rfl rfl ?_
    show Steps p.tables e below (s₁.setTop (mkF m 2 #[.val (.ref nb), .val (.int c), .unset] [(.ref nb), (.int c)])) _
    refine X0.arraylength hx (by rw [e0]; exact Ar1.1) (State.isArrayOf_alike hZ.alike Ar1.2.1) (g := (mkF m 2 #[.val (.ref nb), .val (.int c), .unset] [(.ref nb), (.int c)])) rfl rfl (hb hby d6_2) _ ?_
    rw [len_of S1 M1]
    show Steps p.tables e below (s₁.setTop (mkF m 3 #[.val (.ref nb), .val (.int c), .unset] [(.int (16 : Int32)), (.int c)])) _
    refine XS.icmpYes X0.here hx rfl (pc0 := 3) (pc' := 14) rfl (hb hby d6_3) rfl (feq (own_ne16 hc.2 : ¬ (c = (16 : Int32)))).2 (by decide) (by decide) ?_
    show Steps p.tables e below (s₁.setTop (mkF m 14 #[.val (.ref nb), .val (.int c), .unset] [])) _
    refine XS.iloadN X0.here hx rfl (hb hby d6_14) rfl ?_
    show Steps p.tables e below (s₁.setTop (mkF m 15 #[.val (.ref nb), .val (.int c), .unset] [(.int c)])) _
    refine st2 _ ?_
    show Steps p.tables e below (T2.setTop (mkF m 17 #[.val (.ref nb), .val (.int c), .unset] [(.ref mb)])) _
    refine XS.astoreN X2.here hx rfl (hb hby d6_17) rfl rfl (l' := #[.val (.ref nb), .val (.int c), .val (.ref mb)]) rfl ?_
    show Steps p.tables e below (T2.setTop (mkF m 18 #[.val (.ref nb), .val (.int c), .val (.ref mb)] [])) _
    refine XS.aloadN X2.here hx rfl (hb hby d6_18) rfl rfl ?_
    show Steps p.tables e below (T2.setTop (mkF m 19 #[.val (.ref nb), .val (.int c), .val (.ref mb)] [(.ref nb)])) _
    refine XS.iconst X2.here hx rfl (hb hby d6_19) ?_
    show Steps p.tables e below (T2.setTop (mkF m 20 #[.val (.ref nb), .val (.int c), .val (.ref mb)] [(.int (0 : Int32)), (.ref nb)])) _
    refine XS.aloadN X2.here hx rfl (hb hby d6_20) rfl rfl ?_
    show Steps p.tables e below (T2.setTop (mkF m 21 #[.val (.ref nb), .val (.int c), .val (.ref mb)] [(.ref mb), (.int (0 : Int32)), (.ref nb)])) _
    refine XS.iconst X2.here hx rfl (hb hby d6_21) ?_
    show Steps p.tables e below (T2.setTop (mkF m 22 #[.val (.ref nb), .val (.int c), .val (.ref mb)] [(.int (0 : Int32)), (.ref mb), (.int (0 : Int32)), (.ref nb)])) _
    refine XS.aloadN X2.here hx rfl (hb hby d6_22) rfl rfl ?_
    show Steps p.tables e below (T2.setTop (mkF m 23 #[.val (.ref nb), .val (.int c), .val (.ref mb)] [(.ref nb), (.int (0 : Int32)), (.ref mb), (.int (0 : Int32)), (.ref nb)])) _
    refine X2.arraylength hx (by rw [e2]; exact Ar5.1) (State.isArrayOf_alike hZ.alike Ar5.2.1) (g := (mkF m 23 #[.val (.ref nb), .val (.int c), .val (.ref mb)] [(.ref nb), (.int (0 : Int32)), (.ref mb), (.int (0 : Int32)), (.ref nb)])) rfl rfl (hb hby d6_23) _ ?_
    rw [len_of S5 M5]
    show Steps p.tables e below (T2.setTop (mkF m 24 #[.val (.ref nb), .val (.int c), .val (.ref mb)] [(.int (16 : Int32)), (.int (0 : Int32)), (.ref mb), (.int (0 : Int32)), (.ref nb)])) _
    refine XS.iloadN X2.here hx rfl (hb hby d6_24) rfl ?_
    show Steps p.tables e below (T2.setTop (mkF m 25 #[.val (.ref nb), .val (.int c), .val (.ref mb)] [(.int c), (.int (16 : Int32)), (.int (0 : Int32)), (.ref mb), (.int (0 : Int32)), (.ref nb)])) _
    refine st6 _ ?_
    show Steps p.tables e below (T6.setTop (mkF m 28 #[.val (.ref nb), .val (.int c), .val (.ref mb)] [(.int c), (.int (0 : Int32)), (.ref mb), (.int (0 : Int32)), (.ref nb)])) _
    refine st7 _ ?_
    show Steps p.tables e below (T7.setTop (mkF m 31 #[.val (.ref nb), .val (.int c), .val (.ref mb)] [])) _
    refine XS.aloadN X7.here hx rfl (hb hby d6_31) rfl rfl ?_
    show Steps p.tables e below (T7.setTop (mkF m 32 #[.val (.ref nb), .val (.int c), .val (.ref mb)] [(.ref mb)])) _
    jvm_step X7.here [X7.here.top, hx, (hb hby d6_32), X7.method', Bd.returns, Value.isRef, FieldType.isReference]
    first | (intro acts; rw [hr _ acts rfl rfl rfl]) | rw [hr _ _ rfl rfl rfl]
    exact Steps.refl _
  · show Q6 Z c vs k h0 n0 _ T7.heap _
    rw [e7]
    exact ⟨mb, k2, rfl, N7, K8, sz_mb, g_mb, V7⟩
theorem d8_0 : decode prog_157_method_1_code 0 = .ok (.aload_n 0, 1) := by decide +kernel
theorem d8_1 : decode prog_157_method_1_code 1 = .ok (.invokespecial 1, 3) := by decide +kernel
theorem d8_4 : decode prog_157_method_1_code 4 = .ok (.aload_n 0, 1) := by decide +kernel
theorem d8_5 : decode prog_157_method_1_code 5 = .ok (.aload_n 1, 1) := by decide +kernel
theorem d8_6 : decode prog_157_method_1_code 6 = .ok (.putfield 7, 3) := by decide +kernel
theorem d8_9 : decode prog_157_method_1_code 9 = .ok (.aload_n 0, 1) := by decide +kernel
theorem d8_10 : decode prog_157_method_1_code 10 = .ok (.aload_n 2, 1) := by decide +kernel
theorem d8_11 : decode prog_157_method_1_code 11 = .ok (.putfield 13, 3) := by decide +kernel
theorem d8_14 : decode prog_157_method_1_code 14 = .ok (.return_, 1) := by decide +kernel
theorem pn_org_keyward_securitymodel_NumberLists : plainName "org/keyward/securitymodel/NumberLists" = true := by first | (simp [plainName, overriddenIn]; done) | decide +kernel
theorem ef_8 (m : MethodId) (x0 : Addr) (x1 : Addr) (x2 : Addr) : entryFrame m #[(.ref x0), (.ref x1), (.ref x2)] 3 = mkF m 0 #[.val (.ref x0), .val (.ref x1), .val (.ref x2)] [] := by first | (simp [entryFrame, mkF, argsToLocals, Value.category]; done) | rfl
def Q8 (Z : State) (a1 a2 a3 : Addr) (h0 : Heap) (n0 : Nat) (v : Option Value) (h : Heap) (L : List Loc) : Prop := v = none ∧ Fr n0 L ∧ Keep h0 h [a1] ∧ Exa Z h a1 "org/keyward/securitymodel/NumberLists" ∧ Fld Z h a1 "org/keyward/securitymodel/NumberLists" "starts" "[I" (.ref a2) ∧ Fld Z h a1 "org/keyward/securitymodel/NumberLists" "numbers" "[I" (.ref a3)
set_option maxRecDepth 65536 in
set_option maxHeartbeats 40000000 in
theorem rm8 (l : Launch) (Z : State) (a0 : Array Value) (hw : ∀ d ∈ tables_1, d.before a0 Z = true) (ws : List Jvm.Cond) (a1 a2 a3 : Addr) (u1 u2 : Value) (h0 : Heap) (n0 : Nat) (Z0 : n0 ≤ h0.size) (E_a1 : Exa Z h0 a1 "org/keyward/securitymodel/NumberLists") (g_a1 : n0 ≤ a1) (F_starts : Fld Z h0 a1 "org/keyward/securitymodel/NumberLists" "starts" "[I" u1) (F_numbers : Fld Z h0 a1 "org/keyward/securitymodel/NumberLists" "numbers" "[I" u2)  :
    MetFree l (⟨"org/keyward/securitymodel/NumberLists", "<init>", "([I[I)V"⟩ : MethodName) (head1 (Jvm.Cond.code (⟨"org/keyward/securitymodel/NumberLists", "<init>", "([I[I)V"⟩ : MethodName) prog_157_method_1_code 3 none :: ws) ({ frames := 1, cells := 0, slots := 0, locals := 12 } : Room)) (fun a U => a = #[(.ref a1), (.ref a2), (.ref a3)] ∧ Z.Warmed39 U.vm ∧ U.heap = h0) (fun _ _ _ _ _ => True) (fun _ U o U' => ∃ v L, o = .returned v ∧ Q8 Z a1 a2 a3 h0 n0 v U'.heap L ∧ FrameEnd U o U' L ({ frames := 1, cells := 0, slots := 0, locals := 12 } : Room).cells ({ frames := 1, cells := 0, slots := 0, locals := 12 } : Room).slots) := by
  refine MetFree.of_bodySF (plainFor_of_name pn_org_keyward_securitymodel_NumberLists) hisR ?_
  intro p e s m args below meth cd s₁ Bd hml0 hPre hKc
  obtain ⟨rfl, hZ, hHp⟩ := hPre
  have hx := Bd.exec
  have hby := Bd.bytes
  have hml : cd.maxLocals = 3 := hml0
  have hown : s.vm.findClass "org/keyward/securitymodel/NumberLists" = some m.cls := findClass_of_methodNamed Bd.named
  have hnm := (name_of_methodNamed Bd.named Bd.method).1
  have X0 : Stand p l e ({ frames := 1, cells := 0, slots := 0, locals := 12 } : Room) s m #[(.ref a1), (.ref a2), (.ref a3)] below meth cd s₁ [] 0 0 := Stand.of_body Bd
  have e0 : s₁.heap = h0 := by rw [← hHp, Bd.state]; rfl
  have N0 := Fr.nil n0
  have pre0 : ∀ t, Steps p.tables e below (s₁.setTop (mkF m 0 #[.val (.ref a1), .val (.ref a2), .val (.ref a3)] [])) t → Steps p.tables e below (s₁.setTop (entryFrame m #[(.ref a1), (.ref a2), (.ref a3)] 3)) t := fun t k => castTop (ef_8 m a1 a2 a3) k
  obtain ⟨T1, X1, e1, st1⟩ := initO X0 hx hZ hown (hw _ (List.mem_of_getElem? (i := 51) rfl)) (hw _ (List.mem_of_getElem? (i := 7) rfl)) (hw _ (List.mem_of_getElem? (i := 8) rfl)) e0 (g := (mkF m 1 #[.val (.ref a1), .val (.ref a2), .val (.ref a3)] [(.ref a1)])) rfl (by rw [hml]; rfl) rfl (hb hby d8_1) (by decide) (W := 0) (by show 2 * 0 + _ ≤ _; exact Nat.le_of_eq rfl) (by decide)
  obtain ⟨T2, h2, X2, e2, W2, st2⟩ := putF X1 hx hZ hown (host := "") (Or.inl (hw _ (List.mem_of_getElem? (i := 52) rfl))) Via.refl e1 F_starts E_a1 (Or.inr ⟨(hw _ (List.mem_of_getElem? (i := 53) rfl)), rfl, hnm⟩) (hw _ (List.mem_of_getElem? (i := 34) rfl)) (ty := (.array .int)) (by decide) rfl rfl (g := (mkF m 6 #[.val (.ref a1), .val (.ref a2), .val (.ref a3)] [(.ref a2), (.ref a1)])) rfl rfl (hb hby d8_6)
  have f3_E_a1 := E_a1.wr W2
  have f4_F_a1_numbers := F_numbers.other W2 (Or.inr (slot_ne (Or.inr (hw _ (List.mem_of_getElem? (i := 55) rfl))) (Or.inr (hw _ (List.mem_of_getElem? (i := 53) rfl))) (by decide) (t := (.array .int)) (t' := (.array .int)) (by decide) (by decide)))
  have fw2 := F_starts.same W2
  have K5 : Keep h0 h2 [a1] := (Keep.refl h0 [a1]).wr W2 (Or.inl (List.mem_of_getElem? (i := 0) rfl))
  have N2 := Fr.snoc X2 N0 g_a1
  have z2 : n0 ≤ h2.size := Nat.le_trans Z0 (Keep.of_wr W2).1
  obtain ⟨T6, h6, X6, e6, W6, st6⟩ := putF X2 hx hZ hown (host := "") (Or.inl (hw _ (List.mem_of_getElem? (i := 54) rfl))) Via.refl e2 f4_F_a1_numbers f3_E_a1 (Or.inr ⟨(hw _ (List.mem_of_getElem? (i := 55) rfl)), rfl, hnm⟩) (hw _ (List.mem_of_getElem? (i := 34) rfl)) (ty := (.array .int)) (by decide) rfl rfl (g := (mkF m 11 #[.val (.ref a1), .val (.ref a2), .val (.ref a3)] [(.ref a3), (.ref a1)])) rfl rfl (hb hby d8_11)
  have f7_E_a1 := f3_E_a1.wr W6
  have f8_F_a1_starts := fw2.other W6 (Or.inr (slot_ne (Or.inr (hw _ (List.mem_of_getElem? (i := 53) rfl))) (Or.inr (hw _ (List.mem_of_getElem? (i := 55) rfl))) (by decide) (t := (.array .int)) (t' := (.array .int)) (by decide) (by decide)))
  have fw6 := f4_F_a1_numbers.same W6
  have K9 : Keep h0 h6 [a1] := K5.wr W6 (Or.inl (List.mem_of_getElem? (i := 0) rfl))
  have N6 := Fr.snoc X6 N2 g_a1
  have z6 : n0 ≤ h6.size := Nat.le_trans z2 (Keep.of_wr W6).1
  obtain ⟨fs, hr, hrun, hended, hW, hsame⟩ := X6.leave (v := none) (fun _ => rfl)
  refine ⟨_, _, pre0 _ ?_, hrun, hended, _, _, rfl, ?_, ⟨_, rfl⟩, hW, hsame.mono (by decide) (by decide)⟩
  · show Steps p.tables e below (s₁.setTop (mkF m 0 #[.val (.ref a1), .val (.ref a2), .val (.ref a3)] [])) _
    refine XS.aloadN X0.here hx rfl (hb hby d8_0) rfl rfl ?_
    show Steps p.tables e below (s₁.setTop (mkF m 1 #[.val (.ref a1), .val (.ref a2), .val (.ref a3)] [(.ref a1)])) _
    refine st1 _ ?_
    show Steps p.tables e below (T1.setTop (mkF m 4 #[.val (.ref a1), .val (.ref a2), .val (.ref a3)] [])) _
    refine XS.aloadN X1.here hx rfl (hb hby d8_4) rfl rfl ?_
    show Steps p.tables e below (T1.setTop (mkF m 5 #[.val (.ref a1), .val (.ref a2), .val (.ref a3)] [(.ref a1)])) _
    refine XS.aloadN X1.here hx rfl (hb hby d8_5) rfl rfl ?_
    show Steps p.tables e below (T1.setTop (mkF m 6 #[.val (.ref a1), .val (.ref a2), .val (.ref a3)] [(.ref a2), (.ref a1)])) _
    refine st2 _ ?_
    show Steps p.tables e below (T2.setTop (mkF m 9 #[.val (.ref a1), .val (.ref a2), .val (.ref a3)] [])) _
    refine XS.aloadN X2.here hx rfl (hb hby d8_9) rfl rfl ?_
    show Steps p.tables e below (T2.setTop (mkF m 10 #[.val (.ref a1), .val (.ref a2), .val (.ref a3)] [(.ref a1)])) _
    refine XS.aloadN X2.here hx rfl (hb hby d8_10) rfl rfl ?_
    show Steps p.tables e below (T2.setTop (mkF m 11 #[.val (.ref a1), .val (.ref a2), .val (.ref a3)] [(.ref a3), (.ref a1)])) _
    refine st6 _ ?_
    show Steps p.tables e below (T6.setTop (mkF m 14 #[.val (.ref a1), .val (.ref a2), .val (.ref a3)] [])) _
    exact X6.returnOut hx Bd.returns (hb hby d8_14) hr
  · show Q8 Z a1 a2 a3 h0 n0 _ T6.heap _
    rw [e6]
    exact ⟨rfl, N6, K9, f7_E_a1, f8_F_a1_starts, fw6⟩
theorem d5_0 : decode prog_158_method_4_code 0 = .ok (.aload_n 0, 1) := by decide +kernel
theorem d5_1 : decode prog_158_method_4_code 1 = .ok (.getfield 26, 3) := by decide +kernel
theorem d5_4 : decode prog_158_method_4_code 4 = .ok (.aload_n 0, 1) := by decide +kernel
theorem d5_5 : decode prog_158_method_4_code 5 = .ok (.getfield 13, 3) := by decide +kernel
theorem d5_8 : decode prog_158_method_4_code 8 = .ok (.arraylength, 1) := by decide +kernel
theorem d5_9 : decode prog_158_method_4_code 9 = .ok (.iconst 1, 1) := by decide +kernel
theorem d5_10 : decode prog_158_method_4_code 10 = .ok (.isub, 1) := by decide +kernel
theorem d5_11 : decode prog_158_method_4_code 11 = .ok (.if_icmp .eq 27, 3) := by decide +kernel
theorem d5_38 : decode prog_158_method_4_code 38 = .ok (.new 38, 3) := by decide +kernel
theorem d5_41 : decode prog_158_method_4_code 41 = .ok (.dup, 1) := by decide +kernel
theorem d5_42 : decode prog_158_method_4_code 42 = .ok (.aload_n 0, 1) := by decide +kernel
theorem d5_43 : decode prog_158_method_4_code 43 = .ok (.getfield 13, 3) := by decide +kernel
theorem d5_46 : decode prog_158_method_4_code 46 = .ok (.aload_n 0, 1) := by decide +kernel
theorem d5_47 : decode prog_158_method_4_code 47 = .ok (.getfield 7, 3) := by decide +kernel
theorem d5_50 : decode prog_158_method_4_code 50 = .ok (.aload_n 0, 1) := by decide +kernel
theorem d5_51 : decode prog_158_method_4_code 51 = .ok (.getfield 16, 3) := by decide +kernel
theorem d5_54 : decode prog_158_method_4_code 54 = .ok (.invokestatic 20, 3) := by decide +kernel
theorem d5_57 : decode prog_158_method_4_code 57 = .ok (.invokespecial 40, 3) := by decide +kernel
theorem d5_60 : decode prog_158_method_4_code 60 = .ok (.areturn, 1) := by decide +kernel
theorem pd___II__I : parseMethodDescriptor "([II)[I" = some ⟨[(.array .int), .int], some (.array .int)⟩ := by decide +kernel
theorem pd___I_I_V : parseMethodDescriptor "([I[I)V" = some ⟨[(.array .int), (.array .int)], none⟩ := by decide +kernel
theorem ef_5 (m : MethodId) (x0 : Addr) : entryFrame m #[(.ref x0)] 1 = mkF m 0 #[.val (.ref x0)] [] := by first | (simp [entryFrame, mkF, argsToLocals, Value.category]; done) | rfl
def Q5 (Z : State) (sb : Addr) (c : Int32) (vs : List Value) (k : Nat) (h0 : Heap) (n0 : Nat) (v : Option Value) (h : Heap) (L : List Loc) : Prop := ∃ (o mb : Addr) (km : ClassId), v = some (.ref o) ∧ Fr n0 L ∧ Keep h0 h [] ∧ Exa Z h o "org/keyward/securitymodel/NumberLists" ∧ Fld Z h o "org/keyward/securitymodel/NumberLists" "starts" "[I" (.ref sb) ∧ Fld Z h o "org/keyward/securitymodel/NumberLists" "numbers" "[I" (.ref mb) ∧ Arv Z h mb km .int c ((List.range k).map fun i => vs.getD i (.int (0 : Int32))) (.int (0 : Int32))
set_option maxRecDepth 65536 in
set_option maxHeartbeats 40000000 in
theorem rm5 (l : Launch) (Z : State) (a0 : Array Value) (hw : ∀ d ∈ tables_1, d.before a0 Z = true) (ws : List Jvm.Cond) (a1 : Addr) (nb sb : Addr) (c li : Int32) (kn ks : ClassId) (vs ss : List Value) (k : Nat) (h0 : Heap) (n0 : Nat) (Z0 : n0 ≤ h0.size) (E_a1 : Exa Z h0 a1 "org/keyward/securitymodel/NumberLists$Builder") (F_numbers : Fld Z h0 a1 "org/keyward/securitymodel/NumberLists$Builder" "numbers" "[I" (.ref nb)) (F_starts : Fld Z h0 a1 "org/keyward/securitymodel/NumberLists$Builder" "starts" "[I" (.ref sb)) (F_count : Fld Z h0 a1 "org/keyward/securitymodel/NumberLists$Builder" "count" "I" (.int c)) (F_listed : Fld Z h0 a1 "org/keyward/securitymodel/NumberLists$Builder" "listed" "I" (.int li)) (V : Arv Z h0 nb kn .int (16 : Int32) vs (.int (0 : Int32))) (VS : Arv Z h0 sb ks .int (3 : Int32) ss (.int (0 : Int32))) (hli : li = ((3 : Int32) - (1 : Int32))) (hc : ¬ c < 0 ∧ c < 16) (hk : c.toNatClampNeg = k) (hk3 : k ≤ 3)  :
    MetFree l (⟨"org/keyward/securitymodel/NumberLists$Builder", "build", "()Lorg/keyward/securitymodel/NumberLists;"⟩ : MethodName) (head1 (Jvm.Cond.code (⟨"org/keyward/securitymodel/NumberLists$Builder", "build", "()Lorg/keyward/securitymodel/NumberLists;"⟩ : MethodName) prog_158_method_4_code 1 (some (.object "org/keyward/securitymodel/NumberLists")) :: ws) ({ frames := 2, cells := 2, slots := 5, locals := 36 } : Room)) (fun a U => a = #[(.ref a1)] ∧ Z.Warmed39 U.vm ∧ U.heap = h0) (fun _ _ _ _ _ => True) (fun _ U o U' => ∃ v L, o = .returned v ∧ Q5 Z sb c vs k h0 n0 v U'.heap L ∧ FrameEnd U o U' L ({ frames := 2, cells := 2, slots := 5, locals := 36 } : Room).cells ({ frames := 2, cells := 2, slots := 5, locals := 36 } : Room).slots) := by
  refine MetFree.of_bodySF (plainFor_of_name pn_org_keyward_securitymodel_NumberLists_Builder) hisR ?_
  intro p e s m args below meth cd s₁ Bd hml0 hPre hKc
  obtain ⟨rfl, hZ, hHp⟩ := hPre
  have hx := Bd.exec
  have hby := Bd.bytes
  have hml : cd.maxLocals = 1 := hml0
  have hown : s.vm.findClass "org/keyward/securitymodel/NumberLists$Builder" = some m.cls := findClass_of_methodNamed Bd.named
  have hnm := (name_of_methodNamed Bd.named Bd.method).1
  have X0 : Stand p l e ({ frames := 2, cells := 2, slots := 5, locals := 36 } : Room) s m #[(.ref a1)] below meth cd s₁ [] 0 0 := Stand.of_body Bd
  have e0 : s₁.heap = h0 := by rw [← hHp, Bd.state]; rfl
  have N0 := Fr.nil n0
  have pre0 : ∀ t, Steps p.tables e below (s₁.setTop (mkF m 0 #[.val (.ref a1)] [])) t → Steps p.tables e below (s₁.setTop (entryFrame m #[(.ref a1)] 1)) t := fun t k => castTop (ef_5 m a1) k
  obtain ⟨T1, X1, e1, st1⟩ := getF X0 hx hZ hown (host := "") (Or.inl (hw _ (List.mem_of_getElem? (i := 26) rfl))) Via.refl e0 F_listed (g := (mkF m 1 #[.val (.ref a1)] [(.ref a1)])) rfl rfl (hb hby d5_1)
  obtain ⟨T2, X2, e2, st2⟩ := getF X1 hx hZ hown (host := "") (Or.inl (hw _ (List.mem_of_getElem? (i := 12) rfl))) Via.refl e1 F_starts (g := (mkF m 5 #[.val (.ref a1)] [(.ref a1), (.int li)])) rfl rfl (hb hby d5_5)
  obtain ⟨c3, Ar3, -, S3, M3, -, -⟩ := (id VS)
  obtain ⟨T4, h4, X4, e4, E4, A4, D4, -, st4⟩ := newO X2 hx hZ hown (hw _ (List.mem_of_getElem? (i := 33) rfl)) (hw _ (List.mem_of_getElem? (i := 34) rfl)) (hw _ (List.mem_of_getElem? (i := 35) rfl)) e2 (g := (mkF m 38 #[.val (.ref a1)] [])) rfl (hb hby d5_38) (Nat.le_of_ble_eq_true rfl) (Nat.le_of_ble_eq_true rfl)
  obtain ⟨o, g4⟩ : ∃ z, z = h0.size := ⟨_, rfl⟩
  rw [← g4] at A4 D4 st4
  have g_o : n0 ≤ o := Nat.le_trans Z0 (Nat.le_of_eq g4.symm)
  have sz_o : h0.size ≤ o := Nat.le_trans (Keep.refl h0 []).1 (Nat.le_of_eq g4.symm)
  have ne_a1_o : a1 ≠ o := Nat.ne_of_lt (Nat.lt_of_lt_of_le E_a1.lt (Nat.le_of_eq g4.symm))
  have ne_nb_o : nb ≠ o := Nat.ne_of_lt (Nat.lt_of_lt_of_le V.lt (Nat.le_of_eq g4.symm))
  have ne_sb_o : sb ≠ o := Nat.ne_of_lt (Nat.lt_of_lt_of_le VS.lt (Nat.le_of_eq g4.symm))
  have z4 : n0 ≤ h4.size := Nat.le_trans Z0 E4.1
  have f5_E_a1 := E_a1.ext E4
  have f6_F_a1_numbers := F_numbers.ext E4
  have f7_F_a1_starts := F_starts.ext E4
  have f8_F_a1_count := F_count.ext E4
  have f9_F_a1_listed := F_listed.ext E4
  have f10_V_nb := V.ext E4
  have f11_V_sb := VS.ext E4
  have K12 : Keep h0 h4 [] := (Keep.refl h0 []).ext E4
  have F_starts_o : Fld Z h4 o "org/keyward/securitymodel/NumberLists" "starts" "[I" .null := D4 (Or.inr (hw _ (List.mem_of_getElem? (i := 53) rfl))) (ty := (.array .int)) (by decide)
  have F_numbers_o : Fld Z h4 o "org/keyward/securitymodel/NumberLists" "numbers" "[I" .null := D4 (Or.inr (hw _ (List.mem_of_getElem? (i := 55) rfl))) (ty := (.array .int)) (by decide)
  obtain ⟨T13, X13, e13, st13⟩ := getF X4 hx hZ hown (host := "") (Or.inl (hw _ (List.mem_of_getElem? (i := 12) rfl))) Via.refl e4 f7_F_a1_starts (g := (mkF m 43 #[.val (.ref a1)] [(.ref a1), (.ref o), (.ref o)])) rfl rfl (hb hby d5_43)
  obtain ⟨T14, X14, e14, st14⟩ := getF X13 hx hZ hown (host := "") (Or.inl (hw _ (List.mem_of_getElem? (i := 10) rfl))) Via.refl e13 f6_F_a1_numbers (g := (mkF m 47 #[.val (.ref a1)] [(.ref a1), (.ref sb), (.ref o), (.ref o)])) rfl rfl (hb hby d5_47)
  obtain ⟨T15, X15, e15, st15⟩ := getF X14 hx hZ hown (host := "") (Or.inl (hw _ (List.mem_of_getElem? (i := 19) rfl))) Via.refl e14 f8_F_a1_count (g := (mkF m 51 #[.val (.ref a1)] [(.ref a1), (.ref nb), (.ref sb), (.ref o), (.ref o)])) rfl rfl (hb hby d5_51)
  obtain ⟨_, _, ⟨T16, L16, k16, n16⟩, -, X16, ⟨Lc16, hQ16, l16, y16, z16⟩, st16⟩ := Jvm.LawKit.callS X15 hx (y := (⟨"java/util/Arrays", "copyOf", "([II)[I"⟩ : MethodName)) hown (mvT hZ (hw _ (List.mem_of_getElem? (i := 36) rfl))) (mvT hZ (hw _ (List.mem_of_getElem? (i := 37) rfl))) (mvT hZ (hw _ (List.mem_of_getElem? (i := 38) rfl))) (mvT hZ (hw _ (List.mem_of_getElem? (i := 39) rfl))) (by decide) (backOf (W := 3) (rm6 l Z a0 hw [] nb c kn vs k h4 n0 z4 f10_V_nb hc hk hk3) hZ (hw _ (List.mem_of_getElem? (i := 39) rfl)) (hw _ (List.mem_of_getElem? (i := 38) rfl)) (by decide) (by decide)) (g := (mkF m 54 #[.val (.ref a1)] [(.int c), (.ref nb), (.ref sb), (.ref o), (.ref o)])) rfl (by rw [hml]; rfl) (argsL := [(.ref nb), (.int c)]) (rest := [(.ref sb), (.ref o), (.ref o)]) (lenOf pd___II__I rfl) rfl (by show 2 * 0 + _ ≤ _; exact Nat.le_of_eq rfl) (hb hby d5_54) (fun _ _ => ⟨rfl, e15, (Nat.le_of_ble_eq_true rfl), (Nat.le_of_ble_eq_true rfl)⟩)
  dsimp only [Pt.U, Pt.locs, Pt.cells, Pt.slots] at X16 l16 y16 z16 st16 hQ16
  subst l16 y16 z16
  obtain ⟨mb16, km16, rfl, N16q, Kc16, sh16, gm16, Vm16⟩ := hQ16
  have N16 := Fr.app N0 N16q
  have f17_E_a1 := f5_E_a1.keep Kc16
  have f18_F_a1_numbers := f6_F_a1_numbers.keep Kc16 nin0
  have f19_F_a1_starts := f7_F_a1_starts.keep Kc16 nin0
  have f20_F_a1_count := f8_F_a1_count.keep Kc16 nin0
  have f21_F_a1_listed := f9_F_a1_listed.keep Kc16 nin0
  have f22_V_nb := f10_V_nb.keep Kc16 nin0
  have f23_V_sb := f11_V_sb.keep Kc16 nin0
  have f24_E_o := A4.keep Kc16
  have f25_F_o_starts := F_starts_o.keep Kc16 nin0
  have f26_F_o_numbers := F_numbers_o.keep Kc16 nin0
  have K27 : Keep h0 T16.heap [] := K12.trans Kc16 all0
  have zz16 : n0 ≤ T16.heap.size := Nat.le_trans z4 Kc16.1
  have nm16 : o ≠ mb16 := Nat.ne_of_lt (Nat.lt_of_lt_of_le A4.lt sh16)
  obtain ⟨_, _, ⟨T28, L28, k28, n28⟩, -, X28, ⟨Lc28, hQ28, l28, y28, z28⟩, st28⟩ := X16.specialBackNest hx (y := (⟨"org/keyward/securitymodel/NumberLists", "<init>", "([I[I)V"⟩ : MethodName)) rfl hown (own_mvM hZ (hw _ (List.mem_of_getElem? (i := 48) rfl))) (mvT hZ (hw _ (List.mem_of_getElem? (i := 49) rfl))) (mvT hZ (hw _ (List.mem_of_getElem? (i := 50) rfl))) (by decide) (backOf (W := 1) (rm8 l Z a0 hw [] o sb mb16 _ _ T16.heap n0 zz16 f24_E_o g_o f25_F_o_starts f26_F_o_numbers) hZ (hw _ (List.mem_of_getElem? (i := 50) rfl)) (hw _ (List.mem_of_getElem? (i := 35) rfl)) (by decide) (by decide)) (g := (mkF m 57 #[.val (.ref a1)] [(.ref mb16), (.ref sb), (.ref o), (.ref o)])) rfl (by rw [hml]; rfl) (Steps.refl _) (a := o) (argsL := [(.ref sb), (.ref mb16)]) (rest := [(.ref o)]) (lenOf pd___I_I_V rfl) rfl (by show 2 * 0 + _ ≤ _; exact Nat.le_of_eq rfl) (hb hby d5_57) (fun _ _ => ⟨rfl, rfl, (Nat.le_of_ble_eq_true rfl), (Nat.le_of_ble_eq_true rfl)⟩)
  dsimp only [Pt.U, Pt.locs, Pt.cells, Pt.slots] at X28 l28 y28 z28 st28 hQ28
  subst l28 y28 z28
  obtain ⟨rfl, N28q, Kc28, Eo28, So28, No28⟩ := hQ28
  have N28 := Fr.app N16 N28q
  have f29_E_a1 := f17_E_a1.keep Kc28
  have f30_F_a1_numbers := f18_F_a1_numbers.keep Kc28 (ninS ne_a1_o nin0)
  have f31_F_a1_starts := f19_F_a1_starts.keep Kc28 (ninS ne_a1_o nin0)
  have f32_F_a1_count := f20_F_a1_count.keep Kc28 (ninS ne_a1_o nin0)
  have f33_F_a1_listed := f21_F_a1_listed.keep Kc28 (ninS ne_a1_o nin0)
  have f34_V_nb := f22_V_nb.keep Kc28 (ninS ne_nb_o nin0)
  have f35_V_sb := f23_V_sb.keep Kc28 (ninS ne_sb_o nin0)
  have f36_V_mb16 := Vm16.keep Kc28 (ninS (Ne.symm nm16) nin0)
  have K37 : Keep h0 T28.heap [] := K27.trans Kc28 (allS (Or.inr sz_o) all0)
  have zz28 : n0 ≤ T28.heap.size := Nat.le_trans zz16 Kc28.1
  obtain ⟨fs, hr, hrun, hended, hW, hsame⟩ := X28.leave (v := some (.ref o)) (fun h => by rw [Bd.returns] at h; cases h)
  refine ⟨_, _, pre0 _ ?_, hrun, hended, _, _, rfl, ?_, ⟨_, rfl⟩, hW, hsame.mono (by decide) (by decide)⟩
  · show Steps p.tables e below (s₁.setTop (mkF m 0 #[.val (.ref a1)] [])) _
    refine XS.aloadN X0.here hx rfl (hb hby d5_0) rfl rfl ?_
    show Steps p.tables e below (s₁.setTop (mkF m 1 #[.val (.ref a1)] [(.ref a1)])) _
    refine st1 _ ?_
    show Steps p.tables e below (T1.setTop (mkF m 4 #[.val (.ref a1)] [(.int li)])) _
    refine XS.aloadN X1.here hx rfl (hb hby d5_4) rfl rfl ?_
    show Steps p.tables e below (T1.setTop (mkF m 5 #[.val (.ref a1)] [(.ref a1), (.int li)])) _
    refine st2 _ ?_
    show Steps p.tables e below (T2.setTop (mkF m 8 #[.val (.ref a1)] [(.ref sb), (.int li)])) _
    refine X2.arraylength hx (by rw [e2]; exact Ar3.1) (State.isArrayOf_alike hZ.alike Ar3.2.1) (g := (mkF m 8 #[.val (.ref a1)] [(.ref sb), (.int li)])) rfl rfl (hb hby d5_8) _ ?_
    rw [len_of S3 M3]
    show Steps p.tables e below (T2.setTop (mkF m 9 #[.val (.ref a1)] [(.int (3 : Int32)), (.int li)])) _
    refine XS.iconst X2.here hx rfl (hb hby d5_9) ?_
    show Steps p.tables e below (T2.setTop (mkF m 10 #[.val (.ref a1)] [(.int (1 : Int32)), (.int (3 : Int32)), (.int li)])) _
    refine XS.isub X2.here hx rfl (hb hby d5_10) rfl ?_
    show Steps p.tables e below (T2.setTop (mkF m 11 #[.val (.ref a1)] [(.int ((3 : Int32) - (1 : Int32))), (.int li)])) _
    refine XS.icmpYes X2.here hx rfl (pc0 := 11) (pc' := 38) rfl (hb hby d5_11) rfl (teq (hli : li = ((3 : Int32) - (1 : Int32)))).1 (by decide) (by decide) ?_
    show Steps p.tables e below (T2.setTop (mkF m 38 #[.val (.ref a1)] [])) _
    refine st4 _ ?_
    show Steps p.tables e below (T4.setTop (mkF m 41 #[.val (.ref a1)] [(.ref o)])) _
    refine XS.dup X4.here hx rfl (hb hby d5_41) rfl rfl ?_
    show Steps p.tables e below (T4.setTop (mkF m 42 #[.val (.ref a1)] [(.ref o), (.ref o)])) _
    refine XS.aloadN X4.here hx rfl (hb hby d5_42) rfl rfl ?_
    show Steps p.tables e below (T4.setTop (mkF m 43 #[.val (.ref a1)] [(.ref a1), (.ref o), (.ref o)])) _
    refine st13 _ ?_
    show Steps p.tables e below (T13.setTop (mkF m 46 #[.val (.ref a1)] [(.ref sb), (.ref o), (.ref o)])) _
    refine XS.aloadN X13.here hx rfl (hb hby d5_46) rfl rfl ?_
    show Steps p.tables e below (T13.setTop (mkF m 47 #[.val (.ref a1)] [(.ref a1), (.ref sb), (.ref o), (.ref o)])) _
    refine st14 _ ?_
    show Steps p.tables e below (T14.setTop (mkF m 50 #[.val (.ref a1)] [(.ref nb), (.ref sb), (.ref o), (.ref o)])) _
    refine XS.aloadN X14.here hx rfl (hb hby d5_50) rfl rfl ?_
    show Steps p.tables e below (T14.setTop (mkF m 51 #[.val (.ref a1)] [(.ref a1), (.ref nb), (.ref sb), (.ref o), (.ref o)])) _
    refine st15 _ ?_
    show Steps p.tables e below (T15.setTop (mkF m 54 #[.val (.ref a1)] [(.int c), (.ref nb), (.ref sb), (.ref o), (.ref o)])) _
    refine st16 _ ?_
    show Steps p.tables e below (T16.setTop (mkF m 57 #[.val (.ref a1)] [(.ref mb16), (.ref sb), (.ref o), (.ref o)])) _
    refine st28.trans ?_
    show Steps p.tables e below (T28.setTop (mkF m 60 #[.val (.ref a1)] [(.ref o)])) _
    jvm_step X28.here [X28.here.top, hx, (hb hby d5_60), X28.method', Bd.returns, Value.isRef, FieldType.isReference]
    first | (intro acts; rw [hr _ acts rfl rfl rfl]) | rw [hr _ _ rfl rfl rfl]
    exact Steps.refl _
  · show Q5 Z sb c vs k h0 n0 _ T28.heap _
    exact ⟨o, mb16, km16, rfl, N28, K37, Eo28, So28, No28, f36_V_mb16⟩
theorem d9_0 : decode prog_157_method_2_code 0 = .ok (.aload_n 0, 1) := by decide +kernel
theorem d9_1 : decode prog_157_method_2_code 1 = .ok (.getfield 7, 3) := by decide +kernel
theorem d9_4 : decode prog_157_method_2_code 4 = .ok (.iload_n 1, 1) := by decide +kernel
theorem d9_5 : decode prog_157_method_2_code 5 = .ok (.iconst 1, 1) := by decide +kernel
theorem d9_6 : decode prog_157_method_2_code 6 = .ok (.iadd, 1) := by decide +kernel
theorem d9_7 : decode prog_157_method_2_code 7 = .ok (.iaload, 1) := by decide +kernel
theorem d9_8 : decode prog_157_method_2_code 8 = .ok (.aload_n 0, 1) := by decide +kernel
theorem d9_9 : decode prog_157_method_2_code 9 = .ok (.getfield 7, 3) := by decide +kernel
theorem d9_12 : decode prog_157_method_2_code 12 = .ok (.iload_n 1, 1) := by decide +kernel
theorem d9_13 : decode prog_157_method_2_code 13 = .ok (.iaload, 1) := by decide +kernel
theorem d9_14 : decode prog_157_method_2_code 14 = .ok (.isub, 1) := by decide +kernel
theorem d9_15 : decode prog_157_method_2_code 15 = .ok (.ireturn, 1) := by decide +kernel
theorem ef_9 (m : MethodId) (x0 : Addr) (x1 : Int32) : entryFrame m #[(.ref x0), (.int x1)] 2 = mkF m 0 #[.val (.ref x0), .val (.int x1)] [] := by first | (simp [entryFrame, mkF, argsToLocals, Value.category]; done) | rfl
def Q9 (r : Int32) (h0 : Heap) (n0 : Nat) (v : Option Value) (h : Heap) (L : List Loc) : Prop := v = some (.int r) ∧ Fr n0 L ∧ h = h0
set_option maxRecDepth 65536 in
set_option maxHeartbeats 40000000 in
theorem rm9 (l : Launch) (Z : State) (a0 : Array Value) (hw : ∀ d ∈ tables_1, d.before a0 Z = true) (ws : List Jvm.Cond) (a1 : Addr) (p2 : Int32) (sb : Addr) (ks : ClassId) (ss : List Value) (x1 x0 : Int32) (h0 : Heap) (n0 : Nat) (Z0 : n0 ≤ h0.size) (F_s : Fld Z h0 a1 "org/keyward/securitymodel/NumberLists" "starts" "[I" (.ref sb)) (VS : Arv Z h0 sb ks .int (3 : Int32) ss (.int (0 : Int32))) (i1 : ¬ (p2 + (1 : Int32)) < 0 ∧ (p2 + (1 : Int32)) < 3) (i0 : ¬ p2 < 0 ∧ p2 < 3) (t1 : ss.getD (p2 + (1 : Int32)).toNatClampNeg (.int (0 : Int32)) = .int x1) (t0 : ss.getD p2.toNatClampNeg (.int (0 : Int32)) = .int x0)  :
    MetFree l (⟨"org/keyward/securitymodel/NumberLists", "size", "(I)I"⟩ : MethodName) (head1 (Jvm.Cond.code (⟨"org/keyward/securitymodel/NumberLists", "size", "(I)I"⟩ : MethodName) prog_157_method_2_code 2 (some .int) :: ws) ({ frames := 0, cells := 0, slots := 0, locals := 0 } : Room)) (fun a U => a = #[(.ref a1), (.int p2)] ∧ Z.Warmed39 U.vm ∧ U.heap = h0) (fun _ _ _ _ _ => True) (fun _ U o U' => ∃ v L, o = .returned v ∧ Q9 (x1 - x0) h0 n0 v U'.heap L ∧ FrameEnd U o U' L ({ frames := 0, cells := 0, slots := 0, locals := 0 } : Room).cells ({ frames := 0, cells := 0, slots := 0, locals := 0 } : Room).slots) := by
  refine MetFree.of_bodySF (plainFor_of_name pn_org_keyward_securitymodel_NumberLists) hisR ?_
  intro p e s m args below meth cd s₁ Bd hml0 hPre hKc
  obtain ⟨rfl, hZ, hHp⟩ := hPre
  have hx := Bd.exec
  have hby := Bd.bytes
  have hml : cd.maxLocals = 2 := hml0
  have hown : s.vm.findClass "org/keyward/securitymodel/NumberLists" = some m.cls := findClass_of_methodNamed Bd.named
  have hnm := (name_of_methodNamed Bd.named Bd.method).1
  have X0 : Stand p l e ({ frames := 0, cells := 0, slots := 0, locals := 0 } : Room) s m #[(.ref a1), (.int p2)] below meth cd s₁ [] 0 0 := Stand.of_body Bd
  have e0 : s₁.heap = h0 := by rw [← hHp, Bd.state]; rfl
  have N0 := Fr.nil n0
  have pre0 : ∀ t, Steps p.tables e below (s₁.setTop (mkF m 0 #[.val (.ref a1), .val (.int p2)] [])) t → Steps p.tables e below (s₁.setTop (entryFrame m #[(.ref a1), (.int p2)] 2)) t := fun t k => castTop (ef_9 m a1 p2) k
  obtain ⟨T1, X1, e1, st1⟩ := getF X0 hx hZ hown (host := "") (Or.inl (hw _ (List.mem_of_getElem? (i := 52) rfl))) Via.refl e0 F_s (g := (mkF m 1 #[.val (.ref a1), .val (.int p2)] [(.ref a1)])) rfl rfl (hb hby d9_1)
  obtain ⟨c2, Ar2, -, S2, -, H2, -⟩ := (id VS)
  have hin2 : ¬ ((p2 + (1 : Int32)) < 0 ∨ c2.slots.size ≤ ((p2 + (1 : Int32))).toNatClampNeg) := inb_of S2 i1
  have hat2 : c2.slots[((p2 + (1 : Int32))).toNatClampNeg]? = some (.int x1) := H2.at hin2 t1
  obtain ⟨T3, X3, e3, st3⟩ := getF X1 hx hZ hown (host := "") (Or.inl (hw _ (List.mem_of_getElem? (i := 52) rfl))) Via.refl e1 F_s (g := (mkF m 9 #[.val (.ref a1), .val (.int p2)] [(.ref a1), (.int x1)])) rfl rfl (hb hby d9_9)
  obtain ⟨c4, Ar4, -, S4, -, H4, -⟩ := (id VS)
  have hin4 : ¬ (p2 < 0 ∨ c4.slots.size ≤ (p2).toNatClampNeg) := inb_of S4 i0
  have hat4 : c4.slots[(p2).toNatClampNeg]? = some (.int x0) := H4.at hin4 t0
  obtain ⟨fs, hr, hrun, hended, hW, hsame⟩ := X3.leave (v := some (.int (x1 - x0))) (fun h => by rw [Bd.returns] at h; cases h)
  refine ⟨_, _, pre0 _ ?_, hrun, hended, _, _, rfl, ?_, ⟨_, rfl⟩, hW, hsame.mono (by decide) (by decide)⟩
  · show Steps p.tables e below (s₁.setTop (mkF m 0 #[.val (.ref a1), .val (.int p2)] [])) _
    refine XS.aloadN X0.here hx rfl (hb hby d9_0) rfl rfl ?_
    show Steps p.tables e below (s₁.setTop (mkF m 1 #[.val (.ref a1), .val (.int p2)] [(.ref a1)])) _
    refine st1 _ ?_
    show Steps p.tables e below (T1.setTop (mkF m 4 #[.val (.ref a1), .val (.int p2)] [(.ref sb)])) _
    refine XS.iloadN X1.here hx rfl (hb hby d9_4) rfl ?_
    show Steps p.tables e below (T1.setTop (mkF m 5 #[.val (.ref a1), .val (.int p2)] [(.int p2), (.ref sb)])) _
    refine XS.iconst X1.here hx rfl (hb hby d9_5) ?_
    show Steps p.tables e below (T1.setTop (mkF m 6 #[.val (.ref a1), .val (.int p2)] [(.int (1 : Int32)), (.int p2), (.ref sb)])) _
    refine XS.iadd X1.here hx rfl (hb hby d9_6) rfl ?_
    show Steps p.tables e below (T1.setTop (mkF m 7 #[.val (.ref a1), .val (.int p2)] [(.int (p2 + (1 : Int32))), (.ref sb)])) _
    refine X1.iaload hx (j := (p2 + (1 : Int32))) (v := (.int x1)) (by rw [e1]; exact Ar2.1) (State.isArrayOf_alike hZ.alike Ar2.2.1) Ar2.2.2 hin2 hat2 (g := (mkF m 7 #[.val (.ref a1), .val (.int p2)] [(.int (p2 + (1 : Int32))), (.ref sb)])) rfl rfl (hb hby d9_7) _ ?_
    show Steps p.tables e below (T1.setTop (mkF m 8 #[.val (.ref a1), .val (.int p2)] [(.int x1)])) _
    refine XS.aloadN X1.here hx rfl (hb hby d9_8) rfl rfl ?_
    show Steps p.tables e below (T1.setTop (mkF m 9 #[.val (.ref a1), .val (.int p2)] [(.ref a1), (.int x1)])) _
    refine st3 _ ?_
    show Steps p.tables e below (T3.setTop (mkF m 12 #[.val (.ref a1), .val (.int p2)] [(.ref sb), (.int x1)])) _
    refine XS.iloadN X3.here hx rfl (hb hby d9_12) rfl ?_
    show Steps p.tables e below (T3.setTop (mkF m 13 #[.val (.ref a1), .val (.int p2)] [(.int p2), (.ref sb), (.int x1)])) _
    refine X3.iaload hx (j := p2) (v := (.int x0)) (by rw [e3]; exact Ar4.1) (State.isArrayOf_alike hZ.alike Ar4.2.1) Ar4.2.2 hin4 hat4 (g := (mkF m 13 #[.val (.ref a1), .val (.int p2)] [(.int p2), (.ref sb), (.int x1)])) rfl rfl (hb hby d9_13) _ ?_
    show Steps p.tables e below (T3.setTop (mkF m 14 #[.val (.ref a1), .val (.int p2)] [(.int x0), (.int x1)])) _
    refine XS.isub X3.here hx rfl (hb hby d9_14) rfl ?_
    show Steps p.tables e below (T3.setTop (mkF m 15 #[.val (.ref a1), .val (.int p2)] [(.int (x1 - x0))])) _
    exact retI X3 hx Bd.returns (hb hby d9_15) hr
  · show Q9 (x1 - x0) h0 n0 _ T3.heap _
    rw [e3]
    exact ⟨rfl, N0, rfl⟩
theorem d10_0 : decode prog_157_method_3_code 0 = .ok (.aload_n 0, 1) := by decide +kernel
theorem d10_1 : decode prog_157_method_3_code 1 = .ok (.getfield 13, 3) := by decide +kernel
theorem d10_4 : decode prog_157_method_3_code 4 = .ok (.aload_n 0, 1) := by decide +kernel
theorem d10_5 : decode prog_157_method_3_code 5 = .ok (.getfield 7, 3) := by decide +kernel
theorem d10_8 : decode prog_157_method_3_code 8 = .ok (.iload_n 1, 1) := by decide +kernel
theorem d10_9 : decode prog_157_method_3_code 9 = .ok (.iaload, 1) := by decide +kernel
theorem d10_10 : decode prog_157_method_3_code 10 = .ok (.iload_n 2, 1) := by decide +kernel
theorem d10_11 : decode prog_157_method_3_code 11 = .ok (.iadd, 1) := by decide +kernel
theorem d10_12 : decode prog_157_method_3_code 12 = .ok (.iaload, 1) := by decide +kernel
theorem d10_13 : decode prog_157_method_3_code 13 = .ok (.ireturn, 1) := by decide +kernel
theorem ef_10 (m : MethodId) (x0 : Addr) (x1 : Int32) (x2 : Int32) : entryFrame m #[(.ref x0), (.int x1), (.int x2)] 3 = mkF m 0 #[.val (.ref x0), .val (.int x1), .val (.int x2)] [] := by first | (simp [entryFrame, mkF, argsToLocals, Value.category]; done) | rfl
def Q10 (r : Int32) (h0 : Heap) (n0 : Nat) (v : Option Value) (h : Heap) (L : List Loc) : Prop := v = some (.int r) ∧ Fr n0 L ∧ h = h0
set_option maxRecDepth 65536 in
set_option maxHeartbeats 40000000 in
theorem rm10 (l : Launch) (Z : State) (a0 : Array Value) (hw : ∀ d ∈ tables_1, d.before a0 Z = true) (ws : List Jvm.Cond) (a1 : Addr) (p2 p3 : Int32) (sb mb : Addr) (ks km : ClassId) (ss us : List Value) (c x0 r : Int32) (h0 : Heap) (n0 : Nat) (Z0 : n0 ≤ h0.size) (F_s : Fld Z h0 a1 "org/keyward/securitymodel/NumberLists" "starts" "[I" (.ref sb)) (F_n : Fld Z h0 a1 "org/keyward/securitymodel/NumberLists" "numbers" "[I" (.ref mb)) (VS : Arv Z h0 sb ks .int (3 : Int32) ss (.int (0 : Int32))) (VM : Arv Z h0 mb km .int c us (.int (0 : Int32))) (i0 : ¬ p2 < 0 ∧ p2 < 3) (t0 : ss.getD p2.toNatClampNeg (.int (0 : Int32)) = .int x0) (i1 : ¬ (x0 + p3) < 0 ∧ (x0 + p3) < c) (t1 : us.getD (x0 + p3).toNatClampNeg (.int (0 : Int32)) = .int r)  :
    MetFree l (⟨"org/keyward/securitymodel/NumberLists", "get", "(II)I"⟩ : MethodName) (head1 (Jvm.Cond.code (⟨"org/keyward/securitymodel/NumberLists", "get", "(II)I"⟩ : MethodName) prog_157_method_3_code 3 (some .int) :: ws) ({ frames := 0, cells := 0, slots := 0, locals := 0 } : Room)) (fun a U => a = #[(.ref a1), (.int p2), (.int p3)] ∧ Z.Warmed39 U.vm ∧ U.heap = h0) (fun _ _ _ _ _ => True) (fun _ U o U' => ∃ v L, o = .returned v ∧ Q10 r h0 n0 v U'.heap L ∧ FrameEnd U o U' L ({ frames := 0, cells := 0, slots := 0, locals := 0 } : Room).cells ({ frames := 0, cells := 0, slots := 0, locals := 0 } : Room).slots) := by
  refine MetFree.of_bodySF (plainFor_of_name pn_org_keyward_securitymodel_NumberLists) hisR ?_
  intro p e s m args below meth cd s₁ Bd hml0 hPre hKc
  obtain ⟨rfl, hZ, hHp⟩ := hPre
  have hx := Bd.exec
  have hby := Bd.bytes
  have hml : cd.maxLocals = 3 := hml0
  have hown : s.vm.findClass "org/keyward/securitymodel/NumberLists" = some m.cls := findClass_of_methodNamed Bd.named
  have hnm := (name_of_methodNamed Bd.named Bd.method).1
  have X0 : Stand p l e ({ frames := 0, cells := 0, slots := 0, locals := 0 } : Room) s m #[(.ref a1), (.int p2), (.int p3)] below meth cd s₁ [] 0 0 := Stand.of_body Bd
  have e0 : s₁.heap = h0 := by rw [← hHp, Bd.state]; rfl
  have N0 := Fr.nil n0
  have pre0 : ∀ t, Steps p.tables e below (s₁.setTop (mkF m 0 #[.val (.ref a1), .val (.int p2), .val (.int p3)] [])) t → Steps p.tables e below (s₁.setTop (entryFrame m #[(.ref a1), (.int p2), (.int p3)] 3)) t := fun t k => castTop (ef_10 m a1 p2 p3) k
  obtain ⟨T1, X1, e1, st1⟩ := getF X0 hx hZ hown (host := "") (Or.inl (hw _ (List.mem_of_getElem? (i := 54) rfl))) Via.refl e0 F_n (g := (mkF m 1 #[.val (.ref a1), .val (.int p2), .val (.int p3)] [(.ref a1)])) rfl rfl (hb hby d10_1)
  obtain ⟨T2, X2, e2, st2⟩ := getF X1 hx hZ hown (host := "") (Or.inl (hw _ (List.mem_of_getElem? (i := 52) rfl))) Via.refl e1 F_s (g := (mkF m 5 #[.val (.ref a1), .val (.int p2), .val (.int p3)] [(.ref a1), (.ref mb)])) rfl rfl (hb hby d10_5)
  obtain ⟨c3, Ar3, -, S3, -, H3, -⟩ := (id VS)
  have hin3 : ¬ (p2 < 0 ∨ c3.slots.size ≤ (p2).toNatClampNeg) := inb_of S3 i0
  have hat3 : c3.slots[(p2).toNatClampNeg]? = some (.int x0) := H3.at hin3 t0
  obtain ⟨c4, Ar4, -, S4, -, H4, -⟩ := (id VM)
  have hin4 : ¬ ((x0 + p3) < 0 ∨ c4.slots.size ≤ ((x0 + p3)).toNatClampNeg) := inb_of S4 i1
  have hat4 : c4.slots[((x0 + p3)).toNatClampNeg]? = some (.int r) := H4.at hin4 t1
  obtain ⟨fs, hr, hrun, hended, hW, hsame⟩ := X2.leave (v := some (.int r)) (fun h => by rw [Bd.returns] at h; cases h)
  refine ⟨_, _, pre0 _ ?_, hrun, hended, _, _, rfl, ?_, ⟨_, rfl⟩, hW, hsame.mono (by decide) (by decide)⟩
  · show Steps p.tables e below (s₁.setTop (mkF m 0 #[.val (.ref a1), .val (.int p2), .val (.int p3)] [])) _
    refine XS.aloadN X0.here hx rfl (hb hby d10_0) rfl rfl ?_
    show Steps p.tables e below (s₁.setTop (mkF m 1 #[.val (.ref a1), .val (.int p2), .val (.int p3)] [(.ref a1)])) _
    refine st1 _ ?_
    show Steps p.tables e below (T1.setTop (mkF m 4 #[.val (.ref a1), .val (.int p2), .val (.int p3)] [(.ref mb)])) _
    refine XS.aloadN X1.here hx rfl (hb hby d10_4) rfl rfl ?_
    show Steps p.tables e below (T1.setTop (mkF m 5 #[.val (.ref a1), .val (.int p2), .val (.int p3)] [(.ref a1), (.ref mb)])) _
    refine st2 _ ?_
    show Steps p.tables e below (T2.setTop (mkF m 8 #[.val (.ref a1), .val (.int p2), .val (.int p3)] [(.ref sb), (.ref mb)])) _
    refine XS.iloadN X2.here hx rfl (hb hby d10_8) rfl ?_
    show Steps p.tables e below (T2.setTop (mkF m 9 #[.val (.ref a1), .val (.int p2), .val (.int p3)] [(.int p2), (.ref sb), (.ref mb)])) _
    refine X2.iaload hx (j := p2) (v := (.int x0)) (by rw [e2]; exact Ar3.1) (State.isArrayOf_alike hZ.alike Ar3.2.1) Ar3.2.2 hin3 hat3 (g := (mkF m 9 #[.val (.ref a1), .val (.int p2), .val (.int p3)] [(.int p2), (.ref sb), (.ref mb)])) rfl rfl (hb hby d10_9) _ ?_
    show Steps p.tables e below (T2.setTop (mkF m 10 #[.val (.ref a1), .val (.int p2), .val (.int p3)] [(.int x0), (.ref mb)])) _
    refine XS.iloadN X2.here hx rfl (hb hby d10_10) rfl ?_
    show Steps p.tables e below (T2.setTop (mkF m 11 #[.val (.ref a1), .val (.int p2), .val (.int p3)] [(.int p3), (.int x0), (.ref mb)])) _
    refine XS.iadd X2.here hx rfl (hb hby d10_11) rfl ?_
    show Steps p.tables e below (T2.setTop (mkF m 12 #[.val (.ref a1), .val (.int p2), .val (.int p3)] [(.int (x0 + p3)), (.ref mb)])) _
    refine X2.iaload hx (j := (x0 + p3)) (v := (.int r)) (by rw [e2]; exact Ar4.1) (State.isArrayOf_alike hZ.alike Ar4.2.1) Ar4.2.2 hin4 hat4 (g := (mkF m 12 #[.val (.ref a1), .val (.int p2), .val (.int p3)] [(.int (x0 + p3)), (.ref mb)])) rfl rfl (hb hby d10_12) _ ?_
    show Steps p.tables e below (T2.setTop (mkF m 13 #[.val (.ref a1), .val (.int p2), .val (.int p3)] [(.int r)])) _
    exact retI X2 hx Bd.returns (hb hby d10_13) hr
  · show Q10 r h0 n0 _ T2.heap _
    rw [e2]
    exact ⟨rfl, N0, rfl⟩
theorem pd__I_I : parseMethodDescriptor "(I)I" = some ⟨[.int], some .int⟩ := by decide +kernel
theorem pd__I_V : parseMethodDescriptor "(I)V" = some ⟨[.int], none⟩ := by decide +kernel
theorem pd___Lorg_keyward_securitymodel_NumberLists_ : parseMethodDescriptor "()Lorg/keyward/securitymodel/NumberLists;" = some ⟨[], some (.object "org/keyward/securitymodel/NumberLists")⟩ := by decide +kernel
theorem pd___V : parseMethodDescriptor "()V" = some ⟨[], none⟩ := by decide +kernel
theorem pn_org_keyward_securitymodel_BuilderEndPinLaw : plainName "org/keyward/securitymodel/BuilderEndPinLaw" = true := by first | (simp [plainName, overriddenIn]; done) | decide +kernel
theorem ef_0 (m : MethodId) (x0 : Int32) (x1 : Int32) (x2 : Int32) (x3 : Int32) : entryFrame m #[(.int x0), (.int x1), (.int x2), (.int x3)] maxLocals = mkF m 0 #[.val (.int x0), .val (.int x1), .val (.int x2), .val (.int x3), .unset, .unset, .unset, .unset, .unset, .unset, .unset, .unset] [] := by first | (simp [entryFrame, mkF, argsToLocals, Value.category, maxLocals]; done) | rfl
def Q0 (n0 : Nat) (v : Option Value) (h : Heap) (L : List Loc) : Prop := v = some (.int (1 : Int32)) ∧ Fr n0 L
set_option maxRecDepth 65536 in
set_option maxHeartbeats 40000000 in
theorem rm0_000 (l : Launch) (Z : State) (a0 : Array Value) (hw : ∀ d ∈ tables_1, d.before a0 Z = true) (ws : List Jvm.Cond) (p1 p2 p3 p4 : Int32) (h0 : Heap) (n0 : Nat) (Z0 : n0 ≤ h0.size)  (hc3 : (p4 &&& (1 : Int32)) = (0 : Int32)) (hc16 : (p4 &&& (2 : Int32)) = (0 : Int32)) (hc29 : (p4 &&& (4 : Int32)) = (0 : Int32)) :
    MetFree l x (head1 (Jvm.Cond.code x code maxLocals ret :: ws) room_1) (fun a U => a = #[(.int p1), (.int p2), (.int p3), (.int p4)] ∧ Z.Warmed39 U.vm ∧ U.heap = h0) (fun _ _ _ _ _ => True) (fun _ U o U' => ∃ v L, o = .returned v ∧ Q0 n0 v U'.heap L ∧ FrameEnd U o U' L room_1.cells room_1.slots) := by
  refine MetFree.of_bodySF (plainFor_of_name pn_org_keyward_securitymodel_BuilderEndPinLaw) hisR ?_
  intro p e s m args below meth cd s₁ Bd hml0 hPre hKc
  obtain ⟨rfl, hZ, hHp⟩ := hPre
  have hx := Bd.exec
  have hby := Bd.bytes
  have hml : cd.maxLocals = 12 := hml0
  have hown : s.vm.findClass "org/keyward/securitymodel/BuilderEndPinLaw" = some m.cls := findClass_of_methodNamed Bd.named
  have hnm := (name_of_methodNamed Bd.named Bd.method).1
  have X0 : Stand p l e room_1 s m #[(.int p1), (.int p2), (.int p3), (.int p4)] below meth cd s₁ [] 0 0 := Stand.of_body Bd
  have e0 : s₁.heap = h0 := by rw [← hHp, Bd.state]; rfl
  have N0 := Fr.nil n0
  have pre0 : ∀ t, Steps p.tables e below (s₁.setTop (mkF m 0 #[.val (.int p1), .val (.int p2), .val (.int p3), .val (.int p4), .unset, .unset, .unset, .unset, .unset, .unset, .unset, .unset] [])) t → Steps p.tables e below (s₁.setTop (entryFrame m #[(.int p1), (.int p2), (.int p3), (.int p4)] maxLocals)) t := fun t k => castTop (ef_0 m p1 p2 p3 p4) k
  obtain ⟨T1, h1, X1, e1, E1, A1, D1, -, st1⟩ := newO X0 hx hZ hown (hw _ (List.mem_of_getElem? (i := 0) rfl)) (hw _ (List.mem_of_getElem? (i := 1) rfl)) (hw _ (List.mem_of_getElem? (i := 2) rfl)) e0 (g := (mkF m 39 #[.val (.int p1), .val (.int p2), .val (.int p3), .val (.int p4), .val (.int (0 : Int32)), .val (.int (0 : Int32)), .val (.int (0 : Int32)), .unset, .unset, .unset, .unset, .unset] [])) rfl (hb hby at_39) (Nat.le_of_ble_eq_true rfl) (Nat.le_of_ble_eq_true rfl)
  obtain ⟨bo, g1⟩ : ∃ z, z = h0.size := ⟨_, rfl⟩
  rw [← g1] at A1 D1 st1
  have g_bo : n0 ≤ bo := Nat.le_trans Z0 (Nat.le_of_eq g1.symm)
  have z1 : n0 ≤ h1.size := Nat.le_trans Z0 E1.1
  have F_numbers_bo : Fld Z h1 bo "org/keyward/securitymodel/NumberLists$Builder" "numbers" "[I" .null := D1 (Or.inl (hw _ (List.mem_of_getElem? (i := 11) rfl))) (ty := (.array .int)) (by decide)
  have F_starts_bo : Fld Z h1 bo "org/keyward/securitymodel/NumberLists$Builder" "starts" "[I" .null := D1 (Or.inr (hw _ (List.mem_of_getElem? (i := 13) rfl))) (ty := (.array .int)) (by decide)
  have F_count_bo : Fld Z h1 bo "org/keyward/securitymodel/NumberLists$Builder" "count" "I" (.int (0 : Int32)) := D1 (Or.inl (hw _ (List.mem_of_getElem? (i := 20) rfl))) (ty := .int) (by decide)
  have F_listed_bo : Fld Z h1 bo "org/keyward/securitymodel/NumberLists$Builder" "listed" "I" (.int (0 : Int32)) := D1 (Or.inl (hw _ (List.mem_of_getElem? (i := 27) rfl))) (ty := .int) (by decide)
  obtain ⟨_, _, ⟨T2, L2, k2, n2⟩, -, X2, ⟨Lc2, hQ2, l2, y2, z2⟩, st2⟩ := X1.specialBack hx (y := (⟨"org/keyward/securitymodel/NumberLists$Builder", "<init>", "(I)V"⟩ : MethodName)) rfl hown (mvT hZ (hw _ (List.mem_of_getElem? (i := 3) rfl))) (mvT hZ (hw _ (List.mem_of_getElem? (i := 4) rfl))) (mvT hZ (hw _ (List.mem_of_getElem? (i := 5) rfl))) (by decide) (backOf (W := 1) (rm1 l Z a0 hw [] bo _ _ h1 n0 z1 A1 g_bo F_numbers_bo F_starts_bo F_count_bo F_listed_bo) hZ (hw _ (List.mem_of_getElem? (i := 5) rfl)) (hw _ (List.mem_of_getElem? (i := 2) rfl)) (by decide) (by decide)) (g := (mkF m 44 #[.val (.int p1), .val (.int p2), .val (.int p3), .val (.int p4), .val (.int (0 : Int32)), .val (.int (0 : Int32)), .val (.int (0 : Int32)), .unset, .unset, .unset, .unset, .unset] [(.int (2 : Int32)), (.ref bo), (.ref bo)])) rfl (by rw [hml]; rfl) (Steps.refl _) (a := bo) (argsL := [(.int (2 : Int32))]) (rest := [(.ref bo)]) (lenOf pd__I_V rfl) rfl (by show 2 * 0 + _ ≤ _; exact Nat.le_of_eq rfl) (hb hby at_44) (fun _ _ => ⟨rfl, e1, (Nat.le_of_ble_eq_true rfl), (Nat.le_of_ble_eq_true rfl)⟩)
  dsimp only [Pt.U, Pt.locs, Pt.cells, Pt.slots] at X2 l2 y2 z2 st2 hQ2
  subst l2 y2 z2
  obtain ⟨rfl, N2q, nb, sb, kn, ks, Kc2, Eb2, Fnumbers2, Fstarts2, Fcount2, Flisted2, Vn2, Vs2, gn2, gs2, ne12, ne22, ne32⟩ := hQ2
  have N2 := Fr.app N0 N2q
  have zz2 : n0 ≤ T2.heap.size := Nat.le_trans z1 Kc2.1
  obtain ⟨cq3, kq3, q3a, q3b, q3c⟩ := isOf hZ rfl Eb2
  obtain ⟨_, _, ⟨T3, L3, k3, n3⟩, -, X3, ⟨Lc3, hQ3, l3, y3, z3⟩, st3⟩ := X2.virtualBack hx (y := (⟨"org/keyward/securitymodel/NumberLists$Builder", "end", "()V"⟩ : MethodName)) (z := (⟨"org/keyward/securitymodel/NumberLists$Builder", "end", "()V"⟩ : MethodName)) hown (mvT hZ (hw _ (List.mem_of_getElem? (i := 21) rfl))) (mvT hZ (hw _ (List.mem_of_getElem? (i := 22) rfl))) (notFace_of_selects (args := #[]) (mvT hZ (hw _ (List.mem_of_getElem? (i := 24) rfl)))) (mvT hZ (hw _ (List.mem_of_getElem? (i := 24) rfl))) (mvT hZ (hw _ (List.mem_of_getElem? (i := 23) rfl))) (by decide) (backOf (W := 0) (rm4 l Z a0 hw [] bo nb sb (0 : Int32) (0 : Int32) ks _ 1 T2.heap n0 zz2 Eb2 Fnumbers2 Fstarts2 Fcount2 Flisted2 g_bo gs2 ne22 Vs2 (by decide) (by decide) (Nat.le_of_ble_eq_true rfl)) hZ (hw _ (List.mem_of_getElem? (i := 25) rfl)) (hw _ (List.mem_of_getElem? (i := 2) rfl)) (by decide) (by decide)) q3a q3c (g := (mkF m 73 #[.val (.int p1), .val (.int p2), .val (.int p3), .val (.int p4), .val (.int (0 : Int32)), .val (.int (0 : Int32)), .val (.int (0 : Int32)), .val (.ref bo), .unset, .unset, .unset, .unset] [(.ref bo)])) rfl (by rw [hml]; rfl) (Steps.refl _) (argsL := []) (rest := []) (lenOf pd___V rfl) rfl (by show 2 * 0 + _ ≤ _; exact Nat.le_of_eq rfl) (hb hby at_73) (fun _ _ => ⟨rfl, rfl, (Nat.le_of_ble_eq_true rfl), (Nat.le_of_ble_eq_true rfl)⟩)
  dsimp only [Pt.U, Pt.locs, Pt.cells, Pt.slots] at X3 l3 y3 z3 st3 hQ3
  subst l3 y3 z3
  obtain ⟨rfl, N3q, Kc3, Eb3, Fnumbers3, Fstarts3, Fcount3, Flisted3, Vs3⟩ := hQ3
  have N3 := Fr.app N2 N3q
  have f4_V_nb := Vn2.keep Kc3 (ninS (Ne.symm ne12) (ninS ne32 nin0))
  have zz3 : n0 ≤ T3.heap.size := Nat.le_trans zz2 Kc3.1
  have Vx3 : Arv Z T3.heap sb ks .int (3 : Int32) [(.int (0 : Int32)), (.int (0 : Int32)), (.int (0 : Int32))] (.int (0 : Int32)) := Vs3
  obtain ⟨cq5, kq5, q5a, q5b, q5c⟩ := isOf hZ rfl Eb3
  obtain ⟨_, _, ⟨T5, L5, k5, n5⟩, -, X5, ⟨Lc5, hQ5, l5, y5, z5⟩, st5⟩ := X3.virtualBack hx (y := (⟨"org/keyward/securitymodel/NumberLists$Builder", "end", "()V"⟩ : MethodName)) (z := (⟨"org/keyward/securitymodel/NumberLists$Builder", "end", "()V"⟩ : MethodName)) hown (mvT hZ (hw _ (List.mem_of_getElem? (i := 21) rfl))) (mvT hZ (hw _ (List.mem_of_getElem? (i := 22) rfl))) (notFace_of_selects (args := #[]) (mvT hZ (hw _ (List.mem_of_getElem? (i := 24) rfl)))) (mvT hZ (hw _ (List.mem_of_getElem? (i := 24) rfl))) (mvT hZ (hw _ (List.mem_of_getElem? (i := 23) rfl))) (by decide) (backOf (W := 0) (rm4 l Z a0 hw [] bo nb sb (0 : Int32) ((0 : Int32) + (1 : Int32)) ks _ 2 T3.heap n0 zz3 Eb3 Fnumbers3 Fstarts3 Fcount3 Flisted3 g_bo gs2 ne22 Vx3 (by decide) (by decide) (Nat.le_of_ble_eq_true rfl)) hZ (hw _ (List.mem_of_getElem? (i := 25) rfl)) (hw _ (List.mem_of_getElem? (i := 2) rfl)) (by decide) (by decide)) q5a q5c (g := (mkF m 89 #[.val (.int p1), .val (.int p2), .val (.int p3), .val (.int p4), .val (.int (0 : Int32)), .val (.int (0 : Int32)), .val (.int (0 : Int32)), .val (.ref bo), .unset, .unset, .unset, .unset] [(.ref bo)])) rfl (by rw [hml]; rfl) (Steps.refl _) (argsL := []) (rest := []) (lenOf pd___V rfl) rfl (by show 2 * 0 + _ ≤ _; exact Nat.le_of_eq rfl) (hb hby at_89) (fun _ _ => ⟨rfl, rfl, (Nat.le_of_ble_eq_true rfl), (Nat.le_of_ble_eq_true rfl)⟩)
  dsimp only [Pt.U, Pt.locs, Pt.cells, Pt.slots] at X5 l5 y5 z5 st5 hQ5
  subst l5 y5 z5
  obtain ⟨rfl, N5q, Kc5, Eb5, Fnumbers5, Fstarts5, Fcount5, Flisted5, Vs5⟩ := hQ5
  have N5 := Fr.app N3 N5q
  have f6_V_nb := f4_V_nb.keep Kc5 (ninS (Ne.symm ne12) (ninS ne32 nin0))
  have zz5 : n0 ≤ T5.heap.size := Nat.le_trans zz3 Kc5.1
  have Vx5 : Arv Z T5.heap sb ks .int (3 : Int32) [(.int (0 : Int32)), (.int (0 : Int32)), (.int (0 : Int32))] (.int (0 : Int32)) := Vs5
  obtain ⟨cq7, kq7, q7a, q7b, q7c⟩ := isOf hZ rfl Eb5
  obtain ⟨_, _, ⟨T7, L7, k7, n7⟩, -, X7, ⟨Lc7, hQ7, l7, y7, z7⟩, st7⟩ := X5.virtualBack hx (y := (⟨"org/keyward/securitymodel/NumberLists$Builder", "build", "()Lorg/keyward/securitymodel/NumberLists;"⟩ : MethodName)) (z := (⟨"org/keyward/securitymodel/NumberLists$Builder", "build", "()Lorg/keyward/securitymodel/NumberLists;"⟩ : MethodName)) hown (mvT hZ (hw _ (List.mem_of_getElem? (i := 28) rfl))) (mvT hZ (hw _ (List.mem_of_getElem? (i := 29) rfl))) (notFace_of_selects (args := #[]) (mvT hZ (hw _ (List.mem_of_getElem? (i := 31) rfl)))) (mvT hZ (hw _ (List.mem_of_getElem? (i := 31) rfl))) (mvT hZ (hw _ (List.mem_of_getElem? (i := 30) rfl))) (by decide) (backOf (W := 0) (rm5 l Z a0 hw [] bo nb sb (0 : Int32) (((0 : Int32) + (1 : Int32)) + (1 : Int32)) kn ks _ _ 0 T5.heap n0 zz5 Eb5 Fnumbers5 Fstarts5 Fcount5 Flisted5 f6_V_nb Vx5 (by decide) (by decide) (by decide) (by decide)) hZ (hw _ (List.mem_of_getElem? (i := 32) rfl)) (hw _ (List.mem_of_getElem? (i := 2) rfl)) (by decide) (by decide)) q7a q7c (g := (mkF m 94 #[.val (.int p1), .val (.int p2), .val (.int p3), .val (.int p4), .val (.int (0 : Int32)), .val (.int (0 : Int32)), .val (.int (0 : Int32)), .val (.ref bo), .unset, .unset, .unset, .unset] [(.ref bo)])) rfl (by rw [hml]; rfl) (Steps.refl _) (argsL := []) (rest := []) (lenOf pd___Lorg_keyward_securitymodel_NumberLists_ rfl) rfl (by show 2 * 0 + _ ≤ _; exact Nat.le_of_eq rfl) (hb hby at_94) (fun _ _ => ⟨rfl, rfl, (Nat.le_of_ble_eq_true rfl), (Nat.le_of_ble_eq_true rfl)⟩)
  dsimp only [Pt.U, Pt.locs, Pt.cells, Pt.slots] at X7 l7 y7 z7 st7 hQ7
  subst l7 y7 z7
  obtain ⟨o7, mb7, km7, rfl, N7q, Kc7, Eo7, So7, No7, Vm7⟩ := hQ7
  have N7 := Fr.app N5 N7q
  have f8_V_nb := f6_V_nb.keep Kc7 nin0
  have f9_E_bo := Eb5.keep Kc7
  have f10_F_bo_numbers := Fnumbers5.keep Kc7 nin0
  have f11_F_bo_starts := Fstarts5.keep Kc7 nin0
  have f12_F_bo_count := Fcount5.keep Kc7 nin0
  have f13_F_bo_listed := Flisted5.keep Kc7 nin0
  have f14_V_sb := Vx5.keep Kc7 nin0
  have zz7 : n0 ≤ T7.heap.size := Nat.le_trans zz5 Kc7.1
  obtain ⟨cq15, kq15, q15a, q15b, q15c⟩ := isOf hZ rfl Eo7
  obtain ⟨_, _, ⟨T15, L15, k15, n15⟩, -, X15, ⟨Lc15, hQ15, l15, y15, z15⟩, st15⟩ := X7.virtualBack hx (y := (⟨"org/keyward/securitymodel/NumberLists", "size", "(I)I"⟩ : MethodName)) (z := (⟨"org/keyward/securitymodel/NumberLists", "size", "(I)I"⟩ : MethodName)) hown (mvT hZ (hw _ (List.mem_of_getElem? (i := 56) rfl))) (mvT hZ (hw _ (List.mem_of_getElem? (i := 57) rfl))) (notFace_of_selects (args := #[]) (mvT hZ (hw _ (List.mem_of_getElem? (i := 59) rfl)))) (mvT hZ (hw _ (List.mem_of_getElem? (i := 59) rfl))) (mvT hZ (hw _ (List.mem_of_getElem? (i := 58) rfl))) (by decide) (backOf (W := 0) (rm9 l Z a0 hw [] o7 (0 : Int32) sb ks _ (0 : Int32) (0 : Int32) T7.heap n0 zz7 So7 f14_V_sb (by decide) (by decide) rfl rfl) hZ (hw _ (List.mem_of_getElem? (i := 60) rfl)) (hw _ (List.mem_of_getElem? (i := 35) rfl)) (by decide) (by decide)) q15a q15c (g := (mkF m 137 #[.val (.int p1), .val (.int p2), .val (.int p3), .val (.int p4), .val (.int (0 : Int32)), .val (.int (0 : Int32)), .val (.int (0 : Int32)), .val (.ref bo), .val (.ref o7), .val (.int ((0 : Int32) + (0 : Int32))), .val (.int (0 : Int32)), .unset] [(.int (0 : Int32)), (.ref o7)])) rfl (by rw [hml]; rfl) (Steps.refl _) (argsL := [(.int (0 : Int32))]) (rest := []) (lenOf pd__I_I rfl) rfl (by show 2 * 0 + _ ≤ _; exact Nat.le_of_eq rfl) (hb hby at_137) (fun _ _ => ⟨rfl, rfl, (Nat.le_of_ble_eq_true rfl), (Nat.le_of_ble_eq_true rfl)⟩)
  dsimp only [Pt.U, Pt.locs, Pt.cells, Pt.slots] at X15 l15 y15 z15 st15 hQ15
  subst l15 y15 z15
  obtain ⟨rfl, N15q, e15⟩ := hQ15
  have N15 := Fr.app N7 N15q
  obtain ⟨cq16, kq16, q16a, q16b, q16c⟩ := isOf hZ e15 Eo7
  obtain ⟨_, _, ⟨T16, L16, k16, n16⟩, -, X16, ⟨Lc16, hQ16, l16, y16, z16⟩, st16⟩ := X15.virtualBack hx (y := (⟨"org/keyward/securitymodel/NumberLists", "size", "(I)I"⟩ : MethodName)) (z := (⟨"org/keyward/securitymodel/NumberLists", "size", "(I)I"⟩ : MethodName)) hown (mvT hZ (hw _ (List.mem_of_getElem? (i := 56) rfl))) (mvT hZ (hw _ (List.mem_of_getElem? (i := 57) rfl))) (notFace_of_selects (args := #[]) (mvT hZ (hw _ (List.mem_of_getElem? (i := 59) rfl)))) (mvT hZ (hw _ (List.mem_of_getElem? (i := 59) rfl))) (mvT hZ (hw _ (List.mem_of_getElem? (i := 58) rfl))) (by decide) (backOf (W := 0) (rm9 l Z a0 hw [] o7 (1 : Int32) sb ks _ (0 : Int32) (0 : Int32) T7.heap n0 zz7 So7 f14_V_sb (by decide) (by decide) rfl rfl) hZ (hw _ (List.mem_of_getElem? (i := 60) rfl)) (hw _ (List.mem_of_getElem? (i := 35) rfl)) (by decide) (by decide)) q16a q16c (g := (mkF m 150 #[.val (.int p1), .val (.int p2), .val (.int p3), .val (.int p4), .val (.int (0 : Int32)), .val (.int (0 : Int32)), .val (.int (0 : Int32)), .val (.ref bo), .val (.ref o7), .val (.int ((0 : Int32) + (0 : Int32))), .val (.int (0 : Int32)), .unset] [(.int (1 : Int32)), (.ref o7)])) rfl (by rw [hml]; rfl) (Steps.refl _) (argsL := [(.int (1 : Int32))]) (rest := []) (lenOf pd__I_I rfl) rfl (by show 2 * 0 + _ ≤ _; exact Nat.le_of_eq rfl) (hb hby at_150) (fun _ _ => ⟨rfl, e15, (Nat.le_of_ble_eq_true rfl), (Nat.le_of_ble_eq_true rfl)⟩)
  dsimp only [Pt.U, Pt.locs, Pt.cells, Pt.slots] at X16 l16 y16 z16 st16 hQ16
  subst l16 y16 z16
  obtain ⟨rfl, N16q, e16⟩ := hQ16
  have N16 := Fr.app N15 N16q
  obtain ⟨fs, hr, hrun, hended, hW, hsame⟩ := X16.leave (v := some (.int (1 : Int32))) (fun h => by rw [Bd.returns] at h; cases h)
  refine ⟨_, _, pre0 _ ?_, hrun, hended, _, _, rfl, ?_, ⟨_, rfl⟩, hW, hsame.mono (by decide) (by decide)⟩
  · show Steps p.tables e below (s₁.setTop (mkF m 0 #[.val (.int p1), .val (.int p2), .val (.int p3), .val (.int p4), .unset, .unset, .unset, .unset, .unset, .unset, .unset, .unset] [])) _
    refine XS.iloadN X0.here hx rfl (hb hby at_0) rfl ?_
    show Steps p.tables e below (s₁.setTop (mkF m 1 #[.val (.int p1), .val (.int p2), .val (.int p3), .val (.int p4), .unset, .unset, .unset, .unset, .unset, .unset, .unset, .unset] [(.int p4)])) _
    refine XS.iconst X0.here hx rfl (hb hby at_1) ?_
    show Steps p.tables e below (s₁.setTop (mkF m 2 #[.val (.int p1), .val (.int p2), .val (.int p3), .val (.int p4), .unset, .unset, .unset, .unset, .unset, .unset, .unset, .unset] [(.int (1 : Int32)), (.int p4)])) _
    refine XS.iand X0.here hx rfl (hb hby at_2) rfl ?_
    show Steps p.tables e below (s₁.setTop (mkF m 3 #[.val (.int p1), .val (.int p2), .val (.int p3), .val (.int p4), .unset, .unset, .unset, .unset, .unset, .unset, .unset, .unset] [(.int (p4 &&& (1 : Int32)))])) _
    refine XS.ifYes X0.here hx rfl (pc0 := 3) (pc' := 10) rfl (hb hby at_3) rfl ((if0 _ _).trans (teq hc3).1) (by decide) (by decide) ?_
    show Steps p.tables e below (s₁.setTop (mkF m 10 #[.val (.int p1), .val (.int p2), .val (.int p3), .val (.int p4), .unset, .unset, .unset, .unset, .unset, .unset, .unset, .unset] [])) _
    refine XS.iconst X0.here hx rfl (hb hby at_10) ?_
    show Steps p.tables e below (s₁.setTop (mkF m 11 #[.val (.int p1), .val (.int p2), .val (.int p3), .val (.int p4), .unset, .unset, .unset, .unset, .unset, .unset, .unset, .unset] [(.int (0 : Int32))])) _
    refine XS.istore X0.here hx rfl (hb hby at_11) rfl (l' := #[.val (.int p1), .val (.int p2), .val (.int p3), .val (.int p4), .val (.int (0 : Int32)), .unset, .unset, .unset, .unset, .unset, .unset, .unset]) rfl ?_
    show Steps p.tables e below (s₁.setTop (mkF m 13 #[.val (.int p1), .val (.int p2), .val (.int p3), .val (.int p4), .val (.int (0 : Int32)), .unset, .unset, .unset, .unset, .unset, .unset, .unset] [])) _
    refine XS.iloadN X0.here hx rfl (hb hby at_13) rfl ?_
    show Steps p.tables e below (s₁.setTop (mkF m 14 #[.val (.int p1), .val (.int p2), .val (.int p3), .val (.int p4), .val (.int (0 : Int32)), .unset, .unset, .unset, .unset, .unset, .unset, .unset] [(.int p4)])) _
    refine XS.iconst X0.here hx rfl (hb hby at_14) ?_
    show Steps p.tables e below (s₁.setTop (mkF m 15 #[.val (.int p1), .val (.int p2), .val (.int p3), .val (.int p4), .val (.int (0 : Int32)), .unset, .unset, .unset, .unset, .unset, .unset, .unset] [(.int (2 : Int32)), (.int p4)])) _
    refine XS.iand X0.here hx rfl (hb hby at_15) rfl ?_
    show Steps p.tables e below (s₁.setTop (mkF m 16 #[.val (.int p1), .val (.int p2), .val (.int p3), .val (.int p4), .val (.int (0 : Int32)), .unset, .unset, .unset, .unset, .unset, .unset, .unset] [(.int (p4 &&& (2 : Int32)))])) _
    refine XS.ifYes X0.here hx rfl (pc0 := 16) (pc' := 23) rfl (hb hby at_16) rfl ((if0 _ _).trans (teq hc16).1) (by decide) (by decide) ?_
    show Steps p.tables e below (s₁.setTop (mkF m 23 #[.val (.int p1), .val (.int p2), .val (.int p3), .val (.int p4), .val (.int (0 : Int32)), .unset, .unset, .unset, .unset, .unset, .unset, .unset] [])) _
    refine XS.iconst X0.here hx rfl (hb hby at_23) ?_
    show Steps p.tables e below (s₁.setTop (mkF m 24 #[.val (.int p1), .val (.int p2), .val (.int p3), .val (.int p4), .val (.int (0 : Int32)), .unset, .unset, .unset, .unset, .unset, .unset, .unset] [(.int (0 : Int32))])) _
    refine XS.istore X0.here hx rfl (hb hby at_24) rfl (l' := #[.val (.int p1), .val (.int p2), .val (.int p3), .val (.int p4), .val (.int (0 : Int32)), .val (.int (0 : Int32)), .unset, .unset, .unset, .unset, .unset, .unset]) rfl ?_
    show Steps p.tables e below (s₁.setTop (mkF m 26 #[.val (.int p1), .val (.int p2), .val (.int p3), .val (.int p4), .val (.int (0 : Int32)), .val (.int (0 : Int32)), .unset, .unset, .unset, .unset, .unset, .unset] [])) _
    refine XS.iloadN X0.here hx rfl (hb hby at_26) rfl ?_
    show Steps p.tables e below (s₁.setTop (mkF m 27 #[.val (.int p1), .val (.int p2), .val (.int p3), .val (.int p4), .val (.int (0 : Int32)), .val (.int (0 : Int32)), .unset, .unset, .unset, .unset, .unset, .unset] [(.int p4)])) _
    refine XS.iconst X0.here hx rfl (hb hby at_27) ?_
    show Steps p.tables e below (s₁.setTop (mkF m 28 #[.val (.int p1), .val (.int p2), .val (.int p3), .val (.int p4), .val (.int (0 : Int32)), .val (.int (0 : Int32)), .unset, .unset, .unset, .unset, .unset, .unset] [(.int (4 : Int32)), (.int p4)])) _
    refine XS.iand X0.here hx rfl (hb hby at_28) rfl ?_
    show Steps p.tables e below (s₁.setTop (mkF m 29 #[.val (.int p1), .val (.int p2), .val (.int p3), .val (.int p4), .val (.int (0 : Int32)), .val (.int (0 : Int32)), .unset, .unset, .unset, .unset, .unset, .unset] [(.int (p4 &&& (4 : Int32)))])) _
    refine XS.ifYes X0.here hx rfl (pc0 := 29) (pc' := 36) rfl (hb hby at_29) rfl ((if0 _ _).trans (teq hc29).1) (by decide) (by decide) ?_
    show Steps p.tables e below (s₁.setTop (mkF m 36 #[.val (.int p1), .val (.int p2), .val (.int p3), .val (.int p4), .val (.int (0 : Int32)), .val (.int (0 : Int32)), .unset, .unset, .unset, .unset, .unset, .unset] [])) _
    refine XS.iconst X0.here hx rfl (hb hby at_36) ?_
    show Steps p.tables e below (s₁.setTop (mkF m 37 #[.val (.int p1), .val (.int p2), .val (.int p3), .val (.int p4), .val (.int (0 : Int32)), .val (.int (0 : Int32)), .unset, .unset, .unset, .unset, .unset, .unset] [(.int (0 : Int32))])) _
    refine XS.istore X0.here hx rfl (hb hby at_37) rfl (l' := #[.val (.int p1), .val (.int p2), .val (.int p3), .val (.int p4), .val (.int (0 : Int32)), .val (.int (0 : Int32)), .val (.int (0 : Int32)), .unset, .unset, .unset, .unset, .unset]) rfl ?_
    show Steps p.tables e below (s₁.setTop (mkF m 39 #[.val (.int p1), .val (.int p2), .val (.int p3), .val (.int p4), .val (.int (0 : Int32)), .val (.int (0 : Int32)), .val (.int (0 : Int32)), .unset, .unset, .unset, .unset, .unset] [])) _
    refine st1 _ ?_
    show Steps p.tables e below (T1.setTop (mkF m 42 #[.val (.int p1), .val (.int p2), .val (.int p3), .val (.int p4), .val (.int (0 : Int32)), .val (.int (0 : Int32)), .val (.int (0 : Int32)), .unset, .unset, .unset, .unset, .unset] [(.ref bo)])) _
    refine XS.dup X1.here hx rfl (hb hby at_42) rfl rfl ?_
    show Steps p.tables e below (T1.setTop (mkF m 43 #[.val (.int p1), .val (.int p2), .val (.int p3), .val (.int p4), .val (.int (0 : Int32)), .val (.int (0 : Int32)), .val (.int (0 : Int32)), .unset, .unset, .unset, .unset, .unset] [(.ref bo), (.ref bo)])) _
    refine XS.iconst X1.here hx rfl (hb hby at_43) ?_
    show Steps p.tables e below (T1.setTop (mkF m 44 #[.val (.int p1), .val (.int p2), .val (.int p3), .val (.int p4), .val (.int (0 : Int32)), .val (.int (0 : Int32)), .val (.int (0 : Int32)), .unset, .unset, .unset, .unset, .unset] [(.int (2 : Int32)), (.ref bo), (.ref bo)])) _
    refine st2.trans ?_
    show Steps p.tables e below (T2.setTop (mkF m 47 #[.val (.int p1), .val (.int p2), .val (.int p3), .val (.int p4), .val (.int (0 : Int32)), .val (.int (0 : Int32)), .val (.int (0 : Int32)), .unset, .unset, .unset, .unset, .unset] [(.ref bo)])) _
    refine XS.astore X2.here hx rfl (hb hby at_47) rfl rfl (l' := #[.val (.int p1), .val (.int p2), .val (.int p3), .val (.int p4), .val (.int (0 : Int32)), .val (.int (0 : Int32)), .val (.int (0 : Int32)), .val (.ref bo), .unset, .unset, .unset, .unset]) rfl ?_
    show Steps p.tables e below (T2.setTop (mkF m 49 #[.val (.int p1), .val (.int p2), .val (.int p3), .val (.int p4), .val (.int (0 : Int32)), .val (.int (0 : Int32)), .val (.int (0 : Int32)), .val (.ref bo), .unset, .unset, .unset, .unset] [])) _
    refine XS.iload X2.here hx rfl (hb hby at_49) rfl ?_
    show Steps p.tables e below (T2.setTop (mkF m 51 #[.val (.int p1), .val (.int p2), .val (.int p3), .val (.int p4), .val (.int (0 : Int32)), .val (.int (0 : Int32)), .val (.int (0 : Int32)), .val (.ref bo), .unset, .unset, .unset, .unset] [(.int (0 : Int32))])) _
    refine XS.ifYes X2.here hx rfl (pc0 := 51) (pc' := 60) rfl (hb hby at_51) rfl ((if0 _ _).trans (teq (by decide : (0 : Int32) = (0 : Int32))).1) (by decide) (by decide) ?_
    show Steps p.tables e below (T2.setTop (mkF m 60 #[.val (.int p1), .val (.int p2), .val (.int p3), .val (.int p4), .val (.int (0 : Int32)), .val (.int (0 : Int32)), .val (.int (0 : Int32)), .val (.ref bo), .unset, .unset, .unset, .unset] [])) _
    refine XS.iload X2.here hx rfl (hb hby at_60) rfl ?_
    show Steps p.tables e below (T2.setTop (mkF m 62 #[.val (.int p1), .val (.int p2), .val (.int p3), .val (.int p4), .val (.int (0 : Int32)), .val (.int (0 : Int32)), .val (.int (0 : Int32)), .val (.ref bo), .unset, .unset, .unset, .unset] [(.int (0 : Int32))])) _
    refine XS.ifYes X2.here hx rfl (pc0 := 62) (pc' := 71) rfl (hb hby at_62) rfl ((if0 _ _).trans (teq (by decide : (0 : Int32) = (0 : Int32))).1) (by decide) (by decide) ?_
    show Steps p.tables e below (T2.setTop (mkF m 71 #[.val (.int p1), .val (.int p2), .val (.int p3), .val (.int p4), .val (.int (0 : Int32)), .val (.int (0 : Int32)), .val (.int (0 : Int32)), .val (.ref bo), .unset, .unset, .unset, .unset] [])) _
    refine XS.aload X2.here hx rfl (hb hby at_71) rfl rfl ?_
    show Steps p.tables e below (T2.setTop (mkF m 73 #[.val (.int p1), .val (.int p2), .val (.int p3), .val (.int p4), .val (.int (0 : Int32)), .val (.int (0 : Int32)), .val (.int (0 : Int32)), .val (.ref bo), .unset, .unset, .unset, .unset] [(.ref bo)])) _
    refine st3.trans ?_
    show Steps p.tables e below (T3.setTop (mkF m 76 #[.val (.int p1), .val (.int p2), .val (.int p3), .val (.int p4), .val (.int (0 : Int32)), .val (.int (0 : Int32)), .val (.int (0 : Int32)), .val (.ref bo), .unset, .unset, .unset, .unset] [])) _
    refine XS.iload X3.here hx rfl (hb hby at_76) rfl ?_
    show Steps p.tables e below (T3.setTop (mkF m 78 #[.val (.int p1), .val (.int p2), .val (.int p3), .val (.int p4), .val (.int (0 : Int32)), .val (.int (0 : Int32)), .val (.int (0 : Int32)), .val (.ref bo), .unset, .unset, .unset, .unset] [(.int (0 : Int32))])) _
    refine XS.ifYes X3.here hx rfl (pc0 := 78) (pc' := 87) rfl (hb hby at_78) rfl ((if0 _ _).trans (teq (by decide : (0 : Int32) = (0 : Int32))).1) (by decide) (by decide) ?_
    show Steps p.tables e below (T3.setTop (mkF m 87 #[.val (.int p1), .val (.int p2), .val (.int p3), .val (.int p4), .val (.int (0 : Int32)), .val (.int (0 : Int32)), .val (.int (0 : Int32)), .val (.ref bo), .unset, .unset, .unset, .unset] [])) _
    refine XS.aload X3.here hx rfl (hb hby at_87) rfl rfl ?_
    show Steps p.tables e below (T3.setTop (mkF m 89 #[.val (.int p1), .val (.int p2), .val (.int p3), .val (.int p4), .val (.int (0 : Int32)), .val (.int (0 : Int32)), .val (.int (0 : Int32)), .val (.ref bo), .unset, .unset, .unset, .unset] [(.ref bo)])) _
    refine st5.trans ?_
    show Steps p.tables e below (T5.setTop (mkF m 92 #[.val (.int p1), .val (.int p2), .val (.int p3), .val (.int p4), .val (.int (0 : Int32)), .val (.int (0 : Int32)), .val (.int (0 : Int32)), .val (.ref bo), .unset, .unset, .unset, .unset] [])) _
    refine XS.aload X5.here hx rfl (hb hby at_92) rfl rfl ?_
    show Steps p.tables e below (T5.setTop (mkF m 94 #[.val (.int p1), .val (.int p2), .val (.int p3), .val (.int p4), .val (.int (0 : Int32)), .val (.int (0 : Int32)), .val (.int (0 : Int32)), .val (.ref bo), .unset, .unset, .unset, .unset] [(.ref bo)])) _
    refine st7.trans ?_
    show Steps p.tables e below (T7.setTop (mkF m 97 #[.val (.int p1), .val (.int p2), .val (.int p3), .val (.int p4), .val (.int (0 : Int32)), .val (.int (0 : Int32)), .val (.int (0 : Int32)), .val (.ref bo), .unset, .unset, .unset, .unset] [(.ref o7)])) _
    refine XS.astore X7.here hx rfl (hb hby at_97) rfl rfl (l' := #[.val (.int p1), .val (.int p2), .val (.int p3), .val (.int p4), .val (.int (0 : Int32)), .val (.int (0 : Int32)), .val (.int (0 : Int32)), .val (.ref bo), .val (.ref o7), .unset, .unset, .unset]) rfl ?_
    show Steps p.tables e below (T7.setTop (mkF m 99 #[.val (.int p1), .val (.int p2), .val (.int p3), .val (.int p4), .val (.int (0 : Int32)), .val (.int (0 : Int32)), .val (.int (0 : Int32)), .val (.ref bo), .val (.ref o7), .unset, .unset, .unset] [])) _
    refine XS.iload X7.here hx rfl (hb hby at_99) rfl ?_
    show Steps p.tables e below (T7.setTop (mkF m 101 #[.val (.int p1), .val (.int p2), .val (.int p3), .val (.int p4), .val (.int (0 : Int32)), .val (.int (0 : Int32)), .val (.int (0 : Int32)), .val (.ref bo), .val (.ref o7), .unset, .unset, .unset] [(.int (0 : Int32))])) _
    refine XS.ifYes X7.here hx rfl (pc0 := 101) (pc' := 108) rfl (hb hby at_101) rfl ((if0 _ _).trans (teq (by decide : (0 : Int32) = (0 : Int32))).1) (by decide) (by decide) ?_
    show Steps p.tables e below (T7.setTop (mkF m 108 #[.val (.int p1), .val (.int p2), .val (.int p3), .val (.int p4), .val (.int (0 : Int32)), .val (.int (0 : Int32)), .val (.int (0 : Int32)), .val (.ref bo), .val (.ref o7), .unset, .unset, .unset] [])) _
    refine XS.iconst X7.here hx rfl (hb hby at_108) ?_
    show Steps p.tables e below (T7.setTop (mkF m 109 #[.val (.int p1), .val (.int p2), .val (.int p3), .val (.int p4), .val (.int (0 : Int32)), .val (.int (0 : Int32)), .val (.int (0 : Int32)), .val (.ref bo), .val (.ref o7), .unset, .unset, .unset] [(.int (0 : Int32))])) _
    refine XS.iload X7.here hx rfl (hb hby at_109) rfl ?_
    show Steps p.tables e below (T7.setTop (mkF m 111 #[.val (.int p1), .val (.int p2), .val (.int p3), .val (.int p4), .val (.int (0 : Int32)), .val (.int (0 : Int32)), .val (.int (0 : Int32)), .val (.ref bo), .val (.ref o7), .unset, .unset, .unset] [(.int (0 : Int32)), (.int (0 : Int32))])) _
    refine XS.ifYes X7.here hx rfl (pc0 := 111) (pc' := 118) rfl (hb hby at_111) rfl ((if0 _ _).trans (teq (by decide : (0 : Int32) = (0 : Int32))).1) (by decide) (by decide) ?_
    show Steps p.tables e below (T7.setTop (mkF m 118 #[.val (.int p1), .val (.int p2), .val (.int p3), .val (.int p4), .val (.int (0 : Int32)), .val (.int (0 : Int32)), .val (.int (0 : Int32)), .val (.ref bo), .val (.ref o7), .unset, .unset, .unset] [(.int (0 : Int32))])) _
    refine XS.iconst X7.here hx rfl (hb hby at_118) ?_
    show Steps p.tables e below (T7.setTop (mkF m 119 #[.val (.int p1), .val (.int p2), .val (.int p3), .val (.int p4), .val (.int (0 : Int32)), .val (.int (0 : Int32)), .val (.int (0 : Int32)), .val (.ref bo), .val (.ref o7), .unset, .unset, .unset] [(.int (0 : Int32)), (.int (0 : Int32))])) _
    refine XS.iadd X7.here hx rfl (hb hby at_119) rfl ?_
    show Steps p.tables e below (T7.setTop (mkF m 120 #[.val (.int p1), .val (.int p2), .val (.int p3), .val (.int p4), .val (.int (0 : Int32)), .val (.int (0 : Int32)), .val (.int (0 : Int32)), .val (.ref bo), .val (.ref o7), .unset, .unset, .unset] [(.int ((0 : Int32) + (0 : Int32)))])) _
    refine XS.istore X7.here hx rfl (hb hby at_120) rfl (l' := #[.val (.int p1), .val (.int p2), .val (.int p3), .val (.int p4), .val (.int (0 : Int32)), .val (.int (0 : Int32)), .val (.int (0 : Int32)), .val (.ref bo), .val (.ref o7), .val (.int ((0 : Int32) + (0 : Int32))), .unset, .unset]) rfl ?_
    show Steps p.tables e below (T7.setTop (mkF m 122 #[.val (.int p1), .val (.int p2), .val (.int p3), .val (.int p4), .val (.int (0 : Int32)), .val (.int (0 : Int32)), .val (.int (0 : Int32)), .val (.ref bo), .val (.ref o7), .val (.int ((0 : Int32) + (0 : Int32))), .unset, .unset] [])) _
    refine XS.iload X7.here hx rfl (hb hby at_122) rfl ?_
    show Steps p.tables e below (T7.setTop (mkF m 124 #[.val (.int p1), .val (.int p2), .val (.int p3), .val (.int p4), .val (.int (0 : Int32)), .val (.int (0 : Int32)), .val (.int (0 : Int32)), .val (.ref bo), .val (.ref o7), .val (.int ((0 : Int32) + (0 : Int32))), .unset, .unset] [(.int (0 : Int32))])) _
    refine XS.ifYes X7.here hx rfl (pc0 := 124) (pc' := 131) rfl (hb hby at_124) rfl ((if0 _ _).trans (teq (by decide : (0 : Int32) = (0 : Int32))).1) (by decide) (by decide) ?_
    show Steps p.tables e below (T7.setTop (mkF m 131 #[.val (.int p1), .val (.int p2), .val (.int p3), .val (.int p4), .val (.int (0 : Int32)), .val (.int (0 : Int32)), .val (.int (0 : Int32)), .val (.ref bo), .val (.ref o7), .val (.int ((0 : Int32) + (0 : Int32))), .unset, .unset] [])) _
    refine XS.iconst X7.here hx rfl (hb hby at_131) ?_
    show Steps p.tables e below (T7.setTop (mkF m 132 #[.val (.int p1), .val (.int p2), .val (.int p3), .val (.int p4), .val (.int (0 : Int32)), .val (.int (0 : Int32)), .val (.int (0 : Int32)), .val (.ref bo), .val (.ref o7), .val (.int ((0 : Int32) + (0 : Int32))), .unset, .unset] [(.int (0 : Int32))])) _
    refine XS.istore X7.here hx rfl (hb hby at_132) rfl (l' := #[.val (.int p1), .val (.int p2), .val (.int p3), .val (.int p4), .val (.int (0 : Int32)), .val (.int (0 : Int32)), .val (.int (0 : Int32)), .val (.ref bo), .val (.ref o7), .val (.int ((0 : Int32) + (0 : Int32))), .val (.int (0 : Int32)), .unset]) rfl ?_
    show Steps p.tables e below (T7.setTop (mkF m 134 #[.val (.int p1), .val (.int p2), .val (.int p3), .val (.int p4), .val (.int (0 : Int32)), .val (.int (0 : Int32)), .val (.int (0 : Int32)), .val (.ref bo), .val (.ref o7), .val (.int ((0 : Int32) + (0 : Int32))), .val (.int (0 : Int32)), .unset] [])) _
    refine XS.aload X7.here hx rfl (hb hby at_134) rfl rfl ?_
    show Steps p.tables e below (T7.setTop (mkF m 136 #[.val (.int p1), .val (.int p2), .val (.int p3), .val (.int p4), .val (.int (0 : Int32)), .val (.int (0 : Int32)), .val (.int (0 : Int32)), .val (.ref bo), .val (.ref o7), .val (.int ((0 : Int32) + (0 : Int32))), .val (.int (0 : Int32)), .unset] [(.ref o7)])) _
    refine XS.iconst X7.here hx rfl (hb hby at_136) ?_
    show Steps p.tables e below (T7.setTop (mkF m 137 #[.val (.int p1), .val (.int p2), .val (.int p3), .val (.int p4), .val (.int (0 : Int32)), .val (.int (0 : Int32)), .val (.int (0 : Int32)), .val (.ref bo), .val (.ref o7), .val (.int ((0 : Int32) + (0 : Int32))), .val (.int (0 : Int32)), .unset] [(.int (0 : Int32)), (.ref o7)])) _
    refine st15.trans ?_
    show Steps p.tables e below (T15.setTop (mkF m 140 #[.val (.int p1), .val (.int p2), .val (.int p3), .val (.int p4), .val (.int (0 : Int32)), .val (.int (0 : Int32)), .val (.int (0 : Int32)), .val (.ref bo), .val (.ref o7), .val (.int ((0 : Int32) + (0 : Int32))), .val (.int (0 : Int32)), .unset] [(.int ((0 : Int32) - (0 : Int32)))])) _
    refine XS.iload X15.here hx rfl (hb hby at_140) rfl ?_
    show Steps p.tables e below (T15.setTop (mkF m 142 #[.val (.int p1), .val (.int p2), .val (.int p3), .val (.int p4), .val (.int (0 : Int32)), .val (.int (0 : Int32)), .val (.int (0 : Int32)), .val (.ref bo), .val (.ref o7), .val (.int ((0 : Int32) + (0 : Int32))), .val (.int (0 : Int32)), .unset] [(.int ((0 : Int32) + (0 : Int32))), (.int ((0 : Int32) - (0 : Int32)))])) _
    refine XS.icmpYes X15.here hx rfl (pc0 := 142) (pc' := 147) rfl (hb hby at_142) rfl (teq (by decide : ((0 : Int32) - (0 : Int32)) = ((0 : Int32) + (0 : Int32)))).1 (by decide) (by decide) ?_
    show Steps p.tables e below (T15.setTop (mkF m 147 #[.val (.int p1), .val (.int p2), .val (.int p3), .val (.int p4), .val (.int (0 : Int32)), .val (.int (0 : Int32)), .val (.int (0 : Int32)), .val (.ref bo), .val (.ref o7), .val (.int ((0 : Int32) + (0 : Int32))), .val (.int (0 : Int32)), .unset] [])) _
    refine XS.aload X15.here hx rfl (hb hby at_147) rfl rfl ?_
    show Steps p.tables e below (T15.setTop (mkF m 149 #[.val (.int p1), .val (.int p2), .val (.int p3), .val (.int p4), .val (.int (0 : Int32)), .val (.int (0 : Int32)), .val (.int (0 : Int32)), .val (.ref bo), .val (.ref o7), .val (.int ((0 : Int32) + (0 : Int32))), .val (.int (0 : Int32)), .unset] [(.ref o7)])) _
    refine XS.iconst X15.here hx rfl (hb hby at_149) ?_
    show Steps p.tables e below (T15.setTop (mkF m 150 #[.val (.int p1), .val (.int p2), .val (.int p3), .val (.int p4), .val (.int (0 : Int32)), .val (.int (0 : Int32)), .val (.int (0 : Int32)), .val (.ref bo), .val (.ref o7), .val (.int ((0 : Int32) + (0 : Int32))), .val (.int (0 : Int32)), .unset] [(.int (1 : Int32)), (.ref o7)])) _
    refine st16.trans ?_
    show Steps p.tables e below (T16.setTop (mkF m 153 #[.val (.int p1), .val (.int p2), .val (.int p3), .val (.int p4), .val (.int (0 : Int32)), .val (.int (0 : Int32)), .val (.int (0 : Int32)), .val (.ref bo), .val (.ref o7), .val (.int ((0 : Int32) + (0 : Int32))), .val (.int (0 : Int32)), .unset] [(.int ((0 : Int32) - (0 : Int32)))])) _
    refine XS.iload X16.here hx rfl (hb hby at_153) rfl ?_
    show Steps p.tables e below (T16.setTop (mkF m 155 #[.val (.int p1), .val (.int p2), .val (.int p3), .val (.int p4), .val (.int (0 : Int32)), .val (.int (0 : Int32)), .val (.int (0 : Int32)), .val (.ref bo), .val (.ref o7), .val (.int ((0 : Int32) + (0 : Int32))), .val (.int (0 : Int32)), .unset] [(.int (0 : Int32)), (.int ((0 : Int32) - (0 : Int32)))])) _
    refine XS.icmpYes X16.here hx rfl (pc0 := 155) (pc' := 160) rfl (hb hby at_155) rfl (teq (by decide : ((0 : Int32) - (0 : Int32)) = (0 : Int32))).1 (by decide) (by decide) ?_
    show Steps p.tables e below (T16.setTop (mkF m 160 #[.val (.int p1), .val (.int p2), .val (.int p3), .val (.int p4), .val (.int (0 : Int32)), .val (.int (0 : Int32)), .val (.int (0 : Int32)), .val (.ref bo), .val (.ref o7), .val (.int ((0 : Int32) + (0 : Int32))), .val (.int (0 : Int32)), .unset] [])) _
    refine XS.iload X16.here hx rfl (hb hby at_160) rfl ?_
    show Steps p.tables e below (T16.setTop (mkF m 162 #[.val (.int p1), .val (.int p2), .val (.int p3), .val (.int p4), .val (.int (0 : Int32)), .val (.int (0 : Int32)), .val (.int (0 : Int32)), .val (.ref bo), .val (.ref o7), .val (.int ((0 : Int32) + (0 : Int32))), .val (.int (0 : Int32)), .unset] [(.int ((0 : Int32) + (0 : Int32)))])) _
    refine XS.iconst X16.here hx rfl (hb hby at_162) ?_
    show Steps p.tables e below (T16.setTop (mkF m 163 #[.val (.int p1), .val (.int p2), .val (.int p3), .val (.int p4), .val (.int (0 : Int32)), .val (.int (0 : Int32)), .val (.int (0 : Int32)), .val (.ref bo), .val (.ref o7), .val (.int ((0 : Int32) + (0 : Int32))), .val (.int (0 : Int32)), .unset] [(.int (1 : Int32)), (.int ((0 : Int32) + (0 : Int32)))])) _
    refine XS.icmpYes X16.here hx rfl (pc0 := 163) (pc' := 192) rfl (hb hby at_163) rfl (tlt (by decide : ((0 : Int32) + (0 : Int32)) < (1 : Int32))).1 (by decide) (by decide) ?_
    show Steps p.tables e below (T16.setTop (mkF m 192 #[.val (.int p1), .val (.int p2), .val (.int p3), .val (.int p4), .val (.int (0 : Int32)), .val (.int (0 : Int32)), .val (.int (0 : Int32)), .val (.ref bo), .val (.ref o7), .val (.int ((0 : Int32) + (0 : Int32))), .val (.int (0 : Int32)), .unset] [])) _
    refine XS.iload X16.here hx rfl (hb hby at_192) rfl ?_
    show Steps p.tables e below (T16.setTop (mkF m 194 #[.val (.int p1), .val (.int p2), .val (.int p3), .val (.int p4), .val (.int (0 : Int32)), .val (.int (0 : Int32)), .val (.int (0 : Int32)), .val (.ref bo), .val (.ref o7), .val (.int ((0 : Int32) + (0 : Int32))), .val (.int (0 : Int32)), .unset] [(.int ((0 : Int32) + (0 : Int32)))])) _
    refine XS.iconst X16.here hx rfl (hb hby at_194) ?_
    show Steps p.tables e below (T16.setTop (mkF m 195 #[.val (.int p1), .val (.int p2), .val (.int p3), .val (.int p4), .val (.int (0 : Int32)), .val (.int (0 : Int32)), .val (.int (0 : Int32)), .val (.ref bo), .val (.ref o7), .val (.int ((0 : Int32) + (0 : Int32))), .val (.int (0 : Int32)), .unset] [(.int (2 : Int32)), (.int ((0 : Int32) + (0 : Int32)))])) _
    refine XS.icmpYes X16.here hx rfl (pc0 := 195) (pc' := 211) rfl (hb hby at_195) rfl (feq (by decide : ¬ (((0 : Int32) + (0 : Int32)) = (2 : Int32)))).2 (by decide) (by decide) ?_
    show Steps p.tables e below (T16.setTop (mkF m 211 #[.val (.int p1), .val (.int p2), .val (.int p3), .val (.int p4), .val (.int (0 : Int32)), .val (.int (0 : Int32)), .val (.int (0 : Int32)), .val (.ref bo), .val (.ref o7), .val (.int ((0 : Int32) + (0 : Int32))), .val (.int (0 : Int32)), .unset] [])) _
    refine XS.iload X16.here hx rfl (hb hby at_211) rfl ?_
    show Steps p.tables e below (T16.setTop (mkF m 213 #[.val (.int p1), .val (.int p2), .val (.int p3), .val (.int p4), .val (.int (0 : Int32)), .val (.int (0 : Int32)), .val (.int (0 : Int32)), .val (.ref bo), .val (.ref o7), .val (.int ((0 : Int32) + (0 : Int32))), .val (.int (0 : Int32)), .unset] [(.int (0 : Int32))])) _
    refine XS.iconst X16.here hx rfl (hb hby at_213) ?_
    show Steps p.tables e below (T16.setTop (mkF m 214 #[.val (.int p1), .val (.int p2), .val (.int p3), .val (.int p4), .val (.int (0 : Int32)), .val (.int (0 : Int32)), .val (.int (0 : Int32)), .val (.ref bo), .val (.ref o7), .val (.int ((0 : Int32) + (0 : Int32))), .val (.int (0 : Int32)), .unset] [(.int (1 : Int32)), (.int (0 : Int32))])) _
    refine XS.icmpYes X16.here hx rfl (pc0 := 214) (pc' := 230) rfl (hb hby at_214) rfl (feq (by decide : ¬ ((0 : Int32) = (1 : Int32)))).2 (by decide) (by decide) ?_
    show Steps p.tables e below (T16.setTop (mkF m 230 #[.val (.int p1), .val (.int p2), .val (.int p3), .val (.int p4), .val (.int (0 : Int32)), .val (.int (0 : Int32)), .val (.int (0 : Int32)), .val (.ref bo), .val (.ref o7), .val (.int ((0 : Int32) + (0 : Int32))), .val (.int (0 : Int32)), .unset] [])) _
    refine XS.iconst X16.here hx rfl (hb hby at_230) ?_
    show Steps p.tables e below (T16.setTop (mkF m 231 #[.val (.int p1), .val (.int p2), .val (.int p3), .val (.int p4), .val (.int (0 : Int32)), .val (.int (0 : Int32)), .val (.int (0 : Int32)), .val (.ref bo), .val (.ref o7), .val (.int ((0 : Int32) + (0 : Int32))), .val (.int (0 : Int32)), .unset] [(.int (1 : Int32))])) _
    exact retN X16 hx (t := .boolean) Bd.returns (by simp) (hb hby at_231) hr
  · show Q0 n0 _ _ _
    exact ⟨rfl, N16⟩
set_option maxRecDepth 65536 in
set_option maxHeartbeats 40000000 in
theorem rm0_001 (l : Launch) (Z : State) (a0 : Array Value) (hw : ∀ d ∈ tables_1, d.before a0 Z = true) (ws : List Jvm.Cond) (p1 p2 p3 p4 : Int32) (h0 : Heap) (n0 : Nat) (Z0 : n0 ≤ h0.size)  (hc3 : (p4 &&& (1 : Int32)) = (0 : Int32)) (hc16 : (p4 &&& (2 : Int32)) = (0 : Int32)) (hc29 : ¬ ((p4 &&& (4 : Int32)) = (0 : Int32))) :
    MetFree l x (head1 (Jvm.Cond.code x code maxLocals ret :: ws) room_1) (fun a U => a = #[(.int p1), (.int p2), (.int p3), (.int p4)] ∧ Z.Warmed39 U.vm ∧ U.heap = h0) (fun _ _ _ _ _ => True) (fun _ U o U' => ∃ v L, o = .returned v ∧ Q0 n0 v U'.heap L ∧ FrameEnd U o U' L room_1.cells room_1.slots) := by
  refine MetFree.of_bodySF (plainFor_of_name pn_org_keyward_securitymodel_BuilderEndPinLaw) hisR ?_
  intro p e s m args below meth cd s₁ Bd hml0 hPre hKc
  obtain ⟨rfl, hZ, hHp⟩ := hPre
  have hx := Bd.exec
  have hby := Bd.bytes
  have hml : cd.maxLocals = 12 := hml0
  have hown : s.vm.findClass "org/keyward/securitymodel/BuilderEndPinLaw" = some m.cls := findClass_of_methodNamed Bd.named
  have hnm := (name_of_methodNamed Bd.named Bd.method).1
  have X0 : Stand p l e room_1 s m #[(.int p1), (.int p2), (.int p3), (.int p4)] below meth cd s₁ [] 0 0 := Stand.of_body Bd
  have e0 : s₁.heap = h0 := by rw [← hHp, Bd.state]; rfl
  have N0 := Fr.nil n0
  have pre0 : ∀ t, Steps p.tables e below (s₁.setTop (mkF m 0 #[.val (.int p1), .val (.int p2), .val (.int p3), .val (.int p4), .unset, .unset, .unset, .unset, .unset, .unset, .unset, .unset] [])) t → Steps p.tables e below (s₁.setTop (entryFrame m #[(.int p1), (.int p2), (.int p3), (.int p4)] maxLocals)) t := fun t k => castTop (ef_0 m p1 p2 p3 p4) k
  obtain ⟨T1, h1, X1, e1, E1, A1, D1, -, st1⟩ := newO X0 hx hZ hown (hw _ (List.mem_of_getElem? (i := 0) rfl)) (hw _ (List.mem_of_getElem? (i := 1) rfl)) (hw _ (List.mem_of_getElem? (i := 2) rfl)) e0 (g := (mkF m 39 #[.val (.int p1), .val (.int p2), .val (.int p3), .val (.int p4), .val (.int (0 : Int32)), .val (.int (0 : Int32)), .val (.int (1 : Int32)), .unset, .unset, .unset, .unset, .unset] [])) rfl (hb hby at_39) (Nat.le_of_ble_eq_true rfl) (Nat.le_of_ble_eq_true rfl)
  obtain ⟨bo, g1⟩ : ∃ z, z = h0.size := ⟨_, rfl⟩
  rw [← g1] at A1 D1 st1
  have g_bo : n0 ≤ bo := Nat.le_trans Z0 (Nat.le_of_eq g1.symm)
  have z1 : n0 ≤ h1.size := Nat.le_trans Z0 E1.1
  have F_numbers_bo : Fld Z h1 bo "org/keyward/securitymodel/NumberLists$Builder" "numbers" "[I" .null := D1 (Or.inl (hw _ (List.mem_of_getElem? (i := 11) rfl))) (ty := (.array .int)) (by decide)
  have F_starts_bo : Fld Z h1 bo "org/keyward/securitymodel/NumberLists$Builder" "starts" "[I" .null := D1 (Or.inr (hw _ (List.mem_of_getElem? (i := 13) rfl))) (ty := (.array .int)) (by decide)
  have F_count_bo : Fld Z h1 bo "org/keyward/securitymodel/NumberLists$Builder" "count" "I" (.int (0 : Int32)) := D1 (Or.inl (hw _ (List.mem_of_getElem? (i := 20) rfl))) (ty := .int) (by decide)
  have F_listed_bo : Fld Z h1 bo "org/keyward/securitymodel/NumberLists$Builder" "listed" "I" (.int (0 : Int32)) := D1 (Or.inl (hw _ (List.mem_of_getElem? (i := 27) rfl))) (ty := .int) (by decide)
  obtain ⟨_, _, ⟨T2, L2, k2, n2⟩, -, X2, ⟨Lc2, hQ2, l2, y2, z2⟩, st2⟩ := X1.specialBack hx (y := (⟨"org/keyward/securitymodel/NumberLists$Builder", "<init>", "(I)V"⟩ : MethodName)) rfl hown (mvT hZ (hw _ (List.mem_of_getElem? (i := 3) rfl))) (mvT hZ (hw _ (List.mem_of_getElem? (i := 4) rfl))) (mvT hZ (hw _ (List.mem_of_getElem? (i := 5) rfl))) (by decide) (backOf (W := 1) (rm1 l Z a0 hw [] bo _ _ h1 n0 z1 A1 g_bo F_numbers_bo F_starts_bo F_count_bo F_listed_bo) hZ (hw _ (List.mem_of_getElem? (i := 5) rfl)) (hw _ (List.mem_of_getElem? (i := 2) rfl)) (by decide) (by decide)) (g := (mkF m 44 #[.val (.int p1), .val (.int p2), .val (.int p3), .val (.int p4), .val (.int (0 : Int32)), .val (.int (0 : Int32)), .val (.int (1 : Int32)), .unset, .unset, .unset, .unset, .unset] [(.int (2 : Int32)), (.ref bo), (.ref bo)])) rfl (by rw [hml]; rfl) (Steps.refl _) (a := bo) (argsL := [(.int (2 : Int32))]) (rest := [(.ref bo)]) (lenOf pd__I_V rfl) rfl (by show 2 * 0 + _ ≤ _; exact Nat.le_of_eq rfl) (hb hby at_44) (fun _ _ => ⟨rfl, e1, (Nat.le_of_ble_eq_true rfl), (Nat.le_of_ble_eq_true rfl)⟩)
  dsimp only [Pt.U, Pt.locs, Pt.cells, Pt.slots] at X2 l2 y2 z2 st2 hQ2
  subst l2 y2 z2
  obtain ⟨rfl, N2q, nb, sb, kn, ks, Kc2, Eb2, Fnumbers2, Fstarts2, Fcount2, Flisted2, Vn2, Vs2, gn2, gs2, ne12, ne22, ne32⟩ := hQ2
  have N2 := Fr.app N0 N2q
  have zz2 : n0 ≤ T2.heap.size := Nat.le_trans z1 Kc2.1
  obtain ⟨cq3, kq3, q3a, q3b, q3c⟩ := isOf hZ rfl Eb2
  obtain ⟨_, _, ⟨T3, L3, k3, n3⟩, -, X3, ⟨Lc3, hQ3, l3, y3, z3⟩, st3⟩ := X2.virtualBack hx (y := (⟨"org/keyward/securitymodel/NumberLists$Builder", "end", "()V"⟩ : MethodName)) (z := (⟨"org/keyward/securitymodel/NumberLists$Builder", "end", "()V"⟩ : MethodName)) hown (mvT hZ (hw _ (List.mem_of_getElem? (i := 21) rfl))) (mvT hZ (hw _ (List.mem_of_getElem? (i := 22) rfl))) (notFace_of_selects (args := #[]) (mvT hZ (hw _ (List.mem_of_getElem? (i := 24) rfl)))) (mvT hZ (hw _ (List.mem_of_getElem? (i := 24) rfl))) (mvT hZ (hw _ (List.mem_of_getElem? (i := 23) rfl))) (by decide) (backOf (W := 0) (rm4 l Z a0 hw [] bo nb sb (0 : Int32) (0 : Int32) ks _ 1 T2.heap n0 zz2 Eb2 Fnumbers2 Fstarts2 Fcount2 Flisted2 g_bo gs2 ne22 Vs2 (by decide) (by decide) (Nat.le_of_ble_eq_true rfl)) hZ (hw _ (List.mem_of_getElem? (i := 25) rfl)) (hw _ (List.mem_of_getElem? (i := 2) rfl)) (by decide) (by decide)) q3a q3c (g := (mkF m 73 #[.val (.int p1), .val (.int p2), .val (.int p3), .val (.int p4), .val (.int (0 : Int32)), .val (.int (0 : Int32)), .val (.int (1 : Int32)), .val (.ref bo), .unset, .unset, .unset, .unset] [(.ref bo)])) rfl (by rw [hml]; rfl) (Steps.refl _) (argsL := []) (rest := []) (lenOf pd___V rfl) rfl (by show 2 * 0 + _ ≤ _; exact Nat.le_of_eq rfl) (hb hby at_73) (fun _ _ => ⟨rfl, rfl, (Nat.le_of_ble_eq_true rfl), (Nat.le_of_ble_eq_true rfl)⟩)
  dsimp only [Pt.U, Pt.locs, Pt.cells, Pt.slots] at X3 l3 y3 z3 st3 hQ3
  subst l3 y3 z3
  obtain ⟨rfl, N3q, Kc3, Eb3, Fnumbers3, Fstarts3, Fcount3, Flisted3, Vs3⟩ := hQ3
  have N3 := Fr.app N2 N3q
  have f4_V_nb := Vn2.keep Kc3 (ninS (Ne.symm ne12) (ninS ne32 nin0))
  have zz3 : n0 ≤ T3.heap.size := Nat.le_trans zz2 Kc3.1
  have Vx3 : Arv Z T3.heap sb ks .int (3 : Int32) [(.int (0 : Int32)), (.int (0 : Int32)), (.int (0 : Int32))] (.int (0 : Int32)) := Vs3
  obtain ⟨cq5, kq5, q5a, q5b, q5c⟩ := isOf hZ rfl Eb3
  obtain ⟨_, _, ⟨T5, L5, k5, n5⟩, -, X5, ⟨Lc5, hQ5, l5, y5, z5⟩, st5⟩ := X3.virtualBack hx (y := (⟨"org/keyward/securitymodel/NumberLists$Builder", "add", "(I)V"⟩ : MethodName)) (z := (⟨"org/keyward/securitymodel/NumberLists$Builder", "add", "(I)V"⟩ : MethodName)) hown (mvT hZ (hw _ (List.mem_of_getElem? (i := 14) rfl))) (mvT hZ (hw _ (List.mem_of_getElem? (i := 15) rfl))) (notFace_of_selects (args := #[]) (mvT hZ (hw _ (List.mem_of_getElem? (i := 17) rfl)))) (mvT hZ (hw _ (List.mem_of_getElem? (i := 17) rfl))) (mvT hZ (hw _ (List.mem_of_getElem? (i := 16) rfl))) (by decide) (backOf (W := 0) (rm3 l Z a0 hw [] bo p3 nb sb (0 : Int32) ((0 : Int32) + (1 : Int32)) kn _ 0 T3.heap n0 zz3 Eb3 Fnumbers3 Fstarts3 Fcount3 Flisted3 g_bo gn2 ne12 f4_V_nb (by decide) (by decide) (Nat.le_of_ble_eq_true rfl)) hZ (hw _ (List.mem_of_getElem? (i := 18) rfl)) (hw _ (List.mem_of_getElem? (i := 2) rfl)) (by decide) (by decide)) q5a q5c (g := (mkF m 84 #[.val (.int p1), .val (.int p2), .val (.int p3), .val (.int p4), .val (.int (0 : Int32)), .val (.int (0 : Int32)), .val (.int (1 : Int32)), .val (.ref bo), .unset, .unset, .unset, .unset] [(.int p3), (.ref bo)])) rfl (by rw [hml]; rfl) (Steps.refl _) (argsL := [(.int p3)]) (rest := []) (lenOf pd__I_V rfl) rfl (by show 2 * 0 + _ ≤ _; exact Nat.le_of_eq rfl) (hb hby at_84) (fun _ _ => ⟨rfl, rfl, (Nat.le_of_ble_eq_true rfl), (Nat.le_of_ble_eq_true rfl)⟩)
  dsimp only [Pt.U, Pt.locs, Pt.cells, Pt.slots] at X5 l5 y5 z5 st5 hQ5
  subst l5 y5 z5
  obtain ⟨rfl, N5q, Kc5, Eb5, Fnumbers5, Fstarts5, Fcount5, Flisted5, Vn5⟩ := hQ5
  have N5 := Fr.app N3 N5q
  have f6_V_sb := Vx3.keep Kc5 (ninS (Ne.symm ne22) (ninS (Ne.symm ne32) nin0))
  have zz5 : n0 ≤ T5.heap.size := Nat.le_trans zz3 Kc5.1
  have Vx5 : Arv Z T5.heap nb kn .int (16 : Int32) [(.int p3), (.int (0 : Int32)), (.int (0 : Int32)), (.int (0 : Int32)), (.int (0 : Int32)), (.int (0 : Int32)), (.int (0 : Int32)), (.int (0 : Int32)), (.int (0 : Int32)), (.int (0 : Int32)), (.int (0 : Int32)), (.int (0 : Int32)), (.int (0 : Int32)), (.int (0 : Int32)), (.int (0 : Int32)), (.int (0 : Int32))] (.int (0 : Int32)) := Vn5
  obtain ⟨cq7, kq7, q7a, q7b, q7c⟩ := isOf hZ rfl Eb5
  obtain ⟨_, _, ⟨T7, L7, k7, n7⟩, -, X7, ⟨Lc7, hQ7, l7, y7, z7⟩, st7⟩ := X5.virtualBack hx (y := (⟨"org/keyward/securitymodel/NumberLists$Builder", "end", "()V"⟩ : MethodName)) (z := (⟨"org/keyward/securitymodel/NumberLists$Builder", "end", "()V"⟩ : MethodName)) hown (mvT hZ (hw _ (List.mem_of_getElem? (i := 21) rfl))) (mvT hZ (hw _ (List.mem_of_getElem? (i := 22) rfl))) (notFace_of_selects (args := #[]) (mvT hZ (hw _ (List.mem_of_getElem? (i := 24) rfl)))) (mvT hZ (hw _ (List.mem_of_getElem? (i := 24) rfl))) (mvT hZ (hw _ (List.mem_of_getElem? (i := 23) rfl))) (by decide) (backOf (W := 0) (rm4 l Z a0 hw [] bo nb sb ((0 : Int32) + (1 : Int32)) ((0 : Int32) + (1 : Int32)) ks _ 2 T5.heap n0 zz5 Eb5 Fnumbers5 Fstarts5 Fcount5 Flisted5 g_bo gs2 ne22 f6_V_sb (by decide) (by decide) (Nat.le_of_ble_eq_true rfl)) hZ (hw _ (List.mem_of_getElem? (i := 25) rfl)) (hw _ (List.mem_of_getElem? (i := 2) rfl)) (by decide) (by decide)) q7a q7c (g := (mkF m 89 #[.val (.int p1), .val (.int p2), .val (.int p3), .val (.int p4), .val (.int (0 : Int32)), .val (.int (0 : Int32)), .val (.int (1 : Int32)), .val (.ref bo), .unset, .unset, .unset, .unset] [(.ref bo)])) rfl (by rw [hml]; rfl) (Steps.refl _) (argsL := []) (rest := []) (lenOf pd___V rfl) rfl (by show 2 * 0 + _ ≤ _; exact Nat.le_of_eq rfl) (hb hby at_89) (fun _ _ => ⟨rfl, rfl, (Nat.le_of_ble_eq_true rfl), (Nat.le_of_ble_eq_true rfl)⟩)
  dsimp only [Pt.U, Pt.locs, Pt.cells, Pt.slots] at X7 l7 y7 z7 st7 hQ7
  subst l7 y7 z7
  obtain ⟨rfl, N7q, Kc7, Eb7, Fnumbers7, Fstarts7, Fcount7, Flisted7, Vs7⟩ := hQ7
  have N7 := Fr.app N5 N7q
  have f8_V_nb := Vx5.keep Kc7 (ninS (Ne.symm ne12) (ninS ne32 nin0))
  have zz7 : n0 ≤ T7.heap.size := Nat.le_trans zz5 Kc7.1
  have Vx7 : Arv Z T7.heap sb ks .int (3 : Int32) [(.int (0 : Int32)), (.int (0 : Int32)), (.int ((0 : Int32) + (1 : Int32)))] (.int (0 : Int32)) := Vs7
  obtain ⟨cq9, kq9, q9a, q9b, q9c⟩ := isOf hZ rfl Eb7
  obtain ⟨_, _, ⟨T9, L9, k9, n9⟩, -, X9, ⟨Lc9, hQ9, l9, y9, z9⟩, st9⟩ := X7.virtualBack hx (y := (⟨"org/keyward/securitymodel/NumberLists$Builder", "build", "()Lorg/keyward/securitymodel/NumberLists;"⟩ : MethodName)) (z := (⟨"org/keyward/securitymodel/NumberLists$Builder", "build", "()Lorg/keyward/securitymodel/NumberLists;"⟩ : MethodName)) hown (mvT hZ (hw _ (List.mem_of_getElem? (i := 28) rfl))) (mvT hZ (hw _ (List.mem_of_getElem? (i := 29) rfl))) (notFace_of_selects (args := #[]) (mvT hZ (hw _ (List.mem_of_getElem? (i := 31) rfl)))) (mvT hZ (hw _ (List.mem_of_getElem? (i := 31) rfl))) (mvT hZ (hw _ (List.mem_of_getElem? (i := 30) rfl))) (by decide) (backOf (W := 0) (rm5 l Z a0 hw [] bo nb sb ((0 : Int32) + (1 : Int32)) (((0 : Int32) + (1 : Int32)) + (1 : Int32)) kn ks _ _ 1 T7.heap n0 zz7 Eb7 Fnumbers7 Fstarts7 Fcount7 Flisted7 f8_V_nb Vx7 (by decide) (by decide) (by decide) (by decide)) hZ (hw _ (List.mem_of_getElem? (i := 32) rfl)) (hw _ (List.mem_of_getElem? (i := 2) rfl)) (by decide) (by decide)) q9a q9c (g := (mkF m 94 #[.val (.int p1), .val (.int p2), .val (.int p3), .val (.int p4), .val (.int (0 : Int32)), .val (.int (0 : Int32)), .val (.int (1 : Int32)), .val (.ref bo), .unset, .unset, .unset, .unset] [(.ref bo)])) rfl (by rw [hml]; rfl) (Steps.refl _) (argsL := []) (rest := []) (lenOf pd___Lorg_keyward_securitymodel_NumberLists_ rfl) rfl (by show 2 * 0 + _ ≤ _; exact Nat.le_of_eq rfl) (hb hby at_94) (fun _ _ => ⟨rfl, rfl, (Nat.le_of_ble_eq_true rfl), (Nat.le_of_ble_eq_true rfl)⟩)
  dsimp only [Pt.U, Pt.locs, Pt.cells, Pt.slots] at X9 l9 y9 z9 st9 hQ9
  subst l9 y9 z9
  obtain ⟨o9, mb9, km9, rfl, N9q, Kc9, Eo9, So9, No9, Vm9⟩ := hQ9
  have N9 := Fr.app N7 N9q
  have f10_V_nb := f8_V_nb.keep Kc9 nin0
  have f11_E_bo := Eb7.keep Kc9
  have f12_F_bo_numbers := Fnumbers7.keep Kc9 nin0
  have f13_F_bo_starts := Fstarts7.keep Kc9 nin0
  have f14_F_bo_count := Fcount7.keep Kc9 nin0
  have f15_F_bo_listed := Flisted7.keep Kc9 nin0
  have f16_V_sb := Vx7.keep Kc9 nin0
  have zz9 : n0 ≤ T9.heap.size := Nat.le_trans zz7 Kc9.1
  obtain ⟨cq17, kq17, q17a, q17b, q17c⟩ := isOf hZ rfl Eo9
  obtain ⟨_, _, ⟨T17, L17, k17, n17⟩, -, X17, ⟨Lc17, hQ17, l17, y17, z17⟩, st17⟩ := X9.virtualBack hx (y := (⟨"org/keyward/securitymodel/NumberLists", "size", "(I)I"⟩ : MethodName)) (z := (⟨"org/keyward/securitymodel/NumberLists", "size", "(I)I"⟩ : MethodName)) hown (mvT hZ (hw _ (List.mem_of_getElem? (i := 56) rfl))) (mvT hZ (hw _ (List.mem_of_getElem? (i := 57) rfl))) (notFace_of_selects (args := #[]) (mvT hZ (hw _ (List.mem_of_getElem? (i := 59) rfl)))) (mvT hZ (hw _ (List.mem_of_getElem? (i := 59) rfl))) (mvT hZ (hw _ (List.mem_of_getElem? (i := 58) rfl))) (by decide) (backOf (W := 0) (rm9 l Z a0 hw [] o9 (0 : Int32) sb ks _ (0 : Int32) (0 : Int32) T9.heap n0 zz9 So9 f16_V_sb (by decide) (by decide) rfl rfl) hZ (hw _ (List.mem_of_getElem? (i := 60) rfl)) (hw _ (List.mem_of_getElem? (i := 35) rfl)) (by decide) (by decide)) q17a q17c (g := (mkF m 137 #[.val (.int p1), .val (.int p2), .val (.int p3), .val (.int p4), .val (.int (0 : Int32)), .val (.int (0 : Int32)), .val (.int (1 : Int32)), .val (.ref bo), .val (.ref o9), .val (.int ((0 : Int32) + (0 : Int32))), .val (.int (1 : Int32)), .unset] [(.int (0 : Int32)), (.ref o9)])) rfl (by rw [hml]; rfl) (Steps.refl _) (argsL := [(.int (0 : Int32))]) (rest := []) (lenOf pd__I_I rfl) rfl (by show 2 * 0 + _ ≤ _; exact Nat.le_of_eq rfl) (hb hby at_137) (fun _ _ => ⟨rfl, rfl, (Nat.le_of_ble_eq_true rfl), (Nat.le_of_ble_eq_true rfl)⟩)
  dsimp only [Pt.U, Pt.locs, Pt.cells, Pt.slots] at X17 l17 y17 z17 st17 hQ17
  subst l17 y17 z17
  obtain ⟨rfl, N17q, e17⟩ := hQ17
  have N17 := Fr.app N9 N17q
  obtain ⟨cq18, kq18, q18a, q18b, q18c⟩ := isOf hZ e17 Eo9
  obtain ⟨_, _, ⟨T18, L18, k18, n18⟩, -, X18, ⟨Lc18, hQ18, l18, y18, z18⟩, st18⟩ := X17.virtualBack hx (y := (⟨"org/keyward/securitymodel/NumberLists", "size", "(I)I"⟩ : MethodName)) (z := (⟨"org/keyward/securitymodel/NumberLists", "size", "(I)I"⟩ : MethodName)) hown (mvT hZ (hw _ (List.mem_of_getElem? (i := 56) rfl))) (mvT hZ (hw _ (List.mem_of_getElem? (i := 57) rfl))) (notFace_of_selects (args := #[]) (mvT hZ (hw _ (List.mem_of_getElem? (i := 59) rfl)))) (mvT hZ (hw _ (List.mem_of_getElem? (i := 59) rfl))) (mvT hZ (hw _ (List.mem_of_getElem? (i := 58) rfl))) (by decide) (backOf (W := 0) (rm9 l Z a0 hw [] o9 (1 : Int32) sb ks _ ((0 : Int32) + (1 : Int32)) (0 : Int32) T9.heap n0 zz9 So9 f16_V_sb (by decide) (by decide) rfl rfl) hZ (hw _ (List.mem_of_getElem? (i := 60) rfl)) (hw _ (List.mem_of_getElem? (i := 35) rfl)) (by decide) (by decide)) q18a q18c (g := (mkF m 150 #[.val (.int p1), .val (.int p2), .val (.int p3), .val (.int p4), .val (.int (0 : Int32)), .val (.int (0 : Int32)), .val (.int (1 : Int32)), .val (.ref bo), .val (.ref o9), .val (.int ((0 : Int32) + (0 : Int32))), .val (.int (1 : Int32)), .unset] [(.int (1 : Int32)), (.ref o9)])) rfl (by rw [hml]; rfl) (Steps.refl _) (argsL := [(.int (1 : Int32))]) (rest := []) (lenOf pd__I_I rfl) rfl (by show 2 * 0 + _ ≤ _; exact Nat.le_of_eq rfl) (hb hby at_150) (fun _ _ => ⟨rfl, e17, (Nat.le_of_ble_eq_true rfl), (Nat.le_of_ble_eq_true rfl)⟩)
  dsimp only [Pt.U, Pt.locs, Pt.cells, Pt.slots] at X18 l18 y18 z18 st18 hQ18
  subst l18 y18 z18
  obtain ⟨rfl, N18q, e18⟩ := hQ18
  have N18 := Fr.app N17 N18q
  obtain ⟨cq19, kq19, q19a, q19b, q19c⟩ := isOf hZ e18 Eo9
  obtain ⟨_, _, ⟨T19, L19, k19, n19⟩, -, X19, ⟨Lc19, hQ19, l19, y19, z19⟩, st19⟩ := X18.virtualBack hx (y := (⟨"org/keyward/securitymodel/NumberLists", "get", "(II)I"⟩ : MethodName)) (z := (⟨"org/keyward/securitymodel/NumberLists", "get", "(II)I"⟩ : MethodName)) hown (mvT hZ (hw _ (List.mem_of_getElem? (i := 61) rfl))) (mvT hZ (hw _ (List.mem_of_getElem? (i := 62) rfl))) (notFace_of_selects (args := #[]) (mvT hZ (hw _ (List.mem_of_getElem? (i := 64) rfl)))) (mvT hZ (hw _ (List.mem_of_getElem? (i := 64) rfl))) (mvT hZ (hw _ (List.mem_of_getElem? (i := 63) rfl))) (by decide) (backOf (W := 0) (rm10 l Z a0 hw [] o9 (1 : Int32) (0 : Int32) sb mb9 ks _ _ _ ((0 : Int32) + (1 : Int32)) (0 : Int32) p3 T9.heap n0 zz9 So9 No9 f16_V_sb Vm9 (by decide) rfl (by decide) rfl) hZ (hw _ (List.mem_of_getElem? (i := 65) rfl)) (hw _ (List.mem_of_getElem? (i := 35) rfl)) (by decide) (by decide)) q19a q19c (g := (mkF m 221 #[.val (.int p1), .val (.int p2), .val (.int p3), .val (.int p4), .val (.int (0 : Int32)), .val (.int (0 : Int32)), .val (.int (1 : Int32)), .val (.ref bo), .val (.ref o9), .val (.int ((0 : Int32) + (0 : Int32))), .val (.int (1 : Int32)), .unset] [(.int (0 : Int32)), (.int (1 : Int32)), (.ref o9)])) rfl (by rw [hml]; rfl) (Steps.refl _) (argsL := [(.int (1 : Int32)), (.int (0 : Int32))]) (rest := []) (lenOf pd__II_I rfl) rfl (by show 2 * 0 + _ ≤ _; exact Nat.le_of_eq rfl) (hb hby at_221) (fun _ _ => ⟨rfl, e18, (Nat.le_of_ble_eq_true rfl), (Nat.le_of_ble_eq_true rfl)⟩)
  dsimp only [Pt.U, Pt.locs, Pt.cells, Pt.slots] at X19 l19 y19 z19 st19 hQ19
  subst l19 y19 z19
  obtain ⟨rfl, N19q, e19⟩ := hQ19
  have N19 := Fr.app N18 N19q
  obtain ⟨fs, hr, hrun, hended, hW, hsame⟩ := X19.leave (v := some (.int (1 : Int32))) (fun h => by rw [Bd.returns] at h; cases h)
  refine ⟨_, _, pre0 _ ?_, hrun, hended, _, _, rfl, ?_, ⟨_, rfl⟩, hW, hsame.mono (by decide) (by decide)⟩
  · show Steps p.tables e below (s₁.setTop (mkF m 0 #[.val (.int p1), .val (.int p2), .val (.int p3), .val (.int p4), .unset, .unset, .unset, .unset, .unset, .unset, .unset, .unset] [])) _
    refine XS.iloadN X0.here hx rfl (hb hby at_0) rfl ?_
    show Steps p.tables e below (s₁.setTop (mkF m 1 #[.val (.int p1), .val (.int p2), .val (.int p3), .val (.int p4), .unset, .unset, .unset, .unset, .unset, .unset, .unset, .unset] [(.int p4)])) _
    refine XS.iconst X0.here hx rfl (hb hby at_1) ?_
    show Steps p.tables e below (s₁.setTop (mkF m 2 #[.val (.int p1), .val (.int p2), .val (.int p3), .val (.int p4), .unset, .unset, .unset, .unset, .unset, .unset, .unset, .unset] [(.int (1 : Int32)), (.int p4)])) _
    refine XS.iand X0.here hx rfl (hb hby at_2) rfl ?_
    show Steps p.tables e below (s₁.setTop (mkF m 3 #[.val (.int p1), .val (.int p2), .val (.int p3), .val (.int p4), .unset, .unset, .unset, .unset, .unset, .unset, .unset, .unset] [(.int (p4 &&& (1 : Int32)))])) _
    refine XS.ifYes X0.here hx rfl (pc0 := 3) (pc' := 10) rfl (hb hby at_3) rfl ((if0 _ _).trans (teq hc3).1) (by decide) (by decide) ?_
    show Steps p.tables e below (s₁.setTop (mkF m 10 #[.val (.int p1), .val (.int p2), .val (.int p3), .val (.int p4), .unset, .unset, .unset, .unset, .unset, .unset, .unset, .unset] [])) _
    refine XS.iconst X0.here hx rfl (hb hby at_10) ?_
    show Steps p.tables e below (s₁.setTop (mkF m 11 #[.val (.int p1), .val (.int p2), .val (.int p3), .val (.int p4), .unset, .unset, .unset, .unset, .unset, .unset, .unset, .unset] [(.int (0 : Int32))])) _
    refine XS.istore X0.here hx rfl (hb hby at_11) rfl (l' := #[.val (.int p1), .val (.int p2), .val (.int p3), .val (.int p4), .val (.int (0 : Int32)), .unset, .unset, .unset, .unset, .unset, .unset, .unset]) rfl ?_
    show Steps p.tables e below (s₁.setTop (mkF m 13 #[.val (.int p1), .val (.int p2), .val (.int p3), .val (.int p4), .val (.int (0 : Int32)), .unset, .unset, .unset, .unset, .unset, .unset, .unset] [])) _
    refine XS.iloadN X0.here hx rfl (hb hby at_13) rfl ?_
    show Steps p.tables e below (s₁.setTop (mkF m 14 #[.val (.int p1), .val (.int p2), .val (.int p3), .val (.int p4), .val (.int (0 : Int32)), .unset, .unset, .unset, .unset, .unset, .unset, .unset] [(.int p4)])) _
    refine XS.iconst X0.here hx rfl (hb hby at_14) ?_
    show Steps p.tables e below (s₁.setTop (mkF m 15 #[.val (.int p1), .val (.int p2), .val (.int p3), .val (.int p4), .val (.int (0 : Int32)), .unset, .unset, .unset, .unset, .unset, .unset, .unset] [(.int (2 : Int32)), (.int p4)])) _
    refine XS.iand X0.here hx rfl (hb hby at_15) rfl ?_
    show Steps p.tables e below (s₁.setTop (mkF m 16 #[.val (.int p1), .val (.int p2), .val (.int p3), .val (.int p4), .val (.int (0 : Int32)), .unset, .unset, .unset, .unset, .unset, .unset, .unset] [(.int (p4 &&& (2 : Int32)))])) _
    refine XS.ifYes X0.here hx rfl (pc0 := 16) (pc' := 23) rfl (hb hby at_16) rfl ((if0 _ _).trans (teq hc16).1) (by decide) (by decide) ?_
    show Steps p.tables e below (s₁.setTop (mkF m 23 #[.val (.int p1), .val (.int p2), .val (.int p3), .val (.int p4), .val (.int (0 : Int32)), .unset, .unset, .unset, .unset, .unset, .unset, .unset] [])) _
    refine XS.iconst X0.here hx rfl (hb hby at_23) ?_
    show Steps p.tables e below (s₁.setTop (mkF m 24 #[.val (.int p1), .val (.int p2), .val (.int p3), .val (.int p4), .val (.int (0 : Int32)), .unset, .unset, .unset, .unset, .unset, .unset, .unset] [(.int (0 : Int32))])) _
    refine XS.istore X0.here hx rfl (hb hby at_24) rfl (l' := #[.val (.int p1), .val (.int p2), .val (.int p3), .val (.int p4), .val (.int (0 : Int32)), .val (.int (0 : Int32)), .unset, .unset, .unset, .unset, .unset, .unset]) rfl ?_
    show Steps p.tables e below (s₁.setTop (mkF m 26 #[.val (.int p1), .val (.int p2), .val (.int p3), .val (.int p4), .val (.int (0 : Int32)), .val (.int (0 : Int32)), .unset, .unset, .unset, .unset, .unset, .unset] [])) _
    refine XS.iloadN X0.here hx rfl (hb hby at_26) rfl ?_
    show Steps p.tables e below (s₁.setTop (mkF m 27 #[.val (.int p1), .val (.int p2), .val (.int p3), .val (.int p4), .val (.int (0 : Int32)), .val (.int (0 : Int32)), .unset, .unset, .unset, .unset, .unset, .unset] [(.int p4)])) _
    refine XS.iconst X0.here hx rfl (hb hby at_27) ?_
    show Steps p.tables e below (s₁.setTop (mkF m 28 #[.val (.int p1), .val (.int p2), .val (.int p3), .val (.int p4), .val (.int (0 : Int32)), .val (.int (0 : Int32)), .unset, .unset, .unset, .unset, .unset, .unset] [(.int (4 : Int32)), (.int p4)])) _
    refine XS.iand X0.here hx rfl (hb hby at_28) rfl ?_
    show Steps p.tables e below (s₁.setTop (mkF m 29 #[.val (.int p1), .val (.int p2), .val (.int p3), .val (.int p4), .val (.int (0 : Int32)), .val (.int (0 : Int32)), .unset, .unset, .unset, .unset, .unset, .unset] [(.int (p4 &&& (4 : Int32)))])) _
    refine XS.ifNo X0.here hx rfl (hb hby at_29) rfl ((if0 _ _).trans (feq hc29).1) ?_
    show Steps p.tables e below (s₁.setTop (mkF m 32 #[.val (.int p1), .val (.int p2), .val (.int p3), .val (.int p4), .val (.int (0 : Int32)), .val (.int (0 : Int32)), .unset, .unset, .unset, .unset, .unset, .unset] [])) _
    refine XS.iconst X0.here hx rfl (hb hby at_32) ?_
    show Steps p.tables e below (s₁.setTop (mkF m 33 #[.val (.int p1), .val (.int p2), .val (.int p3), .val (.int p4), .val (.int (0 : Int32)), .val (.int (0 : Int32)), .unset, .unset, .unset, .unset, .unset, .unset] [(.int (1 : Int32))])) _
    refine XS.goto X0.here hx rfl (pc0 := 33) (pc' := 37) rfl (hb hby at_33) (by decide) (by decide) ?_
    show Steps p.tables e below (s₁.setTop (mkF m 37 #[.val (.int p1), .val (.int p2), .val (.int p3), .val (.int p4), .val (.int (0 : Int32)), .val (.int (0 : Int32)), .unset, .unset, .unset, .unset, .unset, .unset] [(.int (1 : Int32))])) _
    refine XS.istore X0.here hx rfl (hb hby at_37) rfl (l' := #[.val (.int p1), .val (.int p2), .val (.int p3), .val (.int p4), .val (.int (0 : Int32)), .val (.int (0 : Int32)), .val (.int (1 : Int32)), .unset, .unset, .unset, .unset, .unset]) rfl ?_
    show Steps p.tables e below (s₁.setTop (mkF m 39 #[.val (.int p1), .val (.int p2), .val (.int p3), .val (.int p4), .val (.int (0 : Int32)), .val (.int (0 : Int32)), .val (.int (1 : Int32)), .unset, .unset, .unset, .unset, .unset] [])) _
    refine st1 _ ?_
    show Steps p.tables e below (T1.setTop (mkF m 42 #[.val (.int p1), .val (.int p2), .val (.int p3), .val (.int p4), .val (.int (0 : Int32)), .val (.int (0 : Int32)), .val (.int (1 : Int32)), .unset, .unset, .unset, .unset, .unset] [(.ref bo)])) _
    refine XS.dup X1.here hx rfl (hb hby at_42) rfl rfl ?_
    show Steps p.tables e below (T1.setTop (mkF m 43 #[.val (.int p1), .val (.int p2), .val (.int p3), .val (.int p4), .val (.int (0 : Int32)), .val (.int (0 : Int32)), .val (.int (1 : Int32)), .unset, .unset, .unset, .unset, .unset] [(.ref bo), (.ref bo)])) _
    refine XS.iconst X1.here hx rfl (hb hby at_43) ?_
    show Steps p.tables e below (T1.setTop (mkF m 44 #[.val (.int p1), .val (.int p2), .val (.int p3), .val (.int p4), .val (.int (0 : Int32)), .val (.int (0 : Int32)), .val (.int (1 : Int32)), .unset, .unset, .unset, .unset, .unset] [(.int (2 : Int32)), (.ref bo), (.ref bo)])) _
    refine st2.trans ?_
    show Steps p.tables e below (T2.setTop (mkF m 47 #[.val (.int p1), .val (.int p2), .val (.int p3), .val (.int p4), .val (.int (0 : Int32)), .val (.int (0 : Int32)), .val (.int (1 : Int32)), .unset, .unset, .unset, .unset, .unset] [(.ref bo)])) _
    refine XS.astore X2.here hx rfl (hb hby at_47) rfl rfl (l' := #[.val (.int p1), .val (.int p2), .val (.int p3), .val (.int p4), .val (.int (0 : Int32)), .val (.int (0 : Int32)), .val (.int (1 : Int32)), .val (.ref bo), .unset, .unset, .unset, .unset]) rfl ?_
    show Steps p.tables e below (T2.setTop (mkF m 49 #[.val (.int p1), .val (.int p2), .val (.int p3), .val (.int p4), .val (.int (0 : Int32)), .val (.int (0 : Int32)), .val (.int (1 : Int32)), .val (.ref bo), .unset, .unset, .unset, .unset] [])) _
    refine XS.iload X2.here hx rfl (hb hby at_49) rfl ?_
    show Steps p.tables e below (T2.setTop (mkF m 51 #[.val (.int p1), .val (.int p2), .val (.int p3), .val (.int p4), .val (.int (0 : Int32)), .val (.int (0 : Int32)), .val (.int (1 : Int32)), .val (.ref bo), .unset, .unset, .unset, .unset] [(.int (0 : Int32))])) _
    refine XS.ifYes X2.here hx rfl (pc0 := 51) (pc' := 60) rfl (hb hby at_51) rfl ((if0 _ _).trans (teq (by decide : (0 : Int32) = (0 : Int32))).1) (by decide) (by decide) ?_
    show Steps p.tables e below (T2.setTop (mkF m 60 #[.val (.int p1), .val (.int p2), .val (.int p3), .val (.int p4), .val (.int (0 : Int32)), .val (.int (0 : Int32)), .val (.int (1 : Int32)), .val (.ref bo), .unset, .unset, .unset, .unset] [])) _
    refine XS.iload X2.here hx rfl (hb hby at_60) rfl ?_
    show Steps p.tables e below (T2.setTop (mkF m 62 #[.val (.int p1), .val (.int p2), .val (.int p3), .val (.int p4), .val (.int (0 : Int32)), .val (.int (0 : Int32)), .val (.int (1 : Int32)), .val (.ref bo), .unset, .unset, .unset, .unset] [(.int (0 : Int32))])) _
    refine XS.ifYes X2.here hx rfl (pc0 := 62) (pc' := 71) rfl (hb hby at_62) rfl ((if0 _ _).trans (teq (by decide : (0 : Int32) = (0 : Int32))).1) (by decide) (by decide) ?_
    show Steps p.tables e below (T2.setTop (mkF m 71 #[.val (.int p1), .val (.int p2), .val (.int p3), .val (.int p4), .val (.int (0 : Int32)), .val (.int (0 : Int32)), .val (.int (1 : Int32)), .val (.ref bo), .unset, .unset, .unset, .unset] [])) _
    refine XS.aload X2.here hx rfl (hb hby at_71) rfl rfl ?_
    show Steps p.tables e below (T2.setTop (mkF m 73 #[.val (.int p1), .val (.int p2), .val (.int p3), .val (.int p4), .val (.int (0 : Int32)), .val (.int (0 : Int32)), .val (.int (1 : Int32)), .val (.ref bo), .unset, .unset, .unset, .unset] [(.ref bo)])) _
    refine st3.trans ?_
    show Steps p.tables e below (T3.setTop (mkF m 76 #[.val (.int p1), .val (.int p2), .val (.int p3), .val (.int p4), .val (.int (0 : Int32)), .val (.int (0 : Int32)), .val (.int (1 : Int32)), .val (.ref bo), .unset, .unset, .unset, .unset] [])) _
    refine XS.iload X3.here hx rfl (hb hby at_76) rfl ?_
    show Steps p.tables e below (T3.setTop (mkF m 78 #[.val (.int p1), .val (.int p2), .val (.int p3), .val (.int p4), .val (.int (0 : Int32)), .val (.int (0 : Int32)), .val (.int (1 : Int32)), .val (.ref bo), .unset, .unset, .unset, .unset] [(.int (1 : Int32))])) _
    refine XS.ifNo X3.here hx rfl (hb hby at_78) rfl ((if0 _ _).trans (feq (by decide : ¬ ((1 : Int32) = (0 : Int32)))).1) ?_
    show Steps p.tables e below (T3.setTop (mkF m 81 #[.val (.int p1), .val (.int p2), .val (.int p3), .val (.int p4), .val (.int (0 : Int32)), .val (.int (0 : Int32)), .val (.int (1 : Int32)), .val (.ref bo), .unset, .unset, .unset, .unset] [])) _
    refine XS.aload X3.here hx rfl (hb hby at_81) rfl rfl ?_
    show Steps p.tables e below (T3.setTop (mkF m 83 #[.val (.int p1), .val (.int p2), .val (.int p3), .val (.int p4), .val (.int (0 : Int32)), .val (.int (0 : Int32)), .val (.int (1 : Int32)), .val (.ref bo), .unset, .unset, .unset, .unset] [(.ref bo)])) _
    refine XS.iloadN X3.here hx rfl (hb hby at_83) rfl ?_
    show Steps p.tables e below (T3.setTop (mkF m 84 #[.val (.int p1), .val (.int p2), .val (.int p3), .val (.int p4), .val (.int (0 : Int32)), .val (.int (0 : Int32)), .val (.int (1 : Int32)), .val (.ref bo), .unset, .unset, .unset, .unset] [(.int p3), (.ref bo)])) _
    refine st5.trans ?_
    show Steps p.tables e below (T5.setTop (mkF m 87 #[.val (.int p1), .val (.int p2), .val (.int p3), .val (.int p4), .val (.int (0 : Int32)), .val (.int (0 : Int32)), .val (.int (1 : Int32)), .val (.ref bo), .unset, .unset, .unset, .unset] [])) _
    refine XS.aload X5.here hx rfl (hb hby at_87) rfl rfl ?_
    show Steps p.tables e below (T5.setTop (mkF m 89 #[.val (.int p1), .val (.int p2), .val (.int p3), .val (.int p4), .val (.int (0 : Int32)), .val (.int (0 : Int32)), .val (.int (1 : Int32)), .val (.ref bo), .unset, .unset, .unset, .unset] [(.ref bo)])) _
    refine st7.trans ?_
    show Steps p.tables e below (T7.setTop (mkF m 92 #[.val (.int p1), .val (.int p2), .val (.int p3), .val (.int p4), .val (.int (0 : Int32)), .val (.int (0 : Int32)), .val (.int (1 : Int32)), .val (.ref bo), .unset, .unset, .unset, .unset] [])) _
    refine XS.aload X7.here hx rfl (hb hby at_92) rfl rfl ?_
    show Steps p.tables e below (T7.setTop (mkF m 94 #[.val (.int p1), .val (.int p2), .val (.int p3), .val (.int p4), .val (.int (0 : Int32)), .val (.int (0 : Int32)), .val (.int (1 : Int32)), .val (.ref bo), .unset, .unset, .unset, .unset] [(.ref bo)])) _
    refine st9.trans ?_
    show Steps p.tables e below (T9.setTop (mkF m 97 #[.val (.int p1), .val (.int p2), .val (.int p3), .val (.int p4), .val (.int (0 : Int32)), .val (.int (0 : Int32)), .val (.int (1 : Int32)), .val (.ref bo), .unset, .unset, .unset, .unset] [(.ref o9)])) _
    refine XS.astore X9.here hx rfl (hb hby at_97) rfl rfl (l' := #[.val (.int p1), .val (.int p2), .val (.int p3), .val (.int p4), .val (.int (0 : Int32)), .val (.int (0 : Int32)), .val (.int (1 : Int32)), .val (.ref bo), .val (.ref o9), .unset, .unset, .unset]) rfl ?_
    show Steps p.tables e below (T9.setTop (mkF m 99 #[.val (.int p1), .val (.int p2), .val (.int p3), .val (.int p4), .val (.int (0 : Int32)), .val (.int (0 : Int32)), .val (.int (1 : Int32)), .val (.ref bo), .val (.ref o9), .unset, .unset, .unset] [])) _
    refine XS.iload X9.here hx rfl (hb hby at_99) rfl ?_
    show Steps p.tables e below (T9.setTop (mkF m 101 #[.val (.int p1), .val (.int p2), .val (.int p3), .val (.int p4), .val (.int (0 : Int32)), .val (.int (0 : Int32)), .val (.int (1 : Int32)), .val (.ref bo), .val (.ref o9), .unset, .unset, .unset] [(.int (0 : Int32))])) _
    refine XS.ifYes X9.here hx rfl (pc0 := 101) (pc' := 108) rfl (hb hby at_101) rfl ((if0 _ _).trans (teq (by decide : (0 : Int32) = (0 : Int32))).1) (by decide) (by decide) ?_
    show Steps p.tables e below (T9.setTop (mkF m 108 #[.val (.int p1), .val (.int p2), .val (.int p3), .val (.int p4), .val (.int (0 : Int32)), .val (.int (0 : Int32)), .val (.int (1 : Int32)), .val (.ref bo), .val (.ref o9), .unset, .unset, .unset] [])) _
    refine XS.iconst X9.here hx rfl (hb hby at_108) ?_
    show Steps p.tables e below (T9.setTop (mkF m 109 #[.val (.int p1), .val (.int p2), .val (.int p3), .val (.int p4), .val (.int (0 : Int32)), .val (.int (0 : Int32)), .val (.int (1 : Int32)), .val (.ref bo), .val (.ref o9), .unset, .unset, .unset] [(.int (0 : Int32))])) _
    refine XS.iload X9.here hx rfl (hb hby at_109) rfl ?_
    show Steps p.tables e below (T9.setTop (mkF m 111 #[.val (.int p1), .val (.int p2), .val (.int p3), .val (.int p4), .val (.int (0 : Int32)), .val (.int (0 : Int32)), .val (.int (1 : Int32)), .val (.ref bo), .val (.ref o9), .unset, .unset, .unset] [(.int (0 : Int32)), (.int (0 : Int32))])) _
    refine XS.ifYes X9.here hx rfl (pc0 := 111) (pc' := 118) rfl (hb hby at_111) rfl ((if0 _ _).trans (teq (by decide : (0 : Int32) = (0 : Int32))).1) (by decide) (by decide) ?_
    show Steps p.tables e below (T9.setTop (mkF m 118 #[.val (.int p1), .val (.int p2), .val (.int p3), .val (.int p4), .val (.int (0 : Int32)), .val (.int (0 : Int32)), .val (.int (1 : Int32)), .val (.ref bo), .val (.ref o9), .unset, .unset, .unset] [(.int (0 : Int32))])) _
    refine XS.iconst X9.here hx rfl (hb hby at_118) ?_
    show Steps p.tables e below (T9.setTop (mkF m 119 #[.val (.int p1), .val (.int p2), .val (.int p3), .val (.int p4), .val (.int (0 : Int32)), .val (.int (0 : Int32)), .val (.int (1 : Int32)), .val (.ref bo), .val (.ref o9), .unset, .unset, .unset] [(.int (0 : Int32)), (.int (0 : Int32))])) _
    refine XS.iadd X9.here hx rfl (hb hby at_119) rfl ?_
    show Steps p.tables e below (T9.setTop (mkF m 120 #[.val (.int p1), .val (.int p2), .val (.int p3), .val (.int p4), .val (.int (0 : Int32)), .val (.int (0 : Int32)), .val (.int (1 : Int32)), .val (.ref bo), .val (.ref o9), .unset, .unset, .unset] [(.int ((0 : Int32) + (0 : Int32)))])) _
    refine XS.istore X9.here hx rfl (hb hby at_120) rfl (l' := #[.val (.int p1), .val (.int p2), .val (.int p3), .val (.int p4), .val (.int (0 : Int32)), .val (.int (0 : Int32)), .val (.int (1 : Int32)), .val (.ref bo), .val (.ref o9), .val (.int ((0 : Int32) + (0 : Int32))), .unset, .unset]) rfl ?_
    show Steps p.tables e below (T9.setTop (mkF m 122 #[.val (.int p1), .val (.int p2), .val (.int p3), .val (.int p4), .val (.int (0 : Int32)), .val (.int (0 : Int32)), .val (.int (1 : Int32)), .val (.ref bo), .val (.ref o9), .val (.int ((0 : Int32) + (0 : Int32))), .unset, .unset] [])) _
    refine XS.iload X9.here hx rfl (hb hby at_122) rfl ?_
    show Steps p.tables e below (T9.setTop (mkF m 124 #[.val (.int p1), .val (.int p2), .val (.int p3), .val (.int p4), .val (.int (0 : Int32)), .val (.int (0 : Int32)), .val (.int (1 : Int32)), .val (.ref bo), .val (.ref o9), .val (.int ((0 : Int32) + (0 : Int32))), .unset, .unset] [(.int (1 : Int32))])) _
    refine XS.ifNo X9.here hx rfl (hb hby at_124) rfl ((if0 _ _).trans (feq (by decide : ¬ ((1 : Int32) = (0 : Int32)))).1) ?_
    show Steps p.tables e below (T9.setTop (mkF m 127 #[.val (.int p1), .val (.int p2), .val (.int p3), .val (.int p4), .val (.int (0 : Int32)), .val (.int (0 : Int32)), .val (.int (1 : Int32)), .val (.ref bo), .val (.ref o9), .val (.int ((0 : Int32) + (0 : Int32))), .unset, .unset] [])) _
    refine XS.iconst X9.here hx rfl (hb hby at_127) ?_
    show Steps p.tables e below (T9.setTop (mkF m 128 #[.val (.int p1), .val (.int p2), .val (.int p3), .val (.int p4), .val (.int (0 : Int32)), .val (.int (0 : Int32)), .val (.int (1 : Int32)), .val (.ref bo), .val (.ref o9), .val (.int ((0 : Int32) + (0 : Int32))), .unset, .unset] [(.int (1 : Int32))])) _
    refine XS.goto X9.here hx rfl (pc0 := 128) (pc' := 132) rfl (hb hby at_128) (by decide) (by decide) ?_
    show Steps p.tables e below (T9.setTop (mkF m 132 #[.val (.int p1), .val (.int p2), .val (.int p3), .val (.int p4), .val (.int (0 : Int32)), .val (.int (0 : Int32)), .val (.int (1 : Int32)), .val (.ref bo), .val (.ref o9), .val (.int ((0 : Int32) + (0 : Int32))), .unset, .unset] [(.int (1 : Int32))])) _
    refine XS.istore X9.here hx rfl (hb hby at_132) rfl (l' := #[.val (.int p1), .val (.int p2), .val (.int p3), .val (.int p4), .val (.int (0 : Int32)), .val (.int (0 : Int32)), .val (.int (1 : Int32)), .val (.ref bo), .val (.ref o9), .val (.int ((0 : Int32) + (0 : Int32))), .val (.int (1 : Int32)), .unset]) rfl ?_
    show Steps p.tables e below (T9.setTop (mkF m 134 #[.val (.int p1), .val (.int p2), .val (.int p3), .val (.int p4), .val (.int (0 : Int32)), .val (.int (0 : Int32)), .val (.int (1 : Int32)), .val (.ref bo), .val (.ref o9), .val (.int ((0 : Int32) + (0 : Int32))), .val (.int (1 : Int32)), .unset] [])) _
    refine XS.aload X9.here hx rfl (hb hby at_134) rfl rfl ?_
    show Steps p.tables e below (T9.setTop (mkF m 136 #[.val (.int p1), .val (.int p2), .val (.int p3), .val (.int p4), .val (.int (0 : Int32)), .val (.int (0 : Int32)), .val (.int (1 : Int32)), .val (.ref bo), .val (.ref o9), .val (.int ((0 : Int32) + (0 : Int32))), .val (.int (1 : Int32)), .unset] [(.ref o9)])) _
    refine XS.iconst X9.here hx rfl (hb hby at_136) ?_
    show Steps p.tables e below (T9.setTop (mkF m 137 #[.val (.int p1), .val (.int p2), .val (.int p3), .val (.int p4), .val (.int (0 : Int32)), .val (.int (0 : Int32)), .val (.int (1 : Int32)), .val (.ref bo), .val (.ref o9), .val (.int ((0 : Int32) + (0 : Int32))), .val (.int (1 : Int32)), .unset] [(.int (0 : Int32)), (.ref o9)])) _
    refine st17.trans ?_
    show Steps p.tables e below (T17.setTop (mkF m 140 #[.val (.int p1), .val (.int p2), .val (.int p3), .val (.int p4), .val (.int (0 : Int32)), .val (.int (0 : Int32)), .val (.int (1 : Int32)), .val (.ref bo), .val (.ref o9), .val (.int ((0 : Int32) + (0 : Int32))), .val (.int (1 : Int32)), .unset] [(.int ((0 : Int32) - (0 : Int32)))])) _
    refine XS.iload X17.here hx rfl (hb hby at_140) rfl ?_
    show Steps p.tables e below (T17.setTop (mkF m 142 #[.val (.int p1), .val (.int p2), .val (.int p3), .val (.int p4), .val (.int (0 : Int32)), .val (.int (0 : Int32)), .val (.int (1 : Int32)), .val (.ref bo), .val (.ref o9), .val (.int ((0 : Int32) + (0 : Int32))), .val (.int (1 : Int32)), .unset] [(.int ((0 : Int32) + (0 : Int32))), (.int ((0 : Int32) - (0 : Int32)))])) _
    refine XS.icmpYes X17.here hx rfl (pc0 := 142) (pc' := 147) rfl (hb hby at_142) rfl (teq (by decide : ((0 : Int32) - (0 : Int32)) = ((0 : Int32) + (0 : Int32)))).1 (by decide) (by decide) ?_
    show Steps p.tables e below (T17.setTop (mkF m 147 #[.val (.int p1), .val (.int p2), .val (.int p3), .val (.int p4), .val (.int (0 : Int32)), .val (.int (0 : Int32)), .val (.int (1 : Int32)), .val (.ref bo), .val (.ref o9), .val (.int ((0 : Int32) + (0 : Int32))), .val (.int (1 : Int32)), .unset] [])) _
    refine XS.aload X17.here hx rfl (hb hby at_147) rfl rfl ?_
    show Steps p.tables e below (T17.setTop (mkF m 149 #[.val (.int p1), .val (.int p2), .val (.int p3), .val (.int p4), .val (.int (0 : Int32)), .val (.int (0 : Int32)), .val (.int (1 : Int32)), .val (.ref bo), .val (.ref o9), .val (.int ((0 : Int32) + (0 : Int32))), .val (.int (1 : Int32)), .unset] [(.ref o9)])) _
    refine XS.iconst X17.here hx rfl (hb hby at_149) ?_
    show Steps p.tables e below (T17.setTop (mkF m 150 #[.val (.int p1), .val (.int p2), .val (.int p3), .val (.int p4), .val (.int (0 : Int32)), .val (.int (0 : Int32)), .val (.int (1 : Int32)), .val (.ref bo), .val (.ref o9), .val (.int ((0 : Int32) + (0 : Int32))), .val (.int (1 : Int32)), .unset] [(.int (1 : Int32)), (.ref o9)])) _
    refine st18.trans ?_
    show Steps p.tables e below (T18.setTop (mkF m 153 #[.val (.int p1), .val (.int p2), .val (.int p3), .val (.int p4), .val (.int (0 : Int32)), .val (.int (0 : Int32)), .val (.int (1 : Int32)), .val (.ref bo), .val (.ref o9), .val (.int ((0 : Int32) + (0 : Int32))), .val (.int (1 : Int32)), .unset] [(.int (((0 : Int32) + (1 : Int32)) - (0 : Int32)))])) _
    refine XS.iload X18.here hx rfl (hb hby at_153) rfl ?_
    show Steps p.tables e below (T18.setTop (mkF m 155 #[.val (.int p1), .val (.int p2), .val (.int p3), .val (.int p4), .val (.int (0 : Int32)), .val (.int (0 : Int32)), .val (.int (1 : Int32)), .val (.ref bo), .val (.ref o9), .val (.int ((0 : Int32) + (0 : Int32))), .val (.int (1 : Int32)), .unset] [(.int (1 : Int32)), (.int (((0 : Int32) + (1 : Int32)) - (0 : Int32)))])) _
    refine XS.icmpYes X18.here hx rfl (pc0 := 155) (pc' := 160) rfl (hb hby at_155) rfl (teq (by decide : (((0 : Int32) + (1 : Int32)) - (0 : Int32)) = (1 : Int32))).1 (by decide) (by decide) ?_
    show Steps p.tables e below (T18.setTop (mkF m 160 #[.val (.int p1), .val (.int p2), .val (.int p3), .val (.int p4), .val (.int (0 : Int32)), .val (.int (0 : Int32)), .val (.int (1 : Int32)), .val (.ref bo), .val (.ref o9), .val (.int ((0 : Int32) + (0 : Int32))), .val (.int (1 : Int32)), .unset] [])) _
    refine XS.iload X18.here hx rfl (hb hby at_160) rfl ?_
    show Steps p.tables e below (T18.setTop (mkF m 162 #[.val (.int p1), .val (.int p2), .val (.int p3), .val (.int p4), .val (.int (0 : Int32)), .val (.int (0 : Int32)), .val (.int (1 : Int32)), .val (.ref bo), .val (.ref o9), .val (.int ((0 : Int32) + (0 : Int32))), .val (.int (1 : Int32)), .unset] [(.int ((0 : Int32) + (0 : Int32)))])) _
    refine XS.iconst X18.here hx rfl (hb hby at_162) ?_
    show Steps p.tables e below (T18.setTop (mkF m 163 #[.val (.int p1), .val (.int p2), .val (.int p3), .val (.int p4), .val (.int (0 : Int32)), .val (.int (0 : Int32)), .val (.int (1 : Int32)), .val (.ref bo), .val (.ref o9), .val (.int ((0 : Int32) + (0 : Int32))), .val (.int (1 : Int32)), .unset] [(.int (1 : Int32)), (.int ((0 : Int32) + (0 : Int32)))])) _
    refine XS.icmpYes X18.here hx rfl (pc0 := 163) (pc' := 192) rfl (hb hby at_163) rfl (tlt (by decide : ((0 : Int32) + (0 : Int32)) < (1 : Int32))).1 (by decide) (by decide) ?_
    show Steps p.tables e below (T18.setTop (mkF m 192 #[.val (.int p1), .val (.int p2), .val (.int p3), .val (.int p4), .val (.int (0 : Int32)), .val (.int (0 : Int32)), .val (.int (1 : Int32)), .val (.ref bo), .val (.ref o9), .val (.int ((0 : Int32) + (0 : Int32))), .val (.int (1 : Int32)), .unset] [])) _
    refine XS.iload X18.here hx rfl (hb hby at_192) rfl ?_
    show Steps p.tables e below (T18.setTop (mkF m 194 #[.val (.int p1), .val (.int p2), .val (.int p3), .val (.int p4), .val (.int (0 : Int32)), .val (.int (0 : Int32)), .val (.int (1 : Int32)), .val (.ref bo), .val (.ref o9), .val (.int ((0 : Int32) + (0 : Int32))), .val (.int (1 : Int32)), .unset] [(.int ((0 : Int32) + (0 : Int32)))])) _
    refine XS.iconst X18.here hx rfl (hb hby at_194) ?_
    show Steps p.tables e below (T18.setTop (mkF m 195 #[.val (.int p1), .val (.int p2), .val (.int p3), .val (.int p4), .val (.int (0 : Int32)), .val (.int (0 : Int32)), .val (.int (1 : Int32)), .val (.ref bo), .val (.ref o9), .val (.int ((0 : Int32) + (0 : Int32))), .val (.int (1 : Int32)), .unset] [(.int (2 : Int32)), (.int ((0 : Int32) + (0 : Int32)))])) _
    refine XS.icmpYes X18.here hx rfl (pc0 := 195) (pc' := 211) rfl (hb hby at_195) rfl (feq (by decide : ¬ (((0 : Int32) + (0 : Int32)) = (2 : Int32)))).2 (by decide) (by decide) ?_
    show Steps p.tables e below (T18.setTop (mkF m 211 #[.val (.int p1), .val (.int p2), .val (.int p3), .val (.int p4), .val (.int (0 : Int32)), .val (.int (0 : Int32)), .val (.int (1 : Int32)), .val (.ref bo), .val (.ref o9), .val (.int ((0 : Int32) + (0 : Int32))), .val (.int (1 : Int32)), .unset] [])) _
    refine XS.iload X18.here hx rfl (hb hby at_211) rfl ?_
    show Steps p.tables e below (T18.setTop (mkF m 213 #[.val (.int p1), .val (.int p2), .val (.int p3), .val (.int p4), .val (.int (0 : Int32)), .val (.int (0 : Int32)), .val (.int (1 : Int32)), .val (.ref bo), .val (.ref o9), .val (.int ((0 : Int32) + (0 : Int32))), .val (.int (1 : Int32)), .unset] [(.int (1 : Int32))])) _
    refine XS.iconst X18.here hx rfl (hb hby at_213) ?_
    show Steps p.tables e below (T18.setTop (mkF m 214 #[.val (.int p1), .val (.int p2), .val (.int p3), .val (.int p4), .val (.int (0 : Int32)), .val (.int (0 : Int32)), .val (.int (1 : Int32)), .val (.ref bo), .val (.ref o9), .val (.int ((0 : Int32) + (0 : Int32))), .val (.int (1 : Int32)), .unset] [(.int (1 : Int32)), (.int (1 : Int32))])) _
    refine XS.icmpNo X18.here hx rfl (hb hby at_214) rfl (teq (by decide : (1 : Int32) = (1 : Int32))).2 ?_
    show Steps p.tables e below (T18.setTop (mkF m 217 #[.val (.int p1), .val (.int p2), .val (.int p3), .val (.int p4), .val (.int (0 : Int32)), .val (.int (0 : Int32)), .val (.int (1 : Int32)), .val (.ref bo), .val (.ref o9), .val (.int ((0 : Int32) + (0 : Int32))), .val (.int (1 : Int32)), .unset] [])) _
    refine XS.aload X18.here hx rfl (hb hby at_217) rfl rfl ?_
    show Steps p.tables e below (T18.setTop (mkF m 219 #[.val (.int p1), .val (.int p2), .val (.int p3), .val (.int p4), .val (.int (0 : Int32)), .val (.int (0 : Int32)), .val (.int (1 : Int32)), .val (.ref bo), .val (.ref o9), .val (.int ((0 : Int32) + (0 : Int32))), .val (.int (1 : Int32)), .unset] [(.ref o9)])) _
    refine XS.iconst X18.here hx rfl (hb hby at_219) ?_
    show Steps p.tables e below (T18.setTop (mkF m 220 #[.val (.int p1), .val (.int p2), .val (.int p3), .val (.int p4), .val (.int (0 : Int32)), .val (.int (0 : Int32)), .val (.int (1 : Int32)), .val (.ref bo), .val (.ref o9), .val (.int ((0 : Int32) + (0 : Int32))), .val (.int (1 : Int32)), .unset] [(.int (1 : Int32)), (.ref o9)])) _
    refine XS.iconst X18.here hx rfl (hb hby at_220) ?_
    show Steps p.tables e below (T18.setTop (mkF m 221 #[.val (.int p1), .val (.int p2), .val (.int p3), .val (.int p4), .val (.int (0 : Int32)), .val (.int (0 : Int32)), .val (.int (1 : Int32)), .val (.ref bo), .val (.ref o9), .val (.int ((0 : Int32) + (0 : Int32))), .val (.int (1 : Int32)), .unset] [(.int (0 : Int32)), (.int (1 : Int32)), (.ref o9)])) _
    refine st19.trans ?_
    show Steps p.tables e below (T19.setTop (mkF m 224 #[.val (.int p1), .val (.int p2), .val (.int p3), .val (.int p4), .val (.int (0 : Int32)), .val (.int (0 : Int32)), .val (.int (1 : Int32)), .val (.ref bo), .val (.ref o9), .val (.int ((0 : Int32) + (0 : Int32))), .val (.int (1 : Int32)), .unset] [(.int p3)])) _
    refine XS.iloadN X19.here hx rfl (hb hby at_224) rfl ?_
    show Steps p.tables e below (T19.setTop (mkF m 225 #[.val (.int p1), .val (.int p2), .val (.int p3), .val (.int p4), .val (.int (0 : Int32)), .val (.int (0 : Int32)), .val (.int (1 : Int32)), .val (.ref bo), .val (.ref o9), .val (.int ((0 : Int32) + (0 : Int32))), .val (.int (1 : Int32)), .unset] [(.int p3), (.int p3)])) _
    refine XS.icmpYes X19.here hx rfl (pc0 := 225) (pc' := 230) rfl (hb hby at_225) rfl (teq (rfl : p3 = p3)).1 (by decide) (by decide) ?_
    show Steps p.tables e below (T19.setTop (mkF m 230 #[.val (.int p1), .val (.int p2), .val (.int p3), .val (.int p4), .val (.int (0 : Int32)), .val (.int (0 : Int32)), .val (.int (1 : Int32)), .val (.ref bo), .val (.ref o9), .val (.int ((0 : Int32) + (0 : Int32))), .val (.int (1 : Int32)), .unset] [])) _
    refine XS.iconst X19.here hx rfl (hb hby at_230) ?_
    show Steps p.tables e below (T19.setTop (mkF m 231 #[.val (.int p1), .val (.int p2), .val (.int p3), .val (.int p4), .val (.int (0 : Int32)), .val (.int (0 : Int32)), .val (.int (1 : Int32)), .val (.ref bo), .val (.ref o9), .val (.int ((0 : Int32) + (0 : Int32))), .val (.int (1 : Int32)), .unset] [(.int (1 : Int32))])) _
    exact retN X19 hx (t := .boolean) Bd.returns (by simp) (hb hby at_231) hr
  · show Q0 n0 _ _ _
    exact ⟨rfl, N19⟩
set_option maxRecDepth 65536 in
set_option maxHeartbeats 40000000 in
theorem rm0_010 (l : Launch) (Z : State) (a0 : Array Value) (hw : ∀ d ∈ tables_1, d.before a0 Z = true) (ws : List Jvm.Cond) (p1 p2 p3 p4 : Int32) (h0 : Heap) (n0 : Nat) (Z0 : n0 ≤ h0.size)  (hc3 : (p4 &&& (1 : Int32)) = (0 : Int32)) (hc16 : ¬ ((p4 &&& (2 : Int32)) = (0 : Int32))) (hc29 : (p4 &&& (4 : Int32)) = (0 : Int32)) :
    MetFree l x (head1 (Jvm.Cond.code x code maxLocals ret :: ws) room_1) (fun a U => a = #[(.int p1), (.int p2), (.int p3), (.int p4)] ∧ Z.Warmed39 U.vm ∧ U.heap = h0) (fun _ _ _ _ _ => True) (fun _ U o U' => ∃ v L, o = .returned v ∧ Q0 n0 v U'.heap L ∧ FrameEnd U o U' L room_1.cells room_1.slots) := by
  refine MetFree.of_bodySF (plainFor_of_name pn_org_keyward_securitymodel_BuilderEndPinLaw) hisR ?_
  intro p e s m args below meth cd s₁ Bd hml0 hPre hKc
  obtain ⟨rfl, hZ, hHp⟩ := hPre
  have hx := Bd.exec
  have hby := Bd.bytes
  have hml : cd.maxLocals = 12 := hml0
  have hown : s.vm.findClass "org/keyward/securitymodel/BuilderEndPinLaw" = some m.cls := findClass_of_methodNamed Bd.named
  have hnm := (name_of_methodNamed Bd.named Bd.method).1
  have X0 : Stand p l e room_1 s m #[(.int p1), (.int p2), (.int p3), (.int p4)] below meth cd s₁ [] 0 0 := Stand.of_body Bd
  have e0 : s₁.heap = h0 := by rw [← hHp, Bd.state]; rfl
  have N0 := Fr.nil n0
  have pre0 : ∀ t, Steps p.tables e below (s₁.setTop (mkF m 0 #[.val (.int p1), .val (.int p2), .val (.int p3), .val (.int p4), .unset, .unset, .unset, .unset, .unset, .unset, .unset, .unset] [])) t → Steps p.tables e below (s₁.setTop (entryFrame m #[(.int p1), (.int p2), (.int p3), (.int p4)] maxLocals)) t := fun t k => castTop (ef_0 m p1 p2 p3 p4) k
  obtain ⟨T1, h1, X1, e1, E1, A1, D1, -, st1⟩ := newO X0 hx hZ hown (hw _ (List.mem_of_getElem? (i := 0) rfl)) (hw _ (List.mem_of_getElem? (i := 1) rfl)) (hw _ (List.mem_of_getElem? (i := 2) rfl)) e0 (g := (mkF m 39 #[.val (.int p1), .val (.int p2), .val (.int p3), .val (.int p4), .val (.int (0 : Int32)), .val (.int (1 : Int32)), .val (.int (0 : Int32)), .unset, .unset, .unset, .unset, .unset] [])) rfl (hb hby at_39) (Nat.le_of_ble_eq_true rfl) (Nat.le_of_ble_eq_true rfl)
  obtain ⟨bo, g1⟩ : ∃ z, z = h0.size := ⟨_, rfl⟩
  rw [← g1] at A1 D1 st1
  have g_bo : n0 ≤ bo := Nat.le_trans Z0 (Nat.le_of_eq g1.symm)
  have z1 : n0 ≤ h1.size := Nat.le_trans Z0 E1.1
  have F_numbers_bo : Fld Z h1 bo "org/keyward/securitymodel/NumberLists$Builder" "numbers" "[I" .null := D1 (Or.inl (hw _ (List.mem_of_getElem? (i := 11) rfl))) (ty := (.array .int)) (by decide)
  have F_starts_bo : Fld Z h1 bo "org/keyward/securitymodel/NumberLists$Builder" "starts" "[I" .null := D1 (Or.inr (hw _ (List.mem_of_getElem? (i := 13) rfl))) (ty := (.array .int)) (by decide)
  have F_count_bo : Fld Z h1 bo "org/keyward/securitymodel/NumberLists$Builder" "count" "I" (.int (0 : Int32)) := D1 (Or.inl (hw _ (List.mem_of_getElem? (i := 20) rfl))) (ty := .int) (by decide)
  have F_listed_bo : Fld Z h1 bo "org/keyward/securitymodel/NumberLists$Builder" "listed" "I" (.int (0 : Int32)) := D1 (Or.inl (hw _ (List.mem_of_getElem? (i := 27) rfl))) (ty := .int) (by decide)
  obtain ⟨_, _, ⟨T2, L2, k2, n2⟩, -, X2, ⟨Lc2, hQ2, l2, y2, z2⟩, st2⟩ := X1.specialBack hx (y := (⟨"org/keyward/securitymodel/NumberLists$Builder", "<init>", "(I)V"⟩ : MethodName)) rfl hown (mvT hZ (hw _ (List.mem_of_getElem? (i := 3) rfl))) (mvT hZ (hw _ (List.mem_of_getElem? (i := 4) rfl))) (mvT hZ (hw _ (List.mem_of_getElem? (i := 5) rfl))) (by decide) (backOf (W := 1) (rm1 l Z a0 hw [] bo _ _ h1 n0 z1 A1 g_bo F_numbers_bo F_starts_bo F_count_bo F_listed_bo) hZ (hw _ (List.mem_of_getElem? (i := 5) rfl)) (hw _ (List.mem_of_getElem? (i := 2) rfl)) (by decide) (by decide)) (g := (mkF m 44 #[.val (.int p1), .val (.int p2), .val (.int p3), .val (.int p4), .val (.int (0 : Int32)), .val (.int (1 : Int32)), .val (.int (0 : Int32)), .unset, .unset, .unset, .unset, .unset] [(.int (2 : Int32)), (.ref bo), (.ref bo)])) rfl (by rw [hml]; rfl) (Steps.refl _) (a := bo) (argsL := [(.int (2 : Int32))]) (rest := [(.ref bo)]) (lenOf pd__I_V rfl) rfl (by show 2 * 0 + _ ≤ _; exact Nat.le_of_eq rfl) (hb hby at_44) (fun _ _ => ⟨rfl, e1, (Nat.le_of_ble_eq_true rfl), (Nat.le_of_ble_eq_true rfl)⟩)
  dsimp only [Pt.U, Pt.locs, Pt.cells, Pt.slots] at X2 l2 y2 z2 st2 hQ2
  subst l2 y2 z2
  obtain ⟨rfl, N2q, nb, sb, kn, ks, Kc2, Eb2, Fnumbers2, Fstarts2, Fcount2, Flisted2, Vn2, Vs2, gn2, gs2, ne12, ne22, ne32⟩ := hQ2
  have N2 := Fr.app N0 N2q
  have zz2 : n0 ≤ T2.heap.size := Nat.le_trans z1 Kc2.1
  obtain ⟨cq3, kq3, q3a, q3b, q3c⟩ := isOf hZ rfl Eb2
  obtain ⟨_, _, ⟨T3, L3, k3, n3⟩, -, X3, ⟨Lc3, hQ3, l3, y3, z3⟩, st3⟩ := X2.virtualBack hx (y := (⟨"org/keyward/securitymodel/NumberLists$Builder", "add", "(I)V"⟩ : MethodName)) (z := (⟨"org/keyward/securitymodel/NumberLists$Builder", "add", "(I)V"⟩ : MethodName)) hown (mvT hZ (hw _ (List.mem_of_getElem? (i := 14) rfl))) (mvT hZ (hw _ (List.mem_of_getElem? (i := 15) rfl))) (notFace_of_selects (args := #[]) (mvT hZ (hw _ (List.mem_of_getElem? (i := 17) rfl)))) (mvT hZ (hw _ (List.mem_of_getElem? (i := 17) rfl))) (mvT hZ (hw _ (List.mem_of_getElem? (i := 16) rfl))) (by decide) (backOf (W := 0) (rm3 l Z a0 hw [] bo p2 nb sb (0 : Int32) (0 : Int32) kn _ 0 T2.heap n0 zz2 Eb2 Fnumbers2 Fstarts2 Fcount2 Flisted2 g_bo gn2 ne12 Vn2 (by decide) (by decide) (Nat.le_of_ble_eq_true rfl)) hZ (hw _ (List.mem_of_getElem? (i := 18) rfl)) (hw _ (List.mem_of_getElem? (i := 2) rfl)) (by decide) (by decide)) q3a q3c (g := (mkF m 68 #[.val (.int p1), .val (.int p2), .val (.int p3), .val (.int p4), .val (.int (0 : Int32)), .val (.int (1 : Int32)), .val (.int (0 : Int32)), .val (.ref bo), .unset, .unset, .unset, .unset] [(.int p2), (.ref bo)])) rfl (by rw [hml]; rfl) (Steps.refl _) (argsL := [(.int p2)]) (rest := []) (lenOf pd__I_V rfl) rfl (by show 2 * 0 + _ ≤ _; exact Nat.le_of_eq rfl) (hb hby at_68) (fun _ _ => ⟨rfl, rfl, (Nat.le_of_ble_eq_true rfl), (Nat.le_of_ble_eq_true rfl)⟩)
  dsimp only [Pt.U, Pt.locs, Pt.cells, Pt.slots] at X3 l3 y3 z3 st3 hQ3
  subst l3 y3 z3
  obtain ⟨rfl, N3q, Kc3, Eb3, Fnumbers3, Fstarts3, Fcount3, Flisted3, Vn3⟩ := hQ3
  have N3 := Fr.app N2 N3q
  have f4_V_sb := Vs2.keep Kc3 (ninS (Ne.symm ne22) (ninS (Ne.symm ne32) nin0))
  have zz3 : n0 ≤ T3.heap.size := Nat.le_trans zz2 Kc3.1
  have Vx3 : Arv Z T3.heap nb kn .int (16 : Int32) [(.int p2), (.int (0 : Int32)), (.int (0 : Int32)), (.int (0 : Int32)), (.int (0 : Int32)), (.int (0 : Int32)), (.int (0 : Int32)), (.int (0 : Int32)), (.int (0 : Int32)), (.int (0 : Int32)), (.int (0 : Int32)), (.int (0 : Int32)), (.int (0 : Int32)), (.int (0 : Int32)), (.int (0 : Int32)), (.int (0 : Int32))] (.int (0 : Int32)) := Vn3
  obtain ⟨cq5, kq5, q5a, q5b, q5c⟩ := isOf hZ rfl Eb3
  obtain ⟨_, _, ⟨T5, L5, k5, n5⟩, -, X5, ⟨Lc5, hQ5, l5, y5, z5⟩, st5⟩ := X3.virtualBack hx (y := (⟨"org/keyward/securitymodel/NumberLists$Builder", "end", "()V"⟩ : MethodName)) (z := (⟨"org/keyward/securitymodel/NumberLists$Builder", "end", "()V"⟩ : MethodName)) hown (mvT hZ (hw _ (List.mem_of_getElem? (i := 21) rfl))) (mvT hZ (hw _ (List.mem_of_getElem? (i := 22) rfl))) (notFace_of_selects (args := #[]) (mvT hZ (hw _ (List.mem_of_getElem? (i := 24) rfl)))) (mvT hZ (hw _ (List.mem_of_getElem? (i := 24) rfl))) (mvT hZ (hw _ (List.mem_of_getElem? (i := 23) rfl))) (by decide) (backOf (W := 0) (rm4 l Z a0 hw [] bo nb sb ((0 : Int32) + (1 : Int32)) (0 : Int32) ks _ 1 T3.heap n0 zz3 Eb3 Fnumbers3 Fstarts3 Fcount3 Flisted3 g_bo gs2 ne22 f4_V_sb (by decide) (by decide) (Nat.le_of_ble_eq_true rfl)) hZ (hw _ (List.mem_of_getElem? (i := 25) rfl)) (hw _ (List.mem_of_getElem? (i := 2) rfl)) (by decide) (by decide)) q5a q5c (g := (mkF m 73 #[.val (.int p1), .val (.int p2), .val (.int p3), .val (.int p4), .val (.int (0 : Int32)), .val (.int (1 : Int32)), .val (.int (0 : Int32)), .val (.ref bo), .unset, .unset, .unset, .unset] [(.ref bo)])) rfl (by rw [hml]; rfl) (Steps.refl _) (argsL := []) (rest := []) (lenOf pd___V rfl) rfl (by show 2 * 0 + _ ≤ _; exact Nat.le_of_eq rfl) (hb hby at_73) (fun _ _ => ⟨rfl, rfl, (Nat.le_of_ble_eq_true rfl), (Nat.le_of_ble_eq_true rfl)⟩)
  dsimp only [Pt.U, Pt.locs, Pt.cells, Pt.slots] at X5 l5 y5 z5 st5 hQ5
  subst l5 y5 z5
  obtain ⟨rfl, N5q, Kc5, Eb5, Fnumbers5, Fstarts5, Fcount5, Flisted5, Vs5⟩ := hQ5
  have N5 := Fr.app N3 N5q
  have f6_V_nb := Vx3.keep Kc5 (ninS (Ne.symm ne12) (ninS ne32 nin0))
  have zz5 : n0 ≤ T5.heap.size := Nat.le_trans zz3 Kc5.1
  have Vx5 : Arv Z T5.heap sb ks .int (3 : Int32) [(.int (0 : Int32)), (.int ((0 : Int32) + (1 : Int32))), (.int (0 : Int32))] (.int (0 : Int32)) := Vs5
  obtain ⟨cq7, kq7, q7a, q7b, q7c⟩ := isOf hZ rfl Eb5
  obtain ⟨_, _, ⟨T7, L7, k7, n7⟩, -, X7, ⟨Lc7, hQ7, l7, y7, z7⟩, st7⟩ := X5.virtualBack hx (y := (⟨"org/keyward/securitymodel/NumberLists$Builder", "end", "()V"⟩ : MethodName)) (z := (⟨"org/keyward/securitymodel/NumberLists$Builder", "end", "()V"⟩ : MethodName)) hown (mvT hZ (hw _ (List.mem_of_getElem? (i := 21) rfl))) (mvT hZ (hw _ (List.mem_of_getElem? (i := 22) rfl))) (notFace_of_selects (args := #[]) (mvT hZ (hw _ (List.mem_of_getElem? (i := 24) rfl)))) (mvT hZ (hw _ (List.mem_of_getElem? (i := 24) rfl))) (mvT hZ (hw _ (List.mem_of_getElem? (i := 23) rfl))) (by decide) (backOf (W := 0) (rm4 l Z a0 hw [] bo nb sb ((0 : Int32) + (1 : Int32)) ((0 : Int32) + (1 : Int32)) ks _ 2 T5.heap n0 zz5 Eb5 Fnumbers5 Fstarts5 Fcount5 Flisted5 g_bo gs2 ne22 Vx5 (by decide) (by decide) (Nat.le_of_ble_eq_true rfl)) hZ (hw _ (List.mem_of_getElem? (i := 25) rfl)) (hw _ (List.mem_of_getElem? (i := 2) rfl)) (by decide) (by decide)) q7a q7c (g := (mkF m 89 #[.val (.int p1), .val (.int p2), .val (.int p3), .val (.int p4), .val (.int (0 : Int32)), .val (.int (1 : Int32)), .val (.int (0 : Int32)), .val (.ref bo), .unset, .unset, .unset, .unset] [(.ref bo)])) rfl (by rw [hml]; rfl) (Steps.refl _) (argsL := []) (rest := []) (lenOf pd___V rfl) rfl (by show 2 * 0 + _ ≤ _; exact Nat.le_of_eq rfl) (hb hby at_89) (fun _ _ => ⟨rfl, rfl, (Nat.le_of_ble_eq_true rfl), (Nat.le_of_ble_eq_true rfl)⟩)
  dsimp only [Pt.U, Pt.locs, Pt.cells, Pt.slots] at X7 l7 y7 z7 st7 hQ7
  subst l7 y7 z7
  obtain ⟨rfl, N7q, Kc7, Eb7, Fnumbers7, Fstarts7, Fcount7, Flisted7, Vs7⟩ := hQ7
  have N7 := Fr.app N5 N7q
  have f8_V_nb := f6_V_nb.keep Kc7 (ninS (Ne.symm ne12) (ninS ne32 nin0))
  have zz7 : n0 ≤ T7.heap.size := Nat.le_trans zz5 Kc7.1
  have Vx7 : Arv Z T7.heap sb ks .int (3 : Int32) [(.int (0 : Int32)), (.int ((0 : Int32) + (1 : Int32))), (.int ((0 : Int32) + (1 : Int32)))] (.int (0 : Int32)) := Vs7
  obtain ⟨cq9, kq9, q9a, q9b, q9c⟩ := isOf hZ rfl Eb7
  obtain ⟨_, _, ⟨T9, L9, k9, n9⟩, -, X9, ⟨Lc9, hQ9, l9, y9, z9⟩, st9⟩ := X7.virtualBack hx (y := (⟨"org/keyward/securitymodel/NumberLists$Builder", "build", "()Lorg/keyward/securitymodel/NumberLists;"⟩ : MethodName)) (z := (⟨"org/keyward/securitymodel/NumberLists$Builder", "build", "()Lorg/keyward/securitymodel/NumberLists;"⟩ : MethodName)) hown (mvT hZ (hw _ (List.mem_of_getElem? (i := 28) rfl))) (mvT hZ (hw _ (List.mem_of_getElem? (i := 29) rfl))) (notFace_of_selects (args := #[]) (mvT hZ (hw _ (List.mem_of_getElem? (i := 31) rfl)))) (mvT hZ (hw _ (List.mem_of_getElem? (i := 31) rfl))) (mvT hZ (hw _ (List.mem_of_getElem? (i := 30) rfl))) (by decide) (backOf (W := 0) (rm5 l Z a0 hw [] bo nb sb ((0 : Int32) + (1 : Int32)) (((0 : Int32) + (1 : Int32)) + (1 : Int32)) kn ks _ _ 1 T7.heap n0 zz7 Eb7 Fnumbers7 Fstarts7 Fcount7 Flisted7 f8_V_nb Vx7 (by decide) (by decide) (by decide) (by decide)) hZ (hw _ (List.mem_of_getElem? (i := 32) rfl)) (hw _ (List.mem_of_getElem? (i := 2) rfl)) (by decide) (by decide)) q9a q9c (g := (mkF m 94 #[.val (.int p1), .val (.int p2), .val (.int p3), .val (.int p4), .val (.int (0 : Int32)), .val (.int (1 : Int32)), .val (.int (0 : Int32)), .val (.ref bo), .unset, .unset, .unset, .unset] [(.ref bo)])) rfl (by rw [hml]; rfl) (Steps.refl _) (argsL := []) (rest := []) (lenOf pd___Lorg_keyward_securitymodel_NumberLists_ rfl) rfl (by show 2 * 0 + _ ≤ _; exact Nat.le_of_eq rfl) (hb hby at_94) (fun _ _ => ⟨rfl, rfl, (Nat.le_of_ble_eq_true rfl), (Nat.le_of_ble_eq_true rfl)⟩)
  dsimp only [Pt.U, Pt.locs, Pt.cells, Pt.slots] at X9 l9 y9 z9 st9 hQ9
  subst l9 y9 z9
  obtain ⟨o9, mb9, km9, rfl, N9q, Kc9, Eo9, So9, No9, Vm9⟩ := hQ9
  have N9 := Fr.app N7 N9q
  have f10_V_nb := f8_V_nb.keep Kc9 nin0
  have f11_E_bo := Eb7.keep Kc9
  have f12_F_bo_numbers := Fnumbers7.keep Kc9 nin0
  have f13_F_bo_starts := Fstarts7.keep Kc9 nin0
  have f14_F_bo_count := Fcount7.keep Kc9 nin0
  have f15_F_bo_listed := Flisted7.keep Kc9 nin0
  have f16_V_sb := Vx7.keep Kc9 nin0
  have zz9 : n0 ≤ T9.heap.size := Nat.le_trans zz7 Kc9.1
  obtain ⟨cq17, kq17, q17a, q17b, q17c⟩ := isOf hZ rfl Eo9
  obtain ⟨_, _, ⟨T17, L17, k17, n17⟩, -, X17, ⟨Lc17, hQ17, l17, y17, z17⟩, st17⟩ := X9.virtualBack hx (y := (⟨"org/keyward/securitymodel/NumberLists", "size", "(I)I"⟩ : MethodName)) (z := (⟨"org/keyward/securitymodel/NumberLists", "size", "(I)I"⟩ : MethodName)) hown (mvT hZ (hw _ (List.mem_of_getElem? (i := 56) rfl))) (mvT hZ (hw _ (List.mem_of_getElem? (i := 57) rfl))) (notFace_of_selects (args := #[]) (mvT hZ (hw _ (List.mem_of_getElem? (i := 59) rfl)))) (mvT hZ (hw _ (List.mem_of_getElem? (i := 59) rfl))) (mvT hZ (hw _ (List.mem_of_getElem? (i := 58) rfl))) (by decide) (backOf (W := 0) (rm9 l Z a0 hw [] o9 (0 : Int32) sb ks _ ((0 : Int32) + (1 : Int32)) (0 : Int32) T9.heap n0 zz9 So9 f16_V_sb (by decide) (by decide) rfl rfl) hZ (hw _ (List.mem_of_getElem? (i := 60) rfl)) (hw _ (List.mem_of_getElem? (i := 35) rfl)) (by decide) (by decide)) q17a q17c (g := (mkF m 137 #[.val (.int p1), .val (.int p2), .val (.int p3), .val (.int p4), .val (.int (0 : Int32)), .val (.int (1 : Int32)), .val (.int (0 : Int32)), .val (.ref bo), .val (.ref o9), .val (.int ((0 : Int32) + (1 : Int32))), .val (.int (0 : Int32)), .unset] [(.int (0 : Int32)), (.ref o9)])) rfl (by rw [hml]; rfl) (Steps.refl _) (argsL := [(.int (0 : Int32))]) (rest := []) (lenOf pd__I_I rfl) rfl (by show 2 * 0 + _ ≤ _; exact Nat.le_of_eq rfl) (hb hby at_137) (fun _ _ => ⟨rfl, rfl, (Nat.le_of_ble_eq_true rfl), (Nat.le_of_ble_eq_true rfl)⟩)
  dsimp only [Pt.U, Pt.locs, Pt.cells, Pt.slots] at X17 l17 y17 z17 st17 hQ17
  subst l17 y17 z17
  obtain ⟨rfl, N17q, e17⟩ := hQ17
  have N17 := Fr.app N9 N17q
  obtain ⟨cq18, kq18, q18a, q18b, q18c⟩ := isOf hZ e17 Eo9
  obtain ⟨_, _, ⟨T18, L18, k18, n18⟩, -, X18, ⟨Lc18, hQ18, l18, y18, z18⟩, st18⟩ := X17.virtualBack hx (y := (⟨"org/keyward/securitymodel/NumberLists", "size", "(I)I"⟩ : MethodName)) (z := (⟨"org/keyward/securitymodel/NumberLists", "size", "(I)I"⟩ : MethodName)) hown (mvT hZ (hw _ (List.mem_of_getElem? (i := 56) rfl))) (mvT hZ (hw _ (List.mem_of_getElem? (i := 57) rfl))) (notFace_of_selects (args := #[]) (mvT hZ (hw _ (List.mem_of_getElem? (i := 59) rfl)))) (mvT hZ (hw _ (List.mem_of_getElem? (i := 59) rfl))) (mvT hZ (hw _ (List.mem_of_getElem? (i := 58) rfl))) (by decide) (backOf (W := 0) (rm9 l Z a0 hw [] o9 (1 : Int32) sb ks _ ((0 : Int32) + (1 : Int32)) ((0 : Int32) + (1 : Int32)) T9.heap n0 zz9 So9 f16_V_sb (by decide) (by decide) rfl rfl) hZ (hw _ (List.mem_of_getElem? (i := 60) rfl)) (hw _ (List.mem_of_getElem? (i := 35) rfl)) (by decide) (by decide)) q18a q18c (g := (mkF m 150 #[.val (.int p1), .val (.int p2), .val (.int p3), .val (.int p4), .val (.int (0 : Int32)), .val (.int (1 : Int32)), .val (.int (0 : Int32)), .val (.ref bo), .val (.ref o9), .val (.int ((0 : Int32) + (1 : Int32))), .val (.int (0 : Int32)), .unset] [(.int (1 : Int32)), (.ref o9)])) rfl (by rw [hml]; rfl) (Steps.refl _) (argsL := [(.int (1 : Int32))]) (rest := []) (lenOf pd__I_I rfl) rfl (by show 2 * 0 + _ ≤ _; exact Nat.le_of_eq rfl) (hb hby at_150) (fun _ _ => ⟨rfl, e17, (Nat.le_of_ble_eq_true rfl), (Nat.le_of_ble_eq_true rfl)⟩)
  dsimp only [Pt.U, Pt.locs, Pt.cells, Pt.slots] at X18 l18 y18 z18 st18 hQ18
  subst l18 y18 z18
  obtain ⟨rfl, N18q, e18⟩ := hQ18
  have N18 := Fr.app N17 N18q
  obtain ⟨cq19, kq19, q19a, q19b, q19c⟩ := isOf hZ e18 Eo9
  obtain ⟨_, _, ⟨T19, L19, k19, n19⟩, -, X19, ⟨Lc19, hQ19, l19, y19, z19⟩, st19⟩ := X18.virtualBack hx (y := (⟨"org/keyward/securitymodel/NumberLists", "get", "(II)I"⟩ : MethodName)) (z := (⟨"org/keyward/securitymodel/NumberLists", "get", "(II)I"⟩ : MethodName)) hown (mvT hZ (hw _ (List.mem_of_getElem? (i := 61) rfl))) (mvT hZ (hw _ (List.mem_of_getElem? (i := 62) rfl))) (notFace_of_selects (args := #[]) (mvT hZ (hw _ (List.mem_of_getElem? (i := 64) rfl)))) (mvT hZ (hw _ (List.mem_of_getElem? (i := 64) rfl))) (mvT hZ (hw _ (List.mem_of_getElem? (i := 63) rfl))) (by decide) (backOf (W := 0) (rm10 l Z a0 hw [] o9 (0 : Int32) (0 : Int32) sb mb9 ks _ _ _ ((0 : Int32) + (1 : Int32)) (0 : Int32) p2 T9.heap n0 zz9 So9 No9 f16_V_sb Vm9 (by decide) rfl (by decide) rfl) hZ (hw _ (List.mem_of_getElem? (i := 65) rfl)) (hw _ (List.mem_of_getElem? (i := 35) rfl)) (by decide) (by decide)) q19a q19c (g := (mkF m 182 #[.val (.int p1), .val (.int p2), .val (.int p3), .val (.int p4), .val (.int (0 : Int32)), .val (.int (1 : Int32)), .val (.int (0 : Int32)), .val (.ref bo), .val (.ref o9), .val (.int ((0 : Int32) + (1 : Int32))), .val (.int (0 : Int32)), .val (.int p2)] [(.int (0 : Int32)), (.int (0 : Int32)), (.ref o9)])) rfl (by rw [hml]; rfl) (Steps.refl _) (argsL := [(.int (0 : Int32)), (.int (0 : Int32))]) (rest := []) (lenOf pd__II_I rfl) rfl (by show 2 * 0 + _ ≤ _; exact Nat.le_of_eq rfl) (hb hby at_182) (fun _ _ => ⟨rfl, e18, (Nat.le_of_ble_eq_true rfl), (Nat.le_of_ble_eq_true rfl)⟩)
  dsimp only [Pt.U, Pt.locs, Pt.cells, Pt.slots] at X19 l19 y19 z19 st19 hQ19
  subst l19 y19 z19
  obtain ⟨rfl, N19q, e19⟩ := hQ19
  have N19 := Fr.app N18 N19q
  obtain ⟨fs, hr, hrun, hended, hW, hsame⟩ := X19.leave (v := some (.int (1 : Int32))) (fun h => by rw [Bd.returns] at h; cases h)
  refine ⟨_, _, pre0 _ ?_, hrun, hended, _, _, rfl, ?_, ⟨_, rfl⟩, hW, hsame.mono (by decide) (by decide)⟩
  · show Steps p.tables e below (s₁.setTop (mkF m 0 #[.val (.int p1), .val (.int p2), .val (.int p3), .val (.int p4), .unset, .unset, .unset, .unset, .unset, .unset, .unset, .unset] [])) _
    refine XS.iloadN X0.here hx rfl (hb hby at_0) rfl ?_
    show Steps p.tables e below (s₁.setTop (mkF m 1 #[.val (.int p1), .val (.int p2), .val (.int p3), .val (.int p4), .unset, .unset, .unset, .unset, .unset, .unset, .unset, .unset] [(.int p4)])) _
    refine XS.iconst X0.here hx rfl (hb hby at_1) ?_
    show Steps p.tables e below (s₁.setTop (mkF m 2 #[.val (.int p1), .val (.int p2), .val (.int p3), .val (.int p4), .unset, .unset, .unset, .unset, .unset, .unset, .unset, .unset] [(.int (1 : Int32)), (.int p4)])) _
    refine XS.iand X0.here hx rfl (hb hby at_2) rfl ?_
    show Steps p.tables e below (s₁.setTop (mkF m 3 #[.val (.int p1), .val (.int p2), .val (.int p3), .val (.int p4), .unset, .unset, .unset, .unset, .unset, .unset, .unset, .unset] [(.int (p4 &&& (1 : Int32)))])) _
    refine XS.ifYes X0.here hx rfl (pc0 := 3) (pc' := 10) rfl (hb hby at_3) rfl ((if0 _ _).trans (teq hc3).1) (by decide) (by decide) ?_
    show Steps p.tables e below (s₁.setTop (mkF m 10 #[.val (.int p1), .val (.int p2), .val (.int p3), .val (.int p4), .unset, .unset, .unset, .unset, .unset, .unset, .unset, .unset] [])) _
    refine XS.iconst X0.here hx rfl (hb hby at_10) ?_
    show Steps p.tables e below (s₁.setTop (mkF m 11 #[.val (.int p1), .val (.int p2), .val (.int p3), .val (.int p4), .unset, .unset, .unset, .unset, .unset, .unset, .unset, .unset] [(.int (0 : Int32))])) _
    refine XS.istore X0.here hx rfl (hb hby at_11) rfl (l' := #[.val (.int p1), .val (.int p2), .val (.int p3), .val (.int p4), .val (.int (0 : Int32)), .unset, .unset, .unset, .unset, .unset, .unset, .unset]) rfl ?_
    show Steps p.tables e below (s₁.setTop (mkF m 13 #[.val (.int p1), .val (.int p2), .val (.int p3), .val (.int p4), .val (.int (0 : Int32)), .unset, .unset, .unset, .unset, .unset, .unset, .unset] [])) _
    refine XS.iloadN X0.here hx rfl (hb hby at_13) rfl ?_
    show Steps p.tables e below (s₁.setTop (mkF m 14 #[.val (.int p1), .val (.int p2), .val (.int p3), .val (.int p4), .val (.int (0 : Int32)), .unset, .unset, .unset, .unset, .unset, .unset, .unset] [(.int p4)])) _
    refine XS.iconst X0.here hx rfl (hb hby at_14) ?_
    show Steps p.tables e below (s₁.setTop (mkF m 15 #[.val (.int p1), .val (.int p2), .val (.int p3), .val (.int p4), .val (.int (0 : Int32)), .unset, .unset, .unset, .unset, .unset, .unset, .unset] [(.int (2 : Int32)), (.int p4)])) _
    refine XS.iand X0.here hx rfl (hb hby at_15) rfl ?_
    show Steps p.tables e below (s₁.setTop (mkF m 16 #[.val (.int p1), .val (.int p2), .val (.int p3), .val (.int p4), .val (.int (0 : Int32)), .unset, .unset, .unset, .unset, .unset, .unset, .unset] [(.int (p4 &&& (2 : Int32)))])) _
    refine XS.ifNo X0.here hx rfl (hb hby at_16) rfl ((if0 _ _).trans (feq hc16).1) ?_
    show Steps p.tables e below (s₁.setTop (mkF m 19 #[.val (.int p1), .val (.int p2), .val (.int p3), .val (.int p4), .val (.int (0 : Int32)), .unset, .unset, .unset, .unset, .unset, .unset, .unset] [])) _
    refine XS.iconst X0.here hx rfl (hb hby at_19) ?_
    show Steps p.tables e below (s₁.setTop (mkF m 20 #[.val (.int p1), .val (.int p2), .val (.int p3), .val (.int p4), .val (.int (0 : Int32)), .unset, .unset, .unset, .unset, .unset, .unset, .unset] [(.int (1 : Int32))])) _
    refine XS.goto X0.here hx rfl (pc0 := 20) (pc' := 24) rfl (hb hby at_20) (by decide) (by decide) ?_
    show Steps p.tables e below (s₁.setTop (mkF m 24 #[.val (.int p1), .val (.int p2), .val (.int p3), .val (.int p4), .val (.int (0 : Int32)), .unset, .unset, .unset, .unset, .unset, .unset, .unset] [(.int (1 : Int32))])) _
    refine XS.istore X0.here hx rfl (hb hby at_24) rfl (l' := #[.val (.int p1), .val (.int p2), .val (.int p3), .val (.int p4), .val (.int (0 : Int32)), .val (.int (1 : Int32)), .unset, .unset, .unset, .unset, .unset, .unset]) rfl ?_
    show Steps p.tables e below (s₁.setTop (mkF m 26 #[.val (.int p1), .val (.int p2), .val (.int p3), .val (.int p4), .val (.int (0 : Int32)), .val (.int (1 : Int32)), .unset, .unset, .unset, .unset, .unset, .unset] [])) _
    refine XS.iloadN X0.here hx rfl (hb hby at_26) rfl ?_
    show Steps p.tables e below (s₁.setTop (mkF m 27 #[.val (.int p1), .val (.int p2), .val (.int p3), .val (.int p4), .val (.int (0 : Int32)), .val (.int (1 : Int32)), .unset, .unset, .unset, .unset, .unset, .unset] [(.int p4)])) _
    refine XS.iconst X0.here hx rfl (hb hby at_27) ?_
    show Steps p.tables e below (s₁.setTop (mkF m 28 #[.val (.int p1), .val (.int p2), .val (.int p3), .val (.int p4), .val (.int (0 : Int32)), .val (.int (1 : Int32)), .unset, .unset, .unset, .unset, .unset, .unset] [(.int (4 : Int32)), (.int p4)])) _
    refine XS.iand X0.here hx rfl (hb hby at_28) rfl ?_
    show Steps p.tables e below (s₁.setTop (mkF m 29 #[.val (.int p1), .val (.int p2), .val (.int p3), .val (.int p4), .val (.int (0 : Int32)), .val (.int (1 : Int32)), .unset, .unset, .unset, .unset, .unset, .unset] [(.int (p4 &&& (4 : Int32)))])) _
    refine XS.ifYes X0.here hx rfl (pc0 := 29) (pc' := 36) rfl (hb hby at_29) rfl ((if0 _ _).trans (teq hc29).1) (by decide) (by decide) ?_
    show Steps p.tables e below (s₁.setTop (mkF m 36 #[.val (.int p1), .val (.int p2), .val (.int p3), .val (.int p4), .val (.int (0 : Int32)), .val (.int (1 : Int32)), .unset, .unset, .unset, .unset, .unset, .unset] [])) _
    refine XS.iconst X0.here hx rfl (hb hby at_36) ?_
    show Steps p.tables e below (s₁.setTop (mkF m 37 #[.val (.int p1), .val (.int p2), .val (.int p3), .val (.int p4), .val (.int (0 : Int32)), .val (.int (1 : Int32)), .unset, .unset, .unset, .unset, .unset, .unset] [(.int (0 : Int32))])) _
    refine XS.istore X0.here hx rfl (hb hby at_37) rfl (l' := #[.val (.int p1), .val (.int p2), .val (.int p3), .val (.int p4), .val (.int (0 : Int32)), .val (.int (1 : Int32)), .val (.int (0 : Int32)), .unset, .unset, .unset, .unset, .unset]) rfl ?_
    show Steps p.tables e below (s₁.setTop (mkF m 39 #[.val (.int p1), .val (.int p2), .val (.int p3), .val (.int p4), .val (.int (0 : Int32)), .val (.int (1 : Int32)), .val (.int (0 : Int32)), .unset, .unset, .unset, .unset, .unset] [])) _
    refine st1 _ ?_
    show Steps p.tables e below (T1.setTop (mkF m 42 #[.val (.int p1), .val (.int p2), .val (.int p3), .val (.int p4), .val (.int (0 : Int32)), .val (.int (1 : Int32)), .val (.int (0 : Int32)), .unset, .unset, .unset, .unset, .unset] [(.ref bo)])) _
    refine XS.dup X1.here hx rfl (hb hby at_42) rfl rfl ?_
    show Steps p.tables e below (T1.setTop (mkF m 43 #[.val (.int p1), .val (.int p2), .val (.int p3), .val (.int p4), .val (.int (0 : Int32)), .val (.int (1 : Int32)), .val (.int (0 : Int32)), .unset, .unset, .unset, .unset, .unset] [(.ref bo), (.ref bo)])) _
    refine XS.iconst X1.here hx rfl (hb hby at_43) ?_
    show Steps p.tables e below (T1.setTop (mkF m 44 #[.val (.int p1), .val (.int p2), .val (.int p3), .val (.int p4), .val (.int (0 : Int32)), .val (.int (1 : Int32)), .val (.int (0 : Int32)), .unset, .unset, .unset, .unset, .unset] [(.int (2 : Int32)), (.ref bo), (.ref bo)])) _
    refine st2.trans ?_
    show Steps p.tables e below (T2.setTop (mkF m 47 #[.val (.int p1), .val (.int p2), .val (.int p3), .val (.int p4), .val (.int (0 : Int32)), .val (.int (1 : Int32)), .val (.int (0 : Int32)), .unset, .unset, .unset, .unset, .unset] [(.ref bo)])) _
    refine XS.astore X2.here hx rfl (hb hby at_47) rfl rfl (l' := #[.val (.int p1), .val (.int p2), .val (.int p3), .val (.int p4), .val (.int (0 : Int32)), .val (.int (1 : Int32)), .val (.int (0 : Int32)), .val (.ref bo), .unset, .unset, .unset, .unset]) rfl ?_
    show Steps p.tables e below (T2.setTop (mkF m 49 #[.val (.int p1), .val (.int p2), .val (.int p3), .val (.int p4), .val (.int (0 : Int32)), .val (.int (1 : Int32)), .val (.int (0 : Int32)), .val (.ref bo), .unset, .unset, .unset, .unset] [])) _
    refine XS.iload X2.here hx rfl (hb hby at_49) rfl ?_
    show Steps p.tables e below (T2.setTop (mkF m 51 #[.val (.int p1), .val (.int p2), .val (.int p3), .val (.int p4), .val (.int (0 : Int32)), .val (.int (1 : Int32)), .val (.int (0 : Int32)), .val (.ref bo), .unset, .unset, .unset, .unset] [(.int (0 : Int32))])) _
    refine XS.ifYes X2.here hx rfl (pc0 := 51) (pc' := 60) rfl (hb hby at_51) rfl ((if0 _ _).trans (teq (by decide : (0 : Int32) = (0 : Int32))).1) (by decide) (by decide) ?_
    show Steps p.tables e below (T2.setTop (mkF m 60 #[.val (.int p1), .val (.int p2), .val (.int p3), .val (.int p4), .val (.int (0 : Int32)), .val (.int (1 : Int32)), .val (.int (0 : Int32)), .val (.ref bo), .unset, .unset, .unset, .unset] [])) _
    refine XS.iload X2.here hx rfl (hb hby at_60) rfl ?_
    show Steps p.tables e below (T2.setTop (mkF m 62 #[.val (.int p1), .val (.int p2), .val (.int p3), .val (.int p4), .val (.int (0 : Int32)), .val (.int (1 : Int32)), .val (.int (0 : Int32)), .val (.ref bo), .unset, .unset, .unset, .unset] [(.int (1 : Int32))])) _
    refine XS.ifNo X2.here hx rfl (hb hby at_62) rfl ((if0 _ _).trans (feq (by decide : ¬ ((1 : Int32) = (0 : Int32)))).1) ?_
    show Steps p.tables e below (T2.setTop (mkF m 65 #[.val (.int p1), .val (.int p2), .val (.int p3), .val (.int p4), .val (.int (0 : Int32)), .val (.int (1 : Int32)), .val (.int (0 : Int32)), .val (.ref bo), .unset, .unset, .unset, .unset] [])) _
    refine XS.aload X2.here hx rfl (hb hby at_65) rfl rfl ?_
    show Steps p.tables e below (T2.setTop (mkF m 67 #[.val (.int p1), .val (.int p2), .val (.int p3), .val (.int p4), .val (.int (0 : Int32)), .val (.int (1 : Int32)), .val (.int (0 : Int32)), .val (.ref bo), .unset, .unset, .unset, .unset] [(.ref bo)])) _
    refine XS.iloadN X2.here hx rfl (hb hby at_67) rfl ?_
    show Steps p.tables e below (T2.setTop (mkF m 68 #[.val (.int p1), .val (.int p2), .val (.int p3), .val (.int p4), .val (.int (0 : Int32)), .val (.int (1 : Int32)), .val (.int (0 : Int32)), .val (.ref bo), .unset, .unset, .unset, .unset] [(.int p2), (.ref bo)])) _
    refine st3.trans ?_
    show Steps p.tables e below (T3.setTop (mkF m 71 #[.val (.int p1), .val (.int p2), .val (.int p3), .val (.int p4), .val (.int (0 : Int32)), .val (.int (1 : Int32)), .val (.int (0 : Int32)), .val (.ref bo), .unset, .unset, .unset, .unset] [])) _
    refine XS.aload X3.here hx rfl (hb hby at_71) rfl rfl ?_
    show Steps p.tables e below (T3.setTop (mkF m 73 #[.val (.int p1), .val (.int p2), .val (.int p3), .val (.int p4), .val (.int (0 : Int32)), .val (.int (1 : Int32)), .val (.int (0 : Int32)), .val (.ref bo), .unset, .unset, .unset, .unset] [(.ref bo)])) _
    refine st5.trans ?_
    show Steps p.tables e below (T5.setTop (mkF m 76 #[.val (.int p1), .val (.int p2), .val (.int p3), .val (.int p4), .val (.int (0 : Int32)), .val (.int (1 : Int32)), .val (.int (0 : Int32)), .val (.ref bo), .unset, .unset, .unset, .unset] [])) _
    refine XS.iload X5.here hx rfl (hb hby at_76) rfl ?_
    show Steps p.tables e below (T5.setTop (mkF m 78 #[.val (.int p1), .val (.int p2), .val (.int p3), .val (.int p4), .val (.int (0 : Int32)), .val (.int (1 : Int32)), .val (.int (0 : Int32)), .val (.ref bo), .unset, .unset, .unset, .unset] [(.int (0 : Int32))])) _
    refine XS.ifYes X5.here hx rfl (pc0 := 78) (pc' := 87) rfl (hb hby at_78) rfl ((if0 _ _).trans (teq (by decide : (0 : Int32) = (0 : Int32))).1) (by decide) (by decide) ?_
    show Steps p.tables e below (T5.setTop (mkF m 87 #[.val (.int p1), .val (.int p2), .val (.int p3), .val (.int p4), .val (.int (0 : Int32)), .val (.int (1 : Int32)), .val (.int (0 : Int32)), .val (.ref bo), .unset, .unset, .unset, .unset] [])) _
    refine XS.aload X5.here hx rfl (hb hby at_87) rfl rfl ?_
    show Steps p.tables e below (T5.setTop (mkF m 89 #[.val (.int p1), .val (.int p2), .val (.int p3), .val (.int p4), .val (.int (0 : Int32)), .val (.int (1 : Int32)), .val (.int (0 : Int32)), .val (.ref bo), .unset, .unset, .unset, .unset] [(.ref bo)])) _
    refine st7.trans ?_
    show Steps p.tables e below (T7.setTop (mkF m 92 #[.val (.int p1), .val (.int p2), .val (.int p3), .val (.int p4), .val (.int (0 : Int32)), .val (.int (1 : Int32)), .val (.int (0 : Int32)), .val (.ref bo), .unset, .unset, .unset, .unset] [])) _
    refine XS.aload X7.here hx rfl (hb hby at_92) rfl rfl ?_
    show Steps p.tables e below (T7.setTop (mkF m 94 #[.val (.int p1), .val (.int p2), .val (.int p3), .val (.int p4), .val (.int (0 : Int32)), .val (.int (1 : Int32)), .val (.int (0 : Int32)), .val (.ref bo), .unset, .unset, .unset, .unset] [(.ref bo)])) _
    refine st9.trans ?_
    show Steps p.tables e below (T9.setTop (mkF m 97 #[.val (.int p1), .val (.int p2), .val (.int p3), .val (.int p4), .val (.int (0 : Int32)), .val (.int (1 : Int32)), .val (.int (0 : Int32)), .val (.ref bo), .unset, .unset, .unset, .unset] [(.ref o9)])) _
    refine XS.astore X9.here hx rfl (hb hby at_97) rfl rfl (l' := #[.val (.int p1), .val (.int p2), .val (.int p3), .val (.int p4), .val (.int (0 : Int32)), .val (.int (1 : Int32)), .val (.int (0 : Int32)), .val (.ref bo), .val (.ref o9), .unset, .unset, .unset]) rfl ?_
    show Steps p.tables e below (T9.setTop (mkF m 99 #[.val (.int p1), .val (.int p2), .val (.int p3), .val (.int p4), .val (.int (0 : Int32)), .val (.int (1 : Int32)), .val (.int (0 : Int32)), .val (.ref bo), .val (.ref o9), .unset, .unset, .unset] [])) _
    refine XS.iload X9.here hx rfl (hb hby at_99) rfl ?_
    show Steps p.tables e below (T9.setTop (mkF m 101 #[.val (.int p1), .val (.int p2), .val (.int p3), .val (.int p4), .val (.int (0 : Int32)), .val (.int (1 : Int32)), .val (.int (0 : Int32)), .val (.ref bo), .val (.ref o9), .unset, .unset, .unset] [(.int (0 : Int32))])) _
    refine XS.ifYes X9.here hx rfl (pc0 := 101) (pc' := 108) rfl (hb hby at_101) rfl ((if0 _ _).trans (teq (by decide : (0 : Int32) = (0 : Int32))).1) (by decide) (by decide) ?_
    show Steps p.tables e below (T9.setTop (mkF m 108 #[.val (.int p1), .val (.int p2), .val (.int p3), .val (.int p4), .val (.int (0 : Int32)), .val (.int (1 : Int32)), .val (.int (0 : Int32)), .val (.ref bo), .val (.ref o9), .unset, .unset, .unset] [])) _
    refine XS.iconst X9.here hx rfl (hb hby at_108) ?_
    show Steps p.tables e below (T9.setTop (mkF m 109 #[.val (.int p1), .val (.int p2), .val (.int p3), .val (.int p4), .val (.int (0 : Int32)), .val (.int (1 : Int32)), .val (.int (0 : Int32)), .val (.ref bo), .val (.ref o9), .unset, .unset, .unset] [(.int (0 : Int32))])) _
    refine XS.iload X9.here hx rfl (hb hby at_109) rfl ?_
    show Steps p.tables e below (T9.setTop (mkF m 111 #[.val (.int p1), .val (.int p2), .val (.int p3), .val (.int p4), .val (.int (0 : Int32)), .val (.int (1 : Int32)), .val (.int (0 : Int32)), .val (.ref bo), .val (.ref o9), .unset, .unset, .unset] [(.int (1 : Int32)), (.int (0 : Int32))])) _
    refine XS.ifNo X9.here hx rfl (hb hby at_111) rfl ((if0 _ _).trans (feq (by decide : ¬ ((1 : Int32) = (0 : Int32)))).1) ?_
    show Steps p.tables e below (T9.setTop (mkF m 114 #[.val (.int p1), .val (.int p2), .val (.int p3), .val (.int p4), .val (.int (0 : Int32)), .val (.int (1 : Int32)), .val (.int (0 : Int32)), .val (.ref bo), .val (.ref o9), .unset, .unset, .unset] [(.int (0 : Int32))])) _
    refine XS.iconst X9.here hx rfl (hb hby at_114) ?_
    show Steps p.tables e below (T9.setTop (mkF m 115 #[.val (.int p1), .val (.int p2), .val (.int p3), .val (.int p4), .val (.int (0 : Int32)), .val (.int (1 : Int32)), .val (.int (0 : Int32)), .val (.ref bo), .val (.ref o9), .unset, .unset, .unset] [(.int (1 : Int32)), (.int (0 : Int32))])) _
    refine XS.goto X9.here hx rfl (pc0 := 115) (pc' := 119) rfl (hb hby at_115) (by decide) (by decide) ?_
    show Steps p.tables e below (T9.setTop (mkF m 119 #[.val (.int p1), .val (.int p2), .val (.int p3), .val (.int p4), .val (.int (0 : Int32)), .val (.int (1 : Int32)), .val (.int (0 : Int32)), .val (.ref bo), .val (.ref o9), .unset, .unset, .unset] [(.int (1 : Int32)), (.int (0 : Int32))])) _
    refine XS.iadd X9.here hx rfl (hb hby at_119) rfl ?_
    show Steps p.tables e below (T9.setTop (mkF m 120 #[.val (.int p1), .val (.int p2), .val (.int p3), .val (.int p4), .val (.int (0 : Int32)), .val (.int (1 : Int32)), .val (.int (0 : Int32)), .val (.ref bo), .val (.ref o9), .unset, .unset, .unset] [(.int ((0 : Int32) + (1 : Int32)))])) _
    refine XS.istore X9.here hx rfl (hb hby at_120) rfl (l' := #[.val (.int p1), .val (.int p2), .val (.int p3), .val (.int p4), .val (.int (0 : Int32)), .val (.int (1 : Int32)), .val (.int (0 : Int32)), .val (.ref bo), .val (.ref o9), .val (.int ((0 : Int32) + (1 : Int32))), .unset, .unset]) rfl ?_
    show Steps p.tables e below (T9.setTop (mkF m 122 #[.val (.int p1), .val (.int p2), .val (.int p3), .val (.int p4), .val (.int (0 : Int32)), .val (.int (1 : Int32)), .val (.int (0 : Int32)), .val (.ref bo), .val (.ref o9), .val (.int ((0 : Int32) + (1 : Int32))), .unset, .unset] [])) _
    refine XS.iload X9.here hx rfl (hb hby at_122) rfl ?_
    show Steps p.tables e below (T9.setTop (mkF m 124 #[.val (.int p1), .val (.int p2), .val (.int p3), .val (.int p4), .val (.int (0 : Int32)), .val (.int (1 : Int32)), .val (.int (0 : Int32)), .val (.ref bo), .val (.ref o9), .val (.int ((0 : Int32) + (1 : Int32))), .unset, .unset] [(.int (0 : Int32))])) _
    refine XS.ifYes X9.here hx rfl (pc0 := 124) (pc' := 131) rfl (hb hby at_124) rfl ((if0 _ _).trans (teq (by decide : (0 : Int32) = (0 : Int32))).1) (by decide) (by decide) ?_
    show Steps p.tables e below (T9.setTop (mkF m 131 #[.val (.int p1), .val (.int p2), .val (.int p3), .val (.int p4), .val (.int (0 : Int32)), .val (.int (1 : Int32)), .val (.int (0 : Int32)), .val (.ref bo), .val (.ref o9), .val (.int ((0 : Int32) + (1 : Int32))), .unset, .unset] [])) _
    refine XS.iconst X9.here hx rfl (hb hby at_131) ?_
    show Steps p.tables e below (T9.setTop (mkF m 132 #[.val (.int p1), .val (.int p2), .val (.int p3), .val (.int p4), .val (.int (0 : Int32)), .val (.int (1 : Int32)), .val (.int (0 : Int32)), .val (.ref bo), .val (.ref o9), .val (.int ((0 : Int32) + (1 : Int32))), .unset, .unset] [(.int (0 : Int32))])) _
    refine XS.istore X9.here hx rfl (hb hby at_132) rfl (l' := #[.val (.int p1), .val (.int p2), .val (.int p3), .val (.int p4), .val (.int (0 : Int32)), .val (.int (1 : Int32)), .val (.int (0 : Int32)), .val (.ref bo), .val (.ref o9), .val (.int ((0 : Int32) + (1 : Int32))), .val (.int (0 : Int32)), .unset]) rfl ?_
    show Steps p.tables e below (T9.setTop (mkF m 134 #[.val (.int p1), .val (.int p2), .val (.int p3), .val (.int p4), .val (.int (0 : Int32)), .val (.int (1 : Int32)), .val (.int (0 : Int32)), .val (.ref bo), .val (.ref o9), .val (.int ((0 : Int32) + (1 : Int32))), .val (.int (0 : Int32)), .unset] [])) _
    refine XS.aload X9.here hx rfl (hb hby at_134) rfl rfl ?_
    show Steps p.tables e below (T9.setTop (mkF m 136 #[.val (.int p1), .val (.int p2), .val (.int p3), .val (.int p4), .val (.int (0 : Int32)), .val (.int (1 : Int32)), .val (.int (0 : Int32)), .val (.ref bo), .val (.ref o9), .val (.int ((0 : Int32) + (1 : Int32))), .val (.int (0 : Int32)), .unset] [(.ref o9)])) _
    refine XS.iconst X9.here hx rfl (hb hby at_136) ?_
    show Steps p.tables e below (T9.setTop (mkF m 137 #[.val (.int p1), .val (.int p2), .val (.int p3), .val (.int p4), .val (.int (0 : Int32)), .val (.int (1 : Int32)), .val (.int (0 : Int32)), .val (.ref bo), .val (.ref o9), .val (.int ((0 : Int32) + (1 : Int32))), .val (.int (0 : Int32)), .unset] [(.int (0 : Int32)), (.ref o9)])) _
    refine st17.trans ?_
    show Steps p.tables e below (T17.setTop (mkF m 140 #[.val (.int p1), .val (.int p2), .val (.int p3), .val (.int p4), .val (.int (0 : Int32)), .val (.int (1 : Int32)), .val (.int (0 : Int32)), .val (.ref bo), .val (.ref o9), .val (.int ((0 : Int32) + (1 : Int32))), .val (.int (0 : Int32)), .unset] [(.int (((0 : Int32) + (1 : Int32)) - (0 : Int32)))])) _
    refine XS.iload X17.here hx rfl (hb hby at_140) rfl ?_
    show Steps p.tables e below (T17.setTop (mkF m 142 #[.val (.int p1), .val (.int p2), .val (.int p3), .val (.int p4), .val (.int (0 : Int32)), .val (.int (1 : Int32)), .val (.int (0 : Int32)), .val (.ref bo), .val (.ref o9), .val (.int ((0 : Int32) + (1 : Int32))), .val (.int (0 : Int32)), .unset] [(.int ((0 : Int32) + (1 : Int32))), (.int (((0 : Int32) + (1 : Int32)) - (0 : Int32)))])) _
    refine XS.icmpYes X17.here hx rfl (pc0 := 142) (pc' := 147) rfl (hb hby at_142) rfl (teq (by decide : (((0 : Int32) + (1 : Int32)) - (0 : Int32)) = ((0 : Int32) + (1 : Int32)))).1 (by decide) (by decide) ?_
    show Steps p.tables e below (T17.setTop (mkF m 147 #[.val (.int p1), .val (.int p2), .val (.int p3), .val (.int p4), .val (.int (0 : Int32)), .val (.int (1 : Int32)), .val (.int (0 : Int32)), .val (.ref bo), .val (.ref o9), .val (.int ((0 : Int32) + (1 : Int32))), .val (.int (0 : Int32)), .unset] [])) _
    refine XS.aload X17.here hx rfl (hb hby at_147) rfl rfl ?_
    show Steps p.tables e below (T17.setTop (mkF m 149 #[.val (.int p1), .val (.int p2), .val (.int p3), .val (.int p4), .val (.int (0 : Int32)), .val (.int (1 : Int32)), .val (.int (0 : Int32)), .val (.ref bo), .val (.ref o9), .val (.int ((0 : Int32) + (1 : Int32))), .val (.int (0 : Int32)), .unset] [(.ref o9)])) _
    refine XS.iconst X17.here hx rfl (hb hby at_149) ?_
    show Steps p.tables e below (T17.setTop (mkF m 150 #[.val (.int p1), .val (.int p2), .val (.int p3), .val (.int p4), .val (.int (0 : Int32)), .val (.int (1 : Int32)), .val (.int (0 : Int32)), .val (.ref bo), .val (.ref o9), .val (.int ((0 : Int32) + (1 : Int32))), .val (.int (0 : Int32)), .unset] [(.int (1 : Int32)), (.ref o9)])) _
    refine st18.trans ?_
    show Steps p.tables e below (T18.setTop (mkF m 153 #[.val (.int p1), .val (.int p2), .val (.int p3), .val (.int p4), .val (.int (0 : Int32)), .val (.int (1 : Int32)), .val (.int (0 : Int32)), .val (.ref bo), .val (.ref o9), .val (.int ((0 : Int32) + (1 : Int32))), .val (.int (0 : Int32)), .unset] [(.int (((0 : Int32) + (1 : Int32)) - ((0 : Int32) + (1 : Int32))))])) _
    refine XS.iload X18.here hx rfl (hb hby at_153) rfl ?_
    show Steps p.tables e below (T18.setTop (mkF m 155 #[.val (.int p1), .val (.int p2), .val (.int p3), .val (.int p4), .val (.int (0 : Int32)), .val (.int (1 : Int32)), .val (.int (0 : Int32)), .val (.ref bo), .val (.ref o9), .val (.int ((0 : Int32) + (1 : Int32))), .val (.int (0 : Int32)), .unset] [(.int (0 : Int32)), (.int (((0 : Int32) + (1 : Int32)) - ((0 : Int32) + (1 : Int32))))])) _
    refine XS.icmpYes X18.here hx rfl (pc0 := 155) (pc' := 160) rfl (hb hby at_155) rfl (teq (by decide : (((0 : Int32) + (1 : Int32)) - ((0 : Int32) + (1 : Int32))) = (0 : Int32))).1 (by decide) (by decide) ?_
    show Steps p.tables e below (T18.setTop (mkF m 160 #[.val (.int p1), .val (.int p2), .val (.int p3), .val (.int p4), .val (.int (0 : Int32)), .val (.int (1 : Int32)), .val (.int (0 : Int32)), .val (.ref bo), .val (.ref o9), .val (.int ((0 : Int32) + (1 : Int32))), .val (.int (0 : Int32)), .unset] [])) _
    refine XS.iload X18.here hx rfl (hb hby at_160) rfl ?_
    show Steps p.tables e below (T18.setTop (mkF m 162 #[.val (.int p1), .val (.int p2), .val (.int p3), .val (.int p4), .val (.int (0 : Int32)), .val (.int (1 : Int32)), .val (.int (0 : Int32)), .val (.ref bo), .val (.ref o9), .val (.int ((0 : Int32) + (1 : Int32))), .val (.int (0 : Int32)), .unset] [(.int ((0 : Int32) + (1 : Int32)))])) _
    refine XS.iconst X18.here hx rfl (hb hby at_162) ?_
    show Steps p.tables e below (T18.setTop (mkF m 163 #[.val (.int p1), .val (.int p2), .val (.int p3), .val (.int p4), .val (.int (0 : Int32)), .val (.int (1 : Int32)), .val (.int (0 : Int32)), .val (.ref bo), .val (.ref o9), .val (.int ((0 : Int32) + (1 : Int32))), .val (.int (0 : Int32)), .unset] [(.int (1 : Int32)), (.int ((0 : Int32) + (1 : Int32)))])) _
    refine XS.icmpNo X18.here hx rfl (hb hby at_163) rfl (flt (by decide : ¬ (((0 : Int32) + (1 : Int32)) < (1 : Int32)))).1 ?_
    show Steps p.tables e below (T18.setTop (mkF m 166 #[.val (.int p1), .val (.int p2), .val (.int p3), .val (.int p4), .val (.int (0 : Int32)), .val (.int (1 : Int32)), .val (.int (0 : Int32)), .val (.ref bo), .val (.ref o9), .val (.int ((0 : Int32) + (1 : Int32))), .val (.int (0 : Int32)), .unset] [])) _
    refine XS.iload X18.here hx rfl (hb hby at_166) rfl ?_
    show Steps p.tables e below (T18.setTop (mkF m 168 #[.val (.int p1), .val (.int p2), .val (.int p3), .val (.int p4), .val (.int (0 : Int32)), .val (.int (1 : Int32)), .val (.int (0 : Int32)), .val (.ref bo), .val (.ref o9), .val (.int ((0 : Int32) + (1 : Int32))), .val (.int (0 : Int32)), .unset] [(.int (0 : Int32))])) _
    refine XS.ifYes X18.here hx rfl (pc0 := 168) (pc' := 175) rfl (hb hby at_168) rfl ((if0 _ _).trans (teq (by decide : (0 : Int32) = (0 : Int32))).1) (by decide) (by decide) ?_
    show Steps p.tables e below (T18.setTop (mkF m 175 #[.val (.int p1), .val (.int p2), .val (.int p3), .val (.int p4), .val (.int (0 : Int32)), .val (.int (1 : Int32)), .val (.int (0 : Int32)), .val (.ref bo), .val (.ref o9), .val (.int ((0 : Int32) + (1 : Int32))), .val (.int (0 : Int32)), .unset] [])) _
    refine XS.iloadN X18.here hx rfl (hb hby at_175) rfl ?_
    show Steps p.tables e below (T18.setTop (mkF m 176 #[.val (.int p1), .val (.int p2), .val (.int p3), .val (.int p4), .val (.int (0 : Int32)), .val (.int (1 : Int32)), .val (.int (0 : Int32)), .val (.ref bo), .val (.ref o9), .val (.int ((0 : Int32) + (1 : Int32))), .val (.int (0 : Int32)), .unset] [(.int p2)])) _
    refine XS.istore X18.here hx rfl (hb hby at_176) rfl (l' := #[.val (.int p1), .val (.int p2), .val (.int p3), .val (.int p4), .val (.int (0 : Int32)), .val (.int (1 : Int32)), .val (.int (0 : Int32)), .val (.ref bo), .val (.ref o9), .val (.int ((0 : Int32) + (1 : Int32))), .val (.int (0 : Int32)), .val (.int p2)]) rfl ?_
    show Steps p.tables e below (T18.setTop (mkF m 178 #[.val (.int p1), .val (.int p2), .val (.int p3), .val (.int p4), .val (.int (0 : Int32)), .val (.int (1 : Int32)), .val (.int (0 : Int32)), .val (.ref bo), .val (.ref o9), .val (.int ((0 : Int32) + (1 : Int32))), .val (.int (0 : Int32)), .val (.int p2)] [])) _
    refine XS.aload X18.here hx rfl (hb hby at_178) rfl rfl ?_
    show Steps p.tables e below (T18.setTop (mkF m 180 #[.val (.int p1), .val (.int p2), .val (.int p3), .val (.int p4), .val (.int (0 : Int32)), .val (.int (1 : Int32)), .val (.int (0 : Int32)), .val (.ref bo), .val (.ref o9), .val (.int ((0 : Int32) + (1 : Int32))), .val (.int (0 : Int32)), .val (.int p2)] [(.ref o9)])) _
    refine XS.iconst X18.here hx rfl (hb hby at_180) ?_
    show Steps p.tables e below (T18.setTop (mkF m 181 #[.val (.int p1), .val (.int p2), .val (.int p3), .val (.int p4), .val (.int (0 : Int32)), .val (.int (1 : Int32)), .val (.int (0 : Int32)), .val (.ref bo), .val (.ref o9), .val (.int ((0 : Int32) + (1 : Int32))), .val (.int (0 : Int32)), .val (.int p2)] [(.int (0 : Int32)), (.ref o9)])) _
    refine XS.iconst X18.here hx rfl (hb hby at_181) ?_
    show Steps p.tables e below (T18.setTop (mkF m 182 #[.val (.int p1), .val (.int p2), .val (.int p3), .val (.int p4), .val (.int (0 : Int32)), .val (.int (1 : Int32)), .val (.int (0 : Int32)), .val (.ref bo), .val (.ref o9), .val (.int ((0 : Int32) + (1 : Int32))), .val (.int (0 : Int32)), .val (.int p2)] [(.int (0 : Int32)), (.int (0 : Int32)), (.ref o9)])) _
    refine st19.trans ?_
    show Steps p.tables e below (T19.setTop (mkF m 185 #[.val (.int p1), .val (.int p2), .val (.int p3), .val (.int p4), .val (.int (0 : Int32)), .val (.int (1 : Int32)), .val (.int (0 : Int32)), .val (.ref bo), .val (.ref o9), .val (.int ((0 : Int32) + (1 : Int32))), .val (.int (0 : Int32)), .val (.int p2)] [(.int p2)])) _
    refine XS.iload X19.here hx rfl (hb hby at_185) rfl ?_
    show Steps p.tables e below (T19.setTop (mkF m 187 #[.val (.int p1), .val (.int p2), .val (.int p3), .val (.int p4), .val (.int (0 : Int32)), .val (.int (1 : Int32)), .val (.int (0 : Int32)), .val (.ref bo), .val (.ref o9), .val (.int ((0 : Int32) + (1 : Int32))), .val (.int (0 : Int32)), .val (.int p2)] [(.int p2), (.int p2)])) _
    refine XS.icmpYes X19.here hx rfl (pc0 := 187) (pc' := 192) rfl (hb hby at_187) rfl (teq (rfl : p2 = p2)).1 (by decide) (by decide) ?_
    show Steps p.tables e below (T19.setTop (mkF m 192 #[.val (.int p1), .val (.int p2), .val (.int p3), .val (.int p4), .val (.int (0 : Int32)), .val (.int (1 : Int32)), .val (.int (0 : Int32)), .val (.ref bo), .val (.ref o9), .val (.int ((0 : Int32) + (1 : Int32))), .val (.int (0 : Int32)), .val (.int p2)] [])) _
    refine XS.iload X19.here hx rfl (hb hby at_192) rfl ?_
    show Steps p.tables e below (T19.setTop (mkF m 194 #[.val (.int p1), .val (.int p2), .val (.int p3), .val (.int p4), .val (.int (0 : Int32)), .val (.int (1 : Int32)), .val (.int (0 : Int32)), .val (.ref bo), .val (.ref o9), .val (.int ((0 : Int32) + (1 : Int32))), .val (.int (0 : Int32)), .val (.int p2)] [(.int ((0 : Int32) + (1 : Int32)))])) _
    refine XS.iconst X19.here hx rfl (hb hby at_194) ?_
    show Steps p.tables e below (T19.setTop (mkF m 195 #[.val (.int p1), .val (.int p2), .val (.int p3), .val (.int p4), .val (.int (0 : Int32)), .val (.int (1 : Int32)), .val (.int (0 : Int32)), .val (.ref bo), .val (.ref o9), .val (.int ((0 : Int32) + (1 : Int32))), .val (.int (0 : Int32)), .val (.int p2)] [(.int (2 : Int32)), (.int ((0 : Int32) + (1 : Int32)))])) _
    refine XS.icmpYes X19.here hx rfl (pc0 := 195) (pc' := 211) rfl (hb hby at_195) rfl (feq (by decide : ¬ (((0 : Int32) + (1 : Int32)) = (2 : Int32)))).2 (by decide) (by decide) ?_
    show Steps p.tables e below (T19.setTop (mkF m 211 #[.val (.int p1), .val (.int p2), .val (.int p3), .val (.int p4), .val (.int (0 : Int32)), .val (.int (1 : Int32)), .val (.int (0 : Int32)), .val (.ref bo), .val (.ref o9), .val (.int ((0 : Int32) + (1 : Int32))), .val (.int (0 : Int32)), .val (.int p2)] [])) _
    refine XS.iload X19.here hx rfl (hb hby at_211) rfl ?_
    show Steps p.tables e below (T19.setTop (mkF m 213 #[.val (.int p1), .val (.int p2), .val (.int p3), .val (.int p4), .val (.int (0 : Int32)), .val (.int (1 : Int32)), .val (.int (0 : Int32)), .val (.ref bo), .val (.ref o9), .val (.int ((0 : Int32) + (1 : Int32))), .val (.int (0 : Int32)), .val (.int p2)] [(.int (0 : Int32))])) _
    refine XS.iconst X19.here hx rfl (hb hby at_213) ?_
    show Steps p.tables e below (T19.setTop (mkF m 214 #[.val (.int p1), .val (.int p2), .val (.int p3), .val (.int p4), .val (.int (0 : Int32)), .val (.int (1 : Int32)), .val (.int (0 : Int32)), .val (.ref bo), .val (.ref o9), .val (.int ((0 : Int32) + (1 : Int32))), .val (.int (0 : Int32)), .val (.int p2)] [(.int (1 : Int32)), (.int (0 : Int32))])) _
    refine XS.icmpYes X19.here hx rfl (pc0 := 214) (pc' := 230) rfl (hb hby at_214) rfl (feq (by decide : ¬ ((0 : Int32) = (1 : Int32)))).2 (by decide) (by decide) ?_
    show Steps p.tables e below (T19.setTop (mkF m 230 #[.val (.int p1), .val (.int p2), .val (.int p3), .val (.int p4), .val (.int (0 : Int32)), .val (.int (1 : Int32)), .val (.int (0 : Int32)), .val (.ref bo), .val (.ref o9), .val (.int ((0 : Int32) + (1 : Int32))), .val (.int (0 : Int32)), .val (.int p2)] [])) _
    refine XS.iconst X19.here hx rfl (hb hby at_230) ?_
    show Steps p.tables e below (T19.setTop (mkF m 231 #[.val (.int p1), .val (.int p2), .val (.int p3), .val (.int p4), .val (.int (0 : Int32)), .val (.int (1 : Int32)), .val (.int (0 : Int32)), .val (.ref bo), .val (.ref o9), .val (.int ((0 : Int32) + (1 : Int32))), .val (.int (0 : Int32)), .val (.int p2)] [(.int (1 : Int32))])) _
    exact retN X19 hx (t := .boolean) Bd.returns (by simp) (hb hby at_231) hr
  · show Q0 n0 _ _ _
    exact ⟨rfl, N19⟩
set_option maxRecDepth 65536 in
set_option maxHeartbeats 40000000 in
theorem rm0_011 (l : Launch) (Z : State) (a0 : Array Value) (hw : ∀ d ∈ tables_1, d.before a0 Z = true) (ws : List Jvm.Cond) (p1 p2 p3 p4 : Int32) (h0 : Heap) (n0 : Nat) (Z0 : n0 ≤ h0.size)  (hc3 : (p4 &&& (1 : Int32)) = (0 : Int32)) (hc16 : ¬ ((p4 &&& (2 : Int32)) = (0 : Int32))) (hc29 : ¬ ((p4 &&& (4 : Int32)) = (0 : Int32))) :
    MetFree l x (head1 (Jvm.Cond.code x code maxLocals ret :: ws) room_1) (fun a U => a = #[(.int p1), (.int p2), (.int p3), (.int p4)] ∧ Z.Warmed39 U.vm ∧ U.heap = h0) (fun _ _ _ _ _ => True) (fun _ U o U' => ∃ v L, o = .returned v ∧ Q0 n0 v U'.heap L ∧ FrameEnd U o U' L room_1.cells room_1.slots) := by
  refine MetFree.of_bodySF (plainFor_of_name pn_org_keyward_securitymodel_BuilderEndPinLaw) hisR ?_
  intro p e s m args below meth cd s₁ Bd hml0 hPre hKc
  obtain ⟨rfl, hZ, hHp⟩ := hPre
  have hx := Bd.exec
  have hby := Bd.bytes
  have hml : cd.maxLocals = 12 := hml0
  have hown : s.vm.findClass "org/keyward/securitymodel/BuilderEndPinLaw" = some m.cls := findClass_of_methodNamed Bd.named
  have hnm := (name_of_methodNamed Bd.named Bd.method).1
  have X0 : Stand p l e room_1 s m #[(.int p1), (.int p2), (.int p3), (.int p4)] below meth cd s₁ [] 0 0 := Stand.of_body Bd
  have e0 : s₁.heap = h0 := by rw [← hHp, Bd.state]; rfl
  have N0 := Fr.nil n0
  have pre0 : ∀ t, Steps p.tables e below (s₁.setTop (mkF m 0 #[.val (.int p1), .val (.int p2), .val (.int p3), .val (.int p4), .unset, .unset, .unset, .unset, .unset, .unset, .unset, .unset] [])) t → Steps p.tables e below (s₁.setTop (entryFrame m #[(.int p1), (.int p2), (.int p3), (.int p4)] maxLocals)) t := fun t k => castTop (ef_0 m p1 p2 p3 p4) k
  obtain ⟨T1, h1, X1, e1, E1, A1, D1, -, st1⟩ := newO X0 hx hZ hown (hw _ (List.mem_of_getElem? (i := 0) rfl)) (hw _ (List.mem_of_getElem? (i := 1) rfl)) (hw _ (List.mem_of_getElem? (i := 2) rfl)) e0 (g := (mkF m 39 #[.val (.int p1), .val (.int p2), .val (.int p3), .val (.int p4), .val (.int (0 : Int32)), .val (.int (1 : Int32)), .val (.int (1 : Int32)), .unset, .unset, .unset, .unset, .unset] [])) rfl (hb hby at_39) (Nat.le_of_ble_eq_true rfl) (Nat.le_of_ble_eq_true rfl)
  obtain ⟨bo, g1⟩ : ∃ z, z = h0.size := ⟨_, rfl⟩
  rw [← g1] at A1 D1 st1
  have g_bo : n0 ≤ bo := Nat.le_trans Z0 (Nat.le_of_eq g1.symm)
  have z1 : n0 ≤ h1.size := Nat.le_trans Z0 E1.1
  have F_numbers_bo : Fld Z h1 bo "org/keyward/securitymodel/NumberLists$Builder" "numbers" "[I" .null := D1 (Or.inl (hw _ (List.mem_of_getElem? (i := 11) rfl))) (ty := (.array .int)) (by decide)
  have F_starts_bo : Fld Z h1 bo "org/keyward/securitymodel/NumberLists$Builder" "starts" "[I" .null := D1 (Or.inr (hw _ (List.mem_of_getElem? (i := 13) rfl))) (ty := (.array .int)) (by decide)
  have F_count_bo : Fld Z h1 bo "org/keyward/securitymodel/NumberLists$Builder" "count" "I" (.int (0 : Int32)) := D1 (Or.inl (hw _ (List.mem_of_getElem? (i := 20) rfl))) (ty := .int) (by decide)
  have F_listed_bo : Fld Z h1 bo "org/keyward/securitymodel/NumberLists$Builder" "listed" "I" (.int (0 : Int32)) := D1 (Or.inl (hw _ (List.mem_of_getElem? (i := 27) rfl))) (ty := .int) (by decide)
  obtain ⟨_, _, ⟨T2, L2, k2, n2⟩, -, X2, ⟨Lc2, hQ2, l2, y2, z2⟩, st2⟩ := X1.specialBack hx (y := (⟨"org/keyward/securitymodel/NumberLists$Builder", "<init>", "(I)V"⟩ : MethodName)) rfl hown (mvT hZ (hw _ (List.mem_of_getElem? (i := 3) rfl))) (mvT hZ (hw _ (List.mem_of_getElem? (i := 4) rfl))) (mvT hZ (hw _ (List.mem_of_getElem? (i := 5) rfl))) (by decide) (backOf (W := 1) (rm1 l Z a0 hw [] bo _ _ h1 n0 z1 A1 g_bo F_numbers_bo F_starts_bo F_count_bo F_listed_bo) hZ (hw _ (List.mem_of_getElem? (i := 5) rfl)) (hw _ (List.mem_of_getElem? (i := 2) rfl)) (by decide) (by decide)) (g := (mkF m 44 #[.val (.int p1), .val (.int p2), .val (.int p3), .val (.int p4), .val (.int (0 : Int32)), .val (.int (1 : Int32)), .val (.int (1 : Int32)), .unset, .unset, .unset, .unset, .unset] [(.int (2 : Int32)), (.ref bo), (.ref bo)])) rfl (by rw [hml]; rfl) (Steps.refl _) (a := bo) (argsL := [(.int (2 : Int32))]) (rest := [(.ref bo)]) (lenOf pd__I_V rfl) rfl (by show 2 * 0 + _ ≤ _; exact Nat.le_of_eq rfl) (hb hby at_44) (fun _ _ => ⟨rfl, e1, (Nat.le_of_ble_eq_true rfl), (Nat.le_of_ble_eq_true rfl)⟩)
  dsimp only [Pt.U, Pt.locs, Pt.cells, Pt.slots] at X2 l2 y2 z2 st2 hQ2
  subst l2 y2 z2
  obtain ⟨rfl, N2q, nb, sb, kn, ks, Kc2, Eb2, Fnumbers2, Fstarts2, Fcount2, Flisted2, Vn2, Vs2, gn2, gs2, ne12, ne22, ne32⟩ := hQ2
  have N2 := Fr.app N0 N2q
  have zz2 : n0 ≤ T2.heap.size := Nat.le_trans z1 Kc2.1
  obtain ⟨cq3, kq3, q3a, q3b, q3c⟩ := isOf hZ rfl Eb2
  obtain ⟨_, _, ⟨T3, L3, k3, n3⟩, -, X3, ⟨Lc3, hQ3, l3, y3, z3⟩, st3⟩ := X2.virtualBack hx (y := (⟨"org/keyward/securitymodel/NumberLists$Builder", "add", "(I)V"⟩ : MethodName)) (z := (⟨"org/keyward/securitymodel/NumberLists$Builder", "add", "(I)V"⟩ : MethodName)) hown (mvT hZ (hw _ (List.mem_of_getElem? (i := 14) rfl))) (mvT hZ (hw _ (List.mem_of_getElem? (i := 15) rfl))) (notFace_of_selects (args := #[]) (mvT hZ (hw _ (List.mem_of_getElem? (i := 17) rfl)))) (mvT hZ (hw _ (List.mem_of_getElem? (i := 17) rfl))) (mvT hZ (hw _ (List.mem_of_getElem? (i := 16) rfl))) (by decide) (backOf (W := 0) (rm3 l Z a0 hw [] bo p2 nb sb (0 : Int32) (0 : Int32) kn _ 0 T2.heap n0 zz2 Eb2 Fnumbers2 Fstarts2 Fcount2 Flisted2 g_bo gn2 ne12 Vn2 (by decide) (by decide) (Nat.le_of_ble_eq_true rfl)) hZ (hw _ (List.mem_of_getElem? (i := 18) rfl)) (hw _ (List.mem_of_getElem? (i := 2) rfl)) (by decide) (by decide)) q3a q3c (g := (mkF m 68 #[.val (.int p1), .val (.int p2), .val (.int p3), .val (.int p4), .val (.int (0 : Int32)), .val (.int (1 : Int32)), .val (.int (1 : Int32)), .val (.ref bo), .unset, .unset, .unset, .unset] [(.int p2), (.ref bo)])) rfl (by rw [hml]; rfl) (Steps.refl _) (argsL := [(.int p2)]) (rest := []) (lenOf pd__I_V rfl) rfl (by show 2 * 0 + _ ≤ _; exact Nat.le_of_eq rfl) (hb hby at_68) (fun _ _ => ⟨rfl, rfl, (Nat.le_of_ble_eq_true rfl), (Nat.le_of_ble_eq_true rfl)⟩)
  dsimp only [Pt.U, Pt.locs, Pt.cells, Pt.slots] at X3 l3 y3 z3 st3 hQ3
  subst l3 y3 z3
  obtain ⟨rfl, N3q, Kc3, Eb3, Fnumbers3, Fstarts3, Fcount3, Flisted3, Vn3⟩ := hQ3
  have N3 := Fr.app N2 N3q
  have f4_V_sb := Vs2.keep Kc3 (ninS (Ne.symm ne22) (ninS (Ne.symm ne32) nin0))
  have zz3 : n0 ≤ T3.heap.size := Nat.le_trans zz2 Kc3.1
  have Vx3 : Arv Z T3.heap nb kn .int (16 : Int32) [(.int p2), (.int (0 : Int32)), (.int (0 : Int32)), (.int (0 : Int32)), (.int (0 : Int32)), (.int (0 : Int32)), (.int (0 : Int32)), (.int (0 : Int32)), (.int (0 : Int32)), (.int (0 : Int32)), (.int (0 : Int32)), (.int (0 : Int32)), (.int (0 : Int32)), (.int (0 : Int32)), (.int (0 : Int32)), (.int (0 : Int32))] (.int (0 : Int32)) := Vn3
  obtain ⟨cq5, kq5, q5a, q5b, q5c⟩ := isOf hZ rfl Eb3
  obtain ⟨_, _, ⟨T5, L5, k5, n5⟩, -, X5, ⟨Lc5, hQ5, l5, y5, z5⟩, st5⟩ := X3.virtualBack hx (y := (⟨"org/keyward/securitymodel/NumberLists$Builder", "end", "()V"⟩ : MethodName)) (z := (⟨"org/keyward/securitymodel/NumberLists$Builder", "end", "()V"⟩ : MethodName)) hown (mvT hZ (hw _ (List.mem_of_getElem? (i := 21) rfl))) (mvT hZ (hw _ (List.mem_of_getElem? (i := 22) rfl))) (notFace_of_selects (args := #[]) (mvT hZ (hw _ (List.mem_of_getElem? (i := 24) rfl)))) (mvT hZ (hw _ (List.mem_of_getElem? (i := 24) rfl))) (mvT hZ (hw _ (List.mem_of_getElem? (i := 23) rfl))) (by decide) (backOf (W := 0) (rm4 l Z a0 hw [] bo nb sb ((0 : Int32) + (1 : Int32)) (0 : Int32) ks _ 1 T3.heap n0 zz3 Eb3 Fnumbers3 Fstarts3 Fcount3 Flisted3 g_bo gs2 ne22 f4_V_sb (by decide) (by decide) (Nat.le_of_ble_eq_true rfl)) hZ (hw _ (List.mem_of_getElem? (i := 25) rfl)) (hw _ (List.mem_of_getElem? (i := 2) rfl)) (by decide) (by decide)) q5a q5c (g := (mkF m 73 #[.val (.int p1), .val (.int p2), .val (.int p3), .val (.int p4), .val (.int (0 : Int32)), .val (.int (1 : Int32)), .val (.int (1 : Int32)), .val (.ref bo), .unset, .unset, .unset, .unset] [(.ref bo)])) rfl (by rw [hml]; rfl) (Steps.refl _) (argsL := []) (rest := []) (lenOf pd___V rfl) rfl (by show 2 * 0 + _ ≤ _; exact Nat.le_of_eq rfl) (hb hby at_73) (fun _ _ => ⟨rfl, rfl, (Nat.le_of_ble_eq_true rfl), (Nat.le_of_ble_eq_true rfl)⟩)
  dsimp only [Pt.U, Pt.locs, Pt.cells, Pt.slots] at X5 l5 y5 z5 st5 hQ5
  subst l5 y5 z5
  obtain ⟨rfl, N5q, Kc5, Eb5, Fnumbers5, Fstarts5, Fcount5, Flisted5, Vs5⟩ := hQ5
  have N5 := Fr.app N3 N5q
  have f6_V_nb := Vx3.keep Kc5 (ninS (Ne.symm ne12) (ninS ne32 nin0))
  have zz5 : n0 ≤ T5.heap.size := Nat.le_trans zz3 Kc5.1
  have Vx5 : Arv Z T5.heap sb ks .int (3 : Int32) [(.int (0 : Int32)), (.int ((0 : Int32) + (1 : Int32))), (.int (0 : Int32))] (.int (0 : Int32)) := Vs5
  obtain ⟨cq7, kq7, q7a, q7b, q7c⟩ := isOf hZ rfl Eb5
  obtain ⟨_, _, ⟨T7, L7, k7, n7⟩, -, X7, ⟨Lc7, hQ7, l7, y7, z7⟩, st7⟩ := X5.virtualBack hx (y := (⟨"org/keyward/securitymodel/NumberLists$Builder", "add", "(I)V"⟩ : MethodName)) (z := (⟨"org/keyward/securitymodel/NumberLists$Builder", "add", "(I)V"⟩ : MethodName)) hown (mvT hZ (hw _ (List.mem_of_getElem? (i := 14) rfl))) (mvT hZ (hw _ (List.mem_of_getElem? (i := 15) rfl))) (notFace_of_selects (args := #[]) (mvT hZ (hw _ (List.mem_of_getElem? (i := 17) rfl)))) (mvT hZ (hw _ (List.mem_of_getElem? (i := 17) rfl))) (mvT hZ (hw _ (List.mem_of_getElem? (i := 16) rfl))) (by decide) (backOf (W := 0) (rm3 l Z a0 hw [] bo p3 nb sb ((0 : Int32) + (1 : Int32)) ((0 : Int32) + (1 : Int32)) kn _ 1 T5.heap n0 zz5 Eb5 Fnumbers5 Fstarts5 Fcount5 Flisted5 g_bo gn2 ne12 f6_V_nb (by decide) (by decide) (Nat.le_of_ble_eq_true rfl)) hZ (hw _ (List.mem_of_getElem? (i := 18) rfl)) (hw _ (List.mem_of_getElem? (i := 2) rfl)) (by decide) (by decide)) q7a q7c (g := (mkF m 84 #[.val (.int p1), .val (.int p2), .val (.int p3), .val (.int p4), .val (.int (0 : Int32)), .val (.int (1 : Int32)), .val (.int (1 : Int32)), .val (.ref bo), .unset, .unset, .unset, .unset] [(.int p3), (.ref bo)])) rfl (by rw [hml]; rfl) (Steps.refl _) (argsL := [(.int p3)]) (rest := []) (lenOf pd__I_V rfl) rfl (by show 2 * 0 + _ ≤ _; exact Nat.le_of_eq rfl) (hb hby at_84) (fun _ _ => ⟨rfl, rfl, (Nat.le_of_ble_eq_true rfl), (Nat.le_of_ble_eq_true rfl)⟩)
  dsimp only [Pt.U, Pt.locs, Pt.cells, Pt.slots] at X7 l7 y7 z7 st7 hQ7
  subst l7 y7 z7
  obtain ⟨rfl, N7q, Kc7, Eb7, Fnumbers7, Fstarts7, Fcount7, Flisted7, Vn7⟩ := hQ7
  have N7 := Fr.app N5 N7q
  have f8_V_sb := Vx5.keep Kc7 (ninS (Ne.symm ne22) (ninS (Ne.symm ne32) nin0))
  have zz7 : n0 ≤ T7.heap.size := Nat.le_trans zz5 Kc7.1
  have Vx7 : Arv Z T7.heap nb kn .int (16 : Int32) [(.int p2), (.int p3), (.int (0 : Int32)), (.int (0 : Int32)), (.int (0 : Int32)), (.int (0 : Int32)), (.int (0 : Int32)), (.int (0 : Int32)), (.int (0 : Int32)), (.int (0 : Int32)), (.int (0 : Int32)), (.int (0 : Int32)), (.int (0 : Int32)), (.int (0 : Int32)), (.int (0 : Int32)), (.int (0 : Int32))] (.int (0 : Int32)) := Vn7
  obtain ⟨cq9, kq9, q9a, q9b, q9c⟩ := isOf hZ rfl Eb7
  obtain ⟨_, _, ⟨T9, L9, k9, n9⟩, -, X9, ⟨Lc9, hQ9, l9, y9, z9⟩, st9⟩ := X7.virtualBack hx (y := (⟨"org/keyward/securitymodel/NumberLists$Builder", "end", "()V"⟩ : MethodName)) (z := (⟨"org/keyward/securitymodel/NumberLists$Builder", "end", "()V"⟩ : MethodName)) hown (mvT hZ (hw _ (List.mem_of_getElem? (i := 21) rfl))) (mvT hZ (hw _ (List.mem_of_getElem? (i := 22) rfl))) (notFace_of_selects (args := #[]) (mvT hZ (hw _ (List.mem_of_getElem? (i := 24) rfl)))) (mvT hZ (hw _ (List.mem_of_getElem? (i := 24) rfl))) (mvT hZ (hw _ (List.mem_of_getElem? (i := 23) rfl))) (by decide) (backOf (W := 0) (rm4 l Z a0 hw [] bo nb sb (((0 : Int32) + (1 : Int32)) + (1 : Int32)) ((0 : Int32) + (1 : Int32)) ks _ 2 T7.heap n0 zz7 Eb7 Fnumbers7 Fstarts7 Fcount7 Flisted7 g_bo gs2 ne22 f8_V_sb (by decide) (by decide) (Nat.le_of_ble_eq_true rfl)) hZ (hw _ (List.mem_of_getElem? (i := 25) rfl)) (hw _ (List.mem_of_getElem? (i := 2) rfl)) (by decide) (by decide)) q9a q9c (g := (mkF m 89 #[.val (.int p1), .val (.int p2), .val (.int p3), .val (.int p4), .val (.int (0 : Int32)), .val (.int (1 : Int32)), .val (.int (1 : Int32)), .val (.ref bo), .unset, .unset, .unset, .unset] [(.ref bo)])) rfl (by rw [hml]; rfl) (Steps.refl _) (argsL := []) (rest := []) (lenOf pd___V rfl) rfl (by show 2 * 0 + _ ≤ _; exact Nat.le_of_eq rfl) (hb hby at_89) (fun _ _ => ⟨rfl, rfl, (Nat.le_of_ble_eq_true rfl), (Nat.le_of_ble_eq_true rfl)⟩)
  dsimp only [Pt.U, Pt.locs, Pt.cells, Pt.slots] at X9 l9 y9 z9 st9 hQ9
  subst l9 y9 z9
  obtain ⟨rfl, N9q, Kc9, Eb9, Fnumbers9, Fstarts9, Fcount9, Flisted9, Vs9⟩ := hQ9
  have N9 := Fr.app N7 N9q
  have f10_V_nb := Vx7.keep Kc9 (ninS (Ne.symm ne12) (ninS ne32 nin0))
  have zz9 : n0 ≤ T9.heap.size := Nat.le_trans zz7 Kc9.1
  have Vx9 : Arv Z T9.heap sb ks .int (3 : Int32) [(.int (0 : Int32)), (.int ((0 : Int32) + (1 : Int32))), (.int (((0 : Int32) + (1 : Int32)) + (1 : Int32)))] (.int (0 : Int32)) := Vs9
  obtain ⟨cq11, kq11, q11a, q11b, q11c⟩ := isOf hZ rfl Eb9
  obtain ⟨_, _, ⟨T11, L11, k11, n11⟩, -, X11, ⟨Lc11, hQ11, l11, y11, z11⟩, st11⟩ := X9.virtualBack hx (y := (⟨"org/keyward/securitymodel/NumberLists$Builder", "build", "()Lorg/keyward/securitymodel/NumberLists;"⟩ : MethodName)) (z := (⟨"org/keyward/securitymodel/NumberLists$Builder", "build", "()Lorg/keyward/securitymodel/NumberLists;"⟩ : MethodName)) hown (mvT hZ (hw _ (List.mem_of_getElem? (i := 28) rfl))) (mvT hZ (hw _ (List.mem_of_getElem? (i := 29) rfl))) (notFace_of_selects (args := #[]) (mvT hZ (hw _ (List.mem_of_getElem? (i := 31) rfl)))) (mvT hZ (hw _ (List.mem_of_getElem? (i := 31) rfl))) (mvT hZ (hw _ (List.mem_of_getElem? (i := 30) rfl))) (by decide) (backOf (W := 0) (rm5 l Z a0 hw [] bo nb sb (((0 : Int32) + (1 : Int32)) + (1 : Int32)) (((0 : Int32) + (1 : Int32)) + (1 : Int32)) kn ks _ _ 2 T9.heap n0 zz9 Eb9 Fnumbers9 Fstarts9 Fcount9 Flisted9 f10_V_nb Vx9 (by decide) (by decide) (by decide) (by decide)) hZ (hw _ (List.mem_of_getElem? (i := 32) rfl)) (hw _ (List.mem_of_getElem? (i := 2) rfl)) (by decide) (by decide)) q11a q11c (g := (mkF m 94 #[.val (.int p1), .val (.int p2), .val (.int p3), .val (.int p4), .val (.int (0 : Int32)), .val (.int (1 : Int32)), .val (.int (1 : Int32)), .val (.ref bo), .unset, .unset, .unset, .unset] [(.ref bo)])) rfl (by rw [hml]; rfl) (Steps.refl _) (argsL := []) (rest := []) (lenOf pd___Lorg_keyward_securitymodel_NumberLists_ rfl) rfl (by show 2 * 0 + _ ≤ _; exact Nat.le_of_eq rfl) (hb hby at_94) (fun _ _ => ⟨rfl, rfl, (Nat.le_of_ble_eq_true rfl), (Nat.le_of_ble_eq_true rfl)⟩)
  dsimp only [Pt.U, Pt.locs, Pt.cells, Pt.slots] at X11 l11 y11 z11 st11 hQ11
  subst l11 y11 z11
  obtain ⟨o11, mb11, km11, rfl, N11q, Kc11, Eo11, So11, No11, Vm11⟩ := hQ11
  have N11 := Fr.app N9 N11q
  have f12_V_nb := f10_V_nb.keep Kc11 nin0
  have f13_E_bo := Eb9.keep Kc11
  have f14_F_bo_numbers := Fnumbers9.keep Kc11 nin0
  have f15_F_bo_starts := Fstarts9.keep Kc11 nin0
  have f16_F_bo_count := Fcount9.keep Kc11 nin0
  have f17_F_bo_listed := Flisted9.keep Kc11 nin0
  have f18_V_sb := Vx9.keep Kc11 nin0
  have zz11 : n0 ≤ T11.heap.size := Nat.le_trans zz9 Kc11.1
  obtain ⟨cq19, kq19, q19a, q19b, q19c⟩ := isOf hZ rfl Eo11
  obtain ⟨_, _, ⟨T19, L19, k19, n19⟩, -, X19, ⟨Lc19, hQ19, l19, y19, z19⟩, st19⟩ := X11.virtualBack hx (y := (⟨"org/keyward/securitymodel/NumberLists", "size", "(I)I"⟩ : MethodName)) (z := (⟨"org/keyward/securitymodel/NumberLists", "size", "(I)I"⟩ : MethodName)) hown (mvT hZ (hw _ (List.mem_of_getElem? (i := 56) rfl))) (mvT hZ (hw _ (List.mem_of_getElem? (i := 57) rfl))) (notFace_of_selects (args := #[]) (mvT hZ (hw _ (List.mem_of_getElem? (i := 59) rfl)))) (mvT hZ (hw _ (List.mem_of_getElem? (i := 59) rfl))) (mvT hZ (hw _ (List.mem_of_getElem? (i := 58) rfl))) (by decide) (backOf (W := 0) (rm9 l Z a0 hw [] o11 (0 : Int32) sb ks _ ((0 : Int32) + (1 : Int32)) (0 : Int32) T11.heap n0 zz11 So11 f18_V_sb (by decide) (by decide) rfl rfl) hZ (hw _ (List.mem_of_getElem? (i := 60) rfl)) (hw _ (List.mem_of_getElem? (i := 35) rfl)) (by decide) (by decide)) q19a q19c (g := (mkF m 137 #[.val (.int p1), .val (.int p2), .val (.int p3), .val (.int p4), .val (.int (0 : Int32)), .val (.int (1 : Int32)), .val (.int (1 : Int32)), .val (.ref bo), .val (.ref o11), .val (.int ((0 : Int32) + (1 : Int32))), .val (.int (1 : Int32)), .unset] [(.int (0 : Int32)), (.ref o11)])) rfl (by rw [hml]; rfl) (Steps.refl _) (argsL := [(.int (0 : Int32))]) (rest := []) (lenOf pd__I_I rfl) rfl (by show 2 * 0 + _ ≤ _; exact Nat.le_of_eq rfl) (hb hby at_137) (fun _ _ => ⟨rfl, rfl, (Nat.le_of_ble_eq_true rfl), (Nat.le_of_ble_eq_true rfl)⟩)
  dsimp only [Pt.U, Pt.locs, Pt.cells, Pt.slots] at X19 l19 y19 z19 st19 hQ19
  subst l19 y19 z19
  obtain ⟨rfl, N19q, e19⟩ := hQ19
  have N19 := Fr.app N11 N19q
  obtain ⟨cq20, kq20, q20a, q20b, q20c⟩ := isOf hZ e19 Eo11
  obtain ⟨_, _, ⟨T20, L20, k20, n20⟩, -, X20, ⟨Lc20, hQ20, l20, y20, z20⟩, st20⟩ := X19.virtualBack hx (y := (⟨"org/keyward/securitymodel/NumberLists", "size", "(I)I"⟩ : MethodName)) (z := (⟨"org/keyward/securitymodel/NumberLists", "size", "(I)I"⟩ : MethodName)) hown (mvT hZ (hw _ (List.mem_of_getElem? (i := 56) rfl))) (mvT hZ (hw _ (List.mem_of_getElem? (i := 57) rfl))) (notFace_of_selects (args := #[]) (mvT hZ (hw _ (List.mem_of_getElem? (i := 59) rfl)))) (mvT hZ (hw _ (List.mem_of_getElem? (i := 59) rfl))) (mvT hZ (hw _ (List.mem_of_getElem? (i := 58) rfl))) (by decide) (backOf (W := 0) (rm9 l Z a0 hw [] o11 (1 : Int32) sb ks _ (((0 : Int32) + (1 : Int32)) + (1 : Int32)) ((0 : Int32) + (1 : Int32)) T11.heap n0 zz11 So11 f18_V_sb (by decide) (by decide) rfl rfl) hZ (hw _ (List.mem_of_getElem? (i := 60) rfl)) (hw _ (List.mem_of_getElem? (i := 35) rfl)) (by decide) (by decide)) q20a q20c (g := (mkF m 150 #[.val (.int p1), .val (.int p2), .val (.int p3), .val (.int p4), .val (.int (0 : Int32)), .val (.int (1 : Int32)), .val (.int (1 : Int32)), .val (.ref bo), .val (.ref o11), .val (.int ((0 : Int32) + (1 : Int32))), .val (.int (1 : Int32)), .unset] [(.int (1 : Int32)), (.ref o11)])) rfl (by rw [hml]; rfl) (Steps.refl _) (argsL := [(.int (1 : Int32))]) (rest := []) (lenOf pd__I_I rfl) rfl (by show 2 * 0 + _ ≤ _; exact Nat.le_of_eq rfl) (hb hby at_150) (fun _ _ => ⟨rfl, e19, (Nat.le_of_ble_eq_true rfl), (Nat.le_of_ble_eq_true rfl)⟩)
  dsimp only [Pt.U, Pt.locs, Pt.cells, Pt.slots] at X20 l20 y20 z20 st20 hQ20
  subst l20 y20 z20
  obtain ⟨rfl, N20q, e20⟩ := hQ20
  have N20 := Fr.app N19 N20q
  obtain ⟨cq21, kq21, q21a, q21b, q21c⟩ := isOf hZ e20 Eo11
  obtain ⟨_, _, ⟨T21, L21, k21, n21⟩, -, X21, ⟨Lc21, hQ21, l21, y21, z21⟩, st21⟩ := X20.virtualBack hx (y := (⟨"org/keyward/securitymodel/NumberLists", "get", "(II)I"⟩ : MethodName)) (z := (⟨"org/keyward/securitymodel/NumberLists", "get", "(II)I"⟩ : MethodName)) hown (mvT hZ (hw _ (List.mem_of_getElem? (i := 61) rfl))) (mvT hZ (hw _ (List.mem_of_getElem? (i := 62) rfl))) (notFace_of_selects (args := #[]) (mvT hZ (hw _ (List.mem_of_getElem? (i := 64) rfl)))) (mvT hZ (hw _ (List.mem_of_getElem? (i := 64) rfl))) (mvT hZ (hw _ (List.mem_of_getElem? (i := 63) rfl))) (by decide) (backOf (W := 0) (rm10 l Z a0 hw [] o11 (0 : Int32) (0 : Int32) sb mb11 ks _ _ _ (((0 : Int32) + (1 : Int32)) + (1 : Int32)) (0 : Int32) p2 T11.heap n0 zz11 So11 No11 f18_V_sb Vm11 (by decide) rfl (by decide) rfl) hZ (hw _ (List.mem_of_getElem? (i := 65) rfl)) (hw _ (List.mem_of_getElem? (i := 35) rfl)) (by decide) (by decide)) q21a q21c (g := (mkF m 182 #[.val (.int p1), .val (.int p2), .val (.int p3), .val (.int p4), .val (.int (0 : Int32)), .val (.int (1 : Int32)), .val (.int (1 : Int32)), .val (.ref bo), .val (.ref o11), .val (.int ((0 : Int32) + (1 : Int32))), .val (.int (1 : Int32)), .val (.int p2)] [(.int (0 : Int32)), (.int (0 : Int32)), (.ref o11)])) rfl (by rw [hml]; rfl) (Steps.refl _) (argsL := [(.int (0 : Int32)), (.int (0 : Int32))]) (rest := []) (lenOf pd__II_I rfl) rfl (by show 2 * 0 + _ ≤ _; exact Nat.le_of_eq rfl) (hb hby at_182) (fun _ _ => ⟨rfl, e20, (Nat.le_of_ble_eq_true rfl), (Nat.le_of_ble_eq_true rfl)⟩)
  dsimp only [Pt.U, Pt.locs, Pt.cells, Pt.slots] at X21 l21 y21 z21 st21 hQ21
  subst l21 y21 z21
  obtain ⟨rfl, N21q, e21⟩ := hQ21
  have N21 := Fr.app N20 N21q
  obtain ⟨cq22, kq22, q22a, q22b, q22c⟩ := isOf hZ e21 Eo11
  obtain ⟨_, _, ⟨T22, L22, k22, n22⟩, -, X22, ⟨Lc22, hQ22, l22, y22, z22⟩, st22⟩ := X21.virtualBack hx (y := (⟨"org/keyward/securitymodel/NumberLists", "get", "(II)I"⟩ : MethodName)) (z := (⟨"org/keyward/securitymodel/NumberLists", "get", "(II)I"⟩ : MethodName)) hown (mvT hZ (hw _ (List.mem_of_getElem? (i := 61) rfl))) (mvT hZ (hw _ (List.mem_of_getElem? (i := 62) rfl))) (notFace_of_selects (args := #[]) (mvT hZ (hw _ (List.mem_of_getElem? (i := 64) rfl)))) (mvT hZ (hw _ (List.mem_of_getElem? (i := 64) rfl))) (mvT hZ (hw _ (List.mem_of_getElem? (i := 63) rfl))) (by decide) (backOf (W := 0) (rm10 l Z a0 hw [] o11 (1 : Int32) (0 : Int32) sb mb11 ks _ _ _ (((0 : Int32) + (1 : Int32)) + (1 : Int32)) ((0 : Int32) + (1 : Int32)) p3 T11.heap n0 zz11 So11 No11 f18_V_sb Vm11 (by decide) rfl (by decide) rfl) hZ (hw _ (List.mem_of_getElem? (i := 65) rfl)) (hw _ (List.mem_of_getElem? (i := 35) rfl)) (by decide) (by decide)) q22a q22c (g := (mkF m 221 #[.val (.int p1), .val (.int p2), .val (.int p3), .val (.int p4), .val (.int (0 : Int32)), .val (.int (1 : Int32)), .val (.int (1 : Int32)), .val (.ref bo), .val (.ref o11), .val (.int ((0 : Int32) + (1 : Int32))), .val (.int (1 : Int32)), .val (.int p2)] [(.int (0 : Int32)), (.int (1 : Int32)), (.ref o11)])) rfl (by rw [hml]; rfl) (Steps.refl _) (argsL := [(.int (1 : Int32)), (.int (0 : Int32))]) (rest := []) (lenOf pd__II_I rfl) rfl (by show 2 * 0 + _ ≤ _; exact Nat.le_of_eq rfl) (hb hby at_221) (fun _ _ => ⟨rfl, e21, (Nat.le_of_ble_eq_true rfl), (Nat.le_of_ble_eq_true rfl)⟩)
  dsimp only [Pt.U, Pt.locs, Pt.cells, Pt.slots] at X22 l22 y22 z22 st22 hQ22
  subst l22 y22 z22
  obtain ⟨rfl, N22q, e22⟩ := hQ22
  have N22 := Fr.app N21 N22q
  obtain ⟨fs, hr, hrun, hended, hW, hsame⟩ := X22.leave (v := some (.int (1 : Int32))) (fun h => by rw [Bd.returns] at h; cases h)
  refine ⟨_, _, pre0 _ ?_, hrun, hended, _, _, rfl, ?_, ⟨_, rfl⟩, hW, hsame.mono (by decide) (by decide)⟩
  · show Steps p.tables e below (s₁.setTop (mkF m 0 #[.val (.int p1), .val (.int p2), .val (.int p3), .val (.int p4), .unset, .unset, .unset, .unset, .unset, .unset, .unset, .unset] [])) _
    refine XS.iloadN X0.here hx rfl (hb hby at_0) rfl ?_
    show Steps p.tables e below (s₁.setTop (mkF m 1 #[.val (.int p1), .val (.int p2), .val (.int p3), .val (.int p4), .unset, .unset, .unset, .unset, .unset, .unset, .unset, .unset] [(.int p4)])) _
    refine XS.iconst X0.here hx rfl (hb hby at_1) ?_
    show Steps p.tables e below (s₁.setTop (mkF m 2 #[.val (.int p1), .val (.int p2), .val (.int p3), .val (.int p4), .unset, .unset, .unset, .unset, .unset, .unset, .unset, .unset] [(.int (1 : Int32)), (.int p4)])) _
    refine XS.iand X0.here hx rfl (hb hby at_2) rfl ?_
    show Steps p.tables e below (s₁.setTop (mkF m 3 #[.val (.int p1), .val (.int p2), .val (.int p3), .val (.int p4), .unset, .unset, .unset, .unset, .unset, .unset, .unset, .unset] [(.int (p4 &&& (1 : Int32)))])) _
    refine XS.ifYes X0.here hx rfl (pc0 := 3) (pc' := 10) rfl (hb hby at_3) rfl ((if0 _ _).trans (teq hc3).1) (by decide) (by decide) ?_
    show Steps p.tables e below (s₁.setTop (mkF m 10 #[.val (.int p1), .val (.int p2), .val (.int p3), .val (.int p4), .unset, .unset, .unset, .unset, .unset, .unset, .unset, .unset] [])) _
    refine XS.iconst X0.here hx rfl (hb hby at_10) ?_
    show Steps p.tables e below (s₁.setTop (mkF m 11 #[.val (.int p1), .val (.int p2), .val (.int p3), .val (.int p4), .unset, .unset, .unset, .unset, .unset, .unset, .unset, .unset] [(.int (0 : Int32))])) _
    refine XS.istore X0.here hx rfl (hb hby at_11) rfl (l' := #[.val (.int p1), .val (.int p2), .val (.int p3), .val (.int p4), .val (.int (0 : Int32)), .unset, .unset, .unset, .unset, .unset, .unset, .unset]) rfl ?_
    show Steps p.tables e below (s₁.setTop (mkF m 13 #[.val (.int p1), .val (.int p2), .val (.int p3), .val (.int p4), .val (.int (0 : Int32)), .unset, .unset, .unset, .unset, .unset, .unset, .unset] [])) _
    refine XS.iloadN X0.here hx rfl (hb hby at_13) rfl ?_
    show Steps p.tables e below (s₁.setTop (mkF m 14 #[.val (.int p1), .val (.int p2), .val (.int p3), .val (.int p4), .val (.int (0 : Int32)), .unset, .unset, .unset, .unset, .unset, .unset, .unset] [(.int p4)])) _
    refine XS.iconst X0.here hx rfl (hb hby at_14) ?_
    show Steps p.tables e below (s₁.setTop (mkF m 15 #[.val (.int p1), .val (.int p2), .val (.int p3), .val (.int p4), .val (.int (0 : Int32)), .unset, .unset, .unset, .unset, .unset, .unset, .unset] [(.int (2 : Int32)), (.int p4)])) _
    refine XS.iand X0.here hx rfl (hb hby at_15) rfl ?_
    show Steps p.tables e below (s₁.setTop (mkF m 16 #[.val (.int p1), .val (.int p2), .val (.int p3), .val (.int p4), .val (.int (0 : Int32)), .unset, .unset, .unset, .unset, .unset, .unset, .unset] [(.int (p4 &&& (2 : Int32)))])) _
    refine XS.ifNo X0.here hx rfl (hb hby at_16) rfl ((if0 _ _).trans (feq hc16).1) ?_
    show Steps p.tables e below (s₁.setTop (mkF m 19 #[.val (.int p1), .val (.int p2), .val (.int p3), .val (.int p4), .val (.int (0 : Int32)), .unset, .unset, .unset, .unset, .unset, .unset, .unset] [])) _
    refine XS.iconst X0.here hx rfl (hb hby at_19) ?_
    show Steps p.tables e below (s₁.setTop (mkF m 20 #[.val (.int p1), .val (.int p2), .val (.int p3), .val (.int p4), .val (.int (0 : Int32)), .unset, .unset, .unset, .unset, .unset, .unset, .unset] [(.int (1 : Int32))])) _
    refine XS.goto X0.here hx rfl (pc0 := 20) (pc' := 24) rfl (hb hby at_20) (by decide) (by decide) ?_
    show Steps p.tables e below (s₁.setTop (mkF m 24 #[.val (.int p1), .val (.int p2), .val (.int p3), .val (.int p4), .val (.int (0 : Int32)), .unset, .unset, .unset, .unset, .unset, .unset, .unset] [(.int (1 : Int32))])) _
    refine XS.istore X0.here hx rfl (hb hby at_24) rfl (l' := #[.val (.int p1), .val (.int p2), .val (.int p3), .val (.int p4), .val (.int (0 : Int32)), .val (.int (1 : Int32)), .unset, .unset, .unset, .unset, .unset, .unset]) rfl ?_
    show Steps p.tables e below (s₁.setTop (mkF m 26 #[.val (.int p1), .val (.int p2), .val (.int p3), .val (.int p4), .val (.int (0 : Int32)), .val (.int (1 : Int32)), .unset, .unset, .unset, .unset, .unset, .unset] [])) _
    refine XS.iloadN X0.here hx rfl (hb hby at_26) rfl ?_
    show Steps p.tables e below (s₁.setTop (mkF m 27 #[.val (.int p1), .val (.int p2), .val (.int p3), .val (.int p4), .val (.int (0 : Int32)), .val (.int (1 : Int32)), .unset, .unset, .unset, .unset, .unset, .unset] [(.int p4)])) _
    refine XS.iconst X0.here hx rfl (hb hby at_27) ?_
    show Steps p.tables e below (s₁.setTop (mkF m 28 #[.val (.int p1), .val (.int p2), .val (.int p3), .val (.int p4), .val (.int (0 : Int32)), .val (.int (1 : Int32)), .unset, .unset, .unset, .unset, .unset, .unset] [(.int (4 : Int32)), (.int p4)])) _
    refine XS.iand X0.here hx rfl (hb hby at_28) rfl ?_
    show Steps p.tables e below (s₁.setTop (mkF m 29 #[.val (.int p1), .val (.int p2), .val (.int p3), .val (.int p4), .val (.int (0 : Int32)), .val (.int (1 : Int32)), .unset, .unset, .unset, .unset, .unset, .unset] [(.int (p4 &&& (4 : Int32)))])) _
    refine XS.ifNo X0.here hx rfl (hb hby at_29) rfl ((if0 _ _).trans (feq hc29).1) ?_
    show Steps p.tables e below (s₁.setTop (mkF m 32 #[.val (.int p1), .val (.int p2), .val (.int p3), .val (.int p4), .val (.int (0 : Int32)), .val (.int (1 : Int32)), .unset, .unset, .unset, .unset, .unset, .unset] [])) _
    refine XS.iconst X0.here hx rfl (hb hby at_32) ?_
    show Steps p.tables e below (s₁.setTop (mkF m 33 #[.val (.int p1), .val (.int p2), .val (.int p3), .val (.int p4), .val (.int (0 : Int32)), .val (.int (1 : Int32)), .unset, .unset, .unset, .unset, .unset, .unset] [(.int (1 : Int32))])) _
    refine XS.goto X0.here hx rfl (pc0 := 33) (pc' := 37) rfl (hb hby at_33) (by decide) (by decide) ?_
    show Steps p.tables e below (s₁.setTop (mkF m 37 #[.val (.int p1), .val (.int p2), .val (.int p3), .val (.int p4), .val (.int (0 : Int32)), .val (.int (1 : Int32)), .unset, .unset, .unset, .unset, .unset, .unset] [(.int (1 : Int32))])) _
    refine XS.istore X0.here hx rfl (hb hby at_37) rfl (l' := #[.val (.int p1), .val (.int p2), .val (.int p3), .val (.int p4), .val (.int (0 : Int32)), .val (.int (1 : Int32)), .val (.int (1 : Int32)), .unset, .unset, .unset, .unset, .unset]) rfl ?_
    show Steps p.tables e below (s₁.setTop (mkF m 39 #[.val (.int p1), .val (.int p2), .val (.int p3), .val (.int p4), .val (.int (0 : Int32)), .val (.int (1 : Int32)), .val (.int (1 : Int32)), .unset, .unset, .unset, .unset, .unset] [])) _
    refine st1 _ ?_
    show Steps p.tables e below (T1.setTop (mkF m 42 #[.val (.int p1), .val (.int p2), .val (.int p3), .val (.int p4), .val (.int (0 : Int32)), .val (.int (1 : Int32)), .val (.int (1 : Int32)), .unset, .unset, .unset, .unset, .unset] [(.ref bo)])) _
    refine XS.dup X1.here hx rfl (hb hby at_42) rfl rfl ?_
    show Steps p.tables e below (T1.setTop (mkF m 43 #[.val (.int p1), .val (.int p2), .val (.int p3), .val (.int p4), .val (.int (0 : Int32)), .val (.int (1 : Int32)), .val (.int (1 : Int32)), .unset, .unset, .unset, .unset, .unset] [(.ref bo), (.ref bo)])) _
    refine XS.iconst X1.here hx rfl (hb hby at_43) ?_
    show Steps p.tables e below (T1.setTop (mkF m 44 #[.val (.int p1), .val (.int p2), .val (.int p3), .val (.int p4), .val (.int (0 : Int32)), .val (.int (1 : Int32)), .val (.int (1 : Int32)), .unset, .unset, .unset, .unset, .unset] [(.int (2 : Int32)), (.ref bo), (.ref bo)])) _
    refine st2.trans ?_
    show Steps p.tables e below (T2.setTop (mkF m 47 #[.val (.int p1), .val (.int p2), .val (.int p3), .val (.int p4), .val (.int (0 : Int32)), .val (.int (1 : Int32)), .val (.int (1 : Int32)), .unset, .unset, .unset, .unset, .unset] [(.ref bo)])) _
    refine XS.astore X2.here hx rfl (hb hby at_47) rfl rfl (l' := #[.val (.int p1), .val (.int p2), .val (.int p3), .val (.int p4), .val (.int (0 : Int32)), .val (.int (1 : Int32)), .val (.int (1 : Int32)), .val (.ref bo), .unset, .unset, .unset, .unset]) rfl ?_
    show Steps p.tables e below (T2.setTop (mkF m 49 #[.val (.int p1), .val (.int p2), .val (.int p3), .val (.int p4), .val (.int (0 : Int32)), .val (.int (1 : Int32)), .val (.int (1 : Int32)), .val (.ref bo), .unset, .unset, .unset, .unset] [])) _
    refine XS.iload X2.here hx rfl (hb hby at_49) rfl ?_
    show Steps p.tables e below (T2.setTop (mkF m 51 #[.val (.int p1), .val (.int p2), .val (.int p3), .val (.int p4), .val (.int (0 : Int32)), .val (.int (1 : Int32)), .val (.int (1 : Int32)), .val (.ref bo), .unset, .unset, .unset, .unset] [(.int (0 : Int32))])) _
    refine XS.ifYes X2.here hx rfl (pc0 := 51) (pc' := 60) rfl (hb hby at_51) rfl ((if0 _ _).trans (teq (by decide : (0 : Int32) = (0 : Int32))).1) (by decide) (by decide) ?_
    show Steps p.tables e below (T2.setTop (mkF m 60 #[.val (.int p1), .val (.int p2), .val (.int p3), .val (.int p4), .val (.int (0 : Int32)), .val (.int (1 : Int32)), .val (.int (1 : Int32)), .val (.ref bo), .unset, .unset, .unset, .unset] [])) _
    refine XS.iload X2.here hx rfl (hb hby at_60) rfl ?_
    show Steps p.tables e below (T2.setTop (mkF m 62 #[.val (.int p1), .val (.int p2), .val (.int p3), .val (.int p4), .val (.int (0 : Int32)), .val (.int (1 : Int32)), .val (.int (1 : Int32)), .val (.ref bo), .unset, .unset, .unset, .unset] [(.int (1 : Int32))])) _
    refine XS.ifNo X2.here hx rfl (hb hby at_62) rfl ((if0 _ _).trans (feq (by decide : ¬ ((1 : Int32) = (0 : Int32)))).1) ?_
    show Steps p.tables e below (T2.setTop (mkF m 65 #[.val (.int p1), .val (.int p2), .val (.int p3), .val (.int p4), .val (.int (0 : Int32)), .val (.int (1 : Int32)), .val (.int (1 : Int32)), .val (.ref bo), .unset, .unset, .unset, .unset] [])) _
    refine XS.aload X2.here hx rfl (hb hby at_65) rfl rfl ?_
    show Steps p.tables e below (T2.setTop (mkF m 67 #[.val (.int p1), .val (.int p2), .val (.int p3), .val (.int p4), .val (.int (0 : Int32)), .val (.int (1 : Int32)), .val (.int (1 : Int32)), .val (.ref bo), .unset, .unset, .unset, .unset] [(.ref bo)])) _
    refine XS.iloadN X2.here hx rfl (hb hby at_67) rfl ?_
    show Steps p.tables e below (T2.setTop (mkF m 68 #[.val (.int p1), .val (.int p2), .val (.int p3), .val (.int p4), .val (.int (0 : Int32)), .val (.int (1 : Int32)), .val (.int (1 : Int32)), .val (.ref bo), .unset, .unset, .unset, .unset] [(.int p2), (.ref bo)])) _
    refine st3.trans ?_
    show Steps p.tables e below (T3.setTop (mkF m 71 #[.val (.int p1), .val (.int p2), .val (.int p3), .val (.int p4), .val (.int (0 : Int32)), .val (.int (1 : Int32)), .val (.int (1 : Int32)), .val (.ref bo), .unset, .unset, .unset, .unset] [])) _
    refine XS.aload X3.here hx rfl (hb hby at_71) rfl rfl ?_
    show Steps p.tables e below (T3.setTop (mkF m 73 #[.val (.int p1), .val (.int p2), .val (.int p3), .val (.int p4), .val (.int (0 : Int32)), .val (.int (1 : Int32)), .val (.int (1 : Int32)), .val (.ref bo), .unset, .unset, .unset, .unset] [(.ref bo)])) _
    refine st5.trans ?_
    show Steps p.tables e below (T5.setTop (mkF m 76 #[.val (.int p1), .val (.int p2), .val (.int p3), .val (.int p4), .val (.int (0 : Int32)), .val (.int (1 : Int32)), .val (.int (1 : Int32)), .val (.ref bo), .unset, .unset, .unset, .unset] [])) _
    refine XS.iload X5.here hx rfl (hb hby at_76) rfl ?_
    show Steps p.tables e below (T5.setTop (mkF m 78 #[.val (.int p1), .val (.int p2), .val (.int p3), .val (.int p4), .val (.int (0 : Int32)), .val (.int (1 : Int32)), .val (.int (1 : Int32)), .val (.ref bo), .unset, .unset, .unset, .unset] [(.int (1 : Int32))])) _
    refine XS.ifNo X5.here hx rfl (hb hby at_78) rfl ((if0 _ _).trans (feq (by decide : ¬ ((1 : Int32) = (0 : Int32)))).1) ?_
    show Steps p.tables e below (T5.setTop (mkF m 81 #[.val (.int p1), .val (.int p2), .val (.int p3), .val (.int p4), .val (.int (0 : Int32)), .val (.int (1 : Int32)), .val (.int (1 : Int32)), .val (.ref bo), .unset, .unset, .unset, .unset] [])) _
    refine XS.aload X5.here hx rfl (hb hby at_81) rfl rfl ?_
    show Steps p.tables e below (T5.setTop (mkF m 83 #[.val (.int p1), .val (.int p2), .val (.int p3), .val (.int p4), .val (.int (0 : Int32)), .val (.int (1 : Int32)), .val (.int (1 : Int32)), .val (.ref bo), .unset, .unset, .unset, .unset] [(.ref bo)])) _
    refine XS.iloadN X5.here hx rfl (hb hby at_83) rfl ?_
    show Steps p.tables e below (T5.setTop (mkF m 84 #[.val (.int p1), .val (.int p2), .val (.int p3), .val (.int p4), .val (.int (0 : Int32)), .val (.int (1 : Int32)), .val (.int (1 : Int32)), .val (.ref bo), .unset, .unset, .unset, .unset] [(.int p3), (.ref bo)])) _
    refine st7.trans ?_
    show Steps p.tables e below (T7.setTop (mkF m 87 #[.val (.int p1), .val (.int p2), .val (.int p3), .val (.int p4), .val (.int (0 : Int32)), .val (.int (1 : Int32)), .val (.int (1 : Int32)), .val (.ref bo), .unset, .unset, .unset, .unset] [])) _
    refine XS.aload X7.here hx rfl (hb hby at_87) rfl rfl ?_
    show Steps p.tables e below (T7.setTop (mkF m 89 #[.val (.int p1), .val (.int p2), .val (.int p3), .val (.int p4), .val (.int (0 : Int32)), .val (.int (1 : Int32)), .val (.int (1 : Int32)), .val (.ref bo), .unset, .unset, .unset, .unset] [(.ref bo)])) _
    refine st9.trans ?_
    show Steps p.tables e below (T9.setTop (mkF m 92 #[.val (.int p1), .val (.int p2), .val (.int p3), .val (.int p4), .val (.int (0 : Int32)), .val (.int (1 : Int32)), .val (.int (1 : Int32)), .val (.ref bo), .unset, .unset, .unset, .unset] [])) _
    refine XS.aload X9.here hx rfl (hb hby at_92) rfl rfl ?_
    show Steps p.tables e below (T9.setTop (mkF m 94 #[.val (.int p1), .val (.int p2), .val (.int p3), .val (.int p4), .val (.int (0 : Int32)), .val (.int (1 : Int32)), .val (.int (1 : Int32)), .val (.ref bo), .unset, .unset, .unset, .unset] [(.ref bo)])) _
    refine st11.trans ?_
    show Steps p.tables e below (T11.setTop (mkF m 97 #[.val (.int p1), .val (.int p2), .val (.int p3), .val (.int p4), .val (.int (0 : Int32)), .val (.int (1 : Int32)), .val (.int (1 : Int32)), .val (.ref bo), .unset, .unset, .unset, .unset] [(.ref o11)])) _
    refine XS.astore X11.here hx rfl (hb hby at_97) rfl rfl (l' := #[.val (.int p1), .val (.int p2), .val (.int p3), .val (.int p4), .val (.int (0 : Int32)), .val (.int (1 : Int32)), .val (.int (1 : Int32)), .val (.ref bo), .val (.ref o11), .unset, .unset, .unset]) rfl ?_
    show Steps p.tables e below (T11.setTop (mkF m 99 #[.val (.int p1), .val (.int p2), .val (.int p3), .val (.int p4), .val (.int (0 : Int32)), .val (.int (1 : Int32)), .val (.int (1 : Int32)), .val (.ref bo), .val (.ref o11), .unset, .unset, .unset] [])) _
    refine XS.iload X11.here hx rfl (hb hby at_99) rfl ?_
    show Steps p.tables e below (T11.setTop (mkF m 101 #[.val (.int p1), .val (.int p2), .val (.int p3), .val (.int p4), .val (.int (0 : Int32)), .val (.int (1 : Int32)), .val (.int (1 : Int32)), .val (.ref bo), .val (.ref o11), .unset, .unset, .unset] [(.int (0 : Int32))])) _
    refine XS.ifYes X11.here hx rfl (pc0 := 101) (pc' := 108) rfl (hb hby at_101) rfl ((if0 _ _).trans (teq (by decide : (0 : Int32) = (0 : Int32))).1) (by decide) (by decide) ?_
    show Steps p.tables e below (T11.setTop (mkF m 108 #[.val (.int p1), .val (.int p2), .val (.int p3), .val (.int p4), .val (.int (0 : Int32)), .val (.int (1 : Int32)), .val (.int (1 : Int32)), .val (.ref bo), .val (.ref o11), .unset, .unset, .unset] [])) _
    refine XS.iconst X11.here hx rfl (hb hby at_108) ?_
    show Steps p.tables e below (T11.setTop (mkF m 109 #[.val (.int p1), .val (.int p2), .val (.int p3), .val (.int p4), .val (.int (0 : Int32)), .val (.int (1 : Int32)), .val (.int (1 : Int32)), .val (.ref bo), .val (.ref o11), .unset, .unset, .unset] [(.int (0 : Int32))])) _
    refine XS.iload X11.here hx rfl (hb hby at_109) rfl ?_
    show Steps p.tables e below (T11.setTop (mkF m 111 #[.val (.int p1), .val (.int p2), .val (.int p3), .val (.int p4), .val (.int (0 : Int32)), .val (.int (1 : Int32)), .val (.int (1 : Int32)), .val (.ref bo), .val (.ref o11), .unset, .unset, .unset] [(.int (1 : Int32)), (.int (0 : Int32))])) _
    refine XS.ifNo X11.here hx rfl (hb hby at_111) rfl ((if0 _ _).trans (feq (by decide : ¬ ((1 : Int32) = (0 : Int32)))).1) ?_
    show Steps p.tables e below (T11.setTop (mkF m 114 #[.val (.int p1), .val (.int p2), .val (.int p3), .val (.int p4), .val (.int (0 : Int32)), .val (.int (1 : Int32)), .val (.int (1 : Int32)), .val (.ref bo), .val (.ref o11), .unset, .unset, .unset] [(.int (0 : Int32))])) _
    refine XS.iconst X11.here hx rfl (hb hby at_114) ?_
    show Steps p.tables e below (T11.setTop (mkF m 115 #[.val (.int p1), .val (.int p2), .val (.int p3), .val (.int p4), .val (.int (0 : Int32)), .val (.int (1 : Int32)), .val (.int (1 : Int32)), .val (.ref bo), .val (.ref o11), .unset, .unset, .unset] [(.int (1 : Int32)), (.int (0 : Int32))])) _
    refine XS.goto X11.here hx rfl (pc0 := 115) (pc' := 119) rfl (hb hby at_115) (by decide) (by decide) ?_
    show Steps p.tables e below (T11.setTop (mkF m 119 #[.val (.int p1), .val (.int p2), .val (.int p3), .val (.int p4), .val (.int (0 : Int32)), .val (.int (1 : Int32)), .val (.int (1 : Int32)), .val (.ref bo), .val (.ref o11), .unset, .unset, .unset] [(.int (1 : Int32)), (.int (0 : Int32))])) _
    refine XS.iadd X11.here hx rfl (hb hby at_119) rfl ?_
    show Steps p.tables e below (T11.setTop (mkF m 120 #[.val (.int p1), .val (.int p2), .val (.int p3), .val (.int p4), .val (.int (0 : Int32)), .val (.int (1 : Int32)), .val (.int (1 : Int32)), .val (.ref bo), .val (.ref o11), .unset, .unset, .unset] [(.int ((0 : Int32) + (1 : Int32)))])) _
    refine XS.istore X11.here hx rfl (hb hby at_120) rfl (l' := #[.val (.int p1), .val (.int p2), .val (.int p3), .val (.int p4), .val (.int (0 : Int32)), .val (.int (1 : Int32)), .val (.int (1 : Int32)), .val (.ref bo), .val (.ref o11), .val (.int ((0 : Int32) + (1 : Int32))), .unset, .unset]) rfl ?_
    show Steps p.tables e below (T11.setTop (mkF m 122 #[.val (.int p1), .val (.int p2), .val (.int p3), .val (.int p4), .val (.int (0 : Int32)), .val (.int (1 : Int32)), .val (.int (1 : Int32)), .val (.ref bo), .val (.ref o11), .val (.int ((0 : Int32) + (1 : Int32))), .unset, .unset] [])) _
    refine XS.iload X11.here hx rfl (hb hby at_122) rfl ?_
    show Steps p.tables e below (T11.setTop (mkF m 124 #[.val (.int p1), .val (.int p2), .val (.int p3), .val (.int p4), .val (.int (0 : Int32)), .val (.int (1 : Int32)), .val (.int (1 : Int32)), .val (.ref bo), .val (.ref o11), .val (.int ((0 : Int32) + (1 : Int32))), .unset, .unset] [(.int (1 : Int32))])) _
    refine XS.ifNo X11.here hx rfl (hb hby at_124) rfl ((if0 _ _).trans (feq (by decide : ¬ ((1 : Int32) = (0 : Int32)))).1) ?_
    show Steps p.tables e below (T11.setTop (mkF m 127 #[.val (.int p1), .val (.int p2), .val (.int p3), .val (.int p4), .val (.int (0 : Int32)), .val (.int (1 : Int32)), .val (.int (1 : Int32)), .val (.ref bo), .val (.ref o11), .val (.int ((0 : Int32) + (1 : Int32))), .unset, .unset] [])) _
    refine XS.iconst X11.here hx rfl (hb hby at_127) ?_
    show Steps p.tables e below (T11.setTop (mkF m 128 #[.val (.int p1), .val (.int p2), .val (.int p3), .val (.int p4), .val (.int (0 : Int32)), .val (.int (1 : Int32)), .val (.int (1 : Int32)), .val (.ref bo), .val (.ref o11), .val (.int ((0 : Int32) + (1 : Int32))), .unset, .unset] [(.int (1 : Int32))])) _
    refine XS.goto X11.here hx rfl (pc0 := 128) (pc' := 132) rfl (hb hby at_128) (by decide) (by decide) ?_
    show Steps p.tables e below (T11.setTop (mkF m 132 #[.val (.int p1), .val (.int p2), .val (.int p3), .val (.int p4), .val (.int (0 : Int32)), .val (.int (1 : Int32)), .val (.int (1 : Int32)), .val (.ref bo), .val (.ref o11), .val (.int ((0 : Int32) + (1 : Int32))), .unset, .unset] [(.int (1 : Int32))])) _
    refine XS.istore X11.here hx rfl (hb hby at_132) rfl (l' := #[.val (.int p1), .val (.int p2), .val (.int p3), .val (.int p4), .val (.int (0 : Int32)), .val (.int (1 : Int32)), .val (.int (1 : Int32)), .val (.ref bo), .val (.ref o11), .val (.int ((0 : Int32) + (1 : Int32))), .val (.int (1 : Int32)), .unset]) rfl ?_
    show Steps p.tables e below (T11.setTop (mkF m 134 #[.val (.int p1), .val (.int p2), .val (.int p3), .val (.int p4), .val (.int (0 : Int32)), .val (.int (1 : Int32)), .val (.int (1 : Int32)), .val (.ref bo), .val (.ref o11), .val (.int ((0 : Int32) + (1 : Int32))), .val (.int (1 : Int32)), .unset] [])) _
    refine XS.aload X11.here hx rfl (hb hby at_134) rfl rfl ?_
    show Steps p.tables e below (T11.setTop (mkF m 136 #[.val (.int p1), .val (.int p2), .val (.int p3), .val (.int p4), .val (.int (0 : Int32)), .val (.int (1 : Int32)), .val (.int (1 : Int32)), .val (.ref bo), .val (.ref o11), .val (.int ((0 : Int32) + (1 : Int32))), .val (.int (1 : Int32)), .unset] [(.ref o11)])) _
    refine XS.iconst X11.here hx rfl (hb hby at_136) ?_
    show Steps p.tables e below (T11.setTop (mkF m 137 #[.val (.int p1), .val (.int p2), .val (.int p3), .val (.int p4), .val (.int (0 : Int32)), .val (.int (1 : Int32)), .val (.int (1 : Int32)), .val (.ref bo), .val (.ref o11), .val (.int ((0 : Int32) + (1 : Int32))), .val (.int (1 : Int32)), .unset] [(.int (0 : Int32)), (.ref o11)])) _
    refine st19.trans ?_
    show Steps p.tables e below (T19.setTop (mkF m 140 #[.val (.int p1), .val (.int p2), .val (.int p3), .val (.int p4), .val (.int (0 : Int32)), .val (.int (1 : Int32)), .val (.int (1 : Int32)), .val (.ref bo), .val (.ref o11), .val (.int ((0 : Int32) + (1 : Int32))), .val (.int (1 : Int32)), .unset] [(.int (((0 : Int32) + (1 : Int32)) - (0 : Int32)))])) _
    refine XS.iload X19.here hx rfl (hb hby at_140) rfl ?_
    show Steps p.tables e below (T19.setTop (mkF m 142 #[.val (.int p1), .val (.int p2), .val (.int p3), .val (.int p4), .val (.int (0 : Int32)), .val (.int (1 : Int32)), .val (.int (1 : Int32)), .val (.ref bo), .val (.ref o11), .val (.int ((0 : Int32) + (1 : Int32))), .val (.int (1 : Int32)), .unset] [(.int ((0 : Int32) + (1 : Int32))), (.int (((0 : Int32) + (1 : Int32)) - (0 : Int32)))])) _
    refine XS.icmpYes X19.here hx rfl (pc0 := 142) (pc' := 147) rfl (hb hby at_142) rfl (teq (by decide : (((0 : Int32) + (1 : Int32)) - (0 : Int32)) = ((0 : Int32) + (1 : Int32)))).1 (by decide) (by decide) ?_
    show Steps p.tables e below (T19.setTop (mkF m 147 #[.val (.int p1), .val (.int p2), .val (.int p3), .val (.int p4), .val (.int (0 : Int32)), .val (.int (1 : Int32)), .val (.int (1 : Int32)), .val (.ref bo), .val (.ref o11), .val (.int ((0 : Int32) + (1 : Int32))), .val (.int (1 : Int32)), .unset] [])) _
    refine XS.aload X19.here hx rfl (hb hby at_147) rfl rfl ?_
    show Steps p.tables e below (T19.setTop (mkF m 149 #[.val (.int p1), .val (.int p2), .val (.int p3), .val (.int p4), .val (.int (0 : Int32)), .val (.int (1 : Int32)), .val (.int (1 : Int32)), .val (.ref bo), .val (.ref o11), .val (.int ((0 : Int32) + (1 : Int32))), .val (.int (1 : Int32)), .unset] [(.ref o11)])) _
    refine XS.iconst X19.here hx rfl (hb hby at_149) ?_
    show Steps p.tables e below (T19.setTop (mkF m 150 #[.val (.int p1), .val (.int p2), .val (.int p3), .val (.int p4), .val (.int (0 : Int32)), .val (.int (1 : Int32)), .val (.int (1 : Int32)), .val (.ref bo), .val (.ref o11), .val (.int ((0 : Int32) + (1 : Int32))), .val (.int (1 : Int32)), .unset] [(.int (1 : Int32)), (.ref o11)])) _
    refine st20.trans ?_
    show Steps p.tables e below (T20.setTop (mkF m 153 #[.val (.int p1), .val (.int p2), .val (.int p3), .val (.int p4), .val (.int (0 : Int32)), .val (.int (1 : Int32)), .val (.int (1 : Int32)), .val (.ref bo), .val (.ref o11), .val (.int ((0 : Int32) + (1 : Int32))), .val (.int (1 : Int32)), .unset] [(.int ((((0 : Int32) + (1 : Int32)) + (1 : Int32)) - ((0 : Int32) + (1 : Int32))))])) _
    refine XS.iload X20.here hx rfl (hb hby at_153) rfl ?_
    show Steps p.tables e below (T20.setTop (mkF m 155 #[.val (.int p1), .val (.int p2), .val (.int p3), .val (.int p4), .val (.int (0 : Int32)), .val (.int (1 : Int32)), .val (.int (1 : Int32)), .val (.ref bo), .val (.ref o11), .val (.int ((0 : Int32) + (1 : Int32))), .val (.int (1 : Int32)), .unset] [(.int (1 : Int32)), (.int ((((0 : Int32) + (1 : Int32)) + (1 : Int32)) - ((0 : Int32) + (1 : Int32))))])) _
    refine XS.icmpYes X20.here hx rfl (pc0 := 155) (pc' := 160) rfl (hb hby at_155) rfl (teq (by decide : ((((0 : Int32) + (1 : Int32)) + (1 : Int32)) - ((0 : Int32) + (1 : Int32))) = (1 : Int32))).1 (by decide) (by decide) ?_
    show Steps p.tables e below (T20.setTop (mkF m 160 #[.val (.int p1), .val (.int p2), .val (.int p3), .val (.int p4), .val (.int (0 : Int32)), .val (.int (1 : Int32)), .val (.int (1 : Int32)), .val (.ref bo), .val (.ref o11), .val (.int ((0 : Int32) + (1 : Int32))), .val (.int (1 : Int32)), .unset] [])) _
    refine XS.iload X20.here hx rfl (hb hby at_160) rfl ?_
    show Steps p.tables e below (T20.setTop (mkF m 162 #[.val (.int p1), .val (.int p2), .val (.int p3), .val (.int p4), .val (.int (0 : Int32)), .val (.int (1 : Int32)), .val (.int (1 : Int32)), .val (.ref bo), .val (.ref o11), .val (.int ((0 : Int32) + (1 : Int32))), .val (.int (1 : Int32)), .unset] [(.int ((0 : Int32) + (1 : Int32)))])) _
    refine XS.iconst X20.here hx rfl (hb hby at_162) ?_
    show Steps p.tables e below (T20.setTop (mkF m 163 #[.val (.int p1), .val (.int p2), .val (.int p3), .val (.int p4), .val (.int (0 : Int32)), .val (.int (1 : Int32)), .val (.int (1 : Int32)), .val (.ref bo), .val (.ref o11), .val (.int ((0 : Int32) + (1 : Int32))), .val (.int (1 : Int32)), .unset] [(.int (1 : Int32)), (.int ((0 : Int32) + (1 : Int32)))])) _
    refine XS.icmpNo X20.here hx rfl (hb hby at_163) rfl (flt (by decide : ¬ (((0 : Int32) + (1 : Int32)) < (1 : Int32)))).1 ?_
    show Steps p.tables e below (T20.setTop (mkF m 166 #[.val (.int p1), .val (.int p2), .val (.int p3), .val (.int p4), .val (.int (0 : Int32)), .val (.int (1 : Int32)), .val (.int (1 : Int32)), .val (.ref bo), .val (.ref o11), .val (.int ((0 : Int32) + (1 : Int32))), .val (.int (1 : Int32)), .unset] [])) _
    refine XS.iload X20.here hx rfl (hb hby at_166) rfl ?_
    show Steps p.tables e below (T20.setTop (mkF m 168 #[.val (.int p1), .val (.int p2), .val (.int p3), .val (.int p4), .val (.int (0 : Int32)), .val (.int (1 : Int32)), .val (.int (1 : Int32)), .val (.ref bo), .val (.ref o11), .val (.int ((0 : Int32) + (1 : Int32))), .val (.int (1 : Int32)), .unset] [(.int (0 : Int32))])) _
    refine XS.ifYes X20.here hx rfl (pc0 := 168) (pc' := 175) rfl (hb hby at_168) rfl ((if0 _ _).trans (teq (by decide : (0 : Int32) = (0 : Int32))).1) (by decide) (by decide) ?_
    show Steps p.tables e below (T20.setTop (mkF m 175 #[.val (.int p1), .val (.int p2), .val (.int p3), .val (.int p4), .val (.int (0 : Int32)), .val (.int (1 : Int32)), .val (.int (1 : Int32)), .val (.ref bo), .val (.ref o11), .val (.int ((0 : Int32) + (1 : Int32))), .val (.int (1 : Int32)), .unset] [])) _
    refine XS.iloadN X20.here hx rfl (hb hby at_175) rfl ?_
    show Steps p.tables e below (T20.setTop (mkF m 176 #[.val (.int p1), .val (.int p2), .val (.int p3), .val (.int p4), .val (.int (0 : Int32)), .val (.int (1 : Int32)), .val (.int (1 : Int32)), .val (.ref bo), .val (.ref o11), .val (.int ((0 : Int32) + (1 : Int32))), .val (.int (1 : Int32)), .unset] [(.int p2)])) _
    refine XS.istore X20.here hx rfl (hb hby at_176) rfl (l' := #[.val (.int p1), .val (.int p2), .val (.int p3), .val (.int p4), .val (.int (0 : Int32)), .val (.int (1 : Int32)), .val (.int (1 : Int32)), .val (.ref bo), .val (.ref o11), .val (.int ((0 : Int32) + (1 : Int32))), .val (.int (1 : Int32)), .val (.int p2)]) rfl ?_
    show Steps p.tables e below (T20.setTop (mkF m 178 #[.val (.int p1), .val (.int p2), .val (.int p3), .val (.int p4), .val (.int (0 : Int32)), .val (.int (1 : Int32)), .val (.int (1 : Int32)), .val (.ref bo), .val (.ref o11), .val (.int ((0 : Int32) + (1 : Int32))), .val (.int (1 : Int32)), .val (.int p2)] [])) _
    refine XS.aload X20.here hx rfl (hb hby at_178) rfl rfl ?_
    show Steps p.tables e below (T20.setTop (mkF m 180 #[.val (.int p1), .val (.int p2), .val (.int p3), .val (.int p4), .val (.int (0 : Int32)), .val (.int (1 : Int32)), .val (.int (1 : Int32)), .val (.ref bo), .val (.ref o11), .val (.int ((0 : Int32) + (1 : Int32))), .val (.int (1 : Int32)), .val (.int p2)] [(.ref o11)])) _
    refine XS.iconst X20.here hx rfl (hb hby at_180) ?_
    show Steps p.tables e below (T20.setTop (mkF m 181 #[.val (.int p1), .val (.int p2), .val (.int p3), .val (.int p4), .val (.int (0 : Int32)), .val (.int (1 : Int32)), .val (.int (1 : Int32)), .val (.ref bo), .val (.ref o11), .val (.int ((0 : Int32) + (1 : Int32))), .val (.int (1 : Int32)), .val (.int p2)] [(.int (0 : Int32)), (.ref o11)])) _
    refine XS.iconst X20.here hx rfl (hb hby at_181) ?_
    show Steps p.tables e below (T20.setTop (mkF m 182 #[.val (.int p1), .val (.int p2), .val (.int p3), .val (.int p4), .val (.int (0 : Int32)), .val (.int (1 : Int32)), .val (.int (1 : Int32)), .val (.ref bo), .val (.ref o11), .val (.int ((0 : Int32) + (1 : Int32))), .val (.int (1 : Int32)), .val (.int p2)] [(.int (0 : Int32)), (.int (0 : Int32)), (.ref o11)])) _
    refine st21.trans ?_
    show Steps p.tables e below (T21.setTop (mkF m 185 #[.val (.int p1), .val (.int p2), .val (.int p3), .val (.int p4), .val (.int (0 : Int32)), .val (.int (1 : Int32)), .val (.int (1 : Int32)), .val (.ref bo), .val (.ref o11), .val (.int ((0 : Int32) + (1 : Int32))), .val (.int (1 : Int32)), .val (.int p2)] [(.int p2)])) _
    refine XS.iload X21.here hx rfl (hb hby at_185) rfl ?_
    show Steps p.tables e below (T21.setTop (mkF m 187 #[.val (.int p1), .val (.int p2), .val (.int p3), .val (.int p4), .val (.int (0 : Int32)), .val (.int (1 : Int32)), .val (.int (1 : Int32)), .val (.ref bo), .val (.ref o11), .val (.int ((0 : Int32) + (1 : Int32))), .val (.int (1 : Int32)), .val (.int p2)] [(.int p2), (.int p2)])) _
    refine XS.icmpYes X21.here hx rfl (pc0 := 187) (pc' := 192) rfl (hb hby at_187) rfl (teq (rfl : p2 = p2)).1 (by decide) (by decide) ?_
    show Steps p.tables e below (T21.setTop (mkF m 192 #[.val (.int p1), .val (.int p2), .val (.int p3), .val (.int p4), .val (.int (0 : Int32)), .val (.int (1 : Int32)), .val (.int (1 : Int32)), .val (.ref bo), .val (.ref o11), .val (.int ((0 : Int32) + (1 : Int32))), .val (.int (1 : Int32)), .val (.int p2)] [])) _
    refine XS.iload X21.here hx rfl (hb hby at_192) rfl ?_
    show Steps p.tables e below (T21.setTop (mkF m 194 #[.val (.int p1), .val (.int p2), .val (.int p3), .val (.int p4), .val (.int (0 : Int32)), .val (.int (1 : Int32)), .val (.int (1 : Int32)), .val (.ref bo), .val (.ref o11), .val (.int ((0 : Int32) + (1 : Int32))), .val (.int (1 : Int32)), .val (.int p2)] [(.int ((0 : Int32) + (1 : Int32)))])) _
    refine XS.iconst X21.here hx rfl (hb hby at_194) ?_
    show Steps p.tables e below (T21.setTop (mkF m 195 #[.val (.int p1), .val (.int p2), .val (.int p3), .val (.int p4), .val (.int (0 : Int32)), .val (.int (1 : Int32)), .val (.int (1 : Int32)), .val (.ref bo), .val (.ref o11), .val (.int ((0 : Int32) + (1 : Int32))), .val (.int (1 : Int32)), .val (.int p2)] [(.int (2 : Int32)), (.int ((0 : Int32) + (1 : Int32)))])) _
    refine XS.icmpYes X21.here hx rfl (pc0 := 195) (pc' := 211) rfl (hb hby at_195) rfl (feq (by decide : ¬ (((0 : Int32) + (1 : Int32)) = (2 : Int32)))).2 (by decide) (by decide) ?_
    show Steps p.tables e below (T21.setTop (mkF m 211 #[.val (.int p1), .val (.int p2), .val (.int p3), .val (.int p4), .val (.int (0 : Int32)), .val (.int (1 : Int32)), .val (.int (1 : Int32)), .val (.ref bo), .val (.ref o11), .val (.int ((0 : Int32) + (1 : Int32))), .val (.int (1 : Int32)), .val (.int p2)] [])) _
    refine XS.iload X21.here hx rfl (hb hby at_211) rfl ?_
    show Steps p.tables e below (T21.setTop (mkF m 213 #[.val (.int p1), .val (.int p2), .val (.int p3), .val (.int p4), .val (.int (0 : Int32)), .val (.int (1 : Int32)), .val (.int (1 : Int32)), .val (.ref bo), .val (.ref o11), .val (.int ((0 : Int32) + (1 : Int32))), .val (.int (1 : Int32)), .val (.int p2)] [(.int (1 : Int32))])) _
    refine XS.iconst X21.here hx rfl (hb hby at_213) ?_
    show Steps p.tables e below (T21.setTop (mkF m 214 #[.val (.int p1), .val (.int p2), .val (.int p3), .val (.int p4), .val (.int (0 : Int32)), .val (.int (1 : Int32)), .val (.int (1 : Int32)), .val (.ref bo), .val (.ref o11), .val (.int ((0 : Int32) + (1 : Int32))), .val (.int (1 : Int32)), .val (.int p2)] [(.int (1 : Int32)), (.int (1 : Int32))])) _
    refine XS.icmpNo X21.here hx rfl (hb hby at_214) rfl (teq (by decide : (1 : Int32) = (1 : Int32))).2 ?_
    show Steps p.tables e below (T21.setTop (mkF m 217 #[.val (.int p1), .val (.int p2), .val (.int p3), .val (.int p4), .val (.int (0 : Int32)), .val (.int (1 : Int32)), .val (.int (1 : Int32)), .val (.ref bo), .val (.ref o11), .val (.int ((0 : Int32) + (1 : Int32))), .val (.int (1 : Int32)), .val (.int p2)] [])) _
    refine XS.aload X21.here hx rfl (hb hby at_217) rfl rfl ?_
    show Steps p.tables e below (T21.setTop (mkF m 219 #[.val (.int p1), .val (.int p2), .val (.int p3), .val (.int p4), .val (.int (0 : Int32)), .val (.int (1 : Int32)), .val (.int (1 : Int32)), .val (.ref bo), .val (.ref o11), .val (.int ((0 : Int32) + (1 : Int32))), .val (.int (1 : Int32)), .val (.int p2)] [(.ref o11)])) _
    refine XS.iconst X21.here hx rfl (hb hby at_219) ?_
    show Steps p.tables e below (T21.setTop (mkF m 220 #[.val (.int p1), .val (.int p2), .val (.int p3), .val (.int p4), .val (.int (0 : Int32)), .val (.int (1 : Int32)), .val (.int (1 : Int32)), .val (.ref bo), .val (.ref o11), .val (.int ((0 : Int32) + (1 : Int32))), .val (.int (1 : Int32)), .val (.int p2)] [(.int (1 : Int32)), (.ref o11)])) _
    refine XS.iconst X21.here hx rfl (hb hby at_220) ?_
    show Steps p.tables e below (T21.setTop (mkF m 221 #[.val (.int p1), .val (.int p2), .val (.int p3), .val (.int p4), .val (.int (0 : Int32)), .val (.int (1 : Int32)), .val (.int (1 : Int32)), .val (.ref bo), .val (.ref o11), .val (.int ((0 : Int32) + (1 : Int32))), .val (.int (1 : Int32)), .val (.int p2)] [(.int (0 : Int32)), (.int (1 : Int32)), (.ref o11)])) _
    refine st22.trans ?_
    show Steps p.tables e below (T22.setTop (mkF m 224 #[.val (.int p1), .val (.int p2), .val (.int p3), .val (.int p4), .val (.int (0 : Int32)), .val (.int (1 : Int32)), .val (.int (1 : Int32)), .val (.ref bo), .val (.ref o11), .val (.int ((0 : Int32) + (1 : Int32))), .val (.int (1 : Int32)), .val (.int p2)] [(.int p3)])) _
    refine XS.iloadN X22.here hx rfl (hb hby at_224) rfl ?_
    show Steps p.tables e below (T22.setTop (mkF m 225 #[.val (.int p1), .val (.int p2), .val (.int p3), .val (.int p4), .val (.int (0 : Int32)), .val (.int (1 : Int32)), .val (.int (1 : Int32)), .val (.ref bo), .val (.ref o11), .val (.int ((0 : Int32) + (1 : Int32))), .val (.int (1 : Int32)), .val (.int p2)] [(.int p3), (.int p3)])) _
    refine XS.icmpYes X22.here hx rfl (pc0 := 225) (pc' := 230) rfl (hb hby at_225) rfl (teq (rfl : p3 = p3)).1 (by decide) (by decide) ?_
    show Steps p.tables e below (T22.setTop (mkF m 230 #[.val (.int p1), .val (.int p2), .val (.int p3), .val (.int p4), .val (.int (0 : Int32)), .val (.int (1 : Int32)), .val (.int (1 : Int32)), .val (.ref bo), .val (.ref o11), .val (.int ((0 : Int32) + (1 : Int32))), .val (.int (1 : Int32)), .val (.int p2)] [])) _
    refine XS.iconst X22.here hx rfl (hb hby at_230) ?_
    show Steps p.tables e below (T22.setTop (mkF m 231 #[.val (.int p1), .val (.int p2), .val (.int p3), .val (.int p4), .val (.int (0 : Int32)), .val (.int (1 : Int32)), .val (.int (1 : Int32)), .val (.ref bo), .val (.ref o11), .val (.int ((0 : Int32) + (1 : Int32))), .val (.int (1 : Int32)), .val (.int p2)] [(.int (1 : Int32))])) _
    exact retN X22 hx (t := .boolean) Bd.returns (by simp) (hb hby at_231) hr
  · show Q0 n0 _ _ _
    exact ⟨rfl, N22⟩
set_option maxRecDepth 65536 in
set_option maxHeartbeats 40000000 in
theorem rm0_100 (l : Launch) (Z : State) (a0 : Array Value) (hw : ∀ d ∈ tables_1, d.before a0 Z = true) (ws : List Jvm.Cond) (p1 p2 p3 p4 : Int32) (h0 : Heap) (n0 : Nat) (Z0 : n0 ≤ h0.size)  (hc3 : ¬ ((p4 &&& (1 : Int32)) = (0 : Int32))) (hc16 : (p4 &&& (2 : Int32)) = (0 : Int32)) (hc29 : (p4 &&& (4 : Int32)) = (0 : Int32)) :
    MetFree l x (head1 (Jvm.Cond.code x code maxLocals ret :: ws) room_1) (fun a U => a = #[(.int p1), (.int p2), (.int p3), (.int p4)] ∧ Z.Warmed39 U.vm ∧ U.heap = h0) (fun _ _ _ _ _ => True) (fun _ U o U' => ∃ v L, o = .returned v ∧ Q0 n0 v U'.heap L ∧ FrameEnd U o U' L room_1.cells room_1.slots) := by
  refine MetFree.of_bodySF (plainFor_of_name pn_org_keyward_securitymodel_BuilderEndPinLaw) hisR ?_
  intro p e s m args below meth cd s₁ Bd hml0 hPre hKc
  obtain ⟨rfl, hZ, hHp⟩ := hPre
  have hx := Bd.exec
  have hby := Bd.bytes
  have hml : cd.maxLocals = 12 := hml0
  have hown : s.vm.findClass "org/keyward/securitymodel/BuilderEndPinLaw" = some m.cls := findClass_of_methodNamed Bd.named
  have hnm := (name_of_methodNamed Bd.named Bd.method).1
  have X0 : Stand p l e room_1 s m #[(.int p1), (.int p2), (.int p3), (.int p4)] below meth cd s₁ [] 0 0 := Stand.of_body Bd
  have e0 : s₁.heap = h0 := by rw [← hHp, Bd.state]; rfl
  have N0 := Fr.nil n0
  have pre0 : ∀ t, Steps p.tables e below (s₁.setTop (mkF m 0 #[.val (.int p1), .val (.int p2), .val (.int p3), .val (.int p4), .unset, .unset, .unset, .unset, .unset, .unset, .unset, .unset] [])) t → Steps p.tables e below (s₁.setTop (entryFrame m #[(.int p1), (.int p2), (.int p3), (.int p4)] maxLocals)) t := fun t k => castTop (ef_0 m p1 p2 p3 p4) k
  obtain ⟨T1, h1, X1, e1, E1, A1, D1, -, st1⟩ := newO X0 hx hZ hown (hw _ (List.mem_of_getElem? (i := 0) rfl)) (hw _ (List.mem_of_getElem? (i := 1) rfl)) (hw _ (List.mem_of_getElem? (i := 2) rfl)) e0 (g := (mkF m 39 #[.val (.int p1), .val (.int p2), .val (.int p3), .val (.int p4), .val (.int (1 : Int32)), .val (.int (0 : Int32)), .val (.int (0 : Int32)), .unset, .unset, .unset, .unset, .unset] [])) rfl (hb hby at_39) (Nat.le_of_ble_eq_true rfl) (Nat.le_of_ble_eq_true rfl)
  obtain ⟨bo, g1⟩ : ∃ z, z = h0.size := ⟨_, rfl⟩
  rw [← g1] at A1 D1 st1
  have g_bo : n0 ≤ bo := Nat.le_trans Z0 (Nat.le_of_eq g1.symm)
  have z1 : n0 ≤ h1.size := Nat.le_trans Z0 E1.1
  have F_numbers_bo : Fld Z h1 bo "org/keyward/securitymodel/NumberLists$Builder" "numbers" "[I" .null := D1 (Or.inl (hw _ (List.mem_of_getElem? (i := 11) rfl))) (ty := (.array .int)) (by decide)
  have F_starts_bo : Fld Z h1 bo "org/keyward/securitymodel/NumberLists$Builder" "starts" "[I" .null := D1 (Or.inr (hw _ (List.mem_of_getElem? (i := 13) rfl))) (ty := (.array .int)) (by decide)
  have F_count_bo : Fld Z h1 bo "org/keyward/securitymodel/NumberLists$Builder" "count" "I" (.int (0 : Int32)) := D1 (Or.inl (hw _ (List.mem_of_getElem? (i := 20) rfl))) (ty := .int) (by decide)
  have F_listed_bo : Fld Z h1 bo "org/keyward/securitymodel/NumberLists$Builder" "listed" "I" (.int (0 : Int32)) := D1 (Or.inl (hw _ (List.mem_of_getElem? (i := 27) rfl))) (ty := .int) (by decide)
  obtain ⟨_, _, ⟨T2, L2, k2, n2⟩, -, X2, ⟨Lc2, hQ2, l2, y2, z2⟩, st2⟩ := X1.specialBack hx (y := (⟨"org/keyward/securitymodel/NumberLists$Builder", "<init>", "(I)V"⟩ : MethodName)) rfl hown (mvT hZ (hw _ (List.mem_of_getElem? (i := 3) rfl))) (mvT hZ (hw _ (List.mem_of_getElem? (i := 4) rfl))) (mvT hZ (hw _ (List.mem_of_getElem? (i := 5) rfl))) (by decide) (backOf (W := 1) (rm1 l Z a0 hw [] bo _ _ h1 n0 z1 A1 g_bo F_numbers_bo F_starts_bo F_count_bo F_listed_bo) hZ (hw _ (List.mem_of_getElem? (i := 5) rfl)) (hw _ (List.mem_of_getElem? (i := 2) rfl)) (by decide) (by decide)) (g := (mkF m 44 #[.val (.int p1), .val (.int p2), .val (.int p3), .val (.int p4), .val (.int (1 : Int32)), .val (.int (0 : Int32)), .val (.int (0 : Int32)), .unset, .unset, .unset, .unset, .unset] [(.int (2 : Int32)), (.ref bo), (.ref bo)])) rfl (by rw [hml]; rfl) (Steps.refl _) (a := bo) (argsL := [(.int (2 : Int32))]) (rest := [(.ref bo)]) (lenOf pd__I_V rfl) rfl (by show 2 * 0 + _ ≤ _; exact Nat.le_of_eq rfl) (hb hby at_44) (fun _ _ => ⟨rfl, e1, (Nat.le_of_ble_eq_true rfl), (Nat.le_of_ble_eq_true rfl)⟩)
  dsimp only [Pt.U, Pt.locs, Pt.cells, Pt.slots] at X2 l2 y2 z2 st2 hQ2
  subst l2 y2 z2
  obtain ⟨rfl, N2q, nb, sb, kn, ks, Kc2, Eb2, Fnumbers2, Fstarts2, Fcount2, Flisted2, Vn2, Vs2, gn2, gs2, ne12, ne22, ne32⟩ := hQ2
  have N2 := Fr.app N0 N2q
  have zz2 : n0 ≤ T2.heap.size := Nat.le_trans z1 Kc2.1
  obtain ⟨cq3, kq3, q3a, q3b, q3c⟩ := isOf hZ rfl Eb2
  obtain ⟨_, _, ⟨T3, L3, k3, n3⟩, -, X3, ⟨Lc3, hQ3, l3, y3, z3⟩, st3⟩ := X2.virtualBack hx (y := (⟨"org/keyward/securitymodel/NumberLists$Builder", "add", "(I)V"⟩ : MethodName)) (z := (⟨"org/keyward/securitymodel/NumberLists$Builder", "add", "(I)V"⟩ : MethodName)) hown (mvT hZ (hw _ (List.mem_of_getElem? (i := 14) rfl))) (mvT hZ (hw _ (List.mem_of_getElem? (i := 15) rfl))) (notFace_of_selects (args := #[]) (mvT hZ (hw _ (List.mem_of_getElem? (i := 17) rfl)))) (mvT hZ (hw _ (List.mem_of_getElem? (i := 17) rfl))) (mvT hZ (hw _ (List.mem_of_getElem? (i := 16) rfl))) (by decide) (backOf (W := 0) (rm3 l Z a0 hw [] bo p1 nb sb (0 : Int32) (0 : Int32) kn _ 0 T2.heap n0 zz2 Eb2 Fnumbers2 Fstarts2 Fcount2 Flisted2 g_bo gn2 ne12 Vn2 (by decide) (by decide) (Nat.le_of_ble_eq_true rfl)) hZ (hw _ (List.mem_of_getElem? (i := 18) rfl)) (hw _ (List.mem_of_getElem? (i := 2) rfl)) (by decide) (by decide)) q3a q3c (g := (mkF m 57 #[.val (.int p1), .val (.int p2), .val (.int p3), .val (.int p4), .val (.int (1 : Int32)), .val (.int (0 : Int32)), .val (.int (0 : Int32)), .val (.ref bo), .unset, .unset, .unset, .unset] [(.int p1), (.ref bo)])) rfl (by rw [hml]; rfl) (Steps.refl _) (argsL := [(.int p1)]) (rest := []) (lenOf pd__I_V rfl) rfl (by show 2 * 0 + _ ≤ _; exact Nat.le_of_eq rfl) (hb hby at_57) (fun _ _ => ⟨rfl, rfl, (Nat.le_of_ble_eq_true rfl), (Nat.le_of_ble_eq_true rfl)⟩)
  dsimp only [Pt.U, Pt.locs, Pt.cells, Pt.slots] at X3 l3 y3 z3 st3 hQ3
  subst l3 y3 z3
  obtain ⟨rfl, N3q, Kc3, Eb3, Fnumbers3, Fstarts3, Fcount3, Flisted3, Vn3⟩ := hQ3
  have N3 := Fr.app N2 N3q
  have f4_V_sb := Vs2.keep Kc3 (ninS (Ne.symm ne22) (ninS (Ne.symm ne32) nin0))
  have zz3 : n0 ≤ T3.heap.size := Nat.le_trans zz2 Kc3.1
  have Vx3 : Arv Z T3.heap nb kn .int (16 : Int32) [(.int p1), (.int (0 : Int32)), (.int (0 : Int32)), (.int (0 : Int32)), (.int (0 : Int32)), (.int (0 : Int32)), (.int (0 : Int32)), (.int (0 : Int32)), (.int (0 : Int32)), (.int (0 : Int32)), (.int (0 : Int32)), (.int (0 : Int32)), (.int (0 : Int32)), (.int (0 : Int32)), (.int (0 : Int32)), (.int (0 : Int32))] (.int (0 : Int32)) := Vn3
  obtain ⟨cq5, kq5, q5a, q5b, q5c⟩ := isOf hZ rfl Eb3
  obtain ⟨_, _, ⟨T5, L5, k5, n5⟩, -, X5, ⟨Lc5, hQ5, l5, y5, z5⟩, st5⟩ := X3.virtualBack hx (y := (⟨"org/keyward/securitymodel/NumberLists$Builder", "end", "()V"⟩ : MethodName)) (z := (⟨"org/keyward/securitymodel/NumberLists$Builder", "end", "()V"⟩ : MethodName)) hown (mvT hZ (hw _ (List.mem_of_getElem? (i := 21) rfl))) (mvT hZ (hw _ (List.mem_of_getElem? (i := 22) rfl))) (notFace_of_selects (args := #[]) (mvT hZ (hw _ (List.mem_of_getElem? (i := 24) rfl)))) (mvT hZ (hw _ (List.mem_of_getElem? (i := 24) rfl))) (mvT hZ (hw _ (List.mem_of_getElem? (i := 23) rfl))) (by decide) (backOf (W := 0) (rm4 l Z a0 hw [] bo nb sb ((0 : Int32) + (1 : Int32)) (0 : Int32) ks _ 1 T3.heap n0 zz3 Eb3 Fnumbers3 Fstarts3 Fcount3 Flisted3 g_bo gs2 ne22 f4_V_sb (by decide) (by decide) (Nat.le_of_ble_eq_true rfl)) hZ (hw _ (List.mem_of_getElem? (i := 25) rfl)) (hw _ (List.mem_of_getElem? (i := 2) rfl)) (by decide) (by decide)) q5a q5c (g := (mkF m 73 #[.val (.int p1), .val (.int p2), .val (.int p3), .val (.int p4), .val (.int (1 : Int32)), .val (.int (0 : Int32)), .val (.int (0 : Int32)), .val (.ref bo), .unset, .unset, .unset, .unset] [(.ref bo)])) rfl (by rw [hml]; rfl) (Steps.refl _) (argsL := []) (rest := []) (lenOf pd___V rfl) rfl (by show 2 * 0 + _ ≤ _; exact Nat.le_of_eq rfl) (hb hby at_73) (fun _ _ => ⟨rfl, rfl, (Nat.le_of_ble_eq_true rfl), (Nat.le_of_ble_eq_true rfl)⟩)
  dsimp only [Pt.U, Pt.locs, Pt.cells, Pt.slots] at X5 l5 y5 z5 st5 hQ5
  subst l5 y5 z5
  obtain ⟨rfl, N5q, Kc5, Eb5, Fnumbers5, Fstarts5, Fcount5, Flisted5, Vs5⟩ := hQ5
  have N5 := Fr.app N3 N5q
  have f6_V_nb := Vx3.keep Kc5 (ninS (Ne.symm ne12) (ninS ne32 nin0))
  have zz5 : n0 ≤ T5.heap.size := Nat.le_trans zz3 Kc5.1
  have Vx5 : Arv Z T5.heap sb ks .int (3 : Int32) [(.int (0 : Int32)), (.int ((0 : Int32) + (1 : Int32))), (.int (0 : Int32))] (.int (0 : Int32)) := Vs5
  obtain ⟨cq7, kq7, q7a, q7b, q7c⟩ := isOf hZ rfl Eb5
  obtain ⟨_, _, ⟨T7, L7, k7, n7⟩, -, X7, ⟨Lc7, hQ7, l7, y7, z7⟩, st7⟩ := X5.virtualBack hx (y := (⟨"org/keyward/securitymodel/NumberLists$Builder", "end", "()V"⟩ : MethodName)) (z := (⟨"org/keyward/securitymodel/NumberLists$Builder", "end", "()V"⟩ : MethodName)) hown (mvT hZ (hw _ (List.mem_of_getElem? (i := 21) rfl))) (mvT hZ (hw _ (List.mem_of_getElem? (i := 22) rfl))) (notFace_of_selects (args := #[]) (mvT hZ (hw _ (List.mem_of_getElem? (i := 24) rfl)))) (mvT hZ (hw _ (List.mem_of_getElem? (i := 24) rfl))) (mvT hZ (hw _ (List.mem_of_getElem? (i := 23) rfl))) (by decide) (backOf (W := 0) (rm4 l Z a0 hw [] bo nb sb ((0 : Int32) + (1 : Int32)) ((0 : Int32) + (1 : Int32)) ks _ 2 T5.heap n0 zz5 Eb5 Fnumbers5 Fstarts5 Fcount5 Flisted5 g_bo gs2 ne22 Vx5 (by decide) (by decide) (Nat.le_of_ble_eq_true rfl)) hZ (hw _ (List.mem_of_getElem? (i := 25) rfl)) (hw _ (List.mem_of_getElem? (i := 2) rfl)) (by decide) (by decide)) q7a q7c (g := (mkF m 89 #[.val (.int p1), .val (.int p2), .val (.int p3), .val (.int p4), .val (.int (1 : Int32)), .val (.int (0 : Int32)), .val (.int (0 : Int32)), .val (.ref bo), .unset, .unset, .unset, .unset] [(.ref bo)])) rfl (by rw [hml]; rfl) (Steps.refl _) (argsL := []) (rest := []) (lenOf pd___V rfl) rfl (by show 2 * 0 + _ ≤ _; exact Nat.le_of_eq rfl) (hb hby at_89) (fun _ _ => ⟨rfl, rfl, (Nat.le_of_ble_eq_true rfl), (Nat.le_of_ble_eq_true rfl)⟩)
  dsimp only [Pt.U, Pt.locs, Pt.cells, Pt.slots] at X7 l7 y7 z7 st7 hQ7
  subst l7 y7 z7
  obtain ⟨rfl, N7q, Kc7, Eb7, Fnumbers7, Fstarts7, Fcount7, Flisted7, Vs7⟩ := hQ7
  have N7 := Fr.app N5 N7q
  have f8_V_nb := f6_V_nb.keep Kc7 (ninS (Ne.symm ne12) (ninS ne32 nin0))
  have zz7 : n0 ≤ T7.heap.size := Nat.le_trans zz5 Kc7.1
  have Vx7 : Arv Z T7.heap sb ks .int (3 : Int32) [(.int (0 : Int32)), (.int ((0 : Int32) + (1 : Int32))), (.int ((0 : Int32) + (1 : Int32)))] (.int (0 : Int32)) := Vs7
  obtain ⟨cq9, kq9, q9a, q9b, q9c⟩ := isOf hZ rfl Eb7
  obtain ⟨_, _, ⟨T9, L9, k9, n9⟩, -, X9, ⟨Lc9, hQ9, l9, y9, z9⟩, st9⟩ := X7.virtualBack hx (y := (⟨"org/keyward/securitymodel/NumberLists$Builder", "build", "()Lorg/keyward/securitymodel/NumberLists;"⟩ : MethodName)) (z := (⟨"org/keyward/securitymodel/NumberLists$Builder", "build", "()Lorg/keyward/securitymodel/NumberLists;"⟩ : MethodName)) hown (mvT hZ (hw _ (List.mem_of_getElem? (i := 28) rfl))) (mvT hZ (hw _ (List.mem_of_getElem? (i := 29) rfl))) (notFace_of_selects (args := #[]) (mvT hZ (hw _ (List.mem_of_getElem? (i := 31) rfl)))) (mvT hZ (hw _ (List.mem_of_getElem? (i := 31) rfl))) (mvT hZ (hw _ (List.mem_of_getElem? (i := 30) rfl))) (by decide) (backOf (W := 0) (rm5 l Z a0 hw [] bo nb sb ((0 : Int32) + (1 : Int32)) (((0 : Int32) + (1 : Int32)) + (1 : Int32)) kn ks _ _ 1 T7.heap n0 zz7 Eb7 Fnumbers7 Fstarts7 Fcount7 Flisted7 f8_V_nb Vx7 (by decide) (by decide) (by decide) (by decide)) hZ (hw _ (List.mem_of_getElem? (i := 32) rfl)) (hw _ (List.mem_of_getElem? (i := 2) rfl)) (by decide) (by decide)) q9a q9c (g := (mkF m 94 #[.val (.int p1), .val (.int p2), .val (.int p3), .val (.int p4), .val (.int (1 : Int32)), .val (.int (0 : Int32)), .val (.int (0 : Int32)), .val (.ref bo), .unset, .unset, .unset, .unset] [(.ref bo)])) rfl (by rw [hml]; rfl) (Steps.refl _) (argsL := []) (rest := []) (lenOf pd___Lorg_keyward_securitymodel_NumberLists_ rfl) rfl (by show 2 * 0 + _ ≤ _; exact Nat.le_of_eq rfl) (hb hby at_94) (fun _ _ => ⟨rfl, rfl, (Nat.le_of_ble_eq_true rfl), (Nat.le_of_ble_eq_true rfl)⟩)
  dsimp only [Pt.U, Pt.locs, Pt.cells, Pt.slots] at X9 l9 y9 z9 st9 hQ9
  subst l9 y9 z9
  obtain ⟨o9, mb9, km9, rfl, N9q, Kc9, Eo9, So9, No9, Vm9⟩ := hQ9
  have N9 := Fr.app N7 N9q
  have f10_V_nb := f8_V_nb.keep Kc9 nin0
  have f11_E_bo := Eb7.keep Kc9
  have f12_F_bo_numbers := Fnumbers7.keep Kc9 nin0
  have f13_F_bo_starts := Fstarts7.keep Kc9 nin0
  have f14_F_bo_count := Fcount7.keep Kc9 nin0
  have f15_F_bo_listed := Flisted7.keep Kc9 nin0
  have f16_V_sb := Vx7.keep Kc9 nin0
  have zz9 : n0 ≤ T9.heap.size := Nat.le_trans zz7 Kc9.1
  obtain ⟨cq17, kq17, q17a, q17b, q17c⟩ := isOf hZ rfl Eo9
  obtain ⟨_, _, ⟨T17, L17, k17, n17⟩, -, X17, ⟨Lc17, hQ17, l17, y17, z17⟩, st17⟩ := X9.virtualBack hx (y := (⟨"org/keyward/securitymodel/NumberLists", "size", "(I)I"⟩ : MethodName)) (z := (⟨"org/keyward/securitymodel/NumberLists", "size", "(I)I"⟩ : MethodName)) hown (mvT hZ (hw _ (List.mem_of_getElem? (i := 56) rfl))) (mvT hZ (hw _ (List.mem_of_getElem? (i := 57) rfl))) (notFace_of_selects (args := #[]) (mvT hZ (hw _ (List.mem_of_getElem? (i := 59) rfl)))) (mvT hZ (hw _ (List.mem_of_getElem? (i := 59) rfl))) (mvT hZ (hw _ (List.mem_of_getElem? (i := 58) rfl))) (by decide) (backOf (W := 0) (rm9 l Z a0 hw [] o9 (0 : Int32) sb ks _ ((0 : Int32) + (1 : Int32)) (0 : Int32) T9.heap n0 zz9 So9 f16_V_sb (by decide) (by decide) rfl rfl) hZ (hw _ (List.mem_of_getElem? (i := 60) rfl)) (hw _ (List.mem_of_getElem? (i := 35) rfl)) (by decide) (by decide)) q17a q17c (g := (mkF m 137 #[.val (.int p1), .val (.int p2), .val (.int p3), .val (.int p4), .val (.int (1 : Int32)), .val (.int (0 : Int32)), .val (.int (0 : Int32)), .val (.ref bo), .val (.ref o9), .val (.int ((1 : Int32) + (0 : Int32))), .val (.int (0 : Int32)), .unset] [(.int (0 : Int32)), (.ref o9)])) rfl (by rw [hml]; rfl) (Steps.refl _) (argsL := [(.int (0 : Int32))]) (rest := []) (lenOf pd__I_I rfl) rfl (by show 2 * 0 + _ ≤ _; exact Nat.le_of_eq rfl) (hb hby at_137) (fun _ _ => ⟨rfl, rfl, (Nat.le_of_ble_eq_true rfl), (Nat.le_of_ble_eq_true rfl)⟩)
  dsimp only [Pt.U, Pt.locs, Pt.cells, Pt.slots] at X17 l17 y17 z17 st17 hQ17
  subst l17 y17 z17
  obtain ⟨rfl, N17q, e17⟩ := hQ17
  have N17 := Fr.app N9 N17q
  obtain ⟨cq18, kq18, q18a, q18b, q18c⟩ := isOf hZ e17 Eo9
  obtain ⟨_, _, ⟨T18, L18, k18, n18⟩, -, X18, ⟨Lc18, hQ18, l18, y18, z18⟩, st18⟩ := X17.virtualBack hx (y := (⟨"org/keyward/securitymodel/NumberLists", "size", "(I)I"⟩ : MethodName)) (z := (⟨"org/keyward/securitymodel/NumberLists", "size", "(I)I"⟩ : MethodName)) hown (mvT hZ (hw _ (List.mem_of_getElem? (i := 56) rfl))) (mvT hZ (hw _ (List.mem_of_getElem? (i := 57) rfl))) (notFace_of_selects (args := #[]) (mvT hZ (hw _ (List.mem_of_getElem? (i := 59) rfl)))) (mvT hZ (hw _ (List.mem_of_getElem? (i := 59) rfl))) (mvT hZ (hw _ (List.mem_of_getElem? (i := 58) rfl))) (by decide) (backOf (W := 0) (rm9 l Z a0 hw [] o9 (1 : Int32) sb ks _ ((0 : Int32) + (1 : Int32)) ((0 : Int32) + (1 : Int32)) T9.heap n0 zz9 So9 f16_V_sb (by decide) (by decide) rfl rfl) hZ (hw _ (List.mem_of_getElem? (i := 60) rfl)) (hw _ (List.mem_of_getElem? (i := 35) rfl)) (by decide) (by decide)) q18a q18c (g := (mkF m 150 #[.val (.int p1), .val (.int p2), .val (.int p3), .val (.int p4), .val (.int (1 : Int32)), .val (.int (0 : Int32)), .val (.int (0 : Int32)), .val (.ref bo), .val (.ref o9), .val (.int ((1 : Int32) + (0 : Int32))), .val (.int (0 : Int32)), .unset] [(.int (1 : Int32)), (.ref o9)])) rfl (by rw [hml]; rfl) (Steps.refl _) (argsL := [(.int (1 : Int32))]) (rest := []) (lenOf pd__I_I rfl) rfl (by show 2 * 0 + _ ≤ _; exact Nat.le_of_eq rfl) (hb hby at_150) (fun _ _ => ⟨rfl, e17, (Nat.le_of_ble_eq_true rfl), (Nat.le_of_ble_eq_true rfl)⟩)
  dsimp only [Pt.U, Pt.locs, Pt.cells, Pt.slots] at X18 l18 y18 z18 st18 hQ18
  subst l18 y18 z18
  obtain ⟨rfl, N18q, e18⟩ := hQ18
  have N18 := Fr.app N17 N18q
  obtain ⟨cq19, kq19, q19a, q19b, q19c⟩ := isOf hZ e18 Eo9
  obtain ⟨_, _, ⟨T19, L19, k19, n19⟩, -, X19, ⟨Lc19, hQ19, l19, y19, z19⟩, st19⟩ := X18.virtualBack hx (y := (⟨"org/keyward/securitymodel/NumberLists", "get", "(II)I"⟩ : MethodName)) (z := (⟨"org/keyward/securitymodel/NumberLists", "get", "(II)I"⟩ : MethodName)) hown (mvT hZ (hw _ (List.mem_of_getElem? (i := 61) rfl))) (mvT hZ (hw _ (List.mem_of_getElem? (i := 62) rfl))) (notFace_of_selects (args := #[]) (mvT hZ (hw _ (List.mem_of_getElem? (i := 64) rfl)))) (mvT hZ (hw _ (List.mem_of_getElem? (i := 64) rfl))) (mvT hZ (hw _ (List.mem_of_getElem? (i := 63) rfl))) (by decide) (backOf (W := 0) (rm10 l Z a0 hw [] o9 (0 : Int32) (0 : Int32) sb mb9 ks _ _ _ ((0 : Int32) + (1 : Int32)) (0 : Int32) p1 T9.heap n0 zz9 So9 No9 f16_V_sb Vm9 (by decide) rfl (by decide) rfl) hZ (hw _ (List.mem_of_getElem? (i := 65) rfl)) (hw _ (List.mem_of_getElem? (i := 35) rfl)) (by decide) (by decide)) q19a q19c (g := (mkF m 182 #[.val (.int p1), .val (.int p2), .val (.int p3), .val (.int p4), .val (.int (1 : Int32)), .val (.int (0 : Int32)), .val (.int (0 : Int32)), .val (.ref bo), .val (.ref o9), .val (.int ((1 : Int32) + (0 : Int32))), .val (.int (0 : Int32)), .val (.int p1)] [(.int (0 : Int32)), (.int (0 : Int32)), (.ref o9)])) rfl (by rw [hml]; rfl) (Steps.refl _) (argsL := [(.int (0 : Int32)), (.int (0 : Int32))]) (rest := []) (lenOf pd__II_I rfl) rfl (by show 2 * 0 + _ ≤ _; exact Nat.le_of_eq rfl) (hb hby at_182) (fun _ _ => ⟨rfl, e18, (Nat.le_of_ble_eq_true rfl), (Nat.le_of_ble_eq_true rfl)⟩)
  dsimp only [Pt.U, Pt.locs, Pt.cells, Pt.slots] at X19 l19 y19 z19 st19 hQ19
  subst l19 y19 z19
  obtain ⟨rfl, N19q, e19⟩ := hQ19
  have N19 := Fr.app N18 N19q
  obtain ⟨fs, hr, hrun, hended, hW, hsame⟩ := X19.leave (v := some (.int (1 : Int32))) (fun h => by rw [Bd.returns] at h; cases h)
  refine ⟨_, _, pre0 _ ?_, hrun, hended, _, _, rfl, ?_, ⟨_, rfl⟩, hW, hsame.mono (by decide) (by decide)⟩
  · show Steps p.tables e below (s₁.setTop (mkF m 0 #[.val (.int p1), .val (.int p2), .val (.int p3), .val (.int p4), .unset, .unset, .unset, .unset, .unset, .unset, .unset, .unset] [])) _
    refine XS.iloadN X0.here hx rfl (hb hby at_0) rfl ?_
    show Steps p.tables e below (s₁.setTop (mkF m 1 #[.val (.int p1), .val (.int p2), .val (.int p3), .val (.int p4), .unset, .unset, .unset, .unset, .unset, .unset, .unset, .unset] [(.int p4)])) _
    refine XS.iconst X0.here hx rfl (hb hby at_1) ?_
    show Steps p.tables e below (s₁.setTop (mkF m 2 #[.val (.int p1), .val (.int p2), .val (.int p3), .val (.int p4), .unset, .unset, .unset, .unset, .unset, .unset, .unset, .unset] [(.int (1 : Int32)), (.int p4)])) _
    refine XS.iand X0.here hx rfl (hb hby at_2) rfl ?_
    show Steps p.tables e below (s₁.setTop (mkF m 3 #[.val (.int p1), .val (.int p2), .val (.int p3), .val (.int p4), .unset, .unset, .unset, .unset, .unset, .unset, .unset, .unset] [(.int (p4 &&& (1 : Int32)))])) _
    refine XS.ifNo X0.here hx rfl (hb hby at_3) rfl ((if0 _ _).trans (feq hc3).1) ?_
    show Steps p.tables e below (s₁.setTop (mkF m 6 #[.val (.int p1), .val (.int p2), .val (.int p3), .val (.int p4), .unset, .unset, .unset, .unset, .unset, .unset, .unset, .unset] [])) _
    refine XS.iconst X0.here hx rfl (hb hby at_6) ?_
    show Steps p.tables e below (s₁.setTop (mkF m 7 #[.val (.int p1), .val (.int p2), .val (.int p3), .val (.int p4), .unset, .unset, .unset, .unset, .unset, .unset, .unset, .unset] [(.int (1 : Int32))])) _
    refine XS.goto X0.here hx rfl (pc0 := 7) (pc' := 11) rfl (hb hby at_7) (by decide) (by decide) ?_
    show Steps p.tables e below (s₁.setTop (mkF m 11 #[.val (.int p1), .val (.int p2), .val (.int p3), .val (.int p4), .unset, .unset, .unset, .unset, .unset, .unset, .unset, .unset] [(.int (1 : Int32))])) _
    refine XS.istore X0.here hx rfl (hb hby at_11) rfl (l' := #[.val (.int p1), .val (.int p2), .val (.int p3), .val (.int p4), .val (.int (1 : Int32)), .unset, .unset, .unset, .unset, .unset, .unset, .unset]) rfl ?_
    show Steps p.tables e below (s₁.setTop (mkF m 13 #[.val (.int p1), .val (.int p2), .val (.int p3), .val (.int p4), .val (.int (1 : Int32)), .unset, .unset, .unset, .unset, .unset, .unset, .unset] [])) _
    refine XS.iloadN X0.here hx rfl (hb hby at_13) rfl ?_
    show Steps p.tables e below (s₁.setTop (mkF m 14 #[.val (.int p1), .val (.int p2), .val (.int p3), .val (.int p4), .val (.int (1 : Int32)), .unset, .unset, .unset, .unset, .unset, .unset, .unset] [(.int p4)])) _
    refine XS.iconst X0.here hx rfl (hb hby at_14) ?_
    show Steps p.tables e below (s₁.setTop (mkF m 15 #[.val (.int p1), .val (.int p2), .val (.int p3), .val (.int p4), .val (.int (1 : Int32)), .unset, .unset, .unset, .unset, .unset, .unset, .unset] [(.int (2 : Int32)), (.int p4)])) _
    refine XS.iand X0.here hx rfl (hb hby at_15) rfl ?_
    show Steps p.tables e below (s₁.setTop (mkF m 16 #[.val (.int p1), .val (.int p2), .val (.int p3), .val (.int p4), .val (.int (1 : Int32)), .unset, .unset, .unset, .unset, .unset, .unset, .unset] [(.int (p4 &&& (2 : Int32)))])) _
    refine XS.ifYes X0.here hx rfl (pc0 := 16) (pc' := 23) rfl (hb hby at_16) rfl ((if0 _ _).trans (teq hc16).1) (by decide) (by decide) ?_
    show Steps p.tables e below (s₁.setTop (mkF m 23 #[.val (.int p1), .val (.int p2), .val (.int p3), .val (.int p4), .val (.int (1 : Int32)), .unset, .unset, .unset, .unset, .unset, .unset, .unset] [])) _
    refine XS.iconst X0.here hx rfl (hb hby at_23) ?_
    show Steps p.tables e below (s₁.setTop (mkF m 24 #[.val (.int p1), .val (.int p2), .val (.int p3), .val (.int p4), .val (.int (1 : Int32)), .unset, .unset, .unset, .unset, .unset, .unset, .unset] [(.int (0 : Int32))])) _
    refine XS.istore X0.here hx rfl (hb hby at_24) rfl (l' := #[.val (.int p1), .val (.int p2), .val (.int p3), .val (.int p4), .val (.int (1 : Int32)), .val (.int (0 : Int32)), .unset, .unset, .unset, .unset, .unset, .unset]) rfl ?_
    show Steps p.tables e below (s₁.setTop (mkF m 26 #[.val (.int p1), .val (.int p2), .val (.int p3), .val (.int p4), .val (.int (1 : Int32)), .val (.int (0 : Int32)), .unset, .unset, .unset, .unset, .unset, .unset] [])) _
    refine XS.iloadN X0.here hx rfl (hb hby at_26) rfl ?_
    show Steps p.tables e below (s₁.setTop (mkF m 27 #[.val (.int p1), .val (.int p2), .val (.int p3), .val (.int p4), .val (.int (1 : Int32)), .val (.int (0 : Int32)), .unset, .unset, .unset, .unset, .unset, .unset] [(.int p4)])) _
    refine XS.iconst X0.here hx rfl (hb hby at_27) ?_
    show Steps p.tables e below (s₁.setTop (mkF m 28 #[.val (.int p1), .val (.int p2), .val (.int p3), .val (.int p4), .val (.int (1 : Int32)), .val (.int (0 : Int32)), .unset, .unset, .unset, .unset, .unset, .unset] [(.int (4 : Int32)), (.int p4)])) _
    refine XS.iand X0.here hx rfl (hb hby at_28) rfl ?_
    show Steps p.tables e below (s₁.setTop (mkF m 29 #[.val (.int p1), .val (.int p2), .val (.int p3), .val (.int p4), .val (.int (1 : Int32)), .val (.int (0 : Int32)), .unset, .unset, .unset, .unset, .unset, .unset] [(.int (p4 &&& (4 : Int32)))])) _
    refine XS.ifYes X0.here hx rfl (pc0 := 29) (pc' := 36) rfl (hb hby at_29) rfl ((if0 _ _).trans (teq hc29).1) (by decide) (by decide) ?_
    show Steps p.tables e below (s₁.setTop (mkF m 36 #[.val (.int p1), .val (.int p2), .val (.int p3), .val (.int p4), .val (.int (1 : Int32)), .val (.int (0 : Int32)), .unset, .unset, .unset, .unset, .unset, .unset] [])) _
    refine XS.iconst X0.here hx rfl (hb hby at_36) ?_
    show Steps p.tables e below (s₁.setTop (mkF m 37 #[.val (.int p1), .val (.int p2), .val (.int p3), .val (.int p4), .val (.int (1 : Int32)), .val (.int (0 : Int32)), .unset, .unset, .unset, .unset, .unset, .unset] [(.int (0 : Int32))])) _
    refine XS.istore X0.here hx rfl (hb hby at_37) rfl (l' := #[.val (.int p1), .val (.int p2), .val (.int p3), .val (.int p4), .val (.int (1 : Int32)), .val (.int (0 : Int32)), .val (.int (0 : Int32)), .unset, .unset, .unset, .unset, .unset]) rfl ?_
    show Steps p.tables e below (s₁.setTop (mkF m 39 #[.val (.int p1), .val (.int p2), .val (.int p3), .val (.int p4), .val (.int (1 : Int32)), .val (.int (0 : Int32)), .val (.int (0 : Int32)), .unset, .unset, .unset, .unset, .unset] [])) _
    refine st1 _ ?_
    show Steps p.tables e below (T1.setTop (mkF m 42 #[.val (.int p1), .val (.int p2), .val (.int p3), .val (.int p4), .val (.int (1 : Int32)), .val (.int (0 : Int32)), .val (.int (0 : Int32)), .unset, .unset, .unset, .unset, .unset] [(.ref bo)])) _
    refine XS.dup X1.here hx rfl (hb hby at_42) rfl rfl ?_
    show Steps p.tables e below (T1.setTop (mkF m 43 #[.val (.int p1), .val (.int p2), .val (.int p3), .val (.int p4), .val (.int (1 : Int32)), .val (.int (0 : Int32)), .val (.int (0 : Int32)), .unset, .unset, .unset, .unset, .unset] [(.ref bo), (.ref bo)])) _
    refine XS.iconst X1.here hx rfl (hb hby at_43) ?_
    show Steps p.tables e below (T1.setTop (mkF m 44 #[.val (.int p1), .val (.int p2), .val (.int p3), .val (.int p4), .val (.int (1 : Int32)), .val (.int (0 : Int32)), .val (.int (0 : Int32)), .unset, .unset, .unset, .unset, .unset] [(.int (2 : Int32)), (.ref bo), (.ref bo)])) _
    refine st2.trans ?_
    show Steps p.tables e below (T2.setTop (mkF m 47 #[.val (.int p1), .val (.int p2), .val (.int p3), .val (.int p4), .val (.int (1 : Int32)), .val (.int (0 : Int32)), .val (.int (0 : Int32)), .unset, .unset, .unset, .unset, .unset] [(.ref bo)])) _
    refine XS.astore X2.here hx rfl (hb hby at_47) rfl rfl (l' := #[.val (.int p1), .val (.int p2), .val (.int p3), .val (.int p4), .val (.int (1 : Int32)), .val (.int (0 : Int32)), .val (.int (0 : Int32)), .val (.ref bo), .unset, .unset, .unset, .unset]) rfl ?_
    show Steps p.tables e below (T2.setTop (mkF m 49 #[.val (.int p1), .val (.int p2), .val (.int p3), .val (.int p4), .val (.int (1 : Int32)), .val (.int (0 : Int32)), .val (.int (0 : Int32)), .val (.ref bo), .unset, .unset, .unset, .unset] [])) _
    refine XS.iload X2.here hx rfl (hb hby at_49) rfl ?_
    show Steps p.tables e below (T2.setTop (mkF m 51 #[.val (.int p1), .val (.int p2), .val (.int p3), .val (.int p4), .val (.int (1 : Int32)), .val (.int (0 : Int32)), .val (.int (0 : Int32)), .val (.ref bo), .unset, .unset, .unset, .unset] [(.int (1 : Int32))])) _
    refine XS.ifNo X2.here hx rfl (hb hby at_51) rfl ((if0 _ _).trans (feq (by decide : ¬ ((1 : Int32) = (0 : Int32)))).1) ?_
    show Steps p.tables e below (T2.setTop (mkF m 54 #[.val (.int p1), .val (.int p2), .val (.int p3), .val (.int p4), .val (.int (1 : Int32)), .val (.int (0 : Int32)), .val (.int (0 : Int32)), .val (.ref bo), .unset, .unset, .unset, .unset] [])) _
    refine XS.aload X2.here hx rfl (hb hby at_54) rfl rfl ?_
    show Steps p.tables e below (T2.setTop (mkF m 56 #[.val (.int p1), .val (.int p2), .val (.int p3), .val (.int p4), .val (.int (1 : Int32)), .val (.int (0 : Int32)), .val (.int (0 : Int32)), .val (.ref bo), .unset, .unset, .unset, .unset] [(.ref bo)])) _
    refine XS.iloadN X2.here hx rfl (hb hby at_56) rfl ?_
    show Steps p.tables e below (T2.setTop (mkF m 57 #[.val (.int p1), .val (.int p2), .val (.int p3), .val (.int p4), .val (.int (1 : Int32)), .val (.int (0 : Int32)), .val (.int (0 : Int32)), .val (.ref bo), .unset, .unset, .unset, .unset] [(.int p1), (.ref bo)])) _
    refine st3.trans ?_
    show Steps p.tables e below (T3.setTop (mkF m 60 #[.val (.int p1), .val (.int p2), .val (.int p3), .val (.int p4), .val (.int (1 : Int32)), .val (.int (0 : Int32)), .val (.int (0 : Int32)), .val (.ref bo), .unset, .unset, .unset, .unset] [])) _
    refine XS.iload X3.here hx rfl (hb hby at_60) rfl ?_
    show Steps p.tables e below (T3.setTop (mkF m 62 #[.val (.int p1), .val (.int p2), .val (.int p3), .val (.int p4), .val (.int (1 : Int32)), .val (.int (0 : Int32)), .val (.int (0 : Int32)), .val (.ref bo), .unset, .unset, .unset, .unset] [(.int (0 : Int32))])) _
    refine XS.ifYes X3.here hx rfl (pc0 := 62) (pc' := 71) rfl (hb hby at_62) rfl ((if0 _ _).trans (teq (by decide : (0 : Int32) = (0 : Int32))).1) (by decide) (by decide) ?_
    show Steps p.tables e below (T3.setTop (mkF m 71 #[.val (.int p1), .val (.int p2), .val (.int p3), .val (.int p4), .val (.int (1 : Int32)), .val (.int (0 : Int32)), .val (.int (0 : Int32)), .val (.ref bo), .unset, .unset, .unset, .unset] [])) _
    refine XS.aload X3.here hx rfl (hb hby at_71) rfl rfl ?_
    show Steps p.tables e below (T3.setTop (mkF m 73 #[.val (.int p1), .val (.int p2), .val (.int p3), .val (.int p4), .val (.int (1 : Int32)), .val (.int (0 : Int32)), .val (.int (0 : Int32)), .val (.ref bo), .unset, .unset, .unset, .unset] [(.ref bo)])) _
    refine st5.trans ?_
    show Steps p.tables e below (T5.setTop (mkF m 76 #[.val (.int p1), .val (.int p2), .val (.int p3), .val (.int p4), .val (.int (1 : Int32)), .val (.int (0 : Int32)), .val (.int (0 : Int32)), .val (.ref bo), .unset, .unset, .unset, .unset] [])) _
    refine XS.iload X5.here hx rfl (hb hby at_76) rfl ?_
    show Steps p.tables e below (T5.setTop (mkF m 78 #[.val (.int p1), .val (.int p2), .val (.int p3), .val (.int p4), .val (.int (1 : Int32)), .val (.int (0 : Int32)), .val (.int (0 : Int32)), .val (.ref bo), .unset, .unset, .unset, .unset] [(.int (0 : Int32))])) _
    refine XS.ifYes X5.here hx rfl (pc0 := 78) (pc' := 87) rfl (hb hby at_78) rfl ((if0 _ _).trans (teq (by decide : (0 : Int32) = (0 : Int32))).1) (by decide) (by decide) ?_
    show Steps p.tables e below (T5.setTop (mkF m 87 #[.val (.int p1), .val (.int p2), .val (.int p3), .val (.int p4), .val (.int (1 : Int32)), .val (.int (0 : Int32)), .val (.int (0 : Int32)), .val (.ref bo), .unset, .unset, .unset, .unset] [])) _
    refine XS.aload X5.here hx rfl (hb hby at_87) rfl rfl ?_
    show Steps p.tables e below (T5.setTop (mkF m 89 #[.val (.int p1), .val (.int p2), .val (.int p3), .val (.int p4), .val (.int (1 : Int32)), .val (.int (0 : Int32)), .val (.int (0 : Int32)), .val (.ref bo), .unset, .unset, .unset, .unset] [(.ref bo)])) _
    refine st7.trans ?_
    show Steps p.tables e below (T7.setTop (mkF m 92 #[.val (.int p1), .val (.int p2), .val (.int p3), .val (.int p4), .val (.int (1 : Int32)), .val (.int (0 : Int32)), .val (.int (0 : Int32)), .val (.ref bo), .unset, .unset, .unset, .unset] [])) _
    refine XS.aload X7.here hx rfl (hb hby at_92) rfl rfl ?_
    show Steps p.tables e below (T7.setTop (mkF m 94 #[.val (.int p1), .val (.int p2), .val (.int p3), .val (.int p4), .val (.int (1 : Int32)), .val (.int (0 : Int32)), .val (.int (0 : Int32)), .val (.ref bo), .unset, .unset, .unset, .unset] [(.ref bo)])) _
    refine st9.trans ?_
    show Steps p.tables e below (T9.setTop (mkF m 97 #[.val (.int p1), .val (.int p2), .val (.int p3), .val (.int p4), .val (.int (1 : Int32)), .val (.int (0 : Int32)), .val (.int (0 : Int32)), .val (.ref bo), .unset, .unset, .unset, .unset] [(.ref o9)])) _
    refine XS.astore X9.here hx rfl (hb hby at_97) rfl rfl (l' := #[.val (.int p1), .val (.int p2), .val (.int p3), .val (.int p4), .val (.int (1 : Int32)), .val (.int (0 : Int32)), .val (.int (0 : Int32)), .val (.ref bo), .val (.ref o9), .unset, .unset, .unset]) rfl ?_
    show Steps p.tables e below (T9.setTop (mkF m 99 #[.val (.int p1), .val (.int p2), .val (.int p3), .val (.int p4), .val (.int (1 : Int32)), .val (.int (0 : Int32)), .val (.int (0 : Int32)), .val (.ref bo), .val (.ref o9), .unset, .unset, .unset] [])) _
    refine XS.iload X9.here hx rfl (hb hby at_99) rfl ?_
    show Steps p.tables e below (T9.setTop (mkF m 101 #[.val (.int p1), .val (.int p2), .val (.int p3), .val (.int p4), .val (.int (1 : Int32)), .val (.int (0 : Int32)), .val (.int (0 : Int32)), .val (.ref bo), .val (.ref o9), .unset, .unset, .unset] [(.int (1 : Int32))])) _
    refine XS.ifNo X9.here hx rfl (hb hby at_101) rfl ((if0 _ _).trans (feq (by decide : ¬ ((1 : Int32) = (0 : Int32)))).1) ?_
    show Steps p.tables e below (T9.setTop (mkF m 104 #[.val (.int p1), .val (.int p2), .val (.int p3), .val (.int p4), .val (.int (1 : Int32)), .val (.int (0 : Int32)), .val (.int (0 : Int32)), .val (.ref bo), .val (.ref o9), .unset, .unset, .unset] [])) _
    refine XS.iconst X9.here hx rfl (hb hby at_104) ?_
    show Steps p.tables e below (T9.setTop (mkF m 105 #[.val (.int p1), .val (.int p2), .val (.int p3), .val (.int p4), .val (.int (1 : Int32)), .val (.int (0 : Int32)), .val (.int (0 : Int32)), .val (.ref bo), .val (.ref o9), .unset, .unset, .unset] [(.int (1 : Int32))])) _
    refine XS.goto X9.here hx rfl (pc0 := 105) (pc' := 109) rfl (hb hby at_105) (by decide) (by decide) ?_
    show Steps p.tables e below (T9.setTop (mkF m 109 #[.val (.int p1), .val (.int p2), .val (.int p3), .val (.int p4), .val (.int (1 : Int32)), .val (.int (0 : Int32)), .val (.int (0 : Int32)), .val (.ref bo), .val (.ref o9), .unset, .unset, .unset] [(.int (1 : Int32))])) _
    refine XS.iload X9.here hx rfl (hb hby at_109) rfl ?_
    show Steps p.tables e below (T9.setTop (mkF m 111 #[.val (.int p1), .val (.int p2), .val (.int p3), .val (.int p4), .val (.int (1 : Int32)), .val (.int (0 : Int32)), .val (.int (0 : Int32)), .val (.ref bo), .val (.ref o9), .unset, .unset, .unset] [(.int (0 : Int32)), (.int (1 : Int32))])) _
    refine XS.ifYes X9.here hx rfl (pc0 := 111) (pc' := 118) rfl (hb hby at_111) rfl ((if0 _ _).trans (teq (by decide : (0 : Int32) = (0 : Int32))).1) (by decide) (by decide) ?_
    show Steps p.tables e below (T9.setTop (mkF m 118 #[.val (.int p1), .val (.int p2), .val (.int p3), .val (.int p4), .val (.int (1 : Int32)), .val (.int (0 : Int32)), .val (.int (0 : Int32)), .val (.ref bo), .val (.ref o9), .unset, .unset, .unset] [(.int (1 : Int32))])) _
    refine XS.iconst X9.here hx rfl (hb hby at_118) ?_
    show Steps p.tables e below (T9.setTop (mkF m 119 #[.val (.int p1), .val (.int p2), .val (.int p3), .val (.int p4), .val (.int (1 : Int32)), .val (.int (0 : Int32)), .val (.int (0 : Int32)), .val (.ref bo), .val (.ref o9), .unset, .unset, .unset] [(.int (0 : Int32)), (.int (1 : Int32))])) _
    refine XS.iadd X9.here hx rfl (hb hby at_119) rfl ?_
    show Steps p.tables e below (T9.setTop (mkF m 120 #[.val (.int p1), .val (.int p2), .val (.int p3), .val (.int p4), .val (.int (1 : Int32)), .val (.int (0 : Int32)), .val (.int (0 : Int32)), .val (.ref bo), .val (.ref o9), .unset, .unset, .unset] [(.int ((1 : Int32) + (0 : Int32)))])) _
    refine XS.istore X9.here hx rfl (hb hby at_120) rfl (l' := #[.val (.int p1), .val (.int p2), .val (.int p3), .val (.int p4), .val (.int (1 : Int32)), .val (.int (0 : Int32)), .val (.int (0 : Int32)), .val (.ref bo), .val (.ref o9), .val (.int ((1 : Int32) + (0 : Int32))), .unset, .unset]) rfl ?_
    show Steps p.tables e below (T9.setTop (mkF m 122 #[.val (.int p1), .val (.int p2), .val (.int p3), .val (.int p4), .val (.int (1 : Int32)), .val (.int (0 : Int32)), .val (.int (0 : Int32)), .val (.ref bo), .val (.ref o9), .val (.int ((1 : Int32) + (0 : Int32))), .unset, .unset] [])) _
    refine XS.iload X9.here hx rfl (hb hby at_122) rfl ?_
    show Steps p.tables e below (T9.setTop (mkF m 124 #[.val (.int p1), .val (.int p2), .val (.int p3), .val (.int p4), .val (.int (1 : Int32)), .val (.int (0 : Int32)), .val (.int (0 : Int32)), .val (.ref bo), .val (.ref o9), .val (.int ((1 : Int32) + (0 : Int32))), .unset, .unset] [(.int (0 : Int32))])) _
    refine XS.ifYes X9.here hx rfl (pc0 := 124) (pc' := 131) rfl (hb hby at_124) rfl ((if0 _ _).trans (teq (by decide : (0 : Int32) = (0 : Int32))).1) (by decide) (by decide) ?_
    show Steps p.tables e below (T9.setTop (mkF m 131 #[.val (.int p1), .val (.int p2), .val (.int p3), .val (.int p4), .val (.int (1 : Int32)), .val (.int (0 : Int32)), .val (.int (0 : Int32)), .val (.ref bo), .val (.ref o9), .val (.int ((1 : Int32) + (0 : Int32))), .unset, .unset] [])) _
    refine XS.iconst X9.here hx rfl (hb hby at_131) ?_
    show Steps p.tables e below (T9.setTop (mkF m 132 #[.val (.int p1), .val (.int p2), .val (.int p3), .val (.int p4), .val (.int (1 : Int32)), .val (.int (0 : Int32)), .val (.int (0 : Int32)), .val (.ref bo), .val (.ref o9), .val (.int ((1 : Int32) + (0 : Int32))), .unset, .unset] [(.int (0 : Int32))])) _
    refine XS.istore X9.here hx rfl (hb hby at_132) rfl (l' := #[.val (.int p1), .val (.int p2), .val (.int p3), .val (.int p4), .val (.int (1 : Int32)), .val (.int (0 : Int32)), .val (.int (0 : Int32)), .val (.ref bo), .val (.ref o9), .val (.int ((1 : Int32) + (0 : Int32))), .val (.int (0 : Int32)), .unset]) rfl ?_
    show Steps p.tables e below (T9.setTop (mkF m 134 #[.val (.int p1), .val (.int p2), .val (.int p3), .val (.int p4), .val (.int (1 : Int32)), .val (.int (0 : Int32)), .val (.int (0 : Int32)), .val (.ref bo), .val (.ref o9), .val (.int ((1 : Int32) + (0 : Int32))), .val (.int (0 : Int32)), .unset] [])) _
    refine XS.aload X9.here hx rfl (hb hby at_134) rfl rfl ?_
    show Steps p.tables e below (T9.setTop (mkF m 136 #[.val (.int p1), .val (.int p2), .val (.int p3), .val (.int p4), .val (.int (1 : Int32)), .val (.int (0 : Int32)), .val (.int (0 : Int32)), .val (.ref bo), .val (.ref o9), .val (.int ((1 : Int32) + (0 : Int32))), .val (.int (0 : Int32)), .unset] [(.ref o9)])) _
    refine XS.iconst X9.here hx rfl (hb hby at_136) ?_
    show Steps p.tables e below (T9.setTop (mkF m 137 #[.val (.int p1), .val (.int p2), .val (.int p3), .val (.int p4), .val (.int (1 : Int32)), .val (.int (0 : Int32)), .val (.int (0 : Int32)), .val (.ref bo), .val (.ref o9), .val (.int ((1 : Int32) + (0 : Int32))), .val (.int (0 : Int32)), .unset] [(.int (0 : Int32)), (.ref o9)])) _
    refine st17.trans ?_
    show Steps p.tables e below (T17.setTop (mkF m 140 #[.val (.int p1), .val (.int p2), .val (.int p3), .val (.int p4), .val (.int (1 : Int32)), .val (.int (0 : Int32)), .val (.int (0 : Int32)), .val (.ref bo), .val (.ref o9), .val (.int ((1 : Int32) + (0 : Int32))), .val (.int (0 : Int32)), .unset] [(.int (((0 : Int32) + (1 : Int32)) - (0 : Int32)))])) _
    refine XS.iload X17.here hx rfl (hb hby at_140) rfl ?_
    show Steps p.tables e below (T17.setTop (mkF m 142 #[.val (.int p1), .val (.int p2), .val (.int p3), .val (.int p4), .val (.int (1 : Int32)), .val (.int (0 : Int32)), .val (.int (0 : Int32)), .val (.ref bo), .val (.ref o9), .val (.int ((1 : Int32) + (0 : Int32))), .val (.int (0 : Int32)), .unset] [(.int ((1 : Int32) + (0 : Int32))), (.int (((0 : Int32) + (1 : Int32)) - (0 : Int32)))])) _
    refine XS.icmpYes X17.here hx rfl (pc0 := 142) (pc' := 147) rfl (hb hby at_142) rfl (teq (by decide : (((0 : Int32) + (1 : Int32)) - (0 : Int32)) = ((1 : Int32) + (0 : Int32)))).1 (by decide) (by decide) ?_
    show Steps p.tables e below (T17.setTop (mkF m 147 #[.val (.int p1), .val (.int p2), .val (.int p3), .val (.int p4), .val (.int (1 : Int32)), .val (.int (0 : Int32)), .val (.int (0 : Int32)), .val (.ref bo), .val (.ref o9), .val (.int ((1 : Int32) + (0 : Int32))), .val (.int (0 : Int32)), .unset] [])) _
    refine XS.aload X17.here hx rfl (hb hby at_147) rfl rfl ?_
    show Steps p.tables e below (T17.setTop (mkF m 149 #[.val (.int p1), .val (.int p2), .val (.int p3), .val (.int p4), .val (.int (1 : Int32)), .val (.int (0 : Int32)), .val (.int (0 : Int32)), .val (.ref bo), .val (.ref o9), .val (.int ((1 : Int32) + (0 : Int32))), .val (.int (0 : Int32)), .unset] [(.ref o9)])) _
    refine XS.iconst X17.here hx rfl (hb hby at_149) ?_
    show Steps p.tables e below (T17.setTop (mkF m 150 #[.val (.int p1), .val (.int p2), .val (.int p3), .val (.int p4), .val (.int (1 : Int32)), .val (.int (0 : Int32)), .val (.int (0 : Int32)), .val (.ref bo), .val (.ref o9), .val (.int ((1 : Int32) + (0 : Int32))), .val (.int (0 : Int32)), .unset] [(.int (1 : Int32)), (.ref o9)])) _
    refine st18.trans ?_
    show Steps p.tables e below (T18.setTop (mkF m 153 #[.val (.int p1), .val (.int p2), .val (.int p3), .val (.int p4), .val (.int (1 : Int32)), .val (.int (0 : Int32)), .val (.int (0 : Int32)), .val (.ref bo), .val (.ref o9), .val (.int ((1 : Int32) + (0 : Int32))), .val (.int (0 : Int32)), .unset] [(.int (((0 : Int32) + (1 : Int32)) - ((0 : Int32) + (1 : Int32))))])) _
    refine XS.iload X18.here hx rfl (hb hby at_153) rfl ?_
    show Steps p.tables e below (T18.setTop (mkF m 155 #[.val (.int p1), .val (.int p2), .val (.int p3), .val (.int p4), .val (.int (1 : Int32)), .val (.int (0 : Int32)), .val (.int (0 : Int32)), .val (.ref bo), .val (.ref o9), .val (.int ((1 : Int32) + (0 : Int32))), .val (.int (0 : Int32)), .unset] [(.int (0 : Int32)), (.int (((0 : Int32) + (1 : Int32)) - ((0 : Int32) + (1 : Int32))))])) _
    refine XS.icmpYes X18.here hx rfl (pc0 := 155) (pc' := 160) rfl (hb hby at_155) rfl (teq (by decide : (((0 : Int32) + (1 : Int32)) - ((0 : Int32) + (1 : Int32))) = (0 : Int32))).1 (by decide) (by decide) ?_
    show Steps p.tables e below (T18.setTop (mkF m 160 #[.val (.int p1), .val (.int p2), .val (.int p3), .val (.int p4), .val (.int (1 : Int32)), .val (.int (0 : Int32)), .val (.int (0 : Int32)), .val (.ref bo), .val (.ref o9), .val (.int ((1 : Int32) + (0 : Int32))), .val (.int (0 : Int32)), .unset] [])) _
    refine XS.iload X18.here hx rfl (hb hby at_160) rfl ?_
    show Steps p.tables e below (T18.setTop (mkF m 162 #[.val (.int p1), .val (.int p2), .val (.int p3), .val (.int p4), .val (.int (1 : Int32)), .val (.int (0 : Int32)), .val (.int (0 : Int32)), .val (.ref bo), .val (.ref o9), .val (.int ((1 : Int32) + (0 : Int32))), .val (.int (0 : Int32)), .unset] [(.int ((1 : Int32) + (0 : Int32)))])) _
    refine XS.iconst X18.here hx rfl (hb hby at_162) ?_
    show Steps p.tables e below (T18.setTop (mkF m 163 #[.val (.int p1), .val (.int p2), .val (.int p3), .val (.int p4), .val (.int (1 : Int32)), .val (.int (0 : Int32)), .val (.int (0 : Int32)), .val (.ref bo), .val (.ref o9), .val (.int ((1 : Int32) + (0 : Int32))), .val (.int (0 : Int32)), .unset] [(.int (1 : Int32)), (.int ((1 : Int32) + (0 : Int32)))])) _
    refine XS.icmpNo X18.here hx rfl (hb hby at_163) rfl (flt (by decide : ¬ (((1 : Int32) + (0 : Int32)) < (1 : Int32)))).1 ?_
    show Steps p.tables e below (T18.setTop (mkF m 166 #[.val (.int p1), .val (.int p2), .val (.int p3), .val (.int p4), .val (.int (1 : Int32)), .val (.int (0 : Int32)), .val (.int (0 : Int32)), .val (.ref bo), .val (.ref o9), .val (.int ((1 : Int32) + (0 : Int32))), .val (.int (0 : Int32)), .unset] [])) _
    refine XS.iload X18.here hx rfl (hb hby at_166) rfl ?_
    show Steps p.tables e below (T18.setTop (mkF m 168 #[.val (.int p1), .val (.int p2), .val (.int p3), .val (.int p4), .val (.int (1 : Int32)), .val (.int (0 : Int32)), .val (.int (0 : Int32)), .val (.ref bo), .val (.ref o9), .val (.int ((1 : Int32) + (0 : Int32))), .val (.int (0 : Int32)), .unset] [(.int (1 : Int32))])) _
    refine XS.ifNo X18.here hx rfl (hb hby at_168) rfl ((if0 _ _).trans (feq (by decide : ¬ ((1 : Int32) = (0 : Int32)))).1) ?_
    show Steps p.tables e below (T18.setTop (mkF m 171 #[.val (.int p1), .val (.int p2), .val (.int p3), .val (.int p4), .val (.int (1 : Int32)), .val (.int (0 : Int32)), .val (.int (0 : Int32)), .val (.ref bo), .val (.ref o9), .val (.int ((1 : Int32) + (0 : Int32))), .val (.int (0 : Int32)), .unset] [])) _
    refine XS.iloadN X18.here hx rfl (hb hby at_171) rfl ?_
    show Steps p.tables e below (T18.setTop (mkF m 172 #[.val (.int p1), .val (.int p2), .val (.int p3), .val (.int p4), .val (.int (1 : Int32)), .val (.int (0 : Int32)), .val (.int (0 : Int32)), .val (.ref bo), .val (.ref o9), .val (.int ((1 : Int32) + (0 : Int32))), .val (.int (0 : Int32)), .unset] [(.int p1)])) _
    refine XS.goto X18.here hx rfl (pc0 := 172) (pc' := 176) rfl (hb hby at_172) (by decide) (by decide) ?_
    show Steps p.tables e below (T18.setTop (mkF m 176 #[.val (.int p1), .val (.int p2), .val (.int p3), .val (.int p4), .val (.int (1 : Int32)), .val (.int (0 : Int32)), .val (.int (0 : Int32)), .val (.ref bo), .val (.ref o9), .val (.int ((1 : Int32) + (0 : Int32))), .val (.int (0 : Int32)), .unset] [(.int p1)])) _
    refine XS.istore X18.here hx rfl (hb hby at_176) rfl (l' := #[.val (.int p1), .val (.int p2), .val (.int p3), .val (.int p4), .val (.int (1 : Int32)), .val (.int (0 : Int32)), .val (.int (0 : Int32)), .val (.ref bo), .val (.ref o9), .val (.int ((1 : Int32) + (0 : Int32))), .val (.int (0 : Int32)), .val (.int p1)]) rfl ?_
    show Steps p.tables e below (T18.setTop (mkF m 178 #[.val (.int p1), .val (.int p2), .val (.int p3), .val (.int p4), .val (.int (1 : Int32)), .val (.int (0 : Int32)), .val (.int (0 : Int32)), .val (.ref bo), .val (.ref o9), .val (.int ((1 : Int32) + (0 : Int32))), .val (.int (0 : Int32)), .val (.int p1)] [])) _
    refine XS.aload X18.here hx rfl (hb hby at_178) rfl rfl ?_
    show Steps p.tables e below (T18.setTop (mkF m 180 #[.val (.int p1), .val (.int p2), .val (.int p3), .val (.int p4), .val (.int (1 : Int32)), .val (.int (0 : Int32)), .val (.int (0 : Int32)), .val (.ref bo), .val (.ref o9), .val (.int ((1 : Int32) + (0 : Int32))), .val (.int (0 : Int32)), .val (.int p1)] [(.ref o9)])) _
    refine XS.iconst X18.here hx rfl (hb hby at_180) ?_
    show Steps p.tables e below (T18.setTop (mkF m 181 #[.val (.int p1), .val (.int p2), .val (.int p3), .val (.int p4), .val (.int (1 : Int32)), .val (.int (0 : Int32)), .val (.int (0 : Int32)), .val (.ref bo), .val (.ref o9), .val (.int ((1 : Int32) + (0 : Int32))), .val (.int (0 : Int32)), .val (.int p1)] [(.int (0 : Int32)), (.ref o9)])) _
    refine XS.iconst X18.here hx rfl (hb hby at_181) ?_
    show Steps p.tables e below (T18.setTop (mkF m 182 #[.val (.int p1), .val (.int p2), .val (.int p3), .val (.int p4), .val (.int (1 : Int32)), .val (.int (0 : Int32)), .val (.int (0 : Int32)), .val (.ref bo), .val (.ref o9), .val (.int ((1 : Int32) + (0 : Int32))), .val (.int (0 : Int32)), .val (.int p1)] [(.int (0 : Int32)), (.int (0 : Int32)), (.ref o9)])) _
    refine st19.trans ?_
    show Steps p.tables e below (T19.setTop (mkF m 185 #[.val (.int p1), .val (.int p2), .val (.int p3), .val (.int p4), .val (.int (1 : Int32)), .val (.int (0 : Int32)), .val (.int (0 : Int32)), .val (.ref bo), .val (.ref o9), .val (.int ((1 : Int32) + (0 : Int32))), .val (.int (0 : Int32)), .val (.int p1)] [(.int p1)])) _
    refine XS.iload X19.here hx rfl (hb hby at_185) rfl ?_
    show Steps p.tables e below (T19.setTop (mkF m 187 #[.val (.int p1), .val (.int p2), .val (.int p3), .val (.int p4), .val (.int (1 : Int32)), .val (.int (0 : Int32)), .val (.int (0 : Int32)), .val (.ref bo), .val (.ref o9), .val (.int ((1 : Int32) + (0 : Int32))), .val (.int (0 : Int32)), .val (.int p1)] [(.int p1), (.int p1)])) _
    refine XS.icmpYes X19.here hx rfl (pc0 := 187) (pc' := 192) rfl (hb hby at_187) rfl (teq (rfl : p1 = p1)).1 (by decide) (by decide) ?_
    show Steps p.tables e below (T19.setTop (mkF m 192 #[.val (.int p1), .val (.int p2), .val (.int p3), .val (.int p4), .val (.int (1 : Int32)), .val (.int (0 : Int32)), .val (.int (0 : Int32)), .val (.ref bo), .val (.ref o9), .val (.int ((1 : Int32) + (0 : Int32))), .val (.int (0 : Int32)), .val (.int p1)] [])) _
    refine XS.iload X19.here hx rfl (hb hby at_192) rfl ?_
    show Steps p.tables e below (T19.setTop (mkF m 194 #[.val (.int p1), .val (.int p2), .val (.int p3), .val (.int p4), .val (.int (1 : Int32)), .val (.int (0 : Int32)), .val (.int (0 : Int32)), .val (.ref bo), .val (.ref o9), .val (.int ((1 : Int32) + (0 : Int32))), .val (.int (0 : Int32)), .val (.int p1)] [(.int ((1 : Int32) + (0 : Int32)))])) _
    refine XS.iconst X19.here hx rfl (hb hby at_194) ?_
    show Steps p.tables e below (T19.setTop (mkF m 195 #[.val (.int p1), .val (.int p2), .val (.int p3), .val (.int p4), .val (.int (1 : Int32)), .val (.int (0 : Int32)), .val (.int (0 : Int32)), .val (.ref bo), .val (.ref o9), .val (.int ((1 : Int32) + (0 : Int32))), .val (.int (0 : Int32)), .val (.int p1)] [(.int (2 : Int32)), (.int ((1 : Int32) + (0 : Int32)))])) _
    refine XS.icmpYes X19.here hx rfl (pc0 := 195) (pc' := 211) rfl (hb hby at_195) rfl (feq (by decide : ¬ (((1 : Int32) + (0 : Int32)) = (2 : Int32)))).2 (by decide) (by decide) ?_
    show Steps p.tables e below (T19.setTop (mkF m 211 #[.val (.int p1), .val (.int p2), .val (.int p3), .val (.int p4), .val (.int (1 : Int32)), .val (.int (0 : Int32)), .val (.int (0 : Int32)), .val (.ref bo), .val (.ref o9), .val (.int ((1 : Int32) + (0 : Int32))), .val (.int (0 : Int32)), .val (.int p1)] [])) _
    refine XS.iload X19.here hx rfl (hb hby at_211) rfl ?_
    show Steps p.tables e below (T19.setTop (mkF m 213 #[.val (.int p1), .val (.int p2), .val (.int p3), .val (.int p4), .val (.int (1 : Int32)), .val (.int (0 : Int32)), .val (.int (0 : Int32)), .val (.ref bo), .val (.ref o9), .val (.int ((1 : Int32) + (0 : Int32))), .val (.int (0 : Int32)), .val (.int p1)] [(.int (0 : Int32))])) _
    refine XS.iconst X19.here hx rfl (hb hby at_213) ?_
    show Steps p.tables e below (T19.setTop (mkF m 214 #[.val (.int p1), .val (.int p2), .val (.int p3), .val (.int p4), .val (.int (1 : Int32)), .val (.int (0 : Int32)), .val (.int (0 : Int32)), .val (.ref bo), .val (.ref o9), .val (.int ((1 : Int32) + (0 : Int32))), .val (.int (0 : Int32)), .val (.int p1)] [(.int (1 : Int32)), (.int (0 : Int32))])) _
    refine XS.icmpYes X19.here hx rfl (pc0 := 214) (pc' := 230) rfl (hb hby at_214) rfl (feq (by decide : ¬ ((0 : Int32) = (1 : Int32)))).2 (by decide) (by decide) ?_
    show Steps p.tables e below (T19.setTop (mkF m 230 #[.val (.int p1), .val (.int p2), .val (.int p3), .val (.int p4), .val (.int (1 : Int32)), .val (.int (0 : Int32)), .val (.int (0 : Int32)), .val (.ref bo), .val (.ref o9), .val (.int ((1 : Int32) + (0 : Int32))), .val (.int (0 : Int32)), .val (.int p1)] [])) _
    refine XS.iconst X19.here hx rfl (hb hby at_230) ?_
    show Steps p.tables e below (T19.setTop (mkF m 231 #[.val (.int p1), .val (.int p2), .val (.int p3), .val (.int p4), .val (.int (1 : Int32)), .val (.int (0 : Int32)), .val (.int (0 : Int32)), .val (.ref bo), .val (.ref o9), .val (.int ((1 : Int32) + (0 : Int32))), .val (.int (0 : Int32)), .val (.int p1)] [(.int (1 : Int32))])) _
    exact retN X19 hx (t := .boolean) Bd.returns (by simp) (hb hby at_231) hr
  · show Q0 n0 _ _ _
    exact ⟨rfl, N19⟩
set_option maxRecDepth 65536 in
set_option maxHeartbeats 40000000 in
theorem rm0_101 (l : Launch) (Z : State) (a0 : Array Value) (hw : ∀ d ∈ tables_1, d.before a0 Z = true) (ws : List Jvm.Cond) (p1 p2 p3 p4 : Int32) (h0 : Heap) (n0 : Nat) (Z0 : n0 ≤ h0.size)  (hc3 : ¬ ((p4 &&& (1 : Int32)) = (0 : Int32))) (hc16 : (p4 &&& (2 : Int32)) = (0 : Int32)) (hc29 : ¬ ((p4 &&& (4 : Int32)) = (0 : Int32))) :
    MetFree l x (head1 (Jvm.Cond.code x code maxLocals ret :: ws) room_1) (fun a U => a = #[(.int p1), (.int p2), (.int p3), (.int p4)] ∧ Z.Warmed39 U.vm ∧ U.heap = h0) (fun _ _ _ _ _ => True) (fun _ U o U' => ∃ v L, o = .returned v ∧ Q0 n0 v U'.heap L ∧ FrameEnd U o U' L room_1.cells room_1.slots) := by
  refine MetFree.of_bodySF (plainFor_of_name pn_org_keyward_securitymodel_BuilderEndPinLaw) hisR ?_
  intro p e s m args below meth cd s₁ Bd hml0 hPre hKc
  obtain ⟨rfl, hZ, hHp⟩ := hPre
  have hx := Bd.exec
  have hby := Bd.bytes
  have hml : cd.maxLocals = 12 := hml0
  have hown : s.vm.findClass "org/keyward/securitymodel/BuilderEndPinLaw" = some m.cls := findClass_of_methodNamed Bd.named
  have hnm := (name_of_methodNamed Bd.named Bd.method).1
  have X0 : Stand p l e room_1 s m #[(.int p1), (.int p2), (.int p3), (.int p4)] below meth cd s₁ [] 0 0 := Stand.of_body Bd
  have e0 : s₁.heap = h0 := by rw [← hHp, Bd.state]; rfl
  have N0 := Fr.nil n0
  have pre0 : ∀ t, Steps p.tables e below (s₁.setTop (mkF m 0 #[.val (.int p1), .val (.int p2), .val (.int p3), .val (.int p4), .unset, .unset, .unset, .unset, .unset, .unset, .unset, .unset] [])) t → Steps p.tables e below (s₁.setTop (entryFrame m #[(.int p1), (.int p2), (.int p3), (.int p4)] maxLocals)) t := fun t k => castTop (ef_0 m p1 p2 p3 p4) k
  obtain ⟨T1, h1, X1, e1, E1, A1, D1, -, st1⟩ := newO X0 hx hZ hown (hw _ (List.mem_of_getElem? (i := 0) rfl)) (hw _ (List.mem_of_getElem? (i := 1) rfl)) (hw _ (List.mem_of_getElem? (i := 2) rfl)) e0 (g := (mkF m 39 #[.val (.int p1), .val (.int p2), .val (.int p3), .val (.int p4), .val (.int (1 : Int32)), .val (.int (0 : Int32)), .val (.int (1 : Int32)), .unset, .unset, .unset, .unset, .unset] [])) rfl (hb hby at_39) (Nat.le_of_ble_eq_true rfl) (Nat.le_of_ble_eq_true rfl)
  obtain ⟨bo, g1⟩ : ∃ z, z = h0.size := ⟨_, rfl⟩
  rw [← g1] at A1 D1 st1
  have g_bo : n0 ≤ bo := Nat.le_trans Z0 (Nat.le_of_eq g1.symm)
  have z1 : n0 ≤ h1.size := Nat.le_trans Z0 E1.1
  have F_numbers_bo : Fld Z h1 bo "org/keyward/securitymodel/NumberLists$Builder" "numbers" "[I" .null := D1 (Or.inl (hw _ (List.mem_of_getElem? (i := 11) rfl))) (ty := (.array .int)) (by decide)
  have F_starts_bo : Fld Z h1 bo "org/keyward/securitymodel/NumberLists$Builder" "starts" "[I" .null := D1 (Or.inr (hw _ (List.mem_of_getElem? (i := 13) rfl))) (ty := (.array .int)) (by decide)
  have F_count_bo : Fld Z h1 bo "org/keyward/securitymodel/NumberLists$Builder" "count" "I" (.int (0 : Int32)) := D1 (Or.inl (hw _ (List.mem_of_getElem? (i := 20) rfl))) (ty := .int) (by decide)
  have F_listed_bo : Fld Z h1 bo "org/keyward/securitymodel/NumberLists$Builder" "listed" "I" (.int (0 : Int32)) := D1 (Or.inl (hw _ (List.mem_of_getElem? (i := 27) rfl))) (ty := .int) (by decide)
  obtain ⟨_, _, ⟨T2, L2, k2, n2⟩, -, X2, ⟨Lc2, hQ2, l2, y2, z2⟩, st2⟩ := X1.specialBack hx (y := (⟨"org/keyward/securitymodel/NumberLists$Builder", "<init>", "(I)V"⟩ : MethodName)) rfl hown (mvT hZ (hw _ (List.mem_of_getElem? (i := 3) rfl))) (mvT hZ (hw _ (List.mem_of_getElem? (i := 4) rfl))) (mvT hZ (hw _ (List.mem_of_getElem? (i := 5) rfl))) (by decide) (backOf (W := 1) (rm1 l Z a0 hw [] bo _ _ h1 n0 z1 A1 g_bo F_numbers_bo F_starts_bo F_count_bo F_listed_bo) hZ (hw _ (List.mem_of_getElem? (i := 5) rfl)) (hw _ (List.mem_of_getElem? (i := 2) rfl)) (by decide) (by decide)) (g := (mkF m 44 #[.val (.int p1), .val (.int p2), .val (.int p3), .val (.int p4), .val (.int (1 : Int32)), .val (.int (0 : Int32)), .val (.int (1 : Int32)), .unset, .unset, .unset, .unset, .unset] [(.int (2 : Int32)), (.ref bo), (.ref bo)])) rfl (by rw [hml]; rfl) (Steps.refl _) (a := bo) (argsL := [(.int (2 : Int32))]) (rest := [(.ref bo)]) (lenOf pd__I_V rfl) rfl (by show 2 * 0 + _ ≤ _; exact Nat.le_of_eq rfl) (hb hby at_44) (fun _ _ => ⟨rfl, e1, (Nat.le_of_ble_eq_true rfl), (Nat.le_of_ble_eq_true rfl)⟩)
  dsimp only [Pt.U, Pt.locs, Pt.cells, Pt.slots] at X2 l2 y2 z2 st2 hQ2
  subst l2 y2 z2
  obtain ⟨rfl, N2q, nb, sb, kn, ks, Kc2, Eb2, Fnumbers2, Fstarts2, Fcount2, Flisted2, Vn2, Vs2, gn2, gs2, ne12, ne22, ne32⟩ := hQ2
  have N2 := Fr.app N0 N2q
  have zz2 : n0 ≤ T2.heap.size := Nat.le_trans z1 Kc2.1
  obtain ⟨cq3, kq3, q3a, q3b, q3c⟩ := isOf hZ rfl Eb2
  obtain ⟨_, _, ⟨T3, L3, k3, n3⟩, -, X3, ⟨Lc3, hQ3, l3, y3, z3⟩, st3⟩ := X2.virtualBack hx (y := (⟨"org/keyward/securitymodel/NumberLists$Builder", "add", "(I)V"⟩ : MethodName)) (z := (⟨"org/keyward/securitymodel/NumberLists$Builder", "add", "(I)V"⟩ : MethodName)) hown (mvT hZ (hw _ (List.mem_of_getElem? (i := 14) rfl))) (mvT hZ (hw _ (List.mem_of_getElem? (i := 15) rfl))) (notFace_of_selects (args := #[]) (mvT hZ (hw _ (List.mem_of_getElem? (i := 17) rfl)))) (mvT hZ (hw _ (List.mem_of_getElem? (i := 17) rfl))) (mvT hZ (hw _ (List.mem_of_getElem? (i := 16) rfl))) (by decide) (backOf (W := 0) (rm3 l Z a0 hw [] bo p1 nb sb (0 : Int32) (0 : Int32) kn _ 0 T2.heap n0 zz2 Eb2 Fnumbers2 Fstarts2 Fcount2 Flisted2 g_bo gn2 ne12 Vn2 (by decide) (by decide) (Nat.le_of_ble_eq_true rfl)) hZ (hw _ (List.mem_of_getElem? (i := 18) rfl)) (hw _ (List.mem_of_getElem? (i := 2) rfl)) (by decide) (by decide)) q3a q3c (g := (mkF m 57 #[.val (.int p1), .val (.int p2), .val (.int p3), .val (.int p4), .val (.int (1 : Int32)), .val (.int (0 : Int32)), .val (.int (1 : Int32)), .val (.ref bo), .unset, .unset, .unset, .unset] [(.int p1), (.ref bo)])) rfl (by rw [hml]; rfl) (Steps.refl _) (argsL := [(.int p1)]) (rest := []) (lenOf pd__I_V rfl) rfl (by show 2 * 0 + _ ≤ _; exact Nat.le_of_eq rfl) (hb hby at_57) (fun _ _ => ⟨rfl, rfl, (Nat.le_of_ble_eq_true rfl), (Nat.le_of_ble_eq_true rfl)⟩)
  dsimp only [Pt.U, Pt.locs, Pt.cells, Pt.slots] at X3 l3 y3 z3 st3 hQ3
  subst l3 y3 z3
  obtain ⟨rfl, N3q, Kc3, Eb3, Fnumbers3, Fstarts3, Fcount3, Flisted3, Vn3⟩ := hQ3
  have N3 := Fr.app N2 N3q
  have f4_V_sb := Vs2.keep Kc3 (ninS (Ne.symm ne22) (ninS (Ne.symm ne32) nin0))
  have zz3 : n0 ≤ T3.heap.size := Nat.le_trans zz2 Kc3.1
  have Vx3 : Arv Z T3.heap nb kn .int (16 : Int32) [(.int p1), (.int (0 : Int32)), (.int (0 : Int32)), (.int (0 : Int32)), (.int (0 : Int32)), (.int (0 : Int32)), (.int (0 : Int32)), (.int (0 : Int32)), (.int (0 : Int32)), (.int (0 : Int32)), (.int (0 : Int32)), (.int (0 : Int32)), (.int (0 : Int32)), (.int (0 : Int32)), (.int (0 : Int32)), (.int (0 : Int32))] (.int (0 : Int32)) := Vn3
  obtain ⟨cq5, kq5, q5a, q5b, q5c⟩ := isOf hZ rfl Eb3
  obtain ⟨_, _, ⟨T5, L5, k5, n5⟩, -, X5, ⟨Lc5, hQ5, l5, y5, z5⟩, st5⟩ := X3.virtualBack hx (y := (⟨"org/keyward/securitymodel/NumberLists$Builder", "end", "()V"⟩ : MethodName)) (z := (⟨"org/keyward/securitymodel/NumberLists$Builder", "end", "()V"⟩ : MethodName)) hown (mvT hZ (hw _ (List.mem_of_getElem? (i := 21) rfl))) (mvT hZ (hw _ (List.mem_of_getElem? (i := 22) rfl))) (notFace_of_selects (args := #[]) (mvT hZ (hw _ (List.mem_of_getElem? (i := 24) rfl)))) (mvT hZ (hw _ (List.mem_of_getElem? (i := 24) rfl))) (mvT hZ (hw _ (List.mem_of_getElem? (i := 23) rfl))) (by decide) (backOf (W := 0) (rm4 l Z a0 hw [] bo nb sb ((0 : Int32) + (1 : Int32)) (0 : Int32) ks _ 1 T3.heap n0 zz3 Eb3 Fnumbers3 Fstarts3 Fcount3 Flisted3 g_bo gs2 ne22 f4_V_sb (by decide) (by decide) (Nat.le_of_ble_eq_true rfl)) hZ (hw _ (List.mem_of_getElem? (i := 25) rfl)) (hw _ (List.mem_of_getElem? (i := 2) rfl)) (by decide) (by decide)) q5a q5c (g := (mkF m 73 #[.val (.int p1), .val (.int p2), .val (.int p3), .val (.int p4), .val (.int (1 : Int32)), .val (.int (0 : Int32)), .val (.int (1 : Int32)), .val (.ref bo), .unset, .unset, .unset, .unset] [(.ref bo)])) rfl (by rw [hml]; rfl) (Steps.refl _) (argsL := []) (rest := []) (lenOf pd___V rfl) rfl (by show 2 * 0 + _ ≤ _; exact Nat.le_of_eq rfl) (hb hby at_73) (fun _ _ => ⟨rfl, rfl, (Nat.le_of_ble_eq_true rfl), (Nat.le_of_ble_eq_true rfl)⟩)
  dsimp only [Pt.U, Pt.locs, Pt.cells, Pt.slots] at X5 l5 y5 z5 st5 hQ5
  subst l5 y5 z5
  obtain ⟨rfl, N5q, Kc5, Eb5, Fnumbers5, Fstarts5, Fcount5, Flisted5, Vs5⟩ := hQ5
  have N5 := Fr.app N3 N5q
  have f6_V_nb := Vx3.keep Kc5 (ninS (Ne.symm ne12) (ninS ne32 nin0))
  have zz5 : n0 ≤ T5.heap.size := Nat.le_trans zz3 Kc5.1
  have Vx5 : Arv Z T5.heap sb ks .int (3 : Int32) [(.int (0 : Int32)), (.int ((0 : Int32) + (1 : Int32))), (.int (0 : Int32))] (.int (0 : Int32)) := Vs5
  obtain ⟨cq7, kq7, q7a, q7b, q7c⟩ := isOf hZ rfl Eb5
  obtain ⟨_, _, ⟨T7, L7, k7, n7⟩, -, X7, ⟨Lc7, hQ7, l7, y7, z7⟩, st7⟩ := X5.virtualBack hx (y := (⟨"org/keyward/securitymodel/NumberLists$Builder", "add", "(I)V"⟩ : MethodName)) (z := (⟨"org/keyward/securitymodel/NumberLists$Builder", "add", "(I)V"⟩ : MethodName)) hown (mvT hZ (hw _ (List.mem_of_getElem? (i := 14) rfl))) (mvT hZ (hw _ (List.mem_of_getElem? (i := 15) rfl))) (notFace_of_selects (args := #[]) (mvT hZ (hw _ (List.mem_of_getElem? (i := 17) rfl)))) (mvT hZ (hw _ (List.mem_of_getElem? (i := 17) rfl))) (mvT hZ (hw _ (List.mem_of_getElem? (i := 16) rfl))) (by decide) (backOf (W := 0) (rm3 l Z a0 hw [] bo p3 nb sb ((0 : Int32) + (1 : Int32)) ((0 : Int32) + (1 : Int32)) kn _ 1 T5.heap n0 zz5 Eb5 Fnumbers5 Fstarts5 Fcount5 Flisted5 g_bo gn2 ne12 f6_V_nb (by decide) (by decide) (Nat.le_of_ble_eq_true rfl)) hZ (hw _ (List.mem_of_getElem? (i := 18) rfl)) (hw _ (List.mem_of_getElem? (i := 2) rfl)) (by decide) (by decide)) q7a q7c (g := (mkF m 84 #[.val (.int p1), .val (.int p2), .val (.int p3), .val (.int p4), .val (.int (1 : Int32)), .val (.int (0 : Int32)), .val (.int (1 : Int32)), .val (.ref bo), .unset, .unset, .unset, .unset] [(.int p3), (.ref bo)])) rfl (by rw [hml]; rfl) (Steps.refl _) (argsL := [(.int p3)]) (rest := []) (lenOf pd__I_V rfl) rfl (by show 2 * 0 + _ ≤ _; exact Nat.le_of_eq rfl) (hb hby at_84) (fun _ _ => ⟨rfl, rfl, (Nat.le_of_ble_eq_true rfl), (Nat.le_of_ble_eq_true rfl)⟩)
  dsimp only [Pt.U, Pt.locs, Pt.cells, Pt.slots] at X7 l7 y7 z7 st7 hQ7
  subst l7 y7 z7
  obtain ⟨rfl, N7q, Kc7, Eb7, Fnumbers7, Fstarts7, Fcount7, Flisted7, Vn7⟩ := hQ7
  have N7 := Fr.app N5 N7q
  have f8_V_sb := Vx5.keep Kc7 (ninS (Ne.symm ne22) (ninS (Ne.symm ne32) nin0))
  have zz7 : n0 ≤ T7.heap.size := Nat.le_trans zz5 Kc7.1
  have Vx7 : Arv Z T7.heap nb kn .int (16 : Int32) [(.int p1), (.int p3), (.int (0 : Int32)), (.int (0 : Int32)), (.int (0 : Int32)), (.int (0 : Int32)), (.int (0 : Int32)), (.int (0 : Int32)), (.int (0 : Int32)), (.int (0 : Int32)), (.int (0 : Int32)), (.int (0 : Int32)), (.int (0 : Int32)), (.int (0 : Int32)), (.int (0 : Int32)), (.int (0 : Int32))] (.int (0 : Int32)) := Vn7
  obtain ⟨cq9, kq9, q9a, q9b, q9c⟩ := isOf hZ rfl Eb7
  obtain ⟨_, _, ⟨T9, L9, k9, n9⟩, -, X9, ⟨Lc9, hQ9, l9, y9, z9⟩, st9⟩ := X7.virtualBack hx (y := (⟨"org/keyward/securitymodel/NumberLists$Builder", "end", "()V"⟩ : MethodName)) (z := (⟨"org/keyward/securitymodel/NumberLists$Builder", "end", "()V"⟩ : MethodName)) hown (mvT hZ (hw _ (List.mem_of_getElem? (i := 21) rfl))) (mvT hZ (hw _ (List.mem_of_getElem? (i := 22) rfl))) (notFace_of_selects (args := #[]) (mvT hZ (hw _ (List.mem_of_getElem? (i := 24) rfl)))) (mvT hZ (hw _ (List.mem_of_getElem? (i := 24) rfl))) (mvT hZ (hw _ (List.mem_of_getElem? (i := 23) rfl))) (by decide) (backOf (W := 0) (rm4 l Z a0 hw [] bo nb sb (((0 : Int32) + (1 : Int32)) + (1 : Int32)) ((0 : Int32) + (1 : Int32)) ks _ 2 T7.heap n0 zz7 Eb7 Fnumbers7 Fstarts7 Fcount7 Flisted7 g_bo gs2 ne22 f8_V_sb (by decide) (by decide) (Nat.le_of_ble_eq_true rfl)) hZ (hw _ (List.mem_of_getElem? (i := 25) rfl)) (hw _ (List.mem_of_getElem? (i := 2) rfl)) (by decide) (by decide)) q9a q9c (g := (mkF m 89 #[.val (.int p1), .val (.int p2), .val (.int p3), .val (.int p4), .val (.int (1 : Int32)), .val (.int (0 : Int32)), .val (.int (1 : Int32)), .val (.ref bo), .unset, .unset, .unset, .unset] [(.ref bo)])) rfl (by rw [hml]; rfl) (Steps.refl _) (argsL := []) (rest := []) (lenOf pd___V rfl) rfl (by show 2 * 0 + _ ≤ _; exact Nat.le_of_eq rfl) (hb hby at_89) (fun _ _ => ⟨rfl, rfl, (Nat.le_of_ble_eq_true rfl), (Nat.le_of_ble_eq_true rfl)⟩)
  dsimp only [Pt.U, Pt.locs, Pt.cells, Pt.slots] at X9 l9 y9 z9 st9 hQ9
  subst l9 y9 z9
  obtain ⟨rfl, N9q, Kc9, Eb9, Fnumbers9, Fstarts9, Fcount9, Flisted9, Vs9⟩ := hQ9
  have N9 := Fr.app N7 N9q
  have f10_V_nb := Vx7.keep Kc9 (ninS (Ne.symm ne12) (ninS ne32 nin0))
  have zz9 : n0 ≤ T9.heap.size := Nat.le_trans zz7 Kc9.1
  have Vx9 : Arv Z T9.heap sb ks .int (3 : Int32) [(.int (0 : Int32)), (.int ((0 : Int32) + (1 : Int32))), (.int (((0 : Int32) + (1 : Int32)) + (1 : Int32)))] (.int (0 : Int32)) := Vs9
  obtain ⟨cq11, kq11, q11a, q11b, q11c⟩ := isOf hZ rfl Eb9
  obtain ⟨_, _, ⟨T11, L11, k11, n11⟩, -, X11, ⟨Lc11, hQ11, l11, y11, z11⟩, st11⟩ := X9.virtualBack hx (y := (⟨"org/keyward/securitymodel/NumberLists$Builder", "build", "()Lorg/keyward/securitymodel/NumberLists;"⟩ : MethodName)) (z := (⟨"org/keyward/securitymodel/NumberLists$Builder", "build", "()Lorg/keyward/securitymodel/NumberLists;"⟩ : MethodName)) hown (mvT hZ (hw _ (List.mem_of_getElem? (i := 28) rfl))) (mvT hZ (hw _ (List.mem_of_getElem? (i := 29) rfl))) (notFace_of_selects (args := #[]) (mvT hZ (hw _ (List.mem_of_getElem? (i := 31) rfl)))) (mvT hZ (hw _ (List.mem_of_getElem? (i := 31) rfl))) (mvT hZ (hw _ (List.mem_of_getElem? (i := 30) rfl))) (by decide) (backOf (W := 0) (rm5 l Z a0 hw [] bo nb sb (((0 : Int32) + (1 : Int32)) + (1 : Int32)) (((0 : Int32) + (1 : Int32)) + (1 : Int32)) kn ks _ _ 2 T9.heap n0 zz9 Eb9 Fnumbers9 Fstarts9 Fcount9 Flisted9 f10_V_nb Vx9 (by decide) (by decide) (by decide) (by decide)) hZ (hw _ (List.mem_of_getElem? (i := 32) rfl)) (hw _ (List.mem_of_getElem? (i := 2) rfl)) (by decide) (by decide)) q11a q11c (g := (mkF m 94 #[.val (.int p1), .val (.int p2), .val (.int p3), .val (.int p4), .val (.int (1 : Int32)), .val (.int (0 : Int32)), .val (.int (1 : Int32)), .val (.ref bo), .unset, .unset, .unset, .unset] [(.ref bo)])) rfl (by rw [hml]; rfl) (Steps.refl _) (argsL := []) (rest := []) (lenOf pd___Lorg_keyward_securitymodel_NumberLists_ rfl) rfl (by show 2 * 0 + _ ≤ _; exact Nat.le_of_eq rfl) (hb hby at_94) (fun _ _ => ⟨rfl, rfl, (Nat.le_of_ble_eq_true rfl), (Nat.le_of_ble_eq_true rfl)⟩)
  dsimp only [Pt.U, Pt.locs, Pt.cells, Pt.slots] at X11 l11 y11 z11 st11 hQ11
  subst l11 y11 z11
  obtain ⟨o11, mb11, km11, rfl, N11q, Kc11, Eo11, So11, No11, Vm11⟩ := hQ11
  have N11 := Fr.app N9 N11q
  have f12_V_nb := f10_V_nb.keep Kc11 nin0
  have f13_E_bo := Eb9.keep Kc11
  have f14_F_bo_numbers := Fnumbers9.keep Kc11 nin0
  have f15_F_bo_starts := Fstarts9.keep Kc11 nin0
  have f16_F_bo_count := Fcount9.keep Kc11 nin0
  have f17_F_bo_listed := Flisted9.keep Kc11 nin0
  have f18_V_sb := Vx9.keep Kc11 nin0
  have zz11 : n0 ≤ T11.heap.size := Nat.le_trans zz9 Kc11.1
  obtain ⟨cq19, kq19, q19a, q19b, q19c⟩ := isOf hZ rfl Eo11
  obtain ⟨_, _, ⟨T19, L19, k19, n19⟩, -, X19, ⟨Lc19, hQ19, l19, y19, z19⟩, st19⟩ := X11.virtualBack hx (y := (⟨"org/keyward/securitymodel/NumberLists", "size", "(I)I"⟩ : MethodName)) (z := (⟨"org/keyward/securitymodel/NumberLists", "size", "(I)I"⟩ : MethodName)) hown (mvT hZ (hw _ (List.mem_of_getElem? (i := 56) rfl))) (mvT hZ (hw _ (List.mem_of_getElem? (i := 57) rfl))) (notFace_of_selects (args := #[]) (mvT hZ (hw _ (List.mem_of_getElem? (i := 59) rfl)))) (mvT hZ (hw _ (List.mem_of_getElem? (i := 59) rfl))) (mvT hZ (hw _ (List.mem_of_getElem? (i := 58) rfl))) (by decide) (backOf (W := 0) (rm9 l Z a0 hw [] o11 (0 : Int32) sb ks _ ((0 : Int32) + (1 : Int32)) (0 : Int32) T11.heap n0 zz11 So11 f18_V_sb (by decide) (by decide) rfl rfl) hZ (hw _ (List.mem_of_getElem? (i := 60) rfl)) (hw _ (List.mem_of_getElem? (i := 35) rfl)) (by decide) (by decide)) q19a q19c (g := (mkF m 137 #[.val (.int p1), .val (.int p2), .val (.int p3), .val (.int p4), .val (.int (1 : Int32)), .val (.int (0 : Int32)), .val (.int (1 : Int32)), .val (.ref bo), .val (.ref o11), .val (.int ((1 : Int32) + (0 : Int32))), .val (.int (1 : Int32)), .unset] [(.int (0 : Int32)), (.ref o11)])) rfl (by rw [hml]; rfl) (Steps.refl _) (argsL := [(.int (0 : Int32))]) (rest := []) (lenOf pd__I_I rfl) rfl (by show 2 * 0 + _ ≤ _; exact Nat.le_of_eq rfl) (hb hby at_137) (fun _ _ => ⟨rfl, rfl, (Nat.le_of_ble_eq_true rfl), (Nat.le_of_ble_eq_true rfl)⟩)
  dsimp only [Pt.U, Pt.locs, Pt.cells, Pt.slots] at X19 l19 y19 z19 st19 hQ19
  subst l19 y19 z19
  obtain ⟨rfl, N19q, e19⟩ := hQ19
  have N19 := Fr.app N11 N19q
  obtain ⟨cq20, kq20, q20a, q20b, q20c⟩ := isOf hZ e19 Eo11
  obtain ⟨_, _, ⟨T20, L20, k20, n20⟩, -, X20, ⟨Lc20, hQ20, l20, y20, z20⟩, st20⟩ := X19.virtualBack hx (y := (⟨"org/keyward/securitymodel/NumberLists", "size", "(I)I"⟩ : MethodName)) (z := (⟨"org/keyward/securitymodel/NumberLists", "size", "(I)I"⟩ : MethodName)) hown (mvT hZ (hw _ (List.mem_of_getElem? (i := 56) rfl))) (mvT hZ (hw _ (List.mem_of_getElem? (i := 57) rfl))) (notFace_of_selects (args := #[]) (mvT hZ (hw _ (List.mem_of_getElem? (i := 59) rfl)))) (mvT hZ (hw _ (List.mem_of_getElem? (i := 59) rfl))) (mvT hZ (hw _ (List.mem_of_getElem? (i := 58) rfl))) (by decide) (backOf (W := 0) (rm9 l Z a0 hw [] o11 (1 : Int32) sb ks _ (((0 : Int32) + (1 : Int32)) + (1 : Int32)) ((0 : Int32) + (1 : Int32)) T11.heap n0 zz11 So11 f18_V_sb (by decide) (by decide) rfl rfl) hZ (hw _ (List.mem_of_getElem? (i := 60) rfl)) (hw _ (List.mem_of_getElem? (i := 35) rfl)) (by decide) (by decide)) q20a q20c (g := (mkF m 150 #[.val (.int p1), .val (.int p2), .val (.int p3), .val (.int p4), .val (.int (1 : Int32)), .val (.int (0 : Int32)), .val (.int (1 : Int32)), .val (.ref bo), .val (.ref o11), .val (.int ((1 : Int32) + (0 : Int32))), .val (.int (1 : Int32)), .unset] [(.int (1 : Int32)), (.ref o11)])) rfl (by rw [hml]; rfl) (Steps.refl _) (argsL := [(.int (1 : Int32))]) (rest := []) (lenOf pd__I_I rfl) rfl (by show 2 * 0 + _ ≤ _; exact Nat.le_of_eq rfl) (hb hby at_150) (fun _ _ => ⟨rfl, e19, (Nat.le_of_ble_eq_true rfl), (Nat.le_of_ble_eq_true rfl)⟩)
  dsimp only [Pt.U, Pt.locs, Pt.cells, Pt.slots] at X20 l20 y20 z20 st20 hQ20
  subst l20 y20 z20
  obtain ⟨rfl, N20q, e20⟩ := hQ20
  have N20 := Fr.app N19 N20q
  obtain ⟨cq21, kq21, q21a, q21b, q21c⟩ := isOf hZ e20 Eo11
  obtain ⟨_, _, ⟨T21, L21, k21, n21⟩, -, X21, ⟨Lc21, hQ21, l21, y21, z21⟩, st21⟩ := X20.virtualBack hx (y := (⟨"org/keyward/securitymodel/NumberLists", "get", "(II)I"⟩ : MethodName)) (z := (⟨"org/keyward/securitymodel/NumberLists", "get", "(II)I"⟩ : MethodName)) hown (mvT hZ (hw _ (List.mem_of_getElem? (i := 61) rfl))) (mvT hZ (hw _ (List.mem_of_getElem? (i := 62) rfl))) (notFace_of_selects (args := #[]) (mvT hZ (hw _ (List.mem_of_getElem? (i := 64) rfl)))) (mvT hZ (hw _ (List.mem_of_getElem? (i := 64) rfl))) (mvT hZ (hw _ (List.mem_of_getElem? (i := 63) rfl))) (by decide) (backOf (W := 0) (rm10 l Z a0 hw [] o11 (0 : Int32) (0 : Int32) sb mb11 ks _ _ _ (((0 : Int32) + (1 : Int32)) + (1 : Int32)) (0 : Int32) p1 T11.heap n0 zz11 So11 No11 f18_V_sb Vm11 (by decide) rfl (by decide) rfl) hZ (hw _ (List.mem_of_getElem? (i := 65) rfl)) (hw _ (List.mem_of_getElem? (i := 35) rfl)) (by decide) (by decide)) q21a q21c (g := (mkF m 182 #[.val (.int p1), .val (.int p2), .val (.int p3), .val (.int p4), .val (.int (1 : Int32)), .val (.int (0 : Int32)), .val (.int (1 : Int32)), .val (.ref bo), .val (.ref o11), .val (.int ((1 : Int32) + (0 : Int32))), .val (.int (1 : Int32)), .val (.int p1)] [(.int (0 : Int32)), (.int (0 : Int32)), (.ref o11)])) rfl (by rw [hml]; rfl) (Steps.refl _) (argsL := [(.int (0 : Int32)), (.int (0 : Int32))]) (rest := []) (lenOf pd__II_I rfl) rfl (by show 2 * 0 + _ ≤ _; exact Nat.le_of_eq rfl) (hb hby at_182) (fun _ _ => ⟨rfl, e20, (Nat.le_of_ble_eq_true rfl), (Nat.le_of_ble_eq_true rfl)⟩)
  dsimp only [Pt.U, Pt.locs, Pt.cells, Pt.slots] at X21 l21 y21 z21 st21 hQ21
  subst l21 y21 z21
  obtain ⟨rfl, N21q, e21⟩ := hQ21
  have N21 := Fr.app N20 N21q
  obtain ⟨cq22, kq22, q22a, q22b, q22c⟩ := isOf hZ e21 Eo11
  obtain ⟨_, _, ⟨T22, L22, k22, n22⟩, -, X22, ⟨Lc22, hQ22, l22, y22, z22⟩, st22⟩ := X21.virtualBack hx (y := (⟨"org/keyward/securitymodel/NumberLists", "get", "(II)I"⟩ : MethodName)) (z := (⟨"org/keyward/securitymodel/NumberLists", "get", "(II)I"⟩ : MethodName)) hown (mvT hZ (hw _ (List.mem_of_getElem? (i := 61) rfl))) (mvT hZ (hw _ (List.mem_of_getElem? (i := 62) rfl))) (notFace_of_selects (args := #[]) (mvT hZ (hw _ (List.mem_of_getElem? (i := 64) rfl)))) (mvT hZ (hw _ (List.mem_of_getElem? (i := 64) rfl))) (mvT hZ (hw _ (List.mem_of_getElem? (i := 63) rfl))) (by decide) (backOf (W := 0) (rm10 l Z a0 hw [] o11 (1 : Int32) (0 : Int32) sb mb11 ks _ _ _ (((0 : Int32) + (1 : Int32)) + (1 : Int32)) ((0 : Int32) + (1 : Int32)) p3 T11.heap n0 zz11 So11 No11 f18_V_sb Vm11 (by decide) rfl (by decide) rfl) hZ (hw _ (List.mem_of_getElem? (i := 65) rfl)) (hw _ (List.mem_of_getElem? (i := 35) rfl)) (by decide) (by decide)) q22a q22c (g := (mkF m 221 #[.val (.int p1), .val (.int p2), .val (.int p3), .val (.int p4), .val (.int (1 : Int32)), .val (.int (0 : Int32)), .val (.int (1 : Int32)), .val (.ref bo), .val (.ref o11), .val (.int ((1 : Int32) + (0 : Int32))), .val (.int (1 : Int32)), .val (.int p1)] [(.int (0 : Int32)), (.int (1 : Int32)), (.ref o11)])) rfl (by rw [hml]; rfl) (Steps.refl _) (argsL := [(.int (1 : Int32)), (.int (0 : Int32))]) (rest := []) (lenOf pd__II_I rfl) rfl (by show 2 * 0 + _ ≤ _; exact Nat.le_of_eq rfl) (hb hby at_221) (fun _ _ => ⟨rfl, e21, (Nat.le_of_ble_eq_true rfl), (Nat.le_of_ble_eq_true rfl)⟩)
  dsimp only [Pt.U, Pt.locs, Pt.cells, Pt.slots] at X22 l22 y22 z22 st22 hQ22
  subst l22 y22 z22
  obtain ⟨rfl, N22q, e22⟩ := hQ22
  have N22 := Fr.app N21 N22q
  obtain ⟨fs, hr, hrun, hended, hW, hsame⟩ := X22.leave (v := some (.int (1 : Int32))) (fun h => by rw [Bd.returns] at h; cases h)
  refine ⟨_, _, pre0 _ ?_, hrun, hended, _, _, rfl, ?_, ⟨_, rfl⟩, hW, hsame.mono (by decide) (by decide)⟩
  · show Steps p.tables e below (s₁.setTop (mkF m 0 #[.val (.int p1), .val (.int p2), .val (.int p3), .val (.int p4), .unset, .unset, .unset, .unset, .unset, .unset, .unset, .unset] [])) _
    refine XS.iloadN X0.here hx rfl (hb hby at_0) rfl ?_
    show Steps p.tables e below (s₁.setTop (mkF m 1 #[.val (.int p1), .val (.int p2), .val (.int p3), .val (.int p4), .unset, .unset, .unset, .unset, .unset, .unset, .unset, .unset] [(.int p4)])) _
    refine XS.iconst X0.here hx rfl (hb hby at_1) ?_
    show Steps p.tables e below (s₁.setTop (mkF m 2 #[.val (.int p1), .val (.int p2), .val (.int p3), .val (.int p4), .unset, .unset, .unset, .unset, .unset, .unset, .unset, .unset] [(.int (1 : Int32)), (.int p4)])) _
    refine XS.iand X0.here hx rfl (hb hby at_2) rfl ?_
    show Steps p.tables e below (s₁.setTop (mkF m 3 #[.val (.int p1), .val (.int p2), .val (.int p3), .val (.int p4), .unset, .unset, .unset, .unset, .unset, .unset, .unset, .unset] [(.int (p4 &&& (1 : Int32)))])) _
    refine XS.ifNo X0.here hx rfl (hb hby at_3) rfl ((if0 _ _).trans (feq hc3).1) ?_
    show Steps p.tables e below (s₁.setTop (mkF m 6 #[.val (.int p1), .val (.int p2), .val (.int p3), .val (.int p4), .unset, .unset, .unset, .unset, .unset, .unset, .unset, .unset] [])) _
    refine XS.iconst X0.here hx rfl (hb hby at_6) ?_
    show Steps p.tables e below (s₁.setTop (mkF m 7 #[.val (.int p1), .val (.int p2), .val (.int p3), .val (.int p4), .unset, .unset, .unset, .unset, .unset, .unset, .unset, .unset] [(.int (1 : Int32))])) _
    refine XS.goto X0.here hx rfl (pc0 := 7) (pc' := 11) rfl (hb hby at_7) (by decide) (by decide) ?_
    show Steps p.tables e below (s₁.setTop (mkF m 11 #[.val (.int p1), .val (.int p2), .val (.int p3), .val (.int p4), .unset, .unset, .unset, .unset, .unset, .unset, .unset, .unset] [(.int (1 : Int32))])) _
    refine XS.istore X0.here hx rfl (hb hby at_11) rfl (l' := #[.val (.int p1), .val (.int p2), .val (.int p3), .val (.int p4), .val (.int (1 : Int32)), .unset, .unset, .unset, .unset, .unset, .unset, .unset]) rfl ?_
    show Steps p.tables e below (s₁.setTop (mkF m 13 #[.val (.int p1), .val (.int p2), .val (.int p3), .val (.int p4), .val (.int (1 : Int32)), .unset, .unset, .unset, .unset, .unset, .unset, .unset] [])) _
    refine XS.iloadN X0.here hx rfl (hb hby at_13) rfl ?_
    show Steps p.tables e below (s₁.setTop (mkF m 14 #[.val (.int p1), .val (.int p2), .val (.int p3), .val (.int p4), .val (.int (1 : Int32)), .unset, .unset, .unset, .unset, .unset, .unset, .unset] [(.int p4)])) _
    refine XS.iconst X0.here hx rfl (hb hby at_14) ?_
    show Steps p.tables e below (s₁.setTop (mkF m 15 #[.val (.int p1), .val (.int p2), .val (.int p3), .val (.int p4), .val (.int (1 : Int32)), .unset, .unset, .unset, .unset, .unset, .unset, .unset] [(.int (2 : Int32)), (.int p4)])) _
    refine XS.iand X0.here hx rfl (hb hby at_15) rfl ?_
    show Steps p.tables e below (s₁.setTop (mkF m 16 #[.val (.int p1), .val (.int p2), .val (.int p3), .val (.int p4), .val (.int (1 : Int32)), .unset, .unset, .unset, .unset, .unset, .unset, .unset] [(.int (p4 &&& (2 : Int32)))])) _
    refine XS.ifYes X0.here hx rfl (pc0 := 16) (pc' := 23) rfl (hb hby at_16) rfl ((if0 _ _).trans (teq hc16).1) (by decide) (by decide) ?_
    show Steps p.tables e below (s₁.setTop (mkF m 23 #[.val (.int p1), .val (.int p2), .val (.int p3), .val (.int p4), .val (.int (1 : Int32)), .unset, .unset, .unset, .unset, .unset, .unset, .unset] [])) _
    refine XS.iconst X0.here hx rfl (hb hby at_23) ?_
    show Steps p.tables e below (s₁.setTop (mkF m 24 #[.val (.int p1), .val (.int p2), .val (.int p3), .val (.int p4), .val (.int (1 : Int32)), .unset, .unset, .unset, .unset, .unset, .unset, .unset] [(.int (0 : Int32))])) _
    refine XS.istore X0.here hx rfl (hb hby at_24) rfl (l' := #[.val (.int p1), .val (.int p2), .val (.int p3), .val (.int p4), .val (.int (1 : Int32)), .val (.int (0 : Int32)), .unset, .unset, .unset, .unset, .unset, .unset]) rfl ?_
    show Steps p.tables e below (s₁.setTop (mkF m 26 #[.val (.int p1), .val (.int p2), .val (.int p3), .val (.int p4), .val (.int (1 : Int32)), .val (.int (0 : Int32)), .unset, .unset, .unset, .unset, .unset, .unset] [])) _
    refine XS.iloadN X0.here hx rfl (hb hby at_26) rfl ?_
    show Steps p.tables e below (s₁.setTop (mkF m 27 #[.val (.int p1), .val (.int p2), .val (.int p3), .val (.int p4), .val (.int (1 : Int32)), .val (.int (0 : Int32)), .unset, .unset, .unset, .unset, .unset, .unset] [(.int p4)])) _
    refine XS.iconst X0.here hx rfl (hb hby at_27) ?_
    show Steps p.tables e below (s₁.setTop (mkF m 28 #[.val (.int p1), .val (.int p2), .val (.int p3), .val (.int p4), .val (.int (1 : Int32)), .val (.int (0 : Int32)), .unset, .unset, .unset, .unset, .unset, .unset] [(.int (4 : Int32)), (.int p4)])) _
    refine XS.iand X0.here hx rfl (hb hby at_28) rfl ?_
    show Steps p.tables e below (s₁.setTop (mkF m 29 #[.val (.int p1), .val (.int p2), .val (.int p3), .val (.int p4), .val (.int (1 : Int32)), .val (.int (0 : Int32)), .unset, .unset, .unset, .unset, .unset, .unset] [(.int (p4 &&& (4 : Int32)))])) _
    refine XS.ifNo X0.here hx rfl (hb hby at_29) rfl ((if0 _ _).trans (feq hc29).1) ?_
    show Steps p.tables e below (s₁.setTop (mkF m 32 #[.val (.int p1), .val (.int p2), .val (.int p3), .val (.int p4), .val (.int (1 : Int32)), .val (.int (0 : Int32)), .unset, .unset, .unset, .unset, .unset, .unset] [])) _
    refine XS.iconst X0.here hx rfl (hb hby at_32) ?_
    show Steps p.tables e below (s₁.setTop (mkF m 33 #[.val (.int p1), .val (.int p2), .val (.int p3), .val (.int p4), .val (.int (1 : Int32)), .val (.int (0 : Int32)), .unset, .unset, .unset, .unset, .unset, .unset] [(.int (1 : Int32))])) _
    refine XS.goto X0.here hx rfl (pc0 := 33) (pc' := 37) rfl (hb hby at_33) (by decide) (by decide) ?_
    show Steps p.tables e below (s₁.setTop (mkF m 37 #[.val (.int p1), .val (.int p2), .val (.int p3), .val (.int p4), .val (.int (1 : Int32)), .val (.int (0 : Int32)), .unset, .unset, .unset, .unset, .unset, .unset] [(.int (1 : Int32))])) _
    refine XS.istore X0.here hx rfl (hb hby at_37) rfl (l' := #[.val (.int p1), .val (.int p2), .val (.int p3), .val (.int p4), .val (.int (1 : Int32)), .val (.int (0 : Int32)), .val (.int (1 : Int32)), .unset, .unset, .unset, .unset, .unset]) rfl ?_
    show Steps p.tables e below (s₁.setTop (mkF m 39 #[.val (.int p1), .val (.int p2), .val (.int p3), .val (.int p4), .val (.int (1 : Int32)), .val (.int (0 : Int32)), .val (.int (1 : Int32)), .unset, .unset, .unset, .unset, .unset] [])) _
    refine st1 _ ?_
    show Steps p.tables e below (T1.setTop (mkF m 42 #[.val (.int p1), .val (.int p2), .val (.int p3), .val (.int p4), .val (.int (1 : Int32)), .val (.int (0 : Int32)), .val (.int (1 : Int32)), .unset, .unset, .unset, .unset, .unset] [(.ref bo)])) _
    refine XS.dup X1.here hx rfl (hb hby at_42) rfl rfl ?_
    show Steps p.tables e below (T1.setTop (mkF m 43 #[.val (.int p1), .val (.int p2), .val (.int p3), .val (.int p4), .val (.int (1 : Int32)), .val (.int (0 : Int32)), .val (.int (1 : Int32)), .unset, .unset, .unset, .unset, .unset] [(.ref bo), (.ref bo)])) _
    refine XS.iconst X1.here hx rfl (hb hby at_43) ?_
    show Steps p.tables e below (T1.setTop (mkF m 44 #[.val (.int p1), .val (.int p2), .val (.int p3), .val (.int p4), .val (.int (1 : Int32)), .val (.int (0 : Int32)), .val (.int (1 : Int32)), .unset, .unset, .unset, .unset, .unset] [(.int (2 : Int32)), (.ref bo), (.ref bo)])) _
    refine st2.trans ?_
    show Steps p.tables e below (T2.setTop (mkF m 47 #[.val (.int p1), .val (.int p2), .val (.int p3), .val (.int p4), .val (.int (1 : Int32)), .val (.int (0 : Int32)), .val (.int (1 : Int32)), .unset, .unset, .unset, .unset, .unset] [(.ref bo)])) _
    refine XS.astore X2.here hx rfl (hb hby at_47) rfl rfl (l' := #[.val (.int p1), .val (.int p2), .val (.int p3), .val (.int p4), .val (.int (1 : Int32)), .val (.int (0 : Int32)), .val (.int (1 : Int32)), .val (.ref bo), .unset, .unset, .unset, .unset]) rfl ?_
    show Steps p.tables e below (T2.setTop (mkF m 49 #[.val (.int p1), .val (.int p2), .val (.int p3), .val (.int p4), .val (.int (1 : Int32)), .val (.int (0 : Int32)), .val (.int (1 : Int32)), .val (.ref bo), .unset, .unset, .unset, .unset] [])) _
    refine XS.iload X2.here hx rfl (hb hby at_49) rfl ?_
    show Steps p.tables e below (T2.setTop (mkF m 51 #[.val (.int p1), .val (.int p2), .val (.int p3), .val (.int p4), .val (.int (1 : Int32)), .val (.int (0 : Int32)), .val (.int (1 : Int32)), .val (.ref bo), .unset, .unset, .unset, .unset] [(.int (1 : Int32))])) _
    refine XS.ifNo X2.here hx rfl (hb hby at_51) rfl ((if0 _ _).trans (feq (by decide : ¬ ((1 : Int32) = (0 : Int32)))).1) ?_
    show Steps p.tables e below (T2.setTop (mkF m 54 #[.val (.int p1), .val (.int p2), .val (.int p3), .val (.int p4), .val (.int (1 : Int32)), .val (.int (0 : Int32)), .val (.int (1 : Int32)), .val (.ref bo), .unset, .unset, .unset, .unset] [])) _
    refine XS.aload X2.here hx rfl (hb hby at_54) rfl rfl ?_
    show Steps p.tables e below (T2.setTop (mkF m 56 #[.val (.int p1), .val (.int p2), .val (.int p3), .val (.int p4), .val (.int (1 : Int32)), .val (.int (0 : Int32)), .val (.int (1 : Int32)), .val (.ref bo), .unset, .unset, .unset, .unset] [(.ref bo)])) _
    refine XS.iloadN X2.here hx rfl (hb hby at_56) rfl ?_
    show Steps p.tables e below (T2.setTop (mkF m 57 #[.val (.int p1), .val (.int p2), .val (.int p3), .val (.int p4), .val (.int (1 : Int32)), .val (.int (0 : Int32)), .val (.int (1 : Int32)), .val (.ref bo), .unset, .unset, .unset, .unset] [(.int p1), (.ref bo)])) _
    refine st3.trans ?_
    show Steps p.tables e below (T3.setTop (mkF m 60 #[.val (.int p1), .val (.int p2), .val (.int p3), .val (.int p4), .val (.int (1 : Int32)), .val (.int (0 : Int32)), .val (.int (1 : Int32)), .val (.ref bo), .unset, .unset, .unset, .unset] [])) _
    refine XS.iload X3.here hx rfl (hb hby at_60) rfl ?_
    show Steps p.tables e below (T3.setTop (mkF m 62 #[.val (.int p1), .val (.int p2), .val (.int p3), .val (.int p4), .val (.int (1 : Int32)), .val (.int (0 : Int32)), .val (.int (1 : Int32)), .val (.ref bo), .unset, .unset, .unset, .unset] [(.int (0 : Int32))])) _
    refine XS.ifYes X3.here hx rfl (pc0 := 62) (pc' := 71) rfl (hb hby at_62) rfl ((if0 _ _).trans (teq (by decide : (0 : Int32) = (0 : Int32))).1) (by decide) (by decide) ?_
    show Steps p.tables e below (T3.setTop (mkF m 71 #[.val (.int p1), .val (.int p2), .val (.int p3), .val (.int p4), .val (.int (1 : Int32)), .val (.int (0 : Int32)), .val (.int (1 : Int32)), .val (.ref bo), .unset, .unset, .unset, .unset] [])) _
    refine XS.aload X3.here hx rfl (hb hby at_71) rfl rfl ?_
    show Steps p.tables e below (T3.setTop (mkF m 73 #[.val (.int p1), .val (.int p2), .val (.int p3), .val (.int p4), .val (.int (1 : Int32)), .val (.int (0 : Int32)), .val (.int (1 : Int32)), .val (.ref bo), .unset, .unset, .unset, .unset] [(.ref bo)])) _
    refine st5.trans ?_
    show Steps p.tables e below (T5.setTop (mkF m 76 #[.val (.int p1), .val (.int p2), .val (.int p3), .val (.int p4), .val (.int (1 : Int32)), .val (.int (0 : Int32)), .val (.int (1 : Int32)), .val (.ref bo), .unset, .unset, .unset, .unset] [])) _
    refine XS.iload X5.here hx rfl (hb hby at_76) rfl ?_
    show Steps p.tables e below (T5.setTop (mkF m 78 #[.val (.int p1), .val (.int p2), .val (.int p3), .val (.int p4), .val (.int (1 : Int32)), .val (.int (0 : Int32)), .val (.int (1 : Int32)), .val (.ref bo), .unset, .unset, .unset, .unset] [(.int (1 : Int32))])) _
    refine XS.ifNo X5.here hx rfl (hb hby at_78) rfl ((if0 _ _).trans (feq (by decide : ¬ ((1 : Int32) = (0 : Int32)))).1) ?_
    show Steps p.tables e below (T5.setTop (mkF m 81 #[.val (.int p1), .val (.int p2), .val (.int p3), .val (.int p4), .val (.int (1 : Int32)), .val (.int (0 : Int32)), .val (.int (1 : Int32)), .val (.ref bo), .unset, .unset, .unset, .unset] [])) _
    refine XS.aload X5.here hx rfl (hb hby at_81) rfl rfl ?_
    show Steps p.tables e below (T5.setTop (mkF m 83 #[.val (.int p1), .val (.int p2), .val (.int p3), .val (.int p4), .val (.int (1 : Int32)), .val (.int (0 : Int32)), .val (.int (1 : Int32)), .val (.ref bo), .unset, .unset, .unset, .unset] [(.ref bo)])) _
    refine XS.iloadN X5.here hx rfl (hb hby at_83) rfl ?_
    show Steps p.tables e below (T5.setTop (mkF m 84 #[.val (.int p1), .val (.int p2), .val (.int p3), .val (.int p4), .val (.int (1 : Int32)), .val (.int (0 : Int32)), .val (.int (1 : Int32)), .val (.ref bo), .unset, .unset, .unset, .unset] [(.int p3), (.ref bo)])) _
    refine st7.trans ?_
    show Steps p.tables e below (T7.setTop (mkF m 87 #[.val (.int p1), .val (.int p2), .val (.int p3), .val (.int p4), .val (.int (1 : Int32)), .val (.int (0 : Int32)), .val (.int (1 : Int32)), .val (.ref bo), .unset, .unset, .unset, .unset] [])) _
    refine XS.aload X7.here hx rfl (hb hby at_87) rfl rfl ?_
    show Steps p.tables e below (T7.setTop (mkF m 89 #[.val (.int p1), .val (.int p2), .val (.int p3), .val (.int p4), .val (.int (1 : Int32)), .val (.int (0 : Int32)), .val (.int (1 : Int32)), .val (.ref bo), .unset, .unset, .unset, .unset] [(.ref bo)])) _
    refine st9.trans ?_
    show Steps p.tables e below (T9.setTop (mkF m 92 #[.val (.int p1), .val (.int p2), .val (.int p3), .val (.int p4), .val (.int (1 : Int32)), .val (.int (0 : Int32)), .val (.int (1 : Int32)), .val (.ref bo), .unset, .unset, .unset, .unset] [])) _
    refine XS.aload X9.here hx rfl (hb hby at_92) rfl rfl ?_
    show Steps p.tables e below (T9.setTop (mkF m 94 #[.val (.int p1), .val (.int p2), .val (.int p3), .val (.int p4), .val (.int (1 : Int32)), .val (.int (0 : Int32)), .val (.int (1 : Int32)), .val (.ref bo), .unset, .unset, .unset, .unset] [(.ref bo)])) _
    refine st11.trans ?_
    show Steps p.tables e below (T11.setTop (mkF m 97 #[.val (.int p1), .val (.int p2), .val (.int p3), .val (.int p4), .val (.int (1 : Int32)), .val (.int (0 : Int32)), .val (.int (1 : Int32)), .val (.ref bo), .unset, .unset, .unset, .unset] [(.ref o11)])) _
    refine XS.astore X11.here hx rfl (hb hby at_97) rfl rfl (l' := #[.val (.int p1), .val (.int p2), .val (.int p3), .val (.int p4), .val (.int (1 : Int32)), .val (.int (0 : Int32)), .val (.int (1 : Int32)), .val (.ref bo), .val (.ref o11), .unset, .unset, .unset]) rfl ?_
    show Steps p.tables e below (T11.setTop (mkF m 99 #[.val (.int p1), .val (.int p2), .val (.int p3), .val (.int p4), .val (.int (1 : Int32)), .val (.int (0 : Int32)), .val (.int (1 : Int32)), .val (.ref bo), .val (.ref o11), .unset, .unset, .unset] [])) _
    refine XS.iload X11.here hx rfl (hb hby at_99) rfl ?_
    show Steps p.tables e below (T11.setTop (mkF m 101 #[.val (.int p1), .val (.int p2), .val (.int p3), .val (.int p4), .val (.int (1 : Int32)), .val (.int (0 : Int32)), .val (.int (1 : Int32)), .val (.ref bo), .val (.ref o11), .unset, .unset, .unset] [(.int (1 : Int32))])) _
    refine XS.ifNo X11.here hx rfl (hb hby at_101) rfl ((if0 _ _).trans (feq (by decide : ¬ ((1 : Int32) = (0 : Int32)))).1) ?_
    show Steps p.tables e below (T11.setTop (mkF m 104 #[.val (.int p1), .val (.int p2), .val (.int p3), .val (.int p4), .val (.int (1 : Int32)), .val (.int (0 : Int32)), .val (.int (1 : Int32)), .val (.ref bo), .val (.ref o11), .unset, .unset, .unset] [])) _
    refine XS.iconst X11.here hx rfl (hb hby at_104) ?_
    show Steps p.tables e below (T11.setTop (mkF m 105 #[.val (.int p1), .val (.int p2), .val (.int p3), .val (.int p4), .val (.int (1 : Int32)), .val (.int (0 : Int32)), .val (.int (1 : Int32)), .val (.ref bo), .val (.ref o11), .unset, .unset, .unset] [(.int (1 : Int32))])) _
    refine XS.goto X11.here hx rfl (pc0 := 105) (pc' := 109) rfl (hb hby at_105) (by decide) (by decide) ?_
    show Steps p.tables e below (T11.setTop (mkF m 109 #[.val (.int p1), .val (.int p2), .val (.int p3), .val (.int p4), .val (.int (1 : Int32)), .val (.int (0 : Int32)), .val (.int (1 : Int32)), .val (.ref bo), .val (.ref o11), .unset, .unset, .unset] [(.int (1 : Int32))])) _
    refine XS.iload X11.here hx rfl (hb hby at_109) rfl ?_
    show Steps p.tables e below (T11.setTop (mkF m 111 #[.val (.int p1), .val (.int p2), .val (.int p3), .val (.int p4), .val (.int (1 : Int32)), .val (.int (0 : Int32)), .val (.int (1 : Int32)), .val (.ref bo), .val (.ref o11), .unset, .unset, .unset] [(.int (0 : Int32)), (.int (1 : Int32))])) _
    refine XS.ifYes X11.here hx rfl (pc0 := 111) (pc' := 118) rfl (hb hby at_111) rfl ((if0 _ _).trans (teq (by decide : (0 : Int32) = (0 : Int32))).1) (by decide) (by decide) ?_
    show Steps p.tables e below (T11.setTop (mkF m 118 #[.val (.int p1), .val (.int p2), .val (.int p3), .val (.int p4), .val (.int (1 : Int32)), .val (.int (0 : Int32)), .val (.int (1 : Int32)), .val (.ref bo), .val (.ref o11), .unset, .unset, .unset] [(.int (1 : Int32))])) _
    refine XS.iconst X11.here hx rfl (hb hby at_118) ?_
    show Steps p.tables e below (T11.setTop (mkF m 119 #[.val (.int p1), .val (.int p2), .val (.int p3), .val (.int p4), .val (.int (1 : Int32)), .val (.int (0 : Int32)), .val (.int (1 : Int32)), .val (.ref bo), .val (.ref o11), .unset, .unset, .unset] [(.int (0 : Int32)), (.int (1 : Int32))])) _
    refine XS.iadd X11.here hx rfl (hb hby at_119) rfl ?_
    show Steps p.tables e below (T11.setTop (mkF m 120 #[.val (.int p1), .val (.int p2), .val (.int p3), .val (.int p4), .val (.int (1 : Int32)), .val (.int (0 : Int32)), .val (.int (1 : Int32)), .val (.ref bo), .val (.ref o11), .unset, .unset, .unset] [(.int ((1 : Int32) + (0 : Int32)))])) _
    refine XS.istore X11.here hx rfl (hb hby at_120) rfl (l' := #[.val (.int p1), .val (.int p2), .val (.int p3), .val (.int p4), .val (.int (1 : Int32)), .val (.int (0 : Int32)), .val (.int (1 : Int32)), .val (.ref bo), .val (.ref o11), .val (.int ((1 : Int32) + (0 : Int32))), .unset, .unset]) rfl ?_
    show Steps p.tables e below (T11.setTop (mkF m 122 #[.val (.int p1), .val (.int p2), .val (.int p3), .val (.int p4), .val (.int (1 : Int32)), .val (.int (0 : Int32)), .val (.int (1 : Int32)), .val (.ref bo), .val (.ref o11), .val (.int ((1 : Int32) + (0 : Int32))), .unset, .unset] [])) _
    refine XS.iload X11.here hx rfl (hb hby at_122) rfl ?_
    show Steps p.tables e below (T11.setTop (mkF m 124 #[.val (.int p1), .val (.int p2), .val (.int p3), .val (.int p4), .val (.int (1 : Int32)), .val (.int (0 : Int32)), .val (.int (1 : Int32)), .val (.ref bo), .val (.ref o11), .val (.int ((1 : Int32) + (0 : Int32))), .unset, .unset] [(.int (1 : Int32))])) _
    refine XS.ifNo X11.here hx rfl (hb hby at_124) rfl ((if0 _ _).trans (feq (by decide : ¬ ((1 : Int32) = (0 : Int32)))).1) ?_
    show Steps p.tables e below (T11.setTop (mkF m 127 #[.val (.int p1), .val (.int p2), .val (.int p3), .val (.int p4), .val (.int (1 : Int32)), .val (.int (0 : Int32)), .val (.int (1 : Int32)), .val (.ref bo), .val (.ref o11), .val (.int ((1 : Int32) + (0 : Int32))), .unset, .unset] [])) _
    refine XS.iconst X11.here hx rfl (hb hby at_127) ?_
    show Steps p.tables e below (T11.setTop (mkF m 128 #[.val (.int p1), .val (.int p2), .val (.int p3), .val (.int p4), .val (.int (1 : Int32)), .val (.int (0 : Int32)), .val (.int (1 : Int32)), .val (.ref bo), .val (.ref o11), .val (.int ((1 : Int32) + (0 : Int32))), .unset, .unset] [(.int (1 : Int32))])) _
    refine XS.goto X11.here hx rfl (pc0 := 128) (pc' := 132) rfl (hb hby at_128) (by decide) (by decide) ?_
    show Steps p.tables e below (T11.setTop (mkF m 132 #[.val (.int p1), .val (.int p2), .val (.int p3), .val (.int p4), .val (.int (1 : Int32)), .val (.int (0 : Int32)), .val (.int (1 : Int32)), .val (.ref bo), .val (.ref o11), .val (.int ((1 : Int32) + (0 : Int32))), .unset, .unset] [(.int (1 : Int32))])) _
    refine XS.istore X11.here hx rfl (hb hby at_132) rfl (l' := #[.val (.int p1), .val (.int p2), .val (.int p3), .val (.int p4), .val (.int (1 : Int32)), .val (.int (0 : Int32)), .val (.int (1 : Int32)), .val (.ref bo), .val (.ref o11), .val (.int ((1 : Int32) + (0 : Int32))), .val (.int (1 : Int32)), .unset]) rfl ?_
    show Steps p.tables e below (T11.setTop (mkF m 134 #[.val (.int p1), .val (.int p2), .val (.int p3), .val (.int p4), .val (.int (1 : Int32)), .val (.int (0 : Int32)), .val (.int (1 : Int32)), .val (.ref bo), .val (.ref o11), .val (.int ((1 : Int32) + (0 : Int32))), .val (.int (1 : Int32)), .unset] [])) _
    refine XS.aload X11.here hx rfl (hb hby at_134) rfl rfl ?_
    show Steps p.tables e below (T11.setTop (mkF m 136 #[.val (.int p1), .val (.int p2), .val (.int p3), .val (.int p4), .val (.int (1 : Int32)), .val (.int (0 : Int32)), .val (.int (1 : Int32)), .val (.ref bo), .val (.ref o11), .val (.int ((1 : Int32) + (0 : Int32))), .val (.int (1 : Int32)), .unset] [(.ref o11)])) _
    refine XS.iconst X11.here hx rfl (hb hby at_136) ?_
    show Steps p.tables e below (T11.setTop (mkF m 137 #[.val (.int p1), .val (.int p2), .val (.int p3), .val (.int p4), .val (.int (1 : Int32)), .val (.int (0 : Int32)), .val (.int (1 : Int32)), .val (.ref bo), .val (.ref o11), .val (.int ((1 : Int32) + (0 : Int32))), .val (.int (1 : Int32)), .unset] [(.int (0 : Int32)), (.ref o11)])) _
    refine st19.trans ?_
    show Steps p.tables e below (T19.setTop (mkF m 140 #[.val (.int p1), .val (.int p2), .val (.int p3), .val (.int p4), .val (.int (1 : Int32)), .val (.int (0 : Int32)), .val (.int (1 : Int32)), .val (.ref bo), .val (.ref o11), .val (.int ((1 : Int32) + (0 : Int32))), .val (.int (1 : Int32)), .unset] [(.int (((0 : Int32) + (1 : Int32)) - (0 : Int32)))])) _
    refine XS.iload X19.here hx rfl (hb hby at_140) rfl ?_
    show Steps p.tables e below (T19.setTop (mkF m 142 #[.val (.int p1), .val (.int p2), .val (.int p3), .val (.int p4), .val (.int (1 : Int32)), .val (.int (0 : Int32)), .val (.int (1 : Int32)), .val (.ref bo), .val (.ref o11), .val (.int ((1 : Int32) + (0 : Int32))), .val (.int (1 : Int32)), .unset] [(.int ((1 : Int32) + (0 : Int32))), (.int (((0 : Int32) + (1 : Int32)) - (0 : Int32)))])) _
    refine XS.icmpYes X19.here hx rfl (pc0 := 142) (pc' := 147) rfl (hb hby at_142) rfl (teq (by decide : (((0 : Int32) + (1 : Int32)) - (0 : Int32)) = ((1 : Int32) + (0 : Int32)))).1 (by decide) (by decide) ?_
    show Steps p.tables e below (T19.setTop (mkF m 147 #[.val (.int p1), .val (.int p2), .val (.int p3), .val (.int p4), .val (.int (1 : Int32)), .val (.int (0 : Int32)), .val (.int (1 : Int32)), .val (.ref bo), .val (.ref o11), .val (.int ((1 : Int32) + (0 : Int32))), .val (.int (1 : Int32)), .unset] [])) _
    refine XS.aload X19.here hx rfl (hb hby at_147) rfl rfl ?_
    show Steps p.tables e below (T19.setTop (mkF m 149 #[.val (.int p1), .val (.int p2), .val (.int p3), .val (.int p4), .val (.int (1 : Int32)), .val (.int (0 : Int32)), .val (.int (1 : Int32)), .val (.ref bo), .val (.ref o11), .val (.int ((1 : Int32) + (0 : Int32))), .val (.int (1 : Int32)), .unset] [(.ref o11)])) _
    refine XS.iconst X19.here hx rfl (hb hby at_149) ?_
    show Steps p.tables e below (T19.setTop (mkF m 150 #[.val (.int p1), .val (.int p2), .val (.int p3), .val (.int p4), .val (.int (1 : Int32)), .val (.int (0 : Int32)), .val (.int (1 : Int32)), .val (.ref bo), .val (.ref o11), .val (.int ((1 : Int32) + (0 : Int32))), .val (.int (1 : Int32)), .unset] [(.int (1 : Int32)), (.ref o11)])) _
    refine st20.trans ?_
    show Steps p.tables e below (T20.setTop (mkF m 153 #[.val (.int p1), .val (.int p2), .val (.int p3), .val (.int p4), .val (.int (1 : Int32)), .val (.int (0 : Int32)), .val (.int (1 : Int32)), .val (.ref bo), .val (.ref o11), .val (.int ((1 : Int32) + (0 : Int32))), .val (.int (1 : Int32)), .unset] [(.int ((((0 : Int32) + (1 : Int32)) + (1 : Int32)) - ((0 : Int32) + (1 : Int32))))])) _
    refine XS.iload X20.here hx rfl (hb hby at_153) rfl ?_
    show Steps p.tables e below (T20.setTop (mkF m 155 #[.val (.int p1), .val (.int p2), .val (.int p3), .val (.int p4), .val (.int (1 : Int32)), .val (.int (0 : Int32)), .val (.int (1 : Int32)), .val (.ref bo), .val (.ref o11), .val (.int ((1 : Int32) + (0 : Int32))), .val (.int (1 : Int32)), .unset] [(.int (1 : Int32)), (.int ((((0 : Int32) + (1 : Int32)) + (1 : Int32)) - ((0 : Int32) + (1 : Int32))))])) _
    refine XS.icmpYes X20.here hx rfl (pc0 := 155) (pc' := 160) rfl (hb hby at_155) rfl (teq (by decide : ((((0 : Int32) + (1 : Int32)) + (1 : Int32)) - ((0 : Int32) + (1 : Int32))) = (1 : Int32))).1 (by decide) (by decide) ?_
    show Steps p.tables e below (T20.setTop (mkF m 160 #[.val (.int p1), .val (.int p2), .val (.int p3), .val (.int p4), .val (.int (1 : Int32)), .val (.int (0 : Int32)), .val (.int (1 : Int32)), .val (.ref bo), .val (.ref o11), .val (.int ((1 : Int32) + (0 : Int32))), .val (.int (1 : Int32)), .unset] [])) _
    refine XS.iload X20.here hx rfl (hb hby at_160) rfl ?_
    show Steps p.tables e below (T20.setTop (mkF m 162 #[.val (.int p1), .val (.int p2), .val (.int p3), .val (.int p4), .val (.int (1 : Int32)), .val (.int (0 : Int32)), .val (.int (1 : Int32)), .val (.ref bo), .val (.ref o11), .val (.int ((1 : Int32) + (0 : Int32))), .val (.int (1 : Int32)), .unset] [(.int ((1 : Int32) + (0 : Int32)))])) _
    refine XS.iconst X20.here hx rfl (hb hby at_162) ?_
    show Steps p.tables e below (T20.setTop (mkF m 163 #[.val (.int p1), .val (.int p2), .val (.int p3), .val (.int p4), .val (.int (1 : Int32)), .val (.int (0 : Int32)), .val (.int (1 : Int32)), .val (.ref bo), .val (.ref o11), .val (.int ((1 : Int32) + (0 : Int32))), .val (.int (1 : Int32)), .unset] [(.int (1 : Int32)), (.int ((1 : Int32) + (0 : Int32)))])) _
    refine XS.icmpNo X20.here hx rfl (hb hby at_163) rfl (flt (by decide : ¬ (((1 : Int32) + (0 : Int32)) < (1 : Int32)))).1 ?_
    show Steps p.tables e below (T20.setTop (mkF m 166 #[.val (.int p1), .val (.int p2), .val (.int p3), .val (.int p4), .val (.int (1 : Int32)), .val (.int (0 : Int32)), .val (.int (1 : Int32)), .val (.ref bo), .val (.ref o11), .val (.int ((1 : Int32) + (0 : Int32))), .val (.int (1 : Int32)), .unset] [])) _
    refine XS.iload X20.here hx rfl (hb hby at_166) rfl ?_
    show Steps p.tables e below (T20.setTop (mkF m 168 #[.val (.int p1), .val (.int p2), .val (.int p3), .val (.int p4), .val (.int (1 : Int32)), .val (.int (0 : Int32)), .val (.int (1 : Int32)), .val (.ref bo), .val (.ref o11), .val (.int ((1 : Int32) + (0 : Int32))), .val (.int (1 : Int32)), .unset] [(.int (1 : Int32))])) _
    refine XS.ifNo X20.here hx rfl (hb hby at_168) rfl ((if0 _ _).trans (feq (by decide : ¬ ((1 : Int32) = (0 : Int32)))).1) ?_
    show Steps p.tables e below (T20.setTop (mkF m 171 #[.val (.int p1), .val (.int p2), .val (.int p3), .val (.int p4), .val (.int (1 : Int32)), .val (.int (0 : Int32)), .val (.int (1 : Int32)), .val (.ref bo), .val (.ref o11), .val (.int ((1 : Int32) + (0 : Int32))), .val (.int (1 : Int32)), .unset] [])) _
    refine XS.iloadN X20.here hx rfl (hb hby at_171) rfl ?_
    show Steps p.tables e below (T20.setTop (mkF m 172 #[.val (.int p1), .val (.int p2), .val (.int p3), .val (.int p4), .val (.int (1 : Int32)), .val (.int (0 : Int32)), .val (.int (1 : Int32)), .val (.ref bo), .val (.ref o11), .val (.int ((1 : Int32) + (0 : Int32))), .val (.int (1 : Int32)), .unset] [(.int p1)])) _
    refine XS.goto X20.here hx rfl (pc0 := 172) (pc' := 176) rfl (hb hby at_172) (by decide) (by decide) ?_
    show Steps p.tables e below (T20.setTop (mkF m 176 #[.val (.int p1), .val (.int p2), .val (.int p3), .val (.int p4), .val (.int (1 : Int32)), .val (.int (0 : Int32)), .val (.int (1 : Int32)), .val (.ref bo), .val (.ref o11), .val (.int ((1 : Int32) + (0 : Int32))), .val (.int (1 : Int32)), .unset] [(.int p1)])) _
    refine XS.istore X20.here hx rfl (hb hby at_176) rfl (l' := #[.val (.int p1), .val (.int p2), .val (.int p3), .val (.int p4), .val (.int (1 : Int32)), .val (.int (0 : Int32)), .val (.int (1 : Int32)), .val (.ref bo), .val (.ref o11), .val (.int ((1 : Int32) + (0 : Int32))), .val (.int (1 : Int32)), .val (.int p1)]) rfl ?_
    show Steps p.tables e below (T20.setTop (mkF m 178 #[.val (.int p1), .val (.int p2), .val (.int p3), .val (.int p4), .val (.int (1 : Int32)), .val (.int (0 : Int32)), .val (.int (1 : Int32)), .val (.ref bo), .val (.ref o11), .val (.int ((1 : Int32) + (0 : Int32))), .val (.int (1 : Int32)), .val (.int p1)] [])) _
    refine XS.aload X20.here hx rfl (hb hby at_178) rfl rfl ?_
    show Steps p.tables e below (T20.setTop (mkF m 180 #[.val (.int p1), .val (.int p2), .val (.int p3), .val (.int p4), .val (.int (1 : Int32)), .val (.int (0 : Int32)), .val (.int (1 : Int32)), .val (.ref bo), .val (.ref o11), .val (.int ((1 : Int32) + (0 : Int32))), .val (.int (1 : Int32)), .val (.int p1)] [(.ref o11)])) _
    refine XS.iconst X20.here hx rfl (hb hby at_180) ?_
    show Steps p.tables e below (T20.setTop (mkF m 181 #[.val (.int p1), .val (.int p2), .val (.int p3), .val (.int p4), .val (.int (1 : Int32)), .val (.int (0 : Int32)), .val (.int (1 : Int32)), .val (.ref bo), .val (.ref o11), .val (.int ((1 : Int32) + (0 : Int32))), .val (.int (1 : Int32)), .val (.int p1)] [(.int (0 : Int32)), (.ref o11)])) _
    refine XS.iconst X20.here hx rfl (hb hby at_181) ?_
    show Steps p.tables e below (T20.setTop (mkF m 182 #[.val (.int p1), .val (.int p2), .val (.int p3), .val (.int p4), .val (.int (1 : Int32)), .val (.int (0 : Int32)), .val (.int (1 : Int32)), .val (.ref bo), .val (.ref o11), .val (.int ((1 : Int32) + (0 : Int32))), .val (.int (1 : Int32)), .val (.int p1)] [(.int (0 : Int32)), (.int (0 : Int32)), (.ref o11)])) _
    refine st21.trans ?_
    show Steps p.tables e below (T21.setTop (mkF m 185 #[.val (.int p1), .val (.int p2), .val (.int p3), .val (.int p4), .val (.int (1 : Int32)), .val (.int (0 : Int32)), .val (.int (1 : Int32)), .val (.ref bo), .val (.ref o11), .val (.int ((1 : Int32) + (0 : Int32))), .val (.int (1 : Int32)), .val (.int p1)] [(.int p1)])) _
    refine XS.iload X21.here hx rfl (hb hby at_185) rfl ?_
    show Steps p.tables e below (T21.setTop (mkF m 187 #[.val (.int p1), .val (.int p2), .val (.int p3), .val (.int p4), .val (.int (1 : Int32)), .val (.int (0 : Int32)), .val (.int (1 : Int32)), .val (.ref bo), .val (.ref o11), .val (.int ((1 : Int32) + (0 : Int32))), .val (.int (1 : Int32)), .val (.int p1)] [(.int p1), (.int p1)])) _
    refine XS.icmpYes X21.here hx rfl (pc0 := 187) (pc' := 192) rfl (hb hby at_187) rfl (teq (rfl : p1 = p1)).1 (by decide) (by decide) ?_
    show Steps p.tables e below (T21.setTop (mkF m 192 #[.val (.int p1), .val (.int p2), .val (.int p3), .val (.int p4), .val (.int (1 : Int32)), .val (.int (0 : Int32)), .val (.int (1 : Int32)), .val (.ref bo), .val (.ref o11), .val (.int ((1 : Int32) + (0 : Int32))), .val (.int (1 : Int32)), .val (.int p1)] [])) _
    refine XS.iload X21.here hx rfl (hb hby at_192) rfl ?_
    show Steps p.tables e below (T21.setTop (mkF m 194 #[.val (.int p1), .val (.int p2), .val (.int p3), .val (.int p4), .val (.int (1 : Int32)), .val (.int (0 : Int32)), .val (.int (1 : Int32)), .val (.ref bo), .val (.ref o11), .val (.int ((1 : Int32) + (0 : Int32))), .val (.int (1 : Int32)), .val (.int p1)] [(.int ((1 : Int32) + (0 : Int32)))])) _
    refine XS.iconst X21.here hx rfl (hb hby at_194) ?_
    show Steps p.tables e below (T21.setTop (mkF m 195 #[.val (.int p1), .val (.int p2), .val (.int p3), .val (.int p4), .val (.int (1 : Int32)), .val (.int (0 : Int32)), .val (.int (1 : Int32)), .val (.ref bo), .val (.ref o11), .val (.int ((1 : Int32) + (0 : Int32))), .val (.int (1 : Int32)), .val (.int p1)] [(.int (2 : Int32)), (.int ((1 : Int32) + (0 : Int32)))])) _
    refine XS.icmpYes X21.here hx rfl (pc0 := 195) (pc' := 211) rfl (hb hby at_195) rfl (feq (by decide : ¬ (((1 : Int32) + (0 : Int32)) = (2 : Int32)))).2 (by decide) (by decide) ?_
    show Steps p.tables e below (T21.setTop (mkF m 211 #[.val (.int p1), .val (.int p2), .val (.int p3), .val (.int p4), .val (.int (1 : Int32)), .val (.int (0 : Int32)), .val (.int (1 : Int32)), .val (.ref bo), .val (.ref o11), .val (.int ((1 : Int32) + (0 : Int32))), .val (.int (1 : Int32)), .val (.int p1)] [])) _
    refine XS.iload X21.here hx rfl (hb hby at_211) rfl ?_
    show Steps p.tables e below (T21.setTop (mkF m 213 #[.val (.int p1), .val (.int p2), .val (.int p3), .val (.int p4), .val (.int (1 : Int32)), .val (.int (0 : Int32)), .val (.int (1 : Int32)), .val (.ref bo), .val (.ref o11), .val (.int ((1 : Int32) + (0 : Int32))), .val (.int (1 : Int32)), .val (.int p1)] [(.int (1 : Int32))])) _
    refine XS.iconst X21.here hx rfl (hb hby at_213) ?_
    show Steps p.tables e below (T21.setTop (mkF m 214 #[.val (.int p1), .val (.int p2), .val (.int p3), .val (.int p4), .val (.int (1 : Int32)), .val (.int (0 : Int32)), .val (.int (1 : Int32)), .val (.ref bo), .val (.ref o11), .val (.int ((1 : Int32) + (0 : Int32))), .val (.int (1 : Int32)), .val (.int p1)] [(.int (1 : Int32)), (.int (1 : Int32))])) _
    refine XS.icmpNo X21.here hx rfl (hb hby at_214) rfl (teq (by decide : (1 : Int32) = (1 : Int32))).2 ?_
    show Steps p.tables e below (T21.setTop (mkF m 217 #[.val (.int p1), .val (.int p2), .val (.int p3), .val (.int p4), .val (.int (1 : Int32)), .val (.int (0 : Int32)), .val (.int (1 : Int32)), .val (.ref bo), .val (.ref o11), .val (.int ((1 : Int32) + (0 : Int32))), .val (.int (1 : Int32)), .val (.int p1)] [])) _
    refine XS.aload X21.here hx rfl (hb hby at_217) rfl rfl ?_
    show Steps p.tables e below (T21.setTop (mkF m 219 #[.val (.int p1), .val (.int p2), .val (.int p3), .val (.int p4), .val (.int (1 : Int32)), .val (.int (0 : Int32)), .val (.int (1 : Int32)), .val (.ref bo), .val (.ref o11), .val (.int ((1 : Int32) + (0 : Int32))), .val (.int (1 : Int32)), .val (.int p1)] [(.ref o11)])) _
    refine XS.iconst X21.here hx rfl (hb hby at_219) ?_
    show Steps p.tables e below (T21.setTop (mkF m 220 #[.val (.int p1), .val (.int p2), .val (.int p3), .val (.int p4), .val (.int (1 : Int32)), .val (.int (0 : Int32)), .val (.int (1 : Int32)), .val (.ref bo), .val (.ref o11), .val (.int ((1 : Int32) + (0 : Int32))), .val (.int (1 : Int32)), .val (.int p1)] [(.int (1 : Int32)), (.ref o11)])) _
    refine XS.iconst X21.here hx rfl (hb hby at_220) ?_
    show Steps p.tables e below (T21.setTop (mkF m 221 #[.val (.int p1), .val (.int p2), .val (.int p3), .val (.int p4), .val (.int (1 : Int32)), .val (.int (0 : Int32)), .val (.int (1 : Int32)), .val (.ref bo), .val (.ref o11), .val (.int ((1 : Int32) + (0 : Int32))), .val (.int (1 : Int32)), .val (.int p1)] [(.int (0 : Int32)), (.int (1 : Int32)), (.ref o11)])) _
    refine st22.trans ?_
    show Steps p.tables e below (T22.setTop (mkF m 224 #[.val (.int p1), .val (.int p2), .val (.int p3), .val (.int p4), .val (.int (1 : Int32)), .val (.int (0 : Int32)), .val (.int (1 : Int32)), .val (.ref bo), .val (.ref o11), .val (.int ((1 : Int32) + (0 : Int32))), .val (.int (1 : Int32)), .val (.int p1)] [(.int p3)])) _
    refine XS.iloadN X22.here hx rfl (hb hby at_224) rfl ?_
    show Steps p.tables e below (T22.setTop (mkF m 225 #[.val (.int p1), .val (.int p2), .val (.int p3), .val (.int p4), .val (.int (1 : Int32)), .val (.int (0 : Int32)), .val (.int (1 : Int32)), .val (.ref bo), .val (.ref o11), .val (.int ((1 : Int32) + (0 : Int32))), .val (.int (1 : Int32)), .val (.int p1)] [(.int p3), (.int p3)])) _
    refine XS.icmpYes X22.here hx rfl (pc0 := 225) (pc' := 230) rfl (hb hby at_225) rfl (teq (rfl : p3 = p3)).1 (by decide) (by decide) ?_
    show Steps p.tables e below (T22.setTop (mkF m 230 #[.val (.int p1), .val (.int p2), .val (.int p3), .val (.int p4), .val (.int (1 : Int32)), .val (.int (0 : Int32)), .val (.int (1 : Int32)), .val (.ref bo), .val (.ref o11), .val (.int ((1 : Int32) + (0 : Int32))), .val (.int (1 : Int32)), .val (.int p1)] [])) _
    refine XS.iconst X22.here hx rfl (hb hby at_230) ?_
    show Steps p.tables e below (T22.setTop (mkF m 231 #[.val (.int p1), .val (.int p2), .val (.int p3), .val (.int p4), .val (.int (1 : Int32)), .val (.int (0 : Int32)), .val (.int (1 : Int32)), .val (.ref bo), .val (.ref o11), .val (.int ((1 : Int32) + (0 : Int32))), .val (.int (1 : Int32)), .val (.int p1)] [(.int (1 : Int32))])) _
    exact retN X22 hx (t := .boolean) Bd.returns (by simp) (hb hby at_231) hr
  · show Q0 n0 _ _ _
    exact ⟨rfl, N22⟩
set_option maxRecDepth 65536 in
set_option maxHeartbeats 40000000 in
theorem rm0_110 (l : Launch) (Z : State) (a0 : Array Value) (hw : ∀ d ∈ tables_1, d.before a0 Z = true) (ws : List Jvm.Cond) (p1 p2 p3 p4 : Int32) (h0 : Heap) (n0 : Nat) (Z0 : n0 ≤ h0.size)  (hc3 : ¬ ((p4 &&& (1 : Int32)) = (0 : Int32))) (hc16 : ¬ ((p4 &&& (2 : Int32)) = (0 : Int32))) (hc29 : (p4 &&& (4 : Int32)) = (0 : Int32)) :
    MetFree l x (head1 (Jvm.Cond.code x code maxLocals ret :: ws) room_1) (fun a U => a = #[(.int p1), (.int p2), (.int p3), (.int p4)] ∧ Z.Warmed39 U.vm ∧ U.heap = h0) (fun _ _ _ _ _ => True) (fun _ U o U' => ∃ v L, o = .returned v ∧ Q0 n0 v U'.heap L ∧ FrameEnd U o U' L room_1.cells room_1.slots) := by
  refine MetFree.of_bodySF (plainFor_of_name pn_org_keyward_securitymodel_BuilderEndPinLaw) hisR ?_
  intro p e s m args below meth cd s₁ Bd hml0 hPre hKc
  obtain ⟨rfl, hZ, hHp⟩ := hPre
  have hx := Bd.exec
  have hby := Bd.bytes
  have hml : cd.maxLocals = 12 := hml0
  have hown : s.vm.findClass "org/keyward/securitymodel/BuilderEndPinLaw" = some m.cls := findClass_of_methodNamed Bd.named
  have hnm := (name_of_methodNamed Bd.named Bd.method).1
  have X0 : Stand p l e room_1 s m #[(.int p1), (.int p2), (.int p3), (.int p4)] below meth cd s₁ [] 0 0 := Stand.of_body Bd
  have e0 : s₁.heap = h0 := by rw [← hHp, Bd.state]; rfl
  have N0 := Fr.nil n0
  have pre0 : ∀ t, Steps p.tables e below (s₁.setTop (mkF m 0 #[.val (.int p1), .val (.int p2), .val (.int p3), .val (.int p4), .unset, .unset, .unset, .unset, .unset, .unset, .unset, .unset] [])) t → Steps p.tables e below (s₁.setTop (entryFrame m #[(.int p1), (.int p2), (.int p3), (.int p4)] maxLocals)) t := fun t k => castTop (ef_0 m p1 p2 p3 p4) k
  obtain ⟨T1, h1, X1, e1, E1, A1, D1, -, st1⟩ := newO X0 hx hZ hown (hw _ (List.mem_of_getElem? (i := 0) rfl)) (hw _ (List.mem_of_getElem? (i := 1) rfl)) (hw _ (List.mem_of_getElem? (i := 2) rfl)) e0 (g := (mkF m 39 #[.val (.int p1), .val (.int p2), .val (.int p3), .val (.int p4), .val (.int (1 : Int32)), .val (.int (1 : Int32)), .val (.int (0 : Int32)), .unset, .unset, .unset, .unset, .unset] [])) rfl (hb hby at_39) (Nat.le_of_ble_eq_true rfl) (Nat.le_of_ble_eq_true rfl)
  obtain ⟨bo, g1⟩ : ∃ z, z = h0.size := ⟨_, rfl⟩
  rw [← g1] at A1 D1 st1
  have g_bo : n0 ≤ bo := Nat.le_trans Z0 (Nat.le_of_eq g1.symm)
  have z1 : n0 ≤ h1.size := Nat.le_trans Z0 E1.1
  have F_numbers_bo : Fld Z h1 bo "org/keyward/securitymodel/NumberLists$Builder" "numbers" "[I" .null := D1 (Or.inl (hw _ (List.mem_of_getElem? (i := 11) rfl))) (ty := (.array .int)) (by decide)
  have F_starts_bo : Fld Z h1 bo "org/keyward/securitymodel/NumberLists$Builder" "starts" "[I" .null := D1 (Or.inr (hw _ (List.mem_of_getElem? (i := 13) rfl))) (ty := (.array .int)) (by decide)
  have F_count_bo : Fld Z h1 bo "org/keyward/securitymodel/NumberLists$Builder" "count" "I" (.int (0 : Int32)) := D1 (Or.inl (hw _ (List.mem_of_getElem? (i := 20) rfl))) (ty := .int) (by decide)
  have F_listed_bo : Fld Z h1 bo "org/keyward/securitymodel/NumberLists$Builder" "listed" "I" (.int (0 : Int32)) := D1 (Or.inl (hw _ (List.mem_of_getElem? (i := 27) rfl))) (ty := .int) (by decide)
  obtain ⟨_, _, ⟨T2, L2, k2, n2⟩, -, X2, ⟨Lc2, hQ2, l2, y2, z2⟩, st2⟩ := X1.specialBack hx (y := (⟨"org/keyward/securitymodel/NumberLists$Builder", "<init>", "(I)V"⟩ : MethodName)) rfl hown (mvT hZ (hw _ (List.mem_of_getElem? (i := 3) rfl))) (mvT hZ (hw _ (List.mem_of_getElem? (i := 4) rfl))) (mvT hZ (hw _ (List.mem_of_getElem? (i := 5) rfl))) (by decide) (backOf (W := 1) (rm1 l Z a0 hw [] bo _ _ h1 n0 z1 A1 g_bo F_numbers_bo F_starts_bo F_count_bo F_listed_bo) hZ (hw _ (List.mem_of_getElem? (i := 5) rfl)) (hw _ (List.mem_of_getElem? (i := 2) rfl)) (by decide) (by decide)) (g := (mkF m 44 #[.val (.int p1), .val (.int p2), .val (.int p3), .val (.int p4), .val (.int (1 : Int32)), .val (.int (1 : Int32)), .val (.int (0 : Int32)), .unset, .unset, .unset, .unset, .unset] [(.int (2 : Int32)), (.ref bo), (.ref bo)])) rfl (by rw [hml]; rfl) (Steps.refl _) (a := bo) (argsL := [(.int (2 : Int32))]) (rest := [(.ref bo)]) (lenOf pd__I_V rfl) rfl (by show 2 * 0 + _ ≤ _; exact Nat.le_of_eq rfl) (hb hby at_44) (fun _ _ => ⟨rfl, e1, (Nat.le_of_ble_eq_true rfl), (Nat.le_of_ble_eq_true rfl)⟩)
  dsimp only [Pt.U, Pt.locs, Pt.cells, Pt.slots] at X2 l2 y2 z2 st2 hQ2
  subst l2 y2 z2
  obtain ⟨rfl, N2q, nb, sb, kn, ks, Kc2, Eb2, Fnumbers2, Fstarts2, Fcount2, Flisted2, Vn2, Vs2, gn2, gs2, ne12, ne22, ne32⟩ := hQ2
  have N2 := Fr.app N0 N2q
  have zz2 : n0 ≤ T2.heap.size := Nat.le_trans z1 Kc2.1
  obtain ⟨cq3, kq3, q3a, q3b, q3c⟩ := isOf hZ rfl Eb2
  obtain ⟨_, _, ⟨T3, L3, k3, n3⟩, -, X3, ⟨Lc3, hQ3, l3, y3, z3⟩, st3⟩ := X2.virtualBack hx (y := (⟨"org/keyward/securitymodel/NumberLists$Builder", "add", "(I)V"⟩ : MethodName)) (z := (⟨"org/keyward/securitymodel/NumberLists$Builder", "add", "(I)V"⟩ : MethodName)) hown (mvT hZ (hw _ (List.mem_of_getElem? (i := 14) rfl))) (mvT hZ (hw _ (List.mem_of_getElem? (i := 15) rfl))) (notFace_of_selects (args := #[]) (mvT hZ (hw _ (List.mem_of_getElem? (i := 17) rfl)))) (mvT hZ (hw _ (List.mem_of_getElem? (i := 17) rfl))) (mvT hZ (hw _ (List.mem_of_getElem? (i := 16) rfl))) (by decide) (backOf (W := 0) (rm3 l Z a0 hw [] bo p1 nb sb (0 : Int32) (0 : Int32) kn _ 0 T2.heap n0 zz2 Eb2 Fnumbers2 Fstarts2 Fcount2 Flisted2 g_bo gn2 ne12 Vn2 (by decide) (by decide) (Nat.le_of_ble_eq_true rfl)) hZ (hw _ (List.mem_of_getElem? (i := 18) rfl)) (hw _ (List.mem_of_getElem? (i := 2) rfl)) (by decide) (by decide)) q3a q3c (g := (mkF m 57 #[.val (.int p1), .val (.int p2), .val (.int p3), .val (.int p4), .val (.int (1 : Int32)), .val (.int (1 : Int32)), .val (.int (0 : Int32)), .val (.ref bo), .unset, .unset, .unset, .unset] [(.int p1), (.ref bo)])) rfl (by rw [hml]; rfl) (Steps.refl _) (argsL := [(.int p1)]) (rest := []) (lenOf pd__I_V rfl) rfl (by show 2 * 0 + _ ≤ _; exact Nat.le_of_eq rfl) (hb hby at_57) (fun _ _ => ⟨rfl, rfl, (Nat.le_of_ble_eq_true rfl), (Nat.le_of_ble_eq_true rfl)⟩)
  dsimp only [Pt.U, Pt.locs, Pt.cells, Pt.slots] at X3 l3 y3 z3 st3 hQ3
  subst l3 y3 z3
  obtain ⟨rfl, N3q, Kc3, Eb3, Fnumbers3, Fstarts3, Fcount3, Flisted3, Vn3⟩ := hQ3
  have N3 := Fr.app N2 N3q
  have f4_V_sb := Vs2.keep Kc3 (ninS (Ne.symm ne22) (ninS (Ne.symm ne32) nin0))
  have zz3 : n0 ≤ T3.heap.size := Nat.le_trans zz2 Kc3.1
  have Vx3 : Arv Z T3.heap nb kn .int (16 : Int32) [(.int p1), (.int (0 : Int32)), (.int (0 : Int32)), (.int (0 : Int32)), (.int (0 : Int32)), (.int (0 : Int32)), (.int (0 : Int32)), (.int (0 : Int32)), (.int (0 : Int32)), (.int (0 : Int32)), (.int (0 : Int32)), (.int (0 : Int32)), (.int (0 : Int32)), (.int (0 : Int32)), (.int (0 : Int32)), (.int (0 : Int32))] (.int (0 : Int32)) := Vn3
  obtain ⟨cq5, kq5, q5a, q5b, q5c⟩ := isOf hZ rfl Eb3
  obtain ⟨_, _, ⟨T5, L5, k5, n5⟩, -, X5, ⟨Lc5, hQ5, l5, y5, z5⟩, st5⟩ := X3.virtualBack hx (y := (⟨"org/keyward/securitymodel/NumberLists$Builder", "add", "(I)V"⟩ : MethodName)) (z := (⟨"org/keyward/securitymodel/NumberLists$Builder", "add", "(I)V"⟩ : MethodName)) hown (mvT hZ (hw _ (List.mem_of_getElem? (i := 14) rfl))) (mvT hZ (hw _ (List.mem_of_getElem? (i := 15) rfl))) (notFace_of_selects (args := #[]) (mvT hZ (hw _ (List.mem_of_getElem? (i := 17) rfl)))) (mvT hZ (hw _ (List.mem_of_getElem? (i := 17) rfl))) (mvT hZ (hw _ (List.mem_of_getElem? (i := 16) rfl))) (by decide) (backOf (W := 0) (rm3 l Z a0 hw [] bo p2 nb sb ((0 : Int32) + (1 : Int32)) (0 : Int32) kn _ 1 T3.heap n0 zz3 Eb3 Fnumbers3 Fstarts3 Fcount3 Flisted3 g_bo gn2 ne12 Vx3 (by decide) (by decide) (Nat.le_of_ble_eq_true rfl)) hZ (hw _ (List.mem_of_getElem? (i := 18) rfl)) (hw _ (List.mem_of_getElem? (i := 2) rfl)) (by decide) (by decide)) q5a q5c (g := (mkF m 68 #[.val (.int p1), .val (.int p2), .val (.int p3), .val (.int p4), .val (.int (1 : Int32)), .val (.int (1 : Int32)), .val (.int (0 : Int32)), .val (.ref bo), .unset, .unset, .unset, .unset] [(.int p2), (.ref bo)])) rfl (by rw [hml]; rfl) (Steps.refl _) (argsL := [(.int p2)]) (rest := []) (lenOf pd__I_V rfl) rfl (by show 2 * 0 + _ ≤ _; exact Nat.le_of_eq rfl) (hb hby at_68) (fun _ _ => ⟨rfl, rfl, (Nat.le_of_ble_eq_true rfl), (Nat.le_of_ble_eq_true rfl)⟩)
  dsimp only [Pt.U, Pt.locs, Pt.cells, Pt.slots] at X5 l5 y5 z5 st5 hQ5
  subst l5 y5 z5
  obtain ⟨rfl, N5q, Kc5, Eb5, Fnumbers5, Fstarts5, Fcount5, Flisted5, Vn5⟩ := hQ5
  have N5 := Fr.app N3 N5q
  have f6_V_sb := f4_V_sb.keep Kc5 (ninS (Ne.symm ne22) (ninS (Ne.symm ne32) nin0))
  have zz5 : n0 ≤ T5.heap.size := Nat.le_trans zz3 Kc5.1
  have Vx5 : Arv Z T5.heap nb kn .int (16 : Int32) [(.int p1), (.int p2), (.int (0 : Int32)), (.int (0 : Int32)), (.int (0 : Int32)), (.int (0 : Int32)), (.int (0 : Int32)), (.int (0 : Int32)), (.int (0 : Int32)), (.int (0 : Int32)), (.int (0 : Int32)), (.int (0 : Int32)), (.int (0 : Int32)), (.int (0 : Int32)), (.int (0 : Int32)), (.int (0 : Int32))] (.int (0 : Int32)) := Vn5
  obtain ⟨cq7, kq7, q7a, q7b, q7c⟩ := isOf hZ rfl Eb5
  obtain ⟨_, _, ⟨T7, L7, k7, n7⟩, -, X7, ⟨Lc7, hQ7, l7, y7, z7⟩, st7⟩ := X5.virtualBack hx (y := (⟨"org/keyward/securitymodel/NumberLists$Builder", "end", "()V"⟩ : MethodName)) (z := (⟨"org/keyward/securitymodel/NumberLists$Builder", "end", "()V"⟩ : MethodName)) hown (mvT hZ (hw _ (List.mem_of_getElem? (i := 21) rfl))) (mvT hZ (hw _ (List.mem_of_getElem? (i := 22) rfl))) (notFace_of_selects (args := #[]) (mvT hZ (hw _ (List.mem_of_getElem? (i := 24) rfl)))) (mvT hZ (hw _ (List.mem_of_getElem? (i := 24) rfl))) (mvT hZ (hw _ (List.mem_of_getElem? (i := 23) rfl))) (by decide) (backOf (W := 0) (rm4 l Z a0 hw [] bo nb sb (((0 : Int32) + (1 : Int32)) + (1 : Int32)) (0 : Int32) ks _ 1 T5.heap n0 zz5 Eb5 Fnumbers5 Fstarts5 Fcount5 Flisted5 g_bo gs2 ne22 f6_V_sb (by decide) (by decide) (Nat.le_of_ble_eq_true rfl)) hZ (hw _ (List.mem_of_getElem? (i := 25) rfl)) (hw _ (List.mem_of_getElem? (i := 2) rfl)) (by decide) (by decide)) q7a q7c (g := (mkF m 73 #[.val (.int p1), .val (.int p2), .val (.int p3), .val (.int p4), .val (.int (1 : Int32)), .val (.int (1 : Int32)), .val (.int (0 : Int32)), .val (.ref bo), .unset, .unset, .unset, .unset] [(.ref bo)])) rfl (by rw [hml]; rfl) (Steps.refl _) (argsL := []) (rest := []) (lenOf pd___V rfl) rfl (by show 2 * 0 + _ ≤ _; exact Nat.le_of_eq rfl) (hb hby at_73) (fun _ _ => ⟨rfl, rfl, (Nat.le_of_ble_eq_true rfl), (Nat.le_of_ble_eq_true rfl)⟩)
  dsimp only [Pt.U, Pt.locs, Pt.cells, Pt.slots] at X7 l7 y7 z7 st7 hQ7
  subst l7 y7 z7
  obtain ⟨rfl, N7q, Kc7, Eb7, Fnumbers7, Fstarts7, Fcount7, Flisted7, Vs7⟩ := hQ7
  have N7 := Fr.app N5 N7q
  have f8_V_nb := Vx5.keep Kc7 (ninS (Ne.symm ne12) (ninS ne32 nin0))
  have zz7 : n0 ≤ T7.heap.size := Nat.le_trans zz5 Kc7.1
  have Vx7 : Arv Z T7.heap sb ks .int (3 : Int32) [(.int (0 : Int32)), (.int (((0 : Int32) + (1 : Int32)) + (1 : Int32))), (.int (0 : Int32))] (.int (0 : Int32)) := Vs7
  obtain ⟨cq9, kq9, q9a, q9b, q9c⟩ := isOf hZ rfl Eb7
  obtain ⟨_, _, ⟨T9, L9, k9, n9⟩, -, X9, ⟨Lc9, hQ9, l9, y9, z9⟩, st9⟩ := X7.virtualBack hx (y := (⟨"org/keyward/securitymodel/NumberLists$Builder", "end", "()V"⟩ : MethodName)) (z := (⟨"org/keyward/securitymodel/NumberLists$Builder", "end", "()V"⟩ : MethodName)) hown (mvT hZ (hw _ (List.mem_of_getElem? (i := 21) rfl))) (mvT hZ (hw _ (List.mem_of_getElem? (i := 22) rfl))) (notFace_of_selects (args := #[]) (mvT hZ (hw _ (List.mem_of_getElem? (i := 24) rfl)))) (mvT hZ (hw _ (List.mem_of_getElem? (i := 24) rfl))) (mvT hZ (hw _ (List.mem_of_getElem? (i := 23) rfl))) (by decide) (backOf (W := 0) (rm4 l Z a0 hw [] bo nb sb (((0 : Int32) + (1 : Int32)) + (1 : Int32)) ((0 : Int32) + (1 : Int32)) ks _ 2 T7.heap n0 zz7 Eb7 Fnumbers7 Fstarts7 Fcount7 Flisted7 g_bo gs2 ne22 Vx7 (by decide) (by decide) (Nat.le_of_ble_eq_true rfl)) hZ (hw _ (List.mem_of_getElem? (i := 25) rfl)) (hw _ (List.mem_of_getElem? (i := 2) rfl)) (by decide) (by decide)) q9a q9c (g := (mkF m 89 #[.val (.int p1), .val (.int p2), .val (.int p3), .val (.int p4), .val (.int (1 : Int32)), .val (.int (1 : Int32)), .val (.int (0 : Int32)), .val (.ref bo), .unset, .unset, .unset, .unset] [(.ref bo)])) rfl (by rw [hml]; rfl) (Steps.refl _) (argsL := []) (rest := []) (lenOf pd___V rfl) rfl (by show 2 * 0 + _ ≤ _; exact Nat.le_of_eq rfl) (hb hby at_89) (fun _ _ => ⟨rfl, rfl, (Nat.le_of_ble_eq_true rfl), (Nat.le_of_ble_eq_true rfl)⟩)
  dsimp only [Pt.U, Pt.locs, Pt.cells, Pt.slots] at X9 l9 y9 z9 st9 hQ9
  subst l9 y9 z9
  obtain ⟨rfl, N9q, Kc9, Eb9, Fnumbers9, Fstarts9, Fcount9, Flisted9, Vs9⟩ := hQ9
  have N9 := Fr.app N7 N9q
  have f10_V_nb := f8_V_nb.keep Kc9 (ninS (Ne.symm ne12) (ninS ne32 nin0))
  have zz9 : n0 ≤ T9.heap.size := Nat.le_trans zz7 Kc9.1
  have Vx9 : Arv Z T9.heap sb ks .int (3 : Int32) [(.int (0 : Int32)), (.int (((0 : Int32) + (1 : Int32)) + (1 : Int32))), (.int (((0 : Int32) + (1 : Int32)) + (1 : Int32)))] (.int (0 : Int32)) := Vs9
  obtain ⟨cq11, kq11, q11a, q11b, q11c⟩ := isOf hZ rfl Eb9
  obtain ⟨_, _, ⟨T11, L11, k11, n11⟩, -, X11, ⟨Lc11, hQ11, l11, y11, z11⟩, st11⟩ := X9.virtualBack hx (y := (⟨"org/keyward/securitymodel/NumberLists$Builder", "build", "()Lorg/keyward/securitymodel/NumberLists;"⟩ : MethodName)) (z := (⟨"org/keyward/securitymodel/NumberLists$Builder", "build", "()Lorg/keyward/securitymodel/NumberLists;"⟩ : MethodName)) hown (mvT hZ (hw _ (List.mem_of_getElem? (i := 28) rfl))) (mvT hZ (hw _ (List.mem_of_getElem? (i := 29) rfl))) (notFace_of_selects (args := #[]) (mvT hZ (hw _ (List.mem_of_getElem? (i := 31) rfl)))) (mvT hZ (hw _ (List.mem_of_getElem? (i := 31) rfl))) (mvT hZ (hw _ (List.mem_of_getElem? (i := 30) rfl))) (by decide) (backOf (W := 0) (rm5 l Z a0 hw [] bo nb sb (((0 : Int32) + (1 : Int32)) + (1 : Int32)) (((0 : Int32) + (1 : Int32)) + (1 : Int32)) kn ks _ _ 2 T9.heap n0 zz9 Eb9 Fnumbers9 Fstarts9 Fcount9 Flisted9 f10_V_nb Vx9 (by decide) (by decide) (by decide) (by decide)) hZ (hw _ (List.mem_of_getElem? (i := 32) rfl)) (hw _ (List.mem_of_getElem? (i := 2) rfl)) (by decide) (by decide)) q11a q11c (g := (mkF m 94 #[.val (.int p1), .val (.int p2), .val (.int p3), .val (.int p4), .val (.int (1 : Int32)), .val (.int (1 : Int32)), .val (.int (0 : Int32)), .val (.ref bo), .unset, .unset, .unset, .unset] [(.ref bo)])) rfl (by rw [hml]; rfl) (Steps.refl _) (argsL := []) (rest := []) (lenOf pd___Lorg_keyward_securitymodel_NumberLists_ rfl) rfl (by show 2 * 0 + _ ≤ _; exact Nat.le_of_eq rfl) (hb hby at_94) (fun _ _ => ⟨rfl, rfl, (Nat.le_of_ble_eq_true rfl), (Nat.le_of_ble_eq_true rfl)⟩)
  dsimp only [Pt.U, Pt.locs, Pt.cells, Pt.slots] at X11 l11 y11 z11 st11 hQ11
  subst l11 y11 z11
  obtain ⟨o11, mb11, km11, rfl, N11q, Kc11, Eo11, So11, No11, Vm11⟩ := hQ11
  have N11 := Fr.app N9 N11q
  have f12_V_nb := f10_V_nb.keep Kc11 nin0
  have f13_E_bo := Eb9.keep Kc11
  have f14_F_bo_numbers := Fnumbers9.keep Kc11 nin0
  have f15_F_bo_starts := Fstarts9.keep Kc11 nin0
  have f16_F_bo_count := Fcount9.keep Kc11 nin0
  have f17_F_bo_listed := Flisted9.keep Kc11 nin0
  have f18_V_sb := Vx9.keep Kc11 nin0
  have zz11 : n0 ≤ T11.heap.size := Nat.le_trans zz9 Kc11.1
  obtain ⟨cq19, kq19, q19a, q19b, q19c⟩ := isOf hZ rfl Eo11
  obtain ⟨_, _, ⟨T19, L19, k19, n19⟩, -, X19, ⟨Lc19, hQ19, l19, y19, z19⟩, st19⟩ := X11.virtualBack hx (y := (⟨"org/keyward/securitymodel/NumberLists", "size", "(I)I"⟩ : MethodName)) (z := (⟨"org/keyward/securitymodel/NumberLists", "size", "(I)I"⟩ : MethodName)) hown (mvT hZ (hw _ (List.mem_of_getElem? (i := 56) rfl))) (mvT hZ (hw _ (List.mem_of_getElem? (i := 57) rfl))) (notFace_of_selects (args := #[]) (mvT hZ (hw _ (List.mem_of_getElem? (i := 59) rfl)))) (mvT hZ (hw _ (List.mem_of_getElem? (i := 59) rfl))) (mvT hZ (hw _ (List.mem_of_getElem? (i := 58) rfl))) (by decide) (backOf (W := 0) (rm9 l Z a0 hw [] o11 (0 : Int32) sb ks _ (((0 : Int32) + (1 : Int32)) + (1 : Int32)) (0 : Int32) T11.heap n0 zz11 So11 f18_V_sb (by decide) (by decide) rfl rfl) hZ (hw _ (List.mem_of_getElem? (i := 60) rfl)) (hw _ (List.mem_of_getElem? (i := 35) rfl)) (by decide) (by decide)) q19a q19c (g := (mkF m 137 #[.val (.int p1), .val (.int p2), .val (.int p3), .val (.int p4), .val (.int (1 : Int32)), .val (.int (1 : Int32)), .val (.int (0 : Int32)), .val (.ref bo), .val (.ref o11), .val (.int ((1 : Int32) + (1 : Int32))), .val (.int (0 : Int32)), .unset] [(.int (0 : Int32)), (.ref o11)])) rfl (by rw [hml]; rfl) (Steps.refl _) (argsL := [(.int (0 : Int32))]) (rest := []) (lenOf pd__I_I rfl) rfl (by show 2 * 0 + _ ≤ _; exact Nat.le_of_eq rfl) (hb hby at_137) (fun _ _ => ⟨rfl, rfl, (Nat.le_of_ble_eq_true rfl), (Nat.le_of_ble_eq_true rfl)⟩)
  dsimp only [Pt.U, Pt.locs, Pt.cells, Pt.slots] at X19 l19 y19 z19 st19 hQ19
  subst l19 y19 z19
  obtain ⟨rfl, N19q, e19⟩ := hQ19
  have N19 := Fr.app N11 N19q
  obtain ⟨cq20, kq20, q20a, q20b, q20c⟩ := isOf hZ e19 Eo11
  obtain ⟨_, _, ⟨T20, L20, k20, n20⟩, -, X20, ⟨Lc20, hQ20, l20, y20, z20⟩, st20⟩ := X19.virtualBack hx (y := (⟨"org/keyward/securitymodel/NumberLists", "size", "(I)I"⟩ : MethodName)) (z := (⟨"org/keyward/securitymodel/NumberLists", "size", "(I)I"⟩ : MethodName)) hown (mvT hZ (hw _ (List.mem_of_getElem? (i := 56) rfl))) (mvT hZ (hw _ (List.mem_of_getElem? (i := 57) rfl))) (notFace_of_selects (args := #[]) (mvT hZ (hw _ (List.mem_of_getElem? (i := 59) rfl)))) (mvT hZ (hw _ (List.mem_of_getElem? (i := 59) rfl))) (mvT hZ (hw _ (List.mem_of_getElem? (i := 58) rfl))) (by decide) (backOf (W := 0) (rm9 l Z a0 hw [] o11 (1 : Int32) sb ks _ (((0 : Int32) + (1 : Int32)) + (1 : Int32)) (((0 : Int32) + (1 : Int32)) + (1 : Int32)) T11.heap n0 zz11 So11 f18_V_sb (by decide) (by decide) rfl rfl) hZ (hw _ (List.mem_of_getElem? (i := 60) rfl)) (hw _ (List.mem_of_getElem? (i := 35) rfl)) (by decide) (by decide)) q20a q20c (g := (mkF m 150 #[.val (.int p1), .val (.int p2), .val (.int p3), .val (.int p4), .val (.int (1 : Int32)), .val (.int (1 : Int32)), .val (.int (0 : Int32)), .val (.ref bo), .val (.ref o11), .val (.int ((1 : Int32) + (1 : Int32))), .val (.int (0 : Int32)), .unset] [(.int (1 : Int32)), (.ref o11)])) rfl (by rw [hml]; rfl) (Steps.refl _) (argsL := [(.int (1 : Int32))]) (rest := []) (lenOf pd__I_I rfl) rfl (by show 2 * 0 + _ ≤ _; exact Nat.le_of_eq rfl) (hb hby at_150) (fun _ _ => ⟨rfl, e19, (Nat.le_of_ble_eq_true rfl), (Nat.le_of_ble_eq_true rfl)⟩)
  dsimp only [Pt.U, Pt.locs, Pt.cells, Pt.slots] at X20 l20 y20 z20 st20 hQ20
  subst l20 y20 z20
  obtain ⟨rfl, N20q, e20⟩ := hQ20
  have N20 := Fr.app N19 N20q
  obtain ⟨cq21, kq21, q21a, q21b, q21c⟩ := isOf hZ e20 Eo11
  obtain ⟨_, _, ⟨T21, L21, k21, n21⟩, -, X21, ⟨Lc21, hQ21, l21, y21, z21⟩, st21⟩ := X20.virtualBack hx (y := (⟨"org/keyward/securitymodel/NumberLists", "get", "(II)I"⟩ : MethodName)) (z := (⟨"org/keyward/securitymodel/NumberLists", "get", "(II)I"⟩ : MethodName)) hown (mvT hZ (hw _ (List.mem_of_getElem? (i := 61) rfl))) (mvT hZ (hw _ (List.mem_of_getElem? (i := 62) rfl))) (notFace_of_selects (args := #[]) (mvT hZ (hw _ (List.mem_of_getElem? (i := 64) rfl)))) (mvT hZ (hw _ (List.mem_of_getElem? (i := 64) rfl))) (mvT hZ (hw _ (List.mem_of_getElem? (i := 63) rfl))) (by decide) (backOf (W := 0) (rm10 l Z a0 hw [] o11 (0 : Int32) (0 : Int32) sb mb11 ks _ _ _ (((0 : Int32) + (1 : Int32)) + (1 : Int32)) (0 : Int32) p1 T11.heap n0 zz11 So11 No11 f18_V_sb Vm11 (by decide) rfl (by decide) rfl) hZ (hw _ (List.mem_of_getElem? (i := 65) rfl)) (hw _ (List.mem_of_getElem? (i := 35) rfl)) (by decide) (by decide)) q21a q21c (g := (mkF m 182 #[.val (.int p1), .val (.int p2), .val (.int p3), .val (.int p4), .val (.int (1 : Int32)), .val (.int (1 : Int32)), .val (.int (0 : Int32)), .val (.ref bo), .val (.ref o11), .val (.int ((1 : Int32) + (1 : Int32))), .val (.int (0 : Int32)), .val (.int p1)] [(.int (0 : Int32)), (.int (0 : Int32)), (.ref o11)])) rfl (by rw [hml]; rfl) (Steps.refl _) (argsL := [(.int (0 : Int32)), (.int (0 : Int32))]) (rest := []) (lenOf pd__II_I rfl) rfl (by show 2 * 0 + _ ≤ _; exact Nat.le_of_eq rfl) (hb hby at_182) (fun _ _ => ⟨rfl, e20, (Nat.le_of_ble_eq_true rfl), (Nat.le_of_ble_eq_true rfl)⟩)
  dsimp only [Pt.U, Pt.locs, Pt.cells, Pt.slots] at X21 l21 y21 z21 st21 hQ21
  subst l21 y21 z21
  obtain ⟨rfl, N21q, e21⟩ := hQ21
  have N21 := Fr.app N20 N21q
  obtain ⟨cq22, kq22, q22a, q22b, q22c⟩ := isOf hZ e21 Eo11
  obtain ⟨_, _, ⟨T22, L22, k22, n22⟩, -, X22, ⟨Lc22, hQ22, l22, y22, z22⟩, st22⟩ := X21.virtualBack hx (y := (⟨"org/keyward/securitymodel/NumberLists", "get", "(II)I"⟩ : MethodName)) (z := (⟨"org/keyward/securitymodel/NumberLists", "get", "(II)I"⟩ : MethodName)) hown (mvT hZ (hw _ (List.mem_of_getElem? (i := 61) rfl))) (mvT hZ (hw _ (List.mem_of_getElem? (i := 62) rfl))) (notFace_of_selects (args := #[]) (mvT hZ (hw _ (List.mem_of_getElem? (i := 64) rfl)))) (mvT hZ (hw _ (List.mem_of_getElem? (i := 64) rfl))) (mvT hZ (hw _ (List.mem_of_getElem? (i := 63) rfl))) (by decide) (backOf (W := 0) (rm10 l Z a0 hw [] o11 (0 : Int32) (1 : Int32) sb mb11 ks _ _ _ (((0 : Int32) + (1 : Int32)) + (1 : Int32)) (0 : Int32) p2 T11.heap n0 zz11 So11 No11 f18_V_sb Vm11 (by decide) rfl (by decide) rfl) hZ (hw _ (List.mem_of_getElem? (i := 65) rfl)) (hw _ (List.mem_of_getElem? (i := 35) rfl)) (by decide) (by decide)) q22a q22c (g := (mkF m 202 #[.val (.int p1), .val (.int p2), .val (.int p3), .val (.int p4), .val (.int (1 : Int32)), .val (.int (1 : Int32)), .val (.int (0 : Int32)), .val (.ref bo), .val (.ref o11), .val (.int ((1 : Int32) + (1 : Int32))), .val (.int (0 : Int32)), .val (.int p1)] [(.int (1 : Int32)), (.int (0 : Int32)), (.ref o11)])) rfl (by rw [hml]; rfl) (Steps.refl _) (argsL := [(.int (0 : Int32)), (.int (1 : Int32))]) (rest := []) (lenOf pd__II_I rfl) rfl (by show 2 * 0 + _ ≤ _; exact Nat.le_of_eq rfl) (hb hby at_202) (fun _ _ => ⟨rfl, e21, (Nat.le_of_ble_eq_true rfl), (Nat.le_of_ble_eq_true rfl)⟩)
  dsimp only [Pt.U, Pt.locs, Pt.cells, Pt.slots] at X22 l22 y22 z22 st22 hQ22
  subst l22 y22 z22
  obtain ⟨rfl, N22q, e22⟩ := hQ22
  have N22 := Fr.app N21 N22q
  obtain ⟨fs, hr, hrun, hended, hW, hsame⟩ := X22.leave (v := some (.int (1 : Int32))) (fun h => by rw [Bd.returns] at h; cases h)
  refine ⟨_, _, pre0 _ ?_, hrun, hended, _, _, rfl, ?_, ⟨_, rfl⟩, hW, hsame.mono (by decide) (by decide)⟩
  · show Steps p.tables e below (s₁.setTop (mkF m 0 #[.val (.int p1), .val (.int p2), .val (.int p3), .val (.int p4), .unset, .unset, .unset, .unset, .unset, .unset, .unset, .unset] [])) _
    refine XS.iloadN X0.here hx rfl (hb hby at_0) rfl ?_
    show Steps p.tables e below (s₁.setTop (mkF m 1 #[.val (.int p1), .val (.int p2), .val (.int p3), .val (.int p4), .unset, .unset, .unset, .unset, .unset, .unset, .unset, .unset] [(.int p4)])) _
    refine XS.iconst X0.here hx rfl (hb hby at_1) ?_
    show Steps p.tables e below (s₁.setTop (mkF m 2 #[.val (.int p1), .val (.int p2), .val (.int p3), .val (.int p4), .unset, .unset, .unset, .unset, .unset, .unset, .unset, .unset] [(.int (1 : Int32)), (.int p4)])) _
    refine XS.iand X0.here hx rfl (hb hby at_2) rfl ?_
    show Steps p.tables e below (s₁.setTop (mkF m 3 #[.val (.int p1), .val (.int p2), .val (.int p3), .val (.int p4), .unset, .unset, .unset, .unset, .unset, .unset, .unset, .unset] [(.int (p4 &&& (1 : Int32)))])) _
    refine XS.ifNo X0.here hx rfl (hb hby at_3) rfl ((if0 _ _).trans (feq hc3).1) ?_
    show Steps p.tables e below (s₁.setTop (mkF m 6 #[.val (.int p1), .val (.int p2), .val (.int p3), .val (.int p4), .unset, .unset, .unset, .unset, .unset, .unset, .unset, .unset] [])) _
    refine XS.iconst X0.here hx rfl (hb hby at_6) ?_
    show Steps p.tables e below (s₁.setTop (mkF m 7 #[.val (.int p1), .val (.int p2), .val (.int p3), .val (.int p4), .unset, .unset, .unset, .unset, .unset, .unset, .unset, .unset] [(.int (1 : Int32))])) _
    refine XS.goto X0.here hx rfl (pc0 := 7) (pc' := 11) rfl (hb hby at_7) (by decide) (by decide) ?_
    show Steps p.tables e below (s₁.setTop (mkF m 11 #[.val (.int p1), .val (.int p2), .val (.int p3), .val (.int p4), .unset, .unset, .unset, .unset, .unset, .unset, .unset, .unset] [(.int (1 : Int32))])) _
    refine XS.istore X0.here hx rfl (hb hby at_11) rfl (l' := #[.val (.int p1), .val (.int p2), .val (.int p3), .val (.int p4), .val (.int (1 : Int32)), .unset, .unset, .unset, .unset, .unset, .unset, .unset]) rfl ?_
    show Steps p.tables e below (s₁.setTop (mkF m 13 #[.val (.int p1), .val (.int p2), .val (.int p3), .val (.int p4), .val (.int (1 : Int32)), .unset, .unset, .unset, .unset, .unset, .unset, .unset] [])) _
    refine XS.iloadN X0.here hx rfl (hb hby at_13) rfl ?_
    show Steps p.tables e below (s₁.setTop (mkF m 14 #[.val (.int p1), .val (.int p2), .val (.int p3), .val (.int p4), .val (.int (1 : Int32)), .unset, .unset, .unset, .unset, .unset, .unset, .unset] [(.int p4)])) _
    refine XS.iconst X0.here hx rfl (hb hby at_14) ?_
    show Steps p.tables e below (s₁.setTop (mkF m 15 #[.val (.int p1), .val (.int p2), .val (.int p3), .val (.int p4), .val (.int (1 : Int32)), .unset, .unset, .unset, .unset, .unset, .unset, .unset] [(.int (2 : Int32)), (.int p4)])) _
    refine XS.iand X0.here hx rfl (hb hby at_15) rfl ?_
    show Steps p.tables e below (s₁.setTop (mkF m 16 #[.val (.int p1), .val (.int p2), .val (.int p3), .val (.int p4), .val (.int (1 : Int32)), .unset, .unset, .unset, .unset, .unset, .unset, .unset] [(.int (p4 &&& (2 : Int32)))])) _
    refine XS.ifNo X0.here hx rfl (hb hby at_16) rfl ((if0 _ _).trans (feq hc16).1) ?_
    show Steps p.tables e below (s₁.setTop (mkF m 19 #[.val (.int p1), .val (.int p2), .val (.int p3), .val (.int p4), .val (.int (1 : Int32)), .unset, .unset, .unset, .unset, .unset, .unset, .unset] [])) _
    refine XS.iconst X0.here hx rfl (hb hby at_19) ?_
    show Steps p.tables e below (s₁.setTop (mkF m 20 #[.val (.int p1), .val (.int p2), .val (.int p3), .val (.int p4), .val (.int (1 : Int32)), .unset, .unset, .unset, .unset, .unset, .unset, .unset] [(.int (1 : Int32))])) _
    refine XS.goto X0.here hx rfl (pc0 := 20) (pc' := 24) rfl (hb hby at_20) (by decide) (by decide) ?_
    show Steps p.tables e below (s₁.setTop (mkF m 24 #[.val (.int p1), .val (.int p2), .val (.int p3), .val (.int p4), .val (.int (1 : Int32)), .unset, .unset, .unset, .unset, .unset, .unset, .unset] [(.int (1 : Int32))])) _
    refine XS.istore X0.here hx rfl (hb hby at_24) rfl (l' := #[.val (.int p1), .val (.int p2), .val (.int p3), .val (.int p4), .val (.int (1 : Int32)), .val (.int (1 : Int32)), .unset, .unset, .unset, .unset, .unset, .unset]) rfl ?_
    show Steps p.tables e below (s₁.setTop (mkF m 26 #[.val (.int p1), .val (.int p2), .val (.int p3), .val (.int p4), .val (.int (1 : Int32)), .val (.int (1 : Int32)), .unset, .unset, .unset, .unset, .unset, .unset] [])) _
    refine XS.iloadN X0.here hx rfl (hb hby at_26) rfl ?_
    show Steps p.tables e below (s₁.setTop (mkF m 27 #[.val (.int p1), .val (.int p2), .val (.int p3), .val (.int p4), .val (.int (1 : Int32)), .val (.int (1 : Int32)), .unset, .unset, .unset, .unset, .unset, .unset] [(.int p4)])) _
    refine XS.iconst X0.here hx rfl (hb hby at_27) ?_
    show Steps p.tables e below (s₁.setTop (mkF m 28 #[.val (.int p1), .val (.int p2), .val (.int p3), .val (.int p4), .val (.int (1 : Int32)), .val (.int (1 : Int32)), .unset, .unset, .unset, .unset, .unset, .unset] [(.int (4 : Int32)), (.int p4)])) _
    refine XS.iand X0.here hx rfl (hb hby at_28) rfl ?_
    show Steps p.tables e below (s₁.setTop (mkF m 29 #[.val (.int p1), .val (.int p2), .val (.int p3), .val (.int p4), .val (.int (1 : Int32)), .val (.int (1 : Int32)), .unset, .unset, .unset, .unset, .unset, .unset] [(.int (p4 &&& (4 : Int32)))])) _
    refine XS.ifYes X0.here hx rfl (pc0 := 29) (pc' := 36) rfl (hb hby at_29) rfl ((if0 _ _).trans (teq hc29).1) (by decide) (by decide) ?_
    show Steps p.tables e below (s₁.setTop (mkF m 36 #[.val (.int p1), .val (.int p2), .val (.int p3), .val (.int p4), .val (.int (1 : Int32)), .val (.int (1 : Int32)), .unset, .unset, .unset, .unset, .unset, .unset] [])) _
    refine XS.iconst X0.here hx rfl (hb hby at_36) ?_
    show Steps p.tables e below (s₁.setTop (mkF m 37 #[.val (.int p1), .val (.int p2), .val (.int p3), .val (.int p4), .val (.int (1 : Int32)), .val (.int (1 : Int32)), .unset, .unset, .unset, .unset, .unset, .unset] [(.int (0 : Int32))])) _
    refine XS.istore X0.here hx rfl (hb hby at_37) rfl (l' := #[.val (.int p1), .val (.int p2), .val (.int p3), .val (.int p4), .val (.int (1 : Int32)), .val (.int (1 : Int32)), .val (.int (0 : Int32)), .unset, .unset, .unset, .unset, .unset]) rfl ?_
    show Steps p.tables e below (s₁.setTop (mkF m 39 #[.val (.int p1), .val (.int p2), .val (.int p3), .val (.int p4), .val (.int (1 : Int32)), .val (.int (1 : Int32)), .val (.int (0 : Int32)), .unset, .unset, .unset, .unset, .unset] [])) _
    refine st1 _ ?_
    show Steps p.tables e below (T1.setTop (mkF m 42 #[.val (.int p1), .val (.int p2), .val (.int p3), .val (.int p4), .val (.int (1 : Int32)), .val (.int (1 : Int32)), .val (.int (0 : Int32)), .unset, .unset, .unset, .unset, .unset] [(.ref bo)])) _
    refine XS.dup X1.here hx rfl (hb hby at_42) rfl rfl ?_
    show Steps p.tables e below (T1.setTop (mkF m 43 #[.val (.int p1), .val (.int p2), .val (.int p3), .val (.int p4), .val (.int (1 : Int32)), .val (.int (1 : Int32)), .val (.int (0 : Int32)), .unset, .unset, .unset, .unset, .unset] [(.ref bo), (.ref bo)])) _
    refine XS.iconst X1.here hx rfl (hb hby at_43) ?_
    show Steps p.tables e below (T1.setTop (mkF m 44 #[.val (.int p1), .val (.int p2), .val (.int p3), .val (.int p4), .val (.int (1 : Int32)), .val (.int (1 : Int32)), .val (.int (0 : Int32)), .unset, .unset, .unset, .unset, .unset] [(.int (2 : Int32)), (.ref bo), (.ref bo)])) _
    refine st2.trans ?_
    show Steps p.tables e below (T2.setTop (mkF m 47 #[.val (.int p1), .val (.int p2), .val (.int p3), .val (.int p4), .val (.int (1 : Int32)), .val (.int (1 : Int32)), .val (.int (0 : Int32)), .unset, .unset, .unset, .unset, .unset] [(.ref bo)])) _
    refine XS.astore X2.here hx rfl (hb hby at_47) rfl rfl (l' := #[.val (.int p1), .val (.int p2), .val (.int p3), .val (.int p4), .val (.int (1 : Int32)), .val (.int (1 : Int32)), .val (.int (0 : Int32)), .val (.ref bo), .unset, .unset, .unset, .unset]) rfl ?_
    show Steps p.tables e below (T2.setTop (mkF m 49 #[.val (.int p1), .val (.int p2), .val (.int p3), .val (.int p4), .val (.int (1 : Int32)), .val (.int (1 : Int32)), .val (.int (0 : Int32)), .val (.ref bo), .unset, .unset, .unset, .unset] [])) _
    refine XS.iload X2.here hx rfl (hb hby at_49) rfl ?_
    show Steps p.tables e below (T2.setTop (mkF m 51 #[.val (.int p1), .val (.int p2), .val (.int p3), .val (.int p4), .val (.int (1 : Int32)), .val (.int (1 : Int32)), .val (.int (0 : Int32)), .val (.ref bo), .unset, .unset, .unset, .unset] [(.int (1 : Int32))])) _
    refine XS.ifNo X2.here hx rfl (hb hby at_51) rfl ((if0 _ _).trans (feq (by decide : ¬ ((1 : Int32) = (0 : Int32)))).1) ?_
    show Steps p.tables e below (T2.setTop (mkF m 54 #[.val (.int p1), .val (.int p2), .val (.int p3), .val (.int p4), .val (.int (1 : Int32)), .val (.int (1 : Int32)), .val (.int (0 : Int32)), .val (.ref bo), .unset, .unset, .unset, .unset] [])) _
    refine XS.aload X2.here hx rfl (hb hby at_54) rfl rfl ?_
    show Steps p.tables e below (T2.setTop (mkF m 56 #[.val (.int p1), .val (.int p2), .val (.int p3), .val (.int p4), .val (.int (1 : Int32)), .val (.int (1 : Int32)), .val (.int (0 : Int32)), .val (.ref bo), .unset, .unset, .unset, .unset] [(.ref bo)])) _
    refine XS.iloadN X2.here hx rfl (hb hby at_56) rfl ?_
    show Steps p.tables e below (T2.setTop (mkF m 57 #[.val (.int p1), .val (.int p2), .val (.int p3), .val (.int p4), .val (.int (1 : Int32)), .val (.int (1 : Int32)), .val (.int (0 : Int32)), .val (.ref bo), .unset, .unset, .unset, .unset] [(.int p1), (.ref bo)])) _
    refine st3.trans ?_
    show Steps p.tables e below (T3.setTop (mkF m 60 #[.val (.int p1), .val (.int p2), .val (.int p3), .val (.int p4), .val (.int (1 : Int32)), .val (.int (1 : Int32)), .val (.int (0 : Int32)), .val (.ref bo), .unset, .unset, .unset, .unset] [])) _
    refine XS.iload X3.here hx rfl (hb hby at_60) rfl ?_
    show Steps p.tables e below (T3.setTop (mkF m 62 #[.val (.int p1), .val (.int p2), .val (.int p3), .val (.int p4), .val (.int (1 : Int32)), .val (.int (1 : Int32)), .val (.int (0 : Int32)), .val (.ref bo), .unset, .unset, .unset, .unset] [(.int (1 : Int32))])) _
    refine XS.ifNo X3.here hx rfl (hb hby at_62) rfl ((if0 _ _).trans (feq (by decide : ¬ ((1 : Int32) = (0 : Int32)))).1) ?_
    show Steps p.tables e below (T3.setTop (mkF m 65 #[.val (.int p1), .val (.int p2), .val (.int p3), .val (.int p4), .val (.int (1 : Int32)), .val (.int (1 : Int32)), .val (.int (0 : Int32)), .val (.ref bo), .unset, .unset, .unset, .unset] [])) _
    refine XS.aload X3.here hx rfl (hb hby at_65) rfl rfl ?_
    show Steps p.tables e below (T3.setTop (mkF m 67 #[.val (.int p1), .val (.int p2), .val (.int p3), .val (.int p4), .val (.int (1 : Int32)), .val (.int (1 : Int32)), .val (.int (0 : Int32)), .val (.ref bo), .unset, .unset, .unset, .unset] [(.ref bo)])) _
    refine XS.iloadN X3.here hx rfl (hb hby at_67) rfl ?_
    show Steps p.tables e below (T3.setTop (mkF m 68 #[.val (.int p1), .val (.int p2), .val (.int p3), .val (.int p4), .val (.int (1 : Int32)), .val (.int (1 : Int32)), .val (.int (0 : Int32)), .val (.ref bo), .unset, .unset, .unset, .unset] [(.int p2), (.ref bo)])) _
    refine st5.trans ?_
    show Steps p.tables e below (T5.setTop (mkF m 71 #[.val (.int p1), .val (.int p2), .val (.int p3), .val (.int p4), .val (.int (1 : Int32)), .val (.int (1 : Int32)), .val (.int (0 : Int32)), .val (.ref bo), .unset, .unset, .unset, .unset] [])) _
    refine XS.aload X5.here hx rfl (hb hby at_71) rfl rfl ?_
    show Steps p.tables e below (T5.setTop (mkF m 73 #[.val (.int p1), .val (.int p2), .val (.int p3), .val (.int p4), .val (.int (1 : Int32)), .val (.int (1 : Int32)), .val (.int (0 : Int32)), .val (.ref bo), .unset, .unset, .unset, .unset] [(.ref bo)])) _
    refine st7.trans ?_
    show Steps p.tables e below (T7.setTop (mkF m 76 #[.val (.int p1), .val (.int p2), .val (.int p3), .val (.int p4), .val (.int (1 : Int32)), .val (.int (1 : Int32)), .val (.int (0 : Int32)), .val (.ref bo), .unset, .unset, .unset, .unset] [])) _
    refine XS.iload X7.here hx rfl (hb hby at_76) rfl ?_
    show Steps p.tables e below (T7.setTop (mkF m 78 #[.val (.int p1), .val (.int p2), .val (.int p3), .val (.int p4), .val (.int (1 : Int32)), .val (.int (1 : Int32)), .val (.int (0 : Int32)), .val (.ref bo), .unset, .unset, .unset, .unset] [(.int (0 : Int32))])) _
    refine XS.ifYes X7.here hx rfl (pc0 := 78) (pc' := 87) rfl (hb hby at_78) rfl ((if0 _ _).trans (teq (by decide : (0 : Int32) = (0 : Int32))).1) (by decide) (by decide) ?_
    show Steps p.tables e below (T7.setTop (mkF m 87 #[.val (.int p1), .val (.int p2), .val (.int p3), .val (.int p4), .val (.int (1 : Int32)), .val (.int (1 : Int32)), .val (.int (0 : Int32)), .val (.ref bo), .unset, .unset, .unset, .unset] [])) _
    refine XS.aload X7.here hx rfl (hb hby at_87) rfl rfl ?_
    show Steps p.tables e below (T7.setTop (mkF m 89 #[.val (.int p1), .val (.int p2), .val (.int p3), .val (.int p4), .val (.int (1 : Int32)), .val (.int (1 : Int32)), .val (.int (0 : Int32)), .val (.ref bo), .unset, .unset, .unset, .unset] [(.ref bo)])) _
    refine st9.trans ?_
    show Steps p.tables e below (T9.setTop (mkF m 92 #[.val (.int p1), .val (.int p2), .val (.int p3), .val (.int p4), .val (.int (1 : Int32)), .val (.int (1 : Int32)), .val (.int (0 : Int32)), .val (.ref bo), .unset, .unset, .unset, .unset] [])) _
    refine XS.aload X9.here hx rfl (hb hby at_92) rfl rfl ?_
    show Steps p.tables e below (T9.setTop (mkF m 94 #[.val (.int p1), .val (.int p2), .val (.int p3), .val (.int p4), .val (.int (1 : Int32)), .val (.int (1 : Int32)), .val (.int (0 : Int32)), .val (.ref bo), .unset, .unset, .unset, .unset] [(.ref bo)])) _
    refine st11.trans ?_
    show Steps p.tables e below (T11.setTop (mkF m 97 #[.val (.int p1), .val (.int p2), .val (.int p3), .val (.int p4), .val (.int (1 : Int32)), .val (.int (1 : Int32)), .val (.int (0 : Int32)), .val (.ref bo), .unset, .unset, .unset, .unset] [(.ref o11)])) _
    refine XS.astore X11.here hx rfl (hb hby at_97) rfl rfl (l' := #[.val (.int p1), .val (.int p2), .val (.int p3), .val (.int p4), .val (.int (1 : Int32)), .val (.int (1 : Int32)), .val (.int (0 : Int32)), .val (.ref bo), .val (.ref o11), .unset, .unset, .unset]) rfl ?_
    show Steps p.tables e below (T11.setTop (mkF m 99 #[.val (.int p1), .val (.int p2), .val (.int p3), .val (.int p4), .val (.int (1 : Int32)), .val (.int (1 : Int32)), .val (.int (0 : Int32)), .val (.ref bo), .val (.ref o11), .unset, .unset, .unset] [])) _
    refine XS.iload X11.here hx rfl (hb hby at_99) rfl ?_
    show Steps p.tables e below (T11.setTop (mkF m 101 #[.val (.int p1), .val (.int p2), .val (.int p3), .val (.int p4), .val (.int (1 : Int32)), .val (.int (1 : Int32)), .val (.int (0 : Int32)), .val (.ref bo), .val (.ref o11), .unset, .unset, .unset] [(.int (1 : Int32))])) _
    refine XS.ifNo X11.here hx rfl (hb hby at_101) rfl ((if0 _ _).trans (feq (by decide : ¬ ((1 : Int32) = (0 : Int32)))).1) ?_
    show Steps p.tables e below (T11.setTop (mkF m 104 #[.val (.int p1), .val (.int p2), .val (.int p3), .val (.int p4), .val (.int (1 : Int32)), .val (.int (1 : Int32)), .val (.int (0 : Int32)), .val (.ref bo), .val (.ref o11), .unset, .unset, .unset] [])) _
    refine XS.iconst X11.here hx rfl (hb hby at_104) ?_
    show Steps p.tables e below (T11.setTop (mkF m 105 #[.val (.int p1), .val (.int p2), .val (.int p3), .val (.int p4), .val (.int (1 : Int32)), .val (.int (1 : Int32)), .val (.int (0 : Int32)), .val (.ref bo), .val (.ref o11), .unset, .unset, .unset] [(.int (1 : Int32))])) _
    refine XS.goto X11.here hx rfl (pc0 := 105) (pc' := 109) rfl (hb hby at_105) (by decide) (by decide) ?_
    show Steps p.tables e below (T11.setTop (mkF m 109 #[.val (.int p1), .val (.int p2), .val (.int p3), .val (.int p4), .val (.int (1 : Int32)), .val (.int (1 : Int32)), .val (.int (0 : Int32)), .val (.ref bo), .val (.ref o11), .unset, .unset, .unset] [(.int (1 : Int32))])) _
    refine XS.iload X11.here hx rfl (hb hby at_109) rfl ?_
    show Steps p.tables e below (T11.setTop (mkF m 111 #[.val (.int p1), .val (.int p2), .val (.int p3), .val (.int p4), .val (.int (1 : Int32)), .val (.int (1 : Int32)), .val (.int (0 : Int32)), .val (.ref bo), .val (.ref o11), .unset, .unset, .unset] [(.int (1 : Int32)), (.int (1 : Int32))])) _
    refine XS.ifNo X11.here hx rfl (hb hby at_111) rfl ((if0 _ _).trans (feq (by decide : ¬ ((1 : Int32) = (0 : Int32)))).1) ?_
    show Steps p.tables e below (T11.setTop (mkF m 114 #[.val (.int p1), .val (.int p2), .val (.int p3), .val (.int p4), .val (.int (1 : Int32)), .val (.int (1 : Int32)), .val (.int (0 : Int32)), .val (.ref bo), .val (.ref o11), .unset, .unset, .unset] [(.int (1 : Int32))])) _
    refine XS.iconst X11.here hx rfl (hb hby at_114) ?_
    show Steps p.tables e below (T11.setTop (mkF m 115 #[.val (.int p1), .val (.int p2), .val (.int p3), .val (.int p4), .val (.int (1 : Int32)), .val (.int (1 : Int32)), .val (.int (0 : Int32)), .val (.ref bo), .val (.ref o11), .unset, .unset, .unset] [(.int (1 : Int32)), (.int (1 : Int32))])) _
    refine XS.goto X11.here hx rfl (pc0 := 115) (pc' := 119) rfl (hb hby at_115) (by decide) (by decide) ?_
    show Steps p.tables e below (T11.setTop (mkF m 119 #[.val (.int p1), .val (.int p2), .val (.int p3), .val (.int p4), .val (.int (1 : Int32)), .val (.int (1 : Int32)), .val (.int (0 : Int32)), .val (.ref bo), .val (.ref o11), .unset, .unset, .unset] [(.int (1 : Int32)), (.int (1 : Int32))])) _
    refine XS.iadd X11.here hx rfl (hb hby at_119) rfl ?_
    show Steps p.tables e below (T11.setTop (mkF m 120 #[.val (.int p1), .val (.int p2), .val (.int p3), .val (.int p4), .val (.int (1 : Int32)), .val (.int (1 : Int32)), .val (.int (0 : Int32)), .val (.ref bo), .val (.ref o11), .unset, .unset, .unset] [(.int ((1 : Int32) + (1 : Int32)))])) _
    refine XS.istore X11.here hx rfl (hb hby at_120) rfl (l' := #[.val (.int p1), .val (.int p2), .val (.int p3), .val (.int p4), .val (.int (1 : Int32)), .val (.int (1 : Int32)), .val (.int (0 : Int32)), .val (.ref bo), .val (.ref o11), .val (.int ((1 : Int32) + (1 : Int32))), .unset, .unset]) rfl ?_
    show Steps p.tables e below (T11.setTop (mkF m 122 #[.val (.int p1), .val (.int p2), .val (.int p3), .val (.int p4), .val (.int (1 : Int32)), .val (.int (1 : Int32)), .val (.int (0 : Int32)), .val (.ref bo), .val (.ref o11), .val (.int ((1 : Int32) + (1 : Int32))), .unset, .unset] [])) _
    refine XS.iload X11.here hx rfl (hb hby at_122) rfl ?_
    show Steps p.tables e below (T11.setTop (mkF m 124 #[.val (.int p1), .val (.int p2), .val (.int p3), .val (.int p4), .val (.int (1 : Int32)), .val (.int (1 : Int32)), .val (.int (0 : Int32)), .val (.ref bo), .val (.ref o11), .val (.int ((1 : Int32) + (1 : Int32))), .unset, .unset] [(.int (0 : Int32))])) _
    refine XS.ifYes X11.here hx rfl (pc0 := 124) (pc' := 131) rfl (hb hby at_124) rfl ((if0 _ _).trans (teq (by decide : (0 : Int32) = (0 : Int32))).1) (by decide) (by decide) ?_
    show Steps p.tables e below (T11.setTop (mkF m 131 #[.val (.int p1), .val (.int p2), .val (.int p3), .val (.int p4), .val (.int (1 : Int32)), .val (.int (1 : Int32)), .val (.int (0 : Int32)), .val (.ref bo), .val (.ref o11), .val (.int ((1 : Int32) + (1 : Int32))), .unset, .unset] [])) _
    refine XS.iconst X11.here hx rfl (hb hby at_131) ?_
    show Steps p.tables e below (T11.setTop (mkF m 132 #[.val (.int p1), .val (.int p2), .val (.int p3), .val (.int p4), .val (.int (1 : Int32)), .val (.int (1 : Int32)), .val (.int (0 : Int32)), .val (.ref bo), .val (.ref o11), .val (.int ((1 : Int32) + (1 : Int32))), .unset, .unset] [(.int (0 : Int32))])) _
    refine XS.istore X11.here hx rfl (hb hby at_132) rfl (l' := #[.val (.int p1), .val (.int p2), .val (.int p3), .val (.int p4), .val (.int (1 : Int32)), .val (.int (1 : Int32)), .val (.int (0 : Int32)), .val (.ref bo), .val (.ref o11), .val (.int ((1 : Int32) + (1 : Int32))), .val (.int (0 : Int32)), .unset]) rfl ?_
    show Steps p.tables e below (T11.setTop (mkF m 134 #[.val (.int p1), .val (.int p2), .val (.int p3), .val (.int p4), .val (.int (1 : Int32)), .val (.int (1 : Int32)), .val (.int (0 : Int32)), .val (.ref bo), .val (.ref o11), .val (.int ((1 : Int32) + (1 : Int32))), .val (.int (0 : Int32)), .unset] [])) _
    refine XS.aload X11.here hx rfl (hb hby at_134) rfl rfl ?_
    show Steps p.tables e below (T11.setTop (mkF m 136 #[.val (.int p1), .val (.int p2), .val (.int p3), .val (.int p4), .val (.int (1 : Int32)), .val (.int (1 : Int32)), .val (.int (0 : Int32)), .val (.ref bo), .val (.ref o11), .val (.int ((1 : Int32) + (1 : Int32))), .val (.int (0 : Int32)), .unset] [(.ref o11)])) _
    refine XS.iconst X11.here hx rfl (hb hby at_136) ?_
    show Steps p.tables e below (T11.setTop (mkF m 137 #[.val (.int p1), .val (.int p2), .val (.int p3), .val (.int p4), .val (.int (1 : Int32)), .val (.int (1 : Int32)), .val (.int (0 : Int32)), .val (.ref bo), .val (.ref o11), .val (.int ((1 : Int32) + (1 : Int32))), .val (.int (0 : Int32)), .unset] [(.int (0 : Int32)), (.ref o11)])) _
    refine st19.trans ?_
    show Steps p.tables e below (T19.setTop (mkF m 140 #[.val (.int p1), .val (.int p2), .val (.int p3), .val (.int p4), .val (.int (1 : Int32)), .val (.int (1 : Int32)), .val (.int (0 : Int32)), .val (.ref bo), .val (.ref o11), .val (.int ((1 : Int32) + (1 : Int32))), .val (.int (0 : Int32)), .unset] [(.int ((((0 : Int32) + (1 : Int32)) + (1 : Int32)) - (0 : Int32)))])) _
    refine XS.iload X19.here hx rfl (hb hby at_140) rfl ?_
    show Steps p.tables e below (T19.setTop (mkF m 142 #[.val (.int p1), .val (.int p2), .val (.int p3), .val (.int p4), .val (.int (1 : Int32)), .val (.int (1 : Int32)), .val (.int (0 : Int32)), .val (.ref bo), .val (.ref o11), .val (.int ((1 : Int32) + (1 : Int32))), .val (.int (0 : Int32)), .unset] [(.int ((1 : Int32) + (1 : Int32))), (.int ((((0 : Int32) + (1 : Int32)) + (1 : Int32)) - (0 : Int32)))])) _
    refine XS.icmpYes X19.here hx rfl (pc0 := 142) (pc' := 147) rfl (hb hby at_142) rfl (teq (by decide : ((((0 : Int32) + (1 : Int32)) + (1 : Int32)) - (0 : Int32)) = ((1 : Int32) + (1 : Int32)))).1 (by decide) (by decide) ?_
    show Steps p.tables e below (T19.setTop (mkF m 147 #[.val (.int p1), .val (.int p2), .val (.int p3), .val (.int p4), .val (.int (1 : Int32)), .val (.int (1 : Int32)), .val (.int (0 : Int32)), .val (.ref bo), .val (.ref o11), .val (.int ((1 : Int32) + (1 : Int32))), .val (.int (0 : Int32)), .unset] [])) _
    refine XS.aload X19.here hx rfl (hb hby at_147) rfl rfl ?_
    show Steps p.tables e below (T19.setTop (mkF m 149 #[.val (.int p1), .val (.int p2), .val (.int p3), .val (.int p4), .val (.int (1 : Int32)), .val (.int (1 : Int32)), .val (.int (0 : Int32)), .val (.ref bo), .val (.ref o11), .val (.int ((1 : Int32) + (1 : Int32))), .val (.int (0 : Int32)), .unset] [(.ref o11)])) _
    refine XS.iconst X19.here hx rfl (hb hby at_149) ?_
    show Steps p.tables e below (T19.setTop (mkF m 150 #[.val (.int p1), .val (.int p2), .val (.int p3), .val (.int p4), .val (.int (1 : Int32)), .val (.int (1 : Int32)), .val (.int (0 : Int32)), .val (.ref bo), .val (.ref o11), .val (.int ((1 : Int32) + (1 : Int32))), .val (.int (0 : Int32)), .unset] [(.int (1 : Int32)), (.ref o11)])) _
    refine st20.trans ?_
    show Steps p.tables e below (T20.setTop (mkF m 153 #[.val (.int p1), .val (.int p2), .val (.int p3), .val (.int p4), .val (.int (1 : Int32)), .val (.int (1 : Int32)), .val (.int (0 : Int32)), .val (.ref bo), .val (.ref o11), .val (.int ((1 : Int32) + (1 : Int32))), .val (.int (0 : Int32)), .unset] [(.int ((((0 : Int32) + (1 : Int32)) + (1 : Int32)) - (((0 : Int32) + (1 : Int32)) + (1 : Int32))))])) _
    refine XS.iload X20.here hx rfl (hb hby at_153) rfl ?_
    show Steps p.tables e below (T20.setTop (mkF m 155 #[.val (.int p1), .val (.int p2), .val (.int p3), .val (.int p4), .val (.int (1 : Int32)), .val (.int (1 : Int32)), .val (.int (0 : Int32)), .val (.ref bo), .val (.ref o11), .val (.int ((1 : Int32) + (1 : Int32))), .val (.int (0 : Int32)), .unset] [(.int (0 : Int32)), (.int ((((0 : Int32) + (1 : Int32)) + (1 : Int32)) - (((0 : Int32) + (1 : Int32)) + (1 : Int32))))])) _
    refine XS.icmpYes X20.here hx rfl (pc0 := 155) (pc' := 160) rfl (hb hby at_155) rfl (teq (by decide : ((((0 : Int32) + (1 : Int32)) + (1 : Int32)) - (((0 : Int32) + (1 : Int32)) + (1 : Int32))) = (0 : Int32))).1 (by decide) (by decide) ?_
    show Steps p.tables e below (T20.setTop (mkF m 160 #[.val (.int p1), .val (.int p2), .val (.int p3), .val (.int p4), .val (.int (1 : Int32)), .val (.int (1 : Int32)), .val (.int (0 : Int32)), .val (.ref bo), .val (.ref o11), .val (.int ((1 : Int32) + (1 : Int32))), .val (.int (0 : Int32)), .unset] [])) _
    refine XS.iload X20.here hx rfl (hb hby at_160) rfl ?_
    show Steps p.tables e below (T20.setTop (mkF m 162 #[.val (.int p1), .val (.int p2), .val (.int p3), .val (.int p4), .val (.int (1 : Int32)), .val (.int (1 : Int32)), .val (.int (0 : Int32)), .val (.ref bo), .val (.ref o11), .val (.int ((1 : Int32) + (1 : Int32))), .val (.int (0 : Int32)), .unset] [(.int ((1 : Int32) + (1 : Int32)))])) _
    refine XS.iconst X20.here hx rfl (hb hby at_162) ?_
    show Steps p.tables e below (T20.setTop (mkF m 163 #[.val (.int p1), .val (.int p2), .val (.int p3), .val (.int p4), .val (.int (1 : Int32)), .val (.int (1 : Int32)), .val (.int (0 : Int32)), .val (.ref bo), .val (.ref o11), .val (.int ((1 : Int32) + (1 : Int32))), .val (.int (0 : Int32)), .unset] [(.int (1 : Int32)), (.int ((1 : Int32) + (1 : Int32)))])) _
    refine XS.icmpNo X20.here hx rfl (hb hby at_163) rfl (flt (by decide : ¬ (((1 : Int32) + (1 : Int32)) < (1 : Int32)))).1 ?_
    show Steps p.tables e below (T20.setTop (mkF m 166 #[.val (.int p1), .val (.int p2), .val (.int p3), .val (.int p4), .val (.int (1 : Int32)), .val (.int (1 : Int32)), .val (.int (0 : Int32)), .val (.ref bo), .val (.ref o11), .val (.int ((1 : Int32) + (1 : Int32))), .val (.int (0 : Int32)), .unset] [])) _
    refine XS.iload X20.here hx rfl (hb hby at_166) rfl ?_
    show Steps p.tables e below (T20.setTop (mkF m 168 #[.val (.int p1), .val (.int p2), .val (.int p3), .val (.int p4), .val (.int (1 : Int32)), .val (.int (1 : Int32)), .val (.int (0 : Int32)), .val (.ref bo), .val (.ref o11), .val (.int ((1 : Int32) + (1 : Int32))), .val (.int (0 : Int32)), .unset] [(.int (1 : Int32))])) _
    refine XS.ifNo X20.here hx rfl (hb hby at_168) rfl ((if0 _ _).trans (feq (by decide : ¬ ((1 : Int32) = (0 : Int32)))).1) ?_
    show Steps p.tables e below (T20.setTop (mkF m 171 #[.val (.int p1), .val (.int p2), .val (.int p3), .val (.int p4), .val (.int (1 : Int32)), .val (.int (1 : Int32)), .val (.int (0 : Int32)), .val (.ref bo), .val (.ref o11), .val (.int ((1 : Int32) + (1 : Int32))), .val (.int (0 : Int32)), .unset] [])) _
    refine XS.iloadN X20.here hx rfl (hb hby at_171) rfl ?_
    show Steps p.tables e below (T20.setTop (mkF m 172 #[.val (.int p1), .val (.int p2), .val (.int p3), .val (.int p4), .val (.int (1 : Int32)), .val (.int (1 : Int32)), .val (.int (0 : Int32)), .val (.ref bo), .val (.ref o11), .val (.int ((1 : Int32) + (1 : Int32))), .val (.int (0 : Int32)), .unset] [(.int p1)])) _
    refine XS.goto X20.here hx rfl (pc0 := 172) (pc' := 176) rfl (hb hby at_172) (by decide) (by decide) ?_
    show Steps p.tables e below (T20.setTop (mkF m 176 #[.val (.int p1), .val (.int p2), .val (.int p3), .val (.int p4), .val (.int (1 : Int32)), .val (.int (1 : Int32)), .val (.int (0 : Int32)), .val (.ref bo), .val (.ref o11), .val (.int ((1 : Int32) + (1 : Int32))), .val (.int (0 : Int32)), .unset] [(.int p1)])) _
    refine XS.istore X20.here hx rfl (hb hby at_176) rfl (l' := #[.val (.int p1), .val (.int p2), .val (.int p3), .val (.int p4), .val (.int (1 : Int32)), .val (.int (1 : Int32)), .val (.int (0 : Int32)), .val (.ref bo), .val (.ref o11), .val (.int ((1 : Int32) + (1 : Int32))), .val (.int (0 : Int32)), .val (.int p1)]) rfl ?_
    show Steps p.tables e below (T20.setTop (mkF m 178 #[.val (.int p1), .val (.int p2), .val (.int p3), .val (.int p4), .val (.int (1 : Int32)), .val (.int (1 : Int32)), .val (.int (0 : Int32)), .val (.ref bo), .val (.ref o11), .val (.int ((1 : Int32) + (1 : Int32))), .val (.int (0 : Int32)), .val (.int p1)] [])) _
    refine XS.aload X20.here hx rfl (hb hby at_178) rfl rfl ?_
    show Steps p.tables e below (T20.setTop (mkF m 180 #[.val (.int p1), .val (.int p2), .val (.int p3), .val (.int p4), .val (.int (1 : Int32)), .val (.int (1 : Int32)), .val (.int (0 : Int32)), .val (.ref bo), .val (.ref o11), .val (.int ((1 : Int32) + (1 : Int32))), .val (.int (0 : Int32)), .val (.int p1)] [(.ref o11)])) _
    refine XS.iconst X20.here hx rfl (hb hby at_180) ?_
    show Steps p.tables e below (T20.setTop (mkF m 181 #[.val (.int p1), .val (.int p2), .val (.int p3), .val (.int p4), .val (.int (1 : Int32)), .val (.int (1 : Int32)), .val (.int (0 : Int32)), .val (.ref bo), .val (.ref o11), .val (.int ((1 : Int32) + (1 : Int32))), .val (.int (0 : Int32)), .val (.int p1)] [(.int (0 : Int32)), (.ref o11)])) _
    refine XS.iconst X20.here hx rfl (hb hby at_181) ?_
    show Steps p.tables e below (T20.setTop (mkF m 182 #[.val (.int p1), .val (.int p2), .val (.int p3), .val (.int p4), .val (.int (1 : Int32)), .val (.int (1 : Int32)), .val (.int (0 : Int32)), .val (.ref bo), .val (.ref o11), .val (.int ((1 : Int32) + (1 : Int32))), .val (.int (0 : Int32)), .val (.int p1)] [(.int (0 : Int32)), (.int (0 : Int32)), (.ref o11)])) _
    refine st21.trans ?_
    show Steps p.tables e below (T21.setTop (mkF m 185 #[.val (.int p1), .val (.int p2), .val (.int p3), .val (.int p4), .val (.int (1 : Int32)), .val (.int (1 : Int32)), .val (.int (0 : Int32)), .val (.ref bo), .val (.ref o11), .val (.int ((1 : Int32) + (1 : Int32))), .val (.int (0 : Int32)), .val (.int p1)] [(.int p1)])) _
    refine XS.iload X21.here hx rfl (hb hby at_185) rfl ?_
    show Steps p.tables e below (T21.setTop (mkF m 187 #[.val (.int p1), .val (.int p2), .val (.int p3), .val (.int p4), .val (.int (1 : Int32)), .val (.int (1 : Int32)), .val (.int (0 : Int32)), .val (.ref bo), .val (.ref o11), .val (.int ((1 : Int32) + (1 : Int32))), .val (.int (0 : Int32)), .val (.int p1)] [(.int p1), (.int p1)])) _
    refine XS.icmpYes X21.here hx rfl (pc0 := 187) (pc' := 192) rfl (hb hby at_187) rfl (teq (rfl : p1 = p1)).1 (by decide) (by decide) ?_
    show Steps p.tables e below (T21.setTop (mkF m 192 #[.val (.int p1), .val (.int p2), .val (.int p3), .val (.int p4), .val (.int (1 : Int32)), .val (.int (1 : Int32)), .val (.int (0 : Int32)), .val (.ref bo), .val (.ref o11), .val (.int ((1 : Int32) + (1 : Int32))), .val (.int (0 : Int32)), .val (.int p1)] [])) _
    refine XS.iload X21.here hx rfl (hb hby at_192) rfl ?_
    show Steps p.tables e below (T21.setTop (mkF m 194 #[.val (.int p1), .val (.int p2), .val (.int p3), .val (.int p4), .val (.int (1 : Int32)), .val (.int (1 : Int32)), .val (.int (0 : Int32)), .val (.ref bo), .val (.ref o11), .val (.int ((1 : Int32) + (1 : Int32))), .val (.int (0 : Int32)), .val (.int p1)] [(.int ((1 : Int32) + (1 : Int32)))])) _
    refine XS.iconst X21.here hx rfl (hb hby at_194) ?_
    show Steps p.tables e below (T21.setTop (mkF m 195 #[.val (.int p1), .val (.int p2), .val (.int p3), .val (.int p4), .val (.int (1 : Int32)), .val (.int (1 : Int32)), .val (.int (0 : Int32)), .val (.ref bo), .val (.ref o11), .val (.int ((1 : Int32) + (1 : Int32))), .val (.int (0 : Int32)), .val (.int p1)] [(.int (2 : Int32)), (.int ((1 : Int32) + (1 : Int32)))])) _
    refine XS.icmpNo X21.here hx rfl (hb hby at_195) rfl (teq (by decide : ((1 : Int32) + (1 : Int32)) = (2 : Int32))).2 ?_
    show Steps p.tables e below (T21.setTop (mkF m 198 #[.val (.int p1), .val (.int p2), .val (.int p3), .val (.int p4), .val (.int (1 : Int32)), .val (.int (1 : Int32)), .val (.int (0 : Int32)), .val (.ref bo), .val (.ref o11), .val (.int ((1 : Int32) + (1 : Int32))), .val (.int (0 : Int32)), .val (.int p1)] [])) _
    refine XS.aload X21.here hx rfl (hb hby at_198) rfl rfl ?_
    show Steps p.tables e below (T21.setTop (mkF m 200 #[.val (.int p1), .val (.int p2), .val (.int p3), .val (.int p4), .val (.int (1 : Int32)), .val (.int (1 : Int32)), .val (.int (0 : Int32)), .val (.ref bo), .val (.ref o11), .val (.int ((1 : Int32) + (1 : Int32))), .val (.int (0 : Int32)), .val (.int p1)] [(.ref o11)])) _
    refine XS.iconst X21.here hx rfl (hb hby at_200) ?_
    show Steps p.tables e below (T21.setTop (mkF m 201 #[.val (.int p1), .val (.int p2), .val (.int p3), .val (.int p4), .val (.int (1 : Int32)), .val (.int (1 : Int32)), .val (.int (0 : Int32)), .val (.ref bo), .val (.ref o11), .val (.int ((1 : Int32) + (1 : Int32))), .val (.int (0 : Int32)), .val (.int p1)] [(.int (0 : Int32)), (.ref o11)])) _
    refine XS.iconst X21.here hx rfl (hb hby at_201) ?_
    show Steps p.tables e below (T21.setTop (mkF m 202 #[.val (.int p1), .val (.int p2), .val (.int p3), .val (.int p4), .val (.int (1 : Int32)), .val (.int (1 : Int32)), .val (.int (0 : Int32)), .val (.ref bo), .val (.ref o11), .val (.int ((1 : Int32) + (1 : Int32))), .val (.int (0 : Int32)), .val (.int p1)] [(.int (1 : Int32)), (.int (0 : Int32)), (.ref o11)])) _
    refine st22.trans ?_
    show Steps p.tables e below (T22.setTop (mkF m 205 #[.val (.int p1), .val (.int p2), .val (.int p3), .val (.int p4), .val (.int (1 : Int32)), .val (.int (1 : Int32)), .val (.int (0 : Int32)), .val (.ref bo), .val (.ref o11), .val (.int ((1 : Int32) + (1 : Int32))), .val (.int (0 : Int32)), .val (.int p1)] [(.int p2)])) _
    refine XS.iloadN X22.here hx rfl (hb hby at_205) rfl ?_
    show Steps p.tables e below (T22.setTop (mkF m 206 #[.val (.int p1), .val (.int p2), .val (.int p3), .val (.int p4), .val (.int (1 : Int32)), .val (.int (1 : Int32)), .val (.int (0 : Int32)), .val (.ref bo), .val (.ref o11), .val (.int ((1 : Int32) + (1 : Int32))), .val (.int (0 : Int32)), .val (.int p1)] [(.int p2), (.int p2)])) _
    refine XS.icmpYes X22.here hx rfl (pc0 := 206) (pc' := 211) rfl (hb hby at_206) rfl (teq (rfl : p2 = p2)).1 (by decide) (by decide) ?_
    show Steps p.tables e below (T22.setTop (mkF m 211 #[.val (.int p1), .val (.int p2), .val (.int p3), .val (.int p4), .val (.int (1 : Int32)), .val (.int (1 : Int32)), .val (.int (0 : Int32)), .val (.ref bo), .val (.ref o11), .val (.int ((1 : Int32) + (1 : Int32))), .val (.int (0 : Int32)), .val (.int p1)] [])) _
    refine XS.iload X22.here hx rfl (hb hby at_211) rfl ?_
    show Steps p.tables e below (T22.setTop (mkF m 213 #[.val (.int p1), .val (.int p2), .val (.int p3), .val (.int p4), .val (.int (1 : Int32)), .val (.int (1 : Int32)), .val (.int (0 : Int32)), .val (.ref bo), .val (.ref o11), .val (.int ((1 : Int32) + (1 : Int32))), .val (.int (0 : Int32)), .val (.int p1)] [(.int (0 : Int32))])) _
    refine XS.iconst X22.here hx rfl (hb hby at_213) ?_
    show Steps p.tables e below (T22.setTop (mkF m 214 #[.val (.int p1), .val (.int p2), .val (.int p3), .val (.int p4), .val (.int (1 : Int32)), .val (.int (1 : Int32)), .val (.int (0 : Int32)), .val (.ref bo), .val (.ref o11), .val (.int ((1 : Int32) + (1 : Int32))), .val (.int (0 : Int32)), .val (.int p1)] [(.int (1 : Int32)), (.int (0 : Int32))])) _
    refine XS.icmpYes X22.here hx rfl (pc0 := 214) (pc' := 230) rfl (hb hby at_214) rfl (feq (by decide : ¬ ((0 : Int32) = (1 : Int32)))).2 (by decide) (by decide) ?_
    show Steps p.tables e below (T22.setTop (mkF m 230 #[.val (.int p1), .val (.int p2), .val (.int p3), .val (.int p4), .val (.int (1 : Int32)), .val (.int (1 : Int32)), .val (.int (0 : Int32)), .val (.ref bo), .val (.ref o11), .val (.int ((1 : Int32) + (1 : Int32))), .val (.int (0 : Int32)), .val (.int p1)] [])) _
    refine XS.iconst X22.here hx rfl (hb hby at_230) ?_
    show Steps p.tables e below (T22.setTop (mkF m 231 #[.val (.int p1), .val (.int p2), .val (.int p3), .val (.int p4), .val (.int (1 : Int32)), .val (.int (1 : Int32)), .val (.int (0 : Int32)), .val (.ref bo), .val (.ref o11), .val (.int ((1 : Int32) + (1 : Int32))), .val (.int (0 : Int32)), .val (.int p1)] [(.int (1 : Int32))])) _
    exact retN X22 hx (t := .boolean) Bd.returns (by simp) (hb hby at_231) hr
  · show Q0 n0 _ _ _
    exact ⟨rfl, N22⟩
set_option maxRecDepth 65536 in
set_option maxHeartbeats 40000000 in
theorem rm0_111 (l : Launch) (Z : State) (a0 : Array Value) (hw : ∀ d ∈ tables_1, d.before a0 Z = true) (ws : List Jvm.Cond) (p1 p2 p3 p4 : Int32) (h0 : Heap) (n0 : Nat) (Z0 : n0 ≤ h0.size)  (hc3 : ¬ ((p4 &&& (1 : Int32)) = (0 : Int32))) (hc16 : ¬ ((p4 &&& (2 : Int32)) = (0 : Int32))) (hc29 : ¬ ((p4 &&& (4 : Int32)) = (0 : Int32))) :
    MetFree l x (head1 (Jvm.Cond.code x code maxLocals ret :: ws) room_1) (fun a U => a = #[(.int p1), (.int p2), (.int p3), (.int p4)] ∧ Z.Warmed39 U.vm ∧ U.heap = h0) (fun _ _ _ _ _ => True) (fun _ U o U' => ∃ v L, o = .returned v ∧ Q0 n0 v U'.heap L ∧ FrameEnd U o U' L room_1.cells room_1.slots) := by
  refine MetFree.of_bodySF (plainFor_of_name pn_org_keyward_securitymodel_BuilderEndPinLaw) hisR ?_
  intro p e s m args below meth cd s₁ Bd hml0 hPre hKc
  obtain ⟨rfl, hZ, hHp⟩ := hPre
  have hx := Bd.exec
  have hby := Bd.bytes
  have hml : cd.maxLocals = 12 := hml0
  have hown : s.vm.findClass "org/keyward/securitymodel/BuilderEndPinLaw" = some m.cls := findClass_of_methodNamed Bd.named
  have hnm := (name_of_methodNamed Bd.named Bd.method).1
  have X0 : Stand p l e room_1 s m #[(.int p1), (.int p2), (.int p3), (.int p4)] below meth cd s₁ [] 0 0 := Stand.of_body Bd
  have e0 : s₁.heap = h0 := by rw [← hHp, Bd.state]; rfl
  have N0 := Fr.nil n0
  have pre0 : ∀ t, Steps p.tables e below (s₁.setTop (mkF m 0 #[.val (.int p1), .val (.int p2), .val (.int p3), .val (.int p4), .unset, .unset, .unset, .unset, .unset, .unset, .unset, .unset] [])) t → Steps p.tables e below (s₁.setTop (entryFrame m #[(.int p1), (.int p2), (.int p3), (.int p4)] maxLocals)) t := fun t k => castTop (ef_0 m p1 p2 p3 p4) k
  obtain ⟨T1, h1, X1, e1, E1, A1, D1, -, st1⟩ := newO X0 hx hZ hown (hw _ (List.mem_of_getElem? (i := 0) rfl)) (hw _ (List.mem_of_getElem? (i := 1) rfl)) (hw _ (List.mem_of_getElem? (i := 2) rfl)) e0 (g := (mkF m 39 #[.val (.int p1), .val (.int p2), .val (.int p3), .val (.int p4), .val (.int (1 : Int32)), .val (.int (1 : Int32)), .val (.int (1 : Int32)), .unset, .unset, .unset, .unset, .unset] [])) rfl (hb hby at_39) (Nat.le_of_ble_eq_true rfl) (Nat.le_of_ble_eq_true rfl)
  obtain ⟨bo, g1⟩ : ∃ z, z = h0.size := ⟨_, rfl⟩
  rw [← g1] at A1 D1 st1
  have g_bo : n0 ≤ bo := Nat.le_trans Z0 (Nat.le_of_eq g1.symm)
  have z1 : n0 ≤ h1.size := Nat.le_trans Z0 E1.1
  have F_numbers_bo : Fld Z h1 bo "org/keyward/securitymodel/NumberLists$Builder" "numbers" "[I" .null := D1 (Or.inl (hw _ (List.mem_of_getElem? (i := 11) rfl))) (ty := (.array .int)) (by decide)
  have F_starts_bo : Fld Z h1 bo "org/keyward/securitymodel/NumberLists$Builder" "starts" "[I" .null := D1 (Or.inr (hw _ (List.mem_of_getElem? (i := 13) rfl))) (ty := (.array .int)) (by decide)
  have F_count_bo : Fld Z h1 bo "org/keyward/securitymodel/NumberLists$Builder" "count" "I" (.int (0 : Int32)) := D1 (Or.inl (hw _ (List.mem_of_getElem? (i := 20) rfl))) (ty := .int) (by decide)
  have F_listed_bo : Fld Z h1 bo "org/keyward/securitymodel/NumberLists$Builder" "listed" "I" (.int (0 : Int32)) := D1 (Or.inl (hw _ (List.mem_of_getElem? (i := 27) rfl))) (ty := .int) (by decide)
  obtain ⟨_, _, ⟨T2, L2, k2, n2⟩, -, X2, ⟨Lc2, hQ2, l2, y2, z2⟩, st2⟩ := X1.specialBack hx (y := (⟨"org/keyward/securitymodel/NumberLists$Builder", "<init>", "(I)V"⟩ : MethodName)) rfl hown (mvT hZ (hw _ (List.mem_of_getElem? (i := 3) rfl))) (mvT hZ (hw _ (List.mem_of_getElem? (i := 4) rfl))) (mvT hZ (hw _ (List.mem_of_getElem? (i := 5) rfl))) (by decide) (backOf (W := 1) (rm1 l Z a0 hw [] bo _ _ h1 n0 z1 A1 g_bo F_numbers_bo F_starts_bo F_count_bo F_listed_bo) hZ (hw _ (List.mem_of_getElem? (i := 5) rfl)) (hw _ (List.mem_of_getElem? (i := 2) rfl)) (by decide) (by decide)) (g := (mkF m 44 #[.val (.int p1), .val (.int p2), .val (.int p3), .val (.int p4), .val (.int (1 : Int32)), .val (.int (1 : Int32)), .val (.int (1 : Int32)), .unset, .unset, .unset, .unset, .unset] [(.int (2 : Int32)), (.ref bo), (.ref bo)])) rfl (by rw [hml]; rfl) (Steps.refl _) (a := bo) (argsL := [(.int (2 : Int32))]) (rest := [(.ref bo)]) (lenOf pd__I_V rfl) rfl (by show 2 * 0 + _ ≤ _; exact Nat.le_of_eq rfl) (hb hby at_44) (fun _ _ => ⟨rfl, e1, (Nat.le_of_ble_eq_true rfl), (Nat.le_of_ble_eq_true rfl)⟩)
  dsimp only [Pt.U, Pt.locs, Pt.cells, Pt.slots] at X2 l2 y2 z2 st2 hQ2
  subst l2 y2 z2
  obtain ⟨rfl, N2q, nb, sb, kn, ks, Kc2, Eb2, Fnumbers2, Fstarts2, Fcount2, Flisted2, Vn2, Vs2, gn2, gs2, ne12, ne22, ne32⟩ := hQ2
  have N2 := Fr.app N0 N2q
  have zz2 : n0 ≤ T2.heap.size := Nat.le_trans z1 Kc2.1
  obtain ⟨cq3, kq3, q3a, q3b, q3c⟩ := isOf hZ rfl Eb2
  obtain ⟨_, _, ⟨T3, L3, k3, n3⟩, -, X3, ⟨Lc3, hQ3, l3, y3, z3⟩, st3⟩ := X2.virtualBack hx (y := (⟨"org/keyward/securitymodel/NumberLists$Builder", "add", "(I)V"⟩ : MethodName)) (z := (⟨"org/keyward/securitymodel/NumberLists$Builder", "add", "(I)V"⟩ : MethodName)) hown (mvT hZ (hw _ (List.mem_of_getElem? (i := 14) rfl))) (mvT hZ (hw _ (List.mem_of_getElem? (i := 15) rfl))) (notFace_of_selects (args := #[]) (mvT hZ (hw _ (List.mem_of_getElem? (i := 17) rfl)))) (mvT hZ (hw _ (List.mem_of_getElem? (i := 17) rfl))) (mvT hZ (hw _ (List.mem_of_getElem? (i := 16) rfl))) (by decide) (backOf (W := 0) (rm3 l Z a0 hw [] bo p1 nb sb (0 : Int32) (0 : Int32) kn _ 0 T2.heap n0 zz2 Eb2 Fnumbers2 Fstarts2 Fcount2 Flisted2 g_bo gn2 ne12 Vn2 (by decide) (by decide) (Nat.le_of_ble_eq_true rfl)) hZ (hw _ (List.mem_of_getElem? (i := 18) rfl)) (hw _ (List.mem_of_getElem? (i := 2) rfl)) (by decide) (by decide)) q3a q3c (g := (mkF m 57 #[.val (.int p1), .val (.int p2), .val (.int p3), .val (.int p4), .val (.int (1 : Int32)), .val (.int (1 : Int32)), .val (.int (1 : Int32)), .val (.ref bo), .unset, .unset, .unset, .unset] [(.int p1), (.ref bo)])) rfl (by rw [hml]; rfl) (Steps.refl _) (argsL := [(.int p1)]) (rest := []) (lenOf pd__I_V rfl) rfl (by show 2 * 0 + _ ≤ _; exact Nat.le_of_eq rfl) (hb hby at_57) (fun _ _ => ⟨rfl, rfl, (Nat.le_of_ble_eq_true rfl), (Nat.le_of_ble_eq_true rfl)⟩)
  dsimp only [Pt.U, Pt.locs, Pt.cells, Pt.slots] at X3 l3 y3 z3 st3 hQ3
  subst l3 y3 z3
  obtain ⟨rfl, N3q, Kc3, Eb3, Fnumbers3, Fstarts3, Fcount3, Flisted3, Vn3⟩ := hQ3
  have N3 := Fr.app N2 N3q
  have f4_V_sb := Vs2.keep Kc3 (ninS (Ne.symm ne22) (ninS (Ne.symm ne32) nin0))
  have zz3 : n0 ≤ T3.heap.size := Nat.le_trans zz2 Kc3.1
  have Vx3 : Arv Z T3.heap nb kn .int (16 : Int32) [(.int p1), (.int (0 : Int32)), (.int (0 : Int32)), (.int (0 : Int32)), (.int (0 : Int32)), (.int (0 : Int32)), (.int (0 : Int32)), (.int (0 : Int32)), (.int (0 : Int32)), (.int (0 : Int32)), (.int (0 : Int32)), (.int (0 : Int32)), (.int (0 : Int32)), (.int (0 : Int32)), (.int (0 : Int32)), (.int (0 : Int32))] (.int (0 : Int32)) := Vn3
  obtain ⟨cq5, kq5, q5a, q5b, q5c⟩ := isOf hZ rfl Eb3
  obtain ⟨_, _, ⟨T5, L5, k5, n5⟩, -, X5, ⟨Lc5, hQ5, l5, y5, z5⟩, st5⟩ := X3.virtualBack hx (y := (⟨"org/keyward/securitymodel/NumberLists$Builder", "add", "(I)V"⟩ : MethodName)) (z := (⟨"org/keyward/securitymodel/NumberLists$Builder", "add", "(I)V"⟩ : MethodName)) hown (mvT hZ (hw _ (List.mem_of_getElem? (i := 14) rfl))) (mvT hZ (hw _ (List.mem_of_getElem? (i := 15) rfl))) (notFace_of_selects (args := #[]) (mvT hZ (hw _ (List.mem_of_getElem? (i := 17) rfl)))) (mvT hZ (hw _ (List.mem_of_getElem? (i := 17) rfl))) (mvT hZ (hw _ (List.mem_of_getElem? (i := 16) rfl))) (by decide) (backOf (W := 0) (rm3 l Z a0 hw [] bo p2 nb sb ((0 : Int32) + (1 : Int32)) (0 : Int32) kn _ 1 T3.heap n0 zz3 Eb3 Fnumbers3 Fstarts3 Fcount3 Flisted3 g_bo gn2 ne12 Vx3 (by decide) (by decide) (Nat.le_of_ble_eq_true rfl)) hZ (hw _ (List.mem_of_getElem? (i := 18) rfl)) (hw _ (List.mem_of_getElem? (i := 2) rfl)) (by decide) (by decide)) q5a q5c (g := (mkF m 68 #[.val (.int p1), .val (.int p2), .val (.int p3), .val (.int p4), .val (.int (1 : Int32)), .val (.int (1 : Int32)), .val (.int (1 : Int32)), .val (.ref bo), .unset, .unset, .unset, .unset] [(.int p2), (.ref bo)])) rfl (by rw [hml]; rfl) (Steps.refl _) (argsL := [(.int p2)]) (rest := []) (lenOf pd__I_V rfl) rfl (by show 2 * 0 + _ ≤ _; exact Nat.le_of_eq rfl) (hb hby at_68) (fun _ _ => ⟨rfl, rfl, (Nat.le_of_ble_eq_true rfl), (Nat.le_of_ble_eq_true rfl)⟩)
  dsimp only [Pt.U, Pt.locs, Pt.cells, Pt.slots] at X5 l5 y5 z5 st5 hQ5
  subst l5 y5 z5
  obtain ⟨rfl, N5q, Kc5, Eb5, Fnumbers5, Fstarts5, Fcount5, Flisted5, Vn5⟩ := hQ5
  have N5 := Fr.app N3 N5q
  have f6_V_sb := f4_V_sb.keep Kc5 (ninS (Ne.symm ne22) (ninS (Ne.symm ne32) nin0))
  have zz5 : n0 ≤ T5.heap.size := Nat.le_trans zz3 Kc5.1
  have Vx5 : Arv Z T5.heap nb kn .int (16 : Int32) [(.int p1), (.int p2), (.int (0 : Int32)), (.int (0 : Int32)), (.int (0 : Int32)), (.int (0 : Int32)), (.int (0 : Int32)), (.int (0 : Int32)), (.int (0 : Int32)), (.int (0 : Int32)), (.int (0 : Int32)), (.int (0 : Int32)), (.int (0 : Int32)), (.int (0 : Int32)), (.int (0 : Int32)), (.int (0 : Int32))] (.int (0 : Int32)) := Vn5
  obtain ⟨cq7, kq7, q7a, q7b, q7c⟩ := isOf hZ rfl Eb5
  obtain ⟨_, _, ⟨T7, L7, k7, n7⟩, -, X7, ⟨Lc7, hQ7, l7, y7, z7⟩, st7⟩ := X5.virtualBack hx (y := (⟨"org/keyward/securitymodel/NumberLists$Builder", "end", "()V"⟩ : MethodName)) (z := (⟨"org/keyward/securitymodel/NumberLists$Builder", "end", "()V"⟩ : MethodName)) hown (mvT hZ (hw _ (List.mem_of_getElem? (i := 21) rfl))) (mvT hZ (hw _ (List.mem_of_getElem? (i := 22) rfl))) (notFace_of_selects (args := #[]) (mvT hZ (hw _ (List.mem_of_getElem? (i := 24) rfl)))) (mvT hZ (hw _ (List.mem_of_getElem? (i := 24) rfl))) (mvT hZ (hw _ (List.mem_of_getElem? (i := 23) rfl))) (by decide) (backOf (W := 0) (rm4 l Z a0 hw [] bo nb sb (((0 : Int32) + (1 : Int32)) + (1 : Int32)) (0 : Int32) ks _ 1 T5.heap n0 zz5 Eb5 Fnumbers5 Fstarts5 Fcount5 Flisted5 g_bo gs2 ne22 f6_V_sb (by decide) (by decide) (Nat.le_of_ble_eq_true rfl)) hZ (hw _ (List.mem_of_getElem? (i := 25) rfl)) (hw _ (List.mem_of_getElem? (i := 2) rfl)) (by decide) (by decide)) q7a q7c (g := (mkF m 73 #[.val (.int p1), .val (.int p2), .val (.int p3), .val (.int p4), .val (.int (1 : Int32)), .val (.int (1 : Int32)), .val (.int (1 : Int32)), .val (.ref bo), .unset, .unset, .unset, .unset] [(.ref bo)])) rfl (by rw [hml]; rfl) (Steps.refl _) (argsL := []) (rest := []) (lenOf pd___V rfl) rfl (by show 2 * 0 + _ ≤ _; exact Nat.le_of_eq rfl) (hb hby at_73) (fun _ _ => ⟨rfl, rfl, (Nat.le_of_ble_eq_true rfl), (Nat.le_of_ble_eq_true rfl)⟩)
  dsimp only [Pt.U, Pt.locs, Pt.cells, Pt.slots] at X7 l7 y7 z7 st7 hQ7
  subst l7 y7 z7
  obtain ⟨rfl, N7q, Kc7, Eb7, Fnumbers7, Fstarts7, Fcount7, Flisted7, Vs7⟩ := hQ7
  have N7 := Fr.app N5 N7q
  have f8_V_nb := Vx5.keep Kc7 (ninS (Ne.symm ne12) (ninS ne32 nin0))
  have zz7 : n0 ≤ T7.heap.size := Nat.le_trans zz5 Kc7.1
  have Vx7 : Arv Z T7.heap sb ks .int (3 : Int32) [(.int (0 : Int32)), (.int (((0 : Int32) + (1 : Int32)) + (1 : Int32))), (.int (0 : Int32))] (.int (0 : Int32)) := Vs7
  obtain ⟨cq9, kq9, q9a, q9b, q9c⟩ := isOf hZ rfl Eb7
  obtain ⟨_, _, ⟨T9, L9, k9, n9⟩, -, X9, ⟨Lc9, hQ9, l9, y9, z9⟩, st9⟩ := X7.virtualBack hx (y := (⟨"org/keyward/securitymodel/NumberLists$Builder", "add", "(I)V"⟩ : MethodName)) (z := (⟨"org/keyward/securitymodel/NumberLists$Builder", "add", "(I)V"⟩ : MethodName)) hown (mvT hZ (hw _ (List.mem_of_getElem? (i := 14) rfl))) (mvT hZ (hw _ (List.mem_of_getElem? (i := 15) rfl))) (notFace_of_selects (args := #[]) (mvT hZ (hw _ (List.mem_of_getElem? (i := 17) rfl)))) (mvT hZ (hw _ (List.mem_of_getElem? (i := 17) rfl))) (mvT hZ (hw _ (List.mem_of_getElem? (i := 16) rfl))) (by decide) (backOf (W := 0) (rm3 l Z a0 hw [] bo p3 nb sb (((0 : Int32) + (1 : Int32)) + (1 : Int32)) ((0 : Int32) + (1 : Int32)) kn _ 2 T7.heap n0 zz7 Eb7 Fnumbers7 Fstarts7 Fcount7 Flisted7 g_bo gn2 ne12 f8_V_nb (by decide) (by decide) (Nat.le_of_ble_eq_true rfl)) hZ (hw _ (List.mem_of_getElem? (i := 18) rfl)) (hw _ (List.mem_of_getElem? (i := 2) rfl)) (by decide) (by decide)) q9a q9c (g := (mkF m 84 #[.val (.int p1), .val (.int p2), .val (.int p3), .val (.int p4), .val (.int (1 : Int32)), .val (.int (1 : Int32)), .val (.int (1 : Int32)), .val (.ref bo), .unset, .unset, .unset, .unset] [(.int p3), (.ref bo)])) rfl (by rw [hml]; rfl) (Steps.refl _) (argsL := [(.int p3)]) (rest := []) (lenOf pd__I_V rfl) rfl (by show 2 * 0 + _ ≤ _; exact Nat.le_of_eq rfl) (hb hby at_84) (fun _ _ => ⟨rfl, rfl, (Nat.le_of_ble_eq_true rfl), (Nat.le_of_ble_eq_true rfl)⟩)
  dsimp only [Pt.U, Pt.locs, Pt.cells, Pt.slots] at X9 l9 y9 z9 st9 hQ9
  subst l9 y9 z9
  obtain ⟨rfl, N9q, Kc9, Eb9, Fnumbers9, Fstarts9, Fcount9, Flisted9, Vn9⟩ := hQ9
  have N9 := Fr.app N7 N9q
  have f10_V_sb := Vx7.keep Kc9 (ninS (Ne.symm ne22) (ninS (Ne.symm ne32) nin0))
  have zz9 : n0 ≤ T9.heap.size := Nat.le_trans zz7 Kc9.1
  have Vx9 : Arv Z T9.heap nb kn .int (16 : Int32) [(.int p1), (.int p2), (.int p3), (.int (0 : Int32)), (.int (0 : Int32)), (.int (0 : Int32)), (.int (0 : Int32)), (.int (0 : Int32)), (.int (0 : Int32)), (.int (0 : Int32)), (.int (0 : Int32)), (.int (0 : Int32)), (.int (0 : Int32)), (.int (0 : Int32)), (.int (0 : Int32)), (.int (0 : Int32))] (.int (0 : Int32)) := Vn9
  obtain ⟨cq11, kq11, q11a, q11b, q11c⟩ := isOf hZ rfl Eb9
  obtain ⟨_, _, ⟨T11, L11, k11, n11⟩, -, X11, ⟨Lc11, hQ11, l11, y11, z11⟩, st11⟩ := X9.virtualBack hx (y := (⟨"org/keyward/securitymodel/NumberLists$Builder", "end", "()V"⟩ : MethodName)) (z := (⟨"org/keyward/securitymodel/NumberLists$Builder", "end", "()V"⟩ : MethodName)) hown (mvT hZ (hw _ (List.mem_of_getElem? (i := 21) rfl))) (mvT hZ (hw _ (List.mem_of_getElem? (i := 22) rfl))) (notFace_of_selects (args := #[]) (mvT hZ (hw _ (List.mem_of_getElem? (i := 24) rfl)))) (mvT hZ (hw _ (List.mem_of_getElem? (i := 24) rfl))) (mvT hZ (hw _ (List.mem_of_getElem? (i := 23) rfl))) (by decide) (backOf (W := 0) (rm4 l Z a0 hw [] bo nb sb ((((0 : Int32) + (1 : Int32)) + (1 : Int32)) + (1 : Int32)) ((0 : Int32) + (1 : Int32)) ks _ 2 T9.heap n0 zz9 Eb9 Fnumbers9 Fstarts9 Fcount9 Flisted9 g_bo gs2 ne22 f10_V_sb (by decide) (by decide) (Nat.le_of_ble_eq_true rfl)) hZ (hw _ (List.mem_of_getElem? (i := 25) rfl)) (hw _ (List.mem_of_getElem? (i := 2) rfl)) (by decide) (by decide)) q11a q11c (g := (mkF m 89 #[.val (.int p1), .val (.int p2), .val (.int p3), .val (.int p4), .val (.int (1 : Int32)), .val (.int (1 : Int32)), .val (.int (1 : Int32)), .val (.ref bo), .unset, .unset, .unset, .unset] [(.ref bo)])) rfl (by rw [hml]; rfl) (Steps.refl _) (argsL := []) (rest := []) (lenOf pd___V rfl) rfl (by show 2 * 0 + _ ≤ _; exact Nat.le_of_eq rfl) (hb hby at_89) (fun _ _ => ⟨rfl, rfl, (Nat.le_of_ble_eq_true rfl), (Nat.le_of_ble_eq_true rfl)⟩)
  dsimp only [Pt.U, Pt.locs, Pt.cells, Pt.slots] at X11 l11 y11 z11 st11 hQ11
  subst l11 y11 z11
  obtain ⟨rfl, N11q, Kc11, Eb11, Fnumbers11, Fstarts11, Fcount11, Flisted11, Vs11⟩ := hQ11
  have N11 := Fr.app N9 N11q
  have f12_V_nb := Vx9.keep Kc11 (ninS (Ne.symm ne12) (ninS ne32 nin0))
  have zz11 : n0 ≤ T11.heap.size := Nat.le_trans zz9 Kc11.1
  have Vx11 : Arv Z T11.heap sb ks .int (3 : Int32) [(.int (0 : Int32)), (.int (((0 : Int32) + (1 : Int32)) + (1 : Int32))), (.int ((((0 : Int32) + (1 : Int32)) + (1 : Int32)) + (1 : Int32)))] (.int (0 : Int32)) := Vs11
  obtain ⟨cq13, kq13, q13a, q13b, q13c⟩ := isOf hZ rfl Eb11
  obtain ⟨_, _, ⟨T13, L13, k13, n13⟩, -, X13, ⟨Lc13, hQ13, l13, y13, z13⟩, st13⟩ := X11.virtualBack hx (y := (⟨"org/keyward/securitymodel/NumberLists$Builder", "build", "()Lorg/keyward/securitymodel/NumberLists;"⟩ : MethodName)) (z := (⟨"org/keyward/securitymodel/NumberLists$Builder", "build", "()Lorg/keyward/securitymodel/NumberLists;"⟩ : MethodName)) hown (mvT hZ (hw _ (List.mem_of_getElem? (i := 28) rfl))) (mvT hZ (hw _ (List.mem_of_getElem? (i := 29) rfl))) (notFace_of_selects (args := #[]) (mvT hZ (hw _ (List.mem_of_getElem? (i := 31) rfl)))) (mvT hZ (hw _ (List.mem_of_getElem? (i := 31) rfl))) (mvT hZ (hw _ (List.mem_of_getElem? (i := 30) rfl))) (by decide) (backOf (W := 0) (rm5 l Z a0 hw [] bo nb sb ((((0 : Int32) + (1 : Int32)) + (1 : Int32)) + (1 : Int32)) (((0 : Int32) + (1 : Int32)) + (1 : Int32)) kn ks _ _ 3 T11.heap n0 zz11 Eb11 Fnumbers11 Fstarts11 Fcount11 Flisted11 f12_V_nb Vx11 (by decide) (by decide) (by decide) (by decide)) hZ (hw _ (List.mem_of_getElem? (i := 32) rfl)) (hw _ (List.mem_of_getElem? (i := 2) rfl)) (by decide) (by decide)) q13a q13c (g := (mkF m 94 #[.val (.int p1), .val (.int p2), .val (.int p3), .val (.int p4), .val (.int (1 : Int32)), .val (.int (1 : Int32)), .val (.int (1 : Int32)), .val (.ref bo), .unset, .unset, .unset, .unset] [(.ref bo)])) rfl (by rw [hml]; rfl) (Steps.refl _) (argsL := []) (rest := []) (lenOf pd___Lorg_keyward_securitymodel_NumberLists_ rfl) rfl (by show 2 * 0 + _ ≤ _; exact Nat.le_of_eq rfl) (hb hby at_94) (fun _ _ => ⟨rfl, rfl, (Nat.le_of_ble_eq_true rfl), (Nat.le_of_ble_eq_true rfl)⟩)
  dsimp only [Pt.U, Pt.locs, Pt.cells, Pt.slots] at X13 l13 y13 z13 st13 hQ13
  subst l13 y13 z13
  obtain ⟨o13, mb13, km13, rfl, N13q, Kc13, Eo13, So13, No13, Vm13⟩ := hQ13
  have N13 := Fr.app N11 N13q
  have f14_V_nb := f12_V_nb.keep Kc13 nin0
  have f15_E_bo := Eb11.keep Kc13
  have f16_F_bo_numbers := Fnumbers11.keep Kc13 nin0
  have f17_F_bo_starts := Fstarts11.keep Kc13 nin0
  have f18_F_bo_count := Fcount11.keep Kc13 nin0
  have f19_F_bo_listed := Flisted11.keep Kc13 nin0
  have f20_V_sb := Vx11.keep Kc13 nin0
  have zz13 : n0 ≤ T13.heap.size := Nat.le_trans zz11 Kc13.1
  obtain ⟨cq21, kq21, q21a, q21b, q21c⟩ := isOf hZ rfl Eo13
  obtain ⟨_, _, ⟨T21, L21, k21, n21⟩, -, X21, ⟨Lc21, hQ21, l21, y21, z21⟩, st21⟩ := X13.virtualBack hx (y := (⟨"org/keyward/securitymodel/NumberLists", "size", "(I)I"⟩ : MethodName)) (z := (⟨"org/keyward/securitymodel/NumberLists", "size", "(I)I"⟩ : MethodName)) hown (mvT hZ (hw _ (List.mem_of_getElem? (i := 56) rfl))) (mvT hZ (hw _ (List.mem_of_getElem? (i := 57) rfl))) (notFace_of_selects (args := #[]) (mvT hZ (hw _ (List.mem_of_getElem? (i := 59) rfl)))) (mvT hZ (hw _ (List.mem_of_getElem? (i := 59) rfl))) (mvT hZ (hw _ (List.mem_of_getElem? (i := 58) rfl))) (by decide) (backOf (W := 0) (rm9 l Z a0 hw [] o13 (0 : Int32) sb ks _ (((0 : Int32) + (1 : Int32)) + (1 : Int32)) (0 : Int32) T13.heap n0 zz13 So13 f20_V_sb (by decide) (by decide) rfl rfl) hZ (hw _ (List.mem_of_getElem? (i := 60) rfl)) (hw _ (List.mem_of_getElem? (i := 35) rfl)) (by decide) (by decide)) q21a q21c (g := (mkF m 137 #[.val (.int p1), .val (.int p2), .val (.int p3), .val (.int p4), .val (.int (1 : Int32)), .val (.int (1 : Int32)), .val (.int (1 : Int32)), .val (.ref bo), .val (.ref o13), .val (.int ((1 : Int32) + (1 : Int32))), .val (.int (1 : Int32)), .unset] [(.int (0 : Int32)), (.ref o13)])) rfl (by rw [hml]; rfl) (Steps.refl _) (argsL := [(.int (0 : Int32))]) (rest := []) (lenOf pd__I_I rfl) rfl (by show 2 * 0 + _ ≤ _; exact Nat.le_of_eq rfl) (hb hby at_137) (fun _ _ => ⟨rfl, rfl, (Nat.le_of_ble_eq_true rfl), (Nat.le_of_ble_eq_true rfl)⟩)
  dsimp only [Pt.U, Pt.locs, Pt.cells, Pt.slots] at X21 l21 y21 z21 st21 hQ21
  subst l21 y21 z21
  obtain ⟨rfl, N21q, e21⟩ := hQ21
  have N21 := Fr.app N13 N21q
  obtain ⟨cq22, kq22, q22a, q22b, q22c⟩ := isOf hZ e21 Eo13
  obtain ⟨_, _, ⟨T22, L22, k22, n22⟩, -, X22, ⟨Lc22, hQ22, l22, y22, z22⟩, st22⟩ := X21.virtualBack hx (y := (⟨"org/keyward/securitymodel/NumberLists", "size", "(I)I"⟩ : MethodName)) (z := (⟨"org/keyward/securitymodel/NumberLists", "size", "(I)I"⟩ : MethodName)) hown (mvT hZ (hw _ (List.mem_of_getElem? (i := 56) rfl))) (mvT hZ (hw _ (List.mem_of_getElem? (i := 57) rfl))) (notFace_of_selects (args := #[]) (mvT hZ (hw _ (List.mem_of_getElem? (i := 59) rfl)))) (mvT hZ (hw _ (List.mem_of_getElem? (i := 59) rfl))) (mvT hZ (hw _ (List.mem_of_getElem? (i := 58) rfl))) (by decide) (backOf (W := 0) (rm9 l Z a0 hw [] o13 (1 : Int32) sb ks _ ((((0 : Int32) + (1 : Int32)) + (1 : Int32)) + (1 : Int32)) (((0 : Int32) + (1 : Int32)) + (1 : Int32)) T13.heap n0 zz13 So13 f20_V_sb (by decide) (by decide) rfl rfl) hZ (hw _ (List.mem_of_getElem? (i := 60) rfl)) (hw _ (List.mem_of_getElem? (i := 35) rfl)) (by decide) (by decide)) q22a q22c (g := (mkF m 150 #[.val (.int p1), .val (.int p2), .val (.int p3), .val (.int p4), .val (.int (1 : Int32)), .val (.int (1 : Int32)), .val (.int (1 : Int32)), .val (.ref bo), .val (.ref o13), .val (.int ((1 : Int32) + (1 : Int32))), .val (.int (1 : Int32)), .unset] [(.int (1 : Int32)), (.ref o13)])) rfl (by rw [hml]; rfl) (Steps.refl _) (argsL := [(.int (1 : Int32))]) (rest := []) (lenOf pd__I_I rfl) rfl (by show 2 * 0 + _ ≤ _; exact Nat.le_of_eq rfl) (hb hby at_150) (fun _ _ => ⟨rfl, e21, (Nat.le_of_ble_eq_true rfl), (Nat.le_of_ble_eq_true rfl)⟩)
  dsimp only [Pt.U, Pt.locs, Pt.cells, Pt.slots] at X22 l22 y22 z22 st22 hQ22
  subst l22 y22 z22
  obtain ⟨rfl, N22q, e22⟩ := hQ22
  have N22 := Fr.app N21 N22q
  obtain ⟨cq23, kq23, q23a, q23b, q23c⟩ := isOf hZ e22 Eo13
  obtain ⟨_, _, ⟨T23, L23, k23, n23⟩, -, X23, ⟨Lc23, hQ23, l23, y23, z23⟩, st23⟩ := X22.virtualBack hx (y := (⟨"org/keyward/securitymodel/NumberLists", "get", "(II)I"⟩ : MethodName)) (z := (⟨"org/keyward/securitymodel/NumberLists", "get", "(II)I"⟩ : MethodName)) hown (mvT hZ (hw _ (List.mem_of_getElem? (i := 61) rfl))) (mvT hZ (hw _ (List.mem_of_getElem? (i := 62) rfl))) (notFace_of_selects (args := #[]) (mvT hZ (hw _ (List.mem_of_getElem? (i := 64) rfl)))) (mvT hZ (hw _ (List.mem_of_getElem? (i := 64) rfl))) (mvT hZ (hw _ (List.mem_of_getElem? (i := 63) rfl))) (by decide) (backOf (W := 0) (rm10 l Z a0 hw [] o13 (0 : Int32) (0 : Int32) sb mb13 ks _ _ _ ((((0 : Int32) + (1 : Int32)) + (1 : Int32)) + (1 : Int32)) (0 : Int32) p1 T13.heap n0 zz13 So13 No13 f20_V_sb Vm13 (by decide) rfl (by decide) rfl) hZ (hw _ (List.mem_of_getElem? (i := 65) rfl)) (hw _ (List.mem_of_getElem? (i := 35) rfl)) (by decide) (by decide)) q23a q23c (g := (mkF m 182 #[.val (.int p1), .val (.int p2), .val (.int p3), .val (.int p4), .val (.int (1 : Int32)), .val (.int (1 : Int32)), .val (.int (1 : Int32)), .val (.ref bo), .val (.ref o13), .val (.int ((1 : Int32) + (1 : Int32))), .val (.int (1 : Int32)), .val (.int p1)] [(.int (0 : Int32)), (.int (0 : Int32)), (.ref o13)])) rfl (by rw [hml]; rfl) (Steps.refl _) (argsL := [(.int (0 : Int32)), (.int (0 : Int32))]) (rest := []) (lenOf pd__II_I rfl) rfl (by show 2 * 0 + _ ≤ _; exact Nat.le_of_eq rfl) (hb hby at_182) (fun _ _ => ⟨rfl, e22, (Nat.le_of_ble_eq_true rfl), (Nat.le_of_ble_eq_true rfl)⟩)
  dsimp only [Pt.U, Pt.locs, Pt.cells, Pt.slots] at X23 l23 y23 z23 st23 hQ23
  subst l23 y23 z23
  obtain ⟨rfl, N23q, e23⟩ := hQ23
  have N23 := Fr.app N22 N23q
  obtain ⟨cq24, kq24, q24a, q24b, q24c⟩ := isOf hZ e23 Eo13
  obtain ⟨_, _, ⟨T24, L24, k24, n24⟩, -, X24, ⟨Lc24, hQ24, l24, y24, z24⟩, st24⟩ := X23.virtualBack hx (y := (⟨"org/keyward/securitymodel/NumberLists", "get", "(II)I"⟩ : MethodName)) (z := (⟨"org/keyward/securitymodel/NumberLists", "get", "(II)I"⟩ : MethodName)) hown (mvT hZ (hw _ (List.mem_of_getElem? (i := 61) rfl))) (mvT hZ (hw _ (List.mem_of_getElem? (i := 62) rfl))) (notFace_of_selects (args := #[]) (mvT hZ (hw _ (List.mem_of_getElem? (i := 64) rfl)))) (mvT hZ (hw _ (List.mem_of_getElem? (i := 64) rfl))) (mvT hZ (hw _ (List.mem_of_getElem? (i := 63) rfl))) (by decide) (backOf (W := 0) (rm10 l Z a0 hw [] o13 (0 : Int32) (1 : Int32) sb mb13 ks _ _ _ ((((0 : Int32) + (1 : Int32)) + (1 : Int32)) + (1 : Int32)) (0 : Int32) p2 T13.heap n0 zz13 So13 No13 f20_V_sb Vm13 (by decide) rfl (by decide) rfl) hZ (hw _ (List.mem_of_getElem? (i := 65) rfl)) (hw _ (List.mem_of_getElem? (i := 35) rfl)) (by decide) (by decide)) q24a q24c (g := (mkF m 202 #[.val (.int p1), .val (.int p2), .val (.int p3), .val (.int p4), .val (.int (1 : Int32)), .val (.int (1 : Int32)), .val (.int (1 : Int32)), .val (.ref bo), .val (.ref o13), .val (.int ((1 : Int32) + (1 : Int32))), .val (.int (1 : Int32)), .val (.int p1)] [(.int (1 : Int32)), (.int (0 : Int32)), (.ref o13)])) rfl (by rw [hml]; rfl) (Steps.refl _) (argsL := [(.int (0 : Int32)), (.int (1 : Int32))]) (rest := []) (lenOf pd__II_I rfl) rfl (by show 2 * 0 + _ ≤ _; exact Nat.le_of_eq rfl) (hb hby at_202) (fun _ _ => ⟨rfl, e23, (Nat.le_of_ble_eq_true rfl), (Nat.le_of_ble_eq_true rfl)⟩)
  dsimp only [Pt.U, Pt.locs, Pt.cells, Pt.slots] at X24 l24 y24 z24 st24 hQ24
  subst l24 y24 z24
  obtain ⟨rfl, N24q, e24⟩ := hQ24
  have N24 := Fr.app N23 N24q
  obtain ⟨cq25, kq25, q25a, q25b, q25c⟩ := isOf hZ e24 Eo13
  obtain ⟨_, _, ⟨T25, L25, k25, n25⟩, -, X25, ⟨Lc25, hQ25, l25, y25, z25⟩, st25⟩ := X24.virtualBack hx (y := (⟨"org/keyward/securitymodel/NumberLists", "get", "(II)I"⟩ : MethodName)) (z := (⟨"org/keyward/securitymodel/NumberLists", "get", "(II)I"⟩ : MethodName)) hown (mvT hZ (hw _ (List.mem_of_getElem? (i := 61) rfl))) (mvT hZ (hw _ (List.mem_of_getElem? (i := 62) rfl))) (notFace_of_selects (args := #[]) (mvT hZ (hw _ (List.mem_of_getElem? (i := 64) rfl)))) (mvT hZ (hw _ (List.mem_of_getElem? (i := 64) rfl))) (mvT hZ (hw _ (List.mem_of_getElem? (i := 63) rfl))) (by decide) (backOf (W := 0) (rm10 l Z a0 hw [] o13 (1 : Int32) (0 : Int32) sb mb13 ks _ _ _ ((((0 : Int32) + (1 : Int32)) + (1 : Int32)) + (1 : Int32)) (((0 : Int32) + (1 : Int32)) + (1 : Int32)) p3 T13.heap n0 zz13 So13 No13 f20_V_sb Vm13 (by decide) rfl (by decide) rfl) hZ (hw _ (List.mem_of_getElem? (i := 65) rfl)) (hw _ (List.mem_of_getElem? (i := 35) rfl)) (by decide) (by decide)) q25a q25c (g := (mkF m 221 #[.val (.int p1), .val (.int p2), .val (.int p3), .val (.int p4), .val (.int (1 : Int32)), .val (.int (1 : Int32)), .val (.int (1 : Int32)), .val (.ref bo), .val (.ref o13), .val (.int ((1 : Int32) + (1 : Int32))), .val (.int (1 : Int32)), .val (.int p1)] [(.int (0 : Int32)), (.int (1 : Int32)), (.ref o13)])) rfl (by rw [hml]; rfl) (Steps.refl _) (argsL := [(.int (1 : Int32)), (.int (0 : Int32))]) (rest := []) (lenOf pd__II_I rfl) rfl (by show 2 * 0 + _ ≤ _; exact Nat.le_of_eq rfl) (hb hby at_221) (fun _ _ => ⟨rfl, e24, (Nat.le_of_ble_eq_true rfl), (Nat.le_of_ble_eq_true rfl)⟩)
  dsimp only [Pt.U, Pt.locs, Pt.cells, Pt.slots] at X25 l25 y25 z25 st25 hQ25
  subst l25 y25 z25
  obtain ⟨rfl, N25q, e25⟩ := hQ25
  have N25 := Fr.app N24 N25q
  obtain ⟨fs, hr, hrun, hended, hW, hsame⟩ := X25.leave (v := some (.int (1 : Int32))) (fun h => by rw [Bd.returns] at h; cases h)
  refine ⟨_, _, pre0 _ ?_, hrun, hended, _, _, rfl, ?_, ⟨_, rfl⟩, hW, hsame.mono (by decide) (by decide)⟩
  · show Steps p.tables e below (s₁.setTop (mkF m 0 #[.val (.int p1), .val (.int p2), .val (.int p3), .val (.int p4), .unset, .unset, .unset, .unset, .unset, .unset, .unset, .unset] [])) _
    refine XS.iloadN X0.here hx rfl (hb hby at_0) rfl ?_
    show Steps p.tables e below (s₁.setTop (mkF m 1 #[.val (.int p1), .val (.int p2), .val (.int p3), .val (.int p4), .unset, .unset, .unset, .unset, .unset, .unset, .unset, .unset] [(.int p4)])) _
    refine XS.iconst X0.here hx rfl (hb hby at_1) ?_
    show Steps p.tables e below (s₁.setTop (mkF m 2 #[.val (.int p1), .val (.int p2), .val (.int p3), .val (.int p4), .unset, .unset, .unset, .unset, .unset, .unset, .unset, .unset] [(.int (1 : Int32)), (.int p4)])) _
    refine XS.iand X0.here hx rfl (hb hby at_2) rfl ?_
    show Steps p.tables e below (s₁.setTop (mkF m 3 #[.val (.int p1), .val (.int p2), .val (.int p3), .val (.int p4), .unset, .unset, .unset, .unset, .unset, .unset, .unset, .unset] [(.int (p4 &&& (1 : Int32)))])) _
    refine XS.ifNo X0.here hx rfl (hb hby at_3) rfl ((if0 _ _).trans (feq hc3).1) ?_
    show Steps p.tables e below (s₁.setTop (mkF m 6 #[.val (.int p1), .val (.int p2), .val (.int p3), .val (.int p4), .unset, .unset, .unset, .unset, .unset, .unset, .unset, .unset] [])) _
    refine XS.iconst X0.here hx rfl (hb hby at_6) ?_
    show Steps p.tables e below (s₁.setTop (mkF m 7 #[.val (.int p1), .val (.int p2), .val (.int p3), .val (.int p4), .unset, .unset, .unset, .unset, .unset, .unset, .unset, .unset] [(.int (1 : Int32))])) _
    refine XS.goto X0.here hx rfl (pc0 := 7) (pc' := 11) rfl (hb hby at_7) (by decide) (by decide) ?_
    show Steps p.tables e below (s₁.setTop (mkF m 11 #[.val (.int p1), .val (.int p2), .val (.int p3), .val (.int p4), .unset, .unset, .unset, .unset, .unset, .unset, .unset, .unset] [(.int (1 : Int32))])) _
    refine XS.istore X0.here hx rfl (hb hby at_11) rfl (l' := #[.val (.int p1), .val (.int p2), .val (.int p3), .val (.int p4), .val (.int (1 : Int32)), .unset, .unset, .unset, .unset, .unset, .unset, .unset]) rfl ?_
    show Steps p.tables e below (s₁.setTop (mkF m 13 #[.val (.int p1), .val (.int p2), .val (.int p3), .val (.int p4), .val (.int (1 : Int32)), .unset, .unset, .unset, .unset, .unset, .unset, .unset] [])) _
    refine XS.iloadN X0.here hx rfl (hb hby at_13) rfl ?_
    show Steps p.tables e below (s₁.setTop (mkF m 14 #[.val (.int p1), .val (.int p2), .val (.int p3), .val (.int p4), .val (.int (1 : Int32)), .unset, .unset, .unset, .unset, .unset, .unset, .unset] [(.int p4)])) _
    refine XS.iconst X0.here hx rfl (hb hby at_14) ?_
    show Steps p.tables e below (s₁.setTop (mkF m 15 #[.val (.int p1), .val (.int p2), .val (.int p3), .val (.int p4), .val (.int (1 : Int32)), .unset, .unset, .unset, .unset, .unset, .unset, .unset] [(.int (2 : Int32)), (.int p4)])) _
    refine XS.iand X0.here hx rfl (hb hby at_15) rfl ?_
    show Steps p.tables e below (s₁.setTop (mkF m 16 #[.val (.int p1), .val (.int p2), .val (.int p3), .val (.int p4), .val (.int (1 : Int32)), .unset, .unset, .unset, .unset, .unset, .unset, .unset] [(.int (p4 &&& (2 : Int32)))])) _
    refine XS.ifNo X0.here hx rfl (hb hby at_16) rfl ((if0 _ _).trans (feq hc16).1) ?_
    show Steps p.tables e below (s₁.setTop (mkF m 19 #[.val (.int p1), .val (.int p2), .val (.int p3), .val (.int p4), .val (.int (1 : Int32)), .unset, .unset, .unset, .unset, .unset, .unset, .unset] [])) _
    refine XS.iconst X0.here hx rfl (hb hby at_19) ?_
    show Steps p.tables e below (s₁.setTop (mkF m 20 #[.val (.int p1), .val (.int p2), .val (.int p3), .val (.int p4), .val (.int (1 : Int32)), .unset, .unset, .unset, .unset, .unset, .unset, .unset] [(.int (1 : Int32))])) _
    refine XS.goto X0.here hx rfl (pc0 := 20) (pc' := 24) rfl (hb hby at_20) (by decide) (by decide) ?_
    show Steps p.tables e below (s₁.setTop (mkF m 24 #[.val (.int p1), .val (.int p2), .val (.int p3), .val (.int p4), .val (.int (1 : Int32)), .unset, .unset, .unset, .unset, .unset, .unset, .unset] [(.int (1 : Int32))])) _
    refine XS.istore X0.here hx rfl (hb hby at_24) rfl (l' := #[.val (.int p1), .val (.int p2), .val (.int p3), .val (.int p4), .val (.int (1 : Int32)), .val (.int (1 : Int32)), .unset, .unset, .unset, .unset, .unset, .unset]) rfl ?_
    show Steps p.tables e below (s₁.setTop (mkF m 26 #[.val (.int p1), .val (.int p2), .val (.int p3), .val (.int p4), .val (.int (1 : Int32)), .val (.int (1 : Int32)), .unset, .unset, .unset, .unset, .unset, .unset] [])) _
    refine XS.iloadN X0.here hx rfl (hb hby at_26) rfl ?_
    show Steps p.tables e below (s₁.setTop (mkF m 27 #[.val (.int p1), .val (.int p2), .val (.int p3), .val (.int p4), .val (.int (1 : Int32)), .val (.int (1 : Int32)), .unset, .unset, .unset, .unset, .unset, .unset] [(.int p4)])) _
    refine XS.iconst X0.here hx rfl (hb hby at_27) ?_
    show Steps p.tables e below (s₁.setTop (mkF m 28 #[.val (.int p1), .val (.int p2), .val (.int p3), .val (.int p4), .val (.int (1 : Int32)), .val (.int (1 : Int32)), .unset, .unset, .unset, .unset, .unset, .unset] [(.int (4 : Int32)), (.int p4)])) _
    refine XS.iand X0.here hx rfl (hb hby at_28) rfl ?_
    show Steps p.tables e below (s₁.setTop (mkF m 29 #[.val (.int p1), .val (.int p2), .val (.int p3), .val (.int p4), .val (.int (1 : Int32)), .val (.int (1 : Int32)), .unset, .unset, .unset, .unset, .unset, .unset] [(.int (p4 &&& (4 : Int32)))])) _
    refine XS.ifNo X0.here hx rfl (hb hby at_29) rfl ((if0 _ _).trans (feq hc29).1) ?_
    show Steps p.tables e below (s₁.setTop (mkF m 32 #[.val (.int p1), .val (.int p2), .val (.int p3), .val (.int p4), .val (.int (1 : Int32)), .val (.int (1 : Int32)), .unset, .unset, .unset, .unset, .unset, .unset] [])) _
    refine XS.iconst X0.here hx rfl (hb hby at_32) ?_
    show Steps p.tables e below (s₁.setTop (mkF m 33 #[.val (.int p1), .val (.int p2), .val (.int p3), .val (.int p4), .val (.int (1 : Int32)), .val (.int (1 : Int32)), .unset, .unset, .unset, .unset, .unset, .unset] [(.int (1 : Int32))])) _
    refine XS.goto X0.here hx rfl (pc0 := 33) (pc' := 37) rfl (hb hby at_33) (by decide) (by decide) ?_
    show Steps p.tables e below (s₁.setTop (mkF m 37 #[.val (.int p1), .val (.int p2), .val (.int p3), .val (.int p4), .val (.int (1 : Int32)), .val (.int (1 : Int32)), .unset, .unset, .unset, .unset, .unset, .unset] [(.int (1 : Int32))])) _
    refine XS.istore X0.here hx rfl (hb hby at_37) rfl (l' := #[.val (.int p1), .val (.int p2), .val (.int p3), .val (.int p4), .val (.int (1 : Int32)), .val (.int (1 : Int32)), .val (.int (1 : Int32)), .unset, .unset, .unset, .unset, .unset]) rfl ?_
    show Steps p.tables e below (s₁.setTop (mkF m 39 #[.val (.int p1), .val (.int p2), .val (.int p3), .val (.int p4), .val (.int (1 : Int32)), .val (.int (1 : Int32)), .val (.int (1 : Int32)), .unset, .unset, .unset, .unset, .unset] [])) _
    refine st1 _ ?_
    show Steps p.tables e below (T1.setTop (mkF m 42 #[.val (.int p1), .val (.int p2), .val (.int p3), .val (.int p4), .val (.int (1 : Int32)), .val (.int (1 : Int32)), .val (.int (1 : Int32)), .unset, .unset, .unset, .unset, .unset] [(.ref bo)])) _
    refine XS.dup X1.here hx rfl (hb hby at_42) rfl rfl ?_
    show Steps p.tables e below (T1.setTop (mkF m 43 #[.val (.int p1), .val (.int p2), .val (.int p3), .val (.int p4), .val (.int (1 : Int32)), .val (.int (1 : Int32)), .val (.int (1 : Int32)), .unset, .unset, .unset, .unset, .unset] [(.ref bo), (.ref bo)])) _
    refine XS.iconst X1.here hx rfl (hb hby at_43) ?_
    show Steps p.tables e below (T1.setTop (mkF m 44 #[.val (.int p1), .val (.int p2), .val (.int p3), .val (.int p4), .val (.int (1 : Int32)), .val (.int (1 : Int32)), .val (.int (1 : Int32)), .unset, .unset, .unset, .unset, .unset] [(.int (2 : Int32)), (.ref bo), (.ref bo)])) _
    refine st2.trans ?_
    show Steps p.tables e below (T2.setTop (mkF m 47 #[.val (.int p1), .val (.int p2), .val (.int p3), .val (.int p4), .val (.int (1 : Int32)), .val (.int (1 : Int32)), .val (.int (1 : Int32)), .unset, .unset, .unset, .unset, .unset] [(.ref bo)])) _
    refine XS.astore X2.here hx rfl (hb hby at_47) rfl rfl (l' := #[.val (.int p1), .val (.int p2), .val (.int p3), .val (.int p4), .val (.int (1 : Int32)), .val (.int (1 : Int32)), .val (.int (1 : Int32)), .val (.ref bo), .unset, .unset, .unset, .unset]) rfl ?_
    show Steps p.tables e below (T2.setTop (mkF m 49 #[.val (.int p1), .val (.int p2), .val (.int p3), .val (.int p4), .val (.int (1 : Int32)), .val (.int (1 : Int32)), .val (.int (1 : Int32)), .val (.ref bo), .unset, .unset, .unset, .unset] [])) _
    refine XS.iload X2.here hx rfl (hb hby at_49) rfl ?_
    show Steps p.tables e below (T2.setTop (mkF m 51 #[.val (.int p1), .val (.int p2), .val (.int p3), .val (.int p4), .val (.int (1 : Int32)), .val (.int (1 : Int32)), .val (.int (1 : Int32)), .val (.ref bo), .unset, .unset, .unset, .unset] [(.int (1 : Int32))])) _
    refine XS.ifNo X2.here hx rfl (hb hby at_51) rfl ((if0 _ _).trans (feq (by decide : ¬ ((1 : Int32) = (0 : Int32)))).1) ?_
    show Steps p.tables e below (T2.setTop (mkF m 54 #[.val (.int p1), .val (.int p2), .val (.int p3), .val (.int p4), .val (.int (1 : Int32)), .val (.int (1 : Int32)), .val (.int (1 : Int32)), .val (.ref bo), .unset, .unset, .unset, .unset] [])) _
    refine XS.aload X2.here hx rfl (hb hby at_54) rfl rfl ?_
    show Steps p.tables e below (T2.setTop (mkF m 56 #[.val (.int p1), .val (.int p2), .val (.int p3), .val (.int p4), .val (.int (1 : Int32)), .val (.int (1 : Int32)), .val (.int (1 : Int32)), .val (.ref bo), .unset, .unset, .unset, .unset] [(.ref bo)])) _
    refine XS.iloadN X2.here hx rfl (hb hby at_56) rfl ?_
    show Steps p.tables e below (T2.setTop (mkF m 57 #[.val (.int p1), .val (.int p2), .val (.int p3), .val (.int p4), .val (.int (1 : Int32)), .val (.int (1 : Int32)), .val (.int (1 : Int32)), .val (.ref bo), .unset, .unset, .unset, .unset] [(.int p1), (.ref bo)])) _
    refine st3.trans ?_
    show Steps p.tables e below (T3.setTop (mkF m 60 #[.val (.int p1), .val (.int p2), .val (.int p3), .val (.int p4), .val (.int (1 : Int32)), .val (.int (1 : Int32)), .val (.int (1 : Int32)), .val (.ref bo), .unset, .unset, .unset, .unset] [])) _
    refine XS.iload X3.here hx rfl (hb hby at_60) rfl ?_
    show Steps p.tables e below (T3.setTop (mkF m 62 #[.val (.int p1), .val (.int p2), .val (.int p3), .val (.int p4), .val (.int (1 : Int32)), .val (.int (1 : Int32)), .val (.int (1 : Int32)), .val (.ref bo), .unset, .unset, .unset, .unset] [(.int (1 : Int32))])) _
    refine XS.ifNo X3.here hx rfl (hb hby at_62) rfl ((if0 _ _).trans (feq (by decide : ¬ ((1 : Int32) = (0 : Int32)))).1) ?_
    show Steps p.tables e below (T3.setTop (mkF m 65 #[.val (.int p1), .val (.int p2), .val (.int p3), .val (.int p4), .val (.int (1 : Int32)), .val (.int (1 : Int32)), .val (.int (1 : Int32)), .val (.ref bo), .unset, .unset, .unset, .unset] [])) _
    refine XS.aload X3.here hx rfl (hb hby at_65) rfl rfl ?_
    show Steps p.tables e below (T3.setTop (mkF m 67 #[.val (.int p1), .val (.int p2), .val (.int p3), .val (.int p4), .val (.int (1 : Int32)), .val (.int (1 : Int32)), .val (.int (1 : Int32)), .val (.ref bo), .unset, .unset, .unset, .unset] [(.ref bo)])) _
    refine XS.iloadN X3.here hx rfl (hb hby at_67) rfl ?_
    show Steps p.tables e below (T3.setTop (mkF m 68 #[.val (.int p1), .val (.int p2), .val (.int p3), .val (.int p4), .val (.int (1 : Int32)), .val (.int (1 : Int32)), .val (.int (1 : Int32)), .val (.ref bo), .unset, .unset, .unset, .unset] [(.int p2), (.ref bo)])) _
    refine st5.trans ?_
    show Steps p.tables e below (T5.setTop (mkF m 71 #[.val (.int p1), .val (.int p2), .val (.int p3), .val (.int p4), .val (.int (1 : Int32)), .val (.int (1 : Int32)), .val (.int (1 : Int32)), .val (.ref bo), .unset, .unset, .unset, .unset] [])) _
    refine XS.aload X5.here hx rfl (hb hby at_71) rfl rfl ?_
    show Steps p.tables e below (T5.setTop (mkF m 73 #[.val (.int p1), .val (.int p2), .val (.int p3), .val (.int p4), .val (.int (1 : Int32)), .val (.int (1 : Int32)), .val (.int (1 : Int32)), .val (.ref bo), .unset, .unset, .unset, .unset] [(.ref bo)])) _
    refine st7.trans ?_
    show Steps p.tables e below (T7.setTop (mkF m 76 #[.val (.int p1), .val (.int p2), .val (.int p3), .val (.int p4), .val (.int (1 : Int32)), .val (.int (1 : Int32)), .val (.int (1 : Int32)), .val (.ref bo), .unset, .unset, .unset, .unset] [])) _
    refine XS.iload X7.here hx rfl (hb hby at_76) rfl ?_
    show Steps p.tables e below (T7.setTop (mkF m 78 #[.val (.int p1), .val (.int p2), .val (.int p3), .val (.int p4), .val (.int (1 : Int32)), .val (.int (1 : Int32)), .val (.int (1 : Int32)), .val (.ref bo), .unset, .unset, .unset, .unset] [(.int (1 : Int32))])) _
    refine XS.ifNo X7.here hx rfl (hb hby at_78) rfl ((if0 _ _).trans (feq (by decide : ¬ ((1 : Int32) = (0 : Int32)))).1) ?_
    show Steps p.tables e below (T7.setTop (mkF m 81 #[.val (.int p1), .val (.int p2), .val (.int p3), .val (.int p4), .val (.int (1 : Int32)), .val (.int (1 : Int32)), .val (.int (1 : Int32)), .val (.ref bo), .unset, .unset, .unset, .unset] [])) _
    refine XS.aload X7.here hx rfl (hb hby at_81) rfl rfl ?_
    show Steps p.tables e below (T7.setTop (mkF m 83 #[.val (.int p1), .val (.int p2), .val (.int p3), .val (.int p4), .val (.int (1 : Int32)), .val (.int (1 : Int32)), .val (.int (1 : Int32)), .val (.ref bo), .unset, .unset, .unset, .unset] [(.ref bo)])) _
    refine XS.iloadN X7.here hx rfl (hb hby at_83) rfl ?_
    show Steps p.tables e below (T7.setTop (mkF m 84 #[.val (.int p1), .val (.int p2), .val (.int p3), .val (.int p4), .val (.int (1 : Int32)), .val (.int (1 : Int32)), .val (.int (1 : Int32)), .val (.ref bo), .unset, .unset, .unset, .unset] [(.int p3), (.ref bo)])) _
    refine st9.trans ?_
    show Steps p.tables e below (T9.setTop (mkF m 87 #[.val (.int p1), .val (.int p2), .val (.int p3), .val (.int p4), .val (.int (1 : Int32)), .val (.int (1 : Int32)), .val (.int (1 : Int32)), .val (.ref bo), .unset, .unset, .unset, .unset] [])) _
    refine XS.aload X9.here hx rfl (hb hby at_87) rfl rfl ?_
    show Steps p.tables e below (T9.setTop (mkF m 89 #[.val (.int p1), .val (.int p2), .val (.int p3), .val (.int p4), .val (.int (1 : Int32)), .val (.int (1 : Int32)), .val (.int (1 : Int32)), .val (.ref bo), .unset, .unset, .unset, .unset] [(.ref bo)])) _
    refine st11.trans ?_
    show Steps p.tables e below (T11.setTop (mkF m 92 #[.val (.int p1), .val (.int p2), .val (.int p3), .val (.int p4), .val (.int (1 : Int32)), .val (.int (1 : Int32)), .val (.int (1 : Int32)), .val (.ref bo), .unset, .unset, .unset, .unset] [])) _
    refine XS.aload X11.here hx rfl (hb hby at_92) rfl rfl ?_
    show Steps p.tables e below (T11.setTop (mkF m 94 #[.val (.int p1), .val (.int p2), .val (.int p3), .val (.int p4), .val (.int (1 : Int32)), .val (.int (1 : Int32)), .val (.int (1 : Int32)), .val (.ref bo), .unset, .unset, .unset, .unset] [(.ref bo)])) _
    refine st13.trans ?_
    show Steps p.tables e below (T13.setTop (mkF m 97 #[.val (.int p1), .val (.int p2), .val (.int p3), .val (.int p4), .val (.int (1 : Int32)), .val (.int (1 : Int32)), .val (.int (1 : Int32)), .val (.ref bo), .unset, .unset, .unset, .unset] [(.ref o13)])) _
    refine XS.astore X13.here hx rfl (hb hby at_97) rfl rfl (l' := #[.val (.int p1), .val (.int p2), .val (.int p3), .val (.int p4), .val (.int (1 : Int32)), .val (.int (1 : Int32)), .val (.int (1 : Int32)), .val (.ref bo), .val (.ref o13), .unset, .unset, .unset]) rfl ?_
    show Steps p.tables e below (T13.setTop (mkF m 99 #[.val (.int p1), .val (.int p2), .val (.int p3), .val (.int p4), .val (.int (1 : Int32)), .val (.int (1 : Int32)), .val (.int (1 : Int32)), .val (.ref bo), .val (.ref o13), .unset, .unset, .unset] [])) _
    refine XS.iload X13.here hx rfl (hb hby at_99) rfl ?_
    show Steps p.tables e below (T13.setTop (mkF m 101 #[.val (.int p1), .val (.int p2), .val (.int p3), .val (.int p4), .val (.int (1 : Int32)), .val (.int (1 : Int32)), .val (.int (1 : Int32)), .val (.ref bo), .val (.ref o13), .unset, .unset, .unset] [(.int (1 : Int32))])) _
    refine XS.ifNo X13.here hx rfl (hb hby at_101) rfl ((if0 _ _).trans (feq (by decide : ¬ ((1 : Int32) = (0 : Int32)))).1) ?_
    show Steps p.tables e below (T13.setTop (mkF m 104 #[.val (.int p1), .val (.int p2), .val (.int p3), .val (.int p4), .val (.int (1 : Int32)), .val (.int (1 : Int32)), .val (.int (1 : Int32)), .val (.ref bo), .val (.ref o13), .unset, .unset, .unset] [])) _
    refine XS.iconst X13.here hx rfl (hb hby at_104) ?_
    show Steps p.tables e below (T13.setTop (mkF m 105 #[.val (.int p1), .val (.int p2), .val (.int p3), .val (.int p4), .val (.int (1 : Int32)), .val (.int (1 : Int32)), .val (.int (1 : Int32)), .val (.ref bo), .val (.ref o13), .unset, .unset, .unset] [(.int (1 : Int32))])) _
    refine XS.goto X13.here hx rfl (pc0 := 105) (pc' := 109) rfl (hb hby at_105) (by decide) (by decide) ?_
    show Steps p.tables e below (T13.setTop (mkF m 109 #[.val (.int p1), .val (.int p2), .val (.int p3), .val (.int p4), .val (.int (1 : Int32)), .val (.int (1 : Int32)), .val (.int (1 : Int32)), .val (.ref bo), .val (.ref o13), .unset, .unset, .unset] [(.int (1 : Int32))])) _
    refine XS.iload X13.here hx rfl (hb hby at_109) rfl ?_
    show Steps p.tables e below (T13.setTop (mkF m 111 #[.val (.int p1), .val (.int p2), .val (.int p3), .val (.int p4), .val (.int (1 : Int32)), .val (.int (1 : Int32)), .val (.int (1 : Int32)), .val (.ref bo), .val (.ref o13), .unset, .unset, .unset] [(.int (1 : Int32)), (.int (1 : Int32))])) _
    refine XS.ifNo X13.here hx rfl (hb hby at_111) rfl ((if0 _ _).trans (feq (by decide : ¬ ((1 : Int32) = (0 : Int32)))).1) ?_
    show Steps p.tables e below (T13.setTop (mkF m 114 #[.val (.int p1), .val (.int p2), .val (.int p3), .val (.int p4), .val (.int (1 : Int32)), .val (.int (1 : Int32)), .val (.int (1 : Int32)), .val (.ref bo), .val (.ref o13), .unset, .unset, .unset] [(.int (1 : Int32))])) _
    refine XS.iconst X13.here hx rfl (hb hby at_114) ?_
    show Steps p.tables e below (T13.setTop (mkF m 115 #[.val (.int p1), .val (.int p2), .val (.int p3), .val (.int p4), .val (.int (1 : Int32)), .val (.int (1 : Int32)), .val (.int (1 : Int32)), .val (.ref bo), .val (.ref o13), .unset, .unset, .unset] [(.int (1 : Int32)), (.int (1 : Int32))])) _
    refine XS.goto X13.here hx rfl (pc0 := 115) (pc' := 119) rfl (hb hby at_115) (by decide) (by decide) ?_
    show Steps p.tables e below (T13.setTop (mkF m 119 #[.val (.int p1), .val (.int p2), .val (.int p3), .val (.int p4), .val (.int (1 : Int32)), .val (.int (1 : Int32)), .val (.int (1 : Int32)), .val (.ref bo), .val (.ref o13), .unset, .unset, .unset] [(.int (1 : Int32)), (.int (1 : Int32))])) _
    refine XS.iadd X13.here hx rfl (hb hby at_119) rfl ?_
    show Steps p.tables e below (T13.setTop (mkF m 120 #[.val (.int p1), .val (.int p2), .val (.int p3), .val (.int p4), .val (.int (1 : Int32)), .val (.int (1 : Int32)), .val (.int (1 : Int32)), .val (.ref bo), .val (.ref o13), .unset, .unset, .unset] [(.int ((1 : Int32) + (1 : Int32)))])) _
    refine XS.istore X13.here hx rfl (hb hby at_120) rfl (l' := #[.val (.int p1), .val (.int p2), .val (.int p3), .val (.int p4), .val (.int (1 : Int32)), .val (.int (1 : Int32)), .val (.int (1 : Int32)), .val (.ref bo), .val (.ref o13), .val (.int ((1 : Int32) + (1 : Int32))), .unset, .unset]) rfl ?_
    show Steps p.tables e below (T13.setTop (mkF m 122 #[.val (.int p1), .val (.int p2), .val (.int p3), .val (.int p4), .val (.int (1 : Int32)), .val (.int (1 : Int32)), .val (.int (1 : Int32)), .val (.ref bo), .val (.ref o13), .val (.int ((1 : Int32) + (1 : Int32))), .unset, .unset] [])) _
    refine XS.iload X13.here hx rfl (hb hby at_122) rfl ?_
    show Steps p.tables e below (T13.setTop (mkF m 124 #[.val (.int p1), .val (.int p2), .val (.int p3), .val (.int p4), .val (.int (1 : Int32)), .val (.int (1 : Int32)), .val (.int (1 : Int32)), .val (.ref bo), .val (.ref o13), .val (.int ((1 : Int32) + (1 : Int32))), .unset, .unset] [(.int (1 : Int32))])) _
    refine XS.ifNo X13.here hx rfl (hb hby at_124) rfl ((if0 _ _).trans (feq (by decide : ¬ ((1 : Int32) = (0 : Int32)))).1) ?_
    show Steps p.tables e below (T13.setTop (mkF m 127 #[.val (.int p1), .val (.int p2), .val (.int p3), .val (.int p4), .val (.int (1 : Int32)), .val (.int (1 : Int32)), .val (.int (1 : Int32)), .val (.ref bo), .val (.ref o13), .val (.int ((1 : Int32) + (1 : Int32))), .unset, .unset] [])) _
    refine XS.iconst X13.here hx rfl (hb hby at_127) ?_
    show Steps p.tables e below (T13.setTop (mkF m 128 #[.val (.int p1), .val (.int p2), .val (.int p3), .val (.int p4), .val (.int (1 : Int32)), .val (.int (1 : Int32)), .val (.int (1 : Int32)), .val (.ref bo), .val (.ref o13), .val (.int ((1 : Int32) + (1 : Int32))), .unset, .unset] [(.int (1 : Int32))])) _
    refine XS.goto X13.here hx rfl (pc0 := 128) (pc' := 132) rfl (hb hby at_128) (by decide) (by decide) ?_
    show Steps p.tables e below (T13.setTop (mkF m 132 #[.val (.int p1), .val (.int p2), .val (.int p3), .val (.int p4), .val (.int (1 : Int32)), .val (.int (1 : Int32)), .val (.int (1 : Int32)), .val (.ref bo), .val (.ref o13), .val (.int ((1 : Int32) + (1 : Int32))), .unset, .unset] [(.int (1 : Int32))])) _
    refine XS.istore X13.here hx rfl (hb hby at_132) rfl (l' := #[.val (.int p1), .val (.int p2), .val (.int p3), .val (.int p4), .val (.int (1 : Int32)), .val (.int (1 : Int32)), .val (.int (1 : Int32)), .val (.ref bo), .val (.ref o13), .val (.int ((1 : Int32) + (1 : Int32))), .val (.int (1 : Int32)), .unset]) rfl ?_
    show Steps p.tables e below (T13.setTop (mkF m 134 #[.val (.int p1), .val (.int p2), .val (.int p3), .val (.int p4), .val (.int (1 : Int32)), .val (.int (1 : Int32)), .val (.int (1 : Int32)), .val (.ref bo), .val (.ref o13), .val (.int ((1 : Int32) + (1 : Int32))), .val (.int (1 : Int32)), .unset] [])) _
    refine XS.aload X13.here hx rfl (hb hby at_134) rfl rfl ?_
    show Steps p.tables e below (T13.setTop (mkF m 136 #[.val (.int p1), .val (.int p2), .val (.int p3), .val (.int p4), .val (.int (1 : Int32)), .val (.int (1 : Int32)), .val (.int (1 : Int32)), .val (.ref bo), .val (.ref o13), .val (.int ((1 : Int32) + (1 : Int32))), .val (.int (1 : Int32)), .unset] [(.ref o13)])) _
    refine XS.iconst X13.here hx rfl (hb hby at_136) ?_
    show Steps p.tables e below (T13.setTop (mkF m 137 #[.val (.int p1), .val (.int p2), .val (.int p3), .val (.int p4), .val (.int (1 : Int32)), .val (.int (1 : Int32)), .val (.int (1 : Int32)), .val (.ref bo), .val (.ref o13), .val (.int ((1 : Int32) + (1 : Int32))), .val (.int (1 : Int32)), .unset] [(.int (0 : Int32)), (.ref o13)])) _
    refine st21.trans ?_
    show Steps p.tables e below (T21.setTop (mkF m 140 #[.val (.int p1), .val (.int p2), .val (.int p3), .val (.int p4), .val (.int (1 : Int32)), .val (.int (1 : Int32)), .val (.int (1 : Int32)), .val (.ref bo), .val (.ref o13), .val (.int ((1 : Int32) + (1 : Int32))), .val (.int (1 : Int32)), .unset] [(.int ((((0 : Int32) + (1 : Int32)) + (1 : Int32)) - (0 : Int32)))])) _
    refine XS.iload X21.here hx rfl (hb hby at_140) rfl ?_
    show Steps p.tables e below (T21.setTop (mkF m 142 #[.val (.int p1), .val (.int p2), .val (.int p3), .val (.int p4), .val (.int (1 : Int32)), .val (.int (1 : Int32)), .val (.int (1 : Int32)), .val (.ref bo), .val (.ref o13), .val (.int ((1 : Int32) + (1 : Int32))), .val (.int (1 : Int32)), .unset] [(.int ((1 : Int32) + (1 : Int32))), (.int ((((0 : Int32) + (1 : Int32)) + (1 : Int32)) - (0 : Int32)))])) _
    refine XS.icmpYes X21.here hx rfl (pc0 := 142) (pc' := 147) rfl (hb hby at_142) rfl (teq (by decide : ((((0 : Int32) + (1 : Int32)) + (1 : Int32)) - (0 : Int32)) = ((1 : Int32) + (1 : Int32)))).1 (by decide) (by decide) ?_
    show Steps p.tables e below (T21.setTop (mkF m 147 #[.val (.int p1), .val (.int p2), .val (.int p3), .val (.int p4), .val (.int (1 : Int32)), .val (.int (1 : Int32)), .val (.int (1 : Int32)), .val (.ref bo), .val (.ref o13), .val (.int ((1 : Int32) + (1 : Int32))), .val (.int (1 : Int32)), .unset] [])) _
    refine XS.aload X21.here hx rfl (hb hby at_147) rfl rfl ?_
    show Steps p.tables e below (T21.setTop (mkF m 149 #[.val (.int p1), .val (.int p2), .val (.int p3), .val (.int p4), .val (.int (1 : Int32)), .val (.int (1 : Int32)), .val (.int (1 : Int32)), .val (.ref bo), .val (.ref o13), .val (.int ((1 : Int32) + (1 : Int32))), .val (.int (1 : Int32)), .unset] [(.ref o13)])) _
    refine XS.iconst X21.here hx rfl (hb hby at_149) ?_
    show Steps p.tables e below (T21.setTop (mkF m 150 #[.val (.int p1), .val (.int p2), .val (.int p3), .val (.int p4), .val (.int (1 : Int32)), .val (.int (1 : Int32)), .val (.int (1 : Int32)), .val (.ref bo), .val (.ref o13), .val (.int ((1 : Int32) + (1 : Int32))), .val (.int (1 : Int32)), .unset] [(.int (1 : Int32)), (.ref o13)])) _
    refine st22.trans ?_
    show Steps p.tables e below (T22.setTop (mkF m 153 #[.val (.int p1), .val (.int p2), .val (.int p3), .val (.int p4), .val (.int (1 : Int32)), .val (.int (1 : Int32)), .val (.int (1 : Int32)), .val (.ref bo), .val (.ref o13), .val (.int ((1 : Int32) + (1 : Int32))), .val (.int (1 : Int32)), .unset] [(.int (((((0 : Int32) + (1 : Int32)) + (1 : Int32)) + (1 : Int32)) - (((0 : Int32) + (1 : Int32)) + (1 : Int32))))])) _
    refine XS.iload X22.here hx rfl (hb hby at_153) rfl ?_
    show Steps p.tables e below (T22.setTop (mkF m 155 #[.val (.int p1), .val (.int p2), .val (.int p3), .val (.int p4), .val (.int (1 : Int32)), .val (.int (1 : Int32)), .val (.int (1 : Int32)), .val (.ref bo), .val (.ref o13), .val (.int ((1 : Int32) + (1 : Int32))), .val (.int (1 : Int32)), .unset] [(.int (1 : Int32)), (.int (((((0 : Int32) + (1 : Int32)) + (1 : Int32)) + (1 : Int32)) - (((0 : Int32) + (1 : Int32)) + (1 : Int32))))])) _
    refine XS.icmpYes X22.here hx rfl (pc0 := 155) (pc' := 160) rfl (hb hby at_155) rfl (teq (by decide : (((((0 : Int32) + (1 : Int32)) + (1 : Int32)) + (1 : Int32)) - (((0 : Int32) + (1 : Int32)) + (1 : Int32))) = (1 : Int32))).1 (by decide) (by decide) ?_
    show Steps p.tables e below (T22.setTop (mkF m 160 #[.val (.int p1), .val (.int p2), .val (.int p3), .val (.int p4), .val (.int (1 : Int32)), .val (.int (1 : Int32)), .val (.int (1 : Int32)), .val (.ref bo), .val (.ref o13), .val (.int ((1 : Int32) + (1 : Int32))), .val (.int (1 : Int32)), .unset] [])) _
    refine XS.iload X22.here hx rfl (hb hby at_160) rfl ?_
    show Steps p.tables e below (T22.setTop (mkF m 162 #[.val (.int p1), .val (.int p2), .val (.int p3), .val (.int p4), .val (.int (1 : Int32)), .val (.int (1 : Int32)), .val (.int (1 : Int32)), .val (.ref bo), .val (.ref o13), .val (.int ((1 : Int32) + (1 : Int32))), .val (.int (1 : Int32)), .unset] [(.int ((1 : Int32) + (1 : Int32)))])) _
    refine XS.iconst X22.here hx rfl (hb hby at_162) ?_
    show Steps p.tables e below (T22.setTop (mkF m 163 #[.val (.int p1), .val (.int p2), .val (.int p3), .val (.int p4), .val (.int (1 : Int32)), .val (.int (1 : Int32)), .val (.int (1 : Int32)), .val (.ref bo), .val (.ref o13), .val (.int ((1 : Int32) + (1 : Int32))), .val (.int (1 : Int32)), .unset] [(.int (1 : Int32)), (.int ((1 : Int32) + (1 : Int32)))])) _
    refine XS.icmpNo X22.here hx rfl (hb hby at_163) rfl (flt (by decide : ¬ (((1 : Int32) + (1 : Int32)) < (1 : Int32)))).1 ?_
    show Steps p.tables e below (T22.setTop (mkF m 166 #[.val (.int p1), .val (.int p2), .val (.int p3), .val (.int p4), .val (.int (1 : Int32)), .val (.int (1 : Int32)), .val (.int (1 : Int32)), .val (.ref bo), .val (.ref o13), .val (.int ((1 : Int32) + (1 : Int32))), .val (.int (1 : Int32)), .unset] [])) _
    refine XS.iload X22.here hx rfl (hb hby at_166) rfl ?_
    show Steps p.tables e below (T22.setTop (mkF m 168 #[.val (.int p1), .val (.int p2), .val (.int p3), .val (.int p4), .val (.int (1 : Int32)), .val (.int (1 : Int32)), .val (.int (1 : Int32)), .val (.ref bo), .val (.ref o13), .val (.int ((1 : Int32) + (1 : Int32))), .val (.int (1 : Int32)), .unset] [(.int (1 : Int32))])) _
    refine XS.ifNo X22.here hx rfl (hb hby at_168) rfl ((if0 _ _).trans (feq (by decide : ¬ ((1 : Int32) = (0 : Int32)))).1) ?_
    show Steps p.tables e below (T22.setTop (mkF m 171 #[.val (.int p1), .val (.int p2), .val (.int p3), .val (.int p4), .val (.int (1 : Int32)), .val (.int (1 : Int32)), .val (.int (1 : Int32)), .val (.ref bo), .val (.ref o13), .val (.int ((1 : Int32) + (1 : Int32))), .val (.int (1 : Int32)), .unset] [])) _
    refine XS.iloadN X22.here hx rfl (hb hby at_171) rfl ?_
    show Steps p.tables e below (T22.setTop (mkF m 172 #[.val (.int p1), .val (.int p2), .val (.int p3), .val (.int p4), .val (.int (1 : Int32)), .val (.int (1 : Int32)), .val (.int (1 : Int32)), .val (.ref bo), .val (.ref o13), .val (.int ((1 : Int32) + (1 : Int32))), .val (.int (1 : Int32)), .unset] [(.int p1)])) _
    refine XS.goto X22.here hx rfl (pc0 := 172) (pc' := 176) rfl (hb hby at_172) (by decide) (by decide) ?_
    show Steps p.tables e below (T22.setTop (mkF m 176 #[.val (.int p1), .val (.int p2), .val (.int p3), .val (.int p4), .val (.int (1 : Int32)), .val (.int (1 : Int32)), .val (.int (1 : Int32)), .val (.ref bo), .val (.ref o13), .val (.int ((1 : Int32) + (1 : Int32))), .val (.int (1 : Int32)), .unset] [(.int p1)])) _
    refine XS.istore X22.here hx rfl (hb hby at_176) rfl (l' := #[.val (.int p1), .val (.int p2), .val (.int p3), .val (.int p4), .val (.int (1 : Int32)), .val (.int (1 : Int32)), .val (.int (1 : Int32)), .val (.ref bo), .val (.ref o13), .val (.int ((1 : Int32) + (1 : Int32))), .val (.int (1 : Int32)), .val (.int p1)]) rfl ?_
    show Steps p.tables e below (T22.setTop (mkF m 178 #[.val (.int p1), .val (.int p2), .val (.int p3), .val (.int p4), .val (.int (1 : Int32)), .val (.int (1 : Int32)), .val (.int (1 : Int32)), .val (.ref bo), .val (.ref o13), .val (.int ((1 : Int32) + (1 : Int32))), .val (.int (1 : Int32)), .val (.int p1)] [])) _
    refine XS.aload X22.here hx rfl (hb hby at_178) rfl rfl ?_
    show Steps p.tables e below (T22.setTop (mkF m 180 #[.val (.int p1), .val (.int p2), .val (.int p3), .val (.int p4), .val (.int (1 : Int32)), .val (.int (1 : Int32)), .val (.int (1 : Int32)), .val (.ref bo), .val (.ref o13), .val (.int ((1 : Int32) + (1 : Int32))), .val (.int (1 : Int32)), .val (.int p1)] [(.ref o13)])) _
    refine XS.iconst X22.here hx rfl (hb hby at_180) ?_
    show Steps p.tables e below (T22.setTop (mkF m 181 #[.val (.int p1), .val (.int p2), .val (.int p3), .val (.int p4), .val (.int (1 : Int32)), .val (.int (1 : Int32)), .val (.int (1 : Int32)), .val (.ref bo), .val (.ref o13), .val (.int ((1 : Int32) + (1 : Int32))), .val (.int (1 : Int32)), .val (.int p1)] [(.int (0 : Int32)), (.ref o13)])) _
    refine XS.iconst X22.here hx rfl (hb hby at_181) ?_
    show Steps p.tables e below (T22.setTop (mkF m 182 #[.val (.int p1), .val (.int p2), .val (.int p3), .val (.int p4), .val (.int (1 : Int32)), .val (.int (1 : Int32)), .val (.int (1 : Int32)), .val (.ref bo), .val (.ref o13), .val (.int ((1 : Int32) + (1 : Int32))), .val (.int (1 : Int32)), .val (.int p1)] [(.int (0 : Int32)), (.int (0 : Int32)), (.ref o13)])) _
    refine st23.trans ?_
    show Steps p.tables e below (T23.setTop (mkF m 185 #[.val (.int p1), .val (.int p2), .val (.int p3), .val (.int p4), .val (.int (1 : Int32)), .val (.int (1 : Int32)), .val (.int (1 : Int32)), .val (.ref bo), .val (.ref o13), .val (.int ((1 : Int32) + (1 : Int32))), .val (.int (1 : Int32)), .val (.int p1)] [(.int p1)])) _
    refine XS.iload X23.here hx rfl (hb hby at_185) rfl ?_
    show Steps p.tables e below (T23.setTop (mkF m 187 #[.val (.int p1), .val (.int p2), .val (.int p3), .val (.int p4), .val (.int (1 : Int32)), .val (.int (1 : Int32)), .val (.int (1 : Int32)), .val (.ref bo), .val (.ref o13), .val (.int ((1 : Int32) + (1 : Int32))), .val (.int (1 : Int32)), .val (.int p1)] [(.int p1), (.int p1)])) _
    refine XS.icmpYes X23.here hx rfl (pc0 := 187) (pc' := 192) rfl (hb hby at_187) rfl (teq (rfl : p1 = p1)).1 (by decide) (by decide) ?_
    show Steps p.tables e below (T23.setTop (mkF m 192 #[.val (.int p1), .val (.int p2), .val (.int p3), .val (.int p4), .val (.int (1 : Int32)), .val (.int (1 : Int32)), .val (.int (1 : Int32)), .val (.ref bo), .val (.ref o13), .val (.int ((1 : Int32) + (1 : Int32))), .val (.int (1 : Int32)), .val (.int p1)] [])) _
    refine XS.iload X23.here hx rfl (hb hby at_192) rfl ?_
    show Steps p.tables e below (T23.setTop (mkF m 194 #[.val (.int p1), .val (.int p2), .val (.int p3), .val (.int p4), .val (.int (1 : Int32)), .val (.int (1 : Int32)), .val (.int (1 : Int32)), .val (.ref bo), .val (.ref o13), .val (.int ((1 : Int32) + (1 : Int32))), .val (.int (1 : Int32)), .val (.int p1)] [(.int ((1 : Int32) + (1 : Int32)))])) _
    refine XS.iconst X23.here hx rfl (hb hby at_194) ?_
    show Steps p.tables e below (T23.setTop (mkF m 195 #[.val (.int p1), .val (.int p2), .val (.int p3), .val (.int p4), .val (.int (1 : Int32)), .val (.int (1 : Int32)), .val (.int (1 : Int32)), .val (.ref bo), .val (.ref o13), .val (.int ((1 : Int32) + (1 : Int32))), .val (.int (1 : Int32)), .val (.int p1)] [(.int (2 : Int32)), (.int ((1 : Int32) + (1 : Int32)))])) _
    refine XS.icmpNo X23.here hx rfl (hb hby at_195) rfl (teq (by decide : ((1 : Int32) + (1 : Int32)) = (2 : Int32))).2 ?_
    show Steps p.tables e below (T23.setTop (mkF m 198 #[.val (.int p1), .val (.int p2), .val (.int p3), .val (.int p4), .val (.int (1 : Int32)), .val (.int (1 : Int32)), .val (.int (1 : Int32)), .val (.ref bo), .val (.ref o13), .val (.int ((1 : Int32) + (1 : Int32))), .val (.int (1 : Int32)), .val (.int p1)] [])) _
    refine XS.aload X23.here hx rfl (hb hby at_198) rfl rfl ?_
    show Steps p.tables e below (T23.setTop (mkF m 200 #[.val (.int p1), .val (.int p2), .val (.int p3), .val (.int p4), .val (.int (1 : Int32)), .val (.int (1 : Int32)), .val (.int (1 : Int32)), .val (.ref bo), .val (.ref o13), .val (.int ((1 : Int32) + (1 : Int32))), .val (.int (1 : Int32)), .val (.int p1)] [(.ref o13)])) _
    refine XS.iconst X23.here hx rfl (hb hby at_200) ?_
    show Steps p.tables e below (T23.setTop (mkF m 201 #[.val (.int p1), .val (.int p2), .val (.int p3), .val (.int p4), .val (.int (1 : Int32)), .val (.int (1 : Int32)), .val (.int (1 : Int32)), .val (.ref bo), .val (.ref o13), .val (.int ((1 : Int32) + (1 : Int32))), .val (.int (1 : Int32)), .val (.int p1)] [(.int (0 : Int32)), (.ref o13)])) _
    refine XS.iconst X23.here hx rfl (hb hby at_201) ?_
    show Steps p.tables e below (T23.setTop (mkF m 202 #[.val (.int p1), .val (.int p2), .val (.int p3), .val (.int p4), .val (.int (1 : Int32)), .val (.int (1 : Int32)), .val (.int (1 : Int32)), .val (.ref bo), .val (.ref o13), .val (.int ((1 : Int32) + (1 : Int32))), .val (.int (1 : Int32)), .val (.int p1)] [(.int (1 : Int32)), (.int (0 : Int32)), (.ref o13)])) _
    refine st24.trans ?_
    show Steps p.tables e below (T24.setTop (mkF m 205 #[.val (.int p1), .val (.int p2), .val (.int p3), .val (.int p4), .val (.int (1 : Int32)), .val (.int (1 : Int32)), .val (.int (1 : Int32)), .val (.ref bo), .val (.ref o13), .val (.int ((1 : Int32) + (1 : Int32))), .val (.int (1 : Int32)), .val (.int p1)] [(.int p2)])) _
    refine XS.iloadN X24.here hx rfl (hb hby at_205) rfl ?_
    show Steps p.tables e below (T24.setTop (mkF m 206 #[.val (.int p1), .val (.int p2), .val (.int p3), .val (.int p4), .val (.int (1 : Int32)), .val (.int (1 : Int32)), .val (.int (1 : Int32)), .val (.ref bo), .val (.ref o13), .val (.int ((1 : Int32) + (1 : Int32))), .val (.int (1 : Int32)), .val (.int p1)] [(.int p2), (.int p2)])) _
    refine XS.icmpYes X24.here hx rfl (pc0 := 206) (pc' := 211) rfl (hb hby at_206) rfl (teq (rfl : p2 = p2)).1 (by decide) (by decide) ?_
    show Steps p.tables e below (T24.setTop (mkF m 211 #[.val (.int p1), .val (.int p2), .val (.int p3), .val (.int p4), .val (.int (1 : Int32)), .val (.int (1 : Int32)), .val (.int (1 : Int32)), .val (.ref bo), .val (.ref o13), .val (.int ((1 : Int32) + (1 : Int32))), .val (.int (1 : Int32)), .val (.int p1)] [])) _
    refine XS.iload X24.here hx rfl (hb hby at_211) rfl ?_
    show Steps p.tables e below (T24.setTop (mkF m 213 #[.val (.int p1), .val (.int p2), .val (.int p3), .val (.int p4), .val (.int (1 : Int32)), .val (.int (1 : Int32)), .val (.int (1 : Int32)), .val (.ref bo), .val (.ref o13), .val (.int ((1 : Int32) + (1 : Int32))), .val (.int (1 : Int32)), .val (.int p1)] [(.int (1 : Int32))])) _
    refine XS.iconst X24.here hx rfl (hb hby at_213) ?_
    show Steps p.tables e below (T24.setTop (mkF m 214 #[.val (.int p1), .val (.int p2), .val (.int p3), .val (.int p4), .val (.int (1 : Int32)), .val (.int (1 : Int32)), .val (.int (1 : Int32)), .val (.ref bo), .val (.ref o13), .val (.int ((1 : Int32) + (1 : Int32))), .val (.int (1 : Int32)), .val (.int p1)] [(.int (1 : Int32)), (.int (1 : Int32))])) _
    refine XS.icmpNo X24.here hx rfl (hb hby at_214) rfl (teq (by decide : (1 : Int32) = (1 : Int32))).2 ?_
    show Steps p.tables e below (T24.setTop (mkF m 217 #[.val (.int p1), .val (.int p2), .val (.int p3), .val (.int p4), .val (.int (1 : Int32)), .val (.int (1 : Int32)), .val (.int (1 : Int32)), .val (.ref bo), .val (.ref o13), .val (.int ((1 : Int32) + (1 : Int32))), .val (.int (1 : Int32)), .val (.int p1)] [])) _
    refine XS.aload X24.here hx rfl (hb hby at_217) rfl rfl ?_
    show Steps p.tables e below (T24.setTop (mkF m 219 #[.val (.int p1), .val (.int p2), .val (.int p3), .val (.int p4), .val (.int (1 : Int32)), .val (.int (1 : Int32)), .val (.int (1 : Int32)), .val (.ref bo), .val (.ref o13), .val (.int ((1 : Int32) + (1 : Int32))), .val (.int (1 : Int32)), .val (.int p1)] [(.ref o13)])) _
    refine XS.iconst X24.here hx rfl (hb hby at_219) ?_
    show Steps p.tables e below (T24.setTop (mkF m 220 #[.val (.int p1), .val (.int p2), .val (.int p3), .val (.int p4), .val (.int (1 : Int32)), .val (.int (1 : Int32)), .val (.int (1 : Int32)), .val (.ref bo), .val (.ref o13), .val (.int ((1 : Int32) + (1 : Int32))), .val (.int (1 : Int32)), .val (.int p1)] [(.int (1 : Int32)), (.ref o13)])) _
    refine XS.iconst X24.here hx rfl (hb hby at_220) ?_
    show Steps p.tables e below (T24.setTop (mkF m 221 #[.val (.int p1), .val (.int p2), .val (.int p3), .val (.int p4), .val (.int (1 : Int32)), .val (.int (1 : Int32)), .val (.int (1 : Int32)), .val (.ref bo), .val (.ref o13), .val (.int ((1 : Int32) + (1 : Int32))), .val (.int (1 : Int32)), .val (.int p1)] [(.int (0 : Int32)), (.int (1 : Int32)), (.ref o13)])) _
    refine st25.trans ?_
    show Steps p.tables e below (T25.setTop (mkF m 224 #[.val (.int p1), .val (.int p2), .val (.int p3), .val (.int p4), .val (.int (1 : Int32)), .val (.int (1 : Int32)), .val (.int (1 : Int32)), .val (.ref bo), .val (.ref o13), .val (.int ((1 : Int32) + (1 : Int32))), .val (.int (1 : Int32)), .val (.int p1)] [(.int p3)])) _
    refine XS.iloadN X25.here hx rfl (hb hby at_224) rfl ?_
    show Steps p.tables e below (T25.setTop (mkF m 225 #[.val (.int p1), .val (.int p2), .val (.int p3), .val (.int p4), .val (.int (1 : Int32)), .val (.int (1 : Int32)), .val (.int (1 : Int32)), .val (.ref bo), .val (.ref o13), .val (.int ((1 : Int32) + (1 : Int32))), .val (.int (1 : Int32)), .val (.int p1)] [(.int p3), (.int p3)])) _
    refine XS.icmpYes X25.here hx rfl (pc0 := 225) (pc' := 230) rfl (hb hby at_225) rfl (teq (rfl : p3 = p3)).1 (by decide) (by decide) ?_
    show Steps p.tables e below (T25.setTop (mkF m 230 #[.val (.int p1), .val (.int p2), .val (.int p3), .val (.int p4), .val (.int (1 : Int32)), .val (.int (1 : Int32)), .val (.int (1 : Int32)), .val (.ref bo), .val (.ref o13), .val (.int ((1 : Int32) + (1 : Int32))), .val (.int (1 : Int32)), .val (.int p1)] [])) _
    refine XS.iconst X25.here hx rfl (hb hby at_230) ?_
    show Steps p.tables e below (T25.setTop (mkF m 231 #[.val (.int p1), .val (.int p2), .val (.int p3), .val (.int p4), .val (.int (1 : Int32)), .val (.int (1 : Int32)), .val (.int (1 : Int32)), .val (.ref bo), .val (.ref o13), .val (.int ((1 : Int32) + (1 : Int32))), .val (.int (1 : Int32)), .val (.int p1)] [(.int (1 : Int32))])) _
    exact retN X25 hx (t := .boolean) Bd.returns (by simp) (hb hby at_231) hr
  · show Q0 n0 _ _ _
    exact ⟨rfl, N25⟩
theorem rm0 (l : Launch) (Z : State) (a0 : Array Value) (hw : ∀ d ∈ tables_1, d.before a0 Z = true) (ws : List Jvm.Cond) (p1 p2 p3 p4 : Int32) (h0 : Heap) (n0 : Nat) (Z0 : n0 ≤ h0.size)  :
    MetFree l x (head1 (Jvm.Cond.code x code maxLocals ret :: ws) room_1) (fun a U => a = #[(.int p1), (.int p2), (.int p3), (.int p4)] ∧ Z.Warmed39 U.vm ∧ U.heap = h0) (fun _ _ _ _ _ => True) (fun _ U o U' => ∃ v L, o = .returned v ∧ Q0 n0 v U'.heap L ∧ FrameEnd U o U' L room_1.cells room_1.slots) := by
  by_cases ha : (p4 &&& (1 : Int32)) = (0 : Int32) <;> by_cases hb' : (p4 &&& (2 : Int32)) = (0 : Int32) <;> by_cases hc : (p4 &&& (4 : Int32)) = (0 : Int32)
  · exact rm0_000 l Z a0 hw ws p1 p2 p3 p4 h0 n0 Z0 ha hb' hc
  · exact rm0_001 l Z a0 hw ws p1 p2 p3 p4 h0 n0 Z0 ha hb' hc
  · exact rm0_010 l Z a0 hw ws p1 p2 p3 p4 h0 n0 Z0 ha hb' hc
  · exact rm0_011 l Z a0 hw ws p1 p2 p3 p4 h0 n0 Z0 ha hb' hc
  · exact rm0_100 l Z a0 hw ws p1 p2 p3 p4 h0 n0 Z0 ha hb' hc
  · exact rm0_101 l Z a0 hw ws p1 p2 p3 p4 h0 n0 Z0 ha hb' hc
  · exact rm0_110 l Z a0 hw ws p1 p2 p3 p4 h0 n0 Z0 ha hb' hc
  · exact rm0_111 l Z a0 hw ws p1 p2 p3 p4 h0 n0 Z0 ha hb' hc
set_option maxRecDepth 65536 in
set_option maxHeartbeats 40000000 in
theorem comes_1 {Post : Tables → Env → Array Value → State → Outcome → State → Prop} (hpost : ∀ tb e args s v u, (limb_1_1.after args s (.returned v) u = true ∧ limb_1_2.after args s (.returned v) u = true ∧ True) → FrameEnd s (.returned v) u (Jvm.fieldLocs frame_1_writes args s ++ Jvm.arrayLocs frame_1_arrays args s ++ Jvm.staticLocs frame_1_statics s) 24 128 → Post tb e args s (.returned v) u) :
    ArmFor flags0 classFile x code maxLocals ret World_1 tables_1 room_1 Calls_1 rest_1 Pre_1 Post := by
  intro l hfl _ _ p e ha hc hk s m args below hf hA hF happ hP
  obtain ⟨hcalls, hrest, hpre⟩ := hP
  obtain ⟨-, -, -, hnamed, -, -, -, hat⟩ := (Spec.applies_iff hf).mp happ
  obtain ⟨hg, hn⟩ := and_e (Cond.before_iff.mp (show (Jvm.Cond.and given_1 narrow_1).before args s = true from hpre))
  obtain ⟨g9, g10⟩ := and_e hg
  obtain ⟨g11, g12⟩ := and_e g10
  obtain ⟨g13, g14⟩ := and_e g12
  obtain ⟨g15, g16⟩ := and_e g14
  obtain ⟨w0, w1, w2, w3, rfl⟩ : ∃ w0 w1 w2 w3 : Value, args = #[w0, w1, w2, w3] := by
    have hs : args.size = 4 := by simpa [Cond.value, given_1] using g9
    obtain ⟨L⟩ := args
    match L, hs with
    | [w0, w1, w2, w3], _ => exact ⟨w0, w1, w2, w3, rfl⟩
  have hw := fun d (hd : d ∈ tables_1) => atoms_spec (ws := Jvm.Cond.code x code maxLocals ret :: tables_1) hat d (List.mem_cons_of_mem _ hd)
  have hfit : Fit s := fun {y c} hc i hi => by
    obtain ⟨ha, rfl⟩ := Array.getElem?_eq_some_iff.mp hc
    have q := List.all_eq_true.mp ((Array.all_eq_true_iff_forall_mem.mp hF) _ (Array.getElem_mem ha)) i (List.mem_range.mpr hi)
    simpa [Array.getElem?_eq_getElem hi] using q
  obtain ⟨i0, ei0⟩ := is_v g11
  obtain rfl : w0 = (.int i0) := Option.some.inj ei0
  obtain ⟨i1, ei1⟩ := is_v g13
  obtain rfl : w1 = (.int i1) := Option.some.inj ei1
  obtain ⟨i2, ei2⟩ := is_v g15
  obtain rfl : w2 = (.int i2) := Option.some.inj ei2
  obtain ⟨i3, ei3⟩ := is_v g16
  obtain rfl : w3 = (.int i3) := Option.some.inj ei3
  obtain ⟨n, o, h1, h2, h3, _, L, rfl, ⟨rfl, N⟩, hq⟩ := rm0 l s _ hw tables_1 i0 i1 i2 i3 s.heap s.heap.size (Nat.le_refl _) p e ha hc hk s m _ below hf ((Spec.applies_iff_loose hf).mp happ).1 ⟨rfl, State.Warmed39.refl s, rfl⟩ trivial
  refine ⟨n, _, h1, h2, h3, hpost _ _ _ _ _ _ ⟨Cond.after_iff.mpr rfl, Cond.after_iff.mpr (eq_i res_at (Term.int_eval (1)) rfl), trivial⟩ ⟨hq.1, hq.2.1, (hq.2.2.sift fun y hy => Or.inr (N y hy)).mono (by decide) (by decide)⟩⟩
theorem main_1_1 : Claimed_1_1 := comes_1 fun _ _ _ _ _ _ h hF => ⟨h.1, hF⟩
theorem main_1_2 : Claimed_1_2 := comes_1 fun _ _ _ _ _ _ h hF => ⟨h.2.1, hF⟩
end Jvm.Pilot.@@N@@
namespace Jvm.Pilot.@@N@@
open Jvm Jvm.ClassFile Sem Op Lib Jvm.Free Jvm.Stand Jvm.Pilot.@@N@@.Jvm.D
/-! MADE BY PROGRAM (witnessworld.py) out of the Statement's table words and the real class files: 13 classes; the members and pool entries that the words name. The judged class is class 1, her method 1. -/
namespace start1
open Jvm.ClassFile
def u (s : String) : CpInfo := .utf8 (stringToUtf16 s)
/-- a pool by its gaps: so many unusable entries, then the entry; so many at the end -/
def gap : Nat → List CpInfo → List CpInfo
  | 0, r => r
  | n + 1, r => .unusable :: gap n r
def poolList (es : List (Nat × CpInfo)) (last : Nat) : List CpInfo := es.foldr (fun e r => gap e.1 (e.2 :: r)) (gap last [])
def pool (es : List (Nat × CpInfo)) (last : Nat) : Array CpInfo := ⟨poolList es last⟩
def fileOf (pool : Array CpInfo) (this : Nat) (attrs : Array Attribute := #[]) (ms : Array MethodInfo := #[]) (fl : Nat := 33) (sup : Nat := 0) (ifs : Array Nat := #[]) (fds : Array FieldInfo := #[]) : ClassFile where
  minorVersion := 0
  majorVersion := 65
  constantPool := pool
  accessFlags := fl
  thisClass := this
  superClass := sup
  interfaces := ifs
  fields := fds
  methods := ms
  attributes := attrs
def plain (name : String) (sup : Option ClassId) : Class where
  name := name
  kind := .ordinary
  loader := none
  accessFlags := 33
  super := sup
  interfaces := #[]
  cf := none
  fields := #[]
  methods := #[]
  instanceTypes := #[]
  staticTypes := #[]
  resolved := #[]
  callSites := []
  init := .initialized
  statics := none
  mirror := none

def pool0 : Array CpInfo := pool [(5, u "<init>"), (0, u "()V"), (1, .class_ 10), (1, u "java/lang/Object")] 113

def k0c0 : Code := { maxStack := 0, maxLocals := 1, code := object_method_1_code, exceptionTable := #[], attributes := #[] }
def k0m0 : Method := { name := "<init>", desc := "()V", sig := { parameters := [], returnType := none }, accessFlags := 1, code := some k0c0 }
/-- java/lang/Object -/
def k0 : Class := { plain "java/lang/Object" none with
  accessFlags := 33
  interfaces := #[]
  cf := some (fileOf pool0 8 #[] #[{ accessFlags := 1, nameIndex := 5, descriptorIndex := 6, attributes := #[] }] 33 0 #[] #[])
  fields := #[]
  methods := #[k0m0]
  instanceTypes := #[]
  staticTypes := #[]
  resolved := Array.replicate 124 none
  statics := none }

def pool1 : Array CpInfo := pool [(2, .class_ 4), (1, u "java/lang/Object"), (0, u "<init>"), (0, u "()V"), (0, .class_ 8), (0, u "org/keyward/securitymodel/NumberLists$Builder"), (0, .methodref 7 10), (0, .nameAndType 5 11), (0, u "(I)V"), (0, .methodref 7 13), (0, .nameAndType 14 11), (0, u "add"), (0, .methodref 7 16), (0, .nameAndType 17 6), (0, u "end"), (0, .methodref 7 19), (0, .nameAndType 20 21), (0, u "build"), (0, u "()Lorg/keyward/securitymodel/NumberLists;"), (0, .methodref 23 24), (0, .class_ 25), (0, .nameAndType 26 27), (0, u "org/keyward/securitymodel/NumberLists"), (0, u "size"), (0, u "(I)I"), (0, .methodref 23 29), (0, .nameAndType 30 31), (0, u "get"), (0, u "(II)I"), (0, .class_ 33), (0, u "org/keyward/securitymodel/BuilderEndPinLaw"), (2, u "law"), (0, u "(IIII)Z")] 5

def k1m0 : Method := { name := "<init>", desc := "()V", sig := { parameters := [], returnType := none }, accessFlags := 1, code := none }
def k1c1 : Code := { maxStack := 3, maxLocals := 12, code := code, exceptionTable := #[], attributes := #[] }
def k1m1 : Method := { name := "law", desc := "(IIII)Z", sig := { parameters := [.int, .int, .int, .int], returnType := some .boolean }, accessFlags := 9, code := some k1c1 }
/-- org/keyward/securitymodel/BuilderEndPinLaw -/
def k1 : Class := { plain "org/keyward/securitymodel/BuilderEndPinLaw" (some 0) with
  accessFlags := 49
  interfaces := #[]
  cf := some (fileOf pool1 32 #[] #[{ accessFlags := 1, nameIndex := 5, descriptorIndex := 6, attributes := #[] }, { accessFlags := 9, nameIndex := 36, descriptorIndex := 37, attributes := #[] }] 49 2 #[] #[])
  fields := #[]
  methods := #[k1m0, k1m1]
  instanceTypes := #[]
  staticTypes := #[]
  resolved := Array.replicate 43 none
  statics := none }

def pool2 : Array CpInfo := pool [(1, .methodref 2 3), (0, .class_ 4), (0, .nameAndType 5 6), (0, u "java/lang/Object"), (0, u "<init>"), (0, u "()V"), (0, .fieldref 8 9), (0, .class_ 10), (0, .nameAndType 11 12), (0, u "org/keyward/securitymodel/NumberLists$Builder"), (0, u "numbers"), (0, u "[I"), (0, .fieldref 8 14), (0, .nameAndType 15 12), (0, u "starts"), (0, .fieldref 8 17), (0, .nameAndType 18 19), (0, u "count"), (0, u "I"), (0, .methodref 21 22), (0, .class_ 23), (0, .nameAndType 24 25), (0, u "java/util/Arrays"), (0, u "copyOf"), (0, u "([II)[I"), (0, .fieldref 8 27), (0, .nameAndType 28 19), (0, u "listed"), (9, .class_ 39), (0, u "org/keyward/securitymodel/NumberLists"), (0, .methodref 38 41), (0, .nameAndType 5 42), (0, u "([I[I)V"), (0, u "(I)V"), (2, u "add"), (1, u "end"), (0, u "build"), (0, u "()Lorg/keyward/securitymodel/NumberLists;")] 19

def k2c0 : Code := { maxStack := 3, maxLocals := 2, code := prog_158_method_1_code, exceptionTable := #[], attributes := #[] }
def k2m0 : Method := { name := "<init>", desc := "(I)V", sig := { parameters := [.int], returnType := none }, accessFlags := 0, code := some k2c0 }
def k2c1 : Code := { maxStack := 5, maxLocals := 2, code := prog_158_method_2_code, exceptionTable := #[], attributes := #[] }
def k2m1 : Method := { name := "add", desc := "(I)V", sig := { parameters := [.int], returnType := none }, accessFlags := 0, code := some k2c1 }
def k2c2 : Code := { maxStack := 4, maxLocals := 1, code := prog_158_method_3_code, exceptionTable := #[], attributes := #[] }
def k2m2 : Method := { name := "end", desc := "()V", sig := { parameters := [], returnType := none }, accessFlags := 0, code := some k2c2 }
def k2c3 : Code := { maxStack := 5, maxLocals := 1, code := prog_158_method_4_code, exceptionTable := #[], attributes := #[] }
def k2m3 : Method := { name := "build", desc := "()Lorg/keyward/securitymodel/NumberLists;", sig := { parameters := [], returnType := some (.object "org/keyward/securitymodel/NumberLists") }, accessFlags := 0, code := some k2c3 }
/-- org/keyward/securitymodel/NumberLists$Builder -/
def k2 : Class := { plain "org/keyward/securitymodel/NumberLists$Builder" (some 0) with
  accessFlags := 48
  interfaces := #[]
  cf := some (fileOf pool2 8 #[.nestHost 38] #[{ accessFlags := 0, nameIndex := 5, descriptorIndex := 43, attributes := #[] }, { accessFlags := 0, nameIndex := 46, descriptorIndex := 43, attributes := #[] }, { accessFlags := 0, nameIndex := 48, descriptorIndex := 6, attributes := #[] }, { accessFlags := 0, nameIndex := 49, descriptorIndex := 50, attributes := #[] }] 48 2 #[] #[{ accessFlags := 18, nameIndex := 15, descriptorIndex := 12, attributes := #[] }, { accessFlags := 2, nameIndex := 11, descriptorIndex := 12, attributes := #[] }, { accessFlags := 2, nameIndex := 28, descriptorIndex := 19, attributes := #[] }, { accessFlags := 2, nameIndex := 18, descriptorIndex := 19, attributes := #[] }])
  fields := #[{ name := "starts", type := (.array .int), accessFlags := 18, slot := 0, constantValue := 0 }, { name := "numbers", type := (.array .int), accessFlags := 2, slot := 1, constantValue := 0 }, { name := "listed", type := .int, accessFlags := 2, slot := 2, constantValue := 0 }, { name := "count", type := .int, accessFlags := 2, slot := 3, constantValue := 0 }]
  methods := #[k2m0, k2m1, k2m2, k2m3]
  instanceTypes := #[(.array .int), (.array .int), .int, .int]
  staticTypes := #[]
  resolved := Array.replicate 70 none
  statics := none }

def pool3 : Array CpInfo := pool [(1, .methodref 2 3), (0, .class_ 4), (0, .nameAndType 5 6), (0, u "java/lang/Object"), (0, u "<init>"), (0, u "()V"), (0, .fieldref 8 9), (0, .class_ 10), (0, .nameAndType 11 12), (0, u "org/keyward/securitymodel/NumberLists"), (0, u "starts"), (0, u "[I"), (0, .fieldref 8 14), (0, .nameAndType 15 12), (0, u "numbers"), (0, u "([I[I)V"), (2, u "size"), (0, u "(I)I"), (0, u "get"), (0, u "(II)I"), (3, .class_ 27), (0, u "org/keyward/securitymodel/NumberLists$Builder")] 2

def k3c0 : Code := { maxStack := 2, maxLocals := 3, code := prog_157_method_1_code, exceptionTable := #[], attributes := #[] }
def k3m0 : Method := { name := "<init>", desc := "([I[I)V", sig := { parameters := [(.array .int), (.array .int)], returnType := none }, accessFlags := 2, code := some k3c0 }
def k3c1 : Code := { maxStack := 3, maxLocals := 2, code := prog_157_method_2_code, exceptionTable := #[], attributes := #[] }
def k3m1 : Method := { name := "size", desc := "(I)I", sig := { parameters := [.int], returnType := some .int }, accessFlags := 0, code := some k3c1 }
def k3c2 : Code := { maxStack := 3, maxLocals := 3, code := prog_157_method_3_code, exceptionTable := #[], attributes := #[] }
def k3m2 : Method := { name := "get", desc := "(II)I", sig := { parameters := [.int, .int], returnType := some .int }, accessFlags := 0, code := some k3c2 }
/-- org/keyward/securitymodel/NumberLists -/
def k3 : Class := { plain "org/keyward/securitymodel/NumberLists" (some 0) with
  accessFlags := 48
  interfaces := #[]
  cf := some (fileOf pool3 8 #[.nestMembers #[26]] #[{ accessFlags := 2, nameIndex := 5, descriptorIndex := 16, attributes := #[] }, { accessFlags := 0, nameIndex := 19, descriptorIndex := 20, attributes := #[] }, { accessFlags := 0, nameIndex := 21, descriptorIndex := 22, attributes := #[] }] 48 2 #[] #[{ accessFlags := 18, nameIndex := 11, descriptorIndex := 12, attributes := #[] }, { accessFlags := 18, nameIndex := 15, descriptorIndex := 12, attributes := #[] }])
  fields := #[{ name := "starts", type := (.array .int), accessFlags := 18, slot := 0, constantValue := 0 }, { name := "numbers", type := (.array .int), accessFlags := 18, slot := 1, constantValue := 0 }]
  methods := #[k3m0, k3m1, k3m2]
  instanceTypes := #[(.array .int), (.array .int)]
  staticTypes := #[]
  resolved := Array.replicate 30 none
  statics := none }

def pool4 : Array CpInfo := pool [(2, .class_ 4), (1, u "java/lang/Object"), (0, u "<init>"), (0, u "()V"), (7, .class_ 16), (1, u "java/util/Arrays"), (57, .class_ 76), (1, u "java/util/Arrays$NaturalOrder"), (36, .class_ 115), (1, u "java/util/Arrays$LegacyMergeSort"), (1, u "Z"), (32, .methodref 151 152), (0, .class_ 153), (0, .nameAndType 154 155), (0, u "java/lang/System"), (0, u "arraycopy"), (0, u "(Ljava/lang/Object;ILjava/lang/Object;II)V"), (146, u "copyOf"), (1, .methodref 305 306), (0, .class_ 307), (0, .nameAndType 308 309), (0, u "java/lang/Math"), (0, u "min"), (0, u "(II)I"), (65, .class_ 376), (0, u "java/util/Arrays$ArrayList"), (68, u "$assertionsDisabled"), (269, u "MIN_ARRAY_SORT_GRAN"), (0, u "I"), (2, u "INSERTIONSORT_THRESHOLD"), (151, u "([II)[I"), (103, .class_ 976), (0, u "java/util/Arrays$ArrayItr")] 52

def k4m0 : Method := { name := "<init>", desc := "()V", sig := { parameters := [], returnType := none }, accessFlags := 2, code := none }
def k4c1 : Code := { maxStack := 6, maxLocals := 3, code := jdk_65_method_123_code, exceptionTable := #[], attributes := #[] }
def k4m1 : Method := { name := "copyOf", desc := "([II)[I", sig := { parameters := [(.array .int), .int], returnType := some (.array .int) }, accessFlags := 9, code := some k4c1 }
/-- java/util/Arrays -/
def k4 : Class := { plain "java/util/Arrays" (some 0) with
  accessFlags := 49
  interfaces := #[]
  cf := some (fileOf pool4 14 #[.nestMembers #[975, 375, 113, 74]] #[{ accessFlags := 2, nameIndex := 5, descriptorIndex := 6, attributes := #[] }, { accessFlags := 9, nameIndex := 302, descriptorIndex := 871, attributes := #[] }] 49 2 #[] #[{ accessFlags := 26, nameIndex := 715, descriptorIndex := 716, attributes := #[] }, { accessFlags := 26, nameIndex := 719, descriptorIndex := 716, attributes := #[] }, { accessFlags := 4120, nameIndex := 445, descriptorIndex := 117, attributes := #[] }])
  fields := #[{ name := "MIN_ARRAY_SORT_GRAN", type := .int, accessFlags := 26, slot := 0, constantValue := 0 }, { name := "INSERTIONSORT_THRESHOLD", type := .int, accessFlags := 26, slot := 1, constantValue := 0 }, { name := "$assertionsDisabled", type := .boolean, accessFlags := 4120, slot := 2, constantValue := 0 }]
  methods := #[k4m0, k4m1]
  instanceTypes := #[]
  staticTypes := #[.int, .int, .boolean]
  resolved := Array.replicate 1029 none
  statics := none }

def pool5 : Array CpInfo := pool [(1, .class_ 2), (0, u "java/lang/Math"), (1, .class_ 6), (1, u "java/lang/Object"), (0, u "<init>"), (0, u "()V"), (89, .class_ 100), (1, u "java/lang/Math$RandomNumberGeneratorHolder"), (71, u "negativeZeroFloatBits"), (0, u "J"), (2, u "negativeZeroDoubleBits"), (24, u "min"), (43, u "$assertionsDisabled"), (0, u "Z"), (88, u "(II)I"), (2, u "twoToTheDoubleScaleDown"), (0, u "D"), (4, u "twoToTheDoubleScaleUp"), (9, u "E"), (3, u "PI"), (2, u "TAU"), (2, u "DEGREES_TO_RADIANS"), (0, u "RADIANS_TO_DEGREES")] 94

def k5m0 : Method := { name := "<init>", desc := "()V", sig := { parameters := [], returnType := none }, accessFlags := 2, code := none }
def k5c1 : Code := { maxStack := 2, maxLocals := 2, code := jdk_29_method_69_code, exceptionTable := #[], attributes := #[] }
def k5m1 : Method := { name := "min", desc := "(II)I", sig := { parameters := [.int, .int], returnType := some .int }, accessFlags := 9, code := some k5c1 }
/-- java/lang/Math -/
def k5 : Class := { plain "java/lang/Math" (some 0) with
  accessFlags := 49
  interfaces := #[]
  cf := some (fileOf pool5 1 #[.nestMembers #[98]] #[{ accessFlags := 2, nameIndex := 7, descriptorIndex := 8, attributes := #[] }, { accessFlags := 9, nameIndex := 201, descriptorIndex := 335, attributes := #[] }] 49 4 #[] #[{ accessFlags := 25, nameIndex := 354, descriptorIndex := 339, attributes := #[] }, { accessFlags := 25, nameIndex := 358, descriptorIndex := 339, attributes := #[] }, { accessFlags := 25, nameIndex := 361, descriptorIndex := 339, attributes := #[] }, { accessFlags := 26, nameIndex := 364, descriptorIndex := 339, attributes := #[] }, { accessFlags := 26, nameIndex := 365, descriptorIndex := 339, attributes := #[] }, { accessFlags := 26, nameIndex := 172, descriptorIndex := 173, attributes := #[] }, { accessFlags := 26, nameIndex := 176, descriptorIndex := 173, attributes := #[] }, { accessFlags := 8, nameIndex := 344, descriptorIndex := 339, attributes := #[] }, { accessFlags := 8, nameIndex := 338, descriptorIndex := 339, attributes := #[] }, { accessFlags := 4120, nameIndex := 245, descriptorIndex := 246, attributes := #[] }])
  fields := #[{ name := "E", type := .double, accessFlags := 25, slot := 0, constantValue := 0 }, { name := "PI", type := .double, accessFlags := 25, slot := 1, constantValue := 0 }, { name := "TAU", type := .double, accessFlags := 25, slot := 2, constantValue := 0 }, { name := "DEGREES_TO_RADIANS", type := .double, accessFlags := 26, slot := 3, constantValue := 0 }, { name := "RADIANS_TO_DEGREES", type := .double, accessFlags := 26, slot := 4, constantValue := 0 }, { name := "negativeZeroFloatBits", type := .long, accessFlags := 26, slot := 5, constantValue := 0 }, { name := "negativeZeroDoubleBits", type := .long, accessFlags := 26, slot := 6, constantValue := 0 }, { name := "twoToTheDoubleScaleUp", type := .double, accessFlags := 8, slot := 7, constantValue := 0 }, { name := "twoToTheDoubleScaleDown", type := .double, accessFlags := 8, slot := 8, constantValue := 0 }, { name := "$assertionsDisabled", type := .boolean, accessFlags := 4120, slot := 9, constantValue := 0 }]
  methods := #[k5m0, k5m1]
  instanceTypes := #[]
  staticTypes := #[.double, .double, .double, .double, .double, .long, .long, .double, .double, .boolean]
  resolved := Array.replicate 460 none
  statics := none }

def pool6 : Array CpInfo := pool [(2, .class_ 4), (1, u "java/lang/Object"), (0, u "<init>"), (0, u "()V"), (1, .class_ 10), (1, u "java/lang/System"), (0, u "allowSecurityManager"), (0, u "I"), (16, u "cons"), (0, u "Ljava/io/Console;"), (77, .class_ 110), (1, u "java/lang/System$CallersHolder"), (43, u "initialErrStream"), (0, u "Ljava/io/PrintStream;"), (19, u "security"), (0, u "Ljava/lang/SecurityManager;"), (31, .class_ 209), (0, u "java/lang/System$1"), (7, u "props"), (0, u "Ljava/util/Properties;"), (2, u "lineSeparator"), (0, u "Ljava/lang/String;"), (96, .class_ 321), (1, u "java/lang/System$LoggerFinder"), (5, .class_ 328), (0, u "java/lang/System$Logger"), (67, u "err"), (2, u "out"), (91, u "notSupportedJnuEncoding"), (15, u "in"), (17, u "initialIn"), (0, u "Ljava/io/InputStream;"), (35, u "bootLayer"), (0, u "Ljava/lang/ModuleLayer;"), (99, .class_ 664), (0, u "java/lang/System$2"), (9, u "NEVER"), (2, u "MAYBE"), (49, u "arraycopy"), (0, u "(Ljava/lang/Object;ILjava/lang/Object;II)V"), (72, .class_ 802), (0, u "java/lang/System$Logger$Level")] 31

def k6m0 : Method := { name := "<init>", desc := "()V", sig := { parameters := [], returnType := none }, accessFlags := 2, code := none }
def k6m1 : Method := { name := "arraycopy", desc := "(Ljava/lang/Object;ILjava/lang/Object;II)V", sig := { parameters := [(.object "java/lang/Object"), .int, (.object "java/lang/Object"), .int, .int], returnType := none }, accessFlags := 265, code := none }
/-- java/lang/System -/
def k6 : Class := { plain "java/lang/System" (some 0) with
  accessFlags := 49
  interfaces := #[]
  cf := some (fileOf pool6 8 #[.nestMembers #[319, 327, 801, 108, 663, 208]] #[{ accessFlags := 2, nameIndex := 5, descriptorIndex := 6, attributes := #[] }, { accessFlags := 265, nameIndex := 727, descriptorIndex := 728, attributes := #[] }] 49 2 #[] #[{ accessFlags := 25, nameIndex := 507, descriptorIndex := 526, attributes := #[] }, { accessFlags := 25, nameIndex := 399, descriptorIndex := 155, attributes := #[] }, { accessFlags := 25, nameIndex := 396, descriptorIndex := 155, attributes := #[] }, { accessFlags := 10, nameIndex := 525, descriptorIndex := 526, attributes := #[] }, { accessFlags := 26, nameIndex := 674, descriptorIndex := 12, attributes := #[] }, { accessFlags := 26, nameIndex := 677, descriptorIndex := 12, attributes := #[] }, { accessFlags := 10, nameIndex := 11, descriptorIndex := 12, attributes := #[] }, { accessFlags := 74, nameIndex := 175, descriptorIndex := 176, attributes := #[] }, { accessFlags := 10, nameIndex := 491, descriptorIndex := 222, attributes := #[] }, { accessFlags := 74, nameIndex := 29, descriptorIndex := 30, attributes := #[] }, { accessFlags := 74, nameIndex := 154, descriptorIndex := 155, attributes := #[] }, { accessFlags := 10, nameIndex := 217, descriptorIndex := 218, attributes := #[] }, { accessFlags := 10, nameIndex := 221, descriptorIndex := 222, attributes := #[] }, { accessFlags := 8, nameIndex := 562, descriptorIndex := 563, attributes := #[] }])
  fields := #[{ name := "in", type := (.object "java/io/InputStream"), accessFlags := 25, slot := 0, constantValue := 0 }, { name := "out", type := (.object "java/io/PrintStream"), accessFlags := 25, slot := 1, constantValue := 0 }, { name := "err", type := (.object "java/io/PrintStream"), accessFlags := 25, slot := 2, constantValue := 0 }, { name := "initialIn", type := (.object "java/io/InputStream"), accessFlags := 10, slot := 3, constantValue := 0 }, { name := "NEVER", type := .int, accessFlags := 26, slot := 4, constantValue := 0 }, { name := "MAYBE", type := .int, accessFlags := 26, slot := 5, constantValue := 0 }, { name := "allowSecurityManager", type := .int, accessFlags := 10, slot := 6, constantValue := 0 }, { name := "security", type := (.object "java/lang/SecurityManager"), accessFlags := 74, slot := 7, constantValue := 0 }, { name := "notSupportedJnuEncoding", type := (.object "java/lang/String"), accessFlags := 10, slot := 8, constantValue := 0 }, { name := "cons", type := (.object "java/io/Console"), accessFlags := 74, slot := 9, constantValue := 0 }, { name := "initialErrStream", type := (.object "java/io/PrintStream"), accessFlags := 74, slot := 10, constantValue := 0 }, { name := "props", type := (.object "java/util/Properties"), accessFlags := 10, slot := 11, constantValue := 0 }, { name := "lineSeparator", type := (.object "java/lang/String"), accessFlags := 10, slot := 12, constantValue := 0 }, { name := "bootLayer", type := (.object "java/lang/ModuleLayer"), accessFlags := 8, slot := 13, constantValue := 0 }]
  methods := #[k6m0, k6m1]
  instanceTypes := #[]
  staticTypes := #[(.object "java/io/InputStream"), (.object "java/io/PrintStream"), (.object "java/io/PrintStream"), (.object "java/io/InputStream"), .int, .int, .int, (.object "java/lang/SecurityManager"), (.object "java/lang/String"), (.object "java/io/Console"), (.object "java/io/PrintStream"), (.object "java/util/Properties"), (.object "java/lang/String"), (.object "java/lang/ModuleLayer")]
  resolved := Array.replicate 834 none
  statics := none }

def pool7 : Array CpInfo := pool [(1, u "java/lang/Cloneable"), (0, .class_ 1), (0, u "java/lang/Object"), (0, .class_ 3)] 3

/-- java/lang/Cloneable -/
def k7 : Class := { plain "java/lang/Cloneable" (some 0) with
  accessFlags := 1537
  interfaces := #[]
  cf := some (fileOf pool7 2 #[] #[] 1537 4 #[] #[])
  fields := #[]
  methods := #[]
  instanceTypes := #[]
  staticTypes := #[]
  resolved := Array.replicate 8 none
  statics := none }

def pool8 : Array CpInfo := pool [(1, u "java/io/Serializable"), (0, .class_ 1), (0, u "java/lang/Object"), (0, .class_ 3)] 3

/-- java/io/Serializable -/
def k8 : Class := { plain "java/io/Serializable" (some 0) with
  accessFlags := 1537
  interfaces := #[]
  cf := some (fileOf pool8 2 #[] #[] 1537 4 #[] #[])
  fields := #[]
  methods := #[]
  instanceTypes := #[]
  staticTypes := #[]
  resolved := Array.replicate 8 none
  statics := none }

/-- the primitive byte -/
def k9 : Class := { plain "byte" none with kind := .primitive 'B', accessFlags := 0x411 }
/-- [B -/
def k10 : Class := { plain "[B" (some 0) with kind := .array 9 .byte, interfaces := #[7, 8], accessFlags := 1041 }

/-- the primitive int -/
def k11 : Class := { plain "int" none with kind := .primitive 'I', accessFlags := 0x411 }
/-- [I -/
def k12 : Class := { plain "[I" (some 0) with kind := .array 11 .int, interfaces := #[7, 8], accessFlags := 1041 }

def heap : Heap := #[]
def classes : Array Class := #[k0, k1, k2, k3, k4, k5, k6, k7, k8, k9, k10, k11, k12]
def interned : List (Array UInt16 × Addr) := []
def slotsUsed : Nat := 0
def theMethod : MethodId := ⟨1, 1⟩
def args0 : Array Value := #[.int 5, .int 7, .int 9, .int 3]
def aboutOver (below : List Frame) : State where
  vm := { classes := classes, interned := interned.toArray }
  heap := heap
  slotsUsed := slotsUsed
  threads := #[{ frames := .invoking theMethod args0 :: below }]
def below0 : List Frame := [.native { method := ⟨0, 0⟩, args := #[] }]
def about1 : State := aboutOver below0
def p0 : Program := .bare "" "" ""
def e0 : Env := launch0.env 0 0 0
theorem w_frames : about1.frames = Frame.invoking theMethod args0 :: below0 := rfl
set_option maxRecDepth 65536 in
theorem w_args : argsFit about1.vm theMethod args0 = true := by decide +kernel
set_option maxRecDepth 65536 in
theorem w_heap : heapFits about1 = true := by decide +kernel
set_option maxRecDepth 65536 in
theorem w_runnable : about1.curStatus? = some .runnable := by decide +kernel
set_option maxRecDepth 65536 in
theorem w_alone : about1.alone = true := by decide +kernel
set_option maxRecDepth 65536 in
theorem w_named : about1.methodNamed? x = some theMethod := by decide +kernel
set_option maxRecDepth 65536 in
theorem w_hears : about1.hears theMethod below0 = true := by decide +kernel
set_option maxRecDepth 65536 in
theorem w_ripe : about1.ripe theMethod args0 below0 = true := by decide +kernel
theorem w_running : about1.status = .running := rfl
set_option maxRecDepth 65536 in
theorem w_room : about1.hasRoom e0.platform room_1 = true :=
  launch0.hasRoom_least _ room_1 (by decide +kernel) (by decide +kernel) (by decide +kernel) (by decide +kernel) (by decide +kernel) (by decide +kernel)
theorem allAtoms_all (ts : List Jvm.Cond) (a : Array Jvm.Value) (st : Jvm.State) : (allAtoms ts).before a st = ts.all (fun c => c.before a st) := by
  induction ts with
  | nil => rfl
  | cons c t ih =>
    show (Jvm.Cond.and c (allAtoms t)).before a st = _
    rw [Jvm.Cond.before_and, ih, List.all_cons]
def words1 : List Jvm.Cond := Jvm.Cond.code x code maxLocals ret :: tables_1
/-- a 'code' word, met by the world's own term for the bytes: nothing is compared byte by byte -/
theorem code_word {y : MethodName} {bytes : ByteArray} {mx : Nat} {rt : Option FieldType} {a : Array Value} {s : State} {m : MethodId} {meth : Method} {c : Code} (h1 : s.methodNamed? y = some m) (h2 : s.vm.method? m = some meth) (h3 : meth.code = some c) (h4 : c.code = bytes)
    (h5 : (c.maxLocals == mx && c.exceptionTable.isEmpty && decide (c.maxStack ≤ mostOperands) && decide (meth.sig.returnType = rt) && !meth.locks && decide (parseMethodDescriptor y.desc = some meth.sig)) = true) : (Jvm.Cond.code y bytes mx rt).before a s = true := by
  simp only [Bool.and_eq_true, beq_iff_eq, Bool.not_eq_true', decide_eq_true_eq] at h5
  obtain ⟨⟨⟨⟨⟨g1, g2⟩, g3⟩, g4⟩, g5⟩, g6⟩ := h5
  simp [Cond.before, Cond.holds, Cond.value, h1, h2, h3, h4, g1, g2, g3, g4, g5, g6]
def isCode : Jvm.Cond → Bool
  | .code _ _ _ _ => true
  | _ => false
theorem all_split {L : List Jvm.Cond} {P : Jvm.Cond → Bool} (h1 : L.all (fun c => isCode c || P c) = true) (h2 : ∀ c ∈ L.filter isCode, P c = true) : L.all P = true := by
  refine List.all_eq_true.mpr fun c hc => ?_
  have h := List.all_eq_true.mp h1 c hc
  rcases Bool.eq_false_or_eq_true (isCode c) with hi | hi
  · exact h2 c (List.mem_filter.mpr ⟨hc, hi⟩)
  · simpa [hi] using h
set_option maxRecDepth 65536 in
theorem w_c0 : (Jvm.Cond.code x code maxLocals ret).before args0 about1 = true := code_word (m := ⟨1, 1⟩) (meth := k1m1) (c := k1c1) (by decide +kernel) rfl rfl rfl (by decide +kernel)
set_option maxRecDepth 65536 in
theorem w_c1 : (Jvm.Cond.code ({ cls := "org/keyward/securitymodel/NumberLists$Builder", name := "<init>", desc := "(I)V" } : Jvm.MethodName) prog_158_method_1_code (2 : Nat) (Option.none : Option Jvm.ClassFile.FieldType)).before args0 about1 = true := code_word (m := ⟨2, 0⟩) (meth := k2m0) (c := k2c0) (by decide +kernel) rfl rfl rfl (by decide +kernel)
set_option maxRecDepth 65536 in
theorem w_c2 : (Jvm.Cond.code ({ cls := "java/lang/Object", name := "<init>", desc := "()V" } : Jvm.MethodName) object_method_1_code (1 : Nat) (Option.none : Option Jvm.ClassFile.FieldType)).before args0 about1 = true := code_word (m := ⟨0, 0⟩) (meth := k0m0) (c := k0c0) (by decide +kernel) rfl rfl rfl (by decide +kernel)
set_option maxRecDepth 65536 in
theorem w_c3 : (Jvm.Cond.code ({ cls := "org/keyward/securitymodel/NumberLists$Builder", name := "add", desc := "(I)V" } : Jvm.MethodName) prog_158_method_2_code (2 : Nat) (Option.none : Option Jvm.ClassFile.FieldType)).before args0 about1 = true := code_word (m := ⟨2, 1⟩) (meth := k2m1) (c := k2c1) (by decide +kernel) rfl rfl rfl (by decide +kernel)
set_option maxRecDepth 65536 in
theorem w_c4 : (Jvm.Cond.code ({ cls := "org/keyward/securitymodel/NumberLists$Builder", name := "end", desc := "()V" } : Jvm.MethodName) prog_158_method_3_code (1 : Nat) (Option.none : Option Jvm.ClassFile.FieldType)).before args0 about1 = true := code_word (m := ⟨2, 2⟩) (meth := k2m2) (c := k2c2) (by decide +kernel) rfl rfl rfl (by decide +kernel)
set_option maxRecDepth 65536 in
theorem w_c5 : (Jvm.Cond.code ({ cls := "org/keyward/securitymodel/NumberLists$Builder", name := "build", desc := "()Lorg/keyward/securitymodel/NumberLists;" } : Jvm.MethodName) prog_158_method_4_code (1 : Nat) (Option.some (Jvm.ClassFile.FieldType.object "org/keyward/securitymodel/NumberLists"))).before args0 about1 = true := code_word (m := ⟨2, 3⟩) (meth := k2m3) (c := k2c3) (by decide +kernel) rfl rfl rfl (by decide +kernel)
set_option maxRecDepth 65536 in
theorem w_c6 : (Jvm.Cond.code ({ cls := "java/util/Arrays", name := "copyOf", desc := "([II)[I" } : Jvm.MethodName) jdk_65_method_123_code (3 : Nat) (Option.some (Jvm.ClassFile.FieldType.array Jvm.ClassFile.FieldType.int))).before args0 about1 = true := code_word (m := ⟨4, 1⟩) (meth := k4m1) (c := k4c1) (by decide +kernel) rfl rfl rfl (by decide +kernel)
set_option maxRecDepth 65536 in
theorem w_c7 : (Jvm.Cond.code ({ cls := "java/lang/Math", name := "min", desc := "(II)I" } : Jvm.MethodName) jdk_29_method_69_code (2 : Nat) (Option.some Jvm.ClassFile.FieldType.int)).before args0 about1 = true := code_word (m := ⟨5, 1⟩) (meth := k5m1) (c := k5c1) (by decide +kernel) rfl rfl rfl (by decide +kernel)
set_option maxRecDepth 65536 in
theorem w_c8 : (Jvm.Cond.code ({ cls := "org/keyward/securitymodel/NumberLists", name := "<init>", desc := "([I[I)V" } : Jvm.MethodName) prog_157_method_1_code (3 : Nat) (Option.none : Option Jvm.ClassFile.FieldType)).before args0 about1 = true := code_word (m := ⟨3, 0⟩) (meth := k3m0) (c := k3c0) (by decide +kernel) rfl rfl rfl (by decide +kernel)
set_option maxRecDepth 65536 in
theorem w_c9 : (Jvm.Cond.code ({ cls := "org/keyward/securitymodel/NumberLists", name := "size", desc := "(I)I" } : Jvm.MethodName) prog_157_method_2_code (2 : Nat) (Option.some Jvm.ClassFile.FieldType.int)).before args0 about1 = true := code_word (m := ⟨3, 1⟩) (meth := k3m1) (c := k3c1) (by decide +kernel) rfl rfl rfl (by decide +kernel)
set_option maxRecDepth 65536 in
theorem w_c10 : (Jvm.Cond.code ({ cls := "org/keyward/securitymodel/NumberLists", name := "get", desc := "(II)I" } : Jvm.MethodName) prog_157_method_3_code (3 : Nat) (Option.some Jvm.ClassFile.FieldType.int)).before args0 about1 = true := code_word (m := ⟨3, 2⟩) (meth := k3m2) (c := k3c2) (by decide +kernel) rfl rfl rfl (by decide +kernel)
def codes1 : List Jvm.Cond := [Jvm.Cond.code x code maxLocals ret, Jvm.Cond.code ({ cls := "org/keyward/securitymodel/NumberLists$Builder", name := "<init>", desc := "(I)V" } : Jvm.MethodName) prog_158_method_1_code (2 : Nat) (Option.none : Option Jvm.ClassFile.FieldType), Jvm.Cond.code ({ cls := "java/lang/Object", name := "<init>", desc := "()V" } : Jvm.MethodName) object_method_1_code (1 : Nat) (Option.none : Option Jvm.ClassFile.FieldType), Jvm.Cond.code ({ cls := "org/keyward/securitymodel/NumberLists$Builder", name := "add", desc := "(I)V" } : Jvm.MethodName) prog_158_method_2_code (2 : Nat) (Option.none : Option Jvm.ClassFile.FieldType), Jvm.Cond.code ({ cls := "org/keyward/securitymodel/NumberLists$Builder", name := "end", desc := "()V" } : Jvm.MethodName) prog_158_method_3_code (1 : Nat) (Option.none : Option Jvm.ClassFile.FieldType), Jvm.Cond.code ({ cls := "org/keyward/securitymodel/NumberLists$Builder", name := "build", desc := "()Lorg/keyward/securitymodel/NumberLists;" } : Jvm.MethodName) prog_158_method_4_code (1 : Nat) (Option.some (Jvm.ClassFile.FieldType.object "org/keyward/securitymodel/NumberLists")), Jvm.Cond.code ({ cls := "java/util/Arrays", name := "copyOf", desc := "([II)[I" } : Jvm.MethodName) jdk_65_method_123_code (3 : Nat) (Option.some (Jvm.ClassFile.FieldType.array Jvm.ClassFile.FieldType.int)), Jvm.Cond.code ({ cls := "java/lang/Math", name := "min", desc := "(II)I" } : Jvm.MethodName) jdk_29_method_69_code (2 : Nat) (Option.some Jvm.ClassFile.FieldType.int), Jvm.Cond.code ({ cls := "org/keyward/securitymodel/NumberLists", name := "<init>", desc := "([I[I)V" } : Jvm.MethodName) prog_157_method_1_code (3 : Nat) (Option.none : Option Jvm.ClassFile.FieldType), Jvm.Cond.code ({ cls := "org/keyward/securitymodel/NumberLists", name := "size", desc := "(I)I" } : Jvm.MethodName) prog_157_method_2_code (2 : Nat) (Option.some Jvm.ClassFile.FieldType.int), Jvm.Cond.code ({ cls := "org/keyward/securitymodel/NumberLists", name := "get", desc := "(II)I" } : Jvm.MethodName) prog_157_method_3_code (3 : Nat) (Option.some Jvm.ClassFile.FieldType.int)]
set_option maxRecDepth 65536 in
theorem codes_eq : words1.filter isCode = codes1 := rfl
theorem w_codes : ∀ c ∈ words1.filter isCode, c.before args0 about1 = true := by
  rw [codes_eq]
  intro c hc
  simp only [codes1, List.mem_cons, List.not_mem_nil, or_false] at hc
  rcases hc with rfl | rfl | rfl | rfl | rfl | rfl | rfl | rfl | rfl | rfl | rfl
  · exact w_c0
  · exact w_c1
  · exact w_c2
  · exact w_c3
  · exact w_c4
  · exact w_c5
  · exact w_c6
  · exact w_c7
  · exact w_c8
  · exact w_c9
  · exact w_c10
set_option maxRecDepth 65536 in
theorem w_t1 : (words1.take 24).all (fun c => isCode c || c.before args0 about1) = true := by decide +kernel
set_option maxRecDepth 65536 in
theorem w_t2 : ((words1.drop 24).take 24).all (fun c => isCode c || c.before args0 about1) = true := by decide +kernel
set_option maxRecDepth 65536 in
theorem w_t3 : ((words1.drop 24).drop 24).all (fun c => isCode c || c.before args0 about1) = true := by decide +kernel
theorem w_tables : (allAtoms (Jvm.Cond.code x code maxLocals ret :: tables_1)).before args0 about1 = true := by
  rw [allAtoms_all]
  show words1.all (fun c => c.before args0 about1) = true
  refine all_split ?_ w_codes
  rw [← List.take_append_drop 24 words1, List.all_append, w_t1, ← List.take_append_drop 24 (words1.drop 24), List.all_append, w_t2, w_t3]
  rfl
set_option maxRecDepth 65536 in
theorem w_case : (Jvm.Cond.and given_1 narrow_1).before args0 about1 = true := by decide +kernel
theorem w_applies : (headSpec (Jvm.Cond.code x code maxLocals ret :: tables_1) room_1).applies x e0.platform about1 = true :=
  (Spec.applies_iff w_frames).mpr ⟨w_running, w_runnable, w_alone, w_named, w_hears, w_ripe, w_room, w_tables⟩
theorem atStart : AtStart classFile x code maxLocals ret World_1 tables_1 room_1 Calls_1 rest_1 Pre_1 launch0 p0 e0 about1 theMethod args0 below0 :=
  ⟨lists_1, trivial, launch0.admits_env _ _ _, launch0.least_env, fairChoices_fair.cas, fairChoices_fair.clock, w_frames, w_args, w_heap, w_applies, trivial, trivial, w_case⟩
end start1
theorem witness_1 : WitnessClaimed_1 := ⟨start1.p0, start1.e0, start1.about1, start1.theMethod, start1.args0, start1.below0, start1.atStart⟩
end Jvm.Pilot.@@N@@
