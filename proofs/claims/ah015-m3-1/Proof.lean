import JvmDerived
import JvmDerived.Pilot.@@N@@Statement
import JvmDerived.Pilot.@@N@@Code
set_option linter.unusedVariables false
set_option linter.unusedSimpArgs false
namespace Jvm.RoadKit
open Sem ClassFile Op Lib Jvm.Stand Jvm.Free Jvm.LawKit
section New
variable {p : Program} {l : Launch} {e : Env} {R : Room} {s : State} {m : MethodId} {args : Array Value} {below : List Frame} {meth : Method} {c : Code} {T : State} {locs : List Loc} {cells slots : Nat}
theorem retI (X : Stand p l e R s m args below meth c T locs cells slots) (hx : p.tables.exec = Jvm.exec) {pc : Nat} {Ls : Array Slot} {z : Int32} {rest : List Value} (hret : meth.sig.returnType = some .int) (hd : decode c.code pc = .ok (.ireturn, 1)) {fs : List Frame}
    (hl : ∀ (f : JFrame) (acts : List Action), f.method = m → f.locked = none → f.entered = [] → (doReturn e (T.setTop f) acts (some (.int z))).1 = T.setFrames fs) : Steps p.tables e below (T.setTop (mkF m pc Ls (.int z :: rest))) (T.setFrames fs) := by
  have hm' : T.vm.method? m = some meth := X.method'
  have hn : narrow .int (.int z) = .int z := rfl
  show Steps p.tables e below (T.setTop { method := m, pc := pc, locals := Ls, stack := _ :: rest, locked := none }) _
  jvm_step X.here [X.here.top, hx, hd, hm', hret, hn]
  first | (intro acts; rw [hl _ acts rfl rfl rfl]) | rw [hl _ _ rfl rfl rfl]
  exact Steps.refl _
end New
end Jvm.RoadKit
namespace Jvm.Pilot.@@N@@
open Jvm Jvm.ClassFile Sem Op Lib Jvm.Free Jvm.Stand Jvm.LawKit Jvm.RoadKit Bundle Jvm.Pilot.@@N@@.Jvm.D
theorem own_sta {Z : State} {h h' : Heap} {C n d : String} {v : Value} (F : Sta Z h C n d v) (K : Keep h h' []) : Sta Z h' C n d v := by
  obtain ⟨cf, i, k, f, st, cell, h1, h2, h3, h4, h5, r⟩ := F
  exact ⟨cf, i, k, f, st, cell, h1, h2, h3, h4, K.2.1 _ _ h5 nin0, r⟩
theorem own_getI (l : List Int32) (i : Nat) : (l.map Value.int).getD i (.int 0) = .int (l.getD i 0) := by
  rw [List.getD_eq_getElem?_getD, List.getD_eq_getElem?_getD, List.getElem?_map]
  cases l[i]? <;> rfl
theorem own_mod17 {x : Int32} (h : 0 ≤ x.toInt) : (x % (17 : Int32)).toInt = x.toInt % 17 := by
  rw [Int32.toInt_mod]
  show x.toInt.tmod 17 = _
  rw [Int.tmod_eq_emod_of_nonneg h]
theorem own_idx {x : Int32} (h : 0 ≤ x.toInt) : ¬ (x % (17 : Int32)) < 0 ∧ (x % (17 : Int32)) < 17 ∧ (x % (17 : Int32)).toNatClampNeg < 17 := by
  have e := own_mod17 h
  have e17 : (17 : Int32).toInt = 17 := by decide
  have e0 : (0 : Int32).toInt = 0 := by decide
  refine ⟨?_, ?_, ?_⟩
  · rw [Int32.lt_iff_toInt_lt, e, e0]; omega
  · rw [Int32.lt_iff_toInt_lt, e, e17]; omega
  · show (x % (17 : Int32)).toInt.toNat < 17
    rw [e]; omega
theorem own_eqI {t : Term} {args : Array Value} {s : State} {z : Int32} (h : (Cond.eq t (.int z)).value args s none s [] = some true) : t.eval args s none [] s = some (.int z) := by
  cases ht : t.eval args s none [] s with
  | none => simp [Cond.value, ht] at h
  | some x => cases x <;> simp [Cond.value, ht, Term.eval] at h ⊢ <;> exact h
theorem own_key {s : State} {args : Array Value} {n : String} (hi : (Cond.initialized "com/example/ack3/ack3/protocol/ApiKey").before args s = true) (hl : (Cond.laysStatic "com/example/ack3/ack3/protocol/ApiKey" n "Lcom/example/ack3/ack3/protocol/ApiKey;").before args s = true)
    (h1 : (Cond.exactly (.static "com/example/ack3/ack3/protocol/ApiKey" n "Lcom/example/ack3/ack3/protocol/ApiKey;") "com/example/ack3/ack3/protocol/ApiKey").value args s none s [] = some true) :
    ∃ a : Addr, (Term.static "com/example/ack3/ack3/protocol/ApiKey" n "Lcom/example/ack3/ack3/protocol/ApiKey;").eval args s none [] s = some (.ref a) ∧ Sta s s.heap "com/example/ack3/ack3/protocol/ApiKey" n "Lcom/example/ack3/ack3/protocol/ApiKey;" (.ref a) ∧ Exa s s.heap a "com/example/ack3/ack3/protocol/ApiKey" := by
  obtain ⟨a, ea⟩ := exa_v h1
  exact ⟨a, ea, Sta.start ea (Or.inr ⟨hi, hl⟩), Exa.start ea h1⟩
theorem own_fld {s : State} {args : Array Value} {n f : String} {a : Addr} {z : Int32} (ea : (Term.static "com/example/ack3/ack3/protocol/ApiKey" n "Lcom/example/ack3/ack3/protocol/ApiKey;").eval args s none [] s = some (.ref a)) (h2 : (Cond.eq (.field (.static "com/example/ack3/ack3/protocol/ApiKey" n "Lcom/example/ack3/ack3/protocol/ApiKey;") "com/example/ack3/ack3/protocol/ApiKey" f "S") (.int z)).value args s none s [] = some true) :
    Fld s s.heap a "com/example/ack3/ack3/protocol/ApiKey" f "S" (.int z) := by
  have q := own_eqI h2
  rw [fld_at ea] at q
  exact Fld.start q
def own_fl : List Int32 := [9, 12, 6, 9, 3, 3, 3, 4, 2, 1, 0, 0, 0, 0, 0, 0, 0]
theorem own_and (p : Int32) : 0 ≤ (p &&& (2147483647 : Int32)).toInt := by
  show 0 ≤ (p.toBitVec &&& 2147483647#32).toInt
  have h : (p.toBitVec &&& 2147483647#32).toNat ≤ 2147483647 := by rw [BitVec.toNat_and]; exact Nat.and_le_right
  rw [BitVec.toInt_eq_toNat_cond, if_pos (by omega)]
  omega
theorem d1_0 : decode prog_3_method_9_code 0 = .ok (.iload_n 1, 1) := by decide +kernel
theorem d1_1 : decode prog_3_method_9_code 1 = .ok (.aload_n 0, 1) := by decide +kernel
theorem d1_2 : decode prog_3_method_9_code 2 = .ok (.getfield 84, 3) := by decide +kernel
theorem d1_5 : decode prog_3_method_9_code 5 = .ok (.if_icmp .lt 7, 3) := by decide +kernel
theorem d1_12 : decode prog_3_method_9_code 12 = .ok (.iconst 0, 1) := by decide +kernel
theorem d1_13 : decode prog_3_method_9_code 13 = .ok (.ireturn, 1) := by decide +kernel
theorem pn_com_example_ack3_ack3_protocol_ApiKey : plainName "com/example/ack3/ack3/protocol/ApiKey" = true := by first | (simp [plainName, overriddenIn]; done) | decide +kernel
theorem ef_1 (m : MethodId) (x0 : Addr) (x1 : Int32) : entryFrame m #[(.ref x0), (.int x1)] 2 = mkF m 0 #[.val (.ref x0), .val (.int x1)] [] := by first | (simp [entryFrame, mkF, argsToLocals, Value.category]; done) | rfl
def Q1 (r : Int32) (h0 : Heap) (n0 : Nat) (v : Option Value) (h : Heap) (L : List Loc) : Prop := v = some (.int r) ∧ Fr n0 L ∧ h = h0
set_option maxRecDepth 65536 in
set_option maxHeartbeats 40000000 in
theorem rm1t (l : Launch) (Z : State) (a0 : Array Value) (hw : ∀ d ∈ tables_1, d.before a0 Z = true) (ws : List Jvm.Cond) (a1 : Addr) (p2 : Int32) (w2 : Int32) (h0 : Heap) (n0 : Nat) (Z0 : n0 ≤ h0.size) (F1 : Fld Z h0 a1 "com/example/ack3/ack3/protocol/ApiKey" "firstFlexibleVersion" "S" (.int w2)) (hc5 : p2 < w2) :
    MetFree l (⟨"com/example/ack3/ack3/protocol/ApiKey", "isFlexible", "(S)Z"⟩ : MethodName) (head1 (Jvm.Cond.code (⟨"com/example/ack3/ack3/protocol/ApiKey", "isFlexible", "(S)Z"⟩ : MethodName) prog_3_method_9_code 2 (some .boolean) :: ws) ({ frames := 0, cells := 0, slots := 0, locals := 0 } : Room)) (fun a U => a = #[(.ref a1), (.int p2)] ∧ Z.Warmed39 U.vm ∧ U.heap = h0) (fun _ _ _ _ _ => True) (fun _ U o U' => ∃ v L, o = .returned v ∧ Q1 0 h0 n0 v U'.heap L ∧ FrameEnd U o U' L ({ frames := 0, cells := 0, slots := 0, locals := 0 } : Room).cells ({ frames := 0, cells := 0, slots := 0, locals := 0 } : Room).slots) := by
  refine MetFree.of_bodySF (plainFor_of_name pn_com_example_ack3_ack3_protocol_ApiKey) hisR ?_
  intro p e s m args below meth cd s₁ Bd hml0 hPre hKc
  obtain ⟨rfl, hZ, hHp⟩ := hPre
  have hx := Bd.exec
  have hby := Bd.bytes
  have hml : cd.maxLocals = 2 := hml0
  have hown : s.vm.findClass "com/example/ack3/ack3/protocol/ApiKey" = some m.cls := findClass_of_methodNamed Bd.named
  have hnm := (name_of_methodNamed Bd.named Bd.method).1
  have X0 : Stand p l e ({ frames := 0, cells := 0, slots := 0, locals := 0 } : Room) s m #[(.ref a1), (.int p2)] below meth cd s₁ [] 0 0 := Stand.of_body Bd
  have e0 : s₁.heap = h0 := by rw [← hHp, Bd.state]; rfl
  have N0 := Fr.nil n0
  have pre0 : ∀ t, Steps p.tables e below (s₁.setTop (mkF m 0 #[.val (.ref a1), .val (.int p2)] [])) t → Steps p.tables e below (s₁.setTop (entryFrame m #[(.ref a1), (.int p2)] 2)) t := fun t kz => castTop (ef_1 m a1 p2) kz
  obtain ⟨T1, X1, e1, st1⟩ := getF X0 hx hZ hown (host := "") (Or.inl (hw _ (List.mem_of_getElem? (i := 45) rfl))) Via.refl e0 F1 (g := (mkF m 2 #[.val (.ref a1), .val (.int p2)] [(.ref a1), (.int p2)])) rfl rfl (hb hby d1_2)
  obtain ⟨fs, hr, hrun, hended, hW, hsame⟩ := X1.leave (v := some (.int (0 : Int32))) (fun h => by rw [Bd.returns] at h; cases h)
  refine ⟨_, _, pre0 _ ?_, hrun, hended, _, _, rfl, ?_, ⟨_, rfl⟩, hW, hsame.mono (by decide) (by decide)⟩
  · show Steps p.tables e below (s₁.setTop (mkF m 0 #[.val (.ref a1), .val (.int p2)] [])) _
    refine XS.iloadN X0.here hx rfl (hb hby d1_0) rfl ?_
    show Steps p.tables e below (s₁.setTop (mkF m 1 #[.val (.ref a1), .val (.int p2)] [(.int p2)])) _
    refine XS.aloadN X0.here hx rfl (hb hby d1_1) rfl rfl ?_
    show Steps p.tables e below (s₁.setTop (mkF m 2 #[.val (.ref a1), .val (.int p2)] [(.ref a1), (.int p2)])) _
    refine st1 _ ?_
    show Steps p.tables e below (T1.setTop (mkF m 5 #[.val (.ref a1), .val (.int p2)] [(.int w2), (.int p2)])) _
    refine XS.icmpYes X1.here hx rfl (pc0 := 5) (pc' := 12) rfl (hb hby d1_5) rfl (tlt hc5).1 (by decide) (by decide) ?_
    show Steps p.tables e below (T1.setTop (mkF m 12 #[.val (.ref a1), .val (.int p2)] [])) _
    refine XS.iconst X1.here hx rfl (hb hby d1_12) ?_
    show Steps p.tables e below (T1.setTop (mkF m 13 #[.val (.ref a1), .val (.int p2)] [(.int (0 : Int32))])) _
    exact retN X1 hx (t := .boolean) Bd.returns (by simp) (hb hby d1_13) hr
  · show Q1 0 h0 n0 _ T1.heap _
    rw [e1]
    exact ⟨rfl, N0, rfl⟩
theorem d1_8 : decode prog_3_method_9_code 8 = .ok (.iconst 1, 1) := by decide +kernel
theorem d1_9 : decode prog_3_method_9_code 9 = .ok (.goto 4, 3) := by decide +kernel
set_option maxRecDepth 65536 in
set_option maxHeartbeats 40000000 in
theorem rm1f (l : Launch) (Z : State) (a0 : Array Value) (hw : ∀ d ∈ tables_1, d.before a0 Z = true) (ws : List Jvm.Cond) (a1 : Addr) (p2 : Int32) (w2 : Int32) (h0 : Heap) (n0 : Nat) (Z0 : n0 ≤ h0.size) (F1 : Fld Z h0 a1 "com/example/ack3/ack3/protocol/ApiKey" "firstFlexibleVersion" "S" (.int w2)) (hc5 : ¬ (p2 < w2)) :
    MetFree l (⟨"com/example/ack3/ack3/protocol/ApiKey", "isFlexible", "(S)Z"⟩ : MethodName) (head1 (Jvm.Cond.code (⟨"com/example/ack3/ack3/protocol/ApiKey", "isFlexible", "(S)Z"⟩ : MethodName) prog_3_method_9_code 2 (some .boolean) :: ws) ({ frames := 0, cells := 0, slots := 0, locals := 0 } : Room)) (fun a U => a = #[(.ref a1), (.int p2)] ∧ Z.Warmed39 U.vm ∧ U.heap = h0) (fun _ _ _ _ _ => True) (fun _ U o U' => ∃ v L, o = .returned v ∧ Q1 1 h0 n0 v U'.heap L ∧ FrameEnd U o U' L ({ frames := 0, cells := 0, slots := 0, locals := 0 } : Room).cells ({ frames := 0, cells := 0, slots := 0, locals := 0 } : Room).slots) := by
  refine MetFree.of_bodySF (plainFor_of_name pn_com_example_ack3_ack3_protocol_ApiKey) hisR ?_
  intro p e s m args below meth cd s₁ Bd hml0 hPre hKc
  obtain ⟨rfl, hZ, hHp⟩ := hPre
  have hx := Bd.exec
  have hby := Bd.bytes
  have hml : cd.maxLocals = 2 := hml0
  have hown : s.vm.findClass "com/example/ack3/ack3/protocol/ApiKey" = some m.cls := findClass_of_methodNamed Bd.named
  have hnm := (name_of_methodNamed Bd.named Bd.method).1
  have X0 : Stand p l e ({ frames := 0, cells := 0, slots := 0, locals := 0 } : Room) s m #[(.ref a1), (.int p2)] below meth cd s₁ [] 0 0 := Stand.of_body Bd
  have e0 : s₁.heap = h0 := by rw [← hHp, Bd.state]; rfl
  have N0 := Fr.nil n0
  have pre0 : ∀ t, Steps p.tables e below (s₁.setTop (mkF m 0 #[.val (.ref a1), .val (.int p2)] [])) t → Steps p.tables e below (s₁.setTop (entryFrame m #[(.ref a1), (.int p2)] 2)) t := fun t kz => castTop (ef_1 m a1 p2) kz
  obtain ⟨T1, X1, e1, st1⟩ := getF X0 hx hZ hown (host := "") (Or.inl (hw _ (List.mem_of_getElem? (i := 45) rfl))) Via.refl e0 F1 (g := (mkF m 2 #[.val (.ref a1), .val (.int p2)] [(.ref a1), (.int p2)])) rfl rfl (hb hby d1_2)
  obtain ⟨fs, hr, hrun, hended, hW, hsame⟩ := X1.leave (v := some (.int (1 : Int32))) (fun h => by rw [Bd.returns] at h; cases h)
  refine ⟨_, _, pre0 _ ?_, hrun, hended, _, _, rfl, ?_, ⟨_, rfl⟩, hW, hsame.mono (by decide) (by decide)⟩
  · show Steps p.tables e below (s₁.setTop (mkF m 0 #[.val (.ref a1), .val (.int p2)] [])) _
    refine XS.iloadN X0.here hx rfl (hb hby d1_0) rfl ?_
    show Steps p.tables e below (s₁.setTop (mkF m 1 #[.val (.ref a1), .val (.int p2)] [(.int p2)])) _
    refine XS.aloadN X0.here hx rfl (hb hby d1_1) rfl rfl ?_
    show Steps p.tables e below (s₁.setTop (mkF m 2 #[.val (.ref a1), .val (.int p2)] [(.ref a1), (.int p2)])) _
    refine st1 _ ?_
    show Steps p.tables e below (T1.setTop (mkF m 5 #[.val (.ref a1), .val (.int p2)] [(.int w2), (.int p2)])) _
    refine XS.icmpNo X1.here hx rfl (hb hby d1_5) rfl (flt hc5).1 ?_
    show Steps p.tables e below (T1.setTop (mkF m 8 #[.val (.ref a1), .val (.int p2)] [])) _
    refine XS.iconst X1.here hx rfl (hb hby d1_8) ?_
    show Steps p.tables e below (T1.setTop (mkF m 9 #[.val (.ref a1), .val (.int p2)] [(.int (1 : Int32))])) _
    refine XS.goto X1.here hx rfl (pc0 := 9) (pc' := 13) rfl (hb hby d1_9) (by decide) (by decide) ?_
    show Steps p.tables e below (T1.setTop (mkF m 13 #[.val (.ref a1), .val (.int p2)] [(.int (1 : Int32))])) _
    exact retN X1 hx (t := .boolean) Bd.returns (by simp) (hb hby d1_13) hr
  · show Q1 1 h0 n0 _ T1.heap _
    rw [e1]
    exact ⟨rfl, N0, rfl⟩
set_option maxRecDepth 65536 in
set_option maxHeartbeats 40000000 in
theorem segA {p : Program} {l : Launch} {e : Env} {s : State} {m : MethodId} {args : Array Value} {below : List Frame} {meth : Method} {c : Code} {T0 : State} {locs : List Loc} {Z : State} {a0 : Array Value} {h0 : Heap} {n0 : Nat} (p1 p2 : Int32) (w0 w1 w2 w3 w4 w5 w6 w7 w8 w9 w10 w11 w12 w13 w14 w15 w16 : Addr) (X0 : Stand p l e room_1 s m args below meth c T0 locs (0) (0)) (hx : p.tables.exec = Jvm.exec) (hZ : Z.Warmed39 s.vm) (hw : ∀ d ∈ tables_1, d.before a0 Z = true) (hby : c.code = code) (hml : c.maxLocals = 7) (hown : s.vm.findClass "com/example/ack3/ack3/protocol/ApiKeyIsFlexiblePinLaw" = some m.cls) (e0 : T0.heap = h0) (N0 : Fr n0 locs) (Z0 : n0 ≤ h0.size) (Sy0 : Sta Z h0 "com/example/ack3/ack3/protocol/ApiKey" "PRODUCE" "Lcom/example/ack3/ack3/protocol/ApiKey;" (.ref w0)) (Sy1 : Sta Z h0 "com/example/ack3/ack3/protocol/ApiKey" "FETCH" "Lcom/example/ack3/ack3/protocol/ApiKey;" (.ref w1)) (Sy2 : Sta Z h0 "com/example/ack3/ack3/protocol/ApiKey" "LIST_OFFSETS" "Lcom/example/ack3/ack3/protocol/ApiKey;" (.ref w2)) (Sy3 : Sta Z h0 "com/example/ack3/ack3/protocol/ApiKey" "METADATA" "Lcom/example/ack3/ack3/protocol/ApiKey;" (.ref w3)) (Sy4 : Sta Z h0 "com/example/ack3/ack3/protocol/ApiKey" "FIND_COORDINATOR" "Lcom/example/ack3/ack3/protocol/ApiKey;" (.ref w4)) (Sy5 : Sta Z h0 "com/example/ack3/ack3/protocol/ApiKey" "LIST_GROUPS" "Lcom/example/ack3/ack3/protocol/ApiKey;" (.ref w5)) (Sy6 : Sta Z h0 "com/example/ack3/ack3/protocol/ApiKey" "API_VERSIONS" "Lcom/example/ack3/ack3/protocol/ApiKey;" (.ref w6)) (Sy7 : Sta Z h0 "com/example/ack3/ack3/protocol/ApiKey" "DESCRIBE_CONFIGS" "Lcom/example/ack3/ack3/protocol/ApiKey;" (.ref w7)) (Sy8 : Sta Z h0 "com/example/ack3/ack3/protocol/ApiKey" "DELETE_GROUPS" "Lcom/example/ack3/ack3/protocol/ApiKey;" (.ref w8)) (Sy9 : Sta Z h0 "com/example/ack3/ack3/protocol/ApiKey" "INCREMENTAL_ALTER_CONFIGS" "Lcom/example/ack3/ack3/protocol/ApiKey;" (.ref w9)) (Sy10 : Sta Z h0 "com/example/ack3/ack3/protocol/ApiKey" "SHARE_GROUP_HEARTBEAT" "Lcom/example/ack3/ack3/protocol/ApiKey;" (.ref w10)) (Sy11 : Sta Z h0 "com/example/ack3/ack3/protocol/ApiKey" "SHARE_GROUP_DESCRIBE" "Lcom/example/ack3/ack3/protocol/ApiKey;" (.ref w11)) (Sy12 : Sta Z h0 "com/example/ack3/ack3/protocol/ApiKey" "SHARE_FETCH" "Lcom/example/ack3/ack3/protocol/ApiKey;" (.ref w12)) (Sy13 : Sta Z h0 "com/example/ack3/ack3/protocol/ApiKey" "SHARE_ACKNOWLEDGE" "Lcom/example/ack3/ack3/protocol/ApiKey;" (.ref w13)) (Sy14 : Sta Z h0 "com/example/ack3/ack3/protocol/ApiKey" "DESCRIBE_SHARE_GROUP_OFFSETS" "Lcom/example/ack3/ack3/protocol/ApiKey;" (.ref w14)) (Sy15 : Sta Z h0 "com/example/ack3/ack3/protocol/ApiKey" "ALTER_SHARE_GROUP_OFFSETS" "Lcom/example/ack3/ack3/protocol/ApiKey;" (.ref w15)) (Sy16 : Sta Z h0 "com/example/ack3/ack3/protocol/ApiKey" "DELETE_SHARE_GROUP_OFFSETS" "Lcom/example/ack3/ack3/protocol/ApiKey;" (.ref w16)) (Ex0 : Exa Z h0 w0 "com/example/ack3/ack3/protocol/ApiKey") (Ex1 : Exa Z h0 w1 "com/example/ack3/ack3/protocol/ApiKey") (Ex2 : Exa Z h0 w2 "com/example/ack3/ack3/protocol/ApiKey") (Ex3 : Exa Z h0 w3 "com/example/ack3/ack3/protocol/ApiKey") (Ex4 : Exa Z h0 w4 "com/example/ack3/ack3/protocol/ApiKey") (Ex5 : Exa Z h0 w5 "com/example/ack3/ack3/protocol/ApiKey") (Ex6 : Exa Z h0 w6 "com/example/ack3/ack3/protocol/ApiKey") (Ex7 : Exa Z h0 w7 "com/example/ack3/ack3/protocol/ApiKey") (Ex8 : Exa Z h0 w8 "com/example/ack3/ack3/protocol/ApiKey") (Ex9 : Exa Z h0 w9 "com/example/ack3/ack3/protocol/ApiKey") (Ex10 : Exa Z h0 w10 "com/example/ack3/ack3/protocol/ApiKey") (Ex11 : Exa Z h0 w11 "com/example/ack3/ack3/protocol/ApiKey") (Ex12 : Exa Z h0 w12 "com/example/ack3/ack3/protocol/ApiKey") (Ex13 : Exa Z h0 w13 "com/example/ack3/ack3/protocol/ApiKey") (Ex14 : Exa Z h0 w14 "com/example/ack3/ack3/protocol/ApiKey") (Ex15 : Exa Z h0 w15 "com/example/ack3/ack3/protocol/ApiKey") (Ex16 : Exa Z h0 w16 "com/example/ack3/ack3/protocol/ApiKey")  :
    ∃ (T' : State) (h' : Heap) (locs' : List Loc) (ka : Addr) (kb : Addr) (k1 : ClassId) (k2 : ClassId), Stand p l e room_1 s m args below meth c T' locs' (0 + 1 + 1) (0 + 17 + 17) ∧ T'.heap = h' ∧ Fr n0 locs' ∧ n0 ≤ h'.size ∧ Keep h0 h' [] ∧ Arv Z h' ka k1 (.object "com/example/ack3/ack3/protocol/ApiKey") (17 : Int32) [(.ref w0), (.ref w1), (.ref w2), (.ref w3), (.ref w4), (.ref w5), (.ref w6), (.ref w7), (.ref w8), (.ref w9), (.ref w10), (.ref w11), (.ref w12), (.ref w13), (.ref w14), (.ref w15), (.ref w16)] .null ∧ Arv Z h' kb k2 .int (17 : Int32) (own_fl.map Value.int) (.int (0 : Int32)) ∧ 
      ∀ target, Steps p.tables e below (T'.setTop (mkF m 207 #[.val (.int p1), .val (.int p2), .val (.ref ka), .val (.ref kb), .unset, .unset, .unset] [])) target → Steps p.tables e below (T0.setTop (mkF m 0 #[.val (.int p1), .val (.int p2), .unset, .unset, .unset, .unset, .unset] [])) target := by
  obtain ⟨T1, h1, k1, X1, e1, E1, A1, O1, st1⟩ := newR X0 hx hZ hown (hw _ (List.mem_of_getElem? (i := 0) rfl)) (hw _ (List.mem_of_getElem? (i := 1) rfl)) e0 (g := (mkF m 2 #[.val (.int p1), .val (.int p2), .unset, .unset, .unset, .unset, .unset] [(.int (17 : Int32))])) rfl (hb hby at_2) rfl (by decide) (cap := 17) (by decide) (by decide) (Nat.le_of_ble_eq_true rfl) (Nat.le_of_ble_eq_true rfl)
  obtain ⟨ka, g1⟩ : ∃ z, z = h0.size := ⟨_, rfl⟩
  rw [← g1] at A1 st1
  have g_ka : n0 ≤ ka := Nat.le_trans Z0 (Nat.le_of_eq g1.symm)
  have sz_ka : h0.size ≤ ka := Nat.le_trans (Keep.refl h0 []).1 (Nat.le_of_eq g1.symm)
  have z1 : n0 ≤ h1.size := Nat.le_trans Z0 E1.1
  have K2 : Keep h0 h1 [] := (Keep.refl h0 []).ext E1
  have V_ka : Arv Z h1 ka k1 (.object "com/example/ack3/ack3/protocol/ApiKey") (17 : Int32) [.null, .null, .null, .null, .null, .null, .null, .null, .null, .null, .null, .null, .null, .null, .null, .null, .null] .null := (Arv.new A1 (by decide)).pad (pad_rep [] .null 17)
  obtain ⟨T3, X3, e3, st3⟩ := getS2 X1 hx hZ hown (host := "") (Or.inl (hw _ (List.mem_of_getElem? (i := 2) rfl))) Via.refl e1 (own_sta Sy0 K2) (g := (mkF m 7 #[.val (.int p1), .val (.int p2), .unset, .unset, .unset, .unset, .unset] [(.int (0 : Int32)), (.ref ka), (.ref ka)])) rfl (hb hby at_7)
  obtain ⟨c4, Ar4, q4, S4, M4, H4, G4⟩ := V_ka
  have hin4 : ¬ ((0 : Int32) < 0 ∨ c4.slots.size ≤ ((0 : Int32)).toNatClampNeg) := inb_of S4 ⟨by decide, by decide⟩
  obtain ⟨T5, h5, X5, e5, W5, st5⟩ := stR X3 hx hZ e3 Ar4 (j := (0 : Int32)) hin4 rfl (Sto.ofV Ar4 q4 O1 (Ins.self (Ex0.keep K2))) (g := (mkF m 10 #[.val (.int p1), .val (.int p2), .unset, .unset, .unset, .unset, .unset] [(.ref w0), (.int (0 : Int32)), (.ref ka), (.ref ka)])) rfl rfl (hb hby at_10)
  have V5 : Arv Z h5 ka k1 (.object "com/example/ack3/ack3/protocol/ApiKey") (17 : Int32) [(.ref w0), .null, .null, .null, .null, .null, .null, .null, .null, .null, .null, .null, .null, .null, .null, .null, .null] .null := Arv.set Ar4 q4 S4 M4 H4 G4 rfl W5 0 rfl (Nat.le_of_ble_eq_true rfl)
  have K6 : Keep h0 h5 [] := K2.wr W5 (Or.inr sz_ka)
  have N5 := Fr.snoc X5 N0 g_ka
  have z5 : n0 ≤ h5.size := Nat.le_trans z1 (Keep.of_wr W5).1
  obtain ⟨T7, X7, e7, st7⟩ := getS2 X5 hx hZ hown (host := "") (Or.inl (hw _ (List.mem_of_getElem? (i := 6) rfl))) Via.refl e5 (own_sta Sy1 K6) (g := (mkF m 13 #[.val (.int p1), .val (.int p2), .unset, .unset, .unset, .unset, .unset] [(.int (1 : Int32)), (.ref ka), (.ref ka)])) rfl (hb hby at_13)
  obtain ⟨c8, Ar8, q8, S8, M8, H8, G8⟩ := V5
  have hin8 : ¬ ((1 : Int32) < 0 ∨ c8.slots.size ≤ ((1 : Int32)).toNatClampNeg) := inb_of S8 ⟨by decide, by decide⟩
  obtain ⟨T9, h9, X9, e9, W9, st9⟩ := stR X7 hx hZ e7 Ar8 (j := (1 : Int32)) hin8 rfl (Sto.ofV Ar8 q8 O1 (Ins.self (Ex1.keep K6))) (g := (mkF m 16 #[.val (.int p1), .val (.int p2), .unset, .unset, .unset, .unset, .unset] [(.ref w1), (.int (1 : Int32)), (.ref ka), (.ref ka)])) rfl rfl (hb hby at_16)
  have V9 : Arv Z h9 ka k1 (.object "com/example/ack3/ack3/protocol/ApiKey") (17 : Int32) [(.ref w0), (.ref w1), .null, .null, .null, .null, .null, .null, .null, .null, .null, .null, .null, .null, .null, .null, .null] .null := Arv.set Ar8 q8 S8 M8 H8 G8 rfl W9 1 rfl (Nat.le_of_ble_eq_true rfl)
  have K10 : Keep h0 h9 [] := K6.wr W9 (Or.inr sz_ka)
  have N9 := Fr.snoc X9 N5 g_ka
  have z9 : n0 ≤ h9.size := Nat.le_trans z5 (Keep.of_wr W9).1
  obtain ⟨T11, X11, e11, st11⟩ := getS2 X9 hx hZ hown (host := "") (Or.inl (hw _ (List.mem_of_getElem? (i := 8) rfl))) Via.refl e9 (own_sta Sy2 K10) (g := (mkF m 19 #[.val (.int p1), .val (.int p2), .unset, .unset, .unset, .unset, .unset] [(.int (2 : Int32)), (.ref ka), (.ref ka)])) rfl (hb hby at_19)
  obtain ⟨c12, Ar12, q12, S12, M12, H12, G12⟩ := V9
  have hin12 : ¬ ((2 : Int32) < 0 ∨ c12.slots.size ≤ ((2 : Int32)).toNatClampNeg) := inb_of S12 ⟨by decide, by decide⟩
  obtain ⟨T13, h13, X13, e13, W13, st13⟩ := stR X11 hx hZ e11 Ar12 (j := (2 : Int32)) hin12 rfl (Sto.ofV Ar12 q12 O1 (Ins.self (Ex2.keep K10))) (g := (mkF m 22 #[.val (.int p1), .val (.int p2), .unset, .unset, .unset, .unset, .unset] [(.ref w2), (.int (2 : Int32)), (.ref ka), (.ref ka)])) rfl rfl (hb hby at_22)
  have V13 : Arv Z h13 ka k1 (.object "com/example/ack3/ack3/protocol/ApiKey") (17 : Int32) [(.ref w0), (.ref w1), (.ref w2), .null, .null, .null, .null, .null, .null, .null, .null, .null, .null, .null, .null, .null, .null] .null := Arv.set Ar12 q12 S12 M12 H12 G12 rfl W13 2 rfl (Nat.le_of_ble_eq_true rfl)
  have K14 : Keep h0 h13 [] := K10.wr W13 (Or.inr sz_ka)
  have N13 := Fr.snoc X13 N9 g_ka
  have z13 : n0 ≤ h13.size := Nat.le_trans z9 (Keep.of_wr W13).1
  obtain ⟨T15, X15, e15, st15⟩ := getS2 X13 hx hZ hown (host := "") (Or.inl (hw _ (List.mem_of_getElem? (i := 10) rfl))) Via.refl e13 (own_sta Sy3 K14) (g := (mkF m 25 #[.val (.int p1), .val (.int p2), .unset, .unset, .unset, .unset, .unset] [(.int (3 : Int32)), (.ref ka), (.ref ka)])) rfl (hb hby at_25)
  obtain ⟨c16, Ar16, q16, S16, M16, H16, G16⟩ := V13
  have hin16 : ¬ ((3 : Int32) < 0 ∨ c16.slots.size ≤ ((3 : Int32)).toNatClampNeg) := inb_of S16 ⟨by decide, by decide⟩
  obtain ⟨T17, h17, X17, e17, W17, st17⟩ := stR X15 hx hZ e15 Ar16 (j := (3 : Int32)) hin16 rfl (Sto.ofV Ar16 q16 O1 (Ins.self (Ex3.keep K14))) (g := (mkF m 28 #[.val (.int p1), .val (.int p2), .unset, .unset, .unset, .unset, .unset] [(.ref w3), (.int (3 : Int32)), (.ref ka), (.ref ka)])) rfl rfl (hb hby at_28)
  have V17 : Arv Z h17 ka k1 (.object "com/example/ack3/ack3/protocol/ApiKey") (17 : Int32) [(.ref w0), (.ref w1), (.ref w2), (.ref w3), .null, .null, .null, .null, .null, .null, .null, .null, .null, .null, .null, .null, .null] .null := Arv.set Ar16 q16 S16 M16 H16 G16 rfl W17 3 rfl (Nat.le_of_ble_eq_true rfl)
  have K18 : Keep h0 h17 [] := K14.wr W17 (Or.inr sz_ka)
  have N17 := Fr.snoc X17 N13 g_ka
  have z17 : n0 ≤ h17.size := Nat.le_trans z13 (Keep.of_wr W17).1
  obtain ⟨T19, X19, e19, st19⟩ := getS2 X17 hx hZ hown (host := "") (Or.inl (hw _ (List.mem_of_getElem? (i := 12) rfl))) Via.refl e17 (own_sta Sy4 K18) (g := (mkF m 31 #[.val (.int p1), .val (.int p2), .unset, .unset, .unset, .unset, .unset] [(.int (4 : Int32)), (.ref ka), (.ref ka)])) rfl (hb hby at_31)
  obtain ⟨c20, Ar20, q20, S20, M20, H20, G20⟩ := V17
  have hin20 : ¬ ((4 : Int32) < 0 ∨ c20.slots.size ≤ ((4 : Int32)).toNatClampNeg) := inb_of S20 ⟨by decide, by decide⟩
  obtain ⟨T21, h21, X21, e21, W21, st21⟩ := stR X19 hx hZ e19 Ar20 (j := (4 : Int32)) hin20 rfl (Sto.ofV Ar20 q20 O1 (Ins.self (Ex4.keep K18))) (g := (mkF m 34 #[.val (.int p1), .val (.int p2), .unset, .unset, .unset, .unset, .unset] [(.ref w4), (.int (4 : Int32)), (.ref ka), (.ref ka)])) rfl rfl (hb hby at_34)
  have V21 : Arv Z h21 ka k1 (.object "com/example/ack3/ack3/protocol/ApiKey") (17 : Int32) [(.ref w0), (.ref w1), (.ref w2), (.ref w3), (.ref w4), .null, .null, .null, .null, .null, .null, .null, .null, .null, .null, .null, .null] .null := Arv.set Ar20 q20 S20 M20 H20 G20 rfl W21 4 rfl (Nat.le_of_ble_eq_true rfl)
  have K22 : Keep h0 h21 [] := K18.wr W21 (Or.inr sz_ka)
  have N21 := Fr.snoc X21 N17 g_ka
  have z21 : n0 ≤ h21.size := Nat.le_trans z17 (Keep.of_wr W21).1
  obtain ⟨T23, X23, e23, st23⟩ := getS2 X21 hx hZ hown (host := "") (Or.inl (hw _ (List.mem_of_getElem? (i := 14) rfl))) Via.refl e21 (own_sta Sy5 K22) (g := (mkF m 37 #[.val (.int p1), .val (.int p2), .unset, .unset, .unset, .unset, .unset] [(.int (5 : Int32)), (.ref ka), (.ref ka)])) rfl (hb hby at_37)
  obtain ⟨c24, Ar24, q24, S24, M24, H24, G24⟩ := V21
  have hin24 : ¬ ((5 : Int32) < 0 ∨ c24.slots.size ≤ ((5 : Int32)).toNatClampNeg) := inb_of S24 ⟨by decide, by decide⟩
  obtain ⟨T25, h25, X25, e25, W25, st25⟩ := stR X23 hx hZ e23 Ar24 (j := (5 : Int32)) hin24 rfl (Sto.ofV Ar24 q24 O1 (Ins.self (Ex5.keep K22))) (g := (mkF m 40 #[.val (.int p1), .val (.int p2), .unset, .unset, .unset, .unset, .unset] [(.ref w5), (.int (5 : Int32)), (.ref ka), (.ref ka)])) rfl rfl (hb hby at_40)
  have V25 : Arv Z h25 ka k1 (.object "com/example/ack3/ack3/protocol/ApiKey") (17 : Int32) [(.ref w0), (.ref w1), (.ref w2), (.ref w3), (.ref w4), (.ref w5), .null, .null, .null, .null, .null, .null, .null, .null, .null, .null, .null] .null := Arv.set Ar24 q24 S24 M24 H24 G24 rfl W25 5 rfl (Nat.le_of_ble_eq_true rfl)
  have K26 : Keep h0 h25 [] := K22.wr W25 (Or.inr sz_ka)
  have N25 := Fr.snoc X25 N21 g_ka
  have z25 : n0 ≤ h25.size := Nat.le_trans z21 (Keep.of_wr W25).1
  obtain ⟨T27, X27, e27, st27⟩ := getS2 X25 hx hZ hown (host := "") (Or.inl (hw _ (List.mem_of_getElem? (i := 16) rfl))) Via.refl e25 (own_sta Sy6 K26) (g := (mkF m 44 #[.val (.int p1), .val (.int p2), .unset, .unset, .unset, .unset, .unset] [(.int (6 : Int32)), (.ref ka), (.ref ka)])) rfl (hb hby at_44)
  obtain ⟨c28, Ar28, q28, S28, M28, H28, G28⟩ := V25
  have hin28 : ¬ ((6 : Int32) < 0 ∨ c28.slots.size ≤ ((6 : Int32)).toNatClampNeg) := inb_of S28 ⟨by decide, by decide⟩
  obtain ⟨T29, h29, X29, e29, W29, st29⟩ := stR X27 hx hZ e27 Ar28 (j := (6 : Int32)) hin28 rfl (Sto.ofV Ar28 q28 O1 (Ins.self (Ex6.keep K26))) (g := (mkF m 47 #[.val (.int p1), .val (.int p2), .unset, .unset, .unset, .unset, .unset] [(.ref w6), (.int (6 : Int32)), (.ref ka), (.ref ka)])) rfl rfl (hb hby at_47)
  have V29 : Arv Z h29 ka k1 (.object "com/example/ack3/ack3/protocol/ApiKey") (17 : Int32) [(.ref w0), (.ref w1), (.ref w2), (.ref w3), (.ref w4), (.ref w5), (.ref w6), .null, .null, .null, .null, .null, .null, .null, .null, .null, .null] .null := Arv.set Ar28 q28 S28 M28 H28 G28 rfl W29 6 rfl (Nat.le_of_ble_eq_true rfl)
  have K30 : Keep h0 h29 [] := K26.wr W29 (Or.inr sz_ka)
  have N29 := Fr.snoc X29 N25 g_ka
  have z29 : n0 ≤ h29.size := Nat.le_trans z25 (Keep.of_wr W29).1
  obtain ⟨T31, X31, e31, st31⟩ := getS2 X29 hx hZ hown (host := "") (Or.inl (hw _ (List.mem_of_getElem? (i := 18) rfl))) Via.refl e29 (own_sta Sy7 K30) (g := (mkF m 51 #[.val (.int p1), .val (.int p2), .unset, .unset, .unset, .unset, .unset] [(.int (7 : Int32)), (.ref ka), (.ref ka)])) rfl (hb hby at_51)
  obtain ⟨c32, Ar32, q32, S32, M32, H32, G32⟩ := V29
  have hin32 : ¬ ((7 : Int32) < 0 ∨ c32.slots.size ≤ ((7 : Int32)).toNatClampNeg) := inb_of S32 ⟨by decide, by decide⟩
  obtain ⟨T33, h33, X33, e33, W33, st33⟩ := stR X31 hx hZ e31 Ar32 (j := (7 : Int32)) hin32 rfl (Sto.ofV Ar32 q32 O1 (Ins.self (Ex7.keep K30))) (g := (mkF m 54 #[.val (.int p1), .val (.int p2), .unset, .unset, .unset, .unset, .unset] [(.ref w7), (.int (7 : Int32)), (.ref ka), (.ref ka)])) rfl rfl (hb hby at_54)
  have V33 : Arv Z h33 ka k1 (.object "com/example/ack3/ack3/protocol/ApiKey") (17 : Int32) [(.ref w0), (.ref w1), (.ref w2), (.ref w3), (.ref w4), (.ref w5), (.ref w6), (.ref w7), .null, .null, .null, .null, .null, .null, .null, .null, .null] .null := Arv.set Ar32 q32 S32 M32 H32 G32 rfl W33 7 rfl (Nat.le_of_ble_eq_true rfl)
  have K34 : Keep h0 h33 [] := K30.wr W33 (Or.inr sz_ka)
  have N33 := Fr.snoc X33 N29 g_ka
  have z33 : n0 ≤ h33.size := Nat.le_trans z29 (Keep.of_wr W33).1
  obtain ⟨T35, X35, e35, st35⟩ := getS2 X33 hx hZ hown (host := "") (Or.inl (hw _ (List.mem_of_getElem? (i := 20) rfl))) Via.refl e33 (own_sta Sy8 K34) (g := (mkF m 58 #[.val (.int p1), .val (.int p2), .unset, .unset, .unset, .unset, .unset] [(.int (8 : Int32)), (.ref ka), (.ref ka)])) rfl (hb hby at_58)
  obtain ⟨c36, Ar36, q36, S36, M36, H36, G36⟩ := V33
  have hin36 : ¬ ((8 : Int32) < 0 ∨ c36.slots.size ≤ ((8 : Int32)).toNatClampNeg) := inb_of S36 ⟨by decide, by decide⟩
  obtain ⟨T37, h37, X37, e37, W37, st37⟩ := stR X35 hx hZ e35 Ar36 (j := (8 : Int32)) hin36 rfl (Sto.ofV Ar36 q36 O1 (Ins.self (Ex8.keep K34))) (g := (mkF m 61 #[.val (.int p1), .val (.int p2), .unset, .unset, .unset, .unset, .unset] [(.ref w8), (.int (8 : Int32)), (.ref ka), (.ref ka)])) rfl rfl (hb hby at_61)
  have V37 : Arv Z h37 ka k1 (.object "com/example/ack3/ack3/protocol/ApiKey") (17 : Int32) [(.ref w0), (.ref w1), (.ref w2), (.ref w3), (.ref w4), (.ref w5), (.ref w6), (.ref w7), (.ref w8), .null, .null, .null, .null, .null, .null, .null, .null] .null := Arv.set Ar36 q36 S36 M36 H36 G36 rfl W37 8 rfl (Nat.le_of_ble_eq_true rfl)
  have K38 : Keep h0 h37 [] := K34.wr W37 (Or.inr sz_ka)
  have N37 := Fr.snoc X37 N33 g_ka
  have z37 : n0 ≤ h37.size := Nat.le_trans z33 (Keep.of_wr W37).1
  obtain ⟨T39, X39, e39, st39⟩ := getS2 X37 hx hZ hown (host := "") (Or.inl (hw _ (List.mem_of_getElem? (i := 22) rfl))) Via.refl e37 (own_sta Sy9 K38) (g := (mkF m 65 #[.val (.int p1), .val (.int p2), .unset, .unset, .unset, .unset, .unset] [(.int (9 : Int32)), (.ref ka), (.ref ka)])) rfl (hb hby at_65)
  obtain ⟨c40, Ar40, q40, S40, M40, H40, G40⟩ := V37
  have hin40 : ¬ ((9 : Int32) < 0 ∨ c40.slots.size ≤ ((9 : Int32)).toNatClampNeg) := inb_of S40 ⟨by decide, by decide⟩
  obtain ⟨T41, h41, X41, e41, W41, st41⟩ := stR X39 hx hZ e39 Ar40 (j := (9 : Int32)) hin40 rfl (Sto.ofV Ar40 q40 O1 (Ins.self (Ex9.keep K38))) (g := (mkF m 68 #[.val (.int p1), .val (.int p2), .unset, .unset, .unset, .unset, .unset] [(.ref w9), (.int (9 : Int32)), (.ref ka), (.ref ka)])) rfl rfl (hb hby at_68)
  have V41 : Arv Z h41 ka k1 (.object "com/example/ack3/ack3/protocol/ApiKey") (17 : Int32) [(.ref w0), (.ref w1), (.ref w2), (.ref w3), (.ref w4), (.ref w5), (.ref w6), (.ref w7), (.ref w8), (.ref w9), .null, .null, .null, .null, .null, .null, .null] .null := Arv.set Ar40 q40 S40 M40 H40 G40 rfl W41 9 rfl (Nat.le_of_ble_eq_true rfl)
  have K42 : Keep h0 h41 [] := K38.wr W41 (Or.inr sz_ka)
  have N41 := Fr.snoc X41 N37 g_ka
  have z41 : n0 ≤ h41.size := Nat.le_trans z37 (Keep.of_wr W41).1
  obtain ⟨T43, X43, e43, st43⟩ := getS2 X41 hx hZ hown (host := "") (Or.inl (hw _ (List.mem_of_getElem? (i := 24) rfl))) Via.refl e41 (own_sta Sy10 K42) (g := (mkF m 72 #[.val (.int p1), .val (.int p2), .unset, .unset, .unset, .unset, .unset] [(.int (10 : Int32)), (.ref ka), (.ref ka)])) rfl (hb hby at_72)
  obtain ⟨c44, Ar44, q44, S44, M44, H44, G44⟩ := V41
  have hin44 : ¬ ((10 : Int32) < 0 ∨ c44.slots.size ≤ ((10 : Int32)).toNatClampNeg) := inb_of S44 ⟨by decide, by decide⟩
  obtain ⟨T45, h45, X45, e45, W45, st45⟩ := stR X43 hx hZ e43 Ar44 (j := (10 : Int32)) hin44 rfl (Sto.ofV Ar44 q44 O1 (Ins.self (Ex10.keep K42))) (g := (mkF m 75 #[.val (.int p1), .val (.int p2), .unset, .unset, .unset, .unset, .unset] [(.ref w10), (.int (10 : Int32)), (.ref ka), (.ref ka)])) rfl rfl (hb hby at_75)
  have V45 : Arv Z h45 ka k1 (.object "com/example/ack3/ack3/protocol/ApiKey") (17 : Int32) [(.ref w0), (.ref w1), (.ref w2), (.ref w3), (.ref w4), (.ref w5), (.ref w6), (.ref w7), (.ref w8), (.ref w9), (.ref w10), .null, .null, .null, .null, .null, .null] .null := Arv.set Ar44 q44 S44 M44 H44 G44 rfl W45 10 rfl (Nat.le_of_ble_eq_true rfl)
  have K46 : Keep h0 h45 [] := K42.wr W45 (Or.inr sz_ka)
  have N45 := Fr.snoc X45 N41 g_ka
  have z45 : n0 ≤ h45.size := Nat.le_trans z41 (Keep.of_wr W45).1
  obtain ⟨T47, X47, e47, st47⟩ := getS2 X45 hx hZ hown (host := "") (Or.inl (hw _ (List.mem_of_getElem? (i := 26) rfl))) Via.refl e45 (own_sta Sy11 K46) (g := (mkF m 79 #[.val (.int p1), .val (.int p2), .unset, .unset, .unset, .unset, .unset] [(.int (11 : Int32)), (.ref ka), (.ref ka)])) rfl (hb hby at_79)
  obtain ⟨c48, Ar48, q48, S48, M48, H48, G48⟩ := V45
  have hin48 : ¬ ((11 : Int32) < 0 ∨ c48.slots.size ≤ ((11 : Int32)).toNatClampNeg) := inb_of S48 ⟨by decide, by decide⟩
  obtain ⟨T49, h49, X49, e49, W49, st49⟩ := stR X47 hx hZ e47 Ar48 (j := (11 : Int32)) hin48 rfl (Sto.ofV Ar48 q48 O1 (Ins.self (Ex11.keep K46))) (g := (mkF m 82 #[.val (.int p1), .val (.int p2), .unset, .unset, .unset, .unset, .unset] [(.ref w11), (.int (11 : Int32)), (.ref ka), (.ref ka)])) rfl rfl (hb hby at_82)
  have V49 : Arv Z h49 ka k1 (.object "com/example/ack3/ack3/protocol/ApiKey") (17 : Int32) [(.ref w0), (.ref w1), (.ref w2), (.ref w3), (.ref w4), (.ref w5), (.ref w6), (.ref w7), (.ref w8), (.ref w9), (.ref w10), (.ref w11), .null, .null, .null, .null, .null] .null := Arv.set Ar48 q48 S48 M48 H48 G48 rfl W49 11 rfl (Nat.le_of_ble_eq_true rfl)
  have K50 : Keep h0 h49 [] := K46.wr W49 (Or.inr sz_ka)
  have N49 := Fr.snoc X49 N45 g_ka
  have z49 : n0 ≤ h49.size := Nat.le_trans z45 (Keep.of_wr W49).1
  obtain ⟨T51, X51, e51, st51⟩ := getS2 X49 hx hZ hown (host := "") (Or.inl (hw _ (List.mem_of_getElem? (i := 28) rfl))) Via.refl e49 (own_sta Sy12 K50) (g := (mkF m 86 #[.val (.int p1), .val (.int p2), .unset, .unset, .unset, .unset, .unset] [(.int (12 : Int32)), (.ref ka), (.ref ka)])) rfl (hb hby at_86)
  obtain ⟨c52, Ar52, q52, S52, M52, H52, G52⟩ := V49
  have hin52 : ¬ ((12 : Int32) < 0 ∨ c52.slots.size ≤ ((12 : Int32)).toNatClampNeg) := inb_of S52 ⟨by decide, by decide⟩
  obtain ⟨T53, h53, X53, e53, W53, st53⟩ := stR X51 hx hZ e51 Ar52 (j := (12 : Int32)) hin52 rfl (Sto.ofV Ar52 q52 O1 (Ins.self (Ex12.keep K50))) (g := (mkF m 89 #[.val (.int p1), .val (.int p2), .unset, .unset, .unset, .unset, .unset] [(.ref w12), (.int (12 : Int32)), (.ref ka), (.ref ka)])) rfl rfl (hb hby at_89)
  have V53 : Arv Z h53 ka k1 (.object "com/example/ack3/ack3/protocol/ApiKey") (17 : Int32) [(.ref w0), (.ref w1), (.ref w2), (.ref w3), (.ref w4), (.ref w5), (.ref w6), (.ref w7), (.ref w8), (.ref w9), (.ref w10), (.ref w11), (.ref w12), .null, .null, .null, .null] .null := Arv.set Ar52 q52 S52 M52 H52 G52 rfl W53 12 rfl (Nat.le_of_ble_eq_true rfl)
  have K54 : Keep h0 h53 [] := K50.wr W53 (Or.inr sz_ka)
  have N53 := Fr.snoc X53 N49 g_ka
  have z53 : n0 ≤ h53.size := Nat.le_trans z49 (Keep.of_wr W53).1
  obtain ⟨T55, X55, e55, st55⟩ := getS2 X53 hx hZ hown (host := "") (Or.inl (hw _ (List.mem_of_getElem? (i := 30) rfl))) Via.refl e53 (own_sta Sy13 K54) (g := (mkF m 93 #[.val (.int p1), .val (.int p2), .unset, .unset, .unset, .unset, .unset] [(.int (13 : Int32)), (.ref ka), (.ref ka)])) rfl (hb hby at_93)
  obtain ⟨c56, Ar56, q56, S56, M56, H56, G56⟩ := V53
  have hin56 : ¬ ((13 : Int32) < 0 ∨ c56.slots.size ≤ ((13 : Int32)).toNatClampNeg) := inb_of S56 ⟨by decide, by decide⟩
  obtain ⟨T57, h57, X57, e57, W57, st57⟩ := stR X55 hx hZ e55 Ar56 (j := (13 : Int32)) hin56 rfl (Sto.ofV Ar56 q56 O1 (Ins.self (Ex13.keep K54))) (g := (mkF m 96 #[.val (.int p1), .val (.int p2), .unset, .unset, .unset, .unset, .unset] [(.ref w13), (.int (13 : Int32)), (.ref ka), (.ref ka)])) rfl rfl (hb hby at_96)
  have V57 : Arv Z h57 ka k1 (.object "com/example/ack3/ack3/protocol/ApiKey") (17 : Int32) [(.ref w0), (.ref w1), (.ref w2), (.ref w3), (.ref w4), (.ref w5), (.ref w6), (.ref w7), (.ref w8), (.ref w9), (.ref w10), (.ref w11), (.ref w12), (.ref w13), .null, .null, .null] .null := Arv.set Ar56 q56 S56 M56 H56 G56 rfl W57 13 rfl (Nat.le_of_ble_eq_true rfl)
  have K58 : Keep h0 h57 [] := K54.wr W57 (Or.inr sz_ka)
  have N57 := Fr.snoc X57 N53 g_ka
  have z57 : n0 ≤ h57.size := Nat.le_trans z53 (Keep.of_wr W57).1
  obtain ⟨T59, X59, e59, st59⟩ := getS2 X57 hx hZ hown (host := "") (Or.inl (hw _ (List.mem_of_getElem? (i := 32) rfl))) Via.refl e57 (own_sta Sy14 K58) (g := (mkF m 100 #[.val (.int p1), .val (.int p2), .unset, .unset, .unset, .unset, .unset] [(.int (14 : Int32)), (.ref ka), (.ref ka)])) rfl (hb hby at_100)
  obtain ⟨c60, Ar60, q60, S60, M60, H60, G60⟩ := V57
  have hin60 : ¬ ((14 : Int32) < 0 ∨ c60.slots.size ≤ ((14 : Int32)).toNatClampNeg) := inb_of S60 ⟨by decide, by decide⟩
  obtain ⟨T61, h61, X61, e61, W61, st61⟩ := stR X59 hx hZ e59 Ar60 (j := (14 : Int32)) hin60 rfl (Sto.ofV Ar60 q60 O1 (Ins.self (Ex14.keep K58))) (g := (mkF m 103 #[.val (.int p1), .val (.int p2), .unset, .unset, .unset, .unset, .unset] [(.ref w14), (.int (14 : Int32)), (.ref ka), (.ref ka)])) rfl rfl (hb hby at_103)
  have V61 : Arv Z h61 ka k1 (.object "com/example/ack3/ack3/protocol/ApiKey") (17 : Int32) [(.ref w0), (.ref w1), (.ref w2), (.ref w3), (.ref w4), (.ref w5), (.ref w6), (.ref w7), (.ref w8), (.ref w9), (.ref w10), (.ref w11), (.ref w12), (.ref w13), (.ref w14), .null, .null] .null := Arv.set Ar60 q60 S60 M60 H60 G60 rfl W61 14 rfl (Nat.le_of_ble_eq_true rfl)
  have K62 : Keep h0 h61 [] := K58.wr W61 (Or.inr sz_ka)
  have N61 := Fr.snoc X61 N57 g_ka
  have z61 : n0 ≤ h61.size := Nat.le_trans z57 (Keep.of_wr W61).1
  obtain ⟨T63, X63, e63, st63⟩ := getS2 X61 hx hZ hown (host := "") (Or.inl (hw _ (List.mem_of_getElem? (i := 34) rfl))) Via.refl e61 (own_sta Sy15 K62) (g := (mkF m 107 #[.val (.int p1), .val (.int p2), .unset, .unset, .unset, .unset, .unset] [(.int (15 : Int32)), (.ref ka), (.ref ka)])) rfl (hb hby at_107)
  obtain ⟨c64, Ar64, q64, S64, M64, H64, G64⟩ := V61
  have hin64 : ¬ ((15 : Int32) < 0 ∨ c64.slots.size ≤ ((15 : Int32)).toNatClampNeg) := inb_of S64 ⟨by decide, by decide⟩
  obtain ⟨T65, h65, X65, e65, W65, st65⟩ := stR X63 hx hZ e63 Ar64 (j := (15 : Int32)) hin64 rfl (Sto.ofV Ar64 q64 O1 (Ins.self (Ex15.keep K62))) (g := (mkF m 110 #[.val (.int p1), .val (.int p2), .unset, .unset, .unset, .unset, .unset] [(.ref w15), (.int (15 : Int32)), (.ref ka), (.ref ka)])) rfl rfl (hb hby at_110)
  have V65 : Arv Z h65 ka k1 (.object "com/example/ack3/ack3/protocol/ApiKey") (17 : Int32) [(.ref w0), (.ref w1), (.ref w2), (.ref w3), (.ref w4), (.ref w5), (.ref w6), (.ref w7), (.ref w8), (.ref w9), (.ref w10), (.ref w11), (.ref w12), (.ref w13), (.ref w14), (.ref w15), .null] .null := Arv.set Ar64 q64 S64 M64 H64 G64 rfl W65 15 rfl (Nat.le_of_ble_eq_true rfl)
  have K66 : Keep h0 h65 [] := K62.wr W65 (Or.inr sz_ka)
  have N65 := Fr.snoc X65 N61 g_ka
  have z65 : n0 ≤ h65.size := Nat.le_trans z61 (Keep.of_wr W65).1
  obtain ⟨T67, X67, e67, st67⟩ := getS2 X65 hx hZ hown (host := "") (Or.inl (hw _ (List.mem_of_getElem? (i := 36) rfl))) Via.refl e65 (own_sta Sy16 K66) (g := (mkF m 114 #[.val (.int p1), .val (.int p2), .unset, .unset, .unset, .unset, .unset] [(.int (16 : Int32)), (.ref ka), (.ref ka)])) rfl (hb hby at_114)
  obtain ⟨c68, Ar68, q68, S68, M68, H68, G68⟩ := V65
  have hin68 : ¬ ((16 : Int32) < 0 ∨ c68.slots.size ≤ ((16 : Int32)).toNatClampNeg) := inb_of S68 ⟨by decide, by decide⟩
  obtain ⟨T69, h69, X69, e69, W69, st69⟩ := stR X67 hx hZ e67 Ar68 (j := (16 : Int32)) hin68 rfl (Sto.ofV Ar68 q68 O1 (Ins.self (Ex16.keep K66))) (g := (mkF m 117 #[.val (.int p1), .val (.int p2), .unset, .unset, .unset, .unset, .unset] [(.ref w16), (.int (16 : Int32)), (.ref ka), (.ref ka)])) rfl rfl (hb hby at_117)
  have V69 : Arv Z h69 ka k1 (.object "com/example/ack3/ack3/protocol/ApiKey") (17 : Int32) [(.ref w0), (.ref w1), (.ref w2), (.ref w3), (.ref w4), (.ref w5), (.ref w6), (.ref w7), (.ref w8), (.ref w9), (.ref w10), (.ref w11), (.ref w12), (.ref w13), (.ref w14), (.ref w15), (.ref w16)] .null := Arv.set Ar68 q68 S68 M68 H68 G68 rfl W69 16 rfl (Nat.le_of_ble_eq_true rfl)
  have K70 : Keep h0 h69 [] := K66.wr W69 (Or.inr sz_ka)
  have N69 := Fr.snoc X69 N65 g_ka
  have z69 : n0 ≤ h69.size := Nat.le_trans z65 (Keep.of_wr W69).1
  obtain ⟨T71, h71, k71, X71, e71, E71, A71, st71⟩ := newP X69 hx hZ (hw _ (List.mem_of_getElem? (i := 38) rfl)) e69 (g := (mkF m 121 #[.val (.int p1), .val (.int p2), .val (.ref ka), .unset, .unset, .unset, .unset] [(.int (17 : Int32))])) rfl (hb hby at_121) rfl (by decide) (cap := 17) (by decide) (by decide) (Nat.le_of_ble_eq_true rfl) (Nat.le_of_ble_eq_true rfl)
  obtain ⟨kb, g71⟩ : ∃ z, z = h69.size := ⟨_, rfl⟩
  rw [← g71] at A71 st71
  have g_kb : n0 ≤ kb := Nat.le_trans z69 (Nat.le_of_eq g71.symm)
  have sz_kb : h0.size ≤ kb := Nat.le_trans K70.1 (Nat.le_of_eq g71.symm)
  have ne_ka_kb : ka ≠ kb := Nat.ne_of_lt (Nat.lt_of_lt_of_le V69.lt (Nat.le_of_eq g71.symm))
  have z71 : n0 ≤ h71.size := Nat.le_trans z69 E71.1
  have f72_V_ka := V69.ext E71
  have K73 : Keep h0 h71 [] := K70.ext E71
  have V_kb : Arv Z h71 kb k71 .int (17 : Int32) [(.int (0 : Int32)), (.int (0 : Int32)), (.int (0 : Int32)), (.int (0 : Int32)), (.int (0 : Int32)), (.int (0 : Int32)), (.int (0 : Int32)), (.int (0 : Int32)), (.int (0 : Int32)), (.int (0 : Int32)), (.int (0 : Int32)), (.int (0 : Int32)), (.int (0 : Int32)), (.int (0 : Int32)), (.int (0 : Int32)), (.int (0 : Int32)), (.int (0 : Int32))] (.int (0 : Int32)) := (Arv.new A71 (by decide)).pad (pad_rep [] (.int (0 : Int32)) 17)
  obtain ⟨c74, Ar74, q74, S74, M74, H74, G74⟩ := V_kb
  have hin74 : ¬ ((0 : Int32) < 0 ∨ c74.slots.size ≤ ((0 : Int32)).toNatClampNeg) := inb_of S74 ⟨by decide, by decide⟩
  obtain ⟨T75, h75, X75, e75, W75, st75⟩ := stI X71 hx hZ e71 Ar74 (j := (0 : Int32)) hin74 (g := (mkF m 127 #[.val (.int p1), .val (.int p2), .val (.ref ka), .unset, .unset, .unset, .unset] [(.int (9 : Int32)), (.int (0 : Int32)), (.ref kb), (.ref kb)])) rfl rfl (hb hby at_127)
  have f76_V_ka := f72_V_ka.other W75 ne_ka_kb
  have V75 : Arv Z h75 kb k71 .int (17 : Int32) [(.int (9 : Int32)), (.int (0 : Int32)), (.int (0 : Int32)), (.int (0 : Int32)), (.int (0 : Int32)), (.int (0 : Int32)), (.int (0 : Int32)), (.int (0 : Int32)), (.int (0 : Int32)), (.int (0 : Int32)), (.int (0 : Int32)), (.int (0 : Int32)), (.int (0 : Int32)), (.int (0 : Int32)), (.int (0 : Int32)), (.int (0 : Int32)), (.int (0 : Int32))] (.int (0 : Int32)) := Arv.set Ar74 q74 S74 M74 H74 G74 rfl W75 0 rfl (Nat.le_of_ble_eq_true rfl)
  have K77 : Keep h0 h75 [] := K73.wr W75 (Or.inr sz_kb)
  have N75 := Fr.snoc X75 N69 g_kb
  have z75 : n0 ≤ h75.size := Nat.le_trans z71 (Keep.of_wr W75).1
  obtain ⟨c78, Ar78, q78, S78, M78, H78, G78⟩ := V75
  have hin78 : ¬ ((1 : Int32) < 0 ∨ c78.slots.size ≤ ((1 : Int32)).toNatClampNeg) := inb_of S78 ⟨by decide, by decide⟩
  obtain ⟨T79, h79, X79, e79, W79, st79⟩ := stI X75 hx hZ e75 Ar78 (j := (1 : Int32)) hin78 (g := (mkF m 132 #[.val (.int p1), .val (.int p2), .val (.ref ka), .unset, .unset, .unset, .unset] [(.int (12 : Int32)), (.int (1 : Int32)), (.ref kb), (.ref kb)])) rfl rfl (hb hby at_132)
  have f80_V_ka := f76_V_ka.other W79 ne_ka_kb
  have V79 : Arv Z h79 kb k71 .int (17 : Int32) [(.int (9 : Int32)), (.int (12 : Int32)), (.int (0 : Int32)), (.int (0 : Int32)), (.int (0 : Int32)), (.int (0 : Int32)), (.int (0 : Int32)), (.int (0 : Int32)), (.int (0 : Int32)), (.int (0 : Int32)), (.int (0 : Int32)), (.int (0 : Int32)), (.int (0 : Int32)), (.int (0 : Int32)), (.int (0 : Int32)), (.int (0 : Int32)), (.int (0 : Int32))] (.int (0 : Int32)) := Arv.set Ar78 q78 S78 M78 H78 G78 rfl W79 1 rfl (Nat.le_of_ble_eq_true rfl)
  have K81 : Keep h0 h79 [] := K77.wr W79 (Or.inr sz_kb)
  have N79 := Fr.snoc X79 N75 g_kb
  have z79 : n0 ≤ h79.size := Nat.le_trans z75 (Keep.of_wr W79).1
  obtain ⟨c82, Ar82, q82, S82, M82, H82, G82⟩ := V79
  have hin82 : ¬ ((2 : Int32) < 0 ∨ c82.slots.size ≤ ((2 : Int32)).toNatClampNeg) := inb_of S82 ⟨by decide, by decide⟩
  obtain ⟨T83, h83, X83, e83, W83, st83⟩ := stI X79 hx hZ e79 Ar82 (j := (2 : Int32)) hin82 (g := (mkF m 137 #[.val (.int p1), .val (.int p2), .val (.ref ka), .unset, .unset, .unset, .unset] [(.int (6 : Int32)), (.int (2 : Int32)), (.ref kb), (.ref kb)])) rfl rfl (hb hby at_137)
  have f84_V_ka := f80_V_ka.other W83 ne_ka_kb
  have V83 : Arv Z h83 kb k71 .int (17 : Int32) [(.int (9 : Int32)), (.int (12 : Int32)), (.int (6 : Int32)), (.int (0 : Int32)), (.int (0 : Int32)), (.int (0 : Int32)), (.int (0 : Int32)), (.int (0 : Int32)), (.int (0 : Int32)), (.int (0 : Int32)), (.int (0 : Int32)), (.int (0 : Int32)), (.int (0 : Int32)), (.int (0 : Int32)), (.int (0 : Int32)), (.int (0 : Int32)), (.int (0 : Int32))] (.int (0 : Int32)) := Arv.set Ar82 q82 S82 M82 H82 G82 rfl W83 2 rfl (Nat.le_of_ble_eq_true rfl)
  have K85 : Keep h0 h83 [] := K81.wr W83 (Or.inr sz_kb)
  have N83 := Fr.snoc X83 N79 g_kb
  have z83 : n0 ≤ h83.size := Nat.le_trans z79 (Keep.of_wr W83).1
  obtain ⟨c86, Ar86, q86, S86, M86, H86, G86⟩ := V83
  have hin86 : ¬ ((3 : Int32) < 0 ∨ c86.slots.size ≤ ((3 : Int32)).toNatClampNeg) := inb_of S86 ⟨by decide, by decide⟩
  obtain ⟨T87, h87, X87, e87, W87, st87⟩ := stI X83 hx hZ e83 Ar86 (j := (3 : Int32)) hin86 (g := (mkF m 142 #[.val (.int p1), .val (.int p2), .val (.ref ka), .unset, .unset, .unset, .unset] [(.int (9 : Int32)), (.int (3 : Int32)), (.ref kb), (.ref kb)])) rfl rfl (hb hby at_142)
  have f88_V_ka := f84_V_ka.other W87 ne_ka_kb
  have V87 : Arv Z h87 kb k71 .int (17 : Int32) [(.int (9 : Int32)), (.int (12 : Int32)), (.int (6 : Int32)), (.int (9 : Int32)), (.int (0 : Int32)), (.int (0 : Int32)), (.int (0 : Int32)), (.int (0 : Int32)), (.int (0 : Int32)), (.int (0 : Int32)), (.int (0 : Int32)), (.int (0 : Int32)), (.int (0 : Int32)), (.int (0 : Int32)), (.int (0 : Int32)), (.int (0 : Int32)), (.int (0 : Int32))] (.int (0 : Int32)) := Arv.set Ar86 q86 S86 M86 H86 G86 rfl W87 3 rfl (Nat.le_of_ble_eq_true rfl)
  have K89 : Keep h0 h87 [] := K85.wr W87 (Or.inr sz_kb)
  have N87 := Fr.snoc X87 N83 g_kb
  have z87 : n0 ≤ h87.size := Nat.le_trans z83 (Keep.of_wr W87).1
  obtain ⟨c90, Ar90, q90, S90, M90, H90, G90⟩ := V87
  have hin90 : ¬ ((4 : Int32) < 0 ∨ c90.slots.size ≤ ((4 : Int32)).toNatClampNeg) := inb_of S90 ⟨by decide, by decide⟩
  obtain ⟨T91, h91, X91, e91, W91, st91⟩ := stI X87 hx hZ e87 Ar90 (j := (4 : Int32)) hin90 (g := (mkF m 146 #[.val (.int p1), .val (.int p2), .val (.ref ka), .unset, .unset, .unset, .unset] [(.int (3 : Int32)), (.int (4 : Int32)), (.ref kb), (.ref kb)])) rfl rfl (hb hby at_146)
  have f92_V_ka := f88_V_ka.other W91 ne_ka_kb
  have V91 : Arv Z h91 kb k71 .int (17 : Int32) [(.int (9 : Int32)), (.int (12 : Int32)), (.int (6 : Int32)), (.int (9 : Int32)), (.int (3 : Int32)), (.int (0 : Int32)), (.int (0 : Int32)), (.int (0 : Int32)), (.int (0 : Int32)), (.int (0 : Int32)), (.int (0 : Int32)), (.int (0 : Int32)), (.int (0 : Int32)), (.int (0 : Int32)), (.int (0 : Int32)), (.int (0 : Int32)), (.int (0 : Int32))] (.int (0 : Int32)) := Arv.set Ar90 q90 S90 M90 H90 G90 rfl W91 4 rfl (Nat.le_of_ble_eq_true rfl)
  have K93 : Keep h0 h91 [] := K89.wr W91 (Or.inr sz_kb)
  have N91 := Fr.snoc X91 N87 g_kb
  have z91 : n0 ≤ h91.size := Nat.le_trans z87 (Keep.of_wr W91).1
  obtain ⟨c94, Ar94, q94, S94, M94, H94, G94⟩ := V91
  have hin94 : ¬ ((5 : Int32) < 0 ∨ c94.slots.size ≤ ((5 : Int32)).toNatClampNeg) := inb_of S94 ⟨by decide, by decide⟩
  obtain ⟨T95, h95, X95, e95, W95, st95⟩ := stI X91 hx hZ e91 Ar94 (j := (5 : Int32)) hin94 (g := (mkF m 150 #[.val (.int p1), .val (.int p2), .val (.ref ka), .unset, .unset, .unset, .unset] [(.int (3 : Int32)), (.int (5 : Int32)), (.ref kb), (.ref kb)])) rfl rfl (hb hby at_150)
  have f96_V_ka := f92_V_ka.other W95 ne_ka_kb
  have V95 : Arv Z h95 kb k71 .int (17 : Int32) [(.int (9 : Int32)), (.int (12 : Int32)), (.int (6 : Int32)), (.int (9 : Int32)), (.int (3 : Int32)), (.int (3 : Int32)), (.int (0 : Int32)), (.int (0 : Int32)), (.int (0 : Int32)), (.int (0 : Int32)), (.int (0 : Int32)), (.int (0 : Int32)), (.int (0 : Int32)), (.int (0 : Int32)), (.int (0 : Int32)), (.int (0 : Int32)), (.int (0 : Int32))] (.int (0 : Int32)) := Arv.set Ar94 q94 S94 M94 H94 G94 rfl W95 5 rfl (Nat.le_of_ble_eq_true rfl)
  have K97 : Keep h0 h95 [] := K93.wr W95 (Or.inr sz_kb)
  have N95 := Fr.snoc X95 N91 g_kb
  have z95 : n0 ≤ h95.size := Nat.le_trans z91 (Keep.of_wr W95).1
  obtain ⟨c98, Ar98, q98, S98, M98, H98, G98⟩ := V95
  have hin98 : ¬ ((6 : Int32) < 0 ∨ c98.slots.size ≤ ((6 : Int32)).toNatClampNeg) := inb_of S98 ⟨by decide, by decide⟩
  obtain ⟨T99, h99, X99, e99, W99, st99⟩ := stI X95 hx hZ e95 Ar98 (j := (6 : Int32)) hin98 (g := (mkF m 155 #[.val (.int p1), .val (.int p2), .val (.ref ka), .unset, .unset, .unset, .unset] [(.int (3 : Int32)), (.int (6 : Int32)), (.ref kb), (.ref kb)])) rfl rfl (hb hby at_155)
  have f100_V_ka := f96_V_ka.other W99 ne_ka_kb
  have V99 : Arv Z h99 kb k71 .int (17 : Int32) [(.int (9 : Int32)), (.int (12 : Int32)), (.int (6 : Int32)), (.int (9 : Int32)), (.int (3 : Int32)), (.int (3 : Int32)), (.int (3 : Int32)), (.int (0 : Int32)), (.int (0 : Int32)), (.int (0 : Int32)), (.int (0 : Int32)), (.int (0 : Int32)), (.int (0 : Int32)), (.int (0 : Int32)), (.int (0 : Int32)), (.int (0 : Int32)), (.int (0 : Int32))] (.int (0 : Int32)) := Arv.set Ar98 q98 S98 M98 H98 G98 rfl W99 6 rfl (Nat.le_of_ble_eq_true rfl)
  have K101 : Keep h0 h99 [] := K97.wr W99 (Or.inr sz_kb)
  have N99 := Fr.snoc X99 N95 g_kb
  have z99 : n0 ≤ h99.size := Nat.le_trans z95 (Keep.of_wr W99).1
  obtain ⟨c102, Ar102, q102, S102, M102, H102, G102⟩ := V99
  have hin102 : ¬ ((7 : Int32) < 0 ∨ c102.slots.size ≤ ((7 : Int32)).toNatClampNeg) := inb_of S102 ⟨by decide, by decide⟩
  obtain ⟨T103, h103, X103, e103, W103, st103⟩ := stI X99 hx hZ e99 Ar102 (j := (7 : Int32)) hin102 (g := (mkF m 160 #[.val (.int p1), .val (.int p2), .val (.ref ka), .unset, .unset, .unset, .unset] [(.int (4 : Int32)), (.int (7 : Int32)), (.ref kb), (.ref kb)])) rfl rfl (hb hby at_160)
  have f104_V_ka := f100_V_ka.other W103 ne_ka_kb
  have V103 : Arv Z h103 kb k71 .int (17 : Int32) [(.int (9 : Int32)), (.int (12 : Int32)), (.int (6 : Int32)), (.int (9 : Int32)), (.int (3 : Int32)), (.int (3 : Int32)), (.int (3 : Int32)), (.int (4 : Int32)), (.int (0 : Int32)), (.int (0 : Int32)), (.int (0 : Int32)), (.int (0 : Int32)), (.int (0 : Int32)), (.int (0 : Int32)), (.int (0 : Int32)), (.int (0 : Int32)), (.int (0 : Int32))] (.int (0 : Int32)) := Arv.set Ar102 q102 S102 M102 H102 G102 rfl W103 7 rfl (Nat.le_of_ble_eq_true rfl)
  have K105 : Keep h0 h103 [] := K101.wr W103 (Or.inr sz_kb)
  have N103 := Fr.snoc X103 N99 g_kb
  have z103 : n0 ≤ h103.size := Nat.le_trans z99 (Keep.of_wr W103).1
  obtain ⟨c106, Ar106, q106, S106, M106, H106, G106⟩ := V103
  have hin106 : ¬ ((8 : Int32) < 0 ∨ c106.slots.size ≤ ((8 : Int32)).toNatClampNeg) := inb_of S106 ⟨by decide, by decide⟩
  obtain ⟨T107, h107, X107, e107, W107, st107⟩ := stI X103 hx hZ e103 Ar106 (j := (8 : Int32)) hin106 (g := (mkF m 165 #[.val (.int p1), .val (.int p2), .val (.ref ka), .unset, .unset, .unset, .unset] [(.int (2 : Int32)), (.int (8 : Int32)), (.ref kb), (.ref kb)])) rfl rfl (hb hby at_165)
  have f108_V_ka := f104_V_ka.other W107 ne_ka_kb
  have V107 : Arv Z h107 kb k71 .int (17 : Int32) [(.int (9 : Int32)), (.int (12 : Int32)), (.int (6 : Int32)), (.int (9 : Int32)), (.int (3 : Int32)), (.int (3 : Int32)), (.int (3 : Int32)), (.int (4 : Int32)), (.int (2 : Int32)), (.int (0 : Int32)), (.int (0 : Int32)), (.int (0 : Int32)), (.int (0 : Int32)), (.int (0 : Int32)), (.int (0 : Int32)), (.int (0 : Int32)), (.int (0 : Int32))] (.int (0 : Int32)) := Arv.set Ar106 q106 S106 M106 H106 G106 rfl W107 8 rfl (Nat.le_of_ble_eq_true rfl)
  have K109 : Keep h0 h107 [] := K105.wr W107 (Or.inr sz_kb)
  have N107 := Fr.snoc X107 N103 g_kb
  have z107 : n0 ≤ h107.size := Nat.le_trans z103 (Keep.of_wr W107).1
  obtain ⟨c110, Ar110, q110, S110, M110, H110, G110⟩ := V107
  have hin110 : ¬ ((9 : Int32) < 0 ∨ c110.slots.size ≤ ((9 : Int32)).toNatClampNeg) := inb_of S110 ⟨by decide, by decide⟩
  obtain ⟨T111, h111, X111, e111, W111, st111⟩ := stI X107 hx hZ e107 Ar110 (j := (9 : Int32)) hin110 (g := (mkF m 170 #[.val (.int p1), .val (.int p2), .val (.ref ka), .unset, .unset, .unset, .unset] [(.int (1 : Int32)), (.int (9 : Int32)), (.ref kb), (.ref kb)])) rfl rfl (hb hby at_170)
  have f112_V_ka := f108_V_ka.other W111 ne_ka_kb
  have V111 : Arv Z h111 kb k71 .int (17 : Int32) [(.int (9 : Int32)), (.int (12 : Int32)), (.int (6 : Int32)), (.int (9 : Int32)), (.int (3 : Int32)), (.int (3 : Int32)), (.int (3 : Int32)), (.int (4 : Int32)), (.int (2 : Int32)), (.int (1 : Int32)), (.int (0 : Int32)), (.int (0 : Int32)), (.int (0 : Int32)), (.int (0 : Int32)), (.int (0 : Int32)), (.int (0 : Int32)), (.int (0 : Int32))] (.int (0 : Int32)) := Arv.set Ar110 q110 S110 M110 H110 G110 rfl W111 9 rfl (Nat.le_of_ble_eq_true rfl)
  have K113 : Keep h0 h111 [] := K109.wr W111 (Or.inr sz_kb)
  have N111 := Fr.snoc X111 N107 g_kb
  have z111 : n0 ≤ h111.size := Nat.le_trans z107 (Keep.of_wr W111).1
  obtain ⟨c114, Ar114, q114, S114, M114, H114, G114⟩ := V111
  have hin114 : ¬ ((10 : Int32) < 0 ∨ c114.slots.size ≤ ((10 : Int32)).toNatClampNeg) := inb_of S114 ⟨by decide, by decide⟩
  obtain ⟨T115, h115, X115, e115, W115, st115⟩ := stI X111 hx hZ e111 Ar114 (j := (10 : Int32)) hin114 (g := (mkF m 175 #[.val (.int p1), .val (.int p2), .val (.ref ka), .unset, .unset, .unset, .unset] [(.int (0 : Int32)), (.int (10 : Int32)), (.ref kb), (.ref kb)])) rfl rfl (hb hby at_175)
  have f116_V_ka := f112_V_ka.other W115 ne_ka_kb
  have V115 : Arv Z h115 kb k71 .int (17 : Int32) [(.int (9 : Int32)), (.int (12 : Int32)), (.int (6 : Int32)), (.int (9 : Int32)), (.int (3 : Int32)), (.int (3 : Int32)), (.int (3 : Int32)), (.int (4 : Int32)), (.int (2 : Int32)), (.int (1 : Int32)), (.int (0 : Int32)), (.int (0 : Int32)), (.int (0 : Int32)), (.int (0 : Int32)), (.int (0 : Int32)), (.int (0 : Int32)), (.int (0 : Int32))] (.int (0 : Int32)) := Arv.set Ar114 q114 S114 M114 H114 G114 rfl W115 10 rfl (Nat.le_of_ble_eq_true rfl)
  have K117 : Keep h0 h115 [] := K113.wr W115 (Or.inr sz_kb)
  have N115 := Fr.snoc X115 N111 g_kb
  have z115 : n0 ≤ h115.size := Nat.le_trans z111 (Keep.of_wr W115).1
  obtain ⟨c118, Ar118, q118, S118, M118, H118, G118⟩ := V115
  have hin118 : ¬ ((11 : Int32) < 0 ∨ c118.slots.size ≤ ((11 : Int32)).toNatClampNeg) := inb_of S118 ⟨by decide, by decide⟩
  obtain ⟨T119, h119, X119, e119, W119, st119⟩ := stI X115 hx hZ e115 Ar118 (j := (11 : Int32)) hin118 (g := (mkF m 180 #[.val (.int p1), .val (.int p2), .val (.ref ka), .unset, .unset, .unset, .unset] [(.int (0 : Int32)), (.int (11 : Int32)), (.ref kb), (.ref kb)])) rfl rfl (hb hby at_180)
  have f120_V_ka := f116_V_ka.other W119 ne_ka_kb
  have V119 : Arv Z h119 kb k71 .int (17 : Int32) [(.int (9 : Int32)), (.int (12 : Int32)), (.int (6 : Int32)), (.int (9 : Int32)), (.int (3 : Int32)), (.int (3 : Int32)), (.int (3 : Int32)), (.int (4 : Int32)), (.int (2 : Int32)), (.int (1 : Int32)), (.int (0 : Int32)), (.int (0 : Int32)), (.int (0 : Int32)), (.int (0 : Int32)), (.int (0 : Int32)), (.int (0 : Int32)), (.int (0 : Int32))] (.int (0 : Int32)) := Arv.set Ar118 q118 S118 M118 H118 G118 rfl W119 11 rfl (Nat.le_of_ble_eq_true rfl)
  have K121 : Keep h0 h119 [] := K117.wr W119 (Or.inr sz_kb)
  have N119 := Fr.snoc X119 N115 g_kb
  have z119 : n0 ≤ h119.size := Nat.le_trans z115 (Keep.of_wr W119).1
  obtain ⟨c122, Ar122, q122, S122, M122, H122, G122⟩ := V119
  have hin122 : ¬ ((12 : Int32) < 0 ∨ c122.slots.size ≤ ((12 : Int32)).toNatClampNeg) := inb_of S122 ⟨by decide, by decide⟩
  obtain ⟨T123, h123, X123, e123, W123, st123⟩ := stI X119 hx hZ e119 Ar122 (j := (12 : Int32)) hin122 (g := (mkF m 185 #[.val (.int p1), .val (.int p2), .val (.ref ka), .unset, .unset, .unset, .unset] [(.int (0 : Int32)), (.int (12 : Int32)), (.ref kb), (.ref kb)])) rfl rfl (hb hby at_185)
  have f124_V_ka := f120_V_ka.other W123 ne_ka_kb
  have V123 : Arv Z h123 kb k71 .int (17 : Int32) [(.int (9 : Int32)), (.int (12 : Int32)), (.int (6 : Int32)), (.int (9 : Int32)), (.int (3 : Int32)), (.int (3 : Int32)), (.int (3 : Int32)), (.int (4 : Int32)), (.int (2 : Int32)), (.int (1 : Int32)), (.int (0 : Int32)), (.int (0 : Int32)), (.int (0 : Int32)), (.int (0 : Int32)), (.int (0 : Int32)), (.int (0 : Int32)), (.int (0 : Int32))] (.int (0 : Int32)) := Arv.set Ar122 q122 S122 M122 H122 G122 rfl W123 12 rfl (Nat.le_of_ble_eq_true rfl)
  have K125 : Keep h0 h123 [] := K121.wr W123 (Or.inr sz_kb)
  have N123 := Fr.snoc X123 N119 g_kb
  have z123 : n0 ≤ h123.size := Nat.le_trans z119 (Keep.of_wr W123).1
  obtain ⟨c126, Ar126, q126, S126, M126, H126, G126⟩ := V123
  have hin126 : ¬ ((13 : Int32) < 0 ∨ c126.slots.size ≤ ((13 : Int32)).toNatClampNeg) := inb_of S126 ⟨by decide, by decide⟩
  obtain ⟨T127, h127, X127, e127, W127, st127⟩ := stI X123 hx hZ e123 Ar126 (j := (13 : Int32)) hin126 (g := (mkF m 190 #[.val (.int p1), .val (.int p2), .val (.ref ka), .unset, .unset, .unset, .unset] [(.int (0 : Int32)), (.int (13 : Int32)), (.ref kb), (.ref kb)])) rfl rfl (hb hby at_190)
  have f128_V_ka := f124_V_ka.other W127 ne_ka_kb
  have V127 : Arv Z h127 kb k71 .int (17 : Int32) [(.int (9 : Int32)), (.int (12 : Int32)), (.int (6 : Int32)), (.int (9 : Int32)), (.int (3 : Int32)), (.int (3 : Int32)), (.int (3 : Int32)), (.int (4 : Int32)), (.int (2 : Int32)), (.int (1 : Int32)), (.int (0 : Int32)), (.int (0 : Int32)), (.int (0 : Int32)), (.int (0 : Int32)), (.int (0 : Int32)), (.int (0 : Int32)), (.int (0 : Int32))] (.int (0 : Int32)) := Arv.set Ar126 q126 S126 M126 H126 G126 rfl W127 13 rfl (Nat.le_of_ble_eq_true rfl)
  have K129 : Keep h0 h127 [] := K125.wr W127 (Or.inr sz_kb)
  have N127 := Fr.snoc X127 N123 g_kb
  have z127 : n0 ≤ h127.size := Nat.le_trans z123 (Keep.of_wr W127).1
  obtain ⟨c130, Ar130, q130, S130, M130, H130, G130⟩ := V127
  have hin130 : ¬ ((14 : Int32) < 0 ∨ c130.slots.size ≤ ((14 : Int32)).toNatClampNeg) := inb_of S130 ⟨by decide, by decide⟩
  obtain ⟨T131, h131, X131, e131, W131, st131⟩ := stI X127 hx hZ e127 Ar130 (j := (14 : Int32)) hin130 (g := (mkF m 195 #[.val (.int p1), .val (.int p2), .val (.ref ka), .unset, .unset, .unset, .unset] [(.int (0 : Int32)), (.int (14 : Int32)), (.ref kb), (.ref kb)])) rfl rfl (hb hby at_195)
  have f132_V_ka := f128_V_ka.other W131 ne_ka_kb
  have V131 : Arv Z h131 kb k71 .int (17 : Int32) [(.int (9 : Int32)), (.int (12 : Int32)), (.int (6 : Int32)), (.int (9 : Int32)), (.int (3 : Int32)), (.int (3 : Int32)), (.int (3 : Int32)), (.int (4 : Int32)), (.int (2 : Int32)), (.int (1 : Int32)), (.int (0 : Int32)), (.int (0 : Int32)), (.int (0 : Int32)), (.int (0 : Int32)), (.int (0 : Int32)), (.int (0 : Int32)), (.int (0 : Int32))] (.int (0 : Int32)) := Arv.set Ar130 q130 S130 M130 H130 G130 rfl W131 14 rfl (Nat.le_of_ble_eq_true rfl)
  have K133 : Keep h0 h131 [] := K129.wr W131 (Or.inr sz_kb)
  have N131 := Fr.snoc X131 N127 g_kb
  have z131 : n0 ≤ h131.size := Nat.le_trans z127 (Keep.of_wr W131).1
  obtain ⟨c134, Ar134, q134, S134, M134, H134, G134⟩ := V131
  have hin134 : ¬ ((15 : Int32) < 0 ∨ c134.slots.size ≤ ((15 : Int32)).toNatClampNeg) := inb_of S134 ⟨by decide, by decide⟩
  obtain ⟨T135, h135, X135, e135, W135, st135⟩ := stI X131 hx hZ e131 Ar134 (j := (15 : Int32)) hin134 (g := (mkF m 200 #[.val (.int p1), .val (.int p2), .val (.ref ka), .unset, .unset, .unset, .unset] [(.int (0 : Int32)), (.int (15 : Int32)), (.ref kb), (.ref kb)])) rfl rfl (hb hby at_200)
  have f136_V_ka := f132_V_ka.other W135 ne_ka_kb
  have V135 : Arv Z h135 kb k71 .int (17 : Int32) [(.int (9 : Int32)), (.int (12 : Int32)), (.int (6 : Int32)), (.int (9 : Int32)), (.int (3 : Int32)), (.int (3 : Int32)), (.int (3 : Int32)), (.int (4 : Int32)), (.int (2 : Int32)), (.int (1 : Int32)), (.int (0 : Int32)), (.int (0 : Int32)), (.int (0 : Int32)), (.int (0 : Int32)), (.int (0 : Int32)), (.int (0 : Int32)), (.int (0 : Int32))] (.int (0 : Int32)) := Arv.set Ar134 q134 S134 M134 H134 G134 rfl W135 15 rfl (Nat.le_of_ble_eq_true rfl)
  have K137 : Keep h0 h135 [] := K133.wr W135 (Or.inr sz_kb)
  have N135 := Fr.snoc X135 N131 g_kb
  have z135 : n0 ≤ h135.size := Nat.le_trans z131 (Keep.of_wr W135).1
  obtain ⟨c138, Ar138, q138, S138, M138, H138, G138⟩ := V135
  have hin138 : ¬ ((16 : Int32) < 0 ∨ c138.slots.size ≤ ((16 : Int32)).toNatClampNeg) := inb_of S138 ⟨by decide, by decide⟩
  obtain ⟨T139, h139, X139, e139, W139, st139⟩ := stI X135 hx hZ e135 Ar138 (j := (16 : Int32)) hin138 (g := (mkF m 205 #[.val (.int p1), .val (.int p2), .val (.ref ka), .unset, .unset, .unset, .unset] [(.int (0 : Int32)), (.int (16 : Int32)), (.ref kb), (.ref kb)])) rfl rfl (hb hby at_205)
  have f140_V_ka := f136_V_ka.other W139 ne_ka_kb
  have V139 : Arv Z h139 kb k71 .int (17 : Int32) [(.int (9 : Int32)), (.int (12 : Int32)), (.int (6 : Int32)), (.int (9 : Int32)), (.int (3 : Int32)), (.int (3 : Int32)), (.int (3 : Int32)), (.int (4 : Int32)), (.int (2 : Int32)), (.int (1 : Int32)), (.int (0 : Int32)), (.int (0 : Int32)), (.int (0 : Int32)), (.int (0 : Int32)), (.int (0 : Int32)), (.int (0 : Int32)), (.int (0 : Int32))] (.int (0 : Int32)) := Arv.set Ar138 q138 S138 M138 H138 G138 rfl W139 16 rfl (Nat.le_of_ble_eq_true rfl)
  have K141 : Keep h0 h139 [] := K137.wr W139 (Or.inr sz_kb)
  have N139 := Fr.snoc X139 N135 g_kb
  have z139 : n0 ≤ h139.size := Nat.le_trans z135 (Keep.of_wr W139).1
  refine ⟨T139, h139, _, ka, kb, k1, k71, X139, e139, N139, z139, K141, f140_V_ka, V139, fun target kt => ?_⟩
  show Steps p.tables e below (T0.setTop (mkF m 0 #[.val (.int p1), .val (.int p2), .unset, .unset, .unset, .unset, .unset] [])) _
  refine XS.bipush X0.here hx rfl (hb hby at_0) ?_
  show Steps p.tables e below (T0.setTop (mkF m 2 #[.val (.int p1), .val (.int p2), .unset, .unset, .unset, .unset, .unset] [(.int (17 : Int32))])) _
  refine st1 _ ?_
  show Steps p.tables e below (T1.setTop (mkF m 5 #[.val (.int p1), .val (.int p2), .unset, .unset, .unset, .unset, .unset] [(.ref ka)])) _
  refine XS.dup X1.here hx rfl (hb hby at_5) rfl rfl ?_
  show Steps p.tables e below (T1.setTop (mkF m 6 #[.val (.int p1), .val (.int p2), .unset, .unset, .unset, .unset, .unset] [(.ref ka), (.ref ka)])) _
  refine XS.iconst X1.here hx rfl (hb hby at_6) ?_
  show Steps p.tables e below (T1.setTop (mkF m 7 #[.val (.int p1), .val (.int p2), .unset, .unset, .unset, .unset, .unset] [(.int (0 : Int32)), (.ref ka), (.ref ka)])) _
  refine st3 _ ?_
  show Steps p.tables e below (T3.setTop (mkF m 10 #[.val (.int p1), .val (.int p2), .unset, .unset, .unset, .unset, .unset] [(.ref w0), (.int (0 : Int32)), (.ref ka), (.ref ka)])) _
  refine st5 _ ?_
  show Steps p.tables e below (T5.setTop (mkF m 11 #[.val (.int p1), .val (.int p2), .unset, .unset, .unset, .unset, .unset] [(.ref ka)])) _
  refine XS.dup X5.here hx rfl (hb hby at_11) rfl rfl ?_
  show Steps p.tables e below (T5.setTop (mkF m 12 #[.val (.int p1), .val (.int p2), .unset, .unset, .unset, .unset, .unset] [(.ref ka), (.ref ka)])) _
  refine XS.iconst X5.here hx rfl (hb hby at_12) ?_
  show Steps p.tables e below (T5.setTop (mkF m 13 #[.val (.int p1), .val (.int p2), .unset, .unset, .unset, .unset, .unset] [(.int (1 : Int32)), (.ref ka), (.ref ka)])) _
  refine st7 _ ?_
  show Steps p.tables e below (T7.setTop (mkF m 16 #[.val (.int p1), .val (.int p2), .unset, .unset, .unset, .unset, .unset] [(.ref w1), (.int (1 : Int32)), (.ref ka), (.ref ka)])) _
  refine st9 _ ?_
  show Steps p.tables e below (T9.setTop (mkF m 17 #[.val (.int p1), .val (.int p2), .unset, .unset, .unset, .unset, .unset] [(.ref ka)])) _
  refine XS.dup X9.here hx rfl (hb hby at_17) rfl rfl ?_
  show Steps p.tables e below (T9.setTop (mkF m 18 #[.val (.int p1), .val (.int p2), .unset, .unset, .unset, .unset, .unset] [(.ref ka), (.ref ka)])) _
  refine XS.iconst X9.here hx rfl (hb hby at_18) ?_
  show Steps p.tables e below (T9.setTop (mkF m 19 #[.val (.int p1), .val (.int p2), .unset, .unset, .unset, .unset, .unset] [(.int (2 : Int32)), (.ref ka), (.ref ka)])) _
  refine st11 _ ?_
  show Steps p.tables e below (T11.setTop (mkF m 22 #[.val (.int p1), .val (.int p2), .unset, .unset, .unset, .unset, .unset] [(.ref w2), (.int (2 : Int32)), (.ref ka), (.ref ka)])) _
  refine st13 _ ?_
  show Steps p.tables e below (T13.setTop (mkF m 23 #[.val (.int p1), .val (.int p2), .unset, .unset, .unset, .unset, .unset] [(.ref ka)])) _
  refine XS.dup X13.here hx rfl (hb hby at_23) rfl rfl ?_
  show Steps p.tables e below (T13.setTop (mkF m 24 #[.val (.int p1), .val (.int p2), .unset, .unset, .unset, .unset, .unset] [(.ref ka), (.ref ka)])) _
  refine XS.iconst X13.here hx rfl (hb hby at_24) ?_
  show Steps p.tables e below (T13.setTop (mkF m 25 #[.val (.int p1), .val (.int p2), .unset, .unset, .unset, .unset, .unset] [(.int (3 : Int32)), (.ref ka), (.ref ka)])) _
  refine st15 _ ?_
  show Steps p.tables e below (T15.setTop (mkF m 28 #[.val (.int p1), .val (.int p2), .unset, .unset, .unset, .unset, .unset] [(.ref w3), (.int (3 : Int32)), (.ref ka), (.ref ka)])) _
  refine st17 _ ?_
  show Steps p.tables e below (T17.setTop (mkF m 29 #[.val (.int p1), .val (.int p2), .unset, .unset, .unset, .unset, .unset] [(.ref ka)])) _
  refine XS.dup X17.here hx rfl (hb hby at_29) rfl rfl ?_
  show Steps p.tables e below (T17.setTop (mkF m 30 #[.val (.int p1), .val (.int p2), .unset, .unset, .unset, .unset, .unset] [(.ref ka), (.ref ka)])) _
  refine XS.iconst X17.here hx rfl (hb hby at_30) ?_
  show Steps p.tables e below (T17.setTop (mkF m 31 #[.val (.int p1), .val (.int p2), .unset, .unset, .unset, .unset, .unset] [(.int (4 : Int32)), (.ref ka), (.ref ka)])) _
  refine st19 _ ?_
  show Steps p.tables e below (T19.setTop (mkF m 34 #[.val (.int p1), .val (.int p2), .unset, .unset, .unset, .unset, .unset] [(.ref w4), (.int (4 : Int32)), (.ref ka), (.ref ka)])) _
  refine st21 _ ?_
  show Steps p.tables e below (T21.setTop (mkF m 35 #[.val (.int p1), .val (.int p2), .unset, .unset, .unset, .unset, .unset] [(.ref ka)])) _
  refine XS.dup X21.here hx rfl (hb hby at_35) rfl rfl ?_
  show Steps p.tables e below (T21.setTop (mkF m 36 #[.val (.int p1), .val (.int p2), .unset, .unset, .unset, .unset, .unset] [(.ref ka), (.ref ka)])) _
  refine XS.iconst X21.here hx rfl (hb hby at_36) ?_
  show Steps p.tables e below (T21.setTop (mkF m 37 #[.val (.int p1), .val (.int p2), .unset, .unset, .unset, .unset, .unset] [(.int (5 : Int32)), (.ref ka), (.ref ka)])) _
  refine st23 _ ?_
  show Steps p.tables e below (T23.setTop (mkF m 40 #[.val (.int p1), .val (.int p2), .unset, .unset, .unset, .unset, .unset] [(.ref w5), (.int (5 : Int32)), (.ref ka), (.ref ka)])) _
  refine st25 _ ?_
  show Steps p.tables e below (T25.setTop (mkF m 41 #[.val (.int p1), .val (.int p2), .unset, .unset, .unset, .unset, .unset] [(.ref ka)])) _
  refine XS.dup X25.here hx rfl (hb hby at_41) rfl rfl ?_
  show Steps p.tables e below (T25.setTop (mkF m 42 #[.val (.int p1), .val (.int p2), .unset, .unset, .unset, .unset, .unset] [(.ref ka), (.ref ka)])) _
  refine XS.bipush X25.here hx rfl (hb hby at_42) ?_
  show Steps p.tables e below (T25.setTop (mkF m 44 #[.val (.int p1), .val (.int p2), .unset, .unset, .unset, .unset, .unset] [(.int (6 : Int32)), (.ref ka), (.ref ka)])) _
  refine st27 _ ?_
  show Steps p.tables e below (T27.setTop (mkF m 47 #[.val (.int p1), .val (.int p2), .unset, .unset, .unset, .unset, .unset] [(.ref w6), (.int (6 : Int32)), (.ref ka), (.ref ka)])) _
  refine st29 _ ?_
  show Steps p.tables e below (T29.setTop (mkF m 48 #[.val (.int p1), .val (.int p2), .unset, .unset, .unset, .unset, .unset] [(.ref ka)])) _
  refine XS.dup X29.here hx rfl (hb hby at_48) rfl rfl ?_
  show Steps p.tables e below (T29.setTop (mkF m 49 #[.val (.int p1), .val (.int p2), .unset, .unset, .unset, .unset, .unset] [(.ref ka), (.ref ka)])) _
  refine XS.bipush X29.here hx rfl (hb hby at_49) ?_
  show Steps p.tables e below (T29.setTop (mkF m 51 #[.val (.int p1), .val (.int p2), .unset, .unset, .unset, .unset, .unset] [(.int (7 : Int32)), (.ref ka), (.ref ka)])) _
  refine st31 _ ?_
  show Steps p.tables e below (T31.setTop (mkF m 54 #[.val (.int p1), .val (.int p2), .unset, .unset, .unset, .unset, .unset] [(.ref w7), (.int (7 : Int32)), (.ref ka), (.ref ka)])) _
  refine st33 _ ?_
  show Steps p.tables e below (T33.setTop (mkF m 55 #[.val (.int p1), .val (.int p2), .unset, .unset, .unset, .unset, .unset] [(.ref ka)])) _
  refine XS.dup X33.here hx rfl (hb hby at_55) rfl rfl ?_
  show Steps p.tables e below (T33.setTop (mkF m 56 #[.val (.int p1), .val (.int p2), .unset, .unset, .unset, .unset, .unset] [(.ref ka), (.ref ka)])) _
  refine XS.bipush X33.here hx rfl (hb hby at_56) ?_
  show Steps p.tables e below (T33.setTop (mkF m 58 #[.val (.int p1), .val (.int p2), .unset, .unset, .unset, .unset, .unset] [(.int (8 : Int32)), (.ref ka), (.ref ka)])) _
  refine st35 _ ?_
  show Steps p.tables e below (T35.setTop (mkF m 61 #[.val (.int p1), .val (.int p2), .unset, .unset, .unset, .unset, .unset] [(.ref w8), (.int (8 : Int32)), (.ref ka), (.ref ka)])) _
  refine st37 _ ?_
  show Steps p.tables e below (T37.setTop (mkF m 62 #[.val (.int p1), .val (.int p2), .unset, .unset, .unset, .unset, .unset] [(.ref ka)])) _
  refine XS.dup X37.here hx rfl (hb hby at_62) rfl rfl ?_
  show Steps p.tables e below (T37.setTop (mkF m 63 #[.val (.int p1), .val (.int p2), .unset, .unset, .unset, .unset, .unset] [(.ref ka), (.ref ka)])) _
  refine XS.bipush X37.here hx rfl (hb hby at_63) ?_
  show Steps p.tables e below (T37.setTop (mkF m 65 #[.val (.int p1), .val (.int p2), .unset, .unset, .unset, .unset, .unset] [(.int (9 : Int32)), (.ref ka), (.ref ka)])) _
  refine st39 _ ?_
  show Steps p.tables e below (T39.setTop (mkF m 68 #[.val (.int p1), .val (.int p2), .unset, .unset, .unset, .unset, .unset] [(.ref w9), (.int (9 : Int32)), (.ref ka), (.ref ka)])) _
  refine st41 _ ?_
  show Steps p.tables e below (T41.setTop (mkF m 69 #[.val (.int p1), .val (.int p2), .unset, .unset, .unset, .unset, .unset] [(.ref ka)])) _
  refine XS.dup X41.here hx rfl (hb hby at_69) rfl rfl ?_
  show Steps p.tables e below (T41.setTop (mkF m 70 #[.val (.int p1), .val (.int p2), .unset, .unset, .unset, .unset, .unset] [(.ref ka), (.ref ka)])) _
  refine XS.bipush X41.here hx rfl (hb hby at_70) ?_
  show Steps p.tables e below (T41.setTop (mkF m 72 #[.val (.int p1), .val (.int p2), .unset, .unset, .unset, .unset, .unset] [(.int (10 : Int32)), (.ref ka), (.ref ka)])) _
  refine st43 _ ?_
  show Steps p.tables e below (T43.setTop (mkF m 75 #[.val (.int p1), .val (.int p2), .unset, .unset, .unset, .unset, .unset] [(.ref w10), (.int (10 : Int32)), (.ref ka), (.ref ka)])) _
  refine st45 _ ?_
  show Steps p.tables e below (T45.setTop (mkF m 76 #[.val (.int p1), .val (.int p2), .unset, .unset, .unset, .unset, .unset] [(.ref ka)])) _
  refine XS.dup X45.here hx rfl (hb hby at_76) rfl rfl ?_
  show Steps p.tables e below (T45.setTop (mkF m 77 #[.val (.int p1), .val (.int p2), .unset, .unset, .unset, .unset, .unset] [(.ref ka), (.ref ka)])) _
  refine XS.bipush X45.here hx rfl (hb hby at_77) ?_
  show Steps p.tables e below (T45.setTop (mkF m 79 #[.val (.int p1), .val (.int p2), .unset, .unset, .unset, .unset, .unset] [(.int (11 : Int32)), (.ref ka), (.ref ka)])) _
  refine st47 _ ?_
  show Steps p.tables e below (T47.setTop (mkF m 82 #[.val (.int p1), .val (.int p2), .unset, .unset, .unset, .unset, .unset] [(.ref w11), (.int (11 : Int32)), (.ref ka), (.ref ka)])) _
  refine st49 _ ?_
  show Steps p.tables e below (T49.setTop (mkF m 83 #[.val (.int p1), .val (.int p2), .unset, .unset, .unset, .unset, .unset] [(.ref ka)])) _
  refine XS.dup X49.here hx rfl (hb hby at_83) rfl rfl ?_
  show Steps p.tables e below (T49.setTop (mkF m 84 #[.val (.int p1), .val (.int p2), .unset, .unset, .unset, .unset, .unset] [(.ref ka), (.ref ka)])) _
  refine XS.bipush X49.here hx rfl (hb hby at_84) ?_
  show Steps p.tables e below (T49.setTop (mkF m 86 #[.val (.int p1), .val (.int p2), .unset, .unset, .unset, .unset, .unset] [(.int (12 : Int32)), (.ref ka), (.ref ka)])) _
  refine st51 _ ?_
  show Steps p.tables e below (T51.setTop (mkF m 89 #[.val (.int p1), .val (.int p2), .unset, .unset, .unset, .unset, .unset] [(.ref w12), (.int (12 : Int32)), (.ref ka), (.ref ka)])) _
  refine st53 _ ?_
  show Steps p.tables e below (T53.setTop (mkF m 90 #[.val (.int p1), .val (.int p2), .unset, .unset, .unset, .unset, .unset] [(.ref ka)])) _
  refine XS.dup X53.here hx rfl (hb hby at_90) rfl rfl ?_
  show Steps p.tables e below (T53.setTop (mkF m 91 #[.val (.int p1), .val (.int p2), .unset, .unset, .unset, .unset, .unset] [(.ref ka), (.ref ka)])) _
  refine XS.bipush X53.here hx rfl (hb hby at_91) ?_
  show Steps p.tables e below (T53.setTop (mkF m 93 #[.val (.int p1), .val (.int p2), .unset, .unset, .unset, .unset, .unset] [(.int (13 : Int32)), (.ref ka), (.ref ka)])) _
  refine st55 _ ?_
  show Steps p.tables e below (T55.setTop (mkF m 96 #[.val (.int p1), .val (.int p2), .unset, .unset, .unset, .unset, .unset] [(.ref w13), (.int (13 : Int32)), (.ref ka), (.ref ka)])) _
  refine st57 _ ?_
  show Steps p.tables e below (T57.setTop (mkF m 97 #[.val (.int p1), .val (.int p2), .unset, .unset, .unset, .unset, .unset] [(.ref ka)])) _
  refine XS.dup X57.here hx rfl (hb hby at_97) rfl rfl ?_
  show Steps p.tables e below (T57.setTop (mkF m 98 #[.val (.int p1), .val (.int p2), .unset, .unset, .unset, .unset, .unset] [(.ref ka), (.ref ka)])) _
  refine XS.bipush X57.here hx rfl (hb hby at_98) ?_
  show Steps p.tables e below (T57.setTop (mkF m 100 #[.val (.int p1), .val (.int p2), .unset, .unset, .unset, .unset, .unset] [(.int (14 : Int32)), (.ref ka), (.ref ka)])) _
  refine st59 _ ?_
  show Steps p.tables e below (T59.setTop (mkF m 103 #[.val (.int p1), .val (.int p2), .unset, .unset, .unset, .unset, .unset] [(.ref w14), (.int (14 : Int32)), (.ref ka), (.ref ka)])) _
  refine st61 _ ?_
  show Steps p.tables e below (T61.setTop (mkF m 104 #[.val (.int p1), .val (.int p2), .unset, .unset, .unset, .unset, .unset] [(.ref ka)])) _
  refine XS.dup X61.here hx rfl (hb hby at_104) rfl rfl ?_
  show Steps p.tables e below (T61.setTop (mkF m 105 #[.val (.int p1), .val (.int p2), .unset, .unset, .unset, .unset, .unset] [(.ref ka), (.ref ka)])) _
  refine XS.bipush X61.here hx rfl (hb hby at_105) ?_
  show Steps p.tables e below (T61.setTop (mkF m 107 #[.val (.int p1), .val (.int p2), .unset, .unset, .unset, .unset, .unset] [(.int (15 : Int32)), (.ref ka), (.ref ka)])) _
  refine st63 _ ?_
  show Steps p.tables e below (T63.setTop (mkF m 110 #[.val (.int p1), .val (.int p2), .unset, .unset, .unset, .unset, .unset] [(.ref w15), (.int (15 : Int32)), (.ref ka), (.ref ka)])) _
  refine st65 _ ?_
  show Steps p.tables e below (T65.setTop (mkF m 111 #[.val (.int p1), .val (.int p2), .unset, .unset, .unset, .unset, .unset] [(.ref ka)])) _
  refine XS.dup X65.here hx rfl (hb hby at_111) rfl rfl ?_
  show Steps p.tables e below (T65.setTop (mkF m 112 #[.val (.int p1), .val (.int p2), .unset, .unset, .unset, .unset, .unset] [(.ref ka), (.ref ka)])) _
  refine XS.bipush X65.here hx rfl (hb hby at_112) ?_
  show Steps p.tables e below (T65.setTop (mkF m 114 #[.val (.int p1), .val (.int p2), .unset, .unset, .unset, .unset, .unset] [(.int (16 : Int32)), (.ref ka), (.ref ka)])) _
  refine st67 _ ?_
  show Steps p.tables e below (T67.setTop (mkF m 117 #[.val (.int p1), .val (.int p2), .unset, .unset, .unset, .unset, .unset] [(.ref w16), (.int (16 : Int32)), (.ref ka), (.ref ka)])) _
  refine st69 _ ?_
  show Steps p.tables e below (T69.setTop (mkF m 118 #[.val (.int p1), .val (.int p2), .unset, .unset, .unset, .unset, .unset] [(.ref ka)])) _
  refine XS.astoreN X69.here hx rfl (hb hby at_118) rfl rfl (l' := #[.val (.int p1), .val (.int p2), .val (.ref ka), .unset, .unset, .unset, .unset]) rfl ?_
  show Steps p.tables e below (T69.setTop (mkF m 119 #[.val (.int p1), .val (.int p2), .val (.ref ka), .unset, .unset, .unset, .unset] [])) _
  refine XS.bipush X69.here hx rfl (hb hby at_119) ?_
  show Steps p.tables e below (T69.setTop (mkF m 121 #[.val (.int p1), .val (.int p2), .val (.ref ka), .unset, .unset, .unset, .unset] [(.int (17 : Int32))])) _
  refine st71 _ ?_
  show Steps p.tables e below (T71.setTop (mkF m 123 #[.val (.int p1), .val (.int p2), .val (.ref ka), .unset, .unset, .unset, .unset] [(.ref kb)])) _
  refine XS.dup X71.here hx rfl (hb hby at_123) rfl rfl ?_
  show Steps p.tables e below (T71.setTop (mkF m 124 #[.val (.int p1), .val (.int p2), .val (.ref ka), .unset, .unset, .unset, .unset] [(.ref kb), (.ref kb)])) _
  refine XS.iconst X71.here hx rfl (hb hby at_124) ?_
  show Steps p.tables e below (T71.setTop (mkF m 125 #[.val (.int p1), .val (.int p2), .val (.ref ka), .unset, .unset, .unset, .unset] [(.int (0 : Int32)), (.ref kb), (.ref kb)])) _
  refine XS.bipush X71.here hx rfl (hb hby at_125) ?_
  show Steps p.tables e below (T71.setTop (mkF m 127 #[.val (.int p1), .val (.int p2), .val (.ref ka), .unset, .unset, .unset, .unset] [(.int (9 : Int32)), (.int (0 : Int32)), (.ref kb), (.ref kb)])) _
  refine st75 _ ?_
  show Steps p.tables e below (T75.setTop (mkF m 128 #[.val (.int p1), .val (.int p2), .val (.ref ka), .unset, .unset, .unset, .unset] [(.ref kb)])) _
  refine XS.dup X75.here hx rfl (hb hby at_128) rfl rfl ?_
  show Steps p.tables e below (T75.setTop (mkF m 129 #[.val (.int p1), .val (.int p2), .val (.ref ka), .unset, .unset, .unset, .unset] [(.ref kb), (.ref kb)])) _
  refine XS.iconst X75.here hx rfl (hb hby at_129) ?_
  show Steps p.tables e below (T75.setTop (mkF m 130 #[.val (.int p1), .val (.int p2), .val (.ref ka), .unset, .unset, .unset, .unset] [(.int (1 : Int32)), (.ref kb), (.ref kb)])) _
  refine XS.bipush X75.here hx rfl (hb hby at_130) ?_
  show Steps p.tables e below (T75.setTop (mkF m 132 #[.val (.int p1), .val (.int p2), .val (.ref ka), .unset, .unset, .unset, .unset] [(.int (12 : Int32)), (.int (1 : Int32)), (.ref kb), (.ref kb)])) _
  refine st79 _ ?_
  show Steps p.tables e below (T79.setTop (mkF m 133 #[.val (.int p1), .val (.int p2), .val (.ref ka), .unset, .unset, .unset, .unset] [(.ref kb)])) _
  refine XS.dup X79.here hx rfl (hb hby at_133) rfl rfl ?_
  show Steps p.tables e below (T79.setTop (mkF m 134 #[.val (.int p1), .val (.int p2), .val (.ref ka), .unset, .unset, .unset, .unset] [(.ref kb), (.ref kb)])) _
  refine XS.iconst X79.here hx rfl (hb hby at_134) ?_
  show Steps p.tables e below (T79.setTop (mkF m 135 #[.val (.int p1), .val (.int p2), .val (.ref ka), .unset, .unset, .unset, .unset] [(.int (2 : Int32)), (.ref kb), (.ref kb)])) _
  refine XS.bipush X79.here hx rfl (hb hby at_135) ?_
  show Steps p.tables e below (T79.setTop (mkF m 137 #[.val (.int p1), .val (.int p2), .val (.ref ka), .unset, .unset, .unset, .unset] [(.int (6 : Int32)), (.int (2 : Int32)), (.ref kb), (.ref kb)])) _
  refine st83 _ ?_
  show Steps p.tables e below (T83.setTop (mkF m 138 #[.val (.int p1), .val (.int p2), .val (.ref ka), .unset, .unset, .unset, .unset] [(.ref kb)])) _
  refine XS.dup X83.here hx rfl (hb hby at_138) rfl rfl ?_
  show Steps p.tables e below (T83.setTop (mkF m 139 #[.val (.int p1), .val (.int p2), .val (.ref ka), .unset, .unset, .unset, .unset] [(.ref kb), (.ref kb)])) _
  refine XS.iconst X83.here hx rfl (hb hby at_139) ?_
  show Steps p.tables e below (T83.setTop (mkF m 140 #[.val (.int p1), .val (.int p2), .val (.ref ka), .unset, .unset, .unset, .unset] [(.int (3 : Int32)), (.ref kb), (.ref kb)])) _
  refine XS.bipush X83.here hx rfl (hb hby at_140) ?_
  show Steps p.tables e below (T83.setTop (mkF m 142 #[.val (.int p1), .val (.int p2), .val (.ref ka), .unset, .unset, .unset, .unset] [(.int (9 : Int32)), (.int (3 : Int32)), (.ref kb), (.ref kb)])) _
  refine st87 _ ?_
  show Steps p.tables e below (T87.setTop (mkF m 143 #[.val (.int p1), .val (.int p2), .val (.ref ka), .unset, .unset, .unset, .unset] [(.ref kb)])) _
  refine XS.dup X87.here hx rfl (hb hby at_143) rfl rfl ?_
  show Steps p.tables e below (T87.setTop (mkF m 144 #[.val (.int p1), .val (.int p2), .val (.ref ka), .unset, .unset, .unset, .unset] [(.ref kb), (.ref kb)])) _
  refine XS.iconst X87.here hx rfl (hb hby at_144) ?_
  show Steps p.tables e below (T87.setTop (mkF m 145 #[.val (.int p1), .val (.int p2), .val (.ref ka), .unset, .unset, .unset, .unset] [(.int (4 : Int32)), (.ref kb), (.ref kb)])) _
  refine XS.iconst X87.here hx rfl (hb hby at_145) ?_
  show Steps p.tables e below (T87.setTop (mkF m 146 #[.val (.int p1), .val (.int p2), .val (.ref ka), .unset, .unset, .unset, .unset] [(.int (3 : Int32)), (.int (4 : Int32)), (.ref kb), (.ref kb)])) _
  refine st91 _ ?_
  show Steps p.tables e below (T91.setTop (mkF m 147 #[.val (.int p1), .val (.int p2), .val (.ref ka), .unset, .unset, .unset, .unset] [(.ref kb)])) _
  refine XS.dup X91.here hx rfl (hb hby at_147) rfl rfl ?_
  show Steps p.tables e below (T91.setTop (mkF m 148 #[.val (.int p1), .val (.int p2), .val (.ref ka), .unset, .unset, .unset, .unset] [(.ref kb), (.ref kb)])) _
  refine XS.iconst X91.here hx rfl (hb hby at_148) ?_
  show Steps p.tables e below (T91.setTop (mkF m 149 #[.val (.int p1), .val (.int p2), .val (.ref ka), .unset, .unset, .unset, .unset] [(.int (5 : Int32)), (.ref kb), (.ref kb)])) _
  refine XS.iconst X91.here hx rfl (hb hby at_149) ?_
  show Steps p.tables e below (T91.setTop (mkF m 150 #[.val (.int p1), .val (.int p2), .val (.ref ka), .unset, .unset, .unset, .unset] [(.int (3 : Int32)), (.int (5 : Int32)), (.ref kb), (.ref kb)])) _
  refine st95 _ ?_
  show Steps p.tables e below (T95.setTop (mkF m 151 #[.val (.int p1), .val (.int p2), .val (.ref ka), .unset, .unset, .unset, .unset] [(.ref kb)])) _
  refine XS.dup X95.here hx rfl (hb hby at_151) rfl rfl ?_
  show Steps p.tables e below (T95.setTop (mkF m 152 #[.val (.int p1), .val (.int p2), .val (.ref ka), .unset, .unset, .unset, .unset] [(.ref kb), (.ref kb)])) _
  refine XS.bipush X95.here hx rfl (hb hby at_152) ?_
  show Steps p.tables e below (T95.setTop (mkF m 154 #[.val (.int p1), .val (.int p2), .val (.ref ka), .unset, .unset, .unset, .unset] [(.int (6 : Int32)), (.ref kb), (.ref kb)])) _
  refine XS.iconst X95.here hx rfl (hb hby at_154) ?_
  show Steps p.tables e below (T95.setTop (mkF m 155 #[.val (.int p1), .val (.int p2), .val (.ref ka), .unset, .unset, .unset, .unset] [(.int (3 : Int32)), (.int (6 : Int32)), (.ref kb), (.ref kb)])) _
  refine st99 _ ?_
  show Steps p.tables e below (T99.setTop (mkF m 156 #[.val (.int p1), .val (.int p2), .val (.ref ka), .unset, .unset, .unset, .unset] [(.ref kb)])) _
  refine XS.dup X99.here hx rfl (hb hby at_156) rfl rfl ?_
  show Steps p.tables e below (T99.setTop (mkF m 157 #[.val (.int p1), .val (.int p2), .val (.ref ka), .unset, .unset, .unset, .unset] [(.ref kb), (.ref kb)])) _
  refine XS.bipush X99.here hx rfl (hb hby at_157) ?_
  show Steps p.tables e below (T99.setTop (mkF m 159 #[.val (.int p1), .val (.int p2), .val (.ref ka), .unset, .unset, .unset, .unset] [(.int (7 : Int32)), (.ref kb), (.ref kb)])) _
  refine XS.iconst X99.here hx rfl (hb hby at_159) ?_
  show Steps p.tables e below (T99.setTop (mkF m 160 #[.val (.int p1), .val (.int p2), .val (.ref ka), .unset, .unset, .unset, .unset] [(.int (4 : Int32)), (.int (7 : Int32)), (.ref kb), (.ref kb)])) _
  refine st103 _ ?_
  show Steps p.tables e below (T103.setTop (mkF m 161 #[.val (.int p1), .val (.int p2), .val (.ref ka), .unset, .unset, .unset, .unset] [(.ref kb)])) _
  refine XS.dup X103.here hx rfl (hb hby at_161) rfl rfl ?_
  show Steps p.tables e below (T103.setTop (mkF m 162 #[.val (.int p1), .val (.int p2), .val (.ref ka), .unset, .unset, .unset, .unset] [(.ref kb), (.ref kb)])) _
  refine XS.bipush X103.here hx rfl (hb hby at_162) ?_
  show Steps p.tables e below (T103.setTop (mkF m 164 #[.val (.int p1), .val (.int p2), .val (.ref ka), .unset, .unset, .unset, .unset] [(.int (8 : Int32)), (.ref kb), (.ref kb)])) _
  refine XS.iconst X103.here hx rfl (hb hby at_164) ?_
  show Steps p.tables e below (T103.setTop (mkF m 165 #[.val (.int p1), .val (.int p2), .val (.ref ka), .unset, .unset, .unset, .unset] [(.int (2 : Int32)), (.int (8 : Int32)), (.ref kb), (.ref kb)])) _
  refine st107 _ ?_
  show Steps p.tables e below (T107.setTop (mkF m 166 #[.val (.int p1), .val (.int p2), .val (.ref ka), .unset, .unset, .unset, .unset] [(.ref kb)])) _
  refine XS.dup X107.here hx rfl (hb hby at_166) rfl rfl ?_
  show Steps p.tables e below (T107.setTop (mkF m 167 #[.val (.int p1), .val (.int p2), .val (.ref ka), .unset, .unset, .unset, .unset] [(.ref kb), (.ref kb)])) _
  refine XS.bipush X107.here hx rfl (hb hby at_167) ?_
  show Steps p.tables e below (T107.setTop (mkF m 169 #[.val (.int p1), .val (.int p2), .val (.ref ka), .unset, .unset, .unset, .unset] [(.int (9 : Int32)), (.ref kb), (.ref kb)])) _
  refine XS.iconst X107.here hx rfl (hb hby at_169) ?_
  show Steps p.tables e below (T107.setTop (mkF m 170 #[.val (.int p1), .val (.int p2), .val (.ref ka), .unset, .unset, .unset, .unset] [(.int (1 : Int32)), (.int (9 : Int32)), (.ref kb), (.ref kb)])) _
  refine st111 _ ?_
  show Steps p.tables e below (T111.setTop (mkF m 171 #[.val (.int p1), .val (.int p2), .val (.ref ka), .unset, .unset, .unset, .unset] [(.ref kb)])) _
  refine XS.dup X111.here hx rfl (hb hby at_171) rfl rfl ?_
  show Steps p.tables e below (T111.setTop (mkF m 172 #[.val (.int p1), .val (.int p2), .val (.ref ka), .unset, .unset, .unset, .unset] [(.ref kb), (.ref kb)])) _
  refine XS.bipush X111.here hx rfl (hb hby at_172) ?_
  show Steps p.tables e below (T111.setTop (mkF m 174 #[.val (.int p1), .val (.int p2), .val (.ref ka), .unset, .unset, .unset, .unset] [(.int (10 : Int32)), (.ref kb), (.ref kb)])) _
  refine XS.iconst X111.here hx rfl (hb hby at_174) ?_
  show Steps p.tables e below (T111.setTop (mkF m 175 #[.val (.int p1), .val (.int p2), .val (.ref ka), .unset, .unset, .unset, .unset] [(.int (0 : Int32)), (.int (10 : Int32)), (.ref kb), (.ref kb)])) _
  refine st115 _ ?_
  show Steps p.tables e below (T115.setTop (mkF m 176 #[.val (.int p1), .val (.int p2), .val (.ref ka), .unset, .unset, .unset, .unset] [(.ref kb)])) _
  refine XS.dup X115.here hx rfl (hb hby at_176) rfl rfl ?_
  show Steps p.tables e below (T115.setTop (mkF m 177 #[.val (.int p1), .val (.int p2), .val (.ref ka), .unset, .unset, .unset, .unset] [(.ref kb), (.ref kb)])) _
  refine XS.bipush X115.here hx rfl (hb hby at_177) ?_
  show Steps p.tables e below (T115.setTop (mkF m 179 #[.val (.int p1), .val (.int p2), .val (.ref ka), .unset, .unset, .unset, .unset] [(.int (11 : Int32)), (.ref kb), (.ref kb)])) _
  refine XS.iconst X115.here hx rfl (hb hby at_179) ?_
  show Steps p.tables e below (T115.setTop (mkF m 180 #[.val (.int p1), .val (.int p2), .val (.ref ka), .unset, .unset, .unset, .unset] [(.int (0 : Int32)), (.int (11 : Int32)), (.ref kb), (.ref kb)])) _
  refine st119 _ ?_
  show Steps p.tables e below (T119.setTop (mkF m 181 #[.val (.int p1), .val (.int p2), .val (.ref ka), .unset, .unset, .unset, .unset] [(.ref kb)])) _
  refine XS.dup X119.here hx rfl (hb hby at_181) rfl rfl ?_
  show Steps p.tables e below (T119.setTop (mkF m 182 #[.val (.int p1), .val (.int p2), .val (.ref ka), .unset, .unset, .unset, .unset] [(.ref kb), (.ref kb)])) _
  refine XS.bipush X119.here hx rfl (hb hby at_182) ?_
  show Steps p.tables e below (T119.setTop (mkF m 184 #[.val (.int p1), .val (.int p2), .val (.ref ka), .unset, .unset, .unset, .unset] [(.int (12 : Int32)), (.ref kb), (.ref kb)])) _
  refine XS.iconst X119.here hx rfl (hb hby at_184) ?_
  show Steps p.tables e below (T119.setTop (mkF m 185 #[.val (.int p1), .val (.int p2), .val (.ref ka), .unset, .unset, .unset, .unset] [(.int (0 : Int32)), (.int (12 : Int32)), (.ref kb), (.ref kb)])) _
  refine st123 _ ?_
  show Steps p.tables e below (T123.setTop (mkF m 186 #[.val (.int p1), .val (.int p2), .val (.ref ka), .unset, .unset, .unset, .unset] [(.ref kb)])) _
  refine XS.dup X123.here hx rfl (hb hby at_186) rfl rfl ?_
  show Steps p.tables e below (T123.setTop (mkF m 187 #[.val (.int p1), .val (.int p2), .val (.ref ka), .unset, .unset, .unset, .unset] [(.ref kb), (.ref kb)])) _
  refine XS.bipush X123.here hx rfl (hb hby at_187) ?_
  show Steps p.tables e below (T123.setTop (mkF m 189 #[.val (.int p1), .val (.int p2), .val (.ref ka), .unset, .unset, .unset, .unset] [(.int (13 : Int32)), (.ref kb), (.ref kb)])) _
  refine XS.iconst X123.here hx rfl (hb hby at_189) ?_
  show Steps p.tables e below (T123.setTop (mkF m 190 #[.val (.int p1), .val (.int p2), .val (.ref ka), .unset, .unset, .unset, .unset] [(.int (0 : Int32)), (.int (13 : Int32)), (.ref kb), (.ref kb)])) _
  refine st127 _ ?_
  show Steps p.tables e below (T127.setTop (mkF m 191 #[.val (.int p1), .val (.int p2), .val (.ref ka), .unset, .unset, .unset, .unset] [(.ref kb)])) _
  refine XS.dup X127.here hx rfl (hb hby at_191) rfl rfl ?_
  show Steps p.tables e below (T127.setTop (mkF m 192 #[.val (.int p1), .val (.int p2), .val (.ref ka), .unset, .unset, .unset, .unset] [(.ref kb), (.ref kb)])) _
  refine XS.bipush X127.here hx rfl (hb hby at_192) ?_
  show Steps p.tables e below (T127.setTop (mkF m 194 #[.val (.int p1), .val (.int p2), .val (.ref ka), .unset, .unset, .unset, .unset] [(.int (14 : Int32)), (.ref kb), (.ref kb)])) _
  refine XS.iconst X127.here hx rfl (hb hby at_194) ?_
  show Steps p.tables e below (T127.setTop (mkF m 195 #[.val (.int p1), .val (.int p2), .val (.ref ka), .unset, .unset, .unset, .unset] [(.int (0 : Int32)), (.int (14 : Int32)), (.ref kb), (.ref kb)])) _
  refine st131 _ ?_
  show Steps p.tables e below (T131.setTop (mkF m 196 #[.val (.int p1), .val (.int p2), .val (.ref ka), .unset, .unset, .unset, .unset] [(.ref kb)])) _
  refine XS.dup X131.here hx rfl (hb hby at_196) rfl rfl ?_
  show Steps p.tables e below (T131.setTop (mkF m 197 #[.val (.int p1), .val (.int p2), .val (.ref ka), .unset, .unset, .unset, .unset] [(.ref kb), (.ref kb)])) _
  refine XS.bipush X131.here hx rfl (hb hby at_197) ?_
  show Steps p.tables e below (T131.setTop (mkF m 199 #[.val (.int p1), .val (.int p2), .val (.ref ka), .unset, .unset, .unset, .unset] [(.int (15 : Int32)), (.ref kb), (.ref kb)])) _
  refine XS.iconst X131.here hx rfl (hb hby at_199) ?_
  show Steps p.tables e below (T131.setTop (mkF m 200 #[.val (.int p1), .val (.int p2), .val (.ref ka), .unset, .unset, .unset, .unset] [(.int (0 : Int32)), (.int (15 : Int32)), (.ref kb), (.ref kb)])) _
  refine st135 _ ?_
  show Steps p.tables e below (T135.setTop (mkF m 201 #[.val (.int p1), .val (.int p2), .val (.ref ka), .unset, .unset, .unset, .unset] [(.ref kb)])) _
  refine XS.dup X135.here hx rfl (hb hby at_201) rfl rfl ?_
  show Steps p.tables e below (T135.setTop (mkF m 202 #[.val (.int p1), .val (.int p2), .val (.ref ka), .unset, .unset, .unset, .unset] [(.ref kb), (.ref kb)])) _
  refine XS.bipush X135.here hx rfl (hb hby at_202) ?_
  show Steps p.tables e below (T135.setTop (mkF m 204 #[.val (.int p1), .val (.int p2), .val (.ref ka), .unset, .unset, .unset, .unset] [(.int (16 : Int32)), (.ref kb), (.ref kb)])) _
  refine XS.iconst X135.here hx rfl (hb hby at_204) ?_
  show Steps p.tables e below (T135.setTop (mkF m 205 #[.val (.int p1), .val (.int p2), .val (.ref ka), .unset, .unset, .unset, .unset] [(.int (0 : Int32)), (.int (16 : Int32)), (.ref kb), (.ref kb)])) _
  refine st139 _ ?_
  show Steps p.tables e below (T139.setTop (mkF m 206 #[.val (.int p1), .val (.int p2), .val (.ref ka), .unset, .unset, .unset, .unset] [(.ref kb)])) _
  refine XS.astoreN X139.here hx rfl (hb hby at_206) rfl rfl (l' := #[.val (.int p1), .val (.int p2), .val (.ref ka), .val (.ref kb), .unset, .unset, .unset]) rfl ?_
  exact kt
theorem pd__S_Z : parseMethodDescriptor "(S)Z" = some ⟨[.short], some .boolean⟩ := by decide +kernel
theorem pn_com_example_ack3_ack3_protocol_ApiKeyIsFlexiblePinLaw : plainName "com/example/ack3/ack3/protocol/ApiKeyIsFlexiblePinLaw" = true := by first | (simp [plainName, overriddenIn]; done) | decide +kernel
theorem ef_0 (m : MethodId) (x0 : Int32) (x1 : Int32) : entryFrame m #[(.int x0), (.int x1)] maxLocals = mkF m 0 #[.val (.int x0), .val (.int x1), .unset, .unset, .unset, .unset, .unset] [] := by first | (simp [entryFrame, mkF, argsToLocals, Value.category, maxLocals]; done) | rfl
def Q0 (n0 : Nat) (v : Option Value) (h : Heap) (L : List Loc) : Prop := v = some (.int (1 : Int32)) ∧ Fr n0 L
set_option maxRecDepth 65536 in
set_option maxHeartbeats 40000000 in
theorem rm0t (l : Launch) (Z : State) (a0 : Array Value) (hw : ∀ d ∈ tables_1, d.before a0 Z = true) (ws : List Jvm.Cond) (p1 p2 : Int32) (w0 w1 w2 w3 w4 w5 w6 w7 w8 w9 w10 w11 w12 w13 w14 w15 w16 : Addr) (h0 : Heap) (n0 : Nat) (Z0 : n0 ≤ h0.size) (Sy0 : Sta Z h0 "com/example/ack3/ack3/protocol/ApiKey" "PRODUCE" "Lcom/example/ack3/ack3/protocol/ApiKey;" (.ref w0)) (Sy1 : Sta Z h0 "com/example/ack3/ack3/protocol/ApiKey" "FETCH" "Lcom/example/ack3/ack3/protocol/ApiKey;" (.ref w1)) (Sy2 : Sta Z h0 "com/example/ack3/ack3/protocol/ApiKey" "LIST_OFFSETS" "Lcom/example/ack3/ack3/protocol/ApiKey;" (.ref w2)) (Sy3 : Sta Z h0 "com/example/ack3/ack3/protocol/ApiKey" "METADATA" "Lcom/example/ack3/ack3/protocol/ApiKey;" (.ref w3)) (Sy4 : Sta Z h0 "com/example/ack3/ack3/protocol/ApiKey" "FIND_COORDINATOR" "Lcom/example/ack3/ack3/protocol/ApiKey;" (.ref w4)) (Sy5 : Sta Z h0 "com/example/ack3/ack3/protocol/ApiKey" "LIST_GROUPS" "Lcom/example/ack3/ack3/protocol/ApiKey;" (.ref w5)) (Sy6 : Sta Z h0 "com/example/ack3/ack3/protocol/ApiKey" "API_VERSIONS" "Lcom/example/ack3/ack3/protocol/ApiKey;" (.ref w6)) (Sy7 : Sta Z h0 "com/example/ack3/ack3/protocol/ApiKey" "DESCRIBE_CONFIGS" "Lcom/example/ack3/ack3/protocol/ApiKey;" (.ref w7)) (Sy8 : Sta Z h0 "com/example/ack3/ack3/protocol/ApiKey" "DELETE_GROUPS" "Lcom/example/ack3/ack3/protocol/ApiKey;" (.ref w8)) (Sy9 : Sta Z h0 "com/example/ack3/ack3/protocol/ApiKey" "INCREMENTAL_ALTER_CONFIGS" "Lcom/example/ack3/ack3/protocol/ApiKey;" (.ref w9)) (Sy10 : Sta Z h0 "com/example/ack3/ack3/protocol/ApiKey" "SHARE_GROUP_HEARTBEAT" "Lcom/example/ack3/ack3/protocol/ApiKey;" (.ref w10)) (Sy11 : Sta Z h0 "com/example/ack3/ack3/protocol/ApiKey" "SHARE_GROUP_DESCRIBE" "Lcom/example/ack3/ack3/protocol/ApiKey;" (.ref w11)) (Sy12 : Sta Z h0 "com/example/ack3/ack3/protocol/ApiKey" "SHARE_FETCH" "Lcom/example/ack3/ack3/protocol/ApiKey;" (.ref w12)) (Sy13 : Sta Z h0 "com/example/ack3/ack3/protocol/ApiKey" "SHARE_ACKNOWLEDGE" "Lcom/example/ack3/ack3/protocol/ApiKey;" (.ref w13)) (Sy14 : Sta Z h0 "com/example/ack3/ack3/protocol/ApiKey" "DESCRIBE_SHARE_GROUP_OFFSETS" "Lcom/example/ack3/ack3/protocol/ApiKey;" (.ref w14)) (Sy15 : Sta Z h0 "com/example/ack3/ack3/protocol/ApiKey" "ALTER_SHARE_GROUP_OFFSETS" "Lcom/example/ack3/ack3/protocol/ApiKey;" (.ref w15)) (Sy16 : Sta Z h0 "com/example/ack3/ack3/protocol/ApiKey" "DELETE_SHARE_GROUP_OFFSETS" "Lcom/example/ack3/ack3/protocol/ApiKey;" (.ref w16)) (Ex0 : Exa Z h0 w0 "com/example/ack3/ack3/protocol/ApiKey") (Ex1 : Exa Z h0 w1 "com/example/ack3/ack3/protocol/ApiKey") (Ex2 : Exa Z h0 w2 "com/example/ack3/ack3/protocol/ApiKey") (Ex3 : Exa Z h0 w3 "com/example/ack3/ack3/protocol/ApiKey") (Ex4 : Exa Z h0 w4 "com/example/ack3/ack3/protocol/ApiKey") (Ex5 : Exa Z h0 w5 "com/example/ack3/ack3/protocol/ApiKey") (Ex6 : Exa Z h0 w6 "com/example/ack3/ack3/protocol/ApiKey") (Ex7 : Exa Z h0 w7 "com/example/ack3/ack3/protocol/ApiKey") (Ex8 : Exa Z h0 w8 "com/example/ack3/ack3/protocol/ApiKey") (Ex9 : Exa Z h0 w9 "com/example/ack3/ack3/protocol/ApiKey") (Ex10 : Exa Z h0 w10 "com/example/ack3/ack3/protocol/ApiKey") (Ex11 : Exa Z h0 w11 "com/example/ack3/ack3/protocol/ApiKey") (Ex12 : Exa Z h0 w12 "com/example/ack3/ack3/protocol/ApiKey") (Ex13 : Exa Z h0 w13 "com/example/ack3/ack3/protocol/ApiKey") (Ex14 : Exa Z h0 w14 "com/example/ack3/ack3/protocol/ApiKey") (Ex15 : Exa Z h0 w15 "com/example/ack3/ack3/protocol/ApiKey") (Ex16 : Exa Z h0 w16 "com/example/ack3/ack3/protocol/ApiKey") (hall : ∀ i, i < 17 → ∃ kk : Addr, ([(.ref w0), (.ref w1), (.ref w2), (.ref w3), (.ref w4), (.ref w5), (.ref w6), (.ref w7), (.ref w8), (.ref w9), (.ref w10), (.ref w11), (.ref w12), (.ref w13), (.ref w14), (.ref w15), (.ref w16)] : List Value).getD i .null = .ref kk ∧ Exa Z h0 kk "com/example/ack3/ack3/protocol/ApiKey" ∧ Fld Z h0 kk "com/example/ack3/ack3/protocol/ApiKey" "firstFlexibleVersion" "S" (.int (own_fl.getD i 0))) (hc226 : (p2.toInt16.toInt32) < (own_fl.getD (((p1 &&& (2147483647 : Int32)) % (17 : Int32))).toNatClampNeg 0)) :
    MetFree l x (head1 (Jvm.Cond.code x code maxLocals ret :: ws) room_1) (fun a U => a = #[(.int p1), (.int p2)] ∧ Z.Warmed39 U.vm ∧ U.heap = h0) (fun _ _ _ _ _ => True) (fun _ U o U' => ∃ v L, o = .returned v ∧ Q0 n0 v U'.heap L ∧ FrameEnd U o U' L room_1.cells room_1.slots) := by
  refine MetFree.of_bodySF (plainFor_of_name pn_com_example_ack3_ack3_protocol_ApiKeyIsFlexiblePinLaw) hisR ?_
  intro p e s m args below meth cd s₁ Bd hml0 hPre hKc
  obtain ⟨rfl, hZ, hHp⟩ := hPre
  have hx := Bd.exec
  have hby := Bd.bytes
  have hml : cd.maxLocals = 7 := hml0
  have hown : s.vm.findClass "com/example/ack3/ack3/protocol/ApiKeyIsFlexiblePinLaw" = some m.cls := findClass_of_methodNamed Bd.named
  have hnm := (name_of_methodNamed Bd.named Bd.method).1
  have X0 : Stand p l e room_1 s m #[(.int p1), (.int p2)] below meth cd s₁ [] 0 0 := Stand.of_body Bd
  have e0 : s₁.heap = h0 := by rw [← hHp, Bd.state]; rfl
  have N0 := Fr.nil n0
  have pre0 : ∀ t, Steps p.tables e below (s₁.setTop (mkF m 0 #[.val (.int p1), .val (.int p2), .unset, .unset, .unset, .unset, .unset] [])) t → Steps p.tables e below (s₁.setTop (entryFrame m #[(.int p1), (.int p2)] maxLocals)) t := fun t kz => castTop (ef_0 m p1 p2) kz
  obtain ⟨TA, hA, LA, ka, kb, k1, k2, XA, eA, NA, zA, KA, VA, VB, stA⟩ := segA p1 p2 w0 w1 w2 w3 w4 w5 w6 w7 w8 w9 w10 w11 w12 w13 w14 w15 w16 X0 hx hZ hw hby hml hown e0 N0 Z0 Sy0 Sy1 Sy2 Sy3 Sy4 Sy5 Sy6 Sy7 Sy8 Sy9 Sy10 Sy11 Sy12 Sy13 Sy14 Sy15 Sy16 Ex0 Ex1 Ex2 Ex3 Ex4 Ex5 Ex6 Ex7 Ex8 Ex9 Ex10 Ex11 Ex12 Ex13 Ex14 Ex15 Ex16
  obtain ⟨c1, Ar1, -, S1, -, H1, -⟩ := VB
  have hin1 : ¬ (((p1 &&& (2147483647 : Int32)) % (17 : Int32)) < 0 ∨ c1.slots.size ≤ (((p1 &&& (2147483647 : Int32)) % (17 : Int32))).toNatClampNeg) := inb_of S1 ⟨(own_idx (own_and p1)).1, (own_idx (own_and p1)).2.1⟩
  have hat1 : c1.slots[(((p1 &&& (2147483647 : Int32)) % (17 : Int32))).toNatClampNeg]? = some (.int (own_fl.getD (((p1 &&& (2147483647 : Int32)) % (17 : Int32))).toNatClampNeg 0)) := H1.at hin1 (own_getI own_fl _)
  obtain ⟨kk, ek, EK, FK0⟩ := hall (((p1 &&& (2147483647 : Int32)) % (17 : Int32))).toNatClampNeg (own_idx (own_and p1)).2.2
  obtain ⟨c2, Ar2, -, S2, -, H2, -⟩ := VA
  have hin2 : ¬ (((p1 &&& (2147483647 : Int32)) % (17 : Int32)) < 0 ∨ c2.slots.size ≤ (((p1 &&& (2147483647 : Int32)) % (17 : Int32))).toNatClampNeg) := inb_of S2 ⟨(own_idx (own_and p1)).1, (own_idx (own_and p1)).2.1⟩
  have hat2 : c2.slots[(((p1 &&& (2147483647 : Int32)) % (17 : Int32))).toNatClampNeg]? = some (.ref kk) := H2.at hin2 ek
  obtain ⟨cq3, kq3, q3a, q3b, q3c⟩ := isOf hZ eA (EK.keep KA)
  obtain ⟨_, _, ⟨T3, L3, k3, n3⟩, -, X3, ⟨Lc3, hQ3, l3, y3, z3⟩, st3⟩ := XA.virtualBack hx (y := (⟨"com/example/ack3/ack3/protocol/ApiKey", "isFlexible", "(S)Z"⟩ : MethodName)) (z := (⟨"com/example/ack3/ack3/protocol/ApiKey", "isFlexible", "(S)Z"⟩ : MethodName)) hown (mvT hZ (hw _ (List.mem_of_getElem? (i := 40) rfl))) (mvT hZ (hw _ (List.mem_of_getElem? (i := 41) rfl))) (notFace_of_selects (args := #[]) (mvT hZ (hw _ (List.mem_of_getElem? (i := 43) rfl)))) (mvT hZ (hw _ (List.mem_of_getElem? (i := 43) rfl))) (mvT hZ (hw _ (List.mem_of_getElem? (i := 42) rfl))) (by decide) (backOf (W := 0) (rm1t l Z a0 hw [] kk (p2.toInt16.toInt32) _ hA n0 zA (FK0.keep KA nin0) hc226) hZ (hw _ (List.mem_of_getElem? (i := 44) rfl)) (hw _ (List.mem_of_getElem? (i := 3) rfl)) (by decide) (by decide)) q3a q3c (g := (mkF m 242 #[.val (.int p1), .val (.int p2), .val (.ref ka), .val (.ref kb), .val (.int ((p1 &&& (2147483647 : Int32)) % (17 : Int32))), .val (.int (p2.toInt16.toInt32)), .val (.int (0 : Int32))] [(.int (p2.toInt16.toInt32)), (.ref kk)])) rfl (by rw [hml]; rfl) (Steps.refl _) (argsL := [(.int (p2.toInt16.toInt32))]) (rest := []) (lenOf pd__S_Z rfl) rfl (by show 2 * 0 + _ ≤ _; exact Nat.le_of_eq rfl) (hb hby at_242) (fun _ _ => ⟨rfl, eA, (Nat.le_of_ble_eq_true rfl), (Nat.le_of_ble_eq_true rfl)⟩)
  dsimp only [Pt.U, Pt.locs, Pt.cells, Pt.slots] at X3 l3 y3 z3 st3 hQ3
  subst l3 y3 z3
  obtain ⟨rfl, N3q, e3⟩ := hQ3
  have N3 := Fr.app NA N3q
  obtain ⟨fs, hr, hrun, hended, hW, hsame⟩ := X3.leave (v := some (.int (1 : Int32))) (fun h => by rw [Bd.returns] at h; cases h)
  refine ⟨_, _, pre0 _ ?_, hrun, hended, _, _, rfl, ?_, ⟨_, rfl⟩, hW, hsame.mono (by decide) (by decide)⟩
  · show Steps p.tables e below (s₁.setTop (mkF m 0 #[.val (.int p1), .val (.int p2), .unset, .unset, .unset, .unset, .unset] [])) _
    refine stA _ ?_
    show Steps p.tables e below (TA.setTop (mkF m 207 #[.val (.int p1), .val (.int p2), .val (.ref ka), .val (.ref kb), .unset, .unset, .unset] [])) _
    refine XS.iloadN XA.here hx rfl (hb hby at_207) rfl ?_
    show Steps p.tables e below (TA.setTop (mkF m 208 #[.val (.int p1), .val (.int p2), .val (.ref ka), .val (.ref kb), .unset, .unset, .unset] [(.int p1)])) _
    refine XA.ldcInt hx hown (mvT hZ (hw _ (List.mem_of_getElem? (i := 39) rfl))) (g := (mkF m 208 #[.val (.int p1), .val (.int p2), .val (.ref ka), .val (.ref kb), .unset, .unset, .unset] [(.int p1)])) rfl (hb hby at_208) _ ?_
    show Steps p.tables e below (TA.setTop (mkF m 210 #[.val (.int p1), .val (.int p2), .val (.ref ka), .val (.ref kb), .unset, .unset, .unset] [(.int (2147483647 : Int32)), (.int p1)])) _
    refine XS.iand XA.here hx rfl (hb hby at_210) rfl ?_
    show Steps p.tables e below (TA.setTop (mkF m 211 #[.val (.int p1), .val (.int p2), .val (.ref ka), .val (.ref kb), .unset, .unset, .unset] [(.int (p1 &&& (2147483647 : Int32)))])) _
    refine XS.bipush XA.here hx rfl (hb hby at_211) ?_
    show Steps p.tables e below (TA.setTop (mkF m 213 #[.val (.int p1), .val (.int p2), .val (.ref ka), .val (.ref kb), .unset, .unset, .unset] [(.int (17 : Int32)), (.int (p1 &&& (2147483647 : Int32)))])) _
    refine XS.irem XA.here hx rfl (hb hby at_213) rfl (by decide) ?_
    rw [irem_eq_mod (p1 &&& (2147483647 : Int32)) (17 : Int32)]
    show Steps p.tables e below (TA.setTop (mkF m 214 #[.val (.int p1), .val (.int p2), .val (.ref ka), .val (.ref kb), .unset, .unset, .unset] [(.int ((p1 &&& (2147483647 : Int32)) % (17 : Int32)))])) _
    refine XS.istore XA.here hx rfl (hb hby at_214) rfl (l' := #[.val (.int p1), .val (.int p2), .val (.ref ka), .val (.ref kb), .val (.int ((p1 &&& (2147483647 : Int32)) % (17 : Int32))), .unset, .unset]) rfl ?_
    show Steps p.tables e below (TA.setTop (mkF m 216 #[.val (.int p1), .val (.int p2), .val (.ref ka), .val (.ref kb), .val (.int ((p1 &&& (2147483647 : Int32)) % (17 : Int32))), .unset, .unset] [])) _
    refine XS.iloadN XA.here hx rfl (hb hby at_216) rfl ?_
    show Steps p.tables e below (TA.setTop (mkF m 217 #[.val (.int p1), .val (.int p2), .val (.ref ka), .val (.ref kb), .val (.int ((p1 &&& (2147483647 : Int32)) % (17 : Int32))), .unset, .unset] [(.int p2)])) _
    refine XS.i2s XA.here hx rfl (hb hby at_217) rfl ?_
    show Steps p.tables e below (TA.setTop (mkF m 218 #[.val (.int p1), .val (.int p2), .val (.ref ka), .val (.ref kb), .val (.int ((p1 &&& (2147483647 : Int32)) % (17 : Int32))), .unset, .unset] [(.int (p2.toInt16.toInt32))])) _
    refine XS.istore XA.here hx rfl (hb hby at_218) rfl (l' := #[.val (.int p1), .val (.int p2), .val (.ref ka), .val (.ref kb), .val (.int ((p1 &&& (2147483647 : Int32)) % (17 : Int32))), .val (.int (p2.toInt16.toInt32)), .unset]) rfl ?_
    show Steps p.tables e below (TA.setTop (mkF m 220 #[.val (.int p1), .val (.int p2), .val (.ref ka), .val (.ref kb), .val (.int ((p1 &&& (2147483647 : Int32)) % (17 : Int32))), .val (.int (p2.toInt16.toInt32)), .unset] [])) _
    refine XS.iload XA.here hx rfl (hb hby at_220) rfl ?_
    show Steps p.tables e below (TA.setTop (mkF m 222 #[.val (.int p1), .val (.int p2), .val (.ref ka), .val (.ref kb), .val (.int ((p1 &&& (2147483647 : Int32)) % (17 : Int32))), .val (.int (p2.toInt16.toInt32)), .unset] [(.int (p2.toInt16.toInt32))])) _
    refine XS.aloadN XA.here hx rfl (hb hby at_222) rfl rfl ?_
    show Steps p.tables e below (TA.setTop (mkF m 223 #[.val (.int p1), .val (.int p2), .val (.ref ka), .val (.ref kb), .val (.int ((p1 &&& (2147483647 : Int32)) % (17 : Int32))), .val (.int (p2.toInt16.toInt32)), .unset] [(.ref kb), (.int (p2.toInt16.toInt32))])) _
    refine XS.iload XA.here hx rfl (hb hby at_223) rfl ?_
    show Steps p.tables e below (TA.setTop (mkF m 225 #[.val (.int p1), .val (.int p2), .val (.ref ka), .val (.ref kb), .val (.int ((p1 &&& (2147483647 : Int32)) % (17 : Int32))), .val (.int (p2.toInt16.toInt32)), .unset] [(.int ((p1 &&& (2147483647 : Int32)) % (17 : Int32))), (.ref kb), (.int (p2.toInt16.toInt32))])) _
    refine XA.iaload hx (j := ((p1 &&& (2147483647 : Int32)) % (17 : Int32))) (v := (.int (own_fl.getD (((p1 &&& (2147483647 : Int32)) % (17 : Int32))).toNatClampNeg 0))) (by rw [eA]; exact Ar1.1) (State.isArrayOf_alike hZ.alike Ar1.2.1) Ar1.2.2 hin1 hat1 (g := (mkF m 225 #[.val (.int p1), .val (.int p2), .val (.ref ka), .val (.ref kb), .val (.int ((p1 &&& (2147483647 : Int32)) % (17 : Int32))), .val (.int (p2.toInt16.toInt32)), .unset] [(.int ((p1 &&& (2147483647 : Int32)) % (17 : Int32))), (.ref kb), (.int (p2.toInt16.toInt32))])) rfl rfl (hb hby at_225) _ ?_
    show Steps p.tables e below (TA.setTop (mkF m 226 #[.val (.int p1), .val (.int p2), .val (.ref ka), .val (.ref kb), .val (.int ((p1 &&& (2147483647 : Int32)) % (17 : Int32))), .val (.int (p2.toInt16.toInt32)), .unset] [(.int (own_fl.getD (((p1 &&& (2147483647 : Int32)) % (17 : Int32))).toNatClampNeg 0)), (.int (p2.toInt16.toInt32))])) _
    refine XS.icmpYes XA.here hx rfl (pc0 := 226) (pc' := 233) rfl (hb hby at_226) rfl (tlt hc226).1 (by decide) (by decide) ?_
    show Steps p.tables e below (TA.setTop (mkF m 233 #[.val (.int p1), .val (.int p2), .val (.ref ka), .val (.ref kb), .val (.int ((p1 &&& (2147483647 : Int32)) % (17 : Int32))), .val (.int (p2.toInt16.toInt32)), .unset] [])) _
    refine XS.iconst XA.here hx rfl (hb hby at_233) ?_
    show Steps p.tables e below (TA.setTop (mkF m 234 #[.val (.int p1), .val (.int p2), .val (.ref ka), .val (.ref kb), .val (.int ((p1 &&& (2147483647 : Int32)) % (17 : Int32))), .val (.int (p2.toInt16.toInt32)), .unset] [(.int (0 : Int32))])) _
    refine XS.istore XA.here hx rfl (hb hby at_234) rfl (l' := #[.val (.int p1), .val (.int p2), .val (.ref ka), .val (.ref kb), .val (.int ((p1 &&& (2147483647 : Int32)) % (17 : Int32))), .val (.int (p2.toInt16.toInt32)), .val (.int (0 : Int32))]) rfl ?_
    show Steps p.tables e below (TA.setTop (mkF m 236 #[.val (.int p1), .val (.int p2), .val (.ref ka), .val (.ref kb), .val (.int ((p1 &&& (2147483647 : Int32)) % (17 : Int32))), .val (.int (p2.toInt16.toInt32)), .val (.int (0 : Int32))] [])) _
    refine XS.aloadN XA.here hx rfl (hb hby at_236) rfl rfl ?_
    show Steps p.tables e below (TA.setTop (mkF m 237 #[.val (.int p1), .val (.int p2), .val (.ref ka), .val (.ref kb), .val (.int ((p1 &&& (2147483647 : Int32)) % (17 : Int32))), .val (.int (p2.toInt16.toInt32)), .val (.int (0 : Int32))] [(.ref ka)])) _
    refine XS.iload XA.here hx rfl (hb hby at_237) rfl ?_
    show Steps p.tables e below (TA.setTop (mkF m 239 #[.val (.int p1), .val (.int p2), .val (.ref ka), .val (.ref kb), .val (.int ((p1 &&& (2147483647 : Int32)) % (17 : Int32))), .val (.int (p2.toInt16.toInt32)), .val (.int (0 : Int32))] [(.int ((p1 &&& (2147483647 : Int32)) % (17 : Int32))), (.ref ka)])) _
    refine XA.aaload hx (j := ((p1 &&& (2147483647 : Int32)) % (17 : Int32))) (v := (.ref kk)) (by rw [eA]; exact Ar2.1) (State.isArrayOf_alike hZ.alike Ar2.2.1) rfl Ar2.2.2 hin2 hat2 (g := (mkF m 239 #[.val (.int p1), .val (.int p2), .val (.ref ka), .val (.ref kb), .val (.int ((p1 &&& (2147483647 : Int32)) % (17 : Int32))), .val (.int (p2.toInt16.toInt32)), .val (.int (0 : Int32))] [(.int ((p1 &&& (2147483647 : Int32)) % (17 : Int32))), (.ref ka)])) rfl rfl (hb hby at_239) _ ?_
    show Steps p.tables e below (TA.setTop (mkF m 240 #[.val (.int p1), .val (.int p2), .val (.ref ka), .val (.ref kb), .val (.int ((p1 &&& (2147483647 : Int32)) % (17 : Int32))), .val (.int (p2.toInt16.toInt32)), .val (.int (0 : Int32))] [(.ref kk)])) _
    refine XS.iload XA.here hx rfl (hb hby at_240) rfl ?_
    show Steps p.tables e below (TA.setTop (mkF m 242 #[.val (.int p1), .val (.int p2), .val (.ref ka), .val (.ref kb), .val (.int ((p1 &&& (2147483647 : Int32)) % (17 : Int32))), .val (.int (p2.toInt16.toInt32)), .val (.int (0 : Int32))] [(.int (p2.toInt16.toInt32)), (.ref kk)])) _
    refine st3.trans ?_
    show Steps p.tables e below (T3.setTop (mkF m 245 #[.val (.int p1), .val (.int p2), .val (.ref ka), .val (.ref kb), .val (.int ((p1 &&& (2147483647 : Int32)) % (17 : Int32))), .val (.int (p2.toInt16.toInt32)), .val (.int (0 : Int32))] [(.int (0 : Int32))])) _
    refine XS.iload X3.here hx rfl (hb hby at_245) rfl ?_
    show Steps p.tables e below (T3.setTop (mkF m 247 #[.val (.int p1), .val (.int p2), .val (.ref ka), .val (.ref kb), .val (.int ((p1 &&& (2147483647 : Int32)) % (17 : Int32))), .val (.int (p2.toInt16.toInt32)), .val (.int (0 : Int32))] [(.int (0 : Int32)), (.int (0 : Int32))])) _
    refine XS.icmpNo X3.here hx rfl (hb hby at_247) rfl (teq (rfl : (0 : Int32) = (0 : Int32))).2 ?_
    show Steps p.tables e below (T3.setTop (mkF m 250 #[.val (.int p1), .val (.int p2), .val (.ref ka), .val (.ref kb), .val (.int ((p1 &&& (2147483647 : Int32)) % (17 : Int32))), .val (.int (p2.toInt16.toInt32)), .val (.int (0 : Int32))] [])) _
    refine XS.iconst X3.here hx rfl (hb hby at_250) ?_
    show Steps p.tables e below (T3.setTop (mkF m 251 #[.val (.int p1), .val (.int p2), .val (.ref ka), .val (.ref kb), .val (.int ((p1 &&& (2147483647 : Int32)) % (17 : Int32))), .val (.int (p2.toInt16.toInt32)), .val (.int (0 : Int32))] [(.int (1 : Int32))])) _
    refine XS.goto X3.here hx rfl (pc0 := 251) (pc' := 255) rfl (hb hby at_251) (by decide) (by decide) ?_
    show Steps p.tables e below (T3.setTop (mkF m 255 #[.val (.int p1), .val (.int p2), .val (.ref ka), .val (.ref kb), .val (.int ((p1 &&& (2147483647 : Int32)) % (17 : Int32))), .val (.int (p2.toInt16.toInt32)), .val (.int (0 : Int32))] [(.int (1 : Int32))])) _
    exact retN X3 hx (t := .boolean) Bd.returns (by simp) (hb hby at_255) hr
  · show Q0 n0 _ _ _
    exact ⟨rfl, N3⟩
set_option maxRecDepth 65536 in
set_option maxHeartbeats 40000000 in
theorem rm0f (l : Launch) (Z : State) (a0 : Array Value) (hw : ∀ d ∈ tables_1, d.before a0 Z = true) (ws : List Jvm.Cond) (p1 p2 : Int32) (w0 w1 w2 w3 w4 w5 w6 w7 w8 w9 w10 w11 w12 w13 w14 w15 w16 : Addr) (h0 : Heap) (n0 : Nat) (Z0 : n0 ≤ h0.size) (Sy0 : Sta Z h0 "com/example/ack3/ack3/protocol/ApiKey" "PRODUCE" "Lcom/example/ack3/ack3/protocol/ApiKey;" (.ref w0)) (Sy1 : Sta Z h0 "com/example/ack3/ack3/protocol/ApiKey" "FETCH" "Lcom/example/ack3/ack3/protocol/ApiKey;" (.ref w1)) (Sy2 : Sta Z h0 "com/example/ack3/ack3/protocol/ApiKey" "LIST_OFFSETS" "Lcom/example/ack3/ack3/protocol/ApiKey;" (.ref w2)) (Sy3 : Sta Z h0 "com/example/ack3/ack3/protocol/ApiKey" "METADATA" "Lcom/example/ack3/ack3/protocol/ApiKey;" (.ref w3)) (Sy4 : Sta Z h0 "com/example/ack3/ack3/protocol/ApiKey" "FIND_COORDINATOR" "Lcom/example/ack3/ack3/protocol/ApiKey;" (.ref w4)) (Sy5 : Sta Z h0 "com/example/ack3/ack3/protocol/ApiKey" "LIST_GROUPS" "Lcom/example/ack3/ack3/protocol/ApiKey;" (.ref w5)) (Sy6 : Sta Z h0 "com/example/ack3/ack3/protocol/ApiKey" "API_VERSIONS" "Lcom/example/ack3/ack3/protocol/ApiKey;" (.ref w6)) (Sy7 : Sta Z h0 "com/example/ack3/ack3/protocol/ApiKey" "DESCRIBE_CONFIGS" "Lcom/example/ack3/ack3/protocol/ApiKey;" (.ref w7)) (Sy8 : Sta Z h0 "com/example/ack3/ack3/protocol/ApiKey" "DELETE_GROUPS" "Lcom/example/ack3/ack3/protocol/ApiKey;" (.ref w8)) (Sy9 : Sta Z h0 "com/example/ack3/ack3/protocol/ApiKey" "INCREMENTAL_ALTER_CONFIGS" "Lcom/example/ack3/ack3/protocol/ApiKey;" (.ref w9)) (Sy10 : Sta Z h0 "com/example/ack3/ack3/protocol/ApiKey" "SHARE_GROUP_HEARTBEAT" "Lcom/example/ack3/ack3/protocol/ApiKey;" (.ref w10)) (Sy11 : Sta Z h0 "com/example/ack3/ack3/protocol/ApiKey" "SHARE_GROUP_DESCRIBE" "Lcom/example/ack3/ack3/protocol/ApiKey;" (.ref w11)) (Sy12 : Sta Z h0 "com/example/ack3/ack3/protocol/ApiKey" "SHARE_FETCH" "Lcom/example/ack3/ack3/protocol/ApiKey;" (.ref w12)) (Sy13 : Sta Z h0 "com/example/ack3/ack3/protocol/ApiKey" "SHARE_ACKNOWLEDGE" "Lcom/example/ack3/ack3/protocol/ApiKey;" (.ref w13)) (Sy14 : Sta Z h0 "com/example/ack3/ack3/protocol/ApiKey" "DESCRIBE_SHARE_GROUP_OFFSETS" "Lcom/example/ack3/ack3/protocol/ApiKey;" (.ref w14)) (Sy15 : Sta Z h0 "com/example/ack3/ack3/protocol/ApiKey" "ALTER_SHARE_GROUP_OFFSETS" "Lcom/example/ack3/ack3/protocol/ApiKey;" (.ref w15)) (Sy16 : Sta Z h0 "com/example/ack3/ack3/protocol/ApiKey" "DELETE_SHARE_GROUP_OFFSETS" "Lcom/example/ack3/ack3/protocol/ApiKey;" (.ref w16)) (Ex0 : Exa Z h0 w0 "com/example/ack3/ack3/protocol/ApiKey") (Ex1 : Exa Z h0 w1 "com/example/ack3/ack3/protocol/ApiKey") (Ex2 : Exa Z h0 w2 "com/example/ack3/ack3/protocol/ApiKey") (Ex3 : Exa Z h0 w3 "com/example/ack3/ack3/protocol/ApiKey") (Ex4 : Exa Z h0 w4 "com/example/ack3/ack3/protocol/ApiKey") (Ex5 : Exa Z h0 w5 "com/example/ack3/ack3/protocol/ApiKey") (Ex6 : Exa Z h0 w6 "com/example/ack3/ack3/protocol/ApiKey") (Ex7 : Exa Z h0 w7 "com/example/ack3/ack3/protocol/ApiKey") (Ex8 : Exa Z h0 w8 "com/example/ack3/ack3/protocol/ApiKey") (Ex9 : Exa Z h0 w9 "com/example/ack3/ack3/protocol/ApiKey") (Ex10 : Exa Z h0 w10 "com/example/ack3/ack3/protocol/ApiKey") (Ex11 : Exa Z h0 w11 "com/example/ack3/ack3/protocol/ApiKey") (Ex12 : Exa Z h0 w12 "com/example/ack3/ack3/protocol/ApiKey") (Ex13 : Exa Z h0 w13 "com/example/ack3/ack3/protocol/ApiKey") (Ex14 : Exa Z h0 w14 "com/example/ack3/ack3/protocol/ApiKey") (Ex15 : Exa Z h0 w15 "com/example/ack3/ack3/protocol/ApiKey") (Ex16 : Exa Z h0 w16 "com/example/ack3/ack3/protocol/ApiKey") (hall : ∀ i, i < 17 → ∃ kk : Addr, ([(.ref w0), (.ref w1), (.ref w2), (.ref w3), (.ref w4), (.ref w5), (.ref w6), (.ref w7), (.ref w8), (.ref w9), (.ref w10), (.ref w11), (.ref w12), (.ref w13), (.ref w14), (.ref w15), (.ref w16)] : List Value).getD i .null = .ref kk ∧ Exa Z h0 kk "com/example/ack3/ack3/protocol/ApiKey" ∧ Fld Z h0 kk "com/example/ack3/ack3/protocol/ApiKey" "firstFlexibleVersion" "S" (.int (own_fl.getD i 0))) (hc226 : ¬ ((p2.toInt16.toInt32) < (own_fl.getD (((p1 &&& (2147483647 : Int32)) % (17 : Int32))).toNatClampNeg 0))) :
    MetFree l x (head1 (Jvm.Cond.code x code maxLocals ret :: ws) room_1) (fun a U => a = #[(.int p1), (.int p2)] ∧ Z.Warmed39 U.vm ∧ U.heap = h0) (fun _ _ _ _ _ => True) (fun _ U o U' => ∃ v L, o = .returned v ∧ Q0 n0 v U'.heap L ∧ FrameEnd U o U' L room_1.cells room_1.slots) := by
  refine MetFree.of_bodySF (plainFor_of_name pn_com_example_ack3_ack3_protocol_ApiKeyIsFlexiblePinLaw) hisR ?_
  intro p e s m args below meth cd s₁ Bd hml0 hPre hKc
  obtain ⟨rfl, hZ, hHp⟩ := hPre
  have hx := Bd.exec
  have hby := Bd.bytes
  have hml : cd.maxLocals = 7 := hml0
  have hown : s.vm.findClass "com/example/ack3/ack3/protocol/ApiKeyIsFlexiblePinLaw" = some m.cls := findClass_of_methodNamed Bd.named
  have hnm := (name_of_methodNamed Bd.named Bd.method).1
  have X0 : Stand p l e room_1 s m #[(.int p1), (.int p2)] below meth cd s₁ [] 0 0 := Stand.of_body Bd
  have e0 : s₁.heap = h0 := by rw [← hHp, Bd.state]; rfl
  have N0 := Fr.nil n0
  have pre0 : ∀ t, Steps p.tables e below (s₁.setTop (mkF m 0 #[.val (.int p1), .val (.int p2), .unset, .unset, .unset, .unset, .unset] [])) t → Steps p.tables e below (s₁.setTop (entryFrame m #[(.int p1), (.int p2)] maxLocals)) t := fun t kz => castTop (ef_0 m p1 p2) kz
  obtain ⟨TA, hA, LA, ka, kb, k1, k2, XA, eA, NA, zA, KA, VA, VB, stA⟩ := segA p1 p2 w0 w1 w2 w3 w4 w5 w6 w7 w8 w9 w10 w11 w12 w13 w14 w15 w16 X0 hx hZ hw hby hml hown e0 N0 Z0 Sy0 Sy1 Sy2 Sy3 Sy4 Sy5 Sy6 Sy7 Sy8 Sy9 Sy10 Sy11 Sy12 Sy13 Sy14 Sy15 Sy16 Ex0 Ex1 Ex2 Ex3 Ex4 Ex5 Ex6 Ex7 Ex8 Ex9 Ex10 Ex11 Ex12 Ex13 Ex14 Ex15 Ex16
  obtain ⟨c1, Ar1, -, S1, -, H1, -⟩ := VB
  have hin1 : ¬ (((p1 &&& (2147483647 : Int32)) % (17 : Int32)) < 0 ∨ c1.slots.size ≤ (((p1 &&& (2147483647 : Int32)) % (17 : Int32))).toNatClampNeg) := inb_of S1 ⟨(own_idx (own_and p1)).1, (own_idx (own_and p1)).2.1⟩
  have hat1 : c1.slots[(((p1 &&& (2147483647 : Int32)) % (17 : Int32))).toNatClampNeg]? = some (.int (own_fl.getD (((p1 &&& (2147483647 : Int32)) % (17 : Int32))).toNatClampNeg 0)) := H1.at hin1 (own_getI own_fl _)
  obtain ⟨kk, ek, EK, FK0⟩ := hall (((p1 &&& (2147483647 : Int32)) % (17 : Int32))).toNatClampNeg (own_idx (own_and p1)).2.2
  obtain ⟨c2, Ar2, -, S2, -, H2, -⟩ := VA
  have hin2 : ¬ (((p1 &&& (2147483647 : Int32)) % (17 : Int32)) < 0 ∨ c2.slots.size ≤ (((p1 &&& (2147483647 : Int32)) % (17 : Int32))).toNatClampNeg) := inb_of S2 ⟨(own_idx (own_and p1)).1, (own_idx (own_and p1)).2.1⟩
  have hat2 : c2.slots[(((p1 &&& (2147483647 : Int32)) % (17 : Int32))).toNatClampNeg]? = some (.ref kk) := H2.at hin2 ek
  obtain ⟨cq3, kq3, q3a, q3b, q3c⟩ := isOf hZ eA (EK.keep KA)
  obtain ⟨_, _, ⟨T3, L3, k3, n3⟩, -, X3, ⟨Lc3, hQ3, l3, y3, z3⟩, st3⟩ := XA.virtualBack hx (y := (⟨"com/example/ack3/ack3/protocol/ApiKey", "isFlexible", "(S)Z"⟩ : MethodName)) (z := (⟨"com/example/ack3/ack3/protocol/ApiKey", "isFlexible", "(S)Z"⟩ : MethodName)) hown (mvT hZ (hw _ (List.mem_of_getElem? (i := 40) rfl))) (mvT hZ (hw _ (List.mem_of_getElem? (i := 41) rfl))) (notFace_of_selects (args := #[]) (mvT hZ (hw _ (List.mem_of_getElem? (i := 43) rfl)))) (mvT hZ (hw _ (List.mem_of_getElem? (i := 43) rfl))) (mvT hZ (hw _ (List.mem_of_getElem? (i := 42) rfl))) (by decide) (backOf (W := 0) (rm1f l Z a0 hw [] kk (p2.toInt16.toInt32) _ hA n0 zA (FK0.keep KA nin0) hc226) hZ (hw _ (List.mem_of_getElem? (i := 44) rfl)) (hw _ (List.mem_of_getElem? (i := 3) rfl)) (by decide) (by decide)) q3a q3c (g := (mkF m 242 #[.val (.int p1), .val (.int p2), .val (.ref ka), .val (.ref kb), .val (.int ((p1 &&& (2147483647 : Int32)) % (17 : Int32))), .val (.int (p2.toInt16.toInt32)), .val (.int (1 : Int32))] [(.int (p2.toInt16.toInt32)), (.ref kk)])) rfl (by rw [hml]; rfl) (Steps.refl _) (argsL := [(.int (p2.toInt16.toInt32))]) (rest := []) (lenOf pd__S_Z rfl) rfl (by show 2 * 0 + _ ≤ _; exact Nat.le_of_eq rfl) (hb hby at_242) (fun _ _ => ⟨rfl, eA, (Nat.le_of_ble_eq_true rfl), (Nat.le_of_ble_eq_true rfl)⟩)
  dsimp only [Pt.U, Pt.locs, Pt.cells, Pt.slots] at X3 l3 y3 z3 st3 hQ3
  subst l3 y3 z3
  obtain ⟨rfl, N3q, e3⟩ := hQ3
  have N3 := Fr.app NA N3q
  obtain ⟨fs, hr, hrun, hended, hW, hsame⟩ := X3.leave (v := some (.int (1 : Int32))) (fun h => by rw [Bd.returns] at h; cases h)
  refine ⟨_, _, pre0 _ ?_, hrun, hended, _, _, rfl, ?_, ⟨_, rfl⟩, hW, hsame.mono (by decide) (by decide)⟩
  · show Steps p.tables e below (s₁.setTop (mkF m 0 #[.val (.int p1), .val (.int p2), .unset, .unset, .unset, .unset, .unset] [])) _
    refine stA _ ?_
    show Steps p.tables e below (TA.setTop (mkF m 207 #[.val (.int p1), .val (.int p2), .val (.ref ka), .val (.ref kb), .unset, .unset, .unset] [])) _
    refine XS.iloadN XA.here hx rfl (hb hby at_207) rfl ?_
    show Steps p.tables e below (TA.setTop (mkF m 208 #[.val (.int p1), .val (.int p2), .val (.ref ka), .val (.ref kb), .unset, .unset, .unset] [(.int p1)])) _
    refine XA.ldcInt hx hown (mvT hZ (hw _ (List.mem_of_getElem? (i := 39) rfl))) (g := (mkF m 208 #[.val (.int p1), .val (.int p2), .val (.ref ka), .val (.ref kb), .unset, .unset, .unset] [(.int p1)])) rfl (hb hby at_208) _ ?_
    show Steps p.tables e below (TA.setTop (mkF m 210 #[.val (.int p1), .val (.int p2), .val (.ref ka), .val (.ref kb), .unset, .unset, .unset] [(.int (2147483647 : Int32)), (.int p1)])) _
    refine XS.iand XA.here hx rfl (hb hby at_210) rfl ?_
    show Steps p.tables e below (TA.setTop (mkF m 211 #[.val (.int p1), .val (.int p2), .val (.ref ka), .val (.ref kb), .unset, .unset, .unset] [(.int (p1 &&& (2147483647 : Int32)))])) _
    refine XS.bipush XA.here hx rfl (hb hby at_211) ?_
    show Steps p.tables e below (TA.setTop (mkF m 213 #[.val (.int p1), .val (.int p2), .val (.ref ka), .val (.ref kb), .unset, .unset, .unset] [(.int (17 : Int32)), (.int (p1 &&& (2147483647 : Int32)))])) _
    refine XS.irem XA.here hx rfl (hb hby at_213) rfl (by decide) ?_
    rw [irem_eq_mod (p1 &&& (2147483647 : Int32)) (17 : Int32)]
    show Steps p.tables e below (TA.setTop (mkF m 214 #[.val (.int p1), .val (.int p2), .val (.ref ka), .val (.ref kb), .unset, .unset, .unset] [(.int ((p1 &&& (2147483647 : Int32)) % (17 : Int32)))])) _
    refine XS.istore XA.here hx rfl (hb hby at_214) rfl (l' := #[.val (.int p1), .val (.int p2), .val (.ref ka), .val (.ref kb), .val (.int ((p1 &&& (2147483647 : Int32)) % (17 : Int32))), .unset, .unset]) rfl ?_
    show Steps p.tables e below (TA.setTop (mkF m 216 #[.val (.int p1), .val (.int p2), .val (.ref ka), .val (.ref kb), .val (.int ((p1 &&& (2147483647 : Int32)) % (17 : Int32))), .unset, .unset] [])) _
    refine XS.iloadN XA.here hx rfl (hb hby at_216) rfl ?_
    show Steps p.tables e below (TA.setTop (mkF m 217 #[.val (.int p1), .val (.int p2), .val (.ref ka), .val (.ref kb), .val (.int ((p1 &&& (2147483647 : Int32)) % (17 : Int32))), .unset, .unset] [(.int p2)])) _
    refine XS.i2s XA.here hx rfl (hb hby at_217) rfl ?_
    show Steps p.tables e below (TA.setTop (mkF m 218 #[.val (.int p1), .val (.int p2), .val (.ref ka), .val (.ref kb), .val (.int ((p1 &&& (2147483647 : Int32)) % (17 : Int32))), .unset, .unset] [(.int (p2.toInt16.toInt32))])) _
    refine XS.istore XA.here hx rfl (hb hby at_218) rfl (l' := #[.val (.int p1), .val (.int p2), .val (.ref ka), .val (.ref kb), .val (.int ((p1 &&& (2147483647 : Int32)) % (17 : Int32))), .val (.int (p2.toInt16.toInt32)), .unset]) rfl ?_
    show Steps p.tables e below (TA.setTop (mkF m 220 #[.val (.int p1), .val (.int p2), .val (.ref ka), .val (.ref kb), .val (.int ((p1 &&& (2147483647 : Int32)) % (17 : Int32))), .val (.int (p2.toInt16.toInt32)), .unset] [])) _
    refine XS.iload XA.here hx rfl (hb hby at_220) rfl ?_
    show Steps p.tables e below (TA.setTop (mkF m 222 #[.val (.int p1), .val (.int p2), .val (.ref ka), .val (.ref kb), .val (.int ((p1 &&& (2147483647 : Int32)) % (17 : Int32))), .val (.int (p2.toInt16.toInt32)), .unset] [(.int (p2.toInt16.toInt32))])) _
    refine XS.aloadN XA.here hx rfl (hb hby at_222) rfl rfl ?_
    show Steps p.tables e below (TA.setTop (mkF m 223 #[.val (.int p1), .val (.int p2), .val (.ref ka), .val (.ref kb), .val (.int ((p1 &&& (2147483647 : Int32)) % (17 : Int32))), .val (.int (p2.toInt16.toInt32)), .unset] [(.ref kb), (.int (p2.toInt16.toInt32))])) _
    refine XS.iload XA.here hx rfl (hb hby at_223) rfl ?_
    show Steps p.tables e below (TA.setTop (mkF m 225 #[.val (.int p1), .val (.int p2), .val (.ref ka), .val (.ref kb), .val (.int ((p1 &&& (2147483647 : Int32)) % (17 : Int32))), .val (.int (p2.toInt16.toInt32)), .unset] [(.int ((p1 &&& (2147483647 : Int32)) % (17 : Int32))), (.ref kb), (.int (p2.toInt16.toInt32))])) _
    refine XA.iaload hx (j := ((p1 &&& (2147483647 : Int32)) % (17 : Int32))) (v := (.int (own_fl.getD (((p1 &&& (2147483647 : Int32)) % (17 : Int32))).toNatClampNeg 0))) (by rw [eA]; exact Ar1.1) (State.isArrayOf_alike hZ.alike Ar1.2.1) Ar1.2.2 hin1 hat1 (g := (mkF m 225 #[.val (.int p1), .val (.int p2), .val (.ref ka), .val (.ref kb), .val (.int ((p1 &&& (2147483647 : Int32)) % (17 : Int32))), .val (.int (p2.toInt16.toInt32)), .unset] [(.int ((p1 &&& (2147483647 : Int32)) % (17 : Int32))), (.ref kb), (.int (p2.toInt16.toInt32))])) rfl rfl (hb hby at_225) _ ?_
    show Steps p.tables e below (TA.setTop (mkF m 226 #[.val (.int p1), .val (.int p2), .val (.ref ka), .val (.ref kb), .val (.int ((p1 &&& (2147483647 : Int32)) % (17 : Int32))), .val (.int (p2.toInt16.toInt32)), .unset] [(.int (own_fl.getD (((p1 &&& (2147483647 : Int32)) % (17 : Int32))).toNatClampNeg 0)), (.int (p2.toInt16.toInt32))])) _
    refine XS.icmpNo XA.here hx rfl (hb hby at_226) rfl (flt hc226).1 ?_
    show Steps p.tables e below (TA.setTop (mkF m 229 #[.val (.int p1), .val (.int p2), .val (.ref ka), .val (.ref kb), .val (.int ((p1 &&& (2147483647 : Int32)) % (17 : Int32))), .val (.int (p2.toInt16.toInt32)), .unset] [])) _
    refine XS.iconst XA.here hx rfl (hb hby at_229) ?_
    show Steps p.tables e below (TA.setTop (mkF m 230 #[.val (.int p1), .val (.int p2), .val (.ref ka), .val (.ref kb), .val (.int ((p1 &&& (2147483647 : Int32)) % (17 : Int32))), .val (.int (p2.toInt16.toInt32)), .unset] [(.int (1 : Int32))])) _
    refine XS.goto XA.here hx rfl (pc0 := 230) (pc' := 234) rfl (hb hby at_230) (by decide) (by decide) ?_
    show Steps p.tables e below (TA.setTop (mkF m 234 #[.val (.int p1), .val (.int p2), .val (.ref ka), .val (.ref kb), .val (.int ((p1 &&& (2147483647 : Int32)) % (17 : Int32))), .val (.int (p2.toInt16.toInt32)), .unset] [(.int (1 : Int32))])) _
    refine XS.istore XA.here hx rfl (hb hby at_234) rfl (l' := #[.val (.int p1), .val (.int p2), .val (.ref ka), .val (.ref kb), .val (.int ((p1 &&& (2147483647 : Int32)) % (17 : Int32))), .val (.int (p2.toInt16.toInt32)), .val (.int (1 : Int32))]) rfl ?_
    show Steps p.tables e below (TA.setTop (mkF m 236 #[.val (.int p1), .val (.int p2), .val (.ref ka), .val (.ref kb), .val (.int ((p1 &&& (2147483647 : Int32)) % (17 : Int32))), .val (.int (p2.toInt16.toInt32)), .val (.int (1 : Int32))] [])) _
    refine XS.aloadN XA.here hx rfl (hb hby at_236) rfl rfl ?_
    show Steps p.tables e below (TA.setTop (mkF m 237 #[.val (.int p1), .val (.int p2), .val (.ref ka), .val (.ref kb), .val (.int ((p1 &&& (2147483647 : Int32)) % (17 : Int32))), .val (.int (p2.toInt16.toInt32)), .val (.int (1 : Int32))] [(.ref ka)])) _
    refine XS.iload XA.here hx rfl (hb hby at_237) rfl ?_
    show Steps p.tables e below (TA.setTop (mkF m 239 #[.val (.int p1), .val (.int p2), .val (.ref ka), .val (.ref kb), .val (.int ((p1 &&& (2147483647 : Int32)) % (17 : Int32))), .val (.int (p2.toInt16.toInt32)), .val (.int (1 : Int32))] [(.int ((p1 &&& (2147483647 : Int32)) % (17 : Int32))), (.ref ka)])) _
    refine XA.aaload hx (j := ((p1 &&& (2147483647 : Int32)) % (17 : Int32))) (v := (.ref kk)) (by rw [eA]; exact Ar2.1) (State.isArrayOf_alike hZ.alike Ar2.2.1) rfl Ar2.2.2 hin2 hat2 (g := (mkF m 239 #[.val (.int p1), .val (.int p2), .val (.ref ka), .val (.ref kb), .val (.int ((p1 &&& (2147483647 : Int32)) % (17 : Int32))), .val (.int (p2.toInt16.toInt32)), .val (.int (1 : Int32))] [(.int ((p1 &&& (2147483647 : Int32)) % (17 : Int32))), (.ref ka)])) rfl rfl (hb hby at_239) _ ?_
    show Steps p.tables e below (TA.setTop (mkF m 240 #[.val (.int p1), .val (.int p2), .val (.ref ka), .val (.ref kb), .val (.int ((p1 &&& (2147483647 : Int32)) % (17 : Int32))), .val (.int (p2.toInt16.toInt32)), .val (.int (1 : Int32))] [(.ref kk)])) _
    refine XS.iload XA.here hx rfl (hb hby at_240) rfl ?_
    show Steps p.tables e below (TA.setTop (mkF m 242 #[.val (.int p1), .val (.int p2), .val (.ref ka), .val (.ref kb), .val (.int ((p1 &&& (2147483647 : Int32)) % (17 : Int32))), .val (.int (p2.toInt16.toInt32)), .val (.int (1 : Int32))] [(.int (p2.toInt16.toInt32)), (.ref kk)])) _
    refine st3.trans ?_
    show Steps p.tables e below (T3.setTop (mkF m 245 #[.val (.int p1), .val (.int p2), .val (.ref ka), .val (.ref kb), .val (.int ((p1 &&& (2147483647 : Int32)) % (17 : Int32))), .val (.int (p2.toInt16.toInt32)), .val (.int (1 : Int32))] [(.int (1 : Int32))])) _
    refine XS.iload X3.here hx rfl (hb hby at_245) rfl ?_
    show Steps p.tables e below (T3.setTop (mkF m 247 #[.val (.int p1), .val (.int p2), .val (.ref ka), .val (.ref kb), .val (.int ((p1 &&& (2147483647 : Int32)) % (17 : Int32))), .val (.int (p2.toInt16.toInt32)), .val (.int (1 : Int32))] [(.int (1 : Int32)), (.int (1 : Int32))])) _
    refine XS.icmpNo X3.here hx rfl (hb hby at_247) rfl (teq (rfl : (1 : Int32) = (1 : Int32))).2 ?_
    show Steps p.tables e below (T3.setTop (mkF m 250 #[.val (.int p1), .val (.int p2), .val (.ref ka), .val (.ref kb), .val (.int ((p1 &&& (2147483647 : Int32)) % (17 : Int32))), .val (.int (p2.toInt16.toInt32)), .val (.int (1 : Int32))] [])) _
    refine XS.iconst X3.here hx rfl (hb hby at_250) ?_
    show Steps p.tables e below (T3.setTop (mkF m 251 #[.val (.int p1), .val (.int p2), .val (.ref ka), .val (.ref kb), .val (.int ((p1 &&& (2147483647 : Int32)) % (17 : Int32))), .val (.int (p2.toInt16.toInt32)), .val (.int (1 : Int32))] [(.int (1 : Int32))])) _
    refine XS.goto X3.here hx rfl (pc0 := 251) (pc' := 255) rfl (hb hby at_251) (by decide) (by decide) ?_
    show Steps p.tables e below (T3.setTop (mkF m 255 #[.val (.int p1), .val (.int p2), .val (.ref ka), .val (.ref kb), .val (.int ((p1 &&& (2147483647 : Int32)) % (17 : Int32))), .val (.int (p2.toInt16.toInt32)), .val (.int (1 : Int32))] [(.int (1 : Int32))])) _
    exact retN X3 hx (t := .boolean) Bd.returns (by simp) (hb hby at_255) hr
  · show Q0 n0 _ _ _
    exact ⟨rfl, N3⟩
theorem rm0 (l : Launch) (Z : State) (a0 : Array Value) (hw : ∀ d ∈ tables_1, d.before a0 Z = true) (ws : List Jvm.Cond) (p1 p2 : Int32) (w0 w1 w2 w3 w4 w5 w6 w7 w8 w9 w10 w11 w12 w13 w14 w15 w16 : Addr) (h0 : Heap) (n0 : Nat) (Z0 : n0 ≤ h0.size) (Sy0 : Sta Z h0 "com/example/ack3/ack3/protocol/ApiKey" "PRODUCE" "Lcom/example/ack3/ack3/protocol/ApiKey;" (.ref w0)) (Sy1 : Sta Z h0 "com/example/ack3/ack3/protocol/ApiKey" "FETCH" "Lcom/example/ack3/ack3/protocol/ApiKey;" (.ref w1)) (Sy2 : Sta Z h0 "com/example/ack3/ack3/protocol/ApiKey" "LIST_OFFSETS" "Lcom/example/ack3/ack3/protocol/ApiKey;" (.ref w2)) (Sy3 : Sta Z h0 "com/example/ack3/ack3/protocol/ApiKey" "METADATA" "Lcom/example/ack3/ack3/protocol/ApiKey;" (.ref w3)) (Sy4 : Sta Z h0 "com/example/ack3/ack3/protocol/ApiKey" "FIND_COORDINATOR" "Lcom/example/ack3/ack3/protocol/ApiKey;" (.ref w4)) (Sy5 : Sta Z h0 "com/example/ack3/ack3/protocol/ApiKey" "LIST_GROUPS" "Lcom/example/ack3/ack3/protocol/ApiKey;" (.ref w5)) (Sy6 : Sta Z h0 "com/example/ack3/ack3/protocol/ApiKey" "API_VERSIONS" "Lcom/example/ack3/ack3/protocol/ApiKey;" (.ref w6)) (Sy7 : Sta Z h0 "com/example/ack3/ack3/protocol/ApiKey" "DESCRIBE_CONFIGS" "Lcom/example/ack3/ack3/protocol/ApiKey;" (.ref w7)) (Sy8 : Sta Z h0 "com/example/ack3/ack3/protocol/ApiKey" "DELETE_GROUPS" "Lcom/example/ack3/ack3/protocol/ApiKey;" (.ref w8)) (Sy9 : Sta Z h0 "com/example/ack3/ack3/protocol/ApiKey" "INCREMENTAL_ALTER_CONFIGS" "Lcom/example/ack3/ack3/protocol/ApiKey;" (.ref w9)) (Sy10 : Sta Z h0 "com/example/ack3/ack3/protocol/ApiKey" "SHARE_GROUP_HEARTBEAT" "Lcom/example/ack3/ack3/protocol/ApiKey;" (.ref w10)) (Sy11 : Sta Z h0 "com/example/ack3/ack3/protocol/ApiKey" "SHARE_GROUP_DESCRIBE" "Lcom/example/ack3/ack3/protocol/ApiKey;" (.ref w11)) (Sy12 : Sta Z h0 "com/example/ack3/ack3/protocol/ApiKey" "SHARE_FETCH" "Lcom/example/ack3/ack3/protocol/ApiKey;" (.ref w12)) (Sy13 : Sta Z h0 "com/example/ack3/ack3/protocol/ApiKey" "SHARE_ACKNOWLEDGE" "Lcom/example/ack3/ack3/protocol/ApiKey;" (.ref w13)) (Sy14 : Sta Z h0 "com/example/ack3/ack3/protocol/ApiKey" "DESCRIBE_SHARE_GROUP_OFFSETS" "Lcom/example/ack3/ack3/protocol/ApiKey;" (.ref w14)) (Sy15 : Sta Z h0 "com/example/ack3/ack3/protocol/ApiKey" "ALTER_SHARE_GROUP_OFFSETS" "Lcom/example/ack3/ack3/protocol/ApiKey;" (.ref w15)) (Sy16 : Sta Z h0 "com/example/ack3/ack3/protocol/ApiKey" "DELETE_SHARE_GROUP_OFFSETS" "Lcom/example/ack3/ack3/protocol/ApiKey;" (.ref w16)) (Ex0 : Exa Z h0 w0 "com/example/ack3/ack3/protocol/ApiKey") (Ex1 : Exa Z h0 w1 "com/example/ack3/ack3/protocol/ApiKey") (Ex2 : Exa Z h0 w2 "com/example/ack3/ack3/protocol/ApiKey") (Ex3 : Exa Z h0 w3 "com/example/ack3/ack3/protocol/ApiKey") (Ex4 : Exa Z h0 w4 "com/example/ack3/ack3/protocol/ApiKey") (Ex5 : Exa Z h0 w5 "com/example/ack3/ack3/protocol/ApiKey") (Ex6 : Exa Z h0 w6 "com/example/ack3/ack3/protocol/ApiKey") (Ex7 : Exa Z h0 w7 "com/example/ack3/ack3/protocol/ApiKey") (Ex8 : Exa Z h0 w8 "com/example/ack3/ack3/protocol/ApiKey") (Ex9 : Exa Z h0 w9 "com/example/ack3/ack3/protocol/ApiKey") (Ex10 : Exa Z h0 w10 "com/example/ack3/ack3/protocol/ApiKey") (Ex11 : Exa Z h0 w11 "com/example/ack3/ack3/protocol/ApiKey") (Ex12 : Exa Z h0 w12 "com/example/ack3/ack3/protocol/ApiKey") (Ex13 : Exa Z h0 w13 "com/example/ack3/ack3/protocol/ApiKey") (Ex14 : Exa Z h0 w14 "com/example/ack3/ack3/protocol/ApiKey") (Ex15 : Exa Z h0 w15 "com/example/ack3/ack3/protocol/ApiKey") (Ex16 : Exa Z h0 w16 "com/example/ack3/ack3/protocol/ApiKey") (hall : ∀ i, i < 17 → ∃ kk : Addr, ([(.ref w0), (.ref w1), (.ref w2), (.ref w3), (.ref w4), (.ref w5), (.ref w6), (.ref w7), (.ref w8), (.ref w9), (.ref w10), (.ref w11), (.ref w12), (.ref w13), (.ref w14), (.ref w15), (.ref w16)] : List Value).getD i .null = .ref kk ∧ Exa Z h0 kk "com/example/ack3/ack3/protocol/ApiKey" ∧ Fld Z h0 kk "com/example/ack3/ack3/protocol/ApiKey" "firstFlexibleVersion" "S" (.int (own_fl.getD i 0))) :
    MetFree l x (head1 (Jvm.Cond.code x code maxLocals ret :: ws) room_1) (fun a U => a = #[(.int p1), (.int p2)] ∧ Z.Warmed39 U.vm ∧ U.heap = h0) (fun _ _ _ _ _ => True) (fun _ U o U' => ∃ v L, o = .returned v ∧ Q0 n0 v U'.heap L ∧ FrameEnd U o U' L room_1.cells room_1.slots) := by
  by_cases h : p2.toInt16.toInt32 < (own_fl.getD (((p1 &&& (2147483647 : Int32)) % (17 : Int32))).toNatClampNeg 0)
  · exact rm0t l Z a0 hw ws p1 p2 w0 w1 w2 w3 w4 w5 w6 w7 w8 w9 w10 w11 w12 w13 w14 w15 w16 h0 n0 Z0 Sy0 Sy1 Sy2 Sy3 Sy4 Sy5 Sy6 Sy7 Sy8 Sy9 Sy10 Sy11 Sy12 Sy13 Sy14 Sy15 Sy16 Ex0 Ex1 Ex2 Ex3 Ex4 Ex5 Ex6 Ex7 Ex8 Ex9 Ex10 Ex11 Ex12 Ex13 Ex14 Ex15 Ex16 hall h
  · exact rm0f l Z a0 hw ws p1 p2 w0 w1 w2 w3 w4 w5 w6 w7 w8 w9 w10 w11 w12 w13 w14 w15 w16 h0 n0 Z0 Sy0 Sy1 Sy2 Sy3 Sy4 Sy5 Sy6 Sy7 Sy8 Sy9 Sy10 Sy11 Sy12 Sy13 Sy14 Sy15 Sy16 Ex0 Ex1 Ex2 Ex3 Ex4 Ex5 Ex6 Ex7 Ex8 Ex9 Ex10 Ex11 Ex12 Ex13 Ex14 Ex15 Ex16 hall h
set_option maxRecDepth 65536 in
set_option maxHeartbeats 40000000 in
theorem comes_1 {Post : Tables → Env → Array Value → State → Outcome → State → Prop} (hpost : ∀ tb e args s v u, (limb_1_1.after args s (.returned v) u = true ∧ limb_1_2.after args s (.returned v) u = true ∧ True) → FrameEnd s (.returned v) u (Jvm.fieldLocs frame_1_writes args s ++ Jvm.arrayLocs frame_1_arrays args s ++ Jvm.staticLocs frame_1_statics s) 16 192 → Post tb e args s (.returned v) u) :
    ArmFor flags0 classFile x code maxLocals ret World_1 tables_1 room_1 Calls_1 rest_1 Pre_1 Post := by
  intro l hfl _ _ p e ha hc hk s m args below hf hA hF happ hP
  obtain ⟨hcalls, hrest, hpre⟩ := hP
  obtain ⟨-, -, -, hnamed, -, -, -, hat⟩ := (Spec.applies_iff hf).mp happ
  obtain ⟨hg, hn⟩ := and_e (Cond.before_iff.mp (show (Jvm.Cond.and given_1 narrow_1).before args s = true from hpre))
  obtain ⟨g13, g14⟩ := and_e hg
  obtain ⟨g15, g16⟩ := and_e g14
  obtain ⟨w0, w1, rfl⟩ : ∃ w0 w1 : Value, args = #[w0, w1] := by
    have hs : args.size = 2 := by simpa [Cond.value, given_1] using g13
    obtain ⟨L⟩ := args
    match L, hs with
    | [w0, w1], _ => exact ⟨w0, w1, rfl⟩
  have hw := fun d (hd : d ∈ tables_1) => atoms_spec (ws := Jvm.Cond.code x code maxLocals ret :: tables_1) hat d (List.mem_cons_of_mem _ hd)
  have hfit : Fit s := fun {y c} hc i hi => by
    obtain ⟨ha, rfl⟩ := Array.getElem?_eq_some_iff.mp hc
    have q := List.all_eq_true.mp ((Array.all_eq_true_iff_forall_mem.mp hF) _ (Array.getElem_mem ha)) i (List.mem_range.mpr hi)
    simpa [Array.getElem?_eq_getElem hi] using q
  obtain ⟨i0, ei0⟩ := is_v g15
  obtain rfl : w0 = (.int i0) := Option.some.inj ei0
  obtain ⟨i1, ei1⟩ := is_v g16
  obtain rfl : w1 = (.int i1) := Option.some.inj ei1
  obtain ⟨x0, hn0⟩ := and_e hn
  obtain ⟨x1, hn1⟩ := and_e hn0
  obtain ⟨x2, hn2⟩ := and_e hn1
  obtain ⟨x3, hn3⟩ := and_e hn2
  obtain ⟨x4, hn4⟩ := and_e hn3
  obtain ⟨x5, hn5⟩ := and_e hn4
  obtain ⟨x6, hn6⟩ := and_e hn5
  obtain ⟨x7, hn7⟩ := and_e hn6
  obtain ⟨x8, hn8⟩ := and_e hn7
  obtain ⟨x9, hn9⟩ := and_e hn8
  obtain ⟨x10, hn10⟩ := and_e hn9
  obtain ⟨x11, hn11⟩ := and_e hn10
  obtain ⟨x12, hn12⟩ := and_e hn11
  obtain ⟨x13, hn13⟩ := and_e hn12
  obtain ⟨x14, hn14⟩ := and_e hn13
  obtain ⟨x15, hn15⟩ := and_e hn14
  obtain ⟨x16, hn16⟩ := and_e hn15
  obtain ⟨x17, hn17⟩ := and_e hn16
  obtain ⟨x18, hn18⟩ := and_e hn17
  obtain ⟨x19, hn19⟩ := and_e hn18
  obtain ⟨x20, hn20⟩ := and_e hn19
  obtain ⟨x21, hn21⟩ := and_e hn20
  obtain ⟨x22, hn22⟩ := and_e hn21
  obtain ⟨x23, hn23⟩ := and_e hn22
  obtain ⟨x24, hn24⟩ := and_e hn23
  obtain ⟨x25, hn25⟩ := and_e hn24
  obtain ⟨x26, hn26⟩ := and_e hn25
  obtain ⟨x27, hn27⟩ := and_e hn26
  obtain ⟨x28, hn28⟩ := and_e hn27
  obtain ⟨x29, hn29⟩ := and_e hn28
  obtain ⟨x30, hn30⟩ := and_e hn29
  obtain ⟨x31, hn31⟩ := and_e hn30
  obtain ⟨x32, hn32⟩ := and_e hn31
  obtain ⟨w0, ea0, Sy0, Ex0⟩ := own_key (hw _ (List.mem_of_getElem? (i := 3) rfl)) (hw _ (List.mem_of_getElem? (i := 4) rfl)) x0
  obtain ⟨w1, ea1, Sy1, Ex1⟩ := own_key (hw _ (List.mem_of_getElem? (i := 3) rfl)) (hw _ (List.mem_of_getElem? (i := 7) rfl)) x1
  obtain ⟨w2, ea2, Sy2, Ex2⟩ := own_key (hw _ (List.mem_of_getElem? (i := 3) rfl)) (hw _ (List.mem_of_getElem? (i := 9) rfl)) x2
  obtain ⟨w3, ea3, Sy3, Ex3⟩ := own_key (hw _ (List.mem_of_getElem? (i := 3) rfl)) (hw _ (List.mem_of_getElem? (i := 11) rfl)) x3
  obtain ⟨w4, ea4, Sy4, Ex4⟩ := own_key (hw _ (List.mem_of_getElem? (i := 3) rfl)) (hw _ (List.mem_of_getElem? (i := 13) rfl)) x4
  obtain ⟨w5, ea5, Sy5, Ex5⟩ := own_key (hw _ (List.mem_of_getElem? (i := 3) rfl)) (hw _ (List.mem_of_getElem? (i := 15) rfl)) x5
  obtain ⟨w6, ea6, Sy6, Ex6⟩ := own_key (hw _ (List.mem_of_getElem? (i := 3) rfl)) (hw _ (List.mem_of_getElem? (i := 17) rfl)) x6
  obtain ⟨w7, ea7, Sy7, Ex7⟩ := own_key (hw _ (List.mem_of_getElem? (i := 3) rfl)) (hw _ (List.mem_of_getElem? (i := 19) rfl)) x7
  obtain ⟨w8, ea8, Sy8, Ex8⟩ := own_key (hw _ (List.mem_of_getElem? (i := 3) rfl)) (hw _ (List.mem_of_getElem? (i := 21) rfl)) x8
  obtain ⟨w9, ea9, Sy9, Ex9⟩ := own_key (hw _ (List.mem_of_getElem? (i := 3) rfl)) (hw _ (List.mem_of_getElem? (i := 23) rfl)) x9
  obtain ⟨w10, ea10, Sy10, Ex10⟩ := own_key (hw _ (List.mem_of_getElem? (i := 3) rfl)) (hw _ (List.mem_of_getElem? (i := 25) rfl)) x10
  obtain ⟨w11, ea11, Sy11, Ex11⟩ := own_key (hw _ (List.mem_of_getElem? (i := 3) rfl)) (hw _ (List.mem_of_getElem? (i := 27) rfl)) x11
  obtain ⟨w12, ea12, Sy12, Ex12⟩ := own_key (hw _ (List.mem_of_getElem? (i := 3) rfl)) (hw _ (List.mem_of_getElem? (i := 29) rfl)) x12
  obtain ⟨w13, ea13, Sy13, Ex13⟩ := own_key (hw _ (List.mem_of_getElem? (i := 3) rfl)) (hw _ (List.mem_of_getElem? (i := 31) rfl)) x13
  obtain ⟨w14, ea14, Sy14, Ex14⟩ := own_key (hw _ (List.mem_of_getElem? (i := 3) rfl)) (hw _ (List.mem_of_getElem? (i := 33) rfl)) x14
  obtain ⟨w15, ea15, Sy15, Ex15⟩ := own_key (hw _ (List.mem_of_getElem? (i := 3) rfl)) (hw _ (List.mem_of_getElem? (i := 35) rfl)) x15
  obtain ⟨w16, ea16, Sy16, Ex16⟩ := own_key (hw _ (List.mem_of_getElem? (i := 3) rfl)) (hw _ (List.mem_of_getElem? (i := 37) rfl)) x16
  have F_firstFlexibleVersion_0 := own_fld ea0 x17
  have F_firstFlexibleVersion_14 := own_fld ea14 x18
  have F_firstFlexibleVersion_6 := own_fld ea6 x19
  have F_firstFlexibleVersion_16 := own_fld ea16 x20
  have F_firstFlexibleVersion_1 := own_fld ea1 x21
  have F_firstFlexibleVersion_7 := own_fld ea7 x22
  have F_firstFlexibleVersion_8 := own_fld ea8 x23
  have F_firstFlexibleVersion_12 := own_fld ea12 x24
  have F_firstFlexibleVersion_3 := own_fld ea3 x25
  have F_firstFlexibleVersion_4 := own_fld ea4 x26
  have F_firstFlexibleVersion_2 := own_fld ea2 x27
  have F_firstFlexibleVersion_13 := own_fld ea13 x28
  have F_firstFlexibleVersion_10 := own_fld ea10 x29
  have F_firstFlexibleVersion_11 := own_fld ea11 x30
  have F_firstFlexibleVersion_9 := own_fld ea9 x31
  have F_firstFlexibleVersion_5 := own_fld ea5 x32
  have F_firstFlexibleVersion_15 := own_fld ea15 hn32
  have hall : ∀ i, i < 17 → ∃ kk : Addr, ([(.ref w0), (.ref w1), (.ref w2), (.ref w3), (.ref w4), (.ref w5), (.ref w6), (.ref w7), (.ref w8), (.ref w9), (.ref w10), (.ref w11), (.ref w12), (.ref w13), (.ref w14), (.ref w15), (.ref w16)] : List Value).getD i .null = .ref kk ∧ Exa s s.heap kk "com/example/ack3/ack3/protocol/ApiKey" ∧ Fld s s.heap kk "com/example/ack3/ack3/protocol/ApiKey" "firstFlexibleVersion" "S" (.int (own_fl.getD i 0)) := by
    intro i hi
    match i, hi with
    | 0, _ => exact ⟨w0, rfl, Ex0, F_firstFlexibleVersion_0⟩
    | 1, _ => exact ⟨w1, rfl, Ex1, F_firstFlexibleVersion_1⟩
    | 2, _ => exact ⟨w2, rfl, Ex2, F_firstFlexibleVersion_2⟩
    | 3, _ => exact ⟨w3, rfl, Ex3, F_firstFlexibleVersion_3⟩
    | 4, _ => exact ⟨w4, rfl, Ex4, F_firstFlexibleVersion_4⟩
    | 5, _ => exact ⟨w5, rfl, Ex5, F_firstFlexibleVersion_5⟩
    | 6, _ => exact ⟨w6, rfl, Ex6, F_firstFlexibleVersion_6⟩
    | 7, _ => exact ⟨w7, rfl, Ex7, F_firstFlexibleVersion_7⟩
    | 8, _ => exact ⟨w8, rfl, Ex8, F_firstFlexibleVersion_8⟩
    | 9, _ => exact ⟨w9, rfl, Ex9, F_firstFlexibleVersion_9⟩
    | 10, _ => exact ⟨w10, rfl, Ex10, F_firstFlexibleVersion_10⟩
    | 11, _ => exact ⟨w11, rfl, Ex11, F_firstFlexibleVersion_11⟩
    | 12, _ => exact ⟨w12, rfl, Ex12, F_firstFlexibleVersion_12⟩
    | 13, _ => exact ⟨w13, rfl, Ex13, F_firstFlexibleVersion_13⟩
    | 14, _ => exact ⟨w14, rfl, Ex14, F_firstFlexibleVersion_14⟩
    | 15, _ => exact ⟨w15, rfl, Ex15, F_firstFlexibleVersion_15⟩
    | 16, _ => exact ⟨w16, rfl, Ex16, F_firstFlexibleVersion_16⟩
    | k + 17, h => exact absurd h (by omega)
  obtain ⟨n, o, h1, h2, h3, _, L, rfl, ⟨rfl, N⟩, hq⟩ := rm0 l s _ hw tables_1 i0 i1 w0 w1 w2 w3 w4 w5 w6 w7 w8 w9 w10 w11 w12 w13 w14 w15 w16 s.heap s.heap.size (Nat.le_refl _) Sy0 Sy1 Sy2 Sy3 Sy4 Sy5 Sy6 Sy7 Sy8 Sy9 Sy10 Sy11 Sy12 Sy13 Sy14 Sy15 Sy16 Ex0 Ex1 Ex2 Ex3 Ex4 Ex5 Ex6 Ex7 Ex8 Ex9 Ex10 Ex11 Ex12 Ex13 Ex14 Ex15 Ex16 hall p e ha hc hk s m _ below hf ((Spec.applies_iff_loose hf).mp happ).1 ⟨rfl, State.Warmed39.refl s, rfl⟩ trivial
  refine ⟨n, _, h1, h2, h3, hpost _ _ _ _ _ _ ⟨Cond.after_iff.mpr rfl, Cond.after_iff.mpr (eq_i res_at (Term.int_eval (1)) rfl), trivial⟩ ⟨hq.1, hq.2.1, (hq.2.2.sift fun y hy => Or.inr (N y hy)).mono (by decide) (by decide)⟩⟩
theorem main_1_1 : Claimed_1_1 := comes_1 fun _ _ _ _ _ _ h hF => ⟨h.1, hF⟩
theorem main_1_2 : Claimed_1_2 := comes_1 fun _ _ _ _ _ _ h hF => ⟨h.2.1, hF⟩
end Jvm.Pilot.@@N@@
namespace Jvm.Pilot.@@N@@
open Jvm Jvm.ClassFile Sem Op Lib Jvm.Free Jvm.Stand Jvm.Pilot.@@N@@.Jvm.D
/-! MADE BY PROGRAM (witnessworld.py) out of the Statement's table words and the real class files: 13 classes; the members and pool entries that the words name. The judged class is class 1, her method 1. -/
namespace start1
open Jvm.ClassFile
def u (s : String) : CpInfo := .utf8 (stringToUtf16 s)
/-- a pool by its gaps: so many unusable entries, then the entry; so many at the end -/
def gap : Nat → List CpInfo → List CpInfo
  | 0, r => r
  | n + 1, r => .unusable :: gap n r
def poolList (es : List (Nat × CpInfo)) (last : Nat) : List CpInfo := es.foldr (fun e r => gap e.1 (e.2 :: r)) (gap last [])
def pool (es : List (Nat × CpInfo)) (last : Nat) : Array CpInfo := ⟨poolList es last⟩
def fileOf (pool : Array CpInfo) (this : Nat) (attrs : Array Attribute := #[]) (ms : Array MethodInfo := #[]) (fl : Nat := 33) (sup : Nat := 0) (ifs : Array Nat := #[]) (fds : Array FieldInfo := #[]) : ClassFile where
  minorVersion := 0
  majorVersion := 65
  constantPool := pool
  accessFlags := fl
  thisClass := this
  superClass := sup
  interfaces := ifs
  fields := fds
  methods := ms
  attributes := attrs
def plain (name : String) (sup : Option ClassId) : Class where
  name := name
  kind := .ordinary
  loader := none
  accessFlags := 33
  super := sup
  interfaces := #[]
  cf := none
  fields := #[]
  methods := #[]
  instanceTypes := #[]
  staticTypes := #[]
  resolved := #[]
  callSites := []
  init := .initialized
  statics := none
  mirror := none

def pool0 : Array CpInfo := pool [(5, u "<init>"), (0, u "()V"), (1, .class_ 10), (1, u "java/lang/Object")] 113

def k0m0 : Method := { name := "<init>", desc := "()V", sig := { parameters := [], returnType := none }, accessFlags := 1, code := none }
/-- java/lang/Object -/
def k0 : Class := { plain "java/lang/Object" none with
  accessFlags := 33
  interfaces := #[]
  cf := some (fileOf pool0 8 #[] #[{ accessFlags := 1, nameIndex := 5, descriptorIndex := 6, attributes := #[] }] 33 0 #[] #[])
  fields := #[]
  methods := #[k0m0]
  instanceTypes := #[]
  staticTypes := #[]
  resolved := Array.replicate 124 none
  statics := none }

def pool1 : Array CpInfo := pool [(2, .class_ 4), (1, u "java/lang/Object"), (0, u "<init>"), (0, u "()V"), (0, .class_ 8), (0, u "com/example/ack3/ack3/protocol/ApiKey"), (0, .fieldref 7 10), (0, .nameAndType 11 12), (0, u "PRODUCE"), (0, u "Lcom/example/ack3/ack3/protocol/ApiKey;"), (0, .fieldref 7 14), (0, .nameAndType 15 12), (0, u "FETCH"), (0, .fieldref 7 17), (0, .nameAndType 18 12), (0, u "LIST_OFFSETS"), (0, .fieldref 7 20), (0, .nameAndType 21 12), (0, u "METADATA"), (0, .fieldref 7 23), (0, .nameAndType 24 12), (0, u "FIND_COORDINATOR"), (0, .fieldref 7 26), (0, .nameAndType 27 12), (0, u "LIST_GROUPS"), (0, .fieldref 7 29), (0, .nameAndType 30 12), (0, u "API_VERSIONS"), (0, .fieldref 7 32), (0, .nameAndType 33 12), (0, u "DESCRIBE_CONFIGS"), (0, .fieldref 7 35), (0, .nameAndType 36 12), (0, u "DELETE_GROUPS"), (0, .fieldref 7 38), (0, .nameAndType 39 12), (0, u "INCREMENTAL_ALTER_CONFIGS"), (0, .fieldref 7 41), (0, .nameAndType 42 12), (0, u "SHARE_GROUP_HEARTBEAT"), (0, .fieldref 7 44), (0, .nameAndType 45 12), (0, u "SHARE_GROUP_DESCRIBE"), (0, .fieldref 7 47), (0, .nameAndType 48 12), (0, u "SHARE_FETCH"), (0, .fieldref 7 50), (0, .nameAndType 51 12), (0, u "SHARE_ACKNOWLEDGE"), (0, .fieldref 7 53), (0, .nameAndType 54 12), (0, u "DESCRIBE_SHARE_GROUP_OFFSETS"), (0, .fieldref 7 56), (0, .nameAndType 57 12), (0, u "ALTER_SHARE_GROUP_OFFSETS"), (0, .fieldref 7 59), (0, .nameAndType 60 12), (0, u "DELETE_SHARE_GROUP_OFFSETS"), (0, .integer 2147483647), (0, .methodref 7 63), (0, .nameAndType 64 65), (0, u "isFlexible"), (0, u "(S)Z"), (0, .class_ 67), (0, u "com/example/ack3/ack3/protocol/ApiKeyIsFlexiblePinLaw"), (2, u "law"), (0, u "(II)Z")] 7

def k1m0 : Method := { name := "<init>", desc := "()V", sig := { parameters := [], returnType := none }, accessFlags := 1, code := none }
def k1c1 : Code := { maxStack := 4, maxLocals := 7, code := code, exceptionTable := #[], attributes := #[] }
def k1m1 : Method := { name := "law", desc := "(II)Z", sig := { parameters := [.int, .int], returnType := some .boolean }, accessFlags := 9, code := some k1c1 }
/-- com/example/ack3/ack3/protocol/ApiKeyIsFlexiblePinLaw -/
def k1 : Class := { plain "com/example/ack3/ack3/protocol/ApiKeyIsFlexiblePinLaw" (some 0) with
  accessFlags := 49
  interfaces := #[]
  cf := some (fileOf pool1 66 #[] #[{ accessFlags := 1, nameIndex := 5, descriptorIndex := 6, attributes := #[] }, { accessFlags := 9, nameIndex := 70, descriptorIndex := 71, attributes := #[] }] 49 2 #[] #[])
  fields := #[]
  methods := #[k1m0, k1m1]
  instanceTypes := #[]
  staticTypes := #[]
  resolved := Array.replicate 79 none
  statics := none }

def pool2 : Array CpInfo := pool [(1, .class_ 2), (0, u "java/lang/constant/Constable"), (0, .class_ 4), (0, u "java/lang/Object")] 6

/-- java/lang/constant/Constable -/
def k2 : Class := { plain "java/lang/constant/Constable" (some 0) with
  accessFlags := 1537
  interfaces := #[]
  cf := some (fileOf pool2 1 #[] #[] 1537 3 #[] #[])
  fields := #[]
  methods := #[]
  instanceTypes := #[]
  staticTypes := #[]
  resolved := Array.replicate 11 none
  statics := none }

def pool3 : Array CpInfo := pool [(1, .class_ 2), (0, u "java/lang/Comparable"), (0, .class_ 4), (0, u "java/lang/Object")] 7

/-- java/lang/Comparable -/
def k3 : Class := { plain "java/lang/Comparable" (some 0) with
  accessFlags := 1537
  interfaces := #[]
  cf := some (fileOf pool3 1 #[] #[] 1537 3 #[] #[])
  fields := #[]
  methods := #[]
  instanceTypes := #[]
  staticTypes := #[]
  resolved := Array.replicate 12 none
  statics := none }

def pool4 : Array CpInfo := pool [(1, .class_ 2), (0, u "java/io/Serializable"), (0, .class_ 4), (0, u "java/lang/Object")] 2

/-- java/io/Serializable -/
def k4 : Class := { plain "java/io/Serializable" (some 0) with
  accessFlags := 1537
  interfaces := #[]
  cf := some (fileOf pool4 1 #[] #[] 1537 3 #[] #[])
  fields := #[]
  methods := #[]
  instanceTypes := #[]
  staticTypes := #[]
  resolved := Array.replicate 7 none
  statics := none }

def pool5 : Array CpInfo := pool [(2, .class_ 4), (1, u "java/lang/Enum"), (0, u "name"), (0, u "Ljava/lang/String;"), (2, u "ordinal"), (0, u "I"), (1, .class_ 14), (1, u "java/lang/Object"), (4, u "hash"), (86, .class_ 108), (1, u "java/lang/Enum$EnumDesc"), (2, .class_ 112), (0, u "java/lang/constant/Constable"), (0, .class_ 114), (0, u "java/lang/Comparable"), (0, .class_ 116), (0, u "java/io/Serializable")] 87

/-- java/lang/Enum -/
def k5 : Class := { plain "java/lang/Enum" (some 0) with
  accessFlags := 1057
  interfaces := #[2, 3, 4]
  cf := some (fileOf pool5 2 #[.nestMembers #[106]] #[] 1057 12 #[111, 113, 115] #[{ accessFlags := 18, nameIndex := 5, descriptorIndex := 6, attributes := #[] }, { accessFlags := 18, nameIndex := 9, descriptorIndex := 10, attributes := #[] }, { accessFlags := 2, nameIndex := 19, descriptorIndex := 10, attributes := #[] }])
  fields := #[{ name := "name", type := (.object "java/lang/String"), accessFlags := 18, slot := 0, constantValue := 0 }, { name := "ordinal", type := .int, accessFlags := 18, slot := 1, constantValue := 0 }, { name := "hash", type := .int, accessFlags := 2, slot := 2, constantValue := 0 }]
  methods := #[]
  instanceTypes := #[(.object "java/lang/String"), .int, .int]
  staticTypes := #[]
  resolved := Array.replicate 204 none
  statics := none }

def pool6 : Array CpInfo := pool [(1, .class_ 2), (0, u "com/example/ack3/ack3/protocol/ApiKey"), (2, u "PRODUCE"), (0, u "Lcom/example/ack3/ack3/protocol/ApiKey;"), (2, u "FETCH"), (2, u "LIST_OFFSETS"), (2, u "METADATA"), (2, u "FIND_COORDINATOR"), (2, u "LIST_GROUPS"), (2, u "API_VERSIONS"), (2, u "DESCRIBE_CONFIGS"), (2, u "DELETE_GROUPS"), (2, u "INCREMENTAL_ALTER_CONFIGS"), (2, u "SHARE_GROUP_HEARTBEAT"), (2, u "SHARE_GROUP_DESCRIBE"), (2, u "SHARE_FETCH"), (2, u "SHARE_ACKNOWLEDGE"), (2, u "DESCRIBE_SHARE_GROUP_OFFSETS"), (2, u "ALTER_SHARE_GROUP_OFFSETS"), (2, u "DELETE_SHARE_GROUP_OFFSETS"), (2, u "$VALUES"), (0, u "[Lcom/example/ack3/ack3/protocol/ApiKey;"), (6, .class_ 67), (1, u "java/lang/Enum"), (8, u "id"), (0, u "S"), (2, u "minVersion"), (2, u "maxVersion"), (0, .fieldref 1 85), (0, .nameAndType 86 77), (0, u "firstFlexibleVersion"), (6, u "isFlexible"), (0, u "(S)Z")] 40

def k6c0 : Code := { maxStack := 2, maxLocals := 2, code := prog_3_method_9_code, exceptionTable := #[], attributes := #[] }
def k6m0 : Method := { name := "isFlexible", desc := "(S)Z", sig := { parameters := [.short], returnType := some .boolean }, accessFlags := 1, code := some k6c0 }
/-- com/example/ack3/ack3/protocol/ApiKey -/
def k6 : Class := { plain "com/example/ack3/ack3/protocol/ApiKey" (some 5) with
  accessFlags := 16433
  interfaces := #[]
  cf := some (fileOf pool6 1 #[] #[{ accessFlags := 1, nameIndex := 93, descriptorIndex := 94, attributes := #[] }] 16433 65 #[] #[{ accessFlags := 16409, nameIndex := 5, descriptorIndex := 6, attributes := #[] }, { accessFlags := 16409, nameIndex := 9, descriptorIndex := 6, attributes := #[] }, { accessFlags := 16409, nameIndex := 12, descriptorIndex := 6, attributes := #[] }, { accessFlags := 16409, nameIndex := 15, descriptorIndex := 6, attributes := #[] }, { accessFlags := 16409, nameIndex := 18, descriptorIndex := 6, attributes := #[] }, { accessFlags := 16409, nameIndex := 21, descriptorIndex := 6, attributes := #[] }, { accessFlags := 16409, nameIndex := 24, descriptorIndex := 6, attributes := #[] }, { accessFlags := 16409, nameIndex := 27, descriptorIndex := 6, attributes := #[] }, { accessFlags := 16409, nameIndex := 30, descriptorIndex := 6, attributes := #[] }, { accessFlags := 16409, nameIndex := 33, descriptorIndex := 6, attributes := #[] }, { accessFlags := 16409, nameIndex := 36, descriptorIndex := 6, attributes := #[] }, { accessFlags := 16409, nameIndex := 39, descriptorIndex := 6, attributes := #[] }, { accessFlags := 16409, nameIndex := 42, descriptorIndex := 6, attributes := #[] }, { accessFlags := 16409, nameIndex := 45, descriptorIndex := 6, attributes := #[] }, { accessFlags := 16409, nameIndex := 48, descriptorIndex := 6, attributes := #[] }, { accessFlags := 16409, nameIndex := 51, descriptorIndex := 6, attributes := #[] }, { accessFlags := 16409, nameIndex := 54, descriptorIndex := 6, attributes := #[] }, { accessFlags := 18, nameIndex := 76, descriptorIndex := 77, attributes := #[] }, { accessFlags := 18, nameIndex := 80, descriptorIndex := 77, attributes := #[] }, { accessFlags := 18, nameIndex := 83, descriptorIndex := 77, attributes := #[] }, { accessFlags := 18, nameIndex := 86, descriptorIndex := 77, attributes := #[] }, { accessFlags := 4122, nameIndex := 57, descriptorIndex := 58, attributes := #[] }])
  fields := #[{ name := "PRODUCE", type := (.object "com/example/ack3/ack3/protocol/ApiKey"), accessFlags := 16409, slot := 0, constantValue := 0 }, { name := "FETCH", type := (.object "com/example/ack3/ack3/protocol/ApiKey"), accessFlags := 16409, slot := 1, constantValue := 0 }, { name := "LIST_OFFSETS", type := (.object "com/example/ack3/ack3/protocol/ApiKey"), accessFlags := 16409, slot := 2, constantValue := 0 }, { name := "METADATA", type := (.object "com/example/ack3/ack3/protocol/ApiKey"), accessFlags := 16409, slot := 3, constantValue := 0 }, { name := "FIND_COORDINATOR", type := (.object "com/example/ack3/ack3/protocol/ApiKey"), accessFlags := 16409, slot := 4, constantValue := 0 }, { name := "LIST_GROUPS", type := (.object "com/example/ack3/ack3/protocol/ApiKey"), accessFlags := 16409, slot := 5, constantValue := 0 }, { name := "API_VERSIONS", type := (.object "com/example/ack3/ack3/protocol/ApiKey"), accessFlags := 16409, slot := 6, constantValue := 0 }, { name := "DESCRIBE_CONFIGS", type := (.object "com/example/ack3/ack3/protocol/ApiKey"), accessFlags := 16409, slot := 7, constantValue := 0 }, { name := "DELETE_GROUPS", type := (.object "com/example/ack3/ack3/protocol/ApiKey"), accessFlags := 16409, slot := 8, constantValue := 0 }, { name := "INCREMENTAL_ALTER_CONFIGS", type := (.object "com/example/ack3/ack3/protocol/ApiKey"), accessFlags := 16409, slot := 9, constantValue := 0 }, { name := "SHARE_GROUP_HEARTBEAT", type := (.object "com/example/ack3/ack3/protocol/ApiKey"), accessFlags := 16409, slot := 10, constantValue := 0 }, { name := "SHARE_GROUP_DESCRIBE", type := (.object "com/example/ack3/ack3/protocol/ApiKey"), accessFlags := 16409, slot := 11, constantValue := 0 }, { name := "SHARE_FETCH", type := (.object "com/example/ack3/ack3/protocol/ApiKey"), accessFlags := 16409, slot := 12, constantValue := 0 }, { name := "SHARE_ACKNOWLEDGE", type := (.object "com/example/ack3/ack3/protocol/ApiKey"), accessFlags := 16409, slot := 13, constantValue := 0 }, { name := "DESCRIBE_SHARE_GROUP_OFFSETS", type := (.object "com/example/ack3/ack3/protocol/ApiKey"), accessFlags := 16409, slot := 14, constantValue := 0 }, { name := "ALTER_SHARE_GROUP_OFFSETS", type := (.object "com/example/ack3/ack3/protocol/ApiKey"), accessFlags := 16409, slot := 15, constantValue := 0 }, { name := "DELETE_SHARE_GROUP_OFFSETS", type := (.object "com/example/ack3/ack3/protocol/ApiKey"), accessFlags := 16409, slot := 16, constantValue := 0 }, { name := "id", type := .short, accessFlags := 18, slot := 3, constantValue := 0 }, { name := "minVersion", type := .short, accessFlags := 18, slot := 4, constantValue := 0 }, { name := "maxVersion", type := .short, accessFlags := 18, slot := 5, constantValue := 0 }, { name := "firstFlexibleVersion", type := .short, accessFlags := 18, slot := 6, constantValue := 0 }, { name := "$VALUES", type := (.array (.object "com/example/ack3/ack3/protocol/ApiKey")), accessFlags := 4122, slot := 17, constantValue := 0 }]
  methods := #[k6m0]
  instanceTypes := #[(.object "java/lang/String"), .int, .int, .short, .short, .short, .short]
  staticTypes := #[(.object "com/example/ack3/ack3/protocol/ApiKey"), (.object "com/example/ack3/ack3/protocol/ApiKey"), (.object "com/example/ack3/ack3/protocol/ApiKey"), (.object "com/example/ack3/ack3/protocol/ApiKey"), (.object "com/example/ack3/ack3/protocol/ApiKey"), (.object "com/example/ack3/ack3/protocol/ApiKey"), (.object "com/example/ack3/ack3/protocol/ApiKey"), (.object "com/example/ack3/ack3/protocol/ApiKey"), (.object "com/example/ack3/ack3/protocol/ApiKey"), (.object "com/example/ack3/ack3/protocol/ApiKey"), (.object "com/example/ack3/ack3/protocol/ApiKey"), (.object "com/example/ack3/ack3/protocol/ApiKey"), (.object "com/example/ack3/ack3/protocol/ApiKey"), (.object "com/example/ack3/ack3/protocol/ApiKey"), (.object "com/example/ack3/ack3/protocol/ApiKey"), (.object "com/example/ack3/ack3/protocol/ApiKey"), (.object "com/example/ack3/ack3/protocol/ApiKey"), (.array (.object "com/example/ack3/ack3/protocol/ApiKey"))]
  resolved := Array.replicate 135 none
  statics := some 0 }

def pool7 : Array CpInfo := pool [(1, u "java/lang/Cloneable"), (0, .class_ 1), (0, u "java/lang/Object"), (0, .class_ 3)] 3

/-- java/lang/Cloneable -/
def k7 : Class := { plain "java/lang/Cloneable" (some 0) with
  accessFlags := 1537
  interfaces := #[]
  cf := some (fileOf pool7 2 #[] #[] 1537 4 #[] #[])
  fields := #[]
  methods := #[]
  instanceTypes := #[]
  staticTypes := #[]
  resolved := Array.replicate 8 none
  statics := none }

/-- the primitive byte -/
def k8 : Class := { plain "byte" none with kind := .primitive 'B', accessFlags := 0x411 }
/-- [B -/
def k9 : Class := { plain "[B" (some 0) with kind := .array 8 .byte, interfaces := #[7, 4], accessFlags := 1041 }

/-- the primitive int -/
def k10 : Class := { plain "int" none with kind := .primitive 'I', accessFlags := 0x411 }
/-- [I -/
def k11 : Class := { plain "[I" (some 0) with kind := .array 10 .int, interfaces := #[7, 4], accessFlags := 1041 }

/-- [Lcom/example/ack3/ack3/protocol/ApiKey; -/
def k12 : Class := { plain "[Lcom/example/ack3/ack3/protocol/ApiKey;" (some 0) with kind := .array 6 (.object "com/example/ack3/ack3/protocol/ApiKey"), interfaces := #[7, 4], accessFlags := 1041 }

def heap : Heap := #[{ cls := 6, slots := #[.ref 1, .ref 2, .ref 3, .ref 4, .ref 5, .ref 6, .ref 7, .ref 8, .ref 9, .ref 10, .ref 11, .ref 12, .ref 13, .ref 14, .ref 15, .ref 16, .ref 17, .null], vm := .statics 6 },
  { cls := 6, slots := #[.null, .int 0, .int 0, .int 0, .int 0, .int 0, .int 9], vm := .none },
  { cls := 6, slots := #[.null, .int 1, .int 0, .int 1, .int 0, .int 0, .int 12], vm := .none },
  { cls := 6, slots := #[.null, .int 2, .int 0, .int 2, .int 0, .int 0, .int 6], vm := .none },
  { cls := 6, slots := #[.null, .int 3, .int 0, .int 3, .int 0, .int 0, .int 9], vm := .none },
  { cls := 6, slots := #[.null, .int 4, .int 0, .int 4, .int 0, .int 0, .int 3], vm := .none },
  { cls := 6, slots := #[.null, .int 5, .int 0, .int 5, .int 0, .int 0, .int 3], vm := .none },
  { cls := 6, slots := #[.null, .int 6, .int 0, .int 6, .int 0, .int 0, .int 3], vm := .none },
  { cls := 6, slots := #[.null, .int 7, .int 0, .int 7, .int 0, .int 0, .int 4], vm := .none },
  { cls := 6, slots := #[.null, .int 8, .int 0, .int 8, .int 0, .int 0, .int 2], vm := .none },
  { cls := 6, slots := #[.null, .int 9, .int 0, .int 9, .int 0, .int 0, .int 1], vm := .none },
  { cls := 6, slots := #[.null, .int 10, .int 0, .int 10, .int 0, .int 0, .int 0], vm := .none },
  { cls := 6, slots := #[.null, .int 11, .int 0, .int 11, .int 0, .int 0, .int 0], vm := .none },
  { cls := 6, slots := #[.null, .int 12, .int 0, .int 12, .int 0, .int 0, .int 0], vm := .none },
  { cls := 6, slots := #[.null, .int 13, .int 0, .int 13, .int 0, .int 0, .int 0], vm := .none },
  { cls := 6, slots := #[.null, .int 14, .int 0, .int 14, .int 0, .int 0, .int 0], vm := .none },
  { cls := 6, slots := #[.null, .int 15, .int 0, .int 15, .int 0, .int 0, .int 0], vm := .none },
  { cls := 6, slots := #[.null, .int 16, .int 0, .int 16, .int 0, .int 0, .int 0], vm := .none }]
def classes : Array Class := #[k0, k1, k2, k3, k4, k5, k6, k7, k8, k9, k10, k11, k12]
def interned : List (Array UInt16 × Addr) := []
def slotsUsed : Nat := 137
def theMethod : MethodId := ⟨1, 1⟩
def args0 : Array Value := #[.int 5, .int 7]
def aboutOver (below : List Frame) : State where
  vm := { classes := classes, interned := interned.toArray }
  heap := heap
  slotsUsed := slotsUsed
  threads := #[{ frames := .invoking theMethod args0 :: below }]
def below0 : List Frame := [.native { method := ⟨0, 0⟩, args := #[] }]
def about1 : State := aboutOver below0
def p0 : Program := .bare "" "" ""
def e0 : Env := launch0.env 0 0 0
theorem w_frames : about1.frames = Frame.invoking theMethod args0 :: below0 := rfl
set_option maxRecDepth 65536 in
theorem w_args : argsFit about1.vm theMethod args0 = true := by decide +kernel
set_option maxRecDepth 65536 in
theorem w_heap : heapFits about1 = true := by decide +kernel
set_option maxRecDepth 65536 in
theorem w_runnable : about1.curStatus? = some .runnable := by decide +kernel
set_option maxRecDepth 65536 in
theorem w_alone : about1.alone = true := by decide +kernel
set_option maxRecDepth 65536 in
theorem w_named : about1.methodNamed? x = some theMethod := by decide +kernel
set_option maxRecDepth 65536 in
theorem w_hears : about1.hears theMethod below0 = true := by decide +kernel
set_option maxRecDepth 65536 in
theorem w_ripe : about1.ripe theMethod args0 below0 = true := by decide +kernel
theorem w_running : about1.status = .running := rfl
set_option maxRecDepth 65536 in
theorem w_room : about1.hasRoom e0.platform room_1 = true :=
  launch0.hasRoom_least _ room_1 (by decide +kernel) (by decide +kernel) (by decide +kernel) (by decide +kernel) (by decide +kernel) (by decide +kernel)
theorem allAtoms_all (ts : List Jvm.Cond) (a : Array Jvm.Value) (st : Jvm.State) : (allAtoms ts).before a st = ts.all (fun c => c.before a st) := by
  induction ts with
  | nil => rfl
  | cons c t ih =>
    show (Jvm.Cond.and c (allAtoms t)).before a st = _
    rw [Jvm.Cond.before_and, ih, List.all_cons]
def words1 : List Jvm.Cond := Jvm.Cond.code x code maxLocals ret :: tables_1
/-- a 'code' word, met by the world's own term for the bytes: nothing is compared byte by byte -/
theorem code_word {y : MethodName} {bytes : ByteArray} {mx : Nat} {rt : Option FieldType} {a : Array Value} {s : State} {m : MethodId} {meth : Method} {c : Code} (h1 : s.methodNamed? y = some m) (h2 : s.vm.method? m = some meth) (h3 : meth.code = some c) (h4 : c.code = bytes)
    (h5 : (c.maxLocals == mx && c.exceptionTable.isEmpty && decide (c.maxStack ≤ mostOperands) && decide (meth.sig.returnType = rt) && !meth.locks && decide (parseMethodDescriptor y.desc = some meth.sig)) = true) : (Jvm.Cond.code y bytes mx rt).before a s = true := by
  simp only [Bool.and_eq_true, beq_iff_eq, Bool.not_eq_true', decide_eq_true_eq] at h5
  obtain ⟨⟨⟨⟨⟨g1, g2⟩, g3⟩, g4⟩, g5⟩, g6⟩ := h5
  simp [Cond.before, Cond.holds, Cond.value, h1, h2, h3, h4, g1, g2, g3, g4, g5, g6]
def isCode : Jvm.Cond → Bool
  | .code _ _ _ _ => true
  | _ => false
theorem all_split {L : List Jvm.Cond} {P : Jvm.Cond → Bool} (h1 : L.all (fun c => isCode c || P c) = true) (h2 : ∀ c ∈ L.filter isCode, P c = true) : L.all P = true := by
  refine List.all_eq_true.mpr fun c hc => ?_
  have h := List.all_eq_true.mp h1 c hc
  rcases Bool.eq_false_or_eq_true (isCode c) with hi | hi
  · exact h2 c (List.mem_filter.mpr ⟨hc, hi⟩)
  · simpa [hi] using h
set_option maxRecDepth 65536 in
theorem w_c0 : (Jvm.Cond.code x code maxLocals ret).before args0 about1 = true := code_word (m := ⟨1, 1⟩) (meth := k1m1) (c := k1c1) (by decide +kernel) rfl rfl rfl (by decide +kernel)
set_option maxRecDepth 65536 in
theorem w_c1 : (Jvm.Cond.code ({ cls := "com/example/ack3/ack3/protocol/ApiKey", name := "isFlexible", desc := "(S)Z" } : Jvm.MethodName) prog_3_method_9_code (2 : Nat) (Option.some Jvm.ClassFile.FieldType.boolean)).before args0 about1 = true := code_word (m := ⟨6, 0⟩) (meth := k6m0) (c := k6c0) (by decide +kernel) rfl rfl rfl (by decide +kernel)
def codes1 : List Jvm.Cond := [Jvm.Cond.code x code maxLocals ret, Jvm.Cond.code ({ cls := "com/example/ack3/ack3/protocol/ApiKey", name := "isFlexible", desc := "(S)Z" } : Jvm.MethodName) prog_3_method_9_code (2 : Nat) (Option.some Jvm.ClassFile.FieldType.boolean)]
set_option maxRecDepth 65536 in
theorem codes_eq : words1.filter isCode = codes1 := rfl
theorem w_codes : ∀ c ∈ words1.filter isCode, c.before args0 about1 = true := by
  rw [codes_eq]
  intro c hc
  simp only [codes1, List.mem_cons, List.not_mem_nil, or_false] at hc
  rcases hc with rfl | rfl
  · exact w_c0
  · exact w_c1
set_option maxRecDepth 65536 in
theorem w_t1 : (words1.take 24).all (fun c => isCode c || c.before args0 about1) = true := by decide +kernel
set_option maxRecDepth 65536 in
theorem w_t2 : (words1.drop 24).all (fun c => isCode c || c.before args0 about1) = true := by decide +kernel
theorem w_tables : (allAtoms (Jvm.Cond.code x code maxLocals ret :: tables_1)).before args0 about1 = true := by
  rw [allAtoms_all]
  show words1.all (fun c => c.before args0 about1) = true
  refine all_split ?_ w_codes
  rw [← List.take_append_drop 24 words1, List.all_append, w_t1, w_t2]
  rfl
set_option maxRecDepth 65536 in
theorem w_case : (Jvm.Cond.and given_1 narrow_1).before args0 about1 = true := by decide +kernel
theorem w_applies : (headSpec (Jvm.Cond.code x code maxLocals ret :: tables_1) room_1).applies x e0.platform about1 = true :=
  (Spec.applies_iff w_frames).mpr ⟨w_running, w_runnable, w_alone, w_named, w_hears, w_ripe, w_room, w_tables⟩
theorem atStart : AtStart classFile x code maxLocals ret World_1 tables_1 room_1 Calls_1 rest_1 Pre_1 launch0 p0 e0 about1 theMethod args0 below0 :=
  ⟨lists_1, trivial, launch0.admits_env _ _ _, launch0.least_env, fairChoices_fair.cas, fairChoices_fair.clock, w_frames, w_args, w_heap, w_applies, trivial, trivial, w_case⟩
end start1
theorem witness_1 : WitnessClaimed_1 := ⟨start1.p0, start1.e0, start1.about1, start1.theMethod, start1.args0, start1.below0, start1.atStart⟩
end Jvm.Pilot.@@N@@
