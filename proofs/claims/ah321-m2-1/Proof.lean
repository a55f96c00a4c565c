import JvmDerived
import JvmDerived.Pilot.@@N@@Statement
import JvmDerived.Pilot.@@N@@Code
set_option linter.unusedVariables false
set_option linter.unusedSimpArgs false
namespace Jvm.RoadKit
open Sem ClassFile Op Lib Jvm.Stand Jvm.Free Jvm.LawKit
section New
variable {p : Program} {l : Launch} {e : Env} {R : Room} {s : State} {m : MethodId} {args : Array Value} {below : List Frame} {meth : Method} {c : Code} {T : State} {locs : List Loc} {cells slots : Nat}
theorem retI (X : Stand p l e R s m args below meth c T locs cells slots) (hx : p.tables.exec = Jvm.exec) {pc : Nat} {Ls : Array Slot} {z : Int32} {rest : List Value} (hret : meth.sig.returnType = some .int) (hd : decode c.code pc = .ok (.ireturn, 1)) {fs : List Frame}
    (hl : ∀ (f : JFrame) (acts : List Action), f.method = m → f.locked = none → f.entered = [] → (doReturn e (T.setTop f) acts (some (.int z))).1 = T.setFrames fs) : Steps p.tables e below (T.setTop (mkF m pc Ls (.int z :: rest))) (T.setFrames fs) := by
  have hm' : T.vm.method? m = some meth := X.method'
  have hn : narrow .int (.int z) = .int z := rfl
  show Steps p.tables e below (T.setTop { method := m, pc := pc, locals := Ls, stack := _ :: rest, locked := none }) _
  jvm_step X.here [X.here.top, hx, hd, hm', hret, hn]
  first | (intro acts; rw [hl _ acts rfl rfl rfl]) | rw [hl _ _ rfl rfl rfl]
  exact Steps.refl _
end New
end Jvm.RoadKit
namespace Jvm.Pilot.@@N@@
open Jvm Jvm.ClassFile Sem Op Lib Jvm.Free Jvm.Stand Jvm.LawKit Jvm.RoadKit Bundle Jvm.Pilot.@@N@@.Jvm.D
/-! open addressing, in plain Lean: tables of ints, 0 is an empty place -/
def own_h4 (x : Int32) : Nat := ((x * (-1640531527 : Int32)).toBitVec >>> 30).toNat
def own_h8 (x : Int32) : Nat := ((x * (-1640531527 : Int32)).toBitVec >>> 29).toNat
def own_hash (n : Nat) (x : Int32) : Nat := if n = 4 then own_h4 x else own_h8 x
theorem own_h4_lt (x : Int32) : own_h4 x < 4 := by
  unfold own_h4
  rw [BitVec.toNat_ushiftRight, Nat.shiftRight_eq_div_pow]
  have := (x * (-1640531527 : Int32)).toBitVec.isLt
  omega
theorem own_h8_lt (x : Int32) : own_h8 x < 8 := by
  unfold own_h8
  rw [BitVec.toNat_ushiftRight, Nat.shiftRight_eq_div_pow]
  have := (x * (-1640531527 : Int32)).toBitVec.isLt
  omega
theorem own_hash4 (x : Int32) : own_hash 4 x = own_h4 x := if_pos rfl
theorem own_hash8 (x : Int32) : own_hash 8 x = own_h8 x := if_neg (by decide)
theorem own_st4 (x : Int32) : own_h4 x = (own_hash 4 x + 0) % 4 := by
  rw [own_hash4, Nat.add_zero, Nat.mod_eq_of_lt (own_h4_lt x)]
theorem own_st8 (x : Int32) : own_h8 x = (own_hash 8 x + 0) % 8 := by
  rw [own_hash8, Nat.add_zero, Nat.mod_eq_of_lt (own_h8_lt x)]
def own_at (n : Nat) (vs : List Int32) (x : Int32) (e : Nat) : Int32 := vs.getD ((own_hash n x + e) % n) 0
def Hit (n : Nat) (vs : List Int32) (x : Int32) (d : Nat) : Prop := d < n ∧ (∀ e, e < d → own_at n vs x e ≠ 0 ∧ own_at n vs x e ≠ x) ∧ (own_at n vs x d = 0 ∨ own_at n vs x d = x)
def Good (n : Nat) (vs : List Int32) : Prop := vs.length = n ∧ (n = 4 ∨ n = 8) ∧ ∀ j, j < n → vs.getD j 0 ≠ 0 → ∃ d, Hit n vs (vs.getD j 0) d ∧ (own_hash n (vs.getD j 0) + d) % n = j
def In (n : Nat) (vs : List Int32) (x : Int32) : Prop := ∃ j, j < n ∧ vs.getD j 0 = x
def cnt : List Int32 → Nat
  | [] => 0
  | z :: t => (if z = 0 then 0 else 1) + cnt t
theorem Hit.uniq {n : Nat} {vs : List Int32} {x : Int32} {d d' : Nat} (h : Hit n vs x d) (h' : Hit n vs x d') : d = d' := by
  rcases Nat.lt_trichotomy d d' with q | q | q
  · obtain ⟨a, b⟩ := h'.2.1 d q
    rcases h.2.2 with c | c
    · exact absurd c a
    · exact absurd c b
  · exact q
  · obtain ⟨a, b⟩ := h.2.1 d' q
    rcases h'.2.2 with c | c
    · exact absurd c a
    · exact absurd c b
theorem own_least (P : Nat → Prop) : ∀ d, P d → ∃ k, k ≤ d ∧ P k ∧ ∀ e, e < k → ¬ P e := by
  intro d
  induction d using Nat.strongRecOn with
  | _ d ih =>
    intro h
    by_cases q : ∃ e, e < d ∧ P e
    · obtain ⟨e, he, pe⟩ := q
      obtain ⟨k, hk, pk, r⟩ := ih e he pe
      exact ⟨k, Nat.le_trans hk (Nat.le_of_lt he), pk, r⟩
    · exact ⟨d, Nat.le_refl _, h, fun e he pe => q ⟨e, he, pe⟩⟩
theorem own_around {n H j : Nat} (hn : 0 < n) (hj : j < n) : ∃ d, d < n ∧ (H + d) % n = j := by
  refine ⟨(j + (n - H % n)) % n, Nat.mod_lt _ hn, ?_⟩
  have h1 : H % n < n := Nat.mod_lt _ hn
  have h2 := Nat.div_add_mod H n
  rw [Nat.add_mod_mod, show H + (j + (n - H % n)) = j + n * (H / n + 1) by rw [Nat.mul_add]; omega, Nat.add_mul_mod_self_left, Nat.mod_eq_of_lt hj]
theorem Hit.ex {n : Nat} {vs : List Int32} (hn : 0 < n) (x : Int32) (hz : ∃ j, j < n ∧ vs.getD j 0 = 0) : ∃ d, Hit n vs x d := by
  obtain ⟨j, hj, ej⟩ := hz
  obtain ⟨d0, hd0, e0⟩ := own_around (H := own_hash n x) hn hj
  obtain ⟨k, hk, pk, r⟩ := own_least (fun d => own_at n vs x d = 0 ∨ own_at n vs x d = x) d0 (Or.inl (by unfold own_at; rw [e0]; exact ej))
  exact ⟨k, Nat.lt_of_le_of_lt hk hd0, fun e he => ⟨fun q => r e he (Or.inl q), fun q => r e he (Or.inr q)⟩, pk⟩
theorem Hit.iff {n : Nat} {vs : List Int32} {x : Int32} {d : Nat} (hg : Good n vs) (hx : x ≠ 0) (h : Hit n vs x d) : In n vs x ↔ own_at n vs x d = x := by
  have hn : 0 < n := by rcases hg.2.1 with q | q <;> omega
  constructor
  · rintro ⟨j, hj, e⟩
    obtain ⟨d', h', q⟩ := hg.2.2 j hj (by rw [e]; exact hx)
    rw [e] at h' q
    rw [h.uniq h']; unfold own_at; rw [q]; exact e
  · intro e
    exact ⟨_, Nat.mod_lt _ hn, e⟩
theorem own_getD_set (vs : List Int32) (p j : Nat) (x : Int32) (hp : p < vs.length) : (vs.set p x).getD j 0 = if j = p then x else vs.getD j 0 := by
  rw [List.getD_eq_getElem?_getD, List.getD_eq_getElem?_getD, List.getElem?_set]
  by_cases h : j = p
  · subst h; simp [hp]
  · have h' : ¬ p = j := fun q => h q.symm
    simp [h, h']
theorem Good.put {n : Nat} {vs : List Int32} {x : Int32} {d : Nat} (hg : Good n vs) (hx : x ≠ 0) (h : Hit n vs x d) : Good n (vs.set ((own_hash n x + d) % n) x) := by
  have hn : 0 < n := by rcases hg.2.1 with q | q <;> omega
  have hp : (own_hash n x + d) % n < vs.length := by rw [hg.1]; exact Nat.mod_lt _ hn
  refine ⟨by rw [List.length_set]; exact hg.1, hg.2.1, ?_⟩
  intro j hj hne
  rw [own_getD_set _ _ _ _ hp] at hne ⊢
  by_cases hjp : j = (own_hash n x + d) % n
  · rw [if_pos hjp]
    refine ⟨d, ⟨h.1, fun e he => ?_, Or.inr ?_⟩, hjp.symm⟩
    · obtain ⟨a, b⟩ := h.2.1 e he
      unfold own_at
      rw [own_getD_set _ _ _ _ hp, if_neg ?_]
      · exact ⟨a, b⟩
      · intro q
        unfold own_at at a b
        rw [q] at a b
        rcases h.2.2 with c | c
        · exact a c
        · exact b c
    · unfold own_at; rw [own_getD_set _ _ _ _ hp, if_pos rfl]
  · rw [if_neg hjp] at hne ⊢
    obtain ⟨d', h', q⟩ := hg.2.2 j hj hne
    have hxv : x ≠ vs.getD j 0 := by
      intro e
      rw [← e] at h' q
      exact hjp (by rw [← q, h.uniq h'])
    refine ⟨d', ⟨h'.1, fun e he => ?_, Or.inr ?_⟩, q⟩
    · obtain ⟨a, b⟩ := h'.2.1 e he
      unfold own_at
      rw [own_getD_set _ _ _ _ hp]
      split
      · exact ⟨hx, hxv⟩
      · exact ⟨a, b⟩
    · unfold own_at; rw [own_getD_set _ _ _ _ hp, q, if_neg hjp]
theorem In.put {n : Nat} {vs : List Int32} {x y : Int32} {d : Nat} (hg : Good n vs) (h : Hit n vs x d) (hy : y ≠ 0) : In n (vs.set ((own_hash n x + d) % n) x) y ↔ (y = x ∨ In n vs y) := by
  have hn : 0 < n := by rcases hg.2.1 with q | q <;> omega
  have hp : (own_hash n x + d) % n < vs.length := by rw [hg.1]; exact Nat.mod_lt _ hn
  constructor
  · rintro ⟨j, hj, e⟩
    rw [own_getD_set _ _ _ _ hp] at e
    by_cases q : j = (own_hash n x + d) % n
    · rw [if_pos q] at e; exact Or.inl e.symm
    · rw [if_neg q] at e; exact Or.inr ⟨j, hj, e⟩
  · rintro (e | ⟨j, hj, e⟩)
    · refine ⟨(own_hash n x + d) % n, Nat.mod_lt _ hn, ?_⟩
      rw [own_getD_set _ _ _ _ hp, if_pos rfl]; exact e.symm
    · refine ⟨j, hj, ?_⟩
      rw [own_getD_set _ _ _ _ hp]
      by_cases q : j = (own_hash n x + d) % n
      · rw [if_pos q]
        rcases h.2.2 with c | c
        · unfold own_at at c; rw [← q, e] at c; exact absurd c hy
        · unfold own_at at c; rw [← q, e] at c; exact c.symm
      · rw [if_neg q]; exact e
theorem cnt_set (x : Int32) : ∀ (vs : List Int32) (p : Nat), p < vs.length → cnt (vs.set p x) + (if vs.getD p 0 = 0 then 0 else 1) = cnt vs + (if x = 0 then 0 else 1)
  | [], p, h => absurd h (Nat.not_lt_zero p)
  | z :: t, 0, _ => by
    show (if x = 0 then 0 else 1) + cnt t + (if z = 0 then 0 else 1) = (if z = 0 then 0 else 1) + cnt t + (if x = 0 then 0 else 1)
    omega
  | z :: t, p + 1, h => by
    have ih := cnt_set x t p (Nat.lt_of_succ_lt_succ h)
    show (if z = 0 then 0 else 1) + cnt (t.set p x) + (if t.getD p 0 = 0 then 0 else 1) = (if z = 0 then 0 else 1) + cnt t + (if x = 0 then 0 else 1)
    omega
theorem cnt_free : ∀ vs : List Int32, cnt vs < vs.length → ∃ j, j < vs.length ∧ vs.getD j 0 = 0
  | [], h => absurd h (Nat.not_lt_zero _)
  | z :: t, h => by
    by_cases q : z = 0
    · exact ⟨0, Nat.zero_lt_succ _, q⟩
    · have h' : cnt t < t.length := by
        have : (if z = 0 then 0 else 1) + cnt t < t.length + 1 := h
        rw [if_neg q] at this; omega
      obtain ⟨j, hj, e⟩ := cnt_free t h'
      exact ⟨j + 1, Nat.succ_lt_succ hj, e⟩
/-- what slotOf finds -/
theorem own_find {n : Nat} {vs : List Int32} (hg : Good n vs) (hc : cnt vs < n) (x : Int32) : ∃ d, Hit n vs x d := by
  have hn : 0 < n := by rcases hg.2.1 with q | q <;> omega
  obtain ⟨j, hj, e⟩ := cnt_free vs (by rw [hg.1]; exact hc)
  exact Hit.ex hn x ⟨j, by rw [← hg.1]; exact hj, e⟩
theorem Good.zero : Good 8 [0, 0, 0, 0, 0, 0, 0, 0] := by
  refine ⟨rfl, Or.inr rfl, fun j hj hne => ?_⟩
  match j, hj with
  | 0, _ => exact absurd rfl hne
  | 1, _ => exact absurd rfl hne
  | 2, _ => exact absurd rfl hne
  | 3, _ => exact absurd rfl hne
  | 4, _ => exact absurd rfl hne
  | 5, _ => exact absurd rfl hne
  | 6, _ => exact absurd rfl hne
  | 7, _ => exact absurd rfl hne
  | k + 8, h => exact absurd h (by omega)
theorem Good.zero4 : Good 4 [0, 0, 0, 0] := by
  refine ⟨rfl, Or.inl rfl, fun j hj hne => ?_⟩
  match j, hj with
  | 0, _ => exact absurd rfl hne
  | 1, _ => exact absurd rfl hne
  | 2, _ => exact absurd rfl hne
  | 3, _ => exact absurd rfl hne
  | k + 4, h => exact absurd h (by omega)
/-- numbers -/
theorem own_nat {i : Nat} (h : i < 1000) : (Int32.ofNat i).toInt = i := Int32.toInt_ofNat_small (by omega)
theorem own_natC {i : Nat} (h : i < 1000) : (Int32.ofNat i).toNatClampNeg = i := by
  show (Int32.ofNat i).toInt.toNat = i
  rw [own_nat h]; rfl
theorem own_lt {i j : Nat} (hi : i < 1000) (hj : j < 1000) : Int32.ofNat i < Int32.ofNat j ↔ i < j := by
  rw [Int32.lt_iff_toInt_lt, own_nat hi, own_nat hj]; omega
theorem own_nn {i : Nat} (hi : i < 1000) : ¬ Int32.ofNat i < 0 := by
  rw [Int32.lt_iff_toInt_lt, own_nat hi]; show ¬ (_ : Int) < 0; omega
theorem own_succ {i : Nat} (hi : i < 999) : Int32.ofNat i + 1 = Int32.ofNat (i + 1) := by
  apply Int32.toInt_inj.mp
  have q := c_iadd (Int32.ofNat i) 1
  have r := rng32 (Int32.ofNat i + 1)
  rw [own_nat (by omega), show (1 : Int32).toInt = 1 from by decide] at q
  rw [own_nat (show i + 1 < 1000 by omega)]; omega
theorem own_wrap4 : ∀ i : Fin 4, ((Int32.ofNat i.val + (1 : Int32)) &&& ((4 : Int32) - (1 : Int32))) = Int32.ofNat ((i.val + 1) % 4) := by decide
theorem own_wrap8 : ∀ i : Fin 8, ((Int32.ofNat i.val + (1 : Int32)) &&& ((8 : Int32) - (1 : Int32))) = Int32.ofNat ((i.val + 1) % 8) := by decide
theorem own_hI4 (x : Int32) : (((x * (-1640531527 : Int32)).toUInt32 >>> ((30 : Int32) &&& 31).toUInt32).toInt32) = Int32.ofNat (own_h4 x) := by
  apply Int32.toBitVec_inj.mp
  show (x * (-1640531527 : Int32)).toBitVec >>> 30 = BitVec.ofNat 32 (((x * (-1640531527 : Int32)).toBitVec >>> 30).toNat)
  rw [BitVec.ofNat_toNat]; simp
theorem own_hI8 (x : Int32) : (((x * (-1640531527 : Int32)).toUInt32 >>> ((29 : Int32) &&& 31).toUInt32).toInt32) = Int32.ofNat (own_h8 x) := by
  apply Int32.toBitVec_inj.mp
  show (x * (-1640531527 : Int32)).toBitVec >>> 29 = BitVec.ofNat 32 (((x * (-1640531527 : Int32)).toBitVec >>> 29).toNat)
  rw [BitVec.ofNat_toNat]; simp
theorem own_getI (l : List Int32) (i : Nat) : (l.map Value.int).getD i (.int 0) = .int (l.getD i 0) := by
  rw [List.getD_eq_getElem?_getD, List.getD_eq_getElem?_getD, List.getElem?_map]
  cases l[i]? <;> rfl
theorem own_setI (l : List Int32) (i : Nat) (x : Int32) : (l.map Value.int).set i (.int x) = (l.set i x).map Value.int := by
  rw [List.map_set]
theorem d8_0 : decode jdk_33_method_47_code 0 = .ok (.iload_n 0, 1) := by decide +kernel
theorem d8_1 : decode jdk_33_method_47_code 1 = .ok (.ifCond .gt 14, 3) := by decide +kernel
theorem d8_15 : decode jdk_33_method_47_code 15 = .ok (.bipush 31, 2) := by decide +kernel
theorem d8_17 : decode jdk_33_method_47_code 17 = .ok (.istore_n 1, 1) := by decide +kernel
theorem d8_18 : decode jdk_33_method_47_code 18 = .ok (.iload_n 0, 1) := by decide +kernel
theorem d8_19 : decode jdk_33_method_47_code 19 = .ok (.ldc_w 264, 3) := by decide +kernel
theorem d8_22 : decode jdk_33_method_47_code 22 = .ok (.if_icmp .lt 11, 3) := by decide +kernel
theorem d8_33 : decode jdk_33_method_47_code 33 = .ok (.iload_n 0, 1) := by decide +kernel
theorem d8_34 : decode jdk_33_method_47_code 34 = .ok (.sipush 256, 3) := by decide +kernel
theorem d8_37 : decode jdk_33_method_47_code 37 = .ok (.if_icmp .lt 11, 3) := by decide +kernel
theorem d8_48 : decode jdk_33_method_47_code 48 = .ok (.iload_n 0, 1) := by decide +kernel
theorem d8_49 : decode jdk_33_method_47_code 49 = .ok (.bipush 16, 2) := by decide +kernel
theorem d8_51 : decode jdk_33_method_47_code 51 = .ok (.if_icmp .lt 10, 3) := by decide +kernel
theorem d8_61 : decode jdk_33_method_47_code 61 = .ok (.iload_n 0, 1) := by decide +kernel
theorem d8_62 : decode jdk_33_method_47_code 62 = .ok (.iconst 4, 1) := by decide +kernel
theorem d8_63 : decode jdk_33_method_47_code 63 = .ok (.if_icmp .lt 10, 3) := by decide +kernel
theorem d8_73 : decode jdk_33_method_47_code 73 = .ok (.iload_n 1, 1) := by decide +kernel
theorem d8_74 : decode jdk_33_method_47_code 74 = .ok (.iload_n 0, 1) := by decide +kernel
theorem d8_75 : decode jdk_33_method_47_code 75 = .ok (.iconst 1, 1) := by decide +kernel
theorem d8_76 : decode jdk_33_method_47_code 76 = .ok (.iushr, 1) := by decide +kernel
theorem d8_77 : decode jdk_33_method_47_code 77 = .ok (.isub, 1) := by decide +kernel
theorem d8_78 : decode jdk_33_method_47_code 78 = .ok (.ireturn, 1) := by decide +kernel
theorem pn_java_lang_Integer : plainName "java/lang/Integer" = true := by first | (simp [plainName, overriddenIn]; done) | decide +kernel
theorem ef_8 (m : MethodId) (x0 : Int32) : entryFrame m #[(.int x0)] 2 = mkF m 0 #[.val (.int x0), .unset] [] := by first | (simp [entryFrame, mkF, argsToLocals, Value.category]; done) | rfl
def Q8 (r : Int32) (h0 : Heap) (n0 : Nat) (v : Option Value) (h : Heap) (L : List Loc) : Prop := v = some (.int r) ∧ Fr n0 L ∧ h = h0
set_option maxRecDepth 65536 in
set_option maxHeartbeats 40000000 in
theorem rm8_4 (l : Launch) (Z : State) (a0 : Array Value) (hw : ∀ d ∈ tables_1, d.before a0 Z = true) (ws : List Jvm.Cond)  (h0 : Heap) (n0 : Nat) (Z0 : n0 ≤ h0.size)   :
    MetFree l (⟨"java/lang/Integer", "numberOfLeadingZeros", "(I)I"⟩ : MethodName) (head1 (Jvm.Cond.code (⟨"java/lang/Integer", "numberOfLeadingZeros", "(I)I"⟩ : MethodName) jdk_33_method_47_code 2 (some .int) :: ws) ({ frames := 0, cells := 0, slots := 0, locals := 0 } : Room)) (fun a U => a = #[(.int ((4 : Int32) - (1 : Int32)))] ∧ Z.Warmed39 U.vm ∧ U.heap = h0) (fun _ _ _ _ _ => True) (fun _ U o U' => ∃ v L, o = .returned v ∧ Q8 (30 : Int32) h0 n0 v U'.heap L ∧ FrameEnd U o U' L ({ frames := 0, cells := 0, slots := 0, locals := 0 } : Room).cells ({ frames := 0, cells := 0, slots := 0, locals := 0 } : Room).slots) := by
  refine MetFree.of_bodySF (plainFor_of_name pn_java_lang_Integer) hisR ?_
  intro p e s m args below meth cd s₁ Bd hml0 hPre hKc
  obtain ⟨rfl, hZ, hHp⟩ := hPre
  have hx := Bd.exec
  have hby := Bd.bytes
  have hml : cd.maxLocals = 2 := hml0
  have hown : s.vm.findClass "java/lang/Integer" = some m.cls := findClass_of_methodNamed Bd.named
  have hnm := (name_of_methodNamed Bd.named Bd.method).1
  have X0 : Stand p l e ({ frames := 0, cells := 0, slots := 0, locals := 0 } : Room) s m #[(.int ((4 : Int32) - (1 : Int32)))] below meth cd s₁ [] 0 0 := Stand.of_body Bd
  have e0 : s₁.heap = h0 := by rw [← hHp, Bd.state]; rfl
  have N0 := Fr.nil n0
  have pre0 : ∀ t, Steps p.tables e below (s₁.setTop (mkF m 0 #[.val (.int ((4 : Int32) - (1 : Int32))), .unset] [])) t → Steps p.tables e below (s₁.setTop (entryFrame m #[(.int ((4 : Int32) - (1 : Int32)))] 2)) t := fun t kz => castTop (ef_8 m ((4 : Int32) - (1 : Int32))) kz
  obtain ⟨fs, hr, hrun, hended, hW, hsame⟩ := X0.leave (v := some (.int ((31 : Int32) - ((((4 : Int32) - (1 : Int32)).toUInt32 >>> ((1 : Int32) &&& 31).toUInt32).toInt32)))) (fun h => by rw [Bd.returns] at h; cases h)
  refine ⟨_, _, pre0 _ ?_, hrun, hended, _, _, rfl, ?_, ⟨_, rfl⟩, hW, hsame.mono (by decide) (by decide)⟩
  · show Steps p.tables e below (s₁.setTop (mkF m 0 #[.val (.int ((4 : Int32) - (1 : Int32))), .unset] [])) _
    refine XS.iloadN X0.here hx rfl (hb hby d8_0) rfl ?_
    show Steps p.tables e below (s₁.setTop (mkF m 1 #[.val (.int ((4 : Int32) - (1 : Int32))), .unset] [(.int ((4 : Int32) - (1 : Int32)))])) _
    refine XS.ifYes X0.here hx rfl (pc0 := 1) (pc' := 15) rfl (hb hby d8_1) rfl ((if0 _ _).trans (tlt (by decide : (0 : Int32) < ((4 : Int32) - (1 : Int32)))).2.2.1) (by decide) (by decide) ?_
    show Steps p.tables e below (s₁.setTop (mkF m 15 #[.val (.int ((4 : Int32) - (1 : Int32))), .unset] [])) _
    refine XS.bipush X0.here hx rfl (hb hby d8_15) ?_
    show Steps p.tables e below (s₁.setTop (mkF m 17 #[.val (.int ((4 : Int32) - (1 : Int32))), .unset] [(.int (31 : Int32))])) _
    refine XS.istoreN X0.here hx rfl (hb hby d8_17) rfl (l' := #[.val (.int ((4 : Int32) - (1 : Int32))), .val (.int (31 : Int32))]) rfl ?_
    show Steps p.tables e below (s₁.setTop (mkF m 18 #[.val (.int ((4 : Int32) - (1 : Int32))), .val (.int (31 : Int32))] [])) _
    refine XS.iloadN X0.here hx rfl (hb hby d8_18) rfl ?_
    show Steps p.tables e below (s₁.setTop (mkF m 19 #[.val (.int ((4 : Int32) - (1 : Int32))), .val (.int (31 : Int32))] [(.int ((4 : Int32) - (1 : Int32)))])) _
    refine X0.ldcwInt hx hown (mvT hZ (hw _ (List.mem_of_getElem? (i := 38) rfl))) (g := (mkF m 19 #[.val (.int ((4 : Int32) - (1 : Int32))), .val (.int (31 : Int32))] [(.int ((4 : Int32) - (1 : Int32)))])) rfl (hb hby d8_19) _ ?_
    show Steps p.tables e below (s₁.setTop (mkF m 22 #[.val (.int ((4 : Int32) - (1 : Int32))), .val (.int (31 : Int32))] [(.int (65536 : Int32)), (.int ((4 : Int32) - (1 : Int32)))])) _
    refine XS.icmpYes X0.here hx rfl (pc0 := 22) (pc' := 33) rfl (hb hby d8_22) rfl (tlt (by decide : ((4 : Int32) - (1 : Int32)) < (65536 : Int32))).1 (by decide) (by decide) ?_
    show Steps p.tables e below (s₁.setTop (mkF m 33 #[.val (.int ((4 : Int32) - (1 : Int32))), .val (.int (31 : Int32))] [])) _
    refine XS.iloadN X0.here hx rfl (hb hby d8_33) rfl ?_
    show Steps p.tables e below (s₁.setTop (mkF m 34 #[.val (.int ((4 : Int32) - (1 : Int32))), .val (.int (31 : Int32))] [(.int ((4 : Int32) - (1 : Int32)))])) _
    refine XS.sipush X0.here hx rfl (hb hby d8_34) ?_
    show Steps p.tables e below (s₁.setTop (mkF m 37 #[.val (.int ((4 : Int32) - (1 : Int32))), .val (.int (31 : Int32))] [(.int (256 : Int32)), (.int ((4 : Int32) - (1 : Int32)))])) _
    refine XS.icmpYes X0.here hx rfl (pc0 := 37) (pc' := 48) rfl (hb hby d8_37) rfl (tlt (by decide : ((4 : Int32) - (1 : Int32)) < (256 : Int32))).1 (by decide) (by decide) ?_
    show Steps p.tables e below (s₁.setTop (mkF m 48 #[.val (.int ((4 : Int32) - (1 : Int32))), .val (.int (31 : Int32))] [])) _
    refine XS.iloadN X0.here hx rfl (hb hby d8_48) rfl ?_
    show Steps p.tables e below (s₁.setTop (mkF m 49 #[.val (.int ((4 : Int32) - (1 : Int32))), .val (.int (31 : Int32))] [(.int ((4 : Int32) - (1 : Int32)))])) _
    refine XS.bipush X0.here hx rfl (hb hby d8_49) ?_
    show Steps p.tables e below (s₁.setTop (mkF m 51 #[.val (.int ((4 : Int32) - (1 : Int32))), .val (.int (31 : Int32))] [(.int (16 : Int32)), (.int ((4 : Int32) - (1 : Int32)))])) _
    refine XS.icmpYes X0.here hx rfl (pc0 := 51) (pc' := 61) rfl (hb hby d8_51) rfl (tlt (by decide : ((4 : Int32) - (1 : Int32)) < (16 : Int32))).1 (by decide) (by decide) ?_
    show Steps p.tables e below (s₁.setTop (mkF m 61 #[.val (.int ((4 : Int32) - (1 : Int32))), .val (.int (31 : Int32))] [])) _
    refine XS.iloadN X0.here hx rfl (hb hby d8_61) rfl ?_
    show Steps p.tables e below (s₁.setTop (mkF m 62 #[.val (.int ((4 : Int32) - (1 : Int32))), .val (.int (31 : Int32))] [(.int ((4 : Int32) - (1 : Int32)))])) _
    refine XS.iconst X0.here hx rfl (hb hby d8_62) ?_
    show Steps p.tables e below (s₁.setTop (mkF m 63 #[.val (.int ((4 : Int32) - (1 : Int32))), .val (.int (31 : Int32))] [(.int (4 : Int32)), (.int ((4 : Int32) - (1 : Int32)))])) _
    refine XS.icmpYes X0.here hx rfl (pc0 := 63) (pc' := 73) rfl (hb hby d8_63) rfl (tlt (by decide : ((4 : Int32) - (1 : Int32)) < (4 : Int32))).1 (by decide) (by decide) ?_
    show Steps p.tables e below (s₁.setTop (mkF m 73 #[.val (.int ((4 : Int32) - (1 : Int32))), .val (.int (31 : Int32))] [])) _
    refine XS.iloadN X0.here hx rfl (hb hby d8_73) rfl ?_
    show Steps p.tables e below (s₁.setTop (mkF m 74 #[.val (.int ((4 : Int32) - (1 : Int32))), .val (.int (31 : Int32))] [(.int (31 : Int32))])) _
    refine XS.iloadN X0.here hx rfl (hb hby d8_74) rfl ?_
    show Steps p.tables e below (s₁.setTop (mkF m 75 #[.val (.int ((4 : Int32) - (1 : Int32))), .val (.int (31 : Int32))] [(.int ((4 : Int32) - (1 : Int32))), (.int (31 : Int32))])) _
    refine XS.iconst X0.here hx rfl (hb hby d8_75) ?_
    show Steps p.tables e below (s₁.setTop (mkF m 76 #[.val (.int ((4 : Int32) - (1 : Int32))), .val (.int (31 : Int32))] [(.int (1 : Int32)), (.int ((4 : Int32) - (1 : Int32))), (.int (31 : Int32))])) _
    refine XS.iushr X0.here hx rfl (hb hby d8_76) rfl ?_
    show Steps p.tables e below (s₁.setTop (mkF m 77 #[.val (.int ((4 : Int32) - (1 : Int32))), .val (.int (31 : Int32))] [(.int ((((4 : Int32) - (1 : Int32)).toUInt32 >>> ((1 : Int32) &&& 31).toUInt32).toInt32)), (.int (31 : Int32))])) _
    refine XS.isub X0.here hx rfl (hb hby d8_77) rfl ?_
    show Steps p.tables e below (s₁.setTop (mkF m 78 #[.val (.int ((4 : Int32) - (1 : Int32))), .val (.int (31 : Int32))] [(.int ((31 : Int32) - ((((4 : Int32) - (1 : Int32)).toUInt32 >>> ((1 : Int32) &&& 31).toUInt32).toInt32)))])) _
    exact retI X0 hx Bd.returns (hb hby d8_78) hr
  · show Q8 (30 : Int32) h0 n0 _ s₁.heap _
    rw [e0]
    exact ⟨congrArg (fun z => some (Value.int z)) (by decide), N0, rfl⟩
theorem d8_66 : decode jdk_33_method_47_code 66 = .ok (.iinc 1 (-2), 3) := by decide +kernel
theorem d8_69 : decode jdk_33_method_47_code 69 = .ok (.iload_n 0, 1) := by decide +kernel
theorem d8_70 : decode jdk_33_method_47_code 70 = .ok (.iconst 2, 1) := by decide +kernel
theorem d8_71 : decode jdk_33_method_47_code 71 = .ok (.iushr, 1) := by decide +kernel
theorem d8_72 : decode jdk_33_method_47_code 72 = .ok (.istore_n 0, 1) := by decide +kernel
set_option maxRecDepth 65536 in
set_option maxHeartbeats 40000000 in
theorem rm8_8 (l : Launch) (Z : State) (a0 : Array Value) (hw : ∀ d ∈ tables_1, d.before a0 Z = true) (ws : List Jvm.Cond)  (h0 : Heap) (n0 : Nat) (Z0 : n0 ≤ h0.size)   :
    MetFree l (⟨"java/lang/Integer", "numberOfLeadingZeros", "(I)I"⟩ : MethodName) (head1 (Jvm.Cond.code (⟨"java/lang/Integer", "numberOfLeadingZeros", "(I)I"⟩ : MethodName) jdk_33_method_47_code 2 (some .int) :: ws) ({ frames := 0, cells := 0, slots := 0, locals := 0 } : Room)) (fun a U => a = #[(.int ((8 : Int32) - (1 : Int32)))] ∧ Z.Warmed39 U.vm ∧ U.heap = h0) (fun _ _ _ _ _ => True) (fun _ U o U' => ∃ v L, o = .returned v ∧ Q8 (29 : Int32) h0 n0 v U'.heap L ∧ FrameEnd U o U' L ({ frames := 0, cells := 0, slots := 0, locals := 0 } : Room).cells ({ frames := 0, cells := 0, slots := 0, locals := 0 } : Room).slots) := by
  refine MetFree.of_bodySF (plainFor_of_name pn_java_lang_Integer) hisR ?_
  intro p e s m args below meth cd s₁ Bd hml0 hPre hKc
  obtain ⟨rfl, hZ, hHp⟩ := hPre
  have hx := Bd.exec
  have hby := Bd.bytes
  have hml : cd.maxLocals = 2 := hml0
  have hown : s.vm.findClass "java/lang/Integer" = some m.cls := findClass_of_methodNamed Bd.named
  have hnm := (name_of_methodNamed Bd.named Bd.method).1
  have X0 : Stand p l e ({ frames := 0, cells := 0, slots := 0, locals := 0 } : Room) s m #[(.int ((8 : Int32) - (1 : Int32)))] below meth cd s₁ [] 0 0 := Stand.of_body Bd
  have e0 : s₁.heap = h0 := by rw [← hHp, Bd.state]; rfl
  have N0 := Fr.nil n0
  have pre0 : ∀ t, Steps p.tables e below (s₁.setTop (mkF m 0 #[.val (.int ((8 : Int32) - (1 : Int32))), .unset] [])) t → Steps p.tables e below (s₁.setTop (entryFrame m #[(.int ((8 : Int32) - (1 : Int32)))] 2)) t := fun t kz => castTop (ef_8 m ((8 : Int32) - (1 : Int32))) kz
  obtain ⟨fs, hr, hrun, hended, hW, hsame⟩ := X0.leave (v := some (.int (((31 : Int32) + (-2 : Int32)) - ((((((8 : Int32) - (1 : Int32)).toUInt32 >>> ((2 : Int32) &&& 31).toUInt32).toInt32).toUInt32 >>> ((1 : Int32) &&& 31).toUInt32).toInt32)))) (fun h => by rw [Bd.returns] at h; cases h)
  refine ⟨_, _, pre0 _ ?_, hrun, hended, _, _, rfl, ?_, ⟨_, rfl⟩, hW, hsame.mono (by decide) (by decide)⟩
  · show Steps p.tables e below (s₁.setTop (mkF m 0 #[.val (.int ((8 : Int32) - (1 : Int32))), .unset] [])) _
    refine XS.iloadN X0.here hx rfl (hb hby d8_0) rfl ?_
    show Steps p.tables e below (s₁.setTop (mkF m 1 #[.val (.int ((8 : Int32) - (1 : Int32))), .unset] [(.int ((8 : Int32) - (1 : Int32)))])) _
    refine XS.ifYes X0.here hx rfl (pc0 := 1) (pc' := 15) rfl (hb hby d8_1) rfl ((if0 _ _).trans (tlt (by decide : (0 : Int32) < ((8 : Int32) - (1 : Int32)))).2.2.1) (by decide) (by decide) ?_
    show Steps p.tables e below (s₁.setTop (mkF m 15 #[.val (.int ((8 : Int32) - (1 : Int32))), .unset] [])) _
    refine XS.bipush X0.here hx rfl (hb hby d8_15) ?_
    show Steps p.tables e below (s₁.setTop (mkF m 17 #[.val (.int ((8 : Int32) - (1 : Int32))), .unset] [(.int (31 : Int32))])) _
    refine XS.istoreN X0.here hx rfl (hb hby d8_17) rfl (l' := #[.val (.int ((8 : Int32) - (1 : Int32))), .val (.int (31 : Int32))]) rfl ?_
    show Steps p.tables e below (s₁.setTop (mkF m 18 #[.val (.int ((8 : Int32) - (1 : Int32))), .val (.int (31 : Int32))] [])) _
    refine XS.iloadN X0.here hx rfl (hb hby d8_18) rfl ?_
    show Steps p.tables e below (s₁.setTop (mkF m 19 #[.val (.int ((8 : Int32) - (1 : Int32))), .val (.int (31 : Int32))] [(.int ((8 : Int32) - (1 : Int32)))])) _
    refine X0.ldcwInt hx hown (mvT hZ (hw _ (List.mem_of_getElem? (i := 38) rfl))) (g := (mkF m 19 #[.val (.int ((8 : Int32) - (1 : Int32))), .val (.int (31 : Int32))] [(.int ((8 : Int32) - (1 : Int32)))])) rfl (hb hby d8_19) _ ?_
    show Steps p.tables e below (s₁.setTop (mkF m 22 #[.val (.int ((8 : Int32) - (1 : Int32))), .val (.int (31 : Int32))] [(.int (65536 : Int32)), (.int ((8 : Int32) - (1 : Int32)))])) _
    refine XS.icmpYes X0.here hx rfl (pc0 := 22) (pc' := 33) rfl (hb hby d8_22) rfl (tlt (by decide : ((8 : Int32) - (1 : Int32)) < (65536 : Int32))).1 (by decide) (by decide) ?_
    show Steps p.tables e below (s₁.setTop (mkF m 33 #[.val (.int ((8 : Int32) - (1 : Int32))), .val (.int (31 : Int32))] [])) _
    refine XS.iloadN X0.here hx rfl (hb hby d8_33) rfl ?_
    show Steps p.tables e below (s₁.setTop (mkF m 34 #[.val (.int ((8 : Int32) - (1 : Int32))), .val (.int (31 : Int32))] [(.int ((8 : Int32) - (1 : Int32)))])) _
    refine XS.sipush X0.here hx rfl (hb hby d8_34) ?_
    show Steps p.tables e below (s₁.setTop (mkF m 37 #[.val (.int ((8 : Int32) - (1 : Int32))), .val (.int (31 : Int32))] [(.int (256 : Int32)), (.int ((8 : Int32) - (1 : Int32)))])) _
    refine XS.icmpYes X0.here hx rfl (pc0 := 37) (pc' := 48) rfl (hb hby d8_37) rfl (tlt (by decide : ((8 : Int32) - (1 : Int32)) < (256 : Int32))).1 (by decide) (by decide) ?_
    show Steps p.tables e below (s₁.setTop (mkF m 48 #[.val (.int ((8 : Int32) - (1 : Int32))), .val (.int (31 : Int32))] [])) _
    refine XS.iloadN X0.here hx rfl (hb hby d8_48) rfl ?_
    show Steps p.tables e below (s₁.setTop (mkF m 49 #[.val (.int ((8 : Int32) - (1 : Int32))), .val (.int (31 : Int32))] [(.int ((8 : Int32) - (1 : Int32)))])) _
    refine XS.bipush X0.here hx rfl (hb hby d8_49) ?_
    show Steps p.tables e below (s₁.setTop (mkF m 51 #[.val (.int ((8 : Int32) - (1 : Int32))), .val (.int (31 : Int32))] [(.int (16 : Int32)), (.int ((8 : Int32) - (1 : Int32)))])) _
    refine XS.icmpYes X0.here hx rfl (pc0 := 51) (pc' := 61) rfl (hb hby d8_51) rfl (tlt (by decide : ((8 : Int32) - (1 : Int32)) < (16 : Int32))).1 (by decide) (by decide) ?_
    show Steps p.tables e below (s₁.setTop (mkF m 61 #[.val (.int ((8 : Int32) - (1 : Int32))), .val (.int (31 : Int32))] [])) _
    refine XS.iloadN X0.here hx rfl (hb hby d8_61) rfl ?_
    show Steps p.tables e below (s₁.setTop (mkF m 62 #[.val (.int ((8 : Int32) - (1 : Int32))), .val (.int (31 : Int32))] [(.int ((8 : Int32) - (1 : Int32)))])) _
    refine XS.iconst X0.here hx rfl (hb hby d8_62) ?_
    show Steps p.tables e below (s₁.setTop (mkF m 63 #[.val (.int ((8 : Int32) - (1 : Int32))), .val (.int (31 : Int32))] [(.int (4 : Int32)), (.int ((8 : Int32) - (1 : Int32)))])) _
    refine XS.icmpNo X0.here hx rfl (hb hby d8_63) rfl (flt (by decide : ¬ (((8 : Int32) - (1 : Int32)) < (4 : Int32)))).1 ?_
    show Steps p.tables e below (s₁.setTop (mkF m 66 #[.val (.int ((8 : Int32) - (1 : Int32))), .val (.int (31 : Int32))] [])) _
    refine XS.iinc X0.here hx rfl (hb hby d8_66) rfl (l' := #[.val (.int ((8 : Int32) - (1 : Int32))), .val (.int ((31 : Int32) + (-2 : Int32)))]) rfl ?_
    show Steps p.tables e below (s₁.setTop (mkF m 69 #[.val (.int ((8 : Int32) - (1 : Int32))), .val (.int ((31 : Int32) + (-2 : Int32)))] [])) _
    refine XS.iloadN X0.here hx rfl (hb hby d8_69) rfl ?_
    show Steps p.tables e below (s₁.setTop (mkF m 70 #[.val (.int ((8 : Int32) - (1 : Int32))), .val (.int ((31 : Int32) + (-2 : Int32)))] [(.int ((8 : Int32) - (1 : Int32)))])) _
    refine XS.iconst X0.here hx rfl (hb hby d8_70) ?_
    show Steps p.tables e below (s₁.setTop (mkF m 71 #[.val (.int ((8 : Int32) - (1 : Int32))), .val (.int ((31 : Int32) + (-2 : Int32)))] [(.int (2 : Int32)), (.int ((8 : Int32) - (1 : Int32)))])) _
    refine XS.iushr X0.here hx rfl (hb hby d8_71) rfl ?_
    show Steps p.tables e below (s₁.setTop (mkF m 72 #[.val (.int ((8 : Int32) - (1 : Int32))), .val (.int ((31 : Int32) + (-2 : Int32)))] [(.int ((((8 : Int32) - (1 : Int32)).toUInt32 >>> ((2 : Int32) &&& 31).toUInt32).toInt32))])) _
    refine XS.istoreN X0.here hx rfl (hb hby d8_72) rfl (l' := #[.val (.int ((((8 : Int32) - (1 : Int32)).toUInt32 >>> ((2 : Int32) &&& 31).toUInt32).toInt32)), .val (.int ((31 : Int32) + (-2 : Int32)))]) rfl ?_
    show Steps p.tables e below (s₁.setTop (mkF m 73 #[.val (.int ((((8 : Int32) - (1 : Int32)).toUInt32 >>> ((2 : Int32) &&& 31).toUInt32).toInt32)), .val (.int ((31 : Int32) + (-2 : Int32)))] [])) _
    refine XS.iloadN X0.here hx rfl (hb hby d8_73) rfl ?_
    show Steps p.tables e below (s₁.setTop (mkF m 74 #[.val (.int ((((8 : Int32) - (1 : Int32)).toUInt32 >>> ((2 : Int32) &&& 31).toUInt32).toInt32)), .val (.int ((31 : Int32) + (-2 : Int32)))] [(.int ((31 : Int32) + (-2 : Int32)))])) _
    refine XS.iloadN X0.here hx rfl (hb hby d8_74) rfl ?_
    show Steps p.tables e below (s₁.setTop (mkF m 75 #[.val (.int ((((8 : Int32) - (1 : Int32)).toUInt32 >>> ((2 : Int32) &&& 31).toUInt32).toInt32)), .val (.int ((31 : Int32) + (-2 : Int32)))] [(.int ((((8 : Int32) - (1 : Int32)).toUInt32 >>> ((2 : Int32) &&& 31).toUInt32).toInt32)), (.int ((31 : Int32) + (-2 : Int32)))])) _
    refine XS.iconst X0.here hx rfl (hb hby d8_75) ?_
    show Steps p.tables e below (s₁.setTop (mkF m 76 #[.val (.int ((((8 : Int32) - (1 : Int32)).toUInt32 >>> ((2 : Int32) &&& 31).toUInt32).toInt32)), .val (.int ((31 : Int32) + (-2 : Int32)))] [(.int (1 : Int32)), (.int ((((8 : Int32) - (1 : Int32)).toUInt32 >>> ((2 : Int32) &&& 31).toUInt32).toInt32)), (.int ((31 : Int32) + (-2 : Int32)))])) _
    refine XS.iushr X0.here hx rfl (hb hby d8_76) rfl ?_
    show Steps p.tables e below (s₁.setTop (mkF m 77 #[.val (.int ((((8 : Int32) - (1 : Int32)).toUInt32 >>> ((2 : Int32) &&& 31).toUInt32).toInt32)), .val (.int ((31 : Int32) + (-2 : Int32)))] [(.int ((((((8 : Int32) - (1 : Int32)).toUInt32 >>> ((2 : Int32) &&& 31).toUInt32).toInt32).toUInt32 >>> ((1 : Int32) &&& 31).toUInt32).toInt32)), (.int ((31 : Int32) + (-2 : Int32)))])) _
    refine XS.isub X0.here hx rfl (hb hby d8_77) rfl ?_
    show Steps p.tables e below (s₁.setTop (mkF m 78 #[.val (.int ((((8 : Int32) - (1 : Int32)).toUInt32 >>> ((2 : Int32) &&& 31).toUInt32).toInt32)), .val (.int ((31 : Int32) + (-2 : Int32)))] [(.int (((31 : Int32) + (-2 : Int32)) - ((((((8 : Int32) - (1 : Int32)).toUInt32 >>> ((2 : Int32) &&& 31).toUInt32).toInt32).toUInt32 >>> ((1 : Int32) &&& 31).toUInt32).toInt32)))])) _
    exact retI X0 hx Bd.returns (hb hby d8_78) hr
  · show Q8 (29 : Int32) h0 n0 _ s₁.heap _
    rw [e0]
    exact ⟨congrArg (fun z => some (Value.int z)) (by decide), N0, rfl⟩
theorem d7_15 : decode prog_2_method_7_code 15 = .ok (.aload_n 1, 1) := by decide +kernel
theorem d7_16 : decode prog_2_method_7_code 16 = .ok (.iload_n 3, 1) := by decide +kernel
theorem d7_17 : decode prog_2_method_7_code 17 = .ok (.iaload, 1) := by decide +kernel
theorem d7_18 : decode prog_2_method_7_code 18 = .ok (.ifCond .eq 19, 3) := by decide +kernel
theorem d7_21 : decode prog_2_method_7_code 21 = .ok (.aload_n 1, 1) := by decide +kernel
theorem d7_22 : decode prog_2_method_7_code 22 = .ok (.iload_n 3, 1) := by decide +kernel
theorem d7_23 : decode prog_2_method_7_code 23 = .ok (.iaload, 1) := by decide +kernel
theorem d7_24 : decode prog_2_method_7_code 24 = .ok (.iload_n 0, 1) := by decide +kernel
theorem d7_25 : decode prog_2_method_7_code 25 = .ok (.if_icmp .eq 12, 3) := by decide +kernel
theorem d7_28 : decode prog_2_method_7_code 28 = .ok (.iload_n 3, 1) := by decide +kernel
theorem d7_29 : decode prog_2_method_7_code 29 = .ok (.iconst 1, 1) := by decide +kernel
theorem d7_30 : decode prog_2_method_7_code 30 = .ok (.iadd, 1) := by decide +kernel
theorem d7_31 : decode prog_2_method_7_code 31 = .ok (.iload_n 2, 1) := by decide +kernel
theorem d7_32 : decode prog_2_method_7_code 32 = .ok (.iand, 1) := by decide +kernel
theorem d7_33 : decode prog_2_method_7_code 33 = .ok (.istore_n 3, 1) := by decide +kernel
theorem d7_34 : decode prog_2_method_7_code 34 = .ok (.goto (-19), 3) := by decide +kernel
set_option maxRecDepth 65536 in
set_option maxHeartbeats 40000000 in
theorem turn7_4 {p : Program} {l : Launch} {e : Env} {R : Room} {s : State} {m : MethodId} {args : Array Value} {below : List Frame} {meth : Method} {c : Code} {T0 : State} {locs : List Loc} {cells slots : Nat} {Z : State} {a0 : Array Value} {h0 : Heap} (x : Int32) (ar : Addr) (i v : Int32) (cl : Cell) (X0 : Stand p l e R s m args below meth c T0 locs cells slots) (hx : p.tables.exec = Jvm.exec) (hZ : Z.Warmed39 s.vm) (hw : ∀ d ∈ tables_1, d.before a0 Z = true) (hby : c.code = prog_2_method_7_code) (hown : s.vm.findClass "com/example/subsumption/subsumption/IntSet" = some m.cls) (e0 : T0.heap = h0) (Ar : Arr Z h0 ar cl .int) (hin : ¬ (i < 0 ∨ cl.slots.size ≤ i.toNatClampNeg)) (hat : cl.slots[i.toNatClampNeg]? = some (.int v)) (hc18 : ¬ (v = (0 : Int32))) (hc25 : ¬ (v = x)) {target : State} (kt : Steps p.tables e below (T0.setTop (mkF m 15 #[.val (.int x), .val (.ref ar), .val (.int ((4 : Int32) - (1 : Int32))), .val (.int ((i + (1 : Int32)) &&& ((4 : Int32) - (1 : Int32))))] [])) target) : Steps p.tables e below (T0.setTop (mkF m 15 #[.val (.int x), .val (.ref ar), .val (.int ((4 : Int32) - (1 : Int32))), .val (.int i)] [])) target := by
  show Steps p.tables e below (T0.setTop (mkF m 15 #[.val (.int x), .val (.ref ar), .val (.int ((4 : Int32) - (1 : Int32))), .val (.int i)] [])) _
  refine XS.aloadN X0.here hx rfl (hb hby d7_15) rfl rfl ?_
  show Steps p.tables e below (T0.setTop (mkF m 16 #[.val (.int x), .val (.ref ar), .val (.int ((4 : Int32) - (1 : Int32))), .val (.int i)] [(.ref ar)])) _
  refine XS.iloadN X0.here hx rfl (hb hby d7_16) rfl ?_
  show Steps p.tables e below (T0.setTop (mkF m 17 #[.val (.int x), .val (.ref ar), .val (.int ((4 : Int32) - (1 : Int32))), .val (.int i)] [(.int i), (.ref ar)])) _
  refine X0.iaload hx (j := i) (v := (.int v)) (by rw [e0]; exact Ar.1) (State.isArrayOf_alike hZ.alike Ar.2.1) Ar.2.2 hin hat (g := (mkF m 17 #[.val (.int x), .val (.ref ar), .val (.int ((4 : Int32) - (1 : Int32))), .val (.int i)] [(.int i), (.ref ar)])) rfl rfl (hb hby d7_17) _ ?_
  show Steps p.tables e below (T0.setTop (mkF m 18 #[.val (.int x), .val (.ref ar), .val (.int ((4 : Int32) - (1 : Int32))), .val (.int i)] [(.int v)])) _
  refine XS.ifNo X0.here hx rfl (hb hby d7_18) rfl ((if0 _ _).trans (feq hc18).1) ?_
  show Steps p.tables e below (T0.setTop (mkF m 21 #[.val (.int x), .val (.ref ar), .val (.int ((4 : Int32) - (1 : Int32))), .val (.int i)] [])) _
  refine XS.aloadN X0.here hx rfl (hb hby d7_21) rfl rfl ?_
  show Steps p.tables e below (T0.setTop (mkF m 22 #[.val (.int x), .val (.ref ar), .val (.int ((4 : Int32) - (1 : Int32))), .val (.int i)] [(.ref ar)])) _
  refine XS.iloadN X0.here hx rfl (hb hby d7_22) rfl ?_
  show Steps p.tables e below (T0.setTop (mkF m 23 #[.val (.int x), .val (.ref ar), .val (.int ((4 : Int32) - (1 : Int32))), .val (.int i)] [(.int i), (.ref ar)])) _
  refine X0.iaload hx (j := i) (v := (.int v)) (by rw [e0]; exact Ar.1) (State.isArrayOf_alike hZ.alike Ar.2.1) Ar.2.2 hin hat (g := (mkF m 23 #[.val (.int x), .val (.ref ar), .val (.int ((4 : Int32) - (1 : Int32))), .val (.int i)] [(.int i), (.ref ar)])) rfl rfl (hb hby d7_23) _ ?_
  show Steps p.tables e below (T0.setTop (mkF m 24 #[.val (.int x), .val (.ref ar), .val (.int ((4 : Int32) - (1 : Int32))), .val (.int i)] [(.int v)])) _
  refine XS.iloadN X0.here hx rfl (hb hby d7_24) rfl ?_
  show Steps p.tables e below (T0.setTop (mkF m 25 #[.val (.int x), .val (.ref ar), .val (.int ((4 : Int32) - (1 : Int32))), .val (.int i)] [(.int x), (.int v)])) _
  refine XS.icmpNo X0.here hx rfl (hb hby d7_25) rfl (feq hc25).1 ?_
  show Steps p.tables e below (T0.setTop (mkF m 28 #[.val (.int x), .val (.ref ar), .val (.int ((4 : Int32) - (1 : Int32))), .val (.int i)] [])) _
  refine XS.iloadN X0.here hx rfl (hb hby d7_28) rfl ?_
  show Steps p.tables e below (T0.setTop (mkF m 29 #[.val (.int x), .val (.ref ar), .val (.int ((4 : Int32) - (1 : Int32))), .val (.int i)] [(.int i)])) _
  refine XS.iconst X0.here hx rfl (hb hby d7_29) ?_
  show Steps p.tables e below (T0.setTop (mkF m 30 #[.val (.int x), .val (.ref ar), .val (.int ((4 : Int32) - (1 : Int32))), .val (.int i)] [(.int (1 : Int32)), (.int i)])) _
  refine XS.iadd X0.here hx rfl (hb hby d7_30) rfl ?_
  show Steps p.tables e below (T0.setTop (mkF m 31 #[.val (.int x), .val (.ref ar), .val (.int ((4 : Int32) - (1 : Int32))), .val (.int i)] [(.int (i + (1 : Int32)))])) _
  refine XS.iloadN X0.here hx rfl (hb hby d7_31) rfl ?_
  show Steps p.tables e below (T0.setTop (mkF m 32 #[.val (.int x), .val (.ref ar), .val (.int ((4 : Int32) - (1 : Int32))), .val (.int i)] [(.int ((4 : Int32) - (1 : Int32))), (.int (i + (1 : Int32)))])) _
  refine XS.iand X0.here hx rfl (hb hby d7_32) rfl ?_
  show Steps p.tables e below (T0.setTop (mkF m 33 #[.val (.int x), .val (.ref ar), .val (.int ((4 : Int32) - (1 : Int32))), .val (.int i)] [(.int ((i + (1 : Int32)) &&& ((4 : Int32) - (1 : Int32))))])) _
  refine XS.istoreN X0.here hx rfl (hb hby d7_33) rfl (l' := #[.val (.int x), .val (.ref ar), .val (.int ((4 : Int32) - (1 : Int32))), .val (.int ((i + (1 : Int32)) &&& ((4 : Int32) - (1 : Int32))))]) rfl ?_
  show Steps p.tables e below (T0.setTop (mkF m 34 #[.val (.int x), .val (.ref ar), .val (.int ((4 : Int32) - (1 : Int32))), .val (.int ((i + (1 : Int32)) &&& ((4 : Int32) - (1 : Int32))))] [])) _
  refine XS.goto X0.here hx rfl (pc0 := 34) (pc' := 15) rfl (hb hby d7_34) (by decide) (by decide) ?_
  exact kt
set_option maxRecDepth 65536 in
set_option maxHeartbeats 40000000 in
theorem lvZ7_4 {p : Program} {l : Launch} {e : Env} {R : Room} {s : State} {m : MethodId} {args : Array Value} {below : List Frame} {meth : Method} {c : Code} {T0 : State} {locs : List Loc} {cells slots : Nat} {Z : State} {a0 : Array Value} {h0 : Heap} (x : Int32) (ar : Addr) (i v : Int32) (cl : Cell) (X0 : Stand p l e R s m args below meth c T0 locs cells slots) (hx : p.tables.exec = Jvm.exec) (hZ : Z.Warmed39 s.vm) (hw : ∀ d ∈ tables_1, d.before a0 Z = true) (hby : c.code = prog_2_method_7_code) (hown : s.vm.findClass "com/example/subsumption/subsumption/IntSet" = some m.cls) (e0 : T0.heap = h0) (Ar : Arr Z h0 ar cl .int) (hin : ¬ (i < 0 ∨ cl.slots.size ≤ i.toNatClampNeg)) (hat : cl.slots[i.toNatClampNeg]? = some (.int v)) (hc18 : v = (0 : Int32)) {target : State} (kt : Steps p.tables e below (T0.setTop (mkF m 37 #[.val (.int x), .val (.ref ar), .val (.int ((4 : Int32) - (1 : Int32))), .val (.int i)] [])) target) : Steps p.tables e below (T0.setTop (mkF m 15 #[.val (.int x), .val (.ref ar), .val (.int ((4 : Int32) - (1 : Int32))), .val (.int i)] [])) target := by
  show Steps p.tables e below (T0.setTop (mkF m 15 #[.val (.int x), .val (.ref ar), .val (.int ((4 : Int32) - (1 : Int32))), .val (.int i)] [])) _
  refine XS.aloadN X0.here hx rfl (hb hby d7_15) rfl rfl ?_
  show Steps p.tables e below (T0.setTop (mkF m 16 #[.val (.int x), .val (.ref ar), .val (.int ((4 : Int32) - (1 : Int32))), .val (.int i)] [(.ref ar)])) _
  refine XS.iloadN X0.here hx rfl (hb hby d7_16) rfl ?_
  show Steps p.tables e below (T0.setTop (mkF m 17 #[.val (.int x), .val (.ref ar), .val (.int ((4 : Int32) - (1 : Int32))), .val (.int i)] [(.int i), (.ref ar)])) _
  refine X0.iaload hx (j := i) (v := (.int v)) (by rw [e0]; exact Ar.1) (State.isArrayOf_alike hZ.alike Ar.2.1) Ar.2.2 hin hat (g := (mkF m 17 #[.val (.int x), .val (.ref ar), .val (.int ((4 : Int32) - (1 : Int32))), .val (.int i)] [(.int i), (.ref ar)])) rfl rfl (hb hby d7_17) _ ?_
  show Steps p.tables e below (T0.setTop (mkF m 18 #[.val (.int x), .val (.ref ar), .val (.int ((4 : Int32) - (1 : Int32))), .val (.int i)] [(.int v)])) _
  refine XS.ifYes X0.here hx rfl (pc0 := 18) (pc' := 37) rfl (hb hby d7_18) rfl ((if0 _ _).trans (teq hc18).1) (by decide) (by decide) ?_
  exact kt
set_option maxRecDepth 65536 in
set_option maxHeartbeats 40000000 in
theorem lvX7_4 {p : Program} {l : Launch} {e : Env} {R : Room} {s : State} {m : MethodId} {args : Array Value} {below : List Frame} {meth : Method} {c : Code} {T0 : State} {locs : List Loc} {cells slots : Nat} {Z : State} {a0 : Array Value} {h0 : Heap} (x : Int32) (ar : Addr) (i v : Int32) (cl : Cell) (X0 : Stand p l e R s m args below meth c T0 locs cells slots) (hx : p.tables.exec = Jvm.exec) (hZ : Z.Warmed39 s.vm) (hw : ∀ d ∈ tables_1, d.before a0 Z = true) (hby : c.code = prog_2_method_7_code) (hown : s.vm.findClass "com/example/subsumption/subsumption/IntSet" = some m.cls) (e0 : T0.heap = h0) (Ar : Arr Z h0 ar cl .int) (hin : ¬ (i < 0 ∨ cl.slots.size ≤ i.toNatClampNeg)) (hat : cl.slots[i.toNatClampNeg]? = some (.int v)) (hc18 : ¬ (v = (0 : Int32))) (hc25 : v = x) {target : State} (kt : Steps p.tables e below (T0.setTop (mkF m 37 #[.val (.int x), .val (.ref ar), .val (.int ((4 : Int32) - (1 : Int32))), .val (.int i)] [])) target) : Steps p.tables e below (T0.setTop (mkF m 15 #[.val (.int x), .val (.ref ar), .val (.int ((4 : Int32) - (1 : Int32))), .val (.int i)] [])) target := by
  show Steps p.tables e below (T0.setTop (mkF m 15 #[.val (.int x), .val (.ref ar), .val (.int ((4 : Int32) - (1 : Int32))), .val (.int i)] [])) _
  refine XS.aloadN X0.here hx rfl (hb hby d7_15) rfl rfl ?_
  show Steps p.tables e below (T0.setTop (mkF m 16 #[.val (.int x), .val (.ref ar), .val (.int ((4 : Int32) - (1 : Int32))), .val (.int i)] [(.ref ar)])) _
  refine XS.iloadN X0.here hx rfl (hb hby d7_16) rfl ?_
  show Steps p.tables e below (T0.setTop (mkF m 17 #[.val (.int x), .val (.ref ar), .val (.int ((4 : Int32) - (1 : Int32))), .val (.int i)] [(.int i), (.ref ar)])) _
  refine X0.iaload hx (j := i) (v := (.int v)) (by rw [e0]; exact Ar.1) (State.isArrayOf_alike hZ.alike Ar.2.1) Ar.2.2 hin hat (g := (mkF m 17 #[.val (.int x), .val (.ref ar), .val (.int ((4 : Int32) - (1 : Int32))), .val (.int i)] [(.int i), (.ref ar)])) rfl rfl (hb hby d7_17) _ ?_
  show Steps p.tables e below (T0.setTop (mkF m 18 #[.val (.int x), .val (.ref ar), .val (.int ((4 : Int32) - (1 : Int32))), .val (.int i)] [(.int v)])) _
  refine XS.ifNo X0.here hx rfl (hb hby d7_18) rfl ((if0 _ _).trans (feq hc18).1) ?_
  show Steps p.tables e below (T0.setTop (mkF m 21 #[.val (.int x), .val (.ref ar), .val (.int ((4 : Int32) - (1 : Int32))), .val (.int i)] [])) _
  refine XS.aloadN X0.here hx rfl (hb hby d7_21) rfl rfl ?_
  show Steps p.tables e below (T0.setTop (mkF m 22 #[.val (.int x), .val (.ref ar), .val (.int ((4 : Int32) - (1 : Int32))), .val (.int i)] [(.ref ar)])) _
  refine XS.iloadN X0.here hx rfl (hb hby d7_22) rfl ?_
  show Steps p.tables e below (T0.setTop (mkF m 23 #[.val (.int x), .val (.ref ar), .val (.int ((4 : Int32) - (1 : Int32))), .val (.int i)] [(.int i), (.ref ar)])) _
  refine X0.iaload hx (j := i) (v := (.int v)) (by rw [e0]; exact Ar.1) (State.isArrayOf_alike hZ.alike Ar.2.1) Ar.2.2 hin hat (g := (mkF m 23 #[.val (.int x), .val (.ref ar), .val (.int ((4 : Int32) - (1 : Int32))), .val (.int i)] [(.int i), (.ref ar)])) rfl rfl (hb hby d7_23) _ ?_
  show Steps p.tables e below (T0.setTop (mkF m 24 #[.val (.int x), .val (.ref ar), .val (.int ((4 : Int32) - (1 : Int32))), .val (.int i)] [(.int v)])) _
  refine XS.iloadN X0.here hx rfl (hb hby d7_24) rfl ?_
  show Steps p.tables e below (T0.setTop (mkF m 25 #[.val (.int x), .val (.ref ar), .val (.int ((4 : Int32) - (1 : Int32))), .val (.int i)] [(.int x), (.int v)])) _
  refine XS.icmpYes X0.here hx rfl (pc0 := 25) (pc' := 37) rfl (hb hby d7_25) rfl (teq hc25).1 (by decide) (by decide) ?_
  exact kt
theorem loop7_4 {p : Program} {l : Launch} {e : Env} {R : Room} {s : State} {m : MethodId} {args : Array Value} {below : List Frame} {meth : Method} {c : Code} {T0 : State} {locs : List Loc} {cells slots : Nat} {Z : State} {a0 : Array Value} {h0 : Heap} (x : Int32) (ar : Addr) (ka : ClassId) (vs : List Int32) (d : Nat) (X0 : Stand p l e R s m args below meth c T0 locs cells slots) (hx : p.tables.exec = Jvm.exec) (hZ : Z.Warmed39 s.vm) (hw : ∀ d ∈ tables_1, d.before a0 Z = true) (hby : c.code = prog_2_method_7_code) (hown : s.vm.findClass "com/example/subsumption/subsumption/IntSet" = some m.cls) (e0 : T0.heap = h0) (V : Arv Z h0 ar ka .int (4 : Int32) (vs.map Value.int) (.int (0 : Int32))) (hh : Hit 4 vs x d) :
    ∀ (k e' : Nat), e' + k = d → ∀ {target : State}, Steps p.tables e below (T0.setTop (mkF m 37 #[.val (.int x), .val (.ref ar), .val (.int ((4 : Int32) - (1 : Int32))), .val (.int (Int32.ofNat ((own_hash 4 x + d) % 4)))] [])) target → Steps p.tables e below (T0.setTop (mkF m 15 #[.val (.int x), .val (.ref ar), .val (.int ((4 : Int32) - (1 : Int32))), .val (.int (Int32.ofNat ((own_hash 4 x + e') % 4)))] [])) target := by
  obtain ⟨cl, Ar, -, S, -, H, -⟩ := V
  have hm : ∀ q, (own_hash 4 x + q) % 4 < 4 := fun q => Nat.mod_lt _ (by decide)
  have hin : ∀ q, ¬ ((Int32.ofNat ((own_hash 4 x + q) % 4)) < 0 ∨ cl.slots.size ≤ ((Int32.ofNat ((own_hash 4 x + q) % 4))).toNatClampNeg) := fun q => inb_of S ⟨own_nn (by have := hm q; omega), (own_lt (j := 4) (by have := hm q; omega) (by omega)).mpr (hm q)⟩
  have hat : ∀ q, cl.slots[((Int32.ofNat ((own_hash 4 x + q) % 4))).toNatClampNeg]? = some (.int (own_at 4 vs x q)) := fun q => H.at (hin q) (by rw [own_natC (by have := hm q; omega)]; exact own_getI vs _)
  intro k
  induction k with
  | zero =>
    intro e' he target kt
    obtain rfl : e' = d := by omega
    rcases hh.2.2 with q | q
    · exact lvZ7_4 x ar _ _ cl X0 hx hZ hw hby hown e0 Ar (hin e') (hat e') q kt
    · by_cases q0 : own_at 4 vs x e' = 0
      · exact lvZ7_4 x ar _ _ cl X0 hx hZ hw hby hown e0 Ar (hin e') (hat e') q0 kt
      · exact lvX7_4 x ar _ _ cl X0 hx hZ hw hby hown e0 Ar (hin e') (hat e') q0 q kt
  | succ k ih =>
    intro e' he target kt
    obtain ⟨q1, q2⟩ := hh.2.1 e' (by omega)
    refine turn7_4 x ar _ _ cl X0 hx hZ hw hby hown e0 Ar (hin e') (hat e') q1 q2 ?_
    rw [own_wrap4 ⟨(own_hash 4 x + e') % 4, hm e'⟩, Nat.mod_add_mod, Nat.add_assoc]
    exact ih (e' + 1) (by omega) kt
theorem d7_0 : decode prog_2_method_7_code 0 = .ok (.aload_n 1, 1) := by decide +kernel
theorem d7_1 : decode prog_2_method_7_code 1 = .ok (.arraylength, 1) := by decide +kernel
theorem d7_2 : decode prog_2_method_7_code 2 = .ok (.iconst 1, 1) := by decide +kernel
theorem d7_3 : decode prog_2_method_7_code 3 = .ok (.isub, 1) := by decide +kernel
theorem d7_4 : decode prog_2_method_7_code 4 = .ok (.istore_n 2, 1) := by decide +kernel
theorem d7_5 : decode prog_2_method_7_code 5 = .ok (.iload_n 0, 1) := by decide +kernel
theorem d7_6 : decode prog_2_method_7_code 6 = .ok (.ldc 42, 2) := by decide +kernel
theorem d7_8 : decode prog_2_method_7_code 8 = .ok (.imul, 1) := by decide +kernel
theorem d7_9 : decode prog_2_method_7_code 9 = .ok (.iload_n 2, 1) := by decide +kernel
theorem d7_10 : decode prog_2_method_7_code 10 = .ok (.invokestatic 43, 3) := by decide +kernel
theorem d7_13 : decode prog_2_method_7_code 13 = .ok (.iushr, 1) := by decide +kernel
theorem d7_14 : decode prog_2_method_7_code 14 = .ok (.istore_n 3, 1) := by decide +kernel
theorem d7_37 : decode prog_2_method_7_code 37 = .ok (.iload_n 3, 1) := by decide +kernel
theorem d7_38 : decode prog_2_method_7_code 38 = .ok (.ireturn, 1) := by decide +kernel
theorem pd__I_I : parseMethodDescriptor "(I)I" = some ⟨[.int], some .int⟩ := by decide +kernel
theorem pn_com_example_subsumption_subsumption_IntSet : plainName "com/example/subsumption/subsumption/IntSet" = true := by first | (simp [plainName, overriddenIn]; done) | decide +kernel
theorem ef_7 (m : MethodId) (x0 : Int32) (x1 : Addr) : entryFrame m #[(.int x0), (.ref x1)] 4 = mkF m 0 #[.val (.int x0), .val (.ref x1), .unset, .unset] [] := by first | (simp [entryFrame, mkF, argsToLocals, Value.category]; done) | rfl
def Q7 (r : Int32) (h0 : Heap) (n0 : Nat) (v : Option Value) (h : Heap) (L : List Loc) : Prop := v = some (.int r) ∧ Fr n0 L ∧ h = h0
set_option maxRecDepth 65536 in
set_option maxHeartbeats 40000000 in
theorem rm7_4 (l : Launch) (Z : State) (a0 : Array Value) (hw : ∀ d ∈ tables_1, d.before a0 Z = true) (ws : List Jvm.Cond) (x : Int32) (ar : Addr) (ka : ClassId) (vs : List Int32) (d : Nat) (h0 : Heap) (n0 : Nat) (Z0 : n0 ≤ h0.size) (V : Arv Z h0 ar ka .int (4 : Int32) (vs.map Value.int) (.int (0 : Int32))) (hh : Hit 4 vs x d)  :
    MetFree l (⟨"com/example/subsumption/subsumption/IntSet", "slotOf", "(I[I)I"⟩ : MethodName) (head1 (Jvm.Cond.code (⟨"com/example/subsumption/subsumption/IntSet", "slotOf", "(I[I)I"⟩ : MethodName) prog_2_method_7_code 4 (some .int) :: ws) ({ frames := 1, cells := 0, slots := 0, locals := 14 } : Room)) (fun a U => a = #[(.int x), (.ref ar)] ∧ Z.Warmed39 U.vm ∧ U.heap = h0) (fun _ _ _ _ _ => True) (fun _ U o U' => ∃ v L, o = .returned v ∧ Q7 (Int32.ofNat ((own_hash 4 x + d) % 4)) h0 n0 v U'.heap L ∧ FrameEnd U o U' L ({ frames := 1, cells := 0, slots := 0, locals := 14 } : Room).cells ({ frames := 1, cells := 0, slots := 0, locals := 14 } : Room).slots) := by
  refine MetFree.of_bodySF (plainFor_of_name pn_com_example_subsumption_subsumption_IntSet) hisR ?_
  intro p e s m args below meth cd s₁ Bd hml0 hPre hKc
  obtain ⟨rfl, hZ, hHp⟩ := hPre
  have hx := Bd.exec
  have hby := Bd.bytes
  have hml : cd.maxLocals = 4 := hml0
  have hown : s.vm.findClass "com/example/subsumption/subsumption/IntSet" = some m.cls := findClass_of_methodNamed Bd.named
  have hnm := (name_of_methodNamed Bd.named Bd.method).1
  have X0 : Stand p l e ({ frames := 1, cells := 0, slots := 0, locals := 14 } : Room) s m #[(.int x), (.ref ar)] below meth cd s₁ [] 0 0 := Stand.of_body Bd
  have e0 : s₁.heap = h0 := by rw [← hHp, Bd.state]; rfl
  have N0 := Fr.nil n0
  have pre0 : ∀ t, Steps p.tables e below (s₁.setTop (mkF m 0 #[.val (.int x), .val (.ref ar), .unset, .unset] [])) t → Steps p.tables e below (s₁.setTop (entryFrame m #[(.int x), (.ref ar)] 4)) t := fun t kz => castTop (ef_7 m x ar) kz
  obtain ⟨clL, ArL, -, SL, ML, -, -⟩ := (id V)
  obtain ⟨_, _, ⟨T1, L1, k1, n1⟩, -, X1, ⟨Lc1, hQ1, l1, y1, z1⟩, st1⟩ := Jvm.LawKit.callS X0 hx (y := (⟨"java/lang/Integer", "numberOfLeadingZeros", "(I)I"⟩ : MethodName)) hown (mvT hZ (hw _ (List.mem_of_getElem? (i := 34) rfl))) (mvT hZ (hw _ (List.mem_of_getElem? (i := 35) rfl))) (mvT hZ (hw _ (List.mem_of_getElem? (i := 36) rfl))) (mvT hZ (hw _ (List.mem_of_getElem? (i := 37) rfl))) (by decide) (backOf (W := 1) (rm8_4 l Z a0 hw [] h0 n0 Z0) hZ (hw _ (List.mem_of_getElem? (i := 37) rfl)) (hw _ (List.mem_of_getElem? (i := 36) rfl)) (by decide) (by decide)) (g := (mkF m 10 #[.val (.int x), .val (.ref ar), .val (.int ((4 : Int32) - (1 : Int32))), .unset] [(.int ((4 : Int32) - (1 : Int32))), (.int (x * (-1640531527 : Int32)))])) rfl (by rw [hml]; rfl) (argsL := [(.int ((4 : Int32) - (1 : Int32)))]) (rest := [(.int (x * (-1640531527 : Int32)))]) (lenOf pd__I_I rfl) rfl (by show 2 * 0 + _ ≤ _; exact Nat.le_of_eq rfl) (hb hby d7_10) (fun _ _ => ⟨rfl, e0, (Nat.le_of_ble_eq_true rfl), (Nat.le_of_ble_eq_true rfl)⟩)
  dsimp only [Pt.U, Pt.locs, Pt.cells, Pt.slots] at X1 l1 y1 z1 st1 hQ1
  subst l1 y1 z1
  obtain ⟨rfl, N1q, e1⟩ := hQ1
  have N1 := Fr.app N0 N1q
  obtain ⟨fs, hr, hrun, hended, hW, hsame⟩ := X1.leave (v := some (.int (Int32.ofNat ((own_hash 4 x + d) % 4)))) (fun h => by rw [Bd.returns] at h; cases h)
  refine ⟨_, _, pre0 _ ?_, hrun, hended, _, _, rfl, ?_, ⟨_, rfl⟩, hW, hsame.mono (by decide) (by decide)⟩
  · show Steps p.tables e below (s₁.setTop (mkF m 0 #[.val (.int x), .val (.ref ar), .unset, .unset] [])) _
    refine XS.aloadN X0.here hx rfl (hb hby d7_0) rfl rfl ?_
    show Steps p.tables e below (s₁.setTop (mkF m 1 #[.val (.int x), .val (.ref ar), .unset, .unset] [(.ref ar)])) _
    refine X0.arraylength hx (by rw [e0]; exact ArL.1) (State.isArrayOf_alike hZ.alike ArL.2.1) (g := (mkF m 1 #[.val (.int x), .val (.ref ar), .unset, .unset] [(.ref ar)])) rfl rfl (hb hby d7_1) _ ?_
    rw [len_of SL ML]
    show Steps p.tables e below (s₁.setTop (mkF m 2 #[.val (.int x), .val (.ref ar), .unset, .unset] [(.int (4 : Int32))])) _
    refine XS.iconst X0.here hx rfl (hb hby d7_2) ?_
    show Steps p.tables e below (s₁.setTop (mkF m 3 #[.val (.int x), .val (.ref ar), .unset, .unset] [(.int (1 : Int32)), (.int (4 : Int32))])) _
    refine XS.isub X0.here hx rfl (hb hby d7_3) rfl ?_
    show Steps p.tables e below (s₁.setTop (mkF m 4 #[.val (.int x), .val (.ref ar), .unset, .unset] [(.int ((4 : Int32) - (1 : Int32)))])) _
    refine XS.istoreN X0.here hx rfl (hb hby d7_4) rfl (l' := #[.val (.int x), .val (.ref ar), .val (.int ((4 : Int32) - (1 : Int32))), .unset]) rfl ?_
    show Steps p.tables e below (s₁.setTop (mkF m 5 #[.val (.int x), .val (.ref ar), .val (.int ((4 : Int32) - (1 : Int32))), .unset] [])) _
    refine XS.iloadN X0.here hx rfl (hb hby d7_5) rfl ?_
    show Steps p.tables e below (s₁.setTop (mkF m 6 #[.val (.int x), .val (.ref ar), .val (.int ((4 : Int32) - (1 : Int32))), .unset] [(.int x)])) _
    refine X0.ldcInt hx hown (mvT hZ (hw _ (List.mem_of_getElem? (i := 33) rfl))) (g := (mkF m 6 #[.val (.int x), .val (.ref ar), .val (.int ((4 : Int32) - (1 : Int32))), .unset] [(.int x)])) rfl (hb hby d7_6) _ ?_
    show Steps p.tables e below (s₁.setTop (mkF m 8 #[.val (.int x), .val (.ref ar), .val (.int ((4 : Int32) - (1 : Int32))), .unset] [(.int (-1640531527 : Int32)), (.int x)])) _
    refine XS.imul X0.here hx rfl (hb hby d7_8) rfl ?_
    show Steps p.tables e below (s₁.setTop (mkF m 9 #[.val (.int x), .val (.ref ar), .val (.int ((4 : Int32) - (1 : Int32))), .unset] [(.int (x * (-1640531527 : Int32)))])) _
    refine XS.iloadN X0.here hx rfl (hb hby d7_9) rfl ?_
    show Steps p.tables e below (s₁.setTop (mkF m 10 #[.val (.int x), .val (.ref ar), .val (.int ((4 : Int32) - (1 : Int32))), .unset] [(.int ((4 : Int32) - (1 : Int32))), (.int (x * (-1640531527 : Int32)))])) _
    refine st1 _ ?_
    show Steps p.tables e below (T1.setTop (mkF m 13 #[.val (.int x), .val (.ref ar), .val (.int ((4 : Int32) - (1 : Int32))), .unset] [(.int (30 : Int32)), (.int (x * (-1640531527 : Int32)))])) _
    refine XS.iushr X1.here hx rfl (hb hby d7_13) rfl ?_
    show Steps p.tables e below (T1.setTop (mkF m 14 #[.val (.int x), .val (.ref ar), .val (.int ((4 : Int32) - (1 : Int32))), .unset] [(.int (((x * (-1640531527 : Int32)).toUInt32 >>> ((30 : Int32) &&& 31).toUInt32).toInt32))])) _
    rw [own_hI4]
    show Steps p.tables e below (T1.setTop (mkF m 14 #[.val (.int x), .val (.ref ar), .val (.int ((4 : Int32) - (1 : Int32))), .unset] [(.int (Int32.ofNat (own_h4 x)))])) _
    refine XS.istoreN X1.here hx rfl (hb hby d7_14) rfl (l' := #[.val (.int x), .val (.ref ar), .val (.int ((4 : Int32) - (1 : Int32))), .val (.int (Int32.ofNat (own_h4 x)))]) rfl ?_
    show Steps p.tables e below (T1.setTop (mkF m 15 #[.val (.int x), .val (.ref ar), .val (.int ((4 : Int32) - (1 : Int32))), .val (.int (Int32.ofNat (own_h4 x)))] [])) _
    rw [own_st4 x]
    show Steps p.tables e below (T1.setTop (mkF m 15 #[.val (.int x), .val (.ref ar), .val (.int ((4 : Int32) - (1 : Int32))), .val (.int (Int32.ofNat ((own_hash 4 x + 0) % 4)))] [])) _
    refine loop7_4 x ar ka vs d X1 hx hZ hw hby hown e1 V hh d 0 (Nat.zero_add d) ?_
    show Steps p.tables e below (T1.setTop (mkF m 37 #[.val (.int x), .val (.ref ar), .val (.int ((4 : Int32) - (1 : Int32))), .val (.int (Int32.ofNat ((own_hash 4 x + d) % 4)))] [])) _
    refine XS.iloadN X1.here hx rfl (hb hby d7_37) rfl ?_
    show Steps p.tables e below (T1.setTop (mkF m 38 #[.val (.int x), .val (.ref ar), .val (.int ((4 : Int32) - (1 : Int32))), .val (.int (Int32.ofNat ((own_hash 4 x + d) % 4)))] [(.int (Int32.ofNat ((own_hash 4 x + d) % 4)))])) _
    exact retI X1 hx Bd.returns (hb hby d7_38) hr
  · show Q7 (Int32.ofNat ((own_hash 4 x + d) % 4)) h0 n0 _ T1.heap _
    rw [e1]
    exact ⟨rfl, N1, rfl⟩
set_option maxRecDepth 65536 in
set_option maxHeartbeats 40000000 in
theorem turn7_8 {p : Program} {l : Launch} {e : Env} {R : Room} {s : State} {m : MethodId} {args : Array Value} {below : List Frame} {meth : Method} {c : Code} {T0 : State} {locs : List Loc} {cells slots : Nat} {Z : State} {a0 : Array Value} {h0 : Heap} (x : Int32) (ar : Addr) (i v : Int32) (cl : Cell) (X0 : Stand p l e R s m args below meth c T0 locs cells slots) (hx : p.tables.exec = Jvm.exec) (hZ : Z.Warmed39 s.vm) (hw : ∀ d ∈ tables_1, d.before a0 Z = true) (hby : c.code = prog_2_method_7_code) (hown : s.vm.findClass "com/example/subsumption/subsumption/IntSet" = some m.cls) (e0 : T0.heap = h0) (Ar : Arr Z h0 ar cl .int) (hin : ¬ (i < 0 ∨ cl.slots.size ≤ i.toNatClampNeg)) (hat : cl.slots[i.toNatClampNeg]? = some (.int v)) (hc18 : ¬ (v = (0 : Int32))) (hc25 : ¬ (v = x)) {target : State} (kt : Steps p.tables e below (T0.setTop (mkF m 15 #[.val (.int x), .val (.ref ar), .val (.int ((8 : Int32) - (1 : Int32))), .val (.int ((i + (1 : Int32)) &&& ((8 : Int32) - (1 : Int32))))] [])) target) : Steps p.tables e below (T0.setTop (mkF m 15 #[.val (.int x), .val (.ref ar), .val (.int ((8 : Int32) - (1 : Int32))), .val (.int i)] [])) target := by
  show Steps p.tables e below (T0.setTop (mkF m 15 #[.val (.int x), .val (.ref ar), .val (.int ((8 : Int32) - (1 : Int32))), .val (.int i)] [])) _
  refine XS.aloadN X0.here hx rfl (hb hby d7_15) rfl rfl ?_
  show Steps p.tables e below (T0.setTop (mkF m 16 #[.val (.int x), .val (.ref ar), .val (.int ((8 : Int32) - (1 : Int32))), .val (.int i)] [(.ref ar)])) _
  refine XS.iloadN X0.here hx rfl (hb hby d7_16) rfl ?_
  show Steps p.tables e below (T0.setTop (mkF m 17 #[.val (.int x), .val (.ref ar), .val (.int ((8 : Int32) - (1 : Int32))), .val (.int i)] [(.int i), (.ref ar)])) _
  refine X0.iaload hx (j := i) (v := (.int v)) (by rw [e0]; exact Ar.1) (State.isArrayOf_alike hZ.alike Ar.2.1) Ar.2.2 hin hat (g := (mkF m 17 #[.val (.int x), .val (.ref ar), .val (.int ((8 : Int32) - (1 : Int32))), .val (.int i)] [(.int i), (.ref ar)])) rfl rfl (hb hby d7_17) _ ?_
  show Steps p.tables e below (T0.setTop (mkF m 18 #[.val (.int x), .val (.ref ar), .val (.int ((8 : Int32) - (1 : Int32))), .val (.int i)] [(.int v)])) _
  refine XS.ifNo X0.here hx rfl (hb hby d7_18) rfl ((if0 _ _).trans (feq hc18).1) ?_
  show Steps p.tables e below (T0.setTop (mkF m 21 #[.val (.int x), .val (.ref ar), .val (.int ((8 : Int32) - (1 : Int32))), .val (.int i)] [])) _
  refine XS.aloadN X0.here hx rfl (hb hby d7_21) rfl rfl ?_
  show Steps p.tables e below (T0.setTop (mkF m 22 #[.val (.int x), .val (.ref ar), .val (.int ((8 : Int32) - (1 : Int32))), .val (.int i)] [(.ref ar)])) _
  refine XS.iloadN X0.here hx rfl (hb hby d7_22) rfl ?_
  show Steps p.tables e below (T0.setTop (mkF m 23 #[.val (.int x), .val (.ref ar), .val (.int ((8 : Int32) - (1 : Int32))), .val (.int i)] [(.int i), (.ref ar)])) _
  refine X0.iaload hx (j := i) (v := (.int v)) (by rw [e0]; exact Ar.1) (State.isArrayOf_alike hZ.alike Ar.2.1) Ar.2.2 hin hat (g := (mkF m 23 #[.val (.int x), .val (.ref ar), .val (.int ((8 : Int32) - (1 : Int32))), .val (.int i)] [(.int i), (.ref ar)])) rfl rfl (hb hby d7_23) _ ?_
  show Steps p.tables e below (T0.setTop (mkF m 24 #[.val (.int x), .val (.ref ar), .val (.int ((8 : Int32) - (1 : Int32))), .val (.int i)] [(.int v)])) _
  refine XS.iloadN X0.here hx rfl (hb hby d7_24) rfl ?_
  show Steps p.tables e below (T0.setTop (mkF m 25 #[.val (.int x), .val (.ref ar), .val (.int ((8 : Int32) - (1 : Int32))), .val (.int i)] [(.int x), (.int v)])) _
  refine XS.icmpNo X0.here hx rfl (hb hby d7_25) rfl (feq hc25).1 ?_
  show Steps p.tables e below (T0.setTop (mkF m 28 #[.val (.int x), .val (.ref ar), .val (.int ((8 : Int32) - (1 : Int32))), .val (.int i)] [])) _
  refine XS.iloadN X0.here hx rfl (hb hby d7_28) rfl ?_
  show Steps p.tables e below (T0.setTop (mkF m 29 #[.val (.int x), .val (.ref ar), .val (.int ((8 : Int32) - (1 : Int32))), .val (.int i)] [(.int i)])) _
  refine XS.iconst X0.here hx rfl (hb hby d7_29) ?_
  show Steps p.tables e below (T0.setTop (mkF m 30 #[.val (.int x), .val (.ref ar), .val (.int ((8 : Int32) - (1 : Int32))), .val (.int i)] [(.int (1 : Int32)), (.int i)])) _
  refine XS.iadd X0.here hx rfl (hb hby d7_30) rfl ?_
  show Steps p.tables e below (T0.setTop (mkF m 31 #[.val (.int x), .val (.ref ar), .val (.int ((8 : Int32) - (1 : Int32))), .val (.int i)] [(.int (i + (1 : Int32)))])) _
  refine XS.iloadN X0.here hx rfl (hb hby d7_31) rfl ?_
  show Steps p.tables e below (T0.setTop (mkF m 32 #[.val (.int x), .val (.ref ar), .val (.int ((8 : Int32) - (1 : Int32))), .val (.int i)] [(.int ((8 : Int32) - (1 : Int32))), (.int (i + (1 : Int32)))])) _
  refine XS.iand X0.here hx rfl (hb hby d7_32) rfl ?_
  show Steps p.tables e below (T0.setTop (mkF m 33 #[.val (.int x), .val (.ref ar), .val (.int ((8 : Int32) - (1 : Int32))), .val (.int i)] [(.int ((i + (1 : Int32)) &&& ((8 : Int32) - (1 : Int32))))])) _
  refine XS.istoreN X0.here hx rfl (hb hby d7_33) rfl (l' := #[.val (.int x), .val (.ref ar), .val (.int ((8 : Int32) - (1 : Int32))), .val (.int ((i + (1 : Int32)) &&& ((8 : Int32) - (1 : Int32))))]) rfl ?_
  show Steps p.tables e below (T0.setTop (mkF m 34 #[.val (.int x), .val (.ref ar), .val (.int ((8 : Int32) - (1 : Int32))), .val (.int ((i + (1 : Int32)) &&& ((8 : Int32) - (1 : Int32))))] [])) _
  refine XS.goto X0.here hx rfl (pc0 := 34) (pc' := 15) rfl (hb hby d7_34) (by decide) (by decide) ?_
  exact kt
set_option maxRecDepth 65536 in
set_option maxHeartbeats 40000000 in
theorem lvZ7_8 {p : Program} {l : Launch} {e : Env} {R : Room} {s : State} {m : MethodId} {args : Array Value} {below : List Frame} {meth : Method} {c : Code} {T0 : State} {locs : List Loc} {cells slots : Nat} {Z : State} {a0 : Array Value} {h0 : Heap} (x : Int32) (ar : Addr) (i v : Int32) (cl : Cell) (X0 : Stand p l e R s m args below meth c T0 locs cells slots) (hx : p.tables.exec = Jvm.exec) (hZ : Z.Warmed39 s.vm) (hw : ∀ d ∈ tables_1, d.before a0 Z = true) (hby : c.code = prog_2_method_7_code) (hown : s.vm.findClass "com/example/subsumption/subsumption/IntSet" = some m.cls) (e0 : T0.heap = h0) (Ar : Arr Z h0 ar cl .int) (hin : ¬ (i < 0 ∨ cl.slots.size ≤ i.toNatClampNeg)) (hat : cl.slots[i.toNatClampNeg]? = some (.int v)) (hc18 : v = (0 : Int32)) {target : State} (kt : Steps p.tables e below (T0.setTop (mkF m 37 #[.val (.int x), .val (.ref ar), .val (.int ((8 : Int32) - (1 : Int32))), .val (.int i)] [])) target) : Steps p.tables e below (T0.setTop (mkF m 15 #[.val (.int x), .val (.ref ar), .val (.int ((8 : Int32) - (1 : Int32))), .val (.int i)] [])) target := by
  show Steps p.tables e below (T0.setTop (mkF m 15 #[.val (.int x), .val (.ref ar), .val (.int ((8 : Int32) - (1 : Int32))), .val (.int i)] [])) _
  refine XS.aloadN X0.here hx rfl (hb hby d7_15) rfl rfl ?_
  show Steps p.tables e below (T0.setTop (mkF m 16 #[.val (.int x), .val (.ref ar), .val (.int ((8 : Int32) - (1 : Int32))), .val (.int i)] [(.ref ar)])) _
  refine XS.iloadN X0.here hx rfl (hb hby d7_16) rfl ?_
  show Steps p.tables e below (T0.setTop (mkF m 17 #[.val (.int x), .val (.ref ar), .val (.int ((8 : Int32) - (1 : Int32))), .val (.int i)] [(.int i), (.ref ar)])) _
  refine X0.iaload hx (j := i) (v := (.int v)) (by rw [e0]; exact Ar.1) (State.isArrayOf_alike hZ.alike Ar.2.1) Ar.2.2 hin hat (g := (mkF m 17 #[.val (.int x), .val (.ref ar), .val (.int ((8 : Int32) - (1 : Int32))), .val (.int i)] [(.int i), (.ref ar)])) rfl rfl (hb hby d7_17) _ ?_
  show Steps p.tables e below (T0.setTop (mkF m 18 #[.val (.int x), .val (.ref ar), .val (.int ((8 : Int32) - (1 : Int32))), .val (.int i)] [(.int v)])) _
  refine XS.ifYes X0.here hx rfl (pc0 := 18) (pc' := 37) rfl (hb hby d7_18) rfl ((if0 _ _).trans (teq hc18).1) (by decide) (by decide) ?_
  exact kt
set_option maxRecDepth 65536 in
set_option maxHeartbeats 40000000 in
theorem lvX7_8 {p : Program} {l : Launch} {e : Env} {R : Room} {s : State} {m : MethodId} {args : Array Value} {below : List Frame} {meth : Method} {c : Code} {T0 : State} {locs : List Loc} {cells slots : Nat} {Z : State} {a0 : Array Value} {h0 : Heap} (x : Int32) (ar : Addr) (i v : Int32) (cl : Cell) (X0 : Stand p l e R s m args below meth c T0 locs cells slots) (hx : p.tables.exec = Jvm.exec) (hZ : Z.Warmed39 s.vm) (hw : ∀ d ∈ tables_1, d.before a0 Z = true) (hby : c.code = prog_2_method_7_code) (hown : s.vm.findClass "com/example/subsumption/subsumption/IntSet" = some m.cls) (e0 : T0.heap = h0) (Ar : Arr Z h0 ar cl .int) (hin : ¬ (i < 0 ∨ cl.slots.size ≤ i.toNatClampNeg)) (hat : cl.slots[i.toNatClampNeg]? = some (.int v)) (hc18 : ¬ (v = (0 : Int32))) (hc25 : v = x) {target : State} (kt : Steps p.tables e below (T0.setTop (mkF m 37 #[.val (.int x), .val (.ref ar), .val (.int ((8 : Int32) - (1 : Int32))), .val (.int i)] [])) target) : Steps p.tables e below (T0.setTop (mkF m 15 #[.val (.int x), .val (.ref ar), .val (.int ((8 : Int32) - (1 : Int32))), .val (.int i)] [])) target := by
  show Steps p.tables e below (T0.setTop (mkF m 15 #[.val (.int x), .val (.ref ar), .val (.int ((8 : Int32) - (1 : Int32))), .val (.int i)] [])) _
  refine XS.aloadN X0.here hx rfl (hb hby d7_15) rfl rfl ?_
  show Steps p.tables e below (T0.setTop (mkF m 16 #[.val (.int x), .val (.ref ar), .val (.int ((8 : Int32) - (1 : Int32))), .val (.int i)] [(.ref ar)])) _
  refine XS.iloadN X0.here hx rfl (hb hby d7_16) rfl ?_
  show Steps p.tables e below (T0.setTop (mkF m 17 #[.val (.int x), .val (.ref ar), .val (.int ((8 : Int32) - (1 : Int32))), .val (.int i)] [(.int i), (.ref ar)])) _
  refine X0.iaload hx (j := i) (v := (.int v)) (by rw [e0]; exact Ar.1) (State.isArrayOf_alike hZ.alike Ar.2.1) Ar.2.2 hin hat (g := (mkF m 17 #[.val (.int x), .val (.ref ar), .val (.int ((8 : Int32) - (1 : Int32))), .val (.int i)] [(.int i), (.ref ar)])) rfl rfl (hb hby d7_17) _ ?_
  show Steps p.tables e below (T0.setTop (mkF m 18 #[.val (.int x), .val (.ref ar), .val (.int ((8 : Int32) - (1 : Int32))), .val (.int i)] [(.int v)])) _
  refine XS.ifNo X0.here hx rfl (hb hby d7_18) rfl ((if0 _ _).trans (feq hc18).1) ?_
  show Steps p.tables e below (T0.setTop (mkF m 21 #[.val (.int x), .val (.ref ar), .val (.int ((8 : Int32) - (1 : Int32))), .val (.int i)] [])) _
  refine XS.aloadN X0.here hx rfl (hb hby d7_21) rfl rfl ?_
  show Steps p.tables e below (T0.setTop (mkF m 22 #[.val (.int x), .val (.ref ar), .val (.int ((8 : Int32) - (1 : Int32))), .val (.int i)] [(.ref ar)])) _
  refine XS.iloadN X0.here hx rfl (hb hby d7_22) rfl ?_
  show Steps p.tables e below (T0.setTop (mkF m 23 #[.val (.int x), .val (.ref ar), .val (.int ((8 : Int32) - (1 : Int32))), .val (.int i)] [(.int i), (.ref ar)])) _
  refine X0.iaload hx (j := i) (v := (.int v)) (by rw [e0]; exact Ar.1) (State.isArrayOf_alike hZ.alike Ar.2.1) Ar.2.2 hin hat (g := (mkF m 23 #[.val (.int x), .val (.ref ar), .val (.int ((8 : Int32) - (1 : Int32))), .val (.int i)] [(.int i), (.ref ar)])) rfl rfl (hb hby d7_23) _ ?_
  show Steps p.tables e below (T0.setTop (mkF m 24 #[.val (.int x), .val (.ref ar), .val (.int ((8 : Int32) - (1 : Int32))), .val (.int i)] [(.int v)])) _
  refine XS.iloadN X0.here hx rfl (hb hby d7_24) rfl ?_
  show Steps p.tables e below (T0.setTop (mkF m 25 #[.val (.int x), .val (.ref ar), .val (.int ((8 : Int32) - (1 : Int32))), .val (.int i)] [(.int x), (.int v)])) _
  refine XS.icmpYes X0.here hx rfl (pc0 := 25) (pc' := 37) rfl (hb hby d7_25) rfl (teq hc25).1 (by decide) (by decide) ?_
  exact kt
theorem loop7_8 {p : Program} {l : Launch} {e : Env} {R : Room} {s : State} {m : MethodId} {args : Array Value} {below : List Frame} {meth : Method} {c : Code} {T0 : State} {locs : List Loc} {cells slots : Nat} {Z : State} {a0 : Array Value} {h0 : Heap} (x : Int32) (ar : Addr) (ka : ClassId) (vs : List Int32) (d : Nat) (X0 : Stand p l e R s m args below meth c T0 locs cells slots) (hx : p.tables.exec = Jvm.exec) (hZ : Z.Warmed39 s.vm) (hw : ∀ d ∈ tables_1, d.before a0 Z = true) (hby : c.code = prog_2_method_7_code) (hown : s.vm.findClass "com/example/subsumption/subsumption/IntSet" = some m.cls) (e0 : T0.heap = h0) (V : Arv Z h0 ar ka .int (8 : Int32) (vs.map Value.int) (.int (0 : Int32))) (hh : Hit 8 vs x d) :
    ∀ (k e' : Nat), e' + k = d → ∀ {target : State}, Steps p.tables e below (T0.setTop (mkF m 37 #[.val (.int x), .val (.ref ar), .val (.int ((8 : Int32) - (1 : Int32))), .val (.int (Int32.ofNat ((own_hash 8 x + d) % 8)))] [])) target → Steps p.tables e below (T0.setTop (mkF m 15 #[.val (.int x), .val (.ref ar), .val (.int ((8 : Int32) - (1 : Int32))), .val (.int (Int32.ofNat ((own_hash 8 x + e') % 8)))] [])) target := by
  obtain ⟨cl, Ar, -, S, -, H, -⟩ := V
  have hm : ∀ q, (own_hash 8 x + q) % 8 < 8 := fun q => Nat.mod_lt _ (by decide)
  have hin : ∀ q, ¬ ((Int32.ofNat ((own_hash 8 x + q) % 8)) < 0 ∨ cl.slots.size ≤ ((Int32.ofNat ((own_hash 8 x + q) % 8))).toNatClampNeg) := fun q => inb_of S ⟨own_nn (by have := hm q; omega), (own_lt (j := 8) (by have := hm q; omega) (by omega)).mpr (hm q)⟩
  have hat : ∀ q, cl.slots[((Int32.ofNat ((own_hash 8 x + q) % 8))).toNatClampNeg]? = some (.int (own_at 8 vs x q)) := fun q => H.at (hin q) (by rw [own_natC (by have := hm q; omega)]; exact own_getI vs _)
  intro k
  induction k with
  | zero =>
    intro e' he target kt
    obtain rfl : e' = d := by omega
    rcases hh.2.2 with q | q
    · exact lvZ7_8 x ar _ _ cl X0 hx hZ hw hby hown e0 Ar (hin e') (hat e') q kt
    · by_cases q0 : own_at 8 vs x e' = 0
      · exact lvZ7_8 x ar _ _ cl X0 hx hZ hw hby hown e0 Ar (hin e') (hat e') q0 kt
      · exact lvX7_8 x ar _ _ cl X0 hx hZ hw hby hown e0 Ar (hin e') (hat e') q0 q kt
  | succ k ih =>
    intro e' he target kt
    obtain ⟨q1, q2⟩ := hh.2.1 e' (by omega)
    refine turn7_8 x ar _ _ cl X0 hx hZ hw hby hown e0 Ar (hin e') (hat e') q1 q2 ?_
    rw [own_wrap8 ⟨(own_hash 8 x + e') % 8, hm e'⟩, Nat.mod_add_mod, Nat.add_assoc]
    exact ih (e' + 1) (by omega) kt
set_option maxRecDepth 65536 in
set_option maxHeartbeats 40000000 in
theorem rm7_8 (l : Launch) (Z : State) (a0 : Array Value) (hw : ∀ d ∈ tables_1, d.before a0 Z = true) (ws : List Jvm.Cond) (x : Int32) (ar : Addr) (ka : ClassId) (vs : List Int32) (d : Nat) (h0 : Heap) (n0 : Nat) (Z0 : n0 ≤ h0.size) (V : Arv Z h0 ar ka .int (8 : Int32) (vs.map Value.int) (.int (0 : Int32))) (hh : Hit 8 vs x d)  :
    MetFree l (⟨"com/example/subsumption/subsumption/IntSet", "slotOf", "(I[I)I"⟩ : MethodName) (head1 (Jvm.Cond.code (⟨"com/example/subsumption/subsumption/IntSet", "slotOf", "(I[I)I"⟩ : MethodName) prog_2_method_7_code 4 (some .int) :: ws) ({ frames := 1, cells := 0, slots := 0, locals := 14 } : Room)) (fun a U => a = #[(.int x), (.ref ar)] ∧ Z.Warmed39 U.vm ∧ U.heap = h0) (fun _ _ _ _ _ => True) (fun _ U o U' => ∃ v L, o = .returned v ∧ Q7 (Int32.ofNat ((own_hash 8 x + d) % 8)) h0 n0 v U'.heap L ∧ FrameEnd U o U' L ({ frames := 1, cells := 0, slots := 0, locals := 14 } : Room).cells ({ frames := 1, cells := 0, slots := 0, locals := 14 } : Room).slots) := by
  refine MetFree.of_bodySF (plainFor_of_name pn_com_example_subsumption_subsumption_IntSet) hisR ?_
  intro p e s m args below meth cd s₁ Bd hml0 hPre hKc
  obtain ⟨rfl, hZ, hHp⟩ := hPre
  have hx := Bd.exec
  have hby := Bd.bytes
  have hml : cd.maxLocals = 4 := hml0
  have hown : s.vm.findClass "com/example/subsumption/subsumption/IntSet" = some m.cls := findClass_of_methodNamed Bd.named
  have hnm := (name_of_methodNamed Bd.named Bd.method).1
  have X0 : Stand p l e ({ frames := 1, cells := 0, slots := 0, locals := 14 } : Room) s m #[(.int x), (.ref ar)] below meth cd s₁ [] 0 0 := Stand.of_body Bd
  have e0 : s₁.heap = h0 := by rw [← hHp, Bd.state]; rfl
  have N0 := Fr.nil n0
  have pre0 : ∀ t, Steps p.tables e below (s₁.setTop (mkF m 0 #[.val (.int x), .val (.ref ar), .unset, .unset] [])) t → Steps p.tables e below (s₁.setTop (entryFrame m #[(.int x), (.ref ar)] 4)) t := fun t kz => castTop (ef_7 m x ar) kz
  obtain ⟨clL, ArL, -, SL, ML, -, -⟩ := (id V)
  obtain ⟨_, _, ⟨T1, L1, k1, n1⟩, -, X1, ⟨Lc1, hQ1, l1, y1, z1⟩, st1⟩ := Jvm.LawKit.callS X0 hx (y := (⟨"java/lang/Integer", "numberOfLeadingZeros", "(I)I"⟩ : MethodName)) hown (mvT hZ (hw _ (List.mem_of_getElem? (i := 34) rfl))) (mvT hZ (hw _ (List.mem_of_getElem? (i := 35) rfl))) (mvT hZ (hw _ (List.mem_of_getElem? (i := 36) rfl))) (mvT hZ (hw _ (List.mem_of_getElem? (i := 37) rfl))) (by decide) (backOf (W := 1) (rm8_8 l Z a0 hw [] h0 n0 Z0) hZ (hw _ (List.mem_of_getElem? (i := 37) rfl)) (hw _ (List.mem_of_getElem? (i := 36) rfl)) (by decide) (by decide)) (g := (mkF m 10 #[.val (.int x), .val (.ref ar), .val (.int ((8 : Int32) - (1 : Int32))), .unset] [(.int ((8 : Int32) - (1 : Int32))), (.int (x * (-1640531527 : Int32)))])) rfl (by rw [hml]; rfl) (argsL := [(.int ((8 : Int32) - (1 : Int32)))]) (rest := [(.int (x * (-1640531527 : Int32)))]) (lenOf pd__I_I rfl) rfl (by show 2 * 0 + _ ≤ _; exact Nat.le_of_eq rfl) (hb hby d7_10) (fun _ _ => ⟨rfl, e0, (Nat.le_of_ble_eq_true rfl), (Nat.le_of_ble_eq_true rfl)⟩)
  dsimp only [Pt.U, Pt.locs, Pt.cells, Pt.slots] at X1 l1 y1 z1 st1 hQ1
  subst l1 y1 z1
  obtain ⟨rfl, N1q, e1⟩ := hQ1
  have N1 := Fr.app N0 N1q
  obtain ⟨fs, hr, hrun, hended, hW, hsame⟩ := X1.leave (v := some (.int (Int32.ofNat ((own_hash 8 x + d) % 8)))) (fun h => by rw [Bd.returns] at h; cases h)
  refine ⟨_, _, pre0 _ ?_, hrun, hended, _, _, rfl, ?_, ⟨_, rfl⟩, hW, hsame.mono (by decide) (by decide)⟩
  · show Steps p.tables e below (s₁.setTop (mkF m 0 #[.val (.int x), .val (.ref ar), .unset, .unset] [])) _
    refine XS.aloadN X0.here hx rfl (hb hby d7_0) rfl rfl ?_
    show Steps p.tables e below (s₁.setTop (mkF m 1 #[.val (.int x), .val (.ref ar), .unset, .unset] [(.ref ar)])) _
    refine X0.arraylength hx (by rw [e0]; exact ArL.1) (State.isArrayOf_alike hZ.alike ArL.2.1) (g := (mkF m 1 #[.val (.int x), .val (.ref ar), .unset, .unset] [(.ref ar)])) rfl rfl (hb hby d7_1) _ ?_
    rw [len_of SL ML]
    show Steps p.tables e below (s₁.setTop (mkF m 2 #[.val (.int x), .val (.ref ar), .unset, .unset] [(.int (8 : Int32))])) _
    refine XS.iconst X0.here hx rfl (hb hby d7_2) ?_
    show Steps p.tables e below (s₁.setTop (mkF m 3 #[.val (.int x), .val (.ref ar), .unset, .unset] [(.int (1 : Int32)), (.int (8 : Int32))])) _
    refine XS.isub X0.here hx rfl (hb hby d7_3) rfl ?_
    show Steps p.tables e below (s₁.setTop (mkF m 4 #[.val (.int x), .val (.ref ar), .unset, .unset] [(.int ((8 : Int32) - (1 : Int32)))])) _
    refine XS.istoreN X0.here hx rfl (hb hby d7_4) rfl (l' := #[.val (.int x), .val (.ref ar), .val (.int ((8 : Int32) - (1 : Int32))), .unset]) rfl ?_
    show Steps p.tables e below (s₁.setTop (mkF m 5 #[.val (.int x), .val (.ref ar), .val (.int ((8 : Int32) - (1 : Int32))), .unset] [])) _
    refine XS.iloadN X0.here hx rfl (hb hby d7_5) rfl ?_
    show Steps p.tables e below (s₁.setTop (mkF m 6 #[.val (.int x), .val (.ref ar), .val (.int ((8 : Int32) - (1 : Int32))), .unset] [(.int x)])) _
    refine X0.ldcInt hx hown (mvT hZ (hw _ (List.mem_of_getElem? (i := 33) rfl))) (g := (mkF m 6 #[.val (.int x), .val (.ref ar), .val (.int ((8 : Int32) - (1 : Int32))), .unset] [(.int x)])) rfl (hb hby d7_6) _ ?_
    show Steps p.tables e below (s₁.setTop (mkF m 8 #[.val (.int x), .val (.ref ar), .val (.int ((8 : Int32) - (1 : Int32))), .unset] [(.int (-1640531527 : Int32)), (.int x)])) _
    refine XS.imul X0.here hx rfl (hb hby d7_8) rfl ?_
    show Steps p.tables e below (s₁.setTop (mkF m 9 #[.val (.int x), .val (.ref ar), .val (.int ((8 : Int32) - (1 : Int32))), .unset] [(.int (x * (-1640531527 : Int32)))])) _
    refine XS.iloadN X0.here hx rfl (hb hby d7_9) rfl ?_
    show Steps p.tables e below (s₁.setTop (mkF m 10 #[.val (.int x), .val (.ref ar), .val (.int ((8 : Int32) - (1 : Int32))), .unset] [(.int ((8 : Int32) - (1 : Int32))), (.int (x * (-1640531527 : Int32)))])) _
    refine st1 _ ?_
    show Steps p.tables e below (T1.setTop (mkF m 13 #[.val (.int x), .val (.ref ar), .val (.int ((8 : Int32) - (1 : Int32))), .unset] [(.int (29 : Int32)), (.int (x * (-1640531527 : Int32)))])) _
    refine XS.iushr X1.here hx rfl (hb hby d7_13) rfl ?_
    show Steps p.tables e below (T1.setTop (mkF m 14 #[.val (.int x), .val (.ref ar), .val (.int ((8 : Int32) - (1 : Int32))), .unset] [(.int (((x * (-1640531527 : Int32)).toUInt32 >>> ((29 : Int32) &&& 31).toUInt32).toInt32))])) _
    rw [own_hI8]
    show Steps p.tables e below (T1.setTop (mkF m 14 #[.val (.int x), .val (.ref ar), .val (.int ((8 : Int32) - (1 : Int32))), .unset] [(.int (Int32.ofNat (own_h8 x)))])) _
    refine XS.istoreN X1.here hx rfl (hb hby d7_14) rfl (l' := #[.val (.int x), .val (.ref ar), .val (.int ((8 : Int32) - (1 : Int32))), .val (.int (Int32.ofNat (own_h8 x)))]) rfl ?_
    show Steps p.tables e below (T1.setTop (mkF m 15 #[.val (.int x), .val (.ref ar), .val (.int ((8 : Int32) - (1 : Int32))), .val (.int (Int32.ofNat (own_h8 x)))] [])) _
    rw [own_st8 x]
    show Steps p.tables e below (T1.setTop (mkF m 15 #[.val (.int x), .val (.ref ar), .val (.int ((8 : Int32) - (1 : Int32))), .val (.int (Int32.ofNat ((own_hash 8 x + 0) % 8)))] [])) _
    refine loop7_8 x ar ka vs d X1 hx hZ hw hby hown e1 V hh d 0 (Nat.zero_add d) ?_
    show Steps p.tables e below (T1.setTop (mkF m 37 #[.val (.int x), .val (.ref ar), .val (.int ((8 : Int32) - (1 : Int32))), .val (.int (Int32.ofNat ((own_hash 8 x + d) % 8)))] [])) _
    refine XS.iloadN X1.here hx rfl (hb hby d7_37) rfl ?_
    show Steps p.tables e below (T1.setTop (mkF m 38 #[.val (.int x), .val (.ref ar), .val (.int ((8 : Int32) - (1 : Int32))), .val (.int (Int32.ofNat ((own_hash 8 x + d) % 8)))] [(.int (Int32.ofNat ((own_hash 8 x + d) % 8)))])) _
    exact retI X1 hx Bd.returns (hb hby d7_38) hr
  · show Q7 (Int32.ofNat ((own_hash 8 x + d) % 8)) h0 n0 _ T1.heap _
    rw [e1]
    exact ⟨rfl, N1, rfl⟩
def SetA (Z : State) (h : Heap) (n0 : Nat) (a ar : Addr) (n : Nat) (vs : List Int32) (sz : Nat) : Prop :=
  Exa Z h a "com/example/subsumption/subsumption/IntSet" ∧ Fld Z h a "com/example/subsumption/subsumption/IntSet" "slots" "[I" (.ref ar) ∧ Fld Z h a "com/example/subsumption/subsumption/IntSet" "size" "I" (.int (Int32.ofNat sz)) ∧ (∃ ka : ClassId, Arv Z h ar ka .int (Int32.ofNat n) (vs.map Value.int) (.int (0 : Int32))) ∧ n0 ≤ a ∧ n0 ≤ ar ∧ a ≠ ar ∧ Good n vs ∧ ((n = 4 ∧ sz ≤ 2 ∧ cnt vs = sz) ∨ (n = 8 ∧ sz = 3 ∧ cnt vs ≤ 4))
theorem SetA.ext {Z : State} {h h' : Heap} {n0 : Nat} {a ar : Addr} {n : Nat} {vs : List Int32} {sz : Nat} (S : SetA Z h n0 a ar n vs sz) (E : Ext h h') : SetA Z h' n0 a ar n vs sz := by
  obtain ⟨q1, q2, q3, ⟨ka, q4⟩, r⟩ := S
  exact ⟨q1.ext E, q2.ext E, q3.ext E, ⟨ka, q4.ext E⟩, r⟩
theorem SetA.keep {Z : State} {h h' : Heap} {n0 : Nat} {a ar : Addr} {n : Nat} {vs : List Int32} {sz : Nat} {ws : List Addr} (S : SetA Z h n0 a ar n vs sz) (K : Keep h h' ws) (q : a ∉ ws) (r : ar ∉ ws) : SetA Z h' n0 a ar n vs sz := by
  obtain ⟨q1, q2, q3, ⟨ka, q4⟩, w⟩ := S
  exact ⟨q1.keep K, q2.keep K q, q3.keep K q, ⟨ka, q4.keep K r⟩, w⟩
theorem d4_0 : decode prog_2_method_1_code 0 = .ok (.aload_n 0, 1) := by decide +kernel
theorem d4_1 : decode prog_2_method_1_code 1 = .ok (.invokespecial 1, 3) := by decide +kernel
theorem d4_4 : decode prog_2_method_1_code 4 = .ok (.aload_n 0, 1) := by decide +kernel
theorem d4_5 : decode prog_2_method_1_code 5 = .ok (.iconst 4, 1) := by decide +kernel
theorem d4_6 : decode prog_2_method_1_code 6 = .ok (.newarray .int, 2) := by decide +kernel
theorem d4_8 : decode prog_2_method_1_code 8 = .ok (.putfield 9, 3) := by decide +kernel
theorem d4_11 : decode prog_2_method_1_code 11 = .ok (.return_, 1) := by decide +kernel
theorem ef_4 (m : MethodId) (x0 : Addr) : entryFrame m #[(.ref x0)] 1 = mkF m 0 #[.val (.ref x0)] [] := by first | (simp [entryFrame, mkF, argsToLocals, Value.category]; done) | rfl
def Q4 (Z : State) (a1 : Addr) (h0 : Heap) (n0 : Nat) (v : Option Value) (h : Heap) (L : List Loc) : Prop := v = none ∧ Fr n0 L ∧ ∃ ar : Addr, Keep h0 h [a1] ∧ SetA Z h n0 a1 ar 4 [0, 0, 0, 0] 0 ∧ h0.size ≤ ar
set_option maxRecDepth 65536 in
set_option maxHeartbeats 40000000 in
theorem rm4 (l : Launch) (Z : State) (a0 : Array Value) (hw : ∀ d ∈ tables_1, d.before a0 Z = true) (ws : List Jvm.Cond) (a1 : Addr) (u1 : Value) (h0 : Heap) (n0 : Nat) (Z0 : n0 ≤ h0.size) (E_a1 : Exa Z h0 a1 "com/example/subsumption/subsumption/IntSet") (g_a1 : n0 ≤ a1) (F_s : Fld Z h0 a1 "com/example/subsumption/subsumption/IntSet" "slots" "[I" u1) (F_z : Fld Z h0 a1 "com/example/subsumption/subsumption/IntSet" "size" "I" (.int (0 : Int32)))  :
    MetFree l (⟨"com/example/subsumption/subsumption/IntSet", "<init>", "()V"⟩ : MethodName) (head1 (Jvm.Cond.code (⟨"com/example/subsumption/subsumption/IntSet", "<init>", "()V"⟩ : MethodName) prog_2_method_1_code 1 none :: ws) ({ frames := 1, cells := 1, slots := 4, locals := 12 } : Room)) (fun a U => a = #[(.ref a1)] ∧ Z.Warmed39 U.vm ∧ U.heap = h0) (fun _ _ _ _ _ => True) (fun _ U o U' => ∃ v L, o = .returned v ∧ Q4 Z a1 h0 n0 v U'.heap L ∧ FrameEnd U o U' L ({ frames := 1, cells := 1, slots := 4, locals := 12 } : Room).cells ({ frames := 1, cells := 1, slots := 4, locals := 12 } : Room).slots) := by
  refine MetFree.of_bodySF (plainFor_of_name pn_com_example_subsumption_subsumption_IntSet) hisR ?_
  intro p e s m args below meth cd s₁ Bd hml0 hPre hKc
  obtain ⟨rfl, hZ, hHp⟩ := hPre
  have hx := Bd.exec
  have hby := Bd.bytes
  have hml : cd.maxLocals = 1 := hml0
  have hown : s.vm.findClass "com/example/subsumption/subsumption/IntSet" = some m.cls := findClass_of_methodNamed Bd.named
  have hnm := (name_of_methodNamed Bd.named Bd.method).1
  have X0 : Stand p l e ({ frames := 1, cells := 1, slots := 4, locals := 12 } : Room) s m #[(.ref a1)] below meth cd s₁ [] 0 0 := Stand.of_body Bd
  have e0 : s₁.heap = h0 := by rw [← hHp, Bd.state]; rfl
  have N0 := Fr.nil n0
  have pre0 : ∀ t, Steps p.tables e below (s₁.setTop (mkF m 0 #[.val (.ref a1)] [])) t → Steps p.tables e below (s₁.setTop (entryFrame m #[(.ref a1)] 1)) t := fun t kz => castTop (ef_4 m a1) kz
  obtain ⟨T1, X1, e1, st1⟩ := initO X0 hx hZ hown (hw _ (List.mem_of_getElem? (i := 18) rfl)) (hw _ (List.mem_of_getElem? (i := 19) rfl)) (hw _ (List.mem_of_getElem? (i := 20) rfl)) e0 (g := (mkF m 1 #[.val (.ref a1)] [(.ref a1)])) rfl (by rw [hml]; rfl) rfl (hb hby d4_1) (by decide) (W := 0) (by show 2 * 0 + _ ≤ _; exact Nat.le_of_eq rfl) (by decide)
  obtain ⟨T2, h2, k2, X2, e2, E2, A2, st2⟩ := newP X1 hx hZ (hw _ (List.mem_of_getElem? (i := 21) rfl)) e1 (g := (mkF m 6 #[.val (.ref a1)] [(.int (4 : Int32)), (.ref a1)])) rfl (hb hby d4_6) rfl (by decide) (cap := 4) (by decide) (by decide) (Nat.le_of_ble_eq_true rfl) (Nat.le_of_ble_eq_true rfl)
  obtain ⟨ar, g2⟩ : ∃ z, z = h0.size := ⟨_, rfl⟩
  rw [← g2] at A2 st2
  have g_ar : n0 ≤ ar := Nat.le_trans Z0 (Nat.le_of_eq g2.symm)
  have sz_ar : h0.size ≤ ar := Nat.le_trans (Keep.refl h0 [a1]).1 (Nat.le_of_eq g2.symm)
  have ne_a1_ar : a1 ≠ ar := Nat.ne_of_lt (Nat.lt_of_lt_of_le E_a1.lt (Nat.le_of_eq g2.symm))
  have z2 : n0 ≤ h2.size := Nat.le_trans Z0 E2.1
  have f3_E_a1 := E_a1.ext E2
  have f4_F_a1_slots := F_s.ext E2
  have f5_F_a1_size := F_z.ext E2
  have K6 : Keep h0 h2 [a1] := (Keep.refl h0 [a1]).ext E2
  have V_ar : Arv Z h2 ar k2 .int (4 : Int32) [(.int (0 : Int32)), (.int (0 : Int32)), (.int (0 : Int32)), (.int (0 : Int32))] (.int (0 : Int32)) := (Arv.new A2 (by decide)).pad (pad_rep [] (.int (0 : Int32)) 4)
  obtain ⟨T7, h7, X7, e7, W7, st7⟩ := putF X2 hx hZ hown (host := "") (Or.inl (hw _ (List.mem_of_getElem? (i := 22) rfl))) Via.refl e2 f4_F_a1_slots f3_E_a1 (Or.inl (hw _ (List.mem_of_getElem? (i := 23) rfl))) (hw _ (List.mem_of_getElem? (i := 13) rfl)) (ty := (.array .int)) (by decide) rfl rfl (g := (mkF m 8 #[.val (.ref a1)] [(.ref ar), (.ref a1)])) rfl rfl (hb hby d4_8)
  have f8_E_a1 := f3_E_a1.wr W7
  have f9_F_a1_size := f5_F_a1_size.other W7 (Or.inr (slot_ne (Or.inl (hw _ (List.mem_of_getElem? (i := 40) rfl))) (Or.inl (hw _ (List.mem_of_getElem? (i := 23) rfl))) (by decide) (t := .int) (t' := (.array .int)) (by decide) (by decide)))
  have f10_V_ar := V_ar.other W7 (Ne.symm ne_a1_ar)
  have fw7 := f4_F_a1_slots.same W7
  have K11 : Keep h0 h7 [a1] := K6.wr W7 (Or.inl (List.mem_of_getElem? (i := 0) rfl))
  have N7 := Fr.snoc X7 N0 g_a1
  have z7 : n0 ≤ h7.size := Nat.le_trans z2 (Keep.of_wr W7).1
  obtain ⟨fs, hr, hrun, hended, hW, hsame⟩ := X7.leave (v := none) (fun _ => rfl)
  refine ⟨_, _, pre0 _ ?_, hrun, hended, _, _, rfl, ?_, ⟨_, rfl⟩, hW, hsame.mono (by decide) (by decide)⟩
  · show Steps p.tables e below (s₁.setTop (mkF m 0 #[.val (.ref a1)] [])) _
    refine XS.aloadN X0.here hx rfl (hb hby d4_0) rfl rfl ?_
    show Steps p.tables e below (s₁.setTop (mkF m 1 #[.val (.ref a1)] [(.ref a1)])) _
    refine st1 _ ?_
    show Steps p.tables e below (T1.setTop (mkF m 4 #[.val (.ref a1)] [])) _
    refine XS.aloadN X1.here hx rfl (hb hby d4_4) rfl rfl ?_
    show Steps p.tables e below (T1.setTop (mkF m 5 #[.val (.ref a1)] [(.ref a1)])) _
    refine XS.iconst X1.here hx rfl (hb hby d4_5) ?_
    show Steps p.tables e below (T1.setTop (mkF m 6 #[.val (.ref a1)] [(.int (4 : Int32)), (.ref a1)])) _
    refine st2 _ ?_
    show Steps p.tables e below (T2.setTop (mkF m 8 #[.val (.ref a1)] [(.ref ar), (.ref a1)])) _
    refine st7 _ ?_
    show Steps p.tables e below (T7.setTop (mkF m 11 #[.val (.ref a1)] [])) _
    exact X7.returnOut hx Bd.returns (hb hby d4_11) hr
  · show Q4 Z a1 h0 n0 _ T7.heap _
    rw [e7]
    exact ⟨rfl, N7, ar, K11, ⟨f8_E_a1, fw7, f9_F_a1_size, ⟨_, f10_V_ar⟩, g_a1, g_ar, ne_a1_ar, Good.zero4, Or.inl ⟨rfl, by decide, rfl⟩⟩, sz_ar⟩
theorem own_os {z0 z1 z2 z3 z4 : Value} {s5 : Slot} {v : Int32} (h : One s5) : storeLocals #[.val z0, .val z1, .val z2, .val z3, .val z4, s5] 5 (.int v) = some #[.val z0, .val z1, .val z2, .val z3, .val z4, .val (.int v)] := by
  rcases h with rfl | ⟨w, rfl, hw⟩
  · rfl
  · cases w <;> first | rfl | (simp [Value.category] at hw)
theorem d9_23 : decode prog_2_method_8_code 23 = .ok (.iload 4, 2) := by decide +kernel
theorem d9_25 : decode prog_2_method_8_code 25 = .ok (.iload_n 3, 1) := by decide +kernel
theorem d9_26 : decode prog_2_method_8_code 26 = .ok (.if_icmp .ge 36, 3) := by decide +kernel
theorem d9_29 : decode prog_2_method_8_code 29 = .ok (.aload_n 2, 1) := by decide +kernel
theorem d9_30 : decode prog_2_method_8_code 30 = .ok (.iload 4, 2) := by decide +kernel
theorem d9_32 : decode prog_2_method_8_code 32 = .ok (.iaload, 1) := by decide +kernel
theorem d9_33 : decode prog_2_method_8_code 33 = .ok (.istore 5, 2) := by decide +kernel
theorem d9_35 : decode prog_2_method_8_code 35 = .ok (.iload 5, 2) := by decide +kernel
theorem d9_37 : decode prog_2_method_8_code 37 = .ok (.ifCond .eq 19, 3) := by decide +kernel
theorem d9_56 : decode prog_2_method_8_code 56 = .ok (.iinc 4 1, 3) := by decide +kernel
theorem d9_59 : decode prog_2_method_8_code 59 = .ok (.goto (-36), 3) := by decide +kernel
set_option maxRecDepth 65536 in
set_option maxHeartbeats 40000000 in
theorem turn9z {p : Program} {l : Launch} {e : Env} {s : State} {m : MethodId} {args : Array Value} {below : List Frame} {meth : Method} {c : Code} {T0 : State} {locs : List Loc} {Z : State} {a0 : Array Value} {h0 : Heap} {n0 : Nat} (a1 ar nr : Addr) (ka kn : ClassId) (vs us : List Int32) (zz : Int32) (i : Nat) (s5 : Slot) (X0 : Stand p l e ({ frames := 2, cells := 1, slots := 8, locals := 30 } : Room) s m args below meth c T0 locs (1) (8)) (hx : p.tables.exec = Jvm.exec) (hZ : Z.Warmed39 s.vm) (hw : ∀ d ∈ tables_1, d.before a0 Z = true) (hby : c.code = prog_2_method_8_code) (hml : c.maxLocals = 6) (hown : s.vm.findClass "com/example/subsumption/subsumption/IntSet" = some m.cls) (e0 : T0.heap = h0) (N0 : Fr n0 locs) (Z0 : n0 ≤ h0.size) (hi : i < 4) (h5 : One s5) (E_a1 : Exa Z h0 a1 "com/example/subsumption/subsumption/IntSet") (F_s : Fld Z h0 a1 "com/example/subsumption/subsumption/IntSet" "slots" "[I" (.ref nr)) (F_z : Fld Z h0 a1 "com/example/subsumption/subsumption/IntSet" "size" "I" (.int zz)) (VO : Arv Z h0 ar ka .int (4 : Int32) (vs.map Value.int) (.int (0 : Int32))) (VN : Arv Z h0 nr kn .int (8 : Int32) (us.map Value.int) (.int (0 : Int32))) (g_nr : n0 ≤ nr) (ne1 : a1 ≠ nr) (ne2 : ar ≠ nr) (hc37 : (vs.getD i 0) = (0 : Int32)) :
    ∃ (T' : State) (h' : Heap) (locs' : List Loc) , Stand p l e ({ frames := 2, cells := 1, slots := 8, locals := 30 } : Room) s m args below meth c T' locs' (1) (8) ∧ T'.heap = h' ∧ Fr n0 locs' ∧ n0 ≤ h'.size ∧ Keep h0 h' [nr] ∧ Exa Z h' a1 "com/example/subsumption/subsumption/IntSet" ∧ Fld Z h' a1 "com/example/subsumption/subsumption/IntSet" "slots" "[I" (.ref nr) ∧ Fld Z h' a1 "com/example/subsumption/subsumption/IntSet" "size" "I" (.int zz) ∧ Arv Z h' ar ka .int (4 : Int32) (vs.map Value.int) (.int (0 : Int32)) ∧ Arv Z h' nr kn .int (8 : Int32) (us.map Value.int) (.int (0 : Int32)) ∧ 
      ∀ target, Steps p.tables e below (T'.setTop (mkF m 23 #[.val (.ref a1), .val (.ref ar), .val (.ref ar), .val (.int (4 : Int32)), .val (.int ((Int32.ofNat i) + (1 : Int32))), .val (.int (vs.getD i 0))] [])) target → Steps p.tables e below (T0.setTop (mkF m 23 #[.val (.ref a1), .val (.ref ar), .val (.ref ar), .val (.int (4 : Int32)), .val (.int (Int32.ofNat i)), s5] [])) target := by
  obtain ⟨c1, Ar1, -, S1, -, H1, -⟩ := (id VO)
  have hin1 : ¬ ((Int32.ofNat i) < 0 ∨ c1.slots.size ≤ ((Int32.ofNat i)).toNatClampNeg) := inb_of S1 ⟨own_nn (by omega), (own_lt (j := 4) (by omega) (by omega)).mpr hi⟩
  have hat1 : c1.slots[((Int32.ofNat i)).toNatClampNeg]? = some (.int (vs.getD i 0)) := H1.at hin1 (by rw [own_natC (by omega)]; exact own_getI vs i)
  refine ⟨T0, h0, _, X0, e0, N0, Z0, (Keep.refl h0 [nr]), E_a1, F_s, F_z, VO, VN, fun target kt => ?_⟩
  show Steps p.tables e below (T0.setTop (mkF m 23 #[.val (.ref a1), .val (.ref ar), .val (.ref ar), .val (.int (4 : Int32)), .val (.int (Int32.ofNat i)), s5] [])) _
  refine XS.iload X0.here hx rfl (hb hby d9_23) rfl ?_
  show Steps p.tables e below (T0.setTop (mkF m 25 #[.val (.ref a1), .val (.ref ar), .val (.ref ar), .val (.int (4 : Int32)), .val (.int (Int32.ofNat i)), s5] [(.int (Int32.ofNat i))])) _
  refine XS.iloadN X0.here hx rfl (hb hby d9_25) rfl ?_
  show Steps p.tables e below (T0.setTop (mkF m 26 #[.val (.ref a1), .val (.ref ar), .val (.ref ar), .val (.int (4 : Int32)), .val (.int (Int32.ofNat i)), s5] [(.int (4 : Int32)), (.int (Int32.ofNat i))])) _
  refine XS.icmpNo X0.here hx rfl (hb hby d9_26) rfl (tlt ((own_lt (i := i) (j := 4) (by omega) (by omega)).mpr hi : (Int32.ofNat i) < (4 : Int32))).2.1 ?_
  show Steps p.tables e below (T0.setTop (mkF m 29 #[.val (.ref a1), .val (.ref ar), .val (.ref ar), .val (.int (4 : Int32)), .val (.int (Int32.ofNat i)), s5] [])) _
  refine XS.aloadN X0.here hx rfl (hb hby d9_29) rfl rfl ?_
  show Steps p.tables e below (T0.setTop (mkF m 30 #[.val (.ref a1), .val (.ref ar), .val (.ref ar), .val (.int (4 : Int32)), .val (.int (Int32.ofNat i)), s5] [(.ref ar)])) _
  refine XS.iload X0.here hx rfl (hb hby d9_30) rfl ?_
  show Steps p.tables e below (T0.setTop (mkF m 32 #[.val (.ref a1), .val (.ref ar), .val (.ref ar), .val (.int (4 : Int32)), .val (.int (Int32.ofNat i)), s5] [(.int (Int32.ofNat i)), (.ref ar)])) _
  refine X0.iaload hx (j := (Int32.ofNat i)) (v := (.int (vs.getD i 0))) (by rw [e0]; exact Ar1.1) (State.isArrayOf_alike hZ.alike Ar1.2.1) Ar1.2.2 hin1 hat1 (g := (mkF m 32 #[.val (.ref a1), .val (.ref ar), .val (.ref ar), .val (.int (4 : Int32)), .val (.int (Int32.ofNat i)), s5] [(.int (Int32.ofNat i)), (.ref ar)])) rfl rfl (hb hby d9_32) _ ?_
  show Steps p.tables e below (T0.setTop (mkF m 33 #[.val (.ref a1), .val (.ref ar), .val (.ref ar), .val (.int (4 : Int32)), .val (.int (Int32.ofNat i)), s5] [(.int (vs.getD i 0))])) _
  refine XS.istore X0.here hx rfl (hb hby d9_33) rfl (l' := #[.val (.ref a1), .val (.ref ar), .val (.ref ar), .val (.int (4 : Int32)), .val (.int (Int32.ofNat i)), .val (.int (vs.getD i 0))]) (own_os h5) ?_
  show Steps p.tables e below (T0.setTop (mkF m 35 #[.val (.ref a1), .val (.ref ar), .val (.ref ar), .val (.int (4 : Int32)), .val (.int (Int32.ofNat i)), .val (.int (vs.getD i 0))] [])) _
  refine XS.iload X0.here hx rfl (hb hby d9_35) rfl ?_
  show Steps p.tables e below (T0.setTop (mkF m 37 #[.val (.ref a1), .val (.ref ar), .val (.ref ar), .val (.int (4 : Int32)), .val (.int (Int32.ofNat i)), .val (.int (vs.getD i 0))] [(.int (vs.getD i 0))])) _
  refine XS.ifYes X0.here hx rfl (pc0 := 37) (pc' := 56) rfl (hb hby d9_37) rfl ((if0 _ _).trans (teq hc37).1) (by decide) (by decide) ?_
  show Steps p.tables e below (T0.setTop (mkF m 56 #[.val (.ref a1), .val (.ref ar), .val (.ref ar), .val (.int (4 : Int32)), .val (.int (Int32.ofNat i)), .val (.int (vs.getD i 0))] [])) _
  refine XS.iinc X0.here hx rfl (hb hby d9_56) rfl (l' := #[.val (.ref a1), .val (.ref ar), .val (.ref ar), .val (.int (4 : Int32)), .val (.int ((Int32.ofNat i) + (1 : Int32))), .val (.int (vs.getD i 0))]) rfl ?_
  show Steps p.tables e below (T0.setTop (mkF m 59 #[.val (.ref a1), .val (.ref ar), .val (.ref ar), .val (.int (4 : Int32)), .val (.int ((Int32.ofNat i) + (1 : Int32))), .val (.int (vs.getD i 0))] [])) _
  refine XS.goto X0.here hx rfl (pc0 := 59) (pc' := 23) rfl (hb hby d9_59) (by decide) (by decide) ?_
  exact kt
theorem d9_40 : decode prog_2_method_8_code 40 = .ok (.aload_n 0, 1) := by decide +kernel
theorem d9_41 : decode prog_2_method_8_code 41 = .ok (.getfield 9, 3) := by decide +kernel
theorem d9_44 : decode prog_2_method_8_code 44 = .ok (.iload 5, 2) := by decide +kernel
theorem d9_46 : decode prog_2_method_8_code 46 = .ok (.aload_n 0, 1) := by decide +kernel
theorem d9_47 : decode prog_2_method_8_code 47 = .ok (.getfield 9, 3) := by decide +kernel
theorem d9_50 : decode prog_2_method_8_code 50 = .ok (.invokestatic 25, 3) := by decide +kernel
theorem d9_53 : decode prog_2_method_8_code 53 = .ok (.iload 5, 2) := by decide +kernel
theorem d9_55 : decode prog_2_method_8_code 55 = .ok (.iastore, 1) := by decide +kernel
theorem pd__I_I_I : parseMethodDescriptor "(I[I)I" = some ⟨[.int, (.array .int)], some .int⟩ := by decide +kernel
set_option maxRecDepth 65536 in
set_option maxHeartbeats 40000000 in
theorem turn9n {p : Program} {l : Launch} {e : Env} {s : State} {m : MethodId} {args : Array Value} {below : List Frame} {meth : Method} {c : Code} {T0 : State} {locs : List Loc} {Z : State} {a0 : Array Value} {h0 : Heap} {n0 : Nat} (a1 ar nr : Addr) (ka kn : ClassId) (vs us : List Int32) (zz : Int32) (i : Nat) (s5 : Slot) (d : Nat) (X0 : Stand p l e ({ frames := 2, cells := 1, slots := 8, locals := 30 } : Room) s m args below meth c T0 locs (1) (8)) (hx : p.tables.exec = Jvm.exec) (hZ : Z.Warmed39 s.vm) (hw : ∀ d ∈ tables_1, d.before a0 Z = true) (hby : c.code = prog_2_method_8_code) (hml : c.maxLocals = 6) (hown : s.vm.findClass "com/example/subsumption/subsumption/IntSet" = some m.cls) (e0 : T0.heap = h0) (N0 : Fr n0 locs) (Z0 : n0 ≤ h0.size) (hi : i < 4) (h5 : One s5) (E_a1 : Exa Z h0 a1 "com/example/subsumption/subsumption/IntSet") (F_s : Fld Z h0 a1 "com/example/subsumption/subsumption/IntSet" "slots" "[I" (.ref nr)) (F_z : Fld Z h0 a1 "com/example/subsumption/subsumption/IntSet" "size" "I" (.int zz)) (VO : Arv Z h0 ar ka .int (4 : Int32) (vs.map Value.int) (.int (0 : Int32))) (VN : Arv Z h0 nr kn .int (8 : Int32) (us.map Value.int) (.int (0 : Int32))) (g_nr : n0 ≤ nr) (ne1 : a1 ≠ nr) (ne2 : ar ≠ nr) (hlen : us.length = 8) (hh : Hit 8 us (vs.getD i 0) d) (hc37 : ¬ ((vs.getD i 0) = (0 : Int32))) :
    ∃ (T' : State) (h' : Heap) (locs' : List Loc) , Stand p l e ({ frames := 2, cells := 1, slots := 8, locals := 30 } : Room) s m args below meth c T' locs' (1) (8) ∧ T'.heap = h' ∧ Fr n0 locs' ∧ n0 ≤ h'.size ∧ Keep h0 h' [nr] ∧ Exa Z h' a1 "com/example/subsumption/subsumption/IntSet" ∧ Fld Z h' a1 "com/example/subsumption/subsumption/IntSet" "slots" "[I" (.ref nr) ∧ Fld Z h' a1 "com/example/subsumption/subsumption/IntSet" "size" "I" (.int zz) ∧ Arv Z h' ar ka .int (4 : Int32) (vs.map Value.int) (.int (0 : Int32)) ∧ Arv Z h' nr kn .int (8 : Int32) ((us.set ((own_hash 8 (vs.getD i 0) + d) % 8) (vs.getD i 0)).map Value.int) (.int (0 : Int32)) ∧ 
      ∀ target, Steps p.tables e below (T'.setTop (mkF m 23 #[.val (.ref a1), .val (.ref ar), .val (.ref ar), .val (.int (4 : Int32)), .val (.int ((Int32.ofNat i) + (1 : Int32))), .val (.int (vs.getD i 0))] [])) target → Steps p.tables e below (T0.setTop (mkF m 23 #[.val (.ref a1), .val (.ref ar), .val (.ref ar), .val (.int (4 : Int32)), .val (.int (Int32.ofNat i)), s5] [])) target := by
  obtain ⟨c1, Ar1, -, S1, -, H1, -⟩ := (id VO)
  have hin1 : ¬ ((Int32.ofNat i) < 0 ∨ c1.slots.size ≤ ((Int32.ofNat i)).toNatClampNeg) := inb_of S1 ⟨own_nn (by omega), (own_lt (j := 4) (by omega) (by omega)).mpr hi⟩
  have hat1 : c1.slots[((Int32.ofNat i)).toNatClampNeg]? = some (.int (vs.getD i 0)) := H1.at hin1 (by rw [own_natC (by omega)]; exact own_getI vs i)
  obtain ⟨T2, X2, e2, st2⟩ := getF X0 hx hZ hown (host := "") (Or.inl (hw _ (List.mem_of_getElem? (i := 22) rfl))) Via.refl e0 F_s (g := (mkF m 41 #[.val (.ref a1), .val (.ref ar), .val (.ref ar), .val (.int (4 : Int32)), .val (.int (Int32.ofNat i)), .val (.int (vs.getD i 0))] [(.ref a1)])) rfl rfl (hb hby d9_41)
  obtain ⟨T3, X3, e3, st3⟩ := getF X2 hx hZ hown (host := "") (Or.inl (hw _ (List.mem_of_getElem? (i := 22) rfl))) Via.refl e2 F_s (g := (mkF m 47 #[.val (.ref a1), .val (.ref ar), .val (.ref ar), .val (.int (4 : Int32)), .val (.int (Int32.ofNat i)), .val (.int (vs.getD i 0))] [(.ref a1), (.int (vs.getD i 0)), (.ref nr)])) rfl rfl (hb hby d9_47)
  obtain ⟨_, _, ⟨T4, L4, k4, n4⟩, -, X4, ⟨Lc4, hQ4, l4, y4, z4⟩, st4⟩ := Jvm.LawKit.callS X3 hx (y := (⟨"com/example/subsumption/subsumption/IntSet", "slotOf", "(I[I)I"⟩ : MethodName)) hown (mvT hZ (hw _ (List.mem_of_getElem? (i := 30) rfl))) (mvT hZ (hw _ (List.mem_of_getElem? (i := 31) rfl))) (mvT hZ (hw _ (List.mem_of_getElem? (i := 14) rfl))) (mvT hZ (hw _ (List.mem_of_getElem? (i := 32) rfl))) (by decide) (backOf (W := 1) (rm7_8 l Z a0 hw [] (vs.getD i 0) nr kn us d h0 n0 Z0 VN hh) hZ (hw _ (List.mem_of_getElem? (i := 32) rfl)) (hw _ (List.mem_of_getElem? (i := 14) rfl)) (by decide) (by decide)) (g := (mkF m 50 #[.val (.ref a1), .val (.ref ar), .val (.ref ar), .val (.int (4 : Int32)), .val (.int (Int32.ofNat i)), .val (.int (vs.getD i 0))] [(.ref nr), (.int (vs.getD i 0)), (.ref nr)])) rfl (by rw [hml]; rfl) (argsL := [(.int (vs.getD i 0)), (.ref nr)]) (rest := [(.ref nr)]) (lenOf pd__I_I_I rfl) rfl (by show 2 * 0 + _ ≤ _; exact Nat.le_of_eq rfl) (hb hby d9_50) (fun _ _ => ⟨rfl, e3, (Nat.le_of_ble_eq_true rfl), (Nat.le_of_ble_eq_true rfl)⟩)
  dsimp only [Pt.U, Pt.locs, Pt.cells, Pt.slots] at X4 l4 y4 z4 st4 hQ4
  subst l4 y4 z4
  obtain ⟨rfl, N4q, e4⟩ := hQ4
  have N4 := Fr.app N0 N4q
  obtain ⟨c5, Ar5, q5, S5, M5, H5, G5⟩ := (id VN)
  have hm8 : (own_hash 8 (vs.getD i 0) + d) % 8 < 8 := Nat.mod_lt _ (by decide)
  have hin5 : ¬ ((Int32.ofNat ((own_hash 8 (vs.getD i 0) + d) % 8)) < 0 ∨ c5.slots.size ≤ ((Int32.ofNat ((own_hash 8 (vs.getD i 0) + d) % 8))).toNatClampNeg) := inb_of S5 ⟨own_nn (by omega), (own_lt (j := 8) (by omega) (by omega)).mpr hm8⟩
  obtain ⟨T6, h6, X6, e6, W6, st6⟩ := stI X4 hx hZ e4 Ar5 (j := (Int32.ofNat ((own_hash 8 (vs.getD i 0) + d) % 8))) hin5 (g := (mkF m 55 #[.val (.ref a1), .val (.ref ar), .val (.ref ar), .val (.int (4 : Int32)), .val (.int (Int32.ofNat i)), .val (.int (vs.getD i 0))] [(.int (vs.getD i 0)), (.int (Int32.ofNat ((own_hash 8 (vs.getD i 0) + d) % 8))), (.ref nr)])) rfl rfl (hb hby d9_55)
  have f7_E_a1 := E_a1.wr W6
  have f8_F_a1_slots := F_s.other W6 (Or.inl ne1)
  have f9_F_a1_size := F_z.other W6 (Or.inl ne1)
  have f10_V_ar := VO.other W6 ne2
  have V6 := Arv.set Ar5 q5 S5 M5 H5 G5 rfl W6 ((own_hash 8 (vs.getD i 0) + d) % 8) (own_natC (by omega)) (by rw [List.length_map, hlen]; exact hm8)
  rw [own_setI] at V6
  have K11 : Keep h0 h6 [nr] := (Keep.refl h0 [nr]).wr W6 (Or.inl (List.mem_of_getElem? (i := 0) rfl))
  have N6 := Fr.snoc X6 N4 g_nr
  have z6 : n0 ≤ h6.size := Nat.le_trans Z0 (Keep.of_wr W6).1
  refine ⟨T6, h6, _, X6, e6, N6, z6, K11, f7_E_a1, f8_F_a1_slots, f9_F_a1_size, f10_V_ar, V6, fun target kt => ?_⟩
  show Steps p.tables e below (T0.setTop (mkF m 23 #[.val (.ref a1), .val (.ref ar), .val (.ref ar), .val (.int (4 : Int32)), .val (.int (Int32.ofNat i)), s5] [])) _
  refine XS.iload X0.here hx rfl (hb hby d9_23) rfl ?_
  show Steps p.tables e below (T0.setTop (mkF m 25 #[.val (.ref a1), .val (.ref ar), .val (.ref ar), .val (.int (4 : Int32)), .val (.int (Int32.ofNat i)), s5] [(.int (Int32.ofNat i))])) _
  refine XS.iloadN X0.here hx rfl (hb hby d9_25) rfl ?_
  show Steps p.tables e below (T0.setTop (mkF m 26 #[.val (.ref a1), .val (.ref ar), .val (.ref ar), .val (.int (4 : Int32)), .val (.int (Int32.ofNat i)), s5] [(.int (4 : Int32)), (.int (Int32.ofNat i))])) _
  refine XS.icmpNo X0.here hx rfl (hb hby d9_26) rfl (tlt ((own_lt (i := i) (j := 4) (by omega) (by omega)).mpr hi : (Int32.ofNat i) < (4 : Int32))).2.1 ?_
  show Steps p.tables e below (T0.setTop (mkF m 29 #[.val (.ref a1), .val (.ref ar), .val (.ref ar), .val (.int (4 : Int32)), .val (.int (Int32.ofNat i)), s5] [])) _
  refine XS.aloadN X0.here hx rfl (hb hby d9_29) rfl rfl ?_
  show Steps p.tables e below (T0.setTop (mkF m 30 #[.val (.ref a1), .val (.ref ar), .val (.ref ar), .val (.int (4 : Int32)), .val (.int (Int32.ofNat i)), s5] [(.ref ar)])) _
  refine XS.iload X0.here hx rfl (hb hby d9_30) rfl ?_
  show Steps p.tables e below (T0.setTop (mkF m 32 #[.val (.ref a1), .val (.ref ar), .val (.ref ar), .val (.int (4 : Int32)), .val (.int (Int32.ofNat i)), s5] [(.int (Int32.ofNat i)), (.ref ar)])) _
  refine X0.iaload hx (j := (Int32.ofNat i)) (v := (.int (vs.getD i 0))) (by rw [e0]; exact Ar1.1) (State.isArrayOf_alike hZ.alike Ar1.2.1) Ar1.2.2 hin1 hat1 (g := (mkF m 32 #[.val (.ref a1), .val (.ref ar), .val (.ref ar), .val (.int (4 : Int32)), .val (.int (Int32.ofNat i)), s5] [(.int (Int32.ofNat i)), (.ref ar)])) rfl rfl (hb hby d9_32) _ ?_
  show Steps p.tables e below (T0.setTop (mkF m 33 #[.val (.ref a1), .val (.ref ar), .val (.ref ar), .val (.int (4 : Int32)), .val (.int (Int32.ofNat i)), s5] [(.int (vs.getD i 0))])) _
  refine XS.istore X0.here hx rfl (hb hby d9_33) rfl (l' := #[.val (.ref a1), .val (.ref ar), .val (.ref ar), .val (.int (4 : Int32)), .val (.int (Int32.ofNat i)), .val (.int (vs.getD i 0))]) (own_os h5) ?_
  show Steps p.tables e below (T0.setTop (mkF m 35 #[.val (.ref a1), .val (.ref ar), .val (.ref ar), .val (.int (4 : Int32)), .val (.int (Int32.ofNat i)), .val (.int (vs.getD i 0))] [])) _
  refine XS.iload X0.here hx rfl (hb hby d9_35) rfl ?_
  show Steps p.tables e below (T0.setTop (mkF m 37 #[.val (.ref a1), .val (.ref ar), .val (.ref ar), .val (.int (4 : Int32)), .val (.int (Int32.ofNat i)), .val (.int (vs.getD i 0))] [(.int (vs.getD i 0))])) _
  refine XS.ifNo X0.here hx rfl (hb hby d9_37) rfl ((if0 _ _).trans (feq hc37).1) ?_
  show Steps p.tables e below (T0.setTop (mkF m 40 #[.val (.ref a1), .val (.ref ar), .val (.ref ar), .val (.int (4 : Int32)), .val (.int (Int32.ofNat i)), .val (.int (vs.getD i 0))] [])) _
  refine XS.aloadN X0.here hx rfl (hb hby d9_40) rfl rfl ?_
  show Steps p.tables e below (T0.setTop (mkF m 41 #[.val (.ref a1), .val (.ref ar), .val (.ref ar), .val (.int (4 : Int32)), .val (.int (Int32.ofNat i)), .val (.int (vs.getD i 0))] [(.ref a1)])) _
  refine st2 _ ?_
  show Steps p.tables e below (T2.setTop (mkF m 44 #[.val (.ref a1), .val (.ref ar), .val (.ref ar), .val (.int (4 : Int32)), .val (.int (Int32.ofNat i)), .val (.int (vs.getD i 0))] [(.ref nr)])) _
  refine XS.iload X2.here hx rfl (hb hby d9_44) rfl ?_
  show Steps p.tables e below (T2.setTop (mkF m 46 #[.val (.ref a1), .val (.ref ar), .val (.ref ar), .val (.int (4 : Int32)), .val (.int (Int32.ofNat i)), .val (.int (vs.getD i 0))] [(.int (vs.getD i 0)), (.ref nr)])) _
  refine XS.aloadN X2.here hx rfl (hb hby d9_46) rfl rfl ?_
  show Steps p.tables e below (T2.setTop (mkF m 47 #[.val (.ref a1), .val (.ref ar), .val (.ref ar), .val (.int (4 : Int32)), .val (.int (Int32.ofNat i)), .val (.int (vs.getD i 0))] [(.ref a1), (.int (vs.getD i 0)), (.ref nr)])) _
  refine st3 _ ?_
  show Steps p.tables e below (T3.setTop (mkF m 50 #[.val (.ref a1), .val (.ref ar), .val (.ref ar), .val (.int (4 : Int32)), .val (.int (Int32.ofNat i)), .val (.int (vs.getD i 0))] [(.ref nr), (.int (vs.getD i 0)), (.ref nr)])) _
  refine st4 _ ?_
  show Steps p.tables e below (T4.setTop (mkF m 53 #[.val (.ref a1), .val (.ref ar), .val (.ref ar), .val (.int (4 : Int32)), .val (.int (Int32.ofNat i)), .val (.int (vs.getD i 0))] [(.int (Int32.ofNat ((own_hash 8 (vs.getD i 0) + d) % 8))), (.ref nr)])) _
  refine XS.iload X4.here hx rfl (hb hby d9_53) rfl ?_
  show Steps p.tables e below (T4.setTop (mkF m 55 #[.val (.ref a1), .val (.ref ar), .val (.ref ar), .val (.int (4 : Int32)), .val (.int (Int32.ofNat i)), .val (.int (vs.getD i 0))] [(.int (vs.getD i 0)), (.int (Int32.ofNat ((own_hash 8 (vs.getD i 0) + d) % 8))), (.ref nr)])) _
  refine st6 _ ?_
  show Steps p.tables e below (T6.setTop (mkF m 56 #[.val (.ref a1), .val (.ref ar), .val (.ref ar), .val (.int (4 : Int32)), .val (.int (Int32.ofNat i)), .val (.int (vs.getD i 0))] [])) _
  refine XS.iinc X6.here hx rfl (hb hby d9_56) rfl (l' := #[.val (.ref a1), .val (.ref ar), .val (.ref ar), .val (.int (4 : Int32)), .val (.int ((Int32.ofNat i) + (1 : Int32))), .val (.int (vs.getD i 0))]) rfl ?_
  show Steps p.tables e below (T6.setTop (mkF m 59 #[.val (.ref a1), .val (.ref ar), .val (.ref ar), .val (.int (4 : Int32)), .val (.int ((Int32.ofNat i) + (1 : Int32))), .val (.int (vs.getD i 0))] [])) _
  refine XS.goto X6.here hx rfl (pc0 := 59) (pc' := 23) rfl (hb hby d9_59) (by decide) (by decide) ?_
  exact kt
set_option maxRecDepth 65536 in
set_option maxHeartbeats 40000000 in
theorem leave9 {p : Program} {l : Launch} {e : Env} {R : Room} {s : State} {m : MethodId} {args : Array Value} {below : List Frame} {meth : Method} {c : Code} {T0 : State} {locs : List Loc} {cells slots : Nat} {Z : State} {a0 : Array Value} {h0 : Heap} (a1 ar : Addr) (s5 : Slot) (X0 : Stand p l e R s m args below meth c T0 locs cells slots) (hx : p.tables.exec = Jvm.exec) (hZ : Z.Warmed39 s.vm) (hw : ∀ d ∈ tables_1, d.before a0 Z = true) (hby : c.code = prog_2_method_8_code) (hown : s.vm.findClass "com/example/subsumption/subsumption/IntSet" = some m.cls) (e0 : T0.heap = h0)   {target : State} (kt : Steps p.tables e below (T0.setTop (mkF m 62 #[.val (.ref a1), .val (.ref ar), .val (.ref ar), .val (.int (4 : Int32)), .val (.int (Int32.ofNat 4)), s5] [])) target) : Steps p.tables e below (T0.setTop (mkF m 23 #[.val (.ref a1), .val (.ref ar), .val (.ref ar), .val (.int (4 : Int32)), .val (.int (Int32.ofNat 4)), s5] [])) target := by
  show Steps p.tables e below (T0.setTop (mkF m 23 #[.val (.ref a1), .val (.ref ar), .val (.ref ar), .val (.int (4 : Int32)), .val (.int (Int32.ofNat 4)), s5] [])) _
  refine XS.iload X0.here hx rfl (hb hby d9_23) rfl ?_
  show Steps p.tables e below (T0.setTop (mkF m 25 #[.val (.ref a1), .val (.ref ar), .val (.ref ar), .val (.int (4 : Int32)), .val (.int (Int32.ofNat 4)), s5] [(.int (Int32.ofNat 4))])) _
  refine XS.iloadN X0.here hx rfl (hb hby d9_25) rfl ?_
  show Steps p.tables e below (T0.setTop (mkF m 26 #[.val (.ref a1), .val (.ref ar), .val (.ref ar), .val (.int (4 : Int32)), .val (.int (Int32.ofNat 4)), s5] [(.int (4 : Int32)), (.int (Int32.ofNat 4))])) _
  refine XS.icmpYes X0.here hx rfl (pc0 := 26) (pc' := 62) rfl (hb hby d9_26) rfl (flt (fun q => absurd ((own_lt (i := 4) (j := 4) (by omega) (by omega)).mp q) (by omega) : ¬ ((Int32.ofNat 4) < (4 : Int32)))).2.1 (by decide) (by decide) ?_
  exact kt
theorem loop9 {p : Program} {l : Launch} {e : Env} {s : State} {m : MethodId} {args : Array Value} {below : List Frame} {meth : Method} {c : Code} {Z : State} {a0 : Array Value} {n0 : Nat} (a1 ar nr : Addr) (ka kn : ClassId) (vs : List Int32) (zz : Int32) (hx : p.tables.exec = Jvm.exec) (hZ : Z.Warmed39 s.vm) (hw : ∀ d ∈ tables_1, d.before a0 Z = true) (hby : c.code = prog_2_method_8_code) (hml : c.maxLocals = 6) (hown : s.vm.findClass "com/example/subsumption/subsumption/IntSet" = some m.cls) (g_nr : n0 ≤ nr) (ne1 : a1 ≠ nr) (ne2 : ar ≠ nr) :
    ∀ (k i : Nat), i + k = 4 → ∀ (T0 : State) (h0 : Heap) (locs : List Loc) (us : List Int32) (s5 : Slot), Stand p l e ({ frames := 2, cells := 1, slots := 8, locals := 30 } : Room) s m args below meth c T0 locs 1 8 → T0.heap = h0 → Fr n0 locs → n0 ≤ h0.size → One s5 → Exa Z h0 a1 "com/example/subsumption/subsumption/IntSet" → Fld Z h0 a1 "com/example/subsumption/subsumption/IntSet" "slots" "[I" (.ref nr) → Fld Z h0 a1 "com/example/subsumption/subsumption/IntSet" "size" "I" (.int zz) → Arv Z h0 ar ka .int (4 : Int32) (vs.map Value.int) (.int (0 : Int32)) → Arv Z h0 nr kn .int (8 : Int32) (us.map Value.int) (.int (0 : Int32)) → Good 8 us → cnt us ≤ i → (∀ y, y ≠ 0 → (In 8 us y ↔ ∃ j, j < i ∧ vs.getD j 0 = y)) →
      ∃ (T' : State) (h' : Heap) (locs' : List Loc) (us' : List Int32) (s5' : Slot), Stand p l e ({ frames := 2, cells := 1, slots := 8, locals := 30 } : Room) s m args below meth c T' locs' 1 8 ∧ T'.heap = h' ∧ Fr n0 locs' ∧ n0 ≤ h'.size ∧ Keep h0 h' [nr] ∧ Exa Z h' a1 "com/example/subsumption/subsumption/IntSet" ∧ Fld Z h' a1 "com/example/subsumption/subsumption/IntSet" "slots" "[I" (.ref nr) ∧ Fld Z h' a1 "com/example/subsumption/subsumption/IntSet" "size" "I" (.int zz) ∧ Arv Z h' nr kn .int (8 : Int32) (us'.map Value.int) (.int (0 : Int32)) ∧ Good 8 us' ∧ cnt us' ≤ 4 ∧ (∀ y, y ≠ 0 → (In 8 us' y ↔ ∃ j, j < 4 ∧ vs.getD j 0 = y)) ∧
        ∀ target, Steps p.tables e below (T'.setTop (mkF m 62 #[.val (.ref a1), .val (.ref ar), .val (.ref ar), .val (.int (4 : Int32)), .val (.int (Int32.ofNat 4)), s5'] [])) target → Steps p.tables e below (T0.setTop (mkF m 23 #[.val (.ref a1), .val (.ref ar), .val (.ref ar), .val (.int (4 : Int32)), .val (.int (Int32.ofNat i)), s5] [])) target := by
  intro k
  induction k with
  | zero =>
    intro i hi T0 h0 locs us s5 X e0 N Z0 h5 E Fs Fz VO VN hg hc hin
    obtain rfl : i = 4 := by omega
    exact ⟨T0, h0, locs, us, s5, X, e0, N, Z0, Keep.refl _ _, E, Fs, Fz, VN, hg, hc, hin, fun target kt => leave9 a1 ar s5 X hx hZ hw hby hown e0 kt⟩
  | succ k ih =>
    intro i hi T0 h0 locs us s5 X e0 N Z0 h5 E Fs Fz VO VN hg hc hin
    by_cases hv : vs.getD i 0 = 0
    · obtain ⟨T1, h1, L1, X1, e1, N1, z1, K1, E1, Fs1, Fz1, VO1, VN1, st1⟩ := turn9z a1 ar nr ka kn vs us zz i s5 X hx hZ hw hby hml hown e0 N Z0 (by omega) h5 E Fs Fz VO VN g_nr ne1 ne2 hv
      obtain ⟨T2, h2, L2, us2, s52, X2, e2, N2, z2, K2, E2, Fs2, Fz2, VN2, hg2, hc2, hin2, st2⟩ := ih (i + 1) (by omega) T1 h1 L1 us _ X1 e1 N1 z1 (One.val (w := .int (vs.getD i 0)) rfl) E1 Fs1 Fz1 VO1 VN1 hg (by omega) (fun y hy => (hin y hy).trans ⟨fun ⟨j, hj, q⟩ => ⟨j, by omega, q⟩, fun ⟨j, hj, q⟩ => by
        rcases Nat.lt_or_ge j i with q' | q'
        · exact ⟨j, q', q⟩
        · obtain rfl : j = i := by omega
          exact absurd (q.symm.trans hv) hy⟩)
      refine ⟨T2, h2, L2, us2, s52, X2, e2, N2, z2, K1.trans K2 (fun x hx => Or.inl hx), E2, Fs2, Fz2, VN2, hg2, hc2, hin2, fun target kt => st1 _ ?_⟩
      rw [own_succ (by omega)]
      exact st2 _ kt
    · obtain ⟨d, hh⟩ := own_find hg (show cnt us < 8 by omega) (vs.getD i 0)
      obtain ⟨T1, h1, L1, X1, e1, N1, z1, K1, E1, Fs1, Fz1, VO1, VN1, st1⟩ := turn9n a1 ar nr ka kn vs us zz i s5 d X hx hZ hw hby hml hown e0 N Z0 (by omega) h5 E Fs Fz VO VN g_nr ne1 ne2 hg.1 hh hv
      have hp : (own_hash 8 (vs.getD i 0) + d) % 8 < us.length := by rw [hg.1]; exact Nat.mod_lt _ (by decide)
      have hcs := cnt_set (vs.getD i 0) us _ hp
      rw [if_neg hv] at hcs
      obtain ⟨T2, h2, L2, us2, s52, X2, e2, N2, z2, K2, E2, Fs2, Fz2, VN2, hg2, hc2, hin2, st2⟩ := ih (i + 1) (by omega) T1 h1 L1 _ _ X1 e1 N1 z1 (One.val (w := .int (vs.getD i 0)) rfl) E1 Fs1 Fz1 VO1 VN1 (hg.put hv hh) (by omega) (fun y hy => (In.put hg hh hy).trans ⟨fun q => by
        rcases q with q | q
        · exact ⟨i, by omega, q.symm⟩
        · obtain ⟨j, hj, q⟩ := (hin y hy).mp q
          exact ⟨j, by omega, q⟩, fun ⟨j, hj, q⟩ => by
        rcases Nat.lt_or_ge j i with q' | q'
        · exact Or.inr ((hin y hy).mpr ⟨j, q', q⟩)
        · obtain rfl : j = i := by omega
          exact Or.inl q.symm⟩)
      refine ⟨T2, h2, L2, us2, s52, X2, e2, N2, z2, K1.trans K2 (fun x hx => Or.inl hx), E2, Fs2, Fz2, VN2, hg2, hc2, hin2, fun target kt => st1 _ ?_⟩
      rw [own_succ (by omega)]
      exact st2 _ kt
theorem own_z8 {y : Int32} : ∀ j, j < 8 → ([0, 0, 0, 0, 0, 0, 0, 0] : List Int32).getD j 0 = y → y = 0 := by
  intro j hj q
  match j, hj with
  | 0, _ => exact q.symm
  | 1, _ => exact q.symm
  | 2, _ => exact q.symm
  | 3, _ => exact q.symm
  | 4, _ => exact q.symm
  | 5, _ => exact q.symm
  | 6, _ => exact q.symm
  | 7, _ => exact q.symm
  | k + 8, h => exact absurd h (by omega)
theorem d9_0 : decode prog_2_method_8_code 0 = .ok (.aload_n 0, 1) := by decide +kernel
theorem d9_1 : decode prog_2_method_8_code 1 = .ok (.getfield 9, 3) := by decide +kernel
theorem d9_4 : decode prog_2_method_8_code 4 = .ok (.astore_n 1, 1) := by decide +kernel
theorem d9_5 : decode prog_2_method_8_code 5 = .ok (.aload_n 0, 1) := by decide +kernel
theorem d9_6 : decode prog_2_method_8_code 6 = .ok (.iconst 2, 1) := by decide +kernel
theorem d9_7 : decode prog_2_method_8_code 7 = .ok (.aload_n 1, 1) := by decide +kernel
theorem d9_8 : decode prog_2_method_8_code 8 = .ok (.arraylength, 1) := by decide +kernel
theorem d9_9 : decode prog_2_method_8_code 9 = .ok (.imul, 1) := by decide +kernel
theorem d9_10 : decode prog_2_method_8_code 10 = .ok (.newarray .int, 2) := by decide +kernel
theorem d9_12 : decode prog_2_method_8_code 12 = .ok (.putfield 9, 3) := by decide +kernel
theorem d9_15 : decode prog_2_method_8_code 15 = .ok (.aload_n 1, 1) := by decide +kernel
theorem d9_16 : decode prog_2_method_8_code 16 = .ok (.astore_n 2, 1) := by decide +kernel
theorem d9_17 : decode prog_2_method_8_code 17 = .ok (.aload_n 2, 1) := by decide +kernel
theorem d9_18 : decode prog_2_method_8_code 18 = .ok (.arraylength, 1) := by decide +kernel
theorem d9_19 : decode prog_2_method_8_code 19 = .ok (.istore_n 3, 1) := by decide +kernel
theorem d9_20 : decode prog_2_method_8_code 20 = .ok (.iconst 0, 1) := by decide +kernel
theorem d9_21 : decode prog_2_method_8_code 21 = .ok (.istore 4, 2) := by decide +kernel
theorem d9_62 : decode prog_2_method_8_code 62 = .ok (.return_, 1) := by decide +kernel
theorem ef_9 (m : MethodId) (x0 : Addr) : entryFrame m #[(.ref x0)] 6 = mkF m 0 #[.val (.ref x0), .unset, .unset, .unset, .unset, .unset] [] := by first | (simp [entryFrame, mkF, argsToLocals, Value.category]; done) | rfl
def Q9 (Z : State) (a1 : Addr) (zz : Int32) (vs : List Int32) (h0 : Heap) (n0 : Nat) (v : Option Value) (h : Heap) (L : List Loc) : Prop := v = none ∧ Fr n0 L ∧ ∃ (nr : Addr) (kn : ClassId) (us : List Int32), Keep h0 h [a1] ∧ Exa Z h a1 "com/example/subsumption/subsumption/IntSet" ∧ Fld Z h a1 "com/example/subsumption/subsumption/IntSet" "slots" "[I" (.ref nr) ∧ Fld Z h a1 "com/example/subsumption/subsumption/IntSet" "size" "I" (.int zz) ∧ Arv Z h nr kn .int (8 : Int32) (us.map Value.int) (.int (0 : Int32)) ∧ n0 ≤ nr ∧ h0.size ≤ nr ∧ a1 ≠ nr ∧ Good 8 us ∧ cnt us ≤ 4 ∧ (∀ y, y ≠ 0 → (In 8 us y ↔ ∃ j, j < 4 ∧ vs.getD j 0 = y))
set_option maxRecDepth 65536 in
set_option maxHeartbeats 40000000 in
theorem rm9 (l : Launch) (Z : State) (a0 : Array Value) (hw : ∀ d ∈ tables_1, d.before a0 Z = true) (ws : List Jvm.Cond) (a1 : Addr) (ar : Addr) (ka : ClassId) (vs : List Int32) (zz : Int32) (h0 : Heap) (n0 : Nat) (Z0 : n0 ≤ h0.size) (E_a1 : Exa Z h0 a1 "com/example/subsumption/subsumption/IntSet") (g_a1 : n0 ≤ a1) (F_s : Fld Z h0 a1 "com/example/subsumption/subsumption/IntSet" "slots" "[I" (.ref ar)) (F_z : Fld Z h0 a1 "com/example/subsumption/subsumption/IntSet" "size" "I" (.int zz)) (VO : Arv Z h0 ar ka .int (4 : Int32) (vs.map Value.int) (.int (0 : Int32))) (ne0 : a1 ≠ ar)  :
    MetFree l (⟨"com/example/subsumption/subsumption/IntSet", "grow", "()V"⟩ : MethodName) (head1 (Jvm.Cond.code (⟨"com/example/subsumption/subsumption/IntSet", "grow", "()V"⟩ : MethodName) prog_2_method_8_code 6 none :: ws) ({ frames := 2, cells := 1, slots := 8, locals := 30 } : Room)) (fun a U => a = #[(.ref a1)] ∧ Z.Warmed39 U.vm ∧ U.heap = h0) (fun _ _ _ _ _ => True) (fun _ U o U' => ∃ v L, o = .returned v ∧ Q9 Z a1 zz vs h0 n0 v U'.heap L ∧ FrameEnd U o U' L ({ frames := 2, cells := 1, slots := 8, locals := 30 } : Room).cells ({ frames := 2, cells := 1, slots := 8, locals := 30 } : Room).slots) := by
  refine MetFree.of_bodySF (plainFor_of_name pn_com_example_subsumption_subsumption_IntSet) hisR ?_
  intro p e s m args below meth cd s₁ Bd hml0 hPre hKc
  obtain ⟨rfl, hZ, hHp⟩ := hPre
  have hx := Bd.exec
  have hby := Bd.bytes
  have hml : cd.maxLocals = 6 := hml0
  have hown : s.vm.findClass "com/example/subsumption/subsumption/IntSet" = some m.cls := findClass_of_methodNamed Bd.named
  have hnm := (name_of_methodNamed Bd.named Bd.method).1
  have X0 : Stand p l e ({ frames := 2, cells := 1, slots := 8, locals := 30 } : Room) s m #[(.ref a1)] below meth cd s₁ [] 0 0 := Stand.of_body Bd
  have e0 : s₁.heap = h0 := by rw [← hHp, Bd.state]; rfl
  have N0 := Fr.nil n0
  have pre0 : ∀ t, Steps p.tables e below (s₁.setTop (mkF m 0 #[.val (.ref a1), .unset, .unset, .unset, .unset, .unset] [])) t → Steps p.tables e below (s₁.setTop (entryFrame m #[(.ref a1)] 6)) t := fun t kz => castTop (ef_9 m a1) kz
  obtain ⟨T1, X1, e1, st1⟩ := getF X0 hx hZ hown (host := "") (Or.inl (hw _ (List.mem_of_getElem? (i := 22) rfl))) Via.refl e0 F_s (g := (mkF m 1 #[.val (.ref a1), .unset, .unset, .unset, .unset, .unset] [(.ref a1)])) rfl rfl (hb hby d9_1)
  obtain ⟨c2, Ar2, -, S2, M2, -, -⟩ := (id VO)
  obtain ⟨T3, h3, k3, X3, e3, E3, A3, st3⟩ := newP X1 hx hZ (hw _ (List.mem_of_getElem? (i := 21) rfl)) e1 (g := (mkF m 10 #[.val (.ref a1), .val (.ref ar), .unset, .unset, .unset, .unset] [(.int ((2 : Int32) * (4 : Int32))), (.ref a1)])) rfl (hb hby d9_10) rfl (by decide) (cap := 8) (by decide) (by decide) (Nat.le_of_ble_eq_true rfl) (Nat.le_of_ble_eq_true rfl)
  obtain ⟨nr, g3⟩ : ∃ z, z = h0.size := ⟨_, rfl⟩
  rw [← g3] at A3 st3
  have g_nr : n0 ≤ nr := Nat.le_trans Z0 (Nat.le_of_eq g3.symm)
  have sz_nr : h0.size ≤ nr := Nat.le_trans (Keep.refl h0 [a1]).1 (Nat.le_of_eq g3.symm)
  have ne_a1_nr : a1 ≠ nr := Nat.ne_of_lt (Nat.lt_of_lt_of_le E_a1.lt (Nat.le_of_eq g3.symm))
  have ne_ar_nr : ar ≠ nr := Nat.ne_of_lt (Nat.lt_of_lt_of_le VO.lt (Nat.le_of_eq g3.symm))
  have z3 : n0 ≤ h3.size := Nat.le_trans Z0 E3.1
  have f4_E_a1 := E_a1.ext E3
  have f5_F_a1_slots := F_s.ext E3
  have f6_F_a1_size := F_z.ext E3
  have f7_V_ar := VO.ext E3
  have K8 : Keep h0 h3 [a1] := (Keep.refl h0 [a1]).ext E3
  have V_nr := Arv.new A3 (by decide)
  obtain ⟨T9, h9, X9, e9, W9, st9⟩ := putF X3 hx hZ hown (host := "") (Or.inl (hw _ (List.mem_of_getElem? (i := 22) rfl))) Via.refl e3 f5_F_a1_slots f4_E_a1 (Or.inl (hw _ (List.mem_of_getElem? (i := 23) rfl))) (hw _ (List.mem_of_getElem? (i := 13) rfl)) (ty := (.array .int)) (by decide) rfl rfl (g := (mkF m 12 #[.val (.ref a1), .val (.ref ar), .unset, .unset, .unset, .unset] [(.ref nr), (.ref a1)])) rfl rfl (hb hby d9_12)
  have f10_E_a1 := f4_E_a1.wr W9
  have f11_F_a1_size := f6_F_a1_size.other W9 (Or.inr (slot_ne (Or.inl (hw _ (List.mem_of_getElem? (i := 40) rfl))) (Or.inl (hw _ (List.mem_of_getElem? (i := 23) rfl))) (by decide) (t := .int) (t' := (.array .int)) (by decide) (by decide)))
  have f12_V_ar := f7_V_ar.other W9 (Ne.symm ne0)
  have f13_V_nr := V_nr.other W9 (Ne.symm ne_a1_nr)
  have fw9 := f5_F_a1_slots.same W9
  have K14 : Keep h0 h9 [a1] := K8.wr W9 (Or.inl (List.mem_of_getElem? (i := 0) rfl))
  have N9 := Fr.snoc X9 N0 g_a1
  have z9 : n0 ≤ h9.size := Nat.le_trans z3 (Keep.of_wr W9).1
  obtain ⟨c15, Ar15, -, S15, M15, -, -⟩ := (id f12_V_ar)
  have VN0 : Arv Z h9 nr k3 .int (8 : Int32) (([0, 0, 0, 0, 0, 0, 0, 0] : List Int32).map Value.int) (.int (0 : Int32)) := by
    have q := f13_V_nr
    rw [show ((2 : Int32) * (4 : Int32)) = (8 : Int32) from by decide] at q
    exact q.pad (pad_rep [] (.int (0 : Int32)) 8)
  obtain ⟨TL, hL, LL, us, s5, XL, eL, NL, zL, KL, EL, FsL, FzL, VL, hg, hc, hin, stL⟩ := loop9 (n0 := n0) a1 ar nr ka _ vs zz hx hZ hw hby hml hown g_nr ne_a1_nr ne_ar_nr 4 0 rfl T9 h9 _ _ .unset X9 e9 N9 z9 One.u f10_E_a1 fw9 f11_F_a1_size f12_V_ar VN0 Good.zero (by decide) (fun y hy => ⟨fun ⟨j, hj, q⟩ => absurd q (by intro q; exact hy (own_z8 j hj q)), fun ⟨j, hj, _⟩ => absurd hj (Nat.not_lt_zero j)⟩)
  have KG : Keep h0 hL [a1] := K14.trans KL (allS (Or.inr sz_nr) all0)
  obtain ⟨fs, hr, hrun, hended, hW, hsame⟩ := XL.leave (v := none) (fun _ => rfl)
  refine ⟨_, _, pre0 _ ?_, hrun, hended, _, _, rfl, ?_, ⟨_, rfl⟩, hW, hsame.mono (by decide) (by decide)⟩
  · show Steps p.tables e below (s₁.setTop (mkF m 0 #[.val (.ref a1), .unset, .unset, .unset, .unset, .unset] [])) _
    refine XS.aloadN X0.here hx rfl (hb hby d9_0) rfl rfl ?_
    show Steps p.tables e below (s₁.setTop (mkF m 1 #[.val (.ref a1), .unset, .unset, .unset, .unset, .unset] [(.ref a1)])) _
    refine st1 _ ?_
    show Steps p.tables e below (T1.setTop (mkF m 4 #[.val (.ref a1), .unset, .unset, .unset, .unset, .unset] [(.ref ar)])) _
    refine XS.astoreN X1.here hx rfl (hb hby d9_4) rfl rfl (l' := #[.val (.ref a1), .val (.ref ar), .unset, .unset, .unset, .unset]) rfl ?_
    show Steps p.tables e below (T1.setTop (mkF m 5 #[.val (.ref a1), .val (.ref ar), .unset, .unset, .unset, .unset] [])) _
    refine XS.aloadN X1.here hx rfl (hb hby d9_5) rfl rfl ?_
    show Steps p.tables e below (T1.setTop (mkF m 6 #[.val (.ref a1), .val (.ref ar), .unset, .unset, .unset, .unset] [(.ref a1)])) _
    refine XS.iconst X1.here hx rfl (hb hby d9_6) ?_
    show Steps p.tables e below (T1.setTop (mkF m 7 #[.val (.ref a1), .val (.ref ar), .unset, .unset, .unset, .unset] [(.int (2 : Int32)), (.ref a1)])) _
    refine XS.aloadN X1.here hx rfl (hb hby d9_7) rfl rfl ?_
    show Steps p.tables e below (T1.setTop (mkF m 8 #[.val (.ref a1), .val (.ref ar), .unset, .unset, .unset, .unset] [(.ref ar), (.int (2 : Int32)), (.ref a1)])) _
    refine X1.arraylength hx (by rw [e1]; exact Ar2.1) (State.isArrayOf_alike hZ.alike Ar2.2.1) (g := (mkF m 8 #[.val (.ref a1), .val (.ref ar), .unset, .unset, .unset, .unset] [(.ref ar), (.int (2 : Int32)), (.ref a1)])) rfl rfl (hb hby d9_8) _ ?_
    rw [len_of S2 M2]
    show Steps p.tables e below (T1.setTop (mkF m 9 #[.val (.ref a1), .val (.ref ar), .unset, .unset, .unset, .unset] [(.int (4 : Int32)), (.int (2 : Int32)), (.ref a1)])) _
    refine XS.imul X1.here hx rfl (hb hby d9_9) rfl ?_
    show Steps p.tables e below (T1.setTop (mkF m 10 #[.val (.ref a1), .val (.ref ar), .unset, .unset, .unset, .unset] [(.int ((2 : Int32) * (4 : Int32))), (.ref a1)])) _
    refine st3 _ ?_
    show Steps p.tables e below (T3.setTop (mkF m 12 #[.val (.ref a1), .val (.ref ar), .unset, .unset, .unset, .unset] [(.ref nr), (.ref a1)])) _
    refine st9 _ ?_
    show Steps p.tables e below (T9.setTop (mkF m 15 #[.val (.ref a1), .val (.ref ar), .unset, .unset, .unset, .unset] [])) _
    refine XS.aloadN X9.here hx rfl (hb hby d9_15) rfl rfl ?_
    show Steps p.tables e below (T9.setTop (mkF m 16 #[.val (.ref a1), .val (.ref ar), .unset, .unset, .unset, .unset] [(.ref ar)])) _
    refine XS.astoreN X9.here hx rfl (hb hby d9_16) rfl rfl (l' := #[.val (.ref a1), .val (.ref ar), .val (.ref ar), .unset, .unset, .unset]) rfl ?_
    show Steps p.tables e below (T9.setTop (mkF m 17 #[.val (.ref a1), .val (.ref ar), .val (.ref ar), .unset, .unset, .unset] [])) _
    refine XS.aloadN X9.here hx rfl (hb hby d9_17) rfl rfl ?_
    show Steps p.tables e below (T9.setTop (mkF m 18 #[.val (.ref a1), .val (.ref ar), .val (.ref ar), .unset, .unset, .unset] [(.ref ar)])) _
    refine X9.arraylength hx (by rw [e9]; exact Ar15.1) (State.isArrayOf_alike hZ.alike Ar15.2.1) (g := (mkF m 18 #[.val (.ref a1), .val (.ref ar), .val (.ref ar), .unset, .unset, .unset] [(.ref ar)])) rfl rfl (hb hby d9_18) _ ?_
    rw [len_of S15 M15]
    show Steps p.tables e below (T9.setTop (mkF m 19 #[.val (.ref a1), .val (.ref ar), .val (.ref ar), .unset, .unset, .unset] [(.int (4 : Int32))])) _
    refine XS.istoreN X9.here hx rfl (hb hby d9_19) rfl (l' := #[.val (.ref a1), .val (.ref ar), .val (.ref ar), .val (.int (4 : Int32)), .unset, .unset]) rfl ?_
    show Steps p.tables e below (T9.setTop (mkF m 20 #[.val (.ref a1), .val (.ref ar), .val (.ref ar), .val (.int (4 : Int32)), .unset, .unset] [])) _
    refine XS.iconst X9.here hx rfl (hb hby d9_20) ?_
    show Steps p.tables e below (T9.setTop (mkF m 21 #[.val (.ref a1), .val (.ref ar), .val (.ref ar), .val (.int (4 : Int32)), .unset, .unset] [(.int (0 : Int32))])) _
    refine XS.istore X9.here hx rfl (hb hby d9_21) rfl (l' := #[.val (.ref a1), .val (.ref ar), .val (.ref ar), .val (.int (4 : Int32)), .val (.int (0 : Int32)), .unset]) rfl ?_
    show Steps p.tables e below (T9.setTop (mkF m 23 #[.val (.ref a1), .val (.ref ar), .val (.ref ar), .val (.int (4 : Int32)), .val (.int (0 : Int32)), .unset] [])) _
    refine stL _ ?_
    show Steps p.tables e below (TL.setTop (mkF m 62 #[.val (.ref a1), .val (.ref ar), .val (.ref ar), .val (.int (4 : Int32)), .val (.int (Int32.ofNat 4)), s5] [])) _
    exact XL.returnOut hx Bd.returns (hb hby d9_62) hr
  · show Q9 Z a1 zz vs h0 n0 _ TL.heap _
    rw [eL]
    exact ⟨rfl, NL, nr, _, us, KG, EL, FsL, FzL, VL, g_nr, sz_nr, ne_a1_nr, hg, hc, hin⟩
theorem own_priv {s : State} {args : Array Value} (hsel : (Cond.selects "com/example/subsumption/subsumption/IntSet" (⟨"com/example/subsumption/subsumption/IntSet", "add", "(I)Z"⟩ : MethodName) (⟨"com/example/subsumption/subsumption/IntSet", "add", "(I)Z"⟩ : MethodName)).before args s = true) (hpriv : s.PrivateAt (⟨"com/example/subsumption/subsumption/IntSet", "grow", "()V"⟩ : MethodName)) (hinst : (Cond.instanceMethod (⟨"com/example/subsumption/subsumption/IntSet", "grow", "()V"⟩ : MethodName)).before args s = true) : (Cond.selects "com/example/subsumption/subsumption/IntSet" (⟨"com/example/subsumption/subsumption/IntSet", "grow", "()V"⟩ : MethodName) (⟨"com/example/subsumption/subsumption/IntSet", "grow", "()V"⟩ : MethodName)).before args s = true := by
  obtain ⟨c2, r2, m2, h1, h2, h3, h4, kP, hkP, hkPi⟩ := Cond.selects_spec hsel
  exact Jvm.Stand.selects_self_of_private (y := (⟨"com/example/subsumption/subsumption/IntSet", "grow", "()V"⟩ : MethodName)) (show s.vm.findClass "com/example/subsumption/subsumption/IntSet" = some m2.cls from findClass_of_methodNamed h3) hkP hkPi hpriv hinst (by decide)
theorem own_m4 (x : Int32) (d : Nat) : (own_hash 4 x + d) % 4 < 4 := Nat.mod_lt _ (by decide)
theorem d6_0 : decode prog_2_method_2_code 0 = .ok (.iload_n 1, 1) := by decide +kernel
theorem d6_1 : decode prog_2_method_2_code 1 = .ok (.ifCond .lt 9, 3) := by decide +kernel
theorem d6_4 : decode prog_2_method_2_code 4 = .ok (.iload_n 1, 1) := by decide +kernel
theorem d6_5 : decode prog_2_method_2_code 5 = .ok (.ldc 15, 2) := by decide +kernel
theorem d6_7 : decode prog_2_method_2_code 7 = .ok (.if_icmp .ne 17, 3) := by decide +kernel
theorem d6_24 : decode prog_2_method_2_code 24 = .ok (.iload_n 1, 1) := by decide +kernel
theorem d6_25 : decode prog_2_method_2_code 25 = .ok (.iconst 1, 1) := by decide +kernel
theorem d6_26 : decode prog_2_method_2_code 26 = .ok (.iadd, 1) := by decide +kernel
theorem d6_27 : decode prog_2_method_2_code 27 = .ok (.aload_n 0, 1) := by decide +kernel
theorem d6_28 : decode prog_2_method_2_code 28 = .ok (.getfield 9, 3) := by decide +kernel
theorem d6_31 : decode prog_2_method_2_code 31 = .ok (.invokestatic 25, 3) := by decide +kernel
theorem d6_34 : decode prog_2_method_2_code 34 = .ok (.istore_n 2, 1) := by decide +kernel
theorem d6_35 : decode prog_2_method_2_code 35 = .ok (.aload_n 0, 1) := by decide +kernel
theorem d6_36 : decode prog_2_method_2_code 36 = .ok (.getfield 9, 3) := by decide +kernel
theorem d6_39 : decode prog_2_method_2_code 39 = .ok (.iload_n 2, 1) := by decide +kernel
theorem d6_40 : decode prog_2_method_2_code 40 = .ok (.iaload, 1) := by decide +kernel
theorem d6_41 : decode prog_2_method_2_code 41 = .ok (.ifCond .eq 5, 3) := by decide +kernel
theorem d6_44 : decode prog_2_method_2_code 44 = .ok (.iconst 0, 1) := by decide +kernel
theorem d6_45 : decode prog_2_method_2_code 45 = .ok (.ireturn, 1) := by decide +kernel
theorem ef_6 (m : MethodId) (x0 : Addr) (x1 : Int32) : entryFrame m #[(.ref x0), (.int x1)] 3 = mkF m 0 #[.val (.ref x0), .val (.int x1), .unset] [] := by first | (simp [entryFrame, mkF, argsToLocals, Value.category]; done) | rfl
def Q6 (Z : State) (a1 ar : Addr) (x : Int32) (vs : List Int32) (sz : Nat) (h0 : Heap) (n0 : Nat) (v : Option Value) (h : Heap) (L : List Loc) : Prop := ∃ r : Int32, v = some (.int r) ∧ Fr n0 L ∧ ∃ (ar' : Addr) (n' : Nat) (vs' : List Int32) (sz' : Nat), Keep h0 h [a1, ar] ∧ SetA Z h n0 a1 ar' n' vs' sz' ∧ (∀ y, y ≠ 0 → (In n' vs' y ↔ (y = x ∨ In 4 vs y))) ∧ sz' ≤ sz + 1 ∧ (ar' = ar ∨ h0.size ≤ ar')
set_option maxRecDepth 65536 in
set_option maxHeartbeats 40000000 in
theorem rm6a (l : Launch) (Z : State) (a0 : Array Value) (hw : ∀ d ∈ tables_1, d.before a0 Z = true) (ws : List Jvm.Cond) (a1 : Addr) (p2 : Int32) (ar : Addr) (ka : ClassId) (vs : List Int32) (sz d : Nat) (h0 : Heap) (n0 : Nat) (Z0 : n0 ≤ h0.size) (E_a1 : Exa Z h0 a1 "com/example/subsumption/subsumption/IntSet") (F_s : Fld Z h0 a1 "com/example/subsumption/subsumption/IntSet" "slots" "[I" (.ref ar)) (F_z : Fld Z h0 a1 "com/example/subsumption/subsumption/IntSet" "size" "I" (.int (Int32.ofNat sz))) (VO : Arv Z h0 ar ka .int (4 : Int32) (vs.map Value.int) (.int (0 : Int32))) (g_a1 : n0 ≤ a1) (g_ar : n0 ≤ ar) (ne0 : a1 ≠ ar) (hlen : vs.length = 4) (hh : Hit 4 vs (p2 + (1 : Int32)) d) (hp1 : ¬ p2 < 0) (hp2 : ¬ p2 = 2147483647) (hg : Good 4 vs) (hsz : sz ≤ 2) (hcn : cnt vs = sz) (hx0 : ¬ (p2 + (1 : Int32)) = 0) (hc41 : ¬ ((own_at 4 vs (p2 + (1 : Int32)) d) = (0 : Int32))) :
    MetFree l (⟨"com/example/subsumption/subsumption/IntSet", "add", "(I)Z"⟩ : MethodName) (head1 (Jvm.Cond.code (⟨"com/example/subsumption/subsumption/IntSet", "add", "(I)Z"⟩ : MethodName) prog_2_method_2_code 3 (some .boolean) :: ws) ({ frames := 3, cells := 1, slots := 8, locals := 47 } : Room)) (fun a U => a = #[(.ref a1), (.int p2)] ∧ Z.Warmed39 U.vm ∧ U.heap = h0) (fun _ _ _ _ _ => True) (fun _ U o U' => ∃ v L, o = .returned v ∧ Q6 Z a1 ar (p2 + (1 : Int32)) vs sz h0 n0 v U'.heap L ∧ FrameEnd U o U' L ({ frames := 3, cells := 1, slots := 8, locals := 47 } : Room).cells ({ frames := 3, cells := 1, slots := 8, locals := 47 } : Room).slots) := by
  refine MetFree.of_bodySF (plainFor_of_name pn_com_example_subsumption_subsumption_IntSet) hisR ?_
  intro p e s m args below meth cd s₁ Bd hml0 hPre hKc
  obtain ⟨rfl, hZ, hHp⟩ := hPre
  have hx := Bd.exec
  have hby := Bd.bytes
  have hml : cd.maxLocals = 3 := hml0
  have hown : s.vm.findClass "com/example/subsumption/subsumption/IntSet" = some m.cls := findClass_of_methodNamed Bd.named
  have hnm := (name_of_methodNamed Bd.named Bd.method).1
  have X0 : Stand p l e ({ frames := 3, cells := 1, slots := 8, locals := 47 } : Room) s m #[(.ref a1), (.int p2)] below meth cd s₁ [] 0 0 := Stand.of_body Bd
  have e0 : s₁.heap = h0 := by rw [← hHp, Bd.state]; rfl
  have N0 := Fr.nil n0
  have pre0 : ∀ t, Steps p.tables e below (s₁.setTop (mkF m 0 #[.val (.ref a1), .val (.int p2), .unset] [])) t → Steps p.tables e below (s₁.setTop (entryFrame m #[(.ref a1), (.int p2)] 3)) t := fun t kz => castTop (ef_6 m a1 p2) kz
  obtain ⟨T1, X1, e1, st1⟩ := getF X0 hx hZ hown (host := "") (Or.inl (hw _ (List.mem_of_getElem? (i := 22) rfl))) Via.refl e0 F_s (g := (mkF m 28 #[.val (.ref a1), .val (.int p2), .unset] [(.ref a1), (.int (p2 + (1 : Int32)))])) rfl rfl (hb hby d6_28)
  obtain ⟨_, _, ⟨T2, L2, k2, n2⟩, -, X2, ⟨Lc2, hQ2, l2, y2, z2⟩, st2⟩ := Jvm.LawKit.callS X1 hx (y := (⟨"com/example/subsumption/subsumption/IntSet", "slotOf", "(I[I)I"⟩ : MethodName)) hown (mvT hZ (hw _ (List.mem_of_getElem? (i := 30) rfl))) (mvT hZ (hw _ (List.mem_of_getElem? (i := 31) rfl))) (mvT hZ (hw _ (List.mem_of_getElem? (i := 14) rfl))) (mvT hZ (hw _ (List.mem_of_getElem? (i := 32) rfl))) (by decide) (backOf (W := 0) (rm7_4 l Z a0 hw [] (p2 + (1 : Int32)) ar ka vs d h0 n0 Z0 VO hh) hZ (hw _ (List.mem_of_getElem? (i := 32) rfl)) (hw _ (List.mem_of_getElem? (i := 14) rfl)) (by decide) (by decide)) (g := (mkF m 31 #[.val (.ref a1), .val (.int p2), .unset] [(.ref ar), (.int (p2 + (1 : Int32)))])) rfl (by rw [hml]; rfl) (argsL := [(.int (p2 + (1 : Int32))), (.ref ar)]) (rest := []) (lenOf pd__I_I_I rfl) rfl (by show 2 * 0 + _ ≤ _; exact Nat.le_of_eq rfl) (hb hby d6_31) (fun _ _ => ⟨rfl, e1, (Nat.le_of_ble_eq_true rfl), (Nat.le_of_ble_eq_true rfl)⟩)
  dsimp only [Pt.U, Pt.locs, Pt.cells, Pt.slots] at X2 l2 y2 z2 st2 hQ2
  subst l2 y2 z2
  obtain ⟨rfl, N2q, e2⟩ := hQ2
  have N2 := Fr.app N0 N2q
  obtain ⟨T3, X3, e3, st3⟩ := getF X2 hx hZ hown (host := "") (Or.inl (hw _ (List.mem_of_getElem? (i := 22) rfl))) Via.refl e2 F_s (g := (mkF m 36 #[.val (.ref a1), .val (.int p2), .val (.int (Int32.ofNat ((own_hash 4 (p2 + (1 : Int32)) + d) % 4)))] [(.ref a1)])) rfl rfl (hb hby d6_36)
  obtain ⟨c4, Ar4, -, S4, -, H4, -⟩ := (id VO)
  have hin4 : ¬ ((Int32.ofNat ((own_hash 4 (p2 + (1 : Int32)) + d) % 4)) < 0 ∨ c4.slots.size ≤ ((Int32.ofNat ((own_hash 4 (p2 + (1 : Int32)) + d) % 4))).toNatClampNeg) := inb_of S4 ⟨own_nn (by have := own_m4 (p2 + (1 : Int32)) d; omega), (own_lt (j := 4) (by have := own_m4 (p2 + (1 : Int32)) d; omega) (by omega)).mpr (own_m4 (p2 + (1 : Int32)) d)⟩
  have hat4 : c4.slots[((Int32.ofNat ((own_hash 4 (p2 + (1 : Int32)) + d) % 4))).toNatClampNeg]? = some (.int (own_at 4 vs (p2 + (1 : Int32)) d)) := H4.at hin4 (by rw [own_natC (by have := own_m4 (p2 + (1 : Int32)) d; omega)]; exact own_getI vs _)
  obtain ⟨fs, hr, hrun, hended, hW, hsame⟩ := X3.leave (v := some (.int (0 : Int32))) (fun h => by rw [Bd.returns] at h; cases h)
  refine ⟨_, _, pre0 _ ?_, hrun, hended, _, _, rfl, ?_, ⟨_, rfl⟩, hW, hsame.mono (by decide) (by decide)⟩
  · show Steps p.tables e below (s₁.setTop (mkF m 0 #[.val (.ref a1), .val (.int p2), .unset] [])) _
    refine XS.iloadN X0.here hx rfl (hb hby d6_0) rfl ?_
    show Steps p.tables e below (s₁.setTop (mkF m 1 #[.val (.ref a1), .val (.int p2), .unset] [(.int p2)])) _
    refine XS.ifNo X0.here hx rfl (hb hby d6_1) rfl ((if0 _ _).trans (flt (hp1 : ¬ (p2 < (0 : Int32)))).1) ?_
    show Steps p.tables e below (s₁.setTop (mkF m 4 #[.val (.ref a1), .val (.int p2), .unset] [])) _
    refine XS.iloadN X0.here hx rfl (hb hby d6_4) rfl ?_
    show Steps p.tables e below (s₁.setTop (mkF m 5 #[.val (.ref a1), .val (.int p2), .unset] [(.int p2)])) _
    refine X0.ldcInt hx hown (mvT hZ (hw _ (List.mem_of_getElem? (i := 29) rfl))) (g := (mkF m 5 #[.val (.ref a1), .val (.int p2), .unset] [(.int p2)])) rfl (hb hby d6_5) _ ?_
    show Steps p.tables e below (s₁.setTop (mkF m 7 #[.val (.ref a1), .val (.int p2), .unset] [(.int (2147483647 : Int32)), (.int p2)])) _
    refine XS.icmpYes X0.here hx rfl (pc0 := 7) (pc' := 24) rfl (hb hby d6_7) rfl (feq (hp2 : ¬ (p2 = (2147483647 : Int32)))).2 (by decide) (by decide) ?_
    show Steps p.tables e below (s₁.setTop (mkF m 24 #[.val (.ref a1), .val (.int p2), .unset] [])) _
    refine XS.iloadN X0.here hx rfl (hb hby d6_24) rfl ?_
    show Steps p.tables e below (s₁.setTop (mkF m 25 #[.val (.ref a1), .val (.int p2), .unset] [(.int p2)])) _
    refine XS.iconst X0.here hx rfl (hb hby d6_25) ?_
    show Steps p.tables e below (s₁.setTop (mkF m 26 #[.val (.ref a1), .val (.int p2), .unset] [(.int (1 : Int32)), (.int p2)])) _
    refine XS.iadd X0.here hx rfl (hb hby d6_26) rfl ?_
    show Steps p.tables e below (s₁.setTop (mkF m 27 #[.val (.ref a1), .val (.int p2), .unset] [(.int (p2 + (1 : Int32)))])) _
    refine XS.aloadN X0.here hx rfl (hb hby d6_27) rfl rfl ?_
    show Steps p.tables e below (s₁.setTop (mkF m 28 #[.val (.ref a1), .val (.int p2), .unset] [(.ref a1), (.int (p2 + (1 : Int32)))])) _
    refine st1 _ ?_
    show Steps p.tables e below (T1.setTop (mkF m 31 #[.val (.ref a1), .val (.int p2), .unset] [(.ref ar), (.int (p2 + (1 : Int32)))])) _
    refine st2 _ ?_
    show Steps p.tables e below (T2.setTop (mkF m 34 #[.val (.ref a1), .val (.int p2), .unset] [(.int (Int32.ofNat ((own_hash 4 (p2 + (1 : Int32)) + d) % 4)))])) _
    refine XS.istoreN X2.here hx rfl (hb hby d6_34) rfl (l' := #[.val (.ref a1), .val (.int p2), .val (.int (Int32.ofNat ((own_hash 4 (p2 + (1 : Int32)) + d) % 4)))]) rfl ?_
    show Steps p.tables e below (T2.setTop (mkF m 35 #[.val (.ref a1), .val (.int p2), .val (.int (Int32.ofNat ((own_hash 4 (p2 + (1 : Int32)) + d) % 4)))] [])) _
    refine XS.aloadN X2.here hx rfl (hb hby d6_35) rfl rfl ?_
    show Steps p.tables e below (T2.setTop (mkF m 36 #[.val (.ref a1), .val (.int p2), .val (.int (Int32.ofNat ((own_hash 4 (p2 + (1 : Int32)) + d) % 4)))] [(.ref a1)])) _
    refine st3 _ ?_
    show Steps p.tables e below (T3.setTop (mkF m 39 #[.val (.ref a1), .val (.int p2), .val (.int (Int32.ofNat ((own_hash 4 (p2 + (1 : Int32)) + d) % 4)))] [(.ref ar)])) _
    refine XS.iloadN X3.here hx rfl (hb hby d6_39) rfl ?_
    show Steps p.tables e below (T3.setTop (mkF m 40 #[.val (.ref a1), .val (.int p2), .val (.int (Int32.ofNat ((own_hash 4 (p2 + (1 : Int32)) + d) % 4)))] [(.int (Int32.ofNat ((own_hash 4 (p2 + (1 : Int32)) + d) % 4))), (.ref ar)])) _
    refine X3.iaload hx (j := (Int32.ofNat ((own_hash 4 (p2 + (1 : Int32)) + d) % 4))) (v := (.int (own_at 4 vs (p2 + (1 : Int32)) d))) (by rw [e3]; exact Ar4.1) (State.isArrayOf_alike hZ.alike Ar4.2.1) Ar4.2.2 hin4 hat4 (g := (mkF m 40 #[.val (.ref a1), .val (.int p2), .val (.int (Int32.ofNat ((own_hash 4 (p2 + (1 : Int32)) + d) % 4)))] [(.int (Int32.ofNat ((own_hash 4 (p2 + (1 : Int32)) + d) % 4))), (.ref ar)])) rfl rfl (hb hby d6_40) _ ?_
    show Steps p.tables e below (T3.setTop (mkF m 41 #[.val (.ref a1), .val (.int p2), .val (.int (Int32.ofNat ((own_hash 4 (p2 + (1 : Int32)) + d) % 4)))] [(.int (own_at 4 vs (p2 + (1 : Int32)) d))])) _
    refine XS.ifNo X3.here hx rfl (hb hby d6_41) rfl ((if0 _ _).trans (feq hc41).1) ?_
    show Steps p.tables e below (T3.setTop (mkF m 44 #[.val (.ref a1), .val (.int p2), .val (.int (Int32.ofNat ((own_hash 4 (p2 + (1 : Int32)) + d) % 4)))] [])) _
    refine XS.iconst X3.here hx rfl (hb hby d6_44) ?_
    show Steps p.tables e below (T3.setTop (mkF m 45 #[.val (.ref a1), .val (.int p2), .val (.int (Int32.ofNat ((own_hash 4 (p2 + (1 : Int32)) + d) % 4)))] [(.int (0 : Int32))])) _
    exact retN X3 hx (t := .boolean) Bd.returns (by simp) (hb hby d6_45) hr
  · show Q6 Z a1 ar (p2 + (1 : Int32)) vs sz h0 n0 _ T3.heap _
    rw [e3]
    exact ⟨_, rfl, N2, ar, 4, vs, sz, (Keep.refl h0 [a1, ar]), ⟨E_a1, F_s, F_z, ⟨ka, VO⟩, g_a1, g_ar, ne0, hg, Or.inl ⟨rfl, hsz, hcn⟩⟩, (fun y hy => ⟨Or.inr, fun q => q.elim (fun q => q ▸ (Hit.iff hg hx0 hh).mpr (hh.2.2.resolve_left hc41)) id⟩), by omega, Or.inl rfl⟩
theorem own_small {sz : Nat} (h : sz ≤ 1) : ¬ ((4 : Int32) < ((2 : Int32) * ((Int32.ofNat sz) + (1 : Int32)))) := by
  match sz, h with
  | 0, _ => decide
  | 1, _ => decide
  | k + 2, h => exact absurd h (by omega)
theorem own_big : (4 : Int32) < ((2 : Int32) * ((Int32.ofNat 2) + (1 : Int32))) := by decide
theorem d6_46 : decode prog_2_method_2_code 46 = .ok (.aload_n 0, 1) := by decide +kernel
theorem d6_47 : decode prog_2_method_2_code 47 = .ok (.getfield 9, 3) := by decide +kernel
theorem d6_50 : decode prog_2_method_2_code 50 = .ok (.iload_n 2, 1) := by decide +kernel
theorem d6_51 : decode prog_2_method_2_code 51 = .ok (.iload_n 1, 1) := by decide +kernel
theorem d6_52 : decode prog_2_method_2_code 52 = .ok (.iconst 1, 1) := by decide +kernel
theorem d6_53 : decode prog_2_method_2_code 53 = .ok (.iadd, 1) := by decide +kernel
theorem d6_54 : decode prog_2_method_2_code 54 = .ok (.iastore, 1) := by decide +kernel
theorem d6_55 : decode prog_2_method_2_code 55 = .ok (.aload_n 0, 1) := by decide +kernel
theorem d6_56 : decode prog_2_method_2_code 56 = .ok (.dup, 1) := by decide +kernel
theorem d6_57 : decode prog_2_method_2_code 57 = .ok (.getfield 29, 3) := by decide +kernel
theorem d6_60 : decode prog_2_method_2_code 60 = .ok (.iconst 1, 1) := by decide +kernel
theorem d6_61 : decode prog_2_method_2_code 61 = .ok (.iadd, 1) := by decide +kernel
theorem d6_62 : decode prog_2_method_2_code 62 = .ok (.putfield 29, 3) := by decide +kernel
theorem d6_65 : decode prog_2_method_2_code 65 = .ok (.iconst 2, 1) := by decide +kernel
theorem d6_66 : decode prog_2_method_2_code 66 = .ok (.aload_n 0, 1) := by decide +kernel
theorem d6_67 : decode prog_2_method_2_code 67 = .ok (.getfield 29, 3) := by decide +kernel
theorem d6_70 : decode prog_2_method_2_code 70 = .ok (.imul, 1) := by decide +kernel
theorem d6_71 : decode prog_2_method_2_code 71 = .ok (.aload_n 0, 1) := by decide +kernel
theorem d6_72 : decode prog_2_method_2_code 72 = .ok (.getfield 9, 3) := by decide +kernel
theorem d6_75 : decode prog_2_method_2_code 75 = .ok (.arraylength, 1) := by decide +kernel
theorem d6_76 : decode prog_2_method_2_code 76 = .ok (.if_icmp .le 7, 3) := by decide +kernel
theorem d6_83 : decode prog_2_method_2_code 83 = .ok (.iconst 1, 1) := by decide +kernel
theorem d6_84 : decode prog_2_method_2_code 84 = .ok (.ireturn, 1) := by decide +kernel
set_option maxRecDepth 65536 in
set_option maxHeartbeats 40000000 in
theorem rm6b (l : Launch) (Z : State) (a0 : Array Value) (hw : ∀ d ∈ tables_1, d.before a0 Z = true) (ws : List Jvm.Cond) (a1 : Addr) (p2 : Int32) (ar : Addr) (ka : ClassId) (vs : List Int32) (sz d : Nat) (h0 : Heap) (n0 : Nat) (Z0 : n0 ≤ h0.size) (E_a1 : Exa Z h0 a1 "com/example/subsumption/subsumption/IntSet") (F_s : Fld Z h0 a1 "com/example/subsumption/subsumption/IntSet" "slots" "[I" (.ref ar)) (F_z : Fld Z h0 a1 "com/example/subsumption/subsumption/IntSet" "size" "I" (.int (Int32.ofNat sz))) (VO : Arv Z h0 ar ka .int (4 : Int32) (vs.map Value.int) (.int (0 : Int32))) (g_a1 : n0 ≤ a1) (g_ar : n0 ≤ ar) (ne0 : a1 ≠ ar) (hlen : vs.length = 4) (hh : Hit 4 vs (p2 + (1 : Int32)) d) (hp1 : ¬ p2 < 0) (hp2 : ¬ p2 = 2147483647) (hg : Good 4 vs) (hsz : sz ≤ 2) (hcn : cnt vs = sz) (hx0 : ¬ (p2 + (1 : Int32)) = 0) (hsz1 : sz ≤ 1) (hc41 : (own_at 4 vs (p2 + (1 : Int32)) d) = (0 : Int32)) :
    MetFree l (⟨"com/example/subsumption/subsumption/IntSet", "add", "(I)Z"⟩ : MethodName) (head1 (Jvm.Cond.code (⟨"com/example/subsumption/subsumption/IntSet", "add", "(I)Z"⟩ : MethodName) prog_2_method_2_code 3 (some .boolean) :: ws) ({ frames := 3, cells := 1, slots := 8, locals := 47 } : Room)) (fun a U => a = #[(.ref a1), (.int p2)] ∧ Z.Warmed39 U.vm ∧ U.heap = h0) (fun _ _ _ _ _ => True) (fun _ U o U' => ∃ v L, o = .returned v ∧ Q6 Z a1 ar (p2 + (1 : Int32)) vs sz h0 n0 v U'.heap L ∧ FrameEnd U o U' L ({ frames := 3, cells := 1, slots := 8, locals := 47 } : Room).cells ({ frames := 3, cells := 1, slots := 8, locals := 47 } : Room).slots) := by
  refine MetFree.of_bodySF (plainFor_of_name pn_com_example_subsumption_subsumption_IntSet) hisR ?_
  intro p e s m args below meth cd s₁ Bd hml0 hPre hKc
  obtain ⟨rfl, hZ, hHp⟩ := hPre
  have hx := Bd.exec
  have hby := Bd.bytes
  have hml : cd.maxLocals = 3 := hml0
  have hown : s.vm.findClass "com/example/subsumption/subsumption/IntSet" = some m.cls := findClass_of_methodNamed Bd.named
  have hnm := (name_of_methodNamed Bd.named Bd.method).1
  have X0 : Stand p l e ({ frames := 3, cells := 1, slots := 8, locals := 47 } : Room) s m #[(.ref a1), (.int p2)] below meth cd s₁ [] 0 0 := Stand.of_body Bd
  have e0 : s₁.heap = h0 := by rw [← hHp, Bd.state]; rfl
  have N0 := Fr.nil n0
  have pre0 : ∀ t, Steps p.tables e below (s₁.setTop (mkF m 0 #[.val (.ref a1), .val (.int p2), .unset] [])) t → Steps p.tables e below (s₁.setTop (entryFrame m #[(.ref a1), (.int p2)] 3)) t := fun t kz => castTop (ef_6 m a1 p2) kz
  have hcs := cnt_set (p2 + (1 : Int32)) vs ((own_hash 4 (p2 + (1 : Int32)) + d) % 4) (by rw [hlen]; exact own_m4 (p2 + (1 : Int32)) d)
  rw [if_pos (show vs.getD ((own_hash 4 (p2 + (1 : Int32)) + d) % 4) 0 = 0 from hc41), if_neg hx0] at hcs
  obtain ⟨T1, X1, e1, st1⟩ := getF X0 hx hZ hown (host := "") (Or.inl (hw _ (List.mem_of_getElem? (i := 22) rfl))) Via.refl e0 F_s (g := (mkF m 28 #[.val (.ref a1), .val (.int p2), .unset] [(.ref a1), (.int (p2 + (1 : Int32)))])) rfl rfl (hb hby d6_28)
  obtain ⟨_, _, ⟨T2, L2, k2, n2⟩, -, X2, ⟨Lc2, hQ2, l2, y2, z2⟩, st2⟩ := Jvm.LawKit.callS X1 hx (y := (⟨"com/example/subsumption/subsumption/IntSet", "slotOf", "(I[I)I"⟩ : MethodName)) hown (mvT hZ (hw _ (List.mem_of_getElem? (i := 30) rfl))) (mvT hZ (hw _ (List.mem_of_getElem? (i := 31) rfl))) (mvT hZ (hw _ (List.mem_of_getElem? (i := 14) rfl))) (mvT hZ (hw _ (List.mem_of_getElem? (i := 32) rfl))) (by decide) (backOf (W := 0) (rm7_4 l Z a0 hw [] (p2 + (1 : Int32)) ar ka vs d h0 n0 Z0 VO hh) hZ (hw _ (List.mem_of_getElem? (i := 32) rfl)) (hw _ (List.mem_of_getElem? (i := 14) rfl)) (by decide) (by decide)) (g := (mkF m 31 #[.val (.ref a1), .val (.int p2), .unset] [(.ref ar), (.int (p2 + (1 : Int32)))])) rfl (by rw [hml]; rfl) (argsL := [(.int (p2 + (1 : Int32))), (.ref ar)]) (rest := []) (lenOf pd__I_I_I rfl) rfl (by show 2 * 0 + _ ≤ _; exact Nat.le_of_eq rfl) (hb hby d6_31) (fun _ _ => ⟨rfl, e1, (Nat.le_of_ble_eq_true rfl), (Nat.le_of_ble_eq_true rfl)⟩)
  dsimp only [Pt.U, Pt.locs, Pt.cells, Pt.slots] at X2 l2 y2 z2 st2 hQ2
  subst l2 y2 z2
  obtain ⟨rfl, N2q, e2⟩ := hQ2
  have N2 := Fr.app N0 N2q
  obtain ⟨T3, X3, e3, st3⟩ := getF X2 hx hZ hown (host := "") (Or.inl (hw _ (List.mem_of_getElem? (i := 22) rfl))) Via.refl e2 F_s (g := (mkF m 36 #[.val (.ref a1), .val (.int p2), .val (.int (Int32.ofNat ((own_hash 4 (p2 + (1 : Int32)) + d) % 4)))] [(.ref a1)])) rfl rfl (hb hby d6_36)
  obtain ⟨c4, Ar4, -, S4, -, H4, -⟩ := (id VO)
  have hin4 : ¬ ((Int32.ofNat ((own_hash 4 (p2 + (1 : Int32)) + d) % 4)) < 0 ∨ c4.slots.size ≤ ((Int32.ofNat ((own_hash 4 (p2 + (1 : Int32)) + d) % 4))).toNatClampNeg) := inb_of S4 ⟨own_nn (by have := own_m4 (p2 + (1 : Int32)) d; omega), (own_lt (j := 4) (by have := own_m4 (p2 + (1 : Int32)) d; omega) (by omega)).mpr (own_m4 (p2 + (1 : Int32)) d)⟩
  have hat4 : c4.slots[((Int32.ofNat ((own_hash 4 (p2 + (1 : Int32)) + d) % 4))).toNatClampNeg]? = some (.int (own_at 4 vs (p2 + (1 : Int32)) d)) := H4.at hin4 (by rw [own_natC (by have := own_m4 (p2 + (1 : Int32)) d; omega)]; exact own_getI vs _)
  obtain ⟨T5, X5, e5, st5⟩ := getF X3 hx hZ hown (host := "") (Or.inl (hw _ (List.mem_of_getElem? (i := 22) rfl))) Via.refl e3 F_s (g := (mkF m 47 #[.val (.ref a1), .val (.int p2), .val (.int (Int32.ofNat ((own_hash 4 (p2 + (1 : Int32)) + d) % 4)))] [(.ref a1)])) rfl rfl (hb hby d6_47)
  obtain ⟨c6, Ar6, q6, S6, M6, H6, G6⟩ := (id VO)
  have hin6 : ¬ ((Int32.ofNat ((own_hash 4 (p2 + (1 : Int32)) + d) % 4)) < 0 ∨ c6.slots.size ≤ ((Int32.ofNat ((own_hash 4 (p2 + (1 : Int32)) + d) % 4))).toNatClampNeg) := inb_of S6 ⟨own_nn (by have := own_m4 (p2 + (1 : Int32)) d; omega), (own_lt (j := 4) (by have := own_m4 (p2 + (1 : Int32)) d; omega) (by omega)).mpr (own_m4 (p2 + (1 : Int32)) d)⟩
  obtain ⟨T7, h7, X7, e7, W7, st7⟩ := stI X5 hx hZ e5 Ar6 (j := (Int32.ofNat ((own_hash 4 (p2 + (1 : Int32)) + d) % 4))) hin6 (g := (mkF m 54 #[.val (.ref a1), .val (.int p2), .val (.int (Int32.ofNat ((own_hash 4 (p2 + (1 : Int32)) + d) % 4)))] [(.int (p2 + (1 : Int32))), (.int (Int32.ofNat ((own_hash 4 (p2 + (1 : Int32)) + d) % 4))), (.ref ar)])) rfl rfl (hb hby d6_54)
  have f8_E_a1 := E_a1.wr W7
  have f9_F_a1_slots := F_s.other W7 (Or.inl ne0)
  have f10_F_a1_size := F_z.other W7 (Or.inl ne0)
  have V7 := Arv.set Ar6 q6 S6 M6 H6 G6 rfl W7 ((own_hash 4 (p2 + (1 : Int32)) + d) % 4) (own_natC (by have := own_m4 (p2 + (1 : Int32)) d; omega)) (by rw [List.length_map, hlen]; exact own_m4 (p2 + (1 : Int32)) d)
  rw [own_setI] at V7
  have K11 : Keep h0 h7 [a1, ar] := (Keep.refl h0 [a1, ar]).wr W7 (Or.inl (List.mem_of_getElem? (i := 1) rfl))
  have N7 := Fr.snoc X7 N2 g_ar
  have z7 : n0 ≤ h7.size := Nat.le_trans Z0 (Keep.of_wr W7).1
  obtain ⟨T12, X12, e12, st12⟩ := getF X7 hx hZ hown (host := "") (Or.inl (hw _ (List.mem_of_getElem? (i := 39) rfl))) Via.refl e7 f10_F_a1_size (g := (mkF m 57 #[.val (.ref a1), .val (.int p2), .val (.int (Int32.ofNat ((own_hash 4 (p2 + (1 : Int32)) + d) % 4)))] [(.ref a1), (.ref a1)])) rfl rfl (hb hby d6_57)
  obtain ⟨T13, h13, X13, e13, W13, st13⟩ := putF X12 hx hZ hown (host := "") (Or.inl (hw _ (List.mem_of_getElem? (i := 39) rfl))) Via.refl e12 f10_F_a1_size f8_E_a1 (Or.inl (hw _ (List.mem_of_getElem? (i := 40) rfl))) (hw _ (List.mem_of_getElem? (i := 13) rfl)) (ty := .int) (by decide) rfl rfl (g := (mkF m 62 #[.val (.ref a1), .val (.int p2), .val (.int (Int32.ofNat ((own_hash 4 (p2 + (1 : Int32)) + d) % 4)))] [(.int ((Int32.ofNat sz) + (1 : Int32))), (.ref a1)])) rfl rfl (hb hby d6_62)
  have f14_E_a1 := f8_E_a1.wr W13
  have f15_F_a1_slots := f9_F_a1_slots.other W13 (Or.inr (slot_ne (Or.inl (hw _ (List.mem_of_getElem? (i := 23) rfl))) (Or.inl (hw _ (List.mem_of_getElem? (i := 40) rfl))) (by decide) (t := (.array .int)) (t' := .int) (by decide) (by decide)))
  have f16_V_ar := V7.other W13 (Ne.symm ne0)
  have fw13 := f10_F_a1_size.same W13
  have K17 : Keep h0 h13 [a1, ar] := K11.wr W13 (Or.inl (List.mem_of_getElem? (i := 0) rfl))
  have N13 := Fr.snoc X13 N7 g_a1
  have z13 : n0 ≤ h13.size := Nat.le_trans z7 (Keep.of_wr W13).1
  obtain ⟨T18, X18, e18, st18⟩ := getF X13 hx hZ hown (host := "") (Or.inl (hw _ (List.mem_of_getElem? (i := 39) rfl))) Via.refl e13 fw13 (g := (mkF m 67 #[.val (.ref a1), .val (.int p2), .val (.int (Int32.ofNat ((own_hash 4 (p2 + (1 : Int32)) + d) % 4)))] [(.ref a1), (.int (2 : Int32))])) rfl rfl (hb hby d6_67)
  obtain ⟨T19, X19, e19, st19⟩ := getF X18 hx hZ hown (host := "") (Or.inl (hw _ (List.mem_of_getElem? (i := 22) rfl))) Via.refl e18 f15_F_a1_slots (g := (mkF m 72 #[.val (.ref a1), .val (.int p2), .val (.int (Int32.ofNat ((own_hash 4 (p2 + (1 : Int32)) + d) % 4)))] [(.ref a1), (.int ((2 : Int32) * ((Int32.ofNat sz) + (1 : Int32))))])) rfl rfl (hb hby d6_72)
  obtain ⟨c20, Ar20, -, S20, M20, -, -⟩ := (id f16_V_ar)
  obtain ⟨fs, hr, hrun, hended, hW, hsame⟩ := X19.leave (v := some (.int (1 : Int32))) (fun h => by rw [Bd.returns] at h; cases h)
  refine ⟨_, _, pre0 _ ?_, hrun, hended, _, _, rfl, ?_, ⟨_, rfl⟩, hW, hsame.mono (by decide) (by decide)⟩
  · show Steps p.tables e below (s₁.setTop (mkF m 0 #[.val (.ref a1), .val (.int p2), .unset] [])) _
    refine XS.iloadN X0.here hx rfl (hb hby d6_0) rfl ?_
    show Steps p.tables e below (s₁.setTop (mkF m 1 #[.val (.ref a1), .val (.int p2), .unset] [(.int p2)])) _
    refine XS.ifNo X0.here hx rfl (hb hby d6_1) rfl ((if0 _ _).trans (flt (hp1 : ¬ (p2 < (0 : Int32)))).1) ?_
    show Steps p.tables e below (s₁.setTop (mkF m 4 #[.val (.ref a1), .val (.int p2), .unset] [])) _
    refine XS.iloadN X0.here hx rfl (hb hby d6_4) rfl ?_
    show Steps p.tables e below (s₁.setTop (mkF m 5 #[.val (.ref a1), .val (.int p2), .unset] [(.int p2)])) _
    refine X0.ldcInt hx hown (mvT hZ (hw _ (List.mem_of_getElem? (i := 29) rfl))) (g := (mkF m 5 #[.val (.ref a1), .val (.int p2), .unset] [(.int p2)])) rfl (hb hby d6_5) _ ?_
    show Steps p.tables e below (s₁.setTop (mkF m 7 #[.val (.ref a1), .val (.int p2), .unset] [(.int (2147483647 : Int32)), (.int p2)])) _
    refine XS.icmpYes X0.here hx rfl (pc0 := 7) (pc' := 24) rfl (hb hby d6_7) rfl (feq (hp2 : ¬ (p2 = (2147483647 : Int32)))).2 (by decide) (by decide) ?_
    show Steps p.tables e below (s₁.setTop (mkF m 24 #[.val (.ref a1), .val (.int p2), .unset] [])) _
    refine XS.iloadN X0.here hx rfl (hb hby d6_24) rfl ?_
    show Steps p.tables e below (s₁.setTop (mkF m 25 #[.val (.ref a1), .val (.int p2), .unset] [(.int p2)])) _
    refine XS.iconst X0.here hx rfl (hb hby d6_25) ?_
    show Steps p.tables e below (s₁.setTop (mkF m 26 #[.val (.ref a1), .val (.int p2), .unset] [(.int (1 : Int32)), (.int p2)])) _
    refine XS.iadd X0.here hx rfl (hb hby d6_26) rfl ?_
    show Steps p.tables e below (s₁.setTop (mkF m 27 #[.val (.ref a1), .val (.int p2), .unset] [(.int (p2 + (1 : Int32)))])) _
    refine XS.aloadN X0.here hx rfl (hb hby d6_27) rfl rfl ?_
    show Steps p.tables e below (s₁.setTop (mkF m 28 #[.val (.ref a1), .val (.int p2), .unset] [(.ref a1), (.int (p2 + (1 : Int32)))])) _
    refine st1 _ ?_
    show Steps p.tables e below (T1.setTop (mkF m 31 #[.val (.ref a1), .val (.int p2), .unset] [(.ref ar), (.int (p2 + (1 : Int32)))])) _
    refine st2 _ ?_
    show Steps p.tables e below (T2.setTop (mkF m 34 #[.val (.ref a1), .val (.int p2), .unset] [(.int (Int32.ofNat ((own_hash 4 (p2 + (1 : Int32)) + d) % 4)))])) _
    refine XS.istoreN X2.here hx rfl (hb hby d6_34) rfl (l' := #[.val (.ref a1), .val (.int p2), .val (.int (Int32.ofNat ((own_hash 4 (p2 + (1 : Int32)) + d) % 4)))]) rfl ?_
    show Steps p.tables e below (T2.setTop (mkF m 35 #[.val (.ref a1), .val (.int p2), .val (.int (Int32.ofNat ((own_hash 4 (p2 + (1 : Int32)) + d) % 4)))] [])) _
    refine XS.aloadN X2.here hx rfl (hb hby d6_35) rfl rfl ?_
    show Steps p.tables e below (T2.setTop (mkF m 36 #[.val (.ref a1), .val (.int p2), .val (.int (Int32.ofNat ((own_hash 4 (p2 + (1 : Int32)) + d) % 4)))] [(.ref a1)])) _
    refine st3 _ ?_
    show Steps p.tables e below (T3.setTop (mkF m 39 #[.val (.ref a1), .val (.int p2), .val (.int (Int32.ofNat ((own_hash 4 (p2 + (1 : Int32)) + d) % 4)))] [(.ref ar)])) _
    refine XS.iloadN X3.here hx rfl (hb hby d6_39) rfl ?_
    show Steps p.tables e below (T3.setTop (mkF m 40 #[.val (.ref a1), .val (.int p2), .val (.int (Int32.ofNat ((own_hash 4 (p2 + (1 : Int32)) + d) % 4)))] [(.int (Int32.ofNat ((own_hash 4 (p2 + (1 : Int32)) + d) % 4))), (.ref ar)])) _
    refine X3.iaload hx (j := (Int32.ofNat ((own_hash 4 (p2 + (1 : Int32)) + d) % 4))) (v := (.int (own_at 4 vs (p2 + (1 : Int32)) d))) (by rw [e3]; exact Ar4.1) (State.isArrayOf_alike hZ.alike Ar4.2.1) Ar4.2.2 hin4 hat4 (g := (mkF m 40 #[.val (.ref a1), .val (.int p2), .val (.int (Int32.ofNat ((own_hash 4 (p2 + (1 : Int32)) + d) % 4)))] [(.int (Int32.ofNat ((own_hash 4 (p2 + (1 : Int32)) + d) % 4))), (.ref ar)])) rfl rfl (hb hby d6_40) _ ?_
    show Steps p.tables e below (T3.setTop (mkF m 41 #[.val (.ref a1), .val (.int p2), .val (.int (Int32.ofNat ((own_hash 4 (p2 + (1 : Int32)) + d) % 4)))] [(.int (own_at 4 vs (p2 + (1 : Int32)) d))])) _
    refine XS.ifYes X3.here hx rfl (pc0 := 41) (pc' := 46) rfl (hb hby d6_41) rfl ((if0 _ _).trans (teq hc41).1) (by decide) (by decide) ?_
    show Steps p.tables e below (T3.setTop (mkF m 46 #[.val (.ref a1), .val (.int p2), .val (.int (Int32.ofNat ((own_hash 4 (p2 + (1 : Int32)) + d) % 4)))] [])) _
    refine XS.aloadN X3.here hx rfl (hb hby d6_46) rfl rfl ?_
    show Steps p.tables e below (T3.setTop (mkF m 47 #[.val (.ref a1), .val (.int p2), .val (.int (Int32.ofNat ((own_hash 4 (p2 + (1 : Int32)) + d) % 4)))] [(.ref a1)])) _
    refine st5 _ ?_
    show Steps p.tables e below (T5.setTop (mkF m 50 #[.val (.ref a1), .val (.int p2), .val (.int (Int32.ofNat ((own_hash 4 (p2 + (1 : Int32)) + d) % 4)))] [(.ref ar)])) _
    refine XS.iloadN X5.here hx rfl (hb hby d6_50) rfl ?_
    show Steps p.tables e below (T5.setTop (mkF m 51 #[.val (.ref a1), .val (.int p2), .val (.int (Int32.ofNat ((own_hash 4 (p2 + (1 : Int32)) + d) % 4)))] [(.int (Int32.ofNat ((own_hash 4 (p2 + (1 : Int32)) + d) % 4))), (.ref ar)])) _
    refine XS.iloadN X5.here hx rfl (hb hby d6_51) rfl ?_
    show Steps p.tables e below (T5.setTop (mkF m 52 #[.val (.ref a1), .val (.int p2), .val (.int (Int32.ofNat ((own_hash 4 (p2 + (1 : Int32)) + d) % 4)))] [(.int p2), (.int (Int32.ofNat ((own_hash 4 (p2 + (1 : Int32)) + d) % 4))), (.ref ar)])) _
    refine XS.iconst X5.here hx rfl (hb hby d6_52) ?_
    show Steps p.tables e below (T5.setTop (mkF m 53 #[.val (.ref a1), .val (.int p2), .val (.int (Int32.ofNat ((own_hash 4 (p2 + (1 : Int32)) + d) % 4)))] [(.int (1 : Int32)), (.int p2), (.int (Int32.ofNat ((own_hash 4 (p2 + (1 : Int32)) + d) % 4))), (.ref ar)])) _
    refine XS.iadd X5.here hx rfl (hb hby d6_53) rfl ?_
    show Steps p.tables e below (T5.setTop (mkF m 54 #[.val (.ref a1), .val (.int p2), .val (.int (Int32.ofNat ((own_hash 4 (p2 + (1 : Int32)) + d) % 4)))] [(.int (p2 + (1 : Int32))), (.int (Int32.ofNat ((own_hash 4 (p2 + (1 : Int32)) + d) % 4))), (.ref ar)])) _
    refine st7 _ ?_
    show Steps p.tables e below (T7.setTop (mkF m 55 #[.val (.ref a1), .val (.int p2), .val (.int (Int32.ofNat ((own_hash 4 (p2 + (1 : Int32)) + d) % 4)))] [])) _
    refine XS.aloadN X7.here hx rfl (hb hby d6_55) rfl rfl ?_
    show Steps p.tables e below (T7.setTop (mkF m 56 #[.val (.ref a1), .val (.int p2), .val (.int (Int32.ofNat ((own_hash 4 (p2 + (1 : Int32)) + d) % 4)))] [(.ref a1)])) _
    refine XS.dup X7.here hx rfl (hb hby d6_56) rfl rfl ?_
    show Steps p.tables e below (T7.setTop (mkF m 57 #[.val (.ref a1), .val (.int p2), .val (.int (Int32.ofNat ((own_hash 4 (p2 + (1 : Int32)) + d) % 4)))] [(.ref a1), (.ref a1)])) _
    refine st12 _ ?_
    show Steps p.tables e below (T12.setTop (mkF m 60 #[.val (.ref a1), .val (.int p2), .val (.int (Int32.ofNat ((own_hash 4 (p2 + (1 : Int32)) + d) % 4)))] [(.int (Int32.ofNat sz)), (.ref a1)])) _
    refine XS.iconst X12.here hx rfl (hb hby d6_60) ?_
    show Steps p.tables e below (T12.setTop (mkF m 61 #[.val (.ref a1), .val (.int p2), .val (.int (Int32.ofNat ((own_hash 4 (p2 + (1 : Int32)) + d) % 4)))] [(.int (1 : Int32)), (.int (Int32.ofNat sz)), (.ref a1)])) _
    refine XS.iadd X12.here hx rfl (hb hby d6_61) rfl ?_
    show Steps p.tables e below (T12.setTop (mkF m 62 #[.val (.ref a1), .val (.int p2), .val (.int (Int32.ofNat ((own_hash 4 (p2 + (1 : Int32)) + d) % 4)))] [(.int ((Int32.ofNat sz) + (1 : Int32))), (.ref a1)])) _
    refine st13 _ ?_
    show Steps p.tables e below (T13.setTop (mkF m 65 #[.val (.ref a1), .val (.int p2), .val (.int (Int32.ofNat ((own_hash 4 (p2 + (1 : Int32)) + d) % 4)))] [])) _
    refine XS.iconst X13.here hx rfl (hb hby d6_65) ?_
    show Steps p.tables e below (T13.setTop (mkF m 66 #[.val (.ref a1), .val (.int p2), .val (.int (Int32.ofNat ((own_hash 4 (p2 + (1 : Int32)) + d) % 4)))] [(.int (2 : Int32))])) _
    refine XS.aloadN X13.here hx rfl (hb hby d6_66) rfl rfl ?_
    show Steps p.tables e below (T13.setTop (mkF m 67 #[.val (.ref a1), .val (.int p2), .val (.int (Int32.ofNat ((own_hash 4 (p2 + (1 : Int32)) + d) % 4)))] [(.ref a1), (.int (2 : Int32))])) _
    refine st18 _ ?_
    show Steps p.tables e below (T18.setTop (mkF m 70 #[.val (.ref a1), .val (.int p2), .val (.int (Int32.ofNat ((own_hash 4 (p2 + (1 : Int32)) + d) % 4)))] [(.int ((Int32.ofNat sz) + (1 : Int32))), (.int (2 : Int32))])) _
    refine XS.imul X18.here hx rfl (hb hby d6_70) rfl ?_
    show Steps p.tables e below (T18.setTop (mkF m 71 #[.val (.ref a1), .val (.int p2), .val (.int (Int32.ofNat ((own_hash 4 (p2 + (1 : Int32)) + d) % 4)))] [(.int ((2 : Int32) * ((Int32.ofNat sz) + (1 : Int32))))])) _
    refine XS.aloadN X18.here hx rfl (hb hby d6_71) rfl rfl ?_
    show Steps p.tables e below (T18.setTop (mkF m 72 #[.val (.ref a1), .val (.int p2), .val (.int (Int32.ofNat ((own_hash 4 (p2 + (1 : Int32)) + d) % 4)))] [(.ref a1), (.int ((2 : Int32) * ((Int32.ofNat sz) + (1 : Int32))))])) _
    refine st19 _ ?_
    show Steps p.tables e below (T19.setTop (mkF m 75 #[.val (.ref a1), .val (.int p2), .val (.int (Int32.ofNat ((own_hash 4 (p2 + (1 : Int32)) + d) % 4)))] [(.ref ar), (.int ((2 : Int32) * ((Int32.ofNat sz) + (1 : Int32))))])) _
    refine X19.arraylength hx (by rw [e19]; exact Ar20.1) (State.isArrayOf_alike hZ.alike Ar20.2.1) (g := (mkF m 75 #[.val (.ref a1), .val (.int p2), .val (.int (Int32.ofNat ((own_hash 4 (p2 + (1 : Int32)) + d) % 4)))] [(.ref ar), (.int ((2 : Int32) * ((Int32.ofNat sz) + (1 : Int32))))])) rfl rfl (hb hby d6_75) _ ?_
    rw [len_of S20 M20]
    show Steps p.tables e below (T19.setTop (mkF m 76 #[.val (.ref a1), .val (.int p2), .val (.int (Int32.ofNat ((own_hash 4 (p2 + (1 : Int32)) + d) % 4)))] [(.int (4 : Int32)), (.int ((2 : Int32) * ((Int32.ofNat sz) + (1 : Int32))))])) _
    refine XS.icmpYes X19.here hx rfl (pc0 := 76) (pc' := 83) rfl (hb hby d6_76) rfl (flt (own_small hsz1 : ¬ ((4 : Int32) < ((2 : Int32) * ((Int32.ofNat sz) + (1 : Int32)))))).2.2.2 (by decide) (by decide) ?_
    show Steps p.tables e below (T19.setTop (mkF m 83 #[.val (.ref a1), .val (.int p2), .val (.int (Int32.ofNat ((own_hash 4 (p2 + (1 : Int32)) + d) % 4)))] [])) _
    refine XS.iconst X19.here hx rfl (hb hby d6_83) ?_
    show Steps p.tables e below (T19.setTop (mkF m 84 #[.val (.ref a1), .val (.int p2), .val (.int (Int32.ofNat ((own_hash 4 (p2 + (1 : Int32)) + d) % 4)))] [(.int (1 : Int32))])) _
    exact retN X19 hx (t := .boolean) Bd.returns (by simp) (hb hby d6_84) hr
  · show Q6 Z a1 ar (p2 + (1 : Int32)) vs sz h0 n0 _ T19.heap _
    rw [e19]
    exact ⟨_, rfl, N13, ar, 4, _, sz + 1, K17, ⟨f14_E_a1, f15_F_a1_slots, (own_succ (show sz < 999 by omega)) ▸ fw13, ⟨ka, f16_V_ar⟩, g_a1, g_ar, ne0, hg.put hx0 hh, Or.inl ⟨rfl, by omega, by omega⟩⟩, (fun y hy => In.put hg hh hy), Nat.le_refl _, Or.inl rfl⟩
theorem d6_79 : decode prog_2_method_2_code 79 = .ok (.aload_n 0, 1) := by decide +kernel
theorem d6_80 : decode prog_2_method_2_code 80 = .ok (.invokevirtual 33, 3) := by decide +kernel
theorem pd___V : parseMethodDescriptor "()V" = some ⟨[], none⟩ := by decide +kernel
set_option maxRecDepth 65536 in
set_option maxHeartbeats 40000000 in
theorem rm6c (l : Launch) (Z : State) (a0 : Array Value) (hw : ∀ d ∈ tables_1, d.before a0 Z = true) (ws : List Jvm.Cond) (a1 : Addr) (p2 : Int32) (ar : Addr) (ka : ClassId) (vs : List Int32) (sz d : Nat) (h0 : Heap) (n0 : Nat) (Z0 : n0 ≤ h0.size) (E_a1 : Exa Z h0 a1 "com/example/subsumption/subsumption/IntSet") (F_s : Fld Z h0 a1 "com/example/subsumption/subsumption/IntSet" "slots" "[I" (.ref ar)) (F_z : Fld Z h0 a1 "com/example/subsumption/subsumption/IntSet" "size" "I" (.int (Int32.ofNat sz))) (VO : Arv Z h0 ar ka .int (4 : Int32) (vs.map Value.int) (.int (0 : Int32))) (g_a1 : n0 ≤ a1) (g_ar : n0 ≤ ar) (ne0 : a1 ≠ ar) (hlen : vs.length = 4) (hh : Hit 4 vs (p2 + (1 : Int32)) d) (hp1 : ¬ p2 < 0) (hp2 : ¬ p2 = 2147483647) (hg : Good 4 vs) (hsz : sz ≤ 2) (hcn : cnt vs = sz) (hx0 : ¬ (p2 + (1 : Int32)) = 0) (hsz2 : sz = 2) (hbig : (4 : Int32) < ((2 : Int32) * ((Int32.ofNat sz) + (1 : Int32)))) (hc41 : (own_at 4 vs (p2 + (1 : Int32)) d) = (0 : Int32)) :
    MetFree l (⟨"com/example/subsumption/subsumption/IntSet", "add", "(I)Z"⟩ : MethodName) (head1 (Jvm.Cond.code (⟨"com/example/subsumption/subsumption/IntSet", "add", "(I)Z"⟩ : MethodName) prog_2_method_2_code 3 (some .boolean) :: ws) ({ frames := 3, cells := 1, slots := 8, locals := 47 } : Room)) (fun a U => a = #[(.ref a1), (.int p2)] ∧ Z.Warmed39 U.vm ∧ U.heap = h0) (fun _ _ _ _ _ => True) (fun _ U o U' => ∃ v L, o = .returned v ∧ Q6 Z a1 ar (p2 + (1 : Int32)) vs sz h0 n0 v U'.heap L ∧ FrameEnd U o U' L ({ frames := 3, cells := 1, slots := 8, locals := 47 } : Room).cells ({ frames := 3, cells := 1, slots := 8, locals := 47 } : Room).slots) := by
  refine MetFree.of_bodySF (plainFor_of_name pn_com_example_subsumption_subsumption_IntSet) hisR ?_
  intro p e s m args below meth cd s₁ Bd hml0 hPre hKc
  obtain ⟨rfl, hZ, hHp⟩ := hPre
  have hx := Bd.exec
  have hby := Bd.bytes
  have hml : cd.maxLocals = 3 := hml0
  have hown : s.vm.findClass "com/example/subsumption/subsumption/IntSet" = some m.cls := findClass_of_methodNamed Bd.named
  have hnm := (name_of_methodNamed Bd.named Bd.method).1
  have X0 : Stand p l e ({ frames := 3, cells := 1, slots := 8, locals := 47 } : Room) s m #[(.ref a1), (.int p2)] below meth cd s₁ [] 0 0 := Stand.of_body Bd
  have e0 : s₁.heap = h0 := by rw [← hHp, Bd.state]; rfl
  have N0 := Fr.nil n0
  have pre0 : ∀ t, Steps p.tables e below (s₁.setTop (mkF m 0 #[.val (.ref a1), .val (.int p2), .unset] [])) t → Steps p.tables e below (s₁.setTop (entryFrame m #[(.ref a1), (.int p2)] 3)) t := fun t kz => castTop (ef_6 m a1 p2) kz
  obtain ⟨T1, X1, e1, st1⟩ := getF X0 hx hZ hown (host := "") (Or.inl (hw _ (List.mem_of_getElem? (i := 22) rfl))) Via.refl e0 F_s (g := (mkF m 28 #[.val (.ref a1), .val (.int p2), .unset] [(.ref a1), (.int (p2 + (1 : Int32)))])) rfl rfl (hb hby d6_28)
  obtain ⟨_, _, ⟨T2, L2, k2, n2⟩, -, X2, ⟨Lc2, hQ2, l2, y2, z2⟩, st2⟩ := Jvm.LawKit.callS X1 hx (y := (⟨"com/example/subsumption/subsumption/IntSet", "slotOf", "(I[I)I"⟩ : MethodName)) hown (mvT hZ (hw _ (List.mem_of_getElem? (i := 30) rfl))) (mvT hZ (hw _ (List.mem_of_getElem? (i := 31) rfl))) (mvT hZ (hw _ (List.mem_of_getElem? (i := 14) rfl))) (mvT hZ (hw _ (List.mem_of_getElem? (i := 32) rfl))) (by decide) (backOf (W := 0) (rm7_4 l Z a0 hw [] (p2 + (1 : Int32)) ar ka vs d h0 n0 Z0 VO hh) hZ (hw _ (List.mem_of_getElem? (i := 32) rfl)) (hw _ (List.mem_of_getElem? (i := 14) rfl)) (by decide) (by decide)) (g := (mkF m 31 #[.val (.ref a1), .val (.int p2), .unset] [(.ref ar), (.int (p2 + (1 : Int32)))])) rfl (by rw [hml]; rfl) (argsL := [(.int (p2 + (1 : Int32))), (.ref ar)]) (rest := []) (lenOf pd__I_I_I rfl) rfl (by show 2 * 0 + _ ≤ _; exact Nat.le_of_eq rfl) (hb hby d6_31) (fun _ _ => ⟨rfl, e1, (Nat.le_of_ble_eq_true rfl), (Nat.le_of_ble_eq_true rfl)⟩)
  dsimp only [Pt.U, Pt.locs, Pt.cells, Pt.slots] at X2 l2 y2 z2 st2 hQ2
  subst l2 y2 z2
  obtain ⟨rfl, N2q, e2⟩ := hQ2
  have N2 := Fr.app N0 N2q
  obtain ⟨T3, X3, e3, st3⟩ := getF X2 hx hZ hown (host := "") (Or.inl (hw _ (List.mem_of_getElem? (i := 22) rfl))) Via.refl e2 F_s (g := (mkF m 36 #[.val (.ref a1), .val (.int p2), .val (.int (Int32.ofNat ((own_hash 4 (p2 + (1 : Int32)) + d) % 4)))] [(.ref a1)])) rfl rfl (hb hby d6_36)
  obtain ⟨c4, Ar4, -, S4, -, H4, -⟩ := (id VO)
  have hin4 : ¬ ((Int32.ofNat ((own_hash 4 (p2 + (1 : Int32)) + d) % 4)) < 0 ∨ c4.slots.size ≤ ((Int32.ofNat ((own_hash 4 (p2 + (1 : Int32)) + d) % 4))).toNatClampNeg) := inb_of S4 ⟨own_nn (by have := own_m4 (p2 + (1 : Int32)) d; omega), (own_lt (j := 4) (by have := own_m4 (p2 + (1 : Int32)) d; omega) (by omega)).mpr (own_m4 (p2 + (1 : Int32)) d)⟩
  have hat4 : c4.slots[((Int32.ofNat ((own_hash 4 (p2 + (1 : Int32)) + d) % 4))).toNatClampNeg]? = some (.int (own_at 4 vs (p2 + (1 : Int32)) d)) := H4.at hin4 (by rw [own_natC (by have := own_m4 (p2 + (1 : Int32)) d; omega)]; exact own_getI vs _)
  obtain ⟨T5, X5, e5, st5⟩ := getF X3 hx hZ hown (host := "") (Or.inl (hw _ (List.mem_of_getElem? (i := 22) rfl))) Via.refl e3 F_s (g := (mkF m 47 #[.val (.ref a1), .val (.int p2), .val (.int (Int32.ofNat ((own_hash 4 (p2 + (1 : Int32)) + d) % 4)))] [(.ref a1)])) rfl rfl (hb hby d6_47)
  obtain ⟨c6, Ar6, q6, S6, M6, H6, G6⟩ := (id VO)
  have hin6 : ¬ ((Int32.ofNat ((own_hash 4 (p2 + (1 : Int32)) + d) % 4)) < 0 ∨ c6.slots.size ≤ ((Int32.ofNat ((own_hash 4 (p2 + (1 : Int32)) + d) % 4))).toNatClampNeg) := inb_of S6 ⟨own_nn (by have := own_m4 (p2 + (1 : Int32)) d; omega), (own_lt (j := 4) (by have := own_m4 (p2 + (1 : Int32)) d; omega) (by omega)).mpr (own_m4 (p2 + (1 : Int32)) d)⟩
  obtain ⟨T7, h7, X7, e7, W7, st7⟩ := stI X5 hx hZ e5 Ar6 (j := (Int32.ofNat ((own_hash 4 (p2 + (1 : Int32)) + d) % 4))) hin6 (g := (mkF m 54 #[.val (.ref a1), .val (.int p2), .val (.int (Int32.ofNat ((own_hash 4 (p2 + (1 : Int32)) + d) % 4)))] [(.int (p2 + (1 : Int32))), (.int (Int32.ofNat ((own_hash 4 (p2 + (1 : Int32)) + d) % 4))), (.ref ar)])) rfl rfl (hb hby d6_54)
  have f8_E_a1 := E_a1.wr W7
  have f9_F_a1_slots := F_s.other W7 (Or.inl ne0)
  have f10_F_a1_size := F_z.other W7 (Or.inl ne0)
  have V7 := Arv.set Ar6 q6 S6 M6 H6 G6 rfl W7 ((own_hash 4 (p2 + (1 : Int32)) + d) % 4) (own_natC (by have := own_m4 (p2 + (1 : Int32)) d; omega)) (by rw [List.length_map, hlen]; exact own_m4 (p2 + (1 : Int32)) d)
  rw [own_setI] at V7
  have K11 : Keep h0 h7 [a1, ar] := (Keep.refl h0 [a1, ar]).wr W7 (Or.inl (List.mem_of_getElem? (i := 1) rfl))
  have N7 := Fr.snoc X7 N2 g_ar
  have z7 : n0 ≤ h7.size := Nat.le_trans Z0 (Keep.of_wr W7).1
  obtain ⟨T12, X12, e12, st12⟩ := getF X7 hx hZ hown (host := "") (Or.inl (hw _ (List.mem_of_getElem? (i := 39) rfl))) Via.refl e7 f10_F_a1_size (g := (mkF m 57 #[.val (.ref a1), .val (.int p2), .val (.int (Int32.ofNat ((own_hash 4 (p2 + (1 : Int32)) + d) % 4)))] [(.ref a1), (.ref a1)])) rfl rfl (hb hby d6_57)
  obtain ⟨T13, h13, X13, e13, W13, st13⟩ := putF X12 hx hZ hown (host := "") (Or.inl (hw _ (List.mem_of_getElem? (i := 39) rfl))) Via.refl e12 f10_F_a1_size f8_E_a1 (Or.inl (hw _ (List.mem_of_getElem? (i := 40) rfl))) (hw _ (List.mem_of_getElem? (i := 13) rfl)) (ty := .int) (by decide) rfl rfl (g := (mkF m 62 #[.val (.ref a1), .val (.int p2), .val (.int (Int32.ofNat ((own_hash 4 (p2 + (1 : Int32)) + d) % 4)))] [(.int ((Int32.ofNat sz) + (1 : Int32))), (.ref a1)])) rfl rfl (hb hby d6_62)
  have f14_E_a1 := f8_E_a1.wr W13
  have f15_F_a1_slots := f9_F_a1_slots.other W13 (Or.inr (slot_ne (Or.inl (hw _ (List.mem_of_getElem? (i := 23) rfl))) (Or.inl (hw _ (List.mem_of_getElem? (i := 40) rfl))) (by decide) (t := (.array .int)) (t' := .int) (by decide) (by decide)))
  have f16_V_ar := V7.other W13 (Ne.symm ne0)
  have fw13 := f10_F_a1_size.same W13
  have K17 : Keep h0 h13 [a1, ar] := K11.wr W13 (Or.inl (List.mem_of_getElem? (i := 0) rfl))
  have N13 := Fr.snoc X13 N7 g_a1
  have z13 : n0 ≤ h13.size := Nat.le_trans z7 (Keep.of_wr W13).1
  obtain ⟨T18, X18, e18, st18⟩ := getF X13 hx hZ hown (host := "") (Or.inl (hw _ (List.mem_of_getElem? (i := 39) rfl))) Via.refl e13 fw13 (g := (mkF m 67 #[.val (.ref a1), .val (.int p2), .val (.int (Int32.ofNat ((own_hash 4 (p2 + (1 : Int32)) + d) % 4)))] [(.ref a1), (.int (2 : Int32))])) rfl rfl (hb hby d6_67)
  obtain ⟨T19, X19, e19, st19⟩ := getF X18 hx hZ hown (host := "") (Or.inl (hw _ (List.mem_of_getElem? (i := 22) rfl))) Via.refl e18 f15_F_a1_slots (g := (mkF m 72 #[.val (.ref a1), .val (.int p2), .val (.int (Int32.ofNat ((own_hash 4 (p2 + (1 : Int32)) + d) % 4)))] [(.ref a1), (.int ((2 : Int32) * ((Int32.ofNat sz) + (1 : Int32))))])) rfl rfl (hb hby d6_72)
  obtain ⟨c20, Ar20, -, S20, M20, -, -⟩ := (id f16_V_ar)
  obtain ⟨cq21, q21, q21'⟩ := (f14_E_a1).cell
  have hpv21 : s.PrivateAt (⟨"com/example/subsumption/subsumption/IntSet", "grow", "()V"⟩ : MethodName) := Cond.privateMethod_at (mvP hZ (hw _ (List.mem_of_getElem? (i := 43) rfl)) (args := #[]))
  obtain ⟨_, _, ⟨T21, L21, k21, n21⟩, -, X21, ⟨Lc21, hQ21, l21, y21, z21⟩, st21⟩ := X19.privateBack hx (y := (⟨"com/example/subsumption/subsumption/IntSet", "grow", "()V"⟩ : MethodName)) hown (mvT hZ (hw _ (List.mem_of_getElem? (i := 41) rfl))) (mvT hZ (hw _ (List.mem_of_getElem? (i := 42) rfl))) (own_priv (mvT hZ (hw _ (List.mem_of_getElem? (i := 27) rfl))) hpv21 (mvT hZ (hw _ (List.mem_of_getElem? (i := 42) rfl)))) hpv21 (mvT hZ (hw _ (List.mem_of_getElem? (i := 44) rfl))) (by decide) (backOf (W := 0) (rm9 l Z a0 hw [] a1 ar ka (vs.set ((own_hash 4 (p2 + (1 : Int32)) + d) % 4) (p2 + (1 : Int32))) ((Int32.ofNat sz) + (1 : Int32)) h13 n0 z13 f14_E_a1 g_a1 f15_F_a1_slots fw13 f16_V_ar ne0) hZ (hw _ (List.mem_of_getElem? (i := 44) rfl)) (hw _ (List.mem_of_getElem? (i := 14) rfl)) (by decide) (by decide)) (g := (mkF m 80 #[.val (.ref a1), .val (.int p2), .val (.int (Int32.ofNat ((own_hash 4 (p2 + (1 : Int32)) + d) % 4)))] [(.ref a1)])) rfl (by rw [hml]; rfl) (Steps.refl _) (a := a1) (by rw [e19]; exact q21) q21' (argsL := []) (rest := []) (lenOf pd___V rfl) rfl (by show 2 * 0 + _ ≤ _; exact Nat.le_of_eq rfl) (hb hby d6_80) (fun _ _ => ⟨rfl, e19, (Nat.le_of_ble_eq_true rfl), (Nat.le_of_ble_eq_true rfl)⟩)
  dsimp only [Pt.U, Pt.locs, Pt.cells, Pt.slots] at X21 l21 y21 z21 st21 hQ21
  subst l21 y21 z21
  obtain ⟨rfl, N21q, nr, kn, us, KG, EG, FsG, FzG, VG, gG, sG, neG, hgG, hcG, hinG⟩ := hQ21
  have N21 := Fr.app N13 N21q
  have KF : Keep h0 T21.heap [a1, ar] := K17.trans KG (allS (Or.inl (List.mem_of_getElem? (i := 0) rfl)) all0)
  have szF : h0.size ≤ nr := Nat.le_trans K17.1 sG
  obtain ⟨fs, hr, hrun, hended, hW, hsame⟩ := X21.leave (v := some (.int (1 : Int32))) (fun h => by rw [Bd.returns] at h; cases h)
  refine ⟨_, _, pre0 _ ?_, hrun, hended, _, _, rfl, ?_, ⟨_, rfl⟩, hW, hsame.mono (by decide) (by decide)⟩
  · show Steps p.tables e below (s₁.setTop (mkF m 0 #[.val (.ref a1), .val (.int p2), .unset] [])) _
    refine XS.iloadN X0.here hx rfl (hb hby d6_0) rfl ?_
    show Steps p.tables e below (s₁.setTop (mkF m 1 #[.val (.ref a1), .val (.int p2), .unset] [(.int p2)])) _
    refine XS.ifNo X0.here hx rfl (hb hby d6_1) rfl ((if0 _ _).trans (flt (hp1 : ¬ (p2 < (0 : Int32)))).1) ?_
    show Steps p.tables e below (s₁.setTop (mkF m 4 #[.val (.ref a1), .val (.int p2), .unset] [])) _
    refine XS.iloadN X0.here hx rfl (hb hby d6_4) rfl ?_
    show Steps p.tables e below (s₁.setTop (mkF m 5 #[.val (.ref a1), .val (.int p2), .unset] [(.int p2)])) _
    refine X0.ldcInt hx hown (mvT hZ (hw _ (List.mem_of_getElem? (i := 29) rfl))) (g := (mkF m 5 #[.val (.ref a1), .val (.int p2), .unset] [(.int p2)])) rfl (hb hby d6_5) _ ?_
    show Steps p.tables e below (s₁.setTop (mkF m 7 #[.val (.ref a1), .val (.int p2), .unset] [(.int (2147483647 : Int32)), (.int p2)])) _
    refine XS.icmpYes X0.here hx rfl (pc0 := 7) (pc' := 24) rfl (hb hby d6_7) rfl (feq (hp2 : ¬ (p2 = (2147483647 : Int32)))).2 (by decide) (by decide) ?_
    show Steps p.tables e below (s₁.setTop (mkF m 24 #[.val (.ref a1), .val (.int p2), .unset] [])) _
    refine XS.iloadN X0.here hx rfl (hb hby d6_24) rfl ?_
    show Steps p.tables e below (s₁.setTop (mkF m 25 #[.val (.ref a1), .val (.int p2), .unset] [(.int p2)])) _
    refine XS.iconst X0.here hx rfl (hb hby d6_25) ?_
    show Steps p.tables e below (s₁.setTop (mkF m 26 #[.val (.ref a1), .val (.int p2), .unset] [(.int (1 : Int32)), (.int p2)])) _
    refine XS.iadd X0.here hx rfl (hb hby d6_26) rfl ?_
    show Steps p.tables e below (s₁.setTop (mkF m 27 #[.val (.ref a1), .val (.int p2), .unset] [(.int (p2 + (1 : Int32)))])) _
    refine XS.aloadN X0.here hx rfl (hb hby d6_27) rfl rfl ?_
    show Steps p.tables e below (s₁.setTop (mkF m 28 #[.val (.ref a1), .val (.int p2), .unset] [(.ref a1), (.int (p2 + (1 : Int32)))])) _
    refine st1 _ ?_
    show Steps p.tables e below (T1.setTop (mkF m 31 #[.val (.ref a1), .val (.int p2), .unset] [(.ref ar), (.int (p2 + (1 : Int32)))])) _
    refine st2 _ ?_
    show Steps p.tables e below (T2.setTop (mkF m 34 #[.val (.ref a1), .val (.int p2), .unset] [(.int (Int32.ofNat ((own_hash 4 (p2 + (1 : Int32)) + d) % 4)))])) _
    refine XS.istoreN X2.here hx rfl (hb hby d6_34) rfl (l' := #[.val (.ref a1), .val (.int p2), .val (.int (Int32.ofNat ((own_hash 4 (p2 + (1 : Int32)) + d) % 4)))]) rfl ?_
    show Steps p.tables e below (T2.setTop (mkF m 35 #[.val (.ref a1), .val (.int p2), .val (.int (Int32.ofNat ((own_hash 4 (p2 + (1 : Int32)) + d) % 4)))] [])) _
    refine XS.aloadN X2.here hx rfl (hb hby d6_35) rfl rfl ?_
    show Steps p.tables e below (T2.setTop (mkF m 36 #[.val (.ref a1), .val (.int p2), .val (.int (Int32.ofNat ((own_hash 4 (p2 + (1 : Int32)) + d) % 4)))] [(.ref a1)])) _
    refine st3 _ ?_
    show Steps p.tables e below (T3.setTop (mkF m 39 #[.val (.ref a1), .val (.int p2), .val (.int (Int32.ofNat ((own_hash 4 (p2 + (1 : Int32)) + d) % 4)))] [(.ref ar)])) _
    refine XS.iloadN X3.here hx rfl (hb hby d6_39) rfl ?_
    show Steps p.tables e below (T3.setTop (mkF m 40 #[.val (.ref a1), .val (.int p2), .val (.int (Int32.ofNat ((own_hash 4 (p2 + (1 : Int32)) + d) % 4)))] [(.int (Int32.ofNat ((own_hash 4 (p2 + (1 : Int32)) + d) % 4))), (.ref ar)])) _
    refine X3.iaload hx (j := (Int32.ofNat ((own_hash 4 (p2 + (1 : Int32)) + d) % 4))) (v := (.int (own_at 4 vs (p2 + (1 : Int32)) d))) (by rw [e3]; exact Ar4.1) (State.isArrayOf_alike hZ.alike Ar4.2.1) Ar4.2.2 hin4 hat4 (g := (mkF m 40 #[.val (.ref a1), .val (.int p2), .val (.int (Int32.ofNat ((own_hash 4 (p2 + (1 : Int32)) + d) % 4)))] [(.int (Int32.ofNat ((own_hash 4 (p2 + (1 : Int32)) + d) % 4))), (.ref ar)])) rfl rfl (hb hby d6_40) _ ?_
    show Steps p.tables e below (T3.setTop (mkF m 41 #[.val (.ref a1), .val (.int p2), .val (.int (Int32.ofNat ((own_hash 4 (p2 + (1 : Int32)) + d) % 4)))] [(.int (own_at 4 vs (p2 + (1 : Int32)) d))])) _
    refine XS.ifYes X3.here hx rfl (pc0 := 41) (pc' := 46) rfl (hb hby d6_41) rfl ((if0 _ _).trans (teq hc41).1) (by decide) (by decide) ?_
    show Steps p.tables e below (T3.setTop (mkF m 46 #[.val (.ref a1), .val (.int p2), .val (.int (Int32.ofNat ((own_hash 4 (p2 + (1 : Int32)) + d) % 4)))] [])) _
    refine XS.aloadN X3.here hx rfl (hb hby d6_46) rfl rfl ?_
    show Steps p.tables e below (T3.setTop (mkF m 47 #[.val (.ref a1), .val (.int p2), .val (.int (Int32.ofNat ((own_hash 4 (p2 + (1 : Int32)) + d) % 4)))] [(.ref a1)])) _
    refine st5 _ ?_
    show Steps p.tables e below (T5.setTop (mkF m 50 #[.val (.ref a1), .val (.int p2), .val (.int (Int32.ofNat ((own_hash 4 (p2 + (1 : Int32)) + d) % 4)))] [(.ref ar)])) _
    refine XS.iloadN X5.here hx rfl (hb hby d6_50) rfl ?_
    show Steps p.tables e below (T5.setTop (mkF m 51 #[.val (.ref a1), .val (.int p2), .val (.int (Int32.ofNat ((own_hash 4 (p2 + (1 : Int32)) + d) % 4)))] [(.int (Int32.ofNat ((own_hash 4 (p2 + (1 : Int32)) + d) % 4))), (.ref ar)])) _
    refine XS.iloadN X5.here hx rfl (hb hby d6_51) rfl ?_
    show Steps p.tables e below (T5.setTop (mkF m 52 #[.val (.ref a1), .val (.int p2), .val (.int (Int32.ofNat ((own_hash 4 (p2 + (1 : Int32)) + d) % 4)))] [(.int p2), (.int (Int32.ofNat ((own_hash 4 (p2 + (1 : Int32)) + d) % 4))), (.ref ar)])) _
    refine XS.iconst X5.here hx rfl (hb hby d6_52) ?_
    show Steps p.tables e below (T5.setTop (mkF m 53 #[.val (.ref a1), .val (.int p2), .val (.int (Int32.ofNat ((own_hash 4 (p2 + (1 : Int32)) + d) % 4)))] [(.int (1 : Int32)), (.int p2), (.int (Int32.ofNat ((own_hash 4 (p2 + (1 : Int32)) + d) % 4))), (.ref ar)])) _
    refine XS.iadd X5.here hx rfl (hb hby d6_53) rfl ?_
    show Steps p.tables e below (T5.setTop (mkF m 54 #[.val (.ref a1), .val (.int p2), .val (.int (Int32.ofNat ((own_hash 4 (p2 + (1 : Int32)) + d) % 4)))] [(.int (p2 + (1 : Int32))), (.int (Int32.ofNat ((own_hash 4 (p2 + (1 : Int32)) + d) % 4))), (.ref ar)])) _
    refine st7 _ ?_
    show Steps p.tables e below (T7.setTop (mkF m 55 #[.val (.ref a1), .val (.int p2), .val (.int (Int32.ofNat ((own_hash 4 (p2 + (1 : Int32)) + d) % 4)))] [])) _
    refine XS.aloadN X7.here hx rfl (hb hby d6_55) rfl rfl ?_
    show Steps p.tables e below (T7.setTop (mkF m 56 #[.val (.ref a1), .val (.int p2), .val (.int (Int32.ofNat ((own_hash 4 (p2 + (1 : Int32)) + d) % 4)))] [(.ref a1)])) _
    refine XS.dup X7.here hx rfl (hb hby d6_56) rfl rfl ?_
    show Steps p.tables e below (T7.setTop (mkF m 57 #[.val (.ref a1), .val (.int p2), .val (.int (Int32.ofNat ((own_hash 4 (p2 + (1 : Int32)) + d) % 4)))] [(.ref a1), (.ref a1)])) _
    refine st12 _ ?_
    show Steps p.tables e below (T12.setTop (mkF m 60 #[.val (.ref a1), .val (.int p2), .val (.int (Int32.ofNat ((own_hash 4 (p2 + (1 : Int32)) + d) % 4)))] [(.int (Int32.ofNat sz)), (.ref a1)])) _
    refine XS.iconst X12.here hx rfl (hb hby d6_60) ?_
    show Steps p.tables e below (T12.setTop (mkF m 61 #[.val (.ref a1), .val (.int p2), .val (.int (Int32.ofNat ((own_hash 4 (p2 + (1 : Int32)) + d) % 4)))] [(.int (1 : Int32)), (.int (Int32.ofNat sz)), (.ref a1)])) _
    refine XS.iadd X12.here hx rfl (hb hby d6_61) rfl ?_
    show Steps p.tables e below (T12.setTop (mkF m 62 #[.val (.ref a1), .val (.int p2), .val (.int (Int32.ofNat ((own_hash 4 (p2 + (1 : Int32)) + d) % 4)))] [(.int ((Int32.ofNat sz) + (1 : Int32))), (.ref a1)])) _
    refine st13 _ ?_
    show Steps p.tables e below (T13.setTop (mkF m 65 #[.val (.ref a1), .val (.int p2), .val (.int (Int32.ofNat ((own_hash 4 (p2 + (1 : Int32)) + d) % 4)))] [])) _
    refine XS.iconst X13.here hx rfl (hb hby d6_65) ?_
    show Steps p.tables e below (T13.setTop (mkF m 66 #[.val (.ref a1), .val (.int p2), .val (.int (Int32.ofNat ((own_hash 4 (p2 + (1 : Int32)) + d) % 4)))] [(.int (2 : Int32))])) _
    refine XS.aloadN X13.here hx rfl (hb hby d6_66) rfl rfl ?_
    show Steps p.tables e below (T13.setTop (mkF m 67 #[.val (.ref a1), .val (.int p2), .val (.int (Int32.ofNat ((own_hash 4 (p2 + (1 : Int32)) + d) % 4)))] [(.ref a1), (.int (2 : Int32))])) _
    refine st18 _ ?_
    show Steps p.tables e below (T18.setTop (mkF m 70 #[.val (.ref a1), .val (.int p2), .val (.int (Int32.ofNat ((own_hash 4 (p2 + (1 : Int32)) + d) % 4)))] [(.int ((Int32.ofNat sz) + (1 : Int32))), (.int (2 : Int32))])) _
    refine XS.imul X18.here hx rfl (hb hby d6_70) rfl ?_
    show Steps p.tables e below (T18.setTop (mkF m 71 #[.val (.ref a1), .val (.int p2), .val (.int (Int32.ofNat ((own_hash 4 (p2 + (1 : Int32)) + d) % 4)))] [(.int ((2 : Int32) * ((Int32.ofNat sz) + (1 : Int32))))])) _
    refine XS.aloadN X18.here hx rfl (hb hby d6_71) rfl rfl ?_
    show Steps p.tables e below (T18.setTop (mkF m 72 #[.val (.ref a1), .val (.int p2), .val (.int (Int32.ofNat ((own_hash 4 (p2 + (1 : Int32)) + d) % 4)))] [(.ref a1), (.int ((2 : Int32) * ((Int32.ofNat sz) + (1 : Int32))))])) _
    refine st19 _ ?_
    show Steps p.tables e below (T19.setTop (mkF m 75 #[.val (.ref a1), .val (.int p2), .val (.int (Int32.ofNat ((own_hash 4 (p2 + (1 : Int32)) + d) % 4)))] [(.ref ar), (.int ((2 : Int32) * ((Int32.ofNat sz) + (1 : Int32))))])) _
    refine X19.arraylength hx (by rw [e19]; exact Ar20.1) (State.isArrayOf_alike hZ.alike Ar20.2.1) (g := (mkF m 75 #[.val (.ref a1), .val (.int p2), .val (.int (Int32.ofNat ((own_hash 4 (p2 + (1 : Int32)) + d) % 4)))] [(.ref ar), (.int ((2 : Int32) * ((Int32.ofNat sz) + (1 : Int32))))])) rfl rfl (hb hby d6_75) _ ?_
    rw [len_of S20 M20]
    show Steps p.tables e below (T19.setTop (mkF m 76 #[.val (.ref a1), .val (.int p2), .val (.int (Int32.ofNat ((own_hash 4 (p2 + (1 : Int32)) + d) % 4)))] [(.int (4 : Int32)), (.int ((2 : Int32) * ((Int32.ofNat sz) + (1 : Int32))))])) _
    refine XS.icmpNo X19.here hx rfl (hb hby d6_76) rfl (tlt (hbig : (4 : Int32) < ((2 : Int32) * ((Int32.ofNat sz) + (1 : Int32))))).2.2.2 ?_
    show Steps p.tables e below (T19.setTop (mkF m 79 #[.val (.ref a1), .val (.int p2), .val (.int (Int32.ofNat ((own_hash 4 (p2 + (1 : Int32)) + d) % 4)))] [])) _
    refine XS.aloadN X19.here hx rfl (hb hby d6_79) rfl rfl ?_
    show Steps p.tables e below (T19.setTop (mkF m 80 #[.val (.ref a1), .val (.int p2), .val (.int (Int32.ofNat ((own_hash 4 (p2 + (1 : Int32)) + d) % 4)))] [(.ref a1)])) _
    refine st21.trans ?_
    show Steps p.tables e below (T21.setTop (mkF m 83 #[.val (.ref a1), .val (.int p2), .val (.int (Int32.ofNat ((own_hash 4 (p2 + (1 : Int32)) + d) % 4)))] [])) _
    refine XS.iconst X21.here hx rfl (hb hby d6_83) ?_
    show Steps p.tables e below (T21.setTop (mkF m 84 #[.val (.ref a1), .val (.int p2), .val (.int (Int32.ofNat ((own_hash 4 (p2 + (1 : Int32)) + d) % 4)))] [(.int (1 : Int32))])) _
    exact retN X21 hx (t := .boolean) Bd.returns (by simp) (hb hby d6_84) hr
  · show Q6 Z a1 ar (p2 + (1 : Int32)) vs sz h0 n0 _ T21.heap _
    exact ⟨_, rfl, N21, nr, 8, us, sz + 1, KF, ⟨EG, FsG, (own_succ (show sz < 999 by omega)) ▸ FzG, ⟨kn, VG⟩, g_a1, gG, neG, hgG, Or.inr ⟨rfl, by omega, hcG⟩⟩, (fun y hy => (hinG y hy).trans (show (∃ j, j < 4 ∧ (vs.set ((own_hash 4 (p2 + (1 : Int32)) + d) % 4) (p2 + (1 : Int32))).getD j 0 = y) ↔ _ from In.put hg hh hy)), Nat.le_refl _, Or.inr szF⟩
theorem rm6 (l : Launch) (Z : State) (a0 : Array Value) (hw : ∀ d ∈ tables_1, d.before a0 Z = true) (ws : List Jvm.Cond) (a1 : Addr) (p2 : Int32) (ar : Addr) (n : Nat) (vs : List Int32) (sz : Nat) (h0 : Heap) (n0 : Nat) (Z0 : n0 ≤ h0.size) (S : SetA Z h0 n0 a1 ar n vs sz) (hsz : sz ≤ 2) (hp1 : ¬ p2 < 0) (hp2 : ¬ p2 = 2147483647) (hx0 : ¬ (p2 + (1 : Int32)) = 0) :
    MetFree l (⟨"com/example/subsumption/subsumption/IntSet", "add", "(I)Z"⟩ : MethodName) (head1 (Jvm.Cond.code (⟨"com/example/subsumption/subsumption/IntSet", "add", "(I)Z"⟩ : MethodName) prog_2_method_2_code 3 (some .boolean) :: ws) ({ frames := 3, cells := 1, slots := 8, locals := 47 } : Room)) (fun a U => a = #[(.ref a1), (.int p2)] ∧ Z.Warmed39 U.vm ∧ U.heap = h0) (fun _ _ _ _ _ => True) (fun _ U o U' => ∃ v L, o = .returned v ∧ Q6 Z a1 ar (p2 + (1 : Int32)) vs sz h0 n0 v U'.heap L ∧ FrameEnd U o U' L ({ frames := 3, cells := 1, slots := 8, locals := 47 } : Room).cells ({ frames := 3, cells := 1, slots := 8, locals := 47 } : Room).slots) := by
  obtain ⟨E, Fs, Fz, ⟨ka, VO⟩, g1, g2, ne0, hg, hn⟩ := S
  obtain ⟨rfl, -, hcn⟩ : n = 4 ∧ sz ≤ 2 ∧ cnt vs = sz := hn.resolve_right fun q => by omega
  obtain ⟨d, hh⟩ := own_find hg (show cnt vs < 4 by omega) (p2 + (1 : Int32))
  by_cases c41 : own_at 4 vs (p2 + (1 : Int32)) d = 0
  · by_cases c1 : sz ≤ 1
    · exact rm6b l Z a0 hw ws a1 p2 ar ka vs sz d h0 n0 Z0 E Fs Fz VO g1 g2 ne0 hg.1 hh hp1 hp2 hg hsz hcn hx0 c1 c41
    · obtain rfl : sz = 2 := by omega
      exact rm6c l Z a0 hw ws a1 p2 ar ka vs 2 d h0 n0 Z0 E Fs Fz VO g1 g2 ne0 hg.1 hh hp1 hp2 hg hsz hcn hx0 rfl own_big c41
  · exact rm6a l Z a0 hw ws a1 p2 ar ka vs sz d h0 n0 Z0 E Fs Fz VO g1 g2 ne0 hg.1 hh hp1 hp2 hg hsz hcn hx0 c41
theorem d11_11 : decode prog_2_method_4_code 11 = .ok (.iload 4, 2) := by decide +kernel
theorem d11_13 : decode prog_2_method_4_code 13 = .ok (.iload_n 3, 1) := by decide +kernel
theorem d11_14 : decode prog_2_method_4_code 14 = .ok (.if_icmp .ge 39, 3) := by decide +kernel
theorem d11_17 : decode prog_2_method_4_code 17 = .ok (.aload_n 2, 1) := by decide +kernel
theorem d11_18 : decode prog_2_method_4_code 18 = .ok (.iload 4, 2) := by decide +kernel
theorem d11_20 : decode prog_2_method_4_code 20 = .ok (.iaload, 1) := by decide +kernel
theorem d11_21 : decode prog_2_method_4_code 21 = .ok (.istore 5, 2) := by decide +kernel
theorem d11_23 : decode prog_2_method_4_code 23 = .ok (.iload 5, 2) := by decide +kernel
theorem d11_25 : decode prog_2_method_4_code 25 = .ok (.ifCond .eq 22, 3) := by decide +kernel
theorem d11_47 : decode prog_2_method_4_code 47 = .ok (.iinc 4 1, 3) := by decide +kernel
theorem d11_50 : decode prog_2_method_4_code 50 = .ok (.goto (-39), 3) := by decide +kernel
set_option maxRecDepth 65536 in
set_option maxHeartbeats 40000000 in
theorem turn11z_4 {p : Program} {l : Launch} {e : Env} {s : State} {m : MethodId} {args : Array Value} {below : List Frame} {meth : Method} {c : Code} {T0 : State} {locs : List Loc} {Z : State} {a0 : Array Value} {h0 : Heap} {n0 : Nat} (a1 b1 ar br : Addr) (ka kb : ClassId) (vs ws : List Int32) (nb i : Nat) (s5 : Slot) (X0 : Stand p l e ({ frames := 2, cells := 0, slots := 0, locals := 30 } : Room) s m args below meth c T0 locs (0) (0)) (hx : p.tables.exec = Jvm.exec) (hZ : Z.Warmed39 s.vm) (hw : ∀ d ∈ tables_1, d.before a0 Z = true) (hby : c.code = prog_2_method_4_code) (hml : c.maxLocals = 6) (hown : s.vm.findClass "com/example/subsumption/subsumption/IntSet" = some m.cls) (e0 : T0.heap = h0) (N0 : Fr n0 locs) (Z0 : n0 ≤ h0.size) (hnb : nb < 900) (hi : i < nb) (h5 : One s5) (F_s : Fld Z h0 a1 "com/example/subsumption/subsumption/IntSet" "slots" "[I" (.ref ar)) (VA : Arv Z h0 ar ka .int (4 : Int32) (vs.map Value.int) (.int (0 : Int32))) (VB : Arv Z h0 br kb .int (Int32.ofNat nb) (ws.map Value.int) (.int (0 : Int32))) (hc25 : (ws.getD i 0) = (0 : Int32)) :
    ∃ (T' : State) (h' : Heap) (locs' : List Loc) , Stand p l e ({ frames := 2, cells := 0, slots := 0, locals := 30 } : Room) s m args below meth c T' locs' (0) (0) ∧ T'.heap = h' ∧ Fr n0 locs' ∧ n0 ≤ h'.size ∧ h' = h0 ∧ 
      ∀ target, Steps p.tables e below (T'.setTop (mkF m 11 #[.val (.ref a1), .val (.ref b1), .val (.ref br), .val (.int (Int32.ofNat nb)), .val (.int ((Int32.ofNat i) + (1 : Int32))), .val (.int (ws.getD i 0))] [])) target → Steps p.tables e below (T0.setTop (mkF m 11 #[.val (.ref a1), .val (.ref b1), .val (.ref br), .val (.int (Int32.ofNat nb)), .val (.int (Int32.ofNat i)), s5] [])) target := by
  obtain ⟨c1, Ar1, -, S1, -, H1, -⟩ := (id VB)
  have hin1 : ¬ ((Int32.ofNat i) < 0 ∨ c1.slots.size ≤ ((Int32.ofNat i)).toNatClampNeg) := inb_of S1 ⟨own_nn (by omega), (own_lt (by omega) (by omega)).mpr hi⟩
  have hat1 : c1.slots[((Int32.ofNat i)).toNatClampNeg]? = some (.int (ws.getD i 0)) := H1.at hin1 (by rw [own_natC (by omega)]; exact own_getI ws i)
  refine ⟨T0, h0, _, X0, e0, N0, Z0, rfl, fun target kt => ?_⟩
  show Steps p.tables e below (T0.setTop (mkF m 11 #[.val (.ref a1), .val (.ref b1), .val (.ref br), .val (.int (Int32.ofNat nb)), .val (.int (Int32.ofNat i)), s5] [])) _
  refine XS.iload X0.here hx rfl (hb hby d11_11) rfl ?_
  show Steps p.tables e below (T0.setTop (mkF m 13 #[.val (.ref a1), .val (.ref b1), .val (.ref br), .val (.int (Int32.ofNat nb)), .val (.int (Int32.ofNat i)), s5] [(.int (Int32.ofNat i))])) _
  refine XS.iloadN X0.here hx rfl (hb hby d11_13) rfl ?_
  show Steps p.tables e below (T0.setTop (mkF m 14 #[.val (.ref a1), .val (.ref b1), .val (.ref br), .val (.int (Int32.ofNat nb)), .val (.int (Int32.ofNat i)), s5] [(.int (Int32.ofNat nb)), (.int (Int32.ofNat i))])) _
  refine XS.icmpNo X0.here hx rfl (hb hby d11_14) rfl (tlt ((own_lt (by omega) (by omega)).mpr hi : (Int32.ofNat i) < (Int32.ofNat nb))).2.1 ?_
  show Steps p.tables e below (T0.setTop (mkF m 17 #[.val (.ref a1), .val (.ref b1), .val (.ref br), .val (.int (Int32.ofNat nb)), .val (.int (Int32.ofNat i)), s5] [])) _
  refine XS.aloadN X0.here hx rfl (hb hby d11_17) rfl rfl ?_
  show Steps p.tables e below (T0.setTop (mkF m 18 #[.val (.ref a1), .val (.ref b1), .val (.ref br), .val (.int (Int32.ofNat nb)), .val (.int (Int32.ofNat i)), s5] [(.ref br)])) _
  refine XS.iload X0.here hx rfl (hb hby d11_18) rfl ?_
  show Steps p.tables e below (T0.setTop (mkF m 20 #[.val (.ref a1), .val (.ref b1), .val (.ref br), .val (.int (Int32.ofNat nb)), .val (.int (Int32.ofNat i)), s5] [(.int (Int32.ofNat i)), (.ref br)])) _
  refine X0.iaload hx (j := (Int32.ofNat i)) (v := (.int (ws.getD i 0))) (by rw [e0]; exact Ar1.1) (State.isArrayOf_alike hZ.alike Ar1.2.1) Ar1.2.2 hin1 hat1 (g := (mkF m 20 #[.val (.ref a1), .val (.ref b1), .val (.ref br), .val (.int (Int32.ofNat nb)), .val (.int (Int32.ofNat i)), s5] [(.int (Int32.ofNat i)), (.ref br)])) rfl rfl (hb hby d11_20) _ ?_
  show Steps p.tables e below (T0.setTop (mkF m 21 #[.val (.ref a1), .val (.ref b1), .val (.ref br), .val (.int (Int32.ofNat nb)), .val (.int (Int32.ofNat i)), s5] [(.int (ws.getD i 0))])) _
  refine XS.istore X0.here hx rfl (hb hby d11_21) rfl (l' := #[.val (.ref a1), .val (.ref b1), .val (.ref br), .val (.int (Int32.ofNat nb)), .val (.int (Int32.ofNat i)), .val (.int (ws.getD i 0))]) (own_os h5) ?_
  show Steps p.tables e below (T0.setTop (mkF m 23 #[.val (.ref a1), .val (.ref b1), .val (.ref br), .val (.int (Int32.ofNat nb)), .val (.int (Int32.ofNat i)), .val (.int (ws.getD i 0))] [])) _
  refine XS.iload X0.here hx rfl (hb hby d11_23) rfl ?_
  show Steps p.tables e below (T0.setTop (mkF m 25 #[.val (.ref a1), .val (.ref b1), .val (.ref br), .val (.int (Int32.ofNat nb)), .val (.int (Int32.ofNat i)), .val (.int (ws.getD i 0))] [(.int (ws.getD i 0))])) _
  refine XS.ifYes X0.here hx rfl (pc0 := 25) (pc' := 47) rfl (hb hby d11_25) rfl ((if0 _ _).trans (teq hc25).1) (by decide) (by decide) ?_
  show Steps p.tables e below (T0.setTop (mkF m 47 #[.val (.ref a1), .val (.ref b1), .val (.ref br), .val (.int (Int32.ofNat nb)), .val (.int (Int32.ofNat i)), .val (.int (ws.getD i 0))] [])) _
  refine XS.iinc X0.here hx rfl (hb hby d11_47) rfl (l' := #[.val (.ref a1), .val (.ref b1), .val (.ref br), .val (.int (Int32.ofNat nb)), .val (.int ((Int32.ofNat i) + (1 : Int32))), .val (.int (ws.getD i 0))]) rfl ?_
  show Steps p.tables e below (T0.setTop (mkF m 50 #[.val (.ref a1), .val (.ref b1), .val (.ref br), .val (.int (Int32.ofNat nb)), .val (.int ((Int32.ofNat i) + (1 : Int32))), .val (.int (ws.getD i 0))] [])) _
  refine XS.goto X0.here hx rfl (pc0 := 50) (pc' := 11) rfl (hb hby d11_50) (by decide) (by decide) ?_
  exact kt
theorem d11_28 : decode prog_2_method_4_code 28 = .ok (.aload_n 0, 1) := by decide +kernel
theorem d11_29 : decode prog_2_method_4_code 29 = .ok (.getfield 9, 3) := by decide +kernel
theorem d11_32 : decode prog_2_method_4_code 32 = .ok (.iload 5, 2) := by decide +kernel
theorem d11_34 : decode prog_2_method_4_code 34 = .ok (.aload_n 0, 1) := by decide +kernel
theorem d11_35 : decode prog_2_method_4_code 35 = .ok (.getfield 9, 3) := by decide +kernel
theorem d11_38 : decode prog_2_method_4_code 38 = .ok (.invokestatic 25, 3) := by decide +kernel
theorem d11_41 : decode prog_2_method_4_code 41 = .ok (.iaload, 1) := by decide +kernel
theorem d11_42 : decode prog_2_method_4_code 42 = .ok (.ifCond .ne 5, 3) := by decide +kernel
set_option maxRecDepth 65536 in
set_option maxHeartbeats 40000000 in
theorem turn11y_4 {p : Program} {l : Launch} {e : Env} {s : State} {m : MethodId} {args : Array Value} {below : List Frame} {meth : Method} {c : Code} {T0 : State} {locs : List Loc} {Z : State} {a0 : Array Value} {h0 : Heap} {n0 : Nat} (a1 b1 ar br : Addr) (ka kb : ClassId) (vs ws : List Int32) (nb i : Nat) (s5 : Slot) (d : Nat) (X0 : Stand p l e ({ frames := 2, cells := 0, slots := 0, locals := 30 } : Room) s m args below meth c T0 locs (0) (0)) (hx : p.tables.exec = Jvm.exec) (hZ : Z.Warmed39 s.vm) (hw : ∀ d ∈ tables_1, d.before a0 Z = true) (hby : c.code = prog_2_method_4_code) (hml : c.maxLocals = 6) (hown : s.vm.findClass "com/example/subsumption/subsumption/IntSet" = some m.cls) (e0 : T0.heap = h0) (N0 : Fr n0 locs) (Z0 : n0 ≤ h0.size) (hnb : nb < 900) (hi : i < nb) (h5 : One s5) (F_s : Fld Z h0 a1 "com/example/subsumption/subsumption/IntSet" "slots" "[I" (.ref ar)) (VA : Arv Z h0 ar ka .int (4 : Int32) (vs.map Value.int) (.int (0 : Int32))) (VB : Arv Z h0 br kb .int (Int32.ofNat nb) (ws.map Value.int) (.int (0 : Int32))) (hh : Hit 4 vs (ws.getD i 0) d) (hc25 : ¬ ((ws.getD i 0) = (0 : Int32))) (hc42 : ¬ ((own_at 4 vs (ws.getD i 0) d) = (0 : Int32))) :
    ∃ (T' : State) (h' : Heap) (locs' : List Loc) , Stand p l e ({ frames := 2, cells := 0, slots := 0, locals := 30 } : Room) s m args below meth c T' locs' (0) (0) ∧ T'.heap = h' ∧ Fr n0 locs' ∧ n0 ≤ h'.size ∧ h' = h0 ∧ 
      ∀ target, Steps p.tables e below (T'.setTop (mkF m 11 #[.val (.ref a1), .val (.ref b1), .val (.ref br), .val (.int (Int32.ofNat nb)), .val (.int ((Int32.ofNat i) + (1 : Int32))), .val (.int (ws.getD i 0))] [])) target → Steps p.tables e below (T0.setTop (mkF m 11 #[.val (.ref a1), .val (.ref b1), .val (.ref br), .val (.int (Int32.ofNat nb)), .val (.int (Int32.ofNat i)), s5] [])) target := by
  obtain ⟨c1, Ar1, -, S1, -, H1, -⟩ := (id VB)
  have hin1 : ¬ ((Int32.ofNat i) < 0 ∨ c1.slots.size ≤ ((Int32.ofNat i)).toNatClampNeg) := inb_of S1 ⟨own_nn (by omega), (own_lt (by omega) (by omega)).mpr hi⟩
  have hat1 : c1.slots[((Int32.ofNat i)).toNatClampNeg]? = some (.int (ws.getD i 0)) := H1.at hin1 (by rw [own_natC (by omega)]; exact own_getI ws i)
  obtain ⟨T2, X2, e2, st2⟩ := getF X0 hx hZ hown (host := "") (Or.inl (hw _ (List.mem_of_getElem? (i := 22) rfl))) Via.refl e0 F_s (g := (mkF m 29 #[.val (.ref a1), .val (.ref b1), .val (.ref br), .val (.int (Int32.ofNat nb)), .val (.int (Int32.ofNat i)), .val (.int (ws.getD i 0))] [(.ref a1)])) rfl rfl (hb hby d11_29)
  obtain ⟨T3, X3, e3, st3⟩ := getF X2 hx hZ hown (host := "") (Or.inl (hw _ (List.mem_of_getElem? (i := 22) rfl))) Via.refl e2 F_s (g := (mkF m 35 #[.val (.ref a1), .val (.ref b1), .val (.ref br), .val (.int (Int32.ofNat nb)), .val (.int (Int32.ofNat i)), .val (.int (ws.getD i 0))] [(.ref a1), (.int (ws.getD i 0)), (.ref ar)])) rfl rfl (hb hby d11_35)
  obtain ⟨_, _, ⟨T4, L4, k4, n4⟩, -, X4, ⟨Lc4, hQ4, l4, y4, z4⟩, st4⟩ := Jvm.LawKit.callS X3 hx (y := (⟨"com/example/subsumption/subsumption/IntSet", "slotOf", "(I[I)I"⟩ : MethodName)) hown (mvT hZ (hw _ (List.mem_of_getElem? (i := 30) rfl))) (mvT hZ (hw _ (List.mem_of_getElem? (i := 31) rfl))) (mvT hZ (hw _ (List.mem_of_getElem? (i := 14) rfl))) (mvT hZ (hw _ (List.mem_of_getElem? (i := 32) rfl))) (by decide) (backOf (W := 1) (rm7_4 l Z a0 hw [] (ws.getD i 0) ar ka vs d h0 n0 Z0 VA hh) hZ (hw _ (List.mem_of_getElem? (i := 32) rfl)) (hw _ (List.mem_of_getElem? (i := 14) rfl)) (by decide) (by decide)) (g := (mkF m 38 #[.val (.ref a1), .val (.ref b1), .val (.ref br), .val (.int (Int32.ofNat nb)), .val (.int (Int32.ofNat i)), .val (.int (ws.getD i 0))] [(.ref ar), (.int (ws.getD i 0)), (.ref ar)])) rfl (by rw [hml]; rfl) (argsL := [(.int (ws.getD i 0)), (.ref ar)]) (rest := [(.ref ar)]) (lenOf pd__I_I_I rfl) rfl (by show 2 * 0 + _ ≤ _; exact Nat.le_of_eq rfl) (hb hby d11_38) (fun _ _ => ⟨rfl, e3, (Nat.le_of_ble_eq_true rfl), (Nat.le_of_ble_eq_true rfl)⟩)
  dsimp only [Pt.U, Pt.locs, Pt.cells, Pt.slots] at X4 l4 y4 z4 st4 hQ4
  subst l4 y4 z4
  obtain ⟨rfl, N4q, e4⟩ := hQ4
  have N4 := Fr.app N0 N4q
  obtain ⟨c5, Ar5, -, S5, -, H5, -⟩ := (id VA)
  have mm5 := (show (own_hash 4 (ws.getD i 0) + d) % 4 < 4 from Nat.mod_lt _ (by decide))
  have hin5 : ¬ ((Int32.ofNat ((own_hash 4 (ws.getD i 0) + d) % 4)) < 0 ∨ c5.slots.size ≤ ((Int32.ofNat ((own_hash 4 (ws.getD i 0) + d) % 4))).toNatClampNeg) := inb_of S5 ⟨own_nn (by omega), (own_lt (j := 4) (by omega) (by omega)).mpr mm5⟩
  have hat5 : c5.slots[((Int32.ofNat ((own_hash 4 (ws.getD i 0) + d) % 4))).toNatClampNeg]? = some (.int (own_at 4 vs (ws.getD i 0) d)) := H5.at hin5 (by rw [own_natC (by omega)]; exact own_getI vs _)
  refine ⟨T4, h0, _, X4, e4, N4, Z0, rfl, fun target kt => ?_⟩
  show Steps p.tables e below (T0.setTop (mkF m 11 #[.val (.ref a1), .val (.ref b1), .val (.ref br), .val (.int (Int32.ofNat nb)), .val (.int (Int32.ofNat i)), s5] [])) _
  refine XS.iload X0.here hx rfl (hb hby d11_11) rfl ?_
  show Steps p.tables e below (T0.setTop (mkF m 13 #[.val (.ref a1), .val (.ref b1), .val (.ref br), .val (.int (Int32.ofNat nb)), .val (.int (Int32.ofNat i)), s5] [(.int (Int32.ofNat i))])) _
  refine XS.iloadN X0.here hx rfl (hb hby d11_13) rfl ?_
  show Steps p.tables e below (T0.setTop (mkF m 14 #[.val (.ref a1), .val (.ref b1), .val (.ref br), .val (.int (Int32.ofNat nb)), .val (.int (Int32.ofNat i)), s5] [(.int (Int32.ofNat nb)), (.int (Int32.ofNat i))])) _
  refine XS.icmpNo X0.here hx rfl (hb hby d11_14) rfl (tlt ((own_lt (by omega) (by omega)).mpr hi : (Int32.ofNat i) < (Int32.ofNat nb))).2.1 ?_
  show Steps p.tables e below (T0.setTop (mkF m 17 #[.val (.ref a1), .val (.ref b1), .val (.ref br), .val (.int (Int32.ofNat nb)), .val (.int (Int32.ofNat i)), s5] [])) _
  refine XS.aloadN X0.here hx rfl (hb hby d11_17) rfl rfl ?_
  show Steps p.tables e below (T0.setTop (mkF m 18 #[.val (.ref a1), .val (.ref b1), .val (.ref br), .val (.int (Int32.ofNat nb)), .val (.int (Int32.ofNat i)), s5] [(.ref br)])) _
  refine XS.iload X0.here hx rfl (hb hby d11_18) rfl ?_
  show Steps p.tables e below (T0.setTop (mkF m 20 #[.val (.ref a1), .val (.ref b1), .val (.ref br), .val (.int (Int32.ofNat nb)), .val (.int (Int32.ofNat i)), s5] [(.int (Int32.ofNat i)), (.ref br)])) _
  refine X0.iaload hx (j := (Int32.ofNat i)) (v := (.int (ws.getD i 0))) (by rw [e0]; exact Ar1.1) (State.isArrayOf_alike hZ.alike Ar1.2.1) Ar1.2.2 hin1 hat1 (g := (mkF m 20 #[.val (.ref a1), .val (.ref b1), .val (.ref br), .val (.int (Int32.ofNat nb)), .val (.int (Int32.ofNat i)), s5] [(.int (Int32.ofNat i)), (.ref br)])) rfl rfl (hb hby d11_20) _ ?_
  show Steps p.tables e below (T0.setTop (mkF m 21 #[.val (.ref a1), .val (.ref b1), .val (.ref br), .val (.int (Int32.ofNat nb)), .val (.int (Int32.ofNat i)), s5] [(.int (ws.getD i 0))])) _
  refine XS.istore X0.here hx rfl (hb hby d11_21) rfl (l' := #[.val (.ref a1), .val (.ref b1), .val (.ref br), .val (.int (Int32.ofNat nb)), .val (.int (Int32.ofNat i)), .val (.int (ws.getD i 0))]) (own_os h5) ?_
  show Steps p.tables e below (T0.setTop (mkF m 23 #[.val (.ref a1), .val (.ref b1), .val (.ref br), .val (.int (Int32.ofNat nb)), .val (.int (Int32.ofNat i)), .val (.int (ws.getD i 0))] [])) _
  refine XS.iload X0.here hx rfl (hb hby d11_23) rfl ?_
  show Steps p.tables e below (T0.setTop (mkF m 25 #[.val (.ref a1), .val (.ref b1), .val (.ref br), .val (.int (Int32.ofNat nb)), .val (.int (Int32.ofNat i)), .val (.int (ws.getD i 0))] [(.int (ws.getD i 0))])) _
  refine XS.ifNo X0.here hx rfl (hb hby d11_25) rfl ((if0 _ _).trans (feq hc25).1) ?_
  show Steps p.tables e below (T0.setTop (mkF m 28 #[.val (.ref a1), .val (.ref b1), .val (.ref br), .val (.int (Int32.ofNat nb)), .val (.int (Int32.ofNat i)), .val (.int (ws.getD i 0))] [])) _
  refine XS.aloadN X0.here hx rfl (hb hby d11_28) rfl rfl ?_
  show Steps p.tables e below (T0.setTop (mkF m 29 #[.val (.ref a1), .val (.ref b1), .val (.ref br), .val (.int (Int32.ofNat nb)), .val (.int (Int32.ofNat i)), .val (.int (ws.getD i 0))] [(.ref a1)])) _
  refine st2 _ ?_
  show Steps p.tables e below (T2.setTop (mkF m 32 #[.val (.ref a1), .val (.ref b1), .val (.ref br), .val (.int (Int32.ofNat nb)), .val (.int (Int32.ofNat i)), .val (.int (ws.getD i 0))] [(.ref ar)])) _
  refine XS.iload X2.here hx rfl (hb hby d11_32) rfl ?_
  show Steps p.tables e below (T2.setTop (mkF m 34 #[.val (.ref a1), .val (.ref b1), .val (.ref br), .val (.int (Int32.ofNat nb)), .val (.int (Int32.ofNat i)), .val (.int (ws.getD i 0))] [(.int (ws.getD i 0)), (.ref ar)])) _
  refine XS.aloadN X2.here hx rfl (hb hby d11_34) rfl rfl ?_
  show Steps p.tables e below (T2.setTop (mkF m 35 #[.val (.ref a1), .val (.ref b1), .val (.ref br), .val (.int (Int32.ofNat nb)), .val (.int (Int32.ofNat i)), .val (.int (ws.getD i 0))] [(.ref a1), (.int (ws.getD i 0)), (.ref ar)])) _
  refine st3 _ ?_
  show Steps p.tables e below (T3.setTop (mkF m 38 #[.val (.ref a1), .val (.ref b1), .val (.ref br), .val (.int (Int32.ofNat nb)), .val (.int (Int32.ofNat i)), .val (.int (ws.getD i 0))] [(.ref ar), (.int (ws.getD i 0)), (.ref ar)])) _
  refine st4 _ ?_
  show Steps p.tables e below (T4.setTop (mkF m 41 #[.val (.ref a1), .val (.ref b1), .val (.ref br), .val (.int (Int32.ofNat nb)), .val (.int (Int32.ofNat i)), .val (.int (ws.getD i 0))] [(.int (Int32.ofNat ((own_hash 4 (ws.getD i 0) + d) % 4))), (.ref ar)])) _
  refine X4.iaload hx (j := (Int32.ofNat ((own_hash 4 (ws.getD i 0) + d) % 4))) (v := (.int (own_at 4 vs (ws.getD i 0) d))) (by rw [e4]; exact Ar5.1) (State.isArrayOf_alike hZ.alike Ar5.2.1) Ar5.2.2 hin5 hat5 (g := (mkF m 41 #[.val (.ref a1), .val (.ref b1), .val (.ref br), .val (.int (Int32.ofNat nb)), .val (.int (Int32.ofNat i)), .val (.int (ws.getD i 0))] [(.int (Int32.ofNat ((own_hash 4 (ws.getD i 0) + d) % 4))), (.ref ar)])) rfl rfl (hb hby d11_41) _ ?_
  show Steps p.tables e below (T4.setTop (mkF m 42 #[.val (.ref a1), .val (.ref b1), .val (.ref br), .val (.int (Int32.ofNat nb)), .val (.int (Int32.ofNat i)), .val (.int (ws.getD i 0))] [(.int (own_at 4 vs (ws.getD i 0) d))])) _
  refine XS.ifYes X4.here hx rfl (pc0 := 42) (pc' := 47) rfl (hb hby d11_42) rfl ((if0 _ _).trans (feq hc42).2) (by decide) (by decide) ?_
  show Steps p.tables e below (T4.setTop (mkF m 47 #[.val (.ref a1), .val (.ref b1), .val (.ref br), .val (.int (Int32.ofNat nb)), .val (.int (Int32.ofNat i)), .val (.int (ws.getD i 0))] [])) _
  refine XS.iinc X4.here hx rfl (hb hby d11_47) rfl (l' := #[.val (.ref a1), .val (.ref b1), .val (.ref br), .val (.int (Int32.ofNat nb)), .val (.int ((Int32.ofNat i) + (1 : Int32))), .val (.int (ws.getD i 0))]) rfl ?_
  show Steps p.tables e below (T4.setTop (mkF m 50 #[.val (.ref a1), .val (.ref b1), .val (.ref br), .val (.int (Int32.ofNat nb)), .val (.int ((Int32.ofNat i) + (1 : Int32))), .val (.int (ws.getD i 0))] [])) _
  refine XS.goto X4.here hx rfl (pc0 := 50) (pc' := 11) rfl (hb hby d11_50) (by decide) (by decide) ?_
  exact kt
set_option maxRecDepth 65536 in
set_option maxHeartbeats 40000000 in
theorem turn11n_4 {p : Program} {l : Launch} {e : Env} {s : State} {m : MethodId} {args : Array Value} {below : List Frame} {meth : Method} {c : Code} {T0 : State} {locs : List Loc} {Z : State} {a0 : Array Value} {h0 : Heap} {n0 : Nat} (a1 b1 ar br : Addr) (ka kb : ClassId) (vs ws : List Int32) (nb i : Nat) (s5 : Slot) (d : Nat) (X0 : Stand p l e ({ frames := 2, cells := 0, slots := 0, locals := 30 } : Room) s m args below meth c T0 locs (0) (0)) (hx : p.tables.exec = Jvm.exec) (hZ : Z.Warmed39 s.vm) (hw : ∀ d ∈ tables_1, d.before a0 Z = true) (hby : c.code = prog_2_method_4_code) (hml : c.maxLocals = 6) (hown : s.vm.findClass "com/example/subsumption/subsumption/IntSet" = some m.cls) (e0 : T0.heap = h0) (N0 : Fr n0 locs) (Z0 : n0 ≤ h0.size) (hnb : nb < 900) (hi : i < nb) (h5 : One s5) (F_s : Fld Z h0 a1 "com/example/subsumption/subsumption/IntSet" "slots" "[I" (.ref ar)) (VA : Arv Z h0 ar ka .int (4 : Int32) (vs.map Value.int) (.int (0 : Int32))) (VB : Arv Z h0 br kb .int (Int32.ofNat nb) (ws.map Value.int) (.int (0 : Int32))) (hh : Hit 4 vs (ws.getD i 0) d) (hc25 : ¬ ((ws.getD i 0) = (0 : Int32))) (hc42 : (own_at 4 vs (ws.getD i 0) d) = (0 : Int32)) :
    ∃ (T' : State) (h' : Heap) (locs' : List Loc) , Stand p l e ({ frames := 2, cells := 0, slots := 0, locals := 30 } : Room) s m args below meth c T' locs' (0) (0) ∧ T'.heap = h' ∧ Fr n0 locs' ∧ n0 ≤ h'.size ∧ h' = h0 ∧ 
      ∀ target, Steps p.tables e below (T'.setTop (mkF m 45 #[.val (.ref a1), .val (.ref b1), .val (.ref br), .val (.int (Int32.ofNat nb)), .val (.int (Int32.ofNat i)), .val (.int (ws.getD i 0))] [])) target → Steps p.tables e below (T0.setTop (mkF m 11 #[.val (.ref a1), .val (.ref b1), .val (.ref br), .val (.int (Int32.ofNat nb)), .val (.int (Int32.ofNat i)), s5] [])) target := by
  obtain ⟨c1, Ar1, -, S1, -, H1, -⟩ := (id VB)
  have hin1 : ¬ ((Int32.ofNat i) < 0 ∨ c1.slots.size ≤ ((Int32.ofNat i)).toNatClampNeg) := inb_of S1 ⟨own_nn (by omega), (own_lt (by omega) (by omega)).mpr hi⟩
  have hat1 : c1.slots[((Int32.ofNat i)).toNatClampNeg]? = some (.int (ws.getD i 0)) := H1.at hin1 (by rw [own_natC (by omega)]; exact own_getI ws i)
  obtain ⟨T2, X2, e2, st2⟩ := getF X0 hx hZ hown (host := "") (Or.inl (hw _ (List.mem_of_getElem? (i := 22) rfl))) Via.refl e0 F_s (g := (mkF m 29 #[.val (.ref a1), .val (.ref b1), .val (.ref br), .val (.int (Int32.ofNat nb)), .val (.int (Int32.ofNat i)), .val (.int (ws.getD i 0))] [(.ref a1)])) rfl rfl (hb hby d11_29)
  obtain ⟨T3, X3, e3, st3⟩ := getF X2 hx hZ hown (host := "") (Or.inl (hw _ (List.mem_of_getElem? (i := 22) rfl))) Via.refl e2 F_s (g := (mkF m 35 #[.val (.ref a1), .val (.ref b1), .val (.ref br), .val (.int (Int32.ofNat nb)), .val (.int (Int32.ofNat i)), .val (.int (ws.getD i 0))] [(.ref a1), (.int (ws.getD i 0)), (.ref ar)])) rfl rfl (hb hby d11_35)
  obtain ⟨_, _, ⟨T4, L4, k4, n4⟩, -, X4, ⟨Lc4, hQ4, l4, y4, z4⟩, st4⟩ := Jvm.LawKit.callS X3 hx (y := (⟨"com/example/subsumption/subsumption/IntSet", "slotOf", "(I[I)I"⟩ : MethodName)) hown (mvT hZ (hw _ (List.mem_of_getElem? (i := 30) rfl))) (mvT hZ (hw _ (List.mem_of_getElem? (i := 31) rfl))) (mvT hZ (hw _ (List.mem_of_getElem? (i := 14) rfl))) (mvT hZ (hw _ (List.mem_of_getElem? (i := 32) rfl))) (by decide) (backOf (W := 1) (rm7_4 l Z a0 hw [] (ws.getD i 0) ar ka vs d h0 n0 Z0 VA hh) hZ (hw _ (List.mem_of_getElem? (i := 32) rfl)) (hw _ (List.mem_of_getElem? (i := 14) rfl)) (by decide) (by decide)) (g := (mkF m 38 #[.val (.ref a1), .val (.ref b1), .val (.ref br), .val (.int (Int32.ofNat nb)), .val (.int (Int32.ofNat i)), .val (.int (ws.getD i 0))] [(.ref ar), (.int (ws.getD i 0)), (.ref ar)])) rfl (by rw [hml]; rfl) (argsL := [(.int (ws.getD i 0)), (.ref ar)]) (rest := [(.ref ar)]) (lenOf pd__I_I_I rfl) rfl (by show 2 * 0 + _ ≤ _; exact Nat.le_of_eq rfl) (hb hby d11_38) (fun _ _ => ⟨rfl, e3, (Nat.le_of_ble_eq_true rfl), (Nat.le_of_ble_eq_true rfl)⟩)
  dsimp only [Pt.U, Pt.locs, Pt.cells, Pt.slots] at X4 l4 y4 z4 st4 hQ4
  subst l4 y4 z4
  obtain ⟨rfl, N4q, e4⟩ := hQ4
  have N4 := Fr.app N0 N4q
  obtain ⟨c5, Ar5, -, S5, -, H5, -⟩ := (id VA)
  have mm5 := (show (own_hash 4 (ws.getD i 0) + d) % 4 < 4 from Nat.mod_lt _ (by decide))
  have hin5 : ¬ ((Int32.ofNat ((own_hash 4 (ws.getD i 0) + d) % 4)) < 0 ∨ c5.slots.size ≤ ((Int32.ofNat ((own_hash 4 (ws.getD i 0) + d) % 4))).toNatClampNeg) := inb_of S5 ⟨own_nn (by omega), (own_lt (j := 4) (by omega) (by omega)).mpr mm5⟩
  have hat5 : c5.slots[((Int32.ofNat ((own_hash 4 (ws.getD i 0) + d) % 4))).toNatClampNeg]? = some (.int (own_at 4 vs (ws.getD i 0) d)) := H5.at hin5 (by rw [own_natC (by omega)]; exact own_getI vs _)
  refine ⟨T4, h0, _, X4, e4, N4, Z0, rfl, fun target kt => ?_⟩
  show Steps p.tables e below (T0.setTop (mkF m 11 #[.val (.ref a1), .val (.ref b1), .val (.ref br), .val (.int (Int32.ofNat nb)), .val (.int (Int32.ofNat i)), s5] [])) _
  refine XS.iload X0.here hx rfl (hb hby d11_11) rfl ?_
  show Steps p.tables e below (T0.setTop (mkF m 13 #[.val (.ref a1), .val (.ref b1), .val (.ref br), .val (.int (Int32.ofNat nb)), .val (.int (Int32.ofNat i)), s5] [(.int (Int32.ofNat i))])) _
  refine XS.iloadN X0.here hx rfl (hb hby d11_13) rfl ?_
  show Steps p.tables e below (T0.setTop (mkF m 14 #[.val (.ref a1), .val (.ref b1), .val (.ref br), .val (.int (Int32.ofNat nb)), .val (.int (Int32.ofNat i)), s5] [(.int (Int32.ofNat nb)), (.int (Int32.ofNat i))])) _
  refine XS.icmpNo X0.here hx rfl (hb hby d11_14) rfl (tlt ((own_lt (by omega) (by omega)).mpr hi : (Int32.ofNat i) < (Int32.ofNat nb))).2.1 ?_
  show Steps p.tables e below (T0.setTop (mkF m 17 #[.val (.ref a1), .val (.ref b1), .val (.ref br), .val (.int (Int32.ofNat nb)), .val (.int (Int32.ofNat i)), s5] [])) _
  refine XS.aloadN X0.here hx rfl (hb hby d11_17) rfl rfl ?_
  show Steps p.tables e below (T0.setTop (mkF m 18 #[.val (.ref a1), .val (.ref b1), .val (.ref br), .val (.int (Int32.ofNat nb)), .val (.int (Int32.ofNat i)), s5] [(.ref br)])) _
  refine XS.iload X0.here hx rfl (hb hby d11_18) rfl ?_
  show Steps p.tables e below (T0.setTop (mkF m 20 #[.val (.ref a1), .val (.ref b1), .val (.ref br), .val (.int (Int32.ofNat nb)), .val (.int (Int32.ofNat i)), s5] [(.int (Int32.ofNat i)), (.ref br)])) _
  refine X0.iaload hx (j := (Int32.ofNat i)) (v := (.int (ws.getD i 0))) (by rw [e0]; exact Ar1.1) (State.isArrayOf_alike hZ.alike Ar1.2.1) Ar1.2.2 hin1 hat1 (g := (mkF m 20 #[.val (.ref a1), .val (.ref b1), .val (.ref br), .val (.int (Int32.ofNat nb)), .val (.int (Int32.ofNat i)), s5] [(.int (Int32.ofNat i)), (.ref br)])) rfl rfl (hb hby d11_20) _ ?_
  show Steps p.tables e below (T0.setTop (mkF m 21 #[.val (.ref a1), .val (.ref b1), .val (.ref br), .val (.int (Int32.ofNat nb)), .val (.int (Int32.ofNat i)), s5] [(.int (ws.getD i 0))])) _
  refine XS.istore X0.here hx rfl (hb hby d11_21) rfl (l' := #[.val (.ref a1), .val (.ref b1), .val (.ref br), .val (.int (Int32.ofNat nb)), .val (.int (Int32.ofNat i)), .val (.int (ws.getD i 0))]) (own_os h5) ?_
  show Steps p.tables e below (T0.setTop (mkF m 23 #[.val (.ref a1), .val (.ref b1), .val (.ref br), .val (.int (Int32.ofNat nb)), .val (.int (Int32.ofNat i)), .val (.int (ws.getD i 0))] [])) _
  refine XS.iload X0.here hx rfl (hb hby d11_23) rfl ?_
  show Steps p.tables e below (T0.setTop (mkF m 25 #[.val (.ref a1), .val (.ref b1), .val (.ref br), .val (.int (Int32.ofNat nb)), .val (.int (Int32.ofNat i)), .val (.int (ws.getD i 0))] [(.int (ws.getD i 0))])) _
  refine XS.ifNo X0.here hx rfl (hb hby d11_25) rfl ((if0 _ _).trans (feq hc25).1) ?_
  show Steps p.tables e below (T0.setTop (mkF m 28 #[.val (.ref a1), .val (.ref b1), .val (.ref br), .val (.int (Int32.ofNat nb)), .val (.int (Int32.ofNat i)), .val (.int (ws.getD i 0))] [])) _
  refine XS.aloadN X0.here hx rfl (hb hby d11_28) rfl rfl ?_
  show Steps p.tables e below (T0.setTop (mkF m 29 #[.val (.ref a1), .val (.ref b1), .val (.ref br), .val (.int (Int32.ofNat nb)), .val (.int (Int32.ofNat i)), .val (.int (ws.getD i 0))] [(.ref a1)])) _
  refine st2 _ ?_
  show Steps p.tables e below (T2.setTop (mkF m 32 #[.val (.ref a1), .val (.ref b1), .val (.ref br), .val (.int (Int32.ofNat nb)), .val (.int (Int32.ofNat i)), .val (.int (ws.getD i 0))] [(.ref ar)])) _
  refine XS.iload X2.here hx rfl (hb hby d11_32) rfl ?_
  show Steps p.tables e below (T2.setTop (mkF m 34 #[.val (.ref a1), .val (.ref b1), .val (.ref br), .val (.int (Int32.ofNat nb)), .val (.int (Int32.ofNat i)), .val (.int (ws.getD i 0))] [(.int (ws.getD i 0)), (.ref ar)])) _
  refine XS.aloadN X2.here hx rfl (hb hby d11_34) rfl rfl ?_
  show Steps p.tables e below (T2.setTop (mkF m 35 #[.val (.ref a1), .val (.ref b1), .val (.ref br), .val (.int (Int32.ofNat nb)), .val (.int (Int32.ofNat i)), .val (.int (ws.getD i 0))] [(.ref a1), (.int (ws.getD i 0)), (.ref ar)])) _
  refine st3 _ ?_
  show Steps p.tables e below (T3.setTop (mkF m 38 #[.val (.ref a1), .val (.ref b1), .val (.ref br), .val (.int (Int32.ofNat nb)), .val (.int (Int32.ofNat i)), .val (.int (ws.getD i 0))] [(.ref ar), (.int (ws.getD i 0)), (.ref ar)])) _
  refine st4 _ ?_
  show Steps p.tables e below (T4.setTop (mkF m 41 #[.val (.ref a1), .val (.ref b1), .val (.ref br), .val (.int (Int32.ofNat nb)), .val (.int (Int32.ofNat i)), .val (.int (ws.getD i 0))] [(.int (Int32.ofNat ((own_hash 4 (ws.getD i 0) + d) % 4))), (.ref ar)])) _
  refine X4.iaload hx (j := (Int32.ofNat ((own_hash 4 (ws.getD i 0) + d) % 4))) (v := (.int (own_at 4 vs (ws.getD i 0) d))) (by rw [e4]; exact Ar5.1) (State.isArrayOf_alike hZ.alike Ar5.2.1) Ar5.2.2 hin5 hat5 (g := (mkF m 41 #[.val (.ref a1), .val (.ref b1), .val (.ref br), .val (.int (Int32.ofNat nb)), .val (.int (Int32.ofNat i)), .val (.int (ws.getD i 0))] [(.int (Int32.ofNat ((own_hash 4 (ws.getD i 0) + d) % 4))), (.ref ar)])) rfl rfl (hb hby d11_41) _ ?_
  show Steps p.tables e below (T4.setTop (mkF m 42 #[.val (.ref a1), .val (.ref b1), .val (.ref br), .val (.int (Int32.ofNat nb)), .val (.int (Int32.ofNat i)), .val (.int (ws.getD i 0))] [(.int (own_at 4 vs (ws.getD i 0) d))])) _
  refine XS.ifNo X4.here hx rfl (hb hby d11_42) rfl ((if0 _ _).trans (teq hc42).2) ?_
  exact kt
set_option maxRecDepth 65536 in
set_option maxHeartbeats 40000000 in
theorem turn11y_8 {p : Program} {l : Launch} {e : Env} {s : State} {m : MethodId} {args : Array Value} {below : List Frame} {meth : Method} {c : Code} {T0 : State} {locs : List Loc} {Z : State} {a0 : Array Value} {h0 : Heap} {n0 : Nat} (a1 b1 ar br : Addr) (ka kb : ClassId) (vs ws : List Int32) (nb i : Nat) (s5 : Slot) (d : Nat) (X0 : Stand p l e ({ frames := 2, cells := 0, slots := 0, locals := 30 } : Room) s m args below meth c T0 locs (0) (0)) (hx : p.tables.exec = Jvm.exec) (hZ : Z.Warmed39 s.vm) (hw : ∀ d ∈ tables_1, d.before a0 Z = true) (hby : c.code = prog_2_method_4_code) (hml : c.maxLocals = 6) (hown : s.vm.findClass "com/example/subsumption/subsumption/IntSet" = some m.cls) (e0 : T0.heap = h0) (N0 : Fr n0 locs) (Z0 : n0 ≤ h0.size) (hnb : nb < 900) (hi : i < nb) (h5 : One s5) (F_s : Fld Z h0 a1 "com/example/subsumption/subsumption/IntSet" "slots" "[I" (.ref ar)) (VA : Arv Z h0 ar ka .int (8 : Int32) (vs.map Value.int) (.int (0 : Int32))) (VB : Arv Z h0 br kb .int (Int32.ofNat nb) (ws.map Value.int) (.int (0 : Int32))) (hh : Hit 8 vs (ws.getD i 0) d) (hc25 : ¬ ((ws.getD i 0) = (0 : Int32))) (hc42 : ¬ ((own_at 8 vs (ws.getD i 0) d) = (0 : Int32))) :
    ∃ (T' : State) (h' : Heap) (locs' : List Loc) , Stand p l e ({ frames := 2, cells := 0, slots := 0, locals := 30 } : Room) s m args below meth c T' locs' (0) (0) ∧ T'.heap = h' ∧ Fr n0 locs' ∧ n0 ≤ h'.size ∧ h' = h0 ∧ 
      ∀ target, Steps p.tables e below (T'.setTop (mkF m 11 #[.val (.ref a1), .val (.ref b1), .val (.ref br), .val (.int (Int32.ofNat nb)), .val (.int ((Int32.ofNat i) + (1 : Int32))), .val (.int (ws.getD i 0))] [])) target → Steps p.tables e below (T0.setTop (mkF m 11 #[.val (.ref a1), .val (.ref b1), .val (.ref br), .val (.int (Int32.ofNat nb)), .val (.int (Int32.ofNat i)), s5] [])) target := by
  obtain ⟨c1, Ar1, -, S1, -, H1, -⟩ := (id VB)
  have hin1 : ¬ ((Int32.ofNat i) < 0 ∨ c1.slots.size ≤ ((Int32.ofNat i)).toNatClampNeg) := inb_of S1 ⟨own_nn (by omega), (own_lt (by omega) (by omega)).mpr hi⟩
  have hat1 : c1.slots[((Int32.ofNat i)).toNatClampNeg]? = some (.int (ws.getD i 0)) := H1.at hin1 (by rw [own_natC (by omega)]; exact own_getI ws i)
  obtain ⟨T2, X2, e2, st2⟩ := getF X0 hx hZ hown (host := "") (Or.inl (hw _ (List.mem_of_getElem? (i := 22) rfl))) Via.refl e0 F_s (g := (mkF m 29 #[.val (.ref a1), .val (.ref b1), .val (.ref br), .val (.int (Int32.ofNat nb)), .val (.int (Int32.ofNat i)), .val (.int (ws.getD i 0))] [(.ref a1)])) rfl rfl (hb hby d11_29)
  obtain ⟨T3, X3, e3, st3⟩ := getF X2 hx hZ hown (host := "") (Or.inl (hw _ (List.mem_of_getElem? (i := 22) rfl))) Via.refl e2 F_s (g := (mkF m 35 #[.val (.ref a1), .val (.ref b1), .val (.ref br), .val (.int (Int32.ofNat nb)), .val (.int (Int32.ofNat i)), .val (.int (ws.getD i 0))] [(.ref a1), (.int (ws.getD i 0)), (.ref ar)])) rfl rfl (hb hby d11_35)
  obtain ⟨_, _, ⟨T4, L4, k4, n4⟩, -, X4, ⟨Lc4, hQ4, l4, y4, z4⟩, st4⟩ := Jvm.LawKit.callS X3 hx (y := (⟨"com/example/subsumption/subsumption/IntSet", "slotOf", "(I[I)I"⟩ : MethodName)) hown (mvT hZ (hw _ (List.mem_of_getElem? (i := 30) rfl))) (mvT hZ (hw _ (List.mem_of_getElem? (i := 31) rfl))) (mvT hZ (hw _ (List.mem_of_getElem? (i := 14) rfl))) (mvT hZ (hw _ (List.mem_of_getElem? (i := 32) rfl))) (by decide) (backOf (W := 1) (rm7_8 l Z a0 hw [] (ws.getD i 0) ar ka vs d h0 n0 Z0 VA hh) hZ (hw _ (List.mem_of_getElem? (i := 32) rfl)) (hw _ (List.mem_of_getElem? (i := 14) rfl)) (by decide) (by decide)) (g := (mkF m 38 #[.val (.ref a1), .val (.ref b1), .val (.ref br), .val (.int (Int32.ofNat nb)), .val (.int (Int32.ofNat i)), .val (.int (ws.getD i 0))] [(.ref ar), (.int (ws.getD i 0)), (.ref ar)])) rfl (by rw [hml]; rfl) (argsL := [(.int (ws.getD i 0)), (.ref ar)]) (rest := [(.ref ar)]) (lenOf pd__I_I_I rfl) rfl (by show 2 * 0 + _ ≤ _; exact Nat.le_of_eq rfl) (hb hby d11_38) (fun _ _ => ⟨rfl, e3, (Nat.le_of_ble_eq_true rfl), (Nat.le_of_ble_eq_true rfl)⟩)
  dsimp only [Pt.U, Pt.locs, Pt.cells, Pt.slots] at X4 l4 y4 z4 st4 hQ4
  subst l4 y4 z4
  obtain ⟨rfl, N4q, e4⟩ := hQ4
  have N4 := Fr.app N0 N4q
  obtain ⟨c5, Ar5, -, S5, -, H5, -⟩ := (id VA)
  have mm5 := (show (own_hash 8 (ws.getD i 0) + d) % 8 < 8 from Nat.mod_lt _ (by decide))
  have hin5 : ¬ ((Int32.ofNat ((own_hash 8 (ws.getD i 0) + d) % 8)) < 0 ∨ c5.slots.size ≤ ((Int32.ofNat ((own_hash 8 (ws.getD i 0) + d) % 8))).toNatClampNeg) := inb_of S5 ⟨own_nn (by omega), (own_lt (j := 8) (by omega) (by omega)).mpr mm5⟩
  have hat5 : c5.slots[((Int32.ofNat ((own_hash 8 (ws.getD i 0) + d) % 8))).toNatClampNeg]? = some (.int (own_at 8 vs (ws.getD i 0) d)) := H5.at hin5 (by rw [own_natC (by omega)]; exact own_getI vs _)
  refine ⟨T4, h0, _, X4, e4, N4, Z0, rfl, fun target kt => ?_⟩
  show Steps p.tables e below (T0.setTop (mkF m 11 #[.val (.ref a1), .val (.ref b1), .val (.ref br), .val (.int (Int32.ofNat nb)), .val (.int (Int32.ofNat i)), s5] [])) _
  refine XS.iload X0.here hx rfl (hb hby d11_11) rfl ?_
  show Steps p.tables e below (T0.setTop (mkF m 13 #[.val (.ref a1), .val (.ref b1), .val (.ref br), .val (.int (Int32.ofNat nb)), .val (.int (Int32.ofNat i)), s5] [(.int (Int32.ofNat i))])) _
  refine XS.iloadN X0.here hx rfl (hb hby d11_13) rfl ?_
  show Steps p.tables e below (T0.setTop (mkF m 14 #[.val (.ref a1), .val (.ref b1), .val (.ref br), .val (.int (Int32.ofNat nb)), .val (.int (Int32.ofNat i)), s5] [(.int (Int32.ofNat nb)), (.int (Int32.ofNat i))])) _
  refine XS.icmpNo X0.here hx rfl (hb hby d11_14) rfl (tlt ((own_lt (by omega) (by omega)).mpr hi : (Int32.ofNat i) < (Int32.ofNat nb))).2.1 ?_
  show Steps p.tables e below (T0.setTop (mkF m 17 #[.val (.ref a1), .val (.ref b1), .val (.ref br), .val (.int (Int32.ofNat nb)), .val (.int (Int32.ofNat i)), s5] [])) _
  refine XS.aloadN X0.here hx rfl (hb hby d11_17) rfl rfl ?_
  show Steps p.tables e below (T0.setTop (mkF m 18 #[.val (.ref a1), .val (.ref b1), .val (.ref br), .val (.int (Int32.ofNat nb)), .val (.int (Int32.ofNat i)), s5] [(.ref br)])) _
  refine XS.iload X0.here hx rfl (hb hby d11_18) rfl ?_
  show Steps p.tables e below (T0.setTop (mkF m 20 #[.val (.ref a1), .val (.ref b1), .val (.ref br), .val (.int (Int32.ofNat nb)), .val (.int (Int32.ofNat i)), s5] [(.int (Int32.ofNat i)), (.ref br)])) _
  refine X0.iaload hx (j := (Int32.ofNat i)) (v := (.int (ws.getD i 0))) (by rw [e0]; exact Ar1.1) (State.isArrayOf_alike hZ.alike Ar1.2.1) Ar1.2.2 hin1 hat1 (g := (mkF m 20 #[.val (.ref a1), .val (.ref b1), .val (.ref br), .val (.int (Int32.ofNat nb)), .val (.int (Int32.ofNat i)), s5] [(.int (Int32.ofNat i)), (.ref br)])) rfl rfl (hb hby d11_20) _ ?_
  show Steps p.tables e below (T0.setTop (mkF m 21 #[.val (.ref a1), .val (.ref b1), .val (.ref br), .val (.int (Int32.ofNat nb)), .val (.int (Int32.ofNat i)), s5] [(.int (ws.getD i 0))])) _
  refine XS.istore X0.here hx rfl (hb hby d11_21) rfl (l' := #[.val (.ref a1), .val (.ref b1), .val (.ref br), .val (.int (Int32.ofNat nb)), .val (.int (Int32.ofNat i)), .val (.int (ws.getD i 0))]) (own_os h5) ?_
  show Steps p.tables e below (T0.setTop (mkF m 23 #[.val (.ref a1), .val (.ref b1), .val (.ref br), .val (.int (Int32.ofNat nb)), .val (.int (Int32.ofNat i)), .val (.int (ws.getD i 0))] [])) _
  refine XS.iload X0.here hx rfl (hb hby d11_23) rfl ?_
  show Steps p.tables e below (T0.setTop (mkF m 25 #[.val (.ref a1), .val (.ref b1), .val (.ref br), .val (.int (Int32.ofNat nb)), .val (.int (Int32.ofNat i)), .val (.int (ws.getD i 0))] [(.int (ws.getD i 0))])) _
  refine XS.ifNo X0.here hx rfl (hb hby d11_25) rfl ((if0 _ _).trans (feq hc25).1) ?_
  show Steps p.tables e below (T0.setTop (mkF m 28 #[.val (.ref a1), .val (.ref b1), .val (.ref br), .val (.int (Int32.ofNat nb)), .val (.int (Int32.ofNat i)), .val (.int (ws.getD i 0))] [])) _
  refine XS.aloadN X0.here hx rfl (hb hby d11_28) rfl rfl ?_
  show Steps p.tables e below (T0.setTop (mkF m 29 #[.val (.ref a1), .val (.ref b1), .val (.ref br), .val (.int (Int32.ofNat nb)), .val (.int (Int32.ofNat i)), .val (.int (ws.getD i 0))] [(.ref a1)])) _
  refine st2 _ ?_
  show Steps p.tables e below (T2.setTop (mkF m 32 #[.val (.ref a1), .val (.ref b1), .val (.ref br), .val (.int (Int32.ofNat nb)), .val (.int (Int32.ofNat i)), .val (.int (ws.getD i 0))] [(.ref ar)])) _
  refine XS.iload X2.here hx rfl (hb hby d11_32) rfl ?_
  show Steps p.tables e below (T2.setTop (mkF m 34 #[.val (.ref a1), .val (.ref b1), .val (.ref br), .val (.int (Int32.ofNat nb)), .val (.int (Int32.ofNat i)), .val (.int (ws.getD i 0))] [(.int (ws.getD i 0)), (.ref ar)])) _
  refine XS.aloadN X2.here hx rfl (hb hby d11_34) rfl rfl ?_
  show Steps p.tables e below (T2.setTop (mkF m 35 #[.val (.ref a1), .val (.ref b1), .val (.ref br), .val (.int (Int32.ofNat nb)), .val (.int (Int32.ofNat i)), .val (.int (ws.getD i 0))] [(.ref a1), (.int (ws.getD i 0)), (.ref ar)])) _
  refine st3 _ ?_
  show Steps p.tables e below (T3.setTop (mkF m 38 #[.val (.ref a1), .val (.ref b1), .val (.ref br), .val (.int (Int32.ofNat nb)), .val (.int (Int32.ofNat i)), .val (.int (ws.getD i 0))] [(.ref ar), (.int (ws.getD i 0)), (.ref ar)])) _
  refine st4 _ ?_
  show Steps p.tables e below (T4.setTop (mkF m 41 #[.val (.ref a1), .val (.ref b1), .val (.ref br), .val (.int (Int32.ofNat nb)), .val (.int (Int32.ofNat i)), .val (.int (ws.getD i 0))] [(.int (Int32.ofNat ((own_hash 8 (ws.getD i 0) + d) % 8))), (.ref ar)])) _
  refine X4.iaload hx (j := (Int32.ofNat ((own_hash 8 (ws.getD i 0) + d) % 8))) (v := (.int (own_at 8 vs (ws.getD i 0) d))) (by rw [e4]; exact Ar5.1) (State.isArrayOf_alike hZ.alike Ar5.2.1) Ar5.2.2 hin5 hat5 (g := (mkF m 41 #[.val (.ref a1), .val (.ref b1), .val (.ref br), .val (.int (Int32.ofNat nb)), .val (.int (Int32.ofNat i)), .val (.int (ws.getD i 0))] [(.int (Int32.ofNat ((own_hash 8 (ws.getD i 0) + d) % 8))), (.ref ar)])) rfl rfl (hb hby d11_41) _ ?_
  show Steps p.tables e below (T4.setTop (mkF m 42 #[.val (.ref a1), .val (.ref b1), .val (.ref br), .val (.int (Int32.ofNat nb)), .val (.int (Int32.ofNat i)), .val (.int (ws.getD i 0))] [(.int (own_at 8 vs (ws.getD i 0) d))])) _
  refine XS.ifYes X4.here hx rfl (pc0 := 42) (pc' := 47) rfl (hb hby d11_42) rfl ((if0 _ _).trans (feq hc42).2) (by decide) (by decide) ?_
  show Steps p.tables e below (T4.setTop (mkF m 47 #[.val (.ref a1), .val (.ref b1), .val (.ref br), .val (.int (Int32.ofNat nb)), .val (.int (Int32.ofNat i)), .val (.int (ws.getD i 0))] [])) _
  refine XS.iinc X4.here hx rfl (hb hby d11_47) rfl (l' := #[.val (.ref a1), .val (.ref b1), .val (.ref br), .val (.int (Int32.ofNat nb)), .val (.int ((Int32.ofNat i) + (1 : Int32))), .val (.int (ws.getD i 0))]) rfl ?_
  show Steps p.tables e below (T4.setTop (mkF m 50 #[.val (.ref a1), .val (.ref b1), .val (.ref br), .val (.int (Int32.ofNat nb)), .val (.int ((Int32.ofNat i) + (1 : Int32))), .val (.int (ws.getD i 0))] [])) _
  refine XS.goto X4.here hx rfl (pc0 := 50) (pc' := 11) rfl (hb hby d11_50) (by decide) (by decide) ?_
  exact kt
set_option maxRecDepth 65536 in
set_option maxHeartbeats 40000000 in
theorem turn11n_8 {p : Program} {l : Launch} {e : Env} {s : State} {m : MethodId} {args : Array Value} {below : List Frame} {meth : Method} {c : Code} {T0 : State} {locs : List Loc} {Z : State} {a0 : Array Value} {h0 : Heap} {n0 : Nat} (a1 b1 ar br : Addr) (ka kb : ClassId) (vs ws : List Int32) (nb i : Nat) (s5 : Slot) (d : Nat) (X0 : Stand p l e ({ frames := 2, cells := 0, slots := 0, locals := 30 } : Room) s m args below meth c T0 locs (0) (0)) (hx : p.tables.exec = Jvm.exec) (hZ : Z.Warmed39 s.vm) (hw : ∀ d ∈ tables_1, d.before a0 Z = true) (hby : c.code = prog_2_method_4_code) (hml : c.maxLocals = 6) (hown : s.vm.findClass "com/example/subsumption/subsumption/IntSet" = some m.cls) (e0 : T0.heap = h0) (N0 : Fr n0 locs) (Z0 : n0 ≤ h0.size) (hnb : nb < 900) (hi : i < nb) (h5 : One s5) (F_s : Fld Z h0 a1 "com/example/subsumption/subsumption/IntSet" "slots" "[I" (.ref ar)) (VA : Arv Z h0 ar ka .int (8 : Int32) (vs.map Value.int) (.int (0 : Int32))) (VB : Arv Z h0 br kb .int (Int32.ofNat nb) (ws.map Value.int) (.int (0 : Int32))) (hh : Hit 8 vs (ws.getD i 0) d) (hc25 : ¬ ((ws.getD i 0) = (0 : Int32))) (hc42 : (own_at 8 vs (ws.getD i 0) d) = (0 : Int32)) :
    ∃ (T' : State) (h' : Heap) (locs' : List Loc) , Stand p l e ({ frames := 2, cells := 0, slots := 0, locals := 30 } : Room) s m args below meth c T' locs' (0) (0) ∧ T'.heap = h' ∧ Fr n0 locs' ∧ n0 ≤ h'.size ∧ h' = h0 ∧ 
      ∀ target, Steps p.tables e below (T'.setTop (mkF m 45 #[.val (.ref a1), .val (.ref b1), .val (.ref br), .val (.int (Int32.ofNat nb)), .val (.int (Int32.ofNat i)), .val (.int (ws.getD i 0))] [])) target → Steps p.tables e below (T0.setTop (mkF m 11 #[.val (.ref a1), .val (.ref b1), .val (.ref br), .val (.int (Int32.ofNat nb)), .val (.int (Int32.ofNat i)), s5] [])) target := by
  obtain ⟨c1, Ar1, -, S1, -, H1, -⟩ := (id VB)
  have hin1 : ¬ ((Int32.ofNat i) < 0 ∨ c1.slots.size ≤ ((Int32.ofNat i)).toNatClampNeg) := inb_of S1 ⟨own_nn (by omega), (own_lt (by omega) (by omega)).mpr hi⟩
  have hat1 : c1.slots[((Int32.ofNat i)).toNatClampNeg]? = some (.int (ws.getD i 0)) := H1.at hin1 (by rw [own_natC (by omega)]; exact own_getI ws i)
  obtain ⟨T2, X2, e2, st2⟩ := getF X0 hx hZ hown (host := "") (Or.inl (hw _ (List.mem_of_getElem? (i := 22) rfl))) Via.refl e0 F_s (g := (mkF m 29 #[.val (.ref a1), .val (.ref b1), .val (.ref br), .val (.int (Int32.ofNat nb)), .val (.int (Int32.ofNat i)), .val (.int (ws.getD i 0))] [(.ref a1)])) rfl rfl (hb hby d11_29)
  obtain ⟨T3, X3, e3, st3⟩ := getF X2 hx hZ hown (host := "") (Or.inl (hw _ (List.mem_of_getElem? (i := 22) rfl))) Via.refl e2 F_s (g := (mkF m 35 #[.val (.ref a1), .val (.ref b1), .val (.ref br), .val (.int (Int32.ofNat nb)), .val (.int (Int32.ofNat i)), .val (.int (ws.getD i 0))] [(.ref a1), (.int (ws.getD i 0)), (.ref ar)])) rfl rfl (hb hby d11_35)
  obtain ⟨_, _, ⟨T4, L4, k4, n4⟩, -, X4, ⟨Lc4, hQ4, l4, y4, z4⟩, st4⟩ := Jvm.LawKit.callS X3 hx (y := (⟨"com/example/subsumption/subsumption/IntSet", "slotOf", "(I[I)I"⟩ : MethodName)) hown (mvT hZ (hw _ (List.mem_of_getElem? (i := 30) rfl))) (mvT hZ (hw _ (List.mem_of_getElem? (i := 31) rfl))) (mvT hZ (hw _ (List.mem_of_getElem? (i := 14) rfl))) (mvT hZ (hw _ (List.mem_of_getElem? (i := 32) rfl))) (by decide) (backOf (W := 1) (rm7_8 l Z a0 hw [] (ws.getD i 0) ar ka vs d h0 n0 Z0 VA hh) hZ (hw _ (List.mem_of_getElem? (i := 32) rfl)) (hw _ (List.mem_of_getElem? (i := 14) rfl)) (by decide) (by decide)) (g := (mkF m 38 #[.val (.ref a1), .val (.ref b1), .val (.ref br), .val (.int (Int32.ofNat nb)), .val (.int (Int32.ofNat i)), .val (.int (ws.getD i 0))] [(.ref ar), (.int (ws.getD i 0)), (.ref ar)])) rfl (by rw [hml]; rfl) (argsL := [(.int (ws.getD i 0)), (.ref ar)]) (rest := [(.ref ar)]) (lenOf pd__I_I_I rfl) rfl (by show 2 * 0 + _ ≤ _; exact Nat.le_of_eq rfl) (hb hby d11_38) (fun _ _ => ⟨rfl, e3, (Nat.le_of_ble_eq_true rfl), (Nat.le_of_ble_eq_true rfl)⟩)
  dsimp only [Pt.U, Pt.locs, Pt.cells, Pt.slots] at X4 l4 y4 z4 st4 hQ4
  subst l4 y4 z4
  obtain ⟨rfl, N4q, e4⟩ := hQ4
  have N4 := Fr.app N0 N4q
  obtain ⟨c5, Ar5, -, S5, -, H5, -⟩ := (id VA)
  have mm5 := (show (own_hash 8 (ws.getD i 0) + d) % 8 < 8 from Nat.mod_lt _ (by decide))
  have hin5 : ¬ ((Int32.ofNat ((own_hash 8 (ws.getD i 0) + d) % 8)) < 0 ∨ c5.slots.size ≤ ((Int32.ofNat ((own_hash 8 (ws.getD i 0) + d) % 8))).toNatClampNeg) := inb_of S5 ⟨own_nn (by omega), (own_lt (j := 8) (by omega) (by omega)).mpr mm5⟩
  have hat5 : c5.slots[((Int32.ofNat ((own_hash 8 (ws.getD i 0) + d) % 8))).toNatClampNeg]? = some (.int (own_at 8 vs (ws.getD i 0) d)) := H5.at hin5 (by rw [own_natC (by omega)]; exact own_getI vs _)
  refine ⟨T4, h0, _, X4, e4, N4, Z0, rfl, fun target kt => ?_⟩
  show Steps p.tables e below (T0.setTop (mkF m 11 #[.val (.ref a1), .val (.ref b1), .val (.ref br), .val (.int (Int32.ofNat nb)), .val (.int (Int32.ofNat i)), s5] [])) _
  refine XS.iload X0.here hx rfl (hb hby d11_11) rfl ?_
  show Steps p.tables e below (T0.setTop (mkF m 13 #[.val (.ref a1), .val (.ref b1), .val (.ref br), .val (.int (Int32.ofNat nb)), .val (.int (Int32.ofNat i)), s5] [(.int (Int32.ofNat i))])) _
  refine XS.iloadN X0.here hx rfl (hb hby d11_13) rfl ?_
  show Steps p.tables e below (T0.setTop (mkF m 14 #[.val (.ref a1), .val (.ref b1), .val (.ref br), .val (.int (Int32.ofNat nb)), .val (.int (Int32.ofNat i)), s5] [(.int (Int32.ofNat nb)), (.int (Int32.ofNat i))])) _
  refine XS.icmpNo X0.here hx rfl (hb hby d11_14) rfl (tlt ((own_lt (by omega) (by omega)).mpr hi : (Int32.ofNat i) < (Int32.ofNat nb))).2.1 ?_
  show Steps p.tables e below (T0.setTop (mkF m 17 #[.val (.ref a1), .val (.ref b1), .val (.ref br), .val (.int (Int32.ofNat nb)), .val (.int (Int32.ofNat i)), s5] [])) _
  refine XS.aloadN X0.here hx rfl (hb hby d11_17) rfl rfl ?_
  show Steps p.tables e below (T0.setTop (mkF m 18 #[.val (.ref a1), .val (.ref b1), .val (.ref br), .val (.int (Int32.ofNat nb)), .val (.int (Int32.ofNat i)), s5] [(.ref br)])) _
  refine XS.iload X0.here hx rfl (hb hby d11_18) rfl ?_
  show Steps p.tables e below (T0.setTop (mkF m 20 #[.val (.ref a1), .val (.ref b1), .val (.ref br), .val (.int (Int32.ofNat nb)), .val (.int (Int32.ofNat i)), s5] [(.int (Int32.ofNat i)), (.ref br)])) _
  refine X0.iaload hx (j := (Int32.ofNat i)) (v := (.int (ws.getD i 0))) (by rw [e0]; exact Ar1.1) (State.isArrayOf_alike hZ.alike Ar1.2.1) Ar1.2.2 hin1 hat1 (g := (mkF m 20 #[.val (.ref a1), .val (.ref b1), .val (.ref br), .val (.int (Int32.ofNat nb)), .val (.int (Int32.ofNat i)), s5] [(.int (Int32.ofNat i)), (.ref br)])) rfl rfl (hb hby d11_20) _ ?_
  show Steps p.tables e below (T0.setTop (mkF m 21 #[.val (.ref a1), .val (.ref b1), .val (.ref br), .val (.int (Int32.ofNat nb)), .val (.int (Int32.ofNat i)), s5] [(.int (ws.getD i 0))])) _
  refine XS.istore X0.here hx rfl (hb hby d11_21) rfl (l' := #[.val (.ref a1), .val (.ref b1), .val (.ref br), .val (.int (Int32.ofNat nb)), .val (.int (Int32.ofNat i)), .val (.int (ws.getD i 0))]) (own_os h5) ?_
  show Steps p.tables e below (T0.setTop (mkF m 23 #[.val (.ref a1), .val (.ref b1), .val (.ref br), .val (.int (Int32.ofNat nb)), .val (.int (Int32.ofNat i)), .val (.int (ws.getD i 0))] [])) _
  refine XS.iload X0.here hx rfl (hb hby d11_23) rfl ?_
  show Steps p.tables e below (T0.setTop (mkF m 25 #[.val (.ref a1), .val (.ref b1), .val (.ref br), .val (.int (Int32.ofNat nb)), .val (.int (Int32.ofNat i)), .val (.int (ws.getD i 0))] [(.int (ws.getD i 0))])) _
  refine XS.ifNo X0.here hx rfl (hb hby d11_25) rfl ((if0 _ _).trans (feq hc25).1) ?_
  show Steps p.tables e below (T0.setTop (mkF m 28 #[.val (.ref a1), .val (.ref b1), .val (.ref br), .val (.int (Int32.ofNat nb)), .val (.int (Int32.ofNat i)), .val (.int (ws.getD i 0))] [])) _
  refine XS.aloadN X0.here hx rfl (hb hby d11_28) rfl rfl ?_
  show Steps p.tables e below (T0.setTop (mkF m 29 #[.val (.ref a1), .val (.ref b1), .val (.ref br), .val (.int (Int32.ofNat nb)), .val (.int (Int32.ofNat i)), .val (.int (ws.getD i 0))] [(.ref a1)])) _
  refine st2 _ ?_
  show Steps p.tables e below (T2.setTop (mkF m 32 #[.val (.ref a1), .val (.ref b1), .val (.ref br), .val (.int (Int32.ofNat nb)), .val (.int (Int32.ofNat i)), .val (.int (ws.getD i 0))] [(.ref ar)])) _
  refine XS.iload X2.here hx rfl (hb hby d11_32) rfl ?_
  show Steps p.tables e below (T2.setTop (mkF m 34 #[.val (.ref a1), .val (.ref b1), .val (.ref br), .val (.int (Int32.ofNat nb)), .val (.int (Int32.ofNat i)), .val (.int (ws.getD i 0))] [(.int (ws.getD i 0)), (.ref ar)])) _
  refine XS.aloadN X2.here hx rfl (hb hby d11_34) rfl rfl ?_
  show Steps p.tables e below (T2.setTop (mkF m 35 #[.val (.ref a1), .val (.ref b1), .val (.ref br), .val (.int (Int32.ofNat nb)), .val (.int (Int32.ofNat i)), .val (.int (ws.getD i 0))] [(.ref a1), (.int (ws.getD i 0)), (.ref ar)])) _
  refine st3 _ ?_
  show Steps p.tables e below (T3.setTop (mkF m 38 #[.val (.ref a1), .val (.ref b1), .val (.ref br), .val (.int (Int32.ofNat nb)), .val (.int (Int32.ofNat i)), .val (.int (ws.getD i 0))] [(.ref ar), (.int (ws.getD i 0)), (.ref ar)])) _
  refine st4 _ ?_
  show Steps p.tables e below (T4.setTop (mkF m 41 #[.val (.ref a1), .val (.ref b1), .val (.ref br), .val (.int (Int32.ofNat nb)), .val (.int (Int32.ofNat i)), .val (.int (ws.getD i 0))] [(.int (Int32.ofNat ((own_hash 8 (ws.getD i 0) + d) % 8))), (.ref ar)])) _
  refine X4.iaload hx (j := (Int32.ofNat ((own_hash 8 (ws.getD i 0) + d) % 8))) (v := (.int (own_at 8 vs (ws.getD i 0) d))) (by rw [e4]; exact Ar5.1) (State.isArrayOf_alike hZ.alike Ar5.2.1) Ar5.2.2 hin5 hat5 (g := (mkF m 41 #[.val (.ref a1), .val (.ref b1), .val (.ref br), .val (.int (Int32.ofNat nb)), .val (.int (Int32.ofNat i)), .val (.int (ws.getD i 0))] [(.int (Int32.ofNat ((own_hash 8 (ws.getD i 0) + d) % 8))), (.ref ar)])) rfl rfl (hb hby d11_41) _ ?_
  show Steps p.tables e below (T4.setTop (mkF m 42 #[.val (.ref a1), .val (.ref b1), .val (.ref br), .val (.int (Int32.ofNat nb)), .val (.int (Int32.ofNat i)), .val (.int (ws.getD i 0))] [(.int (own_at 8 vs (ws.getD i 0) d))])) _
  refine XS.ifNo X4.here hx rfl (hb hby d11_42) rfl ((if0 _ _).trans (teq hc42).2) ?_
  exact kt
set_option maxRecDepth 65536 in
set_option maxHeartbeats 40000000 in
theorem leave11 {p : Program} {l : Launch} {e : Env} {R : Room} {s : State} {m : MethodId} {args : Array Value} {below : List Frame} {meth : Method} {c : Code} {T0 : State} {locs : List Loc} {cells slots : Nat} {Z : State} {a0 : Array Value} {h0 : Heap} (a1 b1 br : Addr) (nb : Nat) (s5 : Slot) (X0 : Stand p l e R s m args below meth c T0 locs cells slots) (hx : p.tables.exec = Jvm.exec) (hZ : Z.Warmed39 s.vm) (hw : ∀ d ∈ tables_1, d.before a0 Z = true) (hby : c.code = prog_2_method_4_code) (hown : s.vm.findClass "com/example/subsumption/subsumption/IntSet" = some m.cls) (e0 : T0.heap = h0) (hnb : nb < 900)  {target : State} (kt : Steps p.tables e below (T0.setTop (mkF m 53 #[.val (.ref a1), .val (.ref b1), .val (.ref br), .val (.int (Int32.ofNat nb)), .val (.int (Int32.ofNat nb)), s5] [])) target) : Steps p.tables e below (T0.setTop (mkF m 11 #[.val (.ref a1), .val (.ref b1), .val (.ref br), .val (.int (Int32.ofNat nb)), .val (.int (Int32.ofNat nb)), s5] [])) target := by
  show Steps p.tables e below (T0.setTop (mkF m 11 #[.val (.ref a1), .val (.ref b1), .val (.ref br), .val (.int (Int32.ofNat nb)), .val (.int (Int32.ofNat nb)), s5] [])) _
  refine XS.iload X0.here hx rfl (hb hby d11_11) rfl ?_
  show Steps p.tables e below (T0.setTop (mkF m 13 #[.val (.ref a1), .val (.ref b1), .val (.ref br), .val (.int (Int32.ofNat nb)), .val (.int (Int32.ofNat nb)), s5] [(.int (Int32.ofNat nb))])) _
  refine XS.iloadN X0.here hx rfl (hb hby d11_13) rfl ?_
  show Steps p.tables e below (T0.setTop (mkF m 14 #[.val (.ref a1), .val (.ref b1), .val (.ref br), .val (.int (Int32.ofNat nb)), .val (.int (Int32.ofNat nb)), s5] [(.int (Int32.ofNat nb)), (.int (Int32.ofNat nb))])) _
  refine XS.icmpYes X0.here hx rfl (pc0 := 14) (pc' := 53) rfl (hb hby d11_14) rfl (flt (fun q => absurd ((own_lt (by omega) (by omega)).mp q) (by omega) : ¬ ((Int32.ofNat nb) < (Int32.ofNat nb)))).2.1 (by decide) (by decide) ?_
  exact kt
set_option maxRecDepth 65536 in
set_option maxHeartbeats 40000000 in
theorem turn11z_8 {p : Program} {l : Launch} {e : Env} {s : State} {m : MethodId} {args : Array Value} {below : List Frame} {meth : Method} {c : Code} {T0 : State} {locs : List Loc} {Z : State} {a0 : Array Value} {h0 : Heap} {n0 : Nat} (a1 b1 ar br : Addr) (ka kb : ClassId) (vs ws : List Int32) (nb i : Nat) (s5 : Slot) (X0 : Stand p l e ({ frames := 2, cells := 0, slots := 0, locals := 30 } : Room) s m args below meth c T0 locs (0) (0)) (hx : p.tables.exec = Jvm.exec) (hZ : Z.Warmed39 s.vm) (hw : ∀ d ∈ tables_1, d.before a0 Z = true) (hby : c.code = prog_2_method_4_code) (hml : c.maxLocals = 6) (hown : s.vm.findClass "com/example/subsumption/subsumption/IntSet" = some m.cls) (e0 : T0.heap = h0) (N0 : Fr n0 locs) (Z0 : n0 ≤ h0.size) (hnb : nb < 900) (hi : i < nb) (h5 : One s5) (F_s : Fld Z h0 a1 "com/example/subsumption/subsumption/IntSet" "slots" "[I" (.ref ar)) (VA : Arv Z h0 ar ka .int (8 : Int32) (vs.map Value.int) (.int (0 : Int32))) (VB : Arv Z h0 br kb .int (Int32.ofNat nb) (ws.map Value.int) (.int (0 : Int32))) (hc25 : (ws.getD i 0) = (0 : Int32)) :
    ∃ (T' : State) (h' : Heap) (locs' : List Loc) , Stand p l e ({ frames := 2, cells := 0, slots := 0, locals := 30 } : Room) s m args below meth c T' locs' (0) (0) ∧ T'.heap = h' ∧ Fr n0 locs' ∧ n0 ≤ h'.size ∧ h' = h0 ∧ 
      ∀ target, Steps p.tables e below (T'.setTop (mkF m 11 #[.val (.ref a1), .val (.ref b1), .val (.ref br), .val (.int (Int32.ofNat nb)), .val (.int ((Int32.ofNat i) + (1 : Int32))), .val (.int (ws.getD i 0))] [])) target → Steps p.tables e below (T0.setTop (mkF m 11 #[.val (.ref a1), .val (.ref b1), .val (.ref br), .val (.int (Int32.ofNat nb)), .val (.int (Int32.ofNat i)), s5] [])) target := by
  obtain ⟨c1, Ar1, -, S1, -, H1, -⟩ := (id VB)
  have hin1 : ¬ ((Int32.ofNat i) < 0 ∨ c1.slots.size ≤ ((Int32.ofNat i)).toNatClampNeg) := inb_of S1 ⟨own_nn (by omega), (own_lt (by omega) (by omega)).mpr hi⟩
  have hat1 : c1.slots[((Int32.ofNat i)).toNatClampNeg]? = some (.int (ws.getD i 0)) := H1.at hin1 (by rw [own_natC (by omega)]; exact own_getI ws i)
  refine ⟨T0, h0, _, X0, e0, N0, Z0, rfl, fun target kt => ?_⟩
  show Steps p.tables e below (T0.setTop (mkF m 11 #[.val (.ref a1), .val (.ref b1), .val (.ref br), .val (.int (Int32.ofNat nb)), .val (.int (Int32.ofNat i)), s5] [])) _
  refine XS.iload X0.here hx rfl (hb hby d11_11) rfl ?_
  show Steps p.tables e below (T0.setTop (mkF m 13 #[.val (.ref a1), .val (.ref b1), .val (.ref br), .val (.int (Int32.ofNat nb)), .val (.int (Int32.ofNat i)), s5] [(.int (Int32.ofNat i))])) _
  refine XS.iloadN X0.here hx rfl (hb hby d11_13) rfl ?_
  show Steps p.tables e below (T0.setTop (mkF m 14 #[.val (.ref a1), .val (.ref b1), .val (.ref br), .val (.int (Int32.ofNat nb)), .val (.int (Int32.ofNat i)), s5] [(.int (Int32.ofNat nb)), (.int (Int32.ofNat i))])) _
  refine XS.icmpNo X0.here hx rfl (hb hby d11_14) rfl (tlt ((own_lt (by omega) (by omega)).mpr hi : (Int32.ofNat i) < (Int32.ofNat nb))).2.1 ?_
  show Steps p.tables e below (T0.setTop (mkF m 17 #[.val (.ref a1), .val (.ref b1), .val (.ref br), .val (.int (Int32.ofNat nb)), .val (.int (Int32.ofNat i)), s5] [])) _
  refine XS.aloadN X0.here hx rfl (hb hby d11_17) rfl rfl ?_
  show Steps p.tables e below (T0.setTop (mkF m 18 #[.val (.ref a1), .val (.ref b1), .val (.ref br), .val (.int (Int32.ofNat nb)), .val (.int (Int32.ofNat i)), s5] [(.ref br)])) _
  refine XS.iload X0.here hx rfl (hb hby d11_18) rfl ?_
  show Steps p.tables e below (T0.setTop (mkF m 20 #[.val (.ref a1), .val (.ref b1), .val (.ref br), .val (.int (Int32.ofNat nb)), .val (.int (Int32.ofNat i)), s5] [(.int (Int32.ofNat i)), (.ref br)])) _
  refine X0.iaload hx (j := (Int32.ofNat i)) (v := (.int (ws.getD i 0))) (by rw [e0]; exact Ar1.1) (State.isArrayOf_alike hZ.alike Ar1.2.1) Ar1.2.2 hin1 hat1 (g := (mkF m 20 #[.val (.ref a1), .val (.ref b1), .val (.ref br), .val (.int (Int32.ofNat nb)), .val (.int (Int32.ofNat i)), s5] [(.int (Int32.ofNat i)), (.ref br)])) rfl rfl (hb hby d11_20) _ ?_
  show Steps p.tables e below (T0.setTop (mkF m 21 #[.val (.ref a1), .val (.ref b1), .val (.ref br), .val (.int (Int32.ofNat nb)), .val (.int (Int32.ofNat i)), s5] [(.int (ws.getD i 0))])) _
  refine XS.istore X0.here hx rfl (hb hby d11_21) rfl (l' := #[.val (.ref a1), .val (.ref b1), .val (.ref br), .val (.int (Int32.ofNat nb)), .val (.int (Int32.ofNat i)), .val (.int (ws.getD i 0))]) (own_os h5) ?_
  show Steps p.tables e below (T0.setTop (mkF m 23 #[.val (.ref a1), .val (.ref b1), .val (.ref br), .val (.int (Int32.ofNat nb)), .val (.int (Int32.ofNat i)), .val (.int (ws.getD i 0))] [])) _
  refine XS.iload X0.here hx rfl (hb hby d11_23) rfl ?_
  show Steps p.tables e below (T0.setTop (mkF m 25 #[.val (.ref a1), .val (.ref b1), .val (.ref br), .val (.int (Int32.ofNat nb)), .val (.int (Int32.ofNat i)), .val (.int (ws.getD i 0))] [(.int (ws.getD i 0))])) _
  refine XS.ifYes X0.here hx rfl (pc0 := 25) (pc' := 47) rfl (hb hby d11_25) rfl ((if0 _ _).trans (teq hc25).1) (by decide) (by decide) ?_
  show Steps p.tables e below (T0.setTop (mkF m 47 #[.val (.ref a1), .val (.ref b1), .val (.ref br), .val (.int (Int32.ofNat nb)), .val (.int (Int32.ofNat i)), .val (.int (ws.getD i 0))] [])) _
  refine XS.iinc X0.here hx rfl (hb hby d11_47) rfl (l' := #[.val (.ref a1), .val (.ref b1), .val (.ref br), .val (.int (Int32.ofNat nb)), .val (.int ((Int32.ofNat i) + (1 : Int32))), .val (.int (ws.getD i 0))]) rfl ?_
  show Steps p.tables e below (T0.setTop (mkF m 50 #[.val (.ref a1), .val (.ref b1), .val (.ref br), .val (.int (Int32.ofNat nb)), .val (.int ((Int32.ofNat i) + (1 : Int32))), .val (.int (ws.getD i 0))] [])) _
  refine XS.goto X0.here hx rfl (pc0 := 50) (pc' := 11) rfl (hb hby d11_50) (by decide) (by decide) ?_
  exact kt
theorem loop11_4 {p : Program} {l : Launch} {e : Env} {s : State} {m : MethodId} {args : Array Value} {below : List Frame} {meth : Method} {c : Code} {Z : State} {a0 : Array Value} {h0 : Heap} {n0 : Nat} (a1 b1 ar br : Addr) (ka kb : ClassId) (vs ws : List Int32) (nb : Nat) (hx : p.tables.exec = Jvm.exec) (hZ : Z.Warmed39 s.vm) (hw : ∀ d ∈ tables_1, d.before a0 Z = true) (hby : c.code = prog_2_method_4_code) (hml : c.maxLocals = 6) (hown : s.vm.findClass "com/example/subsumption/subsumption/IntSet" = some m.cls) (Z0 : n0 ≤ h0.size) (hnb : nb < 900) (F_s : Fld Z h0 a1 "com/example/subsumption/subsumption/IntSet" "slots" "[I" (.ref ar)) (VA : Arv Z h0 ar ka .int (4 : Int32) (vs.map Value.int) (.int (0 : Int32))) (VB : Arv Z h0 br kb .int (Int32.ofNat nb) (ws.map Value.int) (.int (0 : Int32))) (hg : Good 4 vs) (hc : cnt vs < 4) :
    ∀ (k i : Nat), i + k = nb → ∀ (T0 : State) (locs : List Loc) (s5 : Slot), Stand p l e ({ frames := 2, cells := 0, slots := 0, locals := 30 } : Room) s m args below meth c T0 locs 0 0 → T0.heap = h0 → Fr n0 locs → One s5 →
      ∃ (T' : State) (locs' : List Loc) (s5' : Slot) (pc' : Nat) (i' : Int32), Stand p l e ({ frames := 2, cells := 0, slots := 0, locals := 30 } : Room) s m args below meth c T' locs' 0 0 ∧ T'.heap = h0 ∧ Fr n0 locs' ∧ ((pc' = 53 ∧ ∀ j, i ≤ j → j < nb → ws.getD j 0 ≠ 0 → In 4 vs (ws.getD j 0)) ∨ (pc' = 45 ∧ ∃ j, i ≤ j ∧ j < nb ∧ ws.getD j 0 ≠ 0 ∧ ¬ In 4 vs (ws.getD j 0))) ∧
        ∀ target, Steps p.tables e below (T'.setTop (mkF m pc' #[.val (.ref a1), .val (.ref b1), .val (.ref br), .val (.int (Int32.ofNat nb)), .val (.int i'), s5'] [])) target → Steps p.tables e below (T0.setTop (mkF m 11 #[.val (.ref a1), .val (.ref b1), .val (.ref br), .val (.int (Int32.ofNat nb)), .val (.int (Int32.ofNat i)), s5] [])) target := by
  intro k
  induction k with
  | zero =>
    intro i hi T0 locs s5 X e0 N h5
    obtain rfl : i = nb := by omega
    exact ⟨T0, locs, s5, 53, _, X, e0, N, Or.inl ⟨rfl, fun j h1 h2 => absurd h2 (by omega)⟩, fun target kt => leave11 a1 b1 br i s5 X hx hZ hw hby hown e0 hnb kt⟩
  | succ k ih =>
    intro i hi T0 locs s5 X e0 N h5
    by_cases hv : ws.getD i 0 = 0
    · obtain ⟨T1, h1, L1, X1, e1, N1, z1, q1, st1⟩ := turn11z_4 a1 b1 ar br ka kb vs ws nb i s5 X hx hZ hw hby hml hown e0 N Z0 hnb (by omega) h5 F_s VA VB hv
      subst q1
      obtain ⟨T2, L2, s52, pc2, i2, X2, e2, N2, hcase, st2⟩ := ih (i + 1) (by omega) T1 L1 _ X1 e1 N1 (One.val (w := .int (ws.getD i 0)) rfl)
      refine ⟨T2, L2, s52, pc2, i2, X2, e2, N2, ?_, fun target kt => st1 _ ?_⟩
      · rcases hcase with ⟨q, r⟩ | ⟨q, j, r1, r2, r3⟩
        · refine Or.inl ⟨q, fun j h1 h2 h3 => ?_⟩
          rcases Nat.eq_or_lt_of_le h1 with u | u
          · rw [← u] at h3; exact absurd hv h3
          · exact r j u h2 h3
        · exact Or.inr ⟨q, j, by omega, r2, r3⟩
      · rw [own_succ (by omega)]; exact st2 _ kt
    · obtain ⟨d, hh⟩ := own_find hg hc (ws.getD i 0)
      by_cases hf : own_at 4 vs (ws.getD i 0) d = 0
      · obtain ⟨T1, h1, L1, X1, e1, N1, z1, q1, st1⟩ := turn11n_4 a1 b1 ar br ka kb vs ws nb i s5 d X hx hZ hw hby hml hown e0 N Z0 hnb (by omega) h5 F_s VA VB hh hv hf
        subst q1
        exact ⟨T1, L1, _, 45, _, X1, e1, N1, Or.inr ⟨rfl, i, Nat.le_refl _, by omega, hv, fun q => hv (((Hit.iff hg hv hh).mp q).symm.trans hf)⟩, st1⟩
      · obtain ⟨T1, h1, L1, X1, e1, N1, z1, q1, st1⟩ := turn11y_4 a1 b1 ar br ka kb vs ws nb i s5 d X hx hZ hw hby hml hown e0 N Z0 hnb (by omega) h5 F_s VA VB hh hv hf
        subst q1
        obtain ⟨T2, L2, s52, pc2, i2, X2, e2, N2, hcase, st2⟩ := ih (i + 1) (by omega) T1 L1 _ X1 e1 N1 (One.val (w := .int (ws.getD i 0)) rfl)
        refine ⟨T2, L2, s52, pc2, i2, X2, e2, N2, ?_, fun target kt => st1 _ ?_⟩
        · rcases hcase with ⟨q, r⟩ | ⟨q, j, r1, r2, r3⟩
          · refine Or.inl ⟨q, fun j h1 h2 h3 => ?_⟩
            rcases Nat.eq_or_lt_of_le h1 with u | u
            · rw [← u]; exact (Hit.iff hg hv hh).mpr (hh.2.2.resolve_left hf)
            · exact r j u h2 h3
          · exact Or.inr ⟨q, j, by omega, r2, r3⟩
        · rw [own_succ (by omega)]; exact st2 _ kt
theorem loop11_8 {p : Program} {l : Launch} {e : Env} {s : State} {m : MethodId} {args : Array Value} {below : List Frame} {meth : Method} {c : Code} {Z : State} {a0 : Array Value} {h0 : Heap} {n0 : Nat} (a1 b1 ar br : Addr) (ka kb : ClassId) (vs ws : List Int32) (nb : Nat) (hx : p.tables.exec = Jvm.exec) (hZ : Z.Warmed39 s.vm) (hw : ∀ d ∈ tables_1, d.before a0 Z = true) (hby : c.code = prog_2_method_4_code) (hml : c.maxLocals = 6) (hown : s.vm.findClass "com/example/subsumption/subsumption/IntSet" = some m.cls) (Z0 : n0 ≤ h0.size) (hnb : nb < 900) (F_s : Fld Z h0 a1 "com/example/subsumption/subsumption/IntSet" "slots" "[I" (.ref ar)) (VA : Arv Z h0 ar ka .int (8 : Int32) (vs.map Value.int) (.int (0 : Int32))) (VB : Arv Z h0 br kb .int (Int32.ofNat nb) (ws.map Value.int) (.int (0 : Int32))) (hg : Good 8 vs) (hc : cnt vs < 8) :
    ∀ (k i : Nat), i + k = nb → ∀ (T0 : State) (locs : List Loc) (s5 : Slot), Stand p l e ({ frames := 2, cells := 0, slots := 0, locals := 30 } : Room) s m args below meth c T0 locs 0 0 → T0.heap = h0 → Fr n0 locs → One s5 →
      ∃ (T' : State) (locs' : List Loc) (s5' : Slot) (pc' : Nat) (i' : Int32), Stand p l e ({ frames := 2, cells := 0, slots := 0, locals := 30 } : Room) s m args below meth c T' locs' 0 0 ∧ T'.heap = h0 ∧ Fr n0 locs' ∧ ((pc' = 53 ∧ ∀ j, i ≤ j → j < nb → ws.getD j 0 ≠ 0 → In 8 vs (ws.getD j 0)) ∨ (pc' = 45 ∧ ∃ j, i ≤ j ∧ j < nb ∧ ws.getD j 0 ≠ 0 ∧ ¬ In 8 vs (ws.getD j 0))) ∧
        ∀ target, Steps p.tables e below (T'.setTop (mkF m pc' #[.val (.ref a1), .val (.ref b1), .val (.ref br), .val (.int (Int32.ofNat nb)), .val (.int i'), s5'] [])) target → Steps p.tables e below (T0.setTop (mkF m 11 #[.val (.ref a1), .val (.ref b1), .val (.ref br), .val (.int (Int32.ofNat nb)), .val (.int (Int32.ofNat i)), s5] [])) target := by
  intro k
  induction k with
  | zero =>
    intro i hi T0 locs s5 X e0 N h5
    obtain rfl : i = nb := by omega
    exact ⟨T0, locs, s5, 53, _, X, e0, N, Or.inl ⟨rfl, fun j h1 h2 => absurd h2 (by omega)⟩, fun target kt => leave11 a1 b1 br i s5 X hx hZ hw hby hown e0 hnb kt⟩
  | succ k ih =>
    intro i hi T0 locs s5 X e0 N h5
    by_cases hv : ws.getD i 0 = 0
    · obtain ⟨T1, h1, L1, X1, e1, N1, z1, q1, st1⟩ := turn11z_8 a1 b1 ar br ka kb vs ws nb i s5 X hx hZ hw hby hml hown e0 N Z0 hnb (by omega) h5 F_s VA VB hv
      subst q1
      obtain ⟨T2, L2, s52, pc2, i2, X2, e2, N2, hcase, st2⟩ := ih (i + 1) (by omega) T1 L1 _ X1 e1 N1 (One.val (w := .int (ws.getD i 0)) rfl)
      refine ⟨T2, L2, s52, pc2, i2, X2, e2, N2, ?_, fun target kt => st1 _ ?_⟩
      · rcases hcase with ⟨q, r⟩ | ⟨q, j, r1, r2, r3⟩
        · refine Or.inl ⟨q, fun j h1 h2 h3 => ?_⟩
          rcases Nat.eq_or_lt_of_le h1 with u | u
          · rw [← u] at h3; exact absurd hv h3
          · exact r j u h2 h3
        · exact Or.inr ⟨q, j, by omega, r2, r3⟩
      · rw [own_succ (by omega)]; exact st2 _ kt
    · obtain ⟨d, hh⟩ := own_find hg hc (ws.getD i 0)
      by_cases hf : own_at 8 vs (ws.getD i 0) d = 0
      · obtain ⟨T1, h1, L1, X1, e1, N1, z1, q1, st1⟩ := turn11n_8 a1 b1 ar br ka kb vs ws nb i s5 d X hx hZ hw hby hml hown e0 N Z0 hnb (by omega) h5 F_s VA VB hh hv hf
        subst q1
        exact ⟨T1, L1, _, 45, _, X1, e1, N1, Or.inr ⟨rfl, i, Nat.le_refl _, by omega, hv, fun q => hv (((Hit.iff hg hv hh).mp q).symm.trans hf)⟩, st1⟩
      · obtain ⟨T1, h1, L1, X1, e1, N1, z1, q1, st1⟩ := turn11y_8 a1 b1 ar br ka kb vs ws nb i s5 d X hx hZ hw hby hml hown e0 N Z0 hnb (by omega) h5 F_s VA VB hh hv hf
        subst q1
        obtain ⟨T2, L2, s52, pc2, i2, X2, e2, N2, hcase, st2⟩ := ih (i + 1) (by omega) T1 L1 _ X1 e1 N1 (One.val (w := .int (ws.getD i 0)) rfl)
        refine ⟨T2, L2, s52, pc2, i2, X2, e2, N2, ?_, fun target kt => st1 _ ?_⟩
        · rcases hcase with ⟨q, r⟩ | ⟨q, j, r1, r2, r3⟩
          · refine Or.inl ⟨q, fun j h1 h2 h3 => ?_⟩
            rcases Nat.eq_or_lt_of_le h1 with u | u
            · rw [← u]; exact (Hit.iff hg hv hh).mpr (hh.2.2.resolve_left hf)
            · exact r j u h2 h3
          · exact Or.inr ⟨q, j, by omega, r2, r3⟩
        · rw [own_succ (by omega)]; exact st2 _ kt
def Q11 (P : Prop) (h0 : Heap) (n0 : Nat) (v : Option Value) (h : Heap) (L : List Loc) : Prop := ∃ r : Int32, v = some (.int r) ∧ Fr n0 L ∧ h = h0 ∧ ((r = 1 ∧ P) ∨ (r = 0 ∧ ¬ P))
theorem d11_0 : decode prog_2_method_4_code 0 = .ok (.aload_n 1, 1) := by decide +kernel
theorem d11_1 : decode prog_2_method_4_code 1 = .ok (.getfield 9, 3) := by decide +kernel
theorem d11_4 : decode prog_2_method_4_code 4 = .ok (.astore_n 2, 1) := by decide +kernel
theorem d11_5 : decode prog_2_method_4_code 5 = .ok (.aload_n 2, 1) := by decide +kernel
theorem d11_6 : decode prog_2_method_4_code 6 = .ok (.arraylength, 1) := by decide +kernel
theorem d11_7 : decode prog_2_method_4_code 7 = .ok (.istore_n 3, 1) := by decide +kernel
theorem d11_8 : decode prog_2_method_4_code 8 = .ok (.iconst 0, 1) := by decide +kernel
theorem d11_9 : decode prog_2_method_4_code 9 = .ok (.istore 4, 2) := by decide +kernel
theorem d11_45 : decode prog_2_method_4_code 45 = .ok (.iconst 0, 1) := by decide +kernel
theorem d11_46 : decode prog_2_method_4_code 46 = .ok (.ireturn, 1) := by decide +kernel
theorem d11_53 : decode prog_2_method_4_code 53 = .ok (.iconst 1, 1) := by decide +kernel
theorem d11_54 : decode prog_2_method_4_code 54 = .ok (.ireturn, 1) := by decide +kernel
theorem ef_11 (m : MethodId) (x0 : Addr) (x1 : Addr) : entryFrame m #[(.ref x0), (.ref x1)] 6 = mkF m 0 #[.val (.ref x0), .val (.ref x1), .unset, .unset, .unset, .unset] [] := by first | (simp [entryFrame, mkF, argsToLocals, Value.category]; done) | rfl
set_option maxRecDepth 65536 in
set_option maxHeartbeats 40000000 in
theorem rm11_4 (l : Launch) (Z : State) (a0 : Array Value) (hw : ∀ d ∈ tables_1, d.before a0 Z = true) (wz : List Jvm.Cond) (a1 b1 ar br : Addr) (ka kb : ClassId) (vs ws : List Int32) (nb : Nat) (h0 : Heap) (n0 : Nat) (Z0 : n0 ≤ h0.size) (hnb : nb < 900) (F_s : Fld Z h0 a1 "com/example/subsumption/subsumption/IntSet" "slots" "[I" (.ref ar)) (F_b : Fld Z h0 b1 "com/example/subsumption/subsumption/IntSet" "slots" "[I" (.ref br)) (VA : Arv Z h0 ar ka .int (4 : Int32) (vs.map Value.int) (.int (0 : Int32))) (VB : Arv Z h0 br kb .int (Int32.ofNat nb) (ws.map Value.int) (.int (0 : Int32))) (hg : Good 4 vs) (hc : cnt vs < 4) :
    MetFree l (⟨"com/example/subsumption/subsumption/IntSet", "containsAll", "(Lcom/example/subsumption/subsumption/IntSet;)Z"⟩ : MethodName) (head1 (Jvm.Cond.code (⟨"com/example/subsumption/subsumption/IntSet", "containsAll", "(Lcom/example/subsumption/subsumption/IntSet;)Z"⟩ : MethodName) prog_2_method_4_code 6 (some .boolean) :: wz) ({ frames := 2, cells := 0, slots := 0, locals := 30 } : Room)) (fun a U => a = #[(.ref a1), (.ref b1)] ∧ Z.Warmed39 U.vm ∧ U.heap = h0) (fun _ _ _ _ _ => True) (fun _ U o U' => ∃ v L, o = .returned v ∧ Q11 (∀ j, j < nb → ws.getD j 0 ≠ 0 → In 4 vs (ws.getD j 0)) h0 n0 v U'.heap L ∧ FrameEnd U o U' L ({ frames := 2, cells := 0, slots := 0, locals := 30 } : Room).cells ({ frames := 2, cells := 0, slots := 0, locals := 30 } : Room).slots) := by
  refine MetFree.of_bodySF (plainFor_of_name pn_com_example_subsumption_subsumption_IntSet) hisR ?_
  intro p e s m args below meth cd s₁ Bd hml0 hPre hKc
  obtain ⟨rfl, hZ, hHp⟩ := hPre
  have hx := Bd.exec
  have hby := Bd.bytes
  have hml : cd.maxLocals = 6 := hml0
  have hown : s.vm.findClass "com/example/subsumption/subsumption/IntSet" = some m.cls := findClass_of_methodNamed Bd.named
  have hnm := (name_of_methodNamed Bd.named Bd.method).1
  have X0 : Stand p l e ({ frames := 2, cells := 0, slots := 0, locals := 30 } : Room) s m #[(.ref a1), (.ref b1)] below meth cd s₁ [] 0 0 := Stand.of_body Bd
  have e0 : s₁.heap = h0 := by rw [← hHp, Bd.state]; rfl
  have N0 := Fr.nil n0
  have pre0 : ∀ t, Steps p.tables e below (s₁.setTop (mkF m 0 #[.val (.ref a1), .val (.ref b1), .unset, .unset, .unset, .unset] [])) t → Steps p.tables e below (s₁.setTop (entryFrame m #[(.ref a1), (.ref b1)] 6)) t := fun t kz => castTop (ef_11 m a1 b1) kz
  obtain ⟨T1, X1, e1, st1⟩ := getF X0 hx hZ hown (host := "") (Or.inl (hw _ (List.mem_of_getElem? (i := 22) rfl))) Via.refl e0 F_b (g := (mkF m 1 #[.val (.ref a1), .val (.ref b1), .unset, .unset, .unset, .unset] [(.ref b1)])) rfl rfl (hb hby d11_1)
  obtain ⟨clB, ArB, -, SB, MB, -, -⟩ := (id VB)
  obtain ⟨TL, LL, s5, pcL, iL, XL, eL, NL, hcase, stL⟩ := loop11_4 a1 b1 ar br ka kb vs ws nb hx hZ hw hby hml hown Z0 hnb F_s VA VB hg hc nb 0 (Nat.zero_add nb) T1 _ .unset X1 e1 N0 One.u
  rcases hcase with ⟨rfl, hP⟩ | ⟨rfl, hP⟩
  · obtain ⟨fs, hr, hrun, hended, hW, hsame⟩ := XL.leave (v := some (.int (1 : Int32))) (fun h => by rw [Bd.returns] at h; cases h)
    refine ⟨_, _, pre0 _ ?_, hrun, hended, _, _, rfl, ?_, ⟨_, rfl⟩, hW, hsame.mono (by decide) (by decide)⟩
    · show Steps p.tables e below (s₁.setTop (mkF m 0 #[.val (.ref a1), .val (.ref b1), .unset, .unset, .unset, .unset] [])) _
      refine XS.aloadN X0.here hx rfl (hb hby d11_0) rfl rfl ?_
      show Steps p.tables e below (s₁.setTop (mkF m 1 #[.val (.ref a1), .val (.ref b1), .unset, .unset, .unset, .unset] [(.ref b1)])) _
      refine st1 _ ?_
      show Steps p.tables e below (T1.setTop (mkF m 4 #[.val (.ref a1), .val (.ref b1), .unset, .unset, .unset, .unset] [(.ref br)])) _
      refine XS.astoreN X1.here hx rfl (hb hby d11_4) rfl rfl (l' := #[.val (.ref a1), .val (.ref b1), .val (.ref br), .unset, .unset, .unset]) rfl ?_
      show Steps p.tables e below (T1.setTop (mkF m 5 #[.val (.ref a1), .val (.ref b1), .val (.ref br), .unset, .unset, .unset] [])) _
      refine XS.aloadN X1.here hx rfl (hb hby d11_5) rfl rfl ?_
      show Steps p.tables e below (T1.setTop (mkF m 6 #[.val (.ref a1), .val (.ref b1), .val (.ref br), .unset, .unset, .unset] [(.ref br)])) _
      refine X1.arraylength hx (by rw [e1]; exact ArB.1) (State.isArrayOf_alike hZ.alike ArB.2.1) (g := (mkF m 6 #[.val (.ref a1), .val (.ref b1), .val (.ref br), .unset, .unset, .unset] [(.ref br)])) rfl rfl (hb hby d11_6) _ ?_
      rw [len_of SB MB]
      show Steps p.tables e below (T1.setTop (mkF m 7 #[.val (.ref a1), .val (.ref b1), .val (.ref br), .unset, .unset, .unset] [(.int (Int32.ofNat nb))])) _
      refine XS.istoreN X1.here hx rfl (hb hby d11_7) rfl (l' := #[.val (.ref a1), .val (.ref b1), .val (.ref br), .val (.int (Int32.ofNat nb)), .unset, .unset]) rfl ?_
      show Steps p.tables e below (T1.setTop (mkF m 8 #[.val (.ref a1), .val (.ref b1), .val (.ref br), .val (.int (Int32.ofNat nb)), .unset, .unset] [])) _
      refine XS.iconst X1.here hx rfl (hb hby d11_8) ?_
      show Steps p.tables e below (T1.setTop (mkF m 9 #[.val (.ref a1), .val (.ref b1), .val (.ref br), .val (.int (Int32.ofNat nb)), .unset, .unset] [(.int (0 : Int32))])) _
      refine XS.istore X1.here hx rfl (hb hby d11_9) rfl (l' := #[.val (.ref a1), .val (.ref b1), .val (.ref br), .val (.int (Int32.ofNat nb)), .val (.int (0 : Int32)), .unset]) rfl ?_
      refine stL _ ?_
      show Steps p.tables e below (TL.setTop (mkF m 53 #[.val (.ref a1), .val (.ref b1), .val (.ref br), .val (.int (Int32.ofNat nb)), .val (.int iL), s5] [])) _
      refine XS.iconst XL.here hx rfl (hb hby d11_53) ?_
      show Steps p.tables e below (TL.setTop (mkF m 54 #[.val (.ref a1), .val (.ref b1), .val (.ref br), .val (.int (Int32.ofNat nb)), .val (.int iL), s5] [(.int (1 : Int32))])) _
      exact retN XL hx (t := .boolean) Bd.returns (by simp) (hb hby d11_54) hr
    · show Q11 (∀ j, j < nb → ws.getD j 0 ≠ 0 → In 4 vs (ws.getD j 0)) h0 n0 _ TL.heap _
      rw [eL]
      exact ⟨_, rfl, NL, rfl, Or.inl ⟨rfl, fun j h1 h2 => hP j (Nat.zero_le _) h1 h2⟩⟩
  · obtain ⟨fs, hr, hrun, hended, hW, hsame⟩ := XL.leave (v := some (.int (0 : Int32))) (fun h => by rw [Bd.returns] at h; cases h)
    refine ⟨_, _, pre0 _ ?_, hrun, hended, _, _, rfl, ?_, ⟨_, rfl⟩, hW, hsame.mono (by decide) (by decide)⟩
    · show Steps p.tables e below (s₁.setTop (mkF m 0 #[.val (.ref a1), .val (.ref b1), .unset, .unset, .unset, .unset] [])) _
      refine XS.aloadN X0.here hx rfl (hb hby d11_0) rfl rfl ?_
      show Steps p.tables e below (s₁.setTop (mkF m 1 #[.val (.ref a1), .val (.ref b1), .unset, .unset, .unset, .unset] [(.ref b1)])) _
      refine st1 _ ?_
      show Steps p.tables e below (T1.setTop (mkF m 4 #[.val (.ref a1), .val (.ref b1), .unset, .unset, .unset, .unset] [(.ref br)])) _
      refine XS.astoreN X1.here hx rfl (hb hby d11_4) rfl rfl (l' := #[.val (.ref a1), .val (.ref b1), .val (.ref br), .unset, .unset, .unset]) rfl ?_
      show Steps p.tables e below (T1.setTop (mkF m 5 #[.val (.ref a1), .val (.ref b1), .val (.ref br), .unset, .unset, .unset] [])) _
      refine XS.aloadN X1.here hx rfl (hb hby d11_5) rfl rfl ?_
      show Steps p.tables e below (T1.setTop (mkF m 6 #[.val (.ref a1), .val (.ref b1), .val (.ref br), .unset, .unset, .unset] [(.ref br)])) _
      refine X1.arraylength hx (by rw [e1]; exact ArB.1) (State.isArrayOf_alike hZ.alike ArB.2.1) (g := (mkF m 6 #[.val (.ref a1), .val (.ref b1), .val (.ref br), .unset, .unset, .unset] [(.ref br)])) rfl rfl (hb hby d11_6) _ ?_
      rw [len_of SB MB]
      show Steps p.tables e below (T1.setTop (mkF m 7 #[.val (.ref a1), .val (.ref b1), .val (.ref br), .unset, .unset, .unset] [(.int (Int32.ofNat nb))])) _
      refine XS.istoreN X1.here hx rfl (hb hby d11_7) rfl (l' := #[.val (.ref a1), .val (.ref b1), .val (.ref br), .val (.int (Int32.ofNat nb)), .unset, .unset]) rfl ?_
      show Steps p.tables e below (T1.setTop (mkF m 8 #[.val (.ref a1), .val (.ref b1), .val (.ref br), .val (.int (Int32.ofNat nb)), .unset, .unset] [])) _
      refine XS.iconst X1.here hx rfl (hb hby d11_8) ?_
      show Steps p.tables e below (T1.setTop (mkF m 9 #[.val (.ref a1), .val (.ref b1), .val (.ref br), .val (.int (Int32.ofNat nb)), .unset, .unset] [(.int (0 : Int32))])) _
      refine XS.istore X1.here hx rfl (hb hby d11_9) rfl (l' := #[.val (.ref a1), .val (.ref b1), .val (.ref br), .val (.int (Int32.ofNat nb)), .val (.int (0 : Int32)), .unset]) rfl ?_
      refine stL _ ?_
      show Steps p.tables e below (TL.setTop (mkF m 45 #[.val (.ref a1), .val (.ref b1), .val (.ref br), .val (.int (Int32.ofNat nb)), .val (.int iL), s5] [])) _
      refine XS.iconst XL.here hx rfl (hb hby d11_45) ?_
      show Steps p.tables e below (TL.setTop (mkF m 46 #[.val (.ref a1), .val (.ref b1), .val (.ref br), .val (.int (Int32.ofNat nb)), .val (.int iL), s5] [(.int (0 : Int32))])) _
      exact retN XL hx (t := .boolean) Bd.returns (by simp) (hb hby d11_46) hr
    · show Q11 (∀ j, j < nb → ws.getD j 0 ≠ 0 → In 4 vs (ws.getD j 0)) h0 n0 _ TL.heap _
      rw [eL]
      exact ⟨_, rfl, NL, rfl, Or.inr ⟨rfl, fun q => (by obtain ⟨j, -, r2, r3, r4⟩ := hP; exact r4 (q j r2 r3))⟩⟩
set_option maxRecDepth 65536 in
set_option maxHeartbeats 40000000 in
theorem rm11_8 (l : Launch) (Z : State) (a0 : Array Value) (hw : ∀ d ∈ tables_1, d.before a0 Z = true) (wz : List Jvm.Cond) (a1 b1 ar br : Addr) (ka kb : ClassId) (vs ws : List Int32) (nb : Nat) (h0 : Heap) (n0 : Nat) (Z0 : n0 ≤ h0.size) (hnb : nb < 900) (F_s : Fld Z h0 a1 "com/example/subsumption/subsumption/IntSet" "slots" "[I" (.ref ar)) (F_b : Fld Z h0 b1 "com/example/subsumption/subsumption/IntSet" "slots" "[I" (.ref br)) (VA : Arv Z h0 ar ka .int (8 : Int32) (vs.map Value.int) (.int (0 : Int32))) (VB : Arv Z h0 br kb .int (Int32.ofNat nb) (ws.map Value.int) (.int (0 : Int32))) (hg : Good 8 vs) (hc : cnt vs < 8) :
    MetFree l (⟨"com/example/subsumption/subsumption/IntSet", "containsAll", "(Lcom/example/subsumption/subsumption/IntSet;)Z"⟩ : MethodName) (head1 (Jvm.Cond.code (⟨"com/example/subsumption/subsumption/IntSet", "containsAll", "(Lcom/example/subsumption/subsumption/IntSet;)Z"⟩ : MethodName) prog_2_method_4_code 6 (some .boolean) :: wz) ({ frames := 2, cells := 0, slots := 0, locals := 30 } : Room)) (fun a U => a = #[(.ref a1), (.ref b1)] ∧ Z.Warmed39 U.vm ∧ U.heap = h0) (fun _ _ _ _ _ => True) (fun _ U o U' => ∃ v L, o = .returned v ∧ Q11 (∀ j, j < nb → ws.getD j 0 ≠ 0 → In 8 vs (ws.getD j 0)) h0 n0 v U'.heap L ∧ FrameEnd U o U' L ({ frames := 2, cells := 0, slots := 0, locals := 30 } : Room).cells ({ frames := 2, cells := 0, slots := 0, locals := 30 } : Room).slots) := by
  refine MetFree.of_bodySF (plainFor_of_name pn_com_example_subsumption_subsumption_IntSet) hisR ?_
  intro p e s m args below meth cd s₁ Bd hml0 hPre hKc
  obtain ⟨rfl, hZ, hHp⟩ := hPre
  have hx := Bd.exec
  have hby := Bd.bytes
  have hml : cd.maxLocals = 6 := hml0
  have hown : s.vm.findClass "com/example/subsumption/subsumption/IntSet" = some m.cls := findClass_of_methodNamed Bd.named
  have hnm := (name_of_methodNamed Bd.named Bd.method).1
  have X0 : Stand p l e ({ frames := 2, cells := 0, slots := 0, locals := 30 } : Room) s m #[(.ref a1), (.ref b1)] below meth cd s₁ [] 0 0 := Stand.of_body Bd
  have e0 : s₁.heap = h0 := by rw [← hHp, Bd.state]; rfl
  have N0 := Fr.nil n0
  have pre0 : ∀ t, Steps p.tables e below (s₁.setTop (mkF m 0 #[.val (.ref a1), .val (.ref b1), .unset, .unset, .unset, .unset] [])) t → Steps p.tables e below (s₁.setTop (entryFrame m #[(.ref a1), (.ref b1)] 6)) t := fun t kz => castTop (ef_11 m a1 b1) kz
  obtain ⟨T1, X1, e1, st1⟩ := getF X0 hx hZ hown (host := "") (Or.inl (hw _ (List.mem_of_getElem? (i := 22) rfl))) Via.refl e0 F_b (g := (mkF m 1 #[.val (.ref a1), .val (.ref b1), .unset, .unset, .unset, .unset] [(.ref b1)])) rfl rfl (hb hby d11_1)
  obtain ⟨clB, ArB, -, SB, MB, -, -⟩ := (id VB)
  obtain ⟨TL, LL, s5, pcL, iL, XL, eL, NL, hcase, stL⟩ := loop11_8 a1 b1 ar br ka kb vs ws nb hx hZ hw hby hml hown Z0 hnb F_s VA VB hg hc nb 0 (Nat.zero_add nb) T1 _ .unset X1 e1 N0 One.u
  rcases hcase with ⟨rfl, hP⟩ | ⟨rfl, hP⟩
  · obtain ⟨fs, hr, hrun, hended, hW, hsame⟩ := XL.leave (v := some (.int (1 : Int32))) (fun h => by rw [Bd.returns] at h; cases h)
    refine ⟨_, _, pre0 _ ?_, hrun, hended, _, _, rfl, ?_, ⟨_, rfl⟩, hW, hsame.mono (by decide) (by decide)⟩
    · show Steps p.tables e below (s₁.setTop (mkF m 0 #[.val (.ref a1), .val (.ref b1), .unset, .unset, .unset, .unset] [])) _
      refine XS.aloadN X0.here hx rfl (hb hby d11_0) rfl rfl ?_
      show Steps p.tables e below (s₁.setTop (mkF m 1 #[.val (.ref a1), .val (.ref b1), .unset, .unset, .unset, .unset] [(.ref b1)])) _
      refine st1 _ ?_
      show Steps p.tables e below (T1.setTop (mkF m 4 #[.val (.ref a1), .val (.ref b1), .unset, .unset, .unset, .unset] [(.ref br)])) _
      refine XS.astoreN X1.here hx rfl (hb hby d11_4) rfl rfl (l' := #[.val (.ref a1), .val (.ref b1), .val (.ref br), .unset, .unset, .unset]) rfl ?_
      show Steps p.tables e below (T1.setTop (mkF m 5 #[.val (.ref a1), .val (.ref b1), .val (.ref br), .unset, .unset, .unset] [])) _
      refine XS.aloadN X1.here hx rfl (hb hby d11_5) rfl rfl ?_
      show Steps p.tables e below (T1.setTop (mkF m 6 #[.val (.ref a1), .val (.ref b1), .val (.ref br), .unset, .unset, .unset] [(.ref br)])) _
      refine X1.arraylength hx (by rw [e1]; exact ArB.1) (State.isArrayOf_alike hZ.alike ArB.2.1) (g := (mkF m 6 #[.val (.ref a1), .val (.ref b1), .val (.ref br), .unset, .unset, .unset] [(.ref br)])) rfl rfl (hb hby d11_6) _ ?_
      rw [len_of SB MB]
      show Steps p.tables e below (T1.setTop (mkF m 7 #[.val (.ref a1), .val (.ref b1), .val (.ref br), .unset, .unset, .unset] [(.int (Int32.ofNat nb))])) _
      refine XS.istoreN X1.here hx rfl (hb hby d11_7) rfl (l' := #[.val (.ref a1), .val (.ref b1), .val (.ref br), .val (.int (Int32.ofNat nb)), .unset, .unset]) rfl ?_
      show Steps p.tables e below (T1.setTop (mkF m 8 #[.val (.ref a1), .val (.ref b1), .val (.ref br), .val (.int (Int32.ofNat nb)), .unset, .unset] [])) _
      refine XS.iconst X1.here hx rfl (hb hby d11_8) ?_
      show Steps p.tables e below (T1.setTop (mkF m 9 #[.val (.ref a1), .val (.ref b1), .val (.ref br), .val (.int (Int32.ofNat nb)), .unset, .unset] [(.int (0 : Int32))])) _
      refine XS.istore X1.here hx rfl (hb hby d11_9) rfl (l' := #[.val (.ref a1), .val (.ref b1), .val (.ref br), .val (.int (Int32.ofNat nb)), .val (.int (0 : Int32)), .unset]) rfl ?_
      refine stL _ ?_
      show Steps p.tables e below (TL.setTop (mkF m 53 #[.val (.ref a1), .val (.ref b1), .val (.ref br), .val (.int (Int32.ofNat nb)), .val (.int iL), s5] [])) _
      refine XS.iconst XL.here hx rfl (hb hby d11_53) ?_
      show Steps p.tables e below (TL.setTop (mkF m 54 #[.val (.ref a1), .val (.ref b1), .val (.ref br), .val (.int (Int32.ofNat nb)), .val (.int iL), s5] [(.int (1 : Int32))])) _
      exact retN XL hx (t := .boolean) Bd.returns (by simp) (hb hby d11_54) hr
    · show Q11 (∀ j, j < nb → ws.getD j 0 ≠ 0 → In 8 vs (ws.getD j 0)) h0 n0 _ TL.heap _
      rw [eL]
      exact ⟨_, rfl, NL, rfl, Or.inl ⟨rfl, fun j h1 h2 => hP j (Nat.zero_le _) h1 h2⟩⟩
  · obtain ⟨fs, hr, hrun, hended, hW, hsame⟩ := XL.leave (v := some (.int (0 : Int32))) (fun h => by rw [Bd.returns] at h; cases h)
    refine ⟨_, _, pre0 _ ?_, hrun, hended, _, _, rfl, ?_, ⟨_, rfl⟩, hW, hsame.mono (by decide) (by decide)⟩
    · show Steps p.tables e below (s₁.setTop (mkF m 0 #[.val (.ref a1), .val (.ref b1), .unset, .unset, .unset, .unset] [])) _
      refine XS.aloadN X0.here hx rfl (hb hby d11_0) rfl rfl ?_
      show Steps p.tables e below (s₁.setTop (mkF m 1 #[.val (.ref a1), .val (.ref b1), .unset, .unset, .unset, .unset] [(.ref b1)])) _
      refine st1 _ ?_
      show Steps p.tables e below (T1.setTop (mkF m 4 #[.val (.ref a1), .val (.ref b1), .unset, .unset, .unset, .unset] [(.ref br)])) _
      refine XS.astoreN X1.here hx rfl (hb hby d11_4) rfl rfl (l' := #[.val (.ref a1), .val (.ref b1), .val (.ref br), .unset, .unset, .unset]) rfl ?_
      show Steps p.tables e below (T1.setTop (mkF m 5 #[.val (.ref a1), .val (.ref b1), .val (.ref br), .unset, .unset, .unset] [])) _
      refine XS.aloadN X1.here hx rfl (hb hby d11_5) rfl rfl ?_
      show Steps p.tables e below (T1.setTop (mkF m 6 #[.val (.ref a1), .val (.ref b1), .val (.ref br), .unset, .unset, .unset] [(.ref br)])) _
      refine X1.arraylength hx (by rw [e1]; exact ArB.1) (State.isArrayOf_alike hZ.alike ArB.2.1) (g := (mkF m 6 #[.val (.ref a1), .val (.ref b1), .val (.ref br), .unset, .unset, .unset] [(.ref br)])) rfl rfl (hb hby d11_6) _ ?_
      rw [len_of SB MB]
      show Steps p.tables e below (T1.setTop (mkF m 7 #[.val (.ref a1), .val (.ref b1), .val (.ref br), .unset, .unset, .unset] [(.int (Int32.ofNat nb))])) _
      refine XS.istoreN X1.here hx rfl (hb hby d11_7) rfl (l' := #[.val (.ref a1), .val (.ref b1), .val (.ref br), .val (.int (Int32.ofNat nb)), .unset, .unset]) rfl ?_
      show Steps p.tables e below (T1.setTop (mkF m 8 #[.val (.ref a1), .val (.ref b1), .val (.ref br), .val (.int (Int32.ofNat nb)), .unset, .unset] [])) _
      refine XS.iconst X1.here hx rfl (hb hby d11_8) ?_
      show Steps p.tables e below (T1.setTop (mkF m 9 #[.val (.ref a1), .val (.ref b1), .val (.ref br), .val (.int (Int32.ofNat nb)), .unset, .unset] [(.int (0 : Int32))])) _
      refine XS.istore X1.here hx rfl (hb hby d11_9) rfl (l' := #[.val (.ref a1), .val (.ref b1), .val (.ref br), .val (.int (Int32.ofNat nb)), .val (.int (0 : Int32)), .unset]) rfl ?_
      refine stL _ ?_
      show Steps p.tables e below (TL.setTop (mkF m 45 #[.val (.ref a1), .val (.ref b1), .val (.ref br), .val (.int (Int32.ofNat nb)), .val (.int iL), s5] [])) _
      refine XS.iconst XL.here hx rfl (hb hby d11_45) ?_
      show Steps p.tables e below (TL.setTop (mkF m 46 #[.val (.ref a1), .val (.ref b1), .val (.ref br), .val (.int (Int32.ofNat nb)), .val (.int iL), s5] [(.int (0 : Int32))])) _
      exact retN XL hx (t := .boolean) Bd.returns (by simp) (hb hby d11_46) hr
    · show Q11 (∀ j, j < nb → ws.getD j 0 ≠ 0 → In 8 vs (ws.getD j 0)) h0 n0 _ TL.heap _
      rw [eL]
      exact ⟨_, rfl, NL, rfl, Or.inr ⟨rfl, fun q => (by obtain ⟨j, -, r2, r3, r4⟩ := hP; exact r4 (q j r2 r3))⟩⟩
def own_el (x : Int32) : Int32 := (x &&& (2147483647 : Int32)) % (2147483647 : Int32)
theorem d2_0 : decode method_2_code 0 = .ok (.iload_n 0, 1) := by decide +kernel
theorem d2_1 : decode method_2_code 1 = .ok (.ldc 7, 2) := by decide +kernel
theorem d2_3 : decode method_2_code 3 = .ok (.iand, 1) := by decide +kernel
theorem d2_4 : decode method_2_code 4 = .ok (.ldc 7, 2) := by decide +kernel
theorem d2_6 : decode method_2_code 6 = .ok (.irem, 1) := by decide +kernel
theorem d2_7 : decode method_2_code 7 = .ok (.ireturn, 1) := by decide +kernel
theorem pn_com_example_subsumption_subsumption_IntSetContainsAllPinLaw : plainName "com/example/subsumption/subsumption/IntSetContainsAllPinLaw" = true := by first | (simp [plainName, overriddenIn]; done) | decide +kernel
theorem ef_2 (m : MethodId) (x0 : Int32) : entryFrame m #[(.int x0)] 1 = mkF m 0 #[.val (.int x0)] [] := by first | (simp [entryFrame, mkF, argsToLocals, Value.category]; done) | rfl
def Q2 (r : Int32) (h0 : Heap) (n0 : Nat) (v : Option Value) (h : Heap) (L : List Loc) : Prop := v = some (.int r) ∧ Fr n0 L ∧ h = h0
set_option maxRecDepth 65536 in
set_option maxHeartbeats 40000000 in
theorem rm2 (l : Launch) (Z : State) (a0 : Array Value) (hw : ∀ d ∈ tables_1, d.before a0 Z = true) (ws : List Jvm.Cond) (p1 : Int32) (h0 : Heap) (n0 : Nat) (Z0 : n0 ≤ h0.size)   :
    MetFree l (⟨"com/example/subsumption/subsumption/IntSetContainsAllPinLaw", "el", "(I)I"⟩ : MethodName) (head1 (Jvm.Cond.code (⟨"com/example/subsumption/subsumption/IntSetContainsAllPinLaw", "el", "(I)I"⟩ : MethodName) method_2_code 1 (some .int) :: ws) ({ frames := 0, cells := 0, slots := 0, locals := 0 } : Room)) (fun a U => a = #[(.int p1)] ∧ Z.Warmed39 U.vm ∧ U.heap = h0) (fun _ _ _ _ _ => True) (fun _ U o U' => ∃ v L, o = .returned v ∧ Q2 (own_el p1) h0 n0 v U'.heap L ∧ FrameEnd U o U' L ({ frames := 0, cells := 0, slots := 0, locals := 0 } : Room).cells ({ frames := 0, cells := 0, slots := 0, locals := 0 } : Room).slots) := by
  refine MetFree.of_bodySF (plainFor_of_name pn_com_example_subsumption_subsumption_IntSetContainsAllPinLaw) hisR ?_
  intro p e s m args below meth cd s₁ Bd hml0 hPre hKc
  obtain ⟨rfl, hZ, hHp⟩ := hPre
  have hx := Bd.exec
  have hby := Bd.bytes
  have hml : cd.maxLocals = 1 := hml0
  have hown : s.vm.findClass "com/example/subsumption/subsumption/IntSetContainsAllPinLaw" = some m.cls := findClass_of_methodNamed Bd.named
  have hnm := (name_of_methodNamed Bd.named Bd.method).1
  have X0 : Stand p l e ({ frames := 0, cells := 0, slots := 0, locals := 0 } : Room) s m #[(.int p1)] below meth cd s₁ [] 0 0 := Stand.of_body Bd
  have e0 : s₁.heap = h0 := by rw [← hHp, Bd.state]; rfl
  have N0 := Fr.nil n0
  have pre0 : ∀ t, Steps p.tables e below (s₁.setTop (mkF m 0 #[.val (.int p1)] [])) t → Steps p.tables e below (s₁.setTop (entryFrame m #[(.int p1)] 1)) t := fun t kz => castTop (ef_2 m p1) kz
  obtain ⟨fs, hr, hrun, hended, hW, hsame⟩ := X0.leave (v := some (.int ((p1 &&& (2147483647 : Int32)) % (2147483647 : Int32)))) (fun h => by rw [Bd.returns] at h; cases h)
  refine ⟨_, _, pre0 _ ?_, hrun, hended, _, _, rfl, ?_, ⟨_, rfl⟩, hW, hsame.mono (by decide) (by decide)⟩
  · show Steps p.tables e below (s₁.setTop (mkF m 0 #[.val (.int p1)] [])) _
    refine XS.iloadN X0.here hx rfl (hb hby d2_0) rfl ?_
    show Steps p.tables e below (s₁.setTop (mkF m 1 #[.val (.int p1)] [(.int p1)])) _
    refine X0.ldcInt hx hown (mvT hZ (hw _ (List.mem_of_getElem? (i := 8) rfl))) (g := (mkF m 1 #[.val (.int p1)] [(.int p1)])) rfl (hb hby d2_1) _ ?_
    show Steps p.tables e below (s₁.setTop (mkF m 3 #[.val (.int p1)] [(.int (2147483647 : Int32)), (.int p1)])) _
    refine XS.iand X0.here hx rfl (hb hby d2_3) rfl ?_
    show Steps p.tables e below (s₁.setTop (mkF m 4 #[.val (.int p1)] [(.int (p1 &&& (2147483647 : Int32)))])) _
    refine X0.ldcInt hx hown (mvT hZ (hw _ (List.mem_of_getElem? (i := 8) rfl))) (g := (mkF m 4 #[.val (.int p1)] [(.int (p1 &&& (2147483647 : Int32)))])) rfl (hb hby d2_4) _ ?_
    show Steps p.tables e below (s₁.setTop (mkF m 6 #[.val (.int p1)] [(.int (2147483647 : Int32)), (.int (p1 &&& (2147483647 : Int32)))])) _
    refine XS.irem X0.here hx rfl (hb hby d2_6) rfl (by decide) ?_
    rw [irem_eq_mod (p1 &&& (2147483647 : Int32)) (2147483647 : Int32)]
    show Steps p.tables e below (s₁.setTop (mkF m 7 #[.val (.int p1)] [(.int ((p1 &&& (2147483647 : Int32)) % (2147483647 : Int32)))])) _
    exact retI X0 hx Bd.returns (hb hby d2_7) hr
  · show Q2 (own_el p1) h0 n0 _ s₁.heap _
    rw [e0]
    exact ⟨rfl, N0, rfl⟩
def QE (P : Int32 → Prop) (h0 : Heap) (n0 : Nat) (v : Option Value) (h : Heap) (L : List Loc) : Prop := ∃ r : Int32, v = some (.int r) ∧ Fr n0 L ∧ h = h0 ∧ P r
theorem d1_0 : decode jdk_29_method_69_code 0 = .ok (.iload_n 0, 1) := by decide +kernel
theorem d1_1 : decode jdk_29_method_69_code 1 = .ok (.iload_n 1, 1) := by decide +kernel
theorem d1_2 : decode jdk_29_method_69_code 2 = .ok (.if_icmp .gt 7, 3) := by decide +kernel
theorem d1_9 : decode jdk_29_method_69_code 9 = .ok (.iload_n 1, 1) := by decide +kernel
theorem d1_10 : decode jdk_29_method_69_code 10 = .ok (.ireturn, 1) := by decide +kernel
theorem ef_1 (m : MethodId) (x0 : Int32) (x1 : Int32) : entryFrame m #[(.int x0), (.int x1)] 2 = mkF m 0 #[.val (.int x0), .val (.int x1)] [] := by first | (simp [entryFrame, mkF, argsToLocals, Value.category]; done) | rfl
set_option maxRecDepth 65536 in
set_option maxHeartbeats 40000000 in
theorem rm1t (l : Launch) (Z : State) (a0 : Array Value) (hw : ∀ d ∈ tables_1, d.before a0 Z = true) (ws : List Jvm.Cond) (p1 p2 : Int32) (h0 : Heap) (n0 : Nat) (Z0 : n0 ≤ h0.size)  (hc2 : p2 < p1) :
    MetFree l (⟨"java/lang/Math", "min", "(II)I"⟩ : MethodName) (head1 (Jvm.Cond.code (⟨"java/lang/Math", "min", "(II)I"⟩ : MethodName) jdk_29_method_69_code 2 (some .int) :: ws) ({ frames := 0, cells := 0, slots := 0, locals := 0 } : Room)) (fun a U => a = #[(.int p1), (.int p2)] ∧ Z.Warmed39 U.vm ∧ U.heap = h0) (fun _ _ _ _ _ => True) (fun _ U o U' => ∃ v L, o = .returned v ∧ QE (fun _ => True) h0 n0 v U'.heap L ∧ FrameEnd U o U' L ({ frames := 0, cells := 0, slots := 0, locals := 0 } : Room).cells ({ frames := 0, cells := 0, slots := 0, locals := 0 } : Room).slots) := by
  refine MetFree.of_bodySF (Jvm.Free.JP.mathPlain rfl (by decide +kernel)) hisR ?_
  intro p e s m args below meth cd s₁ Bd hml0 hPre hKc
  obtain ⟨rfl, hZ, hHp⟩ := hPre
  have hx := Bd.exec
  have hby := Bd.bytes
  have hml : cd.maxLocals = 2 := hml0
  have hown : s.vm.findClass "java/lang/Math" = some m.cls := findClass_of_methodNamed Bd.named
  have hnm := (name_of_methodNamed Bd.named Bd.method).1
  have X0 : Stand p l e ({ frames := 0, cells := 0, slots := 0, locals := 0 } : Room) s m #[(.int p1), (.int p2)] below meth cd s₁ [] 0 0 := Stand.of_body Bd
  have e0 : s₁.heap = h0 := by rw [← hHp, Bd.state]; rfl
  have N0 := Fr.nil n0
  have pre0 : ∀ t, Steps p.tables e below (s₁.setTop (mkF m 0 #[.val (.int p1), .val (.int p2)] [])) t → Steps p.tables e below (s₁.setTop (entryFrame m #[(.int p1), (.int p2)] 2)) t := fun t kz => castTop (ef_1 m p1 p2) kz
  obtain ⟨fs, hr, hrun, hended, hW, hsame⟩ := X0.leave (v := some (.int p2)) (fun h => by rw [Bd.returns] at h; cases h)
  refine ⟨_, _, pre0 _ ?_, hrun, hended, _, _, rfl, ?_, ⟨_, rfl⟩, hW, hsame.mono (by decide) (by decide)⟩
  · show Steps p.tables e below (s₁.setTop (mkF m 0 #[.val (.int p1), .val (.int p2)] [])) _
    refine XS.iloadN X0.here hx rfl (hb hby d1_0) rfl ?_
    show Steps p.tables e below (s₁.setTop (mkF m 1 #[.val (.int p1), .val (.int p2)] [(.int p1)])) _
    refine XS.iloadN X0.here hx rfl (hb hby d1_1) rfl ?_
    show Steps p.tables e below (s₁.setTop (mkF m 2 #[.val (.int p1), .val (.int p2)] [(.int p2), (.int p1)])) _
    refine XS.icmpYes X0.here hx rfl (pc0 := 2) (pc' := 9) rfl (hb hby d1_2) rfl (tlt hc2).2.2.1 (by decide) (by decide) ?_
    show Steps p.tables e below (s₁.setTop (mkF m 9 #[.val (.int p1), .val (.int p2)] [])) _
    refine XS.iloadN X0.here hx rfl (hb hby d1_9) rfl ?_
    show Steps p.tables e below (s₁.setTop (mkF m 10 #[.val (.int p1), .val (.int p2)] [(.int p2)])) _
    exact retI X0 hx Bd.returns (hb hby d1_10) hr
  · show QE (fun _ => True) h0 n0 _ s₁.heap _
    rw [e0]
    exact ⟨_, rfl, N0, rfl, trivial⟩
theorem d1_5 : decode jdk_29_method_69_code 5 = .ok (.iload_n 0, 1) := by decide +kernel
theorem d1_6 : decode jdk_29_method_69_code 6 = .ok (.goto 4, 3) := by decide +kernel
set_option maxRecDepth 65536 in
set_option maxHeartbeats 40000000 in
theorem rm1f (l : Launch) (Z : State) (a0 : Array Value) (hw : ∀ d ∈ tables_1, d.before a0 Z = true) (ws : List Jvm.Cond) (p1 p2 : Int32) (h0 : Heap) (n0 : Nat) (Z0 : n0 ≤ h0.size)  (hc2 : ¬ (p2 < p1)) :
    MetFree l (⟨"java/lang/Math", "min", "(II)I"⟩ : MethodName) (head1 (Jvm.Cond.code (⟨"java/lang/Math", "min", "(II)I"⟩ : MethodName) jdk_29_method_69_code 2 (some .int) :: ws) ({ frames := 0, cells := 0, slots := 0, locals := 0 } : Room)) (fun a U => a = #[(.int p1), (.int p2)] ∧ Z.Warmed39 U.vm ∧ U.heap = h0) (fun _ _ _ _ _ => True) (fun _ U o U' => ∃ v L, o = .returned v ∧ QE (fun _ => True) h0 n0 v U'.heap L ∧ FrameEnd U o U' L ({ frames := 0, cells := 0, slots := 0, locals := 0 } : Room).cells ({ frames := 0, cells := 0, slots := 0, locals := 0 } : Room).slots) := by
  refine MetFree.of_bodySF (Jvm.Free.JP.mathPlain rfl (by decide +kernel)) hisR ?_
  intro p e s m args below meth cd s₁ Bd hml0 hPre hKc
  obtain ⟨rfl, hZ, hHp⟩ := hPre
  have hx := Bd.exec
  have hby := Bd.bytes
  have hml : cd.maxLocals = 2 := hml0
  have hown : s.vm.findClass "java/lang/Math" = some m.cls := findClass_of_methodNamed Bd.named
  have hnm := (name_of_methodNamed Bd.named Bd.method).1
  have X0 : Stand p l e ({ frames := 0, cells := 0, slots := 0, locals := 0 } : Room) s m #[(.int p1), (.int p2)] below meth cd s₁ [] 0 0 := Stand.of_body Bd
  have e0 : s₁.heap = h0 := by rw [← hHp, Bd.state]; rfl
  have N0 := Fr.nil n0
  have pre0 : ∀ t, Steps p.tables e below (s₁.setTop (mkF m 0 #[.val (.int p1), .val (.int p2)] [])) t → Steps p.tables e below (s₁.setTop (entryFrame m #[(.int p1), (.int p2)] 2)) t := fun t kz => castTop (ef_1 m p1 p2) kz
  obtain ⟨fs, hr, hrun, hended, hW, hsame⟩ := X0.leave (v := some (.int p1)) (fun h => by rw [Bd.returns] at h; cases h)
  refine ⟨_, _, pre0 _ ?_, hrun, hended, _, _, rfl, ?_, ⟨_, rfl⟩, hW, hsame.mono (by decide) (by decide)⟩
  · show Steps p.tables e below (s₁.setTop (mkF m 0 #[.val (.int p1), .val (.int p2)] [])) _
    refine XS.iloadN X0.here hx rfl (hb hby d1_0) rfl ?_
    show Steps p.tables e below (s₁.setTop (mkF m 1 #[.val (.int p1), .val (.int p2)] [(.int p1)])) _
    refine XS.iloadN X0.here hx rfl (hb hby d1_1) rfl ?_
    show Steps p.tables e below (s₁.setTop (mkF m 2 #[.val (.int p1), .val (.int p2)] [(.int p2), (.int p1)])) _
    refine XS.icmpNo X0.here hx rfl (hb hby d1_2) rfl (flt hc2).2.2.1 ?_
    show Steps p.tables e below (s₁.setTop (mkF m 5 #[.val (.int p1), .val (.int p2)] [])) _
    refine XS.iloadN X0.here hx rfl (hb hby d1_5) rfl ?_
    show Steps p.tables e below (s₁.setTop (mkF m 6 #[.val (.int p1), .val (.int p2)] [(.int p1)])) _
    refine XS.goto X0.here hx rfl (pc0 := 6) (pc' := 10) rfl (hb hby d1_6) (by decide) (by decide) ?_
    show Steps p.tables e below (s₁.setTop (mkF m 10 #[.val (.int p1), .val (.int p2)] [(.int p1)])) _
    exact retI X0 hx Bd.returns (hb hby d1_10) hr
  · show QE (fun _ => True) h0 n0 _ s₁.heap _
    rw [e0]
    exact ⟨_, rfl, N0, rfl, trivial⟩
theorem rm1 (l : Launch) (Z : State) (a0 : Array Value) (hw : ∀ d ∈ tables_1, d.before a0 Z = true) (ws : List Jvm.Cond) (p1 p2 : Int32) (h0 : Heap) (n0 : Nat) (Z0 : n0 ≤ h0.size)  :
    MetFree l (⟨"java/lang/Math", "min", "(II)I"⟩ : MethodName) (head1 (Jvm.Cond.code (⟨"java/lang/Math", "min", "(II)I"⟩ : MethodName) jdk_29_method_69_code 2 (some .int) :: ws) ({ frames := 0, cells := 0, slots := 0, locals := 0 } : Room)) (fun a U => a = #[(.int p1), (.int p2)] ∧ Z.Warmed39 U.vm ∧ U.heap = h0) (fun _ _ _ _ _ => True) (fun _ U o U' => ∃ v L, o = .returned v ∧ QE (fun _ => True) h0 n0 v U'.heap L ∧ FrameEnd U o U' L ({ frames := 0, cells := 0, slots := 0, locals := 0 } : Room).cells ({ frames := 0, cells := 0, slots := 0, locals := 0 } : Room).slots) := by
  by_cases h : p2 < p1
  · exact rm1t l Z a0 hw ws p1 p2 h0 n0 Z0 h
  · exact rm1f l Z a0 hw ws p1 p2 h0 n0 Z0 h
theorem d3_0 : decode method_3_code 0 = .ok (.iload_n 0, 1) := by decide +kernel
theorem d3_1 : decode method_3_code 1 = .ok (.iconst 1, 1) := by decide +kernel
theorem d3_2 : decode method_3_code 2 = .ok (.if_icmp .ne 5, 3) := by decide +kernel
theorem d3_5 : decode method_3_code 5 = .ok (.iload_n 2, 1) := by decide +kernel
theorem d3_6 : decode method_3_code 6 = .ok (.ireturn, 1) := by decide +kernel
theorem ef_3 (m : MethodId) (x0 : Int32) (x1 : Int32) (x2 : Int32) (x3 : Int32) (x4 : Int32) : entryFrame m #[(.int x0), (.int x1), (.int x2), (.int x3), (.int x4)] 5 = mkF m 0 #[.val (.int x0), .val (.int x1), .val (.int x2), .val (.int x3), .val (.int x4)] [] := by first | (simp [entryFrame, mkF, argsToLocals, Value.category]; done) | rfl
set_option maxRecDepth 65536 in
set_option maxHeartbeats 40000000 in
theorem rm3a (l : Launch) (Z : State) (a0 : Array Value) (hw : ∀ d ∈ tables_1, d.before a0 Z = true) (ws : List Jvm.Cond) (p1 p2 p3 p4 p5 : Int32) (h0 : Heap) (n0 : Nat) (Z0 : n0 ≤ h0.size)  (hc2 : p1 = (1 : Int32)) :
    MetFree l (⟨"com/example/subsumption/subsumption/IntSetContainsAllPinLaw", "pick", "(IIIII)I"⟩ : MethodName) (head1 (Jvm.Cond.code (⟨"com/example/subsumption/subsumption/IntSetContainsAllPinLaw", "pick", "(IIIII)I"⟩ : MethodName) method_3_code 5 (some .int) :: ws) ({ frames := 0, cells := 0, slots := 0, locals := 0 } : Room)) (fun a U => a = #[(.int p1), (.int p2), (.int p3), (.int p4), (.int p5)] ∧ Z.Warmed39 U.vm ∧ U.heap = h0) (fun _ _ _ _ _ => True) (fun _ U o U' => ∃ v L, o = .returned v ∧ QE (fun r => r = p3 ∨ r = p4 ∨ r = p5 ∨ r = p2) h0 n0 v U'.heap L ∧ FrameEnd U o U' L ({ frames := 0, cells := 0, slots := 0, locals := 0 } : Room).cells ({ frames := 0, cells := 0, slots := 0, locals := 0 } : Room).slots) := by
  refine MetFree.of_bodySF (plainFor_of_name pn_com_example_subsumption_subsumption_IntSetContainsAllPinLaw) hisR ?_
  intro p e s m args below meth cd s₁ Bd hml0 hPre hKc
  obtain ⟨rfl, hZ, hHp⟩ := hPre
  have hx := Bd.exec
  have hby := Bd.bytes
  have hml : cd.maxLocals = 5 := hml0
  have hown : s.vm.findClass "com/example/subsumption/subsumption/IntSetContainsAllPinLaw" = some m.cls := findClass_of_methodNamed Bd.named
  have hnm := (name_of_methodNamed Bd.named Bd.method).1
  have X0 : Stand p l e ({ frames := 0, cells := 0, slots := 0, locals := 0 } : Room) s m #[(.int p1), (.int p2), (.int p3), (.int p4), (.int p5)] below meth cd s₁ [] 0 0 := Stand.of_body Bd
  have e0 : s₁.heap = h0 := by rw [← hHp, Bd.state]; rfl
  have N0 := Fr.nil n0
  have pre0 : ∀ t, Steps p.tables e below (s₁.setTop (mkF m 0 #[.val (.int p1), .val (.int p2), .val (.int p3), .val (.int p4), .val (.int p5)] [])) t → Steps p.tables e below (s₁.setTop (entryFrame m #[(.int p1), (.int p2), (.int p3), (.int p4), (.int p5)] 5)) t := fun t kz => castTop (ef_3 m p1 p2 p3 p4 p5) kz
  obtain ⟨fs, hr, hrun, hended, hW, hsame⟩ := X0.leave (v := some (.int p3)) (fun h => by rw [Bd.returns] at h; cases h)
  refine ⟨_, _, pre0 _ ?_, hrun, hended, _, _, rfl, ?_, ⟨_, rfl⟩, hW, hsame.mono (by decide) (by decide)⟩
  · show Steps p.tables e below (s₁.setTop (mkF m 0 #[.val (.int p1), .val (.int p2), .val (.int p3), .val (.int p4), .val (.int p5)] [])) _
    refine XS.iloadN X0.here hx rfl (hb hby d3_0) rfl ?_
    show Steps p.tables e below (s₁.setTop (mkF m 1 #[.val (.int p1), .val (.int p2), .val (.int p3), .val (.int p4), .val (.int p5)] [(.int p1)])) _
    refine XS.iconst X0.here hx rfl (hb hby d3_1) ?_
    show Steps p.tables e below (s₁.setTop (mkF m 2 #[.val (.int p1), .val (.int p2), .val (.int p3), .val (.int p4), .val (.int p5)] [(.int (1 : Int32)), (.int p1)])) _
    refine XS.icmpNo X0.here hx rfl (hb hby d3_2) rfl (teq hc2).2 ?_
    show Steps p.tables e below (s₁.setTop (mkF m 5 #[.val (.int p1), .val (.int p2), .val (.int p3), .val (.int p4), .val (.int p5)] [])) _
    refine XS.iloadN X0.here hx rfl (hb hby d3_5) rfl ?_
    show Steps p.tables e below (s₁.setTop (mkF m 6 #[.val (.int p1), .val (.int p2), .val (.int p3), .val (.int p4), .val (.int p5)] [(.int p3)])) _
    exact retI X0 hx Bd.returns (hb hby d3_6) hr
  · show QE (fun r => r = p3 ∨ r = p4 ∨ r = p5 ∨ r = p2) h0 n0 _ s₁.heap _
    rw [e0]
    exact ⟨_, rfl, N0, rfl, Or.inl rfl⟩
theorem d3_7 : decode method_3_code 7 = .ok (.iload_n 0, 1) := by decide +kernel
theorem d3_8 : decode method_3_code 8 = .ok (.iconst 2, 1) := by decide +kernel
theorem d3_9 : decode method_3_code 9 = .ok (.if_icmp .ne 5, 3) := by decide +kernel
theorem d3_12 : decode method_3_code 12 = .ok (.iload_n 3, 1) := by decide +kernel
theorem d3_13 : decode method_3_code 13 = .ok (.ireturn, 1) := by decide +kernel
set_option maxRecDepth 65536 in
set_option maxHeartbeats 40000000 in
theorem rm3b (l : Launch) (Z : State) (a0 : Array Value) (hw : ∀ d ∈ tables_1, d.before a0 Z = true) (ws : List Jvm.Cond) (p1 p2 p3 p4 p5 : Int32) (h0 : Heap) (n0 : Nat) (Z0 : n0 ≤ h0.size)  (hc2 : ¬ (p1 = (1 : Int32))) (hc9 : p1 = (2 : Int32)) :
    MetFree l (⟨"com/example/subsumption/subsumption/IntSetContainsAllPinLaw", "pick", "(IIIII)I"⟩ : MethodName) (head1 (Jvm.Cond.code (⟨"com/example/subsumption/subsumption/IntSetContainsAllPinLaw", "pick", "(IIIII)I"⟩ : MethodName) method_3_code 5 (some .int) :: ws) ({ frames := 0, cells := 0, slots := 0, locals := 0 } : Room)) (fun a U => a = #[(.int p1), (.int p2), (.int p3), (.int p4), (.int p5)] ∧ Z.Warmed39 U.vm ∧ U.heap = h0) (fun _ _ _ _ _ => True) (fun _ U o U' => ∃ v L, o = .returned v ∧ QE (fun r => r = p3 ∨ r = p4 ∨ r = p5 ∨ r = p2) h0 n0 v U'.heap L ∧ FrameEnd U o U' L ({ frames := 0, cells := 0, slots := 0, locals := 0 } : Room).cells ({ frames := 0, cells := 0, slots := 0, locals := 0 } : Room).slots) := by
  refine MetFree.of_bodySF (plainFor_of_name pn_com_example_subsumption_subsumption_IntSetContainsAllPinLaw) hisR ?_
  intro p e s m args below meth cd s₁ Bd hml0 hPre hKc
  obtain ⟨rfl, hZ, hHp⟩ := hPre
  have hx := Bd.exec
  have hby := Bd.bytes
  have hml : cd.maxLocals = 5 := hml0
  have hown : s.vm.findClass "com/example/subsumption/subsumption/IntSetContainsAllPinLaw" = some m.cls := findClass_of_methodNamed Bd.named
  have hnm := (name_of_methodNamed Bd.named Bd.method).1
  have X0 : Stand p l e ({ frames := 0, cells := 0, slots := 0, locals := 0 } : Room) s m #[(.int p1), (.int p2), (.int p3), (.int p4), (.int p5)] below meth cd s₁ [] 0 0 := Stand.of_body Bd
  have e0 : s₁.heap = h0 := by rw [← hHp, Bd.state]; rfl
  have N0 := Fr.nil n0
  have pre0 : ∀ t, Steps p.tables e below (s₁.setTop (mkF m 0 #[.val (.int p1), .val (.int p2), .val (.int p3), .val (.int p4), .val (.int p5)] [])) t → Steps p.tables e below (s₁.setTop (entryFrame m #[(.int p1), (.int p2), (.int p3), (.int p4), (.int p5)] 5)) t := fun t kz => castTop (ef_3 m p1 p2 p3 p4 p5) kz
  obtain ⟨fs, hr, hrun, hended, hW, hsame⟩ := X0.leave (v := some (.int p4)) (fun h => by rw [Bd.returns] at h; cases h)
  refine ⟨_, _, pre0 _ ?_, hrun, hended, _, _, rfl, ?_, ⟨_, rfl⟩, hW, hsame.mono (by decide) (by decide)⟩
  · show Steps p.tables e below (s₁.setTop (mkF m 0 #[.val (.int p1), .val (.int p2), .val (.int p3), .val (.int p4), .val (.int p5)] [])) _
    refine XS.iloadN X0.here hx rfl (hb hby d3_0) rfl ?_
    show Steps p.tables e below (s₁.setTop (mkF m 1 #[.val (.int p1), .val (.int p2), .val (.int p3), .val (.int p4), .val (.int p5)] [(.int p1)])) _
    refine XS.iconst X0.here hx rfl (hb hby d3_1) ?_
    show Steps p.tables e below (s₁.setTop (mkF m 2 #[.val (.int p1), .val (.int p2), .val (.int p3), .val (.int p4), .val (.int p5)] [(.int (1 : Int32)), (.int p1)])) _
    refine XS.icmpYes X0.here hx rfl (pc0 := 2) (pc' := 7) rfl (hb hby d3_2) rfl (feq hc2).2 (by decide) (by decide) ?_
    show Steps p.tables e below (s₁.setTop (mkF m 7 #[.val (.int p1), .val (.int p2), .val (.int p3), .val (.int p4), .val (.int p5)] [])) _
    refine XS.iloadN X0.here hx rfl (hb hby d3_7) rfl ?_
    show Steps p.tables e below (s₁.setTop (mkF m 8 #[.val (.int p1), .val (.int p2), .val (.int p3), .val (.int p4), .val (.int p5)] [(.int p1)])) _
    refine XS.iconst X0.here hx rfl (hb hby d3_8) ?_
    show Steps p.tables e below (s₁.setTop (mkF m 9 #[.val (.int p1), .val (.int p2), .val (.int p3), .val (.int p4), .val (.int p5)] [(.int (2 : Int32)), (.int p1)])) _
    refine XS.icmpNo X0.here hx rfl (hb hby d3_9) rfl (teq hc9).2 ?_
    show Steps p.tables e below (s₁.setTop (mkF m 12 #[.val (.int p1), .val (.int p2), .val (.int p3), .val (.int p4), .val (.int p5)] [])) _
    refine XS.iloadN X0.here hx rfl (hb hby d3_12) rfl ?_
    show Steps p.tables e below (s₁.setTop (mkF m 13 #[.val (.int p1), .val (.int p2), .val (.int p3), .val (.int p4), .val (.int p5)] [(.int p4)])) _
    exact retI X0 hx Bd.returns (hb hby d3_13) hr
  · show QE (fun r => r = p3 ∨ r = p4 ∨ r = p5 ∨ r = p2) h0 n0 _ s₁.heap _
    rw [e0]
    exact ⟨_, rfl, N0, rfl, Or.inr (Or.inl rfl)⟩
theorem d3_14 : decode method_3_code 14 = .ok (.iload_n 0, 1) := by decide +kernel
theorem d3_15 : decode method_3_code 15 = .ok (.iconst 3, 1) := by decide +kernel
theorem d3_16 : decode method_3_code 16 = .ok (.if_icmp .ne 6, 3) := by decide +kernel
theorem d3_19 : decode method_3_code 19 = .ok (.iload 4, 2) := by decide +kernel
theorem d3_21 : decode method_3_code 21 = .ok (.ireturn, 1) := by decide +kernel
set_option maxRecDepth 65536 in
set_option maxHeartbeats 40000000 in
theorem rm3c (l : Launch) (Z : State) (a0 : Array Value) (hw : ∀ d ∈ tables_1, d.before a0 Z = true) (ws : List Jvm.Cond) (p1 p2 p3 p4 p5 : Int32) (h0 : Heap) (n0 : Nat) (Z0 : n0 ≤ h0.size)  (hc2 : ¬ (p1 = (1 : Int32))) (hc9 : ¬ (p1 = (2 : Int32))) (hc16 : p1 = (3 : Int32)) :
    MetFree l (⟨"com/example/subsumption/subsumption/IntSetContainsAllPinLaw", "pick", "(IIIII)I"⟩ : MethodName) (head1 (Jvm.Cond.code (⟨"com/example/subsumption/subsumption/IntSetContainsAllPinLaw", "pick", "(IIIII)I"⟩ : MethodName) method_3_code 5 (some .int) :: ws) ({ frames := 0, cells := 0, slots := 0, locals := 0 } : Room)) (fun a U => a = #[(.int p1), (.int p2), (.int p3), (.int p4), (.int p5)] ∧ Z.Warmed39 U.vm ∧ U.heap = h0) (fun _ _ _ _ _ => True) (fun _ U o U' => ∃ v L, o = .returned v ∧ QE (fun r => r = p3 ∨ r = p4 ∨ r = p5 ∨ r = p2) h0 n0 v U'.heap L ∧ FrameEnd U o U' L ({ frames := 0, cells := 0, slots := 0, locals := 0 } : Room).cells ({ frames := 0, cells := 0, slots := 0, locals := 0 } : Room).slots) := by
  refine MetFree.of_bodySF (plainFor_of_name pn_com_example_subsumption_subsumption_IntSetContainsAllPinLaw) hisR ?_
  intro p e s m args below meth cd s₁ Bd hml0 hPre hKc
  obtain ⟨rfl, hZ, hHp⟩ := hPre
  have hx := Bd.exec
  have hby := Bd.bytes
  have hml : cd.maxLocals = 5 := hml0
  have hown : s.vm.findClass "com/example/subsumption/subsumption/IntSetContainsAllPinLaw" = some m.cls := findClass_of_methodNamed Bd.named
  have hnm := (name_of_methodNamed Bd.named Bd.method).1
  have X0 : Stand p l e ({ frames := 0, cells := 0, slots := 0, locals := 0 } : Room) s m #[(.int p1), (.int p2), (.int p3), (.int p4), (.int p5)] below meth cd s₁ [] 0 0 := Stand.of_body Bd
  have e0 : s₁.heap = h0 := by rw [← hHp, Bd.state]; rfl
  have N0 := Fr.nil n0
  have pre0 : ∀ t, Steps p.tables e below (s₁.setTop (mkF m 0 #[.val (.int p1), .val (.int p2), .val (.int p3), .val (.int p4), .val (.int p5)] [])) t → Steps p.tables e below (s₁.setTop (entryFrame m #[(.int p1), (.int p2), (.int p3), (.int p4), (.int p5)] 5)) t := fun t kz => castTop (ef_3 m p1 p2 p3 p4 p5) kz
  obtain ⟨fs, hr, hrun, hended, hW, hsame⟩ := X0.leave (v := some (.int p5)) (fun h => by rw [Bd.returns] at h; cases h)
  refine ⟨_, _, pre0 _ ?_, hrun, hended, _, _, rfl, ?_, ⟨_, rfl⟩, hW, hsame.mono (by decide) (by decide)⟩
  · show Steps p.tables e below (s₁.setTop (mkF m 0 #[.val (.int p1), .val (.int p2), .val (.int p3), .val (.int p4), .val (.int p5)] [])) _
    refine XS.iloadN X0.here hx rfl (hb hby d3_0) rfl ?_
    show Steps p.tables e below (s₁.setTop (mkF m 1 #[.val (.int p1), .val (.int p2), .val (.int p3), .val (.int p4), .val (.int p5)] [(.int p1)])) _
    refine XS.iconst X0.here hx rfl (hb hby d3_1) ?_
    show Steps p.tables e below (s₁.setTop (mkF m 2 #[.val (.int p1), .val (.int p2), .val (.int p3), .val (.int p4), .val (.int p5)] [(.int (1 : Int32)), (.int p1)])) _
    refine XS.icmpYes X0.here hx rfl (pc0 := 2) (pc' := 7) rfl (hb hby d3_2) rfl (feq hc2).2 (by decide) (by decide) ?_
    show Steps p.tables e below (s₁.setTop (mkF m 7 #[.val (.int p1), .val (.int p2), .val (.int p3), .val (.int p4), .val (.int p5)] [])) _
    refine XS.iloadN X0.here hx rfl (hb hby d3_7) rfl ?_
    show Steps p.tables e below (s₁.setTop (mkF m 8 #[.val (.int p1), .val (.int p2), .val (.int p3), .val (.int p4), .val (.int p5)] [(.int p1)])) _
    refine XS.iconst X0.here hx rfl (hb hby d3_8) ?_
    show Steps p.tables e below (s₁.setTop (mkF m 9 #[.val (.int p1), .val (.int p2), .val (.int p3), .val (.int p4), .val (.int p5)] [(.int (2 : Int32)), (.int p1)])) _
    refine XS.icmpYes X0.here hx rfl (pc0 := 9) (pc' := 14) rfl (hb hby d3_9) rfl (feq hc9).2 (by decide) (by decide) ?_
    show Steps p.tables e below (s₁.setTop (mkF m 14 #[.val (.int p1), .val (.int p2), .val (.int p3), .val (.int p4), .val (.int p5)] [])) _
    refine XS.iloadN X0.here hx rfl (hb hby d3_14) rfl ?_
    show Steps p.tables e below (s₁.setTop (mkF m 15 #[.val (.int p1), .val (.int p2), .val (.int p3), .val (.int p4), .val (.int p5)] [(.int p1)])) _
    refine XS.iconst X0.here hx rfl (hb hby d3_15) ?_
    show Steps p.tables e below (s₁.setTop (mkF m 16 #[.val (.int p1), .val (.int p2), .val (.int p3), .val (.int p4), .val (.int p5)] [(.int (3 : Int32)), (.int p1)])) _
    refine XS.icmpNo X0.here hx rfl (hb hby d3_16) rfl (teq hc16).2 ?_
    show Steps p.tables e below (s₁.setTop (mkF m 19 #[.val (.int p1), .val (.int p2), .val (.int p3), .val (.int p4), .val (.int p5)] [])) _
    refine XS.iload X0.here hx rfl (hb hby d3_19) rfl ?_
    show Steps p.tables e below (s₁.setTop (mkF m 21 #[.val (.int p1), .val (.int p2), .val (.int p3), .val (.int p4), .val (.int p5)] [(.int p5)])) _
    exact retI X0 hx Bd.returns (hb hby d3_21) hr
  · show QE (fun r => r = p3 ∨ r = p4 ∨ r = p5 ∨ r = p2) h0 n0 _ s₁.heap _
    rw [e0]
    exact ⟨_, rfl, N0, rfl, Or.inr (Or.inr (Or.inl rfl))⟩
theorem d3_22 : decode method_3_code 22 = .ok (.iload_n 1, 1) := by decide +kernel
theorem d3_23 : decode method_3_code 23 = .ok (.ireturn, 1) := by decide +kernel
set_option maxRecDepth 65536 in
set_option maxHeartbeats 40000000 in
theorem rm3d (l : Launch) (Z : State) (a0 : Array Value) (hw : ∀ d ∈ tables_1, d.before a0 Z = true) (ws : List Jvm.Cond) (p1 p2 p3 p4 p5 : Int32) (h0 : Heap) (n0 : Nat) (Z0 : n0 ≤ h0.size)  (hc2 : ¬ (p1 = (1 : Int32))) (hc9 : ¬ (p1 = (2 : Int32))) (hc16 : ¬ (p1 = (3 : Int32))) :
    MetFree l (⟨"com/example/subsumption/subsumption/IntSetContainsAllPinLaw", "pick", "(IIIII)I"⟩ : MethodName) (head1 (Jvm.Cond.code (⟨"com/example/subsumption/subsumption/IntSetContainsAllPinLaw", "pick", "(IIIII)I"⟩ : MethodName) method_3_code 5 (some .int) :: ws) ({ frames := 0, cells := 0, slots := 0, locals := 0 } : Room)) (fun a U => a = #[(.int p1), (.int p2), (.int p3), (.int p4), (.int p5)] ∧ Z.Warmed39 U.vm ∧ U.heap = h0) (fun _ _ _ _ _ => True) (fun _ U o U' => ∃ v L, o = .returned v ∧ QE (fun r => r = p3 ∨ r = p4 ∨ r = p5 ∨ r = p2) h0 n0 v U'.heap L ∧ FrameEnd U o U' L ({ frames := 0, cells := 0, slots := 0, locals := 0 } : Room).cells ({ frames := 0, cells := 0, slots := 0, locals := 0 } : Room).slots) := by
  refine MetFree.of_bodySF (plainFor_of_name pn_com_example_subsumption_subsumption_IntSetContainsAllPinLaw) hisR ?_
  intro p e s m args below meth cd s₁ Bd hml0 hPre hKc
  obtain ⟨rfl, hZ, hHp⟩ := hPre
  have hx := Bd.exec
  have hby := Bd.bytes
  have hml : cd.maxLocals = 5 := hml0
  have hown : s.vm.findClass "com/example/subsumption/subsumption/IntSetContainsAllPinLaw" = some m.cls := findClass_of_methodNamed Bd.named
  have hnm := (name_of_methodNamed Bd.named Bd.method).1
  have X0 : Stand p l e ({ frames := 0, cells := 0, slots := 0, locals := 0 } : Room) s m #[(.int p1), (.int p2), (.int p3), (.int p4), (.int p5)] below meth cd s₁ [] 0 0 := Stand.of_body Bd
  have e0 : s₁.heap = h0 := by rw [← hHp, Bd.state]; rfl
  have N0 := Fr.nil n0
  have pre0 : ∀ t, Steps p.tables e below (s₁.setTop (mkF m 0 #[.val (.int p1), .val (.int p2), .val (.int p3), .val (.int p4), .val (.int p5)] [])) t → Steps p.tables e below (s₁.setTop (entryFrame m #[(.int p1), (.int p2), (.int p3), (.int p4), (.int p5)] 5)) t := fun t kz => castTop (ef_3 m p1 p2 p3 p4 p5) kz
  obtain ⟨fs, hr, hrun, hended, hW, hsame⟩ := X0.leave (v := some (.int p2)) (fun h => by rw [Bd.returns] at h; cases h)
  refine ⟨_, _, pre0 _ ?_, hrun, hended, _, _, rfl, ?_, ⟨_, rfl⟩, hW, hsame.mono (by decide) (by decide)⟩
  · show Steps p.tables e below (s₁.setTop (mkF m 0 #[.val (.int p1), .val (.int p2), .val (.int p3), .val (.int p4), .val (.int p5)] [])) _
    refine XS.iloadN X0.here hx rfl (hb hby d3_0) rfl ?_
    show Steps p.tables e below (s₁.setTop (mkF m 1 #[.val (.int p1), .val (.int p2), .val (.int p3), .val (.int p4), .val (.int p5)] [(.int p1)])) _
    refine XS.iconst X0.here hx rfl (hb hby d3_1) ?_
    show Steps p.tables e below (s₁.setTop (mkF m 2 #[.val (.int p1), .val (.int p2), .val (.int p3), .val (.int p4), .val (.int p5)] [(.int (1 : Int32)), (.int p1)])) _
    refine XS.icmpYes X0.here hx rfl (pc0 := 2) (pc' := 7) rfl (hb hby d3_2) rfl (feq hc2).2 (by decide) (by decide) ?_
    show Steps p.tables e below (s₁.setTop (mkF m 7 #[.val (.int p1), .val (.int p2), .val (.int p3), .val (.int p4), .val (.int p5)] [])) _
    refine XS.iloadN X0.here hx rfl (hb hby d3_7) rfl ?_
    show Steps p.tables e below (s₁.setTop (mkF m 8 #[.val (.int p1), .val (.int p2), .val (.int p3), .val (.int p4), .val (.int p5)] [(.int p1)])) _
    refine XS.iconst X0.here hx rfl (hb hby d3_8) ?_
    show Steps p.tables e below (s₁.setTop (mkF m 9 #[.val (.int p1), .val (.int p2), .val (.int p3), .val (.int p4), .val (.int p5)] [(.int (2 : Int32)), (.int p1)])) _
    refine XS.icmpYes X0.here hx rfl (pc0 := 9) (pc' := 14) rfl (hb hby d3_9) rfl (feq hc9).2 (by decide) (by decide) ?_
    show Steps p.tables e below (s₁.setTop (mkF m 14 #[.val (.int p1), .val (.int p2), .val (.int p3), .val (.int p4), .val (.int p5)] [])) _
    refine XS.iloadN X0.here hx rfl (hb hby d3_14) rfl ?_
    show Steps p.tables e below (s₁.setTop (mkF m 15 #[.val (.int p1), .val (.int p2), .val (.int p3), .val (.int p4), .val (.int p5)] [(.int p1)])) _
    refine XS.iconst X0.here hx rfl (hb hby d3_15) ?_
    show Steps p.tables e below (s₁.setTop (mkF m 16 #[.val (.int p1), .val (.int p2), .val (.int p3), .val (.int p4), .val (.int p5)] [(.int (3 : Int32)), (.int p1)])) _
    refine XS.icmpYes X0.here hx rfl (pc0 := 16) (pc' := 22) rfl (hb hby d3_16) rfl (feq hc16).2 (by decide) (by decide) ?_
    show Steps p.tables e below (s₁.setTop (mkF m 22 #[.val (.int p1), .val (.int p2), .val (.int p3), .val (.int p4), .val (.int p5)] [])) _
    refine XS.iloadN X0.here hx rfl (hb hby d3_22) rfl ?_
    show Steps p.tables e below (s₁.setTop (mkF m 23 #[.val (.int p1), .val (.int p2), .val (.int p3), .val (.int p4), .val (.int p5)] [(.int p2)])) _
    exact retI X0 hx Bd.returns (hb hby d3_23) hr
  · show QE (fun r => r = p3 ∨ r = p4 ∨ r = p5 ∨ r = p2) h0 n0 _ s₁.heap _
    rw [e0]
    exact ⟨_, rfl, N0, rfl, Or.inr (Or.inr (Or.inr rfl))⟩
theorem rm3 (l : Launch) (Z : State) (a0 : Array Value) (hw : ∀ d ∈ tables_1, d.before a0 Z = true) (ws : List Jvm.Cond) (p1 p2 p3 p4 p5 : Int32) (h0 : Heap) (n0 : Nat) (Z0 : n0 ≤ h0.size)  :
    MetFree l (⟨"com/example/subsumption/subsumption/IntSetContainsAllPinLaw", "pick", "(IIIII)I"⟩ : MethodName) (head1 (Jvm.Cond.code (⟨"com/example/subsumption/subsumption/IntSetContainsAllPinLaw", "pick", "(IIIII)I"⟩ : MethodName) method_3_code 5 (some .int) :: ws) ({ frames := 0, cells := 0, slots := 0, locals := 0 } : Room)) (fun a U => a = #[(.int p1), (.int p2), (.int p3), (.int p4), (.int p5)] ∧ Z.Warmed39 U.vm ∧ U.heap = h0) (fun _ _ _ _ _ => True) (fun _ U o U' => ∃ v L, o = .returned v ∧ QE (fun r => r = p3 ∨ r = p4 ∨ r = p5 ∨ r = p2) h0 n0 v U'.heap L ∧ FrameEnd U o U' L ({ frames := 0, cells := 0, slots := 0, locals := 0 } : Room).cells ({ frames := 0, cells := 0, slots := 0, locals := 0 } : Room).slots) := by
  by_cases c1 : p1 = 1
  · exact rm3a l Z a0 hw ws p1 p2 p3 p4 p5 h0 n0 Z0 c1
  by_cases c2 : p1 = 2
  · exact rm3b l Z a0 hw ws p1 p2 p3 p4 p5 h0 n0 Z0 c1 c2
  by_cases c3 : p1 = 3
  · exact rm3c l Z a0 hw ws p1 p2 p3 p4 p5 h0 n0 Z0 c1 c2 c3
  · exact rm3d l Z a0 hw ws p1 p2 p3 p4 p5 h0 n0 Z0 c1 c2 c3
theorem d10_0 : decode method_4_code 0 = .ok (.iload_n 1, 1) := by decide +kernel
theorem d10_1 : decode method_4_code 1 = .ok (.ifCond .le 8, 3) := by decide +kernel
theorem d10_4 : decode method_4_code 4 = .ok (.iload_n 0, 1) := by decide +kernel
theorem d10_5 : decode method_4_code 5 = .ok (.iload_n 2, 1) := by decide +kernel
theorem d10_6 : decode method_4_code 6 = .ok (.if_icmp .eq 24, 3) := by decide +kernel
set_option maxRecDepth 65536 in
set_option maxHeartbeats 40000000 in
theorem in30a {p : Program} {l : Launch} {e : Env} {R : Room} {s : State} {m : MethodId} {args : Array Value} {below : List Frame} {meth : Method} {c : Code} {T0 : State} {locs : List Loc} {cells slots : Nat} {Z : State} {a0 : Array Value} {h0 : Heap} (p1 p2 p3 p4 p5 : Int32) (X0 : Stand p l e R s m args below meth c T0 locs cells slots) (hx : p.tables.exec = Jvm.exec) (hZ : Z.Warmed39 s.vm) (hw : ∀ d ∈ tables_1, d.before a0 Z = true) (hby : c.code = method_4_code) (hown : s.vm.findClass "com/example/subsumption/subsumption/IntSetContainsAllPinLaw" = some m.cls) (e0 : T0.heap = h0)  (hc1 : (0 : Int32) < p2) (hc6 : p1 = p3) {target : State} (kt : Steps p.tables e below (T0.setTop (mkF m 30 #[.val (.int p1), .val (.int p2), .val (.int p3), .val (.int p4), .val (.int p5)] [])) target) : Steps p.tables e below (T0.setTop (mkF m 0 #[.val (.int p1), .val (.int p2), .val (.int p3), .val (.int p4), .val (.int p5)] [])) target := by
  show Steps p.tables e below (T0.setTop (mkF m 0 #[.val (.int p1), .val (.int p2), .val (.int p3), .val (.int p4), .val (.int p5)] [])) _
  refine XS.iloadN X0.here hx rfl (hb hby d10_0) rfl ?_
  show Steps p.tables e below (T0.setTop (mkF m 1 #[.val (.int p1), .val (.int p2), .val (.int p3), .val (.int p4), .val (.int p5)] [(.int p2)])) _
  refine XS.ifNo X0.here hx rfl (hb hby d10_1) rfl ((if0 _ _).trans (tlt hc1).2.2.2) ?_
  show Steps p.tables e below (T0.setTop (mkF m 4 #[.val (.int p1), .val (.int p2), .val (.int p3), .val (.int p4), .val (.int p5)] [])) _
  refine XS.iloadN X0.here hx rfl (hb hby d10_4) rfl ?_
  show Steps p.tables e below (T0.setTop (mkF m 5 #[.val (.int p1), .val (.int p2), .val (.int p3), .val (.int p4), .val (.int p5)] [(.int p1)])) _
  refine XS.iloadN X0.here hx rfl (hb hby d10_5) rfl ?_
  show Steps p.tables e below (T0.setTop (mkF m 6 #[.val (.int p1), .val (.int p2), .val (.int p3), .val (.int p4), .val (.int p5)] [(.int p3), (.int p1)])) _
  refine XS.icmpYes X0.here hx rfl (pc0 := 6) (pc' := 30) rfl (hb hby d10_6) rfl (teq hc6).1 (by decide) (by decide) ?_
  exact kt
set_option maxRecDepth 65536 in
set_option maxHeartbeats 40000000 in
theorem in9a {p : Program} {l : Launch} {e : Env} {R : Room} {s : State} {m : MethodId} {args : Array Value} {below : List Frame} {meth : Method} {c : Code} {T0 : State} {locs : List Loc} {cells slots : Nat} {Z : State} {a0 : Array Value} {h0 : Heap} (p1 p2 p3 p4 p5 : Int32) (X0 : Stand p l e R s m args below meth c T0 locs cells slots) (hx : p.tables.exec = Jvm.exec) (hZ : Z.Warmed39 s.vm) (hw : ∀ d ∈ tables_1, d.before a0 Z = true) (hby : c.code = method_4_code) (hown : s.vm.findClass "com/example/subsumption/subsumption/IntSetContainsAllPinLaw" = some m.cls) (e0 : T0.heap = h0)  (hc1 : ¬ ((0 : Int32) < p2)) {target : State} (kt : Steps p.tables e below (T0.setTop (mkF m 9 #[.val (.int p1), .val (.int p2), .val (.int p3), .val (.int p4), .val (.int p5)] [])) target) : Steps p.tables e below (T0.setTop (mkF m 0 #[.val (.int p1), .val (.int p2), .val (.int p3), .val (.int p4), .val (.int p5)] [])) target := by
  show Steps p.tables e below (T0.setTop (mkF m 0 #[.val (.int p1), .val (.int p2), .val (.int p3), .val (.int p4), .val (.int p5)] [])) _
  refine XS.iloadN X0.here hx rfl (hb hby d10_0) rfl ?_
  show Steps p.tables e below (T0.setTop (mkF m 1 #[.val (.int p1), .val (.int p2), .val (.int p3), .val (.int p4), .val (.int p5)] [(.int p2)])) _
  refine XS.ifYes X0.here hx rfl (pc0 := 1) (pc' := 9) rfl (hb hby d10_1) rfl ((if0 _ _).trans (flt hc1).2.2.2) (by decide) (by decide) ?_
  exact kt
set_option maxRecDepth 65536 in
set_option maxHeartbeats 40000000 in
theorem in9b {p : Program} {l : Launch} {e : Env} {R : Room} {s : State} {m : MethodId} {args : Array Value} {below : List Frame} {meth : Method} {c : Code} {T0 : State} {locs : List Loc} {cells slots : Nat} {Z : State} {a0 : Array Value} {h0 : Heap} (p1 p2 p3 p4 p5 : Int32) (X0 : Stand p l e R s m args below meth c T0 locs cells slots) (hx : p.tables.exec = Jvm.exec) (hZ : Z.Warmed39 s.vm) (hw : ∀ d ∈ tables_1, d.before a0 Z = true) (hby : c.code = method_4_code) (hown : s.vm.findClass "com/example/subsumption/subsumption/IntSetContainsAllPinLaw" = some m.cls) (e0 : T0.heap = h0)  (hc1 : (0 : Int32) < p2) (hc6 : ¬ (p1 = p3)) {target : State} (kt : Steps p.tables e below (T0.setTop (mkF m 9 #[.val (.int p1), .val (.int p2), .val (.int p3), .val (.int p4), .val (.int p5)] [])) target) : Steps p.tables e below (T0.setTop (mkF m 0 #[.val (.int p1), .val (.int p2), .val (.int p3), .val (.int p4), .val (.int p5)] [])) target := by
  show Steps p.tables e below (T0.setTop (mkF m 0 #[.val (.int p1), .val (.int p2), .val (.int p3), .val (.int p4), .val (.int p5)] [])) _
  refine XS.iloadN X0.here hx rfl (hb hby d10_0) rfl ?_
  show Steps p.tables e below (T0.setTop (mkF m 1 #[.val (.int p1), .val (.int p2), .val (.int p3), .val (.int p4), .val (.int p5)] [(.int p2)])) _
  refine XS.ifNo X0.here hx rfl (hb hby d10_1) rfl ((if0 _ _).trans (tlt hc1).2.2.2) ?_
  show Steps p.tables e below (T0.setTop (mkF m 4 #[.val (.int p1), .val (.int p2), .val (.int p3), .val (.int p4), .val (.int p5)] [])) _
  refine XS.iloadN X0.here hx rfl (hb hby d10_4) rfl ?_
  show Steps p.tables e below (T0.setTop (mkF m 5 #[.val (.int p1), .val (.int p2), .val (.int p3), .val (.int p4), .val (.int p5)] [(.int p1)])) _
  refine XS.iloadN X0.here hx rfl (hb hby d10_5) rfl ?_
  show Steps p.tables e below (T0.setTop (mkF m 6 #[.val (.int p1), .val (.int p2), .val (.int p3), .val (.int p4), .val (.int p5)] [(.int p3), (.int p1)])) _
  refine XS.icmpNo X0.here hx rfl (hb hby d10_6) rfl (feq hc6).1 ?_
  exact kt
theorem d10_9 : decode method_4_code 9 = .ok (.iload_n 1, 1) := by decide +kernel
theorem d10_10 : decode method_4_code 10 = .ok (.iconst 1, 1) := by decide +kernel
theorem d10_11 : decode method_4_code 11 = .ok (.if_icmp .le 8, 3) := by decide +kernel
theorem d10_14 : decode method_4_code 14 = .ok (.iload_n 0, 1) := by decide +kernel
theorem d10_15 : decode method_4_code 15 = .ok (.iload_n 3, 1) := by decide +kernel
theorem d10_16 : decode method_4_code 16 = .ok (.if_icmp .eq 14, 3) := by decide +kernel
set_option maxRecDepth 65536 in
set_option maxHeartbeats 40000000 in
theorem in30b {p : Program} {l : Launch} {e : Env} {R : Room} {s : State} {m : MethodId} {args : Array Value} {below : List Frame} {meth : Method} {c : Code} {T0 : State} {locs : List Loc} {cells slots : Nat} {Z : State} {a0 : Array Value} {h0 : Heap} (p1 p2 p3 p4 p5 : Int32) (X0 : Stand p l e R s m args below meth c T0 locs cells slots) (hx : p.tables.exec = Jvm.exec) (hZ : Z.Warmed39 s.vm) (hw : ∀ d ∈ tables_1, d.before a0 Z = true) (hby : c.code = method_4_code) (hown : s.vm.findClass "com/example/subsumption/subsumption/IntSetContainsAllPinLaw" = some m.cls) (e0 : T0.heap = h0)  (hc11 : (1 : Int32) < p2) (hc16 : p1 = p4) {target : State} (kt : Steps p.tables e below (T0.setTop (mkF m 30 #[.val (.int p1), .val (.int p2), .val (.int p3), .val (.int p4), .val (.int p5)] [])) target) : Steps p.tables e below (T0.setTop (mkF m 9 #[.val (.int p1), .val (.int p2), .val (.int p3), .val (.int p4), .val (.int p5)] [])) target := by
  show Steps p.tables e below (T0.setTop (mkF m 9 #[.val (.int p1), .val (.int p2), .val (.int p3), .val (.int p4), .val (.int p5)] [])) _
  refine XS.iloadN X0.here hx rfl (hb hby d10_9) rfl ?_
  show Steps p.tables e below (T0.setTop (mkF m 10 #[.val (.int p1), .val (.int p2), .val (.int p3), .val (.int p4), .val (.int p5)] [(.int p2)])) _
  refine XS.iconst X0.here hx rfl (hb hby d10_10) ?_
  show Steps p.tables e below (T0.setTop (mkF m 11 #[.val (.int p1), .val (.int p2), .val (.int p3), .val (.int p4), .val (.int p5)] [(.int (1 : Int32)), (.int p2)])) _
  refine XS.icmpNo X0.here hx rfl (hb hby d10_11) rfl (tlt hc11).2.2.2 ?_
  show Steps p.tables e below (T0.setTop (mkF m 14 #[.val (.int p1), .val (.int p2), .val (.int p3), .val (.int p4), .val (.int p5)] [])) _
  refine XS.iloadN X0.here hx rfl (hb hby d10_14) rfl ?_
  show Steps p.tables e below (T0.setTop (mkF m 15 #[.val (.int p1), .val (.int p2), .val (.int p3), .val (.int p4), .val (.int p5)] [(.int p1)])) _
  refine XS.iloadN X0.here hx rfl (hb hby d10_15) rfl ?_
  show Steps p.tables e below (T0.setTop (mkF m 16 #[.val (.int p1), .val (.int p2), .val (.int p3), .val (.int p4), .val (.int p5)] [(.int p4), (.int p1)])) _
  refine XS.icmpYes X0.here hx rfl (pc0 := 16) (pc' := 30) rfl (hb hby d10_16) rfl (teq hc16).1 (by decide) (by decide) ?_
  exact kt
set_option maxRecDepth 65536 in
set_option maxHeartbeats 40000000 in
theorem in19a {p : Program} {l : Launch} {e : Env} {R : Room} {s : State} {m : MethodId} {args : Array Value} {below : List Frame} {meth : Method} {c : Code} {T0 : State} {locs : List Loc} {cells slots : Nat} {Z : State} {a0 : Array Value} {h0 : Heap} (p1 p2 p3 p4 p5 : Int32) (X0 : Stand p l e R s m args below meth c T0 locs cells slots) (hx : p.tables.exec = Jvm.exec) (hZ : Z.Warmed39 s.vm) (hw : ∀ d ∈ tables_1, d.before a0 Z = true) (hby : c.code = method_4_code) (hown : s.vm.findClass "com/example/subsumption/subsumption/IntSetContainsAllPinLaw" = some m.cls) (e0 : T0.heap = h0)  (hc11 : ¬ ((1 : Int32) < p2)) {target : State} (kt : Steps p.tables e below (T0.setTop (mkF m 19 #[.val (.int p1), .val (.int p2), .val (.int p3), .val (.int p4), .val (.int p5)] [])) target) : Steps p.tables e below (T0.setTop (mkF m 9 #[.val (.int p1), .val (.int p2), .val (.int p3), .val (.int p4), .val (.int p5)] [])) target := by
  show Steps p.tables e below (T0.setTop (mkF m 9 #[.val (.int p1), .val (.int p2), .val (.int p3), .val (.int p4), .val (.int p5)] [])) _
  refine XS.iloadN X0.here hx rfl (hb hby d10_9) rfl ?_
  show Steps p.tables e below (T0.setTop (mkF m 10 #[.val (.int p1), .val (.int p2), .val (.int p3), .val (.int p4), .val (.int p5)] [(.int p2)])) _
  refine XS.iconst X0.here hx rfl (hb hby d10_10) ?_
  show Steps p.tables e below (T0.setTop (mkF m 11 #[.val (.int p1), .val (.int p2), .val (.int p3), .val (.int p4), .val (.int p5)] [(.int (1 : Int32)), (.int p2)])) _
  refine XS.icmpYes X0.here hx rfl (pc0 := 11) (pc' := 19) rfl (hb hby d10_11) rfl (flt hc11).2.2.2 (by decide) (by decide) ?_
  exact kt
set_option maxRecDepth 65536 in
set_option maxHeartbeats 40000000 in
theorem in19b {p : Program} {l : Launch} {e : Env} {R : Room} {s : State} {m : MethodId} {args : Array Value} {below : List Frame} {meth : Method} {c : Code} {T0 : State} {locs : List Loc} {cells slots : Nat} {Z : State} {a0 : Array Value} {h0 : Heap} (p1 p2 p3 p4 p5 : Int32) (X0 : Stand p l e R s m args below meth c T0 locs cells slots) (hx : p.tables.exec = Jvm.exec) (hZ : Z.Warmed39 s.vm) (hw : ∀ d ∈ tables_1, d.before a0 Z = true) (hby : c.code = method_4_code) (hown : s.vm.findClass "com/example/subsumption/subsumption/IntSetContainsAllPinLaw" = some m.cls) (e0 : T0.heap = h0)  (hc11 : (1 : Int32) < p2) (hc16 : ¬ (p1 = p4)) {target : State} (kt : Steps p.tables e below (T0.setTop (mkF m 19 #[.val (.int p1), .val (.int p2), .val (.int p3), .val (.int p4), .val (.int p5)] [])) target) : Steps p.tables e below (T0.setTop (mkF m 9 #[.val (.int p1), .val (.int p2), .val (.int p3), .val (.int p4), .val (.int p5)] [])) target := by
  show Steps p.tables e below (T0.setTop (mkF m 9 #[.val (.int p1), .val (.int p2), .val (.int p3), .val (.int p4), .val (.int p5)] [])) _
  refine XS.iloadN X0.here hx rfl (hb hby d10_9) rfl ?_
  show Steps p.tables e below (T0.setTop (mkF m 10 #[.val (.int p1), .val (.int p2), .val (.int p3), .val (.int p4), .val (.int p5)] [(.int p2)])) _
  refine XS.iconst X0.here hx rfl (hb hby d10_10) ?_
  show Steps p.tables e below (T0.setTop (mkF m 11 #[.val (.int p1), .val (.int p2), .val (.int p3), .val (.int p4), .val (.int p5)] [(.int (1 : Int32)), (.int p2)])) _
  refine XS.icmpNo X0.here hx rfl (hb hby d10_11) rfl (tlt hc11).2.2.2 ?_
  show Steps p.tables e below (T0.setTop (mkF m 14 #[.val (.int p1), .val (.int p2), .val (.int p3), .val (.int p4), .val (.int p5)] [])) _
  refine XS.iloadN X0.here hx rfl (hb hby d10_14) rfl ?_
  show Steps p.tables e below (T0.setTop (mkF m 15 #[.val (.int p1), .val (.int p2), .val (.int p3), .val (.int p4), .val (.int p5)] [(.int p1)])) _
  refine XS.iloadN X0.here hx rfl (hb hby d10_15) rfl ?_
  show Steps p.tables e below (T0.setTop (mkF m 16 #[.val (.int p1), .val (.int p2), .val (.int p3), .val (.int p4), .val (.int p5)] [(.int p4), (.int p1)])) _
  refine XS.icmpNo X0.here hx rfl (hb hby d10_16) rfl (feq hc16).1 ?_
  exact kt
theorem d10_19 : decode method_4_code 19 = .ok (.iload_n 1, 1) := by decide +kernel
theorem d10_20 : decode method_4_code 20 = .ok (.iconst 2, 1) := by decide +kernel
theorem d10_21 : decode method_4_code 21 = .ok (.if_icmp .le 13, 3) := by decide +kernel
theorem d10_24 : decode method_4_code 24 = .ok (.iload_n 0, 1) := by decide +kernel
theorem d10_25 : decode method_4_code 25 = .ok (.iload 4, 2) := by decide +kernel
theorem d10_27 : decode method_4_code 27 = .ok (.if_icmp .ne 7, 3) := by decide +kernel
set_option maxRecDepth 65536 in
set_option maxHeartbeats 40000000 in
theorem in30c {p : Program} {l : Launch} {e : Env} {R : Room} {s : State} {m : MethodId} {args : Array Value} {below : List Frame} {meth : Method} {c : Code} {T0 : State} {locs : List Loc} {cells slots : Nat} {Z : State} {a0 : Array Value} {h0 : Heap} (p1 p2 p3 p4 p5 : Int32) (X0 : Stand p l e R s m args below meth c T0 locs cells slots) (hx : p.tables.exec = Jvm.exec) (hZ : Z.Warmed39 s.vm) (hw : ∀ d ∈ tables_1, d.before a0 Z = true) (hby : c.code = method_4_code) (hown : s.vm.findClass "com/example/subsumption/subsumption/IntSetContainsAllPinLaw" = some m.cls) (e0 : T0.heap = h0)  (hc21 : (2 : Int32) < p2) (hc27 : p1 = p5) {target : State} (kt : Steps p.tables e below (T0.setTop (mkF m 30 #[.val (.int p1), .val (.int p2), .val (.int p3), .val (.int p4), .val (.int p5)] [])) target) : Steps p.tables e below (T0.setTop (mkF m 19 #[.val (.int p1), .val (.int p2), .val (.int p3), .val (.int p4), .val (.int p5)] [])) target := by
  show Steps p.tables e below (T0.setTop (mkF m 19 #[.val (.int p1), .val (.int p2), .val (.int p3), .val (.int p4), .val (.int p5)] [])) _
  refine XS.iloadN X0.here hx rfl (hb hby d10_19) rfl ?_
  show Steps p.tables e below (T0.setTop (mkF m 20 #[.val (.int p1), .val (.int p2), .val (.int p3), .val (.int p4), .val (.int p5)] [(.int p2)])) _
  refine XS.iconst X0.here hx rfl (hb hby d10_20) ?_
  show Steps p.tables e below (T0.setTop (mkF m 21 #[.val (.int p1), .val (.int p2), .val (.int p3), .val (.int p4), .val (.int p5)] [(.int (2 : Int32)), (.int p2)])) _
  refine XS.icmpNo X0.here hx rfl (hb hby d10_21) rfl (tlt hc21).2.2.2 ?_
  show Steps p.tables e below (T0.setTop (mkF m 24 #[.val (.int p1), .val (.int p2), .val (.int p3), .val (.int p4), .val (.int p5)] [])) _
  refine XS.iloadN X0.here hx rfl (hb hby d10_24) rfl ?_
  show Steps p.tables e below (T0.setTop (mkF m 25 #[.val (.int p1), .val (.int p2), .val (.int p3), .val (.int p4), .val (.int p5)] [(.int p1)])) _
  refine XS.iload X0.here hx rfl (hb hby d10_25) rfl ?_
  show Steps p.tables e below (T0.setTop (mkF m 27 #[.val (.int p1), .val (.int p2), .val (.int p3), .val (.int p4), .val (.int p5)] [(.int p5), (.int p1)])) _
  refine XS.icmpNo X0.here hx rfl (hb hby d10_27) rfl (teq hc27).2 ?_
  exact kt
set_option maxRecDepth 65536 in
set_option maxHeartbeats 40000000 in
theorem in34a {p : Program} {l : Launch} {e : Env} {R : Room} {s : State} {m : MethodId} {args : Array Value} {below : List Frame} {meth : Method} {c : Code} {T0 : State} {locs : List Loc} {cells slots : Nat} {Z : State} {a0 : Array Value} {h0 : Heap} (p1 p2 p3 p4 p5 : Int32) (X0 : Stand p l e R s m args below meth c T0 locs cells slots) (hx : p.tables.exec = Jvm.exec) (hZ : Z.Warmed39 s.vm) (hw : ∀ d ∈ tables_1, d.before a0 Z = true) (hby : c.code = method_4_code) (hown : s.vm.findClass "com/example/subsumption/subsumption/IntSetContainsAllPinLaw" = some m.cls) (e0 : T0.heap = h0)  (hc21 : ¬ ((2 : Int32) < p2)) {target : State} (kt : Steps p.tables e below (T0.setTop (mkF m 34 #[.val (.int p1), .val (.int p2), .val (.int p3), .val (.int p4), .val (.int p5)] [])) target) : Steps p.tables e below (T0.setTop (mkF m 19 #[.val (.int p1), .val (.int p2), .val (.int p3), .val (.int p4), .val (.int p5)] [])) target := by
  show Steps p.tables e below (T0.setTop (mkF m 19 #[.val (.int p1), .val (.int p2), .val (.int p3), .val (.int p4), .val (.int p5)] [])) _
  refine XS.iloadN X0.here hx rfl (hb hby d10_19) rfl ?_
  show Steps p.tables e below (T0.setTop (mkF m 20 #[.val (.int p1), .val (.int p2), .val (.int p3), .val (.int p4), .val (.int p5)] [(.int p2)])) _
  refine XS.iconst X0.here hx rfl (hb hby d10_20) ?_
  show Steps p.tables e below (T0.setTop (mkF m 21 #[.val (.int p1), .val (.int p2), .val (.int p3), .val (.int p4), .val (.int p5)] [(.int (2 : Int32)), (.int p2)])) _
  refine XS.icmpYes X0.here hx rfl (pc0 := 21) (pc' := 34) rfl (hb hby d10_21) rfl (flt hc21).2.2.2 (by decide) (by decide) ?_
  exact kt
set_option maxRecDepth 65536 in
set_option maxHeartbeats 40000000 in
theorem in34b {p : Program} {l : Launch} {e : Env} {R : Room} {s : State} {m : MethodId} {args : Array Value} {below : List Frame} {meth : Method} {c : Code} {T0 : State} {locs : List Loc} {cells slots : Nat} {Z : State} {a0 : Array Value} {h0 : Heap} (p1 p2 p3 p4 p5 : Int32) (X0 : Stand p l e R s m args below meth c T0 locs cells slots) (hx : p.tables.exec = Jvm.exec) (hZ : Z.Warmed39 s.vm) (hw : ∀ d ∈ tables_1, d.before a0 Z = true) (hby : c.code = method_4_code) (hown : s.vm.findClass "com/example/subsumption/subsumption/IntSetContainsAllPinLaw" = some m.cls) (e0 : T0.heap = h0)  (hc21 : (2 : Int32) < p2) (hc27 : ¬ (p1 = p5)) {target : State} (kt : Steps p.tables e below (T0.setTop (mkF m 34 #[.val (.int p1), .val (.int p2), .val (.int p3), .val (.int p4), .val (.int p5)] [])) target) : Steps p.tables e below (T0.setTop (mkF m 19 #[.val (.int p1), .val (.int p2), .val (.int p3), .val (.int p4), .val (.int p5)] [])) target := by
  show Steps p.tables e below (T0.setTop (mkF m 19 #[.val (.int p1), .val (.int p2), .val (.int p3), .val (.int p4), .val (.int p5)] [])) _
  refine XS.iloadN X0.here hx rfl (hb hby d10_19) rfl ?_
  show Steps p.tables e below (T0.setTop (mkF m 20 #[.val (.int p1), .val (.int p2), .val (.int p3), .val (.int p4), .val (.int p5)] [(.int p2)])) _
  refine XS.iconst X0.here hx rfl (hb hby d10_20) ?_
  show Steps p.tables e below (T0.setTop (mkF m 21 #[.val (.int p1), .val (.int p2), .val (.int p3), .val (.int p4), .val (.int p5)] [(.int (2 : Int32)), (.int p2)])) _
  refine XS.icmpNo X0.here hx rfl (hb hby d10_21) rfl (tlt hc21).2.2.2 ?_
  show Steps p.tables e below (T0.setTop (mkF m 24 #[.val (.int p1), .val (.int p2), .val (.int p3), .val (.int p4), .val (.int p5)] [])) _
  refine XS.iloadN X0.here hx rfl (hb hby d10_24) rfl ?_
  show Steps p.tables e below (T0.setTop (mkF m 25 #[.val (.int p1), .val (.int p2), .val (.int p3), .val (.int p4), .val (.int p5)] [(.int p1)])) _
  refine XS.iload X0.here hx rfl (hb hby d10_25) rfl ?_
  show Steps p.tables e below (T0.setTop (mkF m 27 #[.val (.int p1), .val (.int p2), .val (.int p3), .val (.int p4), .val (.int p5)] [(.int p5), (.int p1)])) _
  refine XS.icmpYes X0.here hx rfl (pc0 := 27) (pc' := 34) rfl (hb hby d10_27) rfl (feq hc27).2 (by decide) (by decide) ?_
  exact kt
theorem in9 {p : Program} {l : Launch} {e : Env} {R : Room} {s : State} {m : MethodId} {args : Array Value} {below : List Frame} {meth : Method} {c : Code} {T0 : State} {locs : List Loc} {cells slots : Nat} {Z : State} {a0 : Array Value} {h0 : Heap} (p1 p2 p3 p4 p5 : Int32) (X0 : Stand p l e R s m args below meth c T0 locs cells slots) (hx : p.tables.exec = Jvm.exec) (hZ : Z.Warmed39 s.vm) (hw : ∀ d ∈ tables_1, d.before a0 Z = true) (hby : c.code = method_4_code) (hown : s.vm.findClass "com/example/subsumption/subsumption/IntSetContainsAllPinLaw" = some m.cls) (e0 : T0.heap = h0) (h : ¬ (0 < p2 ∧ p1 = p3)) {target : State} (kt : Steps p.tables e below (T0.setTop (mkF m 9 #[.val (.int p1), .val (.int p2), .val (.int p3), .val (.int p4), .val (.int p5)] [])) target) : Steps p.tables e below (T0.setTop (mkF m 0 #[.val (.int p1), .val (.int p2), .val (.int p3), .val (.int p4), .val (.int p5)] [])) target := by
  by_cases q : 0 < p2
  · exact in9b p1 p2 p3 p4 p5 X0 hx hZ hw hby hown e0 q (fun r => h ⟨q, r⟩) kt
  · exact in9a p1 p2 p3 p4 p5 X0 hx hZ hw hby hown e0 q kt
theorem in19 {p : Program} {l : Launch} {e : Env} {R : Room} {s : State} {m : MethodId} {args : Array Value} {below : List Frame} {meth : Method} {c : Code} {T0 : State} {locs : List Loc} {cells slots : Nat} {Z : State} {a0 : Array Value} {h0 : Heap} (p1 p2 p3 p4 p5 : Int32) (X0 : Stand p l e R s m args below meth c T0 locs cells slots) (hx : p.tables.exec = Jvm.exec) (hZ : Z.Warmed39 s.vm) (hw : ∀ d ∈ tables_1, d.before a0 Z = true) (hby : c.code = method_4_code) (hown : s.vm.findClass "com/example/subsumption/subsumption/IntSetContainsAllPinLaw" = some m.cls) (e0 : T0.heap = h0) (h : ¬ (1 < p2 ∧ p1 = p4)) {target : State} (kt : Steps p.tables e below (T0.setTop (mkF m 19 #[.val (.int p1), .val (.int p2), .val (.int p3), .val (.int p4), .val (.int p5)] [])) target) : Steps p.tables e below (T0.setTop (mkF m 9 #[.val (.int p1), .val (.int p2), .val (.int p3), .val (.int p4), .val (.int p5)] [])) target := by
  by_cases q : 1 < p2
  · exact in19b p1 p2 p3 p4 p5 X0 hx hZ hw hby hown e0 q (fun r => h ⟨q, r⟩) kt
  · exact in19a p1 p2 p3 p4 p5 X0 hx hZ hw hby hown e0 q kt
theorem in34 {p : Program} {l : Launch} {e : Env} {R : Room} {s : State} {m : MethodId} {args : Array Value} {below : List Frame} {meth : Method} {c : Code} {T0 : State} {locs : List Loc} {cells slots : Nat} {Z : State} {a0 : Array Value} {h0 : Heap} (p1 p2 p3 p4 p5 : Int32) (X0 : Stand p l e R s m args below meth c T0 locs cells slots) (hx : p.tables.exec = Jvm.exec) (hZ : Z.Warmed39 s.vm) (hw : ∀ d ∈ tables_1, d.before a0 Z = true) (hby : c.code = method_4_code) (hown : s.vm.findClass "com/example/subsumption/subsumption/IntSetContainsAllPinLaw" = some m.cls) (e0 : T0.heap = h0) (h : ¬ (2 < p2 ∧ p1 = p5)) {target : State} (kt : Steps p.tables e below (T0.setTop (mkF m 34 #[.val (.int p1), .val (.int p2), .val (.int p3), .val (.int p4), .val (.int p5)] [])) target) : Steps p.tables e below (T0.setTop (mkF m 19 #[.val (.int p1), .val (.int p2), .val (.int p3), .val (.int p4), .val (.int p5)] [])) target := by
  by_cases q : 2 < p2
  · exact in34b p1 p2 p3 p4 p5 X0 hx hZ hw hby hown e0 q (fun r => h ⟨q, r⟩) kt
  · exact in34a p1 p2 p3 p4 p5 X0 hx hZ hw hby hown e0 q kt
theorem in1 {p : Program} {l : Launch} {e : Env} {R : Room} {s : State} {m : MethodId} {args : Array Value} {below : List Frame} {meth : Method} {c : Code} {T0 : State} {locs : List Loc} {cells slots : Nat} {Z : State} {a0 : Array Value} {h0 : Heap} (p1 p2 p3 p4 p5 : Int32) (X0 : Stand p l e R s m args below meth c T0 locs cells slots) (hx : p.tables.exec = Jvm.exec) (hZ : Z.Warmed39 s.vm) (hw : ∀ d ∈ tables_1, d.before a0 Z = true) (hby : c.code = method_4_code) (hown : s.vm.findClass "com/example/subsumption/subsumption/IntSetContainsAllPinLaw" = some m.cls) (e0 : T0.heap = h0) (h : ((0 < p2 ∧ p1 = p3) ∨ (1 < p2 ∧ p1 = p4) ∨ (2 < p2 ∧ p1 = p5))) {target : State} (kt : Steps p.tables e below (T0.setTop (mkF m 30 #[.val (.int p1), .val (.int p2), .val (.int p3), .val (.int p4), .val (.int p5)] [])) target) : Steps p.tables e below (T0.setTop (mkF m 0 #[.val (.int p1), .val (.int p2), .val (.int p3), .val (.int p4), .val (.int p5)] [])) target := by
  by_cases q1 : 0 < p2 ∧ p1 = p3
  · exact in30a p1 p2 p3 p4 p5 X0 hx hZ hw hby hown e0 q1.1 q1.2 kt
  refine in9 p1 p2 p3 p4 p5 X0 hx hZ hw hby hown e0 q1 ?_
  by_cases q2 : 1 < p2 ∧ p1 = p4
  · exact in30b p1 p2 p3 p4 p5 X0 hx hZ hw hby hown e0 q2.1 q2.2 kt
  refine in19 p1 p2 p3 p4 p5 X0 hx hZ hw hby hown e0 q2 ?_
  have q3 := (h.resolve_left q1).resolve_left q2
  exact in30c p1 p2 p3 p4 p5 X0 hx hZ hw hby hown e0 q3.1 q3.2 kt
theorem in0 {p : Program} {l : Launch} {e : Env} {R : Room} {s : State} {m : MethodId} {args : Array Value} {below : List Frame} {meth : Method} {c : Code} {T0 : State} {locs : List Loc} {cells slots : Nat} {Z : State} {a0 : Array Value} {h0 : Heap} (p1 p2 p3 p4 p5 : Int32) (X0 : Stand p l e R s m args below meth c T0 locs cells slots) (hx : p.tables.exec = Jvm.exec) (hZ : Z.Warmed39 s.vm) (hw : ∀ d ∈ tables_1, d.before a0 Z = true) (hby : c.code = method_4_code) (hown : s.vm.findClass "com/example/subsumption/subsumption/IntSetContainsAllPinLaw" = some m.cls) (e0 : T0.heap = h0) (h : ¬ ((0 < p2 ∧ p1 = p3) ∨ (1 < p2 ∧ p1 = p4) ∨ (2 < p2 ∧ p1 = p5))) {target : State} (kt : Steps p.tables e below (T0.setTop (mkF m 34 #[.val (.int p1), .val (.int p2), .val (.int p3), .val (.int p4), .val (.int p5)] [])) target) : Steps p.tables e below (T0.setTop (mkF m 0 #[.val (.int p1), .val (.int p2), .val (.int p3), .val (.int p4), .val (.int p5)] [])) target := by
  refine in9 p1 p2 p3 p4 p5 X0 hx hZ hw hby hown e0 (fun q => h (Or.inl q)) ?_
  refine in19 p1 p2 p3 p4 p5 X0 hx hZ hw hby hown e0 (fun q => h (Or.inr (Or.inl q))) ?_
  exact in34 p1 p2 p3 p4 p5 X0 hx hZ hw hby hown e0 (fun q => h (Or.inr (Or.inr q))) kt
theorem d10_30 : decode method_4_code 30 = .ok (.iconst 1, 1) := by decide +kernel
theorem d10_31 : decode method_4_code 31 = .ok (.goto 4, 3) := by decide +kernel
theorem d10_35 : decode method_4_code 35 = .ok (.ireturn, 1) := by decide +kernel
theorem ef_10 (m : MethodId) (x0 : Int32) (x1 : Int32) (x2 : Int32) (x3 : Int32) (x4 : Int32) : entryFrame m #[(.int x0), (.int x1), (.int x2), (.int x3), (.int x4)] 5 = mkF m 0 #[.val (.int x0), .val (.int x1), .val (.int x2), .val (.int x3), .val (.int x4)] [] := by first | (simp [entryFrame, mkF, argsToLocals, Value.category]; done) | rfl
set_option maxRecDepth 65536 in
set_option maxHeartbeats 40000000 in
theorem rm10y (l : Launch) (Z : State) (a0 : Array Value) (hw : ∀ d ∈ tables_1, d.before a0 Z = true) (ws : List Jvm.Cond) (p1 p2 p3 p4 p5 : Int32) (h0 : Heap) (n0 : Nat) (Z0 : n0 ≤ h0.size) (hP : ((0 < p2 ∧ p1 = p3) ∨ (1 < p2 ∧ p1 = p4) ∨ (2 < p2 ∧ p1 = p5)))  :
    MetFree l (⟨"com/example/subsumption/subsumption/IntSetContainsAllPinLaw", "inA", "(IIIII)Z"⟩ : MethodName) (head1 (Jvm.Cond.code (⟨"com/example/subsumption/subsumption/IntSetContainsAllPinLaw", "inA", "(IIIII)Z"⟩ : MethodName) method_4_code 5 (some .boolean) :: ws) ({ frames := 0, cells := 0, slots := 0, locals := 0 } : Room)) (fun a U => a = #[(.int p1), (.int p2), (.int p3), (.int p4), (.int p5)] ∧ Z.Warmed39 U.vm ∧ U.heap = h0) (fun _ _ _ _ _ => True) (fun _ U o U' => ∃ v L, o = .returned v ∧ Q11 ((0 < p2 ∧ p1 = p3) ∨ (1 < p2 ∧ p1 = p4) ∨ (2 < p2 ∧ p1 = p5)) h0 n0 v U'.heap L ∧ FrameEnd U o U' L ({ frames := 0, cells := 0, slots := 0, locals := 0 } : Room).cells ({ frames := 0, cells := 0, slots := 0, locals := 0 } : Room).slots) := by
  refine MetFree.of_bodySF (plainFor_of_name pn_com_example_subsumption_subsumption_IntSetContainsAllPinLaw) hisR ?_
  intro p e s m args below meth cd s₁ Bd hml0 hPre hKc
  obtain ⟨rfl, hZ, hHp⟩ := hPre
  have hx := Bd.exec
  have hby := Bd.bytes
  have hml : cd.maxLocals = 5 := hml0
  have hown : s.vm.findClass "com/example/subsumption/subsumption/IntSetContainsAllPinLaw" = some m.cls := findClass_of_methodNamed Bd.named
  have hnm := (name_of_methodNamed Bd.named Bd.method).1
  have X0 : Stand p l e ({ frames := 0, cells := 0, slots := 0, locals := 0 } : Room) s m #[(.int p1), (.int p2), (.int p3), (.int p4), (.int p5)] below meth cd s₁ [] 0 0 := Stand.of_body Bd
  have e0 : s₁.heap = h0 := by rw [← hHp, Bd.state]; rfl
  have N0 := Fr.nil n0
  have pre0 : ∀ t, Steps p.tables e below (s₁.setTop (mkF m 0 #[.val (.int p1), .val (.int p2), .val (.int p3), .val (.int p4), .val (.int p5)] [])) t → Steps p.tables e below (s₁.setTop (entryFrame m #[(.int p1), (.int p2), (.int p3), (.int p4), (.int p5)] 5)) t := fun t kz => castTop (ef_10 m p1 p2 p3 p4 p5) kz
  obtain ⟨fs, hr, hrun, hended, hW, hsame⟩ := X0.leave (v := some (.int (1 : Int32))) (fun h => by rw [Bd.returns] at h; cases h)
  refine ⟨_, _, pre0 _ ?_, hrun, hended, _, _, rfl, ?_, ⟨_, rfl⟩, hW, hsame.mono (by decide) (by decide)⟩
  · show Steps p.tables e below (s₁.setTop (mkF m 0 #[.val (.int p1), .val (.int p2), .val (.int p3), .val (.int p4), .val (.int p5)] [])) _
    refine in1 p1 p2 p3 p4 p5 X0 hx hZ hw hby hown e0 hP ?_
    show Steps p.tables e below (s₁.setTop (mkF m 30 #[.val (.int p1), .val (.int p2), .val (.int p3), .val (.int p4), .val (.int p5)] [])) _
    refine XS.iconst X0.here hx rfl (hb hby d10_30) ?_
    show Steps p.tables e below (s₁.setTop (mkF m 31 #[.val (.int p1), .val (.int p2), .val (.int p3), .val (.int p4), .val (.int p5)] [(.int (1 : Int32))])) _
    refine XS.goto X0.here hx rfl (pc0 := 31) (pc' := 35) rfl (hb hby d10_31) (by decide) (by decide) ?_
    show Steps p.tables e below (s₁.setTop (mkF m 35 #[.val (.int p1), .val (.int p2), .val (.int p3), .val (.int p4), .val (.int p5)] [(.int (1 : Int32))])) _
    exact retN X0 hx (t := .boolean) Bd.returns (by simp) (hb hby d10_35) hr
  · show Q11 ((0 < p2 ∧ p1 = p3) ∨ (1 < p2 ∧ p1 = p4) ∨ (2 < p2 ∧ p1 = p5)) h0 n0 _ s₁.heap _
    rw [e0]
    exact ⟨_, rfl, N0, rfl, Or.inl ⟨rfl, hP⟩⟩
theorem d10_34 : decode method_4_code 34 = .ok (.iconst 0, 1) := by decide +kernel
set_option maxRecDepth 65536 in
set_option maxHeartbeats 40000000 in
theorem rm10n (l : Launch) (Z : State) (a0 : Array Value) (hw : ∀ d ∈ tables_1, d.before a0 Z = true) (ws : List Jvm.Cond) (p1 p2 p3 p4 p5 : Int32) (h0 : Heap) (n0 : Nat) (Z0 : n0 ≤ h0.size) (hP : ¬ ((0 < p2 ∧ p1 = p3) ∨ (1 < p2 ∧ p1 = p4) ∨ (2 < p2 ∧ p1 = p5)))  :
    MetFree l (⟨"com/example/subsumption/subsumption/IntSetContainsAllPinLaw", "inA", "(IIIII)Z"⟩ : MethodName) (head1 (Jvm.Cond.code (⟨"com/example/subsumption/subsumption/IntSetContainsAllPinLaw", "inA", "(IIIII)Z"⟩ : MethodName) method_4_code 5 (some .boolean) :: ws) ({ frames := 0, cells := 0, slots := 0, locals := 0 } : Room)) (fun a U => a = #[(.int p1), (.int p2), (.int p3), (.int p4), (.int p5)] ∧ Z.Warmed39 U.vm ∧ U.heap = h0) (fun _ _ _ _ _ => True) (fun _ U o U' => ∃ v L, o = .returned v ∧ Q11 ((0 < p2 ∧ p1 = p3) ∨ (1 < p2 ∧ p1 = p4) ∨ (2 < p2 ∧ p1 = p5)) h0 n0 v U'.heap L ∧ FrameEnd U o U' L ({ frames := 0, cells := 0, slots := 0, locals := 0 } : Room).cells ({ frames := 0, cells := 0, slots := 0, locals := 0 } : Room).slots) := by
  refine MetFree.of_bodySF (plainFor_of_name pn_com_example_subsumption_subsumption_IntSetContainsAllPinLaw) hisR ?_
  intro p e s m args below meth cd s₁ Bd hml0 hPre hKc
  obtain ⟨rfl, hZ, hHp⟩ := hPre
  have hx := Bd.exec
  have hby := Bd.bytes
  have hml : cd.maxLocals = 5 := hml0
  have hown : s.vm.findClass "com/example/subsumption/subsumption/IntSetContainsAllPinLaw" = some m.cls := findClass_of_methodNamed Bd.named
  have hnm := (name_of_methodNamed Bd.named Bd.method).1
  have X0 : Stand p l e ({ frames := 0, cells := 0, slots := 0, locals := 0 } : Room) s m #[(.int p1), (.int p2), (.int p3), (.int p4), (.int p5)] below meth cd s₁ [] 0 0 := Stand.of_body Bd
  have e0 : s₁.heap = h0 := by rw [← hHp, Bd.state]; rfl
  have N0 := Fr.nil n0
  have pre0 : ∀ t, Steps p.tables e below (s₁.setTop (mkF m 0 #[.val (.int p1), .val (.int p2), .val (.int p3), .val (.int p4), .val (.int p5)] [])) t → Steps p.tables e below (s₁.setTop (entryFrame m #[(.int p1), (.int p2), (.int p3), (.int p4), (.int p5)] 5)) t := fun t kz => castTop (ef_10 m p1 p2 p3 p4 p5) kz
  obtain ⟨fs, hr, hrun, hended, hW, hsame⟩ := X0.leave (v := some (.int (0 : Int32))) (fun h => by rw [Bd.returns] at h; cases h)
  refine ⟨_, _, pre0 _ ?_, hrun, hended, _, _, rfl, ?_, ⟨_, rfl⟩, hW, hsame.mono (by decide) (by decide)⟩
  · show Steps p.tables e below (s₁.setTop (mkF m 0 #[.val (.int p1), .val (.int p2), .val (.int p3), .val (.int p4), .val (.int p5)] [])) _
    refine in0 p1 p2 p3 p4 p5 X0 hx hZ hw hby hown e0 hP ?_
    show Steps p.tables e below (s₁.setTop (mkF m 34 #[.val (.int p1), .val (.int p2), .val (.int p3), .val (.int p4), .val (.int p5)] [])) _
    refine XS.iconst X0.here hx rfl (hb hby d10_34) ?_
    show Steps p.tables e below (s₁.setTop (mkF m 35 #[.val (.int p1), .val (.int p2), .val (.int p3), .val (.int p4), .val (.int p5)] [(.int (0 : Int32))])) _
    exact retN X0 hx (t := .boolean) Bd.returns (by simp) (hb hby d10_35) hr
  · show Q11 ((0 < p2 ∧ p1 = p3) ∨ (1 < p2 ∧ p1 = p4) ∨ (2 < p2 ∧ p1 = p5)) h0 n0 _ s₁.heap _
    rw [e0]
    exact ⟨_, rfl, N0, rfl, Or.inr ⟨rfl, hP⟩⟩
theorem rm10 (l : Launch) (Z : State) (a0 : Array Value) (hw : ∀ d ∈ tables_1, d.before a0 Z = true) (ws : List Jvm.Cond) (p1 p2 p3 p4 p5 : Int32) (h0 : Heap) (n0 : Nat) (Z0 : n0 ≤ h0.size)  :
    MetFree l (⟨"com/example/subsumption/subsumption/IntSetContainsAllPinLaw", "inA", "(IIIII)Z"⟩ : MethodName) (head1 (Jvm.Cond.code (⟨"com/example/subsumption/subsumption/IntSetContainsAllPinLaw", "inA", "(IIIII)Z"⟩ : MethodName) method_4_code 5 (some .boolean) :: ws) ({ frames := 0, cells := 0, slots := 0, locals := 0 } : Room)) (fun a U => a = #[(.int p1), (.int p2), (.int p3), (.int p4), (.int p5)] ∧ Z.Warmed39 U.vm ∧ U.heap = h0) (fun _ _ _ _ _ => True) (fun _ U o U' => ∃ v L, o = .returned v ∧ Q11 ((0 < p2 ∧ p1 = p3) ∨ (1 < p2 ∧ p1 = p4) ∨ (2 < p2 ∧ p1 = p5)) h0 n0 v U'.heap L ∧ FrameEnd U o U' L ({ frames := 0, cells := 0, slots := 0, locals := 0 } : Room).cells ({ frames := 0, cells := 0, slots := 0, locals := 0 } : Room).slots) := by
  by_cases hP : ((0 < p2 ∧ p1 = p3) ∨ (1 < p2 ∧ p1 = p4) ∨ (2 < p2 ∧ p1 = p5))
  · exact rm10y l Z a0 hw ws p1 p2 p3 p4 p5 h0 n0 Z0 hP
  · exact rm10n l Z a0 hw ws p1 p2 p3 p4 p5 h0 n0 Z0 hP
theorem SetA.four {Z : State} {h : Heap} {n0 : Nat} {a ar : Addr} {n : Nat} {vs : List Int32} {sz : Nat} (S : SetA Z h n0 a ar n vs sz) (hs : sz ≤ 2) : n = 4 := by
  obtain ⟨-, -, -, -, -, -, -, -, q⟩ := S
  rcases q with q | q
  · exact q.1
  · omega
theorem SetA.lt {Z : State} {h : Heap} {n0 : Nat} {a ar : Addr} {n : Nat} {vs : List Int32} {sz : Nat} (S : SetA Z h n0 a ar n vs sz) : a < h.size ∧ ar < h.size := by
  obtain ⟨q1, -, -, ⟨ka, q4⟩, -⟩ := S
  exact ⟨q1.lt, q4.lt⟩
def El (y : Int32) : Prop := ¬ y < 0 ∧ ¬ y = 2147483647 ∧ ¬ (y + (1 : Int32)) = 0
theorem own_El (x : Int32) : El (own_el x) := by
  have h0 : 0 ≤ (x &&& (2147483647 : Int32)).toInt := by
    show 0 ≤ (x.toBitVec &&& 2147483647#32).toInt
    have h : (x.toBitVec &&& 2147483647#32).toNat ≤ 2147483647 := by rw [BitVec.toNat_and]; exact Nat.and_le_right
    rw [BitVec.toInt_eq_toNat_cond, if_pos (by omega)]
    omega
  have e : (own_el x).toInt = (x &&& (2147483647 : Int32)).toInt % 2147483647 := by
    unfold own_el
    rw [Int32.toInt_mod]
    show (x &&& (2147483647 : Int32)).toInt.tmod 2147483647 = _
    rw [Int.tmod_eq_emod_of_nonneg h0]
  have b1 := Int.emod_nonneg (x &&& (2147483647 : Int32)).toInt (show (2147483647 : Int) ≠ 0 by decide)
  have b2 := Int.emod_lt_of_pos (x &&& (2147483647 : Int32)).toInt (show (0 : Int) < 2147483647 by decide)
  have e0 : (0 : Int32).toInt = 0 := by decide
  have eM : (2147483647 : Int32).toInt = 2147483647 := by decide
  refine ⟨?_, ?_, ?_⟩
  · rw [Int32.lt_iff_toInt_lt, e, e0]; omega
  · intro q
    have := congrArg Int32.toInt q
    rw [e, eM] at this; omega
  · intro q
    have := congrArg Int32.toInt q
    have c := c_iadd (own_el x) 1
    have e1 : (1 : Int32).toInt = 1 := by decide
    rw [this, e0, e1, e] at c; omega
theorem own_z4 {y : Int32} (hy : y ≠ 0) : In 4 [0, 0, 0, 0] y ↔ False := by
  constructor
  · rintro ⟨j, hj, q⟩
    match j, hj with
    | 0, _ => exact hy q.symm
    | 1, _ => exact hy q.symm
    | 2, _ => exact hy q.symm
    | 3, _ => exact hy q.symm
    | k + 4, h => exact absurd h (by omega)
  · exact False.elim
theorem own_cancel {x y : Int32} : x + (1 : Int32) = y + (1 : Int32) ↔ x = y := by
  constructor
  · intro h
    have := congrArg (· - (1 : Int32)) h
    simpa using this
  · rintro rfl; rfl
theorem own_lt1 (n : Int32) : n < 1 ↔ ¬ 0 < n := by
  rw [Int32.lt_iff_toInt_lt, Int32.lt_iff_toInt_lt, show (0 : Int32).toInt = 0 from by decide, show (1 : Int32).toInt = 1 from by decide]; omega
theorem own_lt2 (n : Int32) : n < 2 ↔ ¬ 1 < n := by
  rw [Int32.lt_iff_toInt_lt, Int32.lt_iff_toInt_lt, show (2 : Int32).toInt = 2 from by decide, show (1 : Int32).toInt = 1 from by decide]; omega
theorem own_final {na nb x0 x1 x2 y0 y1 r0 r1 : Int32} {n : Nat} {vs ws : List Int32} (hy0 : El y0) (hy1 : El y1)
    (hA : ∀ y, y ≠ 0 → (In n vs y ↔ ((2 < na ∧ y = x2 + (1 : Int32)) ∨ ((1 < na ∧ y = x1 + (1 : Int32)) ∨ ((0 < na ∧ y = x0 + (1 : Int32)) ∨ False)))))
    (hB : ∀ y, y ≠ 0 → (In 4 ws y ↔ ((1 < nb ∧ y = y1 + (1 : Int32)) ∨ ((0 < nb ∧ y = y0 + (1 : Int32)) ∨ False))))
    (h0 : (r0 = 1 ∧ ((0 < na ∧ y0 = x0) ∨ (1 < na ∧ y0 = x1) ∨ (2 < na ∧ y0 = x2))) ∨ (r0 = 0 ∧ ¬ ((0 < na ∧ y0 = x0) ∨ (1 < na ∧ y0 = x1) ∨ (2 < na ∧ y0 = x2))))
    (h1 : (r1 = 1 ∧ ((0 < na ∧ y1 = x0) ∨ (1 < na ∧ y1 = x1) ∨ (2 < na ∧ y1 = x2))) ∨ (r1 = 0 ∧ ¬ ((0 < na ∧ y1 = x0) ∨ (1 < na ∧ y1 = x1) ∨ (2 < na ∧ y1 = x2)))) :
    ((nb < 1 ∨ ¬ r0 = 0) ∧ (nb < 2 ∨ ¬ r1 = 0)) ↔ (∀ j, j < 4 → ws.getD j 0 ≠ 0 → In n vs (ws.getD j 0)) := by
  have key : ∀ y, El y → (In n vs (y + (1 : Int32)) ↔ ((0 < na ∧ y = x0) ∨ (1 < na ∧ y = x1) ∨ (2 < na ∧ y = x2))) := fun y hy => by
    rw [hA _ hy.2.2, own_cancel, own_cancel, own_cancel]
    constructor
    · rintro (q | q | q | q)
      · exact Or.inr (Or.inr q)
      · exact Or.inr (Or.inl q)
      · exact Or.inl q
      · exact q.elim
    · rintro (q | q | q)
      · exact Or.inr (Or.inr (Or.inl q))
      · exact Or.inr (Or.inl q)
      · exact Or.inl q
  have k0 : ¬ r0 = 0 ↔ In n vs (y0 + (1 : Int32)) := by
    rw [key y0 hy0]
    rcases h0 with ⟨q, r⟩ | ⟨q, r⟩
    · rw [q]; exact ⟨fun _ => r, fun _ => by decide⟩
    · rw [q]; exact ⟨fun z => absurd rfl z, fun z => absurd z r⟩
  have k1 : ¬ r1 = 0 ↔ In n vs (y1 + (1 : Int32)) := by
    rw [key y1 hy1]
    rcases h1 with ⟨q, r⟩ | ⟨q, r⟩
    · rw [q]; exact ⟨fun _ => r, fun _ => by decide⟩
    · rw [q]; exact ⟨fun z => absurd rfl z, fun z => absurd z r⟩
  rw [k0, k1, own_lt1, own_lt2]
  constructor
  · rintro ⟨q0, q1⟩ j hj hne
    rcases (hB _ hne).mp ⟨j, hj, rfl⟩ with ⟨r, e⟩ | ⟨r, e⟩ | e
    · rw [e]; exact q1.resolve_left fun z => z r
    · rw [e]; exact q0.resolve_left fun z => z r
    · exact e.elim
  · intro h
    refine ⟨?_, ?_⟩
    · by_cases r : 0 < nb
      · obtain ⟨j, hj, e⟩ := (hB (y0 + (1 : Int32)) hy0.2.2).mpr (Or.inr (Or.inl ⟨r, rfl⟩))
        have := h j hj (by rw [e]; exact hy0.2.2)
        rw [e] at this; exact Or.inr this
      · exact Or.inl r
    · by_cases r : 1 < nb
      · obtain ⟨j, hj, e⟩ := (hB (y1 + (1 : Int32)) hy1.2.2).mpr (Or.inl ⟨r, rfl⟩)
        have := h j hj (by rw [e]; exact hy1.2.2)
        rw [e] at this; exact Or.inr this
      · exact Or.inl r
theorem rm11 (l : Launch) (Z : State) (a0 : Array Value) (hw : ∀ d ∈ tables_1, d.before a0 Z = true) (ws : List Jvm.Cond) (a1 b1 ar br : Addr) (n : Nat) (vs wl : List Int32) (sz sb : Nat) (h0 : Heap) (n0 : Nat) (Z0 : n0 ≤ h0.size) (SA : SetA Z h0 n0 a1 ar n vs sz) (SB : SetA Z h0 n0 b1 br 4 wl sb) :
    MetFree l (⟨"com/example/subsumption/subsumption/IntSet", "containsAll", "(Lcom/example/subsumption/subsumption/IntSet;)Z"⟩ : MethodName) (head1 (Jvm.Cond.code (⟨"com/example/subsumption/subsumption/IntSet", "containsAll", "(Lcom/example/subsumption/subsumption/IntSet;)Z"⟩ : MethodName) prog_2_method_4_code 6 (some .boolean) :: ws) ({ frames := 2, cells := 0, slots := 0, locals := 30 } : Room)) (fun a U => a = #[(.ref a1), (.ref b1)] ∧ Z.Warmed39 U.vm ∧ U.heap = h0) (fun _ _ _ _ _ => True) (fun _ U o U' => ∃ v L, o = .returned v ∧ Q11 (∀ j, j < 4 → wl.getD j 0 ≠ 0 → In n vs (wl.getD j 0)) h0 n0 v U'.heap L ∧ FrameEnd U o U' L ({ frames := 2, cells := 0, slots := 0, locals := 30 } : Room).cells ({ frames := 2, cells := 0, slots := 0, locals := 30 } : Room).slots) := by
  obtain ⟨-, Fa, -, ⟨ka, VA⟩, -, -, -, hg, hn⟩ := SA
  obtain ⟨-, Fb, -, ⟨kb, VB⟩, -, -, -, -, -⟩ := SB
  rcases hn with ⟨rfl, h1, h2⟩ | ⟨rfl, h1, h2⟩
  · exact rm11_4 l Z a0 hw ws a1 b1 ar br ka kb vs wl 4 h0 n0 Z0 (by decide) Fa Fb VA VB hg (by omega)
  · exact rm11_8 l Z a0 hw ws a1 b1 ar br ka kb vs wl 4 h0 n0 Z0 (by decide) Fa Fb VA VB hg (by omega)
theorem pd__IIIII_I : parseMethodDescriptor "(IIIII)I" = some ⟨[.int, .int, .int, .int, .int], some .int⟩ := by decide +kernel
theorem pd__II_I : parseMethodDescriptor "(II)I" = some ⟨[.int, .int], some .int⟩ := by decide +kernel
set_option maxRecDepth 65536 in
set_option maxHeartbeats 40000000 in
theorem seg1 {p : Program} {l : Launch} {e : Env} {s : State} {m : MethodId} {args : Array Value} {below : List Frame} {meth : Method} {c : Code} {T0 : State} {locs : List Loc} {Z : State} {a0 : Array Value} {h0 : Heap} {n0 : Nat} (p1 p2 p3 p4 p5 p6 : Int32) (X0 : Stand p l e room_1 s m args below meth c T0 locs (0) (0)) (hx : p.tables.exec = Jvm.exec) (hZ : Z.Warmed39 s.vm) (hw : ∀ d ∈ tables_1, d.before a0 Z = true) (hby : c.code = code) (hml : c.maxLocals = 18) (hown : s.vm.findClass "com/example/subsumption/subsumption/IntSetContainsAllPinLaw" = some m.cls) (e0 : T0.heap = h0) (N0 : Fr n0 locs) (Z0 : n0 ≤ h0.size)   :
    ∃ (T' : State) (h' : Heap) (locs' : List Loc) (nb : Int32) (y0 : Int32) (y1 : Int32), Stand p l e room_1 s m args below meth c T' locs' (0) (0) ∧ T'.heap = h' ∧ Fr n0 locs' ∧ n0 ≤ h'.size ∧ h' = h0 ∧ El y0 ∧ El y1 ∧ 
      ∀ target, Steps p.tables e below (T'.setTop (mkF m 80 #[.val (.int p1), .val (.int p2), .val (.int p3), .val (.int p4), .val (.int p5), .val (.int p6), .val (.int (p6 &&& (3 : Int32))), .val (.int nb), .val (.int (own_el p1)), .val (.int (own_el p2)), .val (.int (own_el p3)), .val (.int y0), .val (.int y1), .unset, .unset, .unset, .unset, .unset] [])) target → Steps p.tables e below (T0.setTop (mkF m 0 #[.val (.int p1), .val (.int p2), .val (.int p3), .val (.int p4), .val (.int p5), .val (.int p6), .unset, .unset, .unset, .unset, .unset, .unset, .unset, .unset, .unset, .unset, .unset, .unset] [])) target := by
  obtain ⟨_, _, ⟨T1, L1, k1, n1⟩, -, X1, ⟨Lc1, hQ1, l1, y1, z1⟩, st1⟩ := Jvm.LawKit.callS X0 hx (y := (⟨"java/lang/Math", "min", "(II)I"⟩ : MethodName)) hown (mvT hZ (hw _ (List.mem_of_getElem? (i := 0) rfl))) (mvT hZ (hw _ (List.mem_of_getElem? (i := 1) rfl))) (mvT hZ (hw _ (List.mem_of_getElem? (i := 2) rfl))) (mvT hZ (hw _ (List.mem_of_getElem? (i := 3) rfl))) (by decide) (backOf (W := 0) (rm1 l Z a0 hw [] (((p6.toUInt32 >>> ((2 : Int32) &&& 31).toUInt32).toInt32) &&& (3 : Int32)) (2 : Int32) h0 n0 Z0) hZ (hw _ (List.mem_of_getElem? (i := 3) rfl)) (hw _ (List.mem_of_getElem? (i := 2) rfl)) (by decide) (by decide)) (g := (mkF m 13 #[.val (.int p1), .val (.int p2), .val (.int p3), .val (.int p4), .val (.int p5), .val (.int p6), .val (.int (p6 &&& (3 : Int32))), .unset, .unset, .unset, .unset, .unset, .unset, .unset, .unset, .unset, .unset, .unset] [(.int (2 : Int32)), (.int (((p6.toUInt32 >>> ((2 : Int32) &&& 31).toUInt32).toInt32) &&& (3 : Int32)))])) rfl (by rw [hml]; rfl) (argsL := [(.int (((p6.toUInt32 >>> ((2 : Int32) &&& 31).toUInt32).toInt32) &&& (3 : Int32))), (.int (2 : Int32))]) (rest := []) (lenOf pd__II_I rfl) rfl (by show 2 * 0 + _ ≤ _; exact Nat.le_of_eq rfl) (hb hby at_13) (fun _ _ => ⟨rfl, e0, (Nat.le_of_ble_eq_true rfl), (Nat.le_of_ble_eq_true rfl)⟩)
  dsimp only [Pt.U, Pt.locs, Pt.cells, Pt.slots] at X1 l1 y1 z1 st1 hQ1
  subst l1 y1 z1
  obtain ⟨nb, rfl, N1q, e1, -⟩ := hQ1
  have N1 := Fr.app N0 N1q
  obtain ⟨_, _, ⟨T2, L2, k2, n2⟩, -, X2, ⟨Lc2, hQ2, l2, y2, z2⟩, st2⟩ := Jvm.LawKit.callS X1 hx (y := (⟨"com/example/subsumption/subsumption/IntSetContainsAllPinLaw", "el", "(I)I"⟩ : MethodName)) hown (mvT hZ (hw _ (List.mem_of_getElem? (i := 4) rfl))) (mvT hZ (hw _ (List.mem_of_getElem? (i := 5) rfl))) (mvT hZ (hw _ (List.mem_of_getElem? (i := 6) rfl))) (mvT hZ (hw _ (List.mem_of_getElem? (i := 7) rfl))) (by decide) (backOf (W := 0) (rm2 l Z a0 hw [] p1 h0 n0 Z0) hZ (hw _ (List.mem_of_getElem? (i := 7) rfl)) (hw _ (List.mem_of_getElem? (i := 6) rfl)) (by decide) (by decide)) (g := (mkF m 19 #[.val (.int p1), .val (.int p2), .val (.int p3), .val (.int p4), .val (.int p5), .val (.int p6), .val (.int (p6 &&& (3 : Int32))), .val (.int nb), .unset, .unset, .unset, .unset, .unset, .unset, .unset, .unset, .unset, .unset] [(.int p1)])) rfl (by rw [hml]; rfl) (argsL := [(.int p1)]) (rest := []) (lenOf pd__I_I rfl) rfl (by show 2 * 0 + _ ≤ _; exact Nat.le_of_eq rfl) (hb hby at_19) (fun _ _ => ⟨rfl, e1, (Nat.le_of_ble_eq_true rfl), (Nat.le_of_ble_eq_true rfl)⟩)
  dsimp only [Pt.U, Pt.locs, Pt.cells, Pt.slots] at X2 l2 y2 z2 st2 hQ2
  subst l2 y2 z2
  obtain ⟨rfl, N2q, e2⟩ := hQ2
  have N2 := Fr.app N1 N2q
  obtain ⟨_, _, ⟨T3, L3, k3, n3⟩, -, X3, ⟨Lc3, hQ3, l3, y3, z3⟩, st3⟩ := Jvm.LawKit.callS X2 hx (y := (⟨"com/example/subsumption/subsumption/IntSetContainsAllPinLaw", "el", "(I)I"⟩ : MethodName)) hown (mvT hZ (hw _ (List.mem_of_getElem? (i := 4) rfl))) (mvT hZ (hw _ (List.mem_of_getElem? (i := 5) rfl))) (mvT hZ (hw _ (List.mem_of_getElem? (i := 6) rfl))) (mvT hZ (hw _ (List.mem_of_getElem? (i := 7) rfl))) (by decide) (backOf (W := 0) (rm2 l Z a0 hw [] p2 h0 n0 Z0) hZ (hw _ (List.mem_of_getElem? (i := 7) rfl)) (hw _ (List.mem_of_getElem? (i := 6) rfl)) (by decide) (by decide)) (g := (mkF m 25 #[.val (.int p1), .val (.int p2), .val (.int p3), .val (.int p4), .val (.int p5), .val (.int p6), .val (.int (p6 &&& (3 : Int32))), .val (.int nb), .val (.int (own_el p1)), .unset, .unset, .unset, .unset, .unset, .unset, .unset, .unset, .unset] [(.int p2)])) rfl (by rw [hml]; rfl) (argsL := [(.int p2)]) (rest := []) (lenOf pd__I_I rfl) rfl (by show 2 * 0 + _ ≤ _; exact Nat.le_of_eq rfl) (hb hby at_25) (fun _ _ => ⟨rfl, e2, (Nat.le_of_ble_eq_true rfl), (Nat.le_of_ble_eq_true rfl)⟩)
  dsimp only [Pt.U, Pt.locs, Pt.cells, Pt.slots] at X3 l3 y3 z3 st3 hQ3
  subst l3 y3 z3
  obtain ⟨rfl, N3q, e3⟩ := hQ3
  have N3 := Fr.app N2 N3q
  obtain ⟨_, _, ⟨T4, L4, k4, n4⟩, -, X4, ⟨Lc4, hQ4, l4, y4, z4⟩, st4⟩ := Jvm.LawKit.callS X3 hx (y := (⟨"com/example/subsumption/subsumption/IntSetContainsAllPinLaw", "el", "(I)I"⟩ : MethodName)) hown (mvT hZ (hw _ (List.mem_of_getElem? (i := 4) rfl))) (mvT hZ (hw _ (List.mem_of_getElem? (i := 5) rfl))) (mvT hZ (hw _ (List.mem_of_getElem? (i := 6) rfl))) (mvT hZ (hw _ (List.mem_of_getElem? (i := 7) rfl))) (by decide) (backOf (W := 0) (rm2 l Z a0 hw [] p3 h0 n0 Z0) hZ (hw _ (List.mem_of_getElem? (i := 7) rfl)) (hw _ (List.mem_of_getElem? (i := 6) rfl)) (by decide) (by decide)) (g := (mkF m 31 #[.val (.int p1), .val (.int p2), .val (.int p3), .val (.int p4), .val (.int p5), .val (.int p6), .val (.int (p6 &&& (3 : Int32))), .val (.int nb), .val (.int (own_el p1)), .val (.int (own_el p2)), .unset, .unset, .unset, .unset, .unset, .unset, .unset, .unset] [(.int p3)])) rfl (by rw [hml]; rfl) (argsL := [(.int p3)]) (rest := []) (lenOf pd__I_I rfl) rfl (by show 2 * 0 + _ ≤ _; exact Nat.le_of_eq rfl) (hb hby at_31) (fun _ _ => ⟨rfl, e3, (Nat.le_of_ble_eq_true rfl), (Nat.le_of_ble_eq_true rfl)⟩)
  dsimp only [Pt.U, Pt.locs, Pt.cells, Pt.slots] at X4 l4 y4 z4 st4 hQ4
  subst l4 y4 z4
  obtain ⟨rfl, N4q, e4⟩ := hQ4
  have N4 := Fr.app N3 N4q
  obtain ⟨_, _, ⟨T5, L5, k5, n5⟩, -, X5, ⟨Lc5, hQ5, l5, y5, z5⟩, st5⟩ := Jvm.LawKit.callS X4 hx (y := (⟨"com/example/subsumption/subsumption/IntSetContainsAllPinLaw", "el", "(I)I"⟩ : MethodName)) hown (mvT hZ (hw _ (List.mem_of_getElem? (i := 4) rfl))) (mvT hZ (hw _ (List.mem_of_getElem? (i := 5) rfl))) (mvT hZ (hw _ (List.mem_of_getElem? (i := 6) rfl))) (mvT hZ (hw _ (List.mem_of_getElem? (i := 7) rfl))) (by decide) (backOf (W := 1) (rm2 l Z a0 hw [] p4 h0 n0 Z0) hZ (hw _ (List.mem_of_getElem? (i := 7) rfl)) (hw _ (List.mem_of_getElem? (i := 6) rfl)) (by decide) (by decide)) (g := (mkF m 43 #[.val (.int p1), .val (.int p2), .val (.int p3), .val (.int p4), .val (.int p5), .val (.int p6), .val (.int (p6 &&& (3 : Int32))), .val (.int nb), .val (.int (own_el p1)), .val (.int (own_el p2)), .val (.int (own_el p3)), .unset, .unset, .unset, .unset, .unset, .unset, .unset] [(.int p4), (.int (((p6.toUInt32 >>> ((4 : Int32) &&& 31).toUInt32).toInt32) &&& (3 : Int32)))])) rfl (by rw [hml]; rfl) (argsL := [(.int p4)]) (rest := [(.int (((p6.toUInt32 >>> ((4 : Int32) &&& 31).toUInt32).toInt32) &&& (3 : Int32)))]) (lenOf pd__I_I rfl) rfl (by show 2 * 0 + _ ≤ _; exact Nat.le_of_eq rfl) (hb hby at_43) (fun _ _ => ⟨rfl, e4, (Nat.le_of_ble_eq_true rfl), (Nat.le_of_ble_eq_true rfl)⟩)
  dsimp only [Pt.U, Pt.locs, Pt.cells, Pt.slots] at X5 l5 y5 z5 st5 hQ5
  subst l5 y5 z5
  obtain ⟨rfl, N5q, e5⟩ := hQ5
  have N5 := Fr.app N4 N5q
  obtain ⟨_, _, ⟨T6, L6, k6, n6⟩, -, X6, ⟨Lc6, hQ6, l6, y6, z6⟩, st6⟩ := Jvm.LawKit.callS X5 hx (y := (⟨"com/example/subsumption/subsumption/IntSetContainsAllPinLaw", "pick", "(IIIII)I"⟩ : MethodName)) hown (mvT hZ (hw _ (List.mem_of_getElem? (i := 9) rfl))) (mvT hZ (hw _ (List.mem_of_getElem? (i := 10) rfl))) (mvT hZ (hw _ (List.mem_of_getElem? (i := 6) rfl))) (mvT hZ (hw _ (List.mem_of_getElem? (i := 11) rfl))) (by decide) (backOf (W := 0) (rm3 l Z a0 hw [] (((p6.toUInt32 >>> ((4 : Int32) &&& 31).toUInt32).toInt32) &&& (3 : Int32)) (own_el p4) (own_el p1) (own_el p2) (own_el p3) h0 n0 Z0) hZ (hw _ (List.mem_of_getElem? (i := 11) rfl)) (hw _ (List.mem_of_getElem? (i := 6) rfl)) (by decide) (by decide)) (g := (mkF m 52 #[.val (.int p1), .val (.int p2), .val (.int p3), .val (.int p4), .val (.int p5), .val (.int p6), .val (.int (p6 &&& (3 : Int32))), .val (.int nb), .val (.int (own_el p1)), .val (.int (own_el p2)), .val (.int (own_el p3)), .unset, .unset, .unset, .unset, .unset, .unset, .unset] [(.int (own_el p3)), (.int (own_el p2)), (.int (own_el p1)), (.int (own_el p4)), (.int (((p6.toUInt32 >>> ((4 : Int32) &&& 31).toUInt32).toInt32) &&& (3 : Int32)))])) rfl (by rw [hml]; rfl) (argsL := [(.int (((p6.toUInt32 >>> ((4 : Int32) &&& 31).toUInt32).toInt32) &&& (3 : Int32))), (.int (own_el p4)), (.int (own_el p1)), (.int (own_el p2)), (.int (own_el p3))]) (rest := []) (lenOf pd__IIIII_I rfl) rfl (by show 2 * 0 + _ ≤ _; exact Nat.le_of_eq rfl) (hb hby at_52) (fun _ _ => ⟨rfl, e5, (Nat.le_of_ble_eq_true rfl), (Nat.le_of_ble_eq_true rfl)⟩)
  dsimp only [Pt.U, Pt.locs, Pt.cells, Pt.slots] at X6 l6 y6 z6 st6 hQ6
  subst l6 y6 z6
  obtain ⟨y0, rfl, N6q, e6, hy0⟩ := hQ6
  have N6 := Fr.app N5 N6q
  obtain ⟨_, _, ⟨T7, L7, k7, n7⟩, -, X7, ⟨Lc7, hQ7, l7, y7, z7⟩, st7⟩ := Jvm.LawKit.callS X6 hx (y := (⟨"com/example/subsumption/subsumption/IntSetContainsAllPinLaw", "el", "(I)I"⟩ : MethodName)) hown (mvT hZ (hw _ (List.mem_of_getElem? (i := 4) rfl))) (mvT hZ (hw _ (List.mem_of_getElem? (i := 5) rfl))) (mvT hZ (hw _ (List.mem_of_getElem? (i := 6) rfl))) (mvT hZ (hw _ (List.mem_of_getElem? (i := 7) rfl))) (by decide) (backOf (W := 1) (rm2 l Z a0 hw [] p5 h0 n0 Z0) hZ (hw _ (List.mem_of_getElem? (i := 7) rfl)) (hw _ (List.mem_of_getElem? (i := 6) rfl)) (by decide) (by decide)) (g := (mkF m 66 #[.val (.int p1), .val (.int p2), .val (.int p3), .val (.int p4), .val (.int p5), .val (.int p6), .val (.int (p6 &&& (3 : Int32))), .val (.int nb), .val (.int (own_el p1)), .val (.int (own_el p2)), .val (.int (own_el p3)), .val (.int y0), .unset, .unset, .unset, .unset, .unset, .unset] [(.int p5), (.int (((p6.toUInt32 >>> ((6 : Int32) &&& 31).toUInt32).toInt32) &&& (3 : Int32)))])) rfl (by rw [hml]; rfl) (argsL := [(.int p5)]) (rest := [(.int (((p6.toUInt32 >>> ((6 : Int32) &&& 31).toUInt32).toInt32) &&& (3 : Int32)))]) (lenOf pd__I_I rfl) rfl (by show 2 * 0 + _ ≤ _; exact Nat.le_of_eq rfl) (hb hby at_66) (fun _ _ => ⟨rfl, e6, (Nat.le_of_ble_eq_true rfl), (Nat.le_of_ble_eq_true rfl)⟩)
  dsimp only [Pt.U, Pt.locs, Pt.cells, Pt.slots] at X7 l7 y7 z7 st7 hQ7
  subst l7 y7 z7
  obtain ⟨rfl, N7q, e7⟩ := hQ7
  have N7 := Fr.app N6 N7q
  obtain ⟨_, _, ⟨T8, L8, k8, n8⟩, -, X8, ⟨Lc8, hQ8, l8, y8, z8⟩, st8⟩ := Jvm.LawKit.callS X7 hx (y := (⟨"com/example/subsumption/subsumption/IntSetContainsAllPinLaw", "pick", "(IIIII)I"⟩ : MethodName)) hown (mvT hZ (hw _ (List.mem_of_getElem? (i := 9) rfl))) (mvT hZ (hw _ (List.mem_of_getElem? (i := 10) rfl))) (mvT hZ (hw _ (List.mem_of_getElem? (i := 6) rfl))) (mvT hZ (hw _ (List.mem_of_getElem? (i := 11) rfl))) (by decide) (backOf (W := 0) (rm3 l Z a0 hw [] (((p6.toUInt32 >>> ((6 : Int32) &&& 31).toUInt32).toInt32) &&& (3 : Int32)) (own_el p5) (own_el p1) (own_el p2) (own_el p3) h0 n0 Z0) hZ (hw _ (List.mem_of_getElem? (i := 11) rfl)) (hw _ (List.mem_of_getElem? (i := 6) rfl)) (by decide) (by decide)) (g := (mkF m 75 #[.val (.int p1), .val (.int p2), .val (.int p3), .val (.int p4), .val (.int p5), .val (.int p6), .val (.int (p6 &&& (3 : Int32))), .val (.int nb), .val (.int (own_el p1)), .val (.int (own_el p2)), .val (.int (own_el p3)), .val (.int y0), .unset, .unset, .unset, .unset, .unset, .unset] [(.int (own_el p3)), (.int (own_el p2)), (.int (own_el p1)), (.int (own_el p5)), (.int (((p6.toUInt32 >>> ((6 : Int32) &&& 31).toUInt32).toInt32) &&& (3 : Int32)))])) rfl (by rw [hml]; rfl) (argsL := [(.int (((p6.toUInt32 >>> ((6 : Int32) &&& 31).toUInt32).toInt32) &&& (3 : Int32))), (.int (own_el p5)), (.int (own_el p1)), (.int (own_el p2)), (.int (own_el p3))]) (rest := []) (lenOf pd__IIIII_I rfl) rfl (by show 2 * 0 + _ ≤ _; exact Nat.le_of_eq rfl) (hb hby at_75) (fun _ _ => ⟨rfl, e7, (Nat.le_of_ble_eq_true rfl), (Nat.le_of_ble_eq_true rfl)⟩)
  dsimp only [Pt.U, Pt.locs, Pt.cells, Pt.slots] at X8 l8 y8 z8 st8 hQ8
  subst l8 y8 z8
  obtain ⟨y1, rfl, N8q, e8, hy1⟩ := hQ8
  have N8 := Fr.app N7 N8q
  refine ⟨T8, h0, _, nb, y0, y1, X8, e8, N8, Z0, rfl, (by rcases hy0 with q | q | q | q <;> rw [q] <;> exact own_El _), (by rcases hy1 with q | q | q | q <;> rw [q] <;> exact own_El _), fun target kt => ?_⟩
  show Steps p.tables e below (T0.setTop (mkF m 0 #[.val (.int p1), .val (.int p2), .val (.int p3), .val (.int p4), .val (.int p5), .val (.int p6), .unset, .unset, .unset, .unset, .unset, .unset, .unset, .unset, .unset, .unset, .unset, .unset] [])) _
  refine XS.iload X0.here hx rfl (hb hby at_0) rfl ?_
  show Steps p.tables e below (T0.setTop (mkF m 2 #[.val (.int p1), .val (.int p2), .val (.int p3), .val (.int p4), .val (.int p5), .val (.int p6), .unset, .unset, .unset, .unset, .unset, .unset, .unset, .unset, .unset, .unset, .unset, .unset] [(.int p6)])) _
  refine XS.iconst X0.here hx rfl (hb hby at_2) ?_
  show Steps p.tables e below (T0.setTop (mkF m 3 #[.val (.int p1), .val (.int p2), .val (.int p3), .val (.int p4), .val (.int p5), .val (.int p6), .unset, .unset, .unset, .unset, .unset, .unset, .unset, .unset, .unset, .unset, .unset, .unset] [(.int (3 : Int32)), (.int p6)])) _
  refine XS.iand X0.here hx rfl (hb hby at_3) rfl ?_
  show Steps p.tables e below (T0.setTop (mkF m 4 #[.val (.int p1), .val (.int p2), .val (.int p3), .val (.int p4), .val (.int p5), .val (.int p6), .unset, .unset, .unset, .unset, .unset, .unset, .unset, .unset, .unset, .unset, .unset, .unset] [(.int (p6 &&& (3 : Int32)))])) _
  refine XS.istore X0.here hx rfl (hb hby at_4) rfl (l' := #[.val (.int p1), .val (.int p2), .val (.int p3), .val (.int p4), .val (.int p5), .val (.int p6), .val (.int (p6 &&& (3 : Int32))), .unset, .unset, .unset, .unset, .unset, .unset, .unset, .unset, .unset, .unset, .unset]) rfl ?_
  show Steps p.tables e below (T0.setTop (mkF m 6 #[.val (.int p1), .val (.int p2), .val (.int p3), .val (.int p4), .val (.int p5), .val (.int p6), .val (.int (p6 &&& (3 : Int32))), .unset, .unset, .unset, .unset, .unset, .unset, .unset, .unset, .unset, .unset, .unset] [])) _
  refine XS.iload X0.here hx rfl (hb hby at_6) rfl ?_
  show Steps p.tables e below (T0.setTop (mkF m 8 #[.val (.int p1), .val (.int p2), .val (.int p3), .val (.int p4), .val (.int p5), .val (.int p6), .val (.int (p6 &&& (3 : Int32))), .unset, .unset, .unset, .unset, .unset, .unset, .unset, .unset, .unset, .unset, .unset] [(.int p6)])) _
  refine XS.iconst X0.here hx rfl (hb hby at_8) ?_
  show Steps p.tables e below (T0.setTop (mkF m 9 #[.val (.int p1), .val (.int p2), .val (.int p3), .val (.int p4), .val (.int p5), .val (.int p6), .val (.int (p6 &&& (3 : Int32))), .unset, .unset, .unset, .unset, .unset, .unset, .unset, .unset, .unset, .unset, .unset] [(.int (2 : Int32)), (.int p6)])) _
  refine XS.iushr X0.here hx rfl (hb hby at_9) rfl ?_
  show Steps p.tables e below (T0.setTop (mkF m 10 #[.val (.int p1), .val (.int p2), .val (.int p3), .val (.int p4), .val (.int p5), .val (.int p6), .val (.int (p6 &&& (3 : Int32))), .unset, .unset, .unset, .unset, .unset, .unset, .unset, .unset, .unset, .unset, .unset] [(.int ((p6.toUInt32 >>> ((2 : Int32) &&& 31).toUInt32).toInt32))])) _
  refine XS.iconst X0.here hx rfl (hb hby at_10) ?_
  show Steps p.tables e below (T0.setTop (mkF m 11 #[.val (.int p1), .val (.int p2), .val (.int p3), .val (.int p4), .val (.int p5), .val (.int p6), .val (.int (p6 &&& (3 : Int32))), .unset, .unset, .unset, .unset, .unset, .unset, .unset, .unset, .unset, .unset, .unset] [(.int (3 : Int32)), (.int ((p6.toUInt32 >>> ((2 : Int32) &&& 31).toUInt32).toInt32))])) _
  refine XS.iand X0.here hx rfl (hb hby at_11) rfl ?_
  show Steps p.tables e below (T0.setTop (mkF m 12 #[.val (.int p1), .val (.int p2), .val (.int p3), .val (.int p4), .val (.int p5), .val (.int p6), .val (.int (p6 &&& (3 : Int32))), .unset, .unset, .unset, .unset, .unset, .unset, .unset, .unset, .unset, .unset, .unset] [(.int (((p6.toUInt32 >>> ((2 : Int32) &&& 31).toUInt32).toInt32) &&& (3 : Int32)))])) _
  refine XS.iconst X0.here hx rfl (hb hby at_12) ?_
  show Steps p.tables e below (T0.setTop (mkF m 13 #[.val (.int p1), .val (.int p2), .val (.int p3), .val (.int p4), .val (.int p5), .val (.int p6), .val (.int (p6 &&& (3 : Int32))), .unset, .unset, .unset, .unset, .unset, .unset, .unset, .unset, .unset, .unset, .unset] [(.int (2 : Int32)), (.int (((p6.toUInt32 >>> ((2 : Int32) &&& 31).toUInt32).toInt32) &&& (3 : Int32)))])) _
  refine st1 _ ?_
  show Steps p.tables e below (T1.setTop (mkF m 16 #[.val (.int p1), .val (.int p2), .val (.int p3), .val (.int p4), .val (.int p5), .val (.int p6), .val (.int (p6 &&& (3 : Int32))), .unset, .unset, .unset, .unset, .unset, .unset, .unset, .unset, .unset, .unset, .unset] [(.int nb)])) _
  refine XS.istore X1.here hx rfl (hb hby at_16) rfl (l' := #[.val (.int p1), .val (.int p2), .val (.int p3), .val (.int p4), .val (.int p5), .val (.int p6), .val (.int (p6 &&& (3 : Int32))), .val (.int nb), .unset, .unset, .unset, .unset, .unset, .unset, .unset, .unset, .unset, .unset]) rfl ?_
  show Steps p.tables e below (T1.setTop (mkF m 18 #[.val (.int p1), .val (.int p2), .val (.int p3), .val (.int p4), .val (.int p5), .val (.int p6), .val (.int (p6 &&& (3 : Int32))), .val (.int nb), .unset, .unset, .unset, .unset, .unset, .unset, .unset, .unset, .unset, .unset] [])) _
  refine XS.iloadN X1.here hx rfl (hb hby at_18) rfl ?_
  show Steps p.tables e below (T1.setTop (mkF m 19 #[.val (.int p1), .val (.int p2), .val (.int p3), .val (.int p4), .val (.int p5), .val (.int p6), .val (.int (p6 &&& (3 : Int32))), .val (.int nb), .unset, .unset, .unset, .unset, .unset, .unset, .unset, .unset, .unset, .unset] [(.int p1)])) _
  refine st2 _ ?_
  show Steps p.tables e below (T2.setTop (mkF m 22 #[.val (.int p1), .val (.int p2), .val (.int p3), .val (.int p4), .val (.int p5), .val (.int p6), .val (.int (p6 &&& (3 : Int32))), .val (.int nb), .unset, .unset, .unset, .unset, .unset, .unset, .unset, .unset, .unset, .unset] [(.int (own_el p1))])) _
  refine XS.istore X2.here hx rfl (hb hby at_22) rfl (l' := #[.val (.int p1), .val (.int p2), .val (.int p3), .val (.int p4), .val (.int p5), .val (.int p6), .val (.int (p6 &&& (3 : Int32))), .val (.int nb), .val (.int (own_el p1)), .unset, .unset, .unset, .unset, .unset, .unset, .unset, .unset, .unset]) rfl ?_
  show Steps p.tables e below (T2.setTop (mkF m 24 #[.val (.int p1), .val (.int p2), .val (.int p3), .val (.int p4), .val (.int p5), .val (.int p6), .val (.int (p6 &&& (3 : Int32))), .val (.int nb), .val (.int (own_el p1)), .unset, .unset, .unset, .unset, .unset, .unset, .unset, .unset, .unset] [])) _
  refine XS.iloadN X2.here hx rfl (hb hby at_24) rfl ?_
  show Steps p.tables e below (T2.setTop (mkF m 25 #[.val (.int p1), .val (.int p2), .val (.int p3), .val (.int p4), .val (.int p5), .val (.int p6), .val (.int (p6 &&& (3 : Int32))), .val (.int nb), .val (.int (own_el p1)), .unset, .unset, .unset, .unset, .unset, .unset, .unset, .unset, .unset] [(.int p2)])) _
  refine st3 _ ?_
  show Steps p.tables e below (T3.setTop (mkF m 28 #[.val (.int p1), .val (.int p2), .val (.int p3), .val (.int p4), .val (.int p5), .val (.int p6), .val (.int (p6 &&& (3 : Int32))), .val (.int nb), .val (.int (own_el p1)), .unset, .unset, .unset, .unset, .unset, .unset, .unset, .unset, .unset] [(.int (own_el p2))])) _
  refine XS.istore X3.here hx rfl (hb hby at_28) rfl (l' := #[.val (.int p1), .val (.int p2), .val (.int p3), .val (.int p4), .val (.int p5), .val (.int p6), .val (.int (p6 &&& (3 : Int32))), .val (.int nb), .val (.int (own_el p1)), .val (.int (own_el p2)), .unset, .unset, .unset, .unset, .unset, .unset, .unset, .unset]) rfl ?_
  show Steps p.tables e below (T3.setTop (mkF m 30 #[.val (.int p1), .val (.int p2), .val (.int p3), .val (.int p4), .val (.int p5), .val (.int p6), .val (.int (p6 &&& (3 : Int32))), .val (.int nb), .val (.int (own_el p1)), .val (.int (own_el p2)), .unset, .unset, .unset, .unset, .unset, .unset, .unset, .unset] [])) _
  refine XS.iloadN X3.here hx rfl (hb hby at_30) rfl ?_
  show Steps p.tables e below (T3.setTop (mkF m 31 #[.val (.int p1), .val (.int p2), .val (.int p3), .val (.int p4), .val (.int p5), .val (.int p6), .val (.int (p6 &&& (3 : Int32))), .val (.int nb), .val (.int (own_el p1)), .val (.int (own_el p2)), .unset, .unset, .unset, .unset, .unset, .unset, .unset, .unset] [(.int p3)])) _
  refine st4 _ ?_
  show Steps p.tables e below (T4.setTop (mkF m 34 #[.val (.int p1), .val (.int p2), .val (.int p3), .val (.int p4), .val (.int p5), .val (.int p6), .val (.int (p6 &&& (3 : Int32))), .val (.int nb), .val (.int (own_el p1)), .val (.int (own_el p2)), .unset, .unset, .unset, .unset, .unset, .unset, .unset, .unset] [(.int (own_el p3))])) _
  refine XS.istore X4.here hx rfl (hb hby at_34) rfl (l' := #[.val (.int p1), .val (.int p2), .val (.int p3), .val (.int p4), .val (.int p5), .val (.int p6), .val (.int (p6 &&& (3 : Int32))), .val (.int nb), .val (.int (own_el p1)), .val (.int (own_el p2)), .val (.int (own_el p3)), .unset, .unset, .unset, .unset, .unset, .unset, .unset]) rfl ?_
  show Steps p.tables e below (T4.setTop (mkF m 36 #[.val (.int p1), .val (.int p2), .val (.int p3), .val (.int p4), .val (.int p5), .val (.int p6), .val (.int (p6 &&& (3 : Int32))), .val (.int nb), .val (.int (own_el p1)), .val (.int (own_el p2)), .val (.int (own_el p3)), .unset, .unset, .unset, .unset, .unset, .unset, .unset] [])) _
  refine XS.iload X4.here hx rfl (hb hby at_36) rfl ?_
  show Steps p.tables e below (T4.setTop (mkF m 38 #[.val (.int p1), .val (.int p2), .val (.int p3), .val (.int p4), .val (.int p5), .val (.int p6), .val (.int (p6 &&& (3 : Int32))), .val (.int nb), .val (.int (own_el p1)), .val (.int (own_el p2)), .val (.int (own_el p3)), .unset, .unset, .unset, .unset, .unset, .unset, .unset] [(.int p6)])) _
  refine XS.iconst X4.here hx rfl (hb hby at_38) ?_
  show Steps p.tables e below (T4.setTop (mkF m 39 #[.val (.int p1), .val (.int p2), .val (.int p3), .val (.int p4), .val (.int p5), .val (.int p6), .val (.int (p6 &&& (3 : Int32))), .val (.int nb), .val (.int (own_el p1)), .val (.int (own_el p2)), .val (.int (own_el p3)), .unset, .unset, .unset, .unset, .unset, .unset, .unset] [(.int (4 : Int32)), (.int p6)])) _
  refine XS.iushr X4.here hx rfl (hb hby at_39) rfl ?_
  show Steps p.tables e below (T4.setTop (mkF m 40 #[.val (.int p1), .val (.int p2), .val (.int p3), .val (.int p4), .val (.int p5), .val (.int p6), .val (.int (p6 &&& (3 : Int32))), .val (.int nb), .val (.int (own_el p1)), .val (.int (own_el p2)), .val (.int (own_el p3)), .unset, .unset, .unset, .unset, .unset, .unset, .unset] [(.int ((p6.toUInt32 >>> ((4 : Int32) &&& 31).toUInt32).toInt32))])) _
  refine XS.iconst X4.here hx rfl (hb hby at_40) ?_
  show Steps p.tables e below (T4.setTop (mkF m 41 #[.val (.int p1), .val (.int p2), .val (.int p3), .val (.int p4), .val (.int p5), .val (.int p6), .val (.int (p6 &&& (3 : Int32))), .val (.int nb), .val (.int (own_el p1)), .val (.int (own_el p2)), .val (.int (own_el p3)), .unset, .unset, .unset, .unset, .unset, .unset, .unset] [(.int (3 : Int32)), (.int ((p6.toUInt32 >>> ((4 : Int32) &&& 31).toUInt32).toInt32))])) _
  refine XS.iand X4.here hx rfl (hb hby at_41) rfl ?_
  show Steps p.tables e below (T4.setTop (mkF m 42 #[.val (.int p1), .val (.int p2), .val (.int p3), .val (.int p4), .val (.int p5), .val (.int p6), .val (.int (p6 &&& (3 : Int32))), .val (.int nb), .val (.int (own_el p1)), .val (.int (own_el p2)), .val (.int (own_el p3)), .unset, .unset, .unset, .unset, .unset, .unset, .unset] [(.int (((p6.toUInt32 >>> ((4 : Int32) &&& 31).toUInt32).toInt32) &&& (3 : Int32)))])) _
  refine XS.iloadN X4.here hx rfl (hb hby at_42) rfl ?_
  show Steps p.tables e below (T4.setTop (mkF m 43 #[.val (.int p1), .val (.int p2), .val (.int p3), .val (.int p4), .val (.int p5), .val (.int p6), .val (.int (p6 &&& (3 : Int32))), .val (.int nb), .val (.int (own_el p1)), .val (.int (own_el p2)), .val (.int (own_el p3)), .unset, .unset, .unset, .unset, .unset, .unset, .unset] [(.int p4), (.int (((p6.toUInt32 >>> ((4 : Int32) &&& 31).toUInt32).toInt32) &&& (3 : Int32)))])) _
  refine st5 _ ?_
  show Steps p.tables e below (T5.setTop (mkF m 46 #[.val (.int p1), .val (.int p2), .val (.int p3), .val (.int p4), .val (.int p5), .val (.int p6), .val (.int (p6 &&& (3 : Int32))), .val (.int nb), .val (.int (own_el p1)), .val (.int (own_el p2)), .val (.int (own_el p3)), .unset, .unset, .unset, .unset, .unset, .unset, .unset] [(.int (own_el p4)), (.int (((p6.toUInt32 >>> ((4 : Int32) &&& 31).toUInt32).toInt32) &&& (3 : Int32)))])) _
  refine XS.iload X5.here hx rfl (hb hby at_46) rfl ?_
  show Steps p.tables e below (T5.setTop (mkF m 48 #[.val (.int p1), .val (.int p2), .val (.int p3), .val (.int p4), .val (.int p5), .val (.int p6), .val (.int (p6 &&& (3 : Int32))), .val (.int nb), .val (.int (own_el p1)), .val (.int (own_el p2)), .val (.int (own_el p3)), .unset, .unset, .unset, .unset, .unset, .unset, .unset] [(.int (own_el p1)), (.int (own_el p4)), (.int (((p6.toUInt32 >>> ((4 : Int32) &&& 31).toUInt32).toInt32) &&& (3 : Int32)))])) _
  refine XS.iload X5.here hx rfl (hb hby at_48) rfl ?_
  show Steps p.tables e below (T5.setTop (mkF m 50 #[.val (.int p1), .val (.int p2), .val (.int p3), .val (.int p4), .val (.int p5), .val (.int p6), .val (.int (p6 &&& (3 : Int32))), .val (.int nb), .val (.int (own_el p1)), .val (.int (own_el p2)), .val (.int (own_el p3)), .unset, .unset, .unset, .unset, .unset, .unset, .unset] [(.int (own_el p2)), (.int (own_el p1)), (.int (own_el p4)), (.int (((p6.toUInt32 >>> ((4 : Int32) &&& 31).toUInt32).toInt32) &&& (3 : Int32)))])) _
  refine XS.iload X5.here hx rfl (hb hby at_50) rfl ?_
  show Steps p.tables e below (T5.setTop (mkF m 52 #[.val (.int p1), .val (.int p2), .val (.int p3), .val (.int p4), .val (.int p5), .val (.int p6), .val (.int (p6 &&& (3 : Int32))), .val (.int nb), .val (.int (own_el p1)), .val (.int (own_el p2)), .val (.int (own_el p3)), .unset, .unset, .unset, .unset, .unset, .unset, .unset] [(.int (own_el p3)), (.int (own_el p2)), (.int (own_el p1)), (.int (own_el p4)), (.int (((p6.toUInt32 >>> ((4 : Int32) &&& 31).toUInt32).toInt32) &&& (3 : Int32)))])) _
  refine st6 _ ?_
  show Steps p.tables e below (T6.setTop (mkF m 55 #[.val (.int p1), .val (.int p2), .val (.int p3), .val (.int p4), .val (.int p5), .val (.int p6), .val (.int (p6 &&& (3 : Int32))), .val (.int nb), .val (.int (own_el p1)), .val (.int (own_el p2)), .val (.int (own_el p3)), .unset, .unset, .unset, .unset, .unset, .unset, .unset] [(.int y0)])) _
  refine XS.istore X6.here hx rfl (hb hby at_55) rfl (l' := #[.val (.int p1), .val (.int p2), .val (.int p3), .val (.int p4), .val (.int p5), .val (.int p6), .val (.int (p6 &&& (3 : Int32))), .val (.int nb), .val (.int (own_el p1)), .val (.int (own_el p2)), .val (.int (own_el p3)), .val (.int y0), .unset, .unset, .unset, .unset, .unset, .unset]) rfl ?_
  show Steps p.tables e below (T6.setTop (mkF m 57 #[.val (.int p1), .val (.int p2), .val (.int p3), .val (.int p4), .val (.int p5), .val (.int p6), .val (.int (p6 &&& (3 : Int32))), .val (.int nb), .val (.int (own_el p1)), .val (.int (own_el p2)), .val (.int (own_el p3)), .val (.int y0), .unset, .unset, .unset, .unset, .unset, .unset] [])) _
  refine XS.iload X6.here hx rfl (hb hby at_57) rfl ?_
  show Steps p.tables e below (T6.setTop (mkF m 59 #[.val (.int p1), .val (.int p2), .val (.int p3), .val (.int p4), .val (.int p5), .val (.int p6), .val (.int (p6 &&& (3 : Int32))), .val (.int nb), .val (.int (own_el p1)), .val (.int (own_el p2)), .val (.int (own_el p3)), .val (.int y0), .unset, .unset, .unset, .unset, .unset, .unset] [(.int p6)])) _
  refine XS.bipush X6.here hx rfl (hb hby at_59) ?_
  show Steps p.tables e below (T6.setTop (mkF m 61 #[.val (.int p1), .val (.int p2), .val (.int p3), .val (.int p4), .val (.int p5), .val (.int p6), .val (.int (p6 &&& (3 : Int32))), .val (.int nb), .val (.int (own_el p1)), .val (.int (own_el p2)), .val (.int (own_el p3)), .val (.int y0), .unset, .unset, .unset, .unset, .unset, .unset] [(.int (6 : Int32)), (.int p6)])) _
  refine XS.iushr X6.here hx rfl (hb hby at_61) rfl ?_
  show Steps p.tables e below (T6.setTop (mkF m 62 #[.val (.int p1), .val (.int p2), .val (.int p3), .val (.int p4), .val (.int p5), .val (.int p6), .val (.int (p6 &&& (3 : Int32))), .val (.int nb), .val (.int (own_el p1)), .val (.int (own_el p2)), .val (.int (own_el p3)), .val (.int y0), .unset, .unset, .unset, .unset, .unset, .unset] [(.int ((p6.toUInt32 >>> ((6 : Int32) &&& 31).toUInt32).toInt32))])) _
  refine XS.iconst X6.here hx rfl (hb hby at_62) ?_
  show Steps p.tables e below (T6.setTop (mkF m 63 #[.val (.int p1), .val (.int p2), .val (.int p3), .val (.int p4), .val (.int p5), .val (.int p6), .val (.int (p6 &&& (3 : Int32))), .val (.int nb), .val (.int (own_el p1)), .val (.int (own_el p2)), .val (.int (own_el p3)), .val (.int y0), .unset, .unset, .unset, .unset, .unset, .unset] [(.int (3 : Int32)), (.int ((p6.toUInt32 >>> ((6 : Int32) &&& 31).toUInt32).toInt32))])) _
  refine XS.iand X6.here hx rfl (hb hby at_63) rfl ?_
  show Steps p.tables e below (T6.setTop (mkF m 64 #[.val (.int p1), .val (.int p2), .val (.int p3), .val (.int p4), .val (.int p5), .val (.int p6), .val (.int (p6 &&& (3 : Int32))), .val (.int nb), .val (.int (own_el p1)), .val (.int (own_el p2)), .val (.int (own_el p3)), .val (.int y0), .unset, .unset, .unset, .unset, .unset, .unset] [(.int (((p6.toUInt32 >>> ((6 : Int32) &&& 31).toUInt32).toInt32) &&& (3 : Int32)))])) _
  refine XS.iload X6.here hx rfl (hb hby at_64) rfl ?_
  show Steps p.tables e below (T6.setTop (mkF m 66 #[.val (.int p1), .val (.int p2), .val (.int p3), .val (.int p4), .val (.int p5), .val (.int p6), .val (.int (p6 &&& (3 : Int32))), .val (.int nb), .val (.int (own_el p1)), .val (.int (own_el p2)), .val (.int (own_el p3)), .val (.int y0), .unset, .unset, .unset, .unset, .unset, .unset] [(.int p5), (.int (((p6.toUInt32 >>> ((6 : Int32) &&& 31).toUInt32).toInt32) &&& (3 : Int32)))])) _
  refine st7 _ ?_
  show Steps p.tables e below (T7.setTop (mkF m 69 #[.val (.int p1), .val (.int p2), .val (.int p3), .val (.int p4), .val (.int p5), .val (.int p6), .val (.int (p6 &&& (3 : Int32))), .val (.int nb), .val (.int (own_el p1)), .val (.int (own_el p2)), .val (.int (own_el p3)), .val (.int y0), .unset, .unset, .unset, .unset, .unset, .unset] [(.int (own_el p5)), (.int (((p6.toUInt32 >>> ((6 : Int32) &&& 31).toUInt32).toInt32) &&& (3 : Int32)))])) _
  refine XS.iload X7.here hx rfl (hb hby at_69) rfl ?_
  show Steps p.tables e below (T7.setTop (mkF m 71 #[.val (.int p1), .val (.int p2), .val (.int p3), .val (.int p4), .val (.int p5), .val (.int p6), .val (.int (p6 &&& (3 : Int32))), .val (.int nb), .val (.int (own_el p1)), .val (.int (own_el p2)), .val (.int (own_el p3)), .val (.int y0), .unset, .unset, .unset, .unset, .unset, .unset] [(.int (own_el p1)), (.int (own_el p5)), (.int (((p6.toUInt32 >>> ((6 : Int32) &&& 31).toUInt32).toInt32) &&& (3 : Int32)))])) _
  refine XS.iload X7.here hx rfl (hb hby at_71) rfl ?_
  show Steps p.tables e below (T7.setTop (mkF m 73 #[.val (.int p1), .val (.int p2), .val (.int p3), .val (.int p4), .val (.int p5), .val (.int p6), .val (.int (p6 &&& (3 : Int32))), .val (.int nb), .val (.int (own_el p1)), .val (.int (own_el p2)), .val (.int (own_el p3)), .val (.int y0), .unset, .unset, .unset, .unset, .unset, .unset] [(.int (own_el p2)), (.int (own_el p1)), (.int (own_el p5)), (.int (((p6.toUInt32 >>> ((6 : Int32) &&& 31).toUInt32).toInt32) &&& (3 : Int32)))])) _
  refine XS.iload X7.here hx rfl (hb hby at_73) rfl ?_
  show Steps p.tables e below (T7.setTop (mkF m 75 #[.val (.int p1), .val (.int p2), .val (.int p3), .val (.int p4), .val (.int p5), .val (.int p6), .val (.int (p6 &&& (3 : Int32))), .val (.int nb), .val (.int (own_el p1)), .val (.int (own_el p2)), .val (.int (own_el p3)), .val (.int y0), .unset, .unset, .unset, .unset, .unset, .unset] [(.int (own_el p3)), (.int (own_el p2)), (.int (own_el p1)), (.int (own_el p5)), (.int (((p6.toUInt32 >>> ((6 : Int32) &&& 31).toUInt32).toInt32) &&& (3 : Int32)))])) _
  refine st8 _ ?_
  show Steps p.tables e below (T8.setTop (mkF m 78 #[.val (.int p1), .val (.int p2), .val (.int p3), .val (.int p4), .val (.int p5), .val (.int p6), .val (.int (p6 &&& (3 : Int32))), .val (.int nb), .val (.int (own_el p1)), .val (.int (own_el p2)), .val (.int (own_el p3)), .val (.int y0), .unset, .unset, .unset, .unset, .unset, .unset] [(.int y1)])) _
  refine XS.istore X8.here hx rfl (hb hby at_78) rfl (l' := #[.val (.int p1), .val (.int p2), .val (.int p3), .val (.int p4), .val (.int p5), .val (.int p6), .val (.int (p6 &&& (3 : Int32))), .val (.int nb), .val (.int (own_el p1)), .val (.int (own_el p2)), .val (.int (own_el p3)), .val (.int y0), .val (.int y1), .unset, .unset, .unset, .unset, .unset]) rfl ?_
  exact kt
set_option maxRecDepth 65536 in
set_option maxHeartbeats 40000000 in
theorem segNA {p : Program} {l : Launch} {e : Env} {s : State} {m : MethodId} {args : Array Value} {below : List Frame} {meth : Method} {c : Code} {T0 : State} {locs : List Loc} {Z : State} {a0 : Array Value} {h0 : Heap} {n0 : Nat} (s0 : Slot) (s1 : Slot) (s2 : Slot) (s3 : Slot) (s4 : Slot) (s5 : Slot) (s6 : Slot) (s7 : Slot) (s8 : Slot) (s9 : Slot) (s10 : Slot) (s11 : Slot) (s12 : Slot) (X0 : Stand p l e room_1 s m args below meth c T0 locs (0) (0)) (hx : p.tables.exec = Jvm.exec) (hZ : Z.Warmed39 s.vm) (hw : ∀ d ∈ tables_1, d.before a0 Z = true) (hby : c.code = code) (hml : c.maxLocals = 18) (hown : s.vm.findClass "com/example/subsumption/subsumption/IntSetContainsAllPinLaw" = some m.cls) (e0 : T0.heap = h0) (N0 : Fr n0 locs) (Z0 : n0 ≤ h0.size)   :
    ∃ (T' : State) (h' : Heap) (locs' : List Loc) (ob : Addr) (br : Addr), Stand p l e room_1 s m args below meth c T' locs' (2) (6) ∧ T'.heap = h' ∧ Fr n0 locs' ∧ n0 ≤ h'.size ∧ Keep h0 h' [] ∧ SetA Z h' n0 ob br 4 [0, 0, 0, 0] 0 ∧ h0.size ≤ ob ∧ h0.size ≤ br ∧ 
      ∀ target, Steps p.tables e below (T'.setTop (mkF m 89 #[s0, s1, s2, s3, s4, s5, s6, s7, s8, s9, s10, s11, s12, .val (.ref ob), .unset, .unset, .unset, .unset] [])) target → Steps p.tables e below (T0.setTop (mkF m 80 #[s0, s1, s2, s3, s4, s5, s6, s7, s8, s9, s10, s11, s12, .unset, .unset, .unset, .unset, .unset] [])) target := by
  obtain ⟨T1, h1, X1, e1, E1, A1, D1, -, st1⟩ := newO X0 hx hZ hown (hw _ (List.mem_of_getElem? (i := 12) rfl)) (hw _ (List.mem_of_getElem? (i := 13) rfl)) (hw _ (List.mem_of_getElem? (i := 14) rfl)) e0 (g := (mkF m 80 #[s0, s1, s2, s3, s4, s5, s6, s7, s8, s9, s10, s11, s12, .unset, .unset, .unset, .unset, .unset] [])) rfl (hb hby at_80) (Nat.le_of_ble_eq_true rfl) (Nat.le_of_ble_eq_true rfl)
  obtain ⟨ob, g1⟩ : ∃ z, z = h0.size := ⟨_, rfl⟩
  rw [← g1] at A1 D1 st1
  have g_ob : n0 ≤ ob := Nat.le_trans Z0 (Nat.le_of_eq g1.symm)
  have sz_ob : h0.size ≤ ob := Nat.le_trans (Keep.refl h0 []).1 (Nat.le_of_eq g1.symm)
  have z1 : n0 ≤ h1.size := Nat.le_trans Z0 E1.1
  have K2 : Keep h0 h1 [] := (Keep.refl h0 []).ext E1
  have F_slots_ob : Fld Z h1 ob "com/example/subsumption/subsumption/IntSet" "slots" "[I" .null := D1 (Or.inl (hw _ (List.mem_of_getElem? (i := 23) rfl))) (ty := (.array .int)) (by decide)
  have F_size_ob : Fld Z h1 ob "com/example/subsumption/subsumption/IntSet" "size" "I" (.int (0 : Int32)) := D1 (Or.inl (hw _ (List.mem_of_getElem? (i := 40) rfl))) (ty := .int) (by decide)
  obtain ⟨_, _, ⟨T3, L3, k3, n3⟩, -, X3, ⟨Lc3, hQ3, l3, y3, z3⟩, st3⟩ := X1.specialBack hx (y := (⟨"com/example/subsumption/subsumption/IntSet", "<init>", "()V"⟩ : MethodName)) rfl hown (mvT hZ (hw _ (List.mem_of_getElem? (i := 15) rfl))) (mvT hZ (hw _ (List.mem_of_getElem? (i := 16) rfl))) (mvT hZ (hw _ (List.mem_of_getElem? (i := 17) rfl))) (by decide) (backOf (W := 1) (rm4 l Z a0 hw [] ob _ h1 n0 z1 A1 g_ob F_slots_ob F_size_ob) hZ (hw _ (List.mem_of_getElem? (i := 17) rfl)) (hw _ (List.mem_of_getElem? (i := 14) rfl)) (by decide) (by decide)) (g := (mkF m 84 #[s0, s1, s2, s3, s4, s5, s6, s7, s8, s9, s10, s11, s12, .unset, .unset, .unset, .unset, .unset] [(.ref ob), (.ref ob)])) rfl (by rw [hml]; rfl) (Steps.refl _) (a := ob) (argsL := []) (rest := [(.ref ob)]) (lenOf pd___V rfl) rfl (by show 2 * 0 + _ ≤ _; exact Nat.le_of_eq rfl) (hb hby at_84) (fun _ _ => ⟨rfl, e1, (Nat.le_of_ble_eq_true rfl), (Nat.le_of_ble_eq_true rfl)⟩)
  dsimp only [Pt.U, Pt.locs, Pt.cells, Pt.slots] at X3 l3 y3 z3 st3 hQ3
  subst l3 y3 z3
  obtain ⟨rfl, N3q, br, Kc3, SA3, sr3⟩ := hQ3
  have N3 := Fr.app N0 N3q
  have f4_E_ob := A1.keep Kc3
  have K5 : Keep h0 T3.heap [] := K2.trans Kc3 (allS (Or.inr sz_ob) all0)
  have zz3 : n0 ≤ T3.heap.size := Nat.le_trans z1 Kc3.1
  refine ⟨T3, T3.heap, _, ob, br, X3, rfl, N3, zz3, K5, SA3, sz_ob, (Nat.le_trans K2.1 sr3), fun target kt => ?_⟩
  show Steps p.tables e below (T0.setTop (mkF m 80 #[s0, s1, s2, s3, s4, s5, s6, s7, s8, s9, s10, s11, s12, .unset, .unset, .unset, .unset, .unset] [])) _
  refine st1 _ ?_
  show Steps p.tables e below (T1.setTop (mkF m 83 #[s0, s1, s2, s3, s4, s5, s6, s7, s8, s9, s10, s11, s12, .unset, .unset, .unset, .unset, .unset] [(.ref ob)])) _
  refine XS.dup X1.here hx rfl (hb hby at_83) rfl rfl ?_
  show Steps p.tables e below (T1.setTop (mkF m 84 #[s0, s1, s2, s3, s4, s5, s6, s7, s8, s9, s10, s11, s12, .unset, .unset, .unset, .unset, .unset] [(.ref ob), (.ref ob)])) _
  refine st3.trans ?_
  show Steps p.tables e below (T3.setTop (mkF m 87 #[s0, s1, s2, s3, s4, s5, s6, s7, s8, s9, s10, s11, s12, .unset, .unset, .unset, .unset, .unset] [(.ref ob)])) _
  refine XS.astore X3.here hx rfl (hb hby at_87) rfl rfl (l' := #[s0, s1, s2, s3, s4, s5, s6, s7, s8, s9, s10, s11, s12, .val (.ref ob), .unset, .unset, .unset, .unset]) rfl ?_
  exact kt
set_option maxRecDepth 65536 in
set_option maxHeartbeats 40000000 in
theorem segNB {p : Program} {l : Launch} {e : Env} {s : State} {m : MethodId} {args : Array Value} {below : List Frame} {meth : Method} {c : Code} {T0 : State} {locs : List Loc} {Z : State} {a0 : Array Value} {h0 : Heap} {n0 : Nat} (s0 : Slot) (s1 : Slot) (s2 : Slot) (s3 : Slot) (s4 : Slot) (s5 : Slot) (s6 : Slot) (s7 : Slot) (s8 : Slot) (s9 : Slot) (s10 : Slot) (s11 : Slot) (s12 : Slot) (s13 : Slot) (X0 : Stand p l e room_1 s m args below meth c T0 locs (5) (30)) (hx : p.tables.exec = Jvm.exec) (hZ : Z.Warmed39 s.vm) (hw : ∀ d ∈ tables_1, d.before a0 Z = true) (hby : c.code = code) (hml : c.maxLocals = 18) (hown : s.vm.findClass "com/example/subsumption/subsumption/IntSetContainsAllPinLaw" = some m.cls) (e0 : T0.heap = h0) (N0 : Fr n0 locs) (Z0 : n0 ≤ h0.size)   :
    ∃ (T' : State) (h' : Heap) (locs' : List Loc) (ob : Addr) (br : Addr), Stand p l e room_1 s m args below meth c T' locs' (7) (36) ∧ T'.heap = h' ∧ Fr n0 locs' ∧ n0 ≤ h'.size ∧ Keep h0 h' [] ∧ SetA Z h' n0 ob br 4 [0, 0, 0, 0] 0 ∧ h0.size ≤ ob ∧ h0.size ≤ br ∧ 
      ∀ target, Steps p.tables e below (T'.setTop (mkF m 139 #[s0, s1, s2, s3, s4, s5, s6, s7, s8, s9, s10, s11, s12, s13, .val (.ref ob), .unset, .unset, .unset] [])) target → Steps p.tables e below (T0.setTop (mkF m 130 #[s0, s1, s2, s3, s4, s5, s6, s7, s8, s9, s10, s11, s12, s13, .unset, .unset, .unset, .unset] [])) target := by
  obtain ⟨T1, h1, X1, e1, E1, A1, D1, -, st1⟩ := newO X0 hx hZ hown (hw _ (List.mem_of_getElem? (i := 12) rfl)) (hw _ (List.mem_of_getElem? (i := 13) rfl)) (hw _ (List.mem_of_getElem? (i := 14) rfl)) e0 (g := (mkF m 130 #[s0, s1, s2, s3, s4, s5, s6, s7, s8, s9, s10, s11, s12, s13, .unset, .unset, .unset, .unset] [])) rfl (hb hby at_130) (Nat.le_of_ble_eq_true rfl) (Nat.le_of_ble_eq_true rfl)
  obtain ⟨ob, g1⟩ : ∃ z, z = h0.size := ⟨_, rfl⟩
  rw [← g1] at A1 D1 st1
  have g_ob : n0 ≤ ob := Nat.le_trans Z0 (Nat.le_of_eq g1.symm)
  have sz_ob : h0.size ≤ ob := Nat.le_trans (Keep.refl h0 []).1 (Nat.le_of_eq g1.symm)
  have z1 : n0 ≤ h1.size := Nat.le_trans Z0 E1.1
  have K2 : Keep h0 h1 [] := (Keep.refl h0 []).ext E1
  have F_slots_ob : Fld Z h1 ob "com/example/subsumption/subsumption/IntSet" "slots" "[I" .null := D1 (Or.inl (hw _ (List.mem_of_getElem? (i := 23) rfl))) (ty := (.array .int)) (by decide)
  have F_size_ob : Fld Z h1 ob "com/example/subsumption/subsumption/IntSet" "size" "I" (.int (0 : Int32)) := D1 (Or.inl (hw _ (List.mem_of_getElem? (i := 40) rfl))) (ty := .int) (by decide)
  obtain ⟨_, _, ⟨T3, L3, k3, n3⟩, -, X3, ⟨Lc3, hQ3, l3, y3, z3⟩, st3⟩ := X1.specialBack hx (y := (⟨"com/example/subsumption/subsumption/IntSet", "<init>", "()V"⟩ : MethodName)) rfl hown (mvT hZ (hw _ (List.mem_of_getElem? (i := 15) rfl))) (mvT hZ (hw _ (List.mem_of_getElem? (i := 16) rfl))) (mvT hZ (hw _ (List.mem_of_getElem? (i := 17) rfl))) (by decide) (backOf (W := 1) (rm4 l Z a0 hw [] ob _ h1 n0 z1 A1 g_ob F_slots_ob F_size_ob) hZ (hw _ (List.mem_of_getElem? (i := 17) rfl)) (hw _ (List.mem_of_getElem? (i := 14) rfl)) (by decide) (by decide)) (g := (mkF m 134 #[s0, s1, s2, s3, s4, s5, s6, s7, s8, s9, s10, s11, s12, s13, .unset, .unset, .unset, .unset] [(.ref ob), (.ref ob)])) rfl (by rw [hml]; rfl) (Steps.refl _) (a := ob) (argsL := []) (rest := [(.ref ob)]) (lenOf pd___V rfl) rfl (by show 2 * 0 + _ ≤ _; exact Nat.le_of_eq rfl) (hb hby at_134) (fun _ _ => ⟨rfl, e1, (Nat.le_of_ble_eq_true rfl), (Nat.le_of_ble_eq_true rfl)⟩)
  dsimp only [Pt.U, Pt.locs, Pt.cells, Pt.slots] at X3 l3 y3 z3 st3 hQ3
  subst l3 y3 z3
  obtain ⟨rfl, N3q, br, Kc3, SA3, sr3⟩ := hQ3
  have N3 := Fr.app N0 N3q
  have f4_E_ob := A1.keep Kc3
  have K5 : Keep h0 T3.heap [] := K2.trans Kc3 (allS (Or.inr sz_ob) all0)
  have zz3 : n0 ≤ T3.heap.size := Nat.le_trans z1 Kc3.1
  refine ⟨T3, T3.heap, _, ob, br, X3, rfl, N3, zz3, K5, SA3, sz_ob, (Nat.le_trans K2.1 sr3), fun target kt => ?_⟩
  show Steps p.tables e below (T0.setTop (mkF m 130 #[s0, s1, s2, s3, s4, s5, s6, s7, s8, s9, s10, s11, s12, s13, .unset, .unset, .unset, .unset] [])) _
  refine st1 _ ?_
  show Steps p.tables e below (T1.setTop (mkF m 133 #[s0, s1, s2, s3, s4, s5, s6, s7, s8, s9, s10, s11, s12, s13, .unset, .unset, .unset, .unset] [(.ref ob)])) _
  refine XS.dup X1.here hx rfl (hb hby at_133) rfl rfl ?_
  show Steps p.tables e below (T1.setTop (mkF m 134 #[s0, s1, s2, s3, s4, s5, s6, s7, s8, s9, s10, s11, s12, s13, .unset, .unset, .unset, .unset] [(.ref ob), (.ref ob)])) _
  refine st3.trans ?_
  show Steps p.tables e below (T3.setTop (mkF m 137 #[s0, s1, s2, s3, s4, s5, s6, s7, s8, s9, s10, s11, s12, s13, .unset, .unset, .unset, .unset] [(.ref ob)])) _
  refine XS.astore X3.here hx rfl (hb hby at_137) rfl rfl (l' := #[s0, s1, s2, s3, s4, s5, s6, s7, s8, s9, s10, s11, s12, s13, .val (.ref ob), .unset, .unset, .unset]) rfl ?_
  exact kt
theorem pd__I_Z : parseMethodDescriptor "(I)Z" = some ⟨[.int], some .boolean⟩ := by decide +kernel
set_option maxRecDepth 65536 in
set_option maxHeartbeats 40000000 in
theorem segA0y {p : Program} {l : Launch} {e : Env} {s : State} {m : MethodId} {args : Array Value} {below : List Frame} {meth : Method} {c : Code} {T0 : State} {locs : List Loc} {Z : State} {a0 : Array Value} {h0 : Heap} {n0 : Nat} (na xe : Int32) (oa ar : Addr) (vs : List Int32) (sz : Nat) (s0 : Slot) (s1 : Slot) (s2 : Slot) (s3 : Slot) (s4 : Slot) (s5 : Slot) (s7 : Slot) (s9 : Slot) (s10 : Slot) (s11 : Slot) (s12 : Slot) (s14 : Slot) (s15 : Slot) (s16 : Slot) (s17 : Slot) (X0 : Stand p l e room_1 s m args below meth c T0 locs (2) (6)) (hx : p.tables.exec = Jvm.exec) (hZ : Z.Warmed39 s.vm) (hw : ∀ d ∈ tables_1, d.before a0 Z = true) (hby : c.code = code) (hml : c.maxLocals = 18) (hown : s.vm.findClass "com/example/subsumption/subsumption/IntSetContainsAllPinLaw" = some m.cls) (e0 : T0.heap = h0) (N0 : Fr n0 locs) (Z0 : n0 ≤ h0.size) (S : SetA Z h0 n0 oa ar 4 vs sz) (hsz : sz ≤ 2) (hE : El xe) (hc91 : (0 : Int32) < na) :
    ∃ (T' : State) (h' : Heap) (locs' : List Loc) (ar2 : Addr) (n2 : Nat) (vs2 : List Int32) (sz2 : Nat), Stand p l e room_1 s m args below meth c T' locs' (3) (14) ∧ T'.heap = h' ∧ Fr n0 locs' ∧ n0 ≤ h'.size ∧ Keep h0 h' [oa, ar] ∧ SetA Z h' n0 oa ar2 n2 vs2 sz2 ∧ (∀ y, y ≠ 0 → (In n2 vs2 y ↔ ((0 < na ∧ y = xe + (1 : Int32)) ∨ In 4 vs y))) ∧ sz2 ≤ sz + 1 ∧ (ar2 = ar ∨ h0.size ≤ ar2) ∧ 
      ∀ target, Steps p.tables e below (T'.setTop (mkF m 102 #[s0, s1, s2, s3, s4, s5, .val (.int na), s7, .val (.int xe), s9, s10, s11, s12, .val (.ref oa), s14, s15, s16, s17] [])) target → Steps p.tables e below (T0.setTop (mkF m 89 #[s0, s1, s2, s3, s4, s5, .val (.int na), s7, .val (.int xe), s9, s10, s11, s12, .val (.ref oa), s14, s15, s16, s17] [])) target := by
  obtain ⟨cq1, kq1, q1a, q1b, q1c⟩ := isOf hZ e0 S.1
  obtain ⟨_, _, ⟨T1, L1, k1, n1⟩, -, X1, ⟨Lc1, hQ1, l1, y1, z1⟩, st1⟩ := X0.virtualBack hx (y := (⟨"com/example/subsumption/subsumption/IntSet", "add", "(I)Z"⟩ : MethodName)) (z := (⟨"com/example/subsumption/subsumption/IntSet", "add", "(I)Z"⟩ : MethodName)) hown (mvT hZ (hw _ (List.mem_of_getElem? (i := 24) rfl))) (mvT hZ (hw _ (List.mem_of_getElem? (i := 25) rfl))) (notFace_of_selects (args := #[]) (mvT hZ (hw _ (List.mem_of_getElem? (i := 27) rfl)))) (mvT hZ (hw _ (List.mem_of_getElem? (i := 27) rfl))) (mvT hZ (hw _ (List.mem_of_getElem? (i := 26) rfl))) (by decide) (backOf (W := 0) (rm6 l Z a0 hw [] oa xe ar 4 vs sz h0 n0 Z0 S hsz hE.1 hE.2.1 hE.2.2) hZ (hw _ (List.mem_of_getElem? (i := 28) rfl)) (hw _ (List.mem_of_getElem? (i := 14) rfl)) (by decide) (by decide)) q1a q1c (g := (mkF m 98 #[s0, s1, s2, s3, s4, s5, .val (.int na), s7, .val (.int xe), s9, s10, s11, s12, .val (.ref oa), s14, s15, s16, s17] [(.int xe), (.ref oa)])) rfl (by rw [hml]; rfl) (Steps.refl _) (argsL := [(.int xe)]) (rest := []) (lenOf pd__I_Z rfl) rfl (by show 2 * 0 + _ ≤ _; exact Nat.le_of_eq rfl) (hb hby at_98) (fun _ _ => ⟨rfl, e0, (Nat.le_of_ble_eq_true rfl), (Nat.le_of_ble_eq_true rfl)⟩)
  dsimp only [Pt.U, Pt.locs, Pt.cells, Pt.slots] at X1 l1 y1 z1 st1 hQ1
  subst l1 y1 z1
  obtain ⟨r1, rfl, N1q, ar2, n2, vs2, sz2, Kc1, S2, hi2, hz2, hf2⟩ := hQ1
  have N1 := Fr.app N0 N1q
  have f2_E_oa := S.1.keep Kc1
  have zz1 : n0 ≤ T1.heap.size := Nat.le_trans Z0 Kc1.1
  refine ⟨T1, T1.heap, _, ar2, n2, vs2, sz2, X1, rfl, N1, zz1, Kc1, S2, (fun y hy => (hi2 y hy).trans ⟨fun q => q.elim (fun q => Or.inl ⟨hc91, q⟩) Or.inr, fun q => q.elim (fun q => Or.inl q.2) Or.inr⟩), hz2, hf2, fun target kt => ?_⟩
  show Steps p.tables e below (T0.setTop (mkF m 89 #[s0, s1, s2, s3, s4, s5, .val (.int na), s7, .val (.int xe), s9, s10, s11, s12, .val (.ref oa), s14, s15, s16, s17] [])) _
  refine XS.iload X0.here hx rfl (hb hby at_89) rfl ?_
  show Steps p.tables e below (T0.setTop (mkF m 91 #[s0, s1, s2, s3, s4, s5, .val (.int na), s7, .val (.int xe), s9, s10, s11, s12, .val (.ref oa), s14, s15, s16, s17] [(.int na)])) _
  refine XS.ifNo X0.here hx rfl (hb hby at_91) rfl ((if0 _ _).trans (tlt hc91).2.2.2) ?_
  show Steps p.tables e below (T0.setTop (mkF m 94 #[s0, s1, s2, s3, s4, s5, .val (.int na), s7, .val (.int xe), s9, s10, s11, s12, .val (.ref oa), s14, s15, s16, s17] [])) _
  refine XS.aload X0.here hx rfl (hb hby at_94) rfl rfl ?_
  show Steps p.tables e below (T0.setTop (mkF m 96 #[s0, s1, s2, s3, s4, s5, .val (.int na), s7, .val (.int xe), s9, s10, s11, s12, .val (.ref oa), s14, s15, s16, s17] [(.ref oa)])) _
  refine XS.iload X0.here hx rfl (hb hby at_96) rfl ?_
  show Steps p.tables e below (T0.setTop (mkF m 98 #[s0, s1, s2, s3, s4, s5, .val (.int na), s7, .val (.int xe), s9, s10, s11, s12, .val (.ref oa), s14, s15, s16, s17] [(.int xe), (.ref oa)])) _
  refine st1.trans ?_
  show Steps p.tables e below (T1.setTop (mkF m 101 #[s0, s1, s2, s3, s4, s5, .val (.int na), s7, .val (.int xe), s9, s10, s11, s12, .val (.ref oa), s14, s15, s16, s17] [(.int r1)])) _
  refine XS.pop X1.here hx rfl (hb hby at_101) rfl rfl ?_
  exact kt
set_option maxRecDepth 65536 in
set_option maxHeartbeats 40000000 in
theorem segA0n {p : Program} {l : Launch} {e : Env} {s : State} {m : MethodId} {args : Array Value} {below : List Frame} {meth : Method} {c : Code} {T0 : State} {locs : List Loc} {Z : State} {a0 : Array Value} {h0 : Heap} {n0 : Nat} (na xe : Int32) (oa ar : Addr) (vs : List Int32) (sz : Nat) (s0 : Slot) (s1 : Slot) (s2 : Slot) (s3 : Slot) (s4 : Slot) (s5 : Slot) (s7 : Slot) (s9 : Slot) (s10 : Slot) (s11 : Slot) (s12 : Slot) (s14 : Slot) (s15 : Slot) (s16 : Slot) (s17 : Slot) (X0 : Stand p l e room_1 s m args below meth c T0 locs (2) (6)) (hx : p.tables.exec = Jvm.exec) (hZ : Z.Warmed39 s.vm) (hw : ∀ d ∈ tables_1, d.before a0 Z = true) (hby : c.code = code) (hml : c.maxLocals = 18) (hown : s.vm.findClass "com/example/subsumption/subsumption/IntSetContainsAllPinLaw" = some m.cls) (e0 : T0.heap = h0) (N0 : Fr n0 locs) (Z0 : n0 ≤ h0.size) (S : SetA Z h0 n0 oa ar 4 vs sz) (hsz : sz ≤ 2) (hE : El xe) (hc91 : ¬ ((0 : Int32) < na)) :
    ∃ (T' : State) (h' : Heap) (locs' : List Loc) (ar2 : Addr) (n2 : Nat) (vs2 : List Int32) (sz2 : Nat), Stand p l e room_1 s m args below meth c T' locs' (3) (14) ∧ T'.heap = h' ∧ Fr n0 locs' ∧ n0 ≤ h'.size ∧ Keep h0 h' [oa, ar] ∧ SetA Z h' n0 oa ar2 n2 vs2 sz2 ∧ (∀ y, y ≠ 0 → (In n2 vs2 y ↔ ((0 < na ∧ y = xe + (1 : Int32)) ∨ In 4 vs y))) ∧ sz2 ≤ sz + 1 ∧ (ar2 = ar ∨ h0.size ≤ ar2) ∧ 
      ∀ target, Steps p.tables e below (T'.setTop (mkF m 102 #[s0, s1, s2, s3, s4, s5, .val (.int na), s7, .val (.int xe), s9, s10, s11, s12, .val (.ref oa), s14, s15, s16, s17] [])) target → Steps p.tables e below (T0.setTop (mkF m 89 #[s0, s1, s2, s3, s4, s5, .val (.int na), s7, .val (.int xe), s9, s10, s11, s12, .val (.ref oa), s14, s15, s16, s17] [])) target := by
  refine ⟨T0, h0, _, ar, 4, vs, sz, X0.more (by decide) (by decide), e0, N0, Z0, Keep.refl _ _, S, (fun y hy => ⟨Or.inr, fun q => q.elim (fun q => absurd q.1 hc91) id⟩), Nat.le_succ _, Or.inl rfl, fun target kt => ?_⟩
  show Steps p.tables e below (T0.setTop (mkF m 89 #[s0, s1, s2, s3, s4, s5, .val (.int na), s7, .val (.int xe), s9, s10, s11, s12, .val (.ref oa), s14, s15, s16, s17] [])) _
  refine XS.iload X0.here hx rfl (hb hby at_89) rfl ?_
  show Steps p.tables e below (T0.setTop (mkF m 91 #[s0, s1, s2, s3, s4, s5, .val (.int na), s7, .val (.int xe), s9, s10, s11, s12, .val (.ref oa), s14, s15, s16, s17] [(.int na)])) _
  refine XS.ifYes X0.here hx rfl (pc0 := 91) (pc' := 102) rfl (hb hby at_91) rfl ((if0 _ _).trans (flt hc91).2.2.2) (by decide) (by decide) ?_
  exact kt
theorem segA0 {p : Program} {l : Launch} {e : Env} {s : State} {m : MethodId} {args : Array Value} {below : List Frame} {meth : Method} {c : Code} {T0 : State} {locs : List Loc} {Z : State} {a0 : Array Value} {h0 : Heap} {n0 : Nat} (na xe : Int32) (oa ar : Addr) (vs : List Int32) (sz : Nat) (s0 : Slot) (s1 : Slot) (s2 : Slot) (s3 : Slot) (s4 : Slot) (s5 : Slot) (s7 : Slot) (s9 : Slot) (s10 : Slot) (s11 : Slot) (s12 : Slot) (s14 : Slot) (s15 : Slot) (s16 : Slot) (s17 : Slot) (X0 : Stand p l e room_1 s m args below meth c T0 locs (2) (6)) (hx : p.tables.exec = Jvm.exec) (hZ : Z.Warmed39 s.vm) (hw : ∀ d ∈ tables_1, d.before a0 Z = true) (hby : c.code = code) (hml : c.maxLocals = 18) (hown : s.vm.findClass "com/example/subsumption/subsumption/IntSetContainsAllPinLaw" = some m.cls) (e0 : T0.heap = h0) (N0 : Fr n0 locs) (Z0 : n0 ≤ h0.size) (S : SetA Z h0 n0 oa ar 4 vs sz) (hsz : sz ≤ 2) (hE : El xe) :
    ∃ (T' : State) (h' : Heap) (locs' : List Loc) (ar2 : Addr) (n2 : Nat) (vs2 : List Int32) (sz2 : Nat), Stand p l e room_1 s m args below meth c T' locs' (3) (14) ∧ T'.heap = h' ∧ Fr n0 locs' ∧ n0 ≤ h'.size ∧ Keep h0 h' [oa, ar] ∧ SetA Z h' n0 oa ar2 n2 vs2 sz2 ∧ (∀ y, y ≠ 0 → (In n2 vs2 y ↔ ((0 < na ∧ y = xe + (1 : Int32)) ∨ In 4 vs y))) ∧ sz2 ≤ sz + 1 ∧ (ar2 = ar ∨ h0.size ≤ ar2) ∧ 
      ∀ target, Steps p.tables e below (T'.setTop (mkF m 102 #[s0, s1, s2, s3, s4, s5, .val (.int na), s7, .val (.int xe), s9, s10, s11, s12, .val (.ref oa), s14, s15, s16, s17] [])) target → Steps p.tables e below (T0.setTop (mkF m 89 #[s0, s1, s2, s3, s4, s5, .val (.int na), s7, .val (.int xe), s9, s10, s11, s12, .val (.ref oa), s14, s15, s16, s17] [])) target := by
  by_cases q : (0 : Int32) < na
  · exact segA0y na xe oa ar vs sz s0 s1 s2 s3 s4 s5 s7 s9 s10 s11 s12 s14 s15 s16 s17 X0 hx hZ hw hby hml hown e0 N0 Z0 S hsz hE q
  · exact segA0n na xe oa ar vs sz s0 s1 s2 s3 s4 s5 s7 s9 s10 s11 s12 s14 s15 s16 s17 X0 hx hZ hw hby hml hown e0 N0 Z0 S hsz hE q
set_option maxRecDepth 65536 in
set_option maxHeartbeats 40000000 in
theorem segA1y {p : Program} {l : Launch} {e : Env} {s : State} {m : MethodId} {args : Array Value} {below : List Frame} {meth : Method} {c : Code} {T0 : State} {locs : List Loc} {Z : State} {a0 : Array Value} {h0 : Heap} {n0 : Nat} (na xe : Int32) (oa ar : Addr) (vs : List Int32) (sz : Nat) (s0 : Slot) (s1 : Slot) (s2 : Slot) (s3 : Slot) (s4 : Slot) (s5 : Slot) (s7 : Slot) (s8 : Slot) (s10 : Slot) (s11 : Slot) (s12 : Slot) (s14 : Slot) (s15 : Slot) (s16 : Slot) (s17 : Slot) (X0 : Stand p l e room_1 s m args below meth c T0 locs (3) (14)) (hx : p.tables.exec = Jvm.exec) (hZ : Z.Warmed39 s.vm) (hw : ∀ d ∈ tables_1, d.before a0 Z = true) (hby : c.code = code) (hml : c.maxLocals = 18) (hown : s.vm.findClass "com/example/subsumption/subsumption/IntSetContainsAllPinLaw" = some m.cls) (e0 : T0.heap = h0) (N0 : Fr n0 locs) (Z0 : n0 ≤ h0.size) (S : SetA Z h0 n0 oa ar 4 vs sz) (hsz : sz ≤ 2) (hE : El xe) (hc105 : (1 : Int32) < na) :
    ∃ (T' : State) (h' : Heap) (locs' : List Loc) (ar2 : Addr) (n2 : Nat) (vs2 : List Int32) (sz2 : Nat), Stand p l e room_1 s m args below meth c T' locs' (4) (22) ∧ T'.heap = h' ∧ Fr n0 locs' ∧ n0 ≤ h'.size ∧ Keep h0 h' [oa, ar] ∧ SetA Z h' n0 oa ar2 n2 vs2 sz2 ∧ (∀ y, y ≠ 0 → (In n2 vs2 y ↔ ((1 < na ∧ y = xe + (1 : Int32)) ∨ In 4 vs y))) ∧ sz2 ≤ sz + 1 ∧ (ar2 = ar ∨ h0.size ≤ ar2) ∧ 
      ∀ target, Steps p.tables e below (T'.setTop (mkF m 116 #[s0, s1, s2, s3, s4, s5, .val (.int na), s7, s8, .val (.int xe), s10, s11, s12, .val (.ref oa), s14, s15, s16, s17] [])) target → Steps p.tables e below (T0.setTop (mkF m 102 #[s0, s1, s2, s3, s4, s5, .val (.int na), s7, s8, .val (.int xe), s10, s11, s12, .val (.ref oa), s14, s15, s16, s17] [])) target := by
  obtain ⟨cq1, kq1, q1a, q1b, q1c⟩ := isOf hZ e0 S.1
  obtain ⟨_, _, ⟨T1, L1, k1, n1⟩, -, X1, ⟨Lc1, hQ1, l1, y1, z1⟩, st1⟩ := X0.virtualBack hx (y := (⟨"com/example/subsumption/subsumption/IntSet", "add", "(I)Z"⟩ : MethodName)) (z := (⟨"com/example/subsumption/subsumption/IntSet", "add", "(I)Z"⟩ : MethodName)) hown (mvT hZ (hw _ (List.mem_of_getElem? (i := 24) rfl))) (mvT hZ (hw _ (List.mem_of_getElem? (i := 25) rfl))) (notFace_of_selects (args := #[]) (mvT hZ (hw _ (List.mem_of_getElem? (i := 27) rfl)))) (mvT hZ (hw _ (List.mem_of_getElem? (i := 27) rfl))) (mvT hZ (hw _ (List.mem_of_getElem? (i := 26) rfl))) (by decide) (backOf (W := 0) (rm6 l Z a0 hw [] oa xe ar 4 vs sz h0 n0 Z0 S hsz hE.1 hE.2.1 hE.2.2) hZ (hw _ (List.mem_of_getElem? (i := 28) rfl)) (hw _ (List.mem_of_getElem? (i := 14) rfl)) (by decide) (by decide)) q1a q1c (g := (mkF m 112 #[s0, s1, s2, s3, s4, s5, .val (.int na), s7, s8, .val (.int xe), s10, s11, s12, .val (.ref oa), s14, s15, s16, s17] [(.int xe), (.ref oa)])) rfl (by rw [hml]; rfl) (Steps.refl _) (argsL := [(.int xe)]) (rest := []) (lenOf pd__I_Z rfl) rfl (by show 2 * 0 + _ ≤ _; exact Nat.le_of_eq rfl) (hb hby at_112) (fun _ _ => ⟨rfl, e0, (Nat.le_of_ble_eq_true rfl), (Nat.le_of_ble_eq_true rfl)⟩)
  dsimp only [Pt.U, Pt.locs, Pt.cells, Pt.slots] at X1 l1 y1 z1 st1 hQ1
  subst l1 y1 z1
  obtain ⟨r1, rfl, N1q, ar2, n2, vs2, sz2, Kc1, S2, hi2, hz2, hf2⟩ := hQ1
  have N1 := Fr.app N0 N1q
  have f2_E_oa := S.1.keep Kc1
  have zz1 : n0 ≤ T1.heap.size := Nat.le_trans Z0 Kc1.1
  refine ⟨T1, T1.heap, _, ar2, n2, vs2, sz2, X1, rfl, N1, zz1, Kc1, S2, (fun y hy => (hi2 y hy).trans ⟨fun q => q.elim (fun q => Or.inl ⟨hc105, q⟩) Or.inr, fun q => q.elim (fun q => Or.inl q.2) Or.inr⟩), hz2, hf2, fun target kt => ?_⟩
  show Steps p.tables e below (T0.setTop (mkF m 102 #[s0, s1, s2, s3, s4, s5, .val (.int na), s7, s8, .val (.int xe), s10, s11, s12, .val (.ref oa), s14, s15, s16, s17] [])) _
  refine XS.iload X0.here hx rfl (hb hby at_102) rfl ?_
  show Steps p.tables e below (T0.setTop (mkF m 104 #[s0, s1, s2, s3, s4, s5, .val (.int na), s7, s8, .val (.int xe), s10, s11, s12, .val (.ref oa), s14, s15, s16, s17] [(.int na)])) _
  refine XS.iconst X0.here hx rfl (hb hby at_104) ?_
  show Steps p.tables e below (T0.setTop (mkF m 105 #[s0, s1, s2, s3, s4, s5, .val (.int na), s7, s8, .val (.int xe), s10, s11, s12, .val (.ref oa), s14, s15, s16, s17] [(.int (1 : Int32)), (.int na)])) _
  refine XS.icmpNo X0.here hx rfl (hb hby at_105) rfl (tlt hc105).2.2.2 ?_
  show Steps p.tables e below (T0.setTop (mkF m 108 #[s0, s1, s2, s3, s4, s5, .val (.int na), s7, s8, .val (.int xe), s10, s11, s12, .val (.ref oa), s14, s15, s16, s17] [])) _
  refine XS.aload X0.here hx rfl (hb hby at_108) rfl rfl ?_
  show Steps p.tables e below (T0.setTop (mkF m 110 #[s0, s1, s2, s3, s4, s5, .val (.int na), s7, s8, .val (.int xe), s10, s11, s12, .val (.ref oa), s14, s15, s16, s17] [(.ref oa)])) _
  refine XS.iload X0.here hx rfl (hb hby at_110) rfl ?_
  show Steps p.tables e below (T0.setTop (mkF m 112 #[s0, s1, s2, s3, s4, s5, .val (.int na), s7, s8, .val (.int xe), s10, s11, s12, .val (.ref oa), s14, s15, s16, s17] [(.int xe), (.ref oa)])) _
  refine st1.trans ?_
  show Steps p.tables e below (T1.setTop (mkF m 115 #[s0, s1, s2, s3, s4, s5, .val (.int na), s7, s8, .val (.int xe), s10, s11, s12, .val (.ref oa), s14, s15, s16, s17] [(.int r1)])) _
  refine XS.pop X1.here hx rfl (hb hby at_115) rfl rfl ?_
  exact kt
set_option maxRecDepth 65536 in
set_option maxHeartbeats 40000000 in
theorem segA1n {p : Program} {l : Launch} {e : Env} {s : State} {m : MethodId} {args : Array Value} {below : List Frame} {meth : Method} {c : Code} {T0 : State} {locs : List Loc} {Z : State} {a0 : Array Value} {h0 : Heap} {n0 : Nat} (na xe : Int32) (oa ar : Addr) (vs : List Int32) (sz : Nat) (s0 : Slot) (s1 : Slot) (s2 : Slot) (s3 : Slot) (s4 : Slot) (s5 : Slot) (s7 : Slot) (s8 : Slot) (s10 : Slot) (s11 : Slot) (s12 : Slot) (s14 : Slot) (s15 : Slot) (s16 : Slot) (s17 : Slot) (X0 : Stand p l e room_1 s m args below meth c T0 locs (3) (14)) (hx : p.tables.exec = Jvm.exec) (hZ : Z.Warmed39 s.vm) (hw : ∀ d ∈ tables_1, d.before a0 Z = true) (hby : c.code = code) (hml : c.maxLocals = 18) (hown : s.vm.findClass "com/example/subsumption/subsumption/IntSetContainsAllPinLaw" = some m.cls) (e0 : T0.heap = h0) (N0 : Fr n0 locs) (Z0 : n0 ≤ h0.size) (S : SetA Z h0 n0 oa ar 4 vs sz) (hsz : sz ≤ 2) (hE : El xe) (hc105 : ¬ ((1 : Int32) < na)) :
    ∃ (T' : State) (h' : Heap) (locs' : List Loc) (ar2 : Addr) (n2 : Nat) (vs2 : List Int32) (sz2 : Nat), Stand p l e room_1 s m args below meth c T' locs' (4) (22) ∧ T'.heap = h' ∧ Fr n0 locs' ∧ n0 ≤ h'.size ∧ Keep h0 h' [oa, ar] ∧ SetA Z h' n0 oa ar2 n2 vs2 sz2 ∧ (∀ y, y ≠ 0 → (In n2 vs2 y ↔ ((1 < na ∧ y = xe + (1 : Int32)) ∨ In 4 vs y))) ∧ sz2 ≤ sz + 1 ∧ (ar2 = ar ∨ h0.size ≤ ar2) ∧ 
      ∀ target, Steps p.tables e below (T'.setTop (mkF m 116 #[s0, s1, s2, s3, s4, s5, .val (.int na), s7, s8, .val (.int xe), s10, s11, s12, .val (.ref oa), s14, s15, s16, s17] [])) target → Steps p.tables e below (T0.setTop (mkF m 102 #[s0, s1, s2, s3, s4, s5, .val (.int na), s7, s8, .val (.int xe), s10, s11, s12, .val (.ref oa), s14, s15, s16, s17] [])) target := by
  refine ⟨T0, h0, _, ar, 4, vs, sz, X0.more (by decide) (by decide), e0, N0, Z0, Keep.refl _ _, S, (fun y hy => ⟨Or.inr, fun q => q.elim (fun q => absurd q.1 hc105) id⟩), Nat.le_succ _, Or.inl rfl, fun target kt => ?_⟩
  show Steps p.tables e below (T0.setTop (mkF m 102 #[s0, s1, s2, s3, s4, s5, .val (.int na), s7, s8, .val (.int xe), s10, s11, s12, .val (.ref oa), s14, s15, s16, s17] [])) _
  refine XS.iload X0.here hx rfl (hb hby at_102) rfl ?_
  show Steps p.tables e below (T0.setTop (mkF m 104 #[s0, s1, s2, s3, s4, s5, .val (.int na), s7, s8, .val (.int xe), s10, s11, s12, .val (.ref oa), s14, s15, s16, s17] [(.int na)])) _
  refine XS.iconst X0.here hx rfl (hb hby at_104) ?_
  show Steps p.tables e below (T0.setTop (mkF m 105 #[s0, s1, s2, s3, s4, s5, .val (.int na), s7, s8, .val (.int xe), s10, s11, s12, .val (.ref oa), s14, s15, s16, s17] [(.int (1 : Int32)), (.int na)])) _
  refine XS.icmpYes X0.here hx rfl (pc0 := 105) (pc' := 116) rfl (hb hby at_105) rfl (flt hc105).2.2.2 (by decide) (by decide) ?_
  exact kt
theorem segA1 {p : Program} {l : Launch} {e : Env} {s : State} {m : MethodId} {args : Array Value} {below : List Frame} {meth : Method} {c : Code} {T0 : State} {locs : List Loc} {Z : State} {a0 : Array Value} {h0 : Heap} {n0 : Nat} (na xe : Int32) (oa ar : Addr) (vs : List Int32) (sz : Nat) (s0 : Slot) (s1 : Slot) (s2 : Slot) (s3 : Slot) (s4 : Slot) (s5 : Slot) (s7 : Slot) (s8 : Slot) (s10 : Slot) (s11 : Slot) (s12 : Slot) (s14 : Slot) (s15 : Slot) (s16 : Slot) (s17 : Slot) (X0 : Stand p l e room_1 s m args below meth c T0 locs (3) (14)) (hx : p.tables.exec = Jvm.exec) (hZ : Z.Warmed39 s.vm) (hw : ∀ d ∈ tables_1, d.before a0 Z = true) (hby : c.code = code) (hml : c.maxLocals = 18) (hown : s.vm.findClass "com/example/subsumption/subsumption/IntSetContainsAllPinLaw" = some m.cls) (e0 : T0.heap = h0) (N0 : Fr n0 locs) (Z0 : n0 ≤ h0.size) (S : SetA Z h0 n0 oa ar 4 vs sz) (hsz : sz ≤ 2) (hE : El xe) :
    ∃ (T' : State) (h' : Heap) (locs' : List Loc) (ar2 : Addr) (n2 : Nat) (vs2 : List Int32) (sz2 : Nat), Stand p l e room_1 s m args below meth c T' locs' (4) (22) ∧ T'.heap = h' ∧ Fr n0 locs' ∧ n0 ≤ h'.size ∧ Keep h0 h' [oa, ar] ∧ SetA Z h' n0 oa ar2 n2 vs2 sz2 ∧ (∀ y, y ≠ 0 → (In n2 vs2 y ↔ ((1 < na ∧ y = xe + (1 : Int32)) ∨ In 4 vs y))) ∧ sz2 ≤ sz + 1 ∧ (ar2 = ar ∨ h0.size ≤ ar2) ∧ 
      ∀ target, Steps p.tables e below (T'.setTop (mkF m 116 #[s0, s1, s2, s3, s4, s5, .val (.int na), s7, s8, .val (.int xe), s10, s11, s12, .val (.ref oa), s14, s15, s16, s17] [])) target → Steps p.tables e below (T0.setTop (mkF m 102 #[s0, s1, s2, s3, s4, s5, .val (.int na), s7, s8, .val (.int xe), s10, s11, s12, .val (.ref oa), s14, s15, s16, s17] [])) target := by
  by_cases q : (1 : Int32) < na
  · exact segA1y na xe oa ar vs sz s0 s1 s2 s3 s4 s5 s7 s8 s10 s11 s12 s14 s15 s16 s17 X0 hx hZ hw hby hml hown e0 N0 Z0 S hsz hE q
  · exact segA1n na xe oa ar vs sz s0 s1 s2 s3 s4 s5 s7 s8 s10 s11 s12 s14 s15 s16 s17 X0 hx hZ hw hby hml hown e0 N0 Z0 S hsz hE q
set_option maxRecDepth 65536 in
set_option maxHeartbeats 40000000 in
theorem segA2y {p : Program} {l : Launch} {e : Env} {s : State} {m : MethodId} {args : Array Value} {below : List Frame} {meth : Method} {c : Code} {T0 : State} {locs : List Loc} {Z : State} {a0 : Array Value} {h0 : Heap} {n0 : Nat} (na xe : Int32) (oa ar : Addr) (vs : List Int32) (sz : Nat) (s0 : Slot) (s1 : Slot) (s2 : Slot) (s3 : Slot) (s4 : Slot) (s5 : Slot) (s7 : Slot) (s8 : Slot) (s9 : Slot) (s11 : Slot) (s12 : Slot) (s14 : Slot) (s15 : Slot) (s16 : Slot) (s17 : Slot) (X0 : Stand p l e room_1 s m args below meth c T0 locs (4) (22)) (hx : p.tables.exec = Jvm.exec) (hZ : Z.Warmed39 s.vm) (hw : ∀ d ∈ tables_1, d.before a0 Z = true) (hby : c.code = code) (hml : c.maxLocals = 18) (hown : s.vm.findClass "com/example/subsumption/subsumption/IntSetContainsAllPinLaw" = some m.cls) (e0 : T0.heap = h0) (N0 : Fr n0 locs) (Z0 : n0 ≤ h0.size) (S : SetA Z h0 n0 oa ar 4 vs sz) (hsz : sz ≤ 2) (hE : El xe) (hc119 : (2 : Int32) < na) :
    ∃ (T' : State) (h' : Heap) (locs' : List Loc) (ar2 : Addr) (n2 : Nat) (vs2 : List Int32) (sz2 : Nat), Stand p l e room_1 s m args below meth c T' locs' (5) (30) ∧ T'.heap = h' ∧ Fr n0 locs' ∧ n0 ≤ h'.size ∧ Keep h0 h' [oa, ar] ∧ SetA Z h' n0 oa ar2 n2 vs2 sz2 ∧ (∀ y, y ≠ 0 → (In n2 vs2 y ↔ ((2 < na ∧ y = xe + (1 : Int32)) ∨ In 4 vs y))) ∧ sz2 ≤ sz + 1 ∧ (ar2 = ar ∨ h0.size ≤ ar2) ∧ 
      ∀ target, Steps p.tables e below (T'.setTop (mkF m 130 #[s0, s1, s2, s3, s4, s5, .val (.int na), s7, s8, s9, .val (.int xe), s11, s12, .val (.ref oa), s14, s15, s16, s17] [])) target → Steps p.tables e below (T0.setTop (mkF m 116 #[s0, s1, s2, s3, s4, s5, .val (.int na), s7, s8, s9, .val (.int xe), s11, s12, .val (.ref oa), s14, s15, s16, s17] [])) target := by
  obtain ⟨cq1, kq1, q1a, q1b, q1c⟩ := isOf hZ e0 S.1
  obtain ⟨_, _, ⟨T1, L1, k1, n1⟩, -, X1, ⟨Lc1, hQ1, l1, y1, z1⟩, st1⟩ := X0.virtualBack hx (y := (⟨"com/example/subsumption/subsumption/IntSet", "add", "(I)Z"⟩ : MethodName)) (z := (⟨"com/example/subsumption/subsumption/IntSet", "add", "(I)Z"⟩ : MethodName)) hown (mvT hZ (hw _ (List.mem_of_getElem? (i := 24) rfl))) (mvT hZ (hw _ (List.mem_of_getElem? (i := 25) rfl))) (notFace_of_selects (args := #[]) (mvT hZ (hw _ (List.mem_of_getElem? (i := 27) rfl)))) (mvT hZ (hw _ (List.mem_of_getElem? (i := 27) rfl))) (mvT hZ (hw _ (List.mem_of_getElem? (i := 26) rfl))) (by decide) (backOf (W := 0) (rm6 l Z a0 hw [] oa xe ar 4 vs sz h0 n0 Z0 S hsz hE.1 hE.2.1 hE.2.2) hZ (hw _ (List.mem_of_getElem? (i := 28) rfl)) (hw _ (List.mem_of_getElem? (i := 14) rfl)) (by decide) (by decide)) q1a q1c (g := (mkF m 126 #[s0, s1, s2, s3, s4, s5, .val (.int na), s7, s8, s9, .val (.int xe), s11, s12, .val (.ref oa), s14, s15, s16, s17] [(.int xe), (.ref oa)])) rfl (by rw [hml]; rfl) (Steps.refl _) (argsL := [(.int xe)]) (rest := []) (lenOf pd__I_Z rfl) rfl (by show 2 * 0 + _ ≤ _; exact Nat.le_of_eq rfl) (hb hby at_126) (fun _ _ => ⟨rfl, e0, (Nat.le_of_ble_eq_true rfl), (Nat.le_of_ble_eq_true rfl)⟩)
  dsimp only [Pt.U, Pt.locs, Pt.cells, Pt.slots] at X1 l1 y1 z1 st1 hQ1
  subst l1 y1 z1
  obtain ⟨r1, rfl, N1q, ar2, n2, vs2, sz2, Kc1, S2, hi2, hz2, hf2⟩ := hQ1
  have N1 := Fr.app N0 N1q
  have f2_E_oa := S.1.keep Kc1
  have zz1 : n0 ≤ T1.heap.size := Nat.le_trans Z0 Kc1.1
  refine ⟨T1, T1.heap, _, ar2, n2, vs2, sz2, X1, rfl, N1, zz1, Kc1, S2, (fun y hy => (hi2 y hy).trans ⟨fun q => q.elim (fun q => Or.inl ⟨hc119, q⟩) Or.inr, fun q => q.elim (fun q => Or.inl q.2) Or.inr⟩), hz2, hf2, fun target kt => ?_⟩
  show Steps p.tables e below (T0.setTop (mkF m 116 #[s0, s1, s2, s3, s4, s5, .val (.int na), s7, s8, s9, .val (.int xe), s11, s12, .val (.ref oa), s14, s15, s16, s17] [])) _
  refine XS.iload X0.here hx rfl (hb hby at_116) rfl ?_
  show Steps p.tables e below (T0.setTop (mkF m 118 #[s0, s1, s2, s3, s4, s5, .val (.int na), s7, s8, s9, .val (.int xe), s11, s12, .val (.ref oa), s14, s15, s16, s17] [(.int na)])) _
  refine XS.iconst X0.here hx rfl (hb hby at_118) ?_
  show Steps p.tables e below (T0.setTop (mkF m 119 #[s0, s1, s2, s3, s4, s5, .val (.int na), s7, s8, s9, .val (.int xe), s11, s12, .val (.ref oa), s14, s15, s16, s17] [(.int (2 : Int32)), (.int na)])) _
  refine XS.icmpNo X0.here hx rfl (hb hby at_119) rfl (tlt hc119).2.2.2 ?_
  show Steps p.tables e below (T0.setTop (mkF m 122 #[s0, s1, s2, s3, s4, s5, .val (.int na), s7, s8, s9, .val (.int xe), s11, s12, .val (.ref oa), s14, s15, s16, s17] [])) _
  refine XS.aload X0.here hx rfl (hb hby at_122) rfl rfl ?_
  show Steps p.tables e below (T0.setTop (mkF m 124 #[s0, s1, s2, s3, s4, s5, .val (.int na), s7, s8, s9, .val (.int xe), s11, s12, .val (.ref oa), s14, s15, s16, s17] [(.ref oa)])) _
  refine XS.iload X0.here hx rfl (hb hby at_124) rfl ?_
  show Steps p.tables e below (T0.setTop (mkF m 126 #[s0, s1, s2, s3, s4, s5, .val (.int na), s7, s8, s9, .val (.int xe), s11, s12, .val (.ref oa), s14, s15, s16, s17] [(.int xe), (.ref oa)])) _
  refine st1.trans ?_
  show Steps p.tables e below (T1.setTop (mkF m 129 #[s0, s1, s2, s3, s4, s5, .val (.int na), s7, s8, s9, .val (.int xe), s11, s12, .val (.ref oa), s14, s15, s16, s17] [(.int r1)])) _
  refine XS.pop X1.here hx rfl (hb hby at_129) rfl rfl ?_
  exact kt
set_option maxRecDepth 65536 in
set_option maxHeartbeats 40000000 in
theorem segA2n {p : Program} {l : Launch} {e : Env} {s : State} {m : MethodId} {args : Array Value} {below : List Frame} {meth : Method} {c : Code} {T0 : State} {locs : List Loc} {Z : State} {a0 : Array Value} {h0 : Heap} {n0 : Nat} (na xe : Int32) (oa ar : Addr) (vs : List Int32) (sz : Nat) (s0 : Slot) (s1 : Slot) (s2 : Slot) (s3 : Slot) (s4 : Slot) (s5 : Slot) (s7 : Slot) (s8 : Slot) (s9 : Slot) (s11 : Slot) (s12 : Slot) (s14 : Slot) (s15 : Slot) (s16 : Slot) (s17 : Slot) (X0 : Stand p l e room_1 s m args below meth c T0 locs (4) (22)) (hx : p.tables.exec = Jvm.exec) (hZ : Z.Warmed39 s.vm) (hw : ∀ d ∈ tables_1, d.before a0 Z = true) (hby : c.code = code) (hml : c.maxLocals = 18) (hown : s.vm.findClass "com/example/subsumption/subsumption/IntSetContainsAllPinLaw" = some m.cls) (e0 : T0.heap = h0) (N0 : Fr n0 locs) (Z0 : n0 ≤ h0.size) (S : SetA Z h0 n0 oa ar 4 vs sz) (hsz : sz ≤ 2) (hE : El xe) (hc119 : ¬ ((2 : Int32) < na)) :
    ∃ (T' : State) (h' : Heap) (locs' : List Loc) (ar2 : Addr) (n2 : Nat) (vs2 : List Int32) (sz2 : Nat), Stand p l e room_1 s m args below meth c T' locs' (5) (30) ∧ T'.heap = h' ∧ Fr n0 locs' ∧ n0 ≤ h'.size ∧ Keep h0 h' [oa, ar] ∧ SetA Z h' n0 oa ar2 n2 vs2 sz2 ∧ (∀ y, y ≠ 0 → (In n2 vs2 y ↔ ((2 < na ∧ y = xe + (1 : Int32)) ∨ In 4 vs y))) ∧ sz2 ≤ sz + 1 ∧ (ar2 = ar ∨ h0.size ≤ ar2) ∧ 
      ∀ target, Steps p.tables e below (T'.setTop (mkF m 130 #[s0, s1, s2, s3, s4, s5, .val (.int na), s7, s8, s9, .val (.int xe), s11, s12, .val (.ref oa), s14, s15, s16, s17] [])) target → Steps p.tables e below (T0.setTop (mkF m 116 #[s0, s1, s2, s3, s4, s5, .val (.int na), s7, s8, s9, .val (.int xe), s11, s12, .val (.ref oa), s14, s15, s16, s17] [])) target := by
  refine ⟨T0, h0, _, ar, 4, vs, sz, X0.more (by decide) (by decide), e0, N0, Z0, Keep.refl _ _, S, (fun y hy => ⟨Or.inr, fun q => q.elim (fun q => absurd q.1 hc119) id⟩), Nat.le_succ _, Or.inl rfl, fun target kt => ?_⟩
  show Steps p.tables e below (T0.setTop (mkF m 116 #[s0, s1, s2, s3, s4, s5, .val (.int na), s7, s8, s9, .val (.int xe), s11, s12, .val (.ref oa), s14, s15, s16, s17] [])) _
  refine XS.iload X0.here hx rfl (hb hby at_116) rfl ?_
  show Steps p.tables e below (T0.setTop (mkF m 118 #[s0, s1, s2, s3, s4, s5, .val (.int na), s7, s8, s9, .val (.int xe), s11, s12, .val (.ref oa), s14, s15, s16, s17] [(.int na)])) _
  refine XS.iconst X0.here hx rfl (hb hby at_118) ?_
  show Steps p.tables e below (T0.setTop (mkF m 119 #[s0, s1, s2, s3, s4, s5, .val (.int na), s7, s8, s9, .val (.int xe), s11, s12, .val (.ref oa), s14, s15, s16, s17] [(.int (2 : Int32)), (.int na)])) _
  refine XS.icmpYes X0.here hx rfl (pc0 := 119) (pc' := 130) rfl (hb hby at_119) rfl (flt hc119).2.2.2 (by decide) (by decide) ?_
  exact kt
theorem segA2 {p : Program} {l : Launch} {e : Env} {s : State} {m : MethodId} {args : Array Value} {below : List Frame} {meth : Method} {c : Code} {T0 : State} {locs : List Loc} {Z : State} {a0 : Array Value} {h0 : Heap} {n0 : Nat} (na xe : Int32) (oa ar : Addr) (vs : List Int32) (sz : Nat) (s0 : Slot) (s1 : Slot) (s2 : Slot) (s3 : Slot) (s4 : Slot) (s5 : Slot) (s7 : Slot) (s8 : Slot) (s9 : Slot) (s11 : Slot) (s12 : Slot) (s14 : Slot) (s15 : Slot) (s16 : Slot) (s17 : Slot) (X0 : Stand p l e room_1 s m args below meth c T0 locs (4) (22)) (hx : p.tables.exec = Jvm.exec) (hZ : Z.Warmed39 s.vm) (hw : ∀ d ∈ tables_1, d.before a0 Z = true) (hby : c.code = code) (hml : c.maxLocals = 18) (hown : s.vm.findClass "com/example/subsumption/subsumption/IntSetContainsAllPinLaw" = some m.cls) (e0 : T0.heap = h0) (N0 : Fr n0 locs) (Z0 : n0 ≤ h0.size) (S : SetA Z h0 n0 oa ar 4 vs sz) (hsz : sz ≤ 2) (hE : El xe) :
    ∃ (T' : State) (h' : Heap) (locs' : List Loc) (ar2 : Addr) (n2 : Nat) (vs2 : List Int32) (sz2 : Nat), Stand p l e room_1 s m args below meth c T' locs' (5) (30) ∧ T'.heap = h' ∧ Fr n0 locs' ∧ n0 ≤ h'.size ∧ Keep h0 h' [oa, ar] ∧ SetA Z h' n0 oa ar2 n2 vs2 sz2 ∧ (∀ y, y ≠ 0 → (In n2 vs2 y ↔ ((2 < na ∧ y = xe + (1 : Int32)) ∨ In 4 vs y))) ∧ sz2 ≤ sz + 1 ∧ (ar2 = ar ∨ h0.size ≤ ar2) ∧ 
      ∀ target, Steps p.tables e below (T'.setTop (mkF m 130 #[s0, s1, s2, s3, s4, s5, .val (.int na), s7, s8, s9, .val (.int xe), s11, s12, .val (.ref oa), s14, s15, s16, s17] [])) target → Steps p.tables e below (T0.setTop (mkF m 116 #[s0, s1, s2, s3, s4, s5, .val (.int na), s7, s8, s9, .val (.int xe), s11, s12, .val (.ref oa), s14, s15, s16, s17] [])) target := by
  by_cases q : (2 : Int32) < na
  · exact segA2y na xe oa ar vs sz s0 s1 s2 s3 s4 s5 s7 s8 s9 s11 s12 s14 s15 s16 s17 X0 hx hZ hw hby hml hown e0 N0 Z0 S hsz hE q
  · exact segA2n na xe oa ar vs sz s0 s1 s2 s3 s4 s5 s7 s8 s9 s11 s12 s14 s15 s16 s17 X0 hx hZ hw hby hml hown e0 N0 Z0 S hsz hE q
set_option maxRecDepth 65536 in
set_option maxHeartbeats 40000000 in
theorem segB0y {p : Program} {l : Launch} {e : Env} {s : State} {m : MethodId} {args : Array Value} {below : List Frame} {meth : Method} {c : Code} {T0 : State} {locs : List Loc} {Z : State} {a0 : Array Value} {h0 : Heap} {n0 : Nat} (na xe : Int32) (oa ar : Addr) (vs : List Int32) (sz : Nat) (s0 : Slot) (s1 : Slot) (s2 : Slot) (s3 : Slot) (s4 : Slot) (s5 : Slot) (s6 : Slot) (s8 : Slot) (s9 : Slot) (s10 : Slot) (s12 : Slot) (s13 : Slot) (s15 : Slot) (s16 : Slot) (s17 : Slot) (X0 : Stand p l e room_1 s m args below meth c T0 locs (7) (36)) (hx : p.tables.exec = Jvm.exec) (hZ : Z.Warmed39 s.vm) (hw : ∀ d ∈ tables_1, d.before a0 Z = true) (hby : c.code = code) (hml : c.maxLocals = 18) (hown : s.vm.findClass "com/example/subsumption/subsumption/IntSetContainsAllPinLaw" = some m.cls) (e0 : T0.heap = h0) (N0 : Fr n0 locs) (Z0 : n0 ≤ h0.size) (S : SetA Z h0 n0 oa ar 4 vs sz) (hsz : sz ≤ 2) (hE : El xe) (hc141 : (0 : Int32) < na) :
    ∃ (T' : State) (h' : Heap) (locs' : List Loc) (ar2 : Addr) (n2 : Nat) (vs2 : List Int32) (sz2 : Nat), Stand p l e room_1 s m args below meth c T' locs' (8) (44) ∧ T'.heap = h' ∧ Fr n0 locs' ∧ n0 ≤ h'.size ∧ Keep h0 h' [oa, ar] ∧ SetA Z h' n0 oa ar2 n2 vs2 sz2 ∧ (∀ y, y ≠ 0 → (In n2 vs2 y ↔ ((0 < na ∧ y = xe + (1 : Int32)) ∨ In 4 vs y))) ∧ sz2 ≤ sz + 1 ∧ (ar2 = ar ∨ h0.size ≤ ar2) ∧ 
      ∀ target, Steps p.tables e below (T'.setTop (mkF m 152 #[s0, s1, s2, s3, s4, s5, s6, .val (.int na), s8, s9, s10, .val (.int xe), s12, s13, .val (.ref oa), s15, s16, s17] [])) target → Steps p.tables e below (T0.setTop (mkF m 139 #[s0, s1, s2, s3, s4, s5, s6, .val (.int na), s8, s9, s10, .val (.int xe), s12, s13, .val (.ref oa), s15, s16, s17] [])) target := by
  obtain ⟨cq1, kq1, q1a, q1b, q1c⟩ := isOf hZ e0 S.1
  obtain ⟨_, _, ⟨T1, L1, k1, n1⟩, -, X1, ⟨Lc1, hQ1, l1, y1, z1⟩, st1⟩ := X0.virtualBack hx (y := (⟨"com/example/subsumption/subsumption/IntSet", "add", "(I)Z"⟩ : MethodName)) (z := (⟨"com/example/subsumption/subsumption/IntSet", "add", "(I)Z"⟩ : MethodName)) hown (mvT hZ (hw _ (List.mem_of_getElem? (i := 24) rfl))) (mvT hZ (hw _ (List.mem_of_getElem? (i := 25) rfl))) (notFace_of_selects (args := #[]) (mvT hZ (hw _ (List.mem_of_getElem? (i := 27) rfl)))) (mvT hZ (hw _ (List.mem_of_getElem? (i := 27) rfl))) (mvT hZ (hw _ (List.mem_of_getElem? (i := 26) rfl))) (by decide) (backOf (W := 0) (rm6 l Z a0 hw [] oa xe ar 4 vs sz h0 n0 Z0 S hsz hE.1 hE.2.1 hE.2.2) hZ (hw _ (List.mem_of_getElem? (i := 28) rfl)) (hw _ (List.mem_of_getElem? (i := 14) rfl)) (by decide) (by decide)) q1a q1c (g := (mkF m 148 #[s0, s1, s2, s3, s4, s5, s6, .val (.int na), s8, s9, s10, .val (.int xe), s12, s13, .val (.ref oa), s15, s16, s17] [(.int xe), (.ref oa)])) rfl (by rw [hml]; rfl) (Steps.refl _) (argsL := [(.int xe)]) (rest := []) (lenOf pd__I_Z rfl) rfl (by show 2 * 0 + _ ≤ _; exact Nat.le_of_eq rfl) (hb hby at_148) (fun _ _ => ⟨rfl, e0, (Nat.le_of_ble_eq_true rfl), (Nat.le_of_ble_eq_true rfl)⟩)
  dsimp only [Pt.U, Pt.locs, Pt.cells, Pt.slots] at X1 l1 y1 z1 st1 hQ1
  subst l1 y1 z1
  obtain ⟨r1, rfl, N1q, ar2, n2, vs2, sz2, Kc1, S2, hi2, hz2, hf2⟩ := hQ1
  have N1 := Fr.app N0 N1q
  have f2_E_oa := S.1.keep Kc1
  have zz1 : n0 ≤ T1.heap.size := Nat.le_trans Z0 Kc1.1
  refine ⟨T1, T1.heap, _, ar2, n2, vs2, sz2, X1, rfl, N1, zz1, Kc1, S2, (fun y hy => (hi2 y hy).trans ⟨fun q => q.elim (fun q => Or.inl ⟨hc141, q⟩) Or.inr, fun q => q.elim (fun q => Or.inl q.2) Or.inr⟩), hz2, hf2, fun target kt => ?_⟩
  show Steps p.tables e below (T0.setTop (mkF m 139 #[s0, s1, s2, s3, s4, s5, s6, .val (.int na), s8, s9, s10, .val (.int xe), s12, s13, .val (.ref oa), s15, s16, s17] [])) _
  refine XS.iload X0.here hx rfl (hb hby at_139) rfl ?_
  show Steps p.tables e below (T0.setTop (mkF m 141 #[s0, s1, s2, s3, s4, s5, s6, .val (.int na), s8, s9, s10, .val (.int xe), s12, s13, .val (.ref oa), s15, s16, s17] [(.int na)])) _
  refine XS.ifNo X0.here hx rfl (hb hby at_141) rfl ((if0 _ _).trans (tlt hc141).2.2.2) ?_
  show Steps p.tables e below (T0.setTop (mkF m 144 #[s0, s1, s2, s3, s4, s5, s6, .val (.int na), s8, s9, s10, .val (.int xe), s12, s13, .val (.ref oa), s15, s16, s17] [])) _
  refine XS.aload X0.here hx rfl (hb hby at_144) rfl rfl ?_
  show Steps p.tables e below (T0.setTop (mkF m 146 #[s0, s1, s2, s3, s4, s5, s6, .val (.int na), s8, s9, s10, .val (.int xe), s12, s13, .val (.ref oa), s15, s16, s17] [(.ref oa)])) _
  refine XS.iload X0.here hx rfl (hb hby at_146) rfl ?_
  show Steps p.tables e below (T0.setTop (mkF m 148 #[s0, s1, s2, s3, s4, s5, s6, .val (.int na), s8, s9, s10, .val (.int xe), s12, s13, .val (.ref oa), s15, s16, s17] [(.int xe), (.ref oa)])) _
  refine st1.trans ?_
  show Steps p.tables e below (T1.setTop (mkF m 151 #[s0, s1, s2, s3, s4, s5, s6, .val (.int na), s8, s9, s10, .val (.int xe), s12, s13, .val (.ref oa), s15, s16, s17] [(.int r1)])) _
  refine XS.pop X1.here hx rfl (hb hby at_151) rfl rfl ?_
  exact kt
set_option maxRecDepth 65536 in
set_option maxHeartbeats 40000000 in
theorem segB0n {p : Program} {l : Launch} {e : Env} {s : State} {m : MethodId} {args : Array Value} {below : List Frame} {meth : Method} {c : Code} {T0 : State} {locs : List Loc} {Z : State} {a0 : Array Value} {h0 : Heap} {n0 : Nat} (na xe : Int32) (oa ar : Addr) (vs : List Int32) (sz : Nat) (s0 : Slot) (s1 : Slot) (s2 : Slot) (s3 : Slot) (s4 : Slot) (s5 : Slot) (s6 : Slot) (s8 : Slot) (s9 : Slot) (s10 : Slot) (s12 : Slot) (s13 : Slot) (s15 : Slot) (s16 : Slot) (s17 : Slot) (X0 : Stand p l e room_1 s m args below meth c T0 locs (7) (36)) (hx : p.tables.exec = Jvm.exec) (hZ : Z.Warmed39 s.vm) (hw : ∀ d ∈ tables_1, d.before a0 Z = true) (hby : c.code = code) (hml : c.maxLocals = 18) (hown : s.vm.findClass "com/example/subsumption/subsumption/IntSetContainsAllPinLaw" = some m.cls) (e0 : T0.heap = h0) (N0 : Fr n0 locs) (Z0 : n0 ≤ h0.size) (S : SetA Z h0 n0 oa ar 4 vs sz) (hsz : sz ≤ 2) (hE : El xe) (hc141 : ¬ ((0 : Int32) < na)) :
    ∃ (T' : State) (h' : Heap) (locs' : List Loc) (ar2 : Addr) (n2 : Nat) (vs2 : List Int32) (sz2 : Nat), Stand p l e room_1 s m args below meth c T' locs' (8) (44) ∧ T'.heap = h' ∧ Fr n0 locs' ∧ n0 ≤ h'.size ∧ Keep h0 h' [oa, ar] ∧ SetA Z h' n0 oa ar2 n2 vs2 sz2 ∧ (∀ y, y ≠ 0 → (In n2 vs2 y ↔ ((0 < na ∧ y = xe + (1 : Int32)) ∨ In 4 vs y))) ∧ sz2 ≤ sz + 1 ∧ (ar2 = ar ∨ h0.size ≤ ar2) ∧ 
      ∀ target, Steps p.tables e below (T'.setTop (mkF m 152 #[s0, s1, s2, s3, s4, s5, s6, .val (.int na), s8, s9, s10, .val (.int xe), s12, s13, .val (.ref oa), s15, s16, s17] [])) target → Steps p.tables e below (T0.setTop (mkF m 139 #[s0, s1, s2, s3, s4, s5, s6, .val (.int na), s8, s9, s10, .val (.int xe), s12, s13, .val (.ref oa), s15, s16, s17] [])) target := by
  refine ⟨T0, h0, _, ar, 4, vs, sz, X0.more (by decide) (by decide), e0, N0, Z0, Keep.refl _ _, S, (fun y hy => ⟨Or.inr, fun q => q.elim (fun q => absurd q.1 hc141) id⟩), Nat.le_succ _, Or.inl rfl, fun target kt => ?_⟩
  show Steps p.tables e below (T0.setTop (mkF m 139 #[s0, s1, s2, s3, s4, s5, s6, .val (.int na), s8, s9, s10, .val (.int xe), s12, s13, .val (.ref oa), s15, s16, s17] [])) _
  refine XS.iload X0.here hx rfl (hb hby at_139) rfl ?_
  show Steps p.tables e below (T0.setTop (mkF m 141 #[s0, s1, s2, s3, s4, s5, s6, .val (.int na), s8, s9, s10, .val (.int xe), s12, s13, .val (.ref oa), s15, s16, s17] [(.int na)])) _
  refine XS.ifYes X0.here hx rfl (pc0 := 141) (pc' := 152) rfl (hb hby at_141) rfl ((if0 _ _).trans (flt hc141).2.2.2) (by decide) (by decide) ?_
  exact kt
theorem segB0 {p : Program} {l : Launch} {e : Env} {s : State} {m : MethodId} {args : Array Value} {below : List Frame} {meth : Method} {c : Code} {T0 : State} {locs : List Loc} {Z : State} {a0 : Array Value} {h0 : Heap} {n0 : Nat} (na xe : Int32) (oa ar : Addr) (vs : List Int32) (sz : Nat) (s0 : Slot) (s1 : Slot) (s2 : Slot) (s3 : Slot) (s4 : Slot) (s5 : Slot) (s6 : Slot) (s8 : Slot) (s9 : Slot) (s10 : Slot) (s12 : Slot) (s13 : Slot) (s15 : Slot) (s16 : Slot) (s17 : Slot) (X0 : Stand p l e room_1 s m args below meth c T0 locs (7) (36)) (hx : p.tables.exec = Jvm.exec) (hZ : Z.Warmed39 s.vm) (hw : ∀ d ∈ tables_1, d.before a0 Z = true) (hby : c.code = code) (hml : c.maxLocals = 18) (hown : s.vm.findClass "com/example/subsumption/subsumption/IntSetContainsAllPinLaw" = some m.cls) (e0 : T0.heap = h0) (N0 : Fr n0 locs) (Z0 : n0 ≤ h0.size) (S : SetA Z h0 n0 oa ar 4 vs sz) (hsz : sz ≤ 2) (hE : El xe) :
    ∃ (T' : State) (h' : Heap) (locs' : List Loc) (ar2 : Addr) (n2 : Nat) (vs2 : List Int32) (sz2 : Nat), Stand p l e room_1 s m args below meth c T' locs' (8) (44) ∧ T'.heap = h' ∧ Fr n0 locs' ∧ n0 ≤ h'.size ∧ Keep h0 h' [oa, ar] ∧ SetA Z h' n0 oa ar2 n2 vs2 sz2 ∧ (∀ y, y ≠ 0 → (In n2 vs2 y ↔ ((0 < na ∧ y = xe + (1 : Int32)) ∨ In 4 vs y))) ∧ sz2 ≤ sz + 1 ∧ (ar2 = ar ∨ h0.size ≤ ar2) ∧ 
      ∀ target, Steps p.tables e below (T'.setTop (mkF m 152 #[s0, s1, s2, s3, s4, s5, s6, .val (.int na), s8, s9, s10, .val (.int xe), s12, s13, .val (.ref oa), s15, s16, s17] [])) target → Steps p.tables e below (T0.setTop (mkF m 139 #[s0, s1, s2, s3, s4, s5, s6, .val (.int na), s8, s9, s10, .val (.int xe), s12, s13, .val (.ref oa), s15, s16, s17] [])) target := by
  by_cases q : (0 : Int32) < na
  · exact segB0y na xe oa ar vs sz s0 s1 s2 s3 s4 s5 s6 s8 s9 s10 s12 s13 s15 s16 s17 X0 hx hZ hw hby hml hown e0 N0 Z0 S hsz hE q
  · exact segB0n na xe oa ar vs sz s0 s1 s2 s3 s4 s5 s6 s8 s9 s10 s12 s13 s15 s16 s17 X0 hx hZ hw hby hml hown e0 N0 Z0 S hsz hE q
set_option maxRecDepth 65536 in
set_option maxHeartbeats 40000000 in
theorem segB1y {p : Program} {l : Launch} {e : Env} {s : State} {m : MethodId} {args : Array Value} {below : List Frame} {meth : Method} {c : Code} {T0 : State} {locs : List Loc} {Z : State} {a0 : Array Value} {h0 : Heap} {n0 : Nat} (na xe : Int32) (oa ar : Addr) (vs : List Int32) (sz : Nat) (s0 : Slot) (s1 : Slot) (s2 : Slot) (s3 : Slot) (s4 : Slot) (s5 : Slot) (s6 : Slot) (s8 : Slot) (s9 : Slot) (s10 : Slot) (s11 : Slot) (s13 : Slot) (s15 : Slot) (s16 : Slot) (s17 : Slot) (X0 : Stand p l e room_1 s m args below meth c T0 locs (8) (44)) (hx : p.tables.exec = Jvm.exec) (hZ : Z.Warmed39 s.vm) (hw : ∀ d ∈ tables_1, d.before a0 Z = true) (hby : c.code = code) (hml : c.maxLocals = 18) (hown : s.vm.findClass "com/example/subsumption/subsumption/IntSetContainsAllPinLaw" = some m.cls) (e0 : T0.heap = h0) (N0 : Fr n0 locs) (Z0 : n0 ≤ h0.size) (S : SetA Z h0 n0 oa ar 4 vs sz) (hsz : sz ≤ 2) (hE : El xe) (hc155 : (1 : Int32) < na) :
    ∃ (T' : State) (h' : Heap) (locs' : List Loc) (ar2 : Addr) (n2 : Nat) (vs2 : List Int32) (sz2 : Nat), Stand p l e room_1 s m args below meth c T' locs' (9) (52) ∧ T'.heap = h' ∧ Fr n0 locs' ∧ n0 ≤ h'.size ∧ Keep h0 h' [oa, ar] ∧ SetA Z h' n0 oa ar2 n2 vs2 sz2 ∧ (∀ y, y ≠ 0 → (In n2 vs2 y ↔ ((1 < na ∧ y = xe + (1 : Int32)) ∨ In 4 vs y))) ∧ sz2 ≤ sz + 1 ∧ (ar2 = ar ∨ h0.size ≤ ar2) ∧ 
      ∀ target, Steps p.tables e below (T'.setTop (mkF m 166 #[s0, s1, s2, s3, s4, s5, s6, .val (.int na), s8, s9, s10, s11, .val (.int xe), s13, .val (.ref oa), s15, s16, s17] [])) target → Steps p.tables e below (T0.setTop (mkF m 152 #[s0, s1, s2, s3, s4, s5, s6, .val (.int na), s8, s9, s10, s11, .val (.int xe), s13, .val (.ref oa), s15, s16, s17] [])) target := by
  obtain ⟨cq1, kq1, q1a, q1b, q1c⟩ := isOf hZ e0 S.1
  obtain ⟨_, _, ⟨T1, L1, k1, n1⟩, -, X1, ⟨Lc1, hQ1, l1, y1, z1⟩, st1⟩ := X0.virtualBack hx (y := (⟨"com/example/subsumption/subsumption/IntSet", "add", "(I)Z"⟩ : MethodName)) (z := (⟨"com/example/subsumption/subsumption/IntSet", "add", "(I)Z"⟩ : MethodName)) hown (mvT hZ (hw _ (List.mem_of_getElem? (i := 24) rfl))) (mvT hZ (hw _ (List.mem_of_getElem? (i := 25) rfl))) (notFace_of_selects (args := #[]) (mvT hZ (hw _ (List.mem_of_getElem? (i := 27) rfl)))) (mvT hZ (hw _ (List.mem_of_getElem? (i := 27) rfl))) (mvT hZ (hw _ (List.mem_of_getElem? (i := 26) rfl))) (by decide) (backOf (W := 0) (rm6 l Z a0 hw [] oa xe ar 4 vs sz h0 n0 Z0 S hsz hE.1 hE.2.1 hE.2.2) hZ (hw _ (List.mem_of_getElem? (i := 28) rfl)) (hw _ (List.mem_of_getElem? (i := 14) rfl)) (by decide) (by decide)) q1a q1c (g := (mkF m 162 #[s0, s1, s2, s3, s4, s5, s6, .val (.int na), s8, s9, s10, s11, .val (.int xe), s13, .val (.ref oa), s15, s16, s17] [(.int xe), (.ref oa)])) rfl (by rw [hml]; rfl) (Steps.refl _) (argsL := [(.int xe)]) (rest := []) (lenOf pd__I_Z rfl) rfl (by show 2 * 0 + _ ≤ _; exact Nat.le_of_eq rfl) (hb hby at_162) (fun _ _ => ⟨rfl, e0, (Nat.le_of_ble_eq_true rfl), (Nat.le_of_ble_eq_true rfl)⟩)
  dsimp only [Pt.U, Pt.locs, Pt.cells, Pt.slots] at X1 l1 y1 z1 st1 hQ1
  subst l1 y1 z1
  obtain ⟨r1, rfl, N1q, ar2, n2, vs2, sz2, Kc1, S2, hi2, hz2, hf2⟩ := hQ1
  have N1 := Fr.app N0 N1q
  have f2_E_oa := S.1.keep Kc1
  have zz1 : n0 ≤ T1.heap.size := Nat.le_trans Z0 Kc1.1
  refine ⟨T1, T1.heap, _, ar2, n2, vs2, sz2, X1, rfl, N1, zz1, Kc1, S2, (fun y hy => (hi2 y hy).trans ⟨fun q => q.elim (fun q => Or.inl ⟨hc155, q⟩) Or.inr, fun q => q.elim (fun q => Or.inl q.2) Or.inr⟩), hz2, hf2, fun target kt => ?_⟩
  show Steps p.tables e below (T0.setTop (mkF m 152 #[s0, s1, s2, s3, s4, s5, s6, .val (.int na), s8, s9, s10, s11, .val (.int xe), s13, .val (.ref oa), s15, s16, s17] [])) _
  refine XS.iload X0.here hx rfl (hb hby at_152) rfl ?_
  show Steps p.tables e below (T0.setTop (mkF m 154 #[s0, s1, s2, s3, s4, s5, s6, .val (.int na), s8, s9, s10, s11, .val (.int xe), s13, .val (.ref oa), s15, s16, s17] [(.int na)])) _
  refine XS.iconst X0.here hx rfl (hb hby at_154) ?_
  show Steps p.tables e below (T0.setTop (mkF m 155 #[s0, s1, s2, s3, s4, s5, s6, .val (.int na), s8, s9, s10, s11, .val (.int xe), s13, .val (.ref oa), s15, s16, s17] [(.int (1 : Int32)), (.int na)])) _
  refine XS.icmpNo X0.here hx rfl (hb hby at_155) rfl (tlt hc155).2.2.2 ?_
  show Steps p.tables e below (T0.setTop (mkF m 158 #[s0, s1, s2, s3, s4, s5, s6, .val (.int na), s8, s9, s10, s11, .val (.int xe), s13, .val (.ref oa), s15, s16, s17] [])) _
  refine XS.aload X0.here hx rfl (hb hby at_158) rfl rfl ?_
  show Steps p.tables e below (T0.setTop (mkF m 160 #[s0, s1, s2, s3, s4, s5, s6, .val (.int na), s8, s9, s10, s11, .val (.int xe), s13, .val (.ref oa), s15, s16, s17] [(.ref oa)])) _
  refine XS.iload X0.here hx rfl (hb hby at_160) rfl ?_
  show Steps p.tables e below (T0.setTop (mkF m 162 #[s0, s1, s2, s3, s4, s5, s6, .val (.int na), s8, s9, s10, s11, .val (.int xe), s13, .val (.ref oa), s15, s16, s17] [(.int xe), (.ref oa)])) _
  refine st1.trans ?_
  show Steps p.tables e below (T1.setTop (mkF m 165 #[s0, s1, s2, s3, s4, s5, s6, .val (.int na), s8, s9, s10, s11, .val (.int xe), s13, .val (.ref oa), s15, s16, s17] [(.int r1)])) _
  refine XS.pop X1.here hx rfl (hb hby at_165) rfl rfl ?_
  exact kt
set_option maxRecDepth 65536 in
set_option maxHeartbeats 40000000 in
theorem segB1n {p : Program} {l : Launch} {e : Env} {s : State} {m : MethodId} {args : Array Value} {below : List Frame} {meth : Method} {c : Code} {T0 : State} {locs : List Loc} {Z : State} {a0 : Array Value} {h0 : Heap} {n0 : Nat} (na xe : Int32) (oa ar : Addr) (vs : List Int32) (sz : Nat) (s0 : Slot) (s1 : Slot) (s2 : Slot) (s3 : Slot) (s4 : Slot) (s5 : Slot) (s6 : Slot) (s8 : Slot) (s9 : Slot) (s10 : Slot) (s11 : Slot) (s13 : Slot) (s15 : Slot) (s16 : Slot) (s17 : Slot) (X0 : Stand p l e room_1 s m args below meth c T0 locs (8) (44)) (hx : p.tables.exec = Jvm.exec) (hZ : Z.Warmed39 s.vm) (hw : ∀ d ∈ tables_1, d.before a0 Z = true) (hby : c.code = code) (hml : c.maxLocals = 18) (hown : s.vm.findClass "com/example/subsumption/subsumption/IntSetContainsAllPinLaw" = some m.cls) (e0 : T0.heap = h0) (N0 : Fr n0 locs) (Z0 : n0 ≤ h0.size) (S : SetA Z h0 n0 oa ar 4 vs sz) (hsz : sz ≤ 2) (hE : El xe) (hc155 : ¬ ((1 : Int32) < na)) :
    ∃ (T' : State) (h' : Heap) (locs' : List Loc) (ar2 : Addr) (n2 : Nat) (vs2 : List Int32) (sz2 : Nat), Stand p l e room_1 s m args below meth c T' locs' (9) (52) ∧ T'.heap = h' ∧ Fr n0 locs' ∧ n0 ≤ h'.size ∧ Keep h0 h' [oa, ar] ∧ SetA Z h' n0 oa ar2 n2 vs2 sz2 ∧ (∀ y, y ≠ 0 → (In n2 vs2 y ↔ ((1 < na ∧ y = xe + (1 : Int32)) ∨ In 4 vs y))) ∧ sz2 ≤ sz + 1 ∧ (ar2 = ar ∨ h0.size ≤ ar2) ∧ 
      ∀ target, Steps p.tables e below (T'.setTop (mkF m 166 #[s0, s1, s2, s3, s4, s5, s6, .val (.int na), s8, s9, s10, s11, .val (.int xe), s13, .val (.ref oa), s15, s16, s17] [])) target → Steps p.tables e below (T0.setTop (mkF m 152 #[s0, s1, s2, s3, s4, s5, s6, .val (.int na), s8, s9, s10, s11, .val (.int xe), s13, .val (.ref oa), s15, s16, s17] [])) target := by
  refine ⟨T0, h0, _, ar, 4, vs, sz, X0.more (by decide) (by decide), e0, N0, Z0, Keep.refl _ _, S, (fun y hy => ⟨Or.inr, fun q => q.elim (fun q => absurd q.1 hc155) id⟩), Nat.le_succ _, Or.inl rfl, fun target kt => ?_⟩
  show Steps p.tables e below (T0.setTop (mkF m 152 #[s0, s1, s2, s3, s4, s5, s6, .val (.int na), s8, s9, s10, s11, .val (.int xe), s13, .val (.ref oa), s15, s16, s17] [])) _
  refine XS.iload X0.here hx rfl (hb hby at_152) rfl ?_
  show Steps p.tables e below (T0.setTop (mkF m 154 #[s0, s1, s2, s3, s4, s5, s6, .val (.int na), s8, s9, s10, s11, .val (.int xe), s13, .val (.ref oa), s15, s16, s17] [(.int na)])) _
  refine XS.iconst X0.here hx rfl (hb hby at_154) ?_
  show Steps p.tables e below (T0.setTop (mkF m 155 #[s0, s1, s2, s3, s4, s5, s6, .val (.int na), s8, s9, s10, s11, .val (.int xe), s13, .val (.ref oa), s15, s16, s17] [(.int (1 : Int32)), (.int na)])) _
  refine XS.icmpYes X0.here hx rfl (pc0 := 155) (pc' := 166) rfl (hb hby at_155) rfl (flt hc155).2.2.2 (by decide) (by decide) ?_
  exact kt
theorem segB1 {p : Program} {l : Launch} {e : Env} {s : State} {m : MethodId} {args : Array Value} {below : List Frame} {meth : Method} {c : Code} {T0 : State} {locs : List Loc} {Z : State} {a0 : Array Value} {h0 : Heap} {n0 : Nat} (na xe : Int32) (oa ar : Addr) (vs : List Int32) (sz : Nat) (s0 : Slot) (s1 : Slot) (s2 : Slot) (s3 : Slot) (s4 : Slot) (s5 : Slot) (s6 : Slot) (s8 : Slot) (s9 : Slot) (s10 : Slot) (s11 : Slot) (s13 : Slot) (s15 : Slot) (s16 : Slot) (s17 : Slot) (X0 : Stand p l e room_1 s m args below meth c T0 locs (8) (44)) (hx : p.tables.exec = Jvm.exec) (hZ : Z.Warmed39 s.vm) (hw : ∀ d ∈ tables_1, d.before a0 Z = true) (hby : c.code = code) (hml : c.maxLocals = 18) (hown : s.vm.findClass "com/example/subsumption/subsumption/IntSetContainsAllPinLaw" = some m.cls) (e0 : T0.heap = h0) (N0 : Fr n0 locs) (Z0 : n0 ≤ h0.size) (S : SetA Z h0 n0 oa ar 4 vs sz) (hsz : sz ≤ 2) (hE : El xe) :
    ∃ (T' : State) (h' : Heap) (locs' : List Loc) (ar2 : Addr) (n2 : Nat) (vs2 : List Int32) (sz2 : Nat), Stand p l e room_1 s m args below meth c T' locs' (9) (52) ∧ T'.heap = h' ∧ Fr n0 locs' ∧ n0 ≤ h'.size ∧ Keep h0 h' [oa, ar] ∧ SetA Z h' n0 oa ar2 n2 vs2 sz2 ∧ (∀ y, y ≠ 0 → (In n2 vs2 y ↔ ((1 < na ∧ y = xe + (1 : Int32)) ∨ In 4 vs y))) ∧ sz2 ≤ sz + 1 ∧ (ar2 = ar ∨ h0.size ≤ ar2) ∧ 
      ∀ target, Steps p.tables e below (T'.setTop (mkF m 166 #[s0, s1, s2, s3, s4, s5, s6, .val (.int na), s8, s9, s10, s11, .val (.int xe), s13, .val (.ref oa), s15, s16, s17] [])) target → Steps p.tables e below (T0.setTop (mkF m 152 #[s0, s1, s2, s3, s4, s5, s6, .val (.int na), s8, s9, s10, s11, .val (.int xe), s13, .val (.ref oa), s15, s16, s17] [])) target := by
  by_cases q : (1 : Int32) < na
  · exact segB1y na xe oa ar vs sz s0 s1 s2 s3 s4 s5 s6 s8 s9 s10 s11 s13 s15 s16 s17 X0 hx hZ hw hby hml hown e0 N0 Z0 S hsz hE q
  · exact segB1n na xe oa ar vs sz s0 s1 s2 s3 s4 s5 s6 s8 s9 s10 s11 s13 s15 s16 s17 X0 hx hZ hw hby hml hown e0 N0 Z0 S hsz hE q
theorem pd__IIIII_Z : parseMethodDescriptor "(IIIII)Z" = some ⟨[.int, .int, .int, .int, .int], some .boolean⟩ := by decide +kernel
set_option maxRecDepth 65536 in
set_option maxHeartbeats 40000000 in
theorem segI {p : Program} {l : Launch} {e : Env} {s : State} {m : MethodId} {args : Array Value} {below : List Frame} {meth : Method} {c : Code} {T0 : State} {locs : List Loc} {Z : State} {a0 : Array Value} {h0 : Heap} {n0 : Nat} (na x0 x1 x2 y0 y1 : Int32) (s0 : Slot) (s1 : Slot) (s2 : Slot) (s3 : Slot) (s4 : Slot) (s5 : Slot) (s7 : Slot) (s13 : Slot) (s14 : Slot) (X0 : Stand p l e room_1 s m args below meth c T0 locs (9) (52)) (hx : p.tables.exec = Jvm.exec) (hZ : Z.Warmed39 s.vm) (hw : ∀ d ∈ tables_1, d.before a0 Z = true) (hby : c.code = code) (hml : c.maxLocals = 18) (hown : s.vm.findClass "com/example/subsumption/subsumption/IntSetContainsAllPinLaw" = some m.cls) (e0 : T0.heap = h0) (N0 : Fr n0 locs) (Z0 : n0 ≤ h0.size)   :
    ∃ (T' : State) (h' : Heap) (locs' : List Loc) (r0 : Int32) (r1 : Int32), Stand p l e room_1 s m args below meth c T' locs' (9) (52) ∧ T'.heap = h' ∧ Fr n0 locs' ∧ n0 ≤ h'.size ∧ h' = h0 ∧ ((r0 = 1 ∧ ((0 < na ∧ y0 = x0) ∨ (1 < na ∧ y0 = x1) ∨ (2 < na ∧ y0 = x2))) ∨ (r0 = 0 ∧ ¬ ((0 < na ∧ y0 = x0) ∨ (1 < na ∧ y0 = x1) ∨ (2 < na ∧ y0 = x2)))) ∧ ((r1 = 1 ∧ ((0 < na ∧ y1 = x0) ∨ (1 < na ∧ y1 = x1) ∨ (2 < na ∧ y1 = x2))) ∨ (r1 = 0 ∧ ¬ ((0 < na ∧ y1 = x0) ∨ (1 < na ∧ y1 = x1) ∨ (2 < na ∧ y1 = x2)))) ∧ 
      ∀ target, Steps p.tables e below (T'.setTop (mkF m 196 #[s0, s1, s2, s3, s4, s5, .val (.int na), s7, .val (.int x0), .val (.int x1), .val (.int x2), .val (.int y0), .val (.int y1), s13, s14, .val (.int r0), .val (.int r1), .unset] [])) target → Steps p.tables e below (T0.setTop (mkF m 166 #[s0, s1, s2, s3, s4, s5, .val (.int na), s7, .val (.int x0), .val (.int x1), .val (.int x2), .val (.int y0), .val (.int y1), s13, s14, .unset, .unset, .unset] [])) target := by
  obtain ⟨_, _, ⟨T1, L1, k1, n1⟩, -, X1, ⟨Lc1, hQ1, l1, y1, z1⟩, st1⟩ := Jvm.LawKit.callS X0 hx (y := (⟨"com/example/subsumption/subsumption/IntSetContainsAllPinLaw", "inA", "(IIIII)Z"⟩ : MethodName)) hown (mvT hZ (hw _ (List.mem_of_getElem? (i := 45) rfl))) (mvT hZ (hw _ (List.mem_of_getElem? (i := 46) rfl))) (mvT hZ (hw _ (List.mem_of_getElem? (i := 6) rfl))) (mvT hZ (hw _ (List.mem_of_getElem? (i := 47) rfl))) (by decide) (backOf (W := 0) (rm10 l Z a0 hw [] y0 na x0 x1 x2 h0 n0 Z0) hZ (hw _ (List.mem_of_getElem? (i := 47) rfl)) (hw _ (List.mem_of_getElem? (i := 6) rfl)) (by decide) (by decide)) (g := (mkF m 176 #[s0, s1, s2, s3, s4, s5, .val (.int na), s7, .val (.int x0), .val (.int x1), .val (.int x2), .val (.int y0), .val (.int y1), s13, s14, .unset, .unset, .unset] [(.int x2), (.int x1), (.int x0), (.int na), (.int y0)])) rfl (by rw [hml]; rfl) (argsL := [(.int y0), (.int na), (.int x0), (.int x1), (.int x2)]) (rest := []) (lenOf pd__IIIII_Z rfl) rfl (by show 2 * 0 + _ ≤ _; exact Nat.le_of_eq rfl) (hb hby at_176) (fun _ _ => ⟨rfl, e0, (Nat.le_of_ble_eq_true rfl), (Nat.le_of_ble_eq_true rfl)⟩)
  dsimp only [Pt.U, Pt.locs, Pt.cells, Pt.slots] at X1 l1 y1 z1 st1 hQ1
  subst l1 y1 z1
  obtain ⟨r0, rfl, N1q, e1, hr0⟩ := hQ1
  have N1 := Fr.app N0 N1q
  obtain ⟨_, _, ⟨T2, L2, k2, n2⟩, -, X2, ⟨Lc2, hQ2, l2, y2, z2⟩, st2⟩ := Jvm.LawKit.callS X1 hx (y := (⟨"com/example/subsumption/subsumption/IntSetContainsAllPinLaw", "inA", "(IIIII)Z"⟩ : MethodName)) hown (mvT hZ (hw _ (List.mem_of_getElem? (i := 45) rfl))) (mvT hZ (hw _ (List.mem_of_getElem? (i := 46) rfl))) (mvT hZ (hw _ (List.mem_of_getElem? (i := 6) rfl))) (mvT hZ (hw _ (List.mem_of_getElem? (i := 47) rfl))) (by decide) (backOf (W := 0) (rm10 l Z a0 hw [] y1 na x0 x1 x2 h0 n0 Z0) hZ (hw _ (List.mem_of_getElem? (i := 47) rfl)) (hw _ (List.mem_of_getElem? (i := 6) rfl)) (by decide) (by decide)) (g := (mkF m 191 #[s0, s1, s2, s3, s4, s5, .val (.int na), s7, .val (.int x0), .val (.int x1), .val (.int x2), .val (.int y0), .val (.int y1), s13, s14, .val (.int r0), .unset, .unset] [(.int x2), (.int x1), (.int x0), (.int na), (.int y1)])) rfl (by rw [hml]; rfl) (argsL := [(.int y1), (.int na), (.int x0), (.int x1), (.int x2)]) (rest := []) (lenOf pd__IIIII_Z rfl) rfl (by show 2 * 0 + _ ≤ _; exact Nat.le_of_eq rfl) (hb hby at_191) (fun _ _ => ⟨rfl, e1, (Nat.le_of_ble_eq_true rfl), (Nat.le_of_ble_eq_true rfl)⟩)
  dsimp only [Pt.U, Pt.locs, Pt.cells, Pt.slots] at X2 l2 y2 z2 st2 hQ2
  subst l2 y2 z2
  obtain ⟨r1, rfl, N2q, e2, hr1⟩ := hQ2
  have N2 := Fr.app N1 N2q
  refine ⟨T2, h0, _, r0, r1, X2, e2, N2, Z0, rfl, hr0, hr1, fun target kt => ?_⟩
  show Steps p.tables e below (T0.setTop (mkF m 166 #[s0, s1, s2, s3, s4, s5, .val (.int na), s7, .val (.int x0), .val (.int x1), .val (.int x2), .val (.int y0), .val (.int y1), s13, s14, .unset, .unset, .unset] [])) _
  refine XS.iload X0.here hx rfl (hb hby at_166) rfl ?_
  show Steps p.tables e below (T0.setTop (mkF m 168 #[s0, s1, s2, s3, s4, s5, .val (.int na), s7, .val (.int x0), .val (.int x1), .val (.int x2), .val (.int y0), .val (.int y1), s13, s14, .unset, .unset, .unset] [(.int y0)])) _
  refine XS.iload X0.here hx rfl (hb hby at_168) rfl ?_
  show Steps p.tables e below (T0.setTop (mkF m 170 #[s0, s1, s2, s3, s4, s5, .val (.int na), s7, .val (.int x0), .val (.int x1), .val (.int x2), .val (.int y0), .val (.int y1), s13, s14, .unset, .unset, .unset] [(.int na), (.int y0)])) _
  refine XS.iload X0.here hx rfl (hb hby at_170) rfl ?_
  show Steps p.tables e below (T0.setTop (mkF m 172 #[s0, s1, s2, s3, s4, s5, .val (.int na), s7, .val (.int x0), .val (.int x1), .val (.int x2), .val (.int y0), .val (.int y1), s13, s14, .unset, .unset, .unset] [(.int x0), (.int na), (.int y0)])) _
  refine XS.iload X0.here hx rfl (hb hby at_172) rfl ?_
  show Steps p.tables e below (T0.setTop (mkF m 174 #[s0, s1, s2, s3, s4, s5, .val (.int na), s7, .val (.int x0), .val (.int x1), .val (.int x2), .val (.int y0), .val (.int y1), s13, s14, .unset, .unset, .unset] [(.int x1), (.int x0), (.int na), (.int y0)])) _
  refine XS.iload X0.here hx rfl (hb hby at_174) rfl ?_
  show Steps p.tables e below (T0.setTop (mkF m 176 #[s0, s1, s2, s3, s4, s5, .val (.int na), s7, .val (.int x0), .val (.int x1), .val (.int x2), .val (.int y0), .val (.int y1), s13, s14, .unset, .unset, .unset] [(.int x2), (.int x1), (.int x0), (.int na), (.int y0)])) _
  refine st1 _ ?_
  show Steps p.tables e below (T1.setTop (mkF m 179 #[s0, s1, s2, s3, s4, s5, .val (.int na), s7, .val (.int x0), .val (.int x1), .val (.int x2), .val (.int y0), .val (.int y1), s13, s14, .unset, .unset, .unset] [(.int r0)])) _
  refine XS.istore X1.here hx rfl (hb hby at_179) rfl (l' := #[s0, s1, s2, s3, s4, s5, .val (.int na), s7, .val (.int x0), .val (.int x1), .val (.int x2), .val (.int y0), .val (.int y1), s13, s14, .val (.int r0), .unset, .unset]) rfl ?_
  show Steps p.tables e below (T1.setTop (mkF m 181 #[s0, s1, s2, s3, s4, s5, .val (.int na), s7, .val (.int x0), .val (.int x1), .val (.int x2), .val (.int y0), .val (.int y1), s13, s14, .val (.int r0), .unset, .unset] [])) _
  refine XS.iload X1.here hx rfl (hb hby at_181) rfl ?_
  show Steps p.tables e below (T1.setTop (mkF m 183 #[s0, s1, s2, s3, s4, s5, .val (.int na), s7, .val (.int x0), .val (.int x1), .val (.int x2), .val (.int y0), .val (.int y1), s13, s14, .val (.int r0), .unset, .unset] [(.int y1)])) _
  refine XS.iload X1.here hx rfl (hb hby at_183) rfl ?_
  show Steps p.tables e below (T1.setTop (mkF m 185 #[s0, s1, s2, s3, s4, s5, .val (.int na), s7, .val (.int x0), .val (.int x1), .val (.int x2), .val (.int y0), .val (.int y1), s13, s14, .val (.int r0), .unset, .unset] [(.int na), (.int y1)])) _
  refine XS.iload X1.here hx rfl (hb hby at_185) rfl ?_
  show Steps p.tables e below (T1.setTop (mkF m 187 #[s0, s1, s2, s3, s4, s5, .val (.int na), s7, .val (.int x0), .val (.int x1), .val (.int x2), .val (.int y0), .val (.int y1), s13, s14, .val (.int r0), .unset, .unset] [(.int x0), (.int na), (.int y1)])) _
  refine XS.iload X1.here hx rfl (hb hby at_187) rfl ?_
  show Steps p.tables e below (T1.setTop (mkF m 189 #[s0, s1, s2, s3, s4, s5, .val (.int na), s7, .val (.int x0), .val (.int x1), .val (.int x2), .val (.int y0), .val (.int y1), s13, s14, .val (.int r0), .unset, .unset] [(.int x1), (.int x0), (.int na), (.int y1)])) _
  refine XS.iload X1.here hx rfl (hb hby at_189) rfl ?_
  show Steps p.tables e below (T1.setTop (mkF m 191 #[s0, s1, s2, s3, s4, s5, .val (.int na), s7, .val (.int x0), .val (.int x1), .val (.int x2), .val (.int y0), .val (.int y1), s13, s14, .val (.int r0), .unset, .unset] [(.int x2), (.int x1), (.int x0), (.int na), (.int y1)])) _
  refine st2 _ ?_
  show Steps p.tables e below (T2.setTop (mkF m 194 #[s0, s1, s2, s3, s4, s5, .val (.int na), s7, .val (.int x0), .val (.int x1), .val (.int x2), .val (.int y0), .val (.int y1), s13, s14, .val (.int r0), .unset, .unset] [(.int r1)])) _
  refine XS.istore X2.here hx rfl (hb hby at_194) rfl (l' := #[s0, s1, s2, s3, s4, s5, .val (.int na), s7, .val (.int x0), .val (.int x1), .val (.int x2), .val (.int y0), .val (.int y1), s13, s14, .val (.int r0), .val (.int r1), .unset]) rfl ?_
  exact kt
set_option maxRecDepth 65536 in
set_option maxHeartbeats 40000000 in
theorem e207a {p : Program} {l : Launch} {e : Env} {R : Room} {s : State} {m : MethodId} {args : Array Value} {below : List Frame} {meth : Method} {c : Code} {T0 : State} {locs : List Loc} {cells slots : Nat} {Z : State} {a0 : Array Value} {h0 : Heap} (nb r0 r1 : Int32) (s0 : Slot) (s1 : Slot) (s2 : Slot) (s3 : Slot) (s4 : Slot) (s5 : Slot) (s6 : Slot) (s8 : Slot) (s9 : Slot) (s10 : Slot) (s11 : Slot) (s12 : Slot) (s13 : Slot) (s14 : Slot) (X0 : Stand p l e R s m args below meth c T0 locs cells slots) (hx : p.tables.exec = Jvm.exec) (hZ : Z.Warmed39 s.vm) (hw : ∀ d ∈ tables_1, d.before a0 Z = true) (hby : c.code = code) (hown : s.vm.findClass "com/example/subsumption/subsumption/IntSetContainsAllPinLaw" = some m.cls) (e0 : T0.heap = h0)  (hc199 : nb < (1 : Int32)) {target : State} (kt : Steps p.tables e below (T0.setTop (mkF m 207 #[s0, s1, s2, s3, s4, s5, s6, .val (.int nb), s8, s9, s10, s11, s12, s13, s14, .val (.int r0), .val (.int r1), .unset] [])) target) : Steps p.tables e below (T0.setTop (mkF m 196 #[s0, s1, s2, s3, s4, s5, s6, .val (.int nb), s8, s9, s10, s11, s12, s13, s14, .val (.int r0), .val (.int r1), .unset] [])) target := by
  show Steps p.tables e below (T0.setTop (mkF m 196 #[s0, s1, s2, s3, s4, s5, s6, .val (.int nb), s8, s9, s10, s11, s12, s13, s14, .val (.int r0), .val (.int r1), .unset] [])) _
  refine XS.iload X0.here hx rfl (hb hby at_196) rfl ?_
  show Steps p.tables e below (T0.setTop (mkF m 198 #[s0, s1, s2, s3, s4, s5, s6, .val (.int nb), s8, s9, s10, s11, s12, s13, s14, .val (.int r0), .val (.int r1), .unset] [(.int nb)])) _
  refine XS.iconst X0.here hx rfl (hb hby at_198) ?_
  show Steps p.tables e below (T0.setTop (mkF m 199 #[s0, s1, s2, s3, s4, s5, s6, .val (.int nb), s8, s9, s10, s11, s12, s13, s14, .val (.int r0), .val (.int r1), .unset] [(.int (1 : Int32)), (.int nb)])) _
  refine XS.icmpYes X0.here hx rfl (pc0 := 199) (pc' := 207) rfl (hb hby at_199) rfl (tlt hc199).1 (by decide) (by decide) ?_
  exact kt
set_option maxRecDepth 65536 in
set_option maxHeartbeats 40000000 in
theorem e207b {p : Program} {l : Launch} {e : Env} {R : Room} {s : State} {m : MethodId} {args : Array Value} {below : List Frame} {meth : Method} {c : Code} {T0 : State} {locs : List Loc} {cells slots : Nat} {Z : State} {a0 : Array Value} {h0 : Heap} (nb r0 r1 : Int32) (s0 : Slot) (s1 : Slot) (s2 : Slot) (s3 : Slot) (s4 : Slot) (s5 : Slot) (s6 : Slot) (s8 : Slot) (s9 : Slot) (s10 : Slot) (s11 : Slot) (s12 : Slot) (s13 : Slot) (s14 : Slot) (X0 : Stand p l e R s m args below meth c T0 locs cells slots) (hx : p.tables.exec = Jvm.exec) (hZ : Z.Warmed39 s.vm) (hw : ∀ d ∈ tables_1, d.before a0 Z = true) (hby : c.code = code) (hown : s.vm.findClass "com/example/subsumption/subsumption/IntSetContainsAllPinLaw" = some m.cls) (e0 : T0.heap = h0)  (hc199 : ¬ (nb < (1 : Int32))) (hc204 : ¬ (r0 = (0 : Int32))) {target : State} (kt : Steps p.tables e below (T0.setTop (mkF m 207 #[s0, s1, s2, s3, s4, s5, s6, .val (.int nb), s8, s9, s10, s11, s12, s13, s14, .val (.int r0), .val (.int r1), .unset] [])) target) : Steps p.tables e below (T0.setTop (mkF m 196 #[s0, s1, s2, s3, s4, s5, s6, .val (.int nb), s8, s9, s10, s11, s12, s13, s14, .val (.int r0), .val (.int r1), .unset] [])) target := by
  show Steps p.tables e below (T0.setTop (mkF m 196 #[s0, s1, s2, s3, s4, s5, s6, .val (.int nb), s8, s9, s10, s11, s12, s13, s14, .val (.int r0), .val (.int r1), .unset] [])) _
  refine XS.iload X0.here hx rfl (hb hby at_196) rfl ?_
  show Steps p.tables e below (T0.setTop (mkF m 198 #[s0, s1, s2, s3, s4, s5, s6, .val (.int nb), s8, s9, s10, s11, s12, s13, s14, .val (.int r0), .val (.int r1), .unset] [(.int nb)])) _
  refine XS.iconst X0.here hx rfl (hb hby at_198) ?_
  show Steps p.tables e below (T0.setTop (mkF m 199 #[s0, s1, s2, s3, s4, s5, s6, .val (.int nb), s8, s9, s10, s11, s12, s13, s14, .val (.int r0), .val (.int r1), .unset] [(.int (1 : Int32)), (.int nb)])) _
  refine XS.icmpNo X0.here hx rfl (hb hby at_199) rfl (flt hc199).1 ?_
  show Steps p.tables e below (T0.setTop (mkF m 202 #[s0, s1, s2, s3, s4, s5, s6, .val (.int nb), s8, s9, s10, s11, s12, s13, s14, .val (.int r0), .val (.int r1), .unset] [])) _
  refine XS.iload X0.here hx rfl (hb hby at_202) rfl ?_
  show Steps p.tables e below (T0.setTop (mkF m 204 #[s0, s1, s2, s3, s4, s5, s6, .val (.int nb), s8, s9, s10, s11, s12, s13, s14, .val (.int r0), .val (.int r1), .unset] [(.int r0)])) _
  refine XS.ifNo X0.here hx rfl (hb hby at_204) rfl ((if0 _ _).trans (feq hc204).1) ?_
  exact kt
set_option maxRecDepth 65536 in
set_option maxHeartbeats 40000000 in
theorem e222a {p : Program} {l : Launch} {e : Env} {R : Room} {s : State} {m : MethodId} {args : Array Value} {below : List Frame} {meth : Method} {c : Code} {T0 : State} {locs : List Loc} {cells slots : Nat} {Z : State} {a0 : Array Value} {h0 : Heap} (nb r0 r1 : Int32) (s0 : Slot) (s1 : Slot) (s2 : Slot) (s3 : Slot) (s4 : Slot) (s5 : Slot) (s6 : Slot) (s8 : Slot) (s9 : Slot) (s10 : Slot) (s11 : Slot) (s12 : Slot) (s13 : Slot) (s14 : Slot) (X0 : Stand p l e R s m args below meth c T0 locs cells slots) (hx : p.tables.exec = Jvm.exec) (hZ : Z.Warmed39 s.vm) (hw : ∀ d ∈ tables_1, d.before a0 Z = true) (hby : c.code = code) (hown : s.vm.findClass "com/example/subsumption/subsumption/IntSetContainsAllPinLaw" = some m.cls) (e0 : T0.heap = h0)  (hc199 : ¬ (nb < (1 : Int32))) (hc204 : r0 = (0 : Int32)) {target : State} (kt : Steps p.tables e below (T0.setTop (mkF m 222 #[s0, s1, s2, s3, s4, s5, s6, .val (.int nb), s8, s9, s10, s11, s12, s13, s14, .val (.int r0), .val (.int r1), .unset] [])) target) : Steps p.tables e below (T0.setTop (mkF m 196 #[s0, s1, s2, s3, s4, s5, s6, .val (.int nb), s8, s9, s10, s11, s12, s13, s14, .val (.int r0), .val (.int r1), .unset] [])) target := by
  show Steps p.tables e below (T0.setTop (mkF m 196 #[s0, s1, s2, s3, s4, s5, s6, .val (.int nb), s8, s9, s10, s11, s12, s13, s14, .val (.int r0), .val (.int r1), .unset] [])) _
  refine XS.iload X0.here hx rfl (hb hby at_196) rfl ?_
  show Steps p.tables e below (T0.setTop (mkF m 198 #[s0, s1, s2, s3, s4, s5, s6, .val (.int nb), s8, s9, s10, s11, s12, s13, s14, .val (.int r0), .val (.int r1), .unset] [(.int nb)])) _
  refine XS.iconst X0.here hx rfl (hb hby at_198) ?_
  show Steps p.tables e below (T0.setTop (mkF m 199 #[s0, s1, s2, s3, s4, s5, s6, .val (.int nb), s8, s9, s10, s11, s12, s13, s14, .val (.int r0), .val (.int r1), .unset] [(.int (1 : Int32)), (.int nb)])) _
  refine XS.icmpNo X0.here hx rfl (hb hby at_199) rfl (flt hc199).1 ?_
  show Steps p.tables e below (T0.setTop (mkF m 202 #[s0, s1, s2, s3, s4, s5, s6, .val (.int nb), s8, s9, s10, s11, s12, s13, s14, .val (.int r0), .val (.int r1), .unset] [])) _
  refine XS.iload X0.here hx rfl (hb hby at_202) rfl ?_
  show Steps p.tables e below (T0.setTop (mkF m 204 #[s0, s1, s2, s3, s4, s5, s6, .val (.int nb), s8, s9, s10, s11, s12, s13, s14, .val (.int r0), .val (.int r1), .unset] [(.int r0)])) _
  refine XS.ifYes X0.here hx rfl (pc0 := 204) (pc' := 222) rfl (hb hby at_204) rfl ((if0 _ _).trans (teq hc204).1) (by decide) (by decide) ?_
  exact kt
set_option maxRecDepth 65536 in
set_option maxHeartbeats 40000000 in
theorem e218a {p : Program} {l : Launch} {e : Env} {R : Room} {s : State} {m : MethodId} {args : Array Value} {below : List Frame} {meth : Method} {c : Code} {T0 : State} {locs : List Loc} {cells slots : Nat} {Z : State} {a0 : Array Value} {h0 : Heap} (nb r0 r1 : Int32) (s0 : Slot) (s1 : Slot) (s2 : Slot) (s3 : Slot) (s4 : Slot) (s5 : Slot) (s6 : Slot) (s8 : Slot) (s9 : Slot) (s10 : Slot) (s11 : Slot) (s12 : Slot) (s13 : Slot) (s14 : Slot) (X0 : Stand p l e R s m args below meth c T0 locs cells slots) (hx : p.tables.exec = Jvm.exec) (hZ : Z.Warmed39 s.vm) (hw : ∀ d ∈ tables_1, d.before a0 Z = true) (hby : c.code = code) (hown : s.vm.findClass "com/example/subsumption/subsumption/IntSetContainsAllPinLaw" = some m.cls) (e0 : T0.heap = h0)  (hc210 : nb < (2 : Int32)) {target : State} (kt : Steps p.tables e below (T0.setTop (mkF m 218 #[s0, s1, s2, s3, s4, s5, s6, .val (.int nb), s8, s9, s10, s11, s12, s13, s14, .val (.int r0), .val (.int r1), .unset] [])) target) : Steps p.tables e below (T0.setTop (mkF m 207 #[s0, s1, s2, s3, s4, s5, s6, .val (.int nb), s8, s9, s10, s11, s12, s13, s14, .val (.int r0), .val (.int r1), .unset] [])) target := by
  show Steps p.tables e below (T0.setTop (mkF m 207 #[s0, s1, s2, s3, s4, s5, s6, .val (.int nb), s8, s9, s10, s11, s12, s13, s14, .val (.int r0), .val (.int r1), .unset] [])) _
  refine XS.iload X0.here hx rfl (hb hby at_207) rfl ?_
  show Steps p.tables e below (T0.setTop (mkF m 209 #[s0, s1, s2, s3, s4, s5, s6, .val (.int nb), s8, s9, s10, s11, s12, s13, s14, .val (.int r0), .val (.int r1), .unset] [(.int nb)])) _
  refine XS.iconst X0.here hx rfl (hb hby at_209) ?_
  show Steps p.tables e below (T0.setTop (mkF m 210 #[s0, s1, s2, s3, s4, s5, s6, .val (.int nb), s8, s9, s10, s11, s12, s13, s14, .val (.int r0), .val (.int r1), .unset] [(.int (2 : Int32)), (.int nb)])) _
  refine XS.icmpYes X0.here hx rfl (pc0 := 210) (pc' := 218) rfl (hb hby at_210) rfl (tlt hc210).1 (by decide) (by decide) ?_
  exact kt
set_option maxRecDepth 65536 in
set_option maxHeartbeats 40000000 in
theorem e218b {p : Program} {l : Launch} {e : Env} {R : Room} {s : State} {m : MethodId} {args : Array Value} {below : List Frame} {meth : Method} {c : Code} {T0 : State} {locs : List Loc} {cells slots : Nat} {Z : State} {a0 : Array Value} {h0 : Heap} (nb r0 r1 : Int32) (s0 : Slot) (s1 : Slot) (s2 : Slot) (s3 : Slot) (s4 : Slot) (s5 : Slot) (s6 : Slot) (s8 : Slot) (s9 : Slot) (s10 : Slot) (s11 : Slot) (s12 : Slot) (s13 : Slot) (s14 : Slot) (X0 : Stand p l e R s m args below meth c T0 locs cells slots) (hx : p.tables.exec = Jvm.exec) (hZ : Z.Warmed39 s.vm) (hw : ∀ d ∈ tables_1, d.before a0 Z = true) (hby : c.code = code) (hown : s.vm.findClass "com/example/subsumption/subsumption/IntSetContainsAllPinLaw" = some m.cls) (e0 : T0.heap = h0)  (hc210 : ¬ (nb < (2 : Int32))) (hc215 : ¬ (r1 = (0 : Int32))) {target : State} (kt : Steps p.tables e below (T0.setTop (mkF m 218 #[s0, s1, s2, s3, s4, s5, s6, .val (.int nb), s8, s9, s10, s11, s12, s13, s14, .val (.int r0), .val (.int r1), .unset] [])) target) : Steps p.tables e below (T0.setTop (mkF m 207 #[s0, s1, s2, s3, s4, s5, s6, .val (.int nb), s8, s9, s10, s11, s12, s13, s14, .val (.int r0), .val (.int r1), .unset] [])) target := by
  show Steps p.tables e below (T0.setTop (mkF m 207 #[s0, s1, s2, s3, s4, s5, s6, .val (.int nb), s8, s9, s10, s11, s12, s13, s14, .val (.int r0), .val (.int r1), .unset] [])) _
  refine XS.iload X0.here hx rfl (hb hby at_207) rfl ?_
  show Steps p.tables e below (T0.setTop (mkF m 209 #[s0, s1, s2, s3, s4, s5, s6, .val (.int nb), s8, s9, s10, s11, s12, s13, s14, .val (.int r0), .val (.int r1), .unset] [(.int nb)])) _
  refine XS.iconst X0.here hx rfl (hb hby at_209) ?_
  show Steps p.tables e below (T0.setTop (mkF m 210 #[s0, s1, s2, s3, s4, s5, s6, .val (.int nb), s8, s9, s10, s11, s12, s13, s14, .val (.int r0), .val (.int r1), .unset] [(.int (2 : Int32)), (.int nb)])) _
  refine XS.icmpNo X0.here hx rfl (hb hby at_210) rfl (flt hc210).1 ?_
  show Steps p.tables e below (T0.setTop (mkF m 213 #[s0, s1, s2, s3, s4, s5, s6, .val (.int nb), s8, s9, s10, s11, s12, s13, s14, .val (.int r0), .val (.int r1), .unset] [])) _
  refine XS.iload X0.here hx rfl (hb hby at_213) rfl ?_
  show Steps p.tables e below (T0.setTop (mkF m 215 #[s0, s1, s2, s3, s4, s5, s6, .val (.int nb), s8, s9, s10, s11, s12, s13, s14, .val (.int r0), .val (.int r1), .unset] [(.int r1)])) _
  refine XS.ifNo X0.here hx rfl (hb hby at_215) rfl ((if0 _ _).trans (feq hc215).1) ?_
  exact kt
set_option maxRecDepth 65536 in
set_option maxHeartbeats 40000000 in
theorem e222b {p : Program} {l : Launch} {e : Env} {R : Room} {s : State} {m : MethodId} {args : Array Value} {below : List Frame} {meth : Method} {c : Code} {T0 : State} {locs : List Loc} {cells slots : Nat} {Z : State} {a0 : Array Value} {h0 : Heap} (nb r0 r1 : Int32) (s0 : Slot) (s1 : Slot) (s2 : Slot) (s3 : Slot) (s4 : Slot) (s5 : Slot) (s6 : Slot) (s8 : Slot) (s9 : Slot) (s10 : Slot) (s11 : Slot) (s12 : Slot) (s13 : Slot) (s14 : Slot) (X0 : Stand p l e R s m args below meth c T0 locs cells slots) (hx : p.tables.exec = Jvm.exec) (hZ : Z.Warmed39 s.vm) (hw : ∀ d ∈ tables_1, d.before a0 Z = true) (hby : c.code = code) (hown : s.vm.findClass "com/example/subsumption/subsumption/IntSetContainsAllPinLaw" = some m.cls) (e0 : T0.heap = h0)  (hc210 : ¬ (nb < (2 : Int32))) (hc215 : r1 = (0 : Int32)) {target : State} (kt : Steps p.tables e below (T0.setTop (mkF m 222 #[s0, s1, s2, s3, s4, s5, s6, .val (.int nb), s8, s9, s10, s11, s12, s13, s14, .val (.int r0), .val (.int r1), .unset] [])) target) : Steps p.tables e below (T0.setTop (mkF m 207 #[s0, s1, s2, s3, s4, s5, s6, .val (.int nb), s8, s9, s10, s11, s12, s13, s14, .val (.int r0), .val (.int r1), .unset] [])) target := by
  show Steps p.tables e below (T0.setTop (mkF m 207 #[s0, s1, s2, s3, s4, s5, s6, .val (.int nb), s8, s9, s10, s11, s12, s13, s14, .val (.int r0), .val (.int r1), .unset] [])) _
  refine XS.iload X0.here hx rfl (hb hby at_207) rfl ?_
  show Steps p.tables e below (T0.setTop (mkF m 209 #[s0, s1, s2, s3, s4, s5, s6, .val (.int nb), s8, s9, s10, s11, s12, s13, s14, .val (.int r0), .val (.int r1), .unset] [(.int nb)])) _
  refine XS.iconst X0.here hx rfl (hb hby at_209) ?_
  show Steps p.tables e below (T0.setTop (mkF m 210 #[s0, s1, s2, s3, s4, s5, s6, .val (.int nb), s8, s9, s10, s11, s12, s13, s14, .val (.int r0), .val (.int r1), .unset] [(.int (2 : Int32)), (.int nb)])) _
  refine XS.icmpNo X0.here hx rfl (hb hby at_210) rfl (flt hc210).1 ?_
  show Steps p.tables e below (T0.setTop (mkF m 213 #[s0, s1, s2, s3, s4, s5, s6, .val (.int nb), s8, s9, s10, s11, s12, s13, s14, .val (.int r0), .val (.int r1), .unset] [])) _
  refine XS.iload X0.here hx rfl (hb hby at_213) rfl ?_
  show Steps p.tables e below (T0.setTop (mkF m 215 #[s0, s1, s2, s3, s4, s5, s6, .val (.int nb), s8, s9, s10, s11, s12, s13, s14, .val (.int r0), .val (.int r1), .unset] [(.int r1)])) _
  refine XS.ifYes X0.here hx rfl (pc0 := 215) (pc' := 222) rfl (hb hby at_215) rfl ((if0 _ _).trans (teq hc215).1) (by decide) (by decide) ?_
  exact kt
set_option maxRecDepth 65536 in
set_option maxHeartbeats 40000000 in
theorem e225y {p : Program} {l : Launch} {e : Env} {R : Room} {s : State} {m : MethodId} {args : Array Value} {below : List Frame} {meth : Method} {c : Code} {T0 : State} {locs : List Loc} {cells slots : Nat} {Z : State} {a0 : Array Value} {h0 : Heap} (nb r0 r1 : Int32) (s0 : Slot) (s1 : Slot) (s2 : Slot) (s3 : Slot) (s4 : Slot) (s5 : Slot) (s6 : Slot) (s8 : Slot) (s9 : Slot) (s10 : Slot) (s11 : Slot) (s12 : Slot) (s13 : Slot) (s14 : Slot) (X0 : Stand p l e R s m args below meth c T0 locs cells slots) (hx : p.tables.exec = Jvm.exec) (hZ : Z.Warmed39 s.vm) (hw : ∀ d ∈ tables_1, d.before a0 Z = true) (hby : c.code = code) (hown : s.vm.findClass "com/example/subsumption/subsumption/IntSetContainsAllPinLaw" = some m.cls) (e0 : T0.heap = h0)   {target : State} (kt : Steps p.tables e below (T0.setTop (mkF m 225 #[s0, s1, s2, s3, s4, s5, s6, .val (.int nb), s8, s9, s10, s11, s12, s13, s14, .val (.int r0), .val (.int r1), .val (.int (1 : Int32))] [])) target) : Steps p.tables e below (T0.setTop (mkF m 218 #[s0, s1, s2, s3, s4, s5, s6, .val (.int nb), s8, s9, s10, s11, s12, s13, s14, .val (.int r0), .val (.int r1), .unset] [])) target := by
  show Steps p.tables e below (T0.setTop (mkF m 218 #[s0, s1, s2, s3, s4, s5, s6, .val (.int nb), s8, s9, s10, s11, s12, s13, s14, .val (.int r0), .val (.int r1), .unset] [])) _
  refine XS.iconst X0.here hx rfl (hb hby at_218) ?_
  show Steps p.tables e below (T0.setTop (mkF m 219 #[s0, s1, s2, s3, s4, s5, s6, .val (.int nb), s8, s9, s10, s11, s12, s13, s14, .val (.int r0), .val (.int r1), .unset] [(.int (1 : Int32))])) _
  refine XS.goto X0.here hx rfl (pc0 := 219) (pc' := 223) rfl (hb hby at_219) (by decide) (by decide) ?_
  show Steps p.tables e below (T0.setTop (mkF m 223 #[s0, s1, s2, s3, s4, s5, s6, .val (.int nb), s8, s9, s10, s11, s12, s13, s14, .val (.int r0), .val (.int r1), .unset] [(.int (1 : Int32))])) _
  refine XS.istore X0.here hx rfl (hb hby at_223) rfl (l' := #[s0, s1, s2, s3, s4, s5, s6, .val (.int nb), s8, s9, s10, s11, s12, s13, s14, .val (.int r0), .val (.int r1), .val (.int (1 : Int32))]) rfl ?_
  exact kt
set_option maxRecDepth 65536 in
set_option maxHeartbeats 40000000 in
theorem e225n {p : Program} {l : Launch} {e : Env} {R : Room} {s : State} {m : MethodId} {args : Array Value} {below : List Frame} {meth : Method} {c : Code} {T0 : State} {locs : List Loc} {cells slots : Nat} {Z : State} {a0 : Array Value} {h0 : Heap} (nb r0 r1 : Int32) (s0 : Slot) (s1 : Slot) (s2 : Slot) (s3 : Slot) (s4 : Slot) (s5 : Slot) (s6 : Slot) (s8 : Slot) (s9 : Slot) (s10 : Slot) (s11 : Slot) (s12 : Slot) (s13 : Slot) (s14 : Slot) (X0 : Stand p l e R s m args below meth c T0 locs cells slots) (hx : p.tables.exec = Jvm.exec) (hZ : Z.Warmed39 s.vm) (hw : ∀ d ∈ tables_1, d.before a0 Z = true) (hby : c.code = code) (hown : s.vm.findClass "com/example/subsumption/subsumption/IntSetContainsAllPinLaw" = some m.cls) (e0 : T0.heap = h0)   {target : State} (kt : Steps p.tables e below (T0.setTop (mkF m 225 #[s0, s1, s2, s3, s4, s5, s6, .val (.int nb), s8, s9, s10, s11, s12, s13, s14, .val (.int r0), .val (.int r1), .val (.int (0 : Int32))] [])) target) : Steps p.tables e below (T0.setTop (mkF m 222 #[s0, s1, s2, s3, s4, s5, s6, .val (.int nb), s8, s9, s10, s11, s12, s13, s14, .val (.int r0), .val (.int r1), .unset] [])) target := by
  show Steps p.tables e below (T0.setTop (mkF m 222 #[s0, s1, s2, s3, s4, s5, s6, .val (.int nb), s8, s9, s10, s11, s12, s13, s14, .val (.int r0), .val (.int r1), .unset] [])) _
  refine XS.iconst X0.here hx rfl (hb hby at_222) ?_
  show Steps p.tables e below (T0.setTop (mkF m 223 #[s0, s1, s2, s3, s4, s5, s6, .val (.int nb), s8, s9, s10, s11, s12, s13, s14, .val (.int r0), .val (.int r1), .unset] [(.int (0 : Int32))])) _
  refine XS.istore X0.here hx rfl (hb hby at_223) rfl (l' := #[s0, s1, s2, s3, s4, s5, s6, .val (.int nb), s8, s9, s10, s11, s12, s13, s14, .val (.int r0), .val (.int r1), .val (.int (0 : Int32))]) rfl ?_
  exact kt
theorem segE {p : Program} {l : Launch} {e : Env} {R : Room} {s : State} {m : MethodId} {args : Array Value} {below : List Frame} {meth : Method} {c : Code} {T0 : State} {locs : List Loc} {cells slots : Nat} {Z : State} {a0 : Array Value} {h0 : Heap} (nb r0 r1 : Int32) (s0 : Slot) (s1 : Slot) (s2 : Slot) (s3 : Slot) (s4 : Slot) (s5 : Slot) (s6 : Slot) (s8 : Slot) (s9 : Slot) (s10 : Slot) (s11 : Slot) (s12 : Slot) (s13 : Slot) (s14 : Slot) (X0 : Stand p l e R s m args below meth c T0 locs cells slots) (hx : p.tables.exec = Jvm.exec) (hZ : Z.Warmed39 s.vm) (hw : ∀ d ∈ tables_1, d.before a0 Z = true) (hby : c.code = code) (hown : s.vm.findClass "com/example/subsumption/subsumption/IntSetContainsAllPinLaw" = some m.cls) (e0 : T0.heap = h0) :
    ∃ ex : Int32, ((ex = 1 ∧ ((nb < 1 ∨ ¬ r0 = 0) ∧ (nb < 2 ∨ ¬ r1 = 0))) ∨ (ex = 0 ∧ ¬ ((nb < 1 ∨ ¬ r0 = 0) ∧ (nb < 2 ∨ ¬ r1 = 0)))) ∧
      ∀ target, Steps p.tables e below (T0.setTop (mkF m 225 #[s0, s1, s2, s3, s4, s5, s6, .val (.int nb), s8, s9, s10, s11, s12, s13, s14, .val (.int r0), .val (.int r1), .val (.int ex)] [])) target → Steps p.tables e below (T0.setTop (mkF m 196 #[s0, s1, s2, s3, s4, s5, s6, .val (.int nb), s8, s9, s10, s11, s12, s13, s14, .val (.int r0), .val (.int r1), .unset] [])) target := by
  by_cases a : nb < 1 ∨ ¬ r0 = 0
  · have st : ∀ {target}, Steps p.tables e below (T0.setTop (mkF m 207 #[s0, s1, s2, s3, s4, s5, s6, .val (.int nb), s8, s9, s10, s11, s12, s13, s14, .val (.int r0), .val (.int r1), .unset] [])) target → Steps p.tables e below (T0.setTop (mkF m 196 #[s0, s1, s2, s3, s4, s5, s6, .val (.int nb), s8, s9, s10, s11, s12, s13, s14, .val (.int r0), .val (.int r1), .unset] [])) target := fun kt => by
      by_cases q : nb < 1
      · exact e207a nb r0 r1 s0 s1 s2 s3 s4 s5 s6 s8 s9 s10 s11 s12 s13 s14 X0 hx hZ hw hby hown e0 q kt
      · exact e207b nb r0 r1 s0 s1 s2 s3 s4 s5 s6 s8 s9 s10 s11 s12 s13 s14 X0 hx hZ hw hby hown e0 q (a.resolve_left q) kt
    by_cases b : nb < 2 ∨ ¬ r1 = 0
    · refine ⟨1, Or.inl ⟨rfl, a, b⟩, fun target kt => st ?_⟩
      by_cases q : nb < 2
      · exact e218a nb r0 r1 s0 s1 s2 s3 s4 s5 s6 s8 s9 s10 s11 s12 s13 s14 X0 hx hZ hw hby hown e0 q (e225y nb r0 r1 s0 s1 s2 s3 s4 s5 s6 s8 s9 s10 s11 s12 s13 s14 X0 hx hZ hw hby hown e0 kt)
      · exact e218b nb r0 r1 s0 s1 s2 s3 s4 s5 s6 s8 s9 s10 s11 s12 s13 s14 X0 hx hZ hw hby hown e0 q (b.resolve_left q) (e225y nb r0 r1 s0 s1 s2 s3 s4 s5 s6 s8 s9 s10 s11 s12 s13 s14 X0 hx hZ hw hby hown e0 kt)
    · refine ⟨0, Or.inr ⟨rfl, fun q => b q.2⟩, fun target kt => st ?_⟩
      exact e222b nb r0 r1 s0 s1 s2 s3 s4 s5 s6 s8 s9 s10 s11 s12 s13 s14 X0 hx hZ hw hby hown e0 (fun q => b (Or.inl q)) (Classical.byContradiction fun q => b (Or.inr q)) (e225n nb r0 r1 s0 s1 s2 s3 s4 s5 s6 s8 s9 s10 s11 s12 s13 s14 X0 hx hZ hw hby hown e0 kt)
  · refine ⟨0, Or.inr ⟨rfl, fun q => a q.1⟩, fun target kt => ?_⟩
    exact e222a nb r0 r1 s0 s1 s2 s3 s4 s5 s6 s8 s9 s10 s11 s12 s13 s14 X0 hx hZ hw hby hown e0 (fun q => a (Or.inl q)) (Classical.byContradiction fun q => a (Or.inr q)) (e225n nb r0 r1 s0 s1 s2 s3 s4 s5 s6 s8 s9 s10 s11 s12 s13 s14 X0 hx hZ hw hby hown e0 kt)
theorem own_same {r ex : Int32} {P Q : Prop} (h : (r = 1 ∧ Q) ∨ (r = 0 ∧ ¬ Q)) (h' : (ex = 1 ∧ P) ∨ (ex = 0 ∧ ¬ P)) (q : P ↔ Q) : r = ex := by
  rcases h with ⟨a, b⟩ | ⟨a, b⟩ <;> rcases h' with ⟨a', b'⟩ | ⟨a', b'⟩
  · rw [a, a']
  · exact absurd (q.mpr b) b'
  · exact absurd (q.mp b') b
  · rw [a, a']
theorem pd__Lcom_example_subsumption_subsumption_IntSet__Z : parseMethodDescriptor "(Lcom/example/subsumption/subsumption/IntSet;)Z" = some ⟨[(.object "com/example/subsumption/subsumption/IntSet")], some .boolean⟩ := by decide +kernel
theorem ef_0 (m : MethodId) (x0 : Int32) (x1 : Int32) (x2 : Int32) (x3 : Int32) (x4 : Int32) (x5 : Int32) : entryFrame m #[(.int x0), (.int x1), (.int x2), (.int x3), (.int x4), (.int x5)] maxLocals = mkF m 0 #[.val (.int x0), .val (.int x1), .val (.int x2), .val (.int x3), .val (.int x4), .val (.int x5), .unset, .unset, .unset, .unset, .unset, .unset, .unset, .unset, .unset, .unset, .unset, .unset] [] := by first | (simp [entryFrame, mkF, argsToLocals, Value.category, maxLocals]; done) | rfl
def Q0 (n0 : Nat) (v : Option Value) (h : Heap) (L : List Loc) : Prop := v = some (.int (1 : Int32)) ∧ Fr n0 L
set_option maxRecDepth 65536 in
set_option maxHeartbeats 40000000 in
theorem rm0 (l : Launch) (Z : State) (a0 : Array Value) (hw : ∀ d ∈ tables_1, d.before a0 Z = true) (ws : List Jvm.Cond) (p1 p2 p3 p4 p5 p6 : Int32) (h0 : Heap) (n0 : Nat) (Z0 : n0 ≤ h0.size)   :
    MetFree l x (head1 (Jvm.Cond.code x code maxLocals ret :: ws) room_1) (fun a U => a = #[(.int p1), (.int p2), (.int p3), (.int p4), (.int p5), (.int p6)] ∧ Z.Warmed39 U.vm ∧ U.heap = h0) (fun _ _ _ _ _ => True) (fun _ U o U' => ∃ v L, o = .returned v ∧ Q0 n0 v U'.heap L ∧ FrameEnd U o U' L room_1.cells room_1.slots) := by
  refine MetFree.of_bodySF (plainFor_of_name pn_com_example_subsumption_subsumption_IntSetContainsAllPinLaw) hisR ?_
  intro p e s m args below meth cd s₁ Bd hml0 hPre hKc
  obtain ⟨rfl, hZ, hHp⟩ := hPre
  have hx := Bd.exec
  have hby := Bd.bytes
  have hml : cd.maxLocals = 18 := hml0
  have hown : s.vm.findClass "com/example/subsumption/subsumption/IntSetContainsAllPinLaw" = some m.cls := findClass_of_methodNamed Bd.named
  have hnm := (name_of_methodNamed Bd.named Bd.method).1
  have X0 : Stand p l e room_1 s m #[(.int p1), (.int p2), (.int p3), (.int p4), (.int p5), (.int p6)] below meth cd s₁ [] 0 0 := Stand.of_body Bd
  have e0 : s₁.heap = h0 := by rw [← hHp, Bd.state]; rfl
  have N0 := Fr.nil n0
  have pre0 : ∀ t, Steps p.tables e below (s₁.setTop (mkF m 0 #[.val (.int p1), .val (.int p2), .val (.int p3), .val (.int p4), .val (.int p5), .val (.int p6), .unset, .unset, .unset, .unset, .unset, .unset, .unset, .unset, .unset, .unset, .unset, .unset] [])) t → Steps p.tables e below (s₁.setTop (entryFrame m #[(.int p1), (.int p2), (.int p3), (.int p4), (.int p5), (.int p6)] maxLocals)) t := fun t kz => castTop (ef_0 m p1 p2 p3 p4 p5 p6) kz
  obtain ⟨T1, h1, L1, nb, y0, y1, X1, e1, N1, z1, q1, hy0, hy1, st1⟩ := seg1 p1 p2 p3 p4 p5 p6 X0 hx hZ hw hby hml hown e0 N0 Z0
  subst q1
  obtain ⟨T2, h2, L2, oa, ar0, X2, e2, N2, z2, K2, SA0, zo2, zr2, st2⟩ := segNA (.val (.int p1)) (.val (.int p2)) (.val (.int p3)) (.val (.int p4)) (.val (.int p5)) (.val (.int p6)) (.val (.int (p6 &&& (3 : Int32)))) (.val (.int nb)) (.val (.int (own_el p1))) (.val (.int (own_el p2))) (.val (.int (own_el p3))) (.val (.int y0)) (.val (.int y1)) X1 hx hZ hw hby hml hown e1 N1 z1
  obtain ⟨T3, h3, L3, ar3, n3, vs3, sz3, X3, e3, N3, z3, K3, S3, hi3, hz3, hf3, st3⟩ := segA0 (p6 &&& (3 : Int32)) (own_el p1) oa ar0 _ 0 (.val (.int p1)) (.val (.int p2)) (.val (.int p3)) (.val (.int p4)) (.val (.int p5)) (.val (.int p6)) (.val (.int nb)) (.val (.int (own_el p2))) (.val (.int (own_el p3))) (.val (.int y0)) (.val (.int y1)) (.unset) (.unset) (.unset) (.unset) X2 hx hZ hw hby hml hown e2 N2 z2 SA0 (by decide) (own_El _)
  obtain rfl : n3 = 4 := S3.four (by omega)
  obtain ⟨T4, h4, L4, ar4, n4, vs4, sz4, X4, e4, N4, z4, K4, S4, hi4, hz4, hf4, st4⟩ := segA1 (p6 &&& (3 : Int32)) (own_el p2) oa ar3 vs3 sz3 (.val (.int p1)) (.val (.int p2)) (.val (.int p3)) (.val (.int p4)) (.val (.int p5)) (.val (.int p6)) (.val (.int nb)) (.val (.int (own_el p1))) (.val (.int (own_el p3))) (.val (.int y0)) (.val (.int y1)) (.unset) (.unset) (.unset) (.unset) X3 hx hZ hw hby hml hown e3 N3 z3 S3 (by omega) (own_El _)
  obtain rfl : n4 = 4 := S4.four (by omega)
  obtain ⟨T5, h5, L5, ar5, n5, vs5, sz5, X5, e5, N5, z5, K5, S5, hi5, hz5, hf5, st5⟩ := segA2 (p6 &&& (3 : Int32)) (own_el p3) oa ar4 vs4 sz4 (.val (.int p1)) (.val (.int p2)) (.val (.int p3)) (.val (.int p4)) (.val (.int p5)) (.val (.int p6)) (.val (.int nb)) (.val (.int (own_el p1))) (.val (.int (own_el p2))) (.val (.int y0)) (.val (.int y1)) (.unset) (.unset) (.unset) (.unset) X4 hx hZ hw hby hml hown e4 N4 z4 S4 (by omega) (own_El _)
  obtain ⟨T6, h6, L6, ob, br0, X6, e6, N6, z6, K6, SB0, zo6, zr6, st6⟩ := segNB (.val (.int p1)) (.val (.int p2)) (.val (.int p3)) (.val (.int p4)) (.val (.int p5)) (.val (.int p6)) (.val (.int (p6 &&& (3 : Int32)))) (.val (.int nb)) (.val (.int (own_el p1))) (.val (.int (own_el p2))) (.val (.int (own_el p3))) (.val (.int y0)) (.val (.int y1)) (.val (.ref oa)) X5 hx hZ hw hby hml hown e5 N5 z5
  have S6 : SetA Z h6 n0 oa ar5 n5 vs5 sz5 := S5.keep K6 nin0 nin0
  have d1 : oa ≠ ob := Nat.ne_of_lt (Nat.lt_of_lt_of_le S5.lt.1 zo6)
  have d2 : oa ≠ br0 := Nat.ne_of_lt (Nat.lt_of_lt_of_le S5.lt.1 zr6)
  have d3 : ar5 ≠ ob := Nat.ne_of_lt (Nat.lt_of_lt_of_le S5.lt.2 zo6)
  have d4 : ar5 ≠ br0 := Nat.ne_of_lt (Nat.lt_of_lt_of_le S5.lt.2 zr6)
  obtain ⟨T7, h7, L7, ar7, n7, vs7, sz7, X7, e7, N7, z7, K7, S7, hi7, hz7, hf7, st7⟩ := segB0 nb y0 ob br0 _ 0 (.val (.int p1)) (.val (.int p2)) (.val (.int p3)) (.val (.int p4)) (.val (.int p5)) (.val (.int p6)) (.val (.int (p6 &&& (3 : Int32)))) (.val (.int (own_el p1))) (.val (.int (own_el p2))) (.val (.int (own_el p3))) (.val (.int y1)) (.val (.ref oa)) (.unset) (.unset) (.unset) X6 hx hZ hw hby hml hown e6 N6 z6 SB0 (by decide) hy0
  have S7a : SetA Z h7 n0 oa ar5 n5 vs5 sz5 := S6.keep K7 (ninS d1 (ninS d2 nin0)) (ninS d3 (ninS d4 nin0))
  have d5 : oa ≠ ar7 := hf7.elim (fun q => q ▸ d2) (fun q => Nat.ne_of_lt (Nat.lt_of_lt_of_le S6.lt.1 q))
  have d6 : ar5 ≠ ar7 := hf7.elim (fun q => q ▸ d4) (fun q => Nat.ne_of_lt (Nat.lt_of_lt_of_le S6.lt.2 q))
  obtain rfl : n7 = 4 := S7.four (by omega)
  obtain ⟨T8, h8, L8, ar8, n8, vs8, sz8, X8, e8, N8, z8, K8, S8, hi8, hz8, hf8, st8⟩ := segB1 nb y1 ob ar7 vs7 sz7 (.val (.int p1)) (.val (.int p2)) (.val (.int p3)) (.val (.int p4)) (.val (.int p5)) (.val (.int p6)) (.val (.int (p6 &&& (3 : Int32)))) (.val (.int (own_el p1))) (.val (.int (own_el p2))) (.val (.int (own_el p3))) (.val (.int y0)) (.val (.ref oa)) (.unset) (.unset) (.unset) X7 hx hZ hw hby hml hown e7 N7 z7 S7 (by omega) hy1
  have S8a : SetA Z h8 n0 oa ar5 n5 vs5 sz5 := S7a.keep K8 (ninS d1 (ninS d5 nin0)) (ninS d3 (ninS d6 nin0))
  obtain rfl : n8 = 4 := S8.four (by omega)
  obtain ⟨T9, h9, L9, r0, r1, X9, e9, N9, z9, q9, hr0, hr1, st9⟩ := segI (p6 &&& (3 : Int32)) (own_el p1) (own_el p2) (own_el p3) y0 y1 (.val (.int p1)) (.val (.int p2)) (.val (.int p3)) (.val (.int p4)) (.val (.int p5)) (.val (.int p6)) (.val (.int nb)) (.val (.ref oa)) (.val (.ref ob)) X8 hx hZ hw hby hml hown e8 N8 z8
  subst q9
  obtain ⟨ex, hex, st10⟩ := segE nb r0 r1 (.val (.int p1)) (.val (.int p2)) (.val (.int p3)) (.val (.int p4)) (.val (.int p5)) (.val (.int p6)) (.val (.int (p6 &&& (3 : Int32)))) (.val (.int (own_el p1))) (.val (.int (own_el p2))) (.val (.int (own_el p3))) (.val (.int y0)) (.val (.int y1)) (.val (.ref oa)) (.val (.ref ob)) X9 hx hZ hw hby hown e9
  have hfin := own_final (na := (p6 &&& (3 : Int32))) (nb := nb) (x0 := (own_el p1)) (x1 := (own_el p2)) (x2 := (own_el p3)) hy0 hy1 (n := n5) (vs := vs5) (ws := vs8) (fun y hy => (hi5 y hy).trans (or_congr Iff.rfl ((hi4 y hy).trans (or_congr Iff.rfl ((hi3 y hy).trans (or_congr Iff.rfl (own_z4 hy))))))) (fun y hy => (hi8 y hy).trans (or_congr Iff.rfl ((hi7 y hy).trans (or_congr Iff.rfl (own_z4 hy))))) hr0 hr1
  obtain ⟨cq21, kq21, q21a, q21b, q21c⟩ := isOf hZ e9 S8a.1
  obtain ⟨_, _, ⟨T21, L21, k21, n21⟩, -, X21, ⟨Lc21, hQ21, l21, y21, z21⟩, st21⟩ := X9.virtualBack hx (y := (⟨"com/example/subsumption/subsumption/IntSet", "containsAll", "(Lcom/example/subsumption/subsumption/IntSet;)Z"⟩ : MethodName)) (z := (⟨"com/example/subsumption/subsumption/IntSet", "containsAll", "(Lcom/example/subsumption/subsumption/IntSet;)Z"⟩ : MethodName)) hown (mvT hZ (hw _ (List.mem_of_getElem? (i := 48) rfl))) (mvT hZ (hw _ (List.mem_of_getElem? (i := 49) rfl))) (notFace_of_selects (args := #[]) (mvT hZ (hw _ (List.mem_of_getElem? (i := 51) rfl)))) (mvT hZ (hw _ (List.mem_of_getElem? (i := 51) rfl))) (mvT hZ (hw _ (List.mem_of_getElem? (i := 50) rfl))) (by decide) (backOf (W := 0) (rm11 l Z a0 hw [] oa ob ar5 ar8 n5 vs5 vs8 sz5 sz8 h9 n0 z9 S8a S8) hZ (hw _ (List.mem_of_getElem? (i := 52) rfl)) (hw _ (List.mem_of_getElem? (i := 14) rfl)) (by decide) (by decide)) q21a q21c (g := (mkF m 229 #[.val (.int p1), .val (.int p2), .val (.int p3), .val (.int p4), .val (.int p5), .val (.int p6), .val (.int (p6 &&& (3 : Int32))), .val (.int nb), .val (.int (own_el p1)), .val (.int (own_el p2)), .val (.int (own_el p3)), .val (.int y0), .val (.int y1), .val (.ref oa), .val (.ref ob), .val (.int r0), .val (.int r1), .val (.int ex)] [(.ref ob), (.ref oa)])) rfl (by rw [hml]; rfl) (Steps.refl _) (argsL := [(.ref ob)]) (rest := []) (lenOf pd__Lcom_example_subsumption_subsumption_IntSet__Z rfl) rfl (by show 2 * 0 + _ ≤ _; exact Nat.le_of_eq rfl) (hb hby at_229) (fun _ _ => ⟨rfl, e9, (Nat.le_of_ble_eq_true rfl), (Nat.le_of_ble_eq_true rfl)⟩)
  dsimp only [Pt.U, Pt.locs, Pt.cells, Pt.slots] at X21 l21 y21 z21 st21 hQ21
  subst l21 y21 z21
  obtain ⟨r21, rfl, N21q, e21, hr21⟩ := hQ21
  have N21 := Fr.app N9 N21q
  have hre : r21 = ex := own_same hr21 hex hfin
  obtain ⟨fs, hr, hrun, hended, hW, hsame⟩ := X21.leave (v := some (.int (1 : Int32))) (fun h => by rw [Bd.returns] at h; cases h)
  refine ⟨_, _, pre0 _ ?_, hrun, hended, _, _, rfl, ?_, ⟨_, rfl⟩, hW, hsame.mono (by decide) (by decide)⟩
  · show Steps p.tables e below (s₁.setTop (mkF m 0 #[.val (.int p1), .val (.int p2), .val (.int p3), .val (.int p4), .val (.int p5), .val (.int p6), .unset, .unset, .unset, .unset, .unset, .unset, .unset, .unset, .unset, .unset, .unset, .unset] [])) _
    refine st1 _ ?_
    refine st2 _ ?_
    refine st3 _ ?_
    refine st4 _ ?_
    refine st5 _ ?_
    refine st6 _ ?_
    refine st7 _ ?_
    refine st8 _ ?_
    refine st9 _ ?_
    refine st10 _ ?_
    show Steps p.tables e below (T9.setTop (mkF m 225 #[.val (.int p1), .val (.int p2), .val (.int p3), .val (.int p4), .val (.int p5), .val (.int p6), .val (.int (p6 &&& (3 : Int32))), .val (.int nb), .val (.int (own_el p1)), .val (.int (own_el p2)), .val (.int (own_el p3)), .val (.int y0), .val (.int y1), .val (.ref oa), .val (.ref ob), .val (.int r0), .val (.int r1), .val (.int ex)] [])) _
    refine XS.aload X9.here hx rfl (hb hby at_225) rfl rfl ?_
    show Steps p.tables e below (T9.setTop (mkF m 227 #[.val (.int p1), .val (.int p2), .val (.int p3), .val (.int p4), .val (.int p5), .val (.int p6), .val (.int (p6 &&& (3 : Int32))), .val (.int nb), .val (.int (own_el p1)), .val (.int (own_el p2)), .val (.int (own_el p3)), .val (.int y0), .val (.int y1), .val (.ref oa), .val (.ref ob), .val (.int r0), .val (.int r1), .val (.int ex)] [(.ref oa)])) _
    refine XS.aload X9.here hx rfl (hb hby at_227) rfl rfl ?_
    show Steps p.tables e below (T9.setTop (mkF m 229 #[.val (.int p1), .val (.int p2), .val (.int p3), .val (.int p4), .val (.int p5), .val (.int p6), .val (.int (p6 &&& (3 : Int32))), .val (.int nb), .val (.int (own_el p1)), .val (.int (own_el p2)), .val (.int (own_el p3)), .val (.int y0), .val (.int y1), .val (.ref oa), .val (.ref ob), .val (.int r0), .val (.int r1), .val (.int ex)] [(.ref ob), (.ref oa)])) _
    refine st21.trans ?_
    show Steps p.tables e below (T21.setTop (mkF m 232 #[.val (.int p1), .val (.int p2), .val (.int p3), .val (.int p4), .val (.int p5), .val (.int p6), .val (.int (p6 &&& (3 : Int32))), .val (.int nb), .val (.int (own_el p1)), .val (.int (own_el p2)), .val (.int (own_el p3)), .val (.int y0), .val (.int y1), .val (.ref oa), .val (.ref ob), .val (.int r0), .val (.int r1), .val (.int ex)] [(.int r21)])) _
    refine XS.iload X21.here hx rfl (hb hby at_232) rfl ?_
    show Steps p.tables e below (T21.setTop (mkF m 234 #[.val (.int p1), .val (.int p2), .val (.int p3), .val (.int p4), .val (.int p5), .val (.int p6), .val (.int (p6 &&& (3 : Int32))), .val (.int nb), .val (.int (own_el p1)), .val (.int (own_el p2)), .val (.int (own_el p3)), .val (.int y0), .val (.int y1), .val (.ref oa), .val (.ref ob), .val (.int r0), .val (.int r1), .val (.int ex)] [(.int ex), (.int r21)])) _
    refine XS.icmpNo X21.here hx rfl (hb hby at_234) rfl (teq (hre : r21 = ex)).2 ?_
    show Steps p.tables e below (T21.setTop (mkF m 237 #[.val (.int p1), .val (.int p2), .val (.int p3), .val (.int p4), .val (.int p5), .val (.int p6), .val (.int (p6 &&& (3 : Int32))), .val (.int nb), .val (.int (own_el p1)), .val (.int (own_el p2)), .val (.int (own_el p3)), .val (.int y0), .val (.int y1), .val (.ref oa), .val (.ref ob), .val (.int r0), .val (.int r1), .val (.int ex)] [])) _
    refine XS.iconst X21.here hx rfl (hb hby at_237) ?_
    show Steps p.tables e below (T21.setTop (mkF m 238 #[.val (.int p1), .val (.int p2), .val (.int p3), .val (.int p4), .val (.int p5), .val (.int p6), .val (.int (p6 &&& (3 : Int32))), .val (.int nb), .val (.int (own_el p1)), .val (.int (own_el p2)), .val (.int (own_el p3)), .val (.int y0), .val (.int y1), .val (.ref oa), .val (.ref ob), .val (.int r0), .val (.int r1), .val (.int ex)] [(.int (1 : Int32))])) _
    refine XS.goto X21.here hx rfl (pc0 := 238) (pc' := 242) rfl (hb hby at_238) (by decide) (by decide) ?_
    show Steps p.tables e below (T21.setTop (mkF m 242 #[.val (.int p1), .val (.int p2), .val (.int p3), .val (.int p4), .val (.int p5), .val (.int p6), .val (.int (p6 &&& (3 : Int32))), .val (.int nb), .val (.int (own_el p1)), .val (.int (own_el p2)), .val (.int (own_el p3)), .val (.int y0), .val (.int y1), .val (.ref oa), .val (.ref ob), .val (.int r0), .val (.int r1), .val (.int ex)] [(.int (1 : Int32))])) _
    exact retN X21 hx (t := .boolean) Bd.returns (by simp) (hb hby at_242) hr
  · show Q0 n0 _ _ _
    exact ⟨rfl, N21⟩
set_option maxRecDepth 65536 in
set_option maxHeartbeats 40000000 in
theorem comes_1 {Post : Tables → Env → Array Value → State → Outcome → State → Prop} (hpost : ∀ tb e args s v u, (limb_1_1.after args s (.returned v) u = true ∧ limb_1_2.after args s (.returned v) u = true ∧ True) → FrameEnd s (.returned v) u (Jvm.fieldLocs frame_1_writes args s ++ Jvm.arrayLocs frame_1_arrays args s ++ Jvm.staticLocs frame_1_statics s) 24 128 → Post tb e args s (.returned v) u) :
    ArmFor flags0 classFile x code maxLocals ret World_1 tables_1 room_1 Calls_1 rest_1 Pre_1 Post := by
  intro l hfl _ _ p e ha hc hk s m args below hf hA hF happ hP
  obtain ⟨hcalls, hrest, hpre⟩ := hP
  obtain ⟨-, -, -, hnamed, -, -, -, hat⟩ := (Spec.applies_iff hf).mp happ
  obtain ⟨hg, hn⟩ := and_e (Cond.before_iff.mp (show (Jvm.Cond.and given_1 narrow_1).before args s = true from hpre))
  obtain ⟨g9, g10⟩ := and_e hg
  obtain ⟨g11, g12⟩ := and_e g10
  obtain ⟨g13, g14⟩ := and_e g12
  obtain ⟨g15, g16⟩ := and_e g14
  obtain ⟨g17, g18⟩ := and_e g16
  obtain ⟨g19, g20⟩ := and_e g18
  obtain ⟨w0, w1, w2, w3, w4, w5, rfl⟩ : ∃ w0 w1 w2 w3 w4 w5 : Value, args = #[w0, w1, w2, w3, w4, w5] := by
    have hs : args.size = 6 := by simpa [Cond.value, given_1] using g9
    obtain ⟨L⟩ := args
    match L, hs with
    | [w0, w1, w2, w3, w4, w5], _ => exact ⟨w0, w1, w2, w3, w4, w5, rfl⟩
  have hw := fun d (hd : d ∈ tables_1) => atoms_spec (ws := Jvm.Cond.code x code maxLocals ret :: tables_1) hat d (List.mem_cons_of_mem _ hd)
  have hfit : Fit s := fun {y c} hc i hi => by
    obtain ⟨ha, rfl⟩ := Array.getElem?_eq_some_iff.mp hc
    have q := List.all_eq_true.mp ((Array.all_eq_true_iff_forall_mem.mp hF) _ (Array.getElem_mem ha)) i (List.mem_range.mpr hi)
    simpa [Array.getElem?_eq_getElem hi] using q
  obtain ⟨i0, ei0⟩ := is_v g11
  obtain rfl : w0 = (.int i0) := Option.some.inj ei0
  obtain ⟨i1, ei1⟩ := is_v g13
  obtain rfl : w1 = (.int i1) := Option.some.inj ei1
  obtain ⟨i2, ei2⟩ := is_v g15
  obtain rfl : w2 = (.int i2) := Option.some.inj ei2
  obtain ⟨i3, ei3⟩ := is_v g17
  obtain rfl : w3 = (.int i3) := Option.some.inj ei3
  obtain ⟨i4, ei4⟩ := is_v g19
  obtain rfl : w4 = (.int i4) := Option.some.inj ei4
  obtain ⟨i5, ei5⟩ := is_v g20
  obtain rfl : w5 = (.int i5) := Option.some.inj ei5
  obtain ⟨n, o, h1, h2, h3, _, L, rfl, ⟨rfl, N⟩, hq⟩ := rm0 l s _ hw tables_1 i0 i1 i2 i3 i4 i5 s.heap s.heap.size (Nat.le_refl _) p e ha hc hk s m _ below hf ((Spec.applies_iff_loose hf).mp happ).1 ⟨rfl, State.Warmed39.refl s, rfl⟩ trivial
  refine ⟨n, _, h1, h2, h3, hpost _ _ _ _ _ _ ⟨Cond.after_iff.mpr rfl, Cond.after_iff.mpr (eq_i res_at (Term.int_eval (1)) rfl), trivial⟩ ⟨hq.1, hq.2.1, (hq.2.2.sift fun y hy => Or.inr (N y hy)).mono (by decide) (by decide)⟩⟩
theorem main_1_1 : Claimed_1_1 := comes_1 fun _ _ _ _ _ _ h hF => ⟨h.1, hF⟩
theorem main_1_2 : Claimed_1_2 := comes_1 fun _ _ _ _ _ _ h hF => ⟨h.2.1, hF⟩
end Jvm.Pilot.@@N@@
namespace Jvm.Pilot.@@N@@
open Jvm Jvm.ClassFile Sem Op Lib Jvm.Free Jvm.Stand Jvm.Pilot.@@N@@.Jvm.D
/-! MADE BY PROGRAM (witnessworld.py) out of the Statement's table words and the real class files: 15 classes; the members and pool entries that the words name. The judged class is class 1, her method 4. -/
namespace start1
open Jvm.ClassFile
def u (s : String) : CpInfo := .utf8 (stringToUtf16 s)
/-- a pool by its gaps: so many unusable entries, then the entry; so many at the end -/
def gap : Nat → List CpInfo → List CpInfo
  | 0, r => r
  | n + 1, r => .unusable :: gap n r
def poolList (es : List (Nat × CpInfo)) (last : Nat) : List CpInfo := es.foldr (fun e r => gap e.1 (e.2 :: r)) (gap last [])
def pool (es : List (Nat × CpInfo)) (last : Nat) : Array CpInfo := ⟨poolList es last⟩
def fileOf (pool : Array CpInfo) (this : Nat) (attrs : Array Attribute := #[]) (ms : Array MethodInfo := #[]) (fl : Nat := 33) (sup : Nat := 0) (ifs : Array Nat := #[]) (fds : Array FieldInfo := #[]) : ClassFile where
  minorVersion := 0
  majorVersion := 65
  constantPool := pool
  accessFlags := fl
  thisClass := this
  superClass := sup
  interfaces := ifs
  fields := fds
  methods := ms
  attributes := attrs
def plain (name : String) (sup : Option ClassId) : Class where
  name := name
  kind := .ordinary
  loader := none
  accessFlags := 33
  super := sup
  interfaces := #[]
  cf := none
  fields := #[]
  methods := #[]
  instanceTypes := #[]
  staticTypes := #[]
  resolved := #[]
  callSites := []
  init := .initialized
  statics := none
  mirror := none

def pool0 : Array CpInfo := pool [(5, u "<init>"), (0, u "()V"), (1, .class_ 10), (1, u "java/lang/Object")] 113

def k0c0 : Code := { maxStack := 0, maxLocals := 1, code := object_method_1_code, exceptionTable := #[], attributes := #[] }
def k0m0 : Method := { name := "<init>", desc := "()V", sig := { parameters := [], returnType := none }, accessFlags := 1, code := some k0c0 }
/-- java/lang/Object -/
def k0 : Class := { plain "java/lang/Object" none with
  accessFlags := 33
  interfaces := #[]
  cf := some (fileOf pool0 8 #[] #[{ accessFlags := 1, nameIndex := 5, descriptorIndex := 6, attributes := #[] }] 33 0 #[] #[])
  fields := #[]
  methods := #[k0m0]
  instanceTypes := #[]
  staticTypes := #[]
  resolved := Array.replicate 124 none
  statics := none }

def pool1 : Array CpInfo := pool [(2, .class_ 4), (0, .nameAndType 5 6), (0, u "java/lang/Object"), (0, u "<init>"), (0, u "()V"), (0, .integer 2147483647), (0, .methodref 9 10), (0, .class_ 11), (0, .nameAndType 12 13), (0, u "java/lang/Math"), (0, u "min"), (0, u "(II)I"), (0, .methodref 15 16), (0, .class_ 17), (0, .nameAndType 18 19), (0, u "com/example/subsumption/subsumption/IntSetContainsAllPinLaw"), (0, u "el"), (0, u "(I)I"), (0, .methodref 15 21), (0, .nameAndType 22 23), (0, u "pick"), (0, u "(IIIII)I"), (0, .class_ 25), (0, u "com/example/subsumption/subsumption/IntSet"), (0, .methodref 24 3), (0, .methodref 24 28), (0, .nameAndType 29 30), (0, u "add"), (0, u "(I)Z"), (0, .methodref 15 32), (0, .nameAndType 33 34), (0, u "inA"), (0, u "(IIIII)Z"), (0, .methodref 24 36), (0, .nameAndType 37 38), (0, u "containsAll"), (0, u "(Lcom/example/subsumption/subsumption/IntSet;)Z"), (3, u "law"), (0, u "(IIIIII)Z")] 2

def k1m0 : Method := { name := "<init>", desc := "()V", sig := { parameters := [], returnType := none }, accessFlags := 1, code := none }
def k1c1 : Code := { maxStack := 2, maxLocals := 1, code := method_2_code, exceptionTable := #[], attributes := #[] }
def k1m1 : Method := { name := "el", desc := "(I)I", sig := { parameters := [.int], returnType := some .int }, accessFlags := 10, code := some k1c1 }
def k1c2 : Code := { maxStack := 2, maxLocals := 5, code := method_3_code, exceptionTable := #[], attributes := #[] }
def k1m2 : Method := { name := "pick", desc := "(IIIII)I", sig := { parameters := [.int, .int, .int, .int, .int], returnType := some .int }, accessFlags := 10, code := some k1c2 }
def k1c3 : Code := { maxStack := 2, maxLocals := 5, code := method_4_code, exceptionTable := #[], attributes := #[] }
def k1m3 : Method := { name := "inA", desc := "(IIIII)Z", sig := { parameters := [.int, .int, .int, .int, .int], returnType := some .boolean }, accessFlags := 10, code := some k1c3 }
def k1c4 : Code := { maxStack := 5, maxLocals := 18, code := code, exceptionTable := #[], attributes := #[] }
def k1m4 : Method := { name := "law", desc := "(IIIIII)Z", sig := { parameters := [.int, .int, .int, .int, .int, .int], returnType := some .boolean }, accessFlags := 9, code := some k1c4 }
/-- com/example/subsumption/subsumption/IntSetContainsAllPinLaw -/
def k1 : Class := { plain "com/example/subsumption/subsumption/IntSetContainsAllPinLaw" (some 0) with
  accessFlags := 49
  interfaces := #[]
  cf := some (fileOf pool1 15 #[] #[{ accessFlags := 1, nameIndex := 5, descriptorIndex := 6, attributes := #[] }, { accessFlags := 10, nameIndex := 18, descriptorIndex := 19, attributes := #[] }, { accessFlags := 10, nameIndex := 22, descriptorIndex := 23, attributes := #[] }, { accessFlags := 10, nameIndex := 33, descriptorIndex := 34, attributes := #[] }, { accessFlags := 9, nameIndex := 42, descriptorIndex := 43, attributes := #[] }] 49 2 #[] #[])
  fields := #[]
  methods := #[k1m0, k1m1, k1m2, k1m3, k1m4]
  instanceTypes := #[]
  staticTypes := #[]
  resolved := Array.replicate 46 none
  statics := none }

def pool2 : Array CpInfo := pool [(1, .class_ 2), (0, u "java/lang/Math"), (1, .class_ 6), (1, u "java/lang/Object"), (0, u "<init>"), (0, u "()V"), (89, .class_ 100), (1, u "java/lang/Math$RandomNumberGeneratorHolder"), (71, u "negativeZeroFloatBits"), (0, u "J"), (2, u "negativeZeroDoubleBits"), (24, u "min"), (43, u "$assertionsDisabled"), (0, u "Z"), (88, u "(II)I"), (2, u "twoToTheDoubleScaleDown"), (0, u "D"), (4, u "twoToTheDoubleScaleUp"), (9, u "E"), (3, u "PI"), (2, u "TAU"), (2, u "DEGREES_TO_RADIANS"), (0, u "RADIANS_TO_DEGREES")] 94

def k2m0 : Method := { name := "<init>", desc := "()V", sig := { parameters := [], returnType := none }, accessFlags := 2, code := none }
def k2c1 : Code := { maxStack := 2, maxLocals := 2, code := jdk_29_method_69_code, exceptionTable := #[], attributes := #[] }
def k2m1 : Method := { name := "min", desc := "(II)I", sig := { parameters := [.int, .int], returnType := some .int }, accessFlags := 9, code := some k2c1 }
/-- java/lang/Math -/
def k2 : Class := { plain "java/lang/Math" (some 0) with
  accessFlags := 49
  interfaces := #[]
  cf := some (fileOf pool2 1 #[.nestMembers #[98]] #[{ accessFlags := 2, nameIndex := 7, descriptorIndex := 8, attributes := #[] }, { accessFlags := 9, nameIndex := 201, descriptorIndex := 335, attributes := #[] }] 49 4 #[] #[{ accessFlags := 25, nameIndex := 354, descriptorIndex := 339, attributes := #[] }, { accessFlags := 25, nameIndex := 358, descriptorIndex := 339, attributes := #[] }, { accessFlags := 25, nameIndex := 361, descriptorIndex := 339, attributes := #[] }, { accessFlags := 26, nameIndex := 364, descriptorIndex := 339, attributes := #[] }, { accessFlags := 26, nameIndex := 365, descriptorIndex := 339, attributes := #[] }, { accessFlags := 26, nameIndex := 172, descriptorIndex := 173, attributes := #[] }, { accessFlags := 26, nameIndex := 176, descriptorIndex := 173, attributes := #[] }, { accessFlags := 8, nameIndex := 344, descriptorIndex := 339, attributes := #[] }, { accessFlags := 8, nameIndex := 338, descriptorIndex := 339, attributes := #[] }, { accessFlags := 4120, nameIndex := 245, descriptorIndex := 246, attributes := #[] }])
  fields := #[{ name := "E", type := .double, accessFlags := 25, slot := 0, constantValue := 0 }, { name := "PI", type := .double, accessFlags := 25, slot := 1, constantValue := 0 }, { name := "TAU", type := .double, accessFlags := 25, slot := 2, constantValue := 0 }, { name := "DEGREES_TO_RADIANS", type := .double, accessFlags := 26, slot := 3, constantValue := 0 }, { name := "RADIANS_TO_DEGREES", type := .double, accessFlags := 26, slot := 4, constantValue := 0 }, { name := "negativeZeroFloatBits", type := .long, accessFlags := 26, slot := 5, constantValue := 0 }, { name := "negativeZeroDoubleBits", type := .long, accessFlags := 26, slot := 6, constantValue := 0 }, { name := "twoToTheDoubleScaleUp", type := .double, accessFlags := 8, slot := 7, constantValue := 0 }, { name := "twoToTheDoubleScaleDown", type := .double, accessFlags := 8, slot := 8, constantValue := 0 }, { name := "$assertionsDisabled", type := .boolean, accessFlags := 4120, slot := 9, constantValue := 0 }]
  methods := #[k2m0, k2m1]
  instanceTypes := #[]
  staticTypes := #[.double, .double, .double, .double, .double, .long, .long, .double, .double, .boolean]
  resolved := Array.replicate 460 none
  statics := none }

def pool3 : Array CpInfo := pool [(1, .methodref 2 3), (0, .class_ 4), (0, .nameAndType 5 6), (0, u "java/lang/Object"), (0, u "<init>"), (0, u "()V"), (0, .class_ 8), (0, u "com/example/subsumption/subsumption/IntSet"), (0, .fieldref 7 10), (0, .nameAndType 11 12), (0, u "slots"), (0, u "[I"), (0, .class_ 14), (0, u "java/lang/Integer"), (0, .integer 2147483647), (9, .methodref 7 26), (0, .nameAndType 27 28), (0, u "slotOf"), (0, u "(I[I)I"), (0, .fieldref 7 30), (0, .nameAndType 31 32), (0, u "size"), (0, u "I"), (0, .methodref 7 34), (0, .nameAndType 35 6), (0, u "grow"), (6, .integer 2654435769), (0, .methodref 13 44), (0, .nameAndType 45 46), (0, u "numberOfLeadingZeros"), (0, u "(I)I"), (0, u "FIRST_CAPACITY"), (4, u "add"), (0, u "(I)Z"), (2, u "containsAll"), (0, u "(Lcom/example/subsumption/subsumption/IntSet;)Z")] 21

def k3c0 : Code := { maxStack := 2, maxLocals := 1, code := prog_2_method_1_code, exceptionTable := #[], attributes := #[] }
def k3m0 : Method := { name := "<init>", desc := "()V", sig := { parameters := [], returnType := none }, accessFlags := 0, code := some k3c0 }
def k3c1 : Code := { maxStack := 4, maxLocals := 3, code := prog_2_method_2_code, exceptionTable := #[], attributes := #[] }
def k3m1 : Method := { name := "add", desc := "(I)Z", sig := { parameters := [.int], returnType := some .boolean }, accessFlags := 0, code := some k3c1 }
def k3c2 : Code := { maxStack := 3, maxLocals := 6, code := prog_2_method_4_code, exceptionTable := #[], attributes := #[] }
def k3m2 : Method := { name := "containsAll", desc := "(Lcom/example/subsumption/subsumption/IntSet;)Z", sig := { parameters := [(.object "com/example/subsumption/subsumption/IntSet")], returnType := some .boolean }, accessFlags := 0, code := some k3c2 }
def k3c3 : Code := { maxStack := 2, maxLocals := 4, code := prog_2_method_7_code, exceptionTable := #[], attributes := #[] }
def k3m3 : Method := { name := "slotOf", desc := "(I[I)I", sig := { parameters := [.int, (.array .int)], returnType := some .int }, accessFlags := 10, code := some k3c3 }
def k3c4 : Code := { maxStack := 3, maxLocals := 6, code := prog_2_method_8_code, exceptionTable := #[], attributes := #[] }
def k3m4 : Method := { name := "grow", desc := "()V", sig := { parameters := [], returnType := none }, accessFlags := 2, code := some k3c4 }
/-- com/example/subsumption/subsumption/IntSet -/
def k3 : Class := { plain "com/example/subsumption/subsumption/IntSet" (some 0) with
  accessFlags := 32
  interfaces := #[]
  cf := some (fileOf pool3 7 #[] #[{ accessFlags := 0, nameIndex := 5, descriptorIndex := 6, attributes := #[] }, { accessFlags := 0, nameIndex := 52, descriptorIndex := 53, attributes := #[] }, { accessFlags := 0, nameIndex := 56, descriptorIndex := 57, attributes := #[] }, { accessFlags := 10, nameIndex := 27, descriptorIndex := 28, attributes := #[] }, { accessFlags := 2, nameIndex := 35, descriptorIndex := 6, attributes := #[] }] 32 2 #[] #[{ accessFlags := 26, nameIndex := 47, descriptorIndex := 32, attributes := #[] }, { accessFlags := 2, nameIndex := 11, descriptorIndex := 12, attributes := #[] }, { accessFlags := 2, nameIndex := 31, descriptorIndex := 32, attributes := #[] }])
  fields := #[{ name := "FIRST_CAPACITY", type := .int, accessFlags := 26, slot := 0, constantValue := 0 }, { name := "slots", type := (.array .int), accessFlags := 2, slot := 0, constantValue := 0 }, { name := "size", type := .int, accessFlags := 2, slot := 1, constantValue := 0 }]
  methods := #[k3m0, k3m1, k3m2, k3m3, k3m4]
  instanceTypes := #[(.array .int), .int]
  staticTypes := #[.int]
  resolved := Array.replicate 79 none
  statics := none }

def pool4 : Array CpInfo := pool [(1, .class_ 2), (0, u "java/io/Serializable"), (0, .class_ 4), (0, u "java/lang/Object")] 2

/-- java/io/Serializable -/
def k4 : Class := { plain "java/io/Serializable" (some 0) with
  accessFlags := 1537
  interfaces := #[]
  cf := some (fileOf pool4 1 #[] #[] 1537 3 #[] #[])
  fields := #[]
  methods := #[]
  instanceTypes := #[]
  staticTypes := #[]
  resolved := Array.replicate 7 none
  statics := none }

def pool5 : Array CpInfo := pool [(2, .class_ 4), (1, u "java/lang/Object"), (0, u "<init>"), (0, u "()V"), (1, .class_ 10), (1, u "java/lang/Number"), (2, .class_ 14), (0, u "java/io/Serializable"), (0, u "serialVersionUID"), (0, u "J")] 20

def k5m0 : Method := { name := "<init>", desc := "()V", sig := { parameters := [], returnType := none }, accessFlags := 1, code := none }
/-- java/lang/Number -/
def k5 : Class := { plain "java/lang/Number" (some 0) with
  accessFlags := 1057
  interfaces := #[4]
  cf := some (fileOf pool5 8 #[] #[{ accessFlags := 1, nameIndex := 5, descriptorIndex := 6, attributes := #[] }] 1057 2 #[13] #[{ accessFlags := 26, nameIndex := 15, descriptorIndex := 16, attributes := #[] }])
  fields := #[{ name := "serialVersionUID", type := .long, accessFlags := 26, slot := 0, constantValue := 0 }]
  methods := #[k5m0]
  instanceTypes := #[]
  staticTypes := #[.long]
  resolved := Array.replicate 37 none
  statics := none }

def pool6 : Array CpInfo := pool [(1, .class_ 2), (0, u "java/lang/Comparable"), (0, .class_ 4), (0, u "java/lang/Object")] 7

/-- java/lang/Comparable -/
def k6 : Class := { plain "java/lang/Comparable" (some 0) with
  accessFlags := 1537
  interfaces := #[]
  cf := some (fileOf pool6 1 #[] #[] 1537 3 #[] #[])
  fields := #[]
  methods := #[]
  instanceTypes := #[]
  staticTypes := #[]
  resolved := Array.replicate 12 none
  statics := none }

def pool7 : Array CpInfo := pool [(1, .class_ 2), (0, u "java/lang/constant/Constable"), (0, .class_ 4), (0, u "java/lang/Object")] 6

/-- java/lang/constant/Constable -/
def k7 : Class := { plain "java/lang/constant/Constable" (some 0) with
  accessFlags := 1537
  interfaces := #[]
  cf := some (fileOf pool7 1 #[] #[] 1537 3 #[] #[])
  fields := #[]
  methods := #[]
  instanceTypes := #[]
  staticTypes := #[]
  resolved := Array.replicate 11 none
  statics := none }

def pool8 : Array CpInfo := pool [(1, .class_ 2), (0, u "java/lang/constant/ConstantDesc"), (0, .class_ 4), (0, u "java/lang/Object")] 32

/-- java/lang/constant/ConstantDesc -/
def k8 : Class := { plain "java/lang/constant/ConstantDesc" (some 0) with
  accessFlags := 1537
  interfaces := #[]
  cf := some (fileOf pool8 1 #[] #[] 1537 3 #[] #[])
  fields := #[]
  methods := #[]
  instanceTypes := #[]
  staticTypes := #[]
  resolved := Array.replicate 37 none
  statics := none }

def pool9 : Array CpInfo := pool [(1, .class_ 2), (0, u "java/lang/Integer"), (16, u "digits"), (0, u "[C"), (32, u "numberOfLeadingZeros"), (0, u "(I)I"), (30, u "DigitOnes"), (0, u "[B"), (2, u "DigitTens"), (99, .class_ 190), (0, u "java/lang/Integer$IntegerCache"), (3, u "I"), (8, .class_ 204), (0, u "java/lang/Number"), (2, u "value"), (56, .integer 65536), (37, u "TYPE"), (0, u "Ljava/lang/Class;"), (0, .class_ 305), (0, u "java/lang/Comparable"), (0, .class_ 307), (0, u "java/lang/constant/Constable"), (0, .class_ 309), (0, u "java/lang/constant/ConstantDesc"), (0, u "MIN_VALUE"), (1, u "MAX_VALUE"), (3, u "SIZE"), (1, u "BYTES"), (1, u "serialVersionUID"), (0, u "J")] 131

def k9c0 : Code := { maxStack := 3, maxLocals := 2, code := jdk_33_method_47_code, exceptionTable := #[], attributes := #[] }
def k9m0 : Method := { name := "numberOfLeadingZeros", desc := "(I)I", sig := { parameters := [.int], returnType := some .int }, accessFlags := 9, code := some k9c0 }
/-- java/lang/Integer -/
def k9 : Class := { plain "java/lang/Integer" (some 5) with
  accessFlags := 49
  interfaces := #[6, 7, 8]
  cf := some (fileOf pool9 1 #[.nestMembers #[189]] #[{ accessFlags := 9, nameIndex := 53, descriptorIndex := 54, attributes := #[] }] 49 203 #[304, 306, 308] #[{ accessFlags := 25, nameIndex := 310, descriptorIndex := 194, attributes := #[] }, { accessFlags := 25, nameIndex := 312, descriptorIndex := 194, attributes := #[] }, { accessFlags := 25, nameIndex := 302, descriptorIndex := 303, attributes := #[] }, { accessFlags := 24, nameIndex := 19, descriptorIndex := 20, attributes := #[] }, { accessFlags := 24, nameIndex := 89, descriptorIndex := 86, attributes := #[] }, { accessFlags := 24, nameIndex := 85, descriptorIndex := 86, attributes := #[] }, { accessFlags := 18, nameIndex := 207, descriptorIndex := 194, attributes := #[] }, { accessFlags := 25, nameIndex := 316, descriptorIndex := 194, attributes := #[] }, { accessFlags := 25, nameIndex := 318, descriptorIndex := 194, attributes := #[] }, { accessFlags := 26, nameIndex := 320, descriptorIndex := 321, attributes := #[] }])
  fields := #[{ name := "MIN_VALUE", type := .int, accessFlags := 25, slot := 0, constantValue := 0 }, { name := "MAX_VALUE", type := .int, accessFlags := 25, slot := 1, constantValue := 0 }, { name := "TYPE", type := (.object "java/lang/Class"), accessFlags := 25, slot := 2, constantValue := 0 }, { name := "digits", type := (.array .char), accessFlags := 24, slot := 3, constantValue := 0 }, { name := "DigitTens", type := (.array .byte), accessFlags := 24, slot := 4, constantValue := 0 }, { name := "DigitOnes", type := (.array .byte), accessFlags := 24, slot := 5, constantValue := 0 }, { name := "value", type := .int, accessFlags := 18, slot := 0, constantValue := 0 }, { name := "SIZE", type := .int, accessFlags := 25, slot := 6, constantValue := 0 }, { name := "BYTES", type := .int, accessFlags := 25, slot := 7, constantValue := 0 }, { name := "serialVersionUID", type := .long, accessFlags := 26, slot := 8, constantValue := 0 }]
  methods := #[k9m0]
  instanceTypes := #[.int]
  staticTypes := #[.int, .int, (.object "java/lang/Class"), (.array .char), (.array .byte), (.array .byte), .int, .int, .long]
  resolved := Array.replicate 453 none
  statics := none }

def pool10 : Array CpInfo := pool [(1, u "java/lang/Cloneable"), (0, .class_ 1), (0, u "java/lang/Object"), (0, .class_ 3)] 3

/-- java/lang/Cloneable -/
def k10 : Class := { plain "java/lang/Cloneable" (some 0) with
  accessFlags := 1537
  interfaces := #[]
  cf := some (fileOf pool10 2 #[] #[] 1537 4 #[] #[])
  fields := #[]
  methods := #[]
  instanceTypes := #[]
  staticTypes := #[]
  resolved := Array.replicate 8 none
  statics := none }

/-- the primitive byte -/
def k11 : Class := { plain "byte" none with kind := .primitive 'B', accessFlags := 0x411 }
/-- [B -/
def k12 : Class := { plain "[B" (some 0) with kind := .array 11 .byte, interfaces := #[10, 4], accessFlags := 1041 }

/-- the primitive int -/
def k13 : Class := { plain "int" none with kind := .primitive 'I', accessFlags := 0x411 }
/-- [I -/
def k14 : Class := { plain "[I" (some 0) with kind := .array 13 .int, interfaces := #[10, 4], accessFlags := 1041 }

def heap : Heap := #[]
def classes : Array Class := #[k0, k1, k2, k3, k4, k5, k6, k7, k8, k9, k10, k11, k12, k13, k14]
def interned : List (Array UInt16 × Addr) := []
def slotsUsed : Nat := 0
def theMethod : MethodId := ⟨1, 4⟩
def args0 : Array Value := #[.int 5, .int 7, .int 9, .int 3, .int 4, .int 171]
def aboutOver (below : List Frame) : State where
  vm := { classes := classes, interned := interned.toArray }
  heap := heap
  slotsUsed := slotsUsed
  threads := #[{ frames := .invoking theMethod args0 :: below }]
def below0 : List Frame := [.native { method := ⟨0, 0⟩, args := #[] }]
def about1 : State := aboutOver below0
def p0 : Program := .bare "" "" ""
def e0 : Env := launch0.env 0 0 0
theorem w_frames : about1.frames = Frame.invoking theMethod args0 :: below0 := rfl
set_option maxRecDepth 65536 in
theorem w_args : argsFit about1.vm theMethod args0 = true := by decide +kernel
set_option maxRecDepth 65536 in
theorem w_heap : heapFits about1 = true := by decide +kernel
set_option maxRecDepth 65536 in
theorem w_runnable : about1.curStatus? = some .runnable := by decide +kernel
set_option maxRecDepth 65536 in
theorem w_alone : about1.alone = true := by decide +kernel
set_option maxRecDepth 65536 in
theorem w_named : about1.methodNamed? x = some theMethod := by decide +kernel
set_option maxRecDepth 65536 in
theorem w_hears : about1.hears theMethod below0 = true := by decide +kernel
set_option maxRecDepth 65536 in
theorem w_ripe : about1.ripe theMethod args0 below0 = true := by decide +kernel
theorem w_running : about1.status = .running := rfl
set_option maxRecDepth 65536 in
theorem w_room : about1.hasRoom e0.platform room_1 = true :=
  launch0.hasRoom_least _ room_1 (by decide +kernel) (by decide +kernel) (by decide +kernel) (by decide +kernel) (by decide +kernel) (by decide +kernel)
theorem allAtoms_all (ts : List Jvm.Cond) (a : Array Jvm.Value) (st : Jvm.State) : (allAtoms ts).before a st = ts.all (fun c => c.before a st) := by
  induction ts with
  | nil => rfl
  | cons c t ih =>
    show (Jvm.Cond.and c (allAtoms t)).before a st = _
    rw [Jvm.Cond.before_and, ih, List.all_cons]
def words1 : List Jvm.Cond := Jvm.Cond.code x code maxLocals ret :: tables_1
/-- a 'code' word, met by the world's own term for the bytes: nothing is compared byte by byte -/
theorem code_word {y : MethodName} {bytes : ByteArray} {mx : Nat} {rt : Option FieldType} {a : Array Value} {s : State} {m : MethodId} {meth : Method} {c : Code} (h1 : s.methodNamed? y = some m) (h2 : s.vm.method? m = some meth) (h3 : meth.code = some c) (h4 : c.code = bytes)
    (h5 : (c.maxLocals == mx && c.exceptionTable.isEmpty && decide (c.maxStack ≤ mostOperands) && decide (meth.sig.returnType = rt) && !meth.locks && decide (parseMethodDescriptor y.desc = some meth.sig)) = true) : (Jvm.Cond.code y bytes mx rt).before a s = true := by
  simp only [Bool.and_eq_true, beq_iff_eq, Bool.not_eq_true', decide_eq_true_eq] at h5
  obtain ⟨⟨⟨⟨⟨g1, g2⟩, g3⟩, g4⟩, g5⟩, g6⟩ := h5
  simp [Cond.before, Cond.holds, Cond.value, h1, h2, h3, h4, g1, g2, g3, g4, g5, g6]
def isCode : Jvm.Cond → Bool
  | .code _ _ _ _ => true
  | _ => false
theorem all_split {L : List Jvm.Cond} {P : Jvm.Cond → Bool} (h1 : L.all (fun c => isCode c || P c) = true) (h2 : ∀ c ∈ L.filter isCode, P c = true) : L.all P = true := by
  refine List.all_eq_true.mpr fun c hc => ?_
  have h := List.all_eq_true.mp h1 c hc
  rcases Bool.eq_false_or_eq_true (isCode c) with hi | hi
  · exact h2 c (List.mem_filter.mpr ⟨hc, hi⟩)
  · simpa [hi] using h
set_option maxRecDepth 65536 in
theorem w_c0 : (Jvm.Cond.code x code maxLocals ret).before args0 about1 = true := code_word (m := ⟨1, 4⟩) (meth := k1m4) (c := k1c4) (by decide +kernel) rfl rfl rfl (by decide +kernel)
set_option maxRecDepth 65536 in
theorem w_c1 : (Jvm.Cond.code ({ cls := "java/lang/Math", name := "min", desc := "(II)I" } : Jvm.MethodName) jdk_29_method_69_code (2 : Nat) (Option.some Jvm.ClassFile.FieldType.int)).before args0 about1 = true := code_word (m := ⟨2, 1⟩) (meth := k2m1) (c := k2c1) (by decide +kernel) rfl rfl rfl (by decide +kernel)
set_option maxRecDepth 65536 in
theorem w_c2 : (Jvm.Cond.code ({ cls := "com/example/subsumption/subsumption/IntSetContainsAllPinLaw", name := "el", desc := "(I)I" } : Jvm.MethodName) method_2_code (1 : Nat) (Option.some Jvm.ClassFile.FieldType.int)).before args0 about1 = true := code_word (m := ⟨1, 1⟩) (meth := k1m1) (c := k1c1) (by decide +kernel) rfl rfl rfl (by decide +kernel)
set_option maxRecDepth 65536 in
theorem w_c3 : (Jvm.Cond.code ({ cls := "com/example/subsumption/subsumption/IntSetContainsAllPinLaw", name := "pick", desc := "(IIIII)I" } : Jvm.MethodName) method_3_code (5 : Nat) (Option.some Jvm.ClassFile.FieldType.int)).before args0 about1 = true := code_word (m := ⟨1, 2⟩) (meth := k1m2) (c := k1c2) (by decide +kernel) rfl rfl rfl (by decide +kernel)
set_option maxRecDepth 65536 in
theorem w_c4 : (Jvm.Cond.code ({ cls := "com/example/subsumption/subsumption/IntSet", name := "<init>", desc := "()V" } : Jvm.MethodName) prog_2_method_1_code (1 : Nat) (Option.none : Option Jvm.ClassFile.FieldType)).before args0 about1 = true := code_word (m := ⟨3, 0⟩) (meth := k3m0) (c := k3c0) (by decide +kernel) rfl rfl rfl (by decide +kernel)
set_option maxRecDepth 65536 in
theorem w_c5 : (Jvm.Cond.code ({ cls := "java/lang/Object", name := "<init>", desc := "()V" } : Jvm.MethodName) object_method_1_code (1 : Nat) (Option.none : Option Jvm.ClassFile.FieldType)).before args0 about1 = true := code_word (m := ⟨0, 0⟩) (meth := k0m0) (c := k0c0) (by decide +kernel) rfl rfl rfl (by decide +kernel)
set_option maxRecDepth 65536 in
theorem w_c6 : (Jvm.Cond.code ({ cls := "com/example/subsumption/subsumption/IntSet", name := "add", desc := "(I)Z" } : Jvm.MethodName) prog_2_method_2_code (3 : Nat) (Option.some Jvm.ClassFile.FieldType.boolean)).before args0 about1 = true := code_word (m := ⟨3, 1⟩) (meth := k3m1) (c := k3c1) (by decide +kernel) rfl rfl rfl (by decide +kernel)
set_option maxRecDepth 65536 in
theorem w_c7 : (Jvm.Cond.code ({ cls := "com/example/subsumption/subsumption/IntSet", name := "slotOf", desc := "(I[I)I" } : Jvm.MethodName) prog_2_method_7_code (4 : Nat) (Option.some Jvm.ClassFile.FieldType.int)).before args0 about1 = true := code_word (m := ⟨3, 3⟩) (meth := k3m3) (c := k3c3) (by decide +kernel) rfl rfl rfl (by decide +kernel)
set_option maxRecDepth 65536 in
theorem w_c8 : (Jvm.Cond.code ({ cls := "java/lang/Integer", name := "numberOfLeadingZeros", desc := "(I)I" } : Jvm.MethodName) jdk_33_method_47_code (2 : Nat) (Option.some Jvm.ClassFile.FieldType.int)).before args0 about1 = true := code_word (m := ⟨9, 0⟩) (meth := k9m0) (c := k9c0) (by decide +kernel) rfl rfl rfl (by decide +kernel)
set_option maxRecDepth 65536 in
theorem w_c9 : (Jvm.Cond.code ({ cls := "com/example/subsumption/subsumption/IntSet", name := "grow", desc := "()V" } : Jvm.MethodName) prog_2_method_8_code (6 : Nat) (Option.none : Option Jvm.ClassFile.FieldType)).before args0 about1 = true := code_word (m := ⟨3, 4⟩) (meth := k3m4) (c := k3c4) (by decide +kernel) rfl rfl rfl (by decide +kernel)
set_option maxRecDepth 65536 in
theorem w_c10 : (Jvm.Cond.code ({ cls := "com/example/subsumption/subsumption/IntSetContainsAllPinLaw", name := "inA", desc := "(IIIII)Z" } : Jvm.MethodName) method_4_code (5 : Nat) (Option.some Jvm.ClassFile.FieldType.boolean)).before args0 about1 = true := code_word (m := ⟨1, 3⟩) (meth := k1m3) (c := k1c3) (by decide +kernel) rfl rfl rfl (by decide +kernel)
set_option maxRecDepth 65536 in
theorem w_c11 : (Jvm.Cond.code ({ cls := "com/example/subsumption/subsumption/IntSet", name := "containsAll", desc := "(Lcom/example/subsumption/subsumption/IntSet;)Z" } : Jvm.MethodName) prog_2_method_4_code (6 : Nat) (Option.some Jvm.ClassFile.FieldType.boolean)).before args0 about1 = true := code_word (m := ⟨3, 2⟩) (meth := k3m2) (c := k3c2) (by decide +kernel) rfl rfl rfl (by decide +kernel)
def codes1 : List Jvm.Cond := [Jvm.Cond.code x code maxLocals ret, Jvm.Cond.code ({ cls := "java/lang/Math", name := "min", desc := "(II)I" } : Jvm.MethodName) jdk_29_method_69_code (2 : Nat) (Option.some Jvm.ClassFile.FieldType.int), Jvm.Cond.code ({ cls := "com/example/subsumption/subsumption/IntSetContainsAllPinLaw", name := "el", desc := "(I)I" } : Jvm.MethodName) method_2_code (1 : Nat) (Option.some Jvm.ClassFile.FieldType.int), Jvm.Cond.code ({ cls := "com/example/subsumption/subsumption/IntSetContainsAllPinLaw", name := "pick", desc := "(IIIII)I" } : Jvm.MethodName) method_3_code (5 : Nat) (Option.some Jvm.ClassFile.FieldType.int), Jvm.Cond.code ({ cls := "com/example/subsumption/subsumption/IntSet", name := "<init>", desc := "()V" } : Jvm.MethodName) prog_2_method_1_code (1 : Nat) (Option.none : Option Jvm.ClassFile.FieldType), Jvm.Cond.code ({ cls := "java/lang/Object", name := "<init>", desc := "()V" } : Jvm.MethodName) object_method_1_code (1 : Nat) (Option.none : Option Jvm.ClassFile.FieldType), Jvm.Cond.code ({ cls := "com/example/subsumption/subsumption/IntSet", name := "add", desc := "(I)Z" } : Jvm.MethodName) prog_2_method_2_code (3 : Nat) (Option.some Jvm.ClassFile.FieldType.boolean), Jvm.Cond.code ({ cls := "com/example/subsumption/subsumption/IntSet", name := "slotOf", desc := "(I[I)I" } : Jvm.MethodName) prog_2_method_7_code (4 : Nat) (Option.some Jvm.ClassFile.FieldType.int), Jvm.Cond.code ({ cls := "java/lang/Integer", name := "numberOfLeadingZeros", desc := "(I)I" } : Jvm.MethodName) jdk_33_method_47_code (2 : Nat) (Option.some Jvm.ClassFile.FieldType.int), Jvm.Cond.code ({ cls := "com/example/subsumption/subsumption/IntSet", name := "grow", desc := "()V" } : Jvm.MethodName) prog_2_method_8_code (6 : Nat) (Option.none : Option Jvm.ClassFile.FieldType), Jvm.Cond.code ({ cls := "com/example/subsumption/subsumption/IntSetContainsAllPinLaw", name := "inA", desc := "(IIIII)Z" } : Jvm.MethodName) method_4_code (5 : Nat) (Option.some Jvm.ClassFile.FieldType.boolean), Jvm.Cond.code ({ cls := "com/example/subsumption/subsumption/IntSet", name := "containsAll", desc := "(Lcom/example/subsumption/subsumption/IntSet;)Z" } : Jvm.MethodName) prog_2_method_4_code (6 : Nat) (Option.some Jvm.ClassFile.FieldType.boolean)]
set_option maxRecDepth 65536 in
theorem codes_eq : words1.filter isCode = codes1 := rfl
theorem w_codes : ∀ c ∈ words1.filter isCode, c.before args0 about1 = true := by
  rw [codes_eq]
  intro c hc
  simp only [codes1, List.mem_cons, List.not_mem_nil, or_false] at hc
  rcases hc with rfl | rfl | rfl | rfl | rfl | rfl | rfl | rfl | rfl | rfl | rfl | rfl
  · exact w_c0
  · exact w_c1
  · exact w_c2
  · exact w_c3
  · exact w_c4
  · exact w_c5
  · exact w_c6
  · exact w_c7
  · exact w_c8
  · exact w_c9
  · exact w_c10
  · exact w_c11
set_option maxRecDepth 65536 in
theorem w_t1 : (words1.take 24).all (fun c => isCode c || c.before args0 about1) = true := by decide +kernel
set_option maxRecDepth 65536 in
theorem w_t2 : ((words1.drop 24).take 24).all (fun c => isCode c || c.before args0 about1) = true := by decide +kernel
set_option maxRecDepth 65536 in
theorem w_t3 : ((words1.drop 24).drop 24).all (fun c => isCode c || c.before args0 about1) = true := by decide +kernel
theorem w_tables : (allAtoms (Jvm.Cond.code x code maxLocals ret :: tables_1)).before args0 about1 = true := by
  rw [allAtoms_all]
  show words1.all (fun c => c.before args0 about1) = true
  refine all_split ?_ w_codes
  rw [← List.take_append_drop 24 words1, List.all_append, w_t1, ← List.take_append_drop 24 (words1.drop 24), List.all_append, w_t2, w_t3]
  rfl
set_option maxRecDepth 65536 in
theorem w_case : (Jvm.Cond.and given_1 narrow_1).before args0 about1 = true := by decide +kernel
theorem w_applies : (headSpec (Jvm.Cond.code x code maxLocals ret :: tables_1) room_1).applies x e0.platform about1 = true :=
  (Spec.applies_iff w_frames).mpr ⟨w_running, w_runnable, w_alone, w_named, w_hears, w_ripe, w_room, w_tables⟩
theorem atStart : AtStart classFile x code maxLocals ret World_1 tables_1 room_1 Calls_1 rest_1 Pre_1 launch0 p0 e0 about1 theMethod args0 below0 :=
  ⟨lists_1, trivial, launch0.admits_env _ _ _, launch0.least_env, fairChoices_fair.cas, fairChoices_fair.clock, w_frames, w_args, w_heap, w_applies, trivial, trivial, w_case⟩
end start1
theorem witness_1 : WitnessClaimed_1 := ⟨start1.p0, start1.e0, start1.about1, start1.theMethod, start1.args0, start1.below0, start1.atStart⟩
end Jvm.Pilot.@@N@@
