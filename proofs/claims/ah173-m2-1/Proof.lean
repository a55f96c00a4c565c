import JvmDerived
import JvmDerived.Pilot.@@N@@Statement
import JvmDerived.Pilot.@@N@@Code
set_option linter.unusedVariables false
set_option linter.unusedSimpArgs false
@@BLOCK:NumsL.lean.txt@@
namespace Jvm.RoadKit
open Sem ClassFile Op Lib Jvm.Stand Jvm.Free Jvm.LawKit
section New
variable {p : Program} {l : Launch} {e : Env} {R : Room} {s : State} {m : MethodId} {args : Array Value} {below : List Frame} {meth : Method} {c : Code} {T : State} {locs : List Loc} {cells slots : Nat}
theorem retI (X : Stand p l e R s m args below meth c T locs cells slots) (hx : p.tables.exec = Jvm.exec) {pc : Nat} {Ls : Array Slot} {z : Int32} {rest : List Value} (hret : meth.sig.returnType = some .int) (hd : decode c.code pc = .ok (.ireturn, 1)) {fs : List Frame}
    (hl : ∀ (f : JFrame) (acts : List Action), f.method = m → f.locked = none → f.entered = [] → (doReturn e (T.setTop f) acts (some (.int z))).1 = T.setFrames fs) : Steps p.tables e below (T.setTop (mkF m pc Ls (.int z :: rest))) (T.setFrames fs) := by
  have hm' : T.vm.method? m = some meth := X.method'
  have hn : narrow .int (.int z) = .int z := rfl
  show Steps p.tables e below (T.setTop { method := m, pc := pc, locals := Ls, stack := _ :: rest, locked := none }) _
  jvm_step X.here [X.here.top, hx, hd, hm', hret, hn]
  first | (intro acts; rw [hl _ acts rfl rfl rfl]) | rw [hl _ _ rfl rfl rfl]
  exact Steps.refl _
end New
end Jvm.RoadKit
namespace Jvm.Pilot.@@N@@
open Jvm Jvm.ClassFile Sem Op Lib Jvm.Free Jvm.Stand Jvm.LawKit Jvm.RoadKit Bundle Jvm.Pilot.@@N@@.Jvm.D
def own_pw : List Int64 := [1, 10, 100, 1000, 10000, 100000, 1000000, 10000000, 100000000, 1000000000, 10000000000, 100000000000, 1000000000000, 10000000000000, 100000000000000, 1000000000000000, 10000000000000000, 100000000000000000, 1000000000000000000]
theorem own_lrem (x y : Int64) : x - x / y * y = x % y := Int64.toInt_inj.mp ((Jvm.Kit.i64_rem x y).trans (Int64.toInt_mod x y).symm)
def own_dg (n d : Int64) : Int32 := nar .byte ((((((48 : Int64) + ((n / d) % (10 : Int64))).toInt32)).toInt8.toInt32))
theorem own_getL (l : List Int64) (i : Nat) : (l.map Value.long).getD i (.long 0) = .long (l.getD i 0) := by
  rw [List.getD_eq_getElem?_getD, List.getD_eq_getElem?_getD, List.getElem?_map]
  cases l[i]? <;> rfl
theorem own_nat {i : Nat} (h : i < 1000) : (Int32.ofNat i).toInt = i := Int32.toInt_ofNat_small (by omega)
theorem own_natC {i : Nat} (h : i < 1000) : (Int32.ofNat i).toNatClampNeg = i := by
  show (Int32.ofNat i).toInt.toNat = i
  rw [own_nat h]; rfl
theorem own_lt {i j : Nat} (hi : i < 1000) (hj : j < 1000) : Int32.ofNat i < Int32.ofNat j ↔ i < j := by
  rw [Int32.lt_iff_toInt_lt, own_nat hi, own_nat hj]; omega
theorem own_nn {i : Nat} (hi : i < 1000) : ¬ Int32.ofNat i < 0 := by
  rw [Int32.lt_iff_toInt_lt, own_nat hi]; show ¬ (_ : Int) < 0; omega
theorem own_succ {i : Nat} (hi : i < 999) : Int32.ofNat i + 1 = Int32.ofNat (i + 1) := by
  apply Int32.toInt_inj.mp
  have q := c_iadd (Int32.ofNat i) 1
  have r := rng32 (Int32.ofNat i + 1)
  rw [own_nat (by omega), show (1 : Int32).toInt = 1 from by decide] at q
  rw [own_nat (show i + 1 < 1000 by omega)]; omega
theorem own_oneadd {i : Nat} (hi : i < 999) : (1 : Int32) + Int32.ofNat i = Int32.ofNat (i + 1) := by
  rw [Int32.add_comm]; exact own_succ hi
theorem own_sub {k i : Nat} (hi : i ≤ k) (hk : k < 1000) : Int32.ofNat k - Int32.ofNat i = Int32.ofNat (k - i) := by
  apply Int32.toInt_inj.mp
  have q := c_isub (Int32.ofNat k) (Int32.ofNat i)
  have r := rng32 (Int32.ofNat k - Int32.ofNat i)
  rw [own_nat hk, own_nat (show i < 1000 by omega)] at q
  rw [own_nat (show k - i < 1000 by omega)]; omega
theorem own_add {k i : Nat} (h : k + i < 1000) : Int32.ofNat k + Int32.ofNat i = Int32.ofNat (k + i) := by
  apply Int32.toInt_inj.mp
  have q := c_iadd (Int32.ofNat k) (Int32.ofNat i)
  have r := rng32 (Int32.ofNat k + Int32.ofNat i)
  rw [own_nat (show k < 1000 by omega), own_nat (show i < 1000 by omega)] at q
  rw [own_nat h]; omega
theorem own_and (p : Int32) : 0 ≤ (p &&& (2147483647 : Int32)).toInt := by
  show 0 ≤ (p.toBitVec &&& 2147483647#32).toInt
  have h : (p.toBitVec &&& 2147483647#32).toNat ≤ 2147483647 := by rw [BitVec.toNat_and]; exact Nat.and_le_right
  rw [BitVec.toInt_eq_toNat_cond, if_pos (by omega)]
  omega
theorem own_mod {x : Int32} (h : 0 ≤ x.toInt) {k : Nat} (hk : 0 < k) (hk2 : k < 1000) : ∃ A : Nat, A < k ∧ x % Int32.ofNat k = Int32.ofNat A := by
  refine ⟨(x.toInt % (k : Int)).toNat, ?_, ?_⟩
  · have := Int.emod_lt_of_pos x.toInt (show (0 : Int) < k by omega)
    have := Int.emod_nonneg x.toInt (show (k : Int) ≠ 0 by omega)
    omega
  · apply Int32.toInt_inj.mp
    have := Int.emod_lt_of_pos x.toInt (show (0 : Int) < k by omega)
    have h0 := Int.emod_nonneg x.toInt (show (k : Int) ≠ 0 by omega)
    rw [Int32.toInt_mod, own_nat hk2, Int.tmod_eq_emod_of_nonneg h, own_nat (by omega)]
    omega
theorem own_nz {k : Nat} (hk : 0 < k) (hk2 : k < 1000) : ¬ Int32.ofNat k = 0 := fun e => by
  have := congrArg Int32.toInt e
  rw [own_nat hk2] at this
  have e0 : (0 : Int32).toInt = 0 := by decide
  omega
theorem own_pwI : ∀ i : Fin 19, (own_pw.getD i.val 0).toInt = ((10 ^ i.val : Nat) : Int) := by decide +kernel
theorem own_pwT {i : Nat} (h : i < 19) : (own_pw.getD i 0).toInt = ((10 ^ i : Nat) : Int) := by
  exact own_pwI ⟨i, h⟩
theorem own_pwN {i : Nat} (h : i < 19) : ¬ own_pw.getD i 0 = 0 := fun e => by
  have q := own_pwT h
  rw [e] at q
  have e0 : (0 : Int64).toInt = 0 := by decide
  have : 0 < 10 ^ i := Nat.pow_pos (by decide)
  omega
theorem own_bmod64 {x : Int} (h1 : 0 ≤ x) (h2 : x < 9223372036854775808) : x.bmod (2 ^ 64) = x := Int.bmod_eq_of_le (by omega) (by omega)
theorem own_div {n d : Int64} {N D : Nat} (hn : n.toInt = N) (hd : d.toInt = D) : (n / d).toInt = ((N / D : Nat) : Int) := by
  have := n.toInt_lt
  rw [Int64.toInt_div, hn, hd, Int.tdiv_eq_ediv_of_nonneg (by omega), ← Int.natCast_ediv]
  have : N / D ≤ N := Nat.div_le_self _ _
  generalize N / D = q at *
  exact own_bmod64 (by omega) (by omega)
theorem own_rem {n d : Int64} {N D : Nat} (hn : n.toInt = N) (hd : d.toInt = D) : (n % d).toInt = ((N % D : Nat) : Int) := by
  rw [Int64.toInt_mod, hn, hd, Int.tmod_eq_emod_of_nonneg (by omega), ← Int.natCast_emod]
theorem own_ten : ∀ e : Fin 10, ((nar .byte (nar .byte ((((((48 : Int64) + Int64.ofNat e.val).toInt32)).toInt8.toInt32)))) - (48 : Int32)).toInt64.toInt = e.val := by decide +kernel
theorem own_digit {n d : Int64} {N D : Nat} (hn : n.toInt = N) (hd : d.toInt = D) : ((nar .byte (own_dg n d)) - (48 : Int32)).toInt64.toInt = ((N / D % 10 : Nat) : Int) := by
  have h1 : ((n / d) % (10 : Int64)).toInt = ((N / D % 10 : Nat) : Int) := own_rem (own_div hn hd) (by decide)
  have h2 : N / D % 10 < 10 := Nat.mod_lt _ (by decide)
  have h3 : (n / d) % (10 : Int64) = Int64.ofNat (N / D % 10) := by
    apply Int64.toInt_inj.mp
    rw [h1]
    exact (Int64.toInt_ofNat_of_lt (by omega)).symm
  unfold own_dg
  rw [h3]
  exact own_ten ⟨N / D % 10, h2⟩
def own_av (N a m : Nat) : Int64 := Int64.ofNat ((N / 10 ^ (18 - a - m)) % 10 ^ m)
theorem own_avT {N a m : Nat} (hm : m ≤ 18) : (own_av N a m).toInt = (((N / 10 ^ (18 - a - m)) % 10 ^ m : Nat) : Int) := by
  unfold own_av
  have h1 : (N / 10 ^ (18 - a - m)) % 10 ^ m < 10 ^ m := Nat.mod_lt _ (Nat.pow_pos (by decide))
  have h2 : 10 ^ m ≤ 10 ^ 18 := Nat.pow_le_pow_right (by decide) hm
  exact Int64.toInt_ofNat_of_lt (by omega)
theorem own_step {N a m : Nat} (h : a + m < 18) : (N / 10 ^ (18 - a - (m + 1))) % 10 ^ (m + 1) = 10 * ((N / 10 ^ (18 - a - m)) % 10 ^ m) + N / 10 ^ (18 - (a + 1 + m)) % 10 := by
  have e1 : 18 - (a + 1 + m) = 18 - a - (m + 1) := by omega
  have e2 : 18 - a - m = (18 - a - (m + 1)) + 1 := by omega
  have hq : N / 10 ^ (18 - a - m) = N / 10 ^ (18 - a - (m + 1)) / 10 := by rw [e2, Nat.pow_succ, Nat.div_div_eq_div_mul]
  rw [e1, hq]
  generalize N / 10 ^ (18 - a - (m + 1)) = Q
  rw [Nat.pow_succ, Nat.mul_comm (10 ^ m) 10, Nat.mod_mul]
  exact Nat.add_comm _ _
theorem own_next {N a m : Nat} (h : a + m < 18) {x : Int64} (hx : x.toInt = ((N / 10 ^ (18 - (a + 1 + m)) % 10 : Nat) : Int)) : (10 : Int64) * own_av N a m + x = own_av N a (m + 1) := by
  apply Int64.toInt_inj.mp
  have q1 := c_lmul 10 (own_av N a m)
  have q2 := c_ladd ((10 : Int64) * own_av N a m) x
  have r1 := rng64 ((10 : Int64) * own_av N a m)
  have r2 := rng64 ((10 : Int64) * own_av N a m + x)
  rw [own_avT (by omega), show (10 : Int64).toInt = 10 from by decide] at q1
  rw [hx] at q2
  rw [own_avT (by omega), own_step h]
  have h1 : (N / 10 ^ (18 - a - m)) % 10 ^ m < 10 ^ m := Nat.mod_lt _ (Nat.pow_pos (by decide))
  have h2 : 10 ^ m ≤ 10 ^ 17 := Nat.pow_le_pow_right (by decide) (by omega)
  have h3 : N / 10 ^ (18 - (a + 1 + m)) % 10 < 10 := Nat.mod_lt _ (by decide)
  generalize (N / 10 ^ (18 - a - m)) % 10 ^ m = u at *
  generalize N / 10 ^ (18 - (a + 1 + m)) % 10 = v at *
  omega
theorem own_last {N a c : Nat} {n : Int64} (hn : n.toInt = N) (ha : a ≤ c) (hc : c ≤ 18) : own_av N a (c - a) = (n / own_pw.getD (18 - c) 0) % own_pw.getD (c - a) 0 := by
  apply Int64.toInt_inj.mp
  rw [own_rem (own_div hn (own_pwT (by omega))) (own_pwT (show c - a < 19 by omega)), own_avT (by omega)]
  rw [show 18 - a - (c - a) = 18 - c by omega]
theorem d1_0 : decode method_3_code 0 = .ok (.ldc2_w 60, 3) := by decide +kernel
theorem d1_3 : decode method_3_code 3 = .ok (.lload_n 1, 1) := by decide +kernel
theorem d1_4 : decode method_3_code 4 = .ok (.aload_n 0, 1) := by decide +kernel
theorem d1_5 : decode method_3_code 5 = .ok (.bipush 17, 2) := by decide +kernel
theorem d1_7 : decode method_3_code 7 = .ok (.iload_n 3, 1) := by decide +kernel
theorem d1_8 : decode method_3_code 8 = .ok (.isub, 1) := by decide +kernel
theorem d1_9 : decode method_3_code 9 = .ok (.laload, 1) := by decide +kernel
theorem d1_10 : decode method_3_code 10 = .ok (.ldiv, 1) := by decide +kernel
theorem d1_11 : decode method_3_code 11 = .ok (.ldc2_w 7, 3) := by decide +kernel
theorem d1_14 : decode method_3_code 14 = .ok (.lrem, 1) := by decide +kernel
theorem d1_15 : decode method_3_code 15 = .ok (.ladd, 1) := by decide +kernel
theorem d1_16 : decode method_3_code 16 = .ok (.l2i, 1) := by decide +kernel
theorem d1_17 : decode method_3_code 17 = .ok (.i2b, 1) := by decide +kernel
theorem d1_18 : decode method_3_code 18 = .ok (.ireturn, 1) := by decide +kernel
theorem pn_com_example_fjordgiro_fjordgiro_transmission_DigitsValuePinLaw : plainName "com/example/fjordgiro/fjordgiro/transmission/DigitsValuePinLaw" = true := by first | (simp [plainName, overriddenIn]; done) | decide +kernel
theorem ef_1 (m : MethodId) (x0 : Addr) (x1 : Int64) (x2 : Int32) : entryFrame m #[(.ref x0), (.long x1), (.int x2)] 4 = mkF m 0 #[.val (.ref x0), .val (.long x1), .second, .val (.int x2)] [] := by first | (simp [entryFrame, mkF, argsToLocals, Value.category]; done) | rfl
def Q1 (r : Int32) (h0 : Heap) (n0 : Nat) (v : Option Value) (h : Heap) (L : List Loc) : Prop := v = some (.int r) ∧ Fr n0 L ∧ h = h0
set_option maxRecDepth 65536 in
set_option maxHeartbeats 40000000 in
theorem rm1 (l : Launch) (Z : State) (a0 : Array Value) (hw : ∀ d ∈ tables_1, d.before a0 Z = true) (ws : List Jvm.Cond) (a1 : Addr) (n : Int64) (k : Int32) (kp : ClassId) (ps : List Value) (d : Int64) (h0 : Heap) (n0 : Nat) (Z0 : n0 ≤ h0.size) (VP : Arv Z h0 a1 kp .long (19 : Int32) ps (.long (0 : Int64))) (hi : ¬ ((17 : Int32) - k) < 0 ∧ ((17 : Int32) - k) < 19) (ht : ps.getD ((17 : Int32) - k).toNatClampNeg (.long (0 : Int64)) = .long d) (hd : ¬ d = 0)  :
    MetFree l (⟨"com/example/fjordgiro/fjordgiro/transmission/DigitsValuePinLaw", "digit", "([JJI)B"⟩ : MethodName) (head1 (Jvm.Cond.code (⟨"com/example/fjordgiro/fjordgiro/transmission/DigitsValuePinLaw", "digit", "([JJI)B"⟩ : MethodName) method_3_code 4 (some .byte) :: ws) ({ frames := 0, cells := 0, slots := 0, locals := 0 } : Room)) (fun a U => a = #[(.ref a1), (.long n), (.int k)] ∧ Z.Warmed39 U.vm ∧ U.heap = h0) (fun _ _ _ _ _ => True) (fun _ U o U' => ∃ v L, o = .returned v ∧ Q1 (own_dg n d) h0 n0 v U'.heap L ∧ FrameEnd U o U' L ({ frames := 0, cells := 0, slots := 0, locals := 0 } : Room).cells ({ frames := 0, cells := 0, slots := 0, locals := 0 } : Room).slots) := by
  refine MetFree.of_bodySF (plainFor_of_name pn_com_example_fjordgiro_fjordgiro_transmission_DigitsValuePinLaw) hisR ?_
  intro p e s m args below meth cd s₁ Bd hml0 hPre hKc
  obtain ⟨rfl, hZ, hHp⟩ := hPre
  have hx := Bd.exec
  have hby := Bd.bytes
  have hml : cd.maxLocals = 4 := hml0
  have hown : s.vm.findClass "com/example/fjordgiro/fjordgiro/transmission/DigitsValuePinLaw" = some m.cls := findClass_of_methodNamed Bd.named
  have hnm := (name_of_methodNamed Bd.named Bd.method).1
  have X0 : Stand p l e ({ frames := 0, cells := 0, slots := 0, locals := 0 } : Room) s m #[(.ref a1), (.long n), (.int k)] below meth cd s₁ [] 0 0 := Stand.of_body Bd
  have e0 : s₁.heap = h0 := by rw [← hHp, Bd.state]; rfl
  have N0 := Fr.nil n0
  have pre0 : ∀ t, Steps p.tables e below (s₁.setTop (mkF m 0 #[.val (.ref a1), .val (.long n), .second, .val (.int k)] [])) t → Steps p.tables e below (s₁.setTop (entryFrame m #[(.ref a1), (.long n), (.int k)] 4)) t := fun t kz => castTop (ef_1 m a1 n k) kz
  obtain ⟨c1, Ar1, -, S1, -, H1, -⟩ := (id VP)
  have hin1 : ¬ (((17 : Int32) - k) < 0 ∨ c1.slots.size ≤ (((17 : Int32) - k)).toNatClampNeg) := inb_of S1 hi
  have hat1 : c1.slots[(((17 : Int32) - k)).toNatClampNeg]? = some (.long d) := H1.at hin1 ht
  obtain ⟨fs, hr, hrun, hended, hW, hsame⟩ := X0.leave (v := some (.int (nar .byte ((((48 : Int64) + ((n / d) % (10 : Int64))).toInt32).toInt8.toInt32)))) (fun h => by rw [Bd.returns] at h; cases h)
  refine ⟨_, _, pre0 _ ?_, hrun, hended, _, _, rfl, ?_, ⟨_, rfl⟩, hW, hsame.mono (by decide) (by decide)⟩
  · show Steps p.tables e below (s₁.setTop (mkF m 0 #[.val (.ref a1), .val (.long n), .second, .val (.int k)] [])) _
    refine X0.ldc2Long hx hown (mvT hZ (hw _ (List.mem_of_getElem? (i := 25) rfl))) (g := (mkF m 0 #[.val (.ref a1), .val (.long n), .second, .val (.int k)] [])) rfl (hb hby d1_0) _ ?_
    show Steps p.tables e below (s₁.setTop (mkF m 3 #[.val (.ref a1), .val (.long n), .second, .val (.int k)] [(.long (48 : Int64))])) _
    refine XS.lloadN X0.here hx rfl (hb hby d1_3) rfl ?_
    show Steps p.tables e below (s₁.setTop (mkF m 4 #[.val (.ref a1), .val (.long n), .second, .val (.int k)] [(.long n), (.long (48 : Int64))])) _
    refine XS.aloadN X0.here hx rfl (hb hby d1_4) rfl rfl ?_
    show Steps p.tables e below (s₁.setTop (mkF m 5 #[.val (.ref a1), .val (.long n), .second, .val (.int k)] [(.ref a1), (.long n), (.long (48 : Int64))])) _
    refine XS.bipush X0.here hx rfl (hb hby d1_5) ?_
    show Steps p.tables e below (s₁.setTop (mkF m 7 #[.val (.ref a1), .val (.long n), .second, .val (.int k)] [(.int (17 : Int32)), (.ref a1), (.long n), (.long (48 : Int64))])) _
    refine XS.iloadN X0.here hx rfl (hb hby d1_7) rfl ?_
    show Steps p.tables e below (s₁.setTop (mkF m 8 #[.val (.ref a1), .val (.long n), .second, .val (.int k)] [(.int k), (.int (17 : Int32)), (.ref a1), (.long n), (.long (48 : Int64))])) _
    refine XS.isub X0.here hx rfl (hb hby d1_8) rfl ?_
    show Steps p.tables e below (s₁.setTop (mkF m 9 #[.val (.ref a1), .val (.long n), .second, .val (.int k)] [(.int ((17 : Int32) - k)), (.ref a1), (.long n), (.long (48 : Int64))])) _
    refine X0.laload hx (j := ((17 : Int32) - k)) (v := (.long d)) (by rw [e0]; exact Ar1.1) (State.isArrayOf_alike hZ.alike Ar1.2.1) Ar1.2.2 hin1 hat1 (g := (mkF m 9 #[.val (.ref a1), .val (.long n), .second, .val (.int k)] [(.int ((17 : Int32) - k)), (.ref a1), (.long n), (.long (48 : Int64))])) rfl rfl (hb hby d1_9) _ ?_
    show Steps p.tables e below (s₁.setTop (mkF m 10 #[.val (.ref a1), .val (.long n), .second, .val (.int k)] [(.long d), (.long n), (.long (48 : Int64))])) _
    refine XS.ldiv X0.here hx rfl (hb hby d1_10) rfl hd ?_
    show Steps p.tables e below (s₁.setTop (mkF m 11 #[.val (.ref a1), .val (.long n), .second, .val (.int k)] [(.long (n / d)), (.long (48 : Int64))])) _
    refine X0.ldc2Long hx hown (mvT hZ (hw _ (List.mem_of_getElem? (i := 1) rfl))) (g := (mkF m 11 #[.val (.ref a1), .val (.long n), .second, .val (.int k)] [(.long (n / d)), (.long (48 : Int64))])) rfl (hb hby d1_11) _ ?_
    show Steps p.tables e below (s₁.setTop (mkF m 14 #[.val (.ref a1), .val (.long n), .second, .val (.int k)] [(.long (10 : Int64)), (.long (n / d)), (.long (48 : Int64))])) _
    refine XS.lrem X0.here hx rfl (hb hby d1_14) rfl (by decide) ?_
    rw [own_lrem (n / d) (10 : Int64)]
    show Steps p.tables e below (s₁.setTop (mkF m 15 #[.val (.ref a1), .val (.long n), .second, .val (.int k)] [(.long ((n / d) % (10 : Int64))), (.long (48 : Int64))])) _
    refine XS.ladd X0.here hx rfl (hb hby d1_15) rfl ?_
    show Steps p.tables e below (s₁.setTop (mkF m 16 #[.val (.ref a1), .val (.long n), .second, .val (.int k)] [(.long ((48 : Int64) + ((n / d) % (10 : Int64))))])) _
    refine XS.l2i X0.here hx rfl (hb hby d1_16) rfl ?_
    show Steps p.tables e below (s₁.setTop (mkF m 17 #[.val (.ref a1), .val (.long n), .second, .val (.int k)] [(.int (((48 : Int64) + ((n / d) % (10 : Int64))).toInt32))])) _
    refine XS.i2b X0.here hx rfl (hb hby d1_17) rfl ?_
    show Steps p.tables e below (s₁.setTop (mkF m 18 #[.val (.ref a1), .val (.long n), .second, .val (.int k)] [(.int ((((48 : Int64) + ((n / d) % (10 : Int64))).toInt32).toInt8.toInt32))])) _
    exact retN X0 hx (t := .byte) Bd.returns (by simp) (hb hby d1_18) hr
  · show Q1 (own_dg n d) h0 n0 _ s₁.heap _
    rw [e0]
    exact ⟨rfl, N0, rfl⟩
theorem d2_5 : decode prog_45_method_9_code 5 = .ok (.iload 5, 2) := by decide +kernel
theorem d2_7 : decode prog_45_method_9_code 7 = .ok (.iload_n 2, 1) := by decide +kernel
theorem d2_8 : decode prog_45_method_9_code 8 = .ok (.if_icmp .ge 24, 3) := by decide +kernel
theorem d2_11 : decode prog_45_method_9_code 11 = .ok (.ldc2_w 54, 3) := by decide +kernel
theorem d2_14 : decode prog_45_method_9_code 14 = .ok (.lload_n 3, 1) := by decide +kernel
theorem d2_15 : decode prog_45_method_9_code 15 = .ok (.lmul, 1) := by decide +kernel
theorem d2_16 : decode prog_45_method_9_code 16 = .ok (.aload_n 0, 1) := by decide +kernel
theorem d2_17 : decode prog_45_method_9_code 17 = .ok (.iload 5, 2) := by decide +kernel
theorem d2_19 : decode prog_45_method_9_code 19 = .ok (.baload, 1) := by decide +kernel
theorem d2_20 : decode prog_45_method_9_code 20 = .ok (.bipush 48, 2) := by decide +kernel
theorem d2_22 : decode prog_45_method_9_code 22 = .ok (.isub, 1) := by decide +kernel
theorem d2_23 : decode prog_45_method_9_code 23 = .ok (.i2l, 1) := by decide +kernel
theorem d2_24 : decode prog_45_method_9_code 24 = .ok (.ladd, 1) := by decide +kernel
theorem d2_25 : decode prog_45_method_9_code 25 = .ok (.lstore_n 3, 1) := by decide +kernel
theorem d2_26 : decode prog_45_method_9_code 26 = .ok (.iinc 5 1, 3) := by decide +kernel
theorem d2_29 : decode prog_45_method_9_code 29 = .ok (.goto (-24), 3) := by decide +kernel
set_option maxRecDepth 65536 in
set_option maxHeartbeats 40000000 in
theorem turn2 {p : Program} {l : Launch} {e : Env} {R : Room} {s : State} {m : MethodId} {args : Array Value} {below : List Frame} {meth : Method} {c : Code} {T0 : State} {locs : List Loc} {cells slots : Nat} {Z : State} {a0 : Array Value} {h0 : Heap} (bb : Addr) (s0 t0 i : Nat) (acc : Int64) (g : Nat → Int32) (cl : Cell) (X0 : Stand p l e R s m args below meth c T0 locs cells slots) (hx : p.tables.exec = Jvm.exec) (hZ : Z.Warmed39 s.vm) (hw : ∀ d ∈ tables_1, d.before a0 Z = true) (hby : c.code = prog_45_method_9_code) (hown : s.vm.findClass "com/example/fjordgiro/fjordgiro/transmission/Digits" = some m.cls) (e0 : T0.heap = h0) (Ar : Arr Z h0 bb cl .byte) (hin : ¬ (Int32.ofNat i < 0 ∨ cl.slots.size ≤ (Int32.ofNat i).toNatClampNeg)) (hat : cl.slots[(Int32.ofNat i).toNatClampNeg]? = some (.int (g i))) (hc8 : (Int32.ofNat i) < (Int32.ofNat t0)) {target : State} (kt : Steps p.tables e below (T0.setTop (mkF m 5 #[.val (.ref bb), .val (.int (Int32.ofNat s0)), .val (.int (Int32.ofNat t0)), .val (.long (((10 : Int64) * acc) + (((g i) - (48 : Int32)).toInt64))), .second, .val (.int ((Int32.ofNat i) + (1 : Int32)))] [])) target) : Steps p.tables e below (T0.setTop (mkF m 5 #[.val (.ref bb), .val (.int (Int32.ofNat s0)), .val (.int (Int32.ofNat t0)), .val (.long acc), .second, .val (.int (Int32.ofNat i))] [])) target := by
  show Steps p.tables e below (T0.setTop (mkF m 5 #[.val (.ref bb), .val (.int (Int32.ofNat s0)), .val (.int (Int32.ofNat t0)), .val (.long acc), .second, .val (.int (Int32.ofNat i))] [])) _
  refine XS.iload X0.here hx rfl (hb hby d2_5) rfl ?_
  show Steps p.tables e below (T0.setTop (mkF m 7 #[.val (.ref bb), .val (.int (Int32.ofNat s0)), .val (.int (Int32.ofNat t0)), .val (.long acc), .second, .val (.int (Int32.ofNat i))] [(.int (Int32.ofNat i))])) _
  refine XS.iloadN X0.here hx rfl (hb hby d2_7) rfl ?_
  show Steps p.tables e below (T0.setTop (mkF m 8 #[.val (.ref bb), .val (.int (Int32.ofNat s0)), .val (.int (Int32.ofNat t0)), .val (.long acc), .second, .val (.int (Int32.ofNat i))] [(.int (Int32.ofNat t0)), (.int (Int32.ofNat i))])) _
  refine XS.icmpNo X0.here hx rfl (hb hby d2_8) rfl (tlt hc8).2.1 ?_
  show Steps p.tables e below (T0.setTop (mkF m 11 #[.val (.ref bb), .val (.int (Int32.ofNat s0)), .val (.int (Int32.ofNat t0)), .val (.long acc), .second, .val (.int (Int32.ofNat i))] [])) _
  refine X0.ldc2Long hx hown (mvT hZ (hw _ (List.mem_of_getElem? (i := 31) rfl))) (g := (mkF m 11 #[.val (.ref bb), .val (.int (Int32.ofNat s0)), .val (.int (Int32.ofNat t0)), .val (.long acc), .second, .val (.int (Int32.ofNat i))] [])) rfl (hb hby d2_11) _ ?_
  show Steps p.tables e below (T0.setTop (mkF m 14 #[.val (.ref bb), .val (.int (Int32.ofNat s0)), .val (.int (Int32.ofNat t0)), .val (.long acc), .second, .val (.int (Int32.ofNat i))] [(.long (10 : Int64))])) _
  refine XS.lloadN X0.here hx rfl (hb hby d2_14) rfl ?_
  show Steps p.tables e below (T0.setTop (mkF m 15 #[.val (.ref bb), .val (.int (Int32.ofNat s0)), .val (.int (Int32.ofNat t0)), .val (.long acc), .second, .val (.int (Int32.ofNat i))] [(.long acc), (.long (10 : Int64))])) _
  refine XS.lmul X0.here hx rfl (hb hby d2_15) rfl ?_
  show Steps p.tables e below (T0.setTop (mkF m 16 #[.val (.ref bb), .val (.int (Int32.ofNat s0)), .val (.int (Int32.ofNat t0)), .val (.long acc), .second, .val (.int (Int32.ofNat i))] [(.long ((10 : Int64) * acc))])) _
  refine XS.aloadN X0.here hx rfl (hb hby d2_16) rfl rfl ?_
  show Steps p.tables e below (T0.setTop (mkF m 17 #[.val (.ref bb), .val (.int (Int32.ofNat s0)), .val (.int (Int32.ofNat t0)), .val (.long acc), .second, .val (.int (Int32.ofNat i))] [(.ref bb), (.long ((10 : Int64) * acc))])) _
  refine XS.iload X0.here hx rfl (hb hby d2_17) rfl ?_
  show Steps p.tables e below (T0.setTop (mkF m 19 #[.val (.ref bb), .val (.int (Int32.ofNat s0)), .val (.int (Int32.ofNat t0)), .val (.long acc), .second, .val (.int (Int32.ofNat i))] [(.int (Int32.ofNat i)), (.ref bb), (.long ((10 : Int64) * acc))])) _
  refine X0.baloadBytes hx (j := (Int32.ofNat i)) (v := (.int (g i))) (by rw [e0]; exact Ar.1) (State.isArrayOf_alike hZ.alike Ar.2.1) Ar.2.2 hin hat (g := (mkF m 19 #[.val (.ref bb), .val (.int (Int32.ofNat s0)), .val (.int (Int32.ofNat t0)), .val (.long acc), .second, .val (.int (Int32.ofNat i))] [(.int (Int32.ofNat i)), (.ref bb), (.long ((10 : Int64) * acc))])) rfl rfl (hb hby d2_19) _ ?_
  show Steps p.tables e below (T0.setTop (mkF m 20 #[.val (.ref bb), .val (.int (Int32.ofNat s0)), .val (.int (Int32.ofNat t0)), .val (.long acc), .second, .val (.int (Int32.ofNat i))] [(.int (g i)), (.long ((10 : Int64) * acc))])) _
  refine XS.bipush X0.here hx rfl (hb hby d2_20) ?_
  show Steps p.tables e below (T0.setTop (mkF m 22 #[.val (.ref bb), .val (.int (Int32.ofNat s0)), .val (.int (Int32.ofNat t0)), .val (.long acc), .second, .val (.int (Int32.ofNat i))] [(.int (48 : Int32)), (.int (g i)), (.long ((10 : Int64) * acc))])) _
  refine XS.isub X0.here hx rfl (hb hby d2_22) rfl ?_
  show Steps p.tables e below (T0.setTop (mkF m 23 #[.val (.ref bb), .val (.int (Int32.ofNat s0)), .val (.int (Int32.ofNat t0)), .val (.long acc), .second, .val (.int (Int32.ofNat i))] [(.int ((g i) - (48 : Int32))), (.long ((10 : Int64) * acc))])) _
  refine XS.i2l X0.here hx rfl (hb hby d2_23) rfl ?_
  show Steps p.tables e below (T0.setTop (mkF m 24 #[.val (.ref bb), .val (.int (Int32.ofNat s0)), .val (.int (Int32.ofNat t0)), .val (.long acc), .second, .val (.int (Int32.ofNat i))] [(.long (((g i) - (48 : Int32)).toInt64)), (.long ((10 : Int64) * acc))])) _
  refine XS.ladd X0.here hx rfl (hb hby d2_24) rfl ?_
  show Steps p.tables e below (T0.setTop (mkF m 25 #[.val (.ref bb), .val (.int (Int32.ofNat s0)), .val (.int (Int32.ofNat t0)), .val (.long acc), .second, .val (.int (Int32.ofNat i))] [(.long (((10 : Int64) * acc) + (((g i) - (48 : Int32)).toInt64)))])) _
  refine XS.lstoreN X0.here hx rfl (hb hby d2_25) rfl (l' := #[.val (.ref bb), .val (.int (Int32.ofNat s0)), .val (.int (Int32.ofNat t0)), .val (.long (((10 : Int64) * acc) + (((g i) - (48 : Int32)).toInt64))), .second, .val (.int (Int32.ofNat i))]) rfl ?_
  show Steps p.tables e below (T0.setTop (mkF m 26 #[.val (.ref bb), .val (.int (Int32.ofNat s0)), .val (.int (Int32.ofNat t0)), .val (.long (((10 : Int64) * acc) + (((g i) - (48 : Int32)).toInt64))), .second, .val (.int (Int32.ofNat i))] [])) _
  refine XS.iinc X0.here hx rfl (hb hby d2_26) rfl (l' := #[.val (.ref bb), .val (.int (Int32.ofNat s0)), .val (.int (Int32.ofNat t0)), .val (.long (((10 : Int64) * acc) + (((g i) - (48 : Int32)).toInt64))), .second, .val (.int ((Int32.ofNat i) + (1 : Int32)))]) rfl ?_
  show Steps p.tables e below (T0.setTop (mkF m 29 #[.val (.ref bb), .val (.int (Int32.ofNat s0)), .val (.int (Int32.ofNat t0)), .val (.long (((10 : Int64) * acc) + (((g i) - (48 : Int32)).toInt64))), .second, .val (.int ((Int32.ofNat i) + (1 : Int32)))] [])) _
  refine XS.goto X0.here hx rfl (pc0 := 29) (pc' := 5) rfl (hb hby d2_29) (by decide) (by decide) ?_
  exact kt
set_option maxRecDepth 65536 in
set_option maxHeartbeats 40000000 in
theorem leave2 {p : Program} {l : Launch} {e : Env} {R : Room} {s : State} {m : MethodId} {args : Array Value} {below : List Frame} {meth : Method} {c : Code} {T0 : State} {locs : List Loc} {cells slots : Nat} {Z : State} {a0 : Array Value} {h0 : Heap} (bb : Addr) (s0 t0 i : Nat) (acc : Int64) (X0 : Stand p l e R s m args below meth c T0 locs cells slots) (hx : p.tables.exec = Jvm.exec) (hZ : Z.Warmed39 s.vm) (hw : ∀ d ∈ tables_1, d.before a0 Z = true) (hby : c.code = prog_45_method_9_code) (hown : s.vm.findClass "com/example/fjordgiro/fjordgiro/transmission/Digits" = some m.cls) (e0 : T0.heap = h0) (hc8 : ¬ ((Int32.ofNat i) < (Int32.ofNat t0))) {target : State} (kt : Steps p.tables e below (T0.setTop (mkF m 32 #[.val (.ref bb), .val (.int (Int32.ofNat s0)), .val (.int (Int32.ofNat t0)), .val (.long acc), .second, .val (.int (Int32.ofNat i))] [])) target) : Steps p.tables e below (T0.setTop (mkF m 5 #[.val (.ref bb), .val (.int (Int32.ofNat s0)), .val (.int (Int32.ofNat t0)), .val (.long acc), .second, .val (.int (Int32.ofNat i))] [])) target := by
  show Steps p.tables e below (T0.setTop (mkF m 5 #[.val (.ref bb), .val (.int (Int32.ofNat s0)), .val (.int (Int32.ofNat t0)), .val (.long acc), .second, .val (.int (Int32.ofNat i))] [])) _
  refine XS.iload X0.here hx rfl (hb hby d2_5) rfl ?_
  show Steps p.tables e below (T0.setTop (mkF m 7 #[.val (.ref bb), .val (.int (Int32.ofNat s0)), .val (.int (Int32.ofNat t0)), .val (.long acc), .second, .val (.int (Int32.ofNat i))] [(.int (Int32.ofNat i))])) _
  refine XS.iloadN X0.here hx rfl (hb hby d2_7) rfl ?_
  show Steps p.tables e below (T0.setTop (mkF m 8 #[.val (.ref bb), .val (.int (Int32.ofNat s0)), .val (.int (Int32.ofNat t0)), .val (.long acc), .second, .val (.int (Int32.ofNat i))] [(.int (Int32.ofNat t0)), (.int (Int32.ofNat i))])) _
  refine XS.icmpYes X0.here hx rfl (pc0 := 8) (pc' := 32) rfl (hb hby d2_8) rfl (flt hc8).2.1 (by decide) (by decide) ?_
  exact kt
theorem loop2 {p : Program} {l : Launch} {e : Env} {R : Room} {s : State} {m : MethodId} {args : Array Value} {below : List Frame} {meth : Method} {c : Code} {T0 : State} {locs : List Loc} {cells slots : Nat} {Z : State} {a0 : Array Value} {h0 : Heap} (bb : Addr) (s0 t0 : Nat) (ht0 : t0 ≤ 20) (g : Nat → Int32) (av : Nat → Int64) (kb : ClassId) (bs : List Value) (X0 : Stand p l e R s m args below meth c T0 locs cells slots) (hx : p.tables.exec = Jvm.exec) (hZ : Z.Warmed39 s.vm) (hw : ∀ d ∈ tables_1, d.before a0 Z = true) (hby : c.code = prog_45_method_9_code) (hown : s.vm.findClass "com/example/fjordgiro/fjordgiro/transmission/Digits" = some m.cls) (e0 : T0.heap = h0) (VB : Arv Z h0 bb kb .byte (20 : Int32) bs (.int (0 : Int32))) (hg : ∀ i, s0 ≤ i → i < t0 → bs.getD i (.int (0 : Int32)) = .int (g i)) (hav : ∀ j, s0 + j < t0 → (10 : Int64) * av j + (g (s0 + j) - (48 : Int32)).toInt64 = av (j + 1)) :
    ∀ (k j : Nat), s0 + j + k = t0 → ∀ {target : State}, Steps p.tables e below (T0.setTop (mkF m 32 #[.val (.ref bb), .val (.int (Int32.ofNat s0)), .val (.int (Int32.ofNat t0)), .val (.long (av (j + k))), .second, .val (.int (Int32.ofNat t0))] [])) target → Steps p.tables e below (T0.setTop (mkF m 5 #[.val (.ref bb), .val (.int (Int32.ofNat s0)), .val (.int (Int32.ofNat t0)), .val (.long (av j)), .second, .val (.int (Int32.ofNat (s0 + j)))] [])) target := by
  intro k
  induction k with
  | zero =>
    intro j hj target kt
    refine leave2 bb s0 t0 (s0 + j) (av j) X0 hx hZ hw hby hown e0 (fun q => absurd ((own_lt (by omega) (by omega)).mp q) (by omega)) ?_
    rw [show s0 + j = t0 by omega]
    exact kt
  | succ k ih =>
    intro j hj target kt
    obtain ⟨cl, Ar, -, S, -, H, -⟩ := (id VB)
    have hin : ¬ (Int32.ofNat (s0 + j) < 0 ∨ cl.slots.size ≤ (Int32.ofNat (s0 + j)).toNatClampNeg) := inb_of S ⟨own_nn (by omega), (own_lt (j := 20) (by omega) (by omega)).mpr (by omega)⟩
    refine turn2 bb s0 t0 (s0 + j) (av j) g cl X0 hx hZ hw hby hown e0 Ar hin (H.at hin (by rw [own_natC (by omega)]; exact hg _ (by omega) (by omega))) ((own_lt (by omega) (by omega)).mpr (by omega)) ?_
    rw [hav j (by omega), own_succ (by omega), show s0 + j + 1 = s0 + (j + 1) by omega]
    refine ih (j + 1) (by omega) ?_
    rw [show j + 1 + k = j + (k + 1) by omega]
    exact kt
theorem d2_0 : decode prog_45_method_9_code 0 = .ok (.lconst 0, 1) := by decide +kernel
theorem d2_1 : decode prog_45_method_9_code 1 = .ok (.lstore_n 3, 1) := by decide +kernel
theorem d2_2 : decode prog_45_method_9_code 2 = .ok (.iload_n 1, 1) := by decide +kernel
theorem d2_3 : decode prog_45_method_9_code 3 = .ok (.istore 5, 2) := by decide +kernel
theorem d2_32 : decode prog_45_method_9_code 32 = .ok (.lload_n 3, 1) := by decide +kernel
theorem d2_33 : decode prog_45_method_9_code 33 = .ok (.lreturn, 1) := by decide +kernel
theorem pn_com_example_fjordgiro_fjordgiro_transmission_Digits : plainName "com/example/fjordgiro/fjordgiro/transmission/Digits" = true := by first | (simp [plainName, overriddenIn]; done) | decide +kernel
theorem ef_2 (m : MethodId) (x0 : Addr) (x1 : Int32) (x2 : Int32) : entryFrame m #[(.ref x0), (.int x1), (.int x2)] 6 = mkF m 0 #[.val (.ref x0), .val (.int x1), .val (.int x2), .unset, .unset, .unset] [] := by first | (simp [entryFrame, mkF, argsToLocals, Value.category]; done) | rfl
def Q2 (r : Int64) (h0 : Heap) (n0 : Nat) (v : Option Value) (h : Heap) (L : List Loc) : Prop := v = some (.long r) ∧ Fr n0 L ∧ h = h0
set_option maxRecDepth 65536 in
set_option maxHeartbeats 40000000 in
theorem rm2 (l : Launch) (Z : State) (a0 : Array Value) (hw : ∀ d ∈ tables_1, d.before a0 Z = true) (ws : List Jvm.Cond) (bb : Addr) (s0 t0 : Nat) (g : Nat → Int32) (av : Nat → Int64) (kb : ClassId) (bs : List Value) (h0 : Heap) (n0 : Nat) (Z0 : n0 ≤ h0.size) (hst : s0 ≤ t0) (ht0 : t0 ≤ 20) (VB : Arv Z h0 bb kb .byte (20 : Int32) bs (.int (0 : Int32))) (hg : ∀ i, s0 ≤ i → i < t0 → bs.getD i (.int (0 : Int32)) = .int (g i)) (h00 : av 0 = 0) (hav : ∀ j, s0 + j < t0 → (10 : Int64) * av j + (g (s0 + j) - (48 : Int32)).toInt64 = av (j + 1))  :
    MetFree l (⟨"com/example/fjordgiro/fjordgiro/transmission/Digits", "value", "([BII)J"⟩ : MethodName) (head1 (Jvm.Cond.code (⟨"com/example/fjordgiro/fjordgiro/transmission/Digits", "value", "([BII)J"⟩ : MethodName) prog_45_method_9_code 6 (some .long) :: ws) ({ frames := 0, cells := 0, slots := 0, locals := 0 } : Room)) (fun a U => a = #[(.ref bb), (.int (Int32.ofNat s0)), (.int (Int32.ofNat t0))] ∧ Z.Warmed39 U.vm ∧ U.heap = h0) (fun _ _ _ _ _ => True) (fun _ U o U' => ∃ v L, o = .returned v ∧ Q2 (av (t0 - s0)) h0 n0 v U'.heap L ∧ FrameEnd U o U' L ({ frames := 0, cells := 0, slots := 0, locals := 0 } : Room).cells ({ frames := 0, cells := 0, slots := 0, locals := 0 } : Room).slots) := by
  refine MetFree.of_bodySF (plainFor_of_name pn_com_example_fjordgiro_fjordgiro_transmission_Digits) hisR ?_
  intro p e s m args below meth cd s₁ Bd hml0 hPre hKc
  obtain ⟨rfl, hZ, hHp⟩ := hPre
  have hx := Bd.exec
  have hby := Bd.bytes
  have hml : cd.maxLocals = 6 := hml0
  have hown : s.vm.findClass "com/example/fjordgiro/fjordgiro/transmission/Digits" = some m.cls := findClass_of_methodNamed Bd.named
  have hnm := (name_of_methodNamed Bd.named Bd.method).1
  have X0 : Stand p l e ({ frames := 0, cells := 0, slots := 0, locals := 0 } : Room) s m #[(.ref bb), (.int (Int32.ofNat s0)), (.int (Int32.ofNat t0))] below meth cd s₁ [] 0 0 := Stand.of_body Bd
  have e0 : s₁.heap = h0 := by rw [← hHp, Bd.state]; rfl
  have N0 := Fr.nil n0
  have pre0 : ∀ t, Steps p.tables e below (s₁.setTop (mkF m 0 #[.val (.ref bb), .val (.int (Int32.ofNat s0)), .val (.int (Int32.ofNat t0)), .unset, .unset, .unset] [])) t → Steps p.tables e below (s₁.setTop (entryFrame m #[(.ref bb), (.int (Int32.ofNat s0)), (.int (Int32.ofNat t0))] 6)) t := fun t kz => castTop (ef_2 m bb (Int32.ofNat s0) (Int32.ofNat t0)) kz
  obtain ⟨fs, hr, hrun, hended, hW, hsame⟩ := X0.leave (v := some (.long (av (t0 - s0)))) (fun h => by rw [Bd.returns] at h; cases h)
  refine ⟨_, _, pre0 _ ?_, hrun, hended, _, _, rfl, ?_, ⟨_, rfl⟩, hW, hsame.mono (by decide) (by decide)⟩
  · show Steps p.tables e below (s₁.setTop (mkF m 0 #[.val (.ref bb), .val (.int (Int32.ofNat s0)), .val (.int (Int32.ofNat t0)), .unset, .unset, .unset] [])) _
    refine XS.lconst X0.here hx rfl (hb hby d2_0) ?_
    show Steps p.tables e below (s₁.setTop (mkF m 1 #[.val (.ref bb), .val (.int (Int32.ofNat s0)), .val (.int (Int32.ofNat t0)), .unset, .unset, .unset] [(.long (0 : Int64))])) _
    refine XS.lstoreN X0.here hx rfl (hb hby d2_1) rfl (l' := #[.val (.ref bb), .val (.int (Int32.ofNat s0)), .val (.int (Int32.ofNat t0)), .val (.long (0 : Int64)), .second, .unset]) rfl ?_
    show Steps p.tables e below (s₁.setTop (mkF m 2 #[.val (.ref bb), .val (.int (Int32.ofNat s0)), .val (.int (Int32.ofNat t0)), .val (.long (0 : Int64)), .second, .unset] [])) _
    refine XS.iloadN X0.here hx rfl (hb hby d2_2) rfl ?_
    show Steps p.tables e below (s₁.setTop (mkF m 3 #[.val (.ref bb), .val (.int (Int32.ofNat s0)), .val (.int (Int32.ofNat t0)), .val (.long (0 : Int64)), .second, .unset] [(.int (Int32.ofNat s0))])) _
    refine XS.istore X0.here hx rfl (hb hby d2_3) rfl (l' := #[.val (.ref bb), .val (.int (Int32.ofNat s0)), .val (.int (Int32.ofNat t0)), .val (.long (0 : Int64)), .second, .val (.int (Int32.ofNat s0))]) rfl ?_
    show Steps p.tables e below (s₁.setTop (mkF m 5 #[.val (.ref bb), .val (.int (Int32.ofNat s0)), .val (.int (Int32.ofNat t0)), .val (.long (0 : Int64)), .second, .val (.int (Int32.ofNat s0))] [])) _
    rw [← h00]
    show Steps p.tables e below (s₁.setTop (mkF m 5 #[.val (.ref bb), .val (.int (Int32.ofNat s0)), .val (.int (Int32.ofNat t0)), .val (.long (av 0)), .second, .val (.int (Int32.ofNat (s0 + 0)))] [])) _
    refine loop2 bb s0 t0 ht0 g av kb bs X0 hx hZ hw hby hown e0 VB hg hav (t0 - s0) 0 (by omega) ?_
    rw [Nat.zero_add]
    show Steps p.tables e below (s₁.setTop (mkF m 32 #[.val (.ref bb), .val (.int (Int32.ofNat s0)), .val (.int (Int32.ofNat t0)), .val (.long (av (t0 - s0))), .second, .val (.int (Int32.ofNat t0))] [])) _
    refine XS.lloadN X0.here hx rfl (hb hby d2_32) rfl ?_
    show Steps p.tables e below (s₁.setTop (mkF m 33 #[.val (.ref bb), .val (.int (Int32.ofNat s0)), .val (.int (Int32.ofNat t0)), .val (.long (av (t0 - s0))), .second, .val (.int (Int32.ofNat t0))] [(.long (av (t0 - s0)))])) _
    jvm_step X0.here [X0.here.top, hx, (hb hby d2_33), X0.method', Bd.returns, narrow]
    first | (intro acts; rw [hr _ acts rfl rfl rfl]) | rw [hr _ _ rfl rfl rfl]
    exact Steps.refl _
  · show Q2 (av (t0 - s0)) h0 n0 _ s₁.heap _
    rw [e0]
    exact ⟨rfl, N0, rfl⟩
theorem own_i0 : ¬ ((17 : Int32) - (0 : Int32)) < 0 ∧ ((17 : Int32) - (0 : Int32)) < 19 := by decide
theorem own_t0 : (own_pw.map Value.long).getD ((17 : Int32) - (0 : Int32)).toNatClampNeg (.long (0 : Int64)) = .long (own_pw.getD 17 0) := by
  rw [show ((17 : Int32) - (0 : Int32)).toNatClampNeg = 17 from by decide]; exact own_getL own_pw 17
theorem own_i1 : ¬ ((17 : Int32) - (1 : Int32)) < 0 ∧ ((17 : Int32) - (1 : Int32)) < 19 := by decide
theorem own_t1 : (own_pw.map Value.long).getD ((17 : Int32) - (1 : Int32)).toNatClampNeg (.long (0 : Int64)) = .long (own_pw.getD 16 0) := by
  rw [show ((17 : Int32) - (1 : Int32)).toNatClampNeg = 16 from by decide]; exact own_getL own_pw 16
theorem own_i2 : ¬ ((17 : Int32) - (2 : Int32)) < 0 ∧ ((17 : Int32) - (2 : Int32)) < 19 := by decide
theorem own_t2 : (own_pw.map Value.long).getD ((17 : Int32) - (2 : Int32)).toNatClampNeg (.long (0 : Int64)) = .long (own_pw.getD 15 0) := by
  rw [show ((17 : Int32) - (2 : Int32)).toNatClampNeg = 15 from by decide]; exact own_getL own_pw 15
theorem own_i3 : ¬ ((17 : Int32) - (3 : Int32)) < 0 ∧ ((17 : Int32) - (3 : Int32)) < 19 := by decide
theorem own_t3 : (own_pw.map Value.long).getD ((17 : Int32) - (3 : Int32)).toNatClampNeg (.long (0 : Int64)) = .long (own_pw.getD 14 0) := by
  rw [show ((17 : Int32) - (3 : Int32)).toNatClampNeg = 14 from by decide]; exact own_getL own_pw 14
theorem own_i4 : ¬ ((17 : Int32) - (4 : Int32)) < 0 ∧ ((17 : Int32) - (4 : Int32)) < 19 := by decide
theorem own_t4 : (own_pw.map Value.long).getD ((17 : Int32) - (4 : Int32)).toNatClampNeg (.long (0 : Int64)) = .long (own_pw.getD 13 0) := by
  rw [show ((17 : Int32) - (4 : Int32)).toNatClampNeg = 13 from by decide]; exact own_getL own_pw 13
theorem own_i5 : ¬ ((17 : Int32) - (5 : Int32)) < 0 ∧ ((17 : Int32) - (5 : Int32)) < 19 := by decide
theorem own_t5 : (own_pw.map Value.long).getD ((17 : Int32) - (5 : Int32)).toNatClampNeg (.long (0 : Int64)) = .long (own_pw.getD 12 0) := by
  rw [show ((17 : Int32) - (5 : Int32)).toNatClampNeg = 12 from by decide]; exact own_getL own_pw 12
theorem own_i6 : ¬ ((17 : Int32) - (6 : Int32)) < 0 ∧ ((17 : Int32) - (6 : Int32)) < 19 := by decide
theorem own_t6 : (own_pw.map Value.long).getD ((17 : Int32) - (6 : Int32)).toNatClampNeg (.long (0 : Int64)) = .long (own_pw.getD 11 0) := by
  rw [show ((17 : Int32) - (6 : Int32)).toNatClampNeg = 11 from by decide]; exact own_getL own_pw 11
theorem own_i7 : ¬ ((17 : Int32) - (7 : Int32)) < 0 ∧ ((17 : Int32) - (7 : Int32)) < 19 := by decide
theorem own_t7 : (own_pw.map Value.long).getD ((17 : Int32) - (7 : Int32)).toNatClampNeg (.long (0 : Int64)) = .long (own_pw.getD 10 0) := by
  rw [show ((17 : Int32) - (7 : Int32)).toNatClampNeg = 10 from by decide]; exact own_getL own_pw 10
theorem own_i8 : ¬ ((17 : Int32) - (8 : Int32)) < 0 ∧ ((17 : Int32) - (8 : Int32)) < 19 := by decide
theorem own_t8 : (own_pw.map Value.long).getD ((17 : Int32) - (8 : Int32)).toNatClampNeg (.long (0 : Int64)) = .long (own_pw.getD 9 0) := by
  rw [show ((17 : Int32) - (8 : Int32)).toNatClampNeg = 9 from by decide]; exact own_getL own_pw 9
theorem own_i9 : ¬ ((17 : Int32) - (9 : Int32)) < 0 ∧ ((17 : Int32) - (9 : Int32)) < 19 := by decide
theorem own_t9 : (own_pw.map Value.long).getD ((17 : Int32) - (9 : Int32)).toNatClampNeg (.long (0 : Int64)) = .long (own_pw.getD 8 0) := by
  rw [show ((17 : Int32) - (9 : Int32)).toNatClampNeg = 8 from by decide]; exact own_getL own_pw 8
theorem own_i10 : ¬ ((17 : Int32) - (10 : Int32)) < 0 ∧ ((17 : Int32) - (10 : Int32)) < 19 := by decide
theorem own_t10 : (own_pw.map Value.long).getD ((17 : Int32) - (10 : Int32)).toNatClampNeg (.long (0 : Int64)) = .long (own_pw.getD 7 0) := by
  rw [show ((17 : Int32) - (10 : Int32)).toNatClampNeg = 7 from by decide]; exact own_getL own_pw 7
theorem own_i11 : ¬ ((17 : Int32) - (11 : Int32)) < 0 ∧ ((17 : Int32) - (11 : Int32)) < 19 := by decide
theorem own_t11 : (own_pw.map Value.long).getD ((17 : Int32) - (11 : Int32)).toNatClampNeg (.long (0 : Int64)) = .long (own_pw.getD 6 0) := by
  rw [show ((17 : Int32) - (11 : Int32)).toNatClampNeg = 6 from by decide]; exact own_getL own_pw 6
theorem own_i12 : ¬ ((17 : Int32) - (12 : Int32)) < 0 ∧ ((17 : Int32) - (12 : Int32)) < 19 := by decide
theorem own_t12 : (own_pw.map Value.long).getD ((17 : Int32) - (12 : Int32)).toNatClampNeg (.long (0 : Int64)) = .long (own_pw.getD 5 0) := by
  rw [show ((17 : Int32) - (12 : Int32)).toNatClampNeg = 5 from by decide]; exact own_getL own_pw 5
theorem own_i13 : ¬ ((17 : Int32) - (13 : Int32)) < 0 ∧ ((17 : Int32) - (13 : Int32)) < 19 := by decide
theorem own_t13 : (own_pw.map Value.long).getD ((17 : Int32) - (13 : Int32)).toNatClampNeg (.long (0 : Int64)) = .long (own_pw.getD 4 0) := by
  rw [show ((17 : Int32) - (13 : Int32)).toNatClampNeg = 4 from by decide]; exact own_getL own_pw 4
theorem own_i14 : ¬ ((17 : Int32) - (14 : Int32)) < 0 ∧ ((17 : Int32) - (14 : Int32)) < 19 := by decide
theorem own_t14 : (own_pw.map Value.long).getD ((17 : Int32) - (14 : Int32)).toNatClampNeg (.long (0 : Int64)) = .long (own_pw.getD 3 0) := by
  rw [show ((17 : Int32) - (14 : Int32)).toNatClampNeg = 3 from by decide]; exact own_getL own_pw 3
theorem own_i15 : ¬ ((17 : Int32) - (15 : Int32)) < 0 ∧ ((17 : Int32) - (15 : Int32)) < 19 := by decide
theorem own_t15 : (own_pw.map Value.long).getD ((17 : Int32) - (15 : Int32)).toNatClampNeg (.long (0 : Int64)) = .long (own_pw.getD 2 0) := by
  rw [show ((17 : Int32) - (15 : Int32)).toNatClampNeg = 2 from by decide]; exact own_getL own_pw 2
theorem own_i16 : ¬ ((17 : Int32) - (16 : Int32)) < 0 ∧ ((17 : Int32) - (16 : Int32)) < 19 := by decide
theorem own_t16 : (own_pw.map Value.long).getD ((17 : Int32) - (16 : Int32)).toNatClampNeg (.long (0 : Int64)) = .long (own_pw.getD 1 0) := by
  rw [show ((17 : Int32) - (16 : Int32)).toNatClampNeg = 1 from by decide]; exact own_getL own_pw 1
theorem own_i17 : ¬ ((17 : Int32) - (17 : Int32)) < 0 ∧ ((17 : Int32) - (17 : Int32)) < 19 := by decide
theorem own_t17 : (own_pw.map Value.long).getD ((17 : Int32) - (17 : Int32)).toNatClampNeg (.long (0 : Int64)) = .long (own_pw.getD 0 0) := by
  rw [show ((17 : Int32) - (17 : Int32)).toNatClampNeg = 0 from by decide]; exact own_getL own_pw 0
theorem own_land (q : Int64) : 0 ≤ (q &&& (9223372036854775807 : Int64)).toInt := by
  show 0 ≤ (q.toBitVec &&& 9223372036854775807#64).toInt
  have h : (q.toBitVec &&& 9223372036854775807#64).toNat ≤ 9223372036854775807 := by rw [BitVec.toNat_and]; exact Nat.and_le_right
  rw [BitVec.toInt_eq_toNat_cond, if_pos (by omega)]
  omega
theorem own_nT (q1 : Int64) : (((q1 &&& (9223372036854775807 : Int64)) % (1000000000000000000 : Int64))).toInt = (((((q1 &&& (9223372036854775807 : Int64)) % (1000000000000000000 : Int64))).toInt.toNat : Nat) : Int) := by
  have h : 0 ≤ (((q1 &&& (9223372036854775807 : Int64)) % (1000000000000000000 : Int64))).toInt := by
    rw [Int64.toInt_mod, Int.tmod_eq_emod_of_nonneg (own_land q1)]
    exact Int.emod_nonneg _ (by decide)
  omega
theorem own_av0 (N a : Nat) : own_av N a 0 = 0 := by
  unfold own_av; rw [Nat.pow_zero, Nat.mod_one]; rfl
theorem own_pwP {A j : Nat} (h : A + 1 + j ≤ 18) : (own_pw.getD (18 - (A + 1 + j)) 0).toInt = ((10 ^ (18 - (A + 1 + j)) : Nat) : Int) := own_pwT (by omega)
theorem own_end {n : Int64} (hn : n.toInt = ((n.toInt.toNat : Nat) : Int)) {A D : Nat} (hA : A < 19) (hD : D < 19 - A) : own_av n.toInt.toNat A (A + D + 1 - (A + 1)) = ((n / own_pw.getD (18 - (A + D)) 0) % own_pw.getD (A + D - A) 0) := by
  rw [show A + D + 1 - (A + 1) = A + D - A by omega]
  exact own_last hn (by omega) (by omega)
theorem own_bytes (n : Int64) (x y : Value) : ∀ i, 1 ≤ i → i ≤ 18 → ([x, (.int (nar .byte (own_dg n (own_pw.getD 17 0)))), (.int (nar .byte (own_dg n (own_pw.getD 16 0)))), (.int (nar .byte (own_dg n (own_pw.getD 15 0)))), (.int (nar .byte (own_dg n (own_pw.getD 14 0)))), (.int (nar .byte (own_dg n (own_pw.getD 13 0)))), (.int (nar .byte (own_dg n (own_pw.getD 12 0)))), (.int (nar .byte (own_dg n (own_pw.getD 11 0)))), (.int (nar .byte (own_dg n (own_pw.getD 10 0)))), (.int (nar .byte (own_dg n (own_pw.getD 9 0)))), (.int (nar .byte (own_dg n (own_pw.getD 8 0)))), (.int (nar .byte (own_dg n (own_pw.getD 7 0)))), (.int (nar .byte (own_dg n (own_pw.getD 6 0)))), (.int (nar .byte (own_dg n (own_pw.getD 5 0)))), (.int (nar .byte (own_dg n (own_pw.getD 4 0)))), (.int (nar .byte (own_dg n (own_pw.getD 3 0)))), (.int (nar .byte (own_dg n (own_pw.getD 2 0)))), (.int (nar .byte (own_dg n (own_pw.getD 1 0)))), (.int (nar .byte (own_dg n (own_pw.getD 0 0)))), y] : List Value).getD i (.int (0 : Int32)) = .int (nar .byte (own_dg n (own_pw.getD (18 - i) 0))) := by
  intro i h1 h2
  match i, h1, h2 with
  | 1, _, _ => rfl
  | 2, _, _ => rfl
  | 3, _, _ => rfl
  | 4, _, _ => rfl
  | 5, _, _ => rfl
  | 6, _, _ => rfl
  | 7, _, _ => rfl
  | 8, _, _ => rfl
  | 9, _, _ => rfl
  | 10, _, _ => rfl
  | 11, _, _ => rfl
  | 12, _, _ => rfl
  | 13, _, _ => rfl
  | 14, _, _ => rfl
  | 15, _, _ => rfl
  | 16, _, _ => rfl
  | 17, _, _ => rfl
  | 18, _, _ => rfl
  | 0, h, _ => exact absurd h (by decide)
  | k + 19, _, h => exact absurd h (by omega)
theorem pd___BII_J : parseMethodDescriptor "([BII)J" = some ⟨[(.array .byte), .int, .int], some .long⟩ := by decide +kernel
theorem pd___JJI_B : parseMethodDescriptor "([JJI)B" = some ⟨[(.array .long), .long, .int], some .byte⟩ := by decide +kernel
theorem ef_0 (m : MethodId) (x0 : Int64) (x1 : Int32) (x2 : Int32) (x3 : Int32) : entryFrame m #[(.long x0), (.int x1), (.int x2), (.int x3)] maxLocals = mkF m 0 #[.val (.long x0), .second, .val (.int x1), .val (.int x2), .val (.int x3), .unset, .unset, .unset, .unset, .unset, .unset, .unset, .unset] [] := by first | (simp [entryFrame, mkF, argsToLocals, Value.category, maxLocals]; done) | rfl
def Q0 (n0 : Nat) (v : Option Value) (h : Heap) (L : List Loc) : Prop := v = some (.int (1 : Int32)) ∧ Fr n0 L
set_option maxRecDepth 65536 in
set_option maxHeartbeats 40000000 in
theorem rm0 (l : Launch) (Z : State) (a0 : Array Value) (hw : ∀ d ∈ tables_1, d.before a0 Z = true) (ws : List Jvm.Cond) (q1 : Int64) (p2 p3 p4 : Int32) (h0 : Heap) (n0 : Nat) (Z0 : n0 ≤ h0.size)   :
    MetFree l x (head1 (Jvm.Cond.code x code maxLocals ret :: ws) room_1) (fun a U => a = #[(.long q1), (.int p2), (.int p3), (.int p4)] ∧ Z.Warmed39 U.vm ∧ U.heap = h0) (fun _ _ _ _ _ => True) (fun _ U o U' => ∃ v L, o = .returned v ∧ Q0 n0 v U'.heap L ∧ FrameEnd U o U' L room_1.cells room_1.slots) := by
  refine MetFree.of_bodySF (plainFor_of_name pn_com_example_fjordgiro_fjordgiro_transmission_DigitsValuePinLaw) hisR ?_
  intro p e s m args below meth cd s₁ Bd hml0 hPre hKc
  obtain ⟨rfl, hZ, hHp⟩ := hPre
  have hx := Bd.exec
  have hby := Bd.bytes
  have hml : cd.maxLocals = 13 := hml0
  have hown : s.vm.findClass "com/example/fjordgiro/fjordgiro/transmission/DigitsValuePinLaw" = some m.cls := findClass_of_methodNamed Bd.named
  have hnm := (name_of_methodNamed Bd.named Bd.method).1
  have X0 : Stand p l e room_1 s m #[(.long q1), (.int p2), (.int p3), (.int p4)] below meth cd s₁ [] 0 0 := Stand.of_body Bd
  have e0 : s₁.heap = h0 := by rw [← hHp, Bd.state]; rfl
  have N0 := Fr.nil n0
  have pre0 : ∀ t, Steps p.tables e below (s₁.setTop (mkF m 0 #[.val (.long q1), .second, .val (.int p2), .val (.int p3), .val (.int p4), .unset, .unset, .unset, .unset, .unset, .unset, .unset, .unset] [])) t → Steps p.tables e below (s₁.setTop (entryFrame m #[(.long q1), (.int p2), (.int p3), (.int p4)] maxLocals)) t := fun t kz => castTop (ef_0 m q1 p2 p3 p4) kz
  obtain ⟨T1, h1, k1, X1, e1, E1, A1, st1⟩ := newP X0 hx hZ (hw _ (List.mem_of_getElem? (i := 0) rfl)) e0 (g := (mkF m 2 #[.val (.long q1), .second, .val (.int p2), .val (.int p3), .val (.int p4), .unset, .unset, .unset, .unset, .unset, .unset, .unset, .unset] [(.int (19 : Int32))])) rfl (hb hby at_2) rfl (by decide) (cap := 19) (by decide) (by decide) (Nat.le_of_ble_eq_true rfl) (Nat.le_of_ble_eq_true rfl)
  obtain ⟨pa, g1⟩ : ∃ z, z = h0.size := ⟨_, rfl⟩
  rw [← g1] at A1 st1
  have g_pa : n0 ≤ pa := Nat.le_trans Z0 (Nat.le_of_eq g1.symm)
  have z1 : n0 ≤ h1.size := Nat.le_trans Z0 E1.1
  have V_pa : Arv Z h1 pa k1 .long (19 : Int32) [(.long (0 : Int64)), (.long (0 : Int64)), (.long (0 : Int64)), (.long (0 : Int64)), (.long (0 : Int64)), (.long (0 : Int64)), (.long (0 : Int64)), (.long (0 : Int64)), (.long (0 : Int64)), (.long (0 : Int64)), (.long (0 : Int64)), (.long (0 : Int64)), (.long (0 : Int64)), (.long (0 : Int64)), (.long (0 : Int64)), (.long (0 : Int64)), (.long (0 : Int64)), (.long (0 : Int64)), (.long (0 : Int64))] (.long (0 : Int64)) := (Arv.new A1 (by decide)).pad (pad_rep [] (.long (0 : Int64)) 19)
  obtain ⟨c2, Ar2, q2, S2, M2, H2, G2⟩ := V_pa
  have hin2 : ¬ ((0 : Int32) < 0 ∨ c2.slots.size ≤ ((0 : Int32)).toNatClampNeg) := inb_of S2 ⟨by decide, by decide⟩
  obtain ⟨T3, h3, X3, e3, W3, st3⟩ := stJ X1 hx hZ e1 Ar2 (j := (0 : Int32)) hin2 (g := (mkF m 7 #[.val (.long q1), .second, .val (.int p2), .val (.int p3), .val (.int p4), .unset, .unset, .unset, .unset, .unset, .unset, .unset, .unset] [(.long (1 : Int64)), (.int (0 : Int32)), (.ref pa), (.ref pa)])) rfl rfl (hb hby at_7)
  have V3 : Arv Z h3 pa k1 .long (19 : Int32) [(.long (1 : Int64)), (.long (0 : Int64)), (.long (0 : Int64)), (.long (0 : Int64)), (.long (0 : Int64)), (.long (0 : Int64)), (.long (0 : Int64)), (.long (0 : Int64)), (.long (0 : Int64)), (.long (0 : Int64)), (.long (0 : Int64)), (.long (0 : Int64)), (.long (0 : Int64)), (.long (0 : Int64)), (.long (0 : Int64)), (.long (0 : Int64)), (.long (0 : Int64)), (.long (0 : Int64)), (.long (0 : Int64))] (.long (0 : Int64)) := Arv.set Ar2 q2 S2 M2 H2 G2 rfl W3 0 rfl (Nat.le_of_ble_eq_true rfl)
  have N3 := Fr.snoc X3 N0 g_pa
  have z3 : n0 ≤ h3.size := Nat.le_trans z1 (Keep.of_wr W3).1
  obtain ⟨c4, Ar4, q4, S4, M4, H4, G4⟩ := V3
  have hin4 : ¬ ((1 : Int32) < 0 ∨ c4.slots.size ≤ ((1 : Int32)).toNatClampNeg) := inb_of S4 ⟨by decide, by decide⟩
  obtain ⟨T5, h5, X5, e5, W5, st5⟩ := stJ X3 hx hZ e3 Ar4 (j := (1 : Int32)) hin4 (g := (mkF m 13 #[.val (.long q1), .second, .val (.int p2), .val (.int p3), .val (.int p4), .unset, .unset, .unset, .unset, .unset, .unset, .unset, .unset] [(.long (10 : Int64)), (.int (1 : Int32)), (.ref pa), (.ref pa)])) rfl rfl (hb hby at_13)
  have V5 : Arv Z h5 pa k1 .long (19 : Int32) [(.long (1 : Int64)), (.long (10 : Int64)), (.long (0 : Int64)), (.long (0 : Int64)), (.long (0 : Int64)), (.long (0 : Int64)), (.long (0 : Int64)), (.long (0 : Int64)), (.long (0 : Int64)), (.long (0 : Int64)), (.long (0 : Int64)), (.long (0 : Int64)), (.long (0 : Int64)), (.long (0 : Int64)), (.long (0 : Int64)), (.long (0 : Int64)), (.long (0 : Int64)), (.long (0 : Int64)), (.long (0 : Int64))] (.long (0 : Int64)) := Arv.set Ar4 q4 S4 M4 H4 G4 rfl W5 1 rfl (Nat.le_of_ble_eq_true rfl)
  have N5 := Fr.snoc X5 N3 g_pa
  have z5 : n0 ≤ h5.size := Nat.le_trans z3 (Keep.of_wr W5).1
  obtain ⟨c6, Ar6, q6, S6, M6, H6, G6⟩ := V5
  have hin6 : ¬ ((2 : Int32) < 0 ∨ c6.slots.size ≤ ((2 : Int32)).toNatClampNeg) := inb_of S6 ⟨by decide, by decide⟩
  obtain ⟨T7, h7, X7, e7, W7, st7⟩ := stJ X5 hx hZ e5 Ar6 (j := (2 : Int32)) hin6 (g := (mkF m 19 #[.val (.long q1), .second, .val (.int p2), .val (.int p3), .val (.int p4), .unset, .unset, .unset, .unset, .unset, .unset, .unset, .unset] [(.long (100 : Int64)), (.int (2 : Int32)), (.ref pa), (.ref pa)])) rfl rfl (hb hby at_19)
  have V7 : Arv Z h7 pa k1 .long (19 : Int32) [(.long (1 : Int64)), (.long (10 : Int64)), (.long (100 : Int64)), (.long (0 : Int64)), (.long (0 : Int64)), (.long (0 : Int64)), (.long (0 : Int64)), (.long (0 : Int64)), (.long (0 : Int64)), (.long (0 : Int64)), (.long (0 : Int64)), (.long (0 : Int64)), (.long (0 : Int64)), (.long (0 : Int64)), (.long (0 : Int64)), (.long (0 : Int64)), (.long (0 : Int64)), (.long (0 : Int64)), (.long (0 : Int64))] (.long (0 : Int64)) := Arv.set Ar6 q6 S6 M6 H6 G6 rfl W7 2 rfl (Nat.le_of_ble_eq_true rfl)
  have N7 := Fr.snoc X7 N5 g_pa
  have z7 : n0 ≤ h7.size := Nat.le_trans z5 (Keep.of_wr W7).1
  obtain ⟨c8, Ar8, q8, S8, M8, H8, G8⟩ := V7
  have hin8 : ¬ ((3 : Int32) < 0 ∨ c8.slots.size ≤ ((3 : Int32)).toNatClampNeg) := inb_of S8 ⟨by decide, by decide⟩
  obtain ⟨T9, h9, X9, e9, W9, st9⟩ := stJ X7 hx hZ e7 Ar8 (j := (3 : Int32)) hin8 (g := (mkF m 25 #[.val (.long q1), .second, .val (.int p2), .val (.int p3), .val (.int p4), .unset, .unset, .unset, .unset, .unset, .unset, .unset, .unset] [(.long (1000 : Int64)), (.int (3 : Int32)), (.ref pa), (.ref pa)])) rfl rfl (hb hby at_25)
  have V9 : Arv Z h9 pa k1 .long (19 : Int32) [(.long (1 : Int64)), (.long (10 : Int64)), (.long (100 : Int64)), (.long (1000 : Int64)), (.long (0 : Int64)), (.long (0 : Int64)), (.long (0 : Int64)), (.long (0 : Int64)), (.long (0 : Int64)), (.long (0 : Int64)), (.long (0 : Int64)), (.long (0 : Int64)), (.long (0 : Int64)), (.long (0 : Int64)), (.long (0 : Int64)), (.long (0 : Int64)), (.long (0 : Int64)), (.long (0 : Int64)), (.long (0 : Int64))] (.long (0 : Int64)) := Arv.set Ar8 q8 S8 M8 H8 G8 rfl W9 3 rfl (Nat.le_of_ble_eq_true rfl)
  have N9 := Fr.snoc X9 N7 g_pa
  have z9 : n0 ≤ h9.size := Nat.le_trans z7 (Keep.of_wr W9).1
  obtain ⟨c10, Ar10, q10, S10, M10, H10, G10⟩ := V9
  have hin10 : ¬ ((4 : Int32) < 0 ∨ c10.slots.size ≤ ((4 : Int32)).toNatClampNeg) := inb_of S10 ⟨by decide, by decide⟩
  obtain ⟨T11, h11, X11, e11, W11, st11⟩ := stJ X9 hx hZ e9 Ar10 (j := (4 : Int32)) hin10 (g := (mkF m 31 #[.val (.long q1), .second, .val (.int p2), .val (.int p3), .val (.int p4), .unset, .unset, .unset, .unset, .unset, .unset, .unset, .unset] [(.long (10000 : Int64)), (.int (4 : Int32)), (.ref pa), (.ref pa)])) rfl rfl (hb hby at_31)
  have V11 : Arv Z h11 pa k1 .long (19 : Int32) [(.long (1 : Int64)), (.long (10 : Int64)), (.long (100 : Int64)), (.long (1000 : Int64)), (.long (10000 : Int64)), (.long (0 : Int64)), (.long (0 : Int64)), (.long (0 : Int64)), (.long (0 : Int64)), (.long (0 : Int64)), (.long (0 : Int64)), (.long (0 : Int64)), (.long (0 : Int64)), (.long (0 : Int64)), (.long (0 : Int64)), (.long (0 : Int64)), (.long (0 : Int64)), (.long (0 : Int64)), (.long (0 : Int64))] (.long (0 : Int64)) := Arv.set Ar10 q10 S10 M10 H10 G10 rfl W11 4 rfl (Nat.le_of_ble_eq_true rfl)
  have N11 := Fr.snoc X11 N9 g_pa
  have z11 : n0 ≤ h11.size := Nat.le_trans z9 (Keep.of_wr W11).1
  obtain ⟨c12, Ar12, q12, S12, M12, H12, G12⟩ := V11
  have hin12 : ¬ ((5 : Int32) < 0 ∨ c12.slots.size ≤ ((5 : Int32)).toNatClampNeg) := inb_of S12 ⟨by decide, by decide⟩
  obtain ⟨T13, h13, X13, e13, W13, st13⟩ := stJ X11 hx hZ e11 Ar12 (j := (5 : Int32)) hin12 (g := (mkF m 37 #[.val (.long q1), .second, .val (.int p2), .val (.int p3), .val (.int p4), .unset, .unset, .unset, .unset, .unset, .unset, .unset, .unset] [(.long (100000 : Int64)), (.int (5 : Int32)), (.ref pa), (.ref pa)])) rfl rfl (hb hby at_37)
  have V13 : Arv Z h13 pa k1 .long (19 : Int32) [(.long (1 : Int64)), (.long (10 : Int64)), (.long (100 : Int64)), (.long (1000 : Int64)), (.long (10000 : Int64)), (.long (100000 : Int64)), (.long (0 : Int64)), (.long (0 : Int64)), (.long (0 : Int64)), (.long (0 : Int64)), (.long (0 : Int64)), (.long (0 : Int64)), (.long (0 : Int64)), (.long (0 : Int64)), (.long (0 : Int64)), (.long (0 : Int64)), (.long (0 : Int64)), (.long (0 : Int64)), (.long (0 : Int64))] (.long (0 : Int64)) := Arv.set Ar12 q12 S12 M12 H12 G12 rfl W13 5 rfl (Nat.le_of_ble_eq_true rfl)
  have N13 := Fr.snoc X13 N11 g_pa
  have z13 : n0 ≤ h13.size := Nat.le_trans z11 (Keep.of_wr W13).1
  obtain ⟨c14, Ar14, q14, S14, M14, H14, G14⟩ := V13
  have hin14 : ¬ ((6 : Int32) < 0 ∨ c14.slots.size ≤ ((6 : Int32)).toNatClampNeg) := inb_of S14 ⟨by decide, by decide⟩
  obtain ⟨T15, h15, X15, e15, W15, st15⟩ := stJ X13 hx hZ e13 Ar14 (j := (6 : Int32)) hin14 (g := (mkF m 44 #[.val (.long q1), .second, .val (.int p2), .val (.int p3), .val (.int p4), .unset, .unset, .unset, .unset, .unset, .unset, .unset, .unset] [(.long (1000000 : Int64)), (.int (6 : Int32)), (.ref pa), (.ref pa)])) rfl rfl (hb hby at_44)
  have V15 : Arv Z h15 pa k1 .long (19 : Int32) [(.long (1 : Int64)), (.long (10 : Int64)), (.long (100 : Int64)), (.long (1000 : Int64)), (.long (10000 : Int64)), (.long (100000 : Int64)), (.long (1000000 : Int64)), (.long (0 : Int64)), (.long (0 : Int64)), (.long (0 : Int64)), (.long (0 : Int64)), (.long (0 : Int64)), (.long (0 : Int64)), (.long (0 : Int64)), (.long (0 : Int64)), (.long (0 : Int64)), (.long (0 : Int64)), (.long (0 : Int64)), (.long (0 : Int64))] (.long (0 : Int64)) := Arv.set Ar14 q14 S14 M14 H14 G14 rfl W15 6 rfl (Nat.le_of_ble_eq_true rfl)
  have N15 := Fr.snoc X15 N13 g_pa
  have z15 : n0 ≤ h15.size := Nat.le_trans z13 (Keep.of_wr W15).1
  obtain ⟨c16, Ar16, q16, S16, M16, H16, G16⟩ := V15
  have hin16 : ¬ ((7 : Int32) < 0 ∨ c16.slots.size ≤ ((7 : Int32)).toNatClampNeg) := inb_of S16 ⟨by decide, by decide⟩
  obtain ⟨T17, h17, X17, e17, W17, st17⟩ := stJ X15 hx hZ e15 Ar16 (j := (7 : Int32)) hin16 (g := (mkF m 51 #[.val (.long q1), .second, .val (.int p2), .val (.int p3), .val (.int p4), .unset, .unset, .unset, .unset, .unset, .unset, .unset, .unset] [(.long (10000000 : Int64)), (.int (7 : Int32)), (.ref pa), (.ref pa)])) rfl rfl (hb hby at_51)
  have V17 : Arv Z h17 pa k1 .long (19 : Int32) [(.long (1 : Int64)), (.long (10 : Int64)), (.long (100 : Int64)), (.long (1000 : Int64)), (.long (10000 : Int64)), (.long (100000 : Int64)), (.long (1000000 : Int64)), (.long (10000000 : Int64)), (.long (0 : Int64)), (.long (0 : Int64)), (.long (0 : Int64)), (.long (0 : Int64)), (.long (0 : Int64)), (.long (0 : Int64)), (.long (0 : Int64)), (.long (0 : Int64)), (.long (0 : Int64)), (.long (0 : Int64)), (.long (0 : Int64))] (.long (0 : Int64)) := Arv.set Ar16 q16 S16 M16 H16 G16 rfl W17 7 rfl (Nat.le_of_ble_eq_true rfl)
  have N17 := Fr.snoc X17 N15 g_pa
  have z17 : n0 ≤ h17.size := Nat.le_trans z15 (Keep.of_wr W17).1
  obtain ⟨c18, Ar18, q18, S18, M18, H18, G18⟩ := V17
  have hin18 : ¬ ((8 : Int32) < 0 ∨ c18.slots.size ≤ ((8 : Int32)).toNatClampNeg) := inb_of S18 ⟨by decide, by decide⟩
  obtain ⟨T19, h19, X19, e19, W19, st19⟩ := stJ X17 hx hZ e17 Ar18 (j := (8 : Int32)) hin18 (g := (mkF m 58 #[.val (.long q1), .second, .val (.int p2), .val (.int p3), .val (.int p4), .unset, .unset, .unset, .unset, .unset, .unset, .unset, .unset] [(.long (100000000 : Int64)), (.int (8 : Int32)), (.ref pa), (.ref pa)])) rfl rfl (hb hby at_58)
  have V19 : Arv Z h19 pa k1 .long (19 : Int32) [(.long (1 : Int64)), (.long (10 : Int64)), (.long (100 : Int64)), (.long (1000 : Int64)), (.long (10000 : Int64)), (.long (100000 : Int64)), (.long (1000000 : Int64)), (.long (10000000 : Int64)), (.long (100000000 : Int64)), (.long (0 : Int64)), (.long (0 : Int64)), (.long (0 : Int64)), (.long (0 : Int64)), (.long (0 : Int64)), (.long (0 : Int64)), (.long (0 : Int64)), (.long (0 : Int64)), (.long (0 : Int64)), (.long (0 : Int64))] (.long (0 : Int64)) := Arv.set Ar18 q18 S18 M18 H18 G18 rfl W19 8 rfl (Nat.le_of_ble_eq_true rfl)
  have N19 := Fr.snoc X19 N17 g_pa
  have z19 : n0 ≤ h19.size := Nat.le_trans z17 (Keep.of_wr W19).1
  obtain ⟨c20, Ar20, q20, S20, M20, H20, G20⟩ := V19
  have hin20 : ¬ ((9 : Int32) < 0 ∨ c20.slots.size ≤ ((9 : Int32)).toNatClampNeg) := inb_of S20 ⟨by decide, by decide⟩
  obtain ⟨T21, h21, X21, e21, W21, st21⟩ := stJ X19 hx hZ e19 Ar20 (j := (9 : Int32)) hin20 (g := (mkF m 65 #[.val (.long q1), .second, .val (.int p2), .val (.int p3), .val (.int p4), .unset, .unset, .unset, .unset, .unset, .unset, .unset, .unset] [(.long (1000000000 : Int64)), (.int (9 : Int32)), (.ref pa), (.ref pa)])) rfl rfl (hb hby at_65)
  have V21 : Arv Z h21 pa k1 .long (19 : Int32) [(.long (1 : Int64)), (.long (10 : Int64)), (.long (100 : Int64)), (.long (1000 : Int64)), (.long (10000 : Int64)), (.long (100000 : Int64)), (.long (1000000 : Int64)), (.long (10000000 : Int64)), (.long (100000000 : Int64)), (.long (1000000000 : Int64)), (.long (0 : Int64)), (.long (0 : Int64)), (.long (0 : Int64)), (.long (0 : Int64)), (.long (0 : Int64)), (.long (0 : Int64)), (.long (0 : Int64)), (.long (0 : Int64)), (.long (0 : Int64))] (.long (0 : Int64)) := Arv.set Ar20 q20 S20 M20 H20 G20 rfl W21 9 rfl (Nat.le_of_ble_eq_true rfl)
  have N21 := Fr.snoc X21 N19 g_pa
  have z21 : n0 ≤ h21.size := Nat.le_trans z19 (Keep.of_wr W21).1
  obtain ⟨c22, Ar22, q22, S22, M22, H22, G22⟩ := V21
  have hin22 : ¬ ((10 : Int32) < 0 ∨ c22.slots.size ≤ ((10 : Int32)).toNatClampNeg) := inb_of S22 ⟨by decide, by decide⟩
  obtain ⟨T23, h23, X23, e23, W23, st23⟩ := stJ X21 hx hZ e21 Ar22 (j := (10 : Int32)) hin22 (g := (mkF m 72 #[.val (.long q1), .second, .val (.int p2), .val (.int p3), .val (.int p4), .unset, .unset, .unset, .unset, .unset, .unset, .unset, .unset] [(.long (10000000000 : Int64)), (.int (10 : Int32)), (.ref pa), (.ref pa)])) rfl rfl (hb hby at_72)
  have V23 : Arv Z h23 pa k1 .long (19 : Int32) [(.long (1 : Int64)), (.long (10 : Int64)), (.long (100 : Int64)), (.long (1000 : Int64)), (.long (10000 : Int64)), (.long (100000 : Int64)), (.long (1000000 : Int64)), (.long (10000000 : Int64)), (.long (100000000 : Int64)), (.long (1000000000 : Int64)), (.long (10000000000 : Int64)), (.long (0 : Int64)), (.long (0 : Int64)), (.long (0 : Int64)), (.long (0 : Int64)), (.long (0 : Int64)), (.long (0 : Int64)), (.long (0 : Int64)), (.long (0 : Int64))] (.long (0 : Int64)) := Arv.set Ar22 q22 S22 M22 H22 G22 rfl W23 10 rfl (Nat.le_of_ble_eq_true rfl)
  have N23 := Fr.snoc X23 N21 g_pa
  have z23 : n0 ≤ h23.size := Nat.le_trans z21 (Keep.of_wr W23).1
  obtain ⟨c24, Ar24, q24, S24, M24, H24, G24⟩ := V23
  have hin24 : ¬ ((11 : Int32) < 0 ∨ c24.slots.size ≤ ((11 : Int32)).toNatClampNeg) := inb_of S24 ⟨by decide, by decide⟩
  obtain ⟨T25, h25, X25, e25, W25, st25⟩ := stJ X23 hx hZ e23 Ar24 (j := (11 : Int32)) hin24 (g := (mkF m 79 #[.val (.long q1), .second, .val (.int p2), .val (.int p3), .val (.int p4), .unset, .unset, .unset, .unset, .unset, .unset, .unset, .unset] [(.long (100000000000 : Int64)), (.int (11 : Int32)), (.ref pa), (.ref pa)])) rfl rfl (hb hby at_79)
  have V25 : Arv Z h25 pa k1 .long (19 : Int32) [(.long (1 : Int64)), (.long (10 : Int64)), (.long (100 : Int64)), (.long (1000 : Int64)), (.long (10000 : Int64)), (.long (100000 : Int64)), (.long (1000000 : Int64)), (.long (10000000 : Int64)), (.long (100000000 : Int64)), (.long (1000000000 : Int64)), (.long (10000000000 : Int64)), (.long (100000000000 : Int64)), (.long (0 : Int64)), (.long (0 : Int64)), (.long (0 : Int64)), (.long (0 : Int64)), (.long (0 : Int64)), (.long (0 : Int64)), (.long (0 : Int64))] (.long (0 : Int64)) := Arv.set Ar24 q24 S24 M24 H24 G24 rfl W25 11 rfl (Nat.le_of_ble_eq_true rfl)
  have N25 := Fr.snoc X25 N23 g_pa
  have z25 : n0 ≤ h25.size := Nat.le_trans z23 (Keep.of_wr W25).1
  obtain ⟨c26, Ar26, q26, S26, M26, H26, G26⟩ := V25
  have hin26 : ¬ ((12 : Int32) < 0 ∨ c26.slots.size ≤ ((12 : Int32)).toNatClampNeg) := inb_of S26 ⟨by decide, by decide⟩
  obtain ⟨T27, h27, X27, e27, W27, st27⟩ := stJ X25 hx hZ e25 Ar26 (j := (12 : Int32)) hin26 (g := (mkF m 86 #[.val (.long q1), .second, .val (.int p2), .val (.int p3), .val (.int p4), .unset, .unset, .unset, .unset, .unset, .unset, .unset, .unset] [(.long (1000000000000 : Int64)), (.int (12 : Int32)), (.ref pa), (.ref pa)])) rfl rfl (hb hby at_86)
  have V27 : Arv Z h27 pa k1 .long (19 : Int32) [(.long (1 : Int64)), (.long (10 : Int64)), (.long (100 : Int64)), (.long (1000 : Int64)), (.long (10000 : Int64)), (.long (100000 : Int64)), (.long (1000000 : Int64)), (.long (10000000 : Int64)), (.long (100000000 : Int64)), (.long (1000000000 : Int64)), (.long (10000000000 : Int64)), (.long (100000000000 : Int64)), (.long (1000000000000 : Int64)), (.long (0 : Int64)), (.long (0 : Int64)), (.long (0 : Int64)), (.long (0 : Int64)), (.long (0 : Int64)), (.long (0 : Int64))] (.long (0 : Int64)) := Arv.set Ar26 q26 S26 M26 H26 G26 rfl W27 12 rfl (Nat.le_of_ble_eq_true rfl)
  have N27 := Fr.snoc X27 N25 g_pa
  have z27 : n0 ≤ h27.size := Nat.le_trans z25 (Keep.of_wr W27).1
  obtain ⟨c28, Ar28, q28, S28, M28, H28, G28⟩ := V27
  have hin28 : ¬ ((13 : Int32) < 0 ∨ c28.slots.size ≤ ((13 : Int32)).toNatClampNeg) := inb_of S28 ⟨by decide, by decide⟩
  obtain ⟨T29, h29, X29, e29, W29, st29⟩ := stJ X27 hx hZ e27 Ar28 (j := (13 : Int32)) hin28 (g := (mkF m 93 #[.val (.long q1), .second, .val (.int p2), .val (.int p3), .val (.int p4), .unset, .unset, .unset, .unset, .unset, .unset, .unset, .unset] [(.long (10000000000000 : Int64)), (.int (13 : Int32)), (.ref pa), (.ref pa)])) rfl rfl (hb hby at_93)
  have V29 : Arv Z h29 pa k1 .long (19 : Int32) [(.long (1 : Int64)), (.long (10 : Int64)), (.long (100 : Int64)), (.long (1000 : Int64)), (.long (10000 : Int64)), (.long (100000 : Int64)), (.long (1000000 : Int64)), (.long (10000000 : Int64)), (.long (100000000 : Int64)), (.long (1000000000 : Int64)), (.long (10000000000 : Int64)), (.long (100000000000 : Int64)), (.long (1000000000000 : Int64)), (.long (10000000000000 : Int64)), (.long (0 : Int64)), (.long (0 : Int64)), (.long (0 : Int64)), (.long (0 : Int64)), (.long (0 : Int64))] (.long (0 : Int64)) := Arv.set Ar28 q28 S28 M28 H28 G28 rfl W29 13 rfl (Nat.le_of_ble_eq_true rfl)
  have N29 := Fr.snoc X29 N27 g_pa
  have z29 : n0 ≤ h29.size := Nat.le_trans z27 (Keep.of_wr W29).1
  obtain ⟨c30, Ar30, q30, S30, M30, H30, G30⟩ := V29
  have hin30 : ¬ ((14 : Int32) < 0 ∨ c30.slots.size ≤ ((14 : Int32)).toNatClampNeg) := inb_of S30 ⟨by decide, by decide⟩
  obtain ⟨T31, h31, X31, e31, W31, st31⟩ := stJ X29 hx hZ e29 Ar30 (j := (14 : Int32)) hin30 (g := (mkF m 100 #[.val (.long q1), .second, .val (.int p2), .val (.int p3), .val (.int p4), .unset, .unset, .unset, .unset, .unset, .unset, .unset, .unset] [(.long (100000000000000 : Int64)), (.int (14 : Int32)), (.ref pa), (.ref pa)])) rfl rfl (hb hby at_100)
  have V31 : Arv Z h31 pa k1 .long (19 : Int32) [(.long (1 : Int64)), (.long (10 : Int64)), (.long (100 : Int64)), (.long (1000 : Int64)), (.long (10000 : Int64)), (.long (100000 : Int64)), (.long (1000000 : Int64)), (.long (10000000 : Int64)), (.long (100000000 : Int64)), (.long (1000000000 : Int64)), (.long (10000000000 : Int64)), (.long (100000000000 : Int64)), (.long (1000000000000 : Int64)), (.long (10000000000000 : Int64)), (.long (100000000000000 : Int64)), (.long (0 : Int64)), (.long (0 : Int64)), (.long (0 : Int64)), (.long (0 : Int64))] (.long (0 : Int64)) := Arv.set Ar30 q30 S30 M30 H30 G30 rfl W31 14 rfl (Nat.le_of_ble_eq_true rfl)
  have N31 := Fr.snoc X31 N29 g_pa
  have z31 : n0 ≤ h31.size := Nat.le_trans z29 (Keep.of_wr W31).1
  obtain ⟨c32, Ar32, q32, S32, M32, H32, G32⟩ := V31
  have hin32 : ¬ ((15 : Int32) < 0 ∨ c32.slots.size ≤ ((15 : Int32)).toNatClampNeg) := inb_of S32 ⟨by decide, by decide⟩
  obtain ⟨T33, h33, X33, e33, W33, st33⟩ := stJ X31 hx hZ e31 Ar32 (j := (15 : Int32)) hin32 (g := (mkF m 107 #[.val (.long q1), .second, .val (.int p2), .val (.int p3), .val (.int p4), .unset, .unset, .unset, .unset, .unset, .unset, .unset, .unset] [(.long (1000000000000000 : Int64)), (.int (15 : Int32)), (.ref pa), (.ref pa)])) rfl rfl (hb hby at_107)
  have V33 : Arv Z h33 pa k1 .long (19 : Int32) [(.long (1 : Int64)), (.long (10 : Int64)), (.long (100 : Int64)), (.long (1000 : Int64)), (.long (10000 : Int64)), (.long (100000 : Int64)), (.long (1000000 : Int64)), (.long (10000000 : Int64)), (.long (100000000 : Int64)), (.long (1000000000 : Int64)), (.long (10000000000 : Int64)), (.long (100000000000 : Int64)), (.long (1000000000000 : Int64)), (.long (10000000000000 : Int64)), (.long (100000000000000 : Int64)), (.long (1000000000000000 : Int64)), (.long (0 : Int64)), (.long (0 : Int64)), (.long (0 : Int64))] (.long (0 : Int64)) := Arv.set Ar32 q32 S32 M32 H32 G32 rfl W33 15 rfl (Nat.le_of_ble_eq_true rfl)
  have N33 := Fr.snoc X33 N31 g_pa
  have z33 : n0 ≤ h33.size := Nat.le_trans z31 (Keep.of_wr W33).1
  obtain ⟨c34, Ar34, q34, S34, M34, H34, G34⟩ := V33
  have hin34 : ¬ ((16 : Int32) < 0 ∨ c34.slots.size ≤ ((16 : Int32)).toNatClampNeg) := inb_of S34 ⟨by decide, by decide⟩
  obtain ⟨T35, h35, X35, e35, W35, st35⟩ := stJ X33 hx hZ e33 Ar34 (j := (16 : Int32)) hin34 (g := (mkF m 114 #[.val (.long q1), .second, .val (.int p2), .val (.int p3), .val (.int p4), .unset, .unset, .unset, .unset, .unset, .unset, .unset, .unset] [(.long (10000000000000000 : Int64)), (.int (16 : Int32)), (.ref pa), (.ref pa)])) rfl rfl (hb hby at_114)
  have V35 : Arv Z h35 pa k1 .long (19 : Int32) [(.long (1 : Int64)), (.long (10 : Int64)), (.long (100 : Int64)), (.long (1000 : Int64)), (.long (10000 : Int64)), (.long (100000 : Int64)), (.long (1000000 : Int64)), (.long (10000000 : Int64)), (.long (100000000 : Int64)), (.long (1000000000 : Int64)), (.long (10000000000 : Int64)), (.long (100000000000 : Int64)), (.long (1000000000000 : Int64)), (.long (10000000000000 : Int64)), (.long (100000000000000 : Int64)), (.long (1000000000000000 : Int64)), (.long (10000000000000000 : Int64)), (.long (0 : Int64)), (.long (0 : Int64))] (.long (0 : Int64)) := Arv.set Ar34 q34 S34 M34 H34 G34 rfl W35 16 rfl (Nat.le_of_ble_eq_true rfl)
  have N35 := Fr.snoc X35 N33 g_pa
  have z35 : n0 ≤ h35.size := Nat.le_trans z33 (Keep.of_wr W35).1
  obtain ⟨c36, Ar36, q36, S36, M36, H36, G36⟩ := V35
  have hin36 : ¬ ((17 : Int32) < 0 ∨ c36.slots.size ≤ ((17 : Int32)).toNatClampNeg) := inb_of S36 ⟨by decide, by decide⟩
  obtain ⟨T37, h37, X37, e37, W37, st37⟩ := stJ X35 hx hZ e35 Ar36 (j := (17 : Int32)) hin36 (g := (mkF m 121 #[.val (.long q1), .second, .val (.int p2), .val (.int p3), .val (.int p4), .unset, .unset, .unset, .unset, .unset, .unset, .unset, .unset] [(.long (100000000000000000 : Int64)), (.int (17 : Int32)), (.ref pa), (.ref pa)])) rfl rfl (hb hby at_121)
  have V37 : Arv Z h37 pa k1 .long (19 : Int32) [(.long (1 : Int64)), (.long (10 : Int64)), (.long (100 : Int64)), (.long (1000 : Int64)), (.long (10000 : Int64)), (.long (100000 : Int64)), (.long (1000000 : Int64)), (.long (10000000 : Int64)), (.long (100000000 : Int64)), (.long (1000000000 : Int64)), (.long (10000000000 : Int64)), (.long (100000000000 : Int64)), (.long (1000000000000 : Int64)), (.long (10000000000000 : Int64)), (.long (100000000000000 : Int64)), (.long (1000000000000000 : Int64)), (.long (10000000000000000 : Int64)), (.long (100000000000000000 : Int64)), (.long (0 : Int64))] (.long (0 : Int64)) := Arv.set Ar36 q36 S36 M36 H36 G36 rfl W37 17 rfl (Nat.le_of_ble_eq_true rfl)
  have N37 := Fr.snoc X37 N35 g_pa
  have z37 : n0 ≤ h37.size := Nat.le_trans z35 (Keep.of_wr W37).1
  obtain ⟨c38, Ar38, q38, S38, M38, H38, G38⟩ := V37
  have hin38 : ¬ ((18 : Int32) < 0 ∨ c38.slots.size ≤ ((18 : Int32)).toNatClampNeg) := inb_of S38 ⟨by decide, by decide⟩
  obtain ⟨T39, h39, X39, e39, W39, st39⟩ := stJ X37 hx hZ e37 Ar38 (j := (18 : Int32)) hin38 (g := (mkF m 128 #[.val (.long q1), .second, .val (.int p2), .val (.int p3), .val (.int p4), .unset, .unset, .unset, .unset, .unset, .unset, .unset, .unset] [(.long (1000000000000000000 : Int64)), (.int (18 : Int32)), (.ref pa), (.ref pa)])) rfl rfl (hb hby at_128)
  have V39 : Arv Z h39 pa k1 .long (19 : Int32) [(.long (1 : Int64)), (.long (10 : Int64)), (.long (100 : Int64)), (.long (1000 : Int64)), (.long (10000 : Int64)), (.long (100000 : Int64)), (.long (1000000 : Int64)), (.long (10000000 : Int64)), (.long (100000000 : Int64)), (.long (1000000000 : Int64)), (.long (10000000000 : Int64)), (.long (100000000000 : Int64)), (.long (1000000000000 : Int64)), (.long (10000000000000 : Int64)), (.long (100000000000000 : Int64)), (.long (1000000000000000 : Int64)), (.long (10000000000000000 : Int64)), (.long (100000000000000000 : Int64)), (.long (1000000000000000000 : Int64))] (.long (0 : Int64)) := Arv.set Ar38 q38 S38 M38 H38 G38 rfl W39 18 rfl (Nat.le_of_ble_eq_true rfl)
  have N39 := Fr.snoc X39 N37 g_pa
  have z39 : n0 ≤ h39.size := Nat.le_trans z37 (Keep.of_wr W39).1
  obtain ⟨c40, Ar40, q40, S40, M40, H40, G40⟩ := (id V39)
  have hin40 : ¬ ((18 : Int32) < 0 ∨ c40.slots.size ≤ ((18 : Int32)).toNatClampNeg) := inb_of S40 ⟨by decide, by decide⟩
  have hat40 : c40.slots[((18 : Int32)).toNatClampNeg]? = some (.long (1000000000000000000 : Int64)) := H40.at hin40 rfl
  obtain ⟨n, hn⟩ : ∃ z : Int64, z = ((q1 &&& (9223372036854775807 : Int64)) % (1000000000000000000 : Int64)) := ⟨_, rfl⟩
  have hnT : n.toInt = ((n.toInt.toNat : Nat) : Int) := by rw [hn]; exact own_nT q1
  obtain ⟨T41, h41, k41, X41, e41, E41, A41, st41⟩ := newP X39 hx hZ (hw _ (List.mem_of_getElem? (i := 20) rfl)) e39 (g := (mkF m 146 #[.val (.long q1), .second, .val (.int p2), .val (.int p3), .val (.int p4), .val (.ref pa), .val (.long n), .second, .unset, .unset, .unset, .unset, .unset] [(.int (20 : Int32))])) rfl (hb hby at_146) rfl (by decide) (cap := 20) (by decide) (by decide) (Nat.le_of_ble_eq_true rfl) (Nat.le_of_ble_eq_true rfl)
  obtain ⟨bb, g41⟩ : ∃ z, z = h39.size := ⟨_, rfl⟩
  rw [← g41] at A41 st41
  have g_bb : n0 ≤ bb := Nat.le_trans z39 (Nat.le_of_eq g41.symm)
  have ne_pa_bb : pa ≠ bb := Nat.ne_of_lt (Nat.lt_of_lt_of_le V39.lt (Nat.le_of_eq g41.symm))
  have z41 : n0 ≤ h41.size := Nat.le_trans z39 E41.1
  have f42_V_pa := V39.ext E41
  have V_bb : Arv Z h41 bb k41 .byte (20 : Int32) [(.int (0 : Int32)), (.int (0 : Int32)), (.int (0 : Int32)), (.int (0 : Int32)), (.int (0 : Int32)), (.int (0 : Int32)), (.int (0 : Int32)), (.int (0 : Int32)), (.int (0 : Int32)), (.int (0 : Int32)), (.int (0 : Int32)), (.int (0 : Int32)), (.int (0 : Int32)), (.int (0 : Int32)), (.int (0 : Int32)), (.int (0 : Int32)), (.int (0 : Int32)), (.int (0 : Int32)), (.int (0 : Int32)), (.int (0 : Int32))] (.int (0 : Int32)) := (Arv.new A41 (by decide)).pad (pad_rep [] (.int (0 : Int32)) 20)
  obtain ⟨c43, Ar43, q43, S43, M43, H43, G43⟩ := V_bb
  have hin43 : ¬ ((0 : Int32) < 0 ∨ c43.slots.size ≤ ((0 : Int32)).toNatClampNeg) := inb_of S43 ⟨by decide, by decide⟩
  obtain ⟨T44, h44, X44, e44, W44, st44⟩ := stB X41 hx hZ e41 Ar43 (j := (0 : Int32)) hin43 (g := (mkF m 156 #[.val (.long q1), .second, .val (.int p2), .val (.int p3), .val (.int p4), .val (.ref pa), .val (.long n), .second, .val (.ref bb), .unset, .unset, .unset, .unset] [(.int (p4.toInt8.toInt32)), (.int (0 : Int32)), (.ref bb)])) rfl rfl (hb hby at_156)
  have f45_V_pa := f42_V_pa.other W44 ne_pa_bb
  have V44 : Arv Z h44 bb k41 .byte (20 : Int32) [(.int (nar .byte (p4.toInt8.toInt32))), (.int (0 : Int32)), (.int (0 : Int32)), (.int (0 : Int32)), (.int (0 : Int32)), (.int (0 : Int32)), (.int (0 : Int32)), (.int (0 : Int32)), (.int (0 : Int32)), (.int (0 : Int32)), (.int (0 : Int32)), (.int (0 : Int32)), (.int (0 : Int32)), (.int (0 : Int32)), (.int (0 : Int32)), (.int (0 : Int32)), (.int (0 : Int32)), (.int (0 : Int32)), (.int (0 : Int32)), (.int (0 : Int32))] (.int (0 : Int32)) := Arv.set Ar43 q43 S43 M43 H43 G43 (fits_nar_byte _) W44 0 rfl (Nat.le_of_ble_eq_true rfl)
  have N44 := Fr.snoc X44 N39 g_bb
  have z44 : n0 ≤ h44.size := Nat.le_trans z41 (Keep.of_wr W44).1
  obtain ⟨c46, Ar46, q46, S46, M46, H46, G46⟩ := V44
  have hin46 : ¬ ((19 : Int32) < 0 ∨ c46.slots.size ≤ ((19 : Int32)).toNatClampNeg) := inb_of S46 ⟨by decide, by decide⟩
  obtain ⟨T47, h47, X47, e47, W47, st47⟩ := stB X44 hx hZ e44 Ar46 (j := (19 : Int32)) hin46 (g := (mkF m 167 #[.val (.long q1), .second, .val (.int p2), .val (.int p3), .val (.int p4), .val (.ref pa), .val (.long n), .second, .val (.ref bb), .unset, .unset, .unset, .unset] [(.int ((p4 >>> ((8 : Int32) &&& 31)).toInt8.toInt32)), (.int (19 : Int32)), (.ref bb)])) rfl rfl (hb hby at_167)
  have f48_V_pa := f45_V_pa.other W47 ne_pa_bb
  have V47 : Arv Z h47 bb k41 .byte (20 : Int32) [(.int (nar .byte (p4.toInt8.toInt32))), (.int (0 : Int32)), (.int (0 : Int32)), (.int (0 : Int32)), (.int (0 : Int32)), (.int (0 : Int32)), (.int (0 : Int32)), (.int (0 : Int32)), (.int (0 : Int32)), (.int (0 : Int32)), (.int (0 : Int32)), (.int (0 : Int32)), (.int (0 : Int32)), (.int (0 : Int32)), (.int (0 : Int32)), (.int (0 : Int32)), (.int (0 : Int32)), (.int (0 : Int32)), (.int (0 : Int32)), (.int (nar .byte ((p4 >>> ((8 : Int32) &&& 31)).toInt8.toInt32)))] (.int (0 : Int32)) := Arv.set Ar46 q46 S46 M46 H46 G46 (fits_nar_byte _) W47 19 rfl (Nat.le_of_ble_eq_true rfl)
  have N47 := Fr.snoc X47 N44 g_bb
  have z47 : n0 ≤ h47.size := Nat.le_trans z44 (Keep.of_wr W47).1
  have VPm : Arv Z h47 pa k1 .long (19 : Int32) (own_pw.map Value.long) (.long (0 : Int64)) := f48_V_pa
  obtain ⟨_, _, ⟨T49, L49, k49, n49⟩, -, X49, ⟨Lc49, hQ49, l49, y49, z49⟩, st49⟩ := Jvm.LawKit.callS X47 hx (y := (⟨"com/example/fjordgiro/fjordgiro/transmission/DigitsValuePinLaw", "digit", "([JJI)B"⟩ : MethodName)) hown (mvT hZ (hw _ (List.mem_of_getElem? (i := 21) rfl))) (mvT hZ (hw _ (List.mem_of_getElem? (i := 22) rfl))) (mvT hZ (hw _ (List.mem_of_getElem? (i := 23) rfl))) (mvT hZ (hw _ (List.mem_of_getElem? (i := 24) rfl))) (by decide) (backOf (W := 2) (rm1 l Z a0 hw [] pa n (0 : Int32) _ (own_pw.map Value.long) (own_pw.getD 17 0) h47 n0 z47 VPm own_i0 own_t0 (own_pwN (show 17 < 19 by decide))) hZ (hw _ (List.mem_of_getElem? (i := 24) rfl)) (hw _ (List.mem_of_getElem? (i := 23) rfl)) (by decide) (by decide)) (g := (mkF m 176 #[.val (.long q1), .second, .val (.int p2), .val (.int p3), .val (.int p4), .val (.ref pa), .val (.long n), .second, .val (.ref bb), .unset, .unset, .unset, .unset] [(.int (0 : Int32)), (.long n), (.ref pa), (.int (1 : Int32)), (.ref bb)])) rfl (by rw [hml]; rfl) (argsL := [(.ref pa), (.long n), (.int (0 : Int32))]) (rest := [(.int (1 : Int32)), (.ref bb)]) (lenOf pd___JJI_B rfl) rfl (by show 2 * 0 + _ ≤ _; exact Nat.le_of_eq rfl) (hb hby at_176) (fun _ _ => ⟨rfl, e47, (Nat.le_of_ble_eq_true rfl), (Nat.le_of_ble_eq_true rfl)⟩)
  dsimp only [Pt.U, Pt.locs, Pt.cells, Pt.slots] at X49 l49 y49 z49 st49 hQ49
  subst y49 z49
  obtain ⟨rfl, N49q, e49⟩ := hQ49
  have N49 : Fr n0 L49 := by rw [l49]; exact Fr.app N47 N49q
  obtain ⟨c50, Ar50, q50, S50, M50, H50, G50⟩ := V47
  have hin50 : ¬ ((1 : Int32) < 0 ∨ c50.slots.size ≤ ((1 : Int32)).toNatClampNeg) := inb_of S50 ⟨by decide, by decide⟩
  obtain ⟨T51, h51, X51, e51, W51, st51⟩ := stB X49 hx hZ e49 Ar50 (j := (1 : Int32)) hin50 (g := (mkF m 179 #[.val (.long q1), .second, .val (.int p2), .val (.int p3), .val (.int p4), .val (.ref pa), .val (.long n), .second, .val (.ref bb), .unset, .unset, .unset, .unset] [(.int (own_dg n (own_pw.getD 17 0))), (.int (1 : Int32)), (.ref bb)])) rfl rfl (hb hby at_179)
  have f52_V_pa := VPm.other W51 ne_pa_bb
  have V51 : Arv Z h51 bb k41 .byte (20 : Int32) [(.int (nar .byte (p4.toInt8.toInt32))), (.int (nar .byte (own_dg n (own_pw.getD 17 0)))), (.int (0 : Int32)), (.int (0 : Int32)), (.int (0 : Int32)), (.int (0 : Int32)), (.int (0 : Int32)), (.int (0 : Int32)), (.int (0 : Int32)), (.int (0 : Int32)), (.int (0 : Int32)), (.int (0 : Int32)), (.int (0 : Int32)), (.int (0 : Int32)), (.int (0 : Int32)), (.int (0 : Int32)), (.int (0 : Int32)), (.int (0 : Int32)), (.int (0 : Int32)), (.int (nar .byte ((p4 >>> ((8 : Int32) &&& 31)).toInt8.toInt32)))] (.int (0 : Int32)) := Arv.set Ar50 q50 S50 M50 H50 G50 (fits_nar_byte _) W51 1 rfl (Nat.le_of_ble_eq_true rfl)
  have N51 := Fr.snoc X51 N49 g_bb
  have z51 : n0 ≤ h51.size := Nat.le_trans z47 (Keep.of_wr W51).1
  obtain ⟨_, _, ⟨T53, L53, k53, n53⟩, -, X53, ⟨Lc53, hQ53, l53, y53, z53⟩, st53⟩ := Jvm.LawKit.callS X51 hx (y := (⟨"com/example/fjordgiro/fjordgiro/transmission/DigitsValuePinLaw", "digit", "([JJI)B"⟩ : MethodName)) hown (mvT hZ (hw _ (List.mem_of_getElem? (i := 21) rfl))) (mvT hZ (hw _ (List.mem_of_getElem? (i := 22) rfl))) (mvT hZ (hw _ (List.mem_of_getElem? (i := 23) rfl))) (mvT hZ (hw _ (List.mem_of_getElem? (i := 24) rfl))) (by decide) (backOf (W := 2) (rm1 l Z a0 hw [] pa n (1 : Int32) _ (own_pw.map Value.long) (own_pw.getD 16 0) h51 n0 z51 f52_V_pa own_i1 own_t1 (own_pwN (show 16 < 19 by decide))) hZ (hw _ (List.mem_of_getElem? (i := 24) rfl)) (hw _ (List.mem_of_getElem? (i := 23) rfl)) (by decide) (by decide)) (g := (mkF m 188 #[.val (.long q1), .second, .val (.int p2), .val (.int p3), .val (.int p4), .val (.ref pa), .val (.long n), .second, .val (.ref bb), .unset, .unset, .unset, .unset] [(.int (1 : Int32)), (.long n), (.ref pa), (.int (2 : Int32)), (.ref bb)])) rfl (by rw [hml]; rfl) (argsL := [(.ref pa), (.long n), (.int (1 : Int32))]) (rest := [(.int (2 : Int32)), (.ref bb)]) (lenOf pd___JJI_B rfl) rfl (by show 2 * 0 + _ ≤ _; exact Nat.le_of_eq rfl) (hb hby at_188) (fun _ _ => ⟨rfl, e51, (Nat.le_of_ble_eq_true rfl), (Nat.le_of_ble_eq_true rfl)⟩)
  dsimp only [Pt.U, Pt.locs, Pt.cells, Pt.slots] at X53 l53 y53 z53 st53 hQ53
  subst y53 z53
  obtain ⟨rfl, N53q, e53⟩ := hQ53
  have N53 : Fr n0 L53 := by rw [l53]; exact Fr.app N51 N53q
  obtain ⟨c54, Ar54, q54, S54, M54, H54, G54⟩ := V51
  have hin54 : ¬ ((2 : Int32) < 0 ∨ c54.slots.size ≤ ((2 : Int32)).toNatClampNeg) := inb_of S54 ⟨by decide, by decide⟩
  obtain ⟨T55, h55, X55, e55, W55, st55⟩ := stB X53 hx hZ e53 Ar54 (j := (2 : Int32)) hin54 (g := (mkF m 191 #[.val (.long q1), .second, .val (.int p2), .val (.int p3), .val (.int p4), .val (.ref pa), .val (.long n), .second, .val (.ref bb), .unset, .unset, .unset, .unset] [(.int (own_dg n (own_pw.getD 16 0))), (.int (2 : Int32)), (.ref bb)])) rfl rfl (hb hby at_191)
  have f56_V_pa := f52_V_pa.other W55 ne_pa_bb
  have V55 : Arv Z h55 bb k41 .byte (20 : Int32) [(.int (nar .byte (p4.toInt8.toInt32))), (.int (nar .byte (own_dg n (own_pw.getD 17 0)))), (.int (nar .byte (own_dg n (own_pw.getD 16 0)))), (.int (0 : Int32)), (.int (0 : Int32)), (.int (0 : Int32)), (.int (0 : Int32)), (.int (0 : Int32)), (.int (0 : Int32)), (.int (0 : Int32)), (.int (0 : Int32)), (.int (0 : Int32)), (.int (0 : Int32)), (.int (0 : Int32)), (.int (0 : Int32)), (.int (0 : Int32)), (.int (0 : Int32)), (.int (0 : Int32)), (.int (0 : Int32)), (.int (nar .byte ((p4 >>> ((8 : Int32) &&& 31)).toInt8.toInt32)))] (.int (0 : Int32)) := Arv.set Ar54 q54 S54 M54 H54 G54 (fits_nar_byte _) W55 2 rfl (Nat.le_of_ble_eq_true rfl)
  have N55 := Fr.snoc X55 N53 g_bb
  have z55 : n0 ≤ h55.size := Nat.le_trans z51 (Keep.of_wr W55).1
  obtain ⟨_, _, ⟨T57, L57, k57, n57⟩, -, X57, ⟨Lc57, hQ57, l57, y57, z57⟩, st57⟩ := Jvm.LawKit.callS X55 hx (y := (⟨"com/example/fjordgiro/fjordgiro/transmission/DigitsValuePinLaw", "digit", "([JJI)B"⟩ : MethodName)) hown (mvT hZ (hw _ (List.mem_of_getElem? (i := 21) rfl))) (mvT hZ (hw _ (List.mem_of_getElem? (i := 22) rfl))) (mvT hZ (hw _ (List.mem_of_getElem? (i := 23) rfl))) (mvT hZ (hw _ (List.mem_of_getElem? (i := 24) rfl))) (by decide) (backOf (W := 2) (rm1 l Z a0 hw [] pa n (2 : Int32) _ (own_pw.map Value.long) (own_pw.getD 15 0) h55 n0 z55 f56_V_pa own_i2 own_t2 (own_pwN (show 15 < 19 by decide))) hZ (hw _ (List.mem_of_getElem? (i := 24) rfl)) (hw _ (List.mem_of_getElem? (i := 23) rfl)) (by decide) (by decide)) (g := (mkF m 200 #[.val (.long q1), .second, .val (.int p2), .val (.int p3), .val (.int p4), .val (.ref pa), .val (.long n), .second, .val (.ref bb), .unset, .unset, .unset, .unset] [(.int (2 : Int32)), (.long n), (.ref pa), (.int (3 : Int32)), (.ref bb)])) rfl (by rw [hml]; rfl) (argsL := [(.ref pa), (.long n), (.int (2 : Int32))]) (rest := [(.int (3 : Int32)), (.ref bb)]) (lenOf pd___JJI_B rfl) rfl (by show 2 * 0 + _ ≤ _; exact Nat.le_of_eq rfl) (hb hby at_200) (fun _ _ => ⟨rfl, e55, (Nat.le_of_ble_eq_true rfl), (Nat.le_of_ble_eq_true rfl)⟩)
  dsimp only [Pt.U, Pt.locs, Pt.cells, Pt.slots] at X57 l57 y57 z57 st57 hQ57
  subst y57 z57
  obtain ⟨rfl, N57q, e57⟩ := hQ57
  have N57 : Fr n0 L57 := by rw [l57]; exact Fr.app N55 N57q
  obtain ⟨c58, Ar58, q58, S58, M58, H58, G58⟩ := V55
  have hin58 : ¬ ((3 : Int32) < 0 ∨ c58.slots.size ≤ ((3 : Int32)).toNatClampNeg) := inb_of S58 ⟨by decide, by decide⟩
  obtain ⟨T59, h59, X59, e59, W59, st59⟩ := stB X57 hx hZ e57 Ar58 (j := (3 : Int32)) hin58 (g := (mkF m 203 #[.val (.long q1), .second, .val (.int p2), .val (.int p3), .val (.int p4), .val (.ref pa), .val (.long n), .second, .val (.ref bb), .unset, .unset, .unset, .unset] [(.int (own_dg n (own_pw.getD 15 0))), (.int (3 : Int32)), (.ref bb)])) rfl rfl (hb hby at_203)
  have f60_V_pa := f56_V_pa.other W59 ne_pa_bb
  have V59 : Arv Z h59 bb k41 .byte (20 : Int32) [(.int (nar .byte (p4.toInt8.toInt32))), (.int (nar .byte (own_dg n (own_pw.getD 17 0)))), (.int (nar .byte (own_dg n (own_pw.getD 16 0)))), (.int (nar .byte (own_dg n (own_pw.getD 15 0)))), (.int (0 : Int32)), (.int (0 : Int32)), (.int (0 : Int32)), (.int (0 : Int32)), (.int (0 : Int32)), (.int (0 : Int32)), (.int (0 : Int32)), (.int (0 : Int32)), (.int (0 : Int32)), (.int (0 : Int32)), (.int (0 : Int32)), (.int (0 : Int32)), (.int (0 : Int32)), (.int (0 : Int32)), (.int (0 : Int32)), (.int (nar .byte ((p4 >>> ((8 : Int32) &&& 31)).toInt8.toInt32)))] (.int (0 : Int32)) := Arv.set Ar58 q58 S58 M58 H58 G58 (fits_nar_byte _) W59 3 rfl (Nat.le_of_ble_eq_true rfl)
  have N59 := Fr.snoc X59 N57 g_bb
  have z59 : n0 ≤ h59.size := Nat.le_trans z55 (Keep.of_wr W59).1
  obtain ⟨_, _, ⟨T61, L61, k61, n61⟩, -, X61, ⟨Lc61, hQ61, l61, y61, z61⟩, st61⟩ := Jvm.LawKit.callS X59 hx (y := (⟨"com/example/fjordgiro/fjordgiro/transmission/DigitsValuePinLaw", "digit", "([JJI)B"⟩ : MethodName)) hown (mvT hZ (hw _ (List.mem_of_getElem? (i := 21) rfl))) (mvT hZ (hw _ (List.mem_of_getElem? (i := 22) rfl))) (mvT hZ (hw _ (List.mem_of_getElem? (i := 23) rfl))) (mvT hZ (hw _ (List.mem_of_getElem? (i := 24) rfl))) (by decide) (backOf (W := 2) (rm1 l Z a0 hw [] pa n (3 : Int32) _ (own_pw.map Value.long) (own_pw.getD 14 0) h59 n0 z59 f60_V_pa own_i3 own_t3 (own_pwN (show 14 < 19 by decide))) hZ (hw _ (List.mem_of_getElem? (i := 24) rfl)) (hw _ (List.mem_of_getElem? (i := 23) rfl)) (by decide) (by decide)) (g := (mkF m 212 #[.val (.long q1), .second, .val (.int p2), .val (.int p3), .val (.int p4), .val (.ref pa), .val (.long n), .second, .val (.ref bb), .unset, .unset, .unset, .unset] [(.int (3 : Int32)), (.long n), (.ref pa), (.int (4 : Int32)), (.ref bb)])) rfl (by rw [hml]; rfl) (argsL := [(.ref pa), (.long n), (.int (3 : Int32))]) (rest := [(.int (4 : Int32)), (.ref bb)]) (lenOf pd___JJI_B rfl) rfl (by show 2 * 0 + _ ≤ _; exact Nat.le_of_eq rfl) (hb hby at_212) (fun _ _ => ⟨rfl, e59, (Nat.le_of_ble_eq_true rfl), (Nat.le_of_ble_eq_true rfl)⟩)
  dsimp only [Pt.U, Pt.locs, Pt.cells, Pt.slots] at X61 l61 y61 z61 st61 hQ61
  subst y61 z61
  obtain ⟨rfl, N61q, e61⟩ := hQ61
  have N61 : Fr n0 L61 := by rw [l61]; exact Fr.app N59 N61q
  obtain ⟨c62, Ar62, q62, S62, M62, H62, G62⟩ := V59
  have hin62 : ¬ ((4 : Int32) < 0 ∨ c62.slots.size ≤ ((4 : Int32)).toNatClampNeg) := inb_of S62 ⟨by decide, by decide⟩
  obtain ⟨T63, h63, X63, e63, W63, st63⟩ := stB X61 hx hZ e61 Ar62 (j := (4 : Int32)) hin62 (g := (mkF m 215 #[.val (.long q1), .second, .val (.int p2), .val (.int p3), .val (.int p4), .val (.ref pa), .val (.long n), .second, .val (.ref bb), .unset, .unset, .unset, .unset] [(.int (own_dg n (own_pw.getD 14 0))), (.int (4 : Int32)), (.ref bb)])) rfl rfl (hb hby at_215)
  have f64_V_pa := f60_V_pa.other W63 ne_pa_bb
  have V63 : Arv Z h63 bb k41 .byte (20 : Int32) [(.int (nar .byte (p4.toInt8.toInt32))), (.int (nar .byte (own_dg n (own_pw.getD 17 0)))), (.int (nar .byte (own_dg n (own_pw.getD 16 0)))), (.int (nar .byte (own_dg n (own_pw.getD 15 0)))), (.int (nar .byte (own_dg n (own_pw.getD 14 0)))), (.int (0 : Int32)), (.int (0 : Int32)), (.int (0 : Int32)), (.int (0 : Int32)), (.int (0 : Int32)), (.int (0 : Int32)), (.int (0 : Int32)), (.int (0 : Int32)), (.int (0 : Int32)), (.int (0 : Int32)), (.int (0 : Int32)), (.int (0 : Int32)), (.int (0 : Int32)), (.int (0 : Int32)), (.int (nar .byte ((p4 >>> ((8 : Int32) &&& 31)).toInt8.toInt32)))] (.int (0 : Int32)) := Arv.set Ar62 q62 S62 M62 H62 G62 (fits_nar_byte _) W63 4 rfl (Nat.le_of_ble_eq_true rfl)
  have N63 := Fr.snoc X63 N61 g_bb
  have z63 : n0 ≤ h63.size := Nat.le_trans z59 (Keep.of_wr W63).1
  obtain ⟨_, _, ⟨T65, L65, k65, n65⟩, -, X65, ⟨Lc65, hQ65, l65, y65, z65⟩, st65⟩ := Jvm.LawKit.callS X63 hx (y := (⟨"com/example/fjordgiro/fjordgiro/transmission/DigitsValuePinLaw", "digit", "([JJI)B"⟩ : MethodName)) hown (mvT hZ (hw _ (List.mem_of_getElem? (i := 21) rfl))) (mvT hZ (hw _ (List.mem_of_getElem? (i := 22) rfl))) (mvT hZ (hw _ (List.mem_of_getElem? (i := 23) rfl))) (mvT hZ (hw _ (List.mem_of_getElem? (i := 24) rfl))) (by decide) (backOf (W := 2) (rm1 l Z a0 hw [] pa n (4 : Int32) _ (own_pw.map Value.long) (own_pw.getD 13 0) h63 n0 z63 f64_V_pa own_i4 own_t4 (own_pwN (show 13 < 19 by decide))) hZ (hw _ (List.mem_of_getElem? (i := 24) rfl)) (hw _ (List.mem_of_getElem? (i := 23) rfl)) (by decide) (by decide)) (g := (mkF m 224 #[.val (.long q1), .second, .val (.int p2), .val (.int p3), .val (.int p4), .val (.ref pa), .val (.long n), .second, .val (.ref bb), .unset, .unset, .unset, .unset] [(.int (4 : Int32)), (.long n), (.ref pa), (.int (5 : Int32)), (.ref bb)])) rfl (by rw [hml]; rfl) (argsL := [(.ref pa), (.long n), (.int (4 : Int32))]) (rest := [(.int (5 : Int32)), (.ref bb)]) (lenOf pd___JJI_B rfl) rfl (by show 2 * 0 + _ ≤ _; exact Nat.le_of_eq rfl) (hb hby at_224) (fun _ _ => ⟨rfl, e63, (Nat.le_of_ble_eq_true rfl), (Nat.le_of_ble_eq_true rfl)⟩)
  dsimp only [Pt.U, Pt.locs, Pt.cells, Pt.slots] at X65 l65 y65 z65 st65 hQ65
  subst y65 z65
  obtain ⟨rfl, N65q, e65⟩ := hQ65
  have N65 : Fr n0 L65 := by rw [l65]; exact Fr.app N63 N65q
  obtain ⟨c66, Ar66, q66, S66, M66, H66, G66⟩ := V63
  have hin66 : ¬ ((5 : Int32) < 0 ∨ c66.slots.size ≤ ((5 : Int32)).toNatClampNeg) := inb_of S66 ⟨by decide, by decide⟩
  obtain ⟨T67, h67, X67, e67, W67, st67⟩ := stB X65 hx hZ e65 Ar66 (j := (5 : Int32)) hin66 (g := (mkF m 227 #[.val (.long q1), .second, .val (.int p2), .val (.int p3), .val (.int p4), .val (.ref pa), .val (.long n), .second, .val (.ref bb), .unset, .unset, .unset, .unset] [(.int (own_dg n (own_pw.getD 13 0))), (.int (5 : Int32)), (.ref bb)])) rfl rfl (hb hby at_227)
  have f68_V_pa := f64_V_pa.other W67 ne_pa_bb
  have V67 : Arv Z h67 bb k41 .byte (20 : Int32) [(.int (nar .byte (p4.toInt8.toInt32))), (.int (nar .byte (own_dg n (own_pw.getD 17 0)))), (.int (nar .byte (own_dg n (own_pw.getD 16 0)))), (.int (nar .byte (own_dg n (own_pw.getD 15 0)))), (.int (nar .byte (own_dg n (own_pw.getD 14 0)))), (.int (nar .byte (own_dg n (own_pw.getD 13 0)))), (.int (0 : Int32)), (.int (0 : Int32)), (.int (0 : Int32)), (.int (0 : Int32)), (.int (0 : Int32)), (.int (0 : Int32)), (.int (0 : Int32)), (.int (0 : Int32)), (.int (0 : Int32)), (.int (0 : Int32)), (.int (0 : Int32)), (.int (0 : Int32)), (.int (0 : Int32)), (.int (nar .byte ((p4 >>> ((8 : Int32) &&& 31)).toInt8.toInt32)))] (.int (0 : Int32)) := Arv.set Ar66 q66 S66 M66 H66 G66 (fits_nar_byte _) W67 5 rfl (Nat.le_of_ble_eq_true rfl)
  have N67 := Fr.snoc X67 N65 g_bb
  have z67 : n0 ≤ h67.size := Nat.le_trans z63 (Keep.of_wr W67).1
  obtain ⟨_, _, ⟨T69, L69, k69, n69⟩, -, X69, ⟨Lc69, hQ69, l69, y69, z69⟩, st69⟩ := Jvm.LawKit.callS X67 hx (y := (⟨"com/example/fjordgiro/fjordgiro/transmission/DigitsValuePinLaw", "digit", "([JJI)B"⟩ : MethodName)) hown (mvT hZ (hw _ (List.mem_of_getElem? (i := 21) rfl))) (mvT hZ (hw _ (List.mem_of_getElem? (i := 22) rfl))) (mvT hZ (hw _ (List.mem_of_getElem? (i := 23) rfl))) (mvT hZ (hw _ (List.mem_of_getElem? (i := 24) rfl))) (by decide) (backOf (W := 2) (rm1 l Z a0 hw [] pa n (5 : Int32) _ (own_pw.map Value.long) (own_pw.getD 12 0) h67 n0 z67 f68_V_pa own_i5 own_t5 (own_pwN (show 12 < 19 by decide))) hZ (hw _ (List.mem_of_getElem? (i := 24) rfl)) (hw _ (List.mem_of_getElem? (i := 23) rfl)) (by decide) (by decide)) (g := (mkF m 237 #[.val (.long q1), .second, .val (.int p2), .val (.int p3), .val (.int p4), .val (.ref pa), .val (.long n), .second, .val (.ref bb), .unset, .unset, .unset, .unset] [(.int (5 : Int32)), (.long n), (.ref pa), (.int (6 : Int32)), (.ref bb)])) rfl (by rw [hml]; rfl) (argsL := [(.ref pa), (.long n), (.int (5 : Int32))]) (rest := [(.int (6 : Int32)), (.ref bb)]) (lenOf pd___JJI_B rfl) rfl (by show 2 * 0 + _ ≤ _; exact Nat.le_of_eq rfl) (hb hby at_237) (fun _ _ => ⟨rfl, e67, (Nat.le_of_ble_eq_true rfl), (Nat.le_of_ble_eq_true rfl)⟩)
  dsimp only [Pt.U, Pt.locs, Pt.cells, Pt.slots] at X69 l69 y69 z69 st69 hQ69
  subst y69 z69
  obtain ⟨rfl, N69q, e69⟩ := hQ69
  have N69 : Fr n0 L69 := by rw [l69]; exact Fr.app N67 N69q
  obtain ⟨c70, Ar70, q70, S70, M70, H70, G70⟩ := V67
  have hin70 : ¬ ((6 : Int32) < 0 ∨ c70.slots.size ≤ ((6 : Int32)).toNatClampNeg) := inb_of S70 ⟨by decide, by decide⟩
  obtain ⟨T71, h71, X71, e71, W71, st71⟩ := stB X69 hx hZ e69 Ar70 (j := (6 : Int32)) hin70 (g := (mkF m 240 #[.val (.long q1), .second, .val (.int p2), .val (.int p3), .val (.int p4), .val (.ref pa), .val (.long n), .second, .val (.ref bb), .unset, .unset, .unset, .unset] [(.int (own_dg n (own_pw.getD 12 0))), (.int (6 : Int32)), (.ref bb)])) rfl rfl (hb hby at_240)
  have f72_V_pa := f68_V_pa.other W71 ne_pa_bb
  have V71 : Arv Z h71 bb k41 .byte (20 : Int32) [(.int (nar .byte (p4.toInt8.toInt32))), (.int (nar .byte (own_dg n (own_pw.getD 17 0)))), (.int (nar .byte (own_dg n (own_pw.getD 16 0)))), (.int (nar .byte (own_dg n (own_pw.getD 15 0)))), (.int (nar .byte (own_dg n (own_pw.getD 14 0)))), (.int (nar .byte (own_dg n (own_pw.getD 13 0)))), (.int (nar .byte (own_dg n (own_pw.getD 12 0)))), (.int (0 : Int32)), (.int (0 : Int32)), (.int (0 : Int32)), (.int (0 : Int32)), (.int (0 : Int32)), (.int (0 : Int32)), (.int (0 : Int32)), (.int (0 : Int32)), (.int (0 : Int32)), (.int (0 : Int32)), (.int (0 : Int32)), (.int (0 : Int32)), (.int (nar .byte ((p4 >>> ((8 : Int32) &&& 31)).toInt8.toInt32)))] (.int (0 : Int32)) := Arv.set Ar70 q70 S70 M70 H70 G70 (fits_nar_byte _) W71 6 rfl (Nat.le_of_ble_eq_true rfl)
  have N71 := Fr.snoc X71 N69 g_bb
  have z71 : n0 ≤ h71.size := Nat.le_trans z67 (Keep.of_wr W71).1
  obtain ⟨_, _, ⟨T73, L73, k73, n73⟩, -, X73, ⟨Lc73, hQ73, l73, y73, z73⟩, st73⟩ := Jvm.LawKit.callS X71 hx (y := (⟨"com/example/fjordgiro/fjordgiro/transmission/DigitsValuePinLaw", "digit", "([JJI)B"⟩ : MethodName)) hown (mvT hZ (hw _ (List.mem_of_getElem? (i := 21) rfl))) (mvT hZ (hw _ (List.mem_of_getElem? (i := 22) rfl))) (mvT hZ (hw _ (List.mem_of_getElem? (i := 23) rfl))) (mvT hZ (hw _ (List.mem_of_getElem? (i := 24) rfl))) (by decide) (backOf (W := 2) (rm1 l Z a0 hw [] pa n (6 : Int32) _ (own_pw.map Value.long) (own_pw.getD 11 0) h71 n0 z71 f72_V_pa own_i6 own_t6 (own_pwN (show 11 < 19 by decide))) hZ (hw _ (List.mem_of_getElem? (i := 24) rfl)) (hw _ (List.mem_of_getElem? (i := 23) rfl)) (by decide) (by decide)) (g := (mkF m 251 #[.val (.long q1), .second, .val (.int p2), .val (.int p3), .val (.int p4), .val (.ref pa), .val (.long n), .second, .val (.ref bb), .unset, .unset, .unset, .unset] [(.int (6 : Int32)), (.long n), (.ref pa), (.int (7 : Int32)), (.ref bb)])) rfl (by rw [hml]; rfl) (argsL := [(.ref pa), (.long n), (.int (6 : Int32))]) (rest := [(.int (7 : Int32)), (.ref bb)]) (lenOf pd___JJI_B rfl) rfl (by show 2 * 0 + _ ≤ _; exact Nat.le_of_eq rfl) (hb hby at_251) (fun _ _ => ⟨rfl, e71, (Nat.le_of_ble_eq_true rfl), (Nat.le_of_ble_eq_true rfl)⟩)
  dsimp only [Pt.U, Pt.locs, Pt.cells, Pt.slots] at X73 l73 y73 z73 st73 hQ73
  subst y73 z73
  obtain ⟨rfl, N73q, e73⟩ := hQ73
  have N73 : Fr n0 L73 := by rw [l73]; exact Fr.app N71 N73q
  obtain ⟨c74, Ar74, q74, S74, M74, H74, G74⟩ := V71
  have hin74 : ¬ ((7 : Int32) < 0 ∨ c74.slots.size ≤ ((7 : Int32)).toNatClampNeg) := inb_of S74 ⟨by decide, by decide⟩
  obtain ⟨T75, h75, X75, e75, W75, st75⟩ := stB X73 hx hZ e73 Ar74 (j := (7 : Int32)) hin74 (g := (mkF m 254 #[.val (.long q1), .second, .val (.int p2), .val (.int p3), .val (.int p4), .val (.ref pa), .val (.long n), .second, .val (.ref bb), .unset, .unset, .unset, .unset] [(.int (own_dg n (own_pw.getD 11 0))), (.int (7 : Int32)), (.ref bb)])) rfl rfl (hb hby at_254)
  have f76_V_pa := f72_V_pa.other W75 ne_pa_bb
  have V75 : Arv Z h75 bb k41 .byte (20 : Int32) [(.int (nar .byte (p4.toInt8.toInt32))), (.int (nar .byte (own_dg n (own_pw.getD 17 0)))), (.int (nar .byte (own_dg n (own_pw.getD 16 0)))), (.int (nar .byte (own_dg n (own_pw.getD 15 0)))), (.int (nar .byte (own_dg n (own_pw.getD 14 0)))), (.int (nar .byte (own_dg n (own_pw.getD 13 0)))), (.int (nar .byte (own_dg n (own_pw.getD 12 0)))), (.int (nar .byte (own_dg n (own_pw.getD 11 0)))), (.int (0 : Int32)), (.int (0 : Int32)), (.int (0 : Int32)), (.int (0 : Int32)), (.int (0 : Int32)), (.int (0 : Int32)), (.int (0 : Int32)), (.int (0 : Int32)), (.int (0 : Int32)), (.int (0 : Int32)), (.int (0 : Int32)), (.int (nar .byte ((p4 >>> ((8 : Int32) &&& 31)).toInt8.toInt32)))] (.int (0 : Int32)) := Arv.set Ar74 q74 S74 M74 H74 G74 (fits_nar_byte _) W75 7 rfl (Nat.le_of_ble_eq_true rfl)
  have N75 := Fr.snoc X75 N73 g_bb
  have z75 : n0 ≤ h75.size := Nat.le_trans z71 (Keep.of_wr W75).1
  obtain ⟨_, _, ⟨T77, L77, k77, n77⟩, -, X77, ⟨Lc77, hQ77, l77, y77, z77⟩, st77⟩ := Jvm.LawKit.callS X75 hx (y := (⟨"com/example/fjordgiro/fjordgiro/transmission/DigitsValuePinLaw", "digit", "([JJI)B"⟩ : MethodName)) hown (mvT hZ (hw _ (List.mem_of_getElem? (i := 21) rfl))) (mvT hZ (hw _ (List.mem_of_getElem? (i := 22) rfl))) (mvT hZ (hw _ (List.mem_of_getElem? (i := 23) rfl))) (mvT hZ (hw _ (List.mem_of_getElem? (i := 24) rfl))) (by decide) (backOf (W := 2) (rm1 l Z a0 hw [] pa n (7 : Int32) _ (own_pw.map Value.long) (own_pw.getD 10 0) h75 n0 z75 f76_V_pa own_i7 own_t7 (own_pwN (show 10 < 19 by decide))) hZ (hw _ (List.mem_of_getElem? (i := 24) rfl)) (hw _ (List.mem_of_getElem? (i := 23) rfl)) (by decide) (by decide)) (g := (mkF m 265 #[.val (.long q1), .second, .val (.int p2), .val (.int p3), .val (.int p4), .val (.ref pa), .val (.long n), .second, .val (.ref bb), .unset, .unset, .unset, .unset] [(.int (7 : Int32)), (.long n), (.ref pa), (.int (8 : Int32)), (.ref bb)])) rfl (by rw [hml]; rfl) (argsL := [(.ref pa), (.long n), (.int (7 : Int32))]) (rest := [(.int (8 : Int32)), (.ref bb)]) (lenOf pd___JJI_B rfl) rfl (by show 2 * 0 + _ ≤ _; exact Nat.le_of_eq rfl) (hb hby at_265) (fun _ _ => ⟨rfl, e75, (Nat.le_of_ble_eq_true rfl), (Nat.le_of_ble_eq_true rfl)⟩)
  dsimp only [Pt.U, Pt.locs, Pt.cells, Pt.slots] at X77 l77 y77 z77 st77 hQ77
  subst y77 z77
  obtain ⟨rfl, N77q, e77⟩ := hQ77
  have N77 : Fr n0 L77 := by rw [l77]; exact Fr.app N75 N77q
  obtain ⟨c78, Ar78, q78, S78, M78, H78, G78⟩ := V75
  have hin78 : ¬ ((8 : Int32) < 0 ∨ c78.slots.size ≤ ((8 : Int32)).toNatClampNeg) := inb_of S78 ⟨by decide, by decide⟩
  obtain ⟨T79, h79, X79, e79, W79, st79⟩ := stB X77 hx hZ e77 Ar78 (j := (8 : Int32)) hin78 (g := (mkF m 268 #[.val (.long q1), .second, .val (.int p2), .val (.int p3), .val (.int p4), .val (.ref pa), .val (.long n), .second, .val (.ref bb), .unset, .unset, .unset, .unset] [(.int (own_dg n (own_pw.getD 10 0))), (.int (8 : Int32)), (.ref bb)])) rfl rfl (hb hby at_268)
  have f80_V_pa := f76_V_pa.other W79 ne_pa_bb
  have V79 : Arv Z h79 bb k41 .byte (20 : Int32) [(.int (nar .byte (p4.toInt8.toInt32))), (.int (nar .byte (own_dg n (own_pw.getD 17 0)))), (.int (nar .byte (own_dg n (own_pw.getD 16 0)))), (.int (nar .byte (own_dg n (own_pw.getD 15 0)))), (.int (nar .byte (own_dg n (own_pw.getD 14 0)))), (.int (nar .byte (own_dg n (own_pw.getD 13 0)))), (.int (nar .byte (own_dg n (own_pw.getD 12 0)))), (.int (nar .byte (own_dg n (own_pw.getD 11 0)))), (.int (nar .byte (own_dg n (own_pw.getD 10 0)))), (.int (0 : Int32)), (.int (0 : Int32)), (.int (0 : Int32)), (.int (0 : Int32)), (.int (0 : Int32)), (.int (0 : Int32)), (.int (0 : Int32)), (.int (0 : Int32)), (.int (0 : Int32)), (.int (0 : Int32)), (.int (nar .byte ((p4 >>> ((8 : Int32) &&& 31)).toInt8.toInt32)))] (.int (0 : Int32)) := Arv.set Ar78 q78 S78 M78 H78 G78 (fits_nar_byte _) W79 8 rfl (Nat.le_of_ble_eq_true rfl)
  have N79 := Fr.snoc X79 N77 g_bb
  have z79 : n0 ≤ h79.size := Nat.le_trans z75 (Keep.of_wr W79).1
  obtain ⟨_, _, ⟨T81, L81, k81, n81⟩, -, X81, ⟨Lc81, hQ81, l81, y81, z81⟩, st81⟩ := Jvm.LawKit.callS X79 hx (y := (⟨"com/example/fjordgiro/fjordgiro/transmission/DigitsValuePinLaw", "digit", "([JJI)B"⟩ : MethodName)) hown (mvT hZ (hw _ (List.mem_of_getElem? (i := 21) rfl))) (mvT hZ (hw _ (List.mem_of_getElem? (i := 22) rfl))) (mvT hZ (hw _ (List.mem_of_getElem? (i := 23) rfl))) (mvT hZ (hw _ (List.mem_of_getElem? (i := 24) rfl))) (by decide) (backOf (W := 2) (rm1 l Z a0 hw [] pa n (8 : Int32) _ (own_pw.map Value.long) (own_pw.getD 9 0) h79 n0 z79 f80_V_pa own_i8 own_t8 (own_pwN (show 9 < 19 by decide))) hZ (hw _ (List.mem_of_getElem? (i := 24) rfl)) (hw _ (List.mem_of_getElem? (i := 23) rfl)) (by decide) (by decide)) (g := (mkF m 279 #[.val (.long q1), .second, .val (.int p2), .val (.int p3), .val (.int p4), .val (.ref pa), .val (.long n), .second, .val (.ref bb), .unset, .unset, .unset, .unset] [(.int (8 : Int32)), (.long n), (.ref pa), (.int (9 : Int32)), (.ref bb)])) rfl (by rw [hml]; rfl) (argsL := [(.ref pa), (.long n), (.int (8 : Int32))]) (rest := [(.int (9 : Int32)), (.ref bb)]) (lenOf pd___JJI_B rfl) rfl (by show 2 * 0 + _ ≤ _; exact Nat.le_of_eq rfl) (hb hby at_279) (fun _ _ => ⟨rfl, e79, (Nat.le_of_ble_eq_true rfl), (Nat.le_of_ble_eq_true rfl)⟩)
  dsimp only [Pt.U, Pt.locs, Pt.cells, Pt.slots] at X81 l81 y81 z81 st81 hQ81
  subst y81 z81
  obtain ⟨rfl, N81q, e81⟩ := hQ81
  have N81 : Fr n0 L81 := by rw [l81]; exact Fr.app N79 N81q
  obtain ⟨c82, Ar82, q82, S82, M82, H82, G82⟩ := V79
  have hin82 : ¬ ((9 : Int32) < 0 ∨ c82.slots.size ≤ ((9 : Int32)).toNatClampNeg) := inb_of S82 ⟨by decide, by decide⟩
  obtain ⟨T83, h83, X83, e83, W83, st83⟩ := stB X81 hx hZ e81 Ar82 (j := (9 : Int32)) hin82 (g := (mkF m 282 #[.val (.long q1), .second, .val (.int p2), .val (.int p3), .val (.int p4), .val (.ref pa), .val (.long n), .second, .val (.ref bb), .unset, .unset, .unset, .unset] [(.int (own_dg n (own_pw.getD 9 0))), (.int (9 : Int32)), (.ref bb)])) rfl rfl (hb hby at_282)
  have f84_V_pa := f80_V_pa.other W83 ne_pa_bb
  have V83 : Arv Z h83 bb k41 .byte (20 : Int32) [(.int (nar .byte (p4.toInt8.toInt32))), (.int (nar .byte (own_dg n (own_pw.getD 17 0)))), (.int (nar .byte (own_dg n (own_pw.getD 16 0)))), (.int (nar .byte (own_dg n (own_pw.getD 15 0)))), (.int (nar .byte (own_dg n (own_pw.getD 14 0)))), (.int (nar .byte (own_dg n (own_pw.getD 13 0)))), (.int (nar .byte (own_dg n (own_pw.getD 12 0)))), (.int (nar .byte (own_dg n (own_pw.getD 11 0)))), (.int (nar .byte (own_dg n (own_pw.getD 10 0)))), (.int (nar .byte (own_dg n (own_pw.getD 9 0)))), (.int (0 : Int32)), (.int (0 : Int32)), (.int (0 : Int32)), (.int (0 : Int32)), (.int (0 : Int32)), (.int (0 : Int32)), (.int (0 : Int32)), (.int (0 : Int32)), (.int (0 : Int32)), (.int (nar .byte ((p4 >>> ((8 : Int32) &&& 31)).toInt8.toInt32)))] (.int (0 : Int32)) := Arv.set Ar82 q82 S82 M82 H82 G82 (fits_nar_byte _) W83 9 rfl (Nat.le_of_ble_eq_true rfl)
  have N83 := Fr.snoc X83 N81 g_bb
  have z83 : n0 ≤ h83.size := Nat.le_trans z79 (Keep.of_wr W83).1
  obtain ⟨_, _, ⟨T85, L85, k85, n85⟩, -, X85, ⟨Lc85, hQ85, l85, y85, z85⟩, st85⟩ := Jvm.LawKit.callS X83 hx (y := (⟨"com/example/fjordgiro/fjordgiro/transmission/DigitsValuePinLaw", "digit", "([JJI)B"⟩ : MethodName)) hown (mvT hZ (hw _ (List.mem_of_getElem? (i := 21) rfl))) (mvT hZ (hw _ (List.mem_of_getElem? (i := 22) rfl))) (mvT hZ (hw _ (List.mem_of_getElem? (i := 23) rfl))) (mvT hZ (hw _ (List.mem_of_getElem? (i := 24) rfl))) (by decide) (backOf (W := 2) (rm1 l Z a0 hw [] pa n (9 : Int32) _ (own_pw.map Value.long) (own_pw.getD 8 0) h83 n0 z83 f84_V_pa own_i9 own_t9 (own_pwN (show 8 < 19 by decide))) hZ (hw _ (List.mem_of_getElem? (i := 24) rfl)) (hw _ (List.mem_of_getElem? (i := 23) rfl)) (by decide) (by decide)) (g := (mkF m 293 #[.val (.long q1), .second, .val (.int p2), .val (.int p3), .val (.int p4), .val (.ref pa), .val (.long n), .second, .val (.ref bb), .unset, .unset, .unset, .unset] [(.int (9 : Int32)), (.long n), (.ref pa), (.int (10 : Int32)), (.ref bb)])) rfl (by rw [hml]; rfl) (argsL := [(.ref pa), (.long n), (.int (9 : Int32))]) (rest := [(.int (10 : Int32)), (.ref bb)]) (lenOf pd___JJI_B rfl) rfl (by show 2 * 0 + _ ≤ _; exact Nat.le_of_eq rfl) (hb hby at_293) (fun _ _ => ⟨rfl, e83, (Nat.le_of_ble_eq_true rfl), (Nat.le_of_ble_eq_true rfl)⟩)
  dsimp only [Pt.U, Pt.locs, Pt.cells, Pt.slots] at X85 l85 y85 z85 st85 hQ85
  subst y85 z85
  obtain ⟨rfl, N85q, e85⟩ := hQ85
  have N85 : Fr n0 L85 := by rw [l85]; exact Fr.app N83 N85q
  obtain ⟨c86, Ar86, q86, S86, M86, H86, G86⟩ := V83
  have hin86 : ¬ ((10 : Int32) < 0 ∨ c86.slots.size ≤ ((10 : Int32)).toNatClampNeg) := inb_of S86 ⟨by decide, by decide⟩
  obtain ⟨T87, h87, X87, e87, W87, st87⟩ := stB X85 hx hZ e85 Ar86 (j := (10 : Int32)) hin86 (g := (mkF m 296 #[.val (.long q1), .second, .val (.int p2), .val (.int p3), .val (.int p4), .val (.ref pa), .val (.long n), .second, .val (.ref bb), .unset, .unset, .unset, .unset] [(.int (own_dg n (own_pw.getD 8 0))), (.int (10 : Int32)), (.ref bb)])) rfl rfl (hb hby at_296)
  have f88_V_pa := f84_V_pa.other W87 ne_pa_bb
  have V87 : Arv Z h87 bb k41 .byte (20 : Int32) [(.int (nar .byte (p4.toInt8.toInt32))), (.int (nar .byte (own_dg n (own_pw.getD 17 0)))), (.int (nar .byte (own_dg n (own_pw.getD 16 0)))), (.int (nar .byte (own_dg n (own_pw.getD 15 0)))), (.int (nar .byte (own_dg n (own_pw.getD 14 0)))), (.int (nar .byte (own_dg n (own_pw.getD 13 0)))), (.int (nar .byte (own_dg n (own_pw.getD 12 0)))), (.int (nar .byte (own_dg n (own_pw.getD 11 0)))), (.int (nar .byte (own_dg n (own_pw.getD 10 0)))), (.int (nar .byte (own_dg n (own_pw.getD 9 0)))), (.int (nar .byte (own_dg n (own_pw.getD 8 0)))), (.int (0 : Int32)), (.int (0 : Int32)), (.int (0 : Int32)), (.int (0 : Int32)), (.int (0 : Int32)), (.int (0 : Int32)), (.int (0 : Int32)), (.int (0 : Int32)), (.int (nar .byte ((p4 >>> ((8 : Int32) &&& 31)).toInt8.toInt32)))] (.int (0 : Int32)) := Arv.set Ar86 q86 S86 M86 H86 G86 (fits_nar_byte _) W87 10 rfl (Nat.le_of_ble_eq_true rfl)
  have N87 := Fr.snoc X87 N85 g_bb
  have z87 : n0 ≤ h87.size := Nat.le_trans z83 (Keep.of_wr W87).1
  obtain ⟨_, _, ⟨T89, L89, k89, n89⟩, -, X89, ⟨Lc89, hQ89, l89, y89, z89⟩, st89⟩ := Jvm.LawKit.callS X87 hx (y := (⟨"com/example/fjordgiro/fjordgiro/transmission/DigitsValuePinLaw", "digit", "([JJI)B"⟩ : MethodName)) hown (mvT hZ (hw _ (List.mem_of_getElem? (i := 21) rfl))) (mvT hZ (hw _ (List.mem_of_getElem? (i := 22) rfl))) (mvT hZ (hw _ (List.mem_of_getElem? (i := 23) rfl))) (mvT hZ (hw _ (List.mem_of_getElem? (i := 24) rfl))) (by decide) (backOf (W := 2) (rm1 l Z a0 hw [] pa n (10 : Int32) _ (own_pw.map Value.long) (own_pw.getD 7 0) h87 n0 z87 f88_V_pa own_i10 own_t10 (own_pwN (show 7 < 19 by decide))) hZ (hw _ (List.mem_of_getElem? (i := 24) rfl)) (hw _ (List.mem_of_getElem? (i := 23) rfl)) (by decide) (by decide)) (g := (mkF m 307 #[.val (.long q1), .second, .val (.int p2), .val (.int p3), .val (.int p4), .val (.ref pa), .val (.long n), .second, .val (.ref bb), .unset, .unset, .unset, .unset] [(.int (10 : Int32)), (.long n), (.ref pa), (.int (11 : Int32)), (.ref bb)])) rfl (by rw [hml]; rfl) (argsL := [(.ref pa), (.long n), (.int (10 : Int32))]) (rest := [(.int (11 : Int32)), (.ref bb)]) (lenOf pd___JJI_B rfl) rfl (by show 2 * 0 + _ ≤ _; exact Nat.le_of_eq rfl) (hb hby at_307) (fun _ _ => ⟨rfl, e87, (Nat.le_of_ble_eq_true rfl), (Nat.le_of_ble_eq_true rfl)⟩)
  dsimp only [Pt.U, Pt.locs, Pt.cells, Pt.slots] at X89 l89 y89 z89 st89 hQ89
  subst y89 z89
  obtain ⟨rfl, N89q, e89⟩ := hQ89
  have N89 : Fr n0 L89 := by rw [l89]; exact Fr.app N87 N89q
  obtain ⟨c90, Ar90, q90, S90, M90, H90, G90⟩ := V87
  have hin90 : ¬ ((11 : Int32) < 0 ∨ c90.slots.size ≤ ((11 : Int32)).toNatClampNeg) := inb_of S90 ⟨by decide, by decide⟩
  obtain ⟨T91, h91, X91, e91, W91, st91⟩ := stB X89 hx hZ e89 Ar90 (j := (11 : Int32)) hin90 (g := (mkF m 310 #[.val (.long q1), .second, .val (.int p2), .val (.int p3), .val (.int p4), .val (.ref pa), .val (.long n), .second, .val (.ref bb), .unset, .unset, .unset, .unset] [(.int (own_dg n (own_pw.getD 7 0))), (.int (11 : Int32)), (.ref bb)])) rfl rfl (hb hby at_310)
  have f92_V_pa := f88_V_pa.other W91 ne_pa_bb
  have V91 : Arv Z h91 bb k41 .byte (20 : Int32) [(.int (nar .byte (p4.toInt8.toInt32))), (.int (nar .byte (own_dg n (own_pw.getD 17 0)))), (.int (nar .byte (own_dg n (own_pw.getD 16 0)))), (.int (nar .byte (own_dg n (own_pw.getD 15 0)))), (.int (nar .byte (own_dg n (own_pw.getD 14 0)))), (.int (nar .byte (own_dg n (own_pw.getD 13 0)))), (.int (nar .byte (own_dg n (own_pw.getD 12 0)))), (.int (nar .byte (own_dg n (own_pw.getD 11 0)))), (.int (nar .byte (own_dg n (own_pw.getD 10 0)))), (.int (nar .byte (own_dg n (own_pw.getD 9 0)))), (.int (nar .byte (own_dg n (own_pw.getD 8 0)))), (.int (nar .byte (own_dg n (own_pw.getD 7 0)))), (.int (0 : Int32)), (.int (0 : Int32)), (.int (0 : Int32)), (.int (0 : Int32)), (.int (0 : Int32)), (.int (0 : Int32)), (.int (0 : Int32)), (.int (nar .byte ((p4 >>> ((8 : Int32) &&& 31)).toInt8.toInt32)))] (.int (0 : Int32)) := Arv.set Ar90 q90 S90 M90 H90 G90 (fits_nar_byte _) W91 11 rfl (Nat.le_of_ble_eq_true rfl)
  have N91 := Fr.snoc X91 N89 g_bb
  have z91 : n0 ≤ h91.size := Nat.le_trans z87 (Keep.of_wr W91).1
  obtain ⟨_, _, ⟨T93, L93, k93, n93⟩, -, X93, ⟨Lc93, hQ93, l93, y93, z93⟩, st93⟩ := Jvm.LawKit.callS X91 hx (y := (⟨"com/example/fjordgiro/fjordgiro/transmission/DigitsValuePinLaw", "digit", "([JJI)B"⟩ : MethodName)) hown (mvT hZ (hw _ (List.mem_of_getElem? (i := 21) rfl))) (mvT hZ (hw _ (List.mem_of_getElem? (i := 22) rfl))) (mvT hZ (hw _ (List.mem_of_getElem? (i := 23) rfl))) (mvT hZ (hw _ (List.mem_of_getElem? (i := 24) rfl))) (by decide) (backOf (W := 2) (rm1 l Z a0 hw [] pa n (11 : Int32) _ (own_pw.map Value.long) (own_pw.getD 6 0) h91 n0 z91 f92_V_pa own_i11 own_t11 (own_pwN (show 6 < 19 by decide))) hZ (hw _ (List.mem_of_getElem? (i := 24) rfl)) (hw _ (List.mem_of_getElem? (i := 23) rfl)) (by decide) (by decide)) (g := (mkF m 321 #[.val (.long q1), .second, .val (.int p2), .val (.int p3), .val (.int p4), .val (.ref pa), .val (.long n), .second, .val (.ref bb), .unset, .unset, .unset, .unset] [(.int (11 : Int32)), (.long n), (.ref pa), (.int (12 : Int32)), (.ref bb)])) rfl (by rw [hml]; rfl) (argsL := [(.ref pa), (.long n), (.int (11 : Int32))]) (rest := [(.int (12 : Int32)), (.ref bb)]) (lenOf pd___JJI_B rfl) rfl (by show 2 * 0 + _ ≤ _; exact Nat.le_of_eq rfl) (hb hby at_321) (fun _ _ => ⟨rfl, e91, (Nat.le_of_ble_eq_true rfl), (Nat.le_of_ble_eq_true rfl)⟩)
  dsimp only [Pt.U, Pt.locs, Pt.cells, Pt.slots] at X93 l93 y93 z93 st93 hQ93
  subst y93 z93
  obtain ⟨rfl, N93q, e93⟩ := hQ93
  have N93 : Fr n0 L93 := by rw [l93]; exact Fr.app N91 N93q
  obtain ⟨c94, Ar94, q94, S94, M94, H94, G94⟩ := V91
  have hin94 : ¬ ((12 : Int32) < 0 ∨ c94.slots.size ≤ ((12 : Int32)).toNatClampNeg) := inb_of S94 ⟨by decide, by decide⟩
  obtain ⟨T95, h95, X95, e95, W95, st95⟩ := stB X93 hx hZ e93 Ar94 (j := (12 : Int32)) hin94 (g := (mkF m 324 #[.val (.long q1), .second, .val (.int p2), .val (.int p3), .val (.int p4), .val (.ref pa), .val (.long n), .second, .val (.ref bb), .unset, .unset, .unset, .unset] [(.int (own_dg n (own_pw.getD 6 0))), (.int (12 : Int32)), (.ref bb)])) rfl rfl (hb hby at_324)
  have f96_V_pa := f92_V_pa.other W95 ne_pa_bb
  have V95 : Arv Z h95 bb k41 .byte (20 : Int32) [(.int (nar .byte (p4.toInt8.toInt32))), (.int (nar .byte (own_dg n (own_pw.getD 17 0)))), (.int (nar .byte (own_dg n (own_pw.getD 16 0)))), (.int (nar .byte (own_dg n (own_pw.getD 15 0)))), (.int (nar .byte (own_dg n (own_pw.getD 14 0)))), (.int (nar .byte (own_dg n (own_pw.getD 13 0)))), (.int (nar .byte (own_dg n (own_pw.getD 12 0)))), (.int (nar .byte (own_dg n (own_pw.getD 11 0)))), (.int (nar .byte (own_dg n (own_pw.getD 10 0)))), (.int (nar .byte (own_dg n (own_pw.getD 9 0)))), (.int (nar .byte (own_dg n (own_pw.getD 8 0)))), (.int (nar .byte (own_dg n (own_pw.getD 7 0)))), (.int (nar .byte (own_dg n (own_pw.getD 6 0)))), (.int (0 : Int32)), (.int (0 : Int32)), (.int (0 : Int32)), (.int (0 : Int32)), (.int (0 : Int32)), (.int (0 : Int32)), (.int (nar .byte ((p4 >>> ((8 : Int32) &&& 31)).toInt8.toInt32)))] (.int (0 : Int32)) := Arv.set Ar94 q94 S94 M94 H94 G94 (fits_nar_byte _) W95 12 rfl (Nat.le_of_ble_eq_true rfl)
  have N95 := Fr.snoc X95 N93 g_bb
  have z95 : n0 ≤ h95.size := Nat.le_trans z91 (Keep.of_wr W95).1
  obtain ⟨_, _, ⟨T97, L97, k97, n97⟩, -, X97, ⟨Lc97, hQ97, l97, y97, z97⟩, st97⟩ := Jvm.LawKit.callS X95 hx (y := (⟨"com/example/fjordgiro/fjordgiro/transmission/DigitsValuePinLaw", "digit", "([JJI)B"⟩ : MethodName)) hown (mvT hZ (hw _ (List.mem_of_getElem? (i := 21) rfl))) (mvT hZ (hw _ (List.mem_of_getElem? (i := 22) rfl))) (mvT hZ (hw _ (List.mem_of_getElem? (i := 23) rfl))) (mvT hZ (hw _ (List.mem_of_getElem? (i := 24) rfl))) (by decide) (backOf (W := 2) (rm1 l Z a0 hw [] pa n (12 : Int32) _ (own_pw.map Value.long) (own_pw.getD 5 0) h95 n0 z95 f96_V_pa own_i12 own_t12 (own_pwN (show 5 < 19 by decide))) hZ (hw _ (List.mem_of_getElem? (i := 24) rfl)) (hw _ (List.mem_of_getElem? (i := 23) rfl)) (by decide) (by decide)) (g := (mkF m 335 #[.val (.long q1), .second, .val (.int p2), .val (.int p3), .val (.int p4), .val (.ref pa), .val (.long n), .second, .val (.ref bb), .unset, .unset, .unset, .unset] [(.int (12 : Int32)), (.long n), (.ref pa), (.int (13 : Int32)), (.ref bb)])) rfl (by rw [hml]; rfl) (argsL := [(.ref pa), (.long n), (.int (12 : Int32))]) (rest := [(.int (13 : Int32)), (.ref bb)]) (lenOf pd___JJI_B rfl) rfl (by show 2 * 0 + _ ≤ _; exact Nat.le_of_eq rfl) (hb hby at_335) (fun _ _ => ⟨rfl, e95, (Nat.le_of_ble_eq_true rfl), (Nat.le_of_ble_eq_true rfl)⟩)
  dsimp only [Pt.U, Pt.locs, Pt.cells, Pt.slots] at X97 l97 y97 z97 st97 hQ97
  subst y97 z97
  obtain ⟨rfl, N97q, e97⟩ := hQ97
  have N97 : Fr n0 L97 := by rw [l97]; exact Fr.app N95 N97q
  obtain ⟨c98, Ar98, q98, S98, M98, H98, G98⟩ := V95
  have hin98 : ¬ ((13 : Int32) < 0 ∨ c98.slots.size ≤ ((13 : Int32)).toNatClampNeg) := inb_of S98 ⟨by decide, by decide⟩
  obtain ⟨T99, h99, X99, e99, W99, st99⟩ := stB X97 hx hZ e97 Ar98 (j := (13 : Int32)) hin98 (g := (mkF m 338 #[.val (.long q1), .second, .val (.int p2), .val (.int p3), .val (.int p4), .val (.ref pa), .val (.long n), .second, .val (.ref bb), .unset, .unset, .unset, .unset] [(.int (own_dg n (own_pw.getD 5 0))), (.int (13 : Int32)), (.ref bb)])) rfl rfl (hb hby at_338)
  have f100_V_pa := f96_V_pa.other W99 ne_pa_bb
  have V99 : Arv Z h99 bb k41 .byte (20 : Int32) [(.int (nar .byte (p4.toInt8.toInt32))), (.int (nar .byte (own_dg n (own_pw.getD 17 0)))), (.int (nar .byte (own_dg n (own_pw.getD 16 0)))), (.int (nar .byte (own_dg n (own_pw.getD 15 0)))), (.int (nar .byte (own_dg n (own_pw.getD 14 0)))), (.int (nar .byte (own_dg n (own_pw.getD 13 0)))), (.int (nar .byte (own_dg n (own_pw.getD 12 0)))), (.int (nar .byte (own_dg n (own_pw.getD 11 0)))), (.int (nar .byte (own_dg n (own_pw.getD 10 0)))), (.int (nar .byte (own_dg n (own_pw.getD 9 0)))), (.int (nar .byte (own_dg n (own_pw.getD 8 0)))), (.int (nar .byte (own_dg n (own_pw.getD 7 0)))), (.int (nar .byte (own_dg n (own_pw.getD 6 0)))), (.int (nar .byte (own_dg n (own_pw.getD 5 0)))), (.int (0 : Int32)), (.int (0 : Int32)), (.int (0 : Int32)), (.int (0 : Int32)), (.int (0 : Int32)), (.int (nar .byte ((p4 >>> ((8 : Int32) &&& 31)).toInt8.toInt32)))] (.int (0 : Int32)) := Arv.set Ar98 q98 S98 M98 H98 G98 (fits_nar_byte _) W99 13 rfl (Nat.le_of_ble_eq_true rfl)
  have N99 := Fr.snoc X99 N97 g_bb
  have z99 : n0 ≤ h99.size := Nat.le_trans z95 (Keep.of_wr W99).1
  obtain ⟨_, _, ⟨T101, L101, k101, n101⟩, -, X101, ⟨Lc101, hQ101, l101, y101, z101⟩, st101⟩ := Jvm.LawKit.callS X99 hx (y := (⟨"com/example/fjordgiro/fjordgiro/transmission/DigitsValuePinLaw", "digit", "([JJI)B"⟩ : MethodName)) hown (mvT hZ (hw _ (List.mem_of_getElem? (i := 21) rfl))) (mvT hZ (hw _ (List.mem_of_getElem? (i := 22) rfl))) (mvT hZ (hw _ (List.mem_of_getElem? (i := 23) rfl))) (mvT hZ (hw _ (List.mem_of_getElem? (i := 24) rfl))) (by decide) (backOf (W := 2) (rm1 l Z a0 hw [] pa n (13 : Int32) _ (own_pw.map Value.long) (own_pw.getD 4 0) h99 n0 z99 f100_V_pa own_i13 own_t13 (own_pwN (show 4 < 19 by decide))) hZ (hw _ (List.mem_of_getElem? (i := 24) rfl)) (hw _ (List.mem_of_getElem? (i := 23) rfl)) (by decide) (by decide)) (g := (mkF m 349 #[.val (.long q1), .second, .val (.int p2), .val (.int p3), .val (.int p4), .val (.ref pa), .val (.long n), .second, .val (.ref bb), .unset, .unset, .unset, .unset] [(.int (13 : Int32)), (.long n), (.ref pa), (.int (14 : Int32)), (.ref bb)])) rfl (by rw [hml]; rfl) (argsL := [(.ref pa), (.long n), (.int (13 : Int32))]) (rest := [(.int (14 : Int32)), (.ref bb)]) (lenOf pd___JJI_B rfl) rfl (by show 2 * 0 + _ ≤ _; exact Nat.le_of_eq rfl) (hb hby at_349) (fun _ _ => ⟨rfl, e99, (Nat.le_of_ble_eq_true rfl), (Nat.le_of_ble_eq_true rfl)⟩)
  dsimp only [Pt.U, Pt.locs, Pt.cells, Pt.slots] at X101 l101 y101 z101 st101 hQ101
  subst y101 z101
  obtain ⟨rfl, N101q, e101⟩ := hQ101
  have N101 : Fr n0 L101 := by rw [l101]; exact Fr.app N99 N101q
  obtain ⟨c102, Ar102, q102, S102, M102, H102, G102⟩ := V99
  have hin102 : ¬ ((14 : Int32) < 0 ∨ c102.slots.size ≤ ((14 : Int32)).toNatClampNeg) := inb_of S102 ⟨by decide, by decide⟩
  obtain ⟨T103, h103, X103, e103, W103, st103⟩ := stB X101 hx hZ e101 Ar102 (j := (14 : Int32)) hin102 (g := (mkF m 352 #[.val (.long q1), .second, .val (.int p2), .val (.int p3), .val (.int p4), .val (.ref pa), .val (.long n), .second, .val (.ref bb), .unset, .unset, .unset, .unset] [(.int (own_dg n (own_pw.getD 4 0))), (.int (14 : Int32)), (.ref bb)])) rfl rfl (hb hby at_352)
  have f104_V_pa := f100_V_pa.other W103 ne_pa_bb
  have V103 : Arv Z h103 bb k41 .byte (20 : Int32) [(.int (nar .byte (p4.toInt8.toInt32))), (.int (nar .byte (own_dg n (own_pw.getD 17 0)))), (.int (nar .byte (own_dg n (own_pw.getD 16 0)))), (.int (nar .byte (own_dg n (own_pw.getD 15 0)))), (.int (nar .byte (own_dg n (own_pw.getD 14 0)))), (.int (nar .byte (own_dg n (own_pw.getD 13 0)))), (.int (nar .byte (own_dg n (own_pw.getD 12 0)))), (.int (nar .byte (own_dg n (own_pw.getD 11 0)))), (.int (nar .byte (own_dg n (own_pw.getD 10 0)))), (.int (nar .byte (own_dg n (own_pw.getD 9 0)))), (.int (nar .byte (own_dg n (own_pw.getD 8 0)))), (.int (nar .byte (own_dg n (own_pw.getD 7 0)))), (.int (nar .byte (own_dg n (own_pw.getD 6 0)))), (.int (nar .byte (own_dg n (own_pw.getD 5 0)))), (.int (nar .byte (own_dg n (own_pw.getD 4 0)))), (.int (0 : Int32)), (.int (0 : Int32)), (.int (0 : Int32)), (.int (0 : Int32)), (.int (nar .byte ((p4 >>> ((8 : Int32) &&& 31)).toInt8.toInt32)))] (.int (0 : Int32)) := Arv.set Ar102 q102 S102 M102 H102 G102 (fits_nar_byte _) W103 14 rfl (Nat.le_of_ble_eq_true rfl)
  have N103 := Fr.snoc X103 N101 g_bb
  have z103 : n0 ≤ h103.size := Nat.le_trans z99 (Keep.of_wr W103).1
  obtain ⟨_, _, ⟨T105, L105, k105, n105⟩, -, X105, ⟨Lc105, hQ105, l105, y105, z105⟩, st105⟩ := Jvm.LawKit.callS X103 hx (y := (⟨"com/example/fjordgiro/fjordgiro/transmission/DigitsValuePinLaw", "digit", "([JJI)B"⟩ : MethodName)) hown (mvT hZ (hw _ (List.mem_of_getElem? (i := 21) rfl))) (mvT hZ (hw _ (List.mem_of_getElem? (i := 22) rfl))) (mvT hZ (hw _ (List.mem_of_getElem? (i := 23) rfl))) (mvT hZ (hw _ (List.mem_of_getElem? (i := 24) rfl))) (by decide) (backOf (W := 2) (rm1 l Z a0 hw [] pa n (14 : Int32) _ (own_pw.map Value.long) (own_pw.getD 3 0) h103 n0 z103 f104_V_pa own_i14 own_t14 (own_pwN (show 3 < 19 by decide))) hZ (hw _ (List.mem_of_getElem? (i := 24) rfl)) (hw _ (List.mem_of_getElem? (i := 23) rfl)) (by decide) (by decide)) (g := (mkF m 363 #[.val (.long q1), .second, .val (.int p2), .val (.int p3), .val (.int p4), .val (.ref pa), .val (.long n), .second, .val (.ref bb), .unset, .unset, .unset, .unset] [(.int (14 : Int32)), (.long n), (.ref pa), (.int (15 : Int32)), (.ref bb)])) rfl (by rw [hml]; rfl) (argsL := [(.ref pa), (.long n), (.int (14 : Int32))]) (rest := [(.int (15 : Int32)), (.ref bb)]) (lenOf pd___JJI_B rfl) rfl (by show 2 * 0 + _ ≤ _; exact Nat.le_of_eq rfl) (hb hby at_363) (fun _ _ => ⟨rfl, e103, (Nat.le_of_ble_eq_true rfl), (Nat.le_of_ble_eq_true rfl)⟩)
  dsimp only [Pt.U, Pt.locs, Pt.cells, Pt.slots] at X105 l105 y105 z105 st105 hQ105
  subst y105 z105
  obtain ⟨rfl, N105q, e105⟩ := hQ105
  have N105 : Fr n0 L105 := by rw [l105]; exact Fr.app N103 N105q
  obtain ⟨c106, Ar106, q106, S106, M106, H106, G106⟩ := V103
  have hin106 : ¬ ((15 : Int32) < 0 ∨ c106.slots.size ≤ ((15 : Int32)).toNatClampNeg) := inb_of S106 ⟨by decide, by decide⟩
  obtain ⟨T107, h107, X107, e107, W107, st107⟩ := stB X105 hx hZ e105 Ar106 (j := (15 : Int32)) hin106 (g := (mkF m 366 #[.val (.long q1), .second, .val (.int p2), .val (.int p3), .val (.int p4), .val (.ref pa), .val (.long n), .second, .val (.ref bb), .unset, .unset, .unset, .unset] [(.int (own_dg n (own_pw.getD 3 0))), (.int (15 : Int32)), (.ref bb)])) rfl rfl (hb hby at_366)
  have f108_V_pa := f104_V_pa.other W107 ne_pa_bb
  have V107 : Arv Z h107 bb k41 .byte (20 : Int32) [(.int (nar .byte (p4.toInt8.toInt32))), (.int (nar .byte (own_dg n (own_pw.getD 17 0)))), (.int (nar .byte (own_dg n (own_pw.getD 16 0)))), (.int (nar .byte (own_dg n (own_pw.getD 15 0)))), (.int (nar .byte (own_dg n (own_pw.getD 14 0)))), (.int (nar .byte (own_dg n (own_pw.getD 13 0)))), (.int (nar .byte (own_dg n (own_pw.getD 12 0)))), (.int (nar .byte (own_dg n (own_pw.getD 11 0)))), (.int (nar .byte (own_dg n (own_pw.getD 10 0)))), (.int (nar .byte (own_dg n (own_pw.getD 9 0)))), (.int (nar .byte (own_dg n (own_pw.getD 8 0)))), (.int (nar .byte (own_dg n (own_pw.getD 7 0)))), (.int (nar .byte (own_dg n (own_pw.getD 6 0)))), (.int (nar .byte (own_dg n (own_pw.getD 5 0)))), (.int (nar .byte (own_dg n (own_pw.getD 4 0)))), (.int (nar .byte (own_dg n (own_pw.getD 3 0)))), (.int (0 : Int32)), (.int (0 : Int32)), (.int (0 : Int32)), (.int (nar .byte ((p4 >>> ((8 : Int32) &&& 31)).toInt8.toInt32)))] (.int (0 : Int32)) := Arv.set Ar106 q106 S106 M106 H106 G106 (fits_nar_byte _) W107 15 rfl (Nat.le_of_ble_eq_true rfl)
  have N107 := Fr.snoc X107 N105 g_bb
  have z107 : n0 ≤ h107.size := Nat.le_trans z103 (Keep.of_wr W107).1
  obtain ⟨_, _, ⟨T109, L109, k109, n109⟩, -, X109, ⟨Lc109, hQ109, l109, y109, z109⟩, st109⟩ := Jvm.LawKit.callS X107 hx (y := (⟨"com/example/fjordgiro/fjordgiro/transmission/DigitsValuePinLaw", "digit", "([JJI)B"⟩ : MethodName)) hown (mvT hZ (hw _ (List.mem_of_getElem? (i := 21) rfl))) (mvT hZ (hw _ (List.mem_of_getElem? (i := 22) rfl))) (mvT hZ (hw _ (List.mem_of_getElem? (i := 23) rfl))) (mvT hZ (hw _ (List.mem_of_getElem? (i := 24) rfl))) (by decide) (backOf (W := 2) (rm1 l Z a0 hw [] pa n (15 : Int32) _ (own_pw.map Value.long) (own_pw.getD 2 0) h107 n0 z107 f108_V_pa own_i15 own_t15 (own_pwN (show 2 < 19 by decide))) hZ (hw _ (List.mem_of_getElem? (i := 24) rfl)) (hw _ (List.mem_of_getElem? (i := 23) rfl)) (by decide) (by decide)) (g := (mkF m 377 #[.val (.long q1), .second, .val (.int p2), .val (.int p3), .val (.int p4), .val (.ref pa), .val (.long n), .second, .val (.ref bb), .unset, .unset, .unset, .unset] [(.int (15 : Int32)), (.long n), (.ref pa), (.int (16 : Int32)), (.ref bb)])) rfl (by rw [hml]; rfl) (argsL := [(.ref pa), (.long n), (.int (15 : Int32))]) (rest := [(.int (16 : Int32)), (.ref bb)]) (lenOf pd___JJI_B rfl) rfl (by show 2 * 0 + _ ≤ _; exact Nat.le_of_eq rfl) (hb hby at_377) (fun _ _ => ⟨rfl, e107, (Nat.le_of_ble_eq_true rfl), (Nat.le_of_ble_eq_true rfl)⟩)
  dsimp only [Pt.U, Pt.locs, Pt.cells, Pt.slots] at X109 l109 y109 z109 st109 hQ109
  subst y109 z109
  obtain ⟨rfl, N109q, e109⟩ := hQ109
  have N109 : Fr n0 L109 := by rw [l109]; exact Fr.app N107 N109q
  obtain ⟨c110, Ar110, q110, S110, M110, H110, G110⟩ := V107
  have hin110 : ¬ ((16 : Int32) < 0 ∨ c110.slots.size ≤ ((16 : Int32)).toNatClampNeg) := inb_of S110 ⟨by decide, by decide⟩
  obtain ⟨T111, h111, X111, e111, W111, st111⟩ := stB X109 hx hZ e109 Ar110 (j := (16 : Int32)) hin110 (g := (mkF m 380 #[.val (.long q1), .second, .val (.int p2), .val (.int p3), .val (.int p4), .val (.ref pa), .val (.long n), .second, .val (.ref bb), .unset, .unset, .unset, .unset] [(.int (own_dg n (own_pw.getD 2 0))), (.int (16 : Int32)), (.ref bb)])) rfl rfl (hb hby at_380)
  have f112_V_pa := f108_V_pa.other W111 ne_pa_bb
  have V111 : Arv Z h111 bb k41 .byte (20 : Int32) [(.int (nar .byte (p4.toInt8.toInt32))), (.int (nar .byte (own_dg n (own_pw.getD 17 0)))), (.int (nar .byte (own_dg n (own_pw.getD 16 0)))), (.int (nar .byte (own_dg n (own_pw.getD 15 0)))), (.int (nar .byte (own_dg n (own_pw.getD 14 0)))), (.int (nar .byte (own_dg n (own_pw.getD 13 0)))), (.int (nar .byte (own_dg n (own_pw.getD 12 0)))), (.int (nar .byte (own_dg n (own_pw.getD 11 0)))), (.int (nar .byte (own_dg n (own_pw.getD 10 0)))), (.int (nar .byte (own_dg n (own_pw.getD 9 0)))), (.int (nar .byte (own_dg n (own_pw.getD 8 0)))), (.int (nar .byte (own_dg n (own_pw.getD 7 0)))), (.int (nar .byte (own_dg n (own_pw.getD 6 0)))), (.int (nar .byte (own_dg n (own_pw.getD 5 0)))), (.int (nar .byte (own_dg n (own_pw.getD 4 0)))), (.int (nar .byte (own_dg n (own_pw.getD 3 0)))), (.int (nar .byte (own_dg n (own_pw.getD 2 0)))), (.int (0 : Int32)), (.int (0 : Int32)), (.int (nar .byte ((p4 >>> ((8 : Int32) &&& 31)).toInt8.toInt32)))] (.int (0 : Int32)) := Arv.set Ar110 q110 S110 M110 H110 G110 (fits_nar_byte _) W111 16 rfl (Nat.le_of_ble_eq_true rfl)
  have N111 := Fr.snoc X111 N109 g_bb
  have z111 : n0 ≤ h111.size := Nat.le_trans z107 (Keep.of_wr W111).1
  obtain ⟨_, _, ⟨T113, L113, k113, n113⟩, -, X113, ⟨Lc113, hQ113, l113, y113, z113⟩, st113⟩ := Jvm.LawKit.callS X111 hx (y := (⟨"com/example/fjordgiro/fjordgiro/transmission/DigitsValuePinLaw", "digit", "([JJI)B"⟩ : MethodName)) hown (mvT hZ (hw _ (List.mem_of_getElem? (i := 21) rfl))) (mvT hZ (hw _ (List.mem_of_getElem? (i := 22) rfl))) (mvT hZ (hw _ (List.mem_of_getElem? (i := 23) rfl))) (mvT hZ (hw _ (List.mem_of_getElem? (i := 24) rfl))) (by decide) (backOf (W := 2) (rm1 l Z a0 hw [] pa n (16 : Int32) _ (own_pw.map Value.long) (own_pw.getD 1 0) h111 n0 z111 f112_V_pa own_i16 own_t16 (own_pwN (show 1 < 19 by decide))) hZ (hw _ (List.mem_of_getElem? (i := 24) rfl)) (hw _ (List.mem_of_getElem? (i := 23) rfl)) (by decide) (by decide)) (g := (mkF m 391 #[.val (.long q1), .second, .val (.int p2), .val (.int p3), .val (.int p4), .val (.ref pa), .val (.long n), .second, .val (.ref bb), .unset, .unset, .unset, .unset] [(.int (16 : Int32)), (.long n), (.ref pa), (.int (17 : Int32)), (.ref bb)])) rfl (by rw [hml]; rfl) (argsL := [(.ref pa), (.long n), (.int (16 : Int32))]) (rest := [(.int (17 : Int32)), (.ref bb)]) (lenOf pd___JJI_B rfl) rfl (by show 2 * 0 + _ ≤ _; exact Nat.le_of_eq rfl) (hb hby at_391) (fun _ _ => ⟨rfl, e111, (Nat.le_of_ble_eq_true rfl), (Nat.le_of_ble_eq_true rfl)⟩)
  dsimp only [Pt.U, Pt.locs, Pt.cells, Pt.slots] at X113 l113 y113 z113 st113 hQ113
  subst y113 z113
  obtain ⟨rfl, N113q, e113⟩ := hQ113
  have N113 : Fr n0 L113 := by rw [l113]; exact Fr.app N111 N113q
  obtain ⟨c114, Ar114, q114, S114, M114, H114, G114⟩ := V111
  have hin114 : ¬ ((17 : Int32) < 0 ∨ c114.slots.size ≤ ((17 : Int32)).toNatClampNeg) := inb_of S114 ⟨by decide, by decide⟩
  obtain ⟨T115, h115, X115, e115, W115, st115⟩ := stB X113 hx hZ e113 Ar114 (j := (17 : Int32)) hin114 (g := (mkF m 394 #[.val (.long q1), .second, .val (.int p2), .val (.int p3), .val (.int p4), .val (.ref pa), .val (.long n), .second, .val (.ref bb), .unset, .unset, .unset, .unset] [(.int (own_dg n (own_pw.getD 1 0))), (.int (17 : Int32)), (.ref bb)])) rfl rfl (hb hby at_394)
  have f116_V_pa := f112_V_pa.other W115 ne_pa_bb
  have V115 : Arv Z h115 bb k41 .byte (20 : Int32) [(.int (nar .byte (p4.toInt8.toInt32))), (.int (nar .byte (own_dg n (own_pw.getD 17 0)))), (.int (nar .byte (own_dg n (own_pw.getD 16 0)))), (.int (nar .byte (own_dg n (own_pw.getD 15 0)))), (.int (nar .byte (own_dg n (own_pw.getD 14 0)))), (.int (nar .byte (own_dg n (own_pw.getD 13 0)))), (.int (nar .byte (own_dg n (own_pw.getD 12 0)))), (.int (nar .byte (own_dg n (own_pw.getD 11 0)))), (.int (nar .byte (own_dg n (own_pw.getD 10 0)))), (.int (nar .byte (own_dg n (own_pw.getD 9 0)))), (.int (nar .byte (own_dg n (own_pw.getD 8 0)))), (.int (nar .byte (own_dg n (own_pw.getD 7 0)))), (.int (nar .byte (own_dg n (own_pw.getD 6 0)))), (.int (nar .byte (own_dg n (own_pw.getD 5 0)))), (.int (nar .byte (own_dg n (own_pw.getD 4 0)))), (.int (nar .byte (own_dg n (own_pw.getD 3 0)))), (.int (nar .byte (own_dg n (own_pw.getD 2 0)))), (.int (nar .byte (own_dg n (own_pw.getD 1 0)))), (.int (0 : Int32)), (.int (nar .byte ((p4 >>> ((8 : Int32) &&& 31)).toInt8.toInt32)))] (.int (0 : Int32)) := Arv.set Ar114 q114 S114 M114 H114 G114 (fits_nar_byte _) W115 17 rfl (Nat.le_of_ble_eq_true rfl)
  have N115 := Fr.snoc X115 N113 g_bb
  have z115 : n0 ≤ h115.size := Nat.le_trans z111 (Keep.of_wr W115).1
  obtain ⟨_, _, ⟨T117, L117, k117, n117⟩, -, X117, ⟨Lc117, hQ117, l117, y117, z117⟩, st117⟩ := Jvm.LawKit.callS X115 hx (y := (⟨"com/example/fjordgiro/fjordgiro/transmission/DigitsValuePinLaw", "digit", "([JJI)B"⟩ : MethodName)) hown (mvT hZ (hw _ (List.mem_of_getElem? (i := 21) rfl))) (mvT hZ (hw _ (List.mem_of_getElem? (i := 22) rfl))) (mvT hZ (hw _ (List.mem_of_getElem? (i := 23) rfl))) (mvT hZ (hw _ (List.mem_of_getElem? (i := 24) rfl))) (by decide) (backOf (W := 2) (rm1 l Z a0 hw [] pa n (17 : Int32) _ (own_pw.map Value.long) (own_pw.getD 0 0) h115 n0 z115 f116_V_pa own_i17 own_t17 (own_pwN (show 0 < 19 by decide))) hZ (hw _ (List.mem_of_getElem? (i := 24) rfl)) (hw _ (List.mem_of_getElem? (i := 23) rfl)) (by decide) (by decide)) (g := (mkF m 405 #[.val (.long q1), .second, .val (.int p2), .val (.int p3), .val (.int p4), .val (.ref pa), .val (.long n), .second, .val (.ref bb), .unset, .unset, .unset, .unset] [(.int (17 : Int32)), (.long n), (.ref pa), (.int (18 : Int32)), (.ref bb)])) rfl (by rw [hml]; rfl) (argsL := [(.ref pa), (.long n), (.int (17 : Int32))]) (rest := [(.int (18 : Int32)), (.ref bb)]) (lenOf pd___JJI_B rfl) rfl (by show 2 * 0 + _ ≤ _; exact Nat.le_of_eq rfl) (hb hby at_405) (fun _ _ => ⟨rfl, e115, (Nat.le_of_ble_eq_true rfl), (Nat.le_of_ble_eq_true rfl)⟩)
  dsimp only [Pt.U, Pt.locs, Pt.cells, Pt.slots] at X117 l117 y117 z117 st117 hQ117
  subst y117 z117
  obtain ⟨rfl, N117q, e117⟩ := hQ117
  have N117 : Fr n0 L117 := by rw [l117]; exact Fr.app N115 N117q
  obtain ⟨c118, Ar118, q118, S118, M118, H118, G118⟩ := V115
  have hin118 : ¬ ((18 : Int32) < 0 ∨ c118.slots.size ≤ ((18 : Int32)).toNatClampNeg) := inb_of S118 ⟨by decide, by decide⟩
  obtain ⟨T119, h119, X119, e119, W119, st119⟩ := stB X117 hx hZ e117 Ar118 (j := (18 : Int32)) hin118 (g := (mkF m 408 #[.val (.long q1), .second, .val (.int p2), .val (.int p3), .val (.int p4), .val (.ref pa), .val (.long n), .second, .val (.ref bb), .unset, .unset, .unset, .unset] [(.int (own_dg n (own_pw.getD 0 0))), (.int (18 : Int32)), (.ref bb)])) rfl rfl (hb hby at_408)
  have f120_V_pa := f116_V_pa.other W119 ne_pa_bb
  have V119 : Arv Z h119 bb k41 .byte (20 : Int32) [(.int (nar .byte (p4.toInt8.toInt32))), (.int (nar .byte (own_dg n (own_pw.getD 17 0)))), (.int (nar .byte (own_dg n (own_pw.getD 16 0)))), (.int (nar .byte (own_dg n (own_pw.getD 15 0)))), (.int (nar .byte (own_dg n (own_pw.getD 14 0)))), (.int (nar .byte (own_dg n (own_pw.getD 13 0)))), (.int (nar .byte (own_dg n (own_pw.getD 12 0)))), (.int (nar .byte (own_dg n (own_pw.getD 11 0)))), (.int (nar .byte (own_dg n (own_pw.getD 10 0)))), (.int (nar .byte (own_dg n (own_pw.getD 9 0)))), (.int (nar .byte (own_dg n (own_pw.getD 8 0)))), (.int (nar .byte (own_dg n (own_pw.getD 7 0)))), (.int (nar .byte (own_dg n (own_pw.getD 6 0)))), (.int (nar .byte (own_dg n (own_pw.getD 5 0)))), (.int (nar .byte (own_dg n (own_pw.getD 4 0)))), (.int (nar .byte (own_dg n (own_pw.getD 3 0)))), (.int (nar .byte (own_dg n (own_pw.getD 2 0)))), (.int (nar .byte (own_dg n (own_pw.getD 1 0)))), (.int (nar .byte (own_dg n (own_pw.getD 0 0)))), (.int (nar .byte ((p4 >>> ((8 : Int32) &&& 31)).toInt8.toInt32)))] (.int (0 : Int32)) := Arv.set Ar118 q118 S118 M118 H118 G118 (fits_nar_byte _) W119 18 rfl (Nat.le_of_ble_eq_true rfl)
  have N119 := Fr.snoc X119 N117 g_bb
  have z119 : n0 ≤ h119.size := Nat.le_trans z115 (Keep.of_wr W119).1
  obtain ⟨A, hA, eA⟩ : ∃ A : Nat, A < 19 ∧ ((p2 &&& (2147483647 : Int32)) % (19 : Int32)) = Int32.ofNat A := own_mod (own_and p2) (by decide) (by decide)
  obtain ⟨D, hD, eD⟩ : ∃ D : Nat, D < 19 - A ∧ ((p3 &&& (2147483647 : Int32)) % Int32.ofNat (19 - A)) = Int32.ofNat D := own_mod (own_and p3) (by omega) (by omega)
  have e19 : (19 : Int32) - Int32.ofNat A = Int32.ofNat (19 - A) := own_sub (k := 19) (by omega) (by omega)
  have eAD : Int32.ofNat A + Int32.ofNat D = Int32.ofNat (A + D) := own_add (by omega)
  have e18 : (18 : Int32) - Int32.ofNat (A + D) = Int32.ofNat (18 - (A + D)) := own_sub (k := 18) (by omega) (by omega)
  have eca : Int32.ofNat (A + D) - Int32.ofNat A = Int32.ofNat (A + D - A) := own_sub (by omega) (by omega)
  obtain ⟨c121, Ar121, -, S121, -, H121, -⟩ := (id f120_V_pa)
  have hin121 : ¬ ((Int32.ofNat (18 - (A + D))) < 0 ∨ c121.slots.size ≤ ((Int32.ofNat (18 - (A + D)))).toNatClampNeg) := inb_of S121 ⟨own_nn (by omega), (own_lt (j := 19) (by omega) (by omega)).mpr (by omega)⟩
  have hat121 : c121.slots[((Int32.ofNat (18 - (A + D)))).toNatClampNeg]? = some (.long (own_pw.getD (18 - (A + D)) 0)) := H121.at hin121 (by rw [own_natC (by omega)]; exact own_getL own_pw (18 - (A + D)))
  obtain ⟨c122, Ar122, -, S122, -, H122, -⟩ := (id f120_V_pa)
  have hin122 : ¬ ((Int32.ofNat (A + D - A)) < 0 ∨ c122.slots.size ≤ ((Int32.ofNat (A + D - A))).toNatClampNeg) := inb_of S122 ⟨own_nn (by omega), (own_lt (j := 19) (by omega) (by omega)).mpr (by omega)⟩
  have hat122 : c122.slots[((Int32.ofNat (A + D - A))).toNatClampNeg]? = some (.long (own_pw.getD (A + D - A) 0)) := H122.at hin122 (by rw [own_natC (by omega)]; exact own_getL own_pw (A + D - A))
  have hg : ∀ i, A + 1 ≤ i → i < A + D + 1 → ([(.int (nar .byte (p4.toInt8.toInt32))), (.int (nar .byte (own_dg n (own_pw.getD 17 0)))), (.int (nar .byte (own_dg n (own_pw.getD 16 0)))), (.int (nar .byte (own_dg n (own_pw.getD 15 0)))), (.int (nar .byte (own_dg n (own_pw.getD 14 0)))), (.int (nar .byte (own_dg n (own_pw.getD 13 0)))), (.int (nar .byte (own_dg n (own_pw.getD 12 0)))), (.int (nar .byte (own_dg n (own_pw.getD 11 0)))), (.int (nar .byte (own_dg n (own_pw.getD 10 0)))), (.int (nar .byte (own_dg n (own_pw.getD 9 0)))), (.int (nar .byte (own_dg n (own_pw.getD 8 0)))), (.int (nar .byte (own_dg n (own_pw.getD 7 0)))), (.int (nar .byte (own_dg n (own_pw.getD 6 0)))), (.int (nar .byte (own_dg n (own_pw.getD 5 0)))), (.int (nar .byte (own_dg n (own_pw.getD 4 0)))), (.int (nar .byte (own_dg n (own_pw.getD 3 0)))), (.int (nar .byte (own_dg n (own_pw.getD 2 0)))), (.int (nar .byte (own_dg n (own_pw.getD 1 0)))), (.int (nar .byte (own_dg n (own_pw.getD 0 0)))), (.int (nar .byte ((p4 >>> ((8 : Int32) &&& 31)).toInt8.toInt32)))] : List Value).getD i (.int (0 : Int32)) = .int ((fun i => nar .byte (own_dg n (own_pw.getD (18 - i) 0))) i) := fun i h1 h2 => own_bytes n _ _ i (by omega) (by omega)
  obtain ⟨_, _, ⟨T123, L123, k123, n123⟩, -, X123, ⟨Lc123, hQ123, l123, y123, z123⟩, st123⟩ := Jvm.LawKit.callS X119 hx (y := (⟨"com/example/fjordgiro/fjordgiro/transmission/Digits", "value", "([BII)J"⟩ : MethodName)) hown (mvT hZ (hw _ (List.mem_of_getElem? (i := 27) rfl))) (mvT hZ (hw _ (List.mem_of_getElem? (i := 28) rfl))) (mvT hZ (hw _ (List.mem_of_getElem? (i := 29) rfl))) (mvT hZ (hw _ (List.mem_of_getElem? (i := 30) rfl))) (by decide) (backOf (W := 0) (rm2 l Z a0 hw [] bb (A + 1) (A + D + 1) (fun i => nar .byte (own_dg n (own_pw.getD (18 - i) 0))) (own_av n.toInt.toNat A) _ _ h119 n0 z119 (by omega) (by omega) V119 hg (own_av0 n.toInt.toNat A) (fun j hj => own_next (by omega) (own_digit hnT (own_pwP (by omega))))) hZ (hw _ (List.mem_of_getElem? (i := 30) rfl)) (hw _ (List.mem_of_getElem? (i := 29) rfl)) (by decide) (by decide)) (g := (mkF m 465 #[.val (.long q1), .second, .val (.int p2), .val (.int p3), .val (.int p4), .val (.ref pa), .val (.long n), .second, .val (.ref bb), .val (.int (Int32.ofNat A)), .val (.int (Int32.ofNat (A + D))), .val (.long ((n / (own_pw.getD (18 - (A + D)) 0)) % (own_pw.getD (A + D - A) 0))), .second] [(.int (Int32.ofNat (A + D + 1))), (.int (Int32.ofNat (A + 1))), (.ref bb)])) rfl (by rw [hml]; rfl) (argsL := [(.ref bb), (.int (Int32.ofNat (A + 1))), (.int (Int32.ofNat (A + D + 1)))]) (rest := []) (lenOf pd___BII_J rfl) rfl (by show 2 * 0 + _ ≤ _; exact Nat.le_of_eq rfl) (hb hby at_465) (fun _ _ => ⟨rfl, e119, (Nat.le_of_ble_eq_true rfl), (Nat.le_of_ble_eq_true rfl)⟩)
  dsimp only [Pt.U, Pt.locs, Pt.cells, Pt.slots] at X123 l123 y123 z123 st123 hQ123
  subst y123 z123
  obtain ⟨rfl, N123q, e123⟩ := hQ123
  have N123 : Fr n0 L123 := by rw [l123]; exact Fr.app N119 N123q
  obtain ⟨fs, hr, hrun, hended, hW, hsame⟩ := X123.leave (v := some (.int (1 : Int32))) (fun h => by rw [Bd.returns] at h; cases h)
  refine ⟨_, _, pre0 _ ?_, hrun, hended, _, _, rfl, ?_, ⟨_, rfl⟩, hW, hsame.mono (by decide) (by decide)⟩
  · show Steps p.tables e below (s₁.setTop (mkF m 0 #[.val (.long q1), .second, .val (.int p2), .val (.int p3), .val (.int p4), .unset, .unset, .unset, .unset, .unset, .unset, .unset, .unset] [])) _
    refine XS.bipush X0.here hx rfl (hb hby at_0) ?_
    show Steps p.tables e below (s₁.setTop (mkF m 2 #[.val (.long q1), .second, .val (.int p2), .val (.int p3), .val (.int p4), .unset, .unset, .unset, .unset, .unset, .unset, .unset, .unset] [(.int (19 : Int32))])) _
    refine st1 _ ?_
    show Steps p.tables e below (T1.setTop (mkF m 4 #[.val (.long q1), .second, .val (.int p2), .val (.int p3), .val (.int p4), .unset, .unset, .unset, .unset, .unset, .unset, .unset, .unset] [(.ref pa)])) _
    refine XS.dup X1.here hx rfl (hb hby at_4) rfl rfl ?_
    show Steps p.tables e below (T1.setTop (mkF m 5 #[.val (.long q1), .second, .val (.int p2), .val (.int p3), .val (.int p4), .unset, .unset, .unset, .unset, .unset, .unset, .unset, .unset] [(.ref pa), (.ref pa)])) _
    refine XS.iconst X1.here hx rfl (hb hby at_5) ?_
    show Steps p.tables e below (T1.setTop (mkF m 6 #[.val (.long q1), .second, .val (.int p2), .val (.int p3), .val (.int p4), .unset, .unset, .unset, .unset, .unset, .unset, .unset, .unset] [(.int (0 : Int32)), (.ref pa), (.ref pa)])) _
    refine XS.lconst X1.here hx rfl (hb hby at_6) ?_
    show Steps p.tables e below (T1.setTop (mkF m 7 #[.val (.long q1), .second, .val (.int p2), .val (.int p3), .val (.int p4), .unset, .unset, .unset, .unset, .unset, .unset, .unset, .unset] [(.long (1 : Int64)), (.int (0 : Int32)), (.ref pa), (.ref pa)])) _
    refine st3 _ ?_
    show Steps p.tables e below (T3.setTop (mkF m 8 #[.val (.long q1), .second, .val (.int p2), .val (.int p3), .val (.int p4), .unset, .unset, .unset, .unset, .unset, .unset, .unset, .unset] [(.ref pa)])) _
    refine XS.dup X3.here hx rfl (hb hby at_8) rfl rfl ?_
    show Steps p.tables e below (T3.setTop (mkF m 9 #[.val (.long q1), .second, .val (.int p2), .val (.int p3), .val (.int p4), .unset, .unset, .unset, .unset, .unset, .unset, .unset, .unset] [(.ref pa), (.ref pa)])) _
    refine XS.iconst X3.here hx rfl (hb hby at_9) ?_
    show Steps p.tables e below (T3.setTop (mkF m 10 #[.val (.long q1), .second, .val (.int p2), .val (.int p3), .val (.int p4), .unset, .unset, .unset, .unset, .unset, .unset, .unset, .unset] [(.int (1 : Int32)), (.ref pa), (.ref pa)])) _
    refine X3.ldc2Long hx hown (mvT hZ (hw _ (List.mem_of_getElem? (i := 1) rfl))) (g := (mkF m 10 #[.val (.long q1), .second, .val (.int p2), .val (.int p3), .val (.int p4), .unset, .unset, .unset, .unset, .unset, .unset, .unset, .unset] [(.int (1 : Int32)), (.ref pa), (.ref pa)])) rfl (hb hby at_10) _ ?_
    show Steps p.tables e below (T3.setTop (mkF m 13 #[.val (.long q1), .second, .val (.int p2), .val (.int p3), .val (.int p4), .unset, .unset, .unset, .unset, .unset, .unset, .unset, .unset] [(.long (10 : Int64)), (.int (1 : Int32)), (.ref pa), (.ref pa)])) _
    refine st5 _ ?_
    show Steps p.tables e below (T5.setTop (mkF m 14 #[.val (.long q1), .second, .val (.int p2), .val (.int p3), .val (.int p4), .unset, .unset, .unset, .unset, .unset, .unset, .unset, .unset] [(.ref pa)])) _
    refine XS.dup X5.here hx rfl (hb hby at_14) rfl rfl ?_
    show Steps p.tables e below (T5.setTop (mkF m 15 #[.val (.long q1), .second, .val (.int p2), .val (.int p3), .val (.int p4), .unset, .unset, .unset, .unset, .unset, .unset, .unset, .unset] [(.ref pa), (.ref pa)])) _
    refine XS.iconst X5.here hx rfl (hb hby at_15) ?_
    show Steps p.tables e below (T5.setTop (mkF m 16 #[.val (.long q1), .second, .val (.int p2), .val (.int p3), .val (.int p4), .unset, .unset, .unset, .unset, .unset, .unset, .unset, .unset] [(.int (2 : Int32)), (.ref pa), (.ref pa)])) _
    refine X5.ldc2Long hx hown (mvT hZ (hw _ (List.mem_of_getElem? (i := 2) rfl))) (g := (mkF m 16 #[.val (.long q1), .second, .val (.int p2), .val (.int p3), .val (.int p4), .unset, .unset, .unset, .unset, .unset, .unset, .unset, .unset] [(.int (2 : Int32)), (.ref pa), (.ref pa)])) rfl (hb hby at_16) _ ?_
    show Steps p.tables e below (T5.setTop (mkF m 19 #[.val (.long q1), .second, .val (.int p2), .val (.int p3), .val (.int p4), .unset, .unset, .unset, .unset, .unset, .unset, .unset, .unset] [(.long (100 : Int64)), (.int (2 : Int32)), (.ref pa), (.ref pa)])) _
    refine st7 _ ?_
    show Steps p.tables e below (T7.setTop (mkF m 20 #[.val (.long q1), .second, .val (.int p2), .val (.int p3), .val (.int p4), .unset, .unset, .unset, .unset, .unset, .unset, .unset, .unset] [(.ref pa)])) _
    refine XS.dup X7.here hx rfl (hb hby at_20) rfl rfl ?_
    show Steps p.tables e below (T7.setTop (mkF m 21 #[.val (.long q1), .second, .val (.int p2), .val (.int p3), .val (.int p4), .unset, .unset, .unset, .unset, .unset, .unset, .unset, .unset] [(.ref pa), (.ref pa)])) _
    refine XS.iconst X7.here hx rfl (hb hby at_21) ?_
    show Steps p.tables e below (T7.setTop (mkF m 22 #[.val (.long q1), .second, .val (.int p2), .val (.int p3), .val (.int p4), .unset, .unset, .unset, .unset, .unset, .unset, .unset, .unset] [(.int (3 : Int32)), (.ref pa), (.ref pa)])) _
    refine X7.ldc2Long hx hown (mvT hZ (hw _ (List.mem_of_getElem? (i := 3) rfl))) (g := (mkF m 22 #[.val (.long q1), .second, .val (.int p2), .val (.int p3), .val (.int p4), .unset, .unset, .unset, .unset, .unset, .unset, .unset, .unset] [(.int (3 : Int32)), (.ref pa), (.ref pa)])) rfl (hb hby at_22) _ ?_
    show Steps p.tables e below (T7.setTop (mkF m 25 #[.val (.long q1), .second, .val (.int p2), .val (.int p3), .val (.int p4), .unset, .unset, .unset, .unset, .unset, .unset, .unset, .unset] [(.long (1000 : Int64)), (.int (3 : Int32)), (.ref pa), (.ref pa)])) _
    refine st9 _ ?_
    show Steps p.tables e below (T9.setTop (mkF m 26 #[.val (.long q1), .second, .val (.int p2), .val (.int p3), .val (.int p4), .unset, .unset, .unset, .unset, .unset, .unset, .unset, .unset] [(.ref pa)])) _
    refine XS.dup X9.here hx rfl (hb hby at_26) rfl rfl ?_
    show Steps p.tables e below (T9.setTop (mkF m 27 #[.val (.long q1), .second, .val (.int p2), .val (.int p3), .val (.int p4), .unset, .unset, .unset, .unset, .unset, .unset, .unset, .unset] [(.ref pa), (.ref pa)])) _
    refine XS.iconst X9.here hx rfl (hb hby at_27) ?_
    show Steps p.tables e below (T9.setTop (mkF m 28 #[.val (.long q1), .second, .val (.int p2), .val (.int p3), .val (.int p4), .unset, .unset, .unset, .unset, .unset, .unset, .unset, .unset] [(.int (4 : Int32)), (.ref pa), (.ref pa)])) _
    refine X9.ldc2Long hx hown (mvT hZ (hw _ (List.mem_of_getElem? (i := 4) rfl))) (g := (mkF m 28 #[.val (.long q1), .second, .val (.int p2), .val (.int p3), .val (.int p4), .unset, .unset, .unset, .unset, .unset, .unset, .unset, .unset] [(.int (4 : Int32)), (.ref pa), (.ref pa)])) rfl (hb hby at_28) _ ?_
    show Steps p.tables e below (T9.setTop (mkF m 31 #[.val (.long q1), .second, .val (.int p2), .val (.int p3), .val (.int p4), .unset, .unset, .unset, .unset, .unset, .unset, .unset, .unset] [(.long (10000 : Int64)), (.int (4 : Int32)), (.ref pa), (.ref pa)])) _
    refine st11 _ ?_
    show Steps p.tables e below (T11.setTop (mkF m 32 #[.val (.long q1), .second, .val (.int p2), .val (.int p3), .val (.int p4), .unset, .unset, .unset, .unset, .unset, .unset, .unset, .unset] [(.ref pa)])) _
    refine XS.dup X11.here hx rfl (hb hby at_32) rfl rfl ?_
    show Steps p.tables e below (T11.setTop (mkF m 33 #[.val (.long q1), .second, .val (.int p2), .val (.int p3), .val (.int p4), .unset, .unset, .unset, .unset, .unset, .unset, .unset, .unset] [(.ref pa), (.ref pa)])) _
    refine XS.iconst X11.here hx rfl (hb hby at_33) ?_
    show Steps p.tables e below (T11.setTop (mkF m 34 #[.val (.long q1), .second, .val (.int p2), .val (.int p3), .val (.int p4), .unset, .unset, .unset, .unset, .unset, .unset, .unset, .unset] [(.int (5 : Int32)), (.ref pa), (.ref pa)])) _
    refine X11.ldc2Long hx hown (mvT hZ (hw _ (List.mem_of_getElem? (i := 5) rfl))) (g := (mkF m 34 #[.val (.long q1), .second, .val (.int p2), .val (.int p3), .val (.int p4), .unset, .unset, .unset, .unset, .unset, .unset, .unset, .unset] [(.int (5 : Int32)), (.ref pa), (.ref pa)])) rfl (hb hby at_34) _ ?_
    show Steps p.tables e below (T11.setTop (mkF m 37 #[.val (.long q1), .second, .val (.int p2), .val (.int p3), .val (.int p4), .unset, .unset, .unset, .unset, .unset, .unset, .unset, .unset] [(.long (100000 : Int64)), (.int (5 : Int32)), (.ref pa), (.ref pa)])) _
    refine st13 _ ?_
    show Steps p.tables e below (T13.setTop (mkF m 38 #[.val (.long q1), .second, .val (.int p2), .val (.int p3), .val (.int p4), .unset, .unset, .unset, .unset, .unset, .unset, .unset, .unset] [(.ref pa)])) _
    refine XS.dup X13.here hx rfl (hb hby at_38) rfl rfl ?_
    show Steps p.tables e below (T13.setTop (mkF m 39 #[.val (.long q1), .second, .val (.int p2), .val (.int p3), .val (.int p4), .unset, .unset, .unset, .unset, .unset, .unset, .unset, .unset] [(.ref pa), (.ref pa)])) _
    refine XS.bipush X13.here hx rfl (hb hby at_39) ?_
    show Steps p.tables e below (T13.setTop (mkF m 41 #[.val (.long q1), .second, .val (.int p2), .val (.int p3), .val (.int p4), .unset, .unset, .unset, .unset, .unset, .unset, .unset, .unset] [(.int (6 : Int32)), (.ref pa), (.ref pa)])) _
    refine X13.ldc2Long hx hown (mvT hZ (hw _ (List.mem_of_getElem? (i := 6) rfl))) (g := (mkF m 41 #[.val (.long q1), .second, .val (.int p2), .val (.int p3), .val (.int p4), .unset, .unset, .unset, .unset, .unset, .unset, .unset, .unset] [(.int (6 : Int32)), (.ref pa), (.ref pa)])) rfl (hb hby at_41) _ ?_
    show Steps p.tables e below (T13.setTop (mkF m 44 #[.val (.long q1), .second, .val (.int p2), .val (.int p3), .val (.int p4), .unset, .unset, .unset, .unset, .unset, .unset, .unset, .unset] [(.long (1000000 : Int64)), (.int (6 : Int32)), (.ref pa), (.ref pa)])) _
    refine st15 _ ?_
    show Steps p.tables e below (T15.setTop (mkF m 45 #[.val (.long q1), .second, .val (.int p2), .val (.int p3), .val (.int p4), .unset, .unset, .unset, .unset, .unset, .unset, .unset, .unset] [(.ref pa)])) _
    refine XS.dup X15.here hx rfl (hb hby at_45) rfl rfl ?_
    show Steps p.tables e below (T15.setTop (mkF m 46 #[.val (.long q1), .second, .val (.int p2), .val (.int p3), .val (.int p4), .unset, .unset, .unset, .unset, .unset, .unset, .unset, .unset] [(.ref pa), (.ref pa)])) _
    refine XS.bipush X15.here hx rfl (hb hby at_46) ?_
    show Steps p.tables e below (T15.setTop (mkF m 48 #[.val (.long q1), .second, .val (.int p2), .val (.int p3), .val (.int p4), .unset, .unset, .unset, .unset, .unset, .unset, .unset, .unset] [(.int (7 : Int32)), (.ref pa), (.ref pa)])) _
    refine X15.ldc2Long hx hown (mvT hZ (hw _ (List.mem_of_getElem? (i := 7) rfl))) (g := (mkF m 48 #[.val (.long q1), .second, .val (.int p2), .val (.int p3), .val (.int p4), .unset, .unset, .unset, .unset, .unset, .unset, .unset, .unset] [(.int (7 : Int32)), (.ref pa), (.ref pa)])) rfl (hb hby at_48) _ ?_
    show Steps p.tables e below (T15.setTop (mkF m 51 #[.val (.long q1), .second, .val (.int p2), .val (.int p3), .val (.int p4), .unset, .unset, .unset, .unset, .unset, .unset, .unset, .unset] [(.long (10000000 : Int64)), (.int (7 : Int32)), (.ref pa), (.ref pa)])) _
    refine st17 _ ?_
    show Steps p.tables e below (T17.setTop (mkF m 52 #[.val (.long q1), .second, .val (.int p2), .val (.int p3), .val (.int p4), .unset, .unset, .unset, .unset, .unset, .unset, .unset, .unset] [(.ref pa)])) _
    refine XS.dup X17.here hx rfl (hb hby at_52) rfl rfl ?_
    show Steps p.tables e below (T17.setTop (mkF m 53 #[.val (.long q1), .second, .val (.int p2), .val (.int p3), .val (.int p4), .unset, .unset, .unset, .unset, .unset, .unset, .unset, .unset] [(.ref pa), (.ref pa)])) _
    refine XS.bipush X17.here hx rfl (hb hby at_53) ?_
    show Steps p.tables e below (T17.setTop (mkF m 55 #[.val (.long q1), .second, .val (.int p2), .val (.int p3), .val (.int p4), .unset, .unset, .unset, .unset, .unset, .unset, .unset, .unset] [(.int (8 : Int32)), (.ref pa), (.ref pa)])) _
    refine X17.ldc2Long hx hown (mvT hZ (hw _ (List.mem_of_getElem? (i := 8) rfl))) (g := (mkF m 55 #[.val (.long q1), .second, .val (.int p2), .val (.int p3), .val (.int p4), .unset, .unset, .unset, .unset, .unset, .unset, .unset, .unset] [(.int (8 : Int32)), (.ref pa), (.ref pa)])) rfl (hb hby at_55) _ ?_
    show Steps p.tables e below (T17.setTop (mkF m 58 #[.val (.long q1), .second, .val (.int p2), .val (.int p3), .val (.int p4), .unset, .unset, .unset, .unset, .unset, .unset, .unset, .unset] [(.long (100000000 : Int64)), (.int (8 : Int32)), (.ref pa), (.ref pa)])) _
    refine st19 _ ?_
    show Steps p.tables e below (T19.setTop (mkF m 59 #[.val (.long q1), .second, .val (.int p2), .val (.int p3), .val (.int p4), .unset, .unset, .unset, .unset, .unset, .unset, .unset, .unset] [(.ref pa)])) _
    refine XS.dup X19.here hx rfl (hb hby at_59) rfl rfl ?_
    show Steps p.tables e below (T19.setTop (mkF m 60 #[.val (.long q1), .second, .val (.int p2), .val (.int p3), .val (.int p4), .unset, .unset, .unset, .unset, .unset, .unset, .unset, .unset] [(.ref pa), (.ref pa)])) _
    refine XS.bipush X19.here hx rfl (hb hby at_60) ?_
    show Steps p.tables e below (T19.setTop (mkF m 62 #[.val (.long q1), .second, .val (.int p2), .val (.int p3), .val (.int p4), .unset, .unset, .unset, .unset, .unset, .unset, .unset, .unset] [(.int (9 : Int32)), (.ref pa), (.ref pa)])) _
    refine X19.ldc2Long hx hown (mvT hZ (hw _ (List.mem_of_getElem? (i := 9) rfl))) (g := (mkF m 62 #[.val (.long q1), .second, .val (.int p2), .val (.int p3), .val (.int p4), .unset, .unset, .unset, .unset, .unset, .unset, .unset, .unset] [(.int (9 : Int32)), (.ref pa), (.ref pa)])) rfl (hb hby at_62) _ ?_
    show Steps p.tables e below (T19.setTop (mkF m 65 #[.val (.long q1), .second, .val (.int p2), .val (.int p3), .val (.int p4), .unset, .unset, .unset, .unset, .unset, .unset, .unset, .unset] [(.long (1000000000 : Int64)), (.int (9 : Int32)), (.ref pa), (.ref pa)])) _
    refine st21 _ ?_
    show Steps p.tables e below (T21.setTop (mkF m 66 #[.val (.long q1), .second, .val (.int p2), .val (.int p3), .val (.int p4), .unset, .unset, .unset, .unset, .unset, .unset, .unset, .unset] [(.ref pa)])) _
    refine XS.dup X21.here hx rfl (hb hby at_66) rfl rfl ?_
    show Steps p.tables e below (T21.setTop (mkF m 67 #[.val (.long q1), .second, .val (.int p2), .val (.int p3), .val (.int p4), .unset, .unset, .unset, .unset, .unset, .unset, .unset, .unset] [(.ref pa), (.ref pa)])) _
    refine XS.bipush X21.here hx rfl (hb hby at_67) ?_
    show Steps p.tables e below (T21.setTop (mkF m 69 #[.val (.long q1), .second, .val (.int p2), .val (.int p3), .val (.int p4), .unset, .unset, .unset, .unset, .unset, .unset, .unset, .unset] [(.int (10 : Int32)), (.ref pa), (.ref pa)])) _
    refine X21.ldc2Long hx hown (mvT hZ (hw _ (List.mem_of_getElem? (i := 10) rfl))) (g := (mkF m 69 #[.val (.long q1), .second, .val (.int p2), .val (.int p3), .val (.int p4), .unset, .unset, .unset, .unset, .unset, .unset, .unset, .unset] [(.int (10 : Int32)), (.ref pa), (.ref pa)])) rfl (hb hby at_69) _ ?_
    show Steps p.tables e below (T21.setTop (mkF m 72 #[.val (.long q1), .second, .val (.int p2), .val (.int p3), .val (.int p4), .unset, .unset, .unset, .unset, .unset, .unset, .unset, .unset] [(.long (10000000000 : Int64)), (.int (10 : Int32)), (.ref pa), (.ref pa)])) _
    refine st23 _ ?_
    show Steps p.tables e below (T23.setTop (mkF m 73 #[.val (.long q1), .second, .val (.int p2), .val (.int p3), .val (.int p4), .unset, .unset, .unset, .unset, .unset, .unset, .unset, .unset] [(.ref pa)])) _
    refine XS.dup X23.here hx rfl (hb hby at_73) rfl rfl ?_
    show Steps p.tables e below (T23.setTop (mkF m 74 #[.val (.long q1), .second, .val (.int p2), .val (.int p3), .val (.int p4), .unset, .unset, .unset, .unset, .unset, .unset, .unset, .unset] [(.ref pa), (.ref pa)])) _
    refine XS.bipush X23.here hx rfl (hb hby at_74) ?_
    show Steps p.tables e below (T23.setTop (mkF m 76 #[.val (.long q1), .second, .val (.int p2), .val (.int p3), .val (.int p4), .unset, .unset, .unset, .unset, .unset, .unset, .unset, .unset] [(.int (11 : Int32)), (.ref pa), (.ref pa)])) _
    refine X23.ldc2Long hx hown (mvT hZ (hw _ (List.mem_of_getElem? (i := 11) rfl))) (g := (mkF m 76 #[.val (.long q1), .second, .val (.int p2), .val (.int p3), .val (.int p4), .unset, .unset, .unset, .unset, .unset, .unset, .unset, .unset] [(.int (11 : Int32)), (.ref pa), (.ref pa)])) rfl (hb hby at_76) _ ?_
    show Steps p.tables e below (T23.setTop (mkF m 79 #[.val (.long q1), .second, .val (.int p2), .val (.int p3), .val (.int p4), .unset, .unset, .unset, .unset, .unset, .unset, .unset, .unset] [(.long (100000000000 : Int64)), (.int (11 : Int32)), (.ref pa), (.ref pa)])) _
    refine st25 _ ?_
    show Steps p.tables e below (T25.setTop (mkF m 80 #[.val (.long q1), .second, .val (.int p2), .val (.int p3), .val (.int p4), .unset, .unset, .unset, .unset, .unset, .unset, .unset, .unset] [(.ref pa)])) _
    refine XS.dup X25.here hx rfl (hb hby at_80) rfl rfl ?_
    show Steps p.tables e below (T25.setTop (mkF m 81 #[.val (.long q1), .second, .val (.int p2), .val (.int p3), .val (.int p4), .unset, .unset, .unset, .unset, .unset, .unset, .unset, .unset] [(.ref pa), (.ref pa)])) _
    refine XS.bipush X25.here hx rfl (hb hby at_81) ?_
    show Steps p.tables e below (T25.setTop (mkF m 83 #[.val (.long q1), .second, .val (.int p2), .val (.int p3), .val (.int p4), .unset, .unset, .unset, .unset, .unset, .unset, .unset, .unset] [(.int (12 : Int32)), (.ref pa), (.ref pa)])) _
    refine X25.ldc2Long hx hown (mvT hZ (hw _ (List.mem_of_getElem? (i := 12) rfl))) (g := (mkF m 83 #[.val (.long q1), .second, .val (.int p2), .val (.int p3), .val (.int p4), .unset, .unset, .unset, .unset, .unset, .unset, .unset, .unset] [(.int (12 : Int32)), (.ref pa), (.ref pa)])) rfl (hb hby at_83) _ ?_
    show Steps p.tables e below (T25.setTop (mkF m 86 #[.val (.long q1), .second, .val (.int p2), .val (.int p3), .val (.int p4), .unset, .unset, .unset, .unset, .unset, .unset, .unset, .unset] [(.long (1000000000000 : Int64)), (.int (12 : Int32)), (.ref pa), (.ref pa)])) _
    refine st27 _ ?_
    show Steps p.tables e below (T27.setTop (mkF m 87 #[.val (.long q1), .second, .val (.int p2), .val (.int p3), .val (.int p4), .unset, .unset, .unset, .unset, .unset, .unset, .unset, .unset] [(.ref pa)])) _
    refine XS.dup X27.here hx rfl (hb hby at_87) rfl rfl ?_
    show Steps p.tables e below (T27.setTop (mkF m 88 #[.val (.long q1), .second, .val (.int p2), .val (.int p3), .val (.int p4), .unset, .unset, .unset, .unset, .unset, .unset, .unset, .unset] [(.ref pa), (.ref pa)])) _
    refine XS.bipush X27.here hx rfl (hb hby at_88) ?_
    show Steps p.tables e below (T27.setTop (mkF m 90 #[.val (.long q1), .second, .val (.int p2), .val (.int p3), .val (.int p4), .unset, .unset, .unset, .unset, .unset, .unset, .unset, .unset] [(.int (13 : Int32)), (.ref pa), (.ref pa)])) _
    refine X27.ldc2Long hx hown (mvT hZ (hw _ (List.mem_of_getElem? (i := 13) rfl))) (g := (mkF m 90 #[.val (.long q1), .second, .val (.int p2), .val (.int p3), .val (.int p4), .unset, .unset, .unset, .unset, .unset, .unset, .unset, .unset] [(.int (13 : Int32)), (.ref pa), (.ref pa)])) rfl (hb hby at_90) _ ?_
    show Steps p.tables e below (T27.setTop (mkF m 93 #[.val (.long q1), .second, .val (.int p2), .val (.int p3), .val (.int p4), .unset, .unset, .unset, .unset, .unset, .unset, .unset, .unset] [(.long (10000000000000 : Int64)), (.int (13 : Int32)), (.ref pa), (.ref pa)])) _
    refine st29 _ ?_
    show Steps p.tables e below (T29.setTop (mkF m 94 #[.val (.long q1), .second, .val (.int p2), .val (.int p3), .val (.int p4), .unset, .unset, .unset, .unset, .unset, .unset, .unset, .unset] [(.ref pa)])) _
    refine XS.dup X29.here hx rfl (hb hby at_94) rfl rfl ?_
    show Steps p.tables e below (T29.setTop (mkF m 95 #[.val (.long q1), .second, .val (.int p2), .val (.int p3), .val (.int p4), .unset, .unset, .unset, .unset, .unset, .unset, .unset, .unset] [(.ref pa), (.ref pa)])) _
    refine XS.bipush X29.here hx rfl (hb hby at_95) ?_
    show Steps p.tables e below (T29.setTop (mkF m 97 #[.val (.long q1), .second, .val (.int p2), .val (.int p3), .val (.int p4), .unset, .unset, .unset, .unset, .unset, .unset, .unset, .unset] [(.int (14 : Int32)), (.ref pa), (.ref pa)])) _
    refine X29.ldc2Long hx hown (mvT hZ (hw _ (List.mem_of_getElem? (i := 14) rfl))) (g := (mkF m 97 #[.val (.long q1), .second, .val (.int p2), .val (.int p3), .val (.int p4), .unset, .unset, .unset, .unset, .unset, .unset, .unset, .unset] [(.int (14 : Int32)), (.ref pa), (.ref pa)])) rfl (hb hby at_97) _ ?_
    show Steps p.tables e below (T29.setTop (mkF m 100 #[.val (.long q1), .second, .val (.int p2), .val (.int p3), .val (.int p4), .unset, .unset, .unset, .unset, .unset, .unset, .unset, .unset] [(.long (100000000000000 : Int64)), (.int (14 : Int32)), (.ref pa), (.ref pa)])) _
    refine st31 _ ?_
    show Steps p.tables e below (T31.setTop (mkF m 101 #[.val (.long q1), .second, .val (.int p2), .val (.int p3), .val (.int p4), .unset, .unset, .unset, .unset, .unset, .unset, .unset, .unset] [(.ref pa)])) _
    refine XS.dup X31.here hx rfl (hb hby at_101) rfl rfl ?_
    show Steps p.tables e below (T31.setTop (mkF m 102 #[.val (.long q1), .second, .val (.int p2), .val (.int p3), .val (.int p4), .unset, .unset, .unset, .unset, .unset, .unset, .unset, .unset] [(.ref pa), (.ref pa)])) _
    refine XS.bipush X31.here hx rfl (hb hby at_102) ?_
    show Steps p.tables e below (T31.setTop (mkF m 104 #[.val (.long q1), .second, .val (.int p2), .val (.int p3), .val (.int p4), .unset, .unset, .unset, .unset, .unset, .unset, .unset, .unset] [(.int (15 : Int32)), (.ref pa), (.ref pa)])) _
    refine X31.ldc2Long hx hown (mvT hZ (hw _ (List.mem_of_getElem? (i := 15) rfl))) (g := (mkF m 104 #[.val (.long q1), .second, .val (.int p2), .val (.int p3), .val (.int p4), .unset, .unset, .unset, .unset, .unset, .unset, .unset, .unset] [(.int (15 : Int32)), (.ref pa), (.ref pa)])) rfl (hb hby at_104) _ ?_
    show Steps p.tables e below (T31.setTop (mkF m 107 #[.val (.long q1), .second, .val (.int p2), .val (.int p3), .val (.int p4), .unset, .unset, .unset, .unset, .unset, .unset, .unset, .unset] [(.long (1000000000000000 : Int64)), (.int (15 : Int32)), (.ref pa), (.ref pa)])) _
    refine st33 _ ?_
    show Steps p.tables e below (T33.setTop (mkF m 108 #[.val (.long q1), .second, .val (.int p2), .val (.int p3), .val (.int p4), .unset, .unset, .unset, .unset, .unset, .unset, .unset, .unset] [(.ref pa)])) _
    refine XS.dup X33.here hx rfl (hb hby at_108) rfl rfl ?_
    show Steps p.tables e below (T33.setTop (mkF m 109 #[.val (.long q1), .second, .val (.int p2), .val (.int p3), .val (.int p4), .unset, .unset, .unset, .unset, .unset, .unset, .unset, .unset] [(.ref pa), (.ref pa)])) _
    refine XS.bipush X33.here hx rfl (hb hby at_109) ?_
    show Steps p.tables e below (T33.setTop (mkF m 111 #[.val (.long q1), .second, .val (.int p2), .val (.int p3), .val (.int p4), .unset, .unset, .unset, .unset, .unset, .unset, .unset, .unset] [(.int (16 : Int32)), (.ref pa), (.ref pa)])) _
    refine X33.ldc2Long hx hown (mvT hZ (hw _ (List.mem_of_getElem? (i := 16) rfl))) (g := (mkF m 111 #[.val (.long q1), .second, .val (.int p2), .val (.int p3), .val (.int p4), .unset, .unset, .unset, .unset, .unset, .unset, .unset, .unset] [(.int (16 : Int32)), (.ref pa), (.ref pa)])) rfl (hb hby at_111) _ ?_
    show Steps p.tables e below (T33.setTop (mkF m 114 #[.val (.long q1), .second, .val (.int p2), .val (.int p3), .val (.int p4), .unset, .unset, .unset, .unset, .unset, .unset, .unset, .unset] [(.long (10000000000000000 : Int64)), (.int (16 : Int32)), (.ref pa), (.ref pa)])) _
    refine st35 _ ?_
    show Steps p.tables e below (T35.setTop (mkF m 115 #[.val (.long q1), .second, .val (.int p2), .val (.int p3), .val (.int p4), .unset, .unset, .unset, .unset, .unset, .unset, .unset, .unset] [(.ref pa)])) _
    refine XS.dup X35.here hx rfl (hb hby at_115) rfl rfl ?_
    show Steps p.tables e below (T35.setTop (mkF m 116 #[.val (.long q1), .second, .val (.int p2), .val (.int p3), .val (.int p4), .unset, .unset, .unset, .unset, .unset, .unset, .unset, .unset] [(.ref pa), (.ref pa)])) _
    refine XS.bipush X35.here hx rfl (hb hby at_116) ?_
    show Steps p.tables e below (T35.setTop (mkF m 118 #[.val (.long q1), .second, .val (.int p2), .val (.int p3), .val (.int p4), .unset, .unset, .unset, .unset, .unset, .unset, .unset, .unset] [(.int (17 : Int32)), (.ref pa), (.ref pa)])) _
    refine X35.ldc2Long hx hown (mvT hZ (hw _ (List.mem_of_getElem? (i := 17) rfl))) (g := (mkF m 118 #[.val (.long q1), .second, .val (.int p2), .val (.int p3), .val (.int p4), .unset, .unset, .unset, .unset, .unset, .unset, .unset, .unset] [(.int (17 : Int32)), (.ref pa), (.ref pa)])) rfl (hb hby at_118) _ ?_
    show Steps p.tables e below (T35.setTop (mkF m 121 #[.val (.long q1), .second, .val (.int p2), .val (.int p3), .val (.int p4), .unset, .unset, .unset, .unset, .unset, .unset, .unset, .unset] [(.long (100000000000000000 : Int64)), (.int (17 : Int32)), (.ref pa), (.ref pa)])) _
    refine st37 _ ?_
    show Steps p.tables e below (T37.setTop (mkF m 122 #[.val (.long q1), .second, .val (.int p2), .val (.int p3), .val (.int p4), .unset, .unset, .unset, .unset, .unset, .unset, .unset, .unset] [(.ref pa)])) _
    refine XS.dup X37.here hx rfl (hb hby at_122) rfl rfl ?_
    show Steps p.tables e below (T37.setTop (mkF m 123 #[.val (.long q1), .second, .val (.int p2), .val (.int p3), .val (.int p4), .unset, .unset, .unset, .unset, .unset, .unset, .unset, .unset] [(.ref pa), (.ref pa)])) _
    refine XS.bipush X37.here hx rfl (hb hby at_123) ?_
    show Steps p.tables e below (T37.setTop (mkF m 125 #[.val (.long q1), .second, .val (.int p2), .val (.int p3), .val (.int p4), .unset, .unset, .unset, .unset, .unset, .unset, .unset, .unset] [(.int (18 : Int32)), (.ref pa), (.ref pa)])) _
    refine X37.ldc2Long hx hown (mvT hZ (hw _ (List.mem_of_getElem? (i := 18) rfl))) (g := (mkF m 125 #[.val (.long q1), .second, .val (.int p2), .val (.int p3), .val (.int p4), .unset, .unset, .unset, .unset, .unset, .unset, .unset, .unset] [(.int (18 : Int32)), (.ref pa), (.ref pa)])) rfl (hb hby at_125) _ ?_
    show Steps p.tables e below (T37.setTop (mkF m 128 #[.val (.long q1), .second, .val (.int p2), .val (.int p3), .val (.int p4), .unset, .unset, .unset, .unset, .unset, .unset, .unset, .unset] [(.long (1000000000000000000 : Int64)), (.int (18 : Int32)), (.ref pa), (.ref pa)])) _
    refine st39 _ ?_
    show Steps p.tables e below (T39.setTop (mkF m 129 #[.val (.long q1), .second, .val (.int p2), .val (.int p3), .val (.int p4), .unset, .unset, .unset, .unset, .unset, .unset, .unset, .unset] [(.ref pa)])) _
    refine XS.astore X39.here hx rfl (hb hby at_129) rfl rfl (l' := #[.val (.long q1), .second, .val (.int p2), .val (.int p3), .val (.int p4), .val (.ref pa), .unset, .unset, .unset, .unset, .unset, .unset, .unset]) rfl ?_
    show Steps p.tables e below (T39.setTop (mkF m 131 #[.val (.long q1), .second, .val (.int p2), .val (.int p3), .val (.int p4), .val (.ref pa), .unset, .unset, .unset, .unset, .unset, .unset, .unset] [])) _
    refine XS.lloadN X39.here hx rfl (hb hby at_131) rfl ?_
    show Steps p.tables e below (T39.setTop (mkF m 132 #[.val (.long q1), .second, .val (.int p2), .val (.int p3), .val (.int p4), .val (.ref pa), .unset, .unset, .unset, .unset, .unset, .unset, .unset] [(.long q1)])) _
    refine X39.ldc2Long hx hown (mvT hZ (hw _ (List.mem_of_getElem? (i := 19) rfl))) (g := (mkF m 132 #[.val (.long q1), .second, .val (.int p2), .val (.int p3), .val (.int p4), .val (.ref pa), .unset, .unset, .unset, .unset, .unset, .unset, .unset] [(.long q1)])) rfl (hb hby at_132) _ ?_
    show Steps p.tables e below (T39.setTop (mkF m 135 #[.val (.long q1), .second, .val (.int p2), .val (.int p3), .val (.int p4), .val (.ref pa), .unset, .unset, .unset, .unset, .unset, .unset, .unset] [(.long (9223372036854775807 : Int64)), (.long q1)])) _
    refine XS.land X39.here hx rfl (hb hby at_135) rfl ?_
    show Steps p.tables e below (T39.setTop (mkF m 136 #[.val (.long q1), .second, .val (.int p2), .val (.int p3), .val (.int p4), .val (.ref pa), .unset, .unset, .unset, .unset, .unset, .unset, .unset] [(.long (q1 &&& (9223372036854775807 : Int64)))])) _
    refine XS.aload X39.here hx rfl (hb hby at_136) rfl rfl ?_
    show Steps p.tables e below (T39.setTop (mkF m 138 #[.val (.long q1), .second, .val (.int p2), .val (.int p3), .val (.int p4), .val (.ref pa), .unset, .unset, .unset, .unset, .unset, .unset, .unset] [(.ref pa), (.long (q1 &&& (9223372036854775807 : Int64)))])) _
    refine XS.bipush X39.here hx rfl (hb hby at_138) ?_
    show Steps p.tables e below (T39.setTop (mkF m 140 #[.val (.long q1), .second, .val (.int p2), .val (.int p3), .val (.int p4), .val (.ref pa), .unset, .unset, .unset, .unset, .unset, .unset, .unset] [(.int (18 : Int32)), (.ref pa), (.long (q1 &&& (9223372036854775807 : Int64)))])) _
    refine X39.laload hx (j := (18 : Int32)) (v := (.long (1000000000000000000 : Int64))) (by rw [e39]; exact Ar40.1) (State.isArrayOf_alike hZ.alike Ar40.2.1) Ar40.2.2 hin40 hat40 (g := (mkF m 140 #[.val (.long q1), .second, .val (.int p2), .val (.int p3), .val (.int p4), .val (.ref pa), .unset, .unset, .unset, .unset, .unset, .unset, .unset] [(.int (18 : Int32)), (.ref pa), (.long (q1 &&& (9223372036854775807 : Int64)))])) rfl rfl (hb hby at_140) _ ?_
    show Steps p.tables e below (T39.setTop (mkF m 141 #[.val (.long q1), .second, .val (.int p2), .val (.int p3), .val (.int p4), .val (.ref pa), .unset, .unset, .unset, .unset, .unset, .unset, .unset] [(.long (1000000000000000000 : Int64)), (.long (q1 &&& (9223372036854775807 : Int64)))])) _
    refine XS.lrem X39.here hx rfl (hb hby at_141) rfl (by decide) ?_
    rw [own_lrem (q1 &&& (9223372036854775807 : Int64)) (1000000000000000000 : Int64)]
    show Steps p.tables e below (T39.setTop (mkF m 142 #[.val (.long q1), .second, .val (.int p2), .val (.int p3), .val (.int p4), .val (.ref pa), .unset, .unset, .unset, .unset, .unset, .unset, .unset] [(.long ((q1 &&& (9223372036854775807 : Int64)) % (1000000000000000000 : Int64)))])) _
    refine XS.lstore X39.here hx rfl (hb hby at_142) rfl (l' := #[.val (.long q1), .second, .val (.int p2), .val (.int p3), .val (.int p4), .val (.ref pa), .val (.long ((q1 &&& (9223372036854775807 : Int64)) % (1000000000000000000 : Int64))), .second, .unset, .unset, .unset, .unset, .unset]) rfl ?_
    show Steps p.tables e below (T39.setTop (mkF m 144 #[.val (.long q1), .second, .val (.int p2), .val (.int p3), .val (.int p4), .val (.ref pa), .val (.long ((q1 &&& (9223372036854775807 : Int64)) % (1000000000000000000 : Int64))), .second, .unset, .unset, .unset, .unset, .unset] [])) _
    rw [← hn]
    show Steps p.tables e below (T39.setTop (mkF m 144 #[.val (.long q1), .second, .val (.int p2), .val (.int p3), .val (.int p4), .val (.ref pa), .val (.long n), .second, .unset, .unset, .unset, .unset, .unset] [])) _
    refine XS.bipush X39.here hx rfl (hb hby at_144) ?_
    show Steps p.tables e below (T39.setTop (mkF m 146 #[.val (.long q1), .second, .val (.int p2), .val (.int p3), .val (.int p4), .val (.ref pa), .val (.long n), .second, .unset, .unset, .unset, .unset, .unset] [(.int (20 : Int32))])) _
    refine st41 _ ?_
    show Steps p.tables e below (T41.setTop (mkF m 148 #[.val (.long q1), .second, .val (.int p2), .val (.int p3), .val (.int p4), .val (.ref pa), .val (.long n), .second, .unset, .unset, .unset, .unset, .unset] [(.ref bb)])) _
    refine XS.astore X41.here hx rfl (hb hby at_148) rfl rfl (l' := #[.val (.long q1), .second, .val (.int p2), .val (.int p3), .val (.int p4), .val (.ref pa), .val (.long n), .second, .val (.ref bb), .unset, .unset, .unset, .unset]) rfl ?_
    show Steps p.tables e below (T41.setTop (mkF m 150 #[.val (.long q1), .second, .val (.int p2), .val (.int p3), .val (.int p4), .val (.ref pa), .val (.long n), .second, .val (.ref bb), .unset, .unset, .unset, .unset] [])) _
    refine XS.aload X41.here hx rfl (hb hby at_150) rfl rfl ?_
    show Steps p.tables e below (T41.setTop (mkF m 152 #[.val (.long q1), .second, .val (.int p2), .val (.int p3), .val (.int p4), .val (.ref pa), .val (.long n), .second, .val (.ref bb), .unset, .unset, .unset, .unset] [(.ref bb)])) _
    refine XS.iconst X41.here hx rfl (hb hby at_152) ?_
    show Steps p.tables e below (T41.setTop (mkF m 153 #[.val (.long q1), .second, .val (.int p2), .val (.int p3), .val (.int p4), .val (.ref pa), .val (.long n), .second, .val (.ref bb), .unset, .unset, .unset, .unset] [(.int (0 : Int32)), (.ref bb)])) _
    refine XS.iload X41.here hx rfl (hb hby at_153) rfl ?_
    show Steps p.tables e below (T41.setTop (mkF m 155 #[.val (.long q1), .second, .val (.int p2), .val (.int p3), .val (.int p4), .val (.ref pa), .val (.long n), .second, .val (.ref bb), .unset, .unset, .unset, .unset] [(.int p4), (.int (0 : Int32)), (.ref bb)])) _
    refine XS.i2b X41.here hx rfl (hb hby at_155) rfl ?_
    show Steps p.tables e below (T41.setTop (mkF m 156 #[.val (.long q1), .second, .val (.int p2), .val (.int p3), .val (.int p4), .val (.ref pa), .val (.long n), .second, .val (.ref bb), .unset, .unset, .unset, .unset] [(.int (p4.toInt8.toInt32)), (.int (0 : Int32)), (.ref bb)])) _
    refine st44 _ ?_
    show Steps p.tables e below (T44.setTop (mkF m 157 #[.val (.long q1), .second, .val (.int p2), .val (.int p3), .val (.int p4), .val (.ref pa), .val (.long n), .second, .val (.ref bb), .unset, .unset, .unset, .unset] [])) _
    refine XS.aload X44.here hx rfl (hb hby at_157) rfl rfl ?_
    show Steps p.tables e below (T44.setTop (mkF m 159 #[.val (.long q1), .second, .val (.int p2), .val (.int p3), .val (.int p4), .val (.ref pa), .val (.long n), .second, .val (.ref bb), .unset, .unset, .unset, .unset] [(.ref bb)])) _
    refine XS.bipush X44.here hx rfl (hb hby at_159) ?_
    show Steps p.tables e below (T44.setTop (mkF m 161 #[.val (.long q1), .second, .val (.int p2), .val (.int p3), .val (.int p4), .val (.ref pa), .val (.long n), .second, .val (.ref bb), .unset, .unset, .unset, .unset] [(.int (19 : Int32)), (.ref bb)])) _
    refine XS.iload X44.here hx rfl (hb hby at_161) rfl ?_
    show Steps p.tables e below (T44.setTop (mkF m 163 #[.val (.long q1), .second, .val (.int p2), .val (.int p3), .val (.int p4), .val (.ref pa), .val (.long n), .second, .val (.ref bb), .unset, .unset, .unset, .unset] [(.int p4), (.int (19 : Int32)), (.ref bb)])) _
    refine XS.bipush X44.here hx rfl (hb hby at_163) ?_
    show Steps p.tables e below (T44.setTop (mkF m 165 #[.val (.long q1), .second, .val (.int p2), .val (.int p3), .val (.int p4), .val (.ref pa), .val (.long n), .second, .val (.ref bb), .unset, .unset, .unset, .unset] [(.int (8 : Int32)), (.int p4), (.int (19 : Int32)), (.ref bb)])) _
    refine XS.ishr X44.here hx rfl (hb hby at_165) rfl ?_
    show Steps p.tables e below (T44.setTop (mkF m 166 #[.val (.long q1), .second, .val (.int p2), .val (.int p3), .val (.int p4), .val (.ref pa), .val (.long n), .second, .val (.ref bb), .unset, .unset, .unset, .unset] [(.int (p4 >>> ((8 : Int32) &&& 31))), (.int (19 : Int32)), (.ref bb)])) _
    refine XS.i2b X44.here hx rfl (hb hby at_166) rfl ?_
    show Steps p.tables e below (T44.setTop (mkF m 167 #[.val (.long q1), .second, .val (.int p2), .val (.int p3), .val (.int p4), .val (.ref pa), .val (.long n), .second, .val (.ref bb), .unset, .unset, .unset, .unset] [(.int ((p4 >>> ((8 : Int32) &&& 31)).toInt8.toInt32)), (.int (19 : Int32)), (.ref bb)])) _
    refine st47 _ ?_
    show Steps p.tables e below (T47.setTop (mkF m 168 #[.val (.long q1), .second, .val (.int p2), .val (.int p3), .val (.int p4), .val (.ref pa), .val (.long n), .second, .val (.ref bb), .unset, .unset, .unset, .unset] [])) _
    refine XS.aload X47.here hx rfl (hb hby at_168) rfl rfl ?_
    show Steps p.tables e below (T47.setTop (mkF m 170 #[.val (.long q1), .second, .val (.int p2), .val (.int p3), .val (.int p4), .val (.ref pa), .val (.long n), .second, .val (.ref bb), .unset, .unset, .unset, .unset] [(.ref bb)])) _
    refine XS.iconst X47.here hx rfl (hb hby at_170) ?_
    show Steps p.tables e below (T47.setTop (mkF m 171 #[.val (.long q1), .second, .val (.int p2), .val (.int p3), .val (.int p4), .val (.ref pa), .val (.long n), .second, .val (.ref bb), .unset, .unset, .unset, .unset] [(.int (1 : Int32)), (.ref bb)])) _
    refine XS.aload X47.here hx rfl (hb hby at_171) rfl rfl ?_
    show Steps p.tables e below (T47.setTop (mkF m 173 #[.val (.long q1), .second, .val (.int p2), .val (.int p3), .val (.int p4), .val (.ref pa), .val (.long n), .second, .val (.ref bb), .unset, .unset, .unset, .unset] [(.ref pa), (.int (1 : Int32)), (.ref bb)])) _
    refine XS.lload X47.here hx rfl (hb hby at_173) rfl ?_
    show Steps p.tables e below (T47.setTop (mkF m 175 #[.val (.long q1), .second, .val (.int p2), .val (.int p3), .val (.int p4), .val (.ref pa), .val (.long n), .second, .val (.ref bb), .unset, .unset, .unset, .unset] [(.long n), (.ref pa), (.int (1 : Int32)), (.ref bb)])) _
    refine XS.iconst X47.here hx rfl (hb hby at_175) ?_
    show Steps p.tables e below (T47.setTop (mkF m 176 #[.val (.long q1), .second, .val (.int p2), .val (.int p3), .val (.int p4), .val (.ref pa), .val (.long n), .second, .val (.ref bb), .unset, .unset, .unset, .unset] [(.int (0 : Int32)), (.long n), (.ref pa), (.int (1 : Int32)), (.ref bb)])) _
    refine st49 _ ?_
    show Steps p.tables e below (T49.setTop (mkF m 179 #[.val (.long q1), .second, .val (.int p2), .val (.int p3), .val (.int p4), .val (.ref pa), .val (.long n), .second, .val (.ref bb), .unset, .unset, .unset, .unset] [(.int (own_dg n (own_pw.getD 17 0))), (.int (1 : Int32)), (.ref bb)])) _
    refine st51 _ ?_
    show Steps p.tables e below (T51.setTop (mkF m 180 #[.val (.long q1), .second, .val (.int p2), .val (.int p3), .val (.int p4), .val (.ref pa), .val (.long n), .second, .val (.ref bb), .unset, .unset, .unset, .unset] [])) _
    refine XS.aload X51.here hx rfl (hb hby at_180) rfl rfl ?_
    show Steps p.tables e below (T51.setTop (mkF m 182 #[.val (.long q1), .second, .val (.int p2), .val (.int p3), .val (.int p4), .val (.ref pa), .val (.long n), .second, .val (.ref bb), .unset, .unset, .unset, .unset] [(.ref bb)])) _
    refine XS.iconst X51.here hx rfl (hb hby at_182) ?_
    show Steps p.tables e below (T51.setTop (mkF m 183 #[.val (.long q1), .second, .val (.int p2), .val (.int p3), .val (.int p4), .val (.ref pa), .val (.long n), .second, .val (.ref bb), .unset, .unset, .unset, .unset] [(.int (2 : Int32)), (.ref bb)])) _
    refine XS.aload X51.here hx rfl (hb hby at_183) rfl rfl ?_
    show Steps p.tables e below (T51.setTop (mkF m 185 #[.val (.long q1), .second, .val (.int p2), .val (.int p3), .val (.int p4), .val (.ref pa), .val (.long n), .second, .val (.ref bb), .unset, .unset, .unset, .unset] [(.ref pa), (.int (2 : Int32)), (.ref bb)])) _
    refine XS.lload X51.here hx rfl (hb hby at_185) rfl ?_
    show Steps p.tables e below (T51.setTop (mkF m 187 #[.val (.long q1), .second, .val (.int p2), .val (.int p3), .val (.int p4), .val (.ref pa), .val (.long n), .second, .val (.ref bb), .unset, .unset, .unset, .unset] [(.long n), (.ref pa), (.int (2 : Int32)), (.ref bb)])) _
    refine XS.iconst X51.here hx rfl (hb hby at_187) ?_
    show Steps p.tables e below (T51.setTop (mkF m 188 #[.val (.long q1), .second, .val (.int p2), .val (.int p3), .val (.int p4), .val (.ref pa), .val (.long n), .second, .val (.ref bb), .unset, .unset, .unset, .unset] [(.int (1 : Int32)), (.long n), (.ref pa), (.int (2 : Int32)), (.ref bb)])) _
    refine st53 _ ?_
    show Steps p.tables e below (T53.setTop (mkF m 191 #[.val (.long q1), .second, .val (.int p2), .val (.int p3), .val (.int p4), .val (.ref pa), .val (.long n), .second, .val (.ref bb), .unset, .unset, .unset, .unset] [(.int (own_dg n (own_pw.getD 16 0))), (.int (2 : Int32)), (.ref bb)])) _
    refine st55 _ ?_
    show Steps p.tables e below (T55.setTop (mkF m 192 #[.val (.long q1), .second, .val (.int p2), .val (.int p3), .val (.int p4), .val (.ref pa), .val (.long n), .second, .val (.ref bb), .unset, .unset, .unset, .unset] [])) _
    refine XS.aload X55.here hx rfl (hb hby at_192) rfl rfl ?_
    show Steps p.tables e below (T55.setTop (mkF m 194 #[.val (.long q1), .second, .val (.int p2), .val (.int p3), .val (.int p4), .val (.ref pa), .val (.long n), .second, .val (.ref bb), .unset, .unset, .unset, .unset] [(.ref bb)])) _
    refine XS.iconst X55.here hx rfl (hb hby at_194) ?_
    show Steps p.tables e below (T55.setTop (mkF m 195 #[.val (.long q1), .second, .val (.int p2), .val (.int p3), .val (.int p4), .val (.ref pa), .val (.long n), .second, .val (.ref bb), .unset, .unset, .unset, .unset] [(.int (3 : Int32)), (.ref bb)])) _
    refine XS.aload X55.here hx rfl (hb hby at_195) rfl rfl ?_
    show Steps p.tables e below (T55.setTop (mkF m 197 #[.val (.long q1), .second, .val (.int p2), .val (.int p3), .val (.int p4), .val (.ref pa), .val (.long n), .second, .val (.ref bb), .unset, .unset, .unset, .unset] [(.ref pa), (.int (3 : Int32)), (.ref bb)])) _
    refine XS.lload X55.here hx rfl (hb hby at_197) rfl ?_
    show Steps p.tables e below (T55.setTop (mkF m 199 #[.val (.long q1), .second, .val (.int p2), .val (.int p3), .val (.int p4), .val (.ref pa), .val (.long n), .second, .val (.ref bb), .unset, .unset, .unset, .unset] [(.long n), (.ref pa), (.int (3 : Int32)), (.ref bb)])) _
    refine XS.iconst X55.here hx rfl (hb hby at_199) ?_
    show Steps p.tables e below (T55.setTop (mkF m 200 #[.val (.long q1), .second, .val (.int p2), .val (.int p3), .val (.int p4), .val (.ref pa), .val (.long n), .second, .val (.ref bb), .unset, .unset, .unset, .unset] [(.int (2 : Int32)), (.long n), (.ref pa), (.int (3 : Int32)), (.ref bb)])) _
    refine st57 _ ?_
    show Steps p.tables e below (T57.setTop (mkF m 203 #[.val (.long q1), .second, .val (.int p2), .val (.int p3), .val (.int p4), .val (.ref pa), .val (.long n), .second, .val (.ref bb), .unset, .unset, .unset, .unset] [(.int (own_dg n (own_pw.getD 15 0))), (.int (3 : Int32)), (.ref bb)])) _
    refine st59 _ ?_
    show Steps p.tables e below (T59.setTop (mkF m 204 #[.val (.long q1), .second, .val (.int p2), .val (.int p3), .val (.int p4), .val (.ref pa), .val (.long n), .second, .val (.ref bb), .unset, .unset, .unset, .unset] [])) _
    refine XS.aload X59.here hx rfl (hb hby at_204) rfl rfl ?_
    show Steps p.tables e below (T59.setTop (mkF m 206 #[.val (.long q1), .second, .val (.int p2), .val (.int p3), .val (.int p4), .val (.ref pa), .val (.long n), .second, .val (.ref bb), .unset, .unset, .unset, .unset] [(.ref bb)])) _
    refine XS.iconst X59.here hx rfl (hb hby at_206) ?_
    show Steps p.tables e below (T59.setTop (mkF m 207 #[.val (.long q1), .second, .val (.int p2), .val (.int p3), .val (.int p4), .val (.ref pa), .val (.long n), .second, .val (.ref bb), .unset, .unset, .unset, .unset] [(.int (4 : Int32)), (.ref bb)])) _
    refine XS.aload X59.here hx rfl (hb hby at_207) rfl rfl ?_
    show Steps p.tables e below (T59.setTop (mkF m 209 #[.val (.long q1), .second, .val (.int p2), .val (.int p3), .val (.int p4), .val (.ref pa), .val (.long n), .second, .val (.ref bb), .unset, .unset, .unset, .unset] [(.ref pa), (.int (4 : Int32)), (.ref bb)])) _
    refine XS.lload X59.here hx rfl (hb hby at_209) rfl ?_
    show Steps p.tables e below (T59.setTop (mkF m 211 #[.val (.long q1), .second, .val (.int p2), .val (.int p3), .val (.int p4), .val (.ref pa), .val (.long n), .second, .val (.ref bb), .unset, .unset, .unset, .unset] [(.long n), (.ref pa), (.int (4 : Int32)), (.ref bb)])) _
    refine XS.iconst X59.here hx rfl (hb hby at_211) ?_
    show Steps p.tables e below (T59.setTop (mkF m 212 #[.val (.long q1), .second, .val (.int p2), .val (.int p3), .val (.int p4), .val (.ref pa), .val (.long n), .second, .val (.ref bb), .unset, .unset, .unset, .unset] [(.int (3 : Int32)), (.long n), (.ref pa), (.int (4 : Int32)), (.ref bb)])) _
    refine st61 _ ?_
    show Steps p.tables e below (T61.setTop (mkF m 215 #[.val (.long q1), .second, .val (.int p2), .val (.int p3), .val (.int p4), .val (.ref pa), .val (.long n), .second, .val (.ref bb), .unset, .unset, .unset, .unset] [(.int (own_dg n (own_pw.getD 14 0))), (.int (4 : Int32)), (.ref bb)])) _
    refine st63 _ ?_
    show Steps p.tables e below (T63.setTop (mkF m 216 #[.val (.long q1), .second, .val (.int p2), .val (.int p3), .val (.int p4), .val (.ref pa), .val (.long n), .second, .val (.ref bb), .unset, .unset, .unset, .unset] [])) _
    refine XS.aload X63.here hx rfl (hb hby at_216) rfl rfl ?_
    show Steps p.tables e below (T63.setTop (mkF m 218 #[.val (.long q1), .second, .val (.int p2), .val (.int p3), .val (.int p4), .val (.ref pa), .val (.long n), .second, .val (.ref bb), .unset, .unset, .unset, .unset] [(.ref bb)])) _
    refine XS.iconst X63.here hx rfl (hb hby at_218) ?_
    show Steps p.tables e below (T63.setTop (mkF m 219 #[.val (.long q1), .second, .val (.int p2), .val (.int p3), .val (.int p4), .val (.ref pa), .val (.long n), .second, .val (.ref bb), .unset, .unset, .unset, .unset] [(.int (5 : Int32)), (.ref bb)])) _
    refine XS.aload X63.here hx rfl (hb hby at_219) rfl rfl ?_
    show Steps p.tables e below (T63.setTop (mkF m 221 #[.val (.long q1), .second, .val (.int p2), .val (.int p3), .val (.int p4), .val (.ref pa), .val (.long n), .second, .val (.ref bb), .unset, .unset, .unset, .unset] [(.ref pa), (.int (5 : Int32)), (.ref bb)])) _
    refine XS.lload X63.here hx rfl (hb hby at_221) rfl ?_
    show Steps p.tables e below (T63.setTop (mkF m 223 #[.val (.long q1), .second, .val (.int p2), .val (.int p3), .val (.int p4), .val (.ref pa), .val (.long n), .second, .val (.ref bb), .unset, .unset, .unset, .unset] [(.long n), (.ref pa), (.int (5 : Int32)), (.ref bb)])) _
    refine XS.iconst X63.here hx rfl (hb hby at_223) ?_
    show Steps p.tables e below (T63.setTop (mkF m 224 #[.val (.long q1), .second, .val (.int p2), .val (.int p3), .val (.int p4), .val (.ref pa), .val (.long n), .second, .val (.ref bb), .unset, .unset, .unset, .unset] [(.int (4 : Int32)), (.long n), (.ref pa), (.int (5 : Int32)), (.ref bb)])) _
    refine st65 _ ?_
    show Steps p.tables e below (T65.setTop (mkF m 227 #[.val (.long q1), .second, .val (.int p2), .val (.int p3), .val (.int p4), .val (.ref pa), .val (.long n), .second, .val (.ref bb), .unset, .unset, .unset, .unset] [(.int (own_dg n (own_pw.getD 13 0))), (.int (5 : Int32)), (.ref bb)])) _
    refine st67 _ ?_
    show Steps p.tables e below (T67.setTop (mkF m 228 #[.val (.long q1), .second, .val (.int p2), .val (.int p3), .val (.int p4), .val (.ref pa), .val (.long n), .second, .val (.ref bb), .unset, .unset, .unset, .unset] [])) _
    refine XS.aload X67.here hx rfl (hb hby at_228) rfl rfl ?_
    show Steps p.tables e below (T67.setTop (mkF m 230 #[.val (.long q1), .second, .val (.int p2), .val (.int p3), .val (.int p4), .val (.ref pa), .val (.long n), .second, .val (.ref bb), .unset, .unset, .unset, .unset] [(.ref bb)])) _
    refine XS.bipush X67.here hx rfl (hb hby at_230) ?_
    show Steps p.tables e below (T67.setTop (mkF m 232 #[.val (.long q1), .second, .val (.int p2), .val (.int p3), .val (.int p4), .val (.ref pa), .val (.long n), .second, .val (.ref bb), .unset, .unset, .unset, .unset] [(.int (6 : Int32)), (.ref bb)])) _
    refine XS.aload X67.here hx rfl (hb hby at_232) rfl rfl ?_
    show Steps p.tables e below (T67.setTop (mkF m 234 #[.val (.long q1), .second, .val (.int p2), .val (.int p3), .val (.int p4), .val (.ref pa), .val (.long n), .second, .val (.ref bb), .unset, .unset, .unset, .unset] [(.ref pa), (.int (6 : Int32)), (.ref bb)])) _
    refine XS.lload X67.here hx rfl (hb hby at_234) rfl ?_
    show Steps p.tables e below (T67.setTop (mkF m 236 #[.val (.long q1), .second, .val (.int p2), .val (.int p3), .val (.int p4), .val (.ref pa), .val (.long n), .second, .val (.ref bb), .unset, .unset, .unset, .unset] [(.long n), (.ref pa), (.int (6 : Int32)), (.ref bb)])) _
    refine XS.iconst X67.here hx rfl (hb hby at_236) ?_
    show Steps p.tables e below (T67.setTop (mkF m 237 #[.val (.long q1), .second, .val (.int p2), .val (.int p3), .val (.int p4), .val (.ref pa), .val (.long n), .second, .val (.ref bb), .unset, .unset, .unset, .unset] [(.int (5 : Int32)), (.long n), (.ref pa), (.int (6 : Int32)), (.ref bb)])) _
    refine st69 _ ?_
    show Steps p.tables e below (T69.setTop (mkF m 240 #[.val (.long q1), .second, .val (.int p2), .val (.int p3), .val (.int p4), .val (.ref pa), .val (.long n), .second, .val (.ref bb), .unset, .unset, .unset, .unset] [(.int (own_dg n (own_pw.getD 12 0))), (.int (6 : Int32)), (.ref bb)])) _
    refine st71 _ ?_
    show Steps p.tables e below (T71.setTop (mkF m 241 #[.val (.long q1), .second, .val (.int p2), .val (.int p3), .val (.int p4), .val (.ref pa), .val (.long n), .second, .val (.ref bb), .unset, .unset, .unset, .unset] [])) _
    refine XS.aload X71.here hx rfl (hb hby at_241) rfl rfl ?_
    show Steps p.tables e below (T71.setTop (mkF m 243 #[.val (.long q1), .second, .val (.int p2), .val (.int p3), .val (.int p4), .val (.ref pa), .val (.long n), .second, .val (.ref bb), .unset, .unset, .unset, .unset] [(.ref bb)])) _
    refine XS.bipush X71.here hx rfl (hb hby at_243) ?_
    show Steps p.tables e below (T71.setTop (mkF m 245 #[.val (.long q1), .second, .val (.int p2), .val (.int p3), .val (.int p4), .val (.ref pa), .val (.long n), .second, .val (.ref bb), .unset, .unset, .unset, .unset] [(.int (7 : Int32)), (.ref bb)])) _
    refine XS.aload X71.here hx rfl (hb hby at_245) rfl rfl ?_
    show Steps p.tables e below (T71.setTop (mkF m 247 #[.val (.long q1), .second, .val (.int p2), .val (.int p3), .val (.int p4), .val (.ref pa), .val (.long n), .second, .val (.ref bb), .unset, .unset, .unset, .unset] [(.ref pa), (.int (7 : Int32)), (.ref bb)])) _
    refine XS.lload X71.here hx rfl (hb hby at_247) rfl ?_
    show Steps p.tables e below (T71.setTop (mkF m 249 #[.val (.long q1), .second, .val (.int p2), .val (.int p3), .val (.int p4), .val (.ref pa), .val (.long n), .second, .val (.ref bb), .unset, .unset, .unset, .unset] [(.long n), (.ref pa), (.int (7 : Int32)), (.ref bb)])) _
    refine XS.bipush X71.here hx rfl (hb hby at_249) ?_
    show Steps p.tables e below (T71.setTop (mkF m 251 #[.val (.long q1), .second, .val (.int p2), .val (.int p3), .val (.int p4), .val (.ref pa), .val (.long n), .second, .val (.ref bb), .unset, .unset, .unset, .unset] [(.int (6 : Int32)), (.long n), (.ref pa), (.int (7 : Int32)), (.ref bb)])) _
    refine st73 _ ?_
    show Steps p.tables e below (T73.setTop (mkF m 254 #[.val (.long q1), .second, .val (.int p2), .val (.int p3), .val (.int p4), .val (.ref pa), .val (.long n), .second, .val (.ref bb), .unset, .unset, .unset, .unset] [(.int (own_dg n (own_pw.getD 11 0))), (.int (7 : Int32)), (.ref bb)])) _
    refine st75 _ ?_
    show Steps p.tables e below (T75.setTop (mkF m 255 #[.val (.long q1), .second, .val (.int p2), .val (.int p3), .val (.int p4), .val (.ref pa), .val (.long n), .second, .val (.ref bb), .unset, .unset, .unset, .unset] [])) _
    refine XS.aload X75.here hx rfl (hb hby at_255) rfl rfl ?_
    show Steps p.tables e below (T75.setTop (mkF m 257 #[.val (.long q1), .second, .val (.int p2), .val (.int p3), .val (.int p4), .val (.ref pa), .val (.long n), .second, .val (.ref bb), .unset, .unset, .unset, .unset] [(.ref bb)])) _
    refine XS.bipush X75.here hx rfl (hb hby at_257) ?_
    show Steps p.tables e below (T75.setTop (mkF m 259 #[.val (.long q1), .second, .val (.int p2), .val (.int p3), .val (.int p4), .val (.ref pa), .val (.long n), .second, .val (.ref bb), .unset, .unset, .unset, .unset] [(.int (8 : Int32)), (.ref bb)])) _
    refine XS.aload X75.here hx rfl (hb hby at_259) rfl rfl ?_
    show Steps p.tables e below (T75.setTop (mkF m 261 #[.val (.long q1), .second, .val (.int p2), .val (.int p3), .val (.int p4), .val (.ref pa), .val (.long n), .second, .val (.ref bb), .unset, .unset, .unset, .unset] [(.ref pa), (.int (8 : Int32)), (.ref bb)])) _
    refine XS.lload X75.here hx rfl (hb hby at_261) rfl ?_
    show Steps p.tables e below (T75.setTop (mkF m 263 #[.val (.long q1), .second, .val (.int p2), .val (.int p3), .val (.int p4), .val (.ref pa), .val (.long n), .second, .val (.ref bb), .unset, .unset, .unset, .unset] [(.long n), (.ref pa), (.int (8 : Int32)), (.ref bb)])) _
    refine XS.bipush X75.here hx rfl (hb hby at_263) ?_
    show Steps p.tables e below (T75.setTop (mkF m 265 #[.val (.long q1), .second, .val (.int p2), .val (.int p3), .val (.int p4), .val (.ref pa), .val (.long n), .second, .val (.ref bb), .unset, .unset, .unset, .unset] [(.int (7 : Int32)), (.long n), (.ref pa), (.int (8 : Int32)), (.ref bb)])) _
    refine st77 _ ?_
    show Steps p.tables e below (T77.setTop (mkF m 268 #[.val (.long q1), .second, .val (.int p2), .val (.int p3), .val (.int p4), .val (.ref pa), .val (.long n), .second, .val (.ref bb), .unset, .unset, .unset, .unset] [(.int (own_dg n (own_pw.getD 10 0))), (.int (8 : Int32)), (.ref bb)])) _
    refine st79 _ ?_
    show Steps p.tables e below (T79.setTop (mkF m 269 #[.val (.long q1), .second, .val (.int p2), .val (.int p3), .val (.int p4), .val (.ref pa), .val (.long n), .second, .val (.ref bb), .unset, .unset, .unset, .unset] [])) _
    refine XS.aload X79.here hx rfl (hb hby at_269) rfl rfl ?_
    show Steps p.tables e below (T79.setTop (mkF m 271 #[.val (.long q1), .second, .val (.int p2), .val (.int p3), .val (.int p4), .val (.ref pa), .val (.long n), .second, .val (.ref bb), .unset, .unset, .unset, .unset] [(.ref bb)])) _
    refine XS.bipush X79.here hx rfl (hb hby at_271) ?_
    show Steps p.tables e below (T79.setTop (mkF m 273 #[.val (.long q1), .second, .val (.int p2), .val (.int p3), .val (.int p4), .val (.ref pa), .val (.long n), .second, .val (.ref bb), .unset, .unset, .unset, .unset] [(.int (9 : Int32)), (.ref bb)])) _
    refine XS.aload X79.here hx rfl (hb hby at_273) rfl rfl ?_
    show Steps p.tables e below (T79.setTop (mkF m 275 #[.val (.long q1), .second, .val (.int p2), .val (.int p3), .val (.int p4), .val (.ref pa), .val (.long n), .second, .val (.ref bb), .unset, .unset, .unset, .unset] [(.ref pa), (.int (9 : Int32)), (.ref bb)])) _
    refine XS.lload X79.here hx rfl (hb hby at_275) rfl ?_
    show Steps p.tables e below (T79.setTop (mkF m 277 #[.val (.long q1), .second, .val (.int p2), .val (.int p3), .val (.int p4), .val (.ref pa), .val (.long n), .second, .val (.ref bb), .unset, .unset, .unset, .unset] [(.long n), (.ref pa), (.int (9 : Int32)), (.ref bb)])) _
    refine XS.bipush X79.here hx rfl (hb hby at_277) ?_
    show Steps p.tables e below (T79.setTop (mkF m 279 #[.val (.long q1), .second, .val (.int p2), .val (.int p3), .val (.int p4), .val (.ref pa), .val (.long n), .second, .val (.ref bb), .unset, .unset, .unset, .unset] [(.int (8 : Int32)), (.long n), (.ref pa), (.int (9 : Int32)), (.ref bb)])) _
    refine st81 _ ?_
    show Steps p.tables e below (T81.setTop (mkF m 282 #[.val (.long q1), .second, .val (.int p2), .val (.int p3), .val (.int p4), .val (.ref pa), .val (.long n), .second, .val (.ref bb), .unset, .unset, .unset, .unset] [(.int (own_dg n (own_pw.getD 9 0))), (.int (9 : Int32)), (.ref bb)])) _
    refine st83 _ ?_
    show Steps p.tables e below (T83.setTop (mkF m 283 #[.val (.long q1), .second, .val (.int p2), .val (.int p3), .val (.int p4), .val (.ref pa), .val (.long n), .second, .val (.ref bb), .unset, .unset, .unset, .unset] [])) _
    refine XS.aload X83.here hx rfl (hb hby at_283) rfl rfl ?_
    show Steps p.tables e below (T83.setTop (mkF m 285 #[.val (.long q1), .second, .val (.int p2), .val (.int p3), .val (.int p4), .val (.ref pa), .val (.long n), .second, .val (.ref bb), .unset, .unset, .unset, .unset] [(.ref bb)])) _
    refine XS.bipush X83.here hx rfl (hb hby at_285) ?_
    show Steps p.tables e below (T83.setTop (mkF m 287 #[.val (.long q1), .second, .val (.int p2), .val (.int p3), .val (.int p4), .val (.ref pa), .val (.long n), .second, .val (.ref bb), .unset, .unset, .unset, .unset] [(.int (10 : Int32)), (.ref bb)])) _
    refine XS.aload X83.here hx rfl (hb hby at_287) rfl rfl ?_
    show Steps p.tables e below (T83.setTop (mkF m 289 #[.val (.long q1), .second, .val (.int p2), .val (.int p3), .val (.int p4), .val (.ref pa), .val (.long n), .second, .val (.ref bb), .unset, .unset, .unset, .unset] [(.ref pa), (.int (10 : Int32)), (.ref bb)])) _
    refine XS.lload X83.here hx rfl (hb hby at_289) rfl ?_
    show Steps p.tables e below (T83.setTop (mkF m 291 #[.val (.long q1), .second, .val (.int p2), .val (.int p3), .val (.int p4), .val (.ref pa), .val (.long n), .second, .val (.ref bb), .unset, .unset, .unset, .unset] [(.long n), (.ref pa), (.int (10 : Int32)), (.ref bb)])) _
    refine XS.bipush X83.here hx rfl (hb hby at_291) ?_
    show Steps p.tables e below (T83.setTop (mkF m 293 #[.val (.long q1), .second, .val (.int p2), .val (.int p3), .val (.int p4), .val (.ref pa), .val (.long n), .second, .val (.ref bb), .unset, .unset, .unset, .unset] [(.int (9 : Int32)), (.long n), (.ref pa), (.int (10 : Int32)), (.ref bb)])) _
    refine st85 _ ?_
    show Steps p.tables e below (T85.setTop (mkF m 296 #[.val (.long q1), .second, .val (.int p2), .val (.int p3), .val (.int p4), .val (.ref pa), .val (.long n), .second, .val (.ref bb), .unset, .unset, .unset, .unset] [(.int (own_dg n (own_pw.getD 8 0))), (.int (10 : Int32)), (.ref bb)])) _
    refine st87 _ ?_
    show Steps p.tables e below (T87.setTop (mkF m 297 #[.val (.long q1), .second, .val (.int p2), .val (.int p3), .val (.int p4), .val (.ref pa), .val (.long n), .second, .val (.ref bb), .unset, .unset, .unset, .unset] [])) _
    refine XS.aload X87.here hx rfl (hb hby at_297) rfl rfl ?_
    show Steps p.tables e below (T87.setTop (mkF m 299 #[.val (.long q1), .second, .val (.int p2), .val (.int p3), .val (.int p4), .val (.ref pa), .val (.long n), .second, .val (.ref bb), .unset, .unset, .unset, .unset] [(.ref bb)])) _
    refine XS.bipush X87.here hx rfl (hb hby at_299) ?_
    show Steps p.tables e below (T87.setTop (mkF m 301 #[.val (.long q1), .second, .val (.int p2), .val (.int p3), .val (.int p4), .val (.ref pa), .val (.long n), .second, .val (.ref bb), .unset, .unset, .unset, .unset] [(.int (11 : Int32)), (.ref bb)])) _
    refine XS.aload X87.here hx rfl (hb hby at_301) rfl rfl ?_
    show Steps p.tables e below (T87.setTop (mkF m 303 #[.val (.long q1), .second, .val (.int p2), .val (.int p3), .val (.int p4), .val (.ref pa), .val (.long n), .second, .val (.ref bb), .unset, .unset, .unset, .unset] [(.ref pa), (.int (11 : Int32)), (.ref bb)])) _
    refine XS.lload X87.here hx rfl (hb hby at_303) rfl ?_
    show Steps p.tables e below (T87.setTop (mkF m 305 #[.val (.long q1), .second, .val (.int p2), .val (.int p3), .val (.int p4), .val (.ref pa), .val (.long n), .second, .val (.ref bb), .unset, .unset, .unset, .unset] [(.long n), (.ref pa), (.int (11 : Int32)), (.ref bb)])) _
    refine XS.bipush X87.here hx rfl (hb hby at_305) ?_
    show Steps p.tables e below (T87.setTop (mkF m 307 #[.val (.long q1), .second, .val (.int p2), .val (.int p3), .val (.int p4), .val (.ref pa), .val (.long n), .second, .val (.ref bb), .unset, .unset, .unset, .unset] [(.int (10 : Int32)), (.long n), (.ref pa), (.int (11 : Int32)), (.ref bb)])) _
    refine st89 _ ?_
    show Steps p.tables e below (T89.setTop (mkF m 310 #[.val (.long q1), .second, .val (.int p2), .val (.int p3), .val (.int p4), .val (.ref pa), .val (.long n), .second, .val (.ref bb), .unset, .unset, .unset, .unset] [(.int (own_dg n (own_pw.getD 7 0))), (.int (11 : Int32)), (.ref bb)])) _
    refine st91 _ ?_
    show Steps p.tables e below (T91.setTop (mkF m 311 #[.val (.long q1), .second, .val (.int p2), .val (.int p3), .val (.int p4), .val (.ref pa), .val (.long n), .second, .val (.ref bb), .unset, .unset, .unset, .unset] [])) _
    refine XS.aload X91.here hx rfl (hb hby at_311) rfl rfl ?_
    show Steps p.tables e below (T91.setTop (mkF m 313 #[.val (.long q1), .second, .val (.int p2), .val (.int p3), .val (.int p4), .val (.ref pa), .val (.long n), .second, .val (.ref bb), .unset, .unset, .unset, .unset] [(.ref bb)])) _
    refine XS.bipush X91.here hx rfl (hb hby at_313) ?_
    show Steps p.tables e below (T91.setTop (mkF m 315 #[.val (.long q1), .second, .val (.int p2), .val (.int p3), .val (.int p4), .val (.ref pa), .val (.long n), .second, .val (.ref bb), .unset, .unset, .unset, .unset] [(.int (12 : Int32)), (.ref bb)])) _
    refine XS.aload X91.here hx rfl (hb hby at_315) rfl rfl ?_
    show Steps p.tables e below (T91.setTop (mkF m 317 #[.val (.long q1), .second, .val (.int p2), .val (.int p3), .val (.int p4), .val (.ref pa), .val (.long n), .second, .val (.ref bb), .unset, .unset, .unset, .unset] [(.ref pa), (.int (12 : Int32)), (.ref bb)])) _
    refine XS.lload X91.here hx rfl (hb hby at_317) rfl ?_
    show Steps p.tables e below (T91.setTop (mkF m 319 #[.val (.long q1), .second, .val (.int p2), .val (.int p3), .val (.int p4), .val (.ref pa), .val (.long n), .second, .val (.ref bb), .unset, .unset, .unset, .unset] [(.long n), (.ref pa), (.int (12 : Int32)), (.ref bb)])) _
    refine XS.bipush X91.here hx rfl (hb hby at_319) ?_
    show Steps p.tables e below (T91.setTop (mkF m 321 #[.val (.long q1), .second, .val (.int p2), .val (.int p3), .val (.int p4), .val (.ref pa), .val (.long n), .second, .val (.ref bb), .unset, .unset, .unset, .unset] [(.int (11 : Int32)), (.long n), (.ref pa), (.int (12 : Int32)), (.ref bb)])) _
    refine st93 _ ?_
    show Steps p.tables e below (T93.setTop (mkF m 324 #[.val (.long q1), .second, .val (.int p2), .val (.int p3), .val (.int p4), .val (.ref pa), .val (.long n), .second, .val (.ref bb), .unset, .unset, .unset, .unset] [(.int (own_dg n (own_pw.getD 6 0))), (.int (12 : Int32)), (.ref bb)])) _
    refine st95 _ ?_
    show Steps p.tables e below (T95.setTop (mkF m 325 #[.val (.long q1), .second, .val (.int p2), .val (.int p3), .val (.int p4), .val (.ref pa), .val (.long n), .second, .val (.ref bb), .unset, .unset, .unset, .unset] [])) _
    refine XS.aload X95.here hx rfl (hb hby at_325) rfl rfl ?_
    show Steps p.tables e below (T95.setTop (mkF m 327 #[.val (.long q1), .second, .val (.int p2), .val (.int p3), .val (.int p4), .val (.ref pa), .val (.long n), .second, .val (.ref bb), .unset, .unset, .unset, .unset] [(.ref bb)])) _
    refine XS.bipush X95.here hx rfl (hb hby at_327) ?_
    show Steps p.tables e below (T95.setTop (mkF m 329 #[.val (.long q1), .second, .val (.int p2), .val (.int p3), .val (.int p4), .val (.ref pa), .val (.long n), .second, .val (.ref bb), .unset, .unset, .unset, .unset] [(.int (13 : Int32)), (.ref bb)])) _
    refine XS.aload X95.here hx rfl (hb hby at_329) rfl rfl ?_
    show Steps p.tables e below (T95.setTop (mkF m 331 #[.val (.long q1), .second, .val (.int p2), .val (.int p3), .val (.int p4), .val (.ref pa), .val (.long n), .second, .val (.ref bb), .unset, .unset, .unset, .unset] [(.ref pa), (.int (13 : Int32)), (.ref bb)])) _
    refine XS.lload X95.here hx rfl (hb hby at_331) rfl ?_
    show Steps p.tables e below (T95.setTop (mkF m 333 #[.val (.long q1), .second, .val (.int p2), .val (.int p3), .val (.int p4), .val (.ref pa), .val (.long n), .second, .val (.ref bb), .unset, .unset, .unset, .unset] [(.long n), (.ref pa), (.int (13 : Int32)), (.ref bb)])) _
    refine XS.bipush X95.here hx rfl (hb hby at_333) ?_
    show Steps p.tables e below (T95.setTop (mkF m 335 #[.val (.long q1), .second, .val (.int p2), .val (.int p3), .val (.int p4), .val (.ref pa), .val (.long n), .second, .val (.ref bb), .unset, .unset, .unset, .unset] [(.int (12 : Int32)), (.long n), (.ref pa), (.int (13 : Int32)), (.ref bb)])) _
    refine st97 _ ?_
    show Steps p.tables e below (T97.setTop (mkF m 338 #[.val (.long q1), .second, .val (.int p2), .val (.int p3), .val (.int p4), .val (.ref pa), .val (.long n), .second, .val (.ref bb), .unset, .unset, .unset, .unset] [(.int (own_dg n (own_pw.getD 5 0))), (.int (13 : Int32)), (.ref bb)])) _
    refine st99 _ ?_
    show Steps p.tables e below (T99.setTop (mkF m 339 #[.val (.long q1), .second, .val (.int p2), .val (.int p3), .val (.int p4), .val (.ref pa), .val (.long n), .second, .val (.ref bb), .unset, .unset, .unset, .unset] [])) _
    refine XS.aload X99.here hx rfl (hb hby at_339) rfl rfl ?_
    show Steps p.tables e below (T99.setTop (mkF m 341 #[.val (.long q1), .second, .val (.int p2), .val (.int p3), .val (.int p4), .val (.ref pa), .val (.long n), .second, .val (.ref bb), .unset, .unset, .unset, .unset] [(.ref bb)])) _
    refine XS.bipush X99.here hx rfl (hb hby at_341) ?_
    show Steps p.tables e below (T99.setTop (mkF m 343 #[.val (.long q1), .second, .val (.int p2), .val (.int p3), .val (.int p4), .val (.ref pa), .val (.long n), .second, .val (.ref bb), .unset, .unset, .unset, .unset] [(.int (14 : Int32)), (.ref bb)])) _
    refine XS.aload X99.here hx rfl (hb hby at_343) rfl rfl ?_
    show Steps p.tables e below (T99.setTop (mkF m 345 #[.val (.long q1), .second, .val (.int p2), .val (.int p3), .val (.int p4), .val (.ref pa), .val (.long n), .second, .val (.ref bb), .unset, .unset, .unset, .unset] [(.ref pa), (.int (14 : Int32)), (.ref bb)])) _
    refine XS.lload X99.here hx rfl (hb hby at_345) rfl ?_
    show Steps p.tables e below (T99.setTop (mkF m 347 #[.val (.long q1), .second, .val (.int p2), .val (.int p3), .val (.int p4), .val (.ref pa), .val (.long n), .second, .val (.ref bb), .unset, .unset, .unset, .unset] [(.long n), (.ref pa), (.int (14 : Int32)), (.ref bb)])) _
    refine XS.bipush X99.here hx rfl (hb hby at_347) ?_
    show Steps p.tables e below (T99.setTop (mkF m 349 #[.val (.long q1), .second, .val (.int p2), .val (.int p3), .val (.int p4), .val (.ref pa), .val (.long n), .second, .val (.ref bb), .unset, .unset, .unset, .unset] [(.int (13 : Int32)), (.long n), (.ref pa), (.int (14 : Int32)), (.ref bb)])) _
    refine st101 _ ?_
    show Steps p.tables e below (T101.setTop (mkF m 352 #[.val (.long q1), .second, .val (.int p2), .val (.int p3), .val (.int p4), .val (.ref pa), .val (.long n), .second, .val (.ref bb), .unset, .unset, .unset, .unset] [(.int (own_dg n (own_pw.getD 4 0))), (.int (14 : Int32)), (.ref bb)])) _
    refine st103 _ ?_
    show Steps p.tables e below (T103.setTop (mkF m 353 #[.val (.long q1), .second, .val (.int p2), .val (.int p3), .val (.int p4), .val (.ref pa), .val (.long n), .second, .val (.ref bb), .unset, .unset, .unset, .unset] [])) _
    refine XS.aload X103.here hx rfl (hb hby at_353) rfl rfl ?_
    show Steps p.tables e below (T103.setTop (mkF m 355 #[.val (.long q1), .second, .val (.int p2), .val (.int p3), .val (.int p4), .val (.ref pa), .val (.long n), .second, .val (.ref bb), .unset, .unset, .unset, .unset] [(.ref bb)])) _
    refine XS.bipush X103.here hx rfl (hb hby at_355) ?_
    show Steps p.tables e below (T103.setTop (mkF m 357 #[.val (.long q1), .second, .val (.int p2), .val (.int p3), .val (.int p4), .val (.ref pa), .val (.long n), .second, .val (.ref bb), .unset, .unset, .unset, .unset] [(.int (15 : Int32)), (.ref bb)])) _
    refine XS.aload X103.here hx rfl (hb hby at_357) rfl rfl ?_
    show Steps p.tables e below (T103.setTop (mkF m 359 #[.val (.long q1), .second, .val (.int p2), .val (.int p3), .val (.int p4), .val (.ref pa), .val (.long n), .second, .val (.ref bb), .unset, .unset, .unset, .unset] [(.ref pa), (.int (15 : Int32)), (.ref bb)])) _
    refine XS.lload X103.here hx rfl (hb hby at_359) rfl ?_
    show Steps p.tables e below (T103.setTop (mkF m 361 #[.val (.long q1), .second, .val (.int p2), .val (.int p3), .val (.int p4), .val (.ref pa), .val (.long n), .second, .val (.ref bb), .unset, .unset, .unset, .unset] [(.long n), (.ref pa), (.int (15 : Int32)), (.ref bb)])) _
    refine XS.bipush X103.here hx rfl (hb hby at_361) ?_
    show Steps p.tables e below (T103.setTop (mkF m 363 #[.val (.long q1), .second, .val (.int p2), .val (.int p3), .val (.int p4), .val (.ref pa), .val (.long n), .second, .val (.ref bb), .unset, .unset, .unset, .unset] [(.int (14 : Int32)), (.long n), (.ref pa), (.int (15 : Int32)), (.ref bb)])) _
    refine st105 _ ?_
    show Steps p.tables e below (T105.setTop (mkF m 366 #[.val (.long q1), .second, .val (.int p2), .val (.int p3), .val (.int p4), .val (.ref pa), .val (.long n), .second, .val (.ref bb), .unset, .unset, .unset, .unset] [(.int (own_dg n (own_pw.getD 3 0))), (.int (15 : Int32)), (.ref bb)])) _
    refine st107 _ ?_
    show Steps p.tables e below (T107.setTop (mkF m 367 #[.val (.long q1), .second, .val (.int p2), .val (.int p3), .val (.int p4), .val (.ref pa), .val (.long n), .second, .val (.ref bb), .unset, .unset, .unset, .unset] [])) _
    refine XS.aload X107.here hx rfl (hb hby at_367) rfl rfl ?_
    show Steps p.tables e below (T107.setTop (mkF m 369 #[.val (.long q1), .second, .val (.int p2), .val (.int p3), .val (.int p4), .val (.ref pa), .val (.long n), .second, .val (.ref bb), .unset, .unset, .unset, .unset] [(.ref bb)])) _
    refine XS.bipush X107.here hx rfl (hb hby at_369) ?_
    show Steps p.tables e below (T107.setTop (mkF m 371 #[.val (.long q1), .second, .val (.int p2), .val (.int p3), .val (.int p4), .val (.ref pa), .val (.long n), .second, .val (.ref bb), .unset, .unset, .unset, .unset] [(.int (16 : Int32)), (.ref bb)])) _
    refine XS.aload X107.here hx rfl (hb hby at_371) rfl rfl ?_
    show Steps p.tables e below (T107.setTop (mkF m 373 #[.val (.long q1), .second, .val (.int p2), .val (.int p3), .val (.int p4), .val (.ref pa), .val (.long n), .second, .val (.ref bb), .unset, .unset, .unset, .unset] [(.ref pa), (.int (16 : Int32)), (.ref bb)])) _
    refine XS.lload X107.here hx rfl (hb hby at_373) rfl ?_
    show Steps p.tables e below (T107.setTop (mkF m 375 #[.val (.long q1), .second, .val (.int p2), .val (.int p3), .val (.int p4), .val (.ref pa), .val (.long n), .second, .val (.ref bb), .unset, .unset, .unset, .unset] [(.long n), (.ref pa), (.int (16 : Int32)), (.ref bb)])) _
    refine XS.bipush X107.here hx rfl (hb hby at_375) ?_
    show Steps p.tables e below (T107.setTop (mkF m 377 #[.val (.long q1), .second, .val (.int p2), .val (.int p3), .val (.int p4), .val (.ref pa), .val (.long n), .second, .val (.ref bb), .unset, .unset, .unset, .unset] [(.int (15 : Int32)), (.long n), (.ref pa), (.int (16 : Int32)), (.ref bb)])) _
    refine st109 _ ?_
    show Steps p.tables e below (T109.setTop (mkF m 380 #[.val (.long q1), .second, .val (.int p2), .val (.int p3), .val (.int p4), .val (.ref pa), .val (.long n), .second, .val (.ref bb), .unset, .unset, .unset, .unset] [(.int (own_dg n (own_pw.getD 2 0))), (.int (16 : Int32)), (.ref bb)])) _
    refine st111 _ ?_
    show Steps p.tables e below (T111.setTop (mkF m 381 #[.val (.long q1), .second, .val (.int p2), .val (.int p3), .val (.int p4), .val (.ref pa), .val (.long n), .second, .val (.ref bb), .unset, .unset, .unset, .unset] [])) _
    refine XS.aload X111.here hx rfl (hb hby at_381) rfl rfl ?_
    show Steps p.tables e below (T111.setTop (mkF m 383 #[.val (.long q1), .second, .val (.int p2), .val (.int p3), .val (.int p4), .val (.ref pa), .val (.long n), .second, .val (.ref bb), .unset, .unset, .unset, .unset] [(.ref bb)])) _
    refine XS.bipush X111.here hx rfl (hb hby at_383) ?_
    show Steps p.tables e below (T111.setTop (mkF m 385 #[.val (.long q1), .second, .val (.int p2), .val (.int p3), .val (.int p4), .val (.ref pa), .val (.long n), .second, .val (.ref bb), .unset, .unset, .unset, .unset] [(.int (17 : Int32)), (.ref bb)])) _
    refine XS.aload X111.here hx rfl (hb hby at_385) rfl rfl ?_
    show Steps p.tables e below (T111.setTop (mkF m 387 #[.val (.long q1), .second, .val (.int p2), .val (.int p3), .val (.int p4), .val (.ref pa), .val (.long n), .second, .val (.ref bb), .unset, .unset, .unset, .unset] [(.ref pa), (.int (17 : Int32)), (.ref bb)])) _
    refine XS.lload X111.here hx rfl (hb hby at_387) rfl ?_
    show Steps p.tables e below (T111.setTop (mkF m 389 #[.val (.long q1), .second, .val (.int p2), .val (.int p3), .val (.int p4), .val (.ref pa), .val (.long n), .second, .val (.ref bb), .unset, .unset, .unset, .unset] [(.long n), (.ref pa), (.int (17 : Int32)), (.ref bb)])) _
    refine XS.bipush X111.here hx rfl (hb hby at_389) ?_
    show Steps p.tables e below (T111.setTop (mkF m 391 #[.val (.long q1), .second, .val (.int p2), .val (.int p3), .val (.int p4), .val (.ref pa), .val (.long n), .second, .val (.ref bb), .unset, .unset, .unset, .unset] [(.int (16 : Int32)), (.long n), (.ref pa), (.int (17 : Int32)), (.ref bb)])) _
    refine st113 _ ?_
    show Steps p.tables e below (T113.setTop (mkF m 394 #[.val (.long q1), .second, .val (.int p2), .val (.int p3), .val (.int p4), .val (.ref pa), .val (.long n), .second, .val (.ref bb), .unset, .unset, .unset, .unset] [(.int (own_dg n (own_pw.getD 1 0))), (.int (17 : Int32)), (.ref bb)])) _
    refine st115 _ ?_
    show Steps p.tables e below (T115.setTop (mkF m 395 #[.val (.long q1), .second, .val (.int p2), .val (.int p3), .val (.int p4), .val (.ref pa), .val (.long n), .second, .val (.ref bb), .unset, .unset, .unset, .unset] [])) _
    refine XS.aload X115.here hx rfl (hb hby at_395) rfl rfl ?_
    show Steps p.tables e below (T115.setTop (mkF m 397 #[.val (.long q1), .second, .val (.int p2), .val (.int p3), .val (.int p4), .val (.ref pa), .val (.long n), .second, .val (.ref bb), .unset, .unset, .unset, .unset] [(.ref bb)])) _
    refine XS.bipush X115.here hx rfl (hb hby at_397) ?_
    show Steps p.tables e below (T115.setTop (mkF m 399 #[.val (.long q1), .second, .val (.int p2), .val (.int p3), .val (.int p4), .val (.ref pa), .val (.long n), .second, .val (.ref bb), .unset, .unset, .unset, .unset] [(.int (18 : Int32)), (.ref bb)])) _
    refine XS.aload X115.here hx rfl (hb hby at_399) rfl rfl ?_
    show Steps p.tables e below (T115.setTop (mkF m 401 #[.val (.long q1), .second, .val (.int p2), .val (.int p3), .val (.int p4), .val (.ref pa), .val (.long n), .second, .val (.ref bb), .unset, .unset, .unset, .unset] [(.ref pa), (.int (18 : Int32)), (.ref bb)])) _
    refine XS.lload X115.here hx rfl (hb hby at_401) rfl ?_
    show Steps p.tables e below (T115.setTop (mkF m 403 #[.val (.long q1), .second, .val (.int p2), .val (.int p3), .val (.int p4), .val (.ref pa), .val (.long n), .second, .val (.ref bb), .unset, .unset, .unset, .unset] [(.long n), (.ref pa), (.int (18 : Int32)), (.ref bb)])) _
    refine XS.bipush X115.here hx rfl (hb hby at_403) ?_
    show Steps p.tables e below (T115.setTop (mkF m 405 #[.val (.long q1), .second, .val (.int p2), .val (.int p3), .val (.int p4), .val (.ref pa), .val (.long n), .second, .val (.ref bb), .unset, .unset, .unset, .unset] [(.int (17 : Int32)), (.long n), (.ref pa), (.int (18 : Int32)), (.ref bb)])) _
    refine st117 _ ?_
    show Steps p.tables e below (T117.setTop (mkF m 408 #[.val (.long q1), .second, .val (.int p2), .val (.int p3), .val (.int p4), .val (.ref pa), .val (.long n), .second, .val (.ref bb), .unset, .unset, .unset, .unset] [(.int (own_dg n (own_pw.getD 0 0))), (.int (18 : Int32)), (.ref bb)])) _
    refine st119 _ ?_
    show Steps p.tables e below (T119.setTop (mkF m 409 #[.val (.long q1), .second, .val (.int p2), .val (.int p3), .val (.int p4), .val (.ref pa), .val (.long n), .second, .val (.ref bb), .unset, .unset, .unset, .unset] [])) _
    refine XS.iloadN X119.here hx rfl (hb hby at_409) rfl ?_
    show Steps p.tables e below (T119.setTop (mkF m 410 #[.val (.long q1), .second, .val (.int p2), .val (.int p3), .val (.int p4), .val (.ref pa), .val (.long n), .second, .val (.ref bb), .unset, .unset, .unset, .unset] [(.int p2)])) _
    refine X119.ldcInt hx hown (mvT hZ (hw _ (List.mem_of_getElem? (i := 26) rfl))) (g := (mkF m 410 #[.val (.long q1), .second, .val (.int p2), .val (.int p3), .val (.int p4), .val (.ref pa), .val (.long n), .second, .val (.ref bb), .unset, .unset, .unset, .unset] [(.int p2)])) rfl (hb hby at_410) _ ?_
    show Steps p.tables e below (T119.setTop (mkF m 412 #[.val (.long q1), .second, .val (.int p2), .val (.int p3), .val (.int p4), .val (.ref pa), .val (.long n), .second, .val (.ref bb), .unset, .unset, .unset, .unset] [(.int (2147483647 : Int32)), (.int p2)])) _
    refine XS.iand X119.here hx rfl (hb hby at_412) rfl ?_
    show Steps p.tables e below (T119.setTop (mkF m 413 #[.val (.long q1), .second, .val (.int p2), .val (.int p3), .val (.int p4), .val (.ref pa), .val (.long n), .second, .val (.ref bb), .unset, .unset, .unset, .unset] [(.int (p2 &&& (2147483647 : Int32)))])) _
    refine XS.bipush X119.here hx rfl (hb hby at_413) ?_
    show Steps p.tables e below (T119.setTop (mkF m 415 #[.val (.long q1), .second, .val (.int p2), .val (.int p3), .val (.int p4), .val (.ref pa), .val (.long n), .second, .val (.ref bb), .unset, .unset, .unset, .unset] [(.int (19 : Int32)), (.int (p2 &&& (2147483647 : Int32)))])) _
    refine XS.irem X119.here hx rfl (hb hby at_415) rfl (by decide) ?_
    rw [irem_eq_mod (p2 &&& (2147483647 : Int32)) (19 : Int32)]
    show Steps p.tables e below (T119.setTop (mkF m 416 #[.val (.long q1), .second, .val (.int p2), .val (.int p3), .val (.int p4), .val (.ref pa), .val (.long n), .second, .val (.ref bb), .unset, .unset, .unset, .unset] [(.int ((p2 &&& (2147483647 : Int32)) % (19 : Int32)))])) _
    refine XS.istore X119.here hx rfl (hb hby at_416) rfl (l' := #[.val (.long q1), .second, .val (.int p2), .val (.int p3), .val (.int p4), .val (.ref pa), .val (.long n), .second, .val (.ref bb), .val (.int ((p2 &&& (2147483647 : Int32)) % (19 : Int32))), .unset, .unset, .unset]) rfl ?_
    show Steps p.tables e below (T119.setTop (mkF m 418 #[.val (.long q1), .second, .val (.int p2), .val (.int p3), .val (.int p4), .val (.ref pa), .val (.long n), .second, .val (.ref bb), .val (.int ((p2 &&& (2147483647 : Int32)) % (19 : Int32))), .unset, .unset, .unset] [])) _
    rw [eA]
    show Steps p.tables e below (T119.setTop (mkF m 418 #[.val (.long q1), .second, .val (.int p2), .val (.int p3), .val (.int p4), .val (.ref pa), .val (.long n), .second, .val (.ref bb), .val (.int (Int32.ofNat A)), .unset, .unset, .unset] [])) _
    refine XS.iload X119.here hx rfl (hb hby at_418) rfl ?_
    show Steps p.tables e below (T119.setTop (mkF m 420 #[.val (.long q1), .second, .val (.int p2), .val (.int p3), .val (.int p4), .val (.ref pa), .val (.long n), .second, .val (.ref bb), .val (.int (Int32.ofNat A)), .unset, .unset, .unset] [(.int (Int32.ofNat A))])) _
    refine XS.iloadN X119.here hx rfl (hb hby at_420) rfl ?_
    show Steps p.tables e below (T119.setTop (mkF m 421 #[.val (.long q1), .second, .val (.int p2), .val (.int p3), .val (.int p4), .val (.ref pa), .val (.long n), .second, .val (.ref bb), .val (.int (Int32.ofNat A)), .unset, .unset, .unset] [(.int p3), (.int (Int32.ofNat A))])) _
    refine X119.ldcInt hx hown (mvT hZ (hw _ (List.mem_of_getElem? (i := 26) rfl))) (g := (mkF m 421 #[.val (.long q1), .second, .val (.int p2), .val (.int p3), .val (.int p4), .val (.ref pa), .val (.long n), .second, .val (.ref bb), .val (.int (Int32.ofNat A)), .unset, .unset, .unset] [(.int p3), (.int (Int32.ofNat A))])) rfl (hb hby at_421) _ ?_
    show Steps p.tables e below (T119.setTop (mkF m 423 #[.val (.long q1), .second, .val (.int p2), .val (.int p3), .val (.int p4), .val (.ref pa), .val (.long n), .second, .val (.ref bb), .val (.int (Int32.ofNat A)), .unset, .unset, .unset] [(.int (2147483647 : Int32)), (.int p3), (.int (Int32.ofNat A))])) _
    refine XS.iand X119.here hx rfl (hb hby at_423) rfl ?_
    show Steps p.tables e below (T119.setTop (mkF m 424 #[.val (.long q1), .second, .val (.int p2), .val (.int p3), .val (.int p4), .val (.ref pa), .val (.long n), .second, .val (.ref bb), .val (.int (Int32.ofNat A)), .unset, .unset, .unset] [(.int (p3 &&& (2147483647 : Int32))), (.int (Int32.ofNat A))])) _
    refine XS.bipush X119.here hx rfl (hb hby at_424) ?_
    show Steps p.tables e below (T119.setTop (mkF m 426 #[.val (.long q1), .second, .val (.int p2), .val (.int p3), .val (.int p4), .val (.ref pa), .val (.long n), .second, .val (.ref bb), .val (.int (Int32.ofNat A)), .unset, .unset, .unset] [(.int (19 : Int32)), (.int (p3 &&& (2147483647 : Int32))), (.int (Int32.ofNat A))])) _
    refine XS.iload X119.here hx rfl (hb hby at_426) rfl ?_
    show Steps p.tables e below (T119.setTop (mkF m 428 #[.val (.long q1), .second, .val (.int p2), .val (.int p3), .val (.int p4), .val (.ref pa), .val (.long n), .second, .val (.ref bb), .val (.int (Int32.ofNat A)), .unset, .unset, .unset] [(.int (Int32.ofNat A)), (.int (19 : Int32)), (.int (p3 &&& (2147483647 : Int32))), (.int (Int32.ofNat A))])) _
    refine XS.isub X119.here hx rfl (hb hby at_428) rfl ?_
    show Steps p.tables e below (T119.setTop (mkF m 429 #[.val (.long q1), .second, .val (.int p2), .val (.int p3), .val (.int p4), .val (.ref pa), .val (.long n), .second, .val (.ref bb), .val (.int (Int32.ofNat A)), .unset, .unset, .unset] [(.int ((19 : Int32) - (Int32.ofNat A))), (.int (p3 &&& (2147483647 : Int32))), (.int (Int32.ofNat A))])) _
    rw [e19]
    show Steps p.tables e below (T119.setTop (mkF m 429 #[.val (.long q1), .second, .val (.int p2), .val (.int p3), .val (.int p4), .val (.ref pa), .val (.long n), .second, .val (.ref bb), .val (.int (Int32.ofNat A)), .unset, .unset, .unset] [(.int (Int32.ofNat (19 - A))), (.int (p3 &&& (2147483647 : Int32))), (.int (Int32.ofNat A))])) _
    refine XS.irem X119.here hx rfl (hb hby at_429) rfl (own_nz (by omega) (by omega)) ?_
    rw [irem_eq_mod (p3 &&& (2147483647 : Int32)) (Int32.ofNat (19 - A))]
    show Steps p.tables e below (T119.setTop (mkF m 430 #[.val (.long q1), .second, .val (.int p2), .val (.int p3), .val (.int p4), .val (.ref pa), .val (.long n), .second, .val (.ref bb), .val (.int (Int32.ofNat A)), .unset, .unset, .unset] [(.int ((p3 &&& (2147483647 : Int32)) % (Int32.ofNat (19 - A)))), (.int (Int32.ofNat A))])) _
    rw [eD]
    show Steps p.tables e below (T119.setTop (mkF m 430 #[.val (.long q1), .second, .val (.int p2), .val (.int p3), .val (.int p4), .val (.ref pa), .val (.long n), .second, .val (.ref bb), .val (.int (Int32.ofNat A)), .unset, .unset, .unset] [(.int (Int32.ofNat D)), (.int (Int32.ofNat A))])) _
    refine XS.iadd X119.here hx rfl (hb hby at_430) rfl ?_
    show Steps p.tables e below (T119.setTop (mkF m 431 #[.val (.long q1), .second, .val (.int p2), .val (.int p3), .val (.int p4), .val (.ref pa), .val (.long n), .second, .val (.ref bb), .val (.int (Int32.ofNat A)), .unset, .unset, .unset] [(.int ((Int32.ofNat A) + (Int32.ofNat D)))])) _
    rw [eAD]
    show Steps p.tables e below (T119.setTop (mkF m 431 #[.val (.long q1), .second, .val (.int p2), .val (.int p3), .val (.int p4), .val (.ref pa), .val (.long n), .second, .val (.ref bb), .val (.int (Int32.ofNat A)), .unset, .unset, .unset] [(.int (Int32.ofNat (A + D)))])) _
    refine XS.istore X119.here hx rfl (hb hby at_431) rfl (l' := #[.val (.long q1), .second, .val (.int p2), .val (.int p3), .val (.int p4), .val (.ref pa), .val (.long n), .second, .val (.ref bb), .val (.int (Int32.ofNat A)), .val (.int (Int32.ofNat (A + D))), .unset, .unset]) rfl ?_
    show Steps p.tables e below (T119.setTop (mkF m 433 #[.val (.long q1), .second, .val (.int p2), .val (.int p3), .val (.int p4), .val (.ref pa), .val (.long n), .second, .val (.ref bb), .val (.int (Int32.ofNat A)), .val (.int (Int32.ofNat (A + D))), .unset, .unset] [])) _
    refine XS.lload X119.here hx rfl (hb hby at_433) rfl ?_
    show Steps p.tables e below (T119.setTop (mkF m 435 #[.val (.long q1), .second, .val (.int p2), .val (.int p3), .val (.int p4), .val (.ref pa), .val (.long n), .second, .val (.ref bb), .val (.int (Int32.ofNat A)), .val (.int (Int32.ofNat (A + D))), .unset, .unset] [(.long n)])) _
    refine XS.aload X119.here hx rfl (hb hby at_435) rfl rfl ?_
    show Steps p.tables e below (T119.setTop (mkF m 437 #[.val (.long q1), .second, .val (.int p2), .val (.int p3), .val (.int p4), .val (.ref pa), .val (.long n), .second, .val (.ref bb), .val (.int (Int32.ofNat A)), .val (.int (Int32.ofNat (A + D))), .unset, .unset] [(.ref pa), (.long n)])) _
    refine XS.bipush X119.here hx rfl (hb hby at_437) ?_
    show Steps p.tables e below (T119.setTop (mkF m 439 #[.val (.long q1), .second, .val (.int p2), .val (.int p3), .val (.int p4), .val (.ref pa), .val (.long n), .second, .val (.ref bb), .val (.int (Int32.ofNat A)), .val (.int (Int32.ofNat (A + D))), .unset, .unset] [(.int (18 : Int32)), (.ref pa), (.long n)])) _
    refine XS.iload X119.here hx rfl (hb hby at_439) rfl ?_
    show Steps p.tables e below (T119.setTop (mkF m 441 #[.val (.long q1), .second, .val (.int p2), .val (.int p3), .val (.int p4), .val (.ref pa), .val (.long n), .second, .val (.ref bb), .val (.int (Int32.ofNat A)), .val (.int (Int32.ofNat (A + D))), .unset, .unset] [(.int (Int32.ofNat (A + D))), (.int (18 : Int32)), (.ref pa), (.long n)])) _
    refine XS.isub X119.here hx rfl (hb hby at_441) rfl ?_
    show Steps p.tables e below (T119.setTop (mkF m 442 #[.val (.long q1), .second, .val (.int p2), .val (.int p3), .val (.int p4), .val (.ref pa), .val (.long n), .second, .val (.ref bb), .val (.int (Int32.ofNat A)), .val (.int (Int32.ofNat (A + D))), .unset, .unset] [(.int ((18 : Int32) - (Int32.ofNat (A + D)))), (.ref pa), (.long n)])) _
    rw [e18]
    show Steps p.tables e below (T119.setTop (mkF m 442 #[.val (.long q1), .second, .val (.int p2), .val (.int p3), .val (.int p4), .val (.ref pa), .val (.long n), .second, .val (.ref bb), .val (.int (Int32.ofNat A)), .val (.int (Int32.ofNat (A + D))), .unset, .unset] [(.int (Int32.ofNat (18 - (A + D)))), (.ref pa), (.long n)])) _
    refine X119.laload hx (j := (Int32.ofNat (18 - (A + D)))) (v := (.long (own_pw.getD (18 - (A + D)) 0))) (by rw [e119]; exact Ar121.1) (State.isArrayOf_alike hZ.alike Ar121.2.1) Ar121.2.2 hin121 hat121 (g := (mkF m 442 #[.val (.long q1), .second, .val (.int p2), .val (.int p3), .val (.int p4), .val (.ref pa), .val (.long n), .second, .val (.ref bb), .val (.int (Int32.ofNat A)), .val (.int (Int32.ofNat (A + D))), .unset, .unset] [(.int (Int32.ofNat (18 - (A + D)))), (.ref pa), (.long n)])) rfl rfl (hb hby at_442) _ ?_
    show Steps p.tables e below (T119.setTop (mkF m 443 #[.val (.long q1), .second, .val (.int p2), .val (.int p3), .val (.int p4), .val (.ref pa), .val (.long n), .second, .val (.ref bb), .val (.int (Int32.ofNat A)), .val (.int (Int32.ofNat (A + D))), .unset, .unset] [(.long (own_pw.getD (18 - (A + D)) 0)), (.long n)])) _
    refine XS.ldiv X119.here hx rfl (hb hby at_443) rfl (own_pwN (by omega)) ?_
    show Steps p.tables e below (T119.setTop (mkF m 444 #[.val (.long q1), .second, .val (.int p2), .val (.int p3), .val (.int p4), .val (.ref pa), .val (.long n), .second, .val (.ref bb), .val (.int (Int32.ofNat A)), .val (.int (Int32.ofNat (A + D))), .unset, .unset] [(.long (n / (own_pw.getD (18 - (A + D)) 0)))])) _
    refine XS.aload X119.here hx rfl (hb hby at_444) rfl rfl ?_
    show Steps p.tables e below (T119.setTop (mkF m 446 #[.val (.long q1), .second, .val (.int p2), .val (.int p3), .val (.int p4), .val (.ref pa), .val (.long n), .second, .val (.ref bb), .val (.int (Int32.ofNat A)), .val (.int (Int32.ofNat (A + D))), .unset, .unset] [(.ref pa), (.long (n / (own_pw.getD (18 - (A + D)) 0)))])) _
    refine XS.iload X119.here hx rfl (hb hby at_446) rfl ?_
    show Steps p.tables e below (T119.setTop (mkF m 448 #[.val (.long q1), .second, .val (.int p2), .val (.int p3), .val (.int p4), .val (.ref pa), .val (.long n), .second, .val (.ref bb), .val (.int (Int32.ofNat A)), .val (.int (Int32.ofNat (A + D))), .unset, .unset] [(.int (Int32.ofNat (A + D))), (.ref pa), (.long (n / (own_pw.getD (18 - (A + D)) 0)))])) _
    refine XS.iload X119.here hx rfl (hb hby at_448) rfl ?_
    show Steps p.tables e below (T119.setTop (mkF m 450 #[.val (.long q1), .second, .val (.int p2), .val (.int p3), .val (.int p4), .val (.ref pa), .val (.long n), .second, .val (.ref bb), .val (.int (Int32.ofNat A)), .val (.int (Int32.ofNat (A + D))), .unset, .unset] [(.int (Int32.ofNat A)), (.int (Int32.ofNat (A + D))), (.ref pa), (.long (n / (own_pw.getD (18 - (A + D)) 0)))])) _
    refine XS.isub X119.here hx rfl (hb hby at_450) rfl ?_
    show Steps p.tables e below (T119.setTop (mkF m 451 #[.val (.long q1), .second, .val (.int p2), .val (.int p3), .val (.int p4), .val (.ref pa), .val (.long n), .second, .val (.ref bb), .val (.int (Int32.ofNat A)), .val (.int (Int32.ofNat (A + D))), .unset, .unset] [(.int ((Int32.ofNat (A + D)) - (Int32.ofNat A))), (.ref pa), (.long (n / (own_pw.getD (18 - (A + D)) 0)))])) _
    rw [eca]
    show Steps p.tables e below (T119.setTop (mkF m 451 #[.val (.long q1), .second, .val (.int p2), .val (.int p3), .val (.int p4), .val (.ref pa), .val (.long n), .second, .val (.ref bb), .val (.int (Int32.ofNat A)), .val (.int (Int32.ofNat (A + D))), .unset, .unset] [(.int (Int32.ofNat (A + D - A))), (.ref pa), (.long (n / (own_pw.getD (18 - (A + D)) 0)))])) _
    refine X119.laload hx (j := (Int32.ofNat (A + D - A))) (v := (.long (own_pw.getD (A + D - A) 0))) (by rw [e119]; exact Ar122.1) (State.isArrayOf_alike hZ.alike Ar122.2.1) Ar122.2.2 hin122 hat122 (g := (mkF m 451 #[.val (.long q1), .second, .val (.int p2), .val (.int p3), .val (.int p4), .val (.ref pa), .val (.long n), .second, .val (.ref bb), .val (.int (Int32.ofNat A)), .val (.int (Int32.ofNat (A + D))), .unset, .unset] [(.int (Int32.ofNat (A + D - A))), (.ref pa), (.long (n / (own_pw.getD (18 - (A + D)) 0)))])) rfl rfl (hb hby at_451) _ ?_
    show Steps p.tables e below (T119.setTop (mkF m 452 #[.val (.long q1), .second, .val (.int p2), .val (.int p3), .val (.int p4), .val (.ref pa), .val (.long n), .second, .val (.ref bb), .val (.int (Int32.ofNat A)), .val (.int (Int32.ofNat (A + D))), .unset, .unset] [(.long (own_pw.getD (A + D - A) 0)), (.long (n / (own_pw.getD (18 - (A + D)) 0)))])) _
    refine XS.lrem X119.here hx rfl (hb hby at_452) rfl (own_pwN (by omega)) ?_
    rw [own_lrem (n / (own_pw.getD (18 - (A + D)) 0)) (own_pw.getD (A + D - A) 0)]
    show Steps p.tables e below (T119.setTop (mkF m 453 #[.val (.long q1), .second, .val (.int p2), .val (.int p3), .val (.int p4), .val (.ref pa), .val (.long n), .second, .val (.ref bb), .val (.int (Int32.ofNat A)), .val (.int (Int32.ofNat (A + D))), .unset, .unset] [(.long ((n / (own_pw.getD (18 - (A + D)) 0)) % (own_pw.getD (A + D - A) 0)))])) _
    refine XS.lstore X119.here hx rfl (hb hby at_453) rfl (l' := #[.val (.long q1), .second, .val (.int p2), .val (.int p3), .val (.int p4), .val (.ref pa), .val (.long n), .second, .val (.ref bb), .val (.int (Int32.ofNat A)), .val (.int (Int32.ofNat (A + D))), .val (.long ((n / (own_pw.getD (18 - (A + D)) 0)) % (own_pw.getD (A + D - A) 0))), .second]) rfl ?_
    show Steps p.tables e below (T119.setTop (mkF m 455 #[.val (.long q1), .second, .val (.int p2), .val (.int p3), .val (.int p4), .val (.ref pa), .val (.long n), .second, .val (.ref bb), .val (.int (Int32.ofNat A)), .val (.int (Int32.ofNat (A + D))), .val (.long ((n / (own_pw.getD (18 - (A + D)) 0)) % (own_pw.getD (A + D - A) 0))), .second] [])) _
    refine XS.aload X119.here hx rfl (hb hby at_455) rfl rfl ?_
    show Steps p.tables e below (T119.setTop (mkF m 457 #[.val (.long q1), .second, .val (.int p2), .val (.int p3), .val (.int p4), .val (.ref pa), .val (.long n), .second, .val (.ref bb), .val (.int (Int32.ofNat A)), .val (.int (Int32.ofNat (A + D))), .val (.long ((n / (own_pw.getD (18 - (A + D)) 0)) % (own_pw.getD (A + D - A) 0))), .second] [(.ref bb)])) _
    refine XS.iconst X119.here hx rfl (hb hby at_457) ?_
    show Steps p.tables e below (T119.setTop (mkF m 458 #[.val (.long q1), .second, .val (.int p2), .val (.int p3), .val (.int p4), .val (.ref pa), .val (.long n), .second, .val (.ref bb), .val (.int (Int32.ofNat A)), .val (.int (Int32.ofNat (A + D))), .val (.long ((n / (own_pw.getD (18 - (A + D)) 0)) % (own_pw.getD (A + D - A) 0))), .second] [(.int (1 : Int32)), (.ref bb)])) _
    refine XS.iload X119.here hx rfl (hb hby at_458) rfl ?_
    show Steps p.tables e below (T119.setTop (mkF m 460 #[.val (.long q1), .second, .val (.int p2), .val (.int p3), .val (.int p4), .val (.ref pa), .val (.long n), .second, .val (.ref bb), .val (.int (Int32.ofNat A)), .val (.int (Int32.ofNat (A + D))), .val (.long ((n / (own_pw.getD (18 - (A + D)) 0)) % (own_pw.getD (A + D - A) 0))), .second] [(.int (Int32.ofNat A)), (.int (1 : Int32)), (.ref bb)])) _
    refine XS.iadd X119.here hx rfl (hb hby at_460) rfl ?_
    show Steps p.tables e below (T119.setTop (mkF m 461 #[.val (.long q1), .second, .val (.int p2), .val (.int p3), .val (.int p4), .val (.ref pa), .val (.long n), .second, .val (.ref bb), .val (.int (Int32.ofNat A)), .val (.int (Int32.ofNat (A + D))), .val (.long ((n / (own_pw.getD (18 - (A + D)) 0)) % (own_pw.getD (A + D - A) 0))), .second] [(.int ((1 : Int32) + (Int32.ofNat A))), (.ref bb)])) _
    rw [own_oneadd (show A < 999 by omega)]
    show Steps p.tables e below (T119.setTop (mkF m 461 #[.val (.long q1), .second, .val (.int p2), .val (.int p3), .val (.int p4), .val (.ref pa), .val (.long n), .second, .val (.ref bb), .val (.int (Int32.ofNat A)), .val (.int (Int32.ofNat (A + D))), .val (.long ((n / (own_pw.getD (18 - (A + D)) 0)) % (own_pw.getD (A + D - A) 0))), .second] [(.int (Int32.ofNat (A + 1))), (.ref bb)])) _
    refine XS.iconst X119.here hx rfl (hb hby at_461) ?_
    show Steps p.tables e below (T119.setTop (mkF m 462 #[.val (.long q1), .second, .val (.int p2), .val (.int p3), .val (.int p4), .val (.ref pa), .val (.long n), .second, .val (.ref bb), .val (.int (Int32.ofNat A)), .val (.int (Int32.ofNat (A + D))), .val (.long ((n / (own_pw.getD (18 - (A + D)) 0)) % (own_pw.getD (A + D - A) 0))), .second] [(.int (1 : Int32)), (.int (Int32.ofNat (A + 1))), (.ref bb)])) _
    refine XS.iload X119.here hx rfl (hb hby at_462) rfl ?_
    show Steps p.tables e below (T119.setTop (mkF m 464 #[.val (.long q1), .second, .val (.int p2), .val (.int p3), .val (.int p4), .val (.ref pa), .val (.long n), .second, .val (.ref bb), .val (.int (Int32.ofNat A)), .val (.int (Int32.ofNat (A + D))), .val (.long ((n / (own_pw.getD (18 - (A + D)) 0)) % (own_pw.getD (A + D - A) 0))), .second] [(.int (Int32.ofNat (A + D))), (.int (1 : Int32)), (.int (Int32.ofNat (A + 1))), (.ref bb)])) _
    refine XS.iadd X119.here hx rfl (hb hby at_464) rfl ?_
    show Steps p.tables e below (T119.setTop (mkF m 465 #[.val (.long q1), .second, .val (.int p2), .val (.int p3), .val (.int p4), .val (.ref pa), .val (.long n), .second, .val (.ref bb), .val (.int (Int32.ofNat A)), .val (.int (Int32.ofNat (A + D))), .val (.long ((n / (own_pw.getD (18 - (A + D)) 0)) % (own_pw.getD (A + D - A) 0))), .second] [(.int ((1 : Int32) + (Int32.ofNat (A + D)))), (.int (Int32.ofNat (A + 1))), (.ref bb)])) _
    rw [own_oneadd (show A + D < 999 by omega)]
    show Steps p.tables e below (T119.setTop (mkF m 465 #[.val (.long q1), .second, .val (.int p2), .val (.int p3), .val (.int p4), .val (.ref pa), .val (.long n), .second, .val (.ref bb), .val (.int (Int32.ofNat A)), .val (.int (Int32.ofNat (A + D))), .val (.long ((n / (own_pw.getD (18 - (A + D)) 0)) % (own_pw.getD (A + D - A) 0))), .second] [(.int (Int32.ofNat (A + D + 1))), (.int (Int32.ofNat (A + 1))), (.ref bb)])) _
    refine st123 _ ?_
    show Steps p.tables e below (T123.setTop (mkF m 468 #[.val (.long q1), .second, .val (.int p2), .val (.int p3), .val (.int p4), .val (.ref pa), .val (.long n), .second, .val (.ref bb), .val (.int (Int32.ofNat A)), .val (.int (Int32.ofNat (A + D))), .val (.long ((n / (own_pw.getD (18 - (A + D)) 0)) % (own_pw.getD (A + D - A) 0))), .second] [(.long (own_av n.toInt.toNat A (A + D + 1 - (A + 1))))])) _
    refine XS.lload X123.here hx rfl (hb hby at_468) rfl ?_
    show Steps p.tables e below (T123.setTop (mkF m 470 #[.val (.long q1), .second, .val (.int p2), .val (.int p3), .val (.int p4), .val (.ref pa), .val (.long n), .second, .val (.ref bb), .val (.int (Int32.ofNat A)), .val (.int (Int32.ofNat (A + D))), .val (.long ((n / (own_pw.getD (18 - (A + D)) 0)) % (own_pw.getD (A + D - A) 0))), .second] [(.long ((n / (own_pw.getD (18 - (A + D)) 0)) % (own_pw.getD (A + D - A) 0))), (.long (own_av n.toInt.toNat A (A + D + 1 - (A + 1))))])) _
    refine XS.lcmp X123.here hx rfl (hb hby at_470) rfl ?_
    show Steps p.tables e below (T123.setTop (mkF m 471 #[.val (.long q1), .second, .val (.int p2), .val (.int p3), .val (.int p4), .val (.ref pa), .val (.long n), .second, .val (.ref bb), .val (.int (Int32.ofNat A)), .val (.int (Int32.ofNat (A + D))), .val (.long ((n / (own_pw.getD (18 - (A + D)) 0)) % (own_pw.getD (A + D - A) 0))), .second] [(.int (lcmpW (own_av n.toInt.toNat A (A + D + 1 - (A + 1))) ((n / (own_pw.getD (18 - (A + D)) 0)) % (own_pw.getD (A + D - A) 0))))])) _
    refine XS.ifNo X123.here hx rfl (hb hby at_471) rfl ((if0 _ _).trans (teq ((lw_eq _ _).mpr (own_end hnT hA hD) : (lcmpW (own_av n.toInt.toNat A (A + D + 1 - (A + 1))) ((n / (own_pw.getD (18 - (A + D)) 0)) % (own_pw.getD (A + D - A) 0))) = (0 : Int32))).2) ?_
    show Steps p.tables e below (T123.setTop (mkF m 474 #[.val (.long q1), .second, .val (.int p2), .val (.int p3), .val (.int p4), .val (.ref pa), .val (.long n), .second, .val (.ref bb), .val (.int (Int32.ofNat A)), .val (.int (Int32.ofNat (A + D))), .val (.long ((n / (own_pw.getD (18 - (A + D)) 0)) % (own_pw.getD (A + D - A) 0))), .second] [])) _
    refine XS.iconst X123.here hx rfl (hb hby at_474) ?_
    show Steps p.tables e below (T123.setTop (mkF m 475 #[.val (.long q1), .second, .val (.int p2), .val (.int p3), .val (.int p4), .val (.ref pa), .val (.long n), .second, .val (.ref bb), .val (.int (Int32.ofNat A)), .val (.int (Int32.ofNat (A + D))), .val (.long ((n / (own_pw.getD (18 - (A + D)) 0)) % (own_pw.getD (A + D - A) 0))), .second] [(.int (1 : Int32))])) _
    refine XS.goto X123.here hx rfl (pc0 := 475) (pc' := 479) rfl (hb hby at_475) (by decide) (by decide) ?_
    show Steps p.tables e below (T123.setTop (mkF m 479 #[.val (.long q1), .second, .val (.int p2), .val (.int p3), .val (.int p4), .val (.ref pa), .val (.long n), .second, .val (.ref bb), .val (.int (Int32.ofNat A)), .val (.int (Int32.ofNat (A + D))), .val (.long ((n / (own_pw.getD (18 - (A + D)) 0)) % (own_pw.getD (A + D - A) 0))), .second] [(.int (1 : Int32))])) _
    exact retN X123 hx (t := .boolean) Bd.returns (by simp) (hb hby at_479) hr
  · show Q0 n0 _ _ _
    exact ⟨rfl, N123⟩
set_option maxRecDepth 65536 in
set_option maxHeartbeats 40000000 in
theorem comes_1 {Post : Tables → Env → Array Value → State → Outcome → State → Prop} (hpost : ∀ tb e args s v u, (limb_1_1.after args s (.returned v) u = true ∧ limb_1_2.after args s (.returned v) u = true ∧ True) → FrameEnd s (.returned v) u (Jvm.fieldLocs frame_1_writes args s ++ Jvm.arrayLocs frame_1_arrays args s ++ Jvm.staticLocs frame_1_statics s) 16 192 → Post tb e args s (.returned v) u) :
    ArmFor flags0 classFile x code maxLocals ret World_1 tables_1 room_1 Calls_1 rest_1 Pre_1 Post := by
  intro l hfl _ _ p e ha hc hk s m args below hf hA hF happ hP
  obtain ⟨hcalls, hrest, hpre⟩ := hP
  obtain ⟨-, -, -, hnamed, -, -, -, hat⟩ := (Spec.applies_iff hf).mp happ
  obtain ⟨hg, hn⟩ := and_e (Cond.before_iff.mp (show (Jvm.Cond.and given_1 narrow_1).before args s = true from hpre))
  obtain ⟨g9, g10⟩ := and_e hg
  obtain ⟨g11, g12⟩ := and_e g10
  obtain ⟨g13, g14⟩ := and_e g12
  obtain ⟨g15, g16⟩ := and_e g14
  obtain ⟨w0, w1, w2, w3, rfl⟩ : ∃ w0 w1 w2 w3 : Value, args = #[w0, w1, w2, w3] := by
    have hs : args.size = 4 := by simpa [Cond.value, given_1] using g9
    obtain ⟨L⟩ := args
    match L, hs with
    | [w0, w1, w2, w3], _ => exact ⟨w0, w1, w2, w3, rfl⟩
  have hw := fun d (hd : d ∈ tables_1) => atoms_spec (ws := Jvm.Cond.code x code maxLocals ret :: tables_1) hat d (List.mem_cons_of_mem _ hd)
  have hfit : Fit s := fun {y c} hc i hi => by
    obtain ⟨ha, rfl⟩ := Array.getElem?_eq_some_iff.mp hc
    have q := List.all_eq_true.mp ((Array.all_eq_true_iff_forall_mem.mp hF) _ (Array.getElem_mem ha)) i (List.mem_range.mpr hi)
    simpa [Array.getElem?_eq_getElem hi] using q
  obtain ⟨i0, ei0⟩ := isL_v g11
  obtain rfl : w0 = (.long i0) := Option.some.inj ei0
  obtain ⟨i1, ei1⟩ := is_v g13
  obtain rfl : w1 = (.int i1) := Option.some.inj ei1
  obtain ⟨i2, ei2⟩ := is_v g15
  obtain rfl : w2 = (.int i2) := Option.some.inj ei2
  obtain ⟨i3, ei3⟩ := is_v g16
  obtain rfl : w3 = (.int i3) := Option.some.inj ei3
  obtain ⟨n, o, h1, h2, h3, _, L, rfl, ⟨rfl, N⟩, hq⟩ := rm0 l s _ hw tables_1 i0 i1 i2 i3 s.heap s.heap.size (Nat.le_refl _) p e ha hc hk s m _ below hf ((Spec.applies_iff_loose hf).mp happ).1 ⟨rfl, State.Warmed39.refl s, rfl⟩ trivial
  refine ⟨n, _, h1, h2, h3, hpost _ _ _ _ _ _ ⟨Cond.after_iff.mpr rfl, Cond.after_iff.mpr (eq_i res_at (Term.int_eval (1)) rfl), trivial⟩ ⟨hq.1, hq.2.1, (hq.2.2.sift fun y hy => Or.inr (N y hy)).mono (by decide) (by decide)⟩⟩
theorem main_1_1 : Claimed_1_1 := comes_1 fun _ _ _ _ _ _ h hF => ⟨h.1, hF⟩
theorem main_1_2 : Claimed_1_2 := comes_1 fun _ _ _ _ _ _ h hF => ⟨h.2.1, hF⟩
end Jvm.Pilot.@@N@@
namespace Jvm.Pilot.@@N@@
open Jvm Jvm.ClassFile Sem Op Lib Jvm.Free Jvm.Stand Jvm.Pilot.@@N@@.Jvm.D
/-! MADE BY PROGRAM (witnessworld.py) out of the Statement's table words and the real class files: 11 classes; the members and pool entries that the words name. The judged class is class 1, her method 1. -/
namespace start1
open Jvm.ClassFile
def u (s : String) : CpInfo := .utf8 (stringToUtf16 s)
/-- a pool by its gaps: so many unusable entries, then the entry; so many at the end -/
def gap : Nat → List CpInfo → List CpInfo
  | 0, r => r
  | n + 1, r => .unusable :: gap n r
def poolList (es : List (Nat × CpInfo)) (last : Nat) : List CpInfo := es.foldr (fun e r => gap e.1 (e.2 :: r)) (gap last [])
def pool (es : List (Nat × CpInfo)) (last : Nat) : Array CpInfo := ⟨poolList es last⟩
def fileOf (pool : Array CpInfo) (this : Nat) (attrs : Array Attribute := #[]) (ms : Array MethodInfo := #[]) (fl : Nat := 33) (sup : Nat := 0) (ifs : Array Nat := #[]) (fds : Array FieldInfo := #[]) : ClassFile where
  minorVersion := 0
  majorVersion := 65
  constantPool := pool
  accessFlags := fl
  thisClass := this
  superClass := sup
  interfaces := ifs
  fields := fds
  methods := ms
  attributes := attrs
def plain (name : String) (sup : Option ClassId) : Class where
  name := name
  kind := .ordinary
  loader := none
  accessFlags := 33
  super := sup
  interfaces := #[]
  cf := none
  fields := #[]
  methods := #[]
  instanceTypes := #[]
  staticTypes := #[]
  resolved := #[]
  callSites := []
  init := .initialized
  statics := none
  mirror := none

def pool0 : Array CpInfo := pool [(5, u "<init>"), (0, u "()V"), (1, .class_ 10), (1, u "java/lang/Object")] 113

def k0m0 : Method := { name := "<init>", desc := "()V", sig := { parameters := [], returnType := none }, accessFlags := 1, code := none }
/-- java/lang/Object -/
def k0 : Class := { plain "java/lang/Object" none with
  accessFlags := 33
  interfaces := #[]
  cf := some (fileOf pool0 8 #[] #[{ accessFlags := 1, nameIndex := 5, descriptorIndex := 6, attributes := #[] }] 33 0 #[] #[])
  fields := #[]
  methods := #[k0m0]
  instanceTypes := #[]
  staticTypes := #[]
  resolved := Array.replicate 124 none
  statics := none }

def pool1 : Array CpInfo := pool [(2, .class_ 4), (1, u "java/lang/Object"), (0, u "<init>"), (0, u "()V"), (0, .long 10), (1, .long 100), (1, .long 1000), (1, .long 10000), (1, .long 100000), (1, .long 1000000), (1, .long 10000000), (1, .long 100000000), (1, .long 1000000000), (1, .long 10000000000), (1, .long 100000000000), (1, .long 1000000000000), (1, .long 10000000000000), (1, .long 100000000000000), (1, .long 1000000000000000), (1, .long 10000000000000000), (1, .long 100000000000000000), (1, .long 1000000000000000000), (3, .long 9223372036854775807), (1, .methodref 48 49), (0, .class_ 50), (0, .nameAndType 51 52), (0, u "com/example/fjordgiro/fjordgiro/transmission/DigitsValuePinLaw"), (0, u "digit"), (0, u "([JJI)B"), (0, .integer 2147483647), (0, .methodref 55 56), (0, .class_ 57), (0, .nameAndType 58 59), (0, u "com/example/fjordgiro/fjordgiro/transmission/Digits"), (0, u "value"), (0, u "([BII)J"), (0, .long 48), (3, u "law"), (0, u "(JIII)Z")] 7

def k1m0 : Method := { name := "<init>", desc := "()V", sig := { parameters := [], returnType := none }, accessFlags := 2, code := none }
def k1c1 : Code := { maxStack := 6, maxLocals := 13, code := code, exceptionTable := #[], attributes := #[] }
def k1m1 : Method := { name := "law", desc := "(JIII)Z", sig := { parameters := [.long, .int, .int, .int], returnType := some .boolean }, accessFlags := 9, code := some k1c1 }
def k1c2 : Code := { maxStack := 7, maxLocals := 4, code := method_3_code, exceptionTable := #[], attributes := #[] }
def k1m2 : Method := { name := "digit", desc := "([JJI)B", sig := { parameters := [(.array .long), .long, .int], returnType := some .byte }, accessFlags := 10, code := some k1c2 }
/-- com/example/fjordgiro/fjordgiro/transmission/DigitsValuePinLaw -/
def k1 : Class := { plain "com/example/fjordgiro/fjordgiro/transmission/DigitsValuePinLaw" (some 0) with
  accessFlags := 49
  interfaces := #[]
  cf := some (fileOf pool1 48 #[] #[{ accessFlags := 2, nameIndex := 5, descriptorIndex := 6, attributes := #[] }, { accessFlags := 9, nameIndex := 64, descriptorIndex := 65, attributes := #[] }, { accessFlags := 10, nameIndex := 51, descriptorIndex := 52, attributes := #[] }] 49 2 #[] #[])
  fields := #[]
  methods := #[k1m0, k1m1, k1m2]
  instanceTypes := #[]
  staticTypes := #[]
  resolved := Array.replicate 73 none
  statics := none }

def pool2 : Array CpInfo := pool [(2, .class_ 4), (1, u "java/lang/Object"), (0, u "<init>"), (0, u "()V"), (7, .class_ 16), (1, u "com/example/fjordgiro/fjordgiro/transmission/Digits"), (37, .long 10), (22, u "value"), (0, u "([BII)J")] 22

def k2m0 : Method := { name := "<init>", desc := "()V", sig := { parameters := [], returnType := none }, accessFlags := 2, code := none }
def k2c1 : Code := { maxStack := 4, maxLocals := 6, code := prog_45_method_9_code, exceptionTable := #[], attributes := #[] }
def k2m1 : Method := { name := "value", desc := "([BII)J", sig := { parameters := [(.array .byte), .int, .int], returnType := some .long }, accessFlags := 8, code := some k2c1 }
/-- com/example/fjordgiro/fjordgiro/transmission/Digits -/
def k2 : Class := { plain "com/example/fjordgiro/fjordgiro/transmission/Digits" (some 0) with
  accessFlags := 49
  interfaces := #[]
  cf := some (fileOf pool2 14 #[] #[{ accessFlags := 2, nameIndex := 5, descriptorIndex := 6, attributes := #[] }, { accessFlags := 8, nameIndex := 77, descriptorIndex := 78, attributes := #[] }] 49 2 #[] #[])
  fields := #[]
  methods := #[k2m0, k2m1]
  instanceTypes := #[]
  staticTypes := #[]
  resolved := Array.replicate 101 none
  statics := none }

def pool3 : Array CpInfo := pool [(1, u "java/lang/Cloneable"), (0, .class_ 1), (0, u "java/lang/Object"), (0, .class_ 3)] 3

/-- java/lang/Cloneable -/
def k3 : Class := { plain "java/lang/Cloneable" (some 0) with
  accessFlags := 1537
  interfaces := #[]
  cf := some (fileOf pool3 2 #[] #[] 1537 4 #[] #[])
  fields := #[]
  methods := #[]
  instanceTypes := #[]
  staticTypes := #[]
  resolved := Array.replicate 8 none
  statics := none }

def pool4 : Array CpInfo := pool [(1, u "java/io/Serializable"), (0, .class_ 1), (0, u "java/lang/Object"), (0, .class_ 3)] 3

/-- java/io/Serializable -/
def k4 : Class := { plain "java/io/Serializable" (some 0) with
  accessFlags := 1537
  interfaces := #[]
  cf := some (fileOf pool4 2 #[] #[] 1537 4 #[] #[])
  fields := #[]
  methods := #[]
  instanceTypes := #[]
  staticTypes := #[]
  resolved := Array.replicate 8 none
  statics := none }

/-- the primitive byte -/
def k5 : Class := { plain "byte" none with kind := .primitive 'B', accessFlags := 0x411 }
/-- [B -/
def k6 : Class := { plain "[B" (some 0) with kind := .array 5 .byte, interfaces := #[3, 4], accessFlags := 1041 }

/-- the primitive int -/
def k7 : Class := { plain "int" none with kind := .primitive 'I', accessFlags := 0x411 }
/-- [I -/
def k8 : Class := { plain "[I" (some 0) with kind := .array 7 .int, interfaces := #[3, 4], accessFlags := 1041 }

/-- the primitive long -/
def k9 : Class := { plain "long" none with kind := .primitive 'J', accessFlags := 0x411 }
/-- [J -/
def k10 : Class := { plain "[J" (some 0) with kind := .array 9 .long, interfaces := #[3, 4], accessFlags := 1041 }

def heap : Heap := #[]
def classes : Array Class := #[k0, k1, k2, k3, k4, k5, k6, k7, k8, k9, k10]
def interned : List (Array UInt16 × Addr) := []
def slotsUsed : Nat := 0
def theMethod : MethodId := ⟨1, 1⟩
def args0 : Array Value := #[.long 5, .int 7, .int 9, .int 3]
def aboutOver (below : List Frame) : State where
  vm := { classes := classes, interned := interned.toArray }
  heap := heap
  slotsUsed := slotsUsed
  threads := #[{ frames := .invoking theMethod args0 :: below }]
def below0 : List Frame := [.native { method := ⟨0, 0⟩, args := #[] }]
def about1 : State := aboutOver below0
def p0 : Program := .bare "" "" ""
def e0 : Env := launch0.env 0 0 0
theorem w_frames : about1.frames = Frame.invoking theMethod args0 :: below0 := rfl
set_option maxRecDepth 65536 in
theorem w_args : argsFit about1.vm theMethod args0 = true := by decide +kernel
set_option maxRecDepth 65536 in
theorem w_heap : heapFits about1 = true := by decide +kernel
set_option maxRecDepth 65536 in
theorem w_runnable : about1.curStatus? = some .runnable := by decide +kernel
set_option maxRecDepth 65536 in
theorem w_alone : about1.alone = true := by decide +kernel
set_option maxRecDepth 65536 in
theorem w_named : about1.methodNamed? x = some theMethod := by decide +kernel
set_option maxRecDepth 65536 in
theorem w_hears : about1.hears theMethod below0 = true := by decide +kernel
set_option maxRecDepth 65536 in
theorem w_ripe : about1.ripe theMethod args0 below0 = true := by decide +kernel
theorem w_running : about1.status = .running := rfl
set_option maxRecDepth 65536 in
theorem w_room : about1.hasRoom e0.platform room_1 = true :=
  launch0.hasRoom_least _ room_1 (by decide +kernel) (by decide +kernel) (by decide +kernel) (by decide +kernel) (by decide +kernel) (by decide +kernel)
theorem allAtoms_all (ts : List Jvm.Cond) (a : Array Jvm.Value) (st : Jvm.State) : (allAtoms ts).before a st = ts.all (fun c => c.before a st) := by
  induction ts with
  | nil => rfl
  | cons c t ih =>
    show (Jvm.Cond.and c (allAtoms t)).before a st = _
    rw [Jvm.Cond.before_and, ih, List.all_cons]
def words1 : List Jvm.Cond := Jvm.Cond.code x code maxLocals ret :: tables_1
/-- a 'code' word, met by the world's own term for the bytes: nothing is compared byte by byte -/
theorem code_word {y : MethodName} {bytes : ByteArray} {mx : Nat} {rt : Option FieldType} {a : Array Value} {s : State} {m : MethodId} {meth : Method} {c : Code} (h1 : s.methodNamed? y = some m) (h2 : s.vm.method? m = some meth) (h3 : meth.code = some c) (h4 : c.code = bytes)
    (h5 : (c.maxLocals == mx && c.exceptionTable.isEmpty && decide (c.maxStack ≤ mostOperands) && decide (meth.sig.returnType = rt) && !meth.locks && decide (parseMethodDescriptor y.desc = some meth.sig)) = true) : (Jvm.Cond.code y bytes mx rt).before a s = true := by
  simp only [Bool.and_eq_true, beq_iff_eq, Bool.not_eq_true', decide_eq_true_eq] at h5
  obtain ⟨⟨⟨⟨⟨g1, g2⟩, g3⟩, g4⟩, g5⟩, g6⟩ := h5
  simp [Cond.before, Cond.holds, Cond.value, h1, h2, h3, h4, g1, g2, g3, g4, g5, g6]
def isCode : Jvm.Cond → Bool
  | .code _ _ _ _ => true
  | _ => false
theorem all_split {L : List Jvm.Cond} {P : Jvm.Cond → Bool} (h1 : L.all (fun c => isCode c || P c) = true) (h2 : ∀ c ∈ L.filter isCode, P c = true) : L.all P = true := by
  refine List.all_eq_true.mpr fun c hc => ?_
  have h := List.all_eq_true.mp h1 c hc
  rcases Bool.eq_false_or_eq_true (isCode c) with hi | hi
  · exact h2 c (List.mem_filter.mpr ⟨hc, hi⟩)
  · simpa [hi] using h
set_option maxRecDepth 65536 in
theorem w_c0 : (Jvm.Cond.code x code maxLocals ret).before args0 about1 = true := code_word (m := ⟨1, 1⟩) (meth := k1m1) (c := k1c1) (by decide +kernel) rfl rfl rfl (by decide +kernel)
set_option maxRecDepth 65536 in
theorem w_c1 : (Jvm.Cond.code ({ cls := "com/example/fjordgiro/fjordgiro/transmission/DigitsValuePinLaw", name := "digit", desc := "([JJI)B" } : Jvm.MethodName) method_3_code (4 : Nat) (Option.some Jvm.ClassFile.FieldType.byte)).before args0 about1 = true := code_word (m := ⟨1, 2⟩) (meth := k1m2) (c := k1c2) (by decide +kernel) rfl rfl rfl (by decide +kernel)
set_option maxRecDepth 65536 in
theorem w_c2 : (Jvm.Cond.code ({ cls := "com/example/fjordgiro/fjordgiro/transmission/Digits", name := "value", desc := "([BII)J" } : Jvm.MethodName) prog_45_method_9_code (6 : Nat) (Option.some Jvm.ClassFile.FieldType.long)).before args0 about1 = true := code_word (m := ⟨2, 1⟩) (meth := k2m1) (c := k2c1) (by decide +kernel) rfl rfl rfl (by decide +kernel)
def codes1 : List Jvm.Cond := [Jvm.Cond.code x code maxLocals ret, Jvm.Cond.code ({ cls := "com/example/fjordgiro/fjordgiro/transmission/DigitsValuePinLaw", name := "digit", desc := "([JJI)B" } : Jvm.MethodName) method_3_code (4 : Nat) (Option.some Jvm.ClassFile.FieldType.byte), Jvm.Cond.code ({ cls := "com/example/fjordgiro/fjordgiro/transmission/Digits", name := "value", desc := "([BII)J" } : Jvm.MethodName) prog_45_method_9_code (6 : Nat) (Option.some Jvm.ClassFile.FieldType.long)]
set_option maxRecDepth 65536 in
theorem codes_eq : words1.filter isCode = codes1 := rfl
theorem w_codes : ∀ c ∈ words1.filter isCode, c.before args0 about1 = true := by
  rw [codes_eq]
  intro c hc
  simp only [codes1, List.mem_cons, List.not_mem_nil, or_false] at hc
  rcases hc with rfl | rfl | rfl
  · exact w_c0
  · exact w_c1
  · exact w_c2
set_option maxRecDepth 65536 in
theorem w_t1 : (words1.take 24).all (fun c => isCode c || c.before args0 about1) = true := by decide +kernel
set_option maxRecDepth 65536 in
theorem w_t2 : (words1.drop 24).all (fun c => isCode c || c.before args0 about1) = true := by decide +kernel
theorem w_tables : (allAtoms (Jvm.Cond.code x code maxLocals ret :: tables_1)).before args0 about1 = true := by
  rw [allAtoms_all]
  show words1.all (fun c => c.before args0 about1) = true
  refine all_split ?_ w_codes
  rw [← List.take_append_drop 24 words1, List.all_append, w_t1, w_t2]
  rfl
set_option maxRecDepth 65536 in
theorem w_case : (Jvm.Cond.and given_1 narrow_1).before args0 about1 = true := by decide +kernel
theorem w_applies : (headSpec (Jvm.Cond.code x code maxLocals ret :: tables_1) room_1).applies x e0.platform about1 = true :=
  (Spec.applies_iff w_frames).mpr ⟨w_running, w_runnable, w_alone, w_named, w_hears, w_ripe, w_room, w_tables⟩
theorem atStart : AtStart classFile x code maxLocals ret World_1 tables_1 room_1 Calls_1 rest_1 Pre_1 launch0 p0 e0 about1 theMethod args0 below0 :=
  ⟨lists_1, trivial, launch0.admits_env _ _ _, launch0.least_env, fairChoices_fair.cas, fairChoices_fair.clock, w_frames, w_args, w_heap, w_applies, trivial, trivial, w_case⟩
end start1
theorem witness_1 : WitnessClaimed_1 := ⟨start1.p0, start1.e0, start1.about1, start1.theMethod, start1.args0, start1.below0, start1.atStart⟩
end Jvm.Pilot.@@N@@
