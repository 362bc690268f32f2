import JvmDerived
import JvmDerived.Pilot.@@N@@Statement
import JvmDerived.Pilot.@@N@@Code
set_option linter.unusedVariables false
set_option linter.unusedSimpArgs false
namespace Jvm.RoadKit
open Sem ClassFile Op Lib Jvm.Stand Jvm.Free Jvm.LawKit
section New
variable {p : Program} {l : Launch} {e : Env} {R : Room} {s : State} {m : MethodId} {args : Array Value} {below : List Frame} {meth : Method} {c : Code} {T : State} {locs : List Loc} {cells slots : Nat}
theorem retI (X : Stand p l e R s m args below meth c T locs cells slots) (hx : p.tables.exec = Jvm.exec) {pc : Nat} {Ls : Array Slot} {z : Int32} {rest : List Value} (hret : meth.sig.returnType = some .int) (hd : decode c.code pc = .ok (.ireturn, 1)) {fs : List Frame}
    (hl : ∀ (f : JFrame) (acts : List Action), f.method = m → f.locked = none → f.entered = [] → (doReturn e (T.setTop f) acts (some (.int z))).1 = T.setFrames fs) : Steps p.tables e below (T.setTop (mkF m pc Ls (.int z :: rest))) (T.setFrames fs) := by
  have hm' : T.vm.method? m = some meth := X.method'
  have hn : narrow .int (.int z) = .int z := rfl
  show Steps p.tables e below (T.setTop { method := m, pc := pc, locals := Ls, stack := _ :: rest, locked := none }) _
  jvm_step X.here [X.here.top, hx, hd, hm', hret, hn]
  first | (intro acts; rw [hl _ acts rfl rfl rfl]) | rw [hl _ _ rfl rfl rfl]
  exact Steps.refl _
end New
end Jvm.RoadKit
namespace Jvm.Pilot.@@N@@
open Jvm Jvm.ClassFile Sem Op Lib Jvm.Free Jvm.Stand Jvm.LawKit Jvm.RoadKit Bundle Jvm.Pilot.@@N@@.Jvm.D

theorem own_nat {x : Int32} {k : Nat} (h0 : 0 ≤ x.toInt) (h1 : x.toInt < k) : ∃ n : Nat, n < k ∧ x = Int32.ofNat n := by
  have h2 := x.toInt_lt
  refine ⟨x.toInt.toNat, by omega, ?_⟩
  apply Int32.toInt_inj.mp
  rw [Int32.toInt_ofNat_of_lt (by omega)]
  omega
def own_max (a b : Int32) : Int32 := if a < b then b else a
def own_min (a b : Int32) : Int32 := if b < a then b else a
/-- i sixteenths -/
def own_d (i : Nat) : UInt64 := FP.ddiv (FP.i2d (Int32.ofNat i)) (4625196817309499392 : UInt64)
set_option maxRecDepth 100000 in
theorem own_cmp : ∀ i < 17, ∀ j < 17, cmpValue (FP.dcmp (own_d i) (own_d j)) .g = lcmpW (Int64.ofNat i) (Int64.ofNat j) := by decide +kernel
set_option maxRecDepth 100000 in
theorem own_nn : ∀ i < 17, (own_d i) &&& 0x7fffffffffffffff ≤ 0x7ff0000000000000 := by decide +kernel
set_option maxRecDepth 100000 in
theorem own_add0 : ∀ i < 17, FP.dadd (own_d i) (own_d 0) = own_d i := by decide +kernel
theorem own_d0 : FP.dconst0 = own_d 0 := by decide +kernel
theorem own_d1 : FP.dconst1 = own_d 16 := by decide +kernel
theorem own_lt {i j : Nat} (hi : i < 17) (hj : j < 17) : (Int64.ofNat i < Int64.ofNat j) ↔ i < j := by
  rw [Int64.lt_iff_toInt_lt, Int64.toInt_ofNat_of_lt (by omega), Int64.toInt_ofNat_of_lt (by omega)]; omega
theorem own_lt32 {i j : Nat} (hi : i < 17) (hj : j < 17) : (Int32.ofNat i < Int32.ofNat j) ↔ i < j := by
  rw [Int32.lt_iff_toInt_lt, Int32.toInt_ofNat_of_lt (by omega), Int32.toInt_ofNat_of_lt (by omega)]; omega
theorem own_ab (x y : Int32) : ∃ i j : Nat, i < j ∧ j < 17 ∧ (x &&& (15 : Int32)) = Int32.ofNat i ∧ (((x &&& (15 : Int32)) + (1 : Int32)) + ((y &&& (15 : Int32)) % ((16 : Int32) - (x &&& (15 : Int32))))) = Int32.ofNat j := by
  have a1 := c_mask x 15 4 (by decide) (by decide)
  have a2 := c_mask y 15 4 (by decide) (by decide)
  generalize (x &&& 15) = a at *
  generalize (y &&& 15) = b at *
  have e1 : (1 : Int32).toInt = 1 := by decide
  have e16 : (16 : Int32).toInt = 16 := by decide
  have a3 := c_isub 16 a
  have a4 := rng32 (16 - a)
  have a5 := (c_iremV b (16 - a)).1 (by omega) (by omega)
  have a6 := c_iadd a 1
  have a7 := rng32 (a + 1)
  have a8 := c_iadd (a + 1) (b % (16 - a))
  have a9 := rng32 ((a + 1) + (b % (16 - a)))
  obtain ⟨i, hi, ei⟩ := own_nat (x := a) (k := 16) (by omega) (by omega)
  obtain ⟨j, hj, ej⟩ := own_nat (x := (a + 1) + (b % (16 - a))) (k := 17) (by omega) (by omega)
  refine ⟨i, j, ?_, hj, ei, ej⟩
  have q1 : a.toInt = i := by rw [ei, Int32.toInt_ofNat_of_lt (by omega)]
  have q2 : ((a + 1) + (b % (16 - a))).toInt = j := by rw [ej, Int32.toInt_ofNat_of_lt (by omega)]
  omega
theorem own_nz (x : Int32) : (16 : Int32) - (x &&& (15 : Int32)) ≠ 0 := fun e => by
  have a1 := c_mask x 15 4 (by decide) (by decide)
  have a3 := c_isub 16 (x &&& 15)
  have e16 : (16 : Int32).toInt = 16 := by decide
  rw [e] at a3
  have e0 : (0 : Int32).toInt = 0 := by decide
  omega
def own_ov (i j k l : Nat) : Int32 := if Int64.ofNat i < Int64.ofNat l then (if Int64.ofNat k < Int64.ofNat j then (1 : Int32) else (0 : Int32)) else (0 : Int32)
theorem own_law {i j k l : Nat} (h1 : i < j) (h2 : j < 17) (h3 : k < l) (h4 : l < 17) : own_ov i j k l = (if (own_max (Int32.ofNat i) (Int32.ofNat k)) < (own_min (Int32.ofNat j) (Int32.ofNat l)) then (1 : Int32) else (0 : Int32)) := by
  unfold own_ov own_max own_min
  simp only [own_lt (i := i) (j := l) (by omega) h4, own_lt (i := k) (j := j) (by omega) h2, own_lt32 (i := i) (j := k) (by omega) (by omega), own_lt32 (i := l) (j := j) h4 h2]
  by_cases c1 : i < k <;> by_cases c2 : l < j <;> simp only [c1, c2, if_true, if_false]
  · simp only [own_lt32 (i := k) (j := l) (by omega) (by omega)]; by_cases d1 : i < l <;> by_cases d2 : k < j <;> simp [d1, d2] <;> omega
  · simp only [own_lt32 (i := k) (j := j) (by omega) (by omega)]; by_cases d1 : i < l <;> by_cases d2 : k < j <;> simp [d1, d2] <;> omega
  · simp only [own_lt32 (i := i) (j := l) (by omega) (by omega)]; by_cases d1 : i < l <;> by_cases d2 : k < j <;> simp [d1, d2] <;> omega
  · simp only [own_lt32 (i := i) (j := j) (by omega) (by omega)]; by_cases d1 : i < l <;> by_cases d2 : k < j <;> simp [d1, d2] <;> omega
theorem pn_2 : plainName "java/lang/Record" = true := by first | (simp [plainName, overriddenIn]; done) | decide +kernel
theorem ef_2_R (m : MethodId) (x0 : Addr) : entryFrame m #[(.ref x0)] 1 = mkF m 0 #[.val (.ref x0)] [] := by first | (simp [entryFrame, mkF, argsToLocals, Value.category]; done) | rfl
theorem d2_0 : decode jdk_30_method_1_code 0 = .ok (.aload_n 0, 1) := by decide +kernel
theorem d2_1 : decode jdk_30_method_1_code 1 = .ok (.invokespecial 1, 3) := by decide +kernel
theorem d2_4 : decode jdk_30_method_1_code 4 = .ok (.return_, 1) := by decide +kernel
def Q_rm2 (Z : State) (a : Addr) (h0 : Heap) (n0 : Nat) (v : Option Value) (h : Heap) (L : List Loc) : Prop := v = none ∧ Fr n0 L ∧ h = h0
set_option maxRecDepth 65536 in
set_option maxHeartbeats 40000000 in
theorem rm2 (l : Launch) (Z : State) (a0 : Array Value) (hw : ∀ d ∈ tables_1, d.before a0 Z = true) (ws : List Jvm.Cond) (a : Addr) (h0 : Heap) (n0 : Nat) (Z0 : n0 ≤ h0.size)  :
    MetFree l (⟨"java/lang/Record", "<init>", "()V"⟩ : MethodName) (head1 (Jvm.Cond.code (⟨"java/lang/Record", "<init>", "()V"⟩ : MethodName) jdk_30_method_1_code 1 none :: ws) ({ frames := 1, cells := 0, slots := 0, locals := 12 } : Room)) (fun argv U => argv = #[(.ref a)] ∧ Z.Warmed39 U.vm ∧ U.heap = h0) (fun _ _ _ _ _ => True) (fun _ U o U' => ∃ v L, o = .returned v ∧ Q_rm2 Z a h0 n0 v U'.heap L ∧ FrameEnd U o U' L ({ frames := 1, cells := 0, slots := 0, locals := 12 } : Room).cells ({ frames := 1, cells := 0, slots := 0, locals := 12 } : Room).slots) := by
  refine MetFree.of_bodySF (plainFor_of_name pn_2) hisR ?_
  intro p e s m args below meth c s₁ Bd hml0 hP hK
  obtain ⟨rfl, hZ, hh⟩ := hP
  have hx := Bd.exec
  have hby := Bd.bytes
  have hml : c.maxLocals = 1 := hml0
  have hown : s.vm.findClass "java/lang/Record" = some m.cls := findClass_of_methodNamed Bd.named
  have hnm := (name_of_methodNamed Bd.named Bd.method).1
  have X0 : Stand p l e ({ frames := 1, cells := 0, slots := 0, locals := 12 } : Room) s m #[(.ref a)] below meth c s₁ [] 0 0 := Stand.of_body Bd
  have e0 : s₁.heap = h0 := by rw [← hh, Bd.state]; rfl
  have N0 := Fr.nil n0
  obtain ⟨G, hG⟩ : ∃ G : State → Prop, G = fun tg => Steps p.tables e below (s₁.setTop (entryFrame m #[(.ref a)] 1)) tg := ⟨_, rfl⟩
  have pre0 : ∀ tg, Steps p.tables e below (s₁.setTop (mkF m 0 #[.val (.ref a)] [])) tg → G tg := fun tg kt => by rw [hG]; exact castTop (ef_2_R m a) kt
  have pre1 : ∀ tg, Steps p.tables e below (s₁.setTop (mkF m 1 #[.val (.ref a)] [(.ref a)])) tg → G tg := fun tg kt => pre0 tg (by
    show Steps p.tables e below (s₁.setTop (mkF m 0 #[.val (.ref a)] [])) _
    refine XS.aloadN X0.here hx rfl (hb hby d2_0) rfl rfl ?_
    exact kt)
  obtain ⟨T2, X2, e2, st2⟩ := initO X0 hx hZ hown (hw _ (List.mem_of_getElem? (i := 12) rfl)) (hw _ (List.mem_of_getElem? (i := 13) rfl)) (hw _ (List.mem_of_getElem? (i := 14) rfl)) e0 (g := (mkF m 1 #[.val (.ref a)] [(.ref a)])) rfl (by rw [hml]; rfl) rfl (hb hby d2_1) (by decide) (W := 0) (by show 2 * 0 + _ ≤ _; exact Nat.le_of_eq rfl) (by decide)
  have pre2s : ∀ tg, Steps p.tables e below (T2.setTop (mkF m 4 #[.val (.ref a)] [])) tg → G tg := fun tg kt => pre1 tg (st2 tg kt)
  obtain ⟨fs, hr, hrun, hended, hW, hsame⟩ := X2.leave (v := none) (fun _ => rfl)
  subst hG
  refine ⟨_, _, pre2s _ ?_, hrun, hended, _, _, rfl, ?_, ⟨_, rfl⟩, hW, hsame.mono (by decide) (by decide)⟩
  · skip
    show Steps p.tables e below (T2.setTop (mkF m 4 #[.val (.ref a)] [])) _
    exact X2.returnOut hx Bd.returns (hb hby d2_4) hr
  · show Q_rm2 Z a h0 n0 _ T2.heap _
    rw [e2]
    exact ⟨rfl, N0, rfl⟩
theorem ef_4_I_I (m : MethodId) (x0 : Int32) (x1 : Int32) : entryFrame m #[(.int x0), (.int x1)] 2 = mkF m 0 #[.val (.int x0), .val (.int x1)] [] := by first | (simp [entryFrame, mkF, argsToLocals, Value.category]; done) | rfl
theorem d4_0 : decode jdk_29_method_65_code 0 = .ok (.iload_n 0, 1) := by decide +kernel
theorem d4_1 : decode jdk_29_method_65_code 1 = .ok (.iload_n 1, 1) := by decide +kernel
theorem d4_2 : decode jdk_29_method_65_code 2 = .ok (.if_icmp .lt 7, 3) := by decide +kernel
theorem d4_5 : decode jdk_29_method_65_code 5 = .ok (.iload_n 0, 1) := by decide +kernel
theorem d4_6 : decode jdk_29_method_65_code 6 = .ok (.goto 4, 3) := by decide +kernel
theorem d4_9 : decode jdk_29_method_65_code 9 = .ok (.iload_n 1, 1) := by decide +kernel
theorem d4_10 : decode jdk_29_method_65_code 10 = .ok (.ireturn, 1) := by decide +kernel
def Q_rm4 (Z : State) (a b : Int32) (h0 : Heap) (n0 : Nat) (v : Option Value) (h : Heap) (L : List Loc) : Prop := v = some (.int (own_max a b)) ∧ Fr n0 L ∧ h = h0
set_option maxRecDepth 65536 in
set_option maxHeartbeats 40000000 in
theorem rm4 (l : Launch) (Z : State) (a0 : Array Value) (hw : ∀ d ∈ tables_1, d.before a0 Z = true) (ws : List Jvm.Cond) (a b : Int32) (h0 : Heap) (n0 : Nat) (Z0 : n0 ≤ h0.size)  :
    MetFree l (⟨"java/lang/Math", "max", "(II)I"⟩ : MethodName) (head1 (Jvm.Cond.code (⟨"java/lang/Math", "max", "(II)I"⟩ : MethodName) jdk_29_method_65_code 2 (some .int) :: ws) ({ frames := 0, cells := 0, slots := 0, locals := 0 } : Room)) (fun argv U => argv = #[(.int a), (.int b)] ∧ Z.Warmed39 U.vm ∧ U.heap = h0) (fun _ _ _ _ _ => True) (fun _ U o U' => ∃ v L, o = .returned v ∧ Q_rm4 Z a b h0 n0 v U'.heap L ∧ FrameEnd U o U' L ({ frames := 0, cells := 0, slots := 0, locals := 0 } : Room).cells ({ frames := 0, cells := 0, slots := 0, locals := 0 } : Room).slots) := by
  refine MetFree.of_bodySF (Jvm.Free.JP.mathPlain rfl (by decide +kernel)) hisR ?_
  intro p e s m args below meth c s₁ Bd hml0 hP hK
  obtain ⟨rfl, hZ, hh⟩ := hP
  have hx := Bd.exec
  have hby := Bd.bytes
  have hml : c.maxLocals = 2 := hml0
  have hown : s.vm.findClass "java/lang/Math" = some m.cls := findClass_of_methodNamed Bd.named
  have hnm := (name_of_methodNamed Bd.named Bd.method).1
  have X0 : Stand p l e ({ frames := 0, cells := 0, slots := 0, locals := 0 } : Room) s m #[(.int a), (.int b)] below meth c s₁ [] 0 0 := Stand.of_body Bd
  have e0 : s₁.heap = h0 := by rw [← hh, Bd.state]; rfl
  have N0 := Fr.nil n0
  obtain ⟨G, hG⟩ : ∃ G : State → Prop, G = fun tg => Steps p.tables e below (s₁.setTop (entryFrame m #[(.int a), (.int b)] 2)) tg := ⟨_, rfl⟩
  have pre0 : ∀ tg, Steps p.tables e below (s₁.setTop (mkF m 0 #[.val (.int a), .val (.int b)] [])) tg → G tg := fun tg kt => by rw [hG]; exact castTop (ef_4_I_I m a b) kt
  have pre1 : ∀ tg, Steps p.tables e below (s₁.setTop (mkF m 2 #[.val (.int a), .val (.int b)] [(.int b), (.int a)])) tg → G tg := fun tg kt => pre0 tg (by
    show Steps p.tables e below (s₁.setTop (mkF m 0 #[.val (.int a), .val (.int b)] [])) _
    refine XS.iloadN X0.here hx rfl (hb hby d4_0) rfl ?_
    show Steps p.tables e below (s₁.setTop (mkF m 1 #[.val (.int a), .val (.int b)] [(.int a)])) _
    refine XS.iloadN X0.here hx rfl (hb hby d4_1) rfl ?_
    exact kt)
  have pre2 : ∀ tg, Steps p.tables e below (s₁.setTop (mkF m 10 #[.val (.int a), .val (.int b)] [(.int (if a < b then b else a))])) tg → G tg := by
    intro tg kt
    refine pre1 tg ?_
    by_cases hm2_0 : a < b
    · try simp only [if_pos hm2_0] at kt
      show Steps p.tables e below (s₁.setTop (mkF m 2 #[.val (.int a), .val (.int b)] [(.int b), (.int a)])) _
      refine XS.icmpYes X0.here hx rfl (pc0 := 2) (pc' := 9) rfl (hb hby d4_2) rfl (tlt hm2_0).1 (by decide) (by decide) ?_
      show Steps p.tables e below (s₁.setTop (mkF m 9 #[.val (.int a), .val (.int b)] [])) _
      refine XS.iloadN X0.here hx rfl (hb hby d4_9) rfl ?_
      exact kt
    · try simp only [if_neg hm2_0] at kt
      show Steps p.tables e below (s₁.setTop (mkF m 2 #[.val (.int a), .val (.int b)] [(.int b), (.int a)])) _
      refine XS.icmpNo X0.here hx rfl (hb hby d4_2) rfl (flt hm2_0).1 ?_
      show Steps p.tables e below (s₁.setTop (mkF m 5 #[.val (.int a), .val (.int b)] [])) _
      refine XS.iloadN X0.here hx rfl (hb hby d4_5) rfl ?_
      show Steps p.tables e below (s₁.setTop (mkF m 6 #[.val (.int a), .val (.int b)] [(.int a)])) _
      refine XS.goto X0.here hx rfl (pc0 := 6) (pc' := 10) rfl (hb hby d4_6) (by decide) (by decide) ?_
      exact kt
  obtain ⟨fs, hr, hrun, hended, hW, hsame⟩ := X0.leave (v := some (.int (if a < b then b else a))) (fun h => by rw [Bd.returns] at h; cases h)
  subst hG
  refine ⟨_, _, pre2 _ ?_, hrun, hended, _, _, rfl, ?_, ⟨_, rfl⟩, hW, hsame.mono (by decide) (by decide)⟩
  · skip
    show Steps p.tables e below (s₁.setTop (mkF m 10 #[.val (.int a), .val (.int b)] [(.int (if a < b then b else a))])) _
    exact retI X0 hx Bd.returns (hb hby d4_10) hr
  · show Q_rm4 Z a b h0 n0 _ s₁.heap _
    rw [e0]
    exact ⟨rfl, N0, rfl⟩
theorem ef_5_I_I (m : MethodId) (x0 : Int32) (x1 : Int32) : entryFrame m #[(.int x0), (.int x1)] 2 = mkF m 0 #[.val (.int x0), .val (.int x1)] [] := by first | (simp [entryFrame, mkF, argsToLocals, Value.category]; done) | rfl
theorem d5_0 : decode jdk_29_method_69_code 0 = .ok (.iload_n 0, 1) := by decide +kernel
theorem d5_1 : decode jdk_29_method_69_code 1 = .ok (.iload_n 1, 1) := by decide +kernel
theorem d5_2 : decode jdk_29_method_69_code 2 = .ok (.if_icmp .gt 7, 3) := by decide +kernel
theorem d5_5 : decode jdk_29_method_69_code 5 = .ok (.iload_n 0, 1) := by decide +kernel
theorem d5_6 : decode jdk_29_method_69_code 6 = .ok (.goto 4, 3) := by decide +kernel
theorem d5_9 : decode jdk_29_method_69_code 9 = .ok (.iload_n 1, 1) := by decide +kernel
theorem d5_10 : decode jdk_29_method_69_code 10 = .ok (.ireturn, 1) := by decide +kernel
def Q_rm5 (Z : State) (a b : Int32) (h0 : Heap) (n0 : Nat) (v : Option Value) (h : Heap) (L : List Loc) : Prop := v = some (.int (own_min a b)) ∧ Fr n0 L ∧ h = h0
set_option maxRecDepth 65536 in
set_option maxHeartbeats 40000000 in
theorem rm5 (l : Launch) (Z : State) (a0 : Array Value) (hw : ∀ d ∈ tables_1, d.before a0 Z = true) (ws : List Jvm.Cond) (a b : Int32) (h0 : Heap) (n0 : Nat) (Z0 : n0 ≤ h0.size)  :
    MetFree l (⟨"java/lang/Math", "min", "(II)I"⟩ : MethodName) (head1 (Jvm.Cond.code (⟨"java/lang/Math", "min", "(II)I"⟩ : MethodName) jdk_29_method_69_code 2 (some .int) :: ws) ({ frames := 0, cells := 0, slots := 0, locals := 0 } : Room)) (fun argv U => argv = #[(.int a), (.int b)] ∧ Z.Warmed39 U.vm ∧ U.heap = h0) (fun _ _ _ _ _ => True) (fun _ U o U' => ∃ v L, o = .returned v ∧ Q_rm5 Z a b h0 n0 v U'.heap L ∧ FrameEnd U o U' L ({ frames := 0, cells := 0, slots := 0, locals := 0 } : Room).cells ({ frames := 0, cells := 0, slots := 0, locals := 0 } : Room).slots) := by
  refine MetFree.of_bodySF (Jvm.Free.JP.mathPlain rfl (by decide +kernel)) hisR ?_
  intro p e s m args below meth c s₁ Bd hml0 hP hK
  obtain ⟨rfl, hZ, hh⟩ := hP
  have hx := Bd.exec
  have hby := Bd.bytes
  have hml : c.maxLocals = 2 := hml0
  have hown : s.vm.findClass "java/lang/Math" = some m.cls := findClass_of_methodNamed Bd.named
  have hnm := (name_of_methodNamed Bd.named Bd.method).1
  have X0 : Stand p l e ({ frames := 0, cells := 0, slots := 0, locals := 0 } : Room) s m #[(.int a), (.int b)] below meth c s₁ [] 0 0 := Stand.of_body Bd
  have e0 : s₁.heap = h0 := by rw [← hh, Bd.state]; rfl
  have N0 := Fr.nil n0
  obtain ⟨G, hG⟩ : ∃ G : State → Prop, G = fun tg => Steps p.tables e below (s₁.setTop (entryFrame m #[(.int a), (.int b)] 2)) tg := ⟨_, rfl⟩
  have pre0 : ∀ tg, Steps p.tables e below (s₁.setTop (mkF m 0 #[.val (.int a), .val (.int b)] [])) tg → G tg := fun tg kt => by rw [hG]; exact castTop (ef_5_I_I m a b) kt
  have pre1 : ∀ tg, Steps p.tables e below (s₁.setTop (mkF m 2 #[.val (.int a), .val (.int b)] [(.int b), (.int a)])) tg → G tg := fun tg kt => pre0 tg (by
    show Steps p.tables e below (s₁.setTop (mkF m 0 #[.val (.int a), .val (.int b)] [])) _
    refine XS.iloadN X0.here hx rfl (hb hby d5_0) rfl ?_
    show Steps p.tables e below (s₁.setTop (mkF m 1 #[.val (.int a), .val (.int b)] [(.int a)])) _
    refine XS.iloadN X0.here hx rfl (hb hby d5_1) rfl ?_
    exact kt)
  have pre2 : ∀ tg, Steps p.tables e below (s₁.setTop (mkF m 10 #[.val (.int a), .val (.int b)] [(.int (if b < a then b else a))])) tg → G tg := by
    intro tg kt
    refine pre1 tg ?_
    by_cases hm2_0 : b < a
    · try simp only [if_pos hm2_0] at kt
      show Steps p.tables e below (s₁.setTop (mkF m 2 #[.val (.int a), .val (.int b)] [(.int b), (.int a)])) _
      refine XS.icmpYes X0.here hx rfl (pc0 := 2) (pc' := 9) rfl (hb hby d5_2) rfl (tlt hm2_0).2.2.1 (by decide) (by decide) ?_
      show Steps p.tables e below (s₁.setTop (mkF m 9 #[.val (.int a), .val (.int b)] [])) _
      refine XS.iloadN X0.here hx rfl (hb hby d5_9) rfl ?_
      exact kt
    · try simp only [if_neg hm2_0] at kt
      show Steps p.tables e below (s₁.setTop (mkF m 2 #[.val (.int a), .val (.int b)] [(.int b), (.int a)])) _
      refine XS.icmpNo X0.here hx rfl (hb hby d5_2) rfl (flt hm2_0).2.2.1 ?_
      show Steps p.tables e below (s₁.setTop (mkF m 5 #[.val (.int a), .val (.int b)] [])) _
      refine XS.iloadN X0.here hx rfl (hb hby d5_5) rfl ?_
      show Steps p.tables e below (s₁.setTop (mkF m 6 #[.val (.int a), .val (.int b)] [(.int a)])) _
      refine XS.goto X0.here hx rfl (pc0 := 6) (pc' := 10) rfl (hb hby d5_6) (by decide) (by decide) ?_
      exact kt
  obtain ⟨fs, hr, hrun, hended, hW, hsame⟩ := X0.leave (v := some (.int (if b < a then b else a))) (fun h => by rw [Bd.returns] at h; cases h)
  subst hG
  refine ⟨_, _, pre2 _ ?_, hrun, hended, _, _, rfl, ?_, ⟨_, rfl⟩, hW, hsame.mono (by decide) (by decide)⟩
  · skip
    show Steps p.tables e below (s₁.setTop (mkF m 10 #[.val (.int a), .val (.int b)] [(.int (if b < a then b else a))])) _
    exact retI X0 hx Bd.returns (hb hby d5_10) hr
  · show Q_rm5 Z a b h0 n0 _ s₁.heap _
    rw [e0]
    exact ⟨rfl, N0, rfl⟩
theorem pn_1 : plainName "com/example/headwater/headwater/common/stream/KeyRange" = true := by first | (simp [plainName, overriddenIn]; done) | decide +kernel
theorem ef_1_R_D_D (m : MethodId) (x0 : Addr) (x1 : UInt64) (x2 : UInt64) : entryFrame m #[(.ref x0), (.double x1), (.double x2)] 5 = mkF m 0 #[.val (.ref x0), .val (.double x1), .second, .val (.double x2), .second] [] := by first | (simp [entryFrame, mkF, argsToLocals, Value.category]; done) | rfl
theorem pd_0 : parseMethodDescriptor "()V" = some ⟨[], none⟩ := by decide +kernel
theorem d1_0 : decode prog_32_method_1_code 0 = .ok (.aload_n 0, 1) := by decide +kernel
theorem d1_1 : decode prog_32_method_1_code 1 = .ok (.invokespecial 1, 3) := by decide +kernel
theorem d1_4 : decode prog_32_method_1_code 4 = .ok (.dconst 0, 1) := by decide +kernel
theorem d1_5 : decode prog_32_method_1_code 5 = .ok (.dload_n 1, 1) := by decide +kernel
theorem d1_6 : decode prog_32_method_1_code 6 = .ok (.dcmp .g, 1) := by decide +kernel
theorem d1_7 : decode prog_32_method_1_code 7 = .ok (.ifCond .gt 15, 3) := by decide +kernel
theorem d1_10 : decode prog_32_method_1_code 10 = .ok (.dload_n 1, 1) := by decide +kernel
theorem d1_11 : decode prog_32_method_1_code 11 = .ok (.dload_n 3, 1) := by decide +kernel
theorem d1_12 : decode prog_32_method_1_code 12 = .ok (.dcmp .g, 1) := by decide +kernel
theorem d1_13 : decode prog_32_method_1_code 13 = .ok (.ifCond .ge 9, 3) := by decide +kernel
theorem d1_16 : decode prog_32_method_1_code 16 = .ok (.dload_n 3, 1) := by decide +kernel
theorem d1_17 : decode prog_32_method_1_code 17 = .ok (.dconst 1, 1) := by decide +kernel
theorem d1_18 : decode prog_32_method_1_code 18 = .ok (.dcmp .g, 1) := by decide +kernel
theorem d1_19 : decode prog_32_method_1_code 19 = .ok (.ifCond .le 18, 3) := by decide +kernel
theorem d1_37 : decode prog_32_method_1_code 37 = .ok (.dload_n 1, 1) := by decide +kernel
theorem d1_38 : decode prog_32_method_1_code 38 = .ok (.dconst 0, 1) := by decide +kernel
theorem d1_39 : decode prog_32_method_1_code 39 = .ok (.dadd, 1) := by decide +kernel
theorem d1_40 : decode prog_32_method_1_code 40 = .ok (.dstore_n 1, 1) := by decide +kernel
theorem d1_41 : decode prog_32_method_1_code 41 = .ok (.aload_n 0, 1) := by decide +kernel
theorem d1_42 : decode prog_32_method_1_code 42 = .ok (.dload_n 1, 1) := by decide +kernel
theorem d1_43 : decode prog_32_method_1_code 43 = .ok (.putfield 16, 3) := by decide +kernel
theorem d1_46 : decode prog_32_method_1_code 46 = .ok (.aload_n 0, 1) := by decide +kernel
theorem d1_47 : decode prog_32_method_1_code 47 = .ok (.dload_n 3, 1) := by decide +kernel
theorem d1_48 : decode prog_32_method_1_code 48 = .ok (.putfield 22, 3) := by decide +kernel
theorem d1_51 : decode prog_32_method_1_code 51 = .ok (.return_, 1) := by decide +kernel
def Q_rm1 (Z : State) (a : Addr) (i j : Nat) (h0 : Heap) (n0 : Nat) (v : Option Value) (h : Heap) (L : List Loc) : Prop := v = none ∧ Fr n0 L ∧ Keep h0 h [a] ∧ Fld Z h a "com/example/headwater/headwater/common/stream/KeyRange" "from" "D" (.double (own_d i)) ∧ Fld Z h a "com/example/headwater/headwater/common/stream/KeyRange" "to" "D" (.double (own_d j))
set_option maxRecDepth 65536 in
set_option maxHeartbeats 40000000 in
theorem rm1 (l : Launch) (Z : State) (a0 : Array Value) (hw : ∀ d ∈ tables_1, d.before a0 Z = true) (ws : List Jvm.Cond) (a : Addr) (i j : Nat) (h0 : Heap) (n0 : Nat) (Z0 : n0 ≤ h0.size) (F_from : Fld Z h0 a "com/example/headwater/headwater/common/stream/KeyRange" "from" "D" (.double (0 : UInt64))) (F_to : Fld Z h0 a "com/example/headwater/headwater/common/stream/KeyRange" "to" "D" (.double (0 : UInt64))) (E_a : Exa Z h0 a "com/example/headwater/headwater/common/stream/KeyRange") (O_a : n0 ≤ a) (hij : i < j) (hj : j < 17) :
    MetFree l (⟨"com/example/headwater/headwater/common/stream/KeyRange", "<init>", "(DD)V"⟩ : MethodName) (head1 (Jvm.Cond.code (⟨"com/example/headwater/headwater/common/stream/KeyRange", "<init>", "(DD)V"⟩ : MethodName) prog_32_method_1_code 5 none :: ws) ({ frames := 2, cells := 0, slots := 0, locals := 60 } : Room)) (fun argv U => argv = #[(.ref a), (.double (own_d i)), (.double (own_d j))] ∧ Z.Warmed39 U.vm ∧ U.heap = h0) (fun _ _ _ _ _ => True) (fun _ U o U' => ∃ v L, o = .returned v ∧ Q_rm1 Z a i j h0 n0 v U'.heap L ∧ FrameEnd U o U' L ({ frames := 2, cells := 0, slots := 0, locals := 60 } : Room).cells ({ frames := 2, cells := 0, slots := 0, locals := 60 } : Room).slots) := by
  refine MetFree.of_bodySF (plainFor_of_name pn_1) hisR ?_
  intro p e s m args below meth c s₁ Bd hml0 hP hK
  obtain ⟨rfl, hZ, hh⟩ := hP
  have hx := Bd.exec
  have hby := Bd.bytes
  have hml : c.maxLocals = 5 := hml0
  have hown : s.vm.findClass "com/example/headwater/headwater/common/stream/KeyRange" = some m.cls := findClass_of_methodNamed Bd.named
  have hnm := (name_of_methodNamed Bd.named Bd.method).1
  have X0 : Stand p l e ({ frames := 2, cells := 0, slots := 0, locals := 60 } : Room) s m #[(.ref a), (.double (own_d i)), (.double (own_d j))] below meth c s₁ [] 0 0 := Stand.of_body Bd
  have e0 : s₁.heap = h0 := by rw [← hh, Bd.state]; rfl
  have N0 := Fr.nil n0
  obtain ⟨G, hG⟩ : ∃ G : State → Prop, G = fun tg => Steps p.tables e below (s₁.setTop (entryFrame m #[(.ref a), (.double (own_d i)), (.double (own_d j))] 5)) tg := ⟨_, rfl⟩
  have pre0 : ∀ tg, Steps p.tables e below (s₁.setTop (mkF m 0 #[.val (.ref a), .val (.double (own_d i)), .second, .val (.double (own_d j)), .second] [])) tg → G tg := fun tg kt => by rw [hG]; exact castTop (ef_1_R_D_D m a (own_d i) (own_d j)) kt
  have c1 : ¬ Int64.ofNat i < Int64.ofNat 0 := fun q => absurd ((own_lt (Nat.lt_trans hij hj) (by decide)).mp q) (by omega)
  have c2 : Int64.ofNat i < Int64.ofNat j := (own_lt (Nat.lt_trans hij hj) hj).mpr hij
  have c3 : ¬ Int64.ofNat 16 < Int64.ofNat j := fun q => absurd ((own_lt (by decide) hj).mp q) (by omega)
  have pre1 : ∀ tg, Steps p.tables e below (s₁.setTop (mkF m 1 #[.val (.ref a), .val (.double (own_d i)), .second, .val (.double (own_d j)), .second] [(.ref a)])) tg → G tg := fun tg kt => pre0 tg (by
    show Steps p.tables e below (s₁.setTop (mkF m 0 #[.val (.ref a), .val (.double (own_d i)), .second, .val (.double (own_d j)), .second] [])) _
    refine XS.aloadN X0.here hx rfl (hb hby d1_0) rfl rfl ?_
    exact kt)
  obtain ⟨_, _, ⟨T2, L2, k2, n2⟩, -, X2, ⟨Lc2, hQ2, l2, y2, z2⟩, st2⟩ := X0.specialBack hx (y := (⟨"java/lang/Record", "<init>", "()V"⟩ : MethodName)) rfl hown (mvT hZ (hw _ (List.mem_of_getElem? (i := 7) rfl))) (mvT hZ (hw _ (List.mem_of_getElem? (i := 8) rfl))) (mvT hZ (hw _ (List.mem_of_getElem? (i := 11) rfl))) (by decide) (backOf (W := 0) (rm2 l Z a0 hw [] a h0 n0 Z0 ) hZ (hw _ (List.mem_of_getElem? (i := 11) rfl)) (hw _ (List.mem_of_getElem? (i := 10) rfl)) (by decide) (by decide)) (g := (mkF m 1 #[.val (.ref a), .val (.double (own_d i)), .second, .val (.double (own_d j)), .second] [(.ref a)])) rfl (by rw [hml]; rfl) (Steps.refl _) (a := a) (argsL := []) (rest := []) (lenOf pd_0 rfl) rfl (by show 2 * 0 + _ ≤ _; exact Nat.le_of_eq rfl) (hb hby d1_1) (fun _ _ => ⟨rfl, e0, (Nat.le_of_ble_eq_true rfl), (Nat.le_of_ble_eq_true rfl)⟩)
  dsimp only [Pt.U, Pt.locs, Pt.cells, Pt.slots] at X2 l2 y2 z2 st2 hQ2
  subst l2 y2 z2
  obtain ⟨rfl, N2q, e2⟩ := hQ2
  have N2 := Fr.app N0 N2q
  have pre2s : ∀ tg, Steps p.tables e below (T2.setTop (mkF m 4 #[.val (.ref a), .val (.double (own_d i)), .second, .val (.double (own_d j)), .second] [])) tg → G tg := fun tg kt => pre1 tg (st2.trans kt)
  have pre3 : ∀ tg, Steps p.tables e below (T2.setTop (mkF m 43 #[.val (.ref a), .val (.double (own_d i)), .second, .val (.double (own_d j)), .second] [(.double (own_d i)), (.ref a)])) tg → G tg := fun tg kt => pre2s tg (by
    show Steps p.tables e below (T2.setTop (mkF m 4 #[.val (.ref a), .val (.double (own_d i)), .second, .val (.double (own_d j)), .second] [])) _
    refine XS.dconst0 X2.here hx rfl (hb hby d1_4) own_d0 ?_
    show Steps p.tables e below (T2.setTop (mkF m 5 #[.val (.ref a), .val (.double (own_d i)), .second, .val (.double (own_d j)), .second] [(.double (own_d 0))])) _
    refine XS.dloadN X2.here hx rfl (hb hby d1_5) rfl ?_
    show Steps p.tables e below (T2.setTop (mkF m 6 #[.val (.ref a), .val (.double (own_d i)), .second, .val (.double (own_d j)), .second] [(.double (own_d i)), (.double (own_d 0))])) _
    refine XS.dcmpS X2.here hx rfl (hb hby d1_6) rfl (own_cmp _ (by decide) _ (Nat.lt_trans hij hj)) ?_
    show Steps p.tables e below (T2.setTop (mkF m 7 #[.val (.ref a), .val (.double (own_d i)), .second, .val (.double (own_d j)), .second] [(.int (lcmpW (Int64.ofNat 0) (Int64.ofNat i)))])) _
    refine XS.ifNo X2.here hx rfl (hb hby d1_7) rfl ((if0 _ _).trans (flt (mt (lw_gt (Int64.ofNat 0) (Int64.ofNat i)).mp c1)).2.2.1) ?_
    show Steps p.tables e below (T2.setTop (mkF m 10 #[.val (.ref a), .val (.double (own_d i)), .second, .val (.double (own_d j)), .second] [])) _
    refine XS.dloadN X2.here hx rfl (hb hby d1_10) rfl ?_
    show Steps p.tables e below (T2.setTop (mkF m 11 #[.val (.ref a), .val (.double (own_d i)), .second, .val (.double (own_d j)), .second] [(.double (own_d i))])) _
    refine XS.dloadN X2.here hx rfl (hb hby d1_11) rfl ?_
    show Steps p.tables e below (T2.setTop (mkF m 12 #[.val (.ref a), .val (.double (own_d i)), .second, .val (.double (own_d j)), .second] [(.double (own_d j)), (.double (own_d i))])) _
    refine XS.dcmpS X2.here hx rfl (hb hby d1_12) rfl (own_cmp _ (Nat.lt_trans hij hj) _ hj) ?_
    show Steps p.tables e below (T2.setTop (mkF m 13 #[.val (.ref a), .val (.double (own_d i)), .second, .val (.double (own_d j)), .second] [(.int (lcmpW (Int64.ofNat i) (Int64.ofNat j)))])) _
    refine XS.ifNo X2.here hx rfl (hb hby d1_13) rfl ((if0 _ _).trans (tlt ((lw_lt (Int64.ofNat i) (Int64.ofNat j)).mpr c2)).2.1) ?_
    show Steps p.tables e below (T2.setTop (mkF m 16 #[.val (.ref a), .val (.double (own_d i)), .second, .val (.double (own_d j)), .second] [])) _
    refine XS.dloadN X2.here hx rfl (hb hby d1_16) rfl ?_
    show Steps p.tables e below (T2.setTop (mkF m 17 #[.val (.ref a), .val (.double (own_d i)), .second, .val (.double (own_d j)), .second] [(.double (own_d j))])) _
    refine XS.dconst1 X2.here hx rfl (hb hby d1_17) own_d1 ?_
    show Steps p.tables e below (T2.setTop (mkF m 18 #[.val (.ref a), .val (.double (own_d i)), .second, .val (.double (own_d j)), .second] [(.double (own_d 16)), (.double (own_d j))])) _
    refine XS.dcmpS X2.here hx rfl (hb hby d1_18) rfl (own_cmp _ hj _ (by decide)) ?_
    show Steps p.tables e below (T2.setTop (mkF m 19 #[.val (.ref a), .val (.double (own_d i)), .second, .val (.double (own_d j)), .second] [(.int (lcmpW (Int64.ofNat j) (Int64.ofNat 16)))])) _
    refine XS.ifYes X2.here hx rfl (pc0 := 19) (pc' := 37) rfl (hb hby d1_19) rfl ((if0 _ _).trans (flt (mt (lw_gt (Int64.ofNat j) (Int64.ofNat 16)).mp c3)).2.2.2) (by decide) (by decide) ?_
    show Steps p.tables e below (T2.setTop (mkF m 37 #[.val (.ref a), .val (.double (own_d i)), .second, .val (.double (own_d j)), .second] [])) _
    refine XS.dloadN X2.here hx rfl (hb hby d1_37) rfl ?_
    show Steps p.tables e below (T2.setTop (mkF m 38 #[.val (.ref a), .val (.double (own_d i)), .second, .val (.double (own_d j)), .second] [(.double (own_d i))])) _
    refine XS.dconst0 X2.here hx rfl (hb hby d1_38) own_d0 ?_
    show Steps p.tables e below (T2.setTop (mkF m 39 #[.val (.ref a), .val (.double (own_d i)), .second, .val (.double (own_d j)), .second] [(.double (own_d 0)), (.double (own_d i))])) _
    refine XS.daddS X2.here hx rfl (hb hby d1_39) rfl (by rw [own_add0 _ (Nat.lt_trans hij hj)]; exact own_nn _ (Nat.lt_trans hij hj)) (own_add0 _ (Nat.lt_trans hij hj)) ?_
    show Steps p.tables e below (T2.setTop (mkF m 40 #[.val (.ref a), .val (.double (own_d i)), .second, .val (.double (own_d j)), .second] [(.double (own_d i))])) _
    refine XS.dstoreN X2.here hx rfl (hb hby d1_40) rfl (l' := #[.val (.ref a), .val (.double (own_d i)), .second, .val (.double (own_d j)), .second]) rfl ?_
    show Steps p.tables e below (T2.setTop (mkF m 41 #[.val (.ref a), .val (.double (own_d i)), .second, .val (.double (own_d j)), .second] [])) _
    refine XS.aloadN X2.here hx rfl (hb hby d1_41) rfl rfl ?_
    show Steps p.tables e below (T2.setTop (mkF m 42 #[.val (.ref a), .val (.double (own_d i)), .second, .val (.double (own_d j)), .second] [(.ref a)])) _
    refine XS.dloadN X2.here hx rfl (hb hby d1_42) rfl ?_
    exact kt)
  obtain ⟨T4, h4, X4, e4, W4, st4⟩ := putF X2 hx hZ hown (host := "") (Or.inl (hw _ (List.mem_of_getElem? (i := 15) rfl))) Via.refl e2 F_from E_a (Or.inr ⟨(hw _ (List.mem_of_getElem? (i := 16) rfl)), rfl, hnm⟩) (hw _ (List.mem_of_getElem? (i := 1) rfl)) (ty := .double) (by decide) rfl rfl (g := (mkF m 43 #[.val (.ref a), .val (.double (own_d i)), .second, .val (.double (own_d j)), .second] [(.double (own_d i)), (.ref a)])) rfl rfl (hb hby d1_43)
  have pre4s : ∀ tg, Steps p.tables e below (T4.setTop (mkF m 46 #[.val (.ref a), .val (.double (own_d i)), .second, .val (.double (own_d j)), .second] [])) tg → G tg := fun tg kt => pre3 tg (st4 tg kt)
  have F_from_5 := F_from.same W4
  have F_to_6 := F_to.other W4 (Or.inr (slot_ne (Or.inr (hw _ (List.mem_of_getElem? (i := 18) rfl))) (Or.inr (hw _ (List.mem_of_getElem? (i := 16) rfl))) (by decide) (t := .double) (t' := .double) (by decide) (by decide)))
  have E_a_7 := E_a.wr W4
  have N4 := Fr.snoc X4 N2 O_a
  have Z4 : n0 ≤ h4.size := Nat.le_trans Z0 (Keep.of_wr W4).1
  have K4 : Keep h0 h4 [a] := (Keep.refl h0 [a]).wr W4 (Or.inl (List.mem_of_getElem? (i := 0) rfl))
  have pre8 : ∀ tg, Steps p.tables e below (T4.setTop (mkF m 48 #[.val (.ref a), .val (.double (own_d i)), .second, .val (.double (own_d j)), .second] [(.double (own_d j)), (.ref a)])) tg → G tg := fun tg kt => pre4s tg (by
    show Steps p.tables e below (T4.setTop (mkF m 46 #[.val (.ref a), .val (.double (own_d i)), .second, .val (.double (own_d j)), .second] [])) _
    refine XS.aloadN X4.here hx rfl (hb hby d1_46) rfl rfl ?_
    show Steps p.tables e below (T4.setTop (mkF m 47 #[.val (.ref a), .val (.double (own_d i)), .second, .val (.double (own_d j)), .second] [(.ref a)])) _
    refine XS.dloadN X4.here hx rfl (hb hby d1_47) rfl ?_
    exact kt)
  obtain ⟨T9, h9, X9, e9, W9, st9⟩ := putF X4 hx hZ hown (host := "") (Or.inl (hw _ (List.mem_of_getElem? (i := 17) rfl))) Via.refl e4 F_to_6 E_a_7 (Or.inr ⟨(hw _ (List.mem_of_getElem? (i := 18) rfl)), rfl, hnm⟩) (hw _ (List.mem_of_getElem? (i := 1) rfl)) (ty := .double) (by decide) rfl rfl (g := (mkF m 48 #[.val (.ref a), .val (.double (own_d i)), .second, .val (.double (own_d j)), .second] [(.double (own_d j)), (.ref a)])) rfl rfl (hb hby d1_48)
  have pre9s : ∀ tg, Steps p.tables e below (T9.setTop (mkF m 51 #[.val (.ref a), .val (.double (own_d i)), .second, .val (.double (own_d j)), .second] [])) tg → G tg := fun tg kt => pre8 tg (st9 tg kt)
  have F_from_10 := F_from_5.other W9 (Or.inr (slot_ne (Or.inr (hw _ (List.mem_of_getElem? (i := 16) rfl))) (Or.inr (hw _ (List.mem_of_getElem? (i := 18) rfl))) (by decide) (t := .double) (t' := .double) (by decide) (by decide)))
  have F_to_11 := F_to_6.same W9
  have E_a_12 := E_a_7.wr W9
  have N9 := Fr.snoc X9 N4 O_a
  have Z9 : n0 ≤ h9.size := Nat.le_trans Z4 (Keep.of_wr W9).1
  have K9 : Keep h0 h9 [a] := K4.wr W9 (Or.inl (List.mem_of_getElem? (i := 0) rfl))
  obtain ⟨fs, hr, hrun, hended, hW, hsame⟩ := X9.leave (v := none) (fun _ => rfl)
  subst hG
  refine ⟨_, _, pre9s _ ?_, hrun, hended, _, _, rfl, ?_, ⟨_, rfl⟩, hW, hsame.mono (by decide) (by decide)⟩
  · skip
    show Steps p.tables e below (T9.setTop (mkF m 51 #[.val (.ref a), .val (.double (own_d i)), .second, .val (.double (own_d j)), .second] [])) _
    exact X9.returnOut hx Bd.returns (hb hby d1_51) hr
  · show Q_rm1 Z a i j h0 n0 _ T9.heap _
    rw [e9]
    exact ⟨rfl, N9, K9, F_from_10, F_to_11⟩
theorem pn_6 : plainName "com/example/headwater/headwater/common/stream/KeyRange" = true := by first | (simp [plainName, overriddenIn]; done) | decide +kernel
theorem ef_6_R_R (m : MethodId) (x0 : Addr) (x1 : Addr) : entryFrame m #[(.ref x0), (.ref x1)] 2 = mkF m 0 #[.val (.ref x0), .val (.ref x1)] [] := by first | (simp [entryFrame, mkF, argsToLocals, Value.category]; done) | rfl
theorem d6_0 : decode prog_32_method_5_code 0 = .ok (.aload_n 0, 1) := by decide +kernel
theorem d6_1 : decode prog_32_method_5_code 1 = .ok (.getfield 16, 3) := by decide +kernel
theorem d6_4 : decode prog_32_method_5_code 4 = .ok (.aload_n 1, 1) := by decide +kernel
theorem d6_5 : decode prog_32_method_5_code 5 = .ok (.getfield 22, 3) := by decide +kernel
theorem d6_8 : decode prog_32_method_5_code 8 = .ok (.dcmp .g, 1) := by decide +kernel
theorem d6_9 : decode prog_32_method_5_code 9 = .ok (.ifCond .ge 19, 3) := by decide +kernel
theorem d6_12 : decode prog_32_method_5_code 12 = .ok (.aload_n 1, 1) := by decide +kernel
theorem d6_13 : decode prog_32_method_5_code 13 = .ok (.getfield 16, 3) := by decide +kernel
theorem d6_16 : decode prog_32_method_5_code 16 = .ok (.aload_n 0, 1) := by decide +kernel
theorem d6_17 : decode prog_32_method_5_code 17 = .ok (.getfield 22, 3) := by decide +kernel
theorem d6_20 : decode prog_32_method_5_code 20 = .ok (.dcmp .g, 1) := by decide +kernel
theorem d6_21 : decode prog_32_method_5_code 21 = .ok (.ifCond .ge 7, 3) := by decide +kernel
theorem d6_24 : decode prog_32_method_5_code 24 = .ok (.iconst 1, 1) := by decide +kernel
theorem d6_25 : decode prog_32_method_5_code 25 = .ok (.goto 4, 3) := by decide +kernel
theorem d6_28 : decode prog_32_method_5_code 28 = .ok (.iconst 0, 1) := by decide +kernel
theorem d6_29 : decode prog_32_method_5_code 29 = .ok (.ireturn, 1) := by decide +kernel
def Q_rm6 (Z : State) (a b : Addr) (i j k l2 : Nat) (h0 : Heap) (n0 : Nat) (v : Option Value) (h : Heap) (L : List Loc) : Prop := v = some (.int (own_ov i j k l2)) ∧ Fr n0 L ∧ h = h0
set_option maxRecDepth 65536 in
set_option maxHeartbeats 40000000 in
theorem rm6 (l : Launch) (Z : State) (a0 : Array Value) (hw : ∀ d ∈ tables_1, d.before a0 Z = true) (ws : List Jvm.Cond) (a b : Addr) (i j k l2 : Nat) (h0 : Heap) (n0 : Nat) (Z0 : n0 ≤ h0.size) (F1 : Fld Z h0 a "com/example/headwater/headwater/common/stream/KeyRange" "from" "D" (.double (own_d i))) (F2 : Fld Z h0 a "com/example/headwater/headwater/common/stream/KeyRange" "to" "D" (.double (own_d j))) (F3 : Fld Z h0 b "com/example/headwater/headwater/common/stream/KeyRange" "from" "D" (.double (own_d k))) (F4 : Fld Z h0 b "com/example/headwater/headwater/common/stream/KeyRange" "to" "D" (.double (own_d l2))) (u1 : i < j) (u2 : j < 17) (u3 : k < l2) (u4 : l2 < 17) :
    MetFree l (⟨"com/example/headwater/headwater/common/stream/KeyRange", "overlaps", "(Lcom/example/headwater/headwater/common/stream/KeyRange;)Z"⟩ : MethodName) (head1 (Jvm.Cond.code (⟨"com/example/headwater/headwater/common/stream/KeyRange", "overlaps", "(Lcom/example/headwater/headwater/common/stream/KeyRange;)Z"⟩ : MethodName) prog_32_method_5_code 2 (some .boolean) :: ws) ({ frames := 0, cells := 0, slots := 0, locals := 0 } : Room)) (fun argv U => argv = #[(.ref a), (.ref b)] ∧ Z.Warmed39 U.vm ∧ U.heap = h0) (fun _ _ _ _ _ => True) (fun _ U o U' => ∃ v L, o = .returned v ∧ Q_rm6 Z a b i j k l2 h0 n0 v U'.heap L ∧ FrameEnd U o U' L ({ frames := 0, cells := 0, slots := 0, locals := 0 } : Room).cells ({ frames := 0, cells := 0, slots := 0, locals := 0 } : Room).slots) := by
  refine MetFree.of_bodySF (plainFor_of_name pn_6) hisR ?_
  intro p e s m args below meth c s₁ Bd hml0 hP hK
  obtain ⟨rfl, hZ, hh⟩ := hP
  have hx := Bd.exec
  have hby := Bd.bytes
  have hml : c.maxLocals = 2 := hml0
  have hown : s.vm.findClass "com/example/headwater/headwater/common/stream/KeyRange" = some m.cls := findClass_of_methodNamed Bd.named
  have hnm := (name_of_methodNamed Bd.named Bd.method).1
  have X0 : Stand p l e ({ frames := 0, cells := 0, slots := 0, locals := 0 } : Room) s m #[(.ref a), (.ref b)] below meth c s₁ [] 0 0 := Stand.of_body Bd
  have e0 : s₁.heap = h0 := by rw [← hh, Bd.state]; rfl
  have N0 := Fr.nil n0
  obtain ⟨G, hG⟩ : ∃ G : State → Prop, G = fun tg => Steps p.tables e below (s₁.setTop (entryFrame m #[(.ref a), (.ref b)] 2)) tg := ⟨_, rfl⟩
  have pre0 : ∀ tg, Steps p.tables e below (s₁.setTop (mkF m 0 #[.val (.ref a), .val (.ref b)] [])) tg → G tg := fun tg kt => by rw [hG]; exact castTop (ef_6_R_R m a b) kt
  have pre1 : ∀ tg, Steps p.tables e below (s₁.setTop (mkF m 1 #[.val (.ref a), .val (.ref b)] [(.ref a)])) tg → G tg := fun tg kt => pre0 tg (by
    show Steps p.tables e below (s₁.setTop (mkF m 0 #[.val (.ref a), .val (.ref b)] [])) _
    refine XS.aloadN X0.here hx rfl (hb hby d6_0) rfl rfl ?_
    exact kt)
  obtain ⟨T2, X2, e2, st2⟩ := getF X0 hx hZ hown (host := "") (Or.inl (hw _ (List.mem_of_getElem? (i := 15) rfl))) Via.refl e0 F1 (g := (mkF m 1 #[.val (.ref a), .val (.ref b)] [(.ref a)])) rfl rfl (hb hby d6_1)
  have pre2s : ∀ tg, Steps p.tables e below (T2.setTop (mkF m 4 #[.val (.ref a), .val (.ref b)] [(.double (own_d i))])) tg → G tg := fun tg kt => pre1 tg (st2 tg kt)
  have pre3 : ∀ tg, Steps p.tables e below (T2.setTop (mkF m 5 #[.val (.ref a), .val (.ref b)] [(.ref b), (.double (own_d i))])) tg → G tg := fun tg kt => pre2s tg (by
    show Steps p.tables e below (T2.setTop (mkF m 4 #[.val (.ref a), .val (.ref b)] [(.double (own_d i))])) _
    refine XS.aloadN X2.here hx rfl (hb hby d6_4) rfl rfl ?_
    exact kt)
  obtain ⟨T4, X4, e4, st4⟩ := getF X2 hx hZ hown (host := "") (Or.inl (hw _ (List.mem_of_getElem? (i := 17) rfl))) Via.refl e2 F4 (g := (mkF m 5 #[.val (.ref a), .val (.ref b)] [(.ref b), (.double (own_d i))])) rfl rfl (hb hby d6_5)
  have pre4s : ∀ tg, Steps p.tables e below (T4.setTop (mkF m 8 #[.val (.ref a), .val (.ref b)] [(.double (own_d l2)), (.double (own_d i))])) tg → G tg := fun tg kt => pre3 tg (st4 tg kt)
  have pre5 : ∀ tg, Steps p.tables e below (T4.setTop (mkF m 9 #[.val (.ref a), .val (.ref b)] [(.int (lcmpW (Int64.ofNat i) (Int64.ofNat l2)))])) tg → G tg := fun tg kt => pre4s tg (by
    show Steps p.tables e below (T4.setTop (mkF m 8 #[.val (.ref a), .val (.ref b)] [(.double (own_d l2)), (.double (own_d i))])) _
    refine XS.dcmpS X4.here hx rfl (hb hby d6_8) rfl (own_cmp _ (Nat.lt_trans u1 u2) _ u4) ?_
    exact kt)
  by_cases c9 : (Int64.ofNat i) < (Int64.ofNat l2)
  · -- c9
    have pre6 : ∀ tg, Steps p.tables e below (T4.setTop (mkF m 13 #[.val (.ref a), .val (.ref b)] [(.ref b)])) tg → G tg := fun tg kt => pre5 tg (by
      show Steps p.tables e below (T4.setTop (mkF m 9 #[.val (.ref a), .val (.ref b)] [(.int (lcmpW (Int64.ofNat i) (Int64.ofNat l2)))])) _
      refine XS.ifNo X4.here hx rfl (hb hby d6_9) rfl ((if0 _ _).trans (tlt ((lw_lt (Int64.ofNat i) (Int64.ofNat l2)).mpr c9)).2.1) ?_
      show Steps p.tables e below (T4.setTop (mkF m 12 #[.val (.ref a), .val (.ref b)] [])) _
      refine XS.aloadN X4.here hx rfl (hb hby d6_12) rfl rfl ?_
      exact kt)
    obtain ⟨T7, X7, e7, st7⟩ := getF X4 hx hZ hown (host := "") (Or.inl (hw _ (List.mem_of_getElem? (i := 15) rfl))) Via.refl e4 F3 (g := (mkF m 13 #[.val (.ref a), .val (.ref b)] [(.ref b)])) rfl rfl (hb hby d6_13)
    have pre7s : ∀ tg, Steps p.tables e below (T7.setTop (mkF m 16 #[.val (.ref a), .val (.ref b)] [(.double (own_d k))])) tg → G tg := fun tg kt => pre6 tg (st7 tg kt)
    have pre8 : ∀ tg, Steps p.tables e below (T7.setTop (mkF m 17 #[.val (.ref a), .val (.ref b)] [(.ref a), (.double (own_d k))])) tg → G tg := fun tg kt => pre7s tg (by
      show Steps p.tables e below (T7.setTop (mkF m 16 #[.val (.ref a), .val (.ref b)] [(.double (own_d k))])) _
      refine XS.aloadN X7.here hx rfl (hb hby d6_16) rfl rfl ?_
      exact kt)
    obtain ⟨T9, X9, e9, st9⟩ := getF X7 hx hZ hown (host := "") (Or.inl (hw _ (List.mem_of_getElem? (i := 17) rfl))) Via.refl e7 F2 (g := (mkF m 17 #[.val (.ref a), .val (.ref b)] [(.ref a), (.double (own_d k))])) rfl rfl (hb hby d6_17)
    have pre9s : ∀ tg, Steps p.tables e below (T9.setTop (mkF m 20 #[.val (.ref a), .val (.ref b)] [(.double (own_d j)), (.double (own_d k))])) tg → G tg := fun tg kt => pre8 tg (st9 tg kt)
    have pre10 : ∀ tg, Steps p.tables e below (T9.setTop (mkF m 21 #[.val (.ref a), .val (.ref b)] [(.int (lcmpW (Int64.ofNat k) (Int64.ofNat j)))])) tg → G tg := fun tg kt => pre9s tg (by
      show Steps p.tables e below (T9.setTop (mkF m 20 #[.val (.ref a), .val (.ref b)] [(.double (own_d j)), (.double (own_d k))])) _
      refine XS.dcmpS X9.here hx rfl (hb hby d6_20) rfl (own_cmp _ (Nat.lt_trans u3 u4) _ u2) ?_
      exact kt)
    by_cases c21 : (Int64.ofNat k) < (Int64.ofNat j)
    · -- c21
      obtain ⟨fs, hr, hrun, hended, hW, hsame⟩ := X9.leave (v := some (.int (1 : Int32))) (fun h => by rw [Bd.returns] at h; cases h)
      subst hG
      refine ⟨_, _, pre10 _ ?_, hrun, hended, _, _, rfl, ?_, ⟨_, rfl⟩, hW, hsame.mono (by decide) (by decide)⟩
      · skip
        show Steps p.tables e below (T9.setTop (mkF m 21 #[.val (.ref a), .val (.ref b)] [(.int (lcmpW (Int64.ofNat k) (Int64.ofNat j)))])) _
        refine XS.ifNo X9.here hx rfl (hb hby d6_21) rfl ((if0 _ _).trans (tlt ((lw_lt (Int64.ofNat k) (Int64.ofNat j)).mpr c21)).2.1) ?_
        show Steps p.tables e below (T9.setTop (mkF m 24 #[.val (.ref a), .val (.ref b)] [])) _
        refine XS.iconst X9.here hx rfl (hb hby d6_24) ?_
        show Steps p.tables e below (T9.setTop (mkF m 25 #[.val (.ref a), .val (.ref b)] [(.int (1 : Int32))])) _
        refine XS.goto X9.here hx rfl (pc0 := 25) (pc' := 29) rfl (hb hby d6_25) (by decide) (by decide) ?_
        show Steps p.tables e below (T9.setTop (mkF m 29 #[.val (.ref a), .val (.ref b)] [(.int (1 : Int32))])) _
        exact retN X9 hx (t := .boolean) Bd.returns (by simp) (hb hby d6_29) hr
      · show Q_rm6 Z a b i j k l2 h0 n0 _ T9.heap _
        rw [e9]
        exact ⟨by simp only [own_ov, if_pos c9, if_pos c21], N0, rfl⟩
    · -- not c21
      obtain ⟨fs, hr, hrun, hended, hW, hsame⟩ := X9.leave (v := some (.int (0 : Int32))) (fun h => by rw [Bd.returns] at h; cases h)
      subst hG
      refine ⟨_, _, pre10 _ ?_, hrun, hended, _, _, rfl, ?_, ⟨_, rfl⟩, hW, hsame.mono (by decide) (by decide)⟩
      · skip
        show Steps p.tables e below (T9.setTop (mkF m 21 #[.val (.ref a), .val (.ref b)] [(.int (lcmpW (Int64.ofNat k) (Int64.ofNat j)))])) _
        refine XS.ifYes X9.here hx rfl (pc0 := 21) (pc' := 28) rfl (hb hby d6_21) rfl ((if0 _ _).trans (flt (mt (lw_lt (Int64.ofNat k) (Int64.ofNat j)).mp c21)).2.1) (by decide) (by decide) ?_
        show Steps p.tables e below (T9.setTop (mkF m 28 #[.val (.ref a), .val (.ref b)] [])) _
        refine XS.iconst X9.here hx rfl (hb hby d6_28) ?_
        show Steps p.tables e below (T9.setTop (mkF m 29 #[.val (.ref a), .val (.ref b)] [(.int (0 : Int32))])) _
        exact retN X9 hx (t := .boolean) Bd.returns (by simp) (hb hby d6_29) hr
      · show Q_rm6 Z a b i j k l2 h0 n0 _ T9.heap _
        rw [e9]
        exact ⟨by simp only [own_ov, if_pos c9, if_neg c21], N0, rfl⟩
  · -- not c9
    obtain ⟨fs, hr, hrun, hended, hW, hsame⟩ := X4.leave (v := some (.int (0 : Int32))) (fun h => by rw [Bd.returns] at h; cases h)
    subst hG
    refine ⟨_, _, pre5 _ ?_, hrun, hended, _, _, rfl, ?_, ⟨_, rfl⟩, hW, hsame.mono (by decide) (by decide)⟩
    · skip
      show Steps p.tables e below (T4.setTop (mkF m 9 #[.val (.ref a), .val (.ref b)] [(.int (lcmpW (Int64.ofNat i) (Int64.ofNat l2)))])) _
      refine XS.ifYes X4.here hx rfl (pc0 := 9) (pc' := 28) rfl (hb hby d6_9) rfl ((if0 _ _).trans (flt (mt (lw_lt (Int64.ofNat i) (Int64.ofNat l2)).mp c9)).2.1) (by decide) (by decide) ?_
      show Steps p.tables e below (T4.setTop (mkF m 28 #[.val (.ref a), .val (.ref b)] [])) _
      refine XS.iconst X4.here hx rfl (hb hby d6_28) ?_
      show Steps p.tables e below (T4.setTop (mkF m 29 #[.val (.ref a), .val (.ref b)] [(.int (0 : Int32))])) _
      exact retN X4 hx (t := .boolean) Bd.returns (by simp) (hb hby d6_29) hr
    · show Q_rm6 Z a b i j k l2 h0 n0 _ T4.heap _
      rw [e4]
      exact ⟨by simp only [own_ov, if_neg c9], N0, rfl⟩
theorem pn_0 : plainName "com/example/headwater/headwater/common/stream/KeyRangeOverlapsPinLaw" = true := by first | (simp [plainName, overriddenIn]; done) | decide +kernel
theorem ef_0_I_I_I_I (m : MethodId) (x0 : Int32) (x1 : Int32) (x2 : Int32) (x3 : Int32) : entryFrame m #[(.int x0), (.int x1), (.int x2), (.int x3)] maxLocals = mkF m 0 #[.val (.int x0), .val (.int x1), .val (.int x2), .val (.int x3), .unset, .unset, .unset, .unset, .unset, .unset, .unset] [] := by first | (simp [entryFrame, mkF, argsToLocals, Value.category, maxLocals]; done) | rfl
theorem pd_1 : parseMethodDescriptor "(DD)V" = some ⟨[.double, .double], none⟩ := by decide +kernel
theorem pd_2 : parseMethodDescriptor "(II)I" = some ⟨[.int, .int], some .int⟩ := by decide +kernel
theorem pd_3 : parseMethodDescriptor "(Lcom/example/headwater/headwater/common/stream/KeyRange;)Z" = some ⟨[(.object "com/example/headwater/headwater/common/stream/KeyRange")], some .boolean⟩ := by decide +kernel
def Q_rm0 (Z : State) (p0 p1 p2 p3 : Int32) (h0 : Heap) (n0 : Nat) (v : Option Value) (h : Heap) (L : List Loc) : Prop := v = some (.int 1) ∧ Fr n0 L
set_option maxRecDepth 65536 in
set_option maxHeartbeats 40000000 in
theorem rm0 (l : Launch) (Z : State) (a0 : Array Value) (hw : ∀ d ∈ tables_1, d.before a0 Z = true) (ws : List Jvm.Cond) (p0 p1 p2 p3 : Int32) (h0 : Heap) (n0 : Nat) (Z0 : n0 ≤ h0.size)  :
    MetFree l x (head1 (Jvm.Cond.code x code maxLocals ret :: ws) room_1) (fun argv U => argv = #[(.int p0), (.int p1), (.int p2), (.int p3)] ∧ Z.Warmed39 U.vm ∧ U.heap = h0) (fun _ _ _ _ _ => True) (fun _ U o U' => ∃ v L, o = .returned v ∧ Q_rm0 Z p0 p1 p2 p3 h0 n0 v U'.heap L ∧ FrameEnd U o U' L 16 128) := by
  refine MetFree.of_bodySF (plainFor_of_name pn_0) hisR ?_
  intro p e s m args below meth c s₁ Bd hml0 hP hK
  obtain ⟨rfl, hZ, hh⟩ := hP
  have hx := Bd.exec
  have hby := Bd.bytes
  have hml : c.maxLocals = 11 := hml0
  have hown : s.vm.findClass "com/example/headwater/headwater/common/stream/KeyRangeOverlapsPinLaw" = some m.cls := findClass_of_methodNamed Bd.named
  have hnm := (name_of_methodNamed Bd.named Bd.method).1
  have X0 : Stand p l e room_1 s m #[(.int p0), (.int p1), (.int p2), (.int p3)] below meth c s₁ [] 0 0 := Stand.of_body Bd
  have e0 : s₁.heap = h0 := by rw [← hh, Bd.state]; rfl
  have N0 := Fr.nil n0
  obtain ⟨G, hG⟩ : ∃ G : State → Prop, G = fun tg => Steps p.tables e below (s₁.setTop (entryFrame m #[(.int p0), (.int p1), (.int p2), (.int p3)] maxLocals)) tg := ⟨_, rfl⟩
  have pre0 : ∀ tg, Steps p.tables e below (s₁.setTop (mkF m 0 #[.val (.int p0), .val (.int p1), .val (.int p2), .val (.int p3), .unset, .unset, .unset, .unset, .unset, .unset, .unset] [])) tg → G tg := fun tg kt => by rw [hG]; exact castTop (ef_0_I_I_I_I m p0 p1 p2 p3) kt
  have pre1 : ∀ tg, Steps p.tables e below (s₁.setTop (mkF m 46 #[.val (.int p0), .val (.int p1), .val (.int p2), .val (.int p3), .val (.int (p0 &&& (15 : Int32))), .val (.int (((p0 &&& (15 : Int32)) + (1 : Int32)) + ((p1 &&& (15 : Int32)) % ((16 : Int32) - (p0 &&& (15 : Int32)))))), .val (.int (p2 &&& (15 : Int32))), .val (.int (((p2 &&& (15 : Int32)) + (1 : Int32)) + ((p3 &&& (15 : Int32)) % ((16 : Int32) - (p2 &&& (15 : Int32)))))), .unset, .unset, .unset] [])) tg → G tg := fun tg kt => pre0 tg (by
    show Steps p.tables e below (s₁.setTop (mkF m 0 #[.val (.int p0), .val (.int p1), .val (.int p2), .val (.int p3), .unset, .unset, .unset, .unset, .unset, .unset, .unset] [])) _
    refine XS.iloadN X0.here hx rfl (hb hby at_0) rfl ?_
    show Steps p.tables e below (s₁.setTop (mkF m 1 #[.val (.int p0), .val (.int p1), .val (.int p2), .val (.int p3), .unset, .unset, .unset, .unset, .unset, .unset, .unset] [(.int p0)])) _
    refine XS.bipush X0.here hx rfl (hb hby at_1) ?_
    show Steps p.tables e below (s₁.setTop (mkF m 3 #[.val (.int p0), .val (.int p1), .val (.int p2), .val (.int p3), .unset, .unset, .unset, .unset, .unset, .unset, .unset] [(.int (15 : Int32)), (.int p0)])) _
    refine XS.iand X0.here hx rfl (hb hby at_3) rfl ?_
    show Steps p.tables e below (s₁.setTop (mkF m 4 #[.val (.int p0), .val (.int p1), .val (.int p2), .val (.int p3), .unset, .unset, .unset, .unset, .unset, .unset, .unset] [(.int (p0 &&& (15 : Int32)))])) _
    refine XS.istore X0.here hx rfl (hb hby at_4) rfl (l' := #[.val (.int p0), .val (.int p1), .val (.int p2), .val (.int p3), .val (.int (p0 &&& (15 : Int32))), .unset, .unset, .unset, .unset, .unset, .unset]) rfl ?_
    show Steps p.tables e below (s₁.setTop (mkF m 6 #[.val (.int p0), .val (.int p1), .val (.int p2), .val (.int p3), .val (.int (p0 &&& (15 : Int32))), .unset, .unset, .unset, .unset, .unset, .unset] [])) _
    refine XS.iload X0.here hx rfl (hb hby at_6) rfl ?_
    show Steps p.tables e below (s₁.setTop (mkF m 8 #[.val (.int p0), .val (.int p1), .val (.int p2), .val (.int p3), .val (.int (p0 &&& (15 : Int32))), .unset, .unset, .unset, .unset, .unset, .unset] [(.int (p0 &&& (15 : Int32)))])) _
    refine XS.iconst X0.here hx rfl (hb hby at_8) ?_
    show Steps p.tables e below (s₁.setTop (mkF m 9 #[.val (.int p0), .val (.int p1), .val (.int p2), .val (.int p3), .val (.int (p0 &&& (15 : Int32))), .unset, .unset, .unset, .unset, .unset, .unset] [(.int (1 : Int32)), (.int (p0 &&& (15 : Int32)))])) _
    refine XS.iadd X0.here hx rfl (hb hby at_9) rfl ?_
    show Steps p.tables e below (s₁.setTop (mkF m 10 #[.val (.int p0), .val (.int p1), .val (.int p2), .val (.int p3), .val (.int (p0 &&& (15 : Int32))), .unset, .unset, .unset, .unset, .unset, .unset] [(.int ((p0 &&& (15 : Int32)) + (1 : Int32)))])) _
    refine XS.iloadN X0.here hx rfl (hb hby at_10) rfl ?_
    show Steps p.tables e below (s₁.setTop (mkF m 11 #[.val (.int p0), .val (.int p1), .val (.int p2), .val (.int p3), .val (.int (p0 &&& (15 : Int32))), .unset, .unset, .unset, .unset, .unset, .unset] [(.int p1), (.int ((p0 &&& (15 : Int32)) + (1 : Int32)))])) _
    refine XS.bipush X0.here hx rfl (hb hby at_11) ?_
    show Steps p.tables e below (s₁.setTop (mkF m 13 #[.val (.int p0), .val (.int p1), .val (.int p2), .val (.int p3), .val (.int (p0 &&& (15 : Int32))), .unset, .unset, .unset, .unset, .unset, .unset] [(.int (15 : Int32)), (.int p1), (.int ((p0 &&& (15 : Int32)) + (1 : Int32)))])) _
    refine XS.iand X0.here hx rfl (hb hby at_13) rfl ?_
    show Steps p.tables e below (s₁.setTop (mkF m 14 #[.val (.int p0), .val (.int p1), .val (.int p2), .val (.int p3), .val (.int (p0 &&& (15 : Int32))), .unset, .unset, .unset, .unset, .unset, .unset] [(.int (p1 &&& (15 : Int32))), (.int ((p0 &&& (15 : Int32)) + (1 : Int32)))])) _
    refine XS.bipush X0.here hx rfl (hb hby at_14) ?_
    show Steps p.tables e below (s₁.setTop (mkF m 16 #[.val (.int p0), .val (.int p1), .val (.int p2), .val (.int p3), .val (.int (p0 &&& (15 : Int32))), .unset, .unset, .unset, .unset, .unset, .unset] [(.int (16 : Int32)), (.int (p1 &&& (15 : Int32))), (.int ((p0 &&& (15 : Int32)) + (1 : Int32)))])) _
    refine XS.iload X0.here hx rfl (hb hby at_16) rfl ?_
    show Steps p.tables e below (s₁.setTop (mkF m 18 #[.val (.int p0), .val (.int p1), .val (.int p2), .val (.int p3), .val (.int (p0 &&& (15 : Int32))), .unset, .unset, .unset, .unset, .unset, .unset] [(.int (p0 &&& (15 : Int32))), (.int (16 : Int32)), (.int (p1 &&& (15 : Int32))), (.int ((p0 &&& (15 : Int32)) + (1 : Int32)))])) _
    refine XS.isub X0.here hx rfl (hb hby at_18) rfl ?_
    show Steps p.tables e below (s₁.setTop (mkF m 19 #[.val (.int p0), .val (.int p1), .val (.int p2), .val (.int p3), .val (.int (p0 &&& (15 : Int32))), .unset, .unset, .unset, .unset, .unset, .unset] [(.int ((16 : Int32) - (p0 &&& (15 : Int32)))), (.int (p1 &&& (15 : Int32))), (.int ((p0 &&& (15 : Int32)) + (1 : Int32)))])) _
    refine iremM X0 hx rfl (hb hby at_19) rfl (own_nz p0) ?_
    show Steps p.tables e below (s₁.setTop (mkF m 20 #[.val (.int p0), .val (.int p1), .val (.int p2), .val (.int p3), .val (.int (p0 &&& (15 : Int32))), .unset, .unset, .unset, .unset, .unset, .unset] [(.int ((p1 &&& (15 : Int32)) % ((16 : Int32) - (p0 &&& (15 : Int32))))), (.int ((p0 &&& (15 : Int32)) + (1 : Int32)))])) _
    refine XS.iadd X0.here hx rfl (hb hby at_20) rfl ?_
    show Steps p.tables e below (s₁.setTop (mkF m 21 #[.val (.int p0), .val (.int p1), .val (.int p2), .val (.int p3), .val (.int (p0 &&& (15 : Int32))), .unset, .unset, .unset, .unset, .unset, .unset] [(.int (((p0 &&& (15 : Int32)) + (1 : Int32)) + ((p1 &&& (15 : Int32)) % ((16 : Int32) - (p0 &&& (15 : Int32))))))])) _
    refine XS.istore X0.here hx rfl (hb hby at_21) rfl (l' := #[.val (.int p0), .val (.int p1), .val (.int p2), .val (.int p3), .val (.int (p0 &&& (15 : Int32))), .val (.int (((p0 &&& (15 : Int32)) + (1 : Int32)) + ((p1 &&& (15 : Int32)) % ((16 : Int32) - (p0 &&& (15 : Int32)))))), .unset, .unset, .unset, .unset, .unset]) rfl ?_
    show Steps p.tables e below (s₁.setTop (mkF m 23 #[.val (.int p0), .val (.int p1), .val (.int p2), .val (.int p3), .val (.int (p0 &&& (15 : Int32))), .val (.int (((p0 &&& (15 : Int32)) + (1 : Int32)) + ((p1 &&& (15 : Int32)) % ((16 : Int32) - (p0 &&& (15 : Int32)))))), .unset, .unset, .unset, .unset, .unset] [])) _
    refine XS.iloadN X0.here hx rfl (hb hby at_23) rfl ?_
    show Steps p.tables e below (s₁.setTop (mkF m 24 #[.val (.int p0), .val (.int p1), .val (.int p2), .val (.int p3), .val (.int (p0 &&& (15 : Int32))), .val (.int (((p0 &&& (15 : Int32)) + (1 : Int32)) + ((p1 &&& (15 : Int32)) % ((16 : Int32) - (p0 &&& (15 : Int32)))))), .unset, .unset, .unset, .unset, .unset] [(.int p2)])) _
    refine XS.bipush X0.here hx rfl (hb hby at_24) ?_
    show Steps p.tables e below (s₁.setTop (mkF m 26 #[.val (.int p0), .val (.int p1), .val (.int p2), .val (.int p3), .val (.int (p0 &&& (15 : Int32))), .val (.int (((p0 &&& (15 : Int32)) + (1 : Int32)) + ((p1 &&& (15 : Int32)) % ((16 : Int32) - (p0 &&& (15 : Int32)))))), .unset, .unset, .unset, .unset, .unset] [(.int (15 : Int32)), (.int p2)])) _
    refine XS.iand X0.here hx rfl (hb hby at_26) rfl ?_
    show Steps p.tables e below (s₁.setTop (mkF m 27 #[.val (.int p0), .val (.int p1), .val (.int p2), .val (.int p3), .val (.int (p0 &&& (15 : Int32))), .val (.int (((p0 &&& (15 : Int32)) + (1 : Int32)) + ((p1 &&& (15 : Int32)) % ((16 : Int32) - (p0 &&& (15 : Int32)))))), .unset, .unset, .unset, .unset, .unset] [(.int (p2 &&& (15 : Int32)))])) _
    refine XS.istore X0.here hx rfl (hb hby at_27) rfl (l' := #[.val (.int p0), .val (.int p1), .val (.int p2), .val (.int p3), .val (.int (p0 &&& (15 : Int32))), .val (.int (((p0 &&& (15 : Int32)) + (1 : Int32)) + ((p1 &&& (15 : Int32)) % ((16 : Int32) - (p0 &&& (15 : Int32)))))), .val (.int (p2 &&& (15 : Int32))), .unset, .unset, .unset, .unset]) rfl ?_
    show Steps p.tables e below (s₁.setTop (mkF m 29 #[.val (.int p0), .val (.int p1), .val (.int p2), .val (.int p3), .val (.int (p0 &&& (15 : Int32))), .val (.int (((p0 &&& (15 : Int32)) + (1 : Int32)) + ((p1 &&& (15 : Int32)) % ((16 : Int32) - (p0 &&& (15 : Int32)))))), .val (.int (p2 &&& (15 : Int32))), .unset, .unset, .unset, .unset] [])) _
    refine XS.iload X0.here hx rfl (hb hby at_29) rfl ?_
    show Steps p.tables e below (s₁.setTop (mkF m 31 #[.val (.int p0), .val (.int p1), .val (.int p2), .val (.int p3), .val (.int (p0 &&& (15 : Int32))), .val (.int (((p0 &&& (15 : Int32)) + (1 : Int32)) + ((p1 &&& (15 : Int32)) % ((16 : Int32) - (p0 &&& (15 : Int32)))))), .val (.int (p2 &&& (15 : Int32))), .unset, .unset, .unset, .unset] [(.int (p2 &&& (15 : Int32)))])) _
    refine XS.iconst X0.here hx rfl (hb hby at_31) ?_
    show Steps p.tables e below (s₁.setTop (mkF m 32 #[.val (.int p0), .val (.int p1), .val (.int p2), .val (.int p3), .val (.int (p0 &&& (15 : Int32))), .val (.int (((p0 &&& (15 : Int32)) + (1 : Int32)) + ((p1 &&& (15 : Int32)) % ((16 : Int32) - (p0 &&& (15 : Int32)))))), .val (.int (p2 &&& (15 : Int32))), .unset, .unset, .unset, .unset] [(.int (1 : Int32)), (.int (p2 &&& (15 : Int32)))])) _
    refine XS.iadd X0.here hx rfl (hb hby at_32) rfl ?_
    show Steps p.tables e below (s₁.setTop (mkF m 33 #[.val (.int p0), .val (.int p1), .val (.int p2), .val (.int p3), .val (.int (p0 &&& (15 : Int32))), .val (.int (((p0 &&& (15 : Int32)) + (1 : Int32)) + ((p1 &&& (15 : Int32)) % ((16 : Int32) - (p0 &&& (15 : Int32)))))), .val (.int (p2 &&& (15 : Int32))), .unset, .unset, .unset, .unset] [(.int ((p2 &&& (15 : Int32)) + (1 : Int32)))])) _
    refine XS.iloadN X0.here hx rfl (hb hby at_33) rfl ?_
    show Steps p.tables e below (s₁.setTop (mkF m 34 #[.val (.int p0), .val (.int p1), .val (.int p2), .val (.int p3), .val (.int (p0 &&& (15 : Int32))), .val (.int (((p0 &&& (15 : Int32)) + (1 : Int32)) + ((p1 &&& (15 : Int32)) % ((16 : Int32) - (p0 &&& (15 : Int32)))))), .val (.int (p2 &&& (15 : Int32))), .unset, .unset, .unset, .unset] [(.int p3), (.int ((p2 &&& (15 : Int32)) + (1 : Int32)))])) _
    refine XS.bipush X0.here hx rfl (hb hby at_34) ?_
    show Steps p.tables e below (s₁.setTop (mkF m 36 #[.val (.int p0), .val (.int p1), .val (.int p2), .val (.int p3), .val (.int (p0 &&& (15 : Int32))), .val (.int (((p0 &&& (15 : Int32)) + (1 : Int32)) + ((p1 &&& (15 : Int32)) % ((16 : Int32) - (p0 &&& (15 : Int32)))))), .val (.int (p2 &&& (15 : Int32))), .unset, .unset, .unset, .unset] [(.int (15 : Int32)), (.int p3), (.int ((p2 &&& (15 : Int32)) + (1 : Int32)))])) _
    refine XS.iand X0.here hx rfl (hb hby at_36) rfl ?_
    show Steps p.tables e below (s₁.setTop (mkF m 37 #[.val (.int p0), .val (.int p1), .val (.int p2), .val (.int p3), .val (.int (p0 &&& (15 : Int32))), .val (.int (((p0 &&& (15 : Int32)) + (1 : Int32)) + ((p1 &&& (15 : Int32)) % ((16 : Int32) - (p0 &&& (15 : Int32)))))), .val (.int (p2 &&& (15 : Int32))), .unset, .unset, .unset, .unset] [(.int (p3 &&& (15 : Int32))), (.int ((p2 &&& (15 : Int32)) + (1 : Int32)))])) _
    refine XS.bipush X0.here hx rfl (hb hby at_37) ?_
    show Steps p.tables e below (s₁.setTop (mkF m 39 #[.val (.int p0), .val (.int p1), .val (.int p2), .val (.int p3), .val (.int (p0 &&& (15 : Int32))), .val (.int (((p0 &&& (15 : Int32)) + (1 : Int32)) + ((p1 &&& (15 : Int32)) % ((16 : Int32) - (p0 &&& (15 : Int32)))))), .val (.int (p2 &&& (15 : Int32))), .unset, .unset, .unset, .unset] [(.int (16 : Int32)), (.int (p3 &&& (15 : Int32))), (.int ((p2 &&& (15 : Int32)) + (1 : Int32)))])) _
    refine XS.iload X0.here hx rfl (hb hby at_39) rfl ?_
    show Steps p.tables e below (s₁.setTop (mkF m 41 #[.val (.int p0), .val (.int p1), .val (.int p2), .val (.int p3), .val (.int (p0 &&& (15 : Int32))), .val (.int (((p0 &&& (15 : Int32)) + (1 : Int32)) + ((p1 &&& (15 : Int32)) % ((16 : Int32) - (p0 &&& (15 : Int32)))))), .val (.int (p2 &&& (15 : Int32))), .unset, .unset, .unset, .unset] [(.int (p2 &&& (15 : Int32))), (.int (16 : Int32)), (.int (p3 &&& (15 : Int32))), (.int ((p2 &&& (15 : Int32)) + (1 : Int32)))])) _
    refine XS.isub X0.here hx rfl (hb hby at_41) rfl ?_
    show Steps p.tables e below (s₁.setTop (mkF m 42 #[.val (.int p0), .val (.int p1), .val (.int p2), .val (.int p3), .val (.int (p0 &&& (15 : Int32))), .val (.int (((p0 &&& (15 : Int32)) + (1 : Int32)) + ((p1 &&& (15 : Int32)) % ((16 : Int32) - (p0 &&& (15 : Int32)))))), .val (.int (p2 &&& (15 : Int32))), .unset, .unset, .unset, .unset] [(.int ((16 : Int32) - (p2 &&& (15 : Int32)))), (.int (p3 &&& (15 : Int32))), (.int ((p2 &&& (15 : Int32)) + (1 : Int32)))])) _
    refine iremM X0 hx rfl (hb hby at_42) rfl (own_nz p2) ?_
    show Steps p.tables e below (s₁.setTop (mkF m 43 #[.val (.int p0), .val (.int p1), .val (.int p2), .val (.int p3), .val (.int (p0 &&& (15 : Int32))), .val (.int (((p0 &&& (15 : Int32)) + (1 : Int32)) + ((p1 &&& (15 : Int32)) % ((16 : Int32) - (p0 &&& (15 : Int32)))))), .val (.int (p2 &&& (15 : Int32))), .unset, .unset, .unset, .unset] [(.int ((p3 &&& (15 : Int32)) % ((16 : Int32) - (p2 &&& (15 : Int32))))), (.int ((p2 &&& (15 : Int32)) + (1 : Int32)))])) _
    refine XS.iadd X0.here hx rfl (hb hby at_43) rfl ?_
    show Steps p.tables e below (s₁.setTop (mkF m 44 #[.val (.int p0), .val (.int p1), .val (.int p2), .val (.int p3), .val (.int (p0 &&& (15 : Int32))), .val (.int (((p0 &&& (15 : Int32)) + (1 : Int32)) + ((p1 &&& (15 : Int32)) % ((16 : Int32) - (p0 &&& (15 : Int32)))))), .val (.int (p2 &&& (15 : Int32))), .unset, .unset, .unset, .unset] [(.int (((p2 &&& (15 : Int32)) + (1 : Int32)) + ((p3 &&& (15 : Int32)) % ((16 : Int32) - (p2 &&& (15 : Int32))))))])) _
    refine XS.istore X0.here hx rfl (hb hby at_44) rfl (l' := #[.val (.int p0), .val (.int p1), .val (.int p2), .val (.int p3), .val (.int (p0 &&& (15 : Int32))), .val (.int (((p0 &&& (15 : Int32)) + (1 : Int32)) + ((p1 &&& (15 : Int32)) % ((16 : Int32) - (p0 &&& (15 : Int32)))))), .val (.int (p2 &&& (15 : Int32))), .val (.int (((p2 &&& (15 : Int32)) + (1 : Int32)) + ((p3 &&& (15 : Int32)) % ((16 : Int32) - (p2 &&& (15 : Int32)))))), .unset, .unset, .unset]) rfl ?_
    exact kt)
  obtain ⟨i, j, u1, u2, ei, ej⟩ := own_ab p0 p1
  obtain ⟨k, l', u3, u4, ek, el⟩ := own_ab p2 p3
  have pre2 : ∀ tg, Steps p.tables e below (s₁.setTop (mkF m 46 #[.val (.int p0), .val (.int p1), .val (.int p2), .val (.int p3), .val (.int (p0 &&& (15 : Int32))), .val (.int (Int32.ofNat j)), .val (.int (p2 &&& (15 : Int32))), .val (.int (Int32.ofNat l')), .unset, .unset, .unset] [])) tg → G tg := fun tg kt => pre1 tg (by rw [ej, el]; exact kt)
  have pre3 : ∀ tg, Steps p.tables e below (s₁.setTop (mkF m 46 #[.val (.int p0), .val (.int p1), .val (.int p2), .val (.int p3), .val (.int (Int32.ofNat i)), .val (.int (Int32.ofNat j)), .val (.int (Int32.ofNat k)), .val (.int (Int32.ofNat l')), .unset, .unset, .unset] [])) tg → G tg := fun tg kt => pre2 tg (by rw [ei, ek]; exact kt)
  obtain ⟨T4, h4, X4, e4, E4, A4, D4, -, st4⟩ := newO X0 hx hZ hown (hw _ (List.mem_of_getElem? (i := 0) rfl)) (hw _ (List.mem_of_getElem? (i := 1) rfl)) (hw _ (List.mem_of_getElem? (i := 2) rfl)) e0 (g := (mkF m 46 #[.val (.int p0), .val (.int p1), .val (.int p2), .val (.int p3), .val (.int (Int32.ofNat i)), .val (.int (Int32.ofNat j)), .val (.int (Int32.ofNat k)), .val (.int (Int32.ofNat l')), .unset, .unset, .unset] [])) rfl (hb hby at_46) (by decide) (by decide)
  obtain ⟨br, g4⟩ : ∃ z, z = h0.size := ⟨_, rfl⟩
  rw [← g4] at A4 D4 st4
  have O_br : n0 ≤ br := Nat.le_trans Z0 (Nat.le_of_eq g4.symm)
  have Z4 : n0 ≤ h4.size := Nat.le_trans Z0 E4.1
  have pre4s : ∀ tg, Steps p.tables e below (T4.setTop (mkF m 49 #[.val (.int p0), .val (.int p1), .val (.int p2), .val (.int p3), .val (.int (Int32.ofNat i)), .val (.int (Int32.ofNat j)), .val (.int (Int32.ofNat k)), .val (.int (Int32.ofNat l')), .unset, .unset, .unset] [(.ref br)])) tg → G tg := fun tg kt => pre3 tg (st4 tg kt)
  have Ffrom_br : Fld Z h4 br "com/example/headwater/headwater/common/stream/KeyRange" "from" "D" (.double (0 : UInt64)) := D4 (Or.inr (hw _ (List.mem_of_getElem? (i := 16) rfl))) (ty := .double) (by decide)
  have Fto_br : Fld Z h4 br "com/example/headwater/headwater/common/stream/KeyRange" "to" "D" (.double (0 : UInt64)) := D4 (Or.inr (hw _ (List.mem_of_getElem? (i := 18) rfl))) (ty := .double) (by decide)
  have pre5 : ∀ tg, Steps p.tables e below (T4.setTop (mkF m 64 #[.val (.int p0), .val (.int p1), .val (.int p2), .val (.int p3), .val (.int (Int32.ofNat i)), .val (.int (Int32.ofNat j)), .val (.int (Int32.ofNat k)), .val (.int (Int32.ofNat l')), .unset, .unset, .unset] [(.double (own_d j)), (.double (own_d i)), (.ref br), (.ref br)])) tg → G tg := fun tg kt => pre4s tg (by
    show Steps p.tables e below (T4.setTop (mkF m 49 #[.val (.int p0), .val (.int p1), .val (.int p2), .val (.int p3), .val (.int (Int32.ofNat i)), .val (.int (Int32.ofNat j)), .val (.int (Int32.ofNat k)), .val (.int (Int32.ofNat l')), .unset, .unset, .unset] [(.ref br)])) _
    refine XS.dup X4.here hx rfl (hb hby at_49) rfl rfl ?_
    show Steps p.tables e below (T4.setTop (mkF m 50 #[.val (.int p0), .val (.int p1), .val (.int p2), .val (.int p3), .val (.int (Int32.ofNat i)), .val (.int (Int32.ofNat j)), .val (.int (Int32.ofNat k)), .val (.int (Int32.ofNat l')), .unset, .unset, .unset] [(.ref br), (.ref br)])) _
    refine XS.iload X4.here hx rfl (hb hby at_50) rfl ?_
    show Steps p.tables e below (T4.setTop (mkF m 52 #[.val (.int p0), .val (.int p1), .val (.int p2), .val (.int p3), .val (.int (Int32.ofNat i)), .val (.int (Int32.ofNat j)), .val (.int (Int32.ofNat k)), .val (.int (Int32.ofNat l')), .unset, .unset, .unset] [(.int (Int32.ofNat i)), (.ref br), (.ref br)])) _
    refine XS.i2dS X4.here hx rfl (hb hby at_52) rfl rfl ?_
    show Steps p.tables e below (T4.setTop (mkF m 53 #[.val (.int p0), .val (.int p1), .val (.int p2), .val (.int p3), .val (.int (Int32.ofNat i)), .val (.int (Int32.ofNat j)), .val (.int (Int32.ofNat k)), .val (.int (Int32.ofNat l')), .unset, .unset, .unset] [(.double (FP.i2d (Int32.ofNat i))), (.ref br), (.ref br)])) _
    refine X4.ldc2DoubleC hx hown (mvT hZ (hw _ (List.mem_of_getElem? (i := 3) rfl))) (g := (mkF m 53 #[.val (.int p0), .val (.int p1), .val (.int p2), .val (.int p3), .val (.int (Int32.ofNat i)), .val (.int (Int32.ofNat j)), .val (.int (Int32.ofNat k)), .val (.int (Int32.ofNat l')), .unset, .unset, .unset] [(.double (FP.i2d (Int32.ofNat i))), (.ref br), (.ref br)])) rfl (hb hby at_53) _ ?_
    show Steps p.tables e below (T4.setTop (mkF m 56 #[.val (.int p0), .val (.int p1), .val (.int p2), .val (.int p3), .val (.int (Int32.ofNat i)), .val (.int (Int32.ofNat j)), .val (.int (Int32.ofNat k)), .val (.int (Int32.ofNat l')), .unset, .unset, .unset] [(.double (4625196817309499392 : UInt64)), (.double (FP.i2d (Int32.ofNat i))), (.ref br), (.ref br)])) _
    refine XS.ddivS X4.here hx rfl (hb hby at_56) rfl (own_nn _ (Nat.lt_trans u1 u2)) (v := own_d i) rfl ?_
    show Steps p.tables e below (T4.setTop (mkF m 57 #[.val (.int p0), .val (.int p1), .val (.int p2), .val (.int p3), .val (.int (Int32.ofNat i)), .val (.int (Int32.ofNat j)), .val (.int (Int32.ofNat k)), .val (.int (Int32.ofNat l')), .unset, .unset, .unset] [(.double (own_d i)), (.ref br), (.ref br)])) _
    refine XS.iload X4.here hx rfl (hb hby at_57) rfl ?_
    show Steps p.tables e below (T4.setTop (mkF m 59 #[.val (.int p0), .val (.int p1), .val (.int p2), .val (.int p3), .val (.int (Int32.ofNat i)), .val (.int (Int32.ofNat j)), .val (.int (Int32.ofNat k)), .val (.int (Int32.ofNat l')), .unset, .unset, .unset] [(.int (Int32.ofNat j)), (.double (own_d i)), (.ref br), (.ref br)])) _
    refine XS.i2dS X4.here hx rfl (hb hby at_59) rfl rfl ?_
    show Steps p.tables e below (T4.setTop (mkF m 60 #[.val (.int p0), .val (.int p1), .val (.int p2), .val (.int p3), .val (.int (Int32.ofNat i)), .val (.int (Int32.ofNat j)), .val (.int (Int32.ofNat k)), .val (.int (Int32.ofNat l')), .unset, .unset, .unset] [(.double (FP.i2d (Int32.ofNat j))), (.double (own_d i)), (.ref br), (.ref br)])) _
    refine X4.ldc2DoubleC hx hown (mvT hZ (hw _ (List.mem_of_getElem? (i := 3) rfl))) (g := (mkF m 60 #[.val (.int p0), .val (.int p1), .val (.int p2), .val (.int p3), .val (.int (Int32.ofNat i)), .val (.int (Int32.ofNat j)), .val (.int (Int32.ofNat k)), .val (.int (Int32.ofNat l')), .unset, .unset, .unset] [(.double (FP.i2d (Int32.ofNat j))), (.double (own_d i)), (.ref br), (.ref br)])) rfl (hb hby at_60) _ ?_
    show Steps p.tables e below (T4.setTop (mkF m 63 #[.val (.int p0), .val (.int p1), .val (.int p2), .val (.int p3), .val (.int (Int32.ofNat i)), .val (.int (Int32.ofNat j)), .val (.int (Int32.ofNat k)), .val (.int (Int32.ofNat l')), .unset, .unset, .unset] [(.double (4625196817309499392 : UInt64)), (.double (FP.i2d (Int32.ofNat j))), (.double (own_d i)), (.ref br), (.ref br)])) _
    refine XS.ddivS X4.here hx rfl (hb hby at_63) rfl (own_nn _ u2) (v := own_d j) rfl ?_
    exact kt)
  obtain ⟨_, _, ⟨T6, L6, k6, n6⟩, -, X6, ⟨Lc6, hQ6, l6, y6, z6⟩, st6⟩ := X4.specialBack hx (y := (⟨"com/example/headwater/headwater/common/stream/KeyRange", "<init>", "(DD)V"⟩ : MethodName)) rfl hown (mvT hZ (hw _ (List.mem_of_getElem? (i := 4) rfl))) (mvT hZ (hw _ (List.mem_of_getElem? (i := 5) rfl))) (mvT hZ (hw _ (List.mem_of_getElem? (i := 6) rfl))) (by decide) (backOf (W := 1) (rm1 l Z a0 hw [] br i j h4 n0 Z4 Ffrom_br Fto_br A4 O_br u1 u2) hZ (hw _ (List.mem_of_getElem? (i := 6) rfl)) (hw _ (List.mem_of_getElem? (i := 2) rfl)) (by decide) (by decide)) (g := (mkF m 64 #[.val (.int p0), .val (.int p1), .val (.int p2), .val (.int p3), .val (.int (Int32.ofNat i)), .val (.int (Int32.ofNat j)), .val (.int (Int32.ofNat k)), .val (.int (Int32.ofNat l')), .unset, .unset, .unset] [(.double (own_d j)), (.double (own_d i)), (.ref br), (.ref br)])) rfl (by rw [hml]; rfl) (Steps.refl _) (a := br) (argsL := [(.double (own_d i)), (.double (own_d j))]) (rest := [(.ref br)]) (lenOf pd_1 rfl) rfl (by show 2 * 0 + _ ≤ _; exact Nat.le_of_eq rfl) (hb hby at_64) (fun _ _ => ⟨rfl, e4, (Nat.le_of_ble_eq_true rfl), (Nat.le_of_ble_eq_true rfl)⟩)
  dsimp only [Pt.U, Pt.locs, Pt.cells, Pt.slots] at X6 l6 y6 z6 st6 hQ6
  subst l6 y6 z6
  obtain ⟨rfl, N6q, K6, Fa6, Fb6⟩ := hQ6
  have N6 := Fr.app N0 N6q
  have pre6s : ∀ tg, Steps p.tables e below (T6.setTop (mkF m 67 #[.val (.int p0), .val (.int p1), .val (.int p2), .val (.int p3), .val (.int (Int32.ofNat i)), .val (.int (Int32.ofNat j)), .val (.int (Int32.ofNat k)), .val (.int (Int32.ofNat l')), .unset, .unset, .unset] [(.ref br)])) tg → G tg := fun tg kt => pre5 tg (st6.trans kt)
  have Z6 : n0 ≤ T6.heap.size := Nat.le_trans Z4 K6.1
  have A4_7 := A4.keep K6
  have pre8 : ∀ tg, Steps p.tables e below (T6.setTop (mkF m 69 #[.val (.int p0), .val (.int p1), .val (.int p2), .val (.int p3), .val (.int (Int32.ofNat i)), .val (.int (Int32.ofNat j)), .val (.int (Int32.ofNat k)), .val (.int (Int32.ofNat l')), .val (.ref br), .unset, .unset] [])) tg → G tg := fun tg kt => pre6s tg (by
    show Steps p.tables e below (T6.setTop (mkF m 67 #[.val (.int p0), .val (.int p1), .val (.int p2), .val (.int p3), .val (.int (Int32.ofNat i)), .val (.int (Int32.ofNat j)), .val (.int (Int32.ofNat k)), .val (.int (Int32.ofNat l')), .unset, .unset, .unset] [(.ref br)])) _
    refine XS.astore X6.here hx rfl (hb hby at_67) rfl rfl (l' := #[.val (.int p0), .val (.int p1), .val (.int p2), .val (.int p3), .val (.int (Int32.ofNat i)), .val (.int (Int32.ofNat j)), .val (.int (Int32.ofNat k)), .val (.int (Int32.ofNat l')), .val (.ref br), .unset, .unset]) rfl ?_
    exact kt)
  obtain ⟨T9, h9, X9, e9, E9, A9, D9, -, st9⟩ := newO X6 hx hZ hown (hw _ (List.mem_of_getElem? (i := 0) rfl)) (hw _ (List.mem_of_getElem? (i := 1) rfl)) (hw _ (List.mem_of_getElem? (i := 2) rfl)) rfl (g := (mkF m 69 #[.val (.int p0), .val (.int p1), .val (.int p2), .val (.int p3), .val (.int (Int32.ofNat i)), .val (.int (Int32.ofNat j)), .val (.int (Int32.ofNat k)), .val (.int (Int32.ofNat l')), .val (.ref br), .unset, .unset] [])) rfl (hb hby at_69) (by decide) (by decide)
  obtain ⟨bs, g9⟩ : ∃ z, z = T6.heap.size := ⟨_, rfl⟩
  rw [← g9] at A9 D9 st9
  have O_bs : n0 ≤ bs := Nat.le_trans Z6 (Nat.le_of_eq g9.symm)
  have Z9 : n0 ≤ h9.size := Nat.le_trans Z6 E9.1
  have ne_br_bs : br ≠ bs := Nat.ne_of_lt (Nat.lt_of_lt_of_le A4_7.lt (Nat.le_of_eq g9.symm))
  have pre9s : ∀ tg, Steps p.tables e below (T9.setTop (mkF m 72 #[.val (.int p0), .val (.int p1), .val (.int p2), .val (.int p3), .val (.int (Int32.ofNat i)), .val (.int (Int32.ofNat j)), .val (.int (Int32.ofNat k)), .val (.int (Int32.ofNat l')), .val (.ref br), .unset, .unset] [(.ref bs)])) tg → G tg := fun tg kt => pre8 tg (st9 tg kt)
  have A4_10 := A4_7.ext E9
  have Fa6_11 := Fa6.ext E9
  have Fb6_12 := Fb6.ext E9
  have Ffrom_bs : Fld Z h9 bs "com/example/headwater/headwater/common/stream/KeyRange" "from" "D" (.double (0 : UInt64)) := D9 (Or.inr (hw _ (List.mem_of_getElem? (i := 16) rfl))) (ty := .double) (by decide)
  have Fto_bs : Fld Z h9 bs "com/example/headwater/headwater/common/stream/KeyRange" "to" "D" (.double (0 : UInt64)) := D9 (Or.inr (hw _ (List.mem_of_getElem? (i := 18) rfl))) (ty := .double) (by decide)
  have pre13 : ∀ tg, Steps p.tables e below (T9.setTop (mkF m 87 #[.val (.int p0), .val (.int p1), .val (.int p2), .val (.int p3), .val (.int (Int32.ofNat i)), .val (.int (Int32.ofNat j)), .val (.int (Int32.ofNat k)), .val (.int (Int32.ofNat l')), .val (.ref br), .unset, .unset] [(.double (own_d l')), (.double (own_d k)), (.ref bs), (.ref bs)])) tg → G tg := fun tg kt => pre9s tg (by
    show Steps p.tables e below (T9.setTop (mkF m 72 #[.val (.int p0), .val (.int p1), .val (.int p2), .val (.int p3), .val (.int (Int32.ofNat i)), .val (.int (Int32.ofNat j)), .val (.int (Int32.ofNat k)), .val (.int (Int32.ofNat l')), .val (.ref br), .unset, .unset] [(.ref bs)])) _
    refine XS.dup X9.here hx rfl (hb hby at_72) rfl rfl ?_
    show Steps p.tables e below (T9.setTop (mkF m 73 #[.val (.int p0), .val (.int p1), .val (.int p2), .val (.int p3), .val (.int (Int32.ofNat i)), .val (.int (Int32.ofNat j)), .val (.int (Int32.ofNat k)), .val (.int (Int32.ofNat l')), .val (.ref br), .unset, .unset] [(.ref bs), (.ref bs)])) _
    refine XS.iload X9.here hx rfl (hb hby at_73) rfl ?_
    show Steps p.tables e below (T9.setTop (mkF m 75 #[.val (.int p0), .val (.int p1), .val (.int p2), .val (.int p3), .val (.int (Int32.ofNat i)), .val (.int (Int32.ofNat j)), .val (.int (Int32.ofNat k)), .val (.int (Int32.ofNat l')), .val (.ref br), .unset, .unset] [(.int (Int32.ofNat k)), (.ref bs), (.ref bs)])) _
    refine XS.i2dS X9.here hx rfl (hb hby at_75) rfl rfl ?_
    show Steps p.tables e below (T9.setTop (mkF m 76 #[.val (.int p0), .val (.int p1), .val (.int p2), .val (.int p3), .val (.int (Int32.ofNat i)), .val (.int (Int32.ofNat j)), .val (.int (Int32.ofNat k)), .val (.int (Int32.ofNat l')), .val (.ref br), .unset, .unset] [(.double (FP.i2d (Int32.ofNat k))), (.ref bs), (.ref bs)])) _
    refine X9.ldc2DoubleC hx hown (mvT hZ (hw _ (List.mem_of_getElem? (i := 3) rfl))) (g := (mkF m 76 #[.val (.int p0), .val (.int p1), .val (.int p2), .val (.int p3), .val (.int (Int32.ofNat i)), .val (.int (Int32.ofNat j)), .val (.int (Int32.ofNat k)), .val (.int (Int32.ofNat l')), .val (.ref br), .unset, .unset] [(.double (FP.i2d (Int32.ofNat k))), (.ref bs), (.ref bs)])) rfl (hb hby at_76) _ ?_
    show Steps p.tables e below (T9.setTop (mkF m 79 #[.val (.int p0), .val (.int p1), .val (.int p2), .val (.int p3), .val (.int (Int32.ofNat i)), .val (.int (Int32.ofNat j)), .val (.int (Int32.ofNat k)), .val (.int (Int32.ofNat l')), .val (.ref br), .unset, .unset] [(.double (4625196817309499392 : UInt64)), (.double (FP.i2d (Int32.ofNat k))), (.ref bs), (.ref bs)])) _
    refine XS.ddivS X9.here hx rfl (hb hby at_79) rfl (own_nn _ (Nat.lt_trans u3 u4)) (v := own_d k) rfl ?_
    show Steps p.tables e below (T9.setTop (mkF m 80 #[.val (.int p0), .val (.int p1), .val (.int p2), .val (.int p3), .val (.int (Int32.ofNat i)), .val (.int (Int32.ofNat j)), .val (.int (Int32.ofNat k)), .val (.int (Int32.ofNat l')), .val (.ref br), .unset, .unset] [(.double (own_d k)), (.ref bs), (.ref bs)])) _
    refine XS.iload X9.here hx rfl (hb hby at_80) rfl ?_
    show Steps p.tables e below (T9.setTop (mkF m 82 #[.val (.int p0), .val (.int p1), .val (.int p2), .val (.int p3), .val (.int (Int32.ofNat i)), .val (.int (Int32.ofNat j)), .val (.int (Int32.ofNat k)), .val (.int (Int32.ofNat l')), .val (.ref br), .unset, .unset] [(.int (Int32.ofNat l')), (.double (own_d k)), (.ref bs), (.ref bs)])) _
    refine XS.i2dS X9.here hx rfl (hb hby at_82) rfl rfl ?_
    show Steps p.tables e below (T9.setTop (mkF m 83 #[.val (.int p0), .val (.int p1), .val (.int p2), .val (.int p3), .val (.int (Int32.ofNat i)), .val (.int (Int32.ofNat j)), .val (.int (Int32.ofNat k)), .val (.int (Int32.ofNat l')), .val (.ref br), .unset, .unset] [(.double (FP.i2d (Int32.ofNat l'))), (.double (own_d k)), (.ref bs), (.ref bs)])) _
    refine X9.ldc2DoubleC hx hown (mvT hZ (hw _ (List.mem_of_getElem? (i := 3) rfl))) (g := (mkF m 83 #[.val (.int p0), .val (.int p1), .val (.int p2), .val (.int p3), .val (.int (Int32.ofNat i)), .val (.int (Int32.ofNat j)), .val (.int (Int32.ofNat k)), .val (.int (Int32.ofNat l')), .val (.ref br), .unset, .unset] [(.double (FP.i2d (Int32.ofNat l'))), (.double (own_d k)), (.ref bs), (.ref bs)])) rfl (hb hby at_83) _ ?_
    show Steps p.tables e below (T9.setTop (mkF m 86 #[.val (.int p0), .val (.int p1), .val (.int p2), .val (.int p3), .val (.int (Int32.ofNat i)), .val (.int (Int32.ofNat j)), .val (.int (Int32.ofNat k)), .val (.int (Int32.ofNat l')), .val (.ref br), .unset, .unset] [(.double (4625196817309499392 : UInt64)), (.double (FP.i2d (Int32.ofNat l'))), (.double (own_d k)), (.ref bs), (.ref bs)])) _
    refine XS.ddivS X9.here hx rfl (hb hby at_86) rfl (own_nn _ u4) (v := own_d l') rfl ?_
    exact kt)
  obtain ⟨_, _, ⟨T14, L14, k14, n14⟩, -, X14, ⟨Lc14, hQ14, l14, y14, z14⟩, st14⟩ := X9.specialBack hx (y := (⟨"com/example/headwater/headwater/common/stream/KeyRange", "<init>", "(DD)V"⟩ : MethodName)) rfl hown (mvT hZ (hw _ (List.mem_of_getElem? (i := 4) rfl))) (mvT hZ (hw _ (List.mem_of_getElem? (i := 5) rfl))) (mvT hZ (hw _ (List.mem_of_getElem? (i := 6) rfl))) (by decide) (backOf (W := 1) (rm1 l Z a0 hw [] bs k l' h9 n0 Z9 Ffrom_bs Fto_bs A9 O_bs u3 u4) hZ (hw _ (List.mem_of_getElem? (i := 6) rfl)) (hw _ (List.mem_of_getElem? (i := 2) rfl)) (by decide) (by decide)) (g := (mkF m 87 #[.val (.int p0), .val (.int p1), .val (.int p2), .val (.int p3), .val (.int (Int32.ofNat i)), .val (.int (Int32.ofNat j)), .val (.int (Int32.ofNat k)), .val (.int (Int32.ofNat l')), .val (.ref br), .unset, .unset] [(.double (own_d l')), (.double (own_d k)), (.ref bs), (.ref bs)])) rfl (by rw [hml]; rfl) (Steps.refl _) (a := bs) (argsL := [(.double (own_d k)), (.double (own_d l'))]) (rest := [(.ref bs)]) (lenOf pd_1 rfl) rfl (by show 2 * 0 + _ ≤ _; exact Nat.le_of_eq rfl) (hb hby at_87) (fun _ _ => ⟨rfl, e9, (Nat.le_of_ble_eq_true rfl), (Nat.le_of_ble_eq_true rfl)⟩)
  dsimp only [Pt.U, Pt.locs, Pt.cells, Pt.slots] at X14 l14 y14 z14 st14 hQ14
  subst l14 y14 z14
  obtain ⟨rfl, N14q, K14, Fa14, Fb14⟩ := hQ14
  have N14 := Fr.app N6 N14q
  have pre14s : ∀ tg, Steps p.tables e below (T14.setTop (mkF m 90 #[.val (.int p0), .val (.int p1), .val (.int p2), .val (.int p3), .val (.int (Int32.ofNat i)), .val (.int (Int32.ofNat j)), .val (.int (Int32.ofNat k)), .val (.int (Int32.ofNat l')), .val (.ref br), .unset, .unset] [(.ref bs)])) tg → G tg := fun tg kt => pre13 tg (st14.trans kt)
  have Z14 : n0 ≤ T14.heap.size := Nat.le_trans Z9 K14.1
  have A4_15 := A4_10.keep K14
  have Fa6_16 := Fa6_11.keep K14 (ninS ne_br_bs nin0)
  have Fb6_17 := Fb6_12.keep K14 (ninS ne_br_bs nin0)
  have A9_18 := A9.keep K14
  have pre19 : ∀ tg, Steps p.tables e below (T14.setTop (mkF m 96 #[.val (.int p0), .val (.int p1), .val (.int p2), .val (.int p3), .val (.int (Int32.ofNat i)), .val (.int (Int32.ofNat j)), .val (.int (Int32.ofNat k)), .val (.int (Int32.ofNat l')), .val (.ref br), .val (.ref bs), .unset] [(.int (Int32.ofNat k)), (.int (Int32.ofNat i))])) tg → G tg := fun tg kt => pre14s tg (by
    show Steps p.tables e below (T14.setTop (mkF m 90 #[.val (.int p0), .val (.int p1), .val (.int p2), .val (.int p3), .val (.int (Int32.ofNat i)), .val (.int (Int32.ofNat j)), .val (.int (Int32.ofNat k)), .val (.int (Int32.ofNat l')), .val (.ref br), .unset, .unset] [(.ref bs)])) _
    refine XS.astore X14.here hx rfl (hb hby at_90) rfl rfl (l' := #[.val (.int p0), .val (.int p1), .val (.int p2), .val (.int p3), .val (.int (Int32.ofNat i)), .val (.int (Int32.ofNat j)), .val (.int (Int32.ofNat k)), .val (.int (Int32.ofNat l')), .val (.ref br), .val (.ref bs), .unset]) rfl ?_
    show Steps p.tables e below (T14.setTop (mkF m 92 #[.val (.int p0), .val (.int p1), .val (.int p2), .val (.int p3), .val (.int (Int32.ofNat i)), .val (.int (Int32.ofNat j)), .val (.int (Int32.ofNat k)), .val (.int (Int32.ofNat l')), .val (.ref br), .val (.ref bs), .unset] [])) _
    refine XS.iload X14.here hx rfl (hb hby at_92) rfl ?_
    show Steps p.tables e below (T14.setTop (mkF m 94 #[.val (.int p0), .val (.int p1), .val (.int p2), .val (.int p3), .val (.int (Int32.ofNat i)), .val (.int (Int32.ofNat j)), .val (.int (Int32.ofNat k)), .val (.int (Int32.ofNat l')), .val (.ref br), .val (.ref bs), .unset] [(.int (Int32.ofNat i))])) _
    refine XS.iload X14.here hx rfl (hb hby at_94) rfl ?_
    exact kt)
  obtain ⟨_, _, ⟨T20, L20, k20, n20⟩, -, X20, ⟨Lc20, hQ20, l20, y20, z20⟩, st20⟩ := Jvm.LawKit.callS X14 hx (y := (⟨"java/lang/Math", "max", "(II)I"⟩ : MethodName)) hown (mvT hZ (hw _ (List.mem_of_getElem? (i := 19) rfl))) (mvT hZ (hw _ (List.mem_of_getElem? (i := 20) rfl))) (mvT hZ (hw _ (List.mem_of_getElem? (i := 21) rfl))) (mvT hZ (hw _ (List.mem_of_getElem? (i := 22) rfl))) (by decide) (backOf (W := 0) (rm4 l Z a0 hw [] (Int32.ofNat i) (Int32.ofNat k) T14.heap n0 Z14 ) hZ (hw _ (List.mem_of_getElem? (i := 22) rfl)) (hw _ (List.mem_of_getElem? (i := 21) rfl)) (by decide) (by decide)) (g := (mkF m 96 #[.val (.int p0), .val (.int p1), .val (.int p2), .val (.int p3), .val (.int (Int32.ofNat i)), .val (.int (Int32.ofNat j)), .val (.int (Int32.ofNat k)), .val (.int (Int32.ofNat l')), .val (.ref br), .val (.ref bs), .unset] [(.int (Int32.ofNat k)), (.int (Int32.ofNat i))])) rfl (by rw [hml]; rfl) (argsL := [(.int (Int32.ofNat i)), (.int (Int32.ofNat k))]) (rest := []) (lenOf pd_2 rfl) rfl (by show 2 * 0 + _ ≤ _; exact Nat.le_of_eq rfl) (hb hby at_96) (fun _ _ => ⟨rfl, rfl, (Nat.le_of_ble_eq_true rfl), (Nat.le_of_ble_eq_true rfl)⟩)
  dsimp only [Pt.U, Pt.locs, Pt.cells, Pt.slots] at X20 l20 y20 z20 st20 hQ20
  subst l20 y20 z20
  obtain ⟨rfl, N20q, e20⟩ := hQ20
  have N20 := Fr.app N14 N20q
  have pre20s : ∀ tg, Steps p.tables e below (T20.setTop (mkF m 99 #[.val (.int p0), .val (.int p1), .val (.int p2), .val (.int p3), .val (.int (Int32.ofNat i)), .val (.int (Int32.ofNat j)), .val (.int (Int32.ofNat k)), .val (.int (Int32.ofNat l')), .val (.ref br), .val (.ref bs), .unset] [(.int (own_max (Int32.ofNat i) (Int32.ofNat k)))])) tg → G tg := fun tg kt => pre19 tg (st20 tg kt)
  have pre21 : ∀ tg, Steps p.tables e below (T20.setTop (mkF m 103 #[.val (.int p0), .val (.int p1), .val (.int p2), .val (.int p3), .val (.int (Int32.ofNat i)), .val (.int (Int32.ofNat j)), .val (.int (Int32.ofNat k)), .val (.int (Int32.ofNat l')), .val (.ref br), .val (.ref bs), .unset] [(.int (Int32.ofNat l')), (.int (Int32.ofNat j)), (.int (own_max (Int32.ofNat i) (Int32.ofNat k)))])) tg → G tg := fun tg kt => pre20s tg (by
    show Steps p.tables e below (T20.setTop (mkF m 99 #[.val (.int p0), .val (.int p1), .val (.int p2), .val (.int p3), .val (.int (Int32.ofNat i)), .val (.int (Int32.ofNat j)), .val (.int (Int32.ofNat k)), .val (.int (Int32.ofNat l')), .val (.ref br), .val (.ref bs), .unset] [(.int (own_max (Int32.ofNat i) (Int32.ofNat k)))])) _
    refine XS.iload X20.here hx rfl (hb hby at_99) rfl ?_
    show Steps p.tables e below (T20.setTop (mkF m 101 #[.val (.int p0), .val (.int p1), .val (.int p2), .val (.int p3), .val (.int (Int32.ofNat i)), .val (.int (Int32.ofNat j)), .val (.int (Int32.ofNat k)), .val (.int (Int32.ofNat l')), .val (.ref br), .val (.ref bs), .unset] [(.int (Int32.ofNat j)), (.int (own_max (Int32.ofNat i) (Int32.ofNat k)))])) _
    refine XS.iload X20.here hx rfl (hb hby at_101) rfl ?_
    exact kt)
  obtain ⟨_, _, ⟨T22, L22, k22, n22⟩, -, X22, ⟨Lc22, hQ22, l22, y22, z22⟩, st22⟩ := Jvm.LawKit.callS X20 hx (y := (⟨"java/lang/Math", "min", "(II)I"⟩ : MethodName)) hown (mvT hZ (hw _ (List.mem_of_getElem? (i := 23) rfl))) (mvT hZ (hw _ (List.mem_of_getElem? (i := 24) rfl))) (mvT hZ (hw _ (List.mem_of_getElem? (i := 21) rfl))) (mvT hZ (hw _ (List.mem_of_getElem? (i := 25) rfl))) (by decide) (backOf (W := 1) (rm5 l Z a0 hw [] (Int32.ofNat j) (Int32.ofNat l') T14.heap n0 Z14 ) hZ (hw _ (List.mem_of_getElem? (i := 25) rfl)) (hw _ (List.mem_of_getElem? (i := 21) rfl)) (by decide) (by decide)) (g := (mkF m 103 #[.val (.int p0), .val (.int p1), .val (.int p2), .val (.int p3), .val (.int (Int32.ofNat i)), .val (.int (Int32.ofNat j)), .val (.int (Int32.ofNat k)), .val (.int (Int32.ofNat l')), .val (.ref br), .val (.ref bs), .unset] [(.int (Int32.ofNat l')), (.int (Int32.ofNat j)), (.int (own_max (Int32.ofNat i) (Int32.ofNat k)))])) rfl (by rw [hml]; rfl) (argsL := [(.int (Int32.ofNat j)), (.int (Int32.ofNat l'))]) (rest := [(.int (own_max (Int32.ofNat i) (Int32.ofNat k)))]) (lenOf pd_2 rfl) rfl (by show 2 * 0 + _ ≤ _; exact Nat.le_of_eq rfl) (hb hby at_103) (fun _ _ => ⟨rfl, e20, (Nat.le_of_ble_eq_true rfl), (Nat.le_of_ble_eq_true rfl)⟩)
  dsimp only [Pt.U, Pt.locs, Pt.cells, Pt.slots] at X22 l22 y22 z22 st22 hQ22
  subst l22 y22 z22
  obtain ⟨rfl, N22q, e22⟩ := hQ22
  have N22 := Fr.app N20 N22q
  have pre22s : ∀ tg, Steps p.tables e below (T22.setTop (mkF m 106 #[.val (.int p0), .val (.int p1), .val (.int p2), .val (.int p3), .val (.int (Int32.ofNat i)), .val (.int (Int32.ofNat j)), .val (.int (Int32.ofNat k)), .val (.int (Int32.ofNat l')), .val (.ref br), .val (.ref bs), .unset] [(.int (own_min (Int32.ofNat j) (Int32.ofNat l'))), (.int (own_max (Int32.ofNat i) (Int32.ofNat k)))])) tg → G tg := fun tg kt => pre21 tg (st22 tg kt)
  have pre23 : ∀ tg, Steps p.tables e below (T22.setTop (mkF m 114 #[.val (.int p0), .val (.int p1), .val (.int p2), .val (.int p3), .val (.int (Int32.ofNat i)), .val (.int (Int32.ofNat j)), .val (.int (Int32.ofNat k)), .val (.int (Int32.ofNat l')), .val (.ref br), .val (.ref bs), .unset] [(.int (if (own_max (Int32.ofNat i) (Int32.ofNat k)) < (own_min (Int32.ofNat j) (Int32.ofNat l')) then (1 : Int32) else (0 : Int32)))])) tg → G tg := by
    intro tg kt
    refine pre22s tg ?_
    by_cases hm106_0 : (own_max (Int32.ofNat i) (Int32.ofNat k)) < (own_min (Int32.ofNat j) (Int32.ofNat l'))
    · try simp only [if_pos hm106_0] at kt
      show Steps p.tables e below (T22.setTop (mkF m 106 #[.val (.int p0), .val (.int p1), .val (.int p2), .val (.int p3), .val (.int (Int32.ofNat i)), .val (.int (Int32.ofNat j)), .val (.int (Int32.ofNat k)), .val (.int (Int32.ofNat l')), .val (.ref br), .val (.ref bs), .unset] [(.int (own_min (Int32.ofNat j) (Int32.ofNat l'))), (.int (own_max (Int32.ofNat i) (Int32.ofNat k)))])) _
      refine XS.icmpNo X22.here hx rfl (hb hby at_106) rfl (tlt hm106_0).2.1 ?_
      show Steps p.tables e below (T22.setTop (mkF m 109 #[.val (.int p0), .val (.int p1), .val (.int p2), .val (.int p3), .val (.int (Int32.ofNat i)), .val (.int (Int32.ofNat j)), .val (.int (Int32.ofNat k)), .val (.int (Int32.ofNat l')), .val (.ref br), .val (.ref bs), .unset] [])) _
      refine XS.iconst X22.here hx rfl (hb hby at_109) ?_
      show Steps p.tables e below (T22.setTop (mkF m 110 #[.val (.int p0), .val (.int p1), .val (.int p2), .val (.int p3), .val (.int (Int32.ofNat i)), .val (.int (Int32.ofNat j)), .val (.int (Int32.ofNat k)), .val (.int (Int32.ofNat l')), .val (.ref br), .val (.ref bs), .unset] [(.int (1 : Int32))])) _
      refine XS.goto X22.here hx rfl (pc0 := 110) (pc' := 114) rfl (hb hby at_110) (by decide) (by decide) ?_
      exact kt
    · try simp only [if_neg hm106_0] at kt
      show Steps p.tables e below (T22.setTop (mkF m 106 #[.val (.int p0), .val (.int p1), .val (.int p2), .val (.int p3), .val (.int (Int32.ofNat i)), .val (.int (Int32.ofNat j)), .val (.int (Int32.ofNat k)), .val (.int (Int32.ofNat l')), .val (.ref br), .val (.ref bs), .unset] [(.int (own_min (Int32.ofNat j) (Int32.ofNat l'))), (.int (own_max (Int32.ofNat i) (Int32.ofNat k)))])) _
      refine XS.icmpYes X22.here hx rfl (pc0 := 106) (pc' := 113) rfl (hb hby at_106) rfl (flt hm106_0).2.1 (by decide) (by decide) ?_
      show Steps p.tables e below (T22.setTop (mkF m 113 #[.val (.int p0), .val (.int p1), .val (.int p2), .val (.int p3), .val (.int (Int32.ofNat i)), .val (.int (Int32.ofNat j)), .val (.int (Int32.ofNat k)), .val (.int (Int32.ofNat l')), .val (.ref br), .val (.ref bs), .unset] [])) _
      refine XS.iconst X22.here hx rfl (hb hby at_113) ?_
      exact kt
  have pre24 : ∀ tg, Steps p.tables e below (T22.setTop (mkF m 120 #[.val (.int p0), .val (.int p1), .val (.int p2), .val (.int p3), .val (.int (Int32.ofNat i)), .val (.int (Int32.ofNat j)), .val (.int (Int32.ofNat k)), .val (.int (Int32.ofNat l')), .val (.ref br), .val (.ref bs), .val (.int (if (own_max (Int32.ofNat i) (Int32.ofNat k)) < (own_min (Int32.ofNat j) (Int32.ofNat l')) then (1 : Int32) else (0 : Int32)))] [(.ref bs), (.ref br)])) tg → G tg := fun tg kt => pre23 tg (by
    show Steps p.tables e below (T22.setTop (mkF m 114 #[.val (.int p0), .val (.int p1), .val (.int p2), .val (.int p3), .val (.int (Int32.ofNat i)), .val (.int (Int32.ofNat j)), .val (.int (Int32.ofNat k)), .val (.int (Int32.ofNat l')), .val (.ref br), .val (.ref bs), .unset] [(.int (if (own_max (Int32.ofNat i) (Int32.ofNat k)) < (own_min (Int32.ofNat j) (Int32.ofNat l')) then (1 : Int32) else (0 : Int32)))])) _
    refine XS.istore X22.here hx rfl (hb hby at_114) rfl (l' := #[.val (.int p0), .val (.int p1), .val (.int p2), .val (.int p3), .val (.int (Int32.ofNat i)), .val (.int (Int32.ofNat j)), .val (.int (Int32.ofNat k)), .val (.int (Int32.ofNat l')), .val (.ref br), .val (.ref bs), .val (.int (if (own_max (Int32.ofNat i) (Int32.ofNat k)) < (own_min (Int32.ofNat j) (Int32.ofNat l')) then (1 : Int32) else (0 : Int32)))]) rfl ?_
    show Steps p.tables e below (T22.setTop (mkF m 116 #[.val (.int p0), .val (.int p1), .val (.int p2), .val (.int p3), .val (.int (Int32.ofNat i)), .val (.int (Int32.ofNat j)), .val (.int (Int32.ofNat k)), .val (.int (Int32.ofNat l')), .val (.ref br), .val (.ref bs), .val (.int (if (own_max (Int32.ofNat i) (Int32.ofNat k)) < (own_min (Int32.ofNat j) (Int32.ofNat l')) then (1 : Int32) else (0 : Int32)))] [])) _
    refine XS.aload X22.here hx rfl (hb hby at_116) rfl rfl ?_
    show Steps p.tables e below (T22.setTop (mkF m 118 #[.val (.int p0), .val (.int p1), .val (.int p2), .val (.int p3), .val (.int (Int32.ofNat i)), .val (.int (Int32.ofNat j)), .val (.int (Int32.ofNat k)), .val (.int (Int32.ofNat l')), .val (.ref br), .val (.ref bs), .val (.int (if (own_max (Int32.ofNat i) (Int32.ofNat k)) < (own_min (Int32.ofNat j) (Int32.ofNat l')) then (1 : Int32) else (0 : Int32)))] [(.ref br)])) _
    refine XS.aload X22.here hx rfl (hb hby at_118) rfl rfl ?_
    exact kt)
  obtain ⟨cq25, kq25, q25a, q25b, q25c⟩ := isOf hZ e22 A4_15
  obtain ⟨_, _, ⟨T25, L25, k25, n25⟩, -, X25, ⟨Lc25, hQ25, l25, y25, z25⟩, st25⟩ := X22.virtualBack hx (y := (⟨"com/example/headwater/headwater/common/stream/KeyRange", "overlaps", "(Lcom/example/headwater/headwater/common/stream/KeyRange;)Z"⟩ : MethodName)) (z := (⟨"com/example/headwater/headwater/common/stream/KeyRange", "overlaps", "(Lcom/example/headwater/headwater/common/stream/KeyRange;)Z"⟩ : MethodName)) hown (mvT hZ (hw _ (List.mem_of_getElem? (i := 26) rfl))) (mvT hZ (hw _ (List.mem_of_getElem? (i := 27) rfl))) (notFace_of_selects (args := #[]) (mvT hZ (hw _ (List.mem_of_getElem? (i := 29) rfl)))) (mvT hZ (hw _ (List.mem_of_getElem? (i := 29) rfl))) (mvT hZ (hw _ (List.mem_of_getElem? (i := 28) rfl))) (by decide) (backOf (W := 0) (rm6 l Z a0 hw [] br bs i j k l' T14.heap n0 Z14 Fa6_16 Fb6_17 Fa14 Fb14 u1 u2 u3 u4) hZ (hw _ (List.mem_of_getElem? (i := 30) rfl)) (hw _ (List.mem_of_getElem? (i := 2) rfl)) (by decide) (by decide)) q25a q25c (g := (mkF m 120 #[.val (.int p0), .val (.int p1), .val (.int p2), .val (.int p3), .val (.int (Int32.ofNat i)), .val (.int (Int32.ofNat j)), .val (.int (Int32.ofNat k)), .val (.int (Int32.ofNat l')), .val (.ref br), .val (.ref bs), .val (.int (if (own_max (Int32.ofNat i) (Int32.ofNat k)) < (own_min (Int32.ofNat j) (Int32.ofNat l')) then (1 : Int32) else (0 : Int32)))] [(.ref bs), (.ref br)])) rfl (by rw [hml]; rfl) (Steps.refl _) (argsL := [(.ref bs)]) (rest := []) (lenOf pd_3 rfl) rfl (by show 2 * 0 + _ ≤ _; exact Nat.le_of_eq rfl) (hb hby at_120) (fun _ _ => ⟨rfl, e22, (Nat.le_of_ble_eq_true rfl), (Nat.le_of_ble_eq_true rfl)⟩)
  dsimp only [Pt.U, Pt.locs, Pt.cells, Pt.slots] at X25 l25 y25 z25 st25 hQ25
  subst l25 y25 z25
  obtain ⟨rfl, N25q, e25⟩ := hQ25
  have N25 := Fr.app N22 N25q
  have pre25s : ∀ tg, Steps p.tables e below (T25.setTop (mkF m 123 #[.val (.int p0), .val (.int p1), .val (.int p2), .val (.int p3), .val (.int (Int32.ofNat i)), .val (.int (Int32.ofNat j)), .val (.int (Int32.ofNat k)), .val (.int (Int32.ofNat l')), .val (.ref br), .val (.ref bs), .val (.int (if (own_max (Int32.ofNat i) (Int32.ofNat k)) < (own_min (Int32.ofNat j) (Int32.ofNat l')) then (1 : Int32) else (0 : Int32)))] [(.int (own_ov i j k l'))])) tg → G tg := fun tg kt => pre24 tg (st25.trans kt)
  obtain ⟨fs, hr, hrun, hended, hW, hsame⟩ := X25.leave (v := some (.int (1 : Int32))) (fun h => by rw [Bd.returns] at h; cases h)
  subst hG
  refine ⟨_, _, pre25s _ ?_, hrun, hended, _, _, rfl, ?_, ⟨_, rfl⟩, hW, hsame.mono (by decide) (by decide)⟩
  · skip
    show Steps p.tables e below (T25.setTop (mkF m 123 #[.val (.int p0), .val (.int p1), .val (.int p2), .val (.int p3), .val (.int (Int32.ofNat i)), .val (.int (Int32.ofNat j)), .val (.int (Int32.ofNat k)), .val (.int (Int32.ofNat l')), .val (.ref br), .val (.ref bs), .val (.int (if (own_max (Int32.ofNat i) (Int32.ofNat k)) < (own_min (Int32.ofNat j) (Int32.ofNat l')) then (1 : Int32) else (0 : Int32)))] [(.int (own_ov i j k l'))])) _
    refine XS.iload X25.here hx rfl (hb hby at_123) rfl ?_
    show Steps p.tables e below (T25.setTop (mkF m 125 #[.val (.int p0), .val (.int p1), .val (.int p2), .val (.int p3), .val (.int (Int32.ofNat i)), .val (.int (Int32.ofNat j)), .val (.int (Int32.ofNat k)), .val (.int (Int32.ofNat l')), .val (.ref br), .val (.ref bs), .val (.int (if (own_max (Int32.ofNat i) (Int32.ofNat k)) < (own_min (Int32.ofNat j) (Int32.ofNat l')) then (1 : Int32) else (0 : Int32)))] [(.int (if (own_max (Int32.ofNat i) (Int32.ofNat k)) < (own_min (Int32.ofNat j) (Int32.ofNat l')) then (1 : Int32) else (0 : Int32))), (.int (own_ov i j k l'))])) _
    refine XS.icmpNo X25.here hx rfl (hb hby at_125) rfl (teq (own_law u1 u2 u3 u4)).2 ?_
    show Steps p.tables e below (T25.setTop (mkF m 128 #[.val (.int p0), .val (.int p1), .val (.int p2), .val (.int p3), .val (.int (Int32.ofNat i)), .val (.int (Int32.ofNat j)), .val (.int (Int32.ofNat k)), .val (.int (Int32.ofNat l')), .val (.ref br), .val (.ref bs), .val (.int (if (own_max (Int32.ofNat i) (Int32.ofNat k)) < (own_min (Int32.ofNat j) (Int32.ofNat l')) then (1 : Int32) else (0 : Int32)))] [])) _
    refine XS.iconst X25.here hx rfl (hb hby at_128) ?_
    show Steps p.tables e below (T25.setTop (mkF m 129 #[.val (.int p0), .val (.int p1), .val (.int p2), .val (.int p3), .val (.int (Int32.ofNat i)), .val (.int (Int32.ofNat j)), .val (.int (Int32.ofNat k)), .val (.int (Int32.ofNat l')), .val (.ref br), .val (.ref bs), .val (.int (if (own_max (Int32.ofNat i) (Int32.ofNat k)) < (own_min (Int32.ofNat j) (Int32.ofNat l')) then (1 : Int32) else (0 : Int32)))] [(.int (1 : Int32))])) _
    refine XS.goto X25.here hx rfl (pc0 := 129) (pc' := 133) rfl (hb hby at_129) (by decide) (by decide) ?_
    show Steps p.tables e below (T25.setTop (mkF m 133 #[.val (.int p0), .val (.int p1), .val (.int p2), .val (.int p3), .val (.int (Int32.ofNat i)), .val (.int (Int32.ofNat j)), .val (.int (Int32.ofNat k)), .val (.int (Int32.ofNat l')), .val (.ref br), .val (.ref bs), .val (.int (if (own_max (Int32.ofNat i) (Int32.ofNat k)) < (own_min (Int32.ofNat j) (Int32.ofNat l')) then (1 : Int32) else (0 : Int32)))] [(.int (1 : Int32))])) _
    exact retN X25 hx (t := .boolean) Bd.returns (by simp) (hb hby at_133) hr
  · show Q_rm0 Z p0 p1 p2 p3 h0 n0 _ T25.heap _
    rw [e25]
    exact ⟨rfl, N25⟩
set_option maxRecDepth 65536 in
set_option maxHeartbeats 40000000 in
theorem comes_1 {Post : Tables → Env → Array Value → State → Outcome → State → Prop} (hpost : ∀ tb e args s v u, (limb_1_1.after args s (.returned v) u = true ∧ limb_1_2.after args s (.returned v) u = true ∧ True) → FrameEnd s (.returned v) u (Jvm.fieldLocs frame_1_writes args s ++ Jvm.arrayLocs frame_1_arrays args s ++ Jvm.staticLocs frame_1_statics s) 16 128 → Post tb e args s (.returned v) u) :
    ArmFor flags0 classFile x code maxLocals ret World_1 tables_1 room_1 Calls_1 rest_1 Pre_1 Post := by
  intro l hfl _ _ p e ha hc hk s m args below hf hA hF happ hP
  obtain ⟨hcalls, hrest, hpre⟩ := hP
  obtain ⟨-, -, -, hnamed, -, -, -, hat⟩ := (Spec.applies_iff hf).mp happ
  obtain ⟨hg, hn⟩ := and_e (Cond.before_iff.mp (show (Jvm.Cond.and given_1 narrow_1).before args s = true from hpre))
  obtain ⟨ga0, gb0⟩ := and_e hg
  obtain ⟨ga1, gb1⟩ := and_e gb0
  obtain ⟨ga2, gb2⟩ := and_e gb1
  obtain ⟨ga3, gb3⟩ := and_e gb2
  obtain ⟨w0, w1, w2, w3, rfl⟩ : ∃ w0 w1 w2 w3 : Value, args = #[w0, w1, w2, w3] := by
    have hs : args.size = 4 := by simpa [Cond.value, given_1] using ga0
    obtain ⟨L⟩ := args
    match L, hs with
    | [w0, w1, w2, w3], _ => exact ⟨w0, w1, w2, w3, rfl⟩
  have hw := fun d (hd : d ∈ tables_1) => atoms_spec (ws := Jvm.Cond.code x code maxLocals ret :: tables_1) hat d (List.mem_cons_of_mem _ hd)
  have hfit : Fit s := fun {y c} hc i hi => by
    obtain ⟨ha, rfl⟩ := Array.getElem?_eq_some_iff.mp hc
    have q := List.all_eq_true.mp ((Array.all_eq_true_iff_forall_mem.mp hF) _ (Array.getElem_mem ha)) i (List.mem_range.mpr hi)
    simpa [Array.getElem?_eq_getElem hi] using q
  obtain ⟨i0, ei0⟩ := is_v ga1
  obtain rfl : w0 = (.int i0) := Option.some.inj ei0
  obtain ⟨i1, ei1⟩ := is_v ga2
  obtain rfl : w1 = (.int i1) := Option.some.inj ei1
  obtain ⟨i2, ei2⟩ := is_v ga3
  obtain rfl : w2 = (.int i2) := Option.some.inj ei2
  obtain ⟨i3, ei3⟩ := is_v gb3
  obtain rfl : w3 = (.int i3) := Option.some.inj ei3
  obtain ⟨n, o, h1, h2, h3, _, L, rfl, ⟨rfl, N⟩, hq⟩ := rm0 l s _ hw tables_1 i0 i1 i2 i3 s.heap s.heap.size (Nat.le_refl _) p e ha hc hk s m _ below hf ((Spec.applies_iff_loose hf).mp happ).1 ⟨rfl, State.Warmed39.refl s, rfl⟩ trivial
  refine ⟨n, _, h1, h2, h3, hpost _ _ _ _ _ _ ⟨Cond.after_iff.mpr rfl, Cond.after_iff.mpr (eq_i res_at (Term.int_eval (1)) rfl), trivial⟩ ⟨hq.1, hq.2.1, (hq.2.2.sift fun y hy => Or.inr (N y hy)).mono (by decide) (by decide)⟩⟩
theorem main_1_1 : Claimed_1_1 := comes_1 fun _ _ _ _ _ _ h hF => ⟨h.1, hF⟩
theorem main_1_2 : Claimed_1_2 := comes_1 fun _ _ _ _ _ _ h hF => ⟨h.2.1, hF⟩
end Jvm.Pilot.@@N@@
namespace Jvm.Pilot.@@N@@
open Jvm Jvm.ClassFile Sem Op Lib Jvm.Free Jvm.Stand Jvm.Pilot.@@N@@.Jvm.D
/-! MADE BY PROGRAM (witnessworld.py) out of the Statement's table words and the real class files: 11 classes; the members and pool entries that the words name. The judged class is class 1, her method 1. -/
namespace start1
open Jvm.ClassFile
def u (s : String) : CpInfo := .utf8 (stringToUtf16 s)
/-- a pool by its gaps: so many unusable entries, then the entry; so many at the end -/
def gap : Nat → List CpInfo → List CpInfo
  | 0, r => r
  | n + 1, r => .unusable :: gap n r
def poolList (es : List (Nat × CpInfo)) (last : Nat) : List CpInfo := es.foldr (fun e r => gap e.1 (e.2 :: r)) (gap last [])
def pool (es : List (Nat × CpInfo)) (last : Nat) : Array CpInfo := ⟨poolList es last⟩
def fileOf (pool : Array CpInfo) (this : Nat) (attrs : Array Attribute := #[]) (ms : Array MethodInfo := #[]) (fl : Nat := 33) (sup : Nat := 0) (ifs : Array Nat := #[]) (fds : Array FieldInfo := #[]) : ClassFile where
  minorVersion := 0
  majorVersion := 65
  constantPool := pool
  accessFlags := fl
  thisClass := this
  superClass := sup
  interfaces := ifs
  fields := fds
  methods := ms
  attributes := attrs
def plain (name : String) (sup : Option ClassId) : Class where
  name := name
  kind := .ordinary
  loader := none
  accessFlags := 33
  super := sup
  interfaces := #[]
  cf := none
  fields := #[]
  methods := #[]
  instanceTypes := #[]
  staticTypes := #[]
  resolved := #[]
  callSites := []
  init := .initialized
  statics := none
  mirror := none

def pool0 : Array CpInfo := pool [(5, u "<init>"), (0, u "()V"), (1, .class_ 10), (1, u "java/lang/Object")] 113

def k0c0 : Code := { maxStack := 0, maxLocals := 1, code := object_method_1_code, exceptionTable := #[], attributes := #[] }
def k0m0 : Method := { name := "<init>", desc := "()V", sig := { parameters := [], returnType := none }, accessFlags := 1, code := some k0c0 }
/-- java/lang/Object -/
def k0 : Class := { plain "java/lang/Object" none with
  accessFlags := 33
  interfaces := #[]
  cf := some (fileOf pool0 8 #[] #[{ accessFlags := 1, nameIndex := 5, descriptorIndex := 6, attributes := #[] }] 33 0 #[] #[])
  fields := #[]
  methods := #[k0m0]
  instanceTypes := #[]
  staticTypes := #[]
  resolved := Array.replicate 124 none
  statics := none }

def pool1 : Array CpInfo := pool [(2, .class_ 4), (1, u "java/lang/Object"), (0, u "<init>"), (0, u "()V"), (0, .class_ 8), (0, u "com/example/headwater/headwater/common/stream/KeyRange"), (0, .double 4625196817309499392), (1, .methodref 7 12), (0, .nameAndType 5 13), (0, u "(DD)V"), (0, .methodref 15 16), (0, .class_ 17), (0, .nameAndType 18 19), (0, u "java/lang/Math"), (0, u "max"), (0, u "(II)I"), (0, .methodref 15 21), (0, .nameAndType 22 19), (0, u "min"), (0, .methodref 7 24), (0, .nameAndType 25 26), (0, u "overlaps"), (0, u "(Lcom/example/headwater/headwater/common/stream/KeyRange;)Z"), (0, .class_ 28), (0, u "com/example/headwater/headwater/common/stream/KeyRangeOverlapsPinLaw"), (2, u "law"), (0, u "(IIII)Z")] 3

def k1m0 : Method := { name := "<init>", desc := "()V", sig := { parameters := [], returnType := none }, accessFlags := 1, code := none }
def k1c1 : Code := { maxStack := 8, maxLocals := 11, code := code, exceptionTable := #[], attributes := #[] }
def k1m1 : Method := { name := "law", desc := "(IIII)Z", sig := { parameters := [.int, .int, .int, .int], returnType := some .boolean }, accessFlags := 9, code := some k1c1 }
/-- com/example/headwater/headwater/common/stream/KeyRangeOverlapsPinLaw -/
def k1 : Class := { plain "com/example/headwater/headwater/common/stream/KeyRangeOverlapsPinLaw" (some 0) with
  accessFlags := 49
  interfaces := #[]
  cf := some (fileOf pool1 27 #[] #[{ accessFlags := 1, nameIndex := 5, descriptorIndex := 6, attributes := #[] }, { accessFlags := 9, nameIndex := 31, descriptorIndex := 32, attributes := #[] }] 49 2 #[] #[])
  fields := #[]
  methods := #[k1m0, k1m1]
  instanceTypes := #[]
  staticTypes := #[]
  resolved := Array.replicate 36 none
  statics := none }

def pool2 : Array CpInfo := pool [(1, .methodref 2 3), (0, .class_ 4), (0, .nameAndType 5 6), (0, u "java/lang/Object"), (0, u "<init>"), (0, u "()V"), (0, .class_ 8), (0, u "java/lang/Record")] 13

def k2c0 : Code := { maxStack := 1, maxLocals := 1, code := jdk_30_method_1_code, exceptionTable := #[], attributes := #[] }
def k2m0 : Method := { name := "<init>", desc := "()V", sig := { parameters := [], returnType := none }, accessFlags := 4, code := some k2c0 }
/-- java/lang/Record -/
def k2 : Class := { plain "java/lang/Record" (some 0) with
  accessFlags := 1057
  interfaces := #[]
  cf := some (fileOf pool2 7 #[] #[{ accessFlags := 4, nameIndex := 5, descriptorIndex := 6, attributes := #[] }] 1057 2 #[] #[])
  fields := #[]
  methods := #[k2m0]
  instanceTypes := #[]
  staticTypes := #[]
  resolved := Array.replicate 22 none
  statics := none }

def pool3 : Array CpInfo := pool [(1, .methodref 2 3), (0, .class_ 4), (0, .nameAndType 5 6), (0, u "java/lang/Record"), (0, u "<init>"), (0, u "()V"), (9, .fieldref 17 18), (0, .class_ 19), (0, .nameAndType 20 21), (0, u "com/example/headwater/headwater/common/stream/KeyRange"), (0, u "from"), (0, u "D"), (0, .fieldref 17 23), (0, .nameAndType 24 21), (0, u "to"), (2, u "(DD)V"), (123, u "POSITIONS"), (1, u "HALF_POSITIONS"), (10, u "overlaps"), (0, u "(Lcom/example/headwater/headwater/common/stream/KeyRange;)Z")] 51

def k3c0 : Code := { maxStack := 6, maxLocals := 5, code := prog_32_method_1_code, exceptionTable := #[], attributes := #[] }
def k3m0 : Method := { name := "<init>", desc := "(DD)V", sig := { parameters := [.double, .double], returnType := none }, accessFlags := 1, code := some k3c0 }
def k3c1 : Code := { maxStack := 4, maxLocals := 2, code := prog_32_method_5_code, exceptionTable := #[], attributes := #[] }
def k3m1 : Method := { name := "overlaps", desc := "(Lcom/example/headwater/headwater/common/stream/KeyRange;)Z", sig := { parameters := [(.object "com/example/headwater/headwater/common/stream/KeyRange")], returnType := some .boolean }, accessFlags := 1, code := some k3c1 }
/-- com/example/headwater/headwater/common/stream/KeyRange -/
def k3 : Class := { plain "com/example/headwater/headwater/common/stream/KeyRange" (some 2) with
  accessFlags := 49
  interfaces := #[]
  cf := some (fileOf pool3 17 #[] #[{ accessFlags := 1, nameIndex := 5, descriptorIndex := 27, attributes := #[] }, { accessFlags := 1, nameIndex := 164, descriptorIndex := 165, attributes := #[] }] 49 2 #[] #[{ accessFlags := 18, nameIndex := 20, descriptorIndex := 21, attributes := #[] }, { accessFlags := 18, nameIndex := 24, descriptorIndex := 21, attributes := #[] }, { accessFlags := 26, nameIndex := 151, descriptorIndex := 21, attributes := #[] }, { accessFlags := 26, nameIndex := 153, descriptorIndex := 21, attributes := #[] }])
  fields := #[{ name := "from", type := .double, accessFlags := 18, slot := 0, constantValue := 0 }, { name := "to", type := .double, accessFlags := 18, slot := 1, constantValue := 0 }, { name := "POSITIONS", type := .double, accessFlags := 26, slot := 0, constantValue := 0 }, { name := "HALF_POSITIONS", type := .double, accessFlags := 26, slot := 1, constantValue := 0 }]
  methods := #[k3m0, k3m1]
  instanceTypes := #[.double, .double]
  staticTypes := #[.double, .double]
  resolved := Array.replicate 217 none
  statics := none }

def pool4 : Array CpInfo := pool [(1, .class_ 2), (0, u "java/lang/Math"), (1, .class_ 6), (1, u "java/lang/Object"), (0, u "<init>"), (0, u "()V"), (89, .class_ 100), (1, u "java/lang/Math$RandomNumberGeneratorHolder"), (71, u "negativeZeroFloatBits"), (0, u "J"), (2, u "negativeZeroDoubleBits"), (21, u "max"), (2, u "min"), (43, u "$assertionsDisabled"), (0, u "Z"), (88, u "(II)I"), (2, u "twoToTheDoubleScaleDown"), (0, u "D"), (4, u "twoToTheDoubleScaleUp"), (9, u "E"), (3, u "PI"), (2, u "TAU"), (2, u "DEGREES_TO_RADIANS"), (0, u "RADIANS_TO_DEGREES")] 94

def k4m0 : Method := { name := "<init>", desc := "()V", sig := { parameters := [], returnType := none }, accessFlags := 2, code := none }
def k4c1 : Code := { maxStack := 2, maxLocals := 2, code := jdk_29_method_65_code, exceptionTable := #[], attributes := #[] }
def k4m1 : Method := { name := "max", desc := "(II)I", sig := { parameters := [.int, .int], returnType := some .int }, accessFlags := 9, code := some k4c1 }
def k4c2 : Code := { maxStack := 2, maxLocals := 2, code := jdk_29_method_69_code, exceptionTable := #[], attributes := #[] }
def k4m2 : Method := { name := "min", desc := "(II)I", sig := { parameters := [.int, .int], returnType := some .int }, accessFlags := 9, code := some k4c2 }
/-- java/lang/Math -/
def k4 : Class := { plain "java/lang/Math" (some 0) with
  accessFlags := 49
  interfaces := #[]
  cf := some (fileOf pool4 1 #[.nestMembers #[98]] #[{ accessFlags := 2, nameIndex := 7, descriptorIndex := 8, attributes := #[] }, { accessFlags := 9, nameIndex := 198, descriptorIndex := 335, attributes := #[] }, { accessFlags := 9, nameIndex := 201, descriptorIndex := 335, attributes := #[] }] 49 4 #[] #[{ accessFlags := 25, nameIndex := 354, descriptorIndex := 339, attributes := #[] }, { accessFlags := 25, nameIndex := 358, descriptorIndex := 339, attributes := #[] }, { accessFlags := 25, nameIndex := 361, descriptorIndex := 339, attributes := #[] }, { accessFlags := 26, nameIndex := 364, descriptorIndex := 339, attributes := #[] }, { accessFlags := 26, nameIndex := 365, descriptorIndex := 339, attributes := #[] }, { accessFlags := 26, nameIndex := 172, descriptorIndex := 173, attributes := #[] }, { accessFlags := 26, nameIndex := 176, descriptorIndex := 173, attributes := #[] }, { accessFlags := 8, nameIndex := 344, descriptorIndex := 339, attributes := #[] }, { accessFlags := 8, nameIndex := 338, descriptorIndex := 339, attributes := #[] }, { accessFlags := 4120, nameIndex := 245, descriptorIndex := 246, attributes := #[] }])
  fields := #[{ name := "E", type := .double, accessFlags := 25, slot := 0, constantValue := 0 }, { name := "PI", type := .double, accessFlags := 25, slot := 1, constantValue := 0 }, { name := "TAU", type := .double, accessFlags := 25, slot := 2, constantValue := 0 }, { name := "DEGREES_TO_RADIANS", type := .double, accessFlags := 26, slot := 3, constantValue := 0 }, { name := "RADIANS_TO_DEGREES", type := .double, accessFlags := 26, slot := 4, constantValue := 0 }, { name := "negativeZeroFloatBits", type := .long, accessFlags := 26, slot := 5, constantValue := 0 }, { name := "negativeZeroDoubleBits", type := .long, accessFlags := 26, slot := 6, constantValue := 0 }, { name := "twoToTheDoubleScaleUp", type := .double, accessFlags := 8, slot := 7, constantValue := 0 }, { name := "twoToTheDoubleScaleDown", type := .double, accessFlags := 8, slot := 8, constantValue := 0 }, { name := "$assertionsDisabled", type := .boolean, accessFlags := 4120, slot := 9, constantValue := 0 }]
  methods := #[k4m0, k4m1, k4m2]
  instanceTypes := #[]
  staticTypes := #[.double, .double, .double, .double, .double, .long, .long, .double, .double, .boolean]
  resolved := Array.replicate 460 none
  statics := none }

def pool5 : Array CpInfo := pool [(1, u "java/lang/Cloneable"), (0, .class_ 1), (0, u "java/lang/Object"), (0, .class_ 3)] 3

/-- java/lang/Cloneable -/
def k5 : Class := { plain "java/lang/Cloneable" (some 0) with
  accessFlags := 1537
  interfaces := #[]
  cf := some (fileOf pool5 2 #[] #[] 1537 4 #[] #[])
  fields := #[]
  methods := #[]
  instanceTypes := #[]
  staticTypes := #[]
  resolved := Array.replicate 8 none
  statics := none }

def pool6 : Array CpInfo := pool [(1, u "java/io/Serializable"), (0, .class_ 1), (0, u "java/lang/Object"), (0, .class_ 3)] 3

/-- java/io/Serializable -/
def k6 : Class := { plain "java/io/Serializable" (some 0) with
  accessFlags := 1537
  interfaces := #[]
  cf := some (fileOf pool6 2 #[] #[] 1537 4 #[] #[])
  fields := #[]
  methods := #[]
  instanceTypes := #[]
  staticTypes := #[]
  resolved := Array.replicate 8 none
  statics := none }

/-- the primitive byte -/
def k7 : Class := { plain "byte" none with kind := .primitive 'B', accessFlags := 0x411 }
/-- [B -/
def k8 : Class := { plain "[B" (some 0) with kind := .array 7 .byte, interfaces := #[5, 6], accessFlags := 1041 }

/-- the primitive int -/
def k9 : Class := { plain "int" none with kind := .primitive 'I', accessFlags := 0x411 }
/-- [I -/
def k10 : Class := { plain "[I" (some 0) with kind := .array 9 .int, interfaces := #[5, 6], accessFlags := 1041 }

def heap : Heap := #[]
def classes : Array Class := #[k0, k1, k2, k3, k4, k5, k6, k7, k8, k9, k10]
def interned : List (Array UInt16 × Addr) := []
def slotsUsed : Nat := 0
def theMethod : MethodId := ⟨1, 1⟩
def args0 : Array Value := #[.int 3, .int 4, .int 5, .int 6]
def aboutOver (below : List Frame) : State where
  vm := { classes := classes, interned := interned.toArray }
  heap := heap
  slotsUsed := slotsUsed
  threads := #[{ frames := .invoking theMethod args0 :: below }]
def below0 : List Frame := [.native { method := ⟨0, 0⟩, args := #[] }]
def about1 : State := aboutOver below0
def p0 : Program := .bare "" "" ""
def e0 : Env := launch0.env 0 0 0
theorem w_frames : about1.frames = Frame.invoking theMethod args0 :: below0 := rfl
set_option maxRecDepth 65536 in
theorem w_args : argsFit about1.vm theMethod args0 = true := by decide +kernel
set_option maxRecDepth 65536 in
theorem w_heap : heapFits about1 = true := by decide +kernel
set_option maxRecDepth 65536 in
theorem w_runnable : about1.curStatus? = some .runnable := by decide +kernel
set_option maxRecDepth 65536 in
theorem w_alone : about1.alone = true := by decide +kernel
set_option maxRecDepth 65536 in
theorem w_named : about1.methodNamed? x = some theMethod := by decide +kernel
set_option maxRecDepth 65536 in
theorem w_hears : about1.hears theMethod below0 = true := by decide +kernel
set_option maxRecDepth 65536 in
theorem w_ripe : about1.ripe theMethod args0 below0 = true := by decide +kernel
theorem w_running : about1.status = .running := rfl
set_option maxRecDepth 65536 in
theorem w_room : about1.hasRoom e0.platform room_1 = true :=
  launch0.hasRoom_least _ room_1 (by decide +kernel) (by decide +kernel) (by decide +kernel) (by decide +kernel) (by decide +kernel) (by decide +kernel)
theorem allAtoms_all (ts : List Jvm.Cond) (a : Array Jvm.Value) (st : Jvm.State) : (allAtoms ts).before a st = ts.all (fun c => c.before a st) := by
  induction ts with
  | nil => rfl
  | cons c t ih =>
    show (Jvm.Cond.and c (allAtoms t)).before a st = _
    rw [Jvm.Cond.before_and, ih, List.all_cons]
def words1 : List Jvm.Cond := Jvm.Cond.code x code maxLocals ret :: tables_1
/-- a 'code' word, met by the world's own term for the bytes: nothing is compared byte by byte -/
theorem code_word {y : MethodName} {bytes : ByteArray} {mx : Nat} {rt : Option FieldType} {a : Array Value} {s : State} {m : MethodId} {meth : Method} {c : Code} (h1 : s.methodNamed? y = some m) (h2 : s.vm.method? m = some meth) (h3 : meth.code = some c) (h4 : c.code = bytes)
    (h5 : (c.maxLocals == mx && c.exceptionTable.isEmpty && decide (c.maxStack ≤ mostOperands) && decide (meth.sig.returnType = rt) && !meth.locks && decide (parseMethodDescriptor y.desc = some meth.sig)) = true) : (Jvm.Cond.code y bytes mx rt).before a s = true := by
  simp only [Bool.and_eq_true, beq_iff_eq, Bool.not_eq_true', decide_eq_true_eq] at h5
  obtain ⟨⟨⟨⟨⟨g1, g2⟩, g3⟩, g4⟩, g5⟩, g6⟩ := h5
  simp [Cond.before, Cond.holds, Cond.value, h1, h2, h3, h4, g1, g2, g3, g4, g5, g6]
def isCode : Jvm.Cond → Bool
  | .code _ _ _ _ => true
  | _ => false
theorem all_split {L : List Jvm.Cond} {P : Jvm.Cond → Bool} (h1 : L.all (fun c => isCode c || P c) = true) (h2 : ∀ c ∈ L.filter isCode, P c = true) : L.all P = true := by
  refine List.all_eq_true.mpr fun c hc => ?_
  have h := List.all_eq_true.mp h1 c hc
  rcases Bool.eq_false_or_eq_true (isCode c) with hi | hi
  · exact h2 c (List.mem_filter.mpr ⟨hc, hi⟩)
  · simpa [hi] using h
set_option maxRecDepth 65536 in
theorem w_c0 : (Jvm.Cond.code x code maxLocals ret).before args0 about1 = true := code_word (m := ⟨1, 1⟩) (meth := k1m1) (c := k1c1) (by decide +kernel) rfl rfl rfl (by decide +kernel)
set_option maxRecDepth 65536 in
theorem w_c1 : (Jvm.Cond.code ({ cls := "com/example/headwater/headwater/common/stream/KeyRange", name := "<init>", desc := "(DD)V" } : Jvm.MethodName) prog_32_method_1_code (5 : Nat) (Option.none : Option Jvm.ClassFile.FieldType)).before args0 about1 = true := code_word (m := ⟨3, 0⟩) (meth := k3m0) (c := k3c0) (by decide +kernel) rfl rfl rfl (by decide +kernel)
set_option maxRecDepth 65536 in
theorem w_c2 : (Jvm.Cond.code ({ cls := "java/lang/Record", name := "<init>", desc := "()V" } : Jvm.MethodName) jdk_30_method_1_code (1 : Nat) (Option.none : Option Jvm.ClassFile.FieldType)).before args0 about1 = true := code_word (m := ⟨2, 0⟩) (meth := k2m0) (c := k2c0) (by decide +kernel) rfl rfl rfl (by decide +kernel)
set_option maxRecDepth 65536 in
theorem w_c3 : (Jvm.Cond.code ({ cls := "java/lang/Object", name := "<init>", desc := "()V" } : Jvm.MethodName) object_method_1_code (1 : Nat) (Option.none : Option Jvm.ClassFile.FieldType)).before args0 about1 = true := code_word (m := ⟨0, 0⟩) (meth := k0m0) (c := k0c0) (by decide +kernel) rfl rfl rfl (by decide +kernel)
set_option maxRecDepth 65536 in
theorem w_c4 : (Jvm.Cond.code ({ cls := "java/lang/Math", name := "max", desc := "(II)I" } : Jvm.MethodName) jdk_29_method_65_code (2 : Nat) (Option.some Jvm.ClassFile.FieldType.int)).before args0 about1 = true := code_word (m := ⟨4, 1⟩) (meth := k4m1) (c := k4c1) (by decide +kernel) rfl rfl rfl (by decide +kernel)
set_option maxRecDepth 65536 in
theorem w_c5 : (Jvm.Cond.code ({ cls := "java/lang/Math", name := "min", desc := "(II)I" } : Jvm.MethodName) jdk_29_method_69_code (2 : Nat) (Option.some Jvm.ClassFile.FieldType.int)).before args0 about1 = true := code_word (m := ⟨4, 2⟩) (meth := k4m2) (c := k4c2) (by decide +kernel) rfl rfl rfl (by decide +kernel)
set_option maxRecDepth 65536 in
theorem w_c6 : (Jvm.Cond.code ({ cls := "com/example/headwater/headwater/common/stream/KeyRange", name := "overlaps", desc := "(Lcom/example/headwater/headwater/common/stream/KeyRange;)Z" } : Jvm.MethodName) prog_32_method_5_code (2 : Nat) (Option.some Jvm.ClassFile.FieldType.boolean)).before args0 about1 = true := code_word (m := ⟨3, 1⟩) (meth := k3m1) (c := k3c1) (by decide +kernel) rfl rfl rfl (by decide +kernel)
def codes1 : List Jvm.Cond := [Jvm.Cond.code x code maxLocals ret, Jvm.Cond.code ({ cls := "com/example/headwater/headwater/common/stream/KeyRange", name := "<init>", desc := "(DD)V" } : Jvm.MethodName) prog_32_method_1_code (5 : Nat) (Option.none : Option Jvm.ClassFile.FieldType), Jvm.Cond.code ({ cls := "java/lang/Record", name := "<init>", desc := "()V" } : Jvm.MethodName) jdk_30_method_1_code (1 : Nat) (Option.none : Option Jvm.ClassFile.FieldType), Jvm.Cond.code ({ cls := "java/lang/Object", name := "<init>", desc := "()V" } : Jvm.MethodName) object_method_1_code (1 : Nat) (Option.none : Option Jvm.ClassFile.FieldType), Jvm.Cond.code ({ cls := "java/lang/Math", name := "max", desc := "(II)I" } : Jvm.MethodName) jdk_29_method_65_code (2 : Nat) (Option.some Jvm.ClassFile.FieldType.int), Jvm.Cond.code ({ cls := "java/lang/Math", name := "min", desc := "(II)I" } : Jvm.MethodName) jdk_29_method_69_code (2 : Nat) (Option.some Jvm.ClassFile.FieldType.int), Jvm.Cond.code ({ cls := "com/example/headwater/headwater/common/stream/KeyRange", name := "overlaps", desc := "(Lcom/example/headwater/headwater/common/stream/KeyRange;)Z" } : Jvm.MethodName) prog_32_method_5_code (2 : Nat) (Option.some Jvm.ClassFile.FieldType.boolean)]
set_option maxRecDepth 65536 in
theorem codes_eq : words1.filter isCode = codes1 := rfl
theorem w_codes : ∀ c ∈ words1.filter isCode, c.before args0 about1 = true := by
  rw [codes_eq]
  intro c hc
  simp only [codes1, List.mem_cons, List.not_mem_nil, or_false] at hc
  rcases hc with rfl | rfl | rfl | rfl | rfl | rfl | rfl
  · exact w_c0
  · exact w_c1
  · exact w_c2
  · exact w_c3
  · exact w_c4
  · exact w_c5
  · exact w_c6
set_option maxRecDepth 65536 in
theorem w_t1 : (words1.take 24).all (fun c => isCode c || c.before args0 about1) = true := by decide +kernel
set_option maxRecDepth 65536 in
theorem w_t2 : (words1.drop 24).all (fun c => isCode c || c.before args0 about1) = true := by decide +kernel
theorem w_tables : (allAtoms (Jvm.Cond.code x code maxLocals ret :: tables_1)).before args0 about1 = true := by
  rw [allAtoms_all]
  show words1.all (fun c => c.before args0 about1) = true
  refine all_split ?_ w_codes
  rw [← List.take_append_drop 24 words1, List.all_append, w_t1, w_t2]
  rfl
set_option maxRecDepth 65536 in
theorem w_case : (Jvm.Cond.and given_1 narrow_1).before args0 about1 = true := by decide +kernel
theorem w_applies : (headSpec (Jvm.Cond.code x code maxLocals ret :: tables_1) room_1).applies x e0.platform about1 = true :=
  (Spec.applies_iff w_frames).mpr ⟨w_running, w_runnable, w_alone, w_named, w_hears, w_ripe, w_room, w_tables⟩
theorem atStart : AtStart classFile x code maxLocals ret World_1 tables_1 room_1 Calls_1 rest_1 Pre_1 launch0 p0 e0 about1 theMethod args0 below0 :=
  ⟨lists_1, trivial, launch0.admits_env _ _ _, launch0.least_env, fairChoices_fair.cas, fairChoices_fair.clock, w_frames, w_args, w_heap, w_applies, trivial, trivial, w_case⟩
end start1
theorem witness_1 : WitnessClaimed_1 := ⟨start1.p0, start1.e0, start1.about1, start1.theMethod, start1.args0, start1.below0, start1.atStart⟩
end Jvm.Pilot.@@N@@
