import JvmDerived
import JvmDerived.Pilot.@@N@@Statement
import JvmDerived.Pilot.@@N@@Code
set_option linter.unusedVariables false
set_option linter.unusedSimpArgs false
namespace Jvm.RoadKit
open Sem ClassFile Op Lib Jvm.Stand Jvm.Free Jvm.LawKit
section New
variable {p : Program} {l : Launch} {e : Env} {R : Room} {s : State} {m : MethodId} {args : Array Value} {below : List Frame} {meth : Method} {c : Code} {T : State} {locs : List Loc} {cells slots : Nat}
theorem retI (X : Stand p l e R s m args below meth c T locs cells slots) (hx : p.tables.exec = Jvm.exec) {pc : Nat} {Ls : Array Slot} {z : Int32} {rest : List Value} (hret : meth.sig.returnType = some .int) (hd : decode c.code pc = .ok (.ireturn, 1)) {fs : List Frame}
    (hl : ∀ (f : JFrame) (acts : List Action), f.method = m → f.locked = none → f.entered = [] → (doReturn e (T.setTop f) acts (some (.int z))).1 = T.setFrames fs) : Steps p.tables e below (T.setTop (mkF m pc Ls (.int z :: rest))) (T.setFrames fs) := by
  have hm' : T.vm.method? m = some meth := X.method'
  have hn : narrow .int (.int z) = .int z := rfl
  show Steps p.tables e below (T.setTop { method := m, pc := pc, locals := Ls, stack := _ :: rest, locked := none }) _
  jvm_step X.here [X.here.top, hx, hd, hm', hret, hn]
  first | (intro acts; rw [hl _ acts rfl rfl rfl]) | rw [hl _ _ rfl rfl rfl]
  exact Steps.refl _
end New
end Jvm.RoadKit
namespace Jvm.Pilot.@@N@@
open Jvm Jvm.ClassFile Sem Op Lib Jvm.Free Jvm.Stand Jvm.LawKit Jvm.RoadKit Bundle Jvm.Pilot.@@N@@.Jvm.D

def own_holds (y z el : Int32) : Int32 := if y = z then (if el = (0 : Int32) then (0 : Int32) else (1 : Int32)) else (0 : Int32)
theorem own_h1 (y : Int32) : own_holds y y 1 = 1 := by unfold own_holds; rw [if_pos rfl]; decide
theorem own_h0 (y : Int32) : own_holds y y 0 = 0 := by unfold own_holds; rw [if_pos rfl]; decide
theorem own_hn {y z el : Int32} (h : ¬ y = z) : own_holds y z el = 0 := by unfold own_holds; rw [if_neg h]
theorem own_inb (x : Int32) (h1 : ¬ x < (-128 : Int32)) (h2 : ¬ (127 : Int32) < x) : ¬ (x + (128 : Int32)) < 0 ∧ (x + (128 : Int32)) < 256 := by
  have a3 := c_iadd x 128
  have a4 := rng32 (x + 128)
  have e1 : (-128 : Int32).toInt = -128 := by decide
  have e2 : (127 : Int32).toInt = 127 := by decide
  have e3 : (128 : Int32).toInt = 128 := by decide
  have e4 : (256 : Int32).toInt = 256 := by decide
  have e5 : (0 : Int32).toInt = 0 := by decide
  rw [Int32.lt_iff_toInt_lt] at h1 h2
  rw [Int32.lt_iff_toInt_lt, Int32.lt_iff_toInt_lt]
  omega
theorem own_back (x : Int32) : x + (128 : Int32) - 128 = x := by rw [Int32.add_sub_cancel]
theorem own_six (k : Int32) : 0 ≤ ((k &&& (2147483647 : Int32)) % (6 : Int32)).toInt ∧ ((k &&& (2147483647 : Int32)) % (6 : Int32)).toInt < 6 := by
  have e1 := c_mask k 2147483647 31 (by decide) (by decide)
  have e2 := (c_irem (k &&& 2147483647) 6 6 (by decide)).1 (by omega)
  omega
theorem own_last (i : Int32) (h : 0 ≤ i.toInt ∧ i.toInt < 6) (h0 : ¬ i = (0 : Int32)) (h1 : ¬ i = (1 : Int32)) (h2 : ¬ i = (2 : Int32)) (h3 : ¬ i = (3 : Int32)) (h4 : ¬ i = (4 : Int32)) : i = 5 := by
  rw [← Int32.toInt_inj] at h0 h1 h2 h3 h4 ⊢
  have e0 : (0 : Int32).toInt = 0 := by decide
  have e1 : (1 : Int32).toInt = 1 := by decide
  have e2 : (2 : Int32).toInt = 2 := by decide
  have e3 : (3 : Int32).toInt = 3 := by decide
  have e4 : (4 : Int32).toInt = 4 := by decide
  have e5 : (5 : Int32).toInt = 5 := by decide
  omega
theorem own_len {args : Array Value} {s : State} {t : Term} {a : Addr} {cl : Cell} {v : Value} (ht : t.eval args s none [] s = some (.ref a)) (ha : s.arrayAt? a = some cl) (h : (Term.length t).eval args s none [] s = some v) : cl.slots.size < 2147483648 ∧ v = .int cl.slots.size.toInt32 := by
  simp only [Term.eval, ht, ha, Option.bind_eq_bind, Option.bind_some] at h
  by_cases hn : cl.slots.size < 2147483648
  · rw [if_pos hn] at h; exact ⟨hn, (Option.some.inj h).symm⟩
  · rw [if_neg hn] at h; cases h
theorem own_sub {args : Array Value} {s : State} {j : Int32} (hj : ¬ j < 0) : (Term.sub (Term.index 0) (Term.int 128)).eval args s none [j.toNatClampNeg] s = some (.int (j - 128)) := by
  have h := idx_at (args := args) (s := s) (first := s) (o := none) hj
  simp [Term.eval] at h ⊢
  simp [h]
theorem pn_10 : plainName "java/lang/Number" = true := by first | (simp [plainName, overriddenIn]; done) | decide +kernel
theorem ef_10_R (m : MethodId) (x0 : Addr) : entryFrame m #[(.ref x0)] 1 = mkF m 0 #[.val (.ref x0)] [] := by first | (simp [entryFrame, mkF, argsToLocals, Value.category]; done) | rfl
theorem d10_0 : decode jdk_18_method_1_code 0 = .ok (.aload_n 0, 1) := by decide +kernel
theorem d10_1 : decode jdk_18_method_1_code 1 = .ok (.invokespecial 1, 3) := by decide +kernel
theorem d10_4 : decode jdk_18_method_1_code 4 = .ok (.return_, 1) := by decide +kernel
def Q_rm10 (Z : State) (a : Addr) (h0 : Heap) (n0 : Nat) (v : Option Value) (h : Heap) (L : List Loc) : Prop := v = none ∧ Fr n0 L ∧ h = h0
set_option maxRecDepth 65536 in
set_option maxHeartbeats 40000000 in
theorem rm10 (l : Launch) (Z : State) (a0 : Array Value) (hw : ∀ d ∈ tables_1, d.before a0 Z = true) (ws : List Jvm.Cond) (a : Addr) (h0 : Heap) (n0 : Nat) (Z0 : n0 ≤ h0.size)  :
    MetFree l (⟨"java/lang/Number", "<init>", "()V"⟩ : MethodName) (head1 (Jvm.Cond.code (⟨"java/lang/Number", "<init>", "()V"⟩ : MethodName) jdk_18_method_1_code 1 none :: ws) ({ frames := 1, cells := 0, slots := 0, locals := 12 } : Room)) (fun argv U => argv = #[(.ref a)] ∧ Z.Warmed39 U.vm ∧ U.heap = h0) (fun _ _ _ _ _ => True) (fun _ U o U' => ∃ v L, o = .returned v ∧ Q_rm10 Z a h0 n0 v U'.heap L ∧ FrameEnd U o U' L ({ frames := 1, cells := 0, slots := 0, locals := 12 } : Room).cells ({ frames := 1, cells := 0, slots := 0, locals := 12 } : Room).slots) := by
  refine MetFree.of_bodySF (plainFor_of_name pn_10) hisR ?_
  intro p e s m args below meth c s₁ Bd hml0 hP hK
  obtain ⟨rfl, hZ, hh⟩ := hP
  have hx := Bd.exec
  have hby := Bd.bytes
  have hml : c.maxLocals = 1 := hml0
  have hown : s.vm.findClass "java/lang/Number" = some m.cls := findClass_of_methodNamed Bd.named
  have hnm := (name_of_methodNamed Bd.named Bd.method).1
  have X0 : Stand p l e ({ frames := 1, cells := 0, slots := 0, locals := 12 } : Room) s m #[(.ref a)] below meth c s₁ [] 0 0 := Stand.of_body Bd
  have e0 : s₁.heap = h0 := by rw [← hh, Bd.state]; rfl
  have N0 := Fr.nil n0
  obtain ⟨G, hG⟩ : ∃ G : State → Prop, G = fun t => Steps p.tables e below (s₁.setTop (entryFrame m #[(.ref a)] 1)) t := ⟨_, rfl⟩
  have pre0 : ∀ t, Steps p.tables e below (s₁.setTop (mkF m 0 #[.val (.ref a)] [])) t → G t := fun t k => by rw [hG]; exact castTop (ef_10_R m a) k
  have pre1 : ∀ t, Steps p.tables e below (s₁.setTop (mkF m 1 #[.val (.ref a)] [(.ref a)])) t → G t := fun t k => pre0 t (by
    show Steps p.tables e below (s₁.setTop (mkF m 0 #[.val (.ref a)] [])) _
    refine XS.aloadN X0.here hx rfl (hb hby d10_0) rfl rfl ?_
    exact k)
  obtain ⟨T2, X2, e2, st2⟩ := initO X0 hx hZ hown (hw _ (List.mem_of_getElem? (i := 64) rfl)) (hw _ (List.mem_of_getElem? (i := 25) rfl)) (hw _ (List.mem_of_getElem? (i := 26) rfl)) e0 (g := (mkF m 1 #[.val (.ref a)] [(.ref a)])) rfl (by rw [hml]; rfl) rfl (hb hby d10_1) (by decide) (W := 0) (by show 2 * 0 + _ ≤ _; exact Nat.le_of_eq rfl) (by decide)
  have pre2s : ∀ t, Steps p.tables e below (T2.setTop (mkF m 4 #[.val (.ref a)] [])) t → G t := fun t k => pre1 t (st2 t k)
  obtain ⟨fs, hr, hrun, hended, hW, hsame⟩ := X2.leave (v := none) (fun _ => rfl)
  subst hG
  refine ⟨_, _, pre2s _ ?_, hrun, hended, _, _, rfl, ?_, ⟨_, rfl⟩, hW, hsame.mono (by decide) (by decide)⟩
  · skip
    show Steps p.tables e below (T2.setTop (mkF m 4 #[.val (.ref a)] [])) _
    exact X2.returnOut hx Bd.returns (hb hby d10_4) hr
  · show Q_rm10 Z a h0 n0 _ T2.heap _
    rw [e2]
    exact ⟨rfl, N0, rfl⟩
theorem pn_9 : plainName "java/lang/Integer" = true := by first | (simp [plainName, overriddenIn]; done) | decide +kernel
theorem ef_9_R_I (m : MethodId) (x0 : Addr) (x1 : Int32) : entryFrame m #[(.ref x0), (.int x1)] 2 = mkF m 0 #[.val (.ref x0), .val (.int x1)] [] := by first | (simp [entryFrame, mkF, argsToLocals, Value.category]; done) | rfl
theorem pd_0 : parseMethodDescriptor "()V" = some ⟨[], none⟩ := by decide +kernel
theorem d9_0 : decode jdk_33_method_23_code 0 = .ok (.aload_n 0, 1) := by decide +kernel
theorem d9_1 : decode jdk_33_method_23_code 1 = .ok (.invokespecial 202, 3) := by decide +kernel
theorem d9_4 : decode jdk_33_method_23_code 4 = .ok (.aload_n 0, 1) := by decide +kernel
theorem d9_5 : decode jdk_33_method_23_code 5 = .ok (.iload_n 1, 1) := by decide +kernel
theorem d9_6 : decode jdk_33_method_23_code 6 = .ok (.putfield 205, 3) := by decide +kernel
theorem d9_9 : decode jdk_33_method_23_code 9 = .ok (.return_, 1) := by decide +kernel
def Q_rm9 (Z : State) (a : Addr) (q1 : Int32) (h0 : Heap) (n0 : Nat) (v : Option Value) (h : Heap) (L : List Loc) : Prop := v = none ∧ Fr n0 L ∧ Keep h0 h [a] ∧ Fld Z h a "java/lang/Integer" "value" "I" (.int q1)
set_option maxRecDepth 65536 in
set_option maxHeartbeats 40000000 in
theorem rm9 (l : Launch) (Z : State) (a0 : Array Value) (hw : ∀ d ∈ tables_1, d.before a0 Z = true) (ws : List Jvm.Cond) (a : Addr) (q1 : Int32) (h0 : Heap) (n0 : Nat) (Z0 : n0 ≤ h0.size) (F_value : Fld Z h0 a "java/lang/Integer" "value" "I" (.int (0 : Int32))) (E_a : Exa Z h0 a "java/lang/Integer") (O_a : n0 ≤ a) :
    MetFree l (⟨"java/lang/Integer", "<init>", "(I)V"⟩ : MethodName) (head1 (Jvm.Cond.code (⟨"java/lang/Integer", "<init>", "(I)V"⟩ : MethodName) jdk_33_method_23_code 2 none :: ws) ({ frames := 2, cells := 0, slots := 0, locals := 40 } : Room)) (fun argv U => argv = #[(.ref a), (.int q1)] ∧ Z.Warmed39 U.vm ∧ U.heap = h0) (fun _ _ _ _ _ => True) (fun _ U o U' => ∃ v L, o = .returned v ∧ Q_rm9 Z a q1 h0 n0 v U'.heap L ∧ FrameEnd U o U' L ({ frames := 2, cells := 0, slots := 0, locals := 40 } : Room).cells ({ frames := 2, cells := 0, slots := 0, locals := 40 } : Room).slots) := by
  refine MetFree.of_bodySF (plainFor_of_name pn_9) hisR ?_
  intro p e s m args below meth c s₁ Bd hml0 hP hK
  obtain ⟨rfl, hZ, hh⟩ := hP
  have hx := Bd.exec
  have hby := Bd.bytes
  have hml : c.maxLocals = 2 := hml0
  have hown : s.vm.findClass "java/lang/Integer" = some m.cls := findClass_of_methodNamed Bd.named
  have hnm := (name_of_methodNamed Bd.named Bd.method).1
  have X0 : Stand p l e ({ frames := 2, cells := 0, slots := 0, locals := 40 } : Room) s m #[(.ref a), (.int q1)] below meth c s₁ [] 0 0 := Stand.of_body Bd
  have e0 : s₁.heap = h0 := by rw [← hh, Bd.state]; rfl
  have N0 := Fr.nil n0
  obtain ⟨G, hG⟩ : ∃ G : State → Prop, G = fun t => Steps p.tables e below (s₁.setTop (entryFrame m #[(.ref a), (.int q1)] 2)) t := ⟨_, rfl⟩
  have pre0 : ∀ t, Steps p.tables e below (s₁.setTop (mkF m 0 #[.val (.ref a), .val (.int q1)] [])) t → G t := fun t k => by rw [hG]; exact castTop (ef_9_R_I m a q1) k
  have pre1 : ∀ t, Steps p.tables e below (s₁.setTop (mkF m 1 #[.val (.ref a), .val (.int q1)] [(.ref a)])) t → G t := fun t k => pre0 t (by
    show Steps p.tables e below (s₁.setTop (mkF m 0 #[.val (.ref a), .val (.int q1)] [])) _
    refine XS.aloadN X0.here hx rfl (hb hby d9_0) rfl rfl ?_
    exact k)
  obtain ⟨_, _, ⟨T2, L2, k2, n2⟩, -, X2, ⟨Lc2, hQ2, l2, y2, z2⟩, st2⟩ := X0.specialBack hx (y := (⟨"java/lang/Number", "<init>", "()V"⟩ : MethodName)) rfl hown (mvT hZ (hw _ (List.mem_of_getElem? (i := 58) rfl))) (mvT hZ (hw _ (List.mem_of_getElem? (i := 59) rfl))) (mvT hZ (hw _ (List.mem_of_getElem? (i := 63) rfl))) (by decide) (backOf (W := 0) (rm10 l Z a0 hw [] a h0 n0 Z0 ) hZ (hw _ (List.mem_of_getElem? (i := 63) rfl)) (hw _ (List.mem_of_getElem? (i := 62) rfl)) (by decide) (by decide)) (g := (mkF m 1 #[.val (.ref a), .val (.int q1)] [(.ref a)])) rfl (by rw [hml]; rfl) (Steps.refl _) (a := a) (argsL := []) (rest := []) (lenOf pd_0 rfl) rfl (by show 2 * 0 + _ ≤ _; exact Nat.le_of_eq rfl) (hb hby d9_1) (fun _ _ => ⟨rfl, e0, (Nat.le_of_ble_eq_true rfl), (Nat.le_of_ble_eq_true rfl)⟩)
  dsimp only [Pt.U, Pt.locs, Pt.cells, Pt.slots] at X2 l2 y2 z2 st2 hQ2
  subst l2 y2 z2
  obtain ⟨rfl, N2q, e2⟩ := hQ2
  have N2 := Fr.app N0 N2q
  have pre2s : ∀ t, Steps p.tables e below (T2.setTop (mkF m 4 #[.val (.ref a), .val (.int q1)] [])) t → G t := fun t k => pre1 t (st2.trans k)
  have pre3 : ∀ t, Steps p.tables e below (T2.setTop (mkF m 6 #[.val (.ref a), .val (.int q1)] [(.int q1), (.ref a)])) t → G t := fun t k => pre2s t (by
    show Steps p.tables e below (T2.setTop (mkF m 4 #[.val (.ref a), .val (.int q1)] [])) _
    refine XS.aloadN X2.here hx rfl (hb hby d9_4) rfl rfl ?_
    show Steps p.tables e below (T2.setTop (mkF m 5 #[.val (.ref a), .val (.int q1)] [(.ref a)])) _
    refine XS.iloadN X2.here hx rfl (hb hby d9_5) rfl ?_
    exact k)
  obtain ⟨T4, h4, X4, e4, W4, st4⟩ := putF X2 hx hZ hown (host := "") (Or.inl (hw _ (List.mem_of_getElem? (i := 39) rfl))) Via.refl e2 F_value E_a (Or.inr ⟨(hw _ (List.mem_of_getElem? (i := 40) rfl)), rfl, hnm⟩) (hw _ (List.mem_of_getElem? (i := 53) rfl)) (ty := .int) (by decide) rfl rfl (g := (mkF m 6 #[.val (.ref a), .val (.int q1)] [(.int q1), (.ref a)])) rfl rfl (hb hby d9_6)
  have pre4s : ∀ t, Steps p.tables e below (T4.setTop (mkF m 9 #[.val (.ref a), .val (.int q1)] [])) t → G t := fun t k => pre3 t (st4 t k)
  have F_value_5 := F_value.same W4
  have E_a_6 := E_a.wr W4
  have N4 := Fr.snoc X4 N2 O_a
  have Z4 : n0 ≤ h4.size := Nat.le_trans Z0 (Keep.of_wr W4).1
  have K4 : Keep h0 h4 [a] := (Keep.refl h0 [a]).wr W4 (Or.inl (List.mem_of_getElem? (i := 0) rfl))
  obtain ⟨fs, hr, hrun, hended, hW, hsame⟩ := X4.leave (v := none) (fun _ => rfl)
  subst hG
  refine ⟨_, _, pre4s _ ?_, hrun, hended, _, _, rfl, ?_, ⟨_, rfl⟩, hW, hsame.mono (by decide) (by decide)⟩
  · skip
    show Steps p.tables e below (T4.setTop (mkF m 9 #[.val (.ref a), .val (.int q1)] [])) _
    exact X4.returnOut hx Bd.returns (hb hby d9_9) hr
  · show Q_rm9 Z a q1 h0 n0 _ T4.heap _
    rw [e4]
    exact ⟨rfl, N4, K4, F_value_5⟩
theorem pn_3 : plainName "java/lang/Integer" = true := by first | (simp [plainName, overriddenIn]; done) | decide +kernel
theorem ef_3_I (m : MethodId) (x0 : Int32) : entryFrame m #[(.int x0)] 1 = mkF m 0 #[.val (.int x0)] [] := by first | (simp [entryFrame, mkF, argsToLocals, Value.category]; done) | rfl
theorem pd_1 : parseMethodDescriptor "(I)V" = some ⟨[.int], none⟩ := by decide +kernel
theorem d3_0 : decode jdk_33_method_22_code 0 = .ok (.iload_n 0, 1) := by decide +kernel
theorem d3_1 : decode jdk_33_method_22_code 1 = .ok (.bipush (-128), 2) := by decide +kernel
theorem d3_3 : decode jdk_33_method_22_code 3 = .ok (.if_icmp .lt 20, 3) := by decide +kernel
theorem d3_6 : decode jdk_33_method_22_code 6 = .ok (.iload_n 0, 1) := by decide +kernel
theorem d3_7 : decode jdk_33_method_22_code 7 = .ok (.getstatic 191, 3) := by decide +kernel
theorem d3_10 : decode jdk_33_method_22_code 10 = .ok (.if_icmp .gt 13, 3) := by decide +kernel
theorem d3_13 : decode jdk_33_method_22_code 13 = .ok (.getstatic 195, 3) := by decide +kernel
theorem d3_16 : decode jdk_33_method_22_code 16 = .ok (.iload_n 0, 1) := by decide +kernel
theorem d3_17 : decode jdk_33_method_22_code 17 = .ok (.sipush 128, 3) := by decide +kernel
theorem d3_20 : decode jdk_33_method_22_code 20 = .ok (.iadd, 1) := by decide +kernel
theorem d3_21 : decode jdk_33_method_22_code 21 = .ok (.aaload, 1) := by decide +kernel
theorem d3_22 : decode jdk_33_method_22_code 22 = .ok (.areturn, 1) := by decide +kernel
theorem d3_23 : decode jdk_33_method_22_code 23 = .ok (.new 1, 3) := by decide +kernel
theorem d3_26 : decode jdk_33_method_22_code 26 = .ok (.dup, 1) := by decide +kernel
theorem d3_27 : decode jdk_33_method_22_code 27 = .ok (.iload_n 0, 1) := by decide +kernel
theorem d3_28 : decode jdk_33_method_22_code 28 = .ok (.invokespecial 199, 3) := by decide +kernel
theorem d3_31 : decode jdk_33_method_22_code 31 = .ok (.areturn, 1) := by decide +kernel
def Q_rm3 (Z : State) (q1 : Int32) (ca : Addr) (cl : Cell) (h0 : Heap) (n0 : Nat) (v : Option Value) (h : Heap) (L : List Loc) : Prop := ∃ r : Addr, v = some (.ref r) ∧ Fr n0 L ∧ Keep h0 h [] ∧ Exa Z h r "java/lang/Integer" ∧ Fld Z h r "java/lang/Integer" "value" "I" (.int q1)
set_option maxRecDepth 65536 in
set_option maxHeartbeats 40000000 in
theorem rm3 (l : Launch) (Z : State) (a0 : Array Value) (hw : ∀ d ∈ tables_1, d.before a0 Z = true) (ws : List Jvm.Cond) (q1 : Int32) (ca : Addr) (cl : Cell) (h0 : Heap) (n0 : Nat) (Z0 : n0 ≤ h0.size) (S1 : Sta Z Z.heap "java/lang/Integer$IntegerCache" "high" "I" (.int (127 : Int32))) (S0 : Sta Z Z.heap "java/lang/Integer$IntegerCache" "cache" "[Ljava/lang/Integer;" (.ref ca)) (hB : Bxs Z ca cl "java/lang/Integer" "I" 256 (fun j => .int (j - 128))) (Ol : Old Z n0 h0) :
    MetFree l (⟨"java/lang/Integer", "valueOf", "(I)Ljava/lang/Integer;"⟩ : MethodName) (head1 (Jvm.Cond.code (⟨"java/lang/Integer", "valueOf", "(I)Ljava/lang/Integer;"⟩ : MethodName) jdk_33_method_22_code 1 (some (.object "java/lang/Integer")) :: ws) ({ frames := 3, cells := 1, slots := 1, locals := 80 } : Room)) (fun argv U => argv = #[(.int q1)] ∧ Z.Warmed39 U.vm ∧ U.heap = h0) (fun _ _ _ _ _ => True) (fun _ U o U' => ∃ v L, o = .returned v ∧ Q_rm3 Z q1 ca cl h0 n0 v U'.heap L ∧ FrameEnd U o U' L ({ frames := 3, cells := 1, slots := 1, locals := 80 } : Room).cells ({ frames := 3, cells := 1, slots := 1, locals := 80 } : Room).slots) := by
  refine MetFree.of_bodySF (plainFor_of_name pn_3) hisR ?_
  intro p e s m args below meth c s₁ Bd hml0 hP hK
  obtain ⟨rfl, hZ, hh⟩ := hP
  have hx := Bd.exec
  have hby := Bd.bytes
  have hml : c.maxLocals = 1 := hml0
  have hown : s.vm.findClass "java/lang/Integer" = some m.cls := findClass_of_methodNamed Bd.named
  have hnm := (name_of_methodNamed Bd.named Bd.method).1
  have X0 : Stand p l e ({ frames := 3, cells := 1, slots := 1, locals := 80 } : Room) s m #[(.int q1)] below meth c s₁ [] 0 0 := Stand.of_body Bd
  have e0 : s₁.heap = h0 := by rw [← hh, Bd.state]; rfl
  have N0 := Fr.nil n0
  obtain ⟨G, hG⟩ : ∃ G : State → Prop, G = fun t => Steps p.tables e below (s₁.setTop (entryFrame m #[(.int q1)] 1)) t := ⟨_, rfl⟩
  have pre0 : ∀ t, Steps p.tables e below (s₁.setTop (mkF m 0 #[.val (.int q1)] [])) t → G t := fun t k => by rw [hG]; exact castTop (ef_3_I m q1) k
  have pre1 : ∀ t, Steps p.tables e below (s₁.setTop (mkF m 3 #[.val (.int q1)] [(.int (-128 : Int32)), (.int q1)])) t → G t := fun t k => pre0 t (by
    show Steps p.tables e below (s₁.setTop (mkF m 0 #[.val (.int q1)] [])) _
    refine XS.iloadN X0.here hx rfl (hb hby d3_0) rfl ?_
    show Steps p.tables e below (s₁.setTop (mkF m 1 #[.val (.int q1)] [(.int q1)])) _
    refine XS.bipush X0.here hx rfl (hb hby d3_1) ?_
    exact k)
  by_cases c3 : q1 < (-128 : Int32)
  · -- c3
    have pre2 : ∀ t, Steps p.tables e below (s₁.setTop (mkF m 23 #[.val (.int q1)] [])) t → G t := fun t k => pre1 t (by
      show Steps p.tables e below (s₁.setTop (mkF m 3 #[.val (.int q1)] [(.int (-128 : Int32)), (.int q1)])) _
      refine XS.icmpYes X0.here hx rfl (pc0 := 3) (pc' := 23) rfl (hb hby d3_3) rfl (tlt c3).1 (by decide) (by decide) ?_
      exact k)
    obtain ⟨T3, h3, X3, e3, E3, A3, D3, -, st3⟩ := newO X0 hx hZ hown (hw _ (List.mem_of_getElem? (i := 52) rfl)) (hw _ (List.mem_of_getElem? (i := 53) rfl)) (hw _ (List.mem_of_getElem? (i := 16) rfl)) e0 (g := (mkF m 23 #[.val (.int q1)] [])) rfl (hb hby d3_23) (by decide) (by decide)
    obtain ⟨b, g3⟩ : ∃ z, z = h0.size := ⟨_, rfl⟩
    rw [← g3] at A3 D3 st3
    have O_b : n0 ≤ b := Nat.le_trans Z0 (Nat.le_of_eq g3.symm)
    have Z3 : n0 ≤ h3.size := Nat.le_trans Z0 E3.1
    have S_b : h0.size ≤ b := Nat.le_trans (Keep.refl h0 []).1 (Nat.le_of_eq g3.symm)
    have pre3s : ∀ t, Steps p.tables e below (T3.setTop (mkF m 26 #[.val (.int q1)] [(.ref b)])) t → G t := fun t k => pre2 t (st3 t k)
    have f4_5 := (S0.ext Ol.2).ext E3
    have f6_7 := (S1.ext Ol.2).ext E3
    have Fvalue_b : Fld Z h3 b "java/lang/Integer" "value" "I" (.int (0 : Int32)) := D3 (Or.inr (hw _ (List.mem_of_getElem? (i := 40) rfl))) (ty := .int) (by decide)
    have K3 : Keep h0 h3 [] := (Keep.refl h0 []).ext E3
    have pre8 : ∀ t, Steps p.tables e below (T3.setTop (mkF m 28 #[.val (.int q1)] [(.int q1), (.ref b), (.ref b)])) t → G t := fun t k => pre3s t (by
      show Steps p.tables e below (T3.setTop (mkF m 26 #[.val (.int q1)] [(.ref b)])) _
      refine XS.dup X3.here hx rfl (hb hby d3_26) rfl rfl ?_
      show Steps p.tables e below (T3.setTop (mkF m 27 #[.val (.int q1)] [(.ref b), (.ref b)])) _
      refine XS.iloadN X3.here hx rfl (hb hby d3_27) rfl ?_
      exact k)
    obtain ⟨_, _, ⟨T9, L9, k9, n9⟩, -, X9, ⟨Lc9, hQ9, l9, y9, z9⟩, st9⟩ := X3.specialBack hx (y := (⟨"java/lang/Integer", "<init>", "(I)V"⟩ : MethodName)) rfl hown (mvT hZ (hw _ (List.mem_of_getElem? (i := 54) rfl))) (mvT hZ (hw _ (List.mem_of_getElem? (i := 55) rfl))) (mvT hZ (hw _ (List.mem_of_getElem? (i := 57) rfl))) (by decide) (backOf (W := 1) (rm9 l Z a0 hw [] b q1 h3 n0 Z3 Fvalue_b A3 O_b) hZ (hw _ (List.mem_of_getElem? (i := 57) rfl)) (hw _ (List.mem_of_getElem? (i := 16) rfl)) (by decide) (by decide)) (g := (mkF m 28 #[.val (.int q1)] [(.int q1), (.ref b), (.ref b)])) rfl (by rw [hml]; rfl) (Steps.refl _) (a := b) (argsL := [(.int q1)]) (rest := [(.ref b)]) (lenOf pd_1 rfl) rfl (by show 2 * 0 + _ ≤ _; exact Nat.le_of_eq rfl) (hb hby d3_28) (fun _ _ => ⟨rfl, e3, (Nat.le_of_ble_eq_true rfl), (Nat.le_of_ble_eq_true rfl)⟩)
    dsimp only [Pt.U, Pt.locs, Pt.cells, Pt.slots] at X9 l9 y9 z9 st9 hQ9
    subst l9 y9 z9
    obtain ⟨rfl, N9q, K9, Fv9⟩ := hQ9
    have N9 := Fr.app N0 N9q
    have pre9s : ∀ t, Steps p.tables e below (T9.setTop (mkF m 31 #[.val (.int q1)] [(.ref b)])) t → G t := fun t k => pre8 t (st9.trans k)
    have Z9 : n0 ≤ T9.heap.size := Nat.le_trans Z3 K9.1
    have A3_10 := A3.keep K9
    have KK9 : Keep h0 T9.heap [] := K3.trans K9 (allS (Or.inr S_b) all0)
    obtain ⟨fs, hr, hrun, hended, hW, hsame⟩ := X9.leave (v := some (.ref b)) (fun h => by rw [Bd.returns] at h; cases h)
    subst hG
    refine ⟨_, _, pre9s _ ?_, hrun, hended, _, _, rfl, ?_, ⟨_, rfl⟩, hW, hsame.mono (by decide) (by decide)⟩
    · skip
      show Steps p.tables e below (T9.setTop (mkF m 31 #[.val (.int q1)] [(.ref b)])) _
      jvm_step X9.here [X9.here.top, hx, (hb hby d3_31), X9.method', Bd.returns, Value.isRef, FieldType.isReference]
      first | (intro acts; rw [hr _ acts rfl rfl rfl]) | rw [hr _ _ rfl rfl rfl]
      exact Steps.refl _
    · show Q_rm3 Z q1 ca cl h0 n0 _ T9.heap _
      exact ⟨_, rfl, N9, KK9, A3_10, Fv9⟩
  · -- not c3
    have pre11 : ∀ t, Steps p.tables e below (s₁.setTop (mkF m 7 #[.val (.int q1)] [(.int q1)])) t → G t := fun t k => pre1 t (by
      show Steps p.tables e below (s₁.setTop (mkF m 3 #[.val (.int q1)] [(.int (-128 : Int32)), (.int q1)])) _
      refine XS.icmpNo X0.here hx rfl (hb hby d3_3) rfl (flt c3).1 ?_
      show Steps p.tables e below (s₁.setTop (mkF m 6 #[.val (.int q1)] [])) _
      refine XS.iloadN X0.here hx rfl (hb hby d3_6) rfl ?_
      exact k)
    obtain ⟨T12, X12, e12, st12⟩ := getS2 X0 hx hZ hown (host := "") (Or.inl (hw _ (List.mem_of_getElem? (i := 18) rfl))) Via.refl e0 (S1.ext Ol.2) (g := (mkF m 7 #[.val (.int q1)] [(.int q1)])) rfl (hb hby d3_7)
    have pre12s : ∀ t, Steps p.tables e below (T12.setTop (mkF m 10 #[.val (.int q1)] [(.int (127 : Int32)), (.int q1)])) t → G t := fun t k => pre11 t (st12 t k)
    by_cases c10 : (127 : Int32) < q1
    · -- c10
      have pre13 : ∀ t, Steps p.tables e below (T12.setTop (mkF m 23 #[.val (.int q1)] [])) t → G t := fun t k => pre12s t (by
        show Steps p.tables e below (T12.setTop (mkF m 10 #[.val (.int q1)] [(.int (127 : Int32)), (.int q1)])) _
        refine XS.icmpYes X12.here hx rfl (pc0 := 10) (pc' := 23) rfl (hb hby d3_10) rfl (tlt c10).2.2.1 (by decide) (by decide) ?_
        exact k)
      obtain ⟨T14, h14, X14, e14, E14, A14, D14, -, st14⟩ := newO X12 hx hZ hown (hw _ (List.mem_of_getElem? (i := 52) rfl)) (hw _ (List.mem_of_getElem? (i := 53) rfl)) (hw _ (List.mem_of_getElem? (i := 16) rfl)) e12 (g := (mkF m 23 #[.val (.int q1)] [])) rfl (hb hby d3_23) (by decide) (by decide)
      obtain ⟨b, g14⟩ : ∃ z, z = h0.size := ⟨_, rfl⟩
      rw [← g14] at A14 D14 st14
      have O_b : n0 ≤ b := Nat.le_trans Z0 (Nat.le_of_eq g14.symm)
      have Z14 : n0 ≤ h14.size := Nat.le_trans Z0 E14.1
      have S_b : h0.size ≤ b := Nat.le_trans (Keep.refl h0 []).1 (Nat.le_of_eq g14.symm)
      have pre14s : ∀ t, Steps p.tables e below (T14.setTop (mkF m 26 #[.val (.int q1)] [(.ref b)])) t → G t := fun t k => pre13 t (st14 t k)
      have f15_16 := (S0.ext Ol.2).ext E14
      have f17_18 := (S1.ext Ol.2).ext E14
      have Fvalue_b : Fld Z h14 b "java/lang/Integer" "value" "I" (.int (0 : Int32)) := D14 (Or.inr (hw _ (List.mem_of_getElem? (i := 40) rfl))) (ty := .int) (by decide)
      have K14 : Keep h0 h14 [] := (Keep.refl h0 []).ext E14
      have pre19 : ∀ t, Steps p.tables e below (T14.setTop (mkF m 28 #[.val (.int q1)] [(.int q1), (.ref b), (.ref b)])) t → G t := fun t k => pre14s t (by
        show Steps p.tables e below (T14.setTop (mkF m 26 #[.val (.int q1)] [(.ref b)])) _
        refine XS.dup X14.here hx rfl (hb hby d3_26) rfl rfl ?_
        show Steps p.tables e below (T14.setTop (mkF m 27 #[.val (.int q1)] [(.ref b), (.ref b)])) _
        refine XS.iloadN X14.here hx rfl (hb hby d3_27) rfl ?_
        exact k)
      obtain ⟨_, _, ⟨T20, L20, k20, n20⟩, -, X20, ⟨Lc20, hQ20, l20, y20, z20⟩, st20⟩ := X14.specialBack hx (y := (⟨"java/lang/Integer", "<init>", "(I)V"⟩ : MethodName)) rfl hown (mvT hZ (hw _ (List.mem_of_getElem? (i := 54) rfl))) (mvT hZ (hw _ (List.mem_of_getElem? (i := 55) rfl))) (mvT hZ (hw _ (List.mem_of_getElem? (i := 57) rfl))) (by decide) (backOf (W := 1) (rm9 l Z a0 hw [] b q1 h14 n0 Z14 Fvalue_b A14 O_b) hZ (hw _ (List.mem_of_getElem? (i := 57) rfl)) (hw _ (List.mem_of_getElem? (i := 16) rfl)) (by decide) (by decide)) (g := (mkF m 28 #[.val (.int q1)] [(.int q1), (.ref b), (.ref b)])) rfl (by rw [hml]; rfl) (Steps.refl _) (a := b) (argsL := [(.int q1)]) (rest := [(.ref b)]) (lenOf pd_1 rfl) rfl (by show 2 * 0 + _ ≤ _; exact Nat.le_of_eq rfl) (hb hby d3_28) (fun _ _ => ⟨rfl, e14, (Nat.le_of_ble_eq_true rfl), (Nat.le_of_ble_eq_true rfl)⟩)
      dsimp only [Pt.U, Pt.locs, Pt.cells, Pt.slots] at X20 l20 y20 z20 st20 hQ20
      subst l20 y20 z20
      obtain ⟨rfl, N20q, K20, Fv20⟩ := hQ20
      have N20 := Fr.app N0 N20q
      have pre20s : ∀ t, Steps p.tables e below (T20.setTop (mkF m 31 #[.val (.int q1)] [(.ref b)])) t → G t := fun t k => pre19 t (st20.trans k)
      have Z20 : n0 ≤ T20.heap.size := Nat.le_trans Z14 K20.1
      have A14_21 := A14.keep K20
      have KK20 : Keep h0 T20.heap [] := K14.trans K20 (allS (Or.inr S_b) all0)
      obtain ⟨fs, hr, hrun, hended, hW, hsame⟩ := X20.leave (v := some (.ref b)) (fun h => by rw [Bd.returns] at h; cases h)
      subst hG
      refine ⟨_, _, pre20s _ ?_, hrun, hended, _, _, rfl, ?_, ⟨_, rfl⟩, hW, hsame.mono (by decide) (by decide)⟩
      · skip
        show Steps p.tables e below (T20.setTop (mkF m 31 #[.val (.int q1)] [(.ref b)])) _
        jvm_step X20.here [X20.here.top, hx, (hb hby d3_31), X20.method', Bd.returns, Value.isRef, FieldType.isReference]
        first | (intro acts; rw [hr _ acts rfl rfl rfl]) | rw [hr _ _ rfl rfl rfl]
        exact Steps.refl _
      · show Q_rm3 Z q1 ca cl h0 n0 _ T20.heap _
        exact ⟨_, rfl, N20, KK20, A14_21, Fv20⟩
    · -- not c10
      have pre22 : ∀ t, Steps p.tables e below (T12.setTop (mkF m 13 #[.val (.int q1)] [])) t → G t := fun t k => pre12s t (by
        show Steps p.tables e below (T12.setTop (mkF m 10 #[.val (.int q1)] [(.int (127 : Int32)), (.int q1)])) _
        refine XS.icmpNo X12.here hx rfl (hb hby d3_10) rfl (flt c10).2.2.1 ?_
        exact k)
      obtain ⟨T23, X23, e23, st23⟩ := getS2 X12 hx hZ hown (host := "") (Or.inl (hw _ (List.mem_of_getElem? (i := 20) rfl))) Via.refl e12 (S0.ext Ol.2) (g := (mkF m 13 #[.val (.int q1)] [])) rfl (hb hby d3_13)
      have pre23s : ∀ t, Steps p.tables e below (T23.setTop (mkF m 16 #[.val (.int q1)] [(.ref ca)])) t → G t := fun t k => pre22 t (st23 t k)
      have pre24 : ∀ t, Steps p.tables e below (T23.setTop (mkF m 21 #[.val (.int q1)] [(.int (q1 + (128 : Int32))), (.ref ca)])) t → G t := fun t k => pre23s t (by
        show Steps p.tables e below (T23.setTop (mkF m 16 #[.val (.int q1)] [(.ref ca)])) _
        refine XS.iloadN X23.here hx rfl (hb hby d3_16) rfl ?_
        show Steps p.tables e below (T23.setTop (mkF m 17 #[.val (.int q1)] [(.int q1), (.ref ca)])) _
        refine XS.sipush X23.here hx rfl (hb hby d3_17) ?_
        show Steps p.tables e below (T23.setTop (mkF m 20 #[.val (.int q1)] [(.int (128 : Int32)), (.int q1), (.ref ca)])) _
        refine XS.iadd X23.here hx rfl (hb hby d3_20) rfl ?_
        exact k)
      have Ar := (hB.ext Ol.2).1
      have hin := inb_of (hB.ext Ol.2).2.1 (own_inb q1 c3 c10)
      obtain ⟨b, hat, Eb, Fb⟩ := hB.2.2.2 _ hin
      simp only [own_back] at Fb
      obtain ⟨fs, hr, hrun, hended, hW, hsame⟩ := X23.leave (v := some (.ref b)) (fun h => by rw [Bd.returns] at h; cases h)
      subst hG
      refine ⟨_, _, pre24 _ ?_, hrun, hended, _, _, rfl, ?_, ⟨_, rfl⟩, hW, hsame.mono (by decide) (by decide)⟩
      · skip
        show Steps p.tables e below (T23.setTop (mkF m 21 #[.val (.int q1)] [(.int (q1 + (128 : Int32))), (.ref ca)])) _
        refine X23.aaload hx (j := (q1 + (128 : Int32))) (v := (.ref b)) (by rw [e23]; exact Ar.1) (State.isArrayOf_alike hZ.alike Ar.2.1) rfl Ar.2.2 hin hat (g := (mkF m 21 #[.val (.int q1)] [(.int (q1 + (128 : Int32))), (.ref ca)])) rfl rfl (hb hby d3_21) _ ?_
        show Steps p.tables e below (T23.setTop (mkF m 22 #[.val (.int q1)] [(.ref b)])) _
        jvm_step X23.here [X23.here.top, hx, (hb hby d3_22), X23.method', Bd.returns, Value.isRef, FieldType.isReference]
        first | (intro acts; rw [hr _ acts rfl rfl rfl]) | rw [hr _ _ rfl rfl rfl]
        exact Steps.refl _
      · show Q_rm3 Z q1 ca cl h0 n0 _ T23.heap _
        rw [e23]
        exact ⟨_, rfl, N0, (Keep.refl h0 []), Eb.ext Ol.2, Fb.ext Ol.2⟩
theorem pn_4 : plainName "com/example/deferline/deferline/ledger/AccountPart" = true := by first | (simp [plainName, overriddenIn]; done) | decide +kernel
theorem ef_4_R_R (m : MethodId) (x0 : Addr) (x1 : Addr) : entryFrame m #[(.ref x0), (.ref x1)] 2 = mkF m 0 #[.val (.ref x0), .val (.ref x1)] [] := by first | (simp [entryFrame, mkF, argsToLocals, Value.category]; done) | rfl
theorem d4_0 : decode prog_19_method_1_code 0 = .ok (.aload_n 0, 1) := by decide +kernel
theorem d4_1 : decode prog_19_method_1_code 1 = .ok (.invokespecial 1, 3) := by decide +kernel
theorem d4_4 : decode prog_19_method_1_code 4 = .ok (.aload_n 0, 1) := by decide +kernel
theorem d4_5 : decode prog_19_method_1_code 5 = .ok (.aload_n 1, 1) := by decide +kernel
theorem d4_6 : decode prog_19_method_1_code 6 = .ok (.putfield 7, 3) := by decide +kernel
theorem d4_9 : decode prog_19_method_1_code 9 = .ok (.return_, 1) := by decide +kernel
def Q_rm4 (Z : State) (a r : Addr) (h0 : Heap) (n0 : Nat) (v : Option Value) (h : Heap) (L : List Loc) : Prop := v = none ∧ Fr n0 L ∧ Keep h0 h [a] ∧ Fld Z h a "com/example/deferline/deferline/ledger/AccountPart" "classYear" "Ljava/lang/Integer;" (.ref r)
set_option maxRecDepth 65536 in
set_option maxHeartbeats 40000000 in
theorem rm4 (l : Launch) (Z : State) (a0 : Array Value) (hw : ∀ d ∈ tables_1, d.before a0 Z = true) (ws : List Jvm.Cond) (a r : Addr) (h0 : Heap) (n0 : Nat) (Z0 : n0 ≤ h0.size) (F_classYear : Fld Z h0 a "com/example/deferline/deferline/ledger/AccountPart" "classYear" "Ljava/lang/Integer;" .null) (E_a : Exa Z h0 a "com/example/deferline/deferline/ledger/AccountPart") (O_a : n0 ≤ a) :
    MetFree l (⟨"com/example/deferline/deferline/ledger/AccountPart", "<init>", "(Ljava/lang/Integer;)V"⟩ : MethodName) (head1 (Jvm.Cond.code (⟨"com/example/deferline/deferline/ledger/AccountPart", "<init>", "(Ljava/lang/Integer;)V"⟩ : MethodName) prog_19_method_1_code 2 none :: ws) ({ frames := 1, cells := 0, slots := 0, locals := 12 } : Room)) (fun argv U => argv = #[(.ref a), (.ref r)] ∧ Z.Warmed39 U.vm ∧ U.heap = h0) (fun _ _ _ _ _ => True) (fun _ U o U' => ∃ v L, o = .returned v ∧ Q_rm4 Z a r h0 n0 v U'.heap L ∧ FrameEnd U o U' L ({ frames := 1, cells := 0, slots := 0, locals := 12 } : Room).cells ({ frames := 1, cells := 0, slots := 0, locals := 12 } : Room).slots) := by
  refine MetFree.of_bodySF (plainFor_of_name pn_4) hisR ?_
  intro p e s m args below meth c s₁ Bd hml0 hP hK
  obtain ⟨rfl, hZ, hh⟩ := hP
  have hx := Bd.exec
  have hby := Bd.bytes
  have hml : c.maxLocals = 2 := hml0
  have hown : s.vm.findClass "com/example/deferline/deferline/ledger/AccountPart" = some m.cls := findClass_of_methodNamed Bd.named
  have hnm := (name_of_methodNamed Bd.named Bd.method).1
  have X0 : Stand p l e ({ frames := 1, cells := 0, slots := 0, locals := 12 } : Room) s m #[(.ref a), (.ref r)] below meth c s₁ [] 0 0 := Stand.of_body Bd
  have e0 : s₁.heap = h0 := by rw [← hh, Bd.state]; rfl
  have N0 := Fr.nil n0
  obtain ⟨G, hG⟩ : ∃ G : State → Prop, G = fun t => Steps p.tables e below (s₁.setTop (entryFrame m #[(.ref a), (.ref r)] 2)) t := ⟨_, rfl⟩
  have pre0 : ∀ t, Steps p.tables e below (s₁.setTop (mkF m 0 #[.val (.ref a), .val (.ref r)] [])) t → G t := fun t k => by rw [hG]; exact castTop (ef_4_R_R m a r) k
  have pre1 : ∀ t, Steps p.tables e below (s₁.setTop (mkF m 1 #[.val (.ref a), .val (.ref r)] [(.ref a)])) t → G t := fun t k => pre0 t (by
    show Steps p.tables e below (s₁.setTop (mkF m 0 #[.val (.ref a), .val (.ref r)] [])) _
    refine XS.aloadN X0.here hx rfl (hb hby d4_0) rfl rfl ?_
    exact k)
  obtain ⟨T2, X2, e2, st2⟩ := initO X0 hx hZ hown (hw _ (List.mem_of_getElem? (i := 24) rfl)) (hw _ (List.mem_of_getElem? (i := 25) rfl)) (hw _ (List.mem_of_getElem? (i := 26) rfl)) e0 (g := (mkF m 1 #[.val (.ref a), .val (.ref r)] [(.ref a)])) rfl (by rw [hml]; rfl) rfl (hb hby d4_1) (by decide) (W := 0) (by show 2 * 0 + _ ≤ _; exact Nat.le_of_eq rfl) (by decide)
  have pre2s : ∀ t, Steps p.tables e below (T2.setTop (mkF m 4 #[.val (.ref a), .val (.ref r)] [])) t → G t := fun t k => pre1 t (st2 t k)
  have pre3 : ∀ t, Steps p.tables e below (T2.setTop (mkF m 6 #[.val (.ref a), .val (.ref r)] [(.ref r), (.ref a)])) t → G t := fun t k => pre2s t (by
    show Steps p.tables e below (T2.setTop (mkF m 4 #[.val (.ref a), .val (.ref r)] [])) _
    refine XS.aloadN X2.here hx rfl (hb hby d4_4) rfl rfl ?_
    show Steps p.tables e below (T2.setTop (mkF m 5 #[.val (.ref a), .val (.ref r)] [(.ref a)])) _
    refine XS.aloadN X2.here hx rfl (hb hby d4_5) rfl rfl ?_
    exact k)
  obtain ⟨T4, h4, X4, e4, W4, st4⟩ := putF X2 hx hZ hown (host := "") (Or.inl (hw _ (List.mem_of_getElem? (i := 27) rfl))) Via.refl e2 F_classYear E_a (Or.inr ⟨(hw _ (List.mem_of_getElem? (i := 28) rfl)), rfl, hnm⟩) (hw _ (List.mem_of_getElem? (i := 13) rfl)) (ty := (.object "java/lang/Integer")) (by decide) rfl rfl (g := (mkF m 6 #[.val (.ref a), .val (.ref r)] [(.ref r), (.ref a)])) rfl rfl (hb hby d4_6)
  have pre4s : ∀ t, Steps p.tables e below (T4.setTop (mkF m 9 #[.val (.ref a), .val (.ref r)] [])) t → G t := fun t k => pre3 t (st4 t k)
  have F_classYear_5 := F_classYear.same W4
  have E_a_6 := E_a.wr W4
  have N4 := Fr.snoc X4 N0 O_a
  have Z4 : n0 ≤ h4.size := Nat.le_trans Z0 (Keep.of_wr W4).1
  have K4 : Keep h0 h4 [a] := (Keep.refl h0 [a]).wr W4 (Or.inl (List.mem_of_getElem? (i := 0) rfl))
  obtain ⟨fs, hr, hrun, hended, hW, hsame⟩ := X4.leave (v := none) (fun _ => rfl)
  subst hG
  refine ⟨_, _, pre4s _ ?_, hrun, hended, _, _, rfl, ?_, ⟨_, rfl⟩, hW, hsame.mono (by decide) (by decide)⟩
  · skip
    show Steps p.tables e below (T4.setTop (mkF m 9 #[.val (.ref a), .val (.ref r)] [])) _
    exact X4.returnOut hx Bd.returns (hb hby d4_9) hr
  · show Q_rm4 Z a r h0 n0 _ T4.heap _
    rw [e4]
    exact ⟨rfl, N4, K4, F_classYear_5⟩
theorem pn_2 : plainName "com/example/deferline/deferline/ledger/AccountPart" = true := by first | (simp [plainName, overriddenIn]; done) | decide +kernel
theorem ef_2_I (m : MethodId) (x0 : Int32) : entryFrame m #[(.int x0)] 1 = mkF m 0 #[.val (.int x0)] [] := by first | (simp [entryFrame, mkF, argsToLocals, Value.category]; done) | rfl
theorem pd_2 : parseMethodDescriptor "(I)Ljava/lang/Integer;" = some ⟨[.int], some (.object "java/lang/Integer")⟩ := by decide +kernel
theorem pd_3 : parseMethodDescriptor "(Ljava/lang/Integer;)V" = some ⟨[(.object "java/lang/Integer")], none⟩ := by decide +kernel
theorem d2_0 : decode prog_19_method_2_code 0 = .ok (.new 8, 3) := by decide +kernel
theorem d2_3 : decode prog_19_method_2_code 3 = .ok (.dup, 1) := by decide +kernel
theorem d2_4 : decode prog_19_method_2_code 4 = .ok (.iload_n 0, 1) := by decide +kernel
theorem d2_5 : decode prog_19_method_2_code 5 = .ok (.invokestatic 13, 3) := by decide +kernel
theorem d2_8 : decode prog_19_method_2_code 8 = .ok (.invokespecial 19, 3) := by decide +kernel
theorem d2_11 : decode prog_19_method_2_code 11 = .ok (.areturn, 1) := by decide +kernel
def Q_rm2 (Z : State) (y : Int32) (ca : Addr) (cl : Cell) (h0 : Heap) (n0 : Nat) (v : Option Value) (h : Heap) (L : List Loc) : Prop := ∃ b r : Addr, v = some (.ref b) ∧ Fr n0 L ∧ Keep h0 h [] ∧ Exa Z h b "com/example/deferline/deferline/ledger/AccountPart" ∧ Fld Z h b "com/example/deferline/deferline/ledger/AccountPart" "classYear" "Ljava/lang/Integer;" (.ref r) ∧ Exa Z h r "java/lang/Integer" ∧ Fld Z h r "java/lang/Integer" "value" "I" (.int y)
set_option maxRecDepth 65536 in
set_option maxHeartbeats 40000000 in
theorem rm2 (l : Launch) (Z : State) (a0 : Array Value) (hw : ∀ d ∈ tables_1, d.before a0 Z = true) (ws : List Jvm.Cond) (y : Int32) (ca : Addr) (cl : Cell) (h0 : Heap) (n0 : Nat) (Z0 : n0 ≤ h0.size) (S1 : Sta Z Z.heap "java/lang/Integer$IntegerCache" "high" "I" (.int (127 : Int32))) (S0 : Sta Z Z.heap "java/lang/Integer$IntegerCache" "cache" "[Ljava/lang/Integer;" (.ref ca)) (hB : Bxs Z ca cl "java/lang/Integer" "I" 256 (fun j => .int (j - 128))) (Ol : Old Z n0 h0) :
    MetFree l (⟨"com/example/deferline/deferline/ledger/AccountPart", "deferralsOf", "(I)Lcom/example/deferline/deferline/ledger/AccountPart;"⟩ : MethodName) (head1 (Jvm.Cond.code (⟨"com/example/deferline/deferline/ledger/AccountPart", "deferralsOf", "(I)Lcom/example/deferline/deferline/ledger/AccountPart;"⟩ : MethodName) prog_19_method_2_code 1 (some (.object "com/example/deferline/deferline/ledger/AccountPart")) :: ws) ({ frames := 4, cells := 2, slots := 2, locals := 120 } : Room)) (fun argv U => argv = #[(.int y)] ∧ Z.Warmed39 U.vm ∧ U.heap = h0) (fun _ _ _ _ _ => True) (fun _ U o U' => ∃ v L, o = .returned v ∧ Q_rm2 Z y ca cl h0 n0 v U'.heap L ∧ FrameEnd U o U' L ({ frames := 4, cells := 2, slots := 2, locals := 120 } : Room).cells ({ frames := 4, cells := 2, slots := 2, locals := 120 } : Room).slots) := by
  refine MetFree.of_bodySF (plainFor_of_name pn_2) hisR ?_
  intro p e s m args below meth c s₁ Bd hml0 hP hK
  obtain ⟨rfl, hZ, hh⟩ := hP
  have hx := Bd.exec
  have hby := Bd.bytes
  have hml : c.maxLocals = 1 := hml0
  have hown : s.vm.findClass "com/example/deferline/deferline/ledger/AccountPart" = some m.cls := findClass_of_methodNamed Bd.named
  have hnm := (name_of_methodNamed Bd.named Bd.method).1
  have X0 : Stand p l e ({ frames := 4, cells := 2, slots := 2, locals := 120 } : Room) s m #[(.int y)] below meth c s₁ [] 0 0 := Stand.of_body Bd
  have e0 : s₁.heap = h0 := by rw [← hh, Bd.state]; rfl
  have N0 := Fr.nil n0
  obtain ⟨G, hG⟩ : ∃ G : State → Prop, G = fun t => Steps p.tables e below (s₁.setTop (entryFrame m #[(.int y)] 1)) t := ⟨_, rfl⟩
  have pre0 : ∀ t, Steps p.tables e below (s₁.setTop (mkF m 0 #[.val (.int y)] [])) t → G t := fun t k => by rw [hG]; exact castTop (ef_2_I m y) k
  obtain ⟨T1, h1, X1, e1, E1, A1, D1, -, st1⟩ := newO X0 hx hZ hown (hw _ (List.mem_of_getElem? (i := 12) rfl)) (hw _ (List.mem_of_getElem? (i := 13) rfl)) (hw _ (List.mem_of_getElem? (i := 10) rfl)) e0 (g := (mkF m 0 #[.val (.int y)] [])) rfl (hb hby d2_0) (by decide) (by decide)
  obtain ⟨b, g1⟩ : ∃ z, z = h0.size := ⟨_, rfl⟩
  rw [← g1] at A1 D1 st1
  have O_b : n0 ≤ b := Nat.le_trans Z0 (Nat.le_of_eq g1.symm)
  have Z1 : n0 ≤ h1.size := Nat.le_trans Z0 E1.1
  have S_b : h0.size ≤ b := Nat.le_trans (Keep.refl h0 []).1 (Nat.le_of_eq g1.symm)
  have pre1s : ∀ t, Steps p.tables e below (T1.setTop (mkF m 3 #[.val (.int y)] [(.ref b)])) t → G t := fun t k => pre0 t (st1 t k)
  have Ol2 := Ol.ext E1
  have FclassYear_b : Fld Z h1 b "com/example/deferline/deferline/ledger/AccountPart" "classYear" "Ljava/lang/Integer;" .null := D1 (Or.inr (hw _ (List.mem_of_getElem? (i := 28) rfl))) (ty := (.object "java/lang/Integer")) (by decide)
  have K1 : Keep h0 h1 [] := (Keep.refl h0 []).ext E1
  have pre3 : ∀ t, Steps p.tables e below (T1.setTop (mkF m 5 #[.val (.int y)] [(.int y), (.ref b), (.ref b)])) t → G t := fun t k => pre1s t (by
    show Steps p.tables e below (T1.setTop (mkF m 3 #[.val (.int y)] [(.ref b)])) _
    refine XS.dup X1.here hx rfl (hb hby d2_3) rfl rfl ?_
    show Steps p.tables e below (T1.setTop (mkF m 4 #[.val (.int y)] [(.ref b), (.ref b)])) _
    refine XS.iloadN X1.here hx rfl (hb hby d2_4) rfl ?_
    exact k)
  obtain ⟨_, _, ⟨T4, L4, k4, n4⟩, -, X4, ⟨Lc4, hQ4, l4, y4, z4⟩, st4⟩ := Jvm.LawKit.callS X1 hx (y := (⟨"java/lang/Integer", "valueOf", "(I)Ljava/lang/Integer;"⟩ : MethodName)) hown (mvT hZ (hw _ (List.mem_of_getElem? (i := 14) rfl))) (mvT hZ (hw _ (List.mem_of_getElem? (i := 15) rfl))) (mvT hZ (hw _ (List.mem_of_getElem? (i := 16) rfl))) (mvT hZ (hw _ (List.mem_of_getElem? (i := 17) rfl))) (by decide) (backOf (W := 2) (rm3 l Z a0 hw [] y ca cl h1 n0 Z1 S1 S0 hB Ol2) hZ (hw _ (List.mem_of_getElem? (i := 17) rfl)) (hw _ (List.mem_of_getElem? (i := 16) rfl)) (by decide) (by decide)) (g := (mkF m 5 #[.val (.int y)] [(.int y), (.ref b), (.ref b)])) rfl (by rw [hml]; rfl) (argsL := [(.int y)]) (rest := [(.ref b), (.ref b)]) (lenOf pd_2 rfl) rfl (by show 2 * 0 + _ ≤ _; exact Nat.le_of_eq rfl) (hb hby d2_5) (fun _ _ => ⟨rfl, e1, (Nat.le_of_ble_eq_true rfl), (Nat.le_of_ble_eq_true rfl)⟩)
  dsimp only [Pt.U, Pt.locs, Pt.cells, Pt.slots] at X4 l4 y4 z4 st4 hQ4
  subst l4 y4 z4
  obtain ⟨r, rfl, N4q, K4, Er4, Fr4⟩ := hQ4
  have N4 := Fr.app N0 N4q
  have pre4s : ∀ t, Steps p.tables e below (T4.setTop (mkF m 8 #[.val (.int y)] [(.ref r), (.ref b), (.ref b)])) t → G t := fun t k => pre3 t (st4 t k)
  have Z4 : n0 ≤ T4.heap.size := Nat.le_trans Z1 K4.1
  have A1_5 := A1.keep K4
  have FclassYear_b_6 := FclassYear_b.keep K4 nin0
  have Ol7 := Ol2.keep K4 all0
  have KK4 : Keep h0 T4.heap [] := K1.trans K4 all0
  have ne_r_b : r ≠ b := ne_exa Er4 A1_5 (by decide)
  obtain ⟨_, _, ⟨T8, L8, k8, n8⟩, -, X8, ⟨Lc8, hQ8, l8, y8, z8⟩, st8⟩ := X4.specialBack hx (y := (⟨"com/example/deferline/deferline/ledger/AccountPart", "<init>", "(Ljava/lang/Integer;)V"⟩ : MethodName)) rfl hown (mvT hZ (hw _ (List.mem_of_getElem? (i := 21) rfl))) (mvT hZ (hw _ (List.mem_of_getElem? (i := 22) rfl))) (mvT hZ (hw _ (List.mem_of_getElem? (i := 23) rfl))) (by decide) (backOf (W := 1) (rm4 l Z a0 hw [] b r T4.heap n0 Z4 FclassYear_b_6 A1_5 O_b) hZ (hw _ (List.mem_of_getElem? (i := 23) rfl)) (hw _ (List.mem_of_getElem? (i := 10) rfl)) (by decide) (by decide)) (g := (mkF m 8 #[.val (.int y)] [(.ref r), (.ref b), (.ref b)])) rfl (by rw [hml]; rfl) (Steps.refl _) (a := b) (argsL := [(.ref r)]) (rest := [(.ref b)]) (lenOf pd_3 rfl) rfl (by show 2 * 0 + _ ≤ _; exact Nat.le_of_eq rfl) (hb hby d2_8) (fun _ _ => ⟨rfl, rfl, (Nat.le_of_ble_eq_true rfl), (Nat.le_of_ble_eq_true rfl)⟩)
  dsimp only [Pt.U, Pt.locs, Pt.cells, Pt.slots] at X8 l8 y8 z8 st8 hQ8
  subst l8 y8 z8
  obtain ⟨rfl, N8q, K8, Fc8⟩ := hQ8
  have N8 := Fr.app N4 N8q
  have pre8s : ∀ t, Steps p.tables e below (T8.setTop (mkF m 11 #[.val (.int y)] [(.ref b)])) t → G t := fun t k => pre4s t (st8.trans k)
  have Z8 : n0 ≤ T8.heap.size := Nat.le_trans Z4 K8.1
  have A1_9 := A1_5.keep K8
  have Er4_10 := Er4.keep K8
  have Fr4_11 := Fr4.keep K8 (ninS ne_r_b nin0)
  have Ol12 := Ol7.keep K8 (allS O_b all0)
  have KK8 : Keep h0 T8.heap [] := KK4.trans K8 (allS (Or.inr S_b) all0)
  obtain ⟨fs, hr, hrun, hended, hW, hsame⟩ := X8.leave (v := some (.ref b)) (fun h => by rw [Bd.returns] at h; cases h)
  subst hG
  refine ⟨_, _, pre8s _ ?_, hrun, hended, _, _, rfl, ?_, ⟨_, rfl⟩, hW, hsame.mono (by decide) (by decide)⟩
  · skip
    show Steps p.tables e below (T8.setTop (mkF m 11 #[.val (.int y)] [(.ref b)])) _
    jvm_step X8.here [X8.here.top, hx, (hb hby d2_11), X8.method', Bd.returns, Value.isRef, FieldType.isReference]
    first | (intro acts; rw [hr _ acts rfl rfl rfl]) | rw [hr _ _ rfl rfl rfl]
    exact Steps.refl _
  · show Q_rm2 Z y ca cl h0 n0 _ T8.heap _
    exact ⟨_, r, rfl, N8, KK8, A1_9, Fc8, Er4_10, Fr4_11⟩
theorem pn_7 : plainName "java/lang/Integer" = true := by first | (simp [plainName, overriddenIn]; done) | decide +kernel
theorem ef_7_R (m : MethodId) (x0 : Addr) : entryFrame m #[(.ref x0)] 1 = mkF m 0 #[.val (.ref x0)] [] := by first | (simp [entryFrame, mkF, argsToLocals, Value.category]; done) | rfl
theorem d7_0 : decode jdk_33_method_27_code 0 = .ok (.aload_n 0, 1) := by decide +kernel
theorem d7_1 : decode jdk_33_method_27_code 1 = .ok (.getfield 205, 3) := by decide +kernel
theorem d7_4 : decode jdk_33_method_27_code 4 = .ok (.ireturn, 1) := by decide +kernel
def Q_rm7 (Z : State) (a : Addr) (y : Int32) (h0 : Heap) (n0 : Nat) (v : Option Value) (h : Heap) (L : List Loc) : Prop := v = some (.int y) ∧ Fr n0 L ∧ h = h0
set_option maxRecDepth 65536 in
set_option maxHeartbeats 40000000 in
theorem rm7 (l : Launch) (Z : State) (a0 : Array Value) (hw : ∀ d ∈ tables_1, d.before a0 Z = true) (ws : List Jvm.Cond) (a : Addr) (y : Int32) (h0 : Heap) (n0 : Nat) (Z0 : n0 ≤ h0.size) (F : Fld Z h0 a "java/lang/Integer" "value" "I" (.int y)) :
    MetFree l (⟨"java/lang/Integer", "intValue", "()I"⟩ : MethodName) (head1 (Jvm.Cond.code (⟨"java/lang/Integer", "intValue", "()I"⟩ : MethodName) jdk_33_method_27_code 1 (some .int) :: ws) ({ frames := 0, cells := 0, slots := 0, locals := 0 } : Room)) (fun argv U => argv = #[(.ref a)] ∧ Z.Warmed39 U.vm ∧ U.heap = h0) (fun _ _ _ _ _ => True) (fun _ U o U' => ∃ v L, o = .returned v ∧ Q_rm7 Z a y h0 n0 v U'.heap L ∧ FrameEnd U o U' L ({ frames := 0, cells := 0, slots := 0, locals := 0 } : Room).cells ({ frames := 0, cells := 0, slots := 0, locals := 0 } : Room).slots) := by
  refine MetFree.of_bodySF (plainFor_of_name pn_7) hisR ?_
  intro p e s m args below meth c s₁ Bd hml0 hP hK
  obtain ⟨rfl, hZ, hh⟩ := hP
  have hx := Bd.exec
  have hby := Bd.bytes
  have hml : c.maxLocals = 1 := hml0
  have hown : s.vm.findClass "java/lang/Integer" = some m.cls := findClass_of_methodNamed Bd.named
  have hnm := (name_of_methodNamed Bd.named Bd.method).1
  have X0 : Stand p l e ({ frames := 0, cells := 0, slots := 0, locals := 0 } : Room) s m #[(.ref a)] below meth c s₁ [] 0 0 := Stand.of_body Bd
  have e0 : s₁.heap = h0 := by rw [← hh, Bd.state]; rfl
  have N0 := Fr.nil n0
  obtain ⟨G, hG⟩ : ∃ G : State → Prop, G = fun t => Steps p.tables e below (s₁.setTop (entryFrame m #[(.ref a)] 1)) t := ⟨_, rfl⟩
  have pre0 : ∀ t, Steps p.tables e below (s₁.setTop (mkF m 0 #[.val (.ref a)] [])) t → G t := fun t k => by rw [hG]; exact castTop (ef_7_R m a) k
  have pre1 : ∀ t, Steps p.tables e below (s₁.setTop (mkF m 1 #[.val (.ref a)] [(.ref a)])) t → G t := fun t k => pre0 t (by
    show Steps p.tables e below (s₁.setTop (mkF m 0 #[.val (.ref a)] [])) _
    refine XS.aloadN X0.here hx rfl (hb hby d7_0) rfl rfl ?_
    exact k)
  obtain ⟨T2, X2, e2, st2⟩ := getF X0 hx hZ hown (host := "") (Or.inl (hw _ (List.mem_of_getElem? (i := 39) rfl))) Via.refl e0 F (g := (mkF m 1 #[.val (.ref a)] [(.ref a)])) rfl rfl (hb hby d7_1)
  have pre2s : ∀ t, Steps p.tables e below (T2.setTop (mkF m 4 #[.val (.ref a)] [(.int y)])) t → G t := fun t k => pre1 t (st2 t k)
  obtain ⟨fs, hr, hrun, hended, hW, hsame⟩ := X2.leave (v := some (.int y)) (fun h => by rw [Bd.returns] at h; cases h)
  subst hG
  refine ⟨_, _, pre2s _ ?_, hrun, hended, _, _, rfl, ?_, ⟨_, rfl⟩, hW, hsame.mono (by decide) (by decide)⟩
  · skip
    show Steps p.tables e below (T2.setTop (mkF m 4 #[.val (.ref a)] [(.int y)])) _
    exact retI X2 hx Bd.returns (hb hby d7_4) hr
  · show Q_rm7 Z a y h0 n0 _ T2.heap _
    rw [e2]
    exact ⟨rfl, N0, rfl⟩
theorem pn_8 : plainName "com/example/deferline/deferline/workspace/CreditSource" = true := by first | (simp [plainName, overriddenIn]; done) | decide +kernel
theorem ef_8_R (m : MethodId) (x0 : Addr) : entryFrame m #[(.ref x0)] 1 = mkF m 0 #[.val (.ref x0)] [] := by first | (simp [entryFrame, mkF, argsToLocals, Value.category]; done) | rfl
theorem d8_0 : decode prog_79_method_4_code 0 = .ok (.aload_n 0, 1) := by decide +kernel
theorem d8_1 : decode prog_79_method_4_code 1 = .ok (.getfield 41, 3) := by decide +kernel
theorem d8_4 : decode prog_79_method_4_code 4 = .ok (.ireturn, 1) := by decide +kernel
def Q_rm8 (Z : State) (a : Addr) (y : Int32) (h0 : Heap) (n0 : Nat) (v : Option Value) (h : Heap) (L : List Loc) : Prop := v = some (.int (nar .boolean y)) ∧ Fr n0 L ∧ h = h0
set_option maxRecDepth 65536 in
set_option maxHeartbeats 40000000 in
theorem rm8 (l : Launch) (Z : State) (a0 : Array Value) (hw : ∀ d ∈ tables_1, d.before a0 Z = true) (ws : List Jvm.Cond) (a : Addr) (y : Int32) (h0 : Heap) (n0 : Nat) (Z0 : n0 ≤ h0.size) (F : Fld Z h0 a "com/example/deferline/deferline/workspace/CreditSource" "electiveDeferral" "Z" (.int y)) :
    MetFree l (⟨"com/example/deferline/deferline/workspace/CreditSource", "electiveDeferral", "()Z"⟩ : MethodName) (head1 (Jvm.Cond.code (⟨"com/example/deferline/deferline/workspace/CreditSource", "electiveDeferral", "()Z"⟩ : MethodName) prog_79_method_4_code 1 (some .boolean) :: ws) ({ frames := 0, cells := 0, slots := 0, locals := 0 } : Room)) (fun argv U => argv = #[(.ref a)] ∧ Z.Warmed39 U.vm ∧ U.heap = h0) (fun _ _ _ _ _ => True) (fun _ U o U' => ∃ v L, o = .returned v ∧ Q_rm8 Z a y h0 n0 v U'.heap L ∧ FrameEnd U o U' L ({ frames := 0, cells := 0, slots := 0, locals := 0 } : Room).cells ({ frames := 0, cells := 0, slots := 0, locals := 0 } : Room).slots) := by
  refine MetFree.of_bodySF (plainFor_of_name pn_8) hisR ?_
  intro p e s m args below meth c s₁ Bd hml0 hP hK
  obtain ⟨rfl, hZ, hh⟩ := hP
  have hx := Bd.exec
  have hby := Bd.bytes
  have hml : c.maxLocals = 1 := hml0
  have hown : s.vm.findClass "com/example/deferline/deferline/workspace/CreditSource" = some m.cls := findClass_of_methodNamed Bd.named
  have hnm := (name_of_methodNamed Bd.named Bd.method).1
  have X0 : Stand p l e ({ frames := 0, cells := 0, slots := 0, locals := 0 } : Room) s m #[(.ref a)] below meth c s₁ [] 0 0 := Stand.of_body Bd
  have e0 : s₁.heap = h0 := by rw [← hh, Bd.state]; rfl
  have N0 := Fr.nil n0
  obtain ⟨G, hG⟩ : ∃ G : State → Prop, G = fun t => Steps p.tables e below (s₁.setTop (entryFrame m #[(.ref a)] 1)) t := ⟨_, rfl⟩
  have pre0 : ∀ t, Steps p.tables e below (s₁.setTop (mkF m 0 #[.val (.ref a)] [])) t → G t := fun t k => by rw [hG]; exact castTop (ef_8_R m a) k
  have pre1 : ∀ t, Steps p.tables e below (s₁.setTop (mkF m 1 #[.val (.ref a)] [(.ref a)])) t → G t := fun t k => pre0 t (by
    show Steps p.tables e below (s₁.setTop (mkF m 0 #[.val (.ref a)] [])) _
    refine XS.aloadN X0.here hx rfl (hb hby d8_0) rfl rfl ?_
    exact k)
  obtain ⟨T2, X2, e2, st2⟩ := getF X0 hx hZ hown (host := "") (Or.inl (hw _ (List.mem_of_getElem? (i := 46) rfl))) Via.refl e0 F (g := (mkF m 1 #[.val (.ref a)] [(.ref a)])) rfl rfl (hb hby d8_1)
  have pre2s : ∀ t, Steps p.tables e below (T2.setTop (mkF m 4 #[.val (.ref a)] [(.int y)])) t → G t := fun t k => pre1 t (st2 t k)
  obtain ⟨fs, hr, hrun, hended, hW, hsame⟩ := X2.leave (v := some (.int (nar .boolean y))) (fun h => by rw [Bd.returns] at h; cases h)
  subst hG
  refine ⟨_, _, pre2s _ ?_, hrun, hended, _, _, rfl, ?_, ⟨_, rfl⟩, hW, hsame.mono (by decide) (by decide)⟩
  · skip
    show Steps p.tables e below (T2.setTop (mkF m 4 #[.val (.ref a)] [(.int y)])) _
    exact retN X2 hx (t := .boolean) Bd.returns (by simp) (hb hby d8_4) hr
  · show Q_rm8 Z a y h0 n0 _ T2.heap _
    rw [e2]
    exact ⟨rfl, N0, rfl⟩
theorem pn_6 : plainName "com/example/deferline/deferline/ledger/AccountPart" = true := by first | (simp [plainName, overriddenIn]; done) | decide +kernel
theorem ef_6_R_I_R (m : MethodId) (x0 : Addr) (x1 : Int32) (x2 : Addr) : entryFrame m #[(.ref x0), (.int x1), (.ref x2)] 3 = mkF m 0 #[.val (.ref x0), .val (.int x1), .val (.ref x2)] [] := by first | (simp [entryFrame, mkF, argsToLocals, Value.category]; done) | rfl
theorem pd_4 : parseMethodDescriptor "()I" = some ⟨[], some .int⟩ := by decide +kernel
theorem pd_5 : parseMethodDescriptor "()Z" = some ⟨[], some .boolean⟩ := by decide +kernel
theorem d6_0 : decode prog_19_method_3_code 0 = .ok (.aload_n 0, 1) := by decide +kernel
theorem d6_1 : decode prog_19_method_3_code 1 = .ok (.getfield 7, 3) := by decide +kernel
theorem d6_4 : decode prog_19_method_3_code 4 = .ok (.ifnull 21, 3) := by decide +kernel
theorem d6_7 : decode prog_19_method_3_code 7 = .ok (.aload_n 0, 1) := by decide +kernel
theorem d6_8 : decode prog_19_method_3_code 8 = .ok (.getfield 7, 3) := by decide +kernel
theorem d6_11 : decode prog_19_method_3_code 11 = .ok (.invokevirtual 22, 3) := by decide +kernel
theorem d6_14 : decode prog_19_method_3_code 14 = .ok (.iload_n 1, 1) := by decide +kernel
theorem d6_15 : decode prog_19_method_3_code 15 = .ok (.if_icmp .ne 14, 3) := by decide +kernel
theorem d6_18 : decode prog_19_method_3_code 18 = .ok (.aload_n 2, 1) := by decide +kernel
theorem d6_19 : decode prog_19_method_3_code 19 = .ok (.invokevirtual 26, 3) := by decide +kernel
theorem d6_22 : decode prog_19_method_3_code 22 = .ok (.ifCond .eq 7, 3) := by decide +kernel
theorem d6_25 : decode prog_19_method_3_code 25 = .ok (.iconst 1, 1) := by decide +kernel
theorem d6_26 : decode prog_19_method_3_code 26 = .ok (.goto 4, 3) := by decide +kernel
theorem d6_29 : decode prog_19_method_3_code 29 = .ok (.iconst 0, 1) := by decide +kernel
theorem d6_30 : decode prog_19_method_3_code 30 = .ok (.ireturn, 1) := by decide +kernel
def Q_rm6 (Z : State) (a : Addr) (z : Int32) (u r : Addr) (y el : Int32) (h0 : Heap) (n0 : Nat) (v : Option Value) (h : Heap) (L : List Loc) : Prop := v = some (.int (own_holds y z el)) ∧ Fr n0 L ∧ h = h0
set_option maxRecDepth 65536 in
set_option maxHeartbeats 40000000 in
theorem rm6 (l : Launch) (Z : State) (a0 : Array Value) (hw : ∀ d ∈ tables_1, d.before a0 Z = true) (ws : List Jvm.Cond) (a : Addr) (z : Int32) (u r : Addr) (y el : Int32) (h0 : Heap) (n0 : Nat) (Z0 : n0 ≤ h0.size) (F_c : Fld Z h0 a "com/example/deferline/deferline/ledger/AccountPart" "classYear" "Ljava/lang/Integer;" (.ref r)) (E_r : Exa Z h0 r "java/lang/Integer") (F_v : Fld Z h0 r "java/lang/Integer" "value" "I" (.int y)) (E_u : Exa Z h0 u "com/example/deferline/deferline/workspace/CreditSource") (F_e : Fld Z h0 u "com/example/deferline/deferline/workspace/CreditSource" "electiveDeferral" "Z" (.int el)) (hel : nar .boolean el = el) :
    MetFree l (⟨"com/example/deferline/deferline/ledger/AccountPart", "holds", "(ILcom/example/deferline/deferline/workspace/CreditSource;)Z"⟩ : MethodName) (head1 (Jvm.Cond.code (⟨"com/example/deferline/deferline/ledger/AccountPart", "holds", "(ILcom/example/deferline/deferline/workspace/CreditSource;)Z"⟩ : MethodName) prog_19_method_3_code 3 (some .boolean) :: ws) ({ frames := 1, cells := 0, slots := 0, locals := 40 } : Room)) (fun argv U => argv = #[(.ref a), (.int z), (.ref u)] ∧ Z.Warmed39 U.vm ∧ U.heap = h0) (fun _ _ _ _ _ => True) (fun _ U o U' => ∃ v L, o = .returned v ∧ Q_rm6 Z a z u r y el h0 n0 v U'.heap L ∧ FrameEnd U o U' L ({ frames := 1, cells := 0, slots := 0, locals := 40 } : Room).cells ({ frames := 1, cells := 0, slots := 0, locals := 40 } : Room).slots) := by
  refine MetFree.of_bodySF (plainFor_of_name pn_6) hisR ?_
  intro p e s m args below meth c s₁ Bd hml0 hP hK
  obtain ⟨rfl, hZ, hh⟩ := hP
  have hx := Bd.exec
  have hby := Bd.bytes
  have hml : c.maxLocals = 3 := hml0
  have hown : s.vm.findClass "com/example/deferline/deferline/ledger/AccountPart" = some m.cls := findClass_of_methodNamed Bd.named
  have hnm := (name_of_methodNamed Bd.named Bd.method).1
  have X0 : Stand p l e ({ frames := 1, cells := 0, slots := 0, locals := 40 } : Room) s m #[(.ref a), (.int z), (.ref u)] below meth c s₁ [] 0 0 := Stand.of_body Bd
  have e0 : s₁.heap = h0 := by rw [← hh, Bd.state]; rfl
  have N0 := Fr.nil n0
  obtain ⟨G, hG⟩ : ∃ G : State → Prop, G = fun t => Steps p.tables e below (s₁.setTop (entryFrame m #[(.ref a), (.int z), (.ref u)] 3)) t := ⟨_, rfl⟩
  have pre0 : ∀ t, Steps p.tables e below (s₁.setTop (mkF m 0 #[.val (.ref a), .val (.int z), .val (.ref u)] [])) t → G t := fun t k => by rw [hG]; exact castTop (ef_6_R_I_R m a z u) k
  have pre1 : ∀ t, Steps p.tables e below (s₁.setTop (mkF m 1 #[.val (.ref a), .val (.int z), .val (.ref u)] [(.ref a)])) t → G t := fun t k => pre0 t (by
    show Steps p.tables e below (s₁.setTop (mkF m 0 #[.val (.ref a), .val (.int z), .val (.ref u)] [])) _
    refine XS.aloadN X0.here hx rfl (hb hby d6_0) rfl rfl ?_
    exact k)
  obtain ⟨T2, X2, e2, st2⟩ := getF X0 hx hZ hown (host := "") (Or.inl (hw _ (List.mem_of_getElem? (i := 27) rfl))) Via.refl e0 F_c (g := (mkF m 1 #[.val (.ref a), .val (.int z), .val (.ref u)] [(.ref a)])) rfl rfl (hb hby d6_1)
  have pre2s : ∀ t, Steps p.tables e below (T2.setTop (mkF m 4 #[.val (.ref a), .val (.int z), .val (.ref u)] [(.ref r)])) t → G t := fun t k => pre1 t (st2 t k)
  have pre3 : ∀ t, Steps p.tables e below (T2.setTop (mkF m 8 #[.val (.ref a), .val (.int z), .val (.ref u)] [(.ref a)])) t → G t := fun t k => pre2s t (by
    show Steps p.tables e below (T2.setTop (mkF m 4 #[.val (.ref a), .val (.int z), .val (.ref u)] [(.ref r)])) _
    refine XS.ifnullNo X2.here hx rfl (hb hby d6_4) rfl ?_
    show Steps p.tables e below (T2.setTop (mkF m 7 #[.val (.ref a), .val (.int z), .val (.ref u)] [])) _
    refine XS.aloadN X2.here hx rfl (hb hby d6_7) rfl rfl ?_
    exact k)
  obtain ⟨T4, X4, e4, st4⟩ := getF X2 hx hZ hown (host := "") (Or.inl (hw _ (List.mem_of_getElem? (i := 27) rfl))) Via.refl e2 F_c (g := (mkF m 8 #[.val (.ref a), .val (.int z), .val (.ref u)] [(.ref a)])) rfl rfl (hb hby d6_8)
  have pre4s : ∀ t, Steps p.tables e below (T4.setTop (mkF m 11 #[.val (.ref a), .val (.int z), .val (.ref u)] [(.ref r)])) t → G t := fun t k => pre3 t (st4 t k)
  obtain ⟨cq5, kq5, q5a, q5b, q5c⟩ := isOf hZ e4 E_r
  obtain ⟨_, _, ⟨T5, L5, k5, n5⟩, -, X5, ⟨Lc5, hQ5, l5, y5, z5⟩, st5⟩ := X4.virtualBack hx (y := (⟨"java/lang/Integer", "intValue", "()I"⟩ : MethodName)) (z := (⟨"java/lang/Integer", "intValue", "()I"⟩ : MethodName)) hown (mvT hZ (hw _ (List.mem_of_getElem? (i := 34) rfl))) (mvT hZ (hw _ (List.mem_of_getElem? (i := 35) rfl))) (notFace_of_selects (args := #[]) (mvT hZ (hw _ (List.mem_of_getElem? (i := 37) rfl)))) (mvT hZ (hw _ (List.mem_of_getElem? (i := 37) rfl))) (mvT hZ (hw _ (List.mem_of_getElem? (i := 36) rfl))) (by decide) (backOf (W := 0) (rm7 l Z a0 hw [] r y h0 n0 Z0 F_v) hZ (hw _ (List.mem_of_getElem? (i := 38) rfl)) (hw _ (List.mem_of_getElem? (i := 16) rfl)) (by decide) (by decide)) q5a q5c (g := (mkF m 11 #[.val (.ref a), .val (.int z), .val (.ref u)] [(.ref r)])) rfl (by rw [hml]; rfl) (Steps.refl _) (argsL := []) (rest := []) (lenOf pd_4 rfl) rfl (by show 2 * 0 + _ ≤ _; exact Nat.le_of_eq rfl) (hb hby d6_11) (fun _ _ => ⟨rfl, e4, (Nat.le_of_ble_eq_true rfl), (Nat.le_of_ble_eq_true rfl)⟩)
  dsimp only [Pt.U, Pt.locs, Pt.cells, Pt.slots] at X5 l5 y5 z5 st5 hQ5
  subst l5 y5 z5
  obtain ⟨rfl, N5q, e5⟩ := hQ5
  have N5 := Fr.app N0 N5q
  have pre5s : ∀ t, Steps p.tables e below (T5.setTop (mkF m 14 #[.val (.ref a), .val (.int z), .val (.ref u)] [(.int y)])) t → G t := fun t k => pre4s t (st5.trans k)
  have pre6 : ∀ t, Steps p.tables e below (T5.setTop (mkF m 15 #[.val (.ref a), .val (.int z), .val (.ref u)] [(.int z), (.int y)])) t → G t := fun t k => pre5s t (by
    show Steps p.tables e below (T5.setTop (mkF m 14 #[.val (.ref a), .val (.int z), .val (.ref u)] [(.int y)])) _
    refine XS.iloadN X5.here hx rfl (hb hby d6_14) rfl ?_
    exact k)
  by_cases c15 : y = z
  · -- c15
    have pre7 : ∀ t, Steps p.tables e below (T5.setTop (mkF m 19 #[.val (.ref a), .val (.int z), .val (.ref u)] [(.ref u)])) t → G t := fun t k => pre6 t (by
      show Steps p.tables e below (T5.setTop (mkF m 15 #[.val (.ref a), .val (.int z), .val (.ref u)] [(.int z), (.int y)])) _
      refine XS.icmpNo X5.here hx rfl (hb hby d6_15) rfl (teq c15).2 ?_
      show Steps p.tables e below (T5.setTop (mkF m 18 #[.val (.ref a), .val (.int z), .val (.ref u)] [])) _
      refine XS.aloadN X5.here hx rfl (hb hby d6_18) rfl rfl ?_
      exact k)
    obtain ⟨cq8, kq8, q8a, q8b, q8c⟩ := isOf hZ e5 E_u
    obtain ⟨_, _, ⟨T8, L8, k8, n8⟩, -, X8, ⟨Lc8, hQ8, l8, y8, z8⟩, st8⟩ := X5.virtualBack hx (y := (⟨"com/example/deferline/deferline/workspace/CreditSource", "electiveDeferral", "()Z"⟩ : MethodName)) (z := (⟨"com/example/deferline/deferline/workspace/CreditSource", "electiveDeferral", "()Z"⟩ : MethodName)) hown (mvT hZ (hw _ (List.mem_of_getElem? (i := 41) rfl))) (mvT hZ (hw _ (List.mem_of_getElem? (i := 42) rfl))) (notFace_of_selects (args := #[]) (mvT hZ (hw _ (List.mem_of_getElem? (i := 44) rfl)))) (mvT hZ (hw _ (List.mem_of_getElem? (i := 44) rfl))) (mvT hZ (hw _ (List.mem_of_getElem? (i := 43) rfl))) (by decide) (backOf (W := 0) (rm8 l Z a0 hw [] u el h0 n0 Z0 F_e) hZ (hw _ (List.mem_of_getElem? (i := 45) rfl)) (hw _ (List.mem_of_getElem? (i := 6) rfl)) (by decide) (by decide)) q8a q8c (g := (mkF m 19 #[.val (.ref a), .val (.int z), .val (.ref u)] [(.ref u)])) rfl (by rw [hml]; rfl) (Steps.refl _) (argsL := []) (rest := []) (lenOf pd_5 rfl) rfl (by show 2 * 0 + _ ≤ _; exact Nat.le_of_eq rfl) (hb hby d6_19) (fun _ _ => ⟨rfl, e5, (Nat.le_of_ble_eq_true rfl), (Nat.le_of_ble_eq_true rfl)⟩)
    dsimp only [Pt.U, Pt.locs, Pt.cells, Pt.slots] at X8 l8 y8 z8 st8 hQ8
    subst l8 y8 z8
    obtain ⟨hv8, N8q, e8⟩ := hQ8
    rw [hel] at hv8
    subst hv8
    have N8 := Fr.app N5 N8q
    have pre8s : ∀ t, Steps p.tables e below (T8.setTop (mkF m 22 #[.val (.ref a), .val (.int z), .val (.ref u)] [(.int el)])) t → G t := fun t k => pre7 t (st8.trans k)
    by_cases c22 : el = (0 : Int32)
    · -- c22
      obtain ⟨fs, hr, hrun, hended, hW, hsame⟩ := X8.leave (v := some (.int (0 : Int32))) (fun h => by rw [Bd.returns] at h; cases h)
      subst hG
      refine ⟨_, _, pre8s _ ?_, hrun, hended, _, _, rfl, ?_, ⟨_, rfl⟩, hW, hsame.mono (by decide) (by decide)⟩
      · skip
        show Steps p.tables e below (T8.setTop (mkF m 22 #[.val (.ref a), .val (.int z), .val (.ref u)] [(.int el)])) _
        refine XS.ifYes X8.here hx rfl (pc0 := 22) (pc' := 29) rfl (hb hby d6_22) rfl ((if0 _ _).trans (teq c22).1) (by decide) (by decide) ?_
        show Steps p.tables e below (T8.setTop (mkF m 29 #[.val (.ref a), .val (.int z), .val (.ref u)] [])) _
        refine XS.iconst X8.here hx rfl (hb hby d6_29) ?_
        show Steps p.tables e below (T8.setTop (mkF m 30 #[.val (.ref a), .val (.int z), .val (.ref u)] [(.int (0 : Int32))])) _
        exact retN X8 hx (t := .boolean) Bd.returns (by simp) (hb hby d6_30) hr
      · show Q_rm6 Z a z u r y el h0 n0 _ T8.heap _
        rw [e8]
        exact ⟨by simp only [own_holds, if_pos c15, if_pos c22], N8, rfl⟩
    · -- not c22
      obtain ⟨fs, hr, hrun, hended, hW, hsame⟩ := X8.leave (v := some (.int (1 : Int32))) (fun h => by rw [Bd.returns] at h; cases h)
      subst hG
      refine ⟨_, _, pre8s _ ?_, hrun, hended, _, _, rfl, ?_, ⟨_, rfl⟩, hW, hsame.mono (by decide) (by decide)⟩
      · skip
        show Steps p.tables e below (T8.setTop (mkF m 22 #[.val (.ref a), .val (.int z), .val (.ref u)] [(.int el)])) _
        refine XS.ifNo X8.here hx rfl (hb hby d6_22) rfl ((if0 _ _).trans (feq c22).1) ?_
        show Steps p.tables e below (T8.setTop (mkF m 25 #[.val (.ref a), .val (.int z), .val (.ref u)] [])) _
        refine XS.iconst X8.here hx rfl (hb hby d6_25) ?_
        show Steps p.tables e below (T8.setTop (mkF m 26 #[.val (.ref a), .val (.int z), .val (.ref u)] [(.int (1 : Int32))])) _
        refine XS.goto X8.here hx rfl (pc0 := 26) (pc' := 30) rfl (hb hby d6_26) (by decide) (by decide) ?_
        show Steps p.tables e below (T8.setTop (mkF m 30 #[.val (.ref a), .val (.int z), .val (.ref u)] [(.int (1 : Int32))])) _
        exact retN X8 hx (t := .boolean) Bd.returns (by simp) (hb hby d6_30) hr
      · show Q_rm6 Z a z u r y el h0 n0 _ T8.heap _
        rw [e8]
        exact ⟨by simp only [own_holds, if_pos c15, if_neg c22], N8, rfl⟩
  · -- not c15
    obtain ⟨fs, hr, hrun, hended, hW, hsame⟩ := X5.leave (v := some (.int (0 : Int32))) (fun h => by rw [Bd.returns] at h; cases h)
    subst hG
    refine ⟨_, _, pre6 _ ?_, hrun, hended, _, _, rfl, ?_, ⟨_, rfl⟩, hW, hsame.mono (by decide) (by decide)⟩
    · skip
      show Steps p.tables e below (T5.setTop (mkF m 15 #[.val (.ref a), .val (.int z), .val (.ref u)] [(.int z), (.int y)])) _
      refine XS.icmpYes X5.here hx rfl (pc0 := 15) (pc' := 29) rfl (hb hby d6_15) rfl (feq c15).2 (by decide) (by decide) ?_
      show Steps p.tables e below (T5.setTop (mkF m 29 #[.val (.ref a), .val (.int z), .val (.ref u)] [])) _
      refine XS.iconst X5.here hx rfl (hb hby d6_29) ?_
      show Steps p.tables e below (T5.setTop (mkF m 30 #[.val (.ref a), .val (.int z), .val (.ref u)] [(.int (0 : Int32))])) _
      exact retN X5 hx (t := .boolean) Bd.returns (by simp) (hb hby d6_30) hr
    · show Q_rm6 Z a z u r y el h0 n0 _ T5.heap _
      rw [e5]
      exact ⟨by simp only [own_holds, if_neg c15], N5, rfl⟩
theorem pn_1 : plainName "com/example/deferline/deferline/ledger/AccountPartDeferralsOfPinLaw" = true := by first | (simp [plainName, overriddenIn]; done) | decide +kernel
theorem ef_1_I (m : MethodId) (x0 : Int32) : entryFrame m #[(.int x0)] 1 = mkF m 0 #[.val (.int x0)] [] := by first | (simp [entryFrame, mkF, argsToLocals, Value.category]; done) | rfl
theorem d1_0 : decode method_2_code 0 = .ok (.iload_n 0, 1) := by decide +kernel
theorem d1_1 : decode method_2_code 1 = .ok (.ifCond .ne 7, 3) := by decide +kernel
theorem d1_4 : decode method_2_code 4 = .ok (.getstatic 7, 3) := by decide +kernel
theorem d1_7 : decode method_2_code 7 = .ok (.areturn, 1) := by decide +kernel
theorem d1_8 : decode method_2_code 8 = .ok (.iload_n 0, 1) := by decide +kernel
theorem d1_9 : decode method_2_code 9 = .ok (.iconst 1, 1) := by decide +kernel
theorem d1_10 : decode method_2_code 10 = .ok (.if_icmp .ne 7, 3) := by decide +kernel
theorem d1_13 : decode method_2_code 13 = .ok (.getstatic 13, 3) := by decide +kernel
theorem d1_16 : decode method_2_code 16 = .ok (.areturn, 1) := by decide +kernel
theorem d1_17 : decode method_2_code 17 = .ok (.iload_n 0, 1) := by decide +kernel
theorem d1_18 : decode method_2_code 18 = .ok (.iconst 2, 1) := by decide +kernel
theorem d1_19 : decode method_2_code 19 = .ok (.if_icmp .ne 7, 3) := by decide +kernel
theorem d1_22 : decode method_2_code 22 = .ok (.getstatic 16, 3) := by decide +kernel
theorem d1_25 : decode method_2_code 25 = .ok (.areturn, 1) := by decide +kernel
theorem d1_26 : decode method_2_code 26 = .ok (.iload_n 0, 1) := by decide +kernel
theorem d1_27 : decode method_2_code 27 = .ok (.iconst 3, 1) := by decide +kernel
theorem d1_28 : decode method_2_code 28 = .ok (.if_icmp .ne 7, 3) := by decide +kernel
theorem d1_31 : decode method_2_code 31 = .ok (.getstatic 19, 3) := by decide +kernel
theorem d1_34 : decode method_2_code 34 = .ok (.areturn, 1) := by decide +kernel
theorem d1_35 : decode method_2_code 35 = .ok (.iload_n 0, 1) := by decide +kernel
theorem d1_36 : decode method_2_code 36 = .ok (.iconst 4, 1) := by decide +kernel
theorem d1_37 : decode method_2_code 37 = .ok (.if_icmp .ne 7, 3) := by decide +kernel
theorem d1_40 : decode method_2_code 40 = .ok (.getstatic 22, 3) := by decide +kernel
theorem d1_43 : decode method_2_code 43 = .ok (.areturn, 1) := by decide +kernel
theorem d1_44 : decode method_2_code 44 = .ok (.getstatic 25, 3) := by decide +kernel
theorem d1_47 : decode method_2_code 47 = .ok (.areturn, 1) := by decide +kernel
def Q_rm1 (Z : State) (i : Int32) (s_SALARY s_BONUS s_PERFORMANCE_BONUS s_COMMISSIONS s_DIRECTOR_FEES s_EMPLOYER : Addr) (h0 : Heap) (n0 : Nat) (v : Option Value) (h : Heap) (L : List Loc) : Prop := ∃ r : Addr, v = some (.ref r) ∧ Fr n0 L ∧ h = h0 ∧ Exa Z h0 r "com/example/deferline/deferline/workspace/CreditSource" ∧ Fld Z h0 r "com/example/deferline/deferline/workspace/CreditSource" "electiveDeferral" "Z" (.int (if i = (5 : Int32) then (0 : Int32) else (1 : Int32)))
set_option maxRecDepth 65536 in
set_option maxHeartbeats 40000000 in
theorem rm1 (l : Launch) (Z : State) (a0 : Array Value) (hw : ∀ d ∈ tables_1, d.before a0 Z = true) (ws : List Jvm.Cond) (i : Int32) (s_SALARY s_BONUS s_PERFORMANCE_BONUS s_COMMISSIONS s_DIRECTOR_FEES s_EMPLOYER : Addr) (h0 : Heap) (n0 : Nat) (Z0 : n0 ≤ h0.size) (hi : 0 ≤ i.toInt ∧ i.toInt < 6) (S_SALARY : Sta Z h0 "com/example/deferline/deferline/workspace/CreditSource" "SALARY" "Lcom/example/deferline/deferline/workspace/CreditSource;" (.ref s_SALARY)) (E_SALARY : Exa Z h0 s_SALARY "com/example/deferline/deferline/workspace/CreditSource") (D_SALARY : Fld Z h0 s_SALARY "com/example/deferline/deferline/workspace/CreditSource" "electiveDeferral" "Z" (.int 1)) (S_BONUS : Sta Z h0 "com/example/deferline/deferline/workspace/CreditSource" "BONUS" "Lcom/example/deferline/deferline/workspace/CreditSource;" (.ref s_BONUS)) (E_BONUS : Exa Z h0 s_BONUS "com/example/deferline/deferline/workspace/CreditSource") (D_BONUS : Fld Z h0 s_BONUS "com/example/deferline/deferline/workspace/CreditSource" "electiveDeferral" "Z" (.int 1)) (S_PERFORMANCE_BONUS : Sta Z h0 "com/example/deferline/deferline/workspace/CreditSource" "PERFORMANCE_BONUS" "Lcom/example/deferline/deferline/workspace/CreditSource;" (.ref s_PERFORMANCE_BONUS)) (E_PERFORMANCE_BONUS : Exa Z h0 s_PERFORMANCE_BONUS "com/example/deferline/deferline/workspace/CreditSource") (D_PERFORMANCE_BONUS : Fld Z h0 s_PERFORMANCE_BONUS "com/example/deferline/deferline/workspace/CreditSource" "electiveDeferral" "Z" (.int 1)) (S_COMMISSIONS : Sta Z h0 "com/example/deferline/deferline/workspace/CreditSource" "COMMISSIONS" "Lcom/example/deferline/deferline/workspace/CreditSource;" (.ref s_COMMISSIONS)) (E_COMMISSIONS : Exa Z h0 s_COMMISSIONS "com/example/deferline/deferline/workspace/CreditSource") (D_COMMISSIONS : Fld Z h0 s_COMMISSIONS "com/example/deferline/deferline/workspace/CreditSource" "electiveDeferral" "Z" (.int 1)) (S_DIRECTOR_FEES : Sta Z h0 "com/example/deferline/deferline/workspace/CreditSource" "DIRECTOR_FEES" "Lcom/example/deferline/deferline/workspace/CreditSource;" (.ref s_DIRECTOR_FEES)) (E_DIRECTOR_FEES : Exa Z h0 s_DIRECTOR_FEES "com/example/deferline/deferline/workspace/CreditSource") (D_DIRECTOR_FEES : Fld Z h0 s_DIRECTOR_FEES "com/example/deferline/deferline/workspace/CreditSource" "electiveDeferral" "Z" (.int 1)) (S_EMPLOYER : Sta Z h0 "com/example/deferline/deferline/workspace/CreditSource" "EMPLOYER" "Lcom/example/deferline/deferline/workspace/CreditSource;" (.ref s_EMPLOYER)) (E_EMPLOYER : Exa Z h0 s_EMPLOYER "com/example/deferline/deferline/workspace/CreditSource") (D_EMPLOYER : Fld Z h0 s_EMPLOYER "com/example/deferline/deferline/workspace/CreditSource" "electiveDeferral" "Z" (.int 0)) :
    MetFree l (⟨"com/example/deferline/deferline/ledger/AccountPartDeferralsOfPinLaw", "source", "(I)Lcom/example/deferline/deferline/workspace/CreditSource;"⟩ : MethodName) (head1 (Jvm.Cond.code (⟨"com/example/deferline/deferline/ledger/AccountPartDeferralsOfPinLaw", "source", "(I)Lcom/example/deferline/deferline/workspace/CreditSource;"⟩ : MethodName) method_2_code 1 (some (.object "com/example/deferline/deferline/workspace/CreditSource")) :: ws) ({ frames := 0, cells := 0, slots := 0, locals := 0 } : Room)) (fun argv U => argv = #[(.int i)] ∧ Z.Warmed39 U.vm ∧ U.heap = h0) (fun _ _ _ _ _ => True) (fun _ U o U' => ∃ v L, o = .returned v ∧ Q_rm1 Z i s_SALARY s_BONUS s_PERFORMANCE_BONUS s_COMMISSIONS s_DIRECTOR_FEES s_EMPLOYER h0 n0 v U'.heap L ∧ FrameEnd U o U' L ({ frames := 0, cells := 0, slots := 0, locals := 0 } : Room).cells ({ frames := 0, cells := 0, slots := 0, locals := 0 } : Room).slots) := by
  refine MetFree.of_bodySF (plainFor_of_name pn_1) hisR ?_
  intro p e s m args below meth c s₁ Bd hml0 hP hK
  obtain ⟨rfl, hZ, hh⟩ := hP
  have hx := Bd.exec
  have hby := Bd.bytes
  have hml : c.maxLocals = 1 := hml0
  have hown : s.vm.findClass "com/example/deferline/deferline/ledger/AccountPartDeferralsOfPinLaw" = some m.cls := findClass_of_methodNamed Bd.named
  have hnm := (name_of_methodNamed Bd.named Bd.method).1
  have X0 : Stand p l e ({ frames := 0, cells := 0, slots := 0, locals := 0 } : Room) s m #[(.int i)] below meth c s₁ [] 0 0 := Stand.of_body Bd
  have e0 : s₁.heap = h0 := by rw [← hh, Bd.state]; rfl
  have N0 := Fr.nil n0
  obtain ⟨G, hG⟩ : ∃ G : State → Prop, G = fun t => Steps p.tables e below (s₁.setTop (entryFrame m #[(.int i)] 1)) t := ⟨_, rfl⟩
  have pre0 : ∀ t, Steps p.tables e below (s₁.setTop (mkF m 0 #[.val (.int i)] [])) t → G t := fun t k => by rw [hG]; exact castTop (ef_1_I m i) k
  have pre1 : ∀ t, Steps p.tables e below (s₁.setTop (mkF m 1 #[.val (.int i)] [(.int i)])) t → G t := fun t k => pre0 t (by
    show Steps p.tables e below (s₁.setTop (mkF m 0 #[.val (.int i)] [])) _
    refine XS.iloadN X0.here hx rfl (hb hby d1_0) rfl ?_
    exact k)
  by_cases ci0 : i = (0 : Int32)
  · -- ci0
    have pre2 : ∀ t, Steps p.tables e below (s₁.setTop (mkF m 4 #[.val (.int i)] [])) t → G t := fun t k => pre1 t (by
      show Steps p.tables e below (s₁.setTop (mkF m 1 #[.val (.int i)] [(.int i)])) _
      refine XS.ifNo X0.here hx rfl (hb hby d1_1) rfl ((if0 _ _).trans (teq ci0).2) ?_
      exact k)
    obtain ⟨T3, X3, e3, st3⟩ := getS2 X0 hx hZ hown (host := "") (Or.inl (hw _ (List.mem_of_getElem? (i := 67) rfl))) Via.refl e0 S_SALARY (g := (mkF m 4 #[.val (.int i)] [])) rfl (hb hby d1_4)
    have pre3s : ∀ t, Steps p.tables e below (T3.setTop (mkF m 7 #[.val (.int i)] [(.ref s_SALARY)])) t → G t := fun t k => pre2 t (st3 t k)
    obtain ⟨fs, hr, hrun, hended, hW, hsame⟩ := X3.leave (v := some (.ref s_SALARY)) (fun h => by rw [Bd.returns] at h; cases h)
    subst hG
    refine ⟨_, _, pre3s _ ?_, hrun, hended, _, _, rfl, ?_, ⟨_, rfl⟩, hW, hsame.mono (by decide) (by decide)⟩
    · skip
      show Steps p.tables e below (T3.setTop (mkF m 7 #[.val (.int i)] [(.ref s_SALARY)])) _
      jvm_step X3.here [X3.here.top, hx, (hb hby d1_7), X3.method', Bd.returns, Value.isRef, FieldType.isReference]
      first | (intro acts; rw [hr _ acts rfl rfl rfl]) | rw [hr _ _ rfl rfl rfl]
      exact Steps.refl _
    · show Q_rm1 Z i s_SALARY s_BONUS s_PERFORMANCE_BONUS s_COMMISSIONS s_DIRECTOR_FEES s_EMPLOYER h0 n0 _ T3.heap _
      rw [e3]
      exact ⟨_, rfl, N0, rfl, E_SALARY, by rw [if_neg (by rw [ci0]; decide)]; exact D_SALARY⟩
  · -- not ci0
    have pre4 : ∀ t, Steps p.tables e below (s₁.setTop (mkF m 10 #[.val (.int i)] [(.int (1 : Int32)), (.int i)])) t → G t := fun t k => pre1 t (by
      show Steps p.tables e below (s₁.setTop (mkF m 1 #[.val (.int i)] [(.int i)])) _
      refine XS.ifYes X0.here hx rfl (pc0 := 1) (pc' := 8) rfl (hb hby d1_1) rfl ((if0 _ _).trans (feq ci0).2) (by decide) (by decide) ?_
      show Steps p.tables e below (s₁.setTop (mkF m 8 #[.val (.int i)] [])) _
      refine XS.iloadN X0.here hx rfl (hb hby d1_8) rfl ?_
      show Steps p.tables e below (s₁.setTop (mkF m 9 #[.val (.int i)] [(.int i)])) _
      refine XS.iconst X0.here hx rfl (hb hby d1_9) ?_
      exact k)
    by_cases ci1 : i = (1 : Int32)
    · -- ci1
      have pre5 : ∀ t, Steps p.tables e below (s₁.setTop (mkF m 13 #[.val (.int i)] [])) t → G t := fun t k => pre4 t (by
        show Steps p.tables e below (s₁.setTop (mkF m 10 #[.val (.int i)] [(.int (1 : Int32)), (.int i)])) _
        refine XS.icmpNo X0.here hx rfl (hb hby d1_10) rfl (teq ci1).2 ?_
        exact k)
      obtain ⟨T6, X6, e6, st6⟩ := getS2 X0 hx hZ hown (host := "") (Or.inl (hw _ (List.mem_of_getElem? (i := 50) rfl))) Via.refl e0 S_BONUS (g := (mkF m 13 #[.val (.int i)] [])) rfl (hb hby d1_13)
      have pre6s : ∀ t, Steps p.tables e below (T6.setTop (mkF m 16 #[.val (.int i)] [(.ref s_BONUS)])) t → G t := fun t k => pre5 t (st6 t k)
      obtain ⟨fs, hr, hrun, hended, hW, hsame⟩ := X6.leave (v := some (.ref s_BONUS)) (fun h => by rw [Bd.returns] at h; cases h)
      subst hG
      refine ⟨_, _, pre6s _ ?_, hrun, hended, _, _, rfl, ?_, ⟨_, rfl⟩, hW, hsame.mono (by decide) (by decide)⟩
      · skip
        show Steps p.tables e below (T6.setTop (mkF m 16 #[.val (.int i)] [(.ref s_BONUS)])) _
        jvm_step X6.here [X6.here.top, hx, (hb hby d1_16), X6.method', Bd.returns, Value.isRef, FieldType.isReference]
        first | (intro acts; rw [hr _ acts rfl rfl rfl]) | rw [hr _ _ rfl rfl rfl]
        exact Steps.refl _
      · show Q_rm1 Z i s_SALARY s_BONUS s_PERFORMANCE_BONUS s_COMMISSIONS s_DIRECTOR_FEES s_EMPLOYER h0 n0 _ T6.heap _
        rw [e6]
        exact ⟨_, rfl, N0, rfl, E_BONUS, by rw [if_neg (by rw [ci1]; decide)]; exact D_BONUS⟩
    · -- not ci1
      have pre7 : ∀ t, Steps p.tables e below (s₁.setTop (mkF m 19 #[.val (.int i)] [(.int (2 : Int32)), (.int i)])) t → G t := fun t k => pre4 t (by
        show Steps p.tables e below (s₁.setTop (mkF m 10 #[.val (.int i)] [(.int (1 : Int32)), (.int i)])) _
        refine XS.icmpYes X0.here hx rfl (pc0 := 10) (pc' := 17) rfl (hb hby d1_10) rfl (feq ci1).2 (by decide) (by decide) ?_
        show Steps p.tables e below (s₁.setTop (mkF m 17 #[.val (.int i)] [])) _
        refine XS.iloadN X0.here hx rfl (hb hby d1_17) rfl ?_
        show Steps p.tables e below (s₁.setTop (mkF m 18 #[.val (.int i)] [(.int i)])) _
        refine XS.iconst X0.here hx rfl (hb hby d1_18) ?_
        exact k)
      by_cases ci2 : i = (2 : Int32)
      · -- ci2
        have pre8 : ∀ t, Steps p.tables e below (s₁.setTop (mkF m 22 #[.val (.int i)] [])) t → G t := fun t k => pre7 t (by
          show Steps p.tables e below (s₁.setTop (mkF m 19 #[.val (.int i)] [(.int (2 : Int32)), (.int i)])) _
          refine XS.icmpNo X0.here hx rfl (hb hby d1_19) rfl (teq ci2).2 ?_
          exact k)
        obtain ⟨T9, X9, e9, st9⟩ := getS2 X0 hx hZ hown (host := "") (Or.inl (hw _ (List.mem_of_getElem? (i := 5) rfl))) Via.refl e0 S_PERFORMANCE_BONUS (g := (mkF m 22 #[.val (.int i)] [])) rfl (hb hby d1_22)
        have pre9s : ∀ t, Steps p.tables e below (T9.setTop (mkF m 25 #[.val (.int i)] [(.ref s_PERFORMANCE_BONUS)])) t → G t := fun t k => pre8 t (st9 t k)
        obtain ⟨fs, hr, hrun, hended, hW, hsame⟩ := X9.leave (v := some (.ref s_PERFORMANCE_BONUS)) (fun h => by rw [Bd.returns] at h; cases h)
        subst hG
        refine ⟨_, _, pre9s _ ?_, hrun, hended, _, _, rfl, ?_, ⟨_, rfl⟩, hW, hsame.mono (by decide) (by decide)⟩
        · skip
          show Steps p.tables e below (T9.setTop (mkF m 25 #[.val (.int i)] [(.ref s_PERFORMANCE_BONUS)])) _
          jvm_step X9.here [X9.here.top, hx, (hb hby d1_25), X9.method', Bd.returns, Value.isRef, FieldType.isReference]
          first | (intro acts; rw [hr _ acts rfl rfl rfl]) | rw [hr _ _ rfl rfl rfl]
          exact Steps.refl _
        · show Q_rm1 Z i s_SALARY s_BONUS s_PERFORMANCE_BONUS s_COMMISSIONS s_DIRECTOR_FEES s_EMPLOYER h0 n0 _ T9.heap _
          rw [e9]
          exact ⟨_, rfl, N0, rfl, E_PERFORMANCE_BONUS, by rw [if_neg (by rw [ci2]; decide)]; exact D_PERFORMANCE_BONUS⟩
      · -- not ci2
        have pre10 : ∀ t, Steps p.tables e below (s₁.setTop (mkF m 28 #[.val (.int i)] [(.int (3 : Int32)), (.int i)])) t → G t := fun t k => pre7 t (by
          show Steps p.tables e below (s₁.setTop (mkF m 19 #[.val (.int i)] [(.int (2 : Int32)), (.int i)])) _
          refine XS.icmpYes X0.here hx rfl (pc0 := 19) (pc' := 26) rfl (hb hby d1_19) rfl (feq ci2).2 (by decide) (by decide) ?_
          show Steps p.tables e below (s₁.setTop (mkF m 26 #[.val (.int i)] [])) _
          refine XS.iloadN X0.here hx rfl (hb hby d1_26) rfl ?_
          show Steps p.tables e below (s₁.setTop (mkF m 27 #[.val (.int i)] [(.int i)])) _
          refine XS.iconst X0.here hx rfl (hb hby d1_27) ?_
          exact k)
        by_cases ci3 : i = (3 : Int32)
        · -- ci3
          have pre11 : ∀ t, Steps p.tables e below (s₁.setTop (mkF m 31 #[.val (.int i)] [])) t → G t := fun t k => pre10 t (by
            show Steps p.tables e below (s₁.setTop (mkF m 28 #[.val (.int i)] [(.int (3 : Int32)), (.int i)])) _
            refine XS.icmpNo X0.here hx rfl (hb hby d1_28) rfl (teq ci3).2 ?_
            exact k)
          obtain ⟨T12, X12, e12, st12⟩ := getS2 X0 hx hZ hown (host := "") (Or.inl (hw _ (List.mem_of_getElem? (i := 48) rfl))) Via.refl e0 S_COMMISSIONS (g := (mkF m 31 #[.val (.int i)] [])) rfl (hb hby d1_31)
          have pre12s : ∀ t, Steps p.tables e below (T12.setTop (mkF m 34 #[.val (.int i)] [(.ref s_COMMISSIONS)])) t → G t := fun t k => pre11 t (st12 t k)
          obtain ⟨fs, hr, hrun, hended, hW, hsame⟩ := X12.leave (v := some (.ref s_COMMISSIONS)) (fun h => by rw [Bd.returns] at h; cases h)
          subst hG
          refine ⟨_, _, pre12s _ ?_, hrun, hended, _, _, rfl, ?_, ⟨_, rfl⟩, hW, hsame.mono (by decide) (by decide)⟩
          · skip
            show Steps p.tables e below (T12.setTop (mkF m 34 #[.val (.int i)] [(.ref s_COMMISSIONS)])) _
            jvm_step X12.here [X12.here.top, hx, (hb hby d1_34), X12.method', Bd.returns, Value.isRef, FieldType.isReference]
            first | (intro acts; rw [hr _ acts rfl rfl rfl]) | rw [hr _ _ rfl rfl rfl]
            exact Steps.refl _
          · show Q_rm1 Z i s_SALARY s_BONUS s_PERFORMANCE_BONUS s_COMMISSIONS s_DIRECTOR_FEES s_EMPLOYER h0 n0 _ T12.heap _
            rw [e12]
            exact ⟨_, rfl, N0, rfl, E_COMMISSIONS, by rw [if_neg (by rw [ci3]; decide)]; exact D_COMMISSIONS⟩
        · -- not ci3
          have pre13 : ∀ t, Steps p.tables e below (s₁.setTop (mkF m 37 #[.val (.int i)] [(.int (4 : Int32)), (.int i)])) t → G t := fun t k => pre10 t (by
            show Steps p.tables e below (s₁.setTop (mkF m 28 #[.val (.int i)] [(.int (3 : Int32)), (.int i)])) _
            refine XS.icmpYes X0.here hx rfl (pc0 := 28) (pc' := 35) rfl (hb hby d1_28) rfl (feq ci3).2 (by decide) (by decide) ?_
            show Steps p.tables e below (s₁.setTop (mkF m 35 #[.val (.int i)] [])) _
            refine XS.iloadN X0.here hx rfl (hb hby d1_35) rfl ?_
            show Steps p.tables e below (s₁.setTop (mkF m 36 #[.val (.int i)] [(.int i)])) _
            refine XS.iconst X0.here hx rfl (hb hby d1_36) ?_
            exact k)
          by_cases ci4 : i = (4 : Int32)
          · -- ci4
            have pre14 : ∀ t, Steps p.tables e below (s₁.setTop (mkF m 40 #[.val (.int i)] [])) t → G t := fun t k => pre13 t (by
              show Steps p.tables e below (s₁.setTop (mkF m 37 #[.val (.int i)] [(.int (4 : Int32)), (.int i)])) _
              refine XS.icmpNo X0.here hx rfl (hb hby d1_37) rfl (teq ci4).2 ?_
              exact k)
            obtain ⟨T15, X15, e15, st15⟩ := getS2 X0 hx hZ hown (host := "") (Or.inl (hw _ (List.mem_of_getElem? (i := 69) rfl))) Via.refl e0 S_DIRECTOR_FEES (g := (mkF m 40 #[.val (.int i)] [])) rfl (hb hby d1_40)
            have pre15s : ∀ t, Steps p.tables e below (T15.setTop (mkF m 43 #[.val (.int i)] [(.ref s_DIRECTOR_FEES)])) t → G t := fun t k => pre14 t (st15 t k)
            obtain ⟨fs, hr, hrun, hended, hW, hsame⟩ := X15.leave (v := some (.ref s_DIRECTOR_FEES)) (fun h => by rw [Bd.returns] at h; cases h)
            subst hG
            refine ⟨_, _, pre15s _ ?_, hrun, hended, _, _, rfl, ?_, ⟨_, rfl⟩, hW, hsame.mono (by decide) (by decide)⟩
            · skip
              show Steps p.tables e below (T15.setTop (mkF m 43 #[.val (.int i)] [(.ref s_DIRECTOR_FEES)])) _
              jvm_step X15.here [X15.here.top, hx, (hb hby d1_43), X15.method', Bd.returns, Value.isRef, FieldType.isReference]
              first | (intro acts; rw [hr _ acts rfl rfl rfl]) | rw [hr _ _ rfl rfl rfl]
              exact Steps.refl _
            · show Q_rm1 Z i s_SALARY s_BONUS s_PERFORMANCE_BONUS s_COMMISSIONS s_DIRECTOR_FEES s_EMPLOYER h0 n0 _ T15.heap _
              rw [e15]
              exact ⟨_, rfl, N0, rfl, E_DIRECTOR_FEES, by rw [if_neg (by rw [ci4]; decide)]; exact D_DIRECTOR_FEES⟩
          · -- not ci4
            have pre16 : ∀ t, Steps p.tables e below (s₁.setTop (mkF m 44 #[.val (.int i)] [])) t → G t := fun t k => pre13 t (by
              show Steps p.tables e below (s₁.setTop (mkF m 37 #[.val (.int i)] [(.int (4 : Int32)), (.int i)])) _
              refine XS.icmpYes X0.here hx rfl (pc0 := 37) (pc' := 44) rfl (hb hby d1_37) rfl (feq ci4).2 (by decide) (by decide) ?_
              exact k)
            obtain ⟨T17, X17, e17, st17⟩ := getS2 X0 hx hZ hown (host := "") (Or.inl (hw _ (List.mem_of_getElem? (i := 65) rfl))) Via.refl e0 S_EMPLOYER (g := (mkF m 44 #[.val (.int i)] [])) rfl (hb hby d1_44)
            have pre17s : ∀ t, Steps p.tables e below (T17.setTop (mkF m 47 #[.val (.int i)] [(.ref s_EMPLOYER)])) t → G t := fun t k => pre16 t (st17 t k)
            obtain ⟨fs, hr, hrun, hended, hW, hsame⟩ := X17.leave (v := some (.ref s_EMPLOYER)) (fun h => by rw [Bd.returns] at h; cases h)
            subst hG
            refine ⟨_, _, pre17s _ ?_, hrun, hended, _, _, rfl, ?_, ⟨_, rfl⟩, hW, hsame.mono (by decide) (by decide)⟩
            · skip
              show Steps p.tables e below (T17.setTop (mkF m 47 #[.val (.int i)] [(.ref s_EMPLOYER)])) _
              jvm_step X17.here [X17.here.top, hx, (hb hby d1_47), X17.method', Bd.returns, Value.isRef, FieldType.isReference]
              first | (intro acts; rw [hr _ acts rfl rfl rfl]) | rw [hr _ _ rfl rfl rfl]
              exact Steps.refl _
            · show Q_rm1 Z i s_SALARY s_BONUS s_PERFORMANCE_BONUS s_COMMISSIONS s_DIRECTOR_FEES s_EMPLOYER h0 n0 _ T17.heap _
              rw [e17]
              exact ⟨_, rfl, N0, rfl, E_EMPLOYER, by rw [if_pos (own_last i hi ci0 ci1 ci2 ci3 ci4)]; exact D_EMPLOYER⟩
theorem pn_0 : plainName "com/example/deferline/deferline/ledger/AccountPartDeferralsOfPinLaw" = true := by first | (simp [plainName, overriddenIn]; done) | decide +kernel
theorem ef_0_I_I_I (m : MethodId) (x0 : Int32) (x1 : Int32) (x2 : Int32) : entryFrame m #[(.int x0), (.int x1), (.int x2)] maxLocals = mkF m 0 #[.val (.int x0), .val (.int x1), .val (.int x2), .unset, .unset, .unset, .unset, .unset, .unset] [] := by first | (simp [entryFrame, mkF, argsToLocals, Value.category, maxLocals]; done) | rfl
theorem pd_6 : parseMethodDescriptor "(I)Lcom/example/deferline/deferline/workspace/CreditSource;" = some ⟨[.int], some (.object "com/example/deferline/deferline/workspace/CreditSource")⟩ := by decide +kernel
theorem pd_7 : parseMethodDescriptor "(I)Lcom/example/deferline/deferline/ledger/AccountPart;" = some ⟨[.int], some (.object "com/example/deferline/deferline/ledger/AccountPart")⟩ := by decide +kernel
theorem pd_8 : parseMethodDescriptor "(ILcom/example/deferline/deferline/workspace/CreditSource;)Z" = some ⟨[.int, (.object "com/example/deferline/deferline/workspace/CreditSource")], some .boolean⟩ := by decide +kernel
def Q_rm0 (Z : State) (p0 p1 p2 : Int32) (s_SALARY s_BONUS s_PERFORMANCE_BONUS s_COMMISSIONS s_DIRECTOR_FEES s_EMPLOYER : Addr) (ca : Addr) (cl : Cell) (h0 : Heap) (n0 : Nat) (v : Option Value) (h : Heap) (L : List Loc) : Prop := v = some (.int 1) ∧ Fr n0 L
set_option maxRecDepth 65536 in
set_option maxHeartbeats 40000000 in
theorem rm0 (l : Launch) (Z : State) (a0 : Array Value) (hw : ∀ d ∈ tables_1, d.before a0 Z = true) (ws : List Jvm.Cond) (p0 p1 p2 : Int32) (s_SALARY s_BONUS s_PERFORMANCE_BONUS s_COMMISSIONS s_DIRECTOR_FEES s_EMPLOYER : Addr) (ca : Addr) (cl : Cell) (h0 : Heap) (n0 : Nat) (Z0 : n0 ≤ h0.size) (S_SALARY : Sta Z h0 "com/example/deferline/deferline/workspace/CreditSource" "SALARY" "Lcom/example/deferline/deferline/workspace/CreditSource;" (.ref s_SALARY)) (E_SALARY : Exa Z h0 s_SALARY "com/example/deferline/deferline/workspace/CreditSource") (D_SALARY : Fld Z h0 s_SALARY "com/example/deferline/deferline/workspace/CreditSource" "electiveDeferral" "Z" (.int 1)) (S_BONUS : Sta Z h0 "com/example/deferline/deferline/workspace/CreditSource" "BONUS" "Lcom/example/deferline/deferline/workspace/CreditSource;" (.ref s_BONUS)) (E_BONUS : Exa Z h0 s_BONUS "com/example/deferline/deferline/workspace/CreditSource") (D_BONUS : Fld Z h0 s_BONUS "com/example/deferline/deferline/workspace/CreditSource" "electiveDeferral" "Z" (.int 1)) (S_PERFORMANCE_BONUS : Sta Z h0 "com/example/deferline/deferline/workspace/CreditSource" "PERFORMANCE_BONUS" "Lcom/example/deferline/deferline/workspace/CreditSource;" (.ref s_PERFORMANCE_BONUS)) (E_PERFORMANCE_BONUS : Exa Z h0 s_PERFORMANCE_BONUS "com/example/deferline/deferline/workspace/CreditSource") (D_PERFORMANCE_BONUS : Fld Z h0 s_PERFORMANCE_BONUS "com/example/deferline/deferline/workspace/CreditSource" "electiveDeferral" "Z" (.int 1)) (S_COMMISSIONS : Sta Z h0 "com/example/deferline/deferline/workspace/CreditSource" "COMMISSIONS" "Lcom/example/deferline/deferline/workspace/CreditSource;" (.ref s_COMMISSIONS)) (E_COMMISSIONS : Exa Z h0 s_COMMISSIONS "com/example/deferline/deferline/workspace/CreditSource") (D_COMMISSIONS : Fld Z h0 s_COMMISSIONS "com/example/deferline/deferline/workspace/CreditSource" "electiveDeferral" "Z" (.int 1)) (S_DIRECTOR_FEES : Sta Z h0 "com/example/deferline/deferline/workspace/CreditSource" "DIRECTOR_FEES" "Lcom/example/deferline/deferline/workspace/CreditSource;" (.ref s_DIRECTOR_FEES)) (E_DIRECTOR_FEES : Exa Z h0 s_DIRECTOR_FEES "com/example/deferline/deferline/workspace/CreditSource") (D_DIRECTOR_FEES : Fld Z h0 s_DIRECTOR_FEES "com/example/deferline/deferline/workspace/CreditSource" "electiveDeferral" "Z" (.int 1)) (S_EMPLOYER : Sta Z h0 "com/example/deferline/deferline/workspace/CreditSource" "EMPLOYER" "Lcom/example/deferline/deferline/workspace/CreditSource;" (.ref s_EMPLOYER)) (E_EMPLOYER : Exa Z h0 s_EMPLOYER "com/example/deferline/deferline/workspace/CreditSource") (D_EMPLOYER : Fld Z h0 s_EMPLOYER "com/example/deferline/deferline/workspace/CreditSource" "electiveDeferral" "Z" (.int 0)) (S1 : Sta Z Z.heap "java/lang/Integer$IntegerCache" "high" "I" (.int (127 : Int32))) (S0 : Sta Z Z.heap "java/lang/Integer$IntegerCache" "cache" "[Ljava/lang/Integer;" (.ref ca)) (hB : Bxs Z ca cl "java/lang/Integer" "I" 256 (fun j => .int (j - 128))) (Ol : Old Z n0 h0) :
    MetFree l x (head1 (Jvm.Cond.code x code maxLocals ret :: ws) room_1) (fun argv U => argv = #[(.int p0), (.int p1), (.int p2)] ∧ Z.Warmed39 U.vm ∧ U.heap = h0) (fun _ _ _ _ _ => True) (fun _ U o U' => ∃ v L, o = .returned v ∧ Q_rm0 Z p0 p1 p2 s_SALARY s_BONUS s_PERFORMANCE_BONUS s_COMMISSIONS s_DIRECTOR_FEES s_EMPLOYER ca cl h0 n0 v U'.heap L ∧ FrameEnd U o U' L 16 128) := by
  refine MetFree.of_bodySF (plainFor_of_name pn_0) hisR ?_
  intro p e s m args below meth c s₁ Bd hml0 hP hK
  obtain ⟨rfl, hZ, hh⟩ := hP
  have hx := Bd.exec
  have hby := Bd.bytes
  have hml : c.maxLocals = 9 := hml0
  have hown : s.vm.findClass "com/example/deferline/deferline/ledger/AccountPartDeferralsOfPinLaw" = some m.cls := findClass_of_methodNamed Bd.named
  have hnm := (name_of_methodNamed Bd.named Bd.method).1
  have X0 : Stand p l e room_1 s m #[(.int p0), (.int p1), (.int p2)] below meth c s₁ [] 0 0 := Stand.of_body Bd
  have e0 : s₁.heap = h0 := by rw [← hh, Bd.state]; rfl
  have N0 := Fr.nil n0
  obtain ⟨G, hG⟩ : ∃ G : State → Prop, G = fun t => Steps p.tables e below (s₁.setTop (entryFrame m #[(.int p0), (.int p1), (.int p2)] maxLocals)) t := ⟨_, rfl⟩
  have pre0 : ∀ t, Steps p.tables e below (s₁.setTop (mkF m 0 #[.val (.int p0), .val (.int p1), .val (.int p2), .unset, .unset, .unset, .unset, .unset, .unset] [])) t → G t := fun t k => by rw [hG]; exact castTop (ef_0_I_I_I m p0 p1 p2) k
  have pre1 : ∀ t, Steps p.tables e below (s₁.setTop (mkF m 9 #[.val (.int p0), .val (.int p1), .val (.int p2), .val (.int ((p2 &&& (2147483647 : Int32)) % (6 : Int32))), .unset, .unset, .unset, .unset, .unset] [(.int ((p2 &&& (2147483647 : Int32)) % (6 : Int32)))])) t → G t := fun t k => pre0 t (by
    show Steps p.tables e below (s₁.setTop (mkF m 0 #[.val (.int p0), .val (.int p1), .val (.int p2), .unset, .unset, .unset, .unset, .unset, .unset] [])) _
    refine XS.iloadN X0.here hx rfl (hb hby at_0) rfl ?_
    show Steps p.tables e below (s₁.setTop (mkF m 1 #[.val (.int p0), .val (.int p1), .val (.int p2), .unset, .unset, .unset, .unset, .unset, .unset] [(.int p2)])) _
    refine X0.ldcInt hx hown (mvT hZ (hw _ (List.mem_of_getElem? (i := 0) rfl))) (g := (mkF m 1 #[.val (.int p0), .val (.int p1), .val (.int p2), .unset, .unset, .unset, .unset, .unset, .unset] [(.int p2)])) rfl (hb hby at_1) _ ?_
    show Steps p.tables e below (s₁.setTop (mkF m 3 #[.val (.int p0), .val (.int p1), .val (.int p2), .unset, .unset, .unset, .unset, .unset, .unset] [(.int (2147483647 : Int32)), (.int p2)])) _
    refine XS.iand X0.here hx rfl (hb hby at_3) rfl ?_
    show Steps p.tables e below (s₁.setTop (mkF m 4 #[.val (.int p0), .val (.int p1), .val (.int p2), .unset, .unset, .unset, .unset, .unset, .unset] [(.int (p2 &&& (2147483647 : Int32)))])) _
    refine XS.bipush X0.here hx rfl (hb hby at_4) ?_
    show Steps p.tables e below (s₁.setTop (mkF m 6 #[.val (.int p0), .val (.int p1), .val (.int p2), .unset, .unset, .unset, .unset, .unset, .unset] [(.int (6 : Int32)), (.int (p2 &&& (2147483647 : Int32)))])) _
    refine iremM X0 hx rfl (hb hby at_6) rfl (by decide) ?_
    show Steps p.tables e below (s₁.setTop (mkF m 7 #[.val (.int p0), .val (.int p1), .val (.int p2), .unset, .unset, .unset, .unset, .unset, .unset] [(.int ((p2 &&& (2147483647 : Int32)) % (6 : Int32)))])) _
    refine XS.istoreN X0.here hx rfl (hb hby at_7) rfl (l' := #[.val (.int p0), .val (.int p1), .val (.int p2), .val (.int ((p2 &&& (2147483647 : Int32)) % (6 : Int32))), .unset, .unset, .unset, .unset, .unset]) rfl ?_
    show Steps p.tables e below (s₁.setTop (mkF m 8 #[.val (.int p0), .val (.int p1), .val (.int p2), .val (.int ((p2 &&& (2147483647 : Int32)) % (6 : Int32))), .unset, .unset, .unset, .unset, .unset] [])) _
    refine XS.iloadN X0.here hx rfl (hb hby at_8) rfl ?_
    exact k)
  by_cases h5 : ((p2 &&& (2147483647 : Int32)) % (6 : Int32)) = (5 : Int32)
  · skip
    obtain ⟨_, _, ⟨T2, L2, k2, n2⟩, -, X2, ⟨Lc2, hQ2, l2, y2, z2⟩, st2⟩ := Jvm.LawKit.callS X0 hx (y := (⟨"com/example/deferline/deferline/ledger/AccountPartDeferralsOfPinLaw", "source", "(I)Lcom/example/deferline/deferline/workspace/CreditSource;"⟩ : MethodName)) hown (mvT hZ (hw _ (List.mem_of_getElem? (i := 1) rfl))) (mvT hZ (hw _ (List.mem_of_getElem? (i := 2) rfl))) (mvT hZ (hw _ (List.mem_of_getElem? (i := 3) rfl))) (mvT hZ (hw _ (List.mem_of_getElem? (i := 4) rfl))) (by decide) (backOf (W := 0) (rm1 l Z a0 hw [] ((p2 &&& (2147483647 : Int32)) % (6 : Int32)) s_SALARY s_BONUS s_PERFORMANCE_BONUS s_COMMISSIONS s_DIRECTOR_FEES s_EMPLOYER h0 n0 Z0 (own_six p2) S_SALARY E_SALARY D_SALARY S_BONUS E_BONUS D_BONUS S_PERFORMANCE_BONUS E_PERFORMANCE_BONUS D_PERFORMANCE_BONUS S_COMMISSIONS E_COMMISSIONS D_COMMISSIONS S_DIRECTOR_FEES E_DIRECTOR_FEES D_DIRECTOR_FEES S_EMPLOYER E_EMPLOYER D_EMPLOYER) hZ (hw _ (List.mem_of_getElem? (i := 4) rfl)) (hw _ (List.mem_of_getElem? (i := 3) rfl)) (by decide) (by decide)) (g := (mkF m 9 #[.val (.int p0), .val (.int p1), .val (.int p2), .val (.int ((p2 &&& (2147483647 : Int32)) % (6 : Int32))), .unset, .unset, .unset, .unset, .unset] [(.int ((p2 &&& (2147483647 : Int32)) % (6 : Int32)))])) rfl (by rw [hml]; rfl) (argsL := [(.int ((p2 &&& (2147483647 : Int32)) % (6 : Int32)))]) (rest := []) (lenOf pd_6 rfl) rfl (by show 2 * 0 + _ ≤ _; exact Nat.le_of_eq rfl) (hb hby at_9) (fun _ _ => ⟨rfl, e0, (Nat.le_of_ble_eq_true rfl), (Nat.le_of_ble_eq_true rfl)⟩)
    dsimp only [Pt.U, Pt.locs, Pt.cells, Pt.slots] at X2 l2 y2 z2 st2 hQ2
    subst l2 y2 z2
    obtain ⟨u, rfl, N2q, e2, Eu2, Du2⟩ := hQ2
    rw [if_pos h5] at Du2
    have N2 := Fr.app N0 N2q
    have pre2s : ∀ t, Steps p.tables e below (T2.setTop (mkF m 12 #[.val (.int p0), .val (.int p1), .val (.int p2), .val (.int ((p2 &&& (2147483647 : Int32)) % (6 : Int32))), .unset, .unset, .unset, .unset, .unset] [(.ref u)])) t → G t := fun t k => pre1 t (st2 t k)
    have pre3 : ∀ t, Steps p.tables e below (T2.setTop (mkF m 27 #[.val (.int p0), .val (.int p1), .val (.int p2), .val (.int ((p2 &&& (2147483647 : Int32)) % (6 : Int32))), .val (.ref u), .val (.int (0 : Int32)), .unset, .unset, .unset] [(.int p0)])) t → G t := fun t k => pre2s t (by
      show Steps p.tables e below (T2.setTop (mkF m 12 #[.val (.int p0), .val (.int p1), .val (.int p2), .val (.int ((p2 &&& (2147483647 : Int32)) % (6 : Int32))), .unset, .unset, .unset, .unset, .unset] [(.ref u)])) _
      refine XS.astore X2.here hx rfl (hb hby at_12) rfl rfl (l' := #[.val (.int p0), .val (.int p1), .val (.int p2), .val (.int ((p2 &&& (2147483647 : Int32)) % (6 : Int32))), .val (.ref u), .unset, .unset, .unset, .unset]) rfl ?_
      show Steps p.tables e below (T2.setTop (mkF m 14 #[.val (.int p0), .val (.int p1), .val (.int p2), .val (.int ((p2 &&& (2147483647 : Int32)) % (6 : Int32))), .val (.ref u), .unset, .unset, .unset, .unset] [])) _
      refine XS.iloadN X2.here hx rfl (hb hby at_14) rfl ?_
      show Steps p.tables e below (T2.setTop (mkF m 15 #[.val (.int p0), .val (.int p1), .val (.int p2), .val (.int ((p2 &&& (2147483647 : Int32)) % (6 : Int32))), .val (.ref u), .unset, .unset, .unset, .unset] [(.int ((p2 &&& (2147483647 : Int32)) % (6 : Int32)))])) _
      refine XS.iconst X2.here hx rfl (hb hby at_15) ?_
      show Steps p.tables e below (T2.setTop (mkF m 16 #[.val (.int p0), .val (.int p1), .val (.int p2), .val (.int ((p2 &&& (2147483647 : Int32)) % (6 : Int32))), .val (.ref u), .unset, .unset, .unset, .unset] [(.int (5 : Int32)), (.int ((p2 &&& (2147483647 : Int32)) % (6 : Int32)))])) _
      refine XS.icmpYes X2.here hx rfl (pc0 := 16) (pc' := 23) rfl (hb hby at_16) rfl (teq h5).1 (by decide) (by decide) ?_
      show Steps p.tables e below (T2.setTop (mkF m 23 #[.val (.int p0), .val (.int p1), .val (.int p2), .val (.int ((p2 &&& (2147483647 : Int32)) % (6 : Int32))), .val (.ref u), .unset, .unset, .unset, .unset] [])) _
      refine XS.iconst X2.here hx rfl (hb hby at_23) ?_
      show Steps p.tables e below (T2.setTop (mkF m 24 #[.val (.int p0), .val (.int p1), .val (.int p2), .val (.int ((p2 &&& (2147483647 : Int32)) % (6 : Int32))), .val (.ref u), .unset, .unset, .unset, .unset] [(.int (0 : Int32))])) _
      refine XS.istore X2.here hx rfl (hb hby at_24) rfl (l' := #[.val (.int p0), .val (.int p1), .val (.int p2), .val (.int ((p2 &&& (2147483647 : Int32)) % (6 : Int32))), .val (.ref u), .val (.int (0 : Int32)), .unset, .unset, .unset]) rfl ?_
      show Steps p.tables e below (T2.setTop (mkF m 26 #[.val (.int p0), .val (.int p1), .val (.int p2), .val (.int ((p2 &&& (2147483647 : Int32)) % (6 : Int32))), .val (.ref u), .val (.int (0 : Int32)), .unset, .unset, .unset] [])) _
      refine XS.iloadN X2.here hx rfl (hb hby at_26) rfl ?_
      exact k)
    obtain ⟨_, _, ⟨T4, L4, k4, n4⟩, -, X4, ⟨Lc4, hQ4, l4, y4, z4⟩, st4⟩ := Jvm.LawKit.callS X2 hx (y := (⟨"com/example/deferline/deferline/ledger/AccountPart", "deferralsOf", "(I)Lcom/example/deferline/deferline/ledger/AccountPart;"⟩ : MethodName)) hown (mvT hZ (hw _ (List.mem_of_getElem? (i := 8) rfl))) (mvT hZ (hw _ (List.mem_of_getElem? (i := 9) rfl))) (mvT hZ (hw _ (List.mem_of_getElem? (i := 10) rfl))) (mvT hZ (hw _ (List.mem_of_getElem? (i := 11) rfl))) (by decide) (backOf (W := 0) (rm2 l Z a0 hw [] p0 ca cl h0 n0 Z0 S1 S0 hB Ol) hZ (hw _ (List.mem_of_getElem? (i := 11) rfl)) (hw _ (List.mem_of_getElem? (i := 10) rfl)) (by decide) (by decide)) (g := (mkF m 27 #[.val (.int p0), .val (.int p1), .val (.int p2), .val (.int ((p2 &&& (2147483647 : Int32)) % (6 : Int32))), .val (.ref u), .val (.int (0 : Int32)), .unset, .unset, .unset] [(.int p0)])) rfl (by rw [hml]; rfl) (argsL := [(.int p0)]) (rest := []) (lenOf pd_7 rfl) rfl (by show 2 * 0 + _ ≤ _; exact Nat.le_of_eq rfl) (hb hby at_27) (fun _ _ => ⟨rfl, e2, (Nat.le_of_ble_eq_true rfl), (Nat.le_of_ble_eq_true rfl)⟩)
    dsimp only [Pt.U, Pt.locs, Pt.cells, Pt.slots] at X4 l4 y4 z4 st4 hQ4
    subst l4 y4 z4
    obtain ⟨b, r, rfl, N4q, K4, Eb4, Fc4, Er4, Fv4⟩ := hQ4
    have N4 := Fr.app N2 N4q
    have pre4s : ∀ t, Steps p.tables e below (T4.setTop (mkF m 30 #[.val (.int p0), .val (.int p1), .val (.int p2), .val (.int ((p2 &&& (2147483647 : Int32)) % (6 : Int32))), .val (.ref u), .val (.int (0 : Int32)), .unset, .unset, .unset] [(.ref b)])) t → G t := fun t k => pre3 t (st4 t k)
    have Z4 : n0 ≤ T4.heap.size := Nat.le_trans Z0 K4.1
    have Eu2_5 := Eu2.keep K4
    have Du2_6 := Du2.keep K4 nin0
    have Ol7 := Ol.keep K4 all0
    have pre8 : ∀ t, Steps p.tables e below (T4.setTop (mkF m 37 #[.val (.int p0), .val (.int p1), .val (.int p2), .val (.int ((p2 &&& (2147483647 : Int32)) % (6 : Int32))), .val (.ref u), .val (.int (0 : Int32)), .val (.ref b), .unset, .unset] [(.ref u), (.int p0), (.ref b)])) t → G t := fun t k => pre4s t (by
      show Steps p.tables e below (T4.setTop (mkF m 30 #[.val (.int p0), .val (.int p1), .val (.int p2), .val (.int ((p2 &&& (2147483647 : Int32)) % (6 : Int32))), .val (.ref u), .val (.int (0 : Int32)), .unset, .unset, .unset] [(.ref b)])) _
      refine XS.astore X4.here hx rfl (hb hby at_30) rfl rfl (l' := #[.val (.int p0), .val (.int p1), .val (.int p2), .val (.int ((p2 &&& (2147483647 : Int32)) % (6 : Int32))), .val (.ref u), .val (.int (0 : Int32)), .val (.ref b), .unset, .unset]) rfl ?_
      show Steps p.tables e below (T4.setTop (mkF m 32 #[.val (.int p0), .val (.int p1), .val (.int p2), .val (.int ((p2 &&& (2147483647 : Int32)) % (6 : Int32))), .val (.ref u), .val (.int (0 : Int32)), .val (.ref b), .unset, .unset] [])) _
      refine XS.aload X4.here hx rfl (hb hby at_32) rfl rfl ?_
      show Steps p.tables e below (T4.setTop (mkF m 34 #[.val (.int p0), .val (.int p1), .val (.int p2), .val (.int ((p2 &&& (2147483647 : Int32)) % (6 : Int32))), .val (.ref u), .val (.int (0 : Int32)), .val (.ref b), .unset, .unset] [(.ref b)])) _
      refine XS.iloadN X4.here hx rfl (hb hby at_34) rfl ?_
      show Steps p.tables e below (T4.setTop (mkF m 35 #[.val (.int p0), .val (.int p1), .val (.int p2), .val (.int ((p2 &&& (2147483647 : Int32)) % (6 : Int32))), .val (.ref u), .val (.int (0 : Int32)), .val (.ref b), .unset, .unset] [(.int p0), (.ref b)])) _
      refine XS.aload X4.here hx rfl (hb hby at_35) rfl rfl ?_
      exact k)
    obtain ⟨cq9, kq9, q9a, q9b, q9c⟩ := isOf hZ rfl Eb4
    obtain ⟨_, _, ⟨T9, L9, k9, n9⟩, -, X9, ⟨Lc9, hQ9, l9, y9, z9⟩, st9⟩ := X4.virtualBack hx (y := (⟨"com/example/deferline/deferline/ledger/AccountPart", "holds", "(ILcom/example/deferline/deferline/workspace/CreditSource;)Z"⟩ : MethodName)) (z := (⟨"com/example/deferline/deferline/ledger/AccountPart", "holds", "(ILcom/example/deferline/deferline/workspace/CreditSource;)Z"⟩ : MethodName)) hown (mvT hZ (hw _ (List.mem_of_getElem? (i := 29) rfl))) (mvT hZ (hw _ (List.mem_of_getElem? (i := 30) rfl))) (notFace_of_selects (args := #[]) (mvT hZ (hw _ (List.mem_of_getElem? (i := 32) rfl)))) (mvT hZ (hw _ (List.mem_of_getElem? (i := 32) rfl))) (mvT hZ (hw _ (List.mem_of_getElem? (i := 31) rfl))) (by decide) (backOf (W := 0) (rm6 l Z a0 hw [] b p0 u r p0 (0 : Int32) T4.heap n0 Z4 Fc4 Er4 Fv4 Eu2_5 Du2_6 (by decide)) hZ (hw _ (List.mem_of_getElem? (i := 33) rfl)) (hw _ (List.mem_of_getElem? (i := 10) rfl)) (by decide) (by decide)) q9a q9c (g := (mkF m 37 #[.val (.int p0), .val (.int p1), .val (.int p2), .val (.int ((p2 &&& (2147483647 : Int32)) % (6 : Int32))), .val (.ref u), .val (.int (0 : Int32)), .val (.ref b), .unset, .unset] [(.ref u), (.int p0), (.ref b)])) rfl (by rw [hml]; rfl) (Steps.refl _) (argsL := [(.int p0), (.ref u)]) (rest := []) (lenOf pd_8 rfl) rfl (by show 2 * 0 + _ ≤ _; exact Nat.le_of_eq rfl) (hb hby at_37) (fun _ _ => ⟨rfl, rfl, (Nat.le_of_ble_eq_true rfl), (Nat.le_of_ble_eq_true rfl)⟩)
    dsimp only [Pt.U, Pt.locs, Pt.cells, Pt.slots] at X9 l9 y9 z9 st9 hQ9
    subst l9 y9 z9
    obtain ⟨hv9, N9q, e9⟩ := hQ9
    rw [own_h0] at hv9
    subst hv9
    have N9 := Fr.app N4 N9q
    have pre9s : ∀ t, Steps p.tables e below (T9.setTop (mkF m 40 #[.val (.int p0), .val (.int p1), .val (.int p2), .val (.int ((p2 &&& (2147483647 : Int32)) % (6 : Int32))), .val (.ref u), .val (.int (0 : Int32)), .val (.ref b), .unset, .unset] [(.int (0 : Int32))])) t → G t := fun t k => pre8 t (st9.trans k)
    have pre10 : ∀ t, Steps p.tables e below (T9.setTop (mkF m 57 #[.val (.int p0), .val (.int p1), .val (.int p2), .val (.int ((p2 &&& (2147483647 : Int32)) % (6 : Int32))), .val (.ref u), .val (.int (0 : Int32)), .val (.ref b), .val (.int (1 : Int32)), .unset] [(.ref u), (.int p1), (.ref b)])) t → G t := fun t k => pre9s t (by
      show Steps p.tables e below (T9.setTop (mkF m 40 #[.val (.int p0), .val (.int p1), .val (.int p2), .val (.int ((p2 &&& (2147483647 : Int32)) % (6 : Int32))), .val (.ref u), .val (.int (0 : Int32)), .val (.ref b), .unset, .unset] [(.int (0 : Int32))])) _
      refine XS.iload X9.here hx rfl (hb hby at_40) rfl ?_
      show Steps p.tables e below (T9.setTop (mkF m 42 #[.val (.int p0), .val (.int p1), .val (.int p2), .val (.int ((p2 &&& (2147483647 : Int32)) % (6 : Int32))), .val (.ref u), .val (.int (0 : Int32)), .val (.ref b), .unset, .unset] [(.int (0 : Int32)), (.int (0 : Int32))])) _
      refine XS.icmpNo X9.here hx rfl (hb hby at_42) rfl (teq (by decide : (0 : Int32) = (0 : Int32))).2 ?_
      show Steps p.tables e below (T9.setTop (mkF m 45 #[.val (.int p0), .val (.int p1), .val (.int p2), .val (.int ((p2 &&& (2147483647 : Int32)) % (6 : Int32))), .val (.ref u), .val (.int (0 : Int32)), .val (.ref b), .unset, .unset] [])) _
      refine XS.iconst X9.here hx rfl (hb hby at_45) ?_
      show Steps p.tables e below (T9.setTop (mkF m 46 #[.val (.int p0), .val (.int p1), .val (.int p2), .val (.int ((p2 &&& (2147483647 : Int32)) % (6 : Int32))), .val (.ref u), .val (.int (0 : Int32)), .val (.ref b), .unset, .unset] [(.int (1 : Int32))])) _
      refine XS.goto X9.here hx rfl (pc0 := 46) (pc' := 50) rfl (hb hby at_46) (by decide) (by decide) ?_
      show Steps p.tables e below (T9.setTop (mkF m 50 #[.val (.int p0), .val (.int p1), .val (.int p2), .val (.int ((p2 &&& (2147483647 : Int32)) % (6 : Int32))), .val (.ref u), .val (.int (0 : Int32)), .val (.ref b), .unset, .unset] [(.int (1 : Int32))])) _
      refine XS.istore X9.here hx rfl (hb hby at_50) rfl (l' := #[.val (.int p0), .val (.int p1), .val (.int p2), .val (.int ((p2 &&& (2147483647 : Int32)) % (6 : Int32))), .val (.ref u), .val (.int (0 : Int32)), .val (.ref b), .val (.int (1 : Int32)), .unset]) rfl ?_
      show Steps p.tables e below (T9.setTop (mkF m 52 #[.val (.int p0), .val (.int p1), .val (.int p2), .val (.int ((p2 &&& (2147483647 : Int32)) % (6 : Int32))), .val (.ref u), .val (.int (0 : Int32)), .val (.ref b), .val (.int (1 : Int32)), .unset] [])) _
      refine XS.aload X9.here hx rfl (hb hby at_52) rfl rfl ?_
      show Steps p.tables e below (T9.setTop (mkF m 54 #[.val (.int p0), .val (.int p1), .val (.int p2), .val (.int ((p2 &&& (2147483647 : Int32)) % (6 : Int32))), .val (.ref u), .val (.int (0 : Int32)), .val (.ref b), .val (.int (1 : Int32)), .unset] [(.ref b)])) _
      refine XS.iloadN X9.here hx rfl (hb hby at_54) rfl ?_
      show Steps p.tables e below (T9.setTop (mkF m 55 #[.val (.int p0), .val (.int p1), .val (.int p2), .val (.int ((p2 &&& (2147483647 : Int32)) % (6 : Int32))), .val (.ref u), .val (.int (0 : Int32)), .val (.ref b), .val (.int (1 : Int32)), .unset] [(.int p1), (.ref b)])) _
      refine XS.aload X9.here hx rfl (hb hby at_55) rfl rfl ?_
      exact k)
    by_cases hy : p0 = p1
    · skip
      obtain ⟨cq11, kq11, q11a, q11b, q11c⟩ := isOf hZ e9 Eb4
      obtain ⟨_, _, ⟨T11, L11, k11, n11⟩, -, X11, ⟨Lc11, hQ11, l11, y11, z11⟩, st11⟩ := X9.virtualBack hx (y := (⟨"com/example/deferline/deferline/ledger/AccountPart", "holds", "(ILcom/example/deferline/deferline/workspace/CreditSource;)Z"⟩ : MethodName)) (z := (⟨"com/example/deferline/deferline/ledger/AccountPart", "holds", "(ILcom/example/deferline/deferline/workspace/CreditSource;)Z"⟩ : MethodName)) hown (mvT hZ (hw _ (List.mem_of_getElem? (i := 29) rfl))) (mvT hZ (hw _ (List.mem_of_getElem? (i := 30) rfl))) (notFace_of_selects (args := #[]) (mvT hZ (hw _ (List.mem_of_getElem? (i := 32) rfl)))) (mvT hZ (hw _ (List.mem_of_getElem? (i := 32) rfl))) (mvT hZ (hw _ (List.mem_of_getElem? (i := 31) rfl))) (by decide) (backOf (W := 0) (rm6 l Z a0 hw [] b p1 u r p0 (0 : Int32) T4.heap n0 Z4 Fc4 Er4 Fv4 Eu2_5 Du2_6 (by decide)) hZ (hw _ (List.mem_of_getElem? (i := 33) rfl)) (hw _ (List.mem_of_getElem? (i := 10) rfl)) (by decide) (by decide)) q11a q11c (g := (mkF m 57 #[.val (.int p0), .val (.int p1), .val (.int p2), .val (.int ((p2 &&& (2147483647 : Int32)) % (6 : Int32))), .val (.ref u), .val (.int (0 : Int32)), .val (.ref b), .val (.int (1 : Int32)), .unset] [(.ref u), (.int p1), (.ref b)])) rfl (by rw [hml]; rfl) (Steps.refl _) (argsL := [(.int p1), (.ref u)]) (rest := []) (lenOf pd_8 rfl) rfl (by show 2 * 0 + _ ≤ _; exact Nat.le_of_eq rfl) (hb hby at_57) (fun _ _ => ⟨rfl, e9, (Nat.le_of_ble_eq_true rfl), (Nat.le_of_ble_eq_true rfl)⟩)
      dsimp only [Pt.U, Pt.locs, Pt.cells, Pt.slots] at X11 l11 y11 z11 st11 hQ11
      subst l11 y11 z11
      obtain ⟨hv11, N11q, e11⟩ := hQ11
      rw [← hy, own_h0] at hv11
      subst hv11
      have N11 := Fr.app N9 N11q
      have pre11s : ∀ t, Steps p.tables e below (T11.setTop (mkF m 60 #[.val (.int p0), .val (.int p1), .val (.int p2), .val (.int ((p2 &&& (2147483647 : Int32)) % (6 : Int32))), .val (.ref u), .val (.int (0 : Int32)), .val (.ref b), .val (.int (1 : Int32)), .unset] [(.int (0 : Int32))])) t → G t := fun t k => pre10 t (st11.trans k)
      obtain ⟨fs, hr, hrun, hended, hW, hsame⟩ := X11.leave (v := some (.int (1 : Int32))) (fun h => by rw [Bd.returns] at h; cases h)
      subst hG
      refine ⟨_, _, pre11s _ ?_, hrun, hended, _, _, rfl, ?_, ⟨_, rfl⟩, hW, hsame.mono (by decide) (by decide)⟩
      · skip
        show Steps p.tables e below (T11.setTop (mkF m 60 #[.val (.int p0), .val (.int p1), .val (.int p2), .val (.int ((p2 &&& (2147483647 : Int32)) % (6 : Int32))), .val (.ref u), .val (.int (0 : Int32)), .val (.ref b), .val (.int (1 : Int32)), .unset] [(.int (0 : Int32))])) _
        refine XS.iloadN X11.here hx rfl (hb hby at_60) rfl ?_
        show Steps p.tables e below (T11.setTop (mkF m 61 #[.val (.int p0), .val (.int p1), .val (.int p2), .val (.int ((p2 &&& (2147483647 : Int32)) % (6 : Int32))), .val (.ref u), .val (.int (0 : Int32)), .val (.ref b), .val (.int (1 : Int32)), .unset] [(.int p1), (.int (0 : Int32))])) _
        refine XS.iloadN X11.here hx rfl (hb hby at_61) rfl ?_
        show Steps p.tables e below (T11.setTop (mkF m 62 #[.val (.int p0), .val (.int p1), .val (.int p2), .val (.int ((p2 &&& (2147483647 : Int32)) % (6 : Int32))), .val (.ref u), .val (.int (0 : Int32)), .val (.ref b), .val (.int (1 : Int32)), .unset] [(.int p0), (.int p1), (.int (0 : Int32))])) _
        refine XS.icmpNo X11.here hx rfl (hb hby at_62) rfl (teq hy.symm).2 ?_
        show Steps p.tables e below (T11.setTop (mkF m 65 #[.val (.int p0), .val (.int p1), .val (.int p2), .val (.int ((p2 &&& (2147483647 : Int32)) % (6 : Int32))), .val (.ref u), .val (.int (0 : Int32)), .val (.ref b), .val (.int (1 : Int32)), .unset] [(.int (0 : Int32))])) _
        refine XS.iload X11.here hx rfl (hb hby at_65) rfl ?_
        show Steps p.tables e below (T11.setTop (mkF m 67 #[.val (.int p0), .val (.int p1), .val (.int p2), .val (.int ((p2 &&& (2147483647 : Int32)) % (6 : Int32))), .val (.ref u), .val (.int (0 : Int32)), .val (.ref b), .val (.int (1 : Int32)), .unset] [(.int (0 : Int32)), (.int (0 : Int32))])) _
        refine XS.ifYes X11.here hx rfl (pc0 := 67) (pc' := 74) rfl (hb hby at_67) rfl ((if0 _ _).trans (teq (by decide : (0 : Int32) = (0 : Int32))).1) (by decide) (by decide) ?_
        show Steps p.tables e below (T11.setTop (mkF m 74 #[.val (.int p0), .val (.int p1), .val (.int p2), .val (.int ((p2 &&& (2147483647 : Int32)) % (6 : Int32))), .val (.ref u), .val (.int (0 : Int32)), .val (.ref b), .val (.int (1 : Int32)), .unset] [(.int (0 : Int32))])) _
        refine XS.iconst X11.here hx rfl (hb hby at_74) ?_
        show Steps p.tables e below (T11.setTop (mkF m 75 #[.val (.int p0), .val (.int p1), .val (.int p2), .val (.int ((p2 &&& (2147483647 : Int32)) % (6 : Int32))), .val (.ref u), .val (.int (0 : Int32)), .val (.ref b), .val (.int (1 : Int32)), .unset] [(.int (0 : Int32)), (.int (0 : Int32))])) _
        refine XS.icmpNo X11.here hx rfl (hb hby at_75) rfl (teq (by decide : (0 : Int32) = (0 : Int32))).2 ?_
        show Steps p.tables e below (T11.setTop (mkF m 78 #[.val (.int p0), .val (.int p1), .val (.int p2), .val (.int ((p2 &&& (2147483647 : Int32)) % (6 : Int32))), .val (.ref u), .val (.int (0 : Int32)), .val (.ref b), .val (.int (1 : Int32)), .unset] [])) _
        refine XS.iconst X11.here hx rfl (hb hby at_78) ?_
        show Steps p.tables e below (T11.setTop (mkF m 79 #[.val (.int p0), .val (.int p1), .val (.int p2), .val (.int ((p2 &&& (2147483647 : Int32)) % (6 : Int32))), .val (.ref u), .val (.int (0 : Int32)), .val (.ref b), .val (.int (1 : Int32)), .unset] [(.int (1 : Int32))])) _
        refine XS.goto X11.here hx rfl (pc0 := 79) (pc' := 83) rfl (hb hby at_79) (by decide) (by decide) ?_
        show Steps p.tables e below (T11.setTop (mkF m 83 #[.val (.int p0), .val (.int p1), .val (.int p2), .val (.int ((p2 &&& (2147483647 : Int32)) % (6 : Int32))), .val (.ref u), .val (.int (0 : Int32)), .val (.ref b), .val (.int (1 : Int32)), .unset] [(.int (1 : Int32))])) _
        refine XS.istore X11.here hx rfl (hb hby at_83) rfl (l' := #[.val (.int p0), .val (.int p1), .val (.int p2), .val (.int ((p2 &&& (2147483647 : Int32)) % (6 : Int32))), .val (.ref u), .val (.int (0 : Int32)), .val (.ref b), .val (.int (1 : Int32)), .val (.int (1 : Int32))]) rfl ?_
        show Steps p.tables e below (T11.setTop (mkF m 85 #[.val (.int p0), .val (.int p1), .val (.int p2), .val (.int ((p2 &&& (2147483647 : Int32)) % (6 : Int32))), .val (.ref u), .val (.int (0 : Int32)), .val (.ref b), .val (.int (1 : Int32)), .val (.int (1 : Int32))] [])) _
        refine XS.iload X11.here hx rfl (hb hby at_85) rfl ?_
        show Steps p.tables e below (T11.setTop (mkF m 87 #[.val (.int p0), .val (.int p1), .val (.int p2), .val (.int ((p2 &&& (2147483647 : Int32)) % (6 : Int32))), .val (.ref u), .val (.int (0 : Int32)), .val (.ref b), .val (.int (1 : Int32)), .val (.int (1 : Int32))] [(.int (1 : Int32))])) _
        refine XS.ifNo X11.here hx rfl (hb hby at_87) rfl ((if0 _ _).trans (feq (by decide : ¬ ((1 : Int32) = (0 : Int32)))).1) ?_
        show Steps p.tables e below (T11.setTop (mkF m 90 #[.val (.int p0), .val (.int p1), .val (.int p2), .val (.int ((p2 &&& (2147483647 : Int32)) % (6 : Int32))), .val (.ref u), .val (.int (0 : Int32)), .val (.ref b), .val (.int (1 : Int32)), .val (.int (1 : Int32))] [])) _
        refine XS.iload X11.here hx rfl (hb hby at_90) rfl ?_
        show Steps p.tables e below (T11.setTop (mkF m 92 #[.val (.int p0), .val (.int p1), .val (.int p2), .val (.int ((p2 &&& (2147483647 : Int32)) % (6 : Int32))), .val (.ref u), .val (.int (0 : Int32)), .val (.ref b), .val (.int (1 : Int32)), .val (.int (1 : Int32))] [(.int (1 : Int32))])) _
        refine XS.ifNo X11.here hx rfl (hb hby at_92) rfl ((if0 _ _).trans (feq (by decide : ¬ ((1 : Int32) = (0 : Int32)))).1) ?_
        show Steps p.tables e below (T11.setTop (mkF m 95 #[.val (.int p0), .val (.int p1), .val (.int p2), .val (.int ((p2 &&& (2147483647 : Int32)) % (6 : Int32))), .val (.ref u), .val (.int (0 : Int32)), .val (.ref b), .val (.int (1 : Int32)), .val (.int (1 : Int32))] [])) _
        refine XS.iconst X11.here hx rfl (hb hby at_95) ?_
        show Steps p.tables e below (T11.setTop (mkF m 96 #[.val (.int p0), .val (.int p1), .val (.int p2), .val (.int ((p2 &&& (2147483647 : Int32)) % (6 : Int32))), .val (.ref u), .val (.int (0 : Int32)), .val (.ref b), .val (.int (1 : Int32)), .val (.int (1 : Int32))] [(.int (1 : Int32))])) _
        refine XS.goto X11.here hx rfl (pc0 := 96) (pc' := 100) rfl (hb hby at_96) (by decide) (by decide) ?_
        show Steps p.tables e below (T11.setTop (mkF m 100 #[.val (.int p0), .val (.int p1), .val (.int p2), .val (.int ((p2 &&& (2147483647 : Int32)) % (6 : Int32))), .val (.ref u), .val (.int (0 : Int32)), .val (.ref b), .val (.int (1 : Int32)), .val (.int (1 : Int32))] [(.int (1 : Int32))])) _
        exact retN X11 hx (t := .boolean) Bd.returns (by simp) (hb hby at_100) hr
      · show Q_rm0 Z p0 p1 p2 s_SALARY s_BONUS s_PERFORMANCE_BONUS s_COMMISSIONS s_DIRECTOR_FEES s_EMPLOYER ca cl h0 n0 _ T11.heap _
        rw [e11]
        exact ⟨rfl, N11⟩
    · skip
      obtain ⟨cq12, kq12, q12a, q12b, q12c⟩ := isOf hZ e9 Eb4
      obtain ⟨_, _, ⟨T12, L12, k12, n12⟩, -, X12, ⟨Lc12, hQ12, l12, y12, z12⟩, st12⟩ := X9.virtualBack hx (y := (⟨"com/example/deferline/deferline/ledger/AccountPart", "holds", "(ILcom/example/deferline/deferline/workspace/CreditSource;)Z"⟩ : MethodName)) (z := (⟨"com/example/deferline/deferline/ledger/AccountPart", "holds", "(ILcom/example/deferline/deferline/workspace/CreditSource;)Z"⟩ : MethodName)) hown (mvT hZ (hw _ (List.mem_of_getElem? (i := 29) rfl))) (mvT hZ (hw _ (List.mem_of_getElem? (i := 30) rfl))) (notFace_of_selects (args := #[]) (mvT hZ (hw _ (List.mem_of_getElem? (i := 32) rfl)))) (mvT hZ (hw _ (List.mem_of_getElem? (i := 32) rfl))) (mvT hZ (hw _ (List.mem_of_getElem? (i := 31) rfl))) (by decide) (backOf (W := 0) (rm6 l Z a0 hw [] b p1 u r p0 (0 : Int32) T4.heap n0 Z4 Fc4 Er4 Fv4 Eu2_5 Du2_6 (by decide)) hZ (hw _ (List.mem_of_getElem? (i := 33) rfl)) (hw _ (List.mem_of_getElem? (i := 10) rfl)) (by decide) (by decide)) q12a q12c (g := (mkF m 57 #[.val (.int p0), .val (.int p1), .val (.int p2), .val (.int ((p2 &&& (2147483647 : Int32)) % (6 : Int32))), .val (.ref u), .val (.int (0 : Int32)), .val (.ref b), .val (.int (1 : Int32)), .unset] [(.ref u), (.int p1), (.ref b)])) rfl (by rw [hml]; rfl) (Steps.refl _) (argsL := [(.int p1), (.ref u)]) (rest := []) (lenOf pd_8 rfl) rfl (by show 2 * 0 + _ ≤ _; exact Nat.le_of_eq rfl) (hb hby at_57) (fun _ _ => ⟨rfl, e9, (Nat.le_of_ble_eq_true rfl), (Nat.le_of_ble_eq_true rfl)⟩)
      dsimp only [Pt.U, Pt.locs, Pt.cells, Pt.slots] at X12 l12 y12 z12 st12 hQ12
      subst l12 y12 z12
      obtain ⟨hv12, N12q, e12⟩ := hQ12
      rw [own_hn hy] at hv12
      subst hv12
      have N12 := Fr.app N9 N12q
      have pre12s : ∀ t, Steps p.tables e below (T12.setTop (mkF m 60 #[.val (.int p0), .val (.int p1), .val (.int p2), .val (.int ((p2 &&& (2147483647 : Int32)) % (6 : Int32))), .val (.ref u), .val (.int (0 : Int32)), .val (.ref b), .val (.int (1 : Int32)), .unset] [(.int (0 : Int32))])) t → G t := fun t k => pre10 t (st12.trans k)
      obtain ⟨fs, hr, hrun, hended, hW, hsame⟩ := X12.leave (v := some (.int (1 : Int32))) (fun h => by rw [Bd.returns] at h; cases h)
      subst hG
      refine ⟨_, _, pre12s _ ?_, hrun, hended, _, _, rfl, ?_, ⟨_, rfl⟩, hW, hsame.mono (by decide) (by decide)⟩
      · skip
        show Steps p.tables e below (T12.setTop (mkF m 60 #[.val (.int p0), .val (.int p1), .val (.int p2), .val (.int ((p2 &&& (2147483647 : Int32)) % (6 : Int32))), .val (.ref u), .val (.int (0 : Int32)), .val (.ref b), .val (.int (1 : Int32)), .unset] [(.int (0 : Int32))])) _
        refine XS.iloadN X12.here hx rfl (hb hby at_60) rfl ?_
        show Steps p.tables e below (T12.setTop (mkF m 61 #[.val (.int p0), .val (.int p1), .val (.int p2), .val (.int ((p2 &&& (2147483647 : Int32)) % (6 : Int32))), .val (.ref u), .val (.int (0 : Int32)), .val (.ref b), .val (.int (1 : Int32)), .unset] [(.int p1), (.int (0 : Int32))])) _
        refine XS.iloadN X12.here hx rfl (hb hby at_61) rfl ?_
        show Steps p.tables e below (T12.setTop (mkF m 62 #[.val (.int p0), .val (.int p1), .val (.int p2), .val (.int ((p2 &&& (2147483647 : Int32)) % (6 : Int32))), .val (.ref u), .val (.int (0 : Int32)), .val (.ref b), .val (.int (1 : Int32)), .unset] [(.int p0), (.int p1), (.int (0 : Int32))])) _
        refine XS.icmpYes X12.here hx rfl (pc0 := 62) (pc' := 74) rfl (hb hby at_62) rfl (feq (fun q => hy q.symm)).2 (by decide) (by decide) ?_
        show Steps p.tables e below (T12.setTop (mkF m 74 #[.val (.int p0), .val (.int p1), .val (.int p2), .val (.int ((p2 &&& (2147483647 : Int32)) % (6 : Int32))), .val (.ref u), .val (.int (0 : Int32)), .val (.ref b), .val (.int (1 : Int32)), .unset] [(.int (0 : Int32))])) _
        refine XS.iconst X12.here hx rfl (hb hby at_74) ?_
        show Steps p.tables e below (T12.setTop (mkF m 75 #[.val (.int p0), .val (.int p1), .val (.int p2), .val (.int ((p2 &&& (2147483647 : Int32)) % (6 : Int32))), .val (.ref u), .val (.int (0 : Int32)), .val (.ref b), .val (.int (1 : Int32)), .unset] [(.int (0 : Int32)), (.int (0 : Int32))])) _
        refine XS.icmpNo X12.here hx rfl (hb hby at_75) rfl (teq (by decide : (0 : Int32) = (0 : Int32))).2 ?_
        show Steps p.tables e below (T12.setTop (mkF m 78 #[.val (.int p0), .val (.int p1), .val (.int p2), .val (.int ((p2 &&& (2147483647 : Int32)) % (6 : Int32))), .val (.ref u), .val (.int (0 : Int32)), .val (.ref b), .val (.int (1 : Int32)), .unset] [])) _
        refine XS.iconst X12.here hx rfl (hb hby at_78) ?_
        show Steps p.tables e below (T12.setTop (mkF m 79 #[.val (.int p0), .val (.int p1), .val (.int p2), .val (.int ((p2 &&& (2147483647 : Int32)) % (6 : Int32))), .val (.ref u), .val (.int (0 : Int32)), .val (.ref b), .val (.int (1 : Int32)), .unset] [(.int (1 : Int32))])) _
        refine XS.goto X12.here hx rfl (pc0 := 79) (pc' := 83) rfl (hb hby at_79) (by decide) (by decide) ?_
        show Steps p.tables e below (T12.setTop (mkF m 83 #[.val (.int p0), .val (.int p1), .val (.int p2), .val (.int ((p2 &&& (2147483647 : Int32)) % (6 : Int32))), .val (.ref u), .val (.int (0 : Int32)), .val (.ref b), .val (.int (1 : Int32)), .unset] [(.int (1 : Int32))])) _
        refine XS.istore X12.here hx rfl (hb hby at_83) rfl (l' := #[.val (.int p0), .val (.int p1), .val (.int p2), .val (.int ((p2 &&& (2147483647 : Int32)) % (6 : Int32))), .val (.ref u), .val (.int (0 : Int32)), .val (.ref b), .val (.int (1 : Int32)), .val (.int (1 : Int32))]) rfl ?_
        show Steps p.tables e below (T12.setTop (mkF m 85 #[.val (.int p0), .val (.int p1), .val (.int p2), .val (.int ((p2 &&& (2147483647 : Int32)) % (6 : Int32))), .val (.ref u), .val (.int (0 : Int32)), .val (.ref b), .val (.int (1 : Int32)), .val (.int (1 : Int32))] [])) _
        refine XS.iload X12.here hx rfl (hb hby at_85) rfl ?_
        show Steps p.tables e below (T12.setTop (mkF m 87 #[.val (.int p0), .val (.int p1), .val (.int p2), .val (.int ((p2 &&& (2147483647 : Int32)) % (6 : Int32))), .val (.ref u), .val (.int (0 : Int32)), .val (.ref b), .val (.int (1 : Int32)), .val (.int (1 : Int32))] [(.int (1 : Int32))])) _
        refine XS.ifNo X12.here hx rfl (hb hby at_87) rfl ((if0 _ _).trans (feq (by decide : ¬ ((1 : Int32) = (0 : Int32)))).1) ?_
        show Steps p.tables e below (T12.setTop (mkF m 90 #[.val (.int p0), .val (.int p1), .val (.int p2), .val (.int ((p2 &&& (2147483647 : Int32)) % (6 : Int32))), .val (.ref u), .val (.int (0 : Int32)), .val (.ref b), .val (.int (1 : Int32)), .val (.int (1 : Int32))] [])) _
        refine XS.iload X12.here hx rfl (hb hby at_90) rfl ?_
        show Steps p.tables e below (T12.setTop (mkF m 92 #[.val (.int p0), .val (.int p1), .val (.int p2), .val (.int ((p2 &&& (2147483647 : Int32)) % (6 : Int32))), .val (.ref u), .val (.int (0 : Int32)), .val (.ref b), .val (.int (1 : Int32)), .val (.int (1 : Int32))] [(.int (1 : Int32))])) _
        refine XS.ifNo X12.here hx rfl (hb hby at_92) rfl ((if0 _ _).trans (feq (by decide : ¬ ((1 : Int32) = (0 : Int32)))).1) ?_
        show Steps p.tables e below (T12.setTop (mkF m 95 #[.val (.int p0), .val (.int p1), .val (.int p2), .val (.int ((p2 &&& (2147483647 : Int32)) % (6 : Int32))), .val (.ref u), .val (.int (0 : Int32)), .val (.ref b), .val (.int (1 : Int32)), .val (.int (1 : Int32))] [])) _
        refine XS.iconst X12.here hx rfl (hb hby at_95) ?_
        show Steps p.tables e below (T12.setTop (mkF m 96 #[.val (.int p0), .val (.int p1), .val (.int p2), .val (.int ((p2 &&& (2147483647 : Int32)) % (6 : Int32))), .val (.ref u), .val (.int (0 : Int32)), .val (.ref b), .val (.int (1 : Int32)), .val (.int (1 : Int32))] [(.int (1 : Int32))])) _
        refine XS.goto X12.here hx rfl (pc0 := 96) (pc' := 100) rfl (hb hby at_96) (by decide) (by decide) ?_
        show Steps p.tables e below (T12.setTop (mkF m 100 #[.val (.int p0), .val (.int p1), .val (.int p2), .val (.int ((p2 &&& (2147483647 : Int32)) % (6 : Int32))), .val (.ref u), .val (.int (0 : Int32)), .val (.ref b), .val (.int (1 : Int32)), .val (.int (1 : Int32))] [(.int (1 : Int32))])) _
        exact retN X12 hx (t := .boolean) Bd.returns (by simp) (hb hby at_100) hr
      · show Q_rm0 Z p0 p1 p2 s_SALARY s_BONUS s_PERFORMANCE_BONUS s_COMMISSIONS s_DIRECTOR_FEES s_EMPLOYER ca cl h0 n0 _ T12.heap _
        rw [e12]
        exact ⟨rfl, N12⟩
  · skip
    obtain ⟨_, _, ⟨T13, L13, k13, n13⟩, -, X13, ⟨Lc13, hQ13, l13, y13, z13⟩, st13⟩ := Jvm.LawKit.callS X0 hx (y := (⟨"com/example/deferline/deferline/ledger/AccountPartDeferralsOfPinLaw", "source", "(I)Lcom/example/deferline/deferline/workspace/CreditSource;"⟩ : MethodName)) hown (mvT hZ (hw _ (List.mem_of_getElem? (i := 1) rfl))) (mvT hZ (hw _ (List.mem_of_getElem? (i := 2) rfl))) (mvT hZ (hw _ (List.mem_of_getElem? (i := 3) rfl))) (mvT hZ (hw _ (List.mem_of_getElem? (i := 4) rfl))) (by decide) (backOf (W := 0) (rm1 l Z a0 hw [] ((p2 &&& (2147483647 : Int32)) % (6 : Int32)) s_SALARY s_BONUS s_PERFORMANCE_BONUS s_COMMISSIONS s_DIRECTOR_FEES s_EMPLOYER h0 n0 Z0 (own_six p2) S_SALARY E_SALARY D_SALARY S_BONUS E_BONUS D_BONUS S_PERFORMANCE_BONUS E_PERFORMANCE_BONUS D_PERFORMANCE_BONUS S_COMMISSIONS E_COMMISSIONS D_COMMISSIONS S_DIRECTOR_FEES E_DIRECTOR_FEES D_DIRECTOR_FEES S_EMPLOYER E_EMPLOYER D_EMPLOYER) hZ (hw _ (List.mem_of_getElem? (i := 4) rfl)) (hw _ (List.mem_of_getElem? (i := 3) rfl)) (by decide) (by decide)) (g := (mkF m 9 #[.val (.int p0), .val (.int p1), .val (.int p2), .val (.int ((p2 &&& (2147483647 : Int32)) % (6 : Int32))), .unset, .unset, .unset, .unset, .unset] [(.int ((p2 &&& (2147483647 : Int32)) % (6 : Int32)))])) rfl (by rw [hml]; rfl) (argsL := [(.int ((p2 &&& (2147483647 : Int32)) % (6 : Int32)))]) (rest := []) (lenOf pd_6 rfl) rfl (by show 2 * 0 + _ ≤ _; exact Nat.le_of_eq rfl) (hb hby at_9) (fun _ _ => ⟨rfl, e0, (Nat.le_of_ble_eq_true rfl), (Nat.le_of_ble_eq_true rfl)⟩)
    dsimp only [Pt.U, Pt.locs, Pt.cells, Pt.slots] at X13 l13 y13 z13 st13 hQ13
    subst l13 y13 z13
    obtain ⟨u, rfl, N13q, e13, Eu13, Du13⟩ := hQ13
    rw [if_neg h5] at Du13
    have N13 := Fr.app N0 N13q
    have pre13s : ∀ t, Steps p.tables e below (T13.setTop (mkF m 12 #[.val (.int p0), .val (.int p1), .val (.int p2), .val (.int ((p2 &&& (2147483647 : Int32)) % (6 : Int32))), .unset, .unset, .unset, .unset, .unset] [(.ref u)])) t → G t := fun t k => pre1 t (st13 t k)
    have pre14 : ∀ t, Steps p.tables e below (T13.setTop (mkF m 27 #[.val (.int p0), .val (.int p1), .val (.int p2), .val (.int ((p2 &&& (2147483647 : Int32)) % (6 : Int32))), .val (.ref u), .val (.int (1 : Int32)), .unset, .unset, .unset] [(.int p0)])) t → G t := fun t k => pre13s t (by
      show Steps p.tables e below (T13.setTop (mkF m 12 #[.val (.int p0), .val (.int p1), .val (.int p2), .val (.int ((p2 &&& (2147483647 : Int32)) % (6 : Int32))), .unset, .unset, .unset, .unset, .unset] [(.ref u)])) _
      refine XS.astore X13.here hx rfl (hb hby at_12) rfl rfl (l' := #[.val (.int p0), .val (.int p1), .val (.int p2), .val (.int ((p2 &&& (2147483647 : Int32)) % (6 : Int32))), .val (.ref u), .unset, .unset, .unset, .unset]) rfl ?_
      show Steps p.tables e below (T13.setTop (mkF m 14 #[.val (.int p0), .val (.int p1), .val (.int p2), .val (.int ((p2 &&& (2147483647 : Int32)) % (6 : Int32))), .val (.ref u), .unset, .unset, .unset, .unset] [])) _
      refine XS.iloadN X13.here hx rfl (hb hby at_14) rfl ?_
      show Steps p.tables e below (T13.setTop (mkF m 15 #[.val (.int p0), .val (.int p1), .val (.int p2), .val (.int ((p2 &&& (2147483647 : Int32)) % (6 : Int32))), .val (.ref u), .unset, .unset, .unset, .unset] [(.int ((p2 &&& (2147483647 : Int32)) % (6 : Int32)))])) _
      refine XS.iconst X13.here hx rfl (hb hby at_15) ?_
      show Steps p.tables e below (T13.setTop (mkF m 16 #[.val (.int p0), .val (.int p1), .val (.int p2), .val (.int ((p2 &&& (2147483647 : Int32)) % (6 : Int32))), .val (.ref u), .unset, .unset, .unset, .unset] [(.int (5 : Int32)), (.int ((p2 &&& (2147483647 : Int32)) % (6 : Int32)))])) _
      refine XS.icmpNo X13.here hx rfl (hb hby at_16) rfl (feq h5).1 ?_
      show Steps p.tables e below (T13.setTop (mkF m 19 #[.val (.int p0), .val (.int p1), .val (.int p2), .val (.int ((p2 &&& (2147483647 : Int32)) % (6 : Int32))), .val (.ref u), .unset, .unset, .unset, .unset] [])) _
      refine XS.iconst X13.here hx rfl (hb hby at_19) ?_
      show Steps p.tables e below (T13.setTop (mkF m 20 #[.val (.int p0), .val (.int p1), .val (.int p2), .val (.int ((p2 &&& (2147483647 : Int32)) % (6 : Int32))), .val (.ref u), .unset, .unset, .unset, .unset] [(.int (1 : Int32))])) _
      refine XS.goto X13.here hx rfl (pc0 := 20) (pc' := 24) rfl (hb hby at_20) (by decide) (by decide) ?_
      show Steps p.tables e below (T13.setTop (mkF m 24 #[.val (.int p0), .val (.int p1), .val (.int p2), .val (.int ((p2 &&& (2147483647 : Int32)) % (6 : Int32))), .val (.ref u), .unset, .unset, .unset, .unset] [(.int (1 : Int32))])) _
      refine XS.istore X13.here hx rfl (hb hby at_24) rfl (l' := #[.val (.int p0), .val (.int p1), .val (.int p2), .val (.int ((p2 &&& (2147483647 : Int32)) % (6 : Int32))), .val (.ref u), .val (.int (1 : Int32)), .unset, .unset, .unset]) rfl ?_
      show Steps p.tables e below (T13.setTop (mkF m 26 #[.val (.int p0), .val (.int p1), .val (.int p2), .val (.int ((p2 &&& (2147483647 : Int32)) % (6 : Int32))), .val (.ref u), .val (.int (1 : Int32)), .unset, .unset, .unset] [])) _
      refine XS.iloadN X13.here hx rfl (hb hby at_26) rfl ?_
      exact k)
    obtain ⟨_, _, ⟨T15, L15, k15, n15⟩, -, X15, ⟨Lc15, hQ15, l15, y15, z15⟩, st15⟩ := Jvm.LawKit.callS X13 hx (y := (⟨"com/example/deferline/deferline/ledger/AccountPart", "deferralsOf", "(I)Lcom/example/deferline/deferline/ledger/AccountPart;"⟩ : MethodName)) hown (mvT hZ (hw _ (List.mem_of_getElem? (i := 8) rfl))) (mvT hZ (hw _ (List.mem_of_getElem? (i := 9) rfl))) (mvT hZ (hw _ (List.mem_of_getElem? (i := 10) rfl))) (mvT hZ (hw _ (List.mem_of_getElem? (i := 11) rfl))) (by decide) (backOf (W := 0) (rm2 l Z a0 hw [] p0 ca cl h0 n0 Z0 S1 S0 hB Ol) hZ (hw _ (List.mem_of_getElem? (i := 11) rfl)) (hw _ (List.mem_of_getElem? (i := 10) rfl)) (by decide) (by decide)) (g := (mkF m 27 #[.val (.int p0), .val (.int p1), .val (.int p2), .val (.int ((p2 &&& (2147483647 : Int32)) % (6 : Int32))), .val (.ref u), .val (.int (1 : Int32)), .unset, .unset, .unset] [(.int p0)])) rfl (by rw [hml]; rfl) (argsL := [(.int p0)]) (rest := []) (lenOf pd_7 rfl) rfl (by show 2 * 0 + _ ≤ _; exact Nat.le_of_eq rfl) (hb hby at_27) (fun _ _ => ⟨rfl, e13, (Nat.le_of_ble_eq_true rfl), (Nat.le_of_ble_eq_true rfl)⟩)
    dsimp only [Pt.U, Pt.locs, Pt.cells, Pt.slots] at X15 l15 y15 z15 st15 hQ15
    subst l15 y15 z15
    obtain ⟨b, r, rfl, N15q, K15, Eb15, Fc15, Er15, Fv15⟩ := hQ15
    have N15 := Fr.app N13 N15q
    have pre15s : ∀ t, Steps p.tables e below (T15.setTop (mkF m 30 #[.val (.int p0), .val (.int p1), .val (.int p2), .val (.int ((p2 &&& (2147483647 : Int32)) % (6 : Int32))), .val (.ref u), .val (.int (1 : Int32)), .unset, .unset, .unset] [(.ref b)])) t → G t := fun t k => pre14 t (st15 t k)
    have Z15 : n0 ≤ T15.heap.size := Nat.le_trans Z0 K15.1
    have Eu13_16 := Eu13.keep K15
    have Du13_17 := Du13.keep K15 nin0
    have Ol18 := Ol.keep K15 all0
    have pre19 : ∀ t, Steps p.tables e below (T15.setTop (mkF m 37 #[.val (.int p0), .val (.int p1), .val (.int p2), .val (.int ((p2 &&& (2147483647 : Int32)) % (6 : Int32))), .val (.ref u), .val (.int (1 : Int32)), .val (.ref b), .unset, .unset] [(.ref u), (.int p0), (.ref b)])) t → G t := fun t k => pre15s t (by
      show Steps p.tables e below (T15.setTop (mkF m 30 #[.val (.int p0), .val (.int p1), .val (.int p2), .val (.int ((p2 &&& (2147483647 : Int32)) % (6 : Int32))), .val (.ref u), .val (.int (1 : Int32)), .unset, .unset, .unset] [(.ref b)])) _
      refine XS.astore X15.here hx rfl (hb hby at_30) rfl rfl (l' := #[.val (.int p0), .val (.int p1), .val (.int p2), .val (.int ((p2 &&& (2147483647 : Int32)) % (6 : Int32))), .val (.ref u), .val (.int (1 : Int32)), .val (.ref b), .unset, .unset]) rfl ?_
      show Steps p.tables e below (T15.setTop (mkF m 32 #[.val (.int p0), .val (.int p1), .val (.int p2), .val (.int ((p2 &&& (2147483647 : Int32)) % (6 : Int32))), .val (.ref u), .val (.int (1 : Int32)), .val (.ref b), .unset, .unset] [])) _
      refine XS.aload X15.here hx rfl (hb hby at_32) rfl rfl ?_
      show Steps p.tables e below (T15.setTop (mkF m 34 #[.val (.int p0), .val (.int p1), .val (.int p2), .val (.int ((p2 &&& (2147483647 : Int32)) % (6 : Int32))), .val (.ref u), .val (.int (1 : Int32)), .val (.ref b), .unset, .unset] [(.ref b)])) _
      refine XS.iloadN X15.here hx rfl (hb hby at_34) rfl ?_
      show Steps p.tables e below (T15.setTop (mkF m 35 #[.val (.int p0), .val (.int p1), .val (.int p2), .val (.int ((p2 &&& (2147483647 : Int32)) % (6 : Int32))), .val (.ref u), .val (.int (1 : Int32)), .val (.ref b), .unset, .unset] [(.int p0), (.ref b)])) _
      refine XS.aload X15.here hx rfl (hb hby at_35) rfl rfl ?_
      exact k)
    obtain ⟨cq20, kq20, q20a, q20b, q20c⟩ := isOf hZ rfl Eb15
    obtain ⟨_, _, ⟨T20, L20, k20, n20⟩, -, X20, ⟨Lc20, hQ20, l20, y20, z20⟩, st20⟩ := X15.virtualBack hx (y := (⟨"com/example/deferline/deferline/ledger/AccountPart", "holds", "(ILcom/example/deferline/deferline/workspace/CreditSource;)Z"⟩ : MethodName)) (z := (⟨"com/example/deferline/deferline/ledger/AccountPart", "holds", "(ILcom/example/deferline/deferline/workspace/CreditSource;)Z"⟩ : MethodName)) hown (mvT hZ (hw _ (List.mem_of_getElem? (i := 29) rfl))) (mvT hZ (hw _ (List.mem_of_getElem? (i := 30) rfl))) (notFace_of_selects (args := #[]) (mvT hZ (hw _ (List.mem_of_getElem? (i := 32) rfl)))) (mvT hZ (hw _ (List.mem_of_getElem? (i := 32) rfl))) (mvT hZ (hw _ (List.mem_of_getElem? (i := 31) rfl))) (by decide) (backOf (W := 0) (rm6 l Z a0 hw [] b p0 u r p0 (1 : Int32) T15.heap n0 Z15 Fc15 Er15 Fv15 Eu13_16 Du13_17 (by decide)) hZ (hw _ (List.mem_of_getElem? (i := 33) rfl)) (hw _ (List.mem_of_getElem? (i := 10) rfl)) (by decide) (by decide)) q20a q20c (g := (mkF m 37 #[.val (.int p0), .val (.int p1), .val (.int p2), .val (.int ((p2 &&& (2147483647 : Int32)) % (6 : Int32))), .val (.ref u), .val (.int (1 : Int32)), .val (.ref b), .unset, .unset] [(.ref u), (.int p0), (.ref b)])) rfl (by rw [hml]; rfl) (Steps.refl _) (argsL := [(.int p0), (.ref u)]) (rest := []) (lenOf pd_8 rfl) rfl (by show 2 * 0 + _ ≤ _; exact Nat.le_of_eq rfl) (hb hby at_37) (fun _ _ => ⟨rfl, rfl, (Nat.le_of_ble_eq_true rfl), (Nat.le_of_ble_eq_true rfl)⟩)
    dsimp only [Pt.U, Pt.locs, Pt.cells, Pt.slots] at X20 l20 y20 z20 st20 hQ20
    subst l20 y20 z20
    obtain ⟨hv20, N20q, e20⟩ := hQ20
    rw [own_h1] at hv20
    subst hv20
    have N20 := Fr.app N15 N20q
    have pre20s : ∀ t, Steps p.tables e below (T20.setTop (mkF m 40 #[.val (.int p0), .val (.int p1), .val (.int p2), .val (.int ((p2 &&& (2147483647 : Int32)) % (6 : Int32))), .val (.ref u), .val (.int (1 : Int32)), .val (.ref b), .unset, .unset] [(.int (1 : Int32))])) t → G t := fun t k => pre19 t (st20.trans k)
    have pre21 : ∀ t, Steps p.tables e below (T20.setTop (mkF m 57 #[.val (.int p0), .val (.int p1), .val (.int p2), .val (.int ((p2 &&& (2147483647 : Int32)) % (6 : Int32))), .val (.ref u), .val (.int (1 : Int32)), .val (.ref b), .val (.int (1 : Int32)), .unset] [(.ref u), (.int p1), (.ref b)])) t → G t := fun t k => pre20s t (by
      show Steps p.tables e below (T20.setTop (mkF m 40 #[.val (.int p0), .val (.int p1), .val (.int p2), .val (.int ((p2 &&& (2147483647 : Int32)) % (6 : Int32))), .val (.ref u), .val (.int (1 : Int32)), .val (.ref b), .unset, .unset] [(.int (1 : Int32))])) _
      refine XS.iload X20.here hx rfl (hb hby at_40) rfl ?_
      show Steps p.tables e below (T20.setTop (mkF m 42 #[.val (.int p0), .val (.int p1), .val (.int p2), .val (.int ((p2 &&& (2147483647 : Int32)) % (6 : Int32))), .val (.ref u), .val (.int (1 : Int32)), .val (.ref b), .unset, .unset] [(.int (1 : Int32)), (.int (1 : Int32))])) _
      refine XS.icmpNo X20.here hx rfl (hb hby at_42) rfl (teq (by decide : (1 : Int32) = (1 : Int32))).2 ?_
      show Steps p.tables e below (T20.setTop (mkF m 45 #[.val (.int p0), .val (.int p1), .val (.int p2), .val (.int ((p2 &&& (2147483647 : Int32)) % (6 : Int32))), .val (.ref u), .val (.int (1 : Int32)), .val (.ref b), .unset, .unset] [])) _
      refine XS.iconst X20.here hx rfl (hb hby at_45) ?_
      show Steps p.tables e below (T20.setTop (mkF m 46 #[.val (.int p0), .val (.int p1), .val (.int p2), .val (.int ((p2 &&& (2147483647 : Int32)) % (6 : Int32))), .val (.ref u), .val (.int (1 : Int32)), .val (.ref b), .unset, .unset] [(.int (1 : Int32))])) _
      refine XS.goto X20.here hx rfl (pc0 := 46) (pc' := 50) rfl (hb hby at_46) (by decide) (by decide) ?_
      show Steps p.tables e below (T20.setTop (mkF m 50 #[.val (.int p0), .val (.int p1), .val (.int p2), .val (.int ((p2 &&& (2147483647 : Int32)) % (6 : Int32))), .val (.ref u), .val (.int (1 : Int32)), .val (.ref b), .unset, .unset] [(.int (1 : Int32))])) _
      refine XS.istore X20.here hx rfl (hb hby at_50) rfl (l' := #[.val (.int p0), .val (.int p1), .val (.int p2), .val (.int ((p2 &&& (2147483647 : Int32)) % (6 : Int32))), .val (.ref u), .val (.int (1 : Int32)), .val (.ref b), .val (.int (1 : Int32)), .unset]) rfl ?_
      show Steps p.tables e below (T20.setTop (mkF m 52 #[.val (.int p0), .val (.int p1), .val (.int p2), .val (.int ((p2 &&& (2147483647 : Int32)) % (6 : Int32))), .val (.ref u), .val (.int (1 : Int32)), .val (.ref b), .val (.int (1 : Int32)), .unset] [])) _
      refine XS.aload X20.here hx rfl (hb hby at_52) rfl rfl ?_
      show Steps p.tables e below (T20.setTop (mkF m 54 #[.val (.int p0), .val (.int p1), .val (.int p2), .val (.int ((p2 &&& (2147483647 : Int32)) % (6 : Int32))), .val (.ref u), .val (.int (1 : Int32)), .val (.ref b), .val (.int (1 : Int32)), .unset] [(.ref b)])) _
      refine XS.iloadN X20.here hx rfl (hb hby at_54) rfl ?_
      show Steps p.tables e below (T20.setTop (mkF m 55 #[.val (.int p0), .val (.int p1), .val (.int p2), .val (.int ((p2 &&& (2147483647 : Int32)) % (6 : Int32))), .val (.ref u), .val (.int (1 : Int32)), .val (.ref b), .val (.int (1 : Int32)), .unset] [(.int p1), (.ref b)])) _
      refine XS.aload X20.here hx rfl (hb hby at_55) rfl rfl ?_
      exact k)
    by_cases hy : p0 = p1
    · skip
      obtain ⟨cq22, kq22, q22a, q22b, q22c⟩ := isOf hZ e20 Eb15
      obtain ⟨_, _, ⟨T22, L22, k22, n22⟩, -, X22, ⟨Lc22, hQ22, l22, y22, z22⟩, st22⟩ := X20.virtualBack hx (y := (⟨"com/example/deferline/deferline/ledger/AccountPart", "holds", "(ILcom/example/deferline/deferline/workspace/CreditSource;)Z"⟩ : MethodName)) (z := (⟨"com/example/deferline/deferline/ledger/AccountPart", "holds", "(ILcom/example/deferline/deferline/workspace/CreditSource;)Z"⟩ : MethodName)) hown (mvT hZ (hw _ (List.mem_of_getElem? (i := 29) rfl))) (mvT hZ (hw _ (List.mem_of_getElem? (i := 30) rfl))) (notFace_of_selects (args := #[]) (mvT hZ (hw _ (List.mem_of_getElem? (i := 32) rfl)))) (mvT hZ (hw _ (List.mem_of_getElem? (i := 32) rfl))) (mvT hZ (hw _ (List.mem_of_getElem? (i := 31) rfl))) (by decide) (backOf (W := 0) (rm6 l Z a0 hw [] b p1 u r p0 (1 : Int32) T15.heap n0 Z15 Fc15 Er15 Fv15 Eu13_16 Du13_17 (by decide)) hZ (hw _ (List.mem_of_getElem? (i := 33) rfl)) (hw _ (List.mem_of_getElem? (i := 10) rfl)) (by decide) (by decide)) q22a q22c (g := (mkF m 57 #[.val (.int p0), .val (.int p1), .val (.int p2), .val (.int ((p2 &&& (2147483647 : Int32)) % (6 : Int32))), .val (.ref u), .val (.int (1 : Int32)), .val (.ref b), .val (.int (1 : Int32)), .unset] [(.ref u), (.int p1), (.ref b)])) rfl (by rw [hml]; rfl) (Steps.refl _) (argsL := [(.int p1), (.ref u)]) (rest := []) (lenOf pd_8 rfl) rfl (by show 2 * 0 + _ ≤ _; exact Nat.le_of_eq rfl) (hb hby at_57) (fun _ _ => ⟨rfl, e20, (Nat.le_of_ble_eq_true rfl), (Nat.le_of_ble_eq_true rfl)⟩)
      dsimp only [Pt.U, Pt.locs, Pt.cells, Pt.slots] at X22 l22 y22 z22 st22 hQ22
      subst l22 y22 z22
      obtain ⟨hv22, N22q, e22⟩ := hQ22
      rw [← hy, own_h1] at hv22
      subst hv22
      have N22 := Fr.app N20 N22q
      have pre22s : ∀ t, Steps p.tables e below (T22.setTop (mkF m 60 #[.val (.int p0), .val (.int p1), .val (.int p2), .val (.int ((p2 &&& (2147483647 : Int32)) % (6 : Int32))), .val (.ref u), .val (.int (1 : Int32)), .val (.ref b), .val (.int (1 : Int32)), .unset] [(.int (1 : Int32))])) t → G t := fun t k => pre21 t (st22.trans k)
      obtain ⟨fs, hr, hrun, hended, hW, hsame⟩ := X22.leave (v := some (.int (1 : Int32))) (fun h => by rw [Bd.returns] at h; cases h)
      subst hG
      refine ⟨_, _, pre22s _ ?_, hrun, hended, _, _, rfl, ?_, ⟨_, rfl⟩, hW, hsame.mono (by decide) (by decide)⟩
      · skip
        show Steps p.tables e below (T22.setTop (mkF m 60 #[.val (.int p0), .val (.int p1), .val (.int p2), .val (.int ((p2 &&& (2147483647 : Int32)) % (6 : Int32))), .val (.ref u), .val (.int (1 : Int32)), .val (.ref b), .val (.int (1 : Int32)), .unset] [(.int (1 : Int32))])) _
        refine XS.iloadN X22.here hx rfl (hb hby at_60) rfl ?_
        show Steps p.tables e below (T22.setTop (mkF m 61 #[.val (.int p0), .val (.int p1), .val (.int p2), .val (.int ((p2 &&& (2147483647 : Int32)) % (6 : Int32))), .val (.ref u), .val (.int (1 : Int32)), .val (.ref b), .val (.int (1 : Int32)), .unset] [(.int p1), (.int (1 : Int32))])) _
        refine XS.iloadN X22.here hx rfl (hb hby at_61) rfl ?_
        show Steps p.tables e below (T22.setTop (mkF m 62 #[.val (.int p0), .val (.int p1), .val (.int p2), .val (.int ((p2 &&& (2147483647 : Int32)) % (6 : Int32))), .val (.ref u), .val (.int (1 : Int32)), .val (.ref b), .val (.int (1 : Int32)), .unset] [(.int p0), (.int p1), (.int (1 : Int32))])) _
        refine XS.icmpNo X22.here hx rfl (hb hby at_62) rfl (teq hy.symm).2 ?_
        show Steps p.tables e below (T22.setTop (mkF m 65 #[.val (.int p0), .val (.int p1), .val (.int p2), .val (.int ((p2 &&& (2147483647 : Int32)) % (6 : Int32))), .val (.ref u), .val (.int (1 : Int32)), .val (.ref b), .val (.int (1 : Int32)), .unset] [(.int (1 : Int32))])) _
        refine XS.iload X22.here hx rfl (hb hby at_65) rfl ?_
        show Steps p.tables e below (T22.setTop (mkF m 67 #[.val (.int p0), .val (.int p1), .val (.int p2), .val (.int ((p2 &&& (2147483647 : Int32)) % (6 : Int32))), .val (.ref u), .val (.int (1 : Int32)), .val (.ref b), .val (.int (1 : Int32)), .unset] [(.int (1 : Int32)), (.int (1 : Int32))])) _
        refine XS.ifNo X22.here hx rfl (hb hby at_67) rfl ((if0 _ _).trans (feq (by decide : ¬ ((1 : Int32) = (0 : Int32)))).1) ?_
        show Steps p.tables e below (T22.setTop (mkF m 70 #[.val (.int p0), .val (.int p1), .val (.int p2), .val (.int ((p2 &&& (2147483647 : Int32)) % (6 : Int32))), .val (.ref u), .val (.int (1 : Int32)), .val (.ref b), .val (.int (1 : Int32)), .unset] [(.int (1 : Int32))])) _
        refine XS.iconst X22.here hx rfl (hb hby at_70) ?_
        show Steps p.tables e below (T22.setTop (mkF m 71 #[.val (.int p0), .val (.int p1), .val (.int p2), .val (.int ((p2 &&& (2147483647 : Int32)) % (6 : Int32))), .val (.ref u), .val (.int (1 : Int32)), .val (.ref b), .val (.int (1 : Int32)), .unset] [(.int (1 : Int32)), (.int (1 : Int32))])) _
        refine XS.goto X22.here hx rfl (pc0 := 71) (pc' := 75) rfl (hb hby at_71) (by decide) (by decide) ?_
        show Steps p.tables e below (T22.setTop (mkF m 75 #[.val (.int p0), .val (.int p1), .val (.int p2), .val (.int ((p2 &&& (2147483647 : Int32)) % (6 : Int32))), .val (.ref u), .val (.int (1 : Int32)), .val (.ref b), .val (.int (1 : Int32)), .unset] [(.int (1 : Int32)), (.int (1 : Int32))])) _
        refine XS.icmpNo X22.here hx rfl (hb hby at_75) rfl (teq (by decide : (1 : Int32) = (1 : Int32))).2 ?_
        show Steps p.tables e below (T22.setTop (mkF m 78 #[.val (.int p0), .val (.int p1), .val (.int p2), .val (.int ((p2 &&& (2147483647 : Int32)) % (6 : Int32))), .val (.ref u), .val (.int (1 : Int32)), .val (.ref b), .val (.int (1 : Int32)), .unset] [])) _
        refine XS.iconst X22.here hx rfl (hb hby at_78) ?_
        show Steps p.tables e below (T22.setTop (mkF m 79 #[.val (.int p0), .val (.int p1), .val (.int p2), .val (.int ((p2 &&& (2147483647 : Int32)) % (6 : Int32))), .val (.ref u), .val (.int (1 : Int32)), .val (.ref b), .val (.int (1 : Int32)), .unset] [(.int (1 : Int32))])) _
        refine XS.goto X22.here hx rfl (pc0 := 79) (pc' := 83) rfl (hb hby at_79) (by decide) (by decide) ?_
        show Steps p.tables e below (T22.setTop (mkF m 83 #[.val (.int p0), .val (.int p1), .val (.int p2), .val (.int ((p2 &&& (2147483647 : Int32)) % (6 : Int32))), .val (.ref u), .val (.int (1 : Int32)), .val (.ref b), .val (.int (1 : Int32)), .unset] [(.int (1 : Int32))])) _
        refine XS.istore X22.here hx rfl (hb hby at_83) rfl (l' := #[.val (.int p0), .val (.int p1), .val (.int p2), .val (.int ((p2 &&& (2147483647 : Int32)) % (6 : Int32))), .val (.ref u), .val (.int (1 : Int32)), .val (.ref b), .val (.int (1 : Int32)), .val (.int (1 : Int32))]) rfl ?_
        show Steps p.tables e below (T22.setTop (mkF m 85 #[.val (.int p0), .val (.int p1), .val (.int p2), .val (.int ((p2 &&& (2147483647 : Int32)) % (6 : Int32))), .val (.ref u), .val (.int (1 : Int32)), .val (.ref b), .val (.int (1 : Int32)), .val (.int (1 : Int32))] [])) _
        refine XS.iload X22.here hx rfl (hb hby at_85) rfl ?_
        show Steps p.tables e below (T22.setTop (mkF m 87 #[.val (.int p0), .val (.int p1), .val (.int p2), .val (.int ((p2 &&& (2147483647 : Int32)) % (6 : Int32))), .val (.ref u), .val (.int (1 : Int32)), .val (.ref b), .val (.int (1 : Int32)), .val (.int (1 : Int32))] [(.int (1 : Int32))])) _
        refine XS.ifNo X22.here hx rfl (hb hby at_87) rfl ((if0 _ _).trans (feq (by decide : ¬ ((1 : Int32) = (0 : Int32)))).1) ?_
        show Steps p.tables e below (T22.setTop (mkF m 90 #[.val (.int p0), .val (.int p1), .val (.int p2), .val (.int ((p2 &&& (2147483647 : Int32)) % (6 : Int32))), .val (.ref u), .val (.int (1 : Int32)), .val (.ref b), .val (.int (1 : Int32)), .val (.int (1 : Int32))] [])) _
        refine XS.iload X22.here hx rfl (hb hby at_90) rfl ?_
        show Steps p.tables e below (T22.setTop (mkF m 92 #[.val (.int p0), .val (.int p1), .val (.int p2), .val (.int ((p2 &&& (2147483647 : Int32)) % (6 : Int32))), .val (.ref u), .val (.int (1 : Int32)), .val (.ref b), .val (.int (1 : Int32)), .val (.int (1 : Int32))] [(.int (1 : Int32))])) _
        refine XS.ifNo X22.here hx rfl (hb hby at_92) rfl ((if0 _ _).trans (feq (by decide : ¬ ((1 : Int32) = (0 : Int32)))).1) ?_
        show Steps p.tables e below (T22.setTop (mkF m 95 #[.val (.int p0), .val (.int p1), .val (.int p2), .val (.int ((p2 &&& (2147483647 : Int32)) % (6 : Int32))), .val (.ref u), .val (.int (1 : Int32)), .val (.ref b), .val (.int (1 : Int32)), .val (.int (1 : Int32))] [])) _
        refine XS.iconst X22.here hx rfl (hb hby at_95) ?_
        show Steps p.tables e below (T22.setTop (mkF m 96 #[.val (.int p0), .val (.int p1), .val (.int p2), .val (.int ((p2 &&& (2147483647 : Int32)) % (6 : Int32))), .val (.ref u), .val (.int (1 : Int32)), .val (.ref b), .val (.int (1 : Int32)), .val (.int (1 : Int32))] [(.int (1 : Int32))])) _
        refine XS.goto X22.here hx rfl (pc0 := 96) (pc' := 100) rfl (hb hby at_96) (by decide) (by decide) ?_
        show Steps p.tables e below (T22.setTop (mkF m 100 #[.val (.int p0), .val (.int p1), .val (.int p2), .val (.int ((p2 &&& (2147483647 : Int32)) % (6 : Int32))), .val (.ref u), .val (.int (1 : Int32)), .val (.ref b), .val (.int (1 : Int32)), .val (.int (1 : Int32))] [(.int (1 : Int32))])) _
        exact retN X22 hx (t := .boolean) Bd.returns (by simp) (hb hby at_100) hr
      · show Q_rm0 Z p0 p1 p2 s_SALARY s_BONUS s_PERFORMANCE_BONUS s_COMMISSIONS s_DIRECTOR_FEES s_EMPLOYER ca cl h0 n0 _ T22.heap _
        rw [e22]
        exact ⟨rfl, N22⟩
    · skip
      obtain ⟨cq23, kq23, q23a, q23b, q23c⟩ := isOf hZ e20 Eb15
      obtain ⟨_, _, ⟨T23, L23, k23, n23⟩, -, X23, ⟨Lc23, hQ23, l23, y23, z23⟩, st23⟩ := X20.virtualBack hx (y := (⟨"com/example/deferline/deferline/ledger/AccountPart", "holds", "(ILcom/example/deferline/deferline/workspace/CreditSource;)Z"⟩ : MethodName)) (z := (⟨"com/example/deferline/deferline/ledger/AccountPart", "holds", "(ILcom/example/deferline/deferline/workspace/CreditSource;)Z"⟩ : MethodName)) hown (mvT hZ (hw _ (List.mem_of_getElem? (i := 29) rfl))) (mvT hZ (hw _ (List.mem_of_getElem? (i := 30) rfl))) (notFace_of_selects (args := #[]) (mvT hZ (hw _ (List.mem_of_getElem? (i := 32) rfl)))) (mvT hZ (hw _ (List.mem_of_getElem? (i := 32) rfl))) (mvT hZ (hw _ (List.mem_of_getElem? (i := 31) rfl))) (by decide) (backOf (W := 0) (rm6 l Z a0 hw [] b p1 u r p0 (1 : Int32) T15.heap n0 Z15 Fc15 Er15 Fv15 Eu13_16 Du13_17 (by decide)) hZ (hw _ (List.mem_of_getElem? (i := 33) rfl)) (hw _ (List.mem_of_getElem? (i := 10) rfl)) (by decide) (by decide)) q23a q23c (g := (mkF m 57 #[.val (.int p0), .val (.int p1), .val (.int p2), .val (.int ((p2 &&& (2147483647 : Int32)) % (6 : Int32))), .val (.ref u), .val (.int (1 : Int32)), .val (.ref b), .val (.int (1 : Int32)), .unset] [(.ref u), (.int p1), (.ref b)])) rfl (by rw [hml]; rfl) (Steps.refl _) (argsL := [(.int p1), (.ref u)]) (rest := []) (lenOf pd_8 rfl) rfl (by show 2 * 0 + _ ≤ _; exact Nat.le_of_eq rfl) (hb hby at_57) (fun _ _ => ⟨rfl, e20, (Nat.le_of_ble_eq_true rfl), (Nat.le_of_ble_eq_true rfl)⟩)
      dsimp only [Pt.U, Pt.locs, Pt.cells, Pt.slots] at X23 l23 y23 z23 st23 hQ23
      subst l23 y23 z23
      obtain ⟨hv23, N23q, e23⟩ := hQ23
      rw [own_hn hy] at hv23
      subst hv23
      have N23 := Fr.app N20 N23q
      have pre23s : ∀ t, Steps p.tables e below (T23.setTop (mkF m 60 #[.val (.int p0), .val (.int p1), .val (.int p2), .val (.int ((p2 &&& (2147483647 : Int32)) % (6 : Int32))), .val (.ref u), .val (.int (1 : Int32)), .val (.ref b), .val (.int (1 : Int32)), .unset] [(.int (0 : Int32))])) t → G t := fun t k => pre21 t (st23.trans k)
      obtain ⟨fs, hr, hrun, hended, hW, hsame⟩ := X23.leave (v := some (.int (1 : Int32))) (fun h => by rw [Bd.returns] at h; cases h)
      subst hG
      refine ⟨_, _, pre23s _ ?_, hrun, hended, _, _, rfl, ?_, ⟨_, rfl⟩, hW, hsame.mono (by decide) (by decide)⟩
      · skip
        show Steps p.tables e below (T23.setTop (mkF m 60 #[.val (.int p0), .val (.int p1), .val (.int p2), .val (.int ((p2 &&& (2147483647 : Int32)) % (6 : Int32))), .val (.ref u), .val (.int (1 : Int32)), .val (.ref b), .val (.int (1 : Int32)), .unset] [(.int (0 : Int32))])) _
        refine XS.iloadN X23.here hx rfl (hb hby at_60) rfl ?_
        show Steps p.tables e below (T23.setTop (mkF m 61 #[.val (.int p0), .val (.int p1), .val (.int p2), .val (.int ((p2 &&& (2147483647 : Int32)) % (6 : Int32))), .val (.ref u), .val (.int (1 : Int32)), .val (.ref b), .val (.int (1 : Int32)), .unset] [(.int p1), (.int (0 : Int32))])) _
        refine XS.iloadN X23.here hx rfl (hb hby at_61) rfl ?_
        show Steps p.tables e below (T23.setTop (mkF m 62 #[.val (.int p0), .val (.int p1), .val (.int p2), .val (.int ((p2 &&& (2147483647 : Int32)) % (6 : Int32))), .val (.ref u), .val (.int (1 : Int32)), .val (.ref b), .val (.int (1 : Int32)), .unset] [(.int p0), (.int p1), (.int (0 : Int32))])) _
        refine XS.icmpYes X23.here hx rfl (pc0 := 62) (pc' := 74) rfl (hb hby at_62) rfl (feq (fun q => hy q.symm)).2 (by decide) (by decide) ?_
        show Steps p.tables e below (T23.setTop (mkF m 74 #[.val (.int p0), .val (.int p1), .val (.int p2), .val (.int ((p2 &&& (2147483647 : Int32)) % (6 : Int32))), .val (.ref u), .val (.int (1 : Int32)), .val (.ref b), .val (.int (1 : Int32)), .unset] [(.int (0 : Int32))])) _
        refine XS.iconst X23.here hx rfl (hb hby at_74) ?_
        show Steps p.tables e below (T23.setTop (mkF m 75 #[.val (.int p0), .val (.int p1), .val (.int p2), .val (.int ((p2 &&& (2147483647 : Int32)) % (6 : Int32))), .val (.ref u), .val (.int (1 : Int32)), .val (.ref b), .val (.int (1 : Int32)), .unset] [(.int (0 : Int32)), (.int (0 : Int32))])) _
        refine XS.icmpNo X23.here hx rfl (hb hby at_75) rfl (teq (by decide : (0 : Int32) = (0 : Int32))).2 ?_
        show Steps p.tables e below (T23.setTop (mkF m 78 #[.val (.int p0), .val (.int p1), .val (.int p2), .val (.int ((p2 &&& (2147483647 : Int32)) % (6 : Int32))), .val (.ref u), .val (.int (1 : Int32)), .val (.ref b), .val (.int (1 : Int32)), .unset] [])) _
        refine XS.iconst X23.here hx rfl (hb hby at_78) ?_
        show Steps p.tables e below (T23.setTop (mkF m 79 #[.val (.int p0), .val (.int p1), .val (.int p2), .val (.int ((p2 &&& (2147483647 : Int32)) % (6 : Int32))), .val (.ref u), .val (.int (1 : Int32)), .val (.ref b), .val (.int (1 : Int32)), .unset] [(.int (1 : Int32))])) _
        refine XS.goto X23.here hx rfl (pc0 := 79) (pc' := 83) rfl (hb hby at_79) (by decide) (by decide) ?_
        show Steps p.tables e below (T23.setTop (mkF m 83 #[.val (.int p0), .val (.int p1), .val (.int p2), .val (.int ((p2 &&& (2147483647 : Int32)) % (6 : Int32))), .val (.ref u), .val (.int (1 : Int32)), .val (.ref b), .val (.int (1 : Int32)), .unset] [(.int (1 : Int32))])) _
        refine XS.istore X23.here hx rfl (hb hby at_83) rfl (l' := #[.val (.int p0), .val (.int p1), .val (.int p2), .val (.int ((p2 &&& (2147483647 : Int32)) % (6 : Int32))), .val (.ref u), .val (.int (1 : Int32)), .val (.ref b), .val (.int (1 : Int32)), .val (.int (1 : Int32))]) rfl ?_
        show Steps p.tables e below (T23.setTop (mkF m 85 #[.val (.int p0), .val (.int p1), .val (.int p2), .val (.int ((p2 &&& (2147483647 : Int32)) % (6 : Int32))), .val (.ref u), .val (.int (1 : Int32)), .val (.ref b), .val (.int (1 : Int32)), .val (.int (1 : Int32))] [])) _
        refine XS.iload X23.here hx rfl (hb hby at_85) rfl ?_
        show Steps p.tables e below (T23.setTop (mkF m 87 #[.val (.int p0), .val (.int p1), .val (.int p2), .val (.int ((p2 &&& (2147483647 : Int32)) % (6 : Int32))), .val (.ref u), .val (.int (1 : Int32)), .val (.ref b), .val (.int (1 : Int32)), .val (.int (1 : Int32))] [(.int (1 : Int32))])) _
        refine XS.ifNo X23.here hx rfl (hb hby at_87) rfl ((if0 _ _).trans (feq (by decide : ¬ ((1 : Int32) = (0 : Int32)))).1) ?_
        show Steps p.tables e below (T23.setTop (mkF m 90 #[.val (.int p0), .val (.int p1), .val (.int p2), .val (.int ((p2 &&& (2147483647 : Int32)) % (6 : Int32))), .val (.ref u), .val (.int (1 : Int32)), .val (.ref b), .val (.int (1 : Int32)), .val (.int (1 : Int32))] [])) _
        refine XS.iload X23.here hx rfl (hb hby at_90) rfl ?_
        show Steps p.tables e below (T23.setTop (mkF m 92 #[.val (.int p0), .val (.int p1), .val (.int p2), .val (.int ((p2 &&& (2147483647 : Int32)) % (6 : Int32))), .val (.ref u), .val (.int (1 : Int32)), .val (.ref b), .val (.int (1 : Int32)), .val (.int (1 : Int32))] [(.int (1 : Int32))])) _
        refine XS.ifNo X23.here hx rfl (hb hby at_92) rfl ((if0 _ _).trans (feq (by decide : ¬ ((1 : Int32) = (0 : Int32)))).1) ?_
        show Steps p.tables e below (T23.setTop (mkF m 95 #[.val (.int p0), .val (.int p1), .val (.int p2), .val (.int ((p2 &&& (2147483647 : Int32)) % (6 : Int32))), .val (.ref u), .val (.int (1 : Int32)), .val (.ref b), .val (.int (1 : Int32)), .val (.int (1 : Int32))] [])) _
        refine XS.iconst X23.here hx rfl (hb hby at_95) ?_
        show Steps p.tables e below (T23.setTop (mkF m 96 #[.val (.int p0), .val (.int p1), .val (.int p2), .val (.int ((p2 &&& (2147483647 : Int32)) % (6 : Int32))), .val (.ref u), .val (.int (1 : Int32)), .val (.ref b), .val (.int (1 : Int32)), .val (.int (1 : Int32))] [(.int (1 : Int32))])) _
        refine XS.goto X23.here hx rfl (pc0 := 96) (pc' := 100) rfl (hb hby at_96) (by decide) (by decide) ?_
        show Steps p.tables e below (T23.setTop (mkF m 100 #[.val (.int p0), .val (.int p1), .val (.int p2), .val (.int ((p2 &&& (2147483647 : Int32)) % (6 : Int32))), .val (.ref u), .val (.int (1 : Int32)), .val (.ref b), .val (.int (1 : Int32)), .val (.int (1 : Int32))] [(.int (1 : Int32))])) _
        exact retN X23 hx (t := .boolean) Bd.returns (by simp) (hb hby at_100) hr
      · show Q_rm0 Z p0 p1 p2 s_SALARY s_BONUS s_PERFORMANCE_BONUS s_COMMISSIONS s_DIRECTOR_FEES s_EMPLOYER ca cl h0 n0 _ T23.heap _
        rw [e23]
        exact ⟨rfl, N23⟩
set_option maxRecDepth 65536 in
set_option maxHeartbeats 40000000 in
theorem comes_1 {Post : Tables → Env → Array Value → State → Outcome → State → Prop} (hpost : ∀ tb e args s v u, (limb_1_1.after args s (.returned v) u = true ∧ limb_1_2.after args s (.returned v) u = true ∧ True) → FrameEnd s (.returned v) u (Jvm.fieldLocs frame_1_writes args s ++ Jvm.arrayLocs frame_1_arrays args s ++ Jvm.staticLocs frame_1_statics s) 16 128 → Post tb e args s (.returned v) u) :
    ArmFor flags0 classFile x code maxLocals ret World_1 tables_1 room_1 Calls_1 rest_1 Pre_1 Post := by
  intro l hfl _ _ p e ha hc hk s m args below hf hA hF happ hP
  obtain ⟨hcalls, hrest, hpre⟩ := hP
  obtain ⟨-, -, -, hnamed, -, -, -, hat⟩ := (Spec.applies_iff hf).mp happ
  obtain ⟨hg, hn⟩ := and_e (Cond.before_iff.mp (show (Jvm.Cond.and given_1 narrow_1).before args s = true from hpre))
  obtain ⟨ga0, gb0⟩ := and_e hg
  obtain ⟨ga1, gb1⟩ := and_e gb0
  obtain ⟨ga2, gb2⟩ := and_e gb1
  obtain ⟨w0, w1, w2, rfl⟩ : ∃ w0 w1 w2 : Value, args = #[w0, w1, w2] := by
    have hs : args.size = 3 := by simpa [Cond.value, given_1] using ga0
    obtain ⟨L⟩ := args
    match L, hs with
    | [w0, w1, w2], _ => exact ⟨w0, w1, w2, rfl⟩
  have hw := fun d (hd : d ∈ tables_1) => atoms_spec (ws := Jvm.Cond.code x code maxLocals ret :: tables_1) hat d (List.mem_cons_of_mem _ hd)
  have hfit : Fit s := fun {y c} hc i hi => by
    obtain ⟨ha, rfl⟩ := Array.getElem?_eq_some_iff.mp hc
    have q := List.all_eq_true.mp ((Array.all_eq_true_iff_forall_mem.mp hF) _ (Array.getElem_mem ha)) i (List.mem_range.mpr hi)
    simpa [Array.getElem?_eq_getElem hi] using q
  obtain ⟨hsets, hown0⟩ := atoms_of _ (rest_1_c_eq ▸ (show rest_1_c.before _ s = true from hrest))
  obtain ⟨i0, ei0⟩ := is_v ga1
  obtain rfl : w0 = (.int i0) := Option.some.inj ei0
  obtain ⟨i1, ei1⟩ := is_v ga2
  obtain rfl : w1 = (.int i1) := Option.some.inj ei1
  obtain ⟨i2, ei2⟩ := is_v gb2
  obtain rfl : w2 = (.int i2) := Option.some.inj ei2
  obtain ⟨na1, nb1⟩ := and_e hn
  obtain ⟨na2, nb2⟩ := and_e nb1
  obtain ⟨na3, nb3⟩ := and_e nb2
  obtain ⟨na4, nb4⟩ := and_e nb3
  obtain ⟨na5, nb5⟩ := and_e nb4
  obtain ⟨na6, nb6⟩ := and_e nb5
  obtain ⟨na7, nb7⟩ := and_e nb6
  obtain ⟨na8, nb8⟩ := and_e nb7
  obtain ⟨na9, nb9⟩ := and_e nb8
  obtain ⟨na10, nb10⟩ := and_e nb9
  obtain ⟨na11, nb11⟩ := and_e nb10
  obtain ⟨s_PERFORMANCE_BONUS, ev_PERFORMANCE_BONUS⟩ := exa_v na1
  have E_PERFORMANCE_BONUS : Exa s s.heap s_PERFORMANCE_BONUS "com/example/deferline/deferline/workspace/CreditSource" := Exa.start ev_PERFORMANCE_BONUS na1
  have S_PERFORMANCE_BONUS : Sta s s.heap "com/example/deferline/deferline/workspace/CreditSource" "PERFORMANCE_BONUS" "Lcom/example/deferline/deferline/workspace/CreditSource;" (.ref s_PERFORMANCE_BONUS) := Sta.start ev_PERFORMANCE_BONUS (Or.inr ⟨(hw _ (List.mem_of_getElem? (i := 6) rfl)), (hw _ (List.mem_of_getElem? (i := 7) rfl))⟩)
  obtain ⟨s_COMMISSIONS, ev_COMMISSIONS⟩ := exa_v na3
  have E_COMMISSIONS : Exa s s.heap s_COMMISSIONS "com/example/deferline/deferline/workspace/CreditSource" := Exa.start ev_COMMISSIONS na3
  have S_COMMISSIONS : Sta s s.heap "com/example/deferline/deferline/workspace/CreditSource" "COMMISSIONS" "Lcom/example/deferline/deferline/workspace/CreditSource;" (.ref s_COMMISSIONS) := Sta.start ev_COMMISSIONS (Or.inr ⟨(hw _ (List.mem_of_getElem? (i := 6) rfl)), (hw _ (List.mem_of_getElem? (i := 49) rfl))⟩)
  obtain ⟨s_BONUS, ev_BONUS⟩ := exa_v na5
  have E_BONUS : Exa s s.heap s_BONUS "com/example/deferline/deferline/workspace/CreditSource" := Exa.start ev_BONUS na5
  have S_BONUS : Sta s s.heap "com/example/deferline/deferline/workspace/CreditSource" "BONUS" "Lcom/example/deferline/deferline/workspace/CreditSource;" (.ref s_BONUS) := Sta.start ev_BONUS (Or.inr ⟨(hw _ (List.mem_of_getElem? (i := 6) rfl)), (hw _ (List.mem_of_getElem? (i := 51) rfl))⟩)
  obtain ⟨s_EMPLOYER, ev_EMPLOYER⟩ := exa_v na7
  have E_EMPLOYER : Exa s s.heap s_EMPLOYER "com/example/deferline/deferline/workspace/CreditSource" := Exa.start ev_EMPLOYER na7
  have S_EMPLOYER : Sta s s.heap "com/example/deferline/deferline/workspace/CreditSource" "EMPLOYER" "Lcom/example/deferline/deferline/workspace/CreditSource;" (.ref s_EMPLOYER) := Sta.start ev_EMPLOYER (Or.inr ⟨(hw _ (List.mem_of_getElem? (i := 6) rfl)), (hw _ (List.mem_of_getElem? (i := 66) rfl))⟩)
  obtain ⟨s_SALARY, ev_SALARY⟩ := exa_v na9
  have E_SALARY : Exa s s.heap s_SALARY "com/example/deferline/deferline/workspace/CreditSource" := Exa.start ev_SALARY na9
  have S_SALARY : Sta s s.heap "com/example/deferline/deferline/workspace/CreditSource" "SALARY" "Lcom/example/deferline/deferline/workspace/CreditSource;" (.ref s_SALARY) := Sta.start ev_SALARY (Or.inr ⟨(hw _ (List.mem_of_getElem? (i := 6) rfl)), (hw _ (List.mem_of_getElem? (i := 68) rfl))⟩)
  obtain ⟨s_DIRECTOR_FEES, ev_DIRECTOR_FEES⟩ := exa_v na11
  have E_DIRECTOR_FEES : Exa s s.heap s_DIRECTOR_FEES "com/example/deferline/deferline/workspace/CreditSource" := Exa.start ev_DIRECTOR_FEES na11
  have S_DIRECTOR_FEES : Sta s s.heap "com/example/deferline/deferline/workspace/CreditSource" "DIRECTOR_FEES" "Lcom/example/deferline/deferline/workspace/CreditSource;" (.ref s_DIRECTOR_FEES) := Sta.start ev_DIRECTOR_FEES (Or.inr ⟨(hw _ (List.mem_of_getElem? (i := 6) rfl)), (hw _ (List.mem_of_getElem? (i := 70) rfl))⟩)
  have O_PERFORMANCE_BONUS_electiveDeferral : Fld s s.heap s_PERFORMANCE_BONUS "com/example/deferline/deferline/workspace/CreditSource" "electiveDeferral" "Z" (.int 1) := Fld.start ((fld_at ev_PERFORMANCE_BONUS).symm.trans (eqv_i (Term.int_eval _) na2))
  have O_COMMISSIONS_electiveDeferral : Fld s s.heap s_COMMISSIONS "com/example/deferline/deferline/workspace/CreditSource" "electiveDeferral" "Z" (.int 1) := Fld.start ((fld_at ev_COMMISSIONS).symm.trans (eqv_i (Term.int_eval _) na4))
  have O_BONUS_electiveDeferral : Fld s s.heap s_BONUS "com/example/deferline/deferline/workspace/CreditSource" "electiveDeferral" "Z" (.int 1) := Fld.start ((fld_at ev_BONUS).symm.trans (eqv_i (Term.int_eval _) na6))
  have O_EMPLOYER_electiveDeferral : Fld s s.heap s_EMPLOYER "com/example/deferline/deferline/workspace/CreditSource" "electiveDeferral" "Z" (.int 0) := Fld.start ((fld_at ev_EMPLOYER).symm.trans (eqv_i (Term.int_eval _) na8))
  have O_SALARY_electiveDeferral : Fld s s.heap s_SALARY "com/example/deferline/deferline/workspace/CreditSource" "electiveDeferral" "Z" (.int 1) := Fld.start ((fld_at ev_SALARY).symm.trans (eqv_i (Term.int_eval _) na10))
  have O_DIRECTOR_FEES_electiveDeferral : Fld s s.heap s_DIRECTOR_FEES "com/example/deferline/deferline/workspace/CreditSource" "electiveDeferral" "Z" (.int 1) := Fld.start ((fld_at ev_DIRECTOR_FEES).symm.trans (eqv_i (Term.int_eval _) nb11))
  have S1 : Sta s s.heap "java/lang/Integer$IntegerCache" "high" "I" (.int (127 : Int32)) := Sta.start (eqv_i (Term.int_eval _) (Cond.before_iff.mp (hsets _ (List.mem_of_getElem? (i := 3) rfl)))) (Or.inl (hsets _ (List.mem_of_getElem? (i := 1) rfl)))
  obtain ⟨ca, evc⟩ := arr_v (Cond.before_iff.mp (hsets _ (List.mem_of_getElem? (i := 4) rfl)))
  have S0 : Sta s s.heap "java/lang/Integer$IntegerCache" "cache" "[Ljava/lang/Integer;" (.ref ca) := Sta.start evc (Or.inr ⟨(hw _ (List.mem_of_getElem? (i := 19) rfl)), (hsets _ (List.mem_of_getElem? (i := 2) rfl))⟩)
  obtain ⟨cl, Acl⟩ := Arr.start evc (Cond.before_iff.mp (hsets _ (List.mem_of_getElem? (i := 4) rfl)))
  have el := eqv_i (Term.int_eval _) (Cond.before_iff.mp (hsets _ (List.mem_of_getElem? (i := 6) rfl)))
  obtain ⟨ex3, ex4⟩ := own_len evc (Acl.fin (Vm.Alike.refl _)) el
  have hB : Bxs s ca cl "java/lang/Integer" "I" 256 (fun j => .int (j - 128)) := Bxs.start (fun _ => evc) Acl ex3 (Value.int.inj ex4).symm (by decide) (Cond.before_iff.mp (hsets _ (List.mem_of_getElem? (i := 7) rfl))) (fun X j nn h => eqv_i (own_sub nn) h)
  obtain ⟨n, o, h1, h2, h3, _, L, rfl, ⟨rfl, N⟩, hq⟩ := rm0 l s _ hw tables_1 i0 i1 i2 s_SALARY s_BONUS s_PERFORMANCE_BONUS s_COMMISSIONS s_DIRECTOR_FEES s_EMPLOYER ca cl s.heap s.heap.size (Nat.le_refl _) S_SALARY E_SALARY O_SALARY_electiveDeferral S_BONUS E_BONUS O_BONUS_electiveDeferral S_PERFORMANCE_BONUS E_PERFORMANCE_BONUS O_PERFORMANCE_BONUS_electiveDeferral S_COMMISSIONS E_COMMISSIONS O_COMMISSIONS_electiveDeferral S_DIRECTOR_FEES E_DIRECTOR_FEES O_DIRECTOR_FEES_electiveDeferral S_EMPLOYER E_EMPLOYER O_EMPLOYER_electiveDeferral S1 S0 hB (Old.start s) p e ha hc hk s m _ below hf ((Spec.applies_iff_loose hf).mp happ).1 ⟨rfl, State.Warmed39.refl s, rfl⟩ trivial
  refine ⟨n, _, h1, h2, h3, hpost _ _ _ _ _ _ ⟨Cond.after_iff.mpr rfl, Cond.after_iff.mpr (eq_i res_at (Term.int_eval (1)) rfl), trivial⟩ ⟨hq.1, hq.2.1, (hq.2.2.sift fun y hy => Or.inr (N y hy)).mono (by decide) (by decide)⟩⟩
theorem main_1_1 : Claimed_1_1 := comes_1 fun _ _ _ _ _ _ h hF => ⟨h.1, hF⟩
theorem main_1_2 : Claimed_1_2 := comes_1 fun _ _ _ _ _ _ h hF => ⟨h.2.1, hF⟩
end Jvm.Pilot.@@N@@
namespace Jvm.Pilot.@@N@@
open Jvm Jvm.ClassFile Sem Op Lib Jvm.Free Jvm.Stand Jvm.Pilot.@@N@@.Jvm.D
/-! MADE BY PROGRAM (witnessworld.py) out of the Statement's table words and the real class files: 18 classes; the members and pool entries that the words name. The judged class is class 1, her method 2. -/
namespace start1
open Jvm.ClassFile
def u (s : String) : CpInfo := .utf8 (stringToUtf16 s)
/-- a pool by its gaps: so many unusable entries, then the entry; so many at the end -/
def gap : Nat → List CpInfo → List CpInfo
  | 0, r => r
  | n + 1, r => .unusable :: gap n r
def poolList (es : List (Nat × CpInfo)) (last : Nat) : List CpInfo := es.foldr (fun e r => gap e.1 (e.2 :: r)) (gap last [])
def pool (es : List (Nat × CpInfo)) (last : Nat) : Array CpInfo := ⟨poolList es last⟩
def fileOf (pool : Array CpInfo) (this : Nat) (attrs : Array Attribute := #[]) (ms : Array MethodInfo := #[]) (fl : Nat := 33) (sup : Nat := 0) (ifs : Array Nat := #[]) (fds : Array FieldInfo := #[]) : ClassFile where
  minorVersion := 0
  majorVersion := 65
  constantPool := pool
  accessFlags := fl
  thisClass := this
  superClass := sup
  interfaces := ifs
  fields := fds
  methods := ms
  attributes := attrs
def plain (name : String) (sup : Option ClassId) : Class where
  name := name
  kind := .ordinary
  loader := none
  accessFlags := 33
  super := sup
  interfaces := #[]
  cf := none
  fields := #[]
  methods := #[]
  instanceTypes := #[]
  staticTypes := #[]
  resolved := #[]
  callSites := []
  init := .initialized
  statics := none
  mirror := none

def pool0 : Array CpInfo := pool [(5, u "<init>"), (0, u "()V"), (1, .class_ 10), (1, u "java/lang/Object")] 113

def k0c0 : Code := { maxStack := 0, maxLocals := 1, code := object_method_1_code, exceptionTable := #[], attributes := #[] }
def k0m0 : Method := { name := "<init>", desc := "()V", sig := { parameters := [], returnType := none }, accessFlags := 1, code := some k0c0 }
/-- java/lang/Object -/
def k0 : Class := { plain "java/lang/Object" none with
  accessFlags := 33
  interfaces := #[]
  cf := some (fileOf pool0 8 #[] #[{ accessFlags := 1, nameIndex := 5, descriptorIndex := 6, attributes := #[] }] 33 0 #[] #[])
  fields := #[]
  methods := #[k0m0]
  instanceTypes := #[]
  staticTypes := #[]
  resolved := Array.replicate 124 none
  statics := none }

def pool1 : Array CpInfo := pool [(2, .class_ 4), (1, u "java/lang/Object"), (0, u "<init>"), (0, u "()V"), (0, .fieldref 8 9), (0, .class_ 10), (0, .nameAndType 11 12), (0, u "com/example/deferline/deferline/workspace/CreditSource"), (0, u "SALARY"), (0, u "Lcom/example/deferline/deferline/workspace/CreditSource;"), (0, .fieldref 8 14), (0, .nameAndType 15 12), (0, u "BONUS"), (0, .fieldref 8 17), (0, .nameAndType 18 12), (0, u "PERFORMANCE_BONUS"), (0, .fieldref 8 20), (0, .nameAndType 21 12), (0, u "COMMISSIONS"), (0, .fieldref 8 23), (0, .nameAndType 24 12), (0, u "DIRECTOR_FEES"), (0, .fieldref 8 26), (0, .nameAndType 27 12), (0, u "EMPLOYER"), (0, .integer 2147483647), (0, .methodref 30 31), (0, .class_ 32), (0, .nameAndType 33 34), (0, u "com/example/deferline/deferline/ledger/AccountPartDeferralsOfPinLaw"), (0, u "source"), (0, u "(I)Lcom/example/deferline/deferline/workspace/CreditSource;"), (0, .methodref 36 37), (0, .class_ 38), (0, .nameAndType 39 40), (0, u "com/example/deferline/deferline/ledger/AccountPart"), (0, u "deferralsOf"), (0, u "(I)Lcom/example/deferline/deferline/ledger/AccountPart;"), (0, .methodref 36 42), (0, .nameAndType 43 44), (0, u "holds"), (0, u "(ILcom/example/deferline/deferline/workspace/CreditSource;)Z"), (3, u "law"), (0, u "(III)Z")] 2

def k1m0 : Method := { name := "<init>", desc := "()V", sig := { parameters := [], returnType := none }, accessFlags := 1, code := none }
def k1c1 : Code := { maxStack := 2, maxLocals := 1, code := method_2_code, exceptionTable := #[], attributes := #[] }
def k1m1 : Method := { name := "source", desc := "(I)Lcom/example/deferline/deferline/workspace/CreditSource;", sig := { parameters := [.int], returnType := some (.object "com/example/deferline/deferline/workspace/CreditSource") }, accessFlags := 10, code := some k1c1 }
def k1c2 : Code := { maxStack := 3, maxLocals := 9, code := code, exceptionTable := #[], attributes := #[] }
def k1m2 : Method := { name := "law", desc := "(III)Z", sig := { parameters := [.int, .int, .int], returnType := some .boolean }, accessFlags := 9, code := some k1c2 }
/-- com/example/deferline/deferline/ledger/AccountPartDeferralsOfPinLaw -/
def k1 : Class := { plain "com/example/deferline/deferline/ledger/AccountPartDeferralsOfPinLaw" (some 0) with
  accessFlags := 49
  interfaces := #[]
  cf := some (fileOf pool1 30 #[] #[{ accessFlags := 1, nameIndex := 5, descriptorIndex := 6, attributes := #[] }, { accessFlags := 10, nameIndex := 33, descriptorIndex := 34, attributes := #[] }, { accessFlags := 9, nameIndex := 48, descriptorIndex := 49, attributes := #[] }] 49 2 #[] #[])
  fields := #[]
  methods := #[k1m0, k1m1, k1m2]
  instanceTypes := #[]
  staticTypes := #[]
  resolved := Array.replicate 52 none
  statics := none }

def pool2 : Array CpInfo := pool [(1, .class_ 2), (0, u "java/lang/constant/Constable"), (0, .class_ 4), (0, u "java/lang/Object")] 6

/-- java/lang/constant/Constable -/
def k2 : Class := { plain "java/lang/constant/Constable" (some 0) with
  accessFlags := 1537
  interfaces := #[]
  cf := some (fileOf pool2 1 #[] #[] 1537 3 #[] #[])
  fields := #[]
  methods := #[]
  instanceTypes := #[]
  staticTypes := #[]
  resolved := Array.replicate 11 none
  statics := none }

def pool3 : Array CpInfo := pool [(1, .class_ 2), (0, u "java/lang/Comparable"), (0, .class_ 4), (0, u "java/lang/Object")] 7

/-- java/lang/Comparable -/
def k3 : Class := { plain "java/lang/Comparable" (some 0) with
  accessFlags := 1537
  interfaces := #[]
  cf := some (fileOf pool3 1 #[] #[] 1537 3 #[] #[])
  fields := #[]
  methods := #[]
  instanceTypes := #[]
  staticTypes := #[]
  resolved := Array.replicate 12 none
  statics := none }

def pool4 : Array CpInfo := pool [(1, .class_ 2), (0, u "java/io/Serializable"), (0, .class_ 4), (0, u "java/lang/Object")] 2

/-- java/io/Serializable -/
def k4 : Class := { plain "java/io/Serializable" (some 0) with
  accessFlags := 1537
  interfaces := #[]
  cf := some (fileOf pool4 1 #[] #[] 1537 3 #[] #[])
  fields := #[]
  methods := #[]
  instanceTypes := #[]
  staticTypes := #[]
  resolved := Array.replicate 7 none
  statics := none }

def pool5 : Array CpInfo := pool [(2, .class_ 4), (1, u "java/lang/Enum"), (0, u "name"), (0, u "Ljava/lang/String;"), (2, u "ordinal"), (0, u "I"), (1, .class_ 14), (1, u "java/lang/Object"), (4, u "hash"), (86, .class_ 108), (1, u "java/lang/Enum$EnumDesc"), (2, .class_ 112), (0, u "java/lang/constant/Constable"), (0, .class_ 114), (0, u "java/lang/Comparable"), (0, .class_ 116), (0, u "java/io/Serializable")] 87

/-- java/lang/Enum -/
def k5 : Class := { plain "java/lang/Enum" (some 0) with
  accessFlags := 1057
  interfaces := #[2, 3, 4]
  cf := some (fileOf pool5 2 #[.nestMembers #[106]] #[] 1057 12 #[111, 113, 115] #[{ accessFlags := 18, nameIndex := 5, descriptorIndex := 6, attributes := #[] }, { accessFlags := 18, nameIndex := 9, descriptorIndex := 10, attributes := #[] }, { accessFlags := 2, nameIndex := 19, descriptorIndex := 10, attributes := #[] }])
  fields := #[{ name := "name", type := (.object "java/lang/String"), accessFlags := 18, slot := 0, constantValue := 0 }, { name := "ordinal", type := .int, accessFlags := 18, slot := 1, constantValue := 0 }, { name := "hash", type := .int, accessFlags := 2, slot := 2, constantValue := 0 }]
  methods := #[]
  instanceTypes := #[(.object "java/lang/String"), .int, .int]
  staticTypes := #[]
  resolved := Array.replicate 204 none
  statics := none }

def pool6 : Array CpInfo := pool [(1, .class_ 2), (0, u "com/example/deferline/deferline/workspace/CreditSource"), (2, u "SALARY"), (0, u "Lcom/example/deferline/deferline/workspace/CreditSource;"), (2, u "BONUS"), (2, u "PERFORMANCE_BONUS"), (2, u "COMMISSIONS"), (2, u "DIRECTOR_FEES"), (2, u "EMPLOYER"), (2, u "$VALUES"), (0, u "[Lcom/example/deferline/deferline/workspace/CreditSource;"), (6, .class_ 34), (1, u "java/lang/Enum"), (6, .fieldref 1 42), (0, .nameAndType 43 44), (0, u "electiveDeferral"), (0, u "Z"), (42, u "()Z")] 28

def k6c0 : Code := { maxStack := 1, maxLocals := 1, code := prog_79_method_4_code, exceptionTable := #[], attributes := #[] }
def k6m0 : Method := { name := "electiveDeferral", desc := "()Z", sig := { parameters := [], returnType := some .boolean }, accessFlags := 1, code := some k6c0 }
/-- com/example/deferline/deferline/workspace/CreditSource -/
def k6 : Class := { plain "com/example/deferline/deferline/workspace/CreditSource" (some 5) with
  accessFlags := 16433
  interfaces := #[]
  cf := some (fileOf pool6 1 #[] #[{ accessFlags := 1, nameIndex := 43, descriptorIndex := 87, attributes := #[] }] 16433 32 #[] #[{ accessFlags := 16409, nameIndex := 5, descriptorIndex := 6, attributes := #[] }, { accessFlags := 16409, nameIndex := 9, descriptorIndex := 6, attributes := #[] }, { accessFlags := 16409, nameIndex := 12, descriptorIndex := 6, attributes := #[] }, { accessFlags := 16409, nameIndex := 15, descriptorIndex := 6, attributes := #[] }, { accessFlags := 16409, nameIndex := 18, descriptorIndex := 6, attributes := #[] }, { accessFlags := 16409, nameIndex := 21, descriptorIndex := 6, attributes := #[] }, { accessFlags := 18, nameIndex := 43, descriptorIndex := 44, attributes := #[] }, { accessFlags := 4122, nameIndex := 24, descriptorIndex := 25, attributes := #[] }])
  fields := #[{ name := "SALARY", type := (.object "com/example/deferline/deferline/workspace/CreditSource"), accessFlags := 16409, slot := 0, constantValue := 0 }, { name := "BONUS", type := (.object "com/example/deferline/deferline/workspace/CreditSource"), accessFlags := 16409, slot := 1, constantValue := 0 }, { name := "PERFORMANCE_BONUS", type := (.object "com/example/deferline/deferline/workspace/CreditSource"), accessFlags := 16409, slot := 2, constantValue := 0 }, { name := "COMMISSIONS", type := (.object "com/example/deferline/deferline/workspace/CreditSource"), accessFlags := 16409, slot := 3, constantValue := 0 }, { name := "DIRECTOR_FEES", type := (.object "com/example/deferline/deferline/workspace/CreditSource"), accessFlags := 16409, slot := 4, constantValue := 0 }, { name := "EMPLOYER", type := (.object "com/example/deferline/deferline/workspace/CreditSource"), accessFlags := 16409, slot := 5, constantValue := 0 }, { name := "electiveDeferral", type := .boolean, accessFlags := 18, slot := 3, constantValue := 0 }, { name := "$VALUES", type := (.array (.object "com/example/deferline/deferline/workspace/CreditSource")), accessFlags := 4122, slot := 6, constantValue := 0 }]
  methods := #[k6m0]
  instanceTypes := #[(.object "java/lang/String"), .int, .int, .boolean]
  staticTypes := #[(.object "com/example/deferline/deferline/workspace/CreditSource"), (.object "com/example/deferline/deferline/workspace/CreditSource"), (.object "com/example/deferline/deferline/workspace/CreditSource"), (.object "com/example/deferline/deferline/workspace/CreditSource"), (.object "com/example/deferline/deferline/workspace/CreditSource"), (.object "com/example/deferline/deferline/workspace/CreditSource"), (.array (.object "com/example/deferline/deferline/workspace/CreditSource"))]
  resolved := Array.replicate 116 none
  statics := some 0 }

def pool7 : Array CpInfo := pool [(1, .methodref 2 3), (0, .class_ 4), (0, .nameAndType 5 6), (0, u "java/lang/Object"), (0, u "<init>"), (0, u "()V"), (0, .fieldref 8 9), (0, .class_ 10), (0, .nameAndType 11 12), (0, u "com/example/deferline/deferline/ledger/AccountPart"), (0, u "classYear"), (0, u "Ljava/lang/Integer;"), (0, .methodref 14 15), (0, .class_ 16), (0, .nameAndType 17 18), (0, u "java/lang/Integer"), (0, u "valueOf"), (0, u "(I)Ljava/lang/Integer;"), (0, .methodref 8 20), (0, .nameAndType 5 21), (0, u "(Ljava/lang/Integer;)V"), (0, .methodref 14 23), (0, .nameAndType 24 25), (0, u "intValue"), (0, u "()I"), (0, .methodref 27 28), (0, .class_ 29), (0, .nameAndType 30 31), (0, u "com/example/deferline/deferline/workspace/CreditSource"), (0, u "electiveDeferral"), (0, u "()Z"), (2, u "WHOLE"), (0, u "Lcom/example/deferline/deferline/ledger/AccountPart;"), (2, u "deferralsOf"), (0, u "(I)Lcom/example/deferline/deferline/ledger/AccountPart;"), (0, u "holds"), (0, u "(ILcom/example/deferline/deferline/workspace/CreditSource;)Z")] 4

def k7c0 : Code := { maxStack := 2, maxLocals := 2, code := prog_19_method_1_code, exceptionTable := #[], attributes := #[] }
def k7m0 : Method := { name := "<init>", desc := "(Ljava/lang/Integer;)V", sig := { parameters := [(.object "java/lang/Integer")], returnType := none }, accessFlags := 2, code := some k7c0 }
def k7c1 : Code := { maxStack := 3, maxLocals := 1, code := prog_19_method_2_code, exceptionTable := #[], attributes := #[] }
def k7m1 : Method := { name := "deferralsOf", desc := "(I)Lcom/example/deferline/deferline/ledger/AccountPart;", sig := { parameters := [.int], returnType := some (.object "com/example/deferline/deferline/ledger/AccountPart") }, accessFlags := 9, code := some k7c1 }
def k7c2 : Code := { maxStack := 2, maxLocals := 3, code := prog_19_method_3_code, exceptionTable := #[], attributes := #[] }
def k7m2 : Method := { name := "holds", desc := "(ILcom/example/deferline/deferline/workspace/CreditSource;)Z", sig := { parameters := [.int, (.object "com/example/deferline/deferline/workspace/CreditSource")], returnType := some .boolean }, accessFlags := 0, code := some k7c2 }
/-- com/example/deferline/deferline/ledger/AccountPart -/
def k7 : Class := { plain "com/example/deferline/deferline/ledger/AccountPart" (some 0) with
  accessFlags := 49
  interfaces := #[]
  cf := some (fileOf pool7 8 #[] #[{ accessFlags := 2, nameIndex := 5, descriptorIndex := 21, attributes := #[] }, { accessFlags := 9, nameIndex := 38, descriptorIndex := 39, attributes := #[] }, { accessFlags := 0, nameIndex := 40, descriptorIndex := 41, attributes := #[] }] 49 2 #[] #[{ accessFlags := 25, nameIndex := 34, descriptorIndex := 35, attributes := #[] }, { accessFlags := 18, nameIndex := 11, descriptorIndex := 12, attributes := #[] }])
  fields := #[{ name := "WHOLE", type := (.object "com/example/deferline/deferline/ledger/AccountPart"), accessFlags := 25, slot := 0, constantValue := 0 }, { name := "classYear", type := (.object "java/lang/Integer"), accessFlags := 18, slot := 0, constantValue := 0 }]
  methods := #[k7m0, k7m1, k7m2]
  instanceTypes := #[(.object "java/lang/Integer")]
  staticTypes := #[(.object "com/example/deferline/deferline/ledger/AccountPart")]
  resolved := Array.replicate 46 none
  statics := none }

def pool8 : Array CpInfo := pool [(1, .methodref 2 3), (0, .class_ 4), (0, .nameAndType 5 6), (0, u "java/lang/Object"), (0, u "<init>"), (0, u "()V"), (1, .class_ 10), (1, u "java/lang/Number"), (2, .class_ 14), (0, u "java/io/Serializable"), (0, u "serialVersionUID"), (0, u "J")] 20

def k8c0 : Code := { maxStack := 1, maxLocals := 1, code := jdk_18_method_1_code, exceptionTable := #[], attributes := #[] }
def k8m0 : Method := { name := "<init>", desc := "()V", sig := { parameters := [], returnType := none }, accessFlags := 1, code := some k8c0 }
/-- java/lang/Number -/
def k8 : Class := { plain "java/lang/Number" (some 0) with
  accessFlags := 1057
  interfaces := #[4]
  cf := some (fileOf pool8 8 #[] #[{ accessFlags := 1, nameIndex := 5, descriptorIndex := 6, attributes := #[] }] 1057 2 #[13] #[{ accessFlags := 26, nameIndex := 15, descriptorIndex := 16, attributes := #[] }])
  fields := #[{ name := "serialVersionUID", type := .long, accessFlags := 26, slot := 0, constantValue := 0 }]
  methods := #[k8m0]
  instanceTypes := #[]
  staticTypes := #[.long]
  resolved := Array.replicate 37 none
  statics := none }

def pool9 : Array CpInfo := pool [(1, .class_ 2), (0, u "java/lang/constant/ConstantDesc"), (0, .class_ 4), (0, u "java/lang/Object")] 32

/-- java/lang/constant/ConstantDesc -/
def k9 : Class := { plain "java/lang/constant/ConstantDesc" (some 0) with
  accessFlags := 1537
  interfaces := #[]
  cf := some (fileOf pool9 1 #[] #[] 1537 3 #[] #[])
  fields := #[]
  methods := #[]
  instanceTypes := #[]
  staticTypes := #[]
  resolved := Array.replicate 37 none
  statics := none }

def pool10 : Array CpInfo := pool [(1, .class_ 2), (0, u "java/lang/Integer"), (16, u "digits"), (0, u "[C"), (46, u "<init>"), (17, u "DigitOnes"), (0, u "[B"), (2, u "DigitTens"), (10, .nameAndType 67 101), (0, u "()V"), (19, u "()I"), (65, u "valueOf"), (0, u "(I)Ljava/lang/Integer;"), (0, .class_ 190), (0, u "java/lang/Integer$IntegerCache"), (0, .fieldref 189 192), (0, .nameAndType 193 194), (0, u "high"), (0, u "I"), (0, .fieldref 189 196), (0, .nameAndType 197 198), (0, u "cache"), (0, u "[Ljava/lang/Integer;"), (0, .methodref 1 200), (0, .nameAndType 67 201), (0, u "(I)V"), (0, .methodref 203 100), (0, .class_ 204), (0, u "java/lang/Number"), (0, .fieldref 1 206), (0, .nameAndType 207 194), (0, u "value"), (5, u "intValue"), (88, u "TYPE"), (0, u "Ljava/lang/Class;"), (0, .class_ 305), (0, u "java/lang/Comparable"), (0, .class_ 307), (0, u "java/lang/constant/Constable"), (0, .class_ 309), (0, u "java/lang/constant/ConstantDesc"), (0, u "MIN_VALUE"), (1, u "MAX_VALUE"), (3, u "SIZE"), (1, u "BYTES"), (1, u "serialVersionUID"), (0, u "J")] 131

def k10c0 : Code := { maxStack := 3, maxLocals := 1, code := jdk_33_method_22_code, exceptionTable := #[], attributes := #[] }
def k10m0 : Method := { name := "valueOf", desc := "(I)Ljava/lang/Integer;", sig := { parameters := [.int], returnType := some (.object "java/lang/Integer") }, accessFlags := 9, code := some k10c0 }
def k10c1 : Code := { maxStack := 2, maxLocals := 2, code := jdk_33_method_23_code, exceptionTable := #[], attributes := #[] }
def k10m1 : Method := { name := "<init>", desc := "(I)V", sig := { parameters := [.int], returnType := none }, accessFlags := 1, code := some k10c1 }
def k10c2 : Code := { maxStack := 1, maxLocals := 1, code := jdk_33_method_27_code, exceptionTable := #[], attributes := #[] }
def k10m2 : Method := { name := "intValue", desc := "()I", sig := { parameters := [], returnType := some .int }, accessFlags := 1, code := some k10c2 }
/-- java/lang/Integer -/
def k10 : Class := { plain "java/lang/Integer" (some 8) with
  accessFlags := 49
  interfaces := #[3, 2, 9]
  cf := some (fileOf pool10 1 #[.nestMembers #[189]] #[{ accessFlags := 9, nameIndex := 187, descriptorIndex := 188, attributes := #[] }, { accessFlags := 1, nameIndex := 67, descriptorIndex := 201, attributes := #[] }, { accessFlags := 1, nameIndex := 213, descriptorIndex := 121, attributes := #[] }] 49 203 #[304, 306, 308] #[{ accessFlags := 25, nameIndex := 310, descriptorIndex := 194, attributes := #[] }, { accessFlags := 25, nameIndex := 312, descriptorIndex := 194, attributes := #[] }, { accessFlags := 25, nameIndex := 302, descriptorIndex := 303, attributes := #[] }, { accessFlags := 24, nameIndex := 19, descriptorIndex := 20, attributes := #[] }, { accessFlags := 24, nameIndex := 89, descriptorIndex := 86, attributes := #[] }, { accessFlags := 24, nameIndex := 85, descriptorIndex := 86, attributes := #[] }, { accessFlags := 18, nameIndex := 207, descriptorIndex := 194, attributes := #[] }, { accessFlags := 25, nameIndex := 316, descriptorIndex := 194, attributes := #[] }, { accessFlags := 25, nameIndex := 318, descriptorIndex := 194, attributes := #[] }, { accessFlags := 26, nameIndex := 320, descriptorIndex := 321, attributes := #[] }])
  fields := #[{ name := "MIN_VALUE", type := .int, accessFlags := 25, slot := 0, constantValue := 0 }, { name := "MAX_VALUE", type := .int, accessFlags := 25, slot := 1, constantValue := 0 }, { name := "TYPE", type := (.object "java/lang/Class"), accessFlags := 25, slot := 2, constantValue := 0 }, { name := "digits", type := (.array .char), accessFlags := 24, slot := 3, constantValue := 0 }, { name := "DigitTens", type := (.array .byte), accessFlags := 24, slot := 4, constantValue := 0 }, { name := "DigitOnes", type := (.array .byte), accessFlags := 24, slot := 5, constantValue := 0 }, { name := "value", type := .int, accessFlags := 18, slot := 0, constantValue := 0 }, { name := "SIZE", type := .int, accessFlags := 25, slot := 6, constantValue := 0 }, { name := "BYTES", type := .int, accessFlags := 25, slot := 7, constantValue := 0 }, { name := "serialVersionUID", type := .long, accessFlags := 26, slot := 8, constantValue := 0 }]
  methods := #[k10m0, k10m1, k10m2]
  instanceTypes := #[.int]
  staticTypes := #[.int, .int, (.object "java/lang/Class"), (.array .char), (.array .byte), (.array .byte), .int, .int, .long]
  resolved := Array.replicate 453 none
  statics := none }

def pool11 : Array CpInfo := pool [(2, .class_ 4), (1, u "java/lang/Object"), (0, u "<init>"), (0, u "()V"), (0, .class_ 8), (0, u "java/lang/Integer"), (7, .class_ 18), (1, u "java/lang/Integer$IntegerCache"), (0, u "$assertionsDisabled"), (0, u "Z"), (26, u "high"), (0, u "I"), (8, u "archivedCache"), (0, u "[Ljava/lang/Integer;"), (12, u "cache"), (0, u "low")] 27

def k11m0 : Method := { name := "<init>", desc := "()V", sig := { parameters := [], returnType := none }, accessFlags := 2, code := none }
/-- java/lang/Integer$IntegerCache -/
def k11 : Class := { plain "java/lang/Integer$IntegerCache" (some 0) with
  accessFlags := 48
  interfaces := #[]
  cf := some (fileOf pool11 16 #[.nestHost 7] #[{ accessFlags := 2, nameIndex := 5, descriptorIndex := 6, attributes := #[] }] 48 2 #[] #[{ accessFlags := 24, nameIndex := 72, descriptorIndex := 48, attributes := #[] }, { accessFlags := 24, nameIndex := 47, descriptorIndex := 48, attributes := #[] }, { accessFlags := 24, nameIndex := 71, descriptorIndex := 58, attributes := #[] }, { accessFlags := 8, nameIndex := 57, descriptorIndex := 58, attributes := #[] }, { accessFlags := 4120, nameIndex := 19, descriptorIndex := 20, attributes := #[] }])
  fields := #[{ name := "low", type := .int, accessFlags := 24, slot := 0, constantValue := 0 }, { name := "high", type := .int, accessFlags := 24, slot := 1, constantValue := 0 }, { name := "cache", type := (.array (.object "java/lang/Integer")), accessFlags := 24, slot := 2, constantValue := 0 }, { name := "archivedCache", type := (.array (.object "java/lang/Integer")), accessFlags := 8, slot := 3, constantValue := 0 }, { name := "$assertionsDisabled", type := .boolean, accessFlags := 4120, slot := 4, constantValue := 0 }]
  methods := #[k11m0]
  instanceTypes := #[]
  staticTypes := #[.int, .int, (.array (.object "java/lang/Integer")), (.array (.object "java/lang/Integer")), .boolean]
  resolved := Array.replicate 100 none
  statics := some 1 }

def pool12 : Array CpInfo := pool [(1, u "java/lang/Cloneable"), (0, .class_ 1), (0, u "java/lang/Object"), (0, .class_ 3)] 3

/-- java/lang/Cloneable -/
def k12 : Class := { plain "java/lang/Cloneable" (some 0) with
  accessFlags := 1537
  interfaces := #[]
  cf := some (fileOf pool12 2 #[] #[] 1537 4 #[] #[])
  fields := #[]
  methods := #[]
  instanceTypes := #[]
  staticTypes := #[]
  resolved := Array.replicate 8 none
  statics := none }

/-- the primitive byte -/
def k13 : Class := { plain "byte" none with kind := .primitive 'B', accessFlags := 0x411 }
/-- [B -/
def k14 : Class := { plain "[B" (some 0) with kind := .array 13 .byte, interfaces := #[12, 4], accessFlags := 1041 }

/-- the primitive int -/
def k15 : Class := { plain "int" none with kind := .primitive 'I', accessFlags := 0x411 }
/-- [I -/
def k16 : Class := { plain "[I" (some 0) with kind := .array 15 .int, interfaces := #[12, 4], accessFlags := 1041 }

/-- [Ljava/lang/Integer; -/
def k17 : Class := { plain "[Ljava/lang/Integer;" (some 0) with kind := .array 10 (.object "java/lang/Integer"), interfaces := #[12, 4], accessFlags := 1041 }

def heap : Heap := #[{ cls := 6, slots := #[.ref 259, .ref 260, .ref 261, .ref 262, .ref 263, .ref 264, .null], vm := .statics 6 },
  { cls := 11, slots := #[.int 0, .int 127, .ref 2, .null, .int 0], vm := .statics 11 },
  { cls := 17, slots := #[.ref 3, .ref 4, .ref 5, .ref 6, .ref 7, .ref 8, .ref 9, .ref 10, .ref 11, .ref 12, .ref 13, .ref 14, .ref 15, .ref 16, .ref 17, .ref 18, .ref 19, .ref 20, .ref 21, .ref 22, .ref 23, .ref 24, .ref 25, .ref 26, .ref 27, .ref 28, .ref 29, .ref 30, .ref 31, .ref 32, .ref 33, .ref 34, .ref 35, .ref 36, .ref 37, .ref 38, .ref 39, .ref 40, .ref 41, .ref 42, .ref 43, .ref 44, .ref 45, .ref 46, .ref 47, .ref 48, .ref 49, .ref 50, .ref 51, .ref 52, .ref 53, .ref 54, .ref 55, .ref 56, .ref 57, .ref 58, .ref 59, .ref 60, .ref 61, .ref 62, .ref 63, .ref 64, .ref 65, .ref 66, .ref 67, .ref 68, .ref 69, .ref 70, .ref 71, .ref 72, .ref 73, .ref 74, .ref 75, .ref 76, .ref 77, .ref 78, .ref 79, .ref 80, .ref 81, .ref 82, .ref 83, .ref 84, .ref 85, .ref 86, .ref 87, .ref 88, .ref 89, .ref 90, .ref 91, .ref 92, .ref 93, .ref 94, .ref 95, .ref 96, .ref 97, .ref 98, .ref 99, .ref 100, .ref 101, .ref 102, .ref 103, .ref 104, .ref 105, .ref 106, .ref 107, .ref 108, .ref 109, .ref 110, .ref 111, .ref 112, .ref 113, .ref 114, .ref 115, .ref 116, .ref 117, .ref 118, .ref 119, .ref 120, .ref 121, .ref 122, .ref 123, .ref 124, .ref 125, .ref 126, .ref 127, .ref 128, .ref 129, .ref 130, .ref 131, .ref 132, .ref 133, .ref 134, .ref 135, .ref 136, .ref 137, .ref 138, .ref 139, .ref 140, .ref 141, .ref 142, .ref 143, .ref 144, .ref 145, .ref 146, .ref 147, .ref 148, .ref 149, .ref 150, .ref 151, .ref 152, .ref 153, .ref 154, .ref 155, .ref 156, .ref 157, .ref 158, .ref 159, .ref 160, .ref 161, .ref 162, .ref 163, .ref 164, .ref 165, .ref 166, .ref 167, .ref 168, .ref 169, .ref 170, .ref 171, .ref 172, .ref 173, .ref 174, .ref 175, .ref 176, .ref 177, .ref 178, .ref 179, .ref 180, .ref 181, .ref 182, .ref 183, .ref 184, .ref 185, .ref 186, .ref 187, .ref 188, .ref 189, .ref 190, .ref 191, .ref 192, .ref 193, .ref 194, .ref 195, .ref 196, .ref 197, .ref 198, .ref 199, .ref 200, .ref 201, .ref 202, .ref 203, .ref 204, .ref 205, .ref 206, .ref 207, .ref 208, .ref 209, .ref 210, .ref 211, .ref 212, .ref 213, .ref 214, .ref 215, .ref 216, .ref 217, .ref 218, .ref 219, .ref 220, .ref 221, .ref 222, .ref 223, .ref 224, .ref 225, .ref 226, .ref 227, .ref 228, .ref 229, .ref 230, .ref 231, .ref 232, .ref 233, .ref 234, .ref 235, .ref 236, .ref 237, .ref 238, .ref 239, .ref 240, .ref 241, .ref 242, .ref 243, .ref 244, .ref 245, .ref 246, .ref 247, .ref 248, .ref 249, .ref 250, .ref 251, .ref 252, .ref 253, .ref 254, .ref 255, .ref 256, .ref 257, .ref 258], vm := .none },
  { cls := 10, slots := #[.int (-128)], vm := .none },
  { cls := 10, slots := #[.int (-127)], vm := .none },
  { cls := 10, slots := #[.int (-126)], vm := .none },
  { cls := 10, slots := #[.int (-125)], vm := .none },
  { cls := 10, slots := #[.int (-124)], vm := .none },
  { cls := 10, slots := #[.int (-123)], vm := .none },
  { cls := 10, slots := #[.int (-122)], vm := .none },
  { cls := 10, slots := #[.int (-121)], vm := .none },
  { cls := 10, slots := #[.int (-120)], vm := .none },
  { cls := 10, slots := #[.int (-119)], vm := .none },
  { cls := 10, slots := #[.int (-118)], vm := .none },
  { cls := 10, slots := #[.int (-117)], vm := .none },
  { cls := 10, slots := #[.int (-116)], vm := .none },
  { cls := 10, slots := #[.int (-115)], vm := .none },
  { cls := 10, slots := #[.int (-114)], vm := .none },
  { cls := 10, slots := #[.int (-113)], vm := .none },
  { cls := 10, slots := #[.int (-112)], vm := .none },
  { cls := 10, slots := #[.int (-111)], vm := .none },
  { cls := 10, slots := #[.int (-110)], vm := .none },
  { cls := 10, slots := #[.int (-109)], vm := .none },
  { cls := 10, slots := #[.int (-108)], vm := .none },
  { cls := 10, slots := #[.int (-107)], vm := .none },
  { cls := 10, slots := #[.int (-106)], vm := .none },
  { cls := 10, slots := #[.int (-105)], vm := .none },
  { cls := 10, slots := #[.int (-104)], vm := .none },
  { cls := 10, slots := #[.int (-103)], vm := .none },
  { cls := 10, slots := #[.int (-102)], vm := .none },
  { cls := 10, slots := #[.int (-101)], vm := .none },
  { cls := 10, slots := #[.int (-100)], vm := .none },
  { cls := 10, slots := #[.int (-99)], vm := .none },
  { cls := 10, slots := #[.int (-98)], vm := .none },
  { cls := 10, slots := #[.int (-97)], vm := .none },
  { cls := 10, slots := #[.int (-96)], vm := .none },
  { cls := 10, slots := #[.int (-95)], vm := .none },
  { cls := 10, slots := #[.int (-94)], vm := .none },
  { cls := 10, slots := #[.int (-93)], vm := .none },
  { cls := 10, slots := #[.int (-92)], vm := .none },
  { cls := 10, slots := #[.int (-91)], vm := .none },
  { cls := 10, slots := #[.int (-90)], vm := .none },
  { cls := 10, slots := #[.int (-89)], vm := .none },
  { cls := 10, slots := #[.int (-88)], vm := .none },
  { cls := 10, slots := #[.int (-87)], vm := .none },
  { cls := 10, slots := #[.int (-86)], vm := .none },
  { cls := 10, slots := #[.int (-85)], vm := .none },
  { cls := 10, slots := #[.int (-84)], vm := .none },
  { cls := 10, slots := #[.int (-83)], vm := .none },
  { cls := 10, slots := #[.int (-82)], vm := .none },
  { cls := 10, slots := #[.int (-81)], vm := .none },
  { cls := 10, slots := #[.int (-80)], vm := .none },
  { cls := 10, slots := #[.int (-79)], vm := .none },
  { cls := 10, slots := #[.int (-78)], vm := .none },
  { cls := 10, slots := #[.int (-77)], vm := .none },
  { cls := 10, slots := #[.int (-76)], vm := .none },
  { cls := 10, slots := #[.int (-75)], vm := .none },
  { cls := 10, slots := #[.int (-74)], vm := .none },
  { cls := 10, slots := #[.int (-73)], vm := .none },
  { cls := 10, slots := #[.int (-72)], vm := .none },
  { cls := 10, slots := #[.int (-71)], vm := .none },
  { cls := 10, slots := #[.int (-70)], vm := .none },
  { cls := 10, slots := #[.int (-69)], vm := .none },
  { cls := 10, slots := #[.int (-68)], vm := .none },
  { cls := 10, slots := #[.int (-67)], vm := .none },
  { cls := 10, slots := #[.int (-66)], vm := .none },
  { cls := 10, slots := #[.int (-65)], vm := .none },
  { cls := 10, slots := #[.int (-64)], vm := .none },
  { cls := 10, slots := #[.int (-63)], vm := .none },
  { cls := 10, slots := #[.int (-62)], vm := .none },
  { cls := 10, slots := #[.int (-61)], vm := .none },
  { cls := 10, slots := #[.int (-60)], vm := .none },
  { cls := 10, slots := #[.int (-59)], vm := .none },
  { cls := 10, slots := #[.int (-58)], vm := .none },
  { cls := 10, slots := #[.int (-57)], vm := .none },
  { cls := 10, slots := #[.int (-56)], vm := .none },
  { cls := 10, slots := #[.int (-55)], vm := .none },
  { cls := 10, slots := #[.int (-54)], vm := .none },
  { cls := 10, slots := #[.int (-53)], vm := .none },
  { cls := 10, slots := #[.int (-52)], vm := .none },
  { cls := 10, slots := #[.int (-51)], vm := .none },
  { cls := 10, slots := #[.int (-50)], vm := .none },
  { cls := 10, slots := #[.int (-49)], vm := .none },
  { cls := 10, slots := #[.int (-48)], vm := .none },
  { cls := 10, slots := #[.int (-47)], vm := .none },
  { cls := 10, slots := #[.int (-46)], vm := .none },
  { cls := 10, slots := #[.int (-45)], vm := .none },
  { cls := 10, slots := #[.int (-44)], vm := .none },
  { cls := 10, slots := #[.int (-43)], vm := .none },
  { cls := 10, slots := #[.int (-42)], vm := .none },
  { cls := 10, slots := #[.int (-41)], vm := .none },
  { cls := 10, slots := #[.int (-40)], vm := .none },
  { cls := 10, slots := #[.int (-39)], vm := .none },
  { cls := 10, slots := #[.int (-38)], vm := .none },
  { cls := 10, slots := #[.int (-37)], vm := .none },
  { cls := 10, slots := #[.int (-36)], vm := .none },
  { cls := 10, slots := #[.int (-35)], vm := .none },
  { cls := 10, slots := #[.int (-34)], vm := .none },
  { cls := 10, slots := #[.int (-33)], vm := .none },
  { cls := 10, slots := #[.int (-32)], vm := .none },
  { cls := 10, slots := #[.int (-31)], vm := .none },
  { cls := 10, slots := #[.int (-30)], vm := .none },
  { cls := 10, slots := #[.int (-29)], vm := .none },
  { cls := 10, slots := #[.int (-28)], vm := .none },
  { cls := 10, slots := #[.int (-27)], vm := .none },
  { cls := 10, slots := #[.int (-26)], vm := .none },
  { cls := 10, slots := #[.int (-25)], vm := .none },
  { cls := 10, slots := #[.int (-24)], vm := .none },
  { cls := 10, slots := #[.int (-23)], vm := .none },
  { cls := 10, slots := #[.int (-22)], vm := .none },
  { cls := 10, slots := #[.int (-21)], vm := .none },
  { cls := 10, slots := #[.int (-20)], vm := .none },
  { cls := 10, slots := #[.int (-19)], vm := .none },
  { cls := 10, slots := #[.int (-18)], vm := .none },
  { cls := 10, slots := #[.int (-17)], vm := .none },
  { cls := 10, slots := #[.int (-16)], vm := .none },
  { cls := 10, slots := #[.int (-15)], vm := .none },
  { cls := 10, slots := #[.int (-14)], vm := .none },
  { cls := 10, slots := #[.int (-13)], vm := .none },
  { cls := 10, slots := #[.int (-12)], vm := .none },
  { cls := 10, slots := #[.int (-11)], vm := .none },
  { cls := 10, slots := #[.int (-10)], vm := .none },
  { cls := 10, slots := #[.int (-9)], vm := .none },
  { cls := 10, slots := #[.int (-8)], vm := .none },
  { cls := 10, slots := #[.int (-7)], vm := .none },
  { cls := 10, slots := #[.int (-6)], vm := .none },
  { cls := 10, slots := #[.int (-5)], vm := .none },
  { cls := 10, slots := #[.int (-4)], vm := .none },
  { cls := 10, slots := #[.int (-3)], vm := .none },
  { cls := 10, slots := #[.int (-2)], vm := .none },
  { cls := 10, slots := #[.int (-1)], vm := .none },
  { cls := 10, slots := #[.int 0], vm := .none },
  { cls := 10, slots := #[.int 1], vm := .none },
  { cls := 10, slots := #[.int 2], vm := .none },
  { cls := 10, slots := #[.int 3], vm := .none },
  { cls := 10, slots := #[.int 4], vm := .none },
  { cls := 10, slots := #[.int 5], vm := .none },
  { cls := 10, slots := #[.int 6], vm := .none },
  { cls := 10, slots := #[.int 7], vm := .none },
  { cls := 10, slots := #[.int 8], vm := .none },
  { cls := 10, slots := #[.int 9], vm := .none },
  { cls := 10, slots := #[.int 10], vm := .none },
  { cls := 10, slots := #[.int 11], vm := .none },
  { cls := 10, slots := #[.int 12], vm := .none },
  { cls := 10, slots := #[.int 13], vm := .none },
  { cls := 10, slots := #[.int 14], vm := .none },
  { cls := 10, slots := #[.int 15], vm := .none },
  { cls := 10, slots := #[.int 16], vm := .none },
  { cls := 10, slots := #[.int 17], vm := .none },
  { cls := 10, slots := #[.int 18], vm := .none },
  { cls := 10, slots := #[.int 19], vm := .none },
  { cls := 10, slots := #[.int 20], vm := .none },
  { cls := 10, slots := #[.int 21], vm := .none },
  { cls := 10, slots := #[.int 22], vm := .none },
  { cls := 10, slots := #[.int 23], vm := .none },
  { cls := 10, slots := #[.int 24], vm := .none },
  { cls := 10, slots := #[.int 25], vm := .none },
  { cls := 10, slots := #[.int 26], vm := .none },
  { cls := 10, slots := #[.int 27], vm := .none },
  { cls := 10, slots := #[.int 28], vm := .none },
  { cls := 10, slots := #[.int 29], vm := .none },
  { cls := 10, slots := #[.int 30], vm := .none },
  { cls := 10, slots := #[.int 31], vm := .none },
  { cls := 10, slots := #[.int 32], vm := .none },
  { cls := 10, slots := #[.int 33], vm := .none },
  { cls := 10, slots := #[.int 34], vm := .none },
  { cls := 10, slots := #[.int 35], vm := .none },
  { cls := 10, slots := #[.int 36], vm := .none },
  { cls := 10, slots := #[.int 37], vm := .none },
  { cls := 10, slots := #[.int 38], vm := .none },
  { cls := 10, slots := #[.int 39], vm := .none },
  { cls := 10, slots := #[.int 40], vm := .none },
  { cls := 10, slots := #[.int 41], vm := .none },
  { cls := 10, slots := #[.int 42], vm := .none },
  { cls := 10, slots := #[.int 43], vm := .none },
  { cls := 10, slots := #[.int 44], vm := .none },
  { cls := 10, slots := #[.int 45], vm := .none },
  { cls := 10, slots := #[.int 46], vm := .none },
  { cls := 10, slots := #[.int 47], vm := .none },
  { cls := 10, slots := #[.int 48], vm := .none },
  { cls := 10, slots := #[.int 49], vm := .none },
  { cls := 10, slots := #[.int 50], vm := .none },
  { cls := 10, slots := #[.int 51], vm := .none },
  { cls := 10, slots := #[.int 52], vm := .none },
  { cls := 10, slots := #[.int 53], vm := .none },
  { cls := 10, slots := #[.int 54], vm := .none },
  { cls := 10, slots := #[.int 55], vm := .none },
  { cls := 10, slots := #[.int 56], vm := .none },
  { cls := 10, slots := #[.int 57], vm := .none },
  { cls := 10, slots := #[.int 58], vm := .none },
  { cls := 10, slots := #[.int 59], vm := .none },
  { cls := 10, slots := #[.int 60], vm := .none },
  { cls := 10, slots := #[.int 61], vm := .none },
  { cls := 10, slots := #[.int 62], vm := .none },
  { cls := 10, slots := #[.int 63], vm := .none },
  { cls := 10, slots := #[.int 64], vm := .none },
  { cls := 10, slots := #[.int 65], vm := .none },
  { cls := 10, slots := #[.int 66], vm := .none },
  { cls := 10, slots := #[.int 67], vm := .none },
  { cls := 10, slots := #[.int 68], vm := .none },
  { cls := 10, slots := #[.int 69], vm := .none },
  { cls := 10, slots := #[.int 70], vm := .none },
  { cls := 10, slots := #[.int 71], vm := .none },
  { cls := 10, slots := #[.int 72], vm := .none },
  { cls := 10, slots := #[.int 73], vm := .none },
  { cls := 10, slots := #[.int 74], vm := .none },
  { cls := 10, slots := #[.int 75], vm := .none },
  { cls := 10, slots := #[.int 76], vm := .none },
  { cls := 10, slots := #[.int 77], vm := .none },
  { cls := 10, slots := #[.int 78], vm := .none },
  { cls := 10, slots := #[.int 79], vm := .none },
  { cls := 10, slots := #[.int 80], vm := .none },
  { cls := 10, slots := #[.int 81], vm := .none },
  { cls := 10, slots := #[.int 82], vm := .none },
  { cls := 10, slots := #[.int 83], vm := .none },
  { cls := 10, slots := #[.int 84], vm := .none },
  { cls := 10, slots := #[.int 85], vm := .none },
  { cls := 10, slots := #[.int 86], vm := .none },
  { cls := 10, slots := #[.int 87], vm := .none },
  { cls := 10, slots := #[.int 88], vm := .none },
  { cls := 10, slots := #[.int 89], vm := .none },
  { cls := 10, slots := #[.int 90], vm := .none },
  { cls := 10, slots := #[.int 91], vm := .none },
  { cls := 10, slots := #[.int 92], vm := .none },
  { cls := 10, slots := #[.int 93], vm := .none },
  { cls := 10, slots := #[.int 94], vm := .none },
  { cls := 10, slots := #[.int 95], vm := .none },
  { cls := 10, slots := #[.int 96], vm := .none },
  { cls := 10, slots := #[.int 97], vm := .none },
  { cls := 10, slots := #[.int 98], vm := .none },
  { cls := 10, slots := #[.int 99], vm := .none },
  { cls := 10, slots := #[.int 100], vm := .none },
  { cls := 10, slots := #[.int 101], vm := .none },
  { cls := 10, slots := #[.int 102], vm := .none },
  { cls := 10, slots := #[.int 103], vm := .none },
  { cls := 10, slots := #[.int 104], vm := .none },
  { cls := 10, slots := #[.int 105], vm := .none },
  { cls := 10, slots := #[.int 106], vm := .none },
  { cls := 10, slots := #[.int 107], vm := .none },
  { cls := 10, slots := #[.int 108], vm := .none },
  { cls := 10, slots := #[.int 109], vm := .none },
  { cls := 10, slots := #[.int 110], vm := .none },
  { cls := 10, slots := #[.int 111], vm := .none },
  { cls := 10, slots := #[.int 112], vm := .none },
  { cls := 10, slots := #[.int 113], vm := .none },
  { cls := 10, slots := #[.int 114], vm := .none },
  { cls := 10, slots := #[.int 115], vm := .none },
  { cls := 10, slots := #[.int 116], vm := .none },
  { cls := 10, slots := #[.int 117], vm := .none },
  { cls := 10, slots := #[.int 118], vm := .none },
  { cls := 10, slots := #[.int 119], vm := .none },
  { cls := 10, slots := #[.int 120], vm := .none },
  { cls := 10, slots := #[.int 121], vm := .none },
  { cls := 10, slots := #[.int 122], vm := .none },
  { cls := 10, slots := #[.int 123], vm := .none },
  { cls := 10, slots := #[.int 124], vm := .none },
  { cls := 10, slots := #[.int 125], vm := .none },
  { cls := 10, slots := #[.int 126], vm := .none },
  { cls := 10, slots := #[.int 127], vm := .none },
  { cls := 6, slots := #[.null, .int 0, .int 0, .int 1], vm := .none },
  { cls := 6, slots := #[.null, .int 1, .int 0, .int 1], vm := .none },
  { cls := 6, slots := #[.null, .int 2, .int 0, .int 1], vm := .none },
  { cls := 6, slots := #[.null, .int 3, .int 0, .int 1], vm := .none },
  { cls := 6, slots := #[.null, .int 4, .int 0, .int 1], vm := .none },
  { cls := 6, slots := #[.null, .int 5, .int 0, .int 0], vm := .none }]
def classes : Array Class := #[k0, k1, k2, k3, k4, k5, k6, k7, k8, k9, k10, k11, k12, k13, k14, k15, k16, k17]
def interned : List (Array UInt16 × Addr) := []
def slotsUsed : Nat := 548
def theMethod : MethodId := ⟨1, 2⟩
def args0 : Array Value := #[.int 5, .int 6, .int 1]
def aboutOver (below : List Frame) : State where
  vm := { classes := classes, interned := interned.toArray }
  heap := heap
  slotsUsed := slotsUsed
  threads := #[{ frames := .invoking theMethod args0 :: below }]
def below0 : List Frame := [.native { method := ⟨0, 0⟩, args := #[] }]
def about1 : State := aboutOver below0
def p0 : Program := .bare "" "" ""
def e0 : Env := launch0.env 0 0 0
theorem w_frames : about1.frames = Frame.invoking theMethod args0 :: below0 := rfl
set_option maxRecDepth 65536 in
theorem w_args : argsFit about1.vm theMethod args0 = true := by decide +kernel
set_option maxRecDepth 65536 in
theorem w_heap : heapFits about1 = true := by decide +kernel
set_option maxRecDepth 65536 in
theorem w_runnable : about1.curStatus? = some .runnable := by decide +kernel
set_option maxRecDepth 65536 in
theorem w_alone : about1.alone = true := by decide +kernel
set_option maxRecDepth 65536 in
theorem w_named : about1.methodNamed? x = some theMethod := by decide +kernel
set_option maxRecDepth 65536 in
theorem w_hears : about1.hears theMethod below0 = true := by decide +kernel
set_option maxRecDepth 65536 in
theorem w_ripe : about1.ripe theMethod args0 below0 = true := by decide +kernel
theorem w_running : about1.status = .running := rfl
set_option maxRecDepth 65536 in
theorem w_room : about1.hasRoom e0.platform room_1 = true :=
  launch0.hasRoom_least _ room_1 (by decide +kernel) (by decide +kernel) (by decide +kernel) (by decide +kernel) (by decide +kernel) (by decide +kernel)
theorem allAtoms_all (ts : List Jvm.Cond) (a : Array Jvm.Value) (st : Jvm.State) : (allAtoms ts).before a st = ts.all (fun c => c.before a st) := by
  induction ts with
  | nil => rfl
  | cons c t ih =>
    show (Jvm.Cond.and c (allAtoms t)).before a st = _
    rw [Jvm.Cond.before_and, ih, List.all_cons]
def words1 : List Jvm.Cond := Jvm.Cond.code x code maxLocals ret :: tables_1
/-- a 'code' word, met by the world's own term for the bytes: nothing is compared byte by byte -/
theorem code_word {y : MethodName} {bytes : ByteArray} {mx : Nat} {rt : Option FieldType} {a : Array Value} {s : State} {m : MethodId} {meth : Method} {c : Code} (h1 : s.methodNamed? y = some m) (h2 : s.vm.method? m = some meth) (h3 : meth.code = some c) (h4 : c.code = bytes)
    (h5 : (c.maxLocals == mx && c.exceptionTable.isEmpty && decide (c.maxStack ≤ mostOperands) && decide (meth.sig.returnType = rt) && !meth.locks && decide (parseMethodDescriptor y.desc = some meth.sig)) = true) : (Jvm.Cond.code y bytes mx rt).before a s = true := by
  simp only [Bool.and_eq_true, beq_iff_eq, Bool.not_eq_true', decide_eq_true_eq] at h5
  obtain ⟨⟨⟨⟨⟨g1, g2⟩, g3⟩, g4⟩, g5⟩, g6⟩ := h5
  simp [Cond.before, Cond.holds, Cond.value, h1, h2, h3, h4, g1, g2, g3, g4, g5, g6]
def isCode : Jvm.Cond → Bool
  | .code _ _ _ _ => true
  | _ => false
theorem all_split {L : List Jvm.Cond} {P : Jvm.Cond → Bool} (h1 : L.all (fun c => isCode c || P c) = true) (h2 : ∀ c ∈ L.filter isCode, P c = true) : L.all P = true := by
  refine List.all_eq_true.mpr fun c hc => ?_
  have h := List.all_eq_true.mp h1 c hc
  rcases Bool.eq_false_or_eq_true (isCode c) with hi | hi
  · exact h2 c (List.mem_filter.mpr ⟨hc, hi⟩)
  · simpa [hi] using h
set_option maxRecDepth 65536 in
theorem w_c0 : (Jvm.Cond.code x code maxLocals ret).before args0 about1 = true := code_word (m := ⟨1, 2⟩) (meth := k1m2) (c := k1c2) (by decide +kernel) rfl rfl rfl (by decide +kernel)
set_option maxRecDepth 65536 in
theorem w_c1 : (Jvm.Cond.code ({ cls := "com/example/deferline/deferline/ledger/AccountPartDeferralsOfPinLaw", name := "source", desc := "(I)Lcom/example/deferline/deferline/workspace/CreditSource;" } : Jvm.MethodName) method_2_code (1 : Nat) (Option.some (Jvm.ClassFile.FieldType.object "com/example/deferline/deferline/workspace/CreditSource"))).before args0 about1 = true := code_word (m := ⟨1, 1⟩) (meth := k1m1) (c := k1c1) (by decide +kernel) rfl rfl rfl (by decide +kernel)
set_option maxRecDepth 65536 in
theorem w_c2 : (Jvm.Cond.code ({ cls := "com/example/deferline/deferline/ledger/AccountPart", name := "deferralsOf", desc := "(I)Lcom/example/deferline/deferline/ledger/AccountPart;" } : Jvm.MethodName) prog_19_method_2_code (1 : Nat) (Option.some (Jvm.ClassFile.FieldType.object "com/example/deferline/deferline/ledger/AccountPart"))).before args0 about1 = true := code_word (m := ⟨7, 1⟩) (meth := k7m1) (c := k7c1) (by decide +kernel) rfl rfl rfl (by decide +kernel)
set_option maxRecDepth 65536 in
theorem w_c3 : (Jvm.Cond.code ({ cls := "java/lang/Integer", name := "valueOf", desc := "(I)Ljava/lang/Integer;" } : Jvm.MethodName) jdk_33_method_22_code (1 : Nat) (Option.some (Jvm.ClassFile.FieldType.object "java/lang/Integer"))).before args0 about1 = true := code_word (m := ⟨10, 0⟩) (meth := k10m0) (c := k10c0) (by decide +kernel) rfl rfl rfl (by decide +kernel)
set_option maxRecDepth 65536 in
theorem w_c4 : (Jvm.Cond.code ({ cls := "com/example/deferline/deferline/ledger/AccountPart", name := "<init>", desc := "(Ljava/lang/Integer;)V" } : Jvm.MethodName) prog_19_method_1_code (2 : Nat) (Option.none : Option Jvm.ClassFile.FieldType)).before args0 about1 = true := code_word (m := ⟨7, 0⟩) (meth := k7m0) (c := k7c0) (by decide +kernel) rfl rfl rfl (by decide +kernel)
set_option maxRecDepth 65536 in
theorem w_c5 : (Jvm.Cond.code ({ cls := "java/lang/Object", name := "<init>", desc := "()V" } : Jvm.MethodName) object_method_1_code (1 : Nat) (Option.none : Option Jvm.ClassFile.FieldType)).before args0 about1 = true := code_word (m := ⟨0, 0⟩) (meth := k0m0) (c := k0c0) (by decide +kernel) rfl rfl rfl (by decide +kernel)
set_option maxRecDepth 65536 in
theorem w_c6 : (Jvm.Cond.code ({ cls := "com/example/deferline/deferline/ledger/AccountPart", name := "holds", desc := "(ILcom/example/deferline/deferline/workspace/CreditSource;)Z" } : Jvm.MethodName) prog_19_method_3_code (3 : Nat) (Option.some Jvm.ClassFile.FieldType.boolean)).before args0 about1 = true := code_word (m := ⟨7, 2⟩) (meth := k7m2) (c := k7c2) (by decide +kernel) rfl rfl rfl (by decide +kernel)
set_option maxRecDepth 65536 in
theorem w_c7 : (Jvm.Cond.code ({ cls := "java/lang/Integer", name := "intValue", desc := "()I" } : Jvm.MethodName) jdk_33_method_27_code (1 : Nat) (Option.some Jvm.ClassFile.FieldType.int)).before args0 about1 = true := code_word (m := ⟨10, 2⟩) (meth := k10m2) (c := k10c2) (by decide +kernel) rfl rfl rfl (by decide +kernel)
set_option maxRecDepth 65536 in
theorem w_c8 : (Jvm.Cond.code ({ cls := "com/example/deferline/deferline/workspace/CreditSource", name := "electiveDeferral", desc := "()Z" } : Jvm.MethodName) prog_79_method_4_code (1 : Nat) (Option.some Jvm.ClassFile.FieldType.boolean)).before args0 about1 = true := code_word (m := ⟨6, 0⟩) (meth := k6m0) (c := k6c0) (by decide +kernel) rfl rfl rfl (by decide +kernel)
set_option maxRecDepth 65536 in
theorem w_c9 : (Jvm.Cond.code ({ cls := "java/lang/Integer", name := "<init>", desc := "(I)V" } : Jvm.MethodName) jdk_33_method_23_code (2 : Nat) (Option.none : Option Jvm.ClassFile.FieldType)).before args0 about1 = true := code_word (m := ⟨10, 1⟩) (meth := k10m1) (c := k10c1) (by decide +kernel) rfl rfl rfl (by decide +kernel)
set_option maxRecDepth 65536 in
theorem w_c10 : (Jvm.Cond.code ({ cls := "java/lang/Number", name := "<init>", desc := "()V" } : Jvm.MethodName) jdk_18_method_1_code (1 : Nat) (Option.none : Option Jvm.ClassFile.FieldType)).before args0 about1 = true := code_word (m := ⟨8, 0⟩) (meth := k8m0) (c := k8c0) (by decide +kernel) rfl rfl rfl (by decide +kernel)
def codes1 : List Jvm.Cond := [Jvm.Cond.code x code maxLocals ret, Jvm.Cond.code ({ cls := "com/example/deferline/deferline/ledger/AccountPartDeferralsOfPinLaw", name := "source", desc := "(I)Lcom/example/deferline/deferline/workspace/CreditSource;" } : Jvm.MethodName) method_2_code (1 : Nat) (Option.some (Jvm.ClassFile.FieldType.object "com/example/deferline/deferline/workspace/CreditSource")), Jvm.Cond.code ({ cls := "com/example/deferline/deferline/ledger/AccountPart", name := "deferralsOf", desc := "(I)Lcom/example/deferline/deferline/ledger/AccountPart;" } : Jvm.MethodName) prog_19_method_2_code (1 : Nat) (Option.some (Jvm.ClassFile.FieldType.object "com/example/deferline/deferline/ledger/AccountPart")), Jvm.Cond.code ({ cls := "java/lang/Integer", name := "valueOf", desc := "(I)Ljava/lang/Integer;" } : Jvm.MethodName) jdk_33_method_22_code (1 : Nat) (Option.some (Jvm.ClassFile.FieldType.object "java/lang/Integer")), Jvm.Cond.code ({ cls := "com/example/deferline/deferline/ledger/AccountPart", name := "<init>", desc := "(Ljava/lang/Integer;)V" } : Jvm.MethodName) prog_19_method_1_code (2 : Nat) (Option.none : Option Jvm.ClassFile.FieldType), Jvm.Cond.code ({ cls := "java/lang/Object", name := "<init>", desc := "()V" } : Jvm.MethodName) object_method_1_code (1 : Nat) (Option.none : Option Jvm.ClassFile.FieldType), Jvm.Cond.code ({ cls := "com/example/deferline/deferline/ledger/AccountPart", name := "holds", desc := "(ILcom/example/deferline/deferline/workspace/CreditSource;)Z" } : Jvm.MethodName) prog_19_method_3_code (3 : Nat) (Option.some Jvm.ClassFile.FieldType.boolean), Jvm.Cond.code ({ cls := "java/lang/Integer", name := "intValue", desc := "()I" } : Jvm.MethodName) jdk_33_method_27_code (1 : Nat) (Option.some Jvm.ClassFile.FieldType.int), Jvm.Cond.code ({ cls := "com/example/deferline/deferline/workspace/CreditSource", name := "electiveDeferral", desc := "()Z" } : Jvm.MethodName) prog_79_method_4_code (1 : Nat) (Option.some Jvm.ClassFile.FieldType.boolean), Jvm.Cond.code ({ cls := "java/lang/Integer", name := "<init>", desc := "(I)V" } : Jvm.MethodName) jdk_33_method_23_code (2 : Nat) (Option.none : Option Jvm.ClassFile.FieldType), Jvm.Cond.code ({ cls := "java/lang/Number", name := "<init>", desc := "()V" } : Jvm.MethodName) jdk_18_method_1_code (1 : Nat) (Option.none : Option Jvm.ClassFile.FieldType)]
set_option maxRecDepth 65536 in
theorem codes_eq : words1.filter isCode = codes1 := rfl
theorem w_codes : ∀ c ∈ words1.filter isCode, c.before args0 about1 = true := by
  rw [codes_eq]
  intro c hc
  simp only [codes1, List.mem_cons, List.not_mem_nil, or_false] at hc
  rcases hc with rfl | rfl | rfl | rfl | rfl | rfl | rfl | rfl | rfl | rfl | rfl
  · exact w_c0
  · exact w_c1
  · exact w_c2
  · exact w_c3
  · exact w_c4
  · exact w_c5
  · exact w_c6
  · exact w_c7
  · exact w_c8
  · exact w_c9
  · exact w_c10
set_option maxRecDepth 65536 in
theorem w_t1 : (words1.take 24).all (fun c => isCode c || c.before args0 about1) = true := by decide +kernel
set_option maxRecDepth 65536 in
theorem w_t2 : ((words1.drop 24).take 24).all (fun c => isCode c || c.before args0 about1) = true := by decide +kernel
set_option maxRecDepth 65536 in
theorem w_t3 : ((words1.drop 24).drop 24).all (fun c => isCode c || c.before args0 about1) = true := by decide +kernel
theorem w_tables : (allAtoms (Jvm.Cond.code x code maxLocals ret :: tables_1)).before args0 about1 = true := by
  rw [allAtoms_all]
  show words1.all (fun c => c.before args0 about1) = true
  refine all_split ?_ w_codes
  rw [← List.take_append_drop 24 words1, List.all_append, w_t1, ← List.take_append_drop 24 (words1.drop 24), List.all_append, w_t2, w_t3]
  rfl
set_option maxRecDepth 65536 in
theorem w_rest : rest_1_c.before args0 about1 = true := by decide +kernel
set_option maxRecDepth 65536 in
theorem w_case : (Jvm.Cond.and given_1 narrow_1).before args0 about1 = true := by decide +kernel
theorem w_applies : (headSpec (Jvm.Cond.code x code maxLocals ret :: tables_1) room_1).applies x e0.platform about1 = true :=
  (Spec.applies_iff w_frames).mpr ⟨w_running, w_runnable, w_alone, w_named, w_hears, w_ripe, w_room, w_tables⟩
theorem atStart : AtStart classFile x code maxLocals ret World_1 tables_1 room_1 Calls_1 rest_1 Pre_1 launch0 p0 e0 about1 theMethod args0 below0 :=
  ⟨lists_1, trivial, launch0.admits_env _ _ _, launch0.least_env, fairChoices_fair.cas, fairChoices_fair.clock, w_frames, w_args, w_heap, w_applies, trivial, w_rest, w_case⟩
end start1
theorem witness_1 : WitnessClaimed_1 := ⟨start1.p0, start1.e0, start1.about1, start1.theMethod, start1.args0, start1.below0, start1.atStart⟩
end Jvm.Pilot.@@N@@
