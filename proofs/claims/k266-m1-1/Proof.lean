import JvmDerived
import JvmDerived.Pilot.@@N@@Statement
import JvmDerived.Pilot.@@N@@Code
set_option linter.unusedVariables false
set_option linter.unusedSimpArgs false
namespace Jvm.RoadKit
open Sem ClassFile Op Lib Jvm.Stand Jvm.Free Jvm.LawKit
section New
variable {p : Program} {l : Launch} {e : Env} {R : Room} {s : State} {m : MethodId} {args : Array Value} {below : List Frame} {meth : Method} {c : Code} {T : State} {locs : List Loc} {cells slots : Nat}
theorem retI (X : Stand p l e R s m args below meth c T locs cells slots) (hx : p.tables.exec = Jvm.exec) {pc : Nat} {Ls : Array Slot} {z : Int32} {rest : List Value} (hret : meth.sig.returnType = some .int) (hd : decode c.code pc = .ok (.ireturn, 1)) {fs : List Frame}
    (hl : ∀ (f : JFrame) (acts : List Action), f.method = m → f.locked = none → f.entered = [] → (doReturn e (T.setTop f) acts (some (.int z))).1 = T.setFrames fs) : Steps p.tables e below (T.setTop (mkF m pc Ls (.int z :: rest))) (T.setFrames fs) := by
  have hm' : T.vm.method? m = some meth := X.method'
  have hn : narrow .int (.int z) = .int z := rfl
  show Steps p.tables e below (T.setTop { method := m, pc := pc, locals := Ls, stack := _ :: rest, locked := none }) _
  jvm_step X.here [X.here.top, hx, hd, hm', hret, hn]
  first | (intro acts; rw [hl _ acts rfl rfl rfl]) | rw [hl _ _ rfl rfl rfl]
  exact Steps.refl _
end New
end Jvm.RoadKit
namespace Jvm.Pilot.@@N@@
open Jvm Jvm.ClassFile Sem Op Lib Jvm.Free Jvm.Stand Jvm.LawKit Jvm.RoadKit Bundle Jvm.Pilot.@@N@@.Jvm.D

theorem own_len {args : Array Value} {s : State} {t : Term} {a : Addr} {cl : Cell} {v : Value} (ht : t.eval args s none [] s = some (.ref a)) (ha : s.arrayAt? a = some cl) (h : (Term.length t).eval args s none [] s = some v) : cl.slots.size < 2147483648 ∧ v = .int cl.slots.size.toInt32 := by
  simp only [Term.eval, ht, ha, Option.bind_eq_bind, Option.bind_some] at h
  by_cases hn : cl.slots.size < 2147483648
  · rw [if_pos hn] at h; exact ⟨hn, (Option.some.inj h).symm⟩
  · rw [if_neg hn] at h; cases h
theorem pn_3 : plainName "java/lang/StringLatin1" = true := by first | (simp [plainName, overriddenIn]; done) | decide +kernel
theorem ef_3_R_R (m : MethodId) (x0 : Addr) (x1 : Addr) : entryFrame m #[(.ref x0), (.ref x1)] 3 = mkF m 0 #[.val (.ref x0), .val (.ref x1), .unset] [] := by first | (simp [entryFrame, mkF, argsToLocals, Value.category]; done) | rfl
theorem d3_0 : decode jdk_43_method_13_code 0 = .ok (.aload_n 0, 1) := by decide +kernel
theorem d3_1 : decode jdk_43_method_13_code 1 = .ok (.arraylength, 1) := by decide +kernel
theorem d3_2 : decode jdk_43_method_13_code 2 = .ok (.aload_n 1, 1) := by decide +kernel
theorem d3_3 : decode jdk_43_method_13_code 3 = .ok (.arraylength, 1) := by decide +kernel
theorem d3_4 : decode jdk_43_method_13_code 4 = .ok (.if_icmp .ne 30, 3) := by decide +kernel
theorem d3_34 : decode jdk_43_method_13_code 34 = .ok (.iconst 0, 1) := by decide +kernel
theorem d3_35 : decode jdk_43_method_13_code 35 = .ok (.ireturn, 1) := by decide +kernel
def Q_rm_ld (Z : State) (a b : Addr) (k1 k2 : ClassId) (z1 z2 : Int32) (v1 v2 : List Value) (h0 : Heap) (n0 : Nat) (v : Option Value) (h : Heap) (L : List Loc) : Prop := v = some (.int (0 : Int32)) ∧ Fr n0 L ∧ h = h0
set_option maxRecDepth 65536 in
set_option maxHeartbeats 40000000 in
theorem rm_ld (l : Launch) (Z : State) (a0 : Array Value) (hw : ∀ d ∈ tables_1, d.before a0 Z = true) (ws : List Jvm.Cond) (a b : Addr) (k1 k2 : ClassId) (z1 z2 : Int32) (v1 v2 : List Value) (h0 : Heap) (n0 : Nat) (Z0 : n0 ≤ h0.size) (V_a : Arv Z h0 a k1 .byte z1 v1 (.int (0 : Int32))) (V_b : Arv Z h0 b k2 .byte z2 v2 (.int (0 : Int32))) (hz : ¬ z1 = z2) :
    MetFree l (⟨"java/lang/StringLatin1", "equals", "([B[B)Z"⟩ : MethodName) (head1 (Jvm.Cond.code (⟨"java/lang/StringLatin1", "equals", "([B[B)Z"⟩ : MethodName) jdk_43_method_13_code 3 (some .boolean) :: ws) ({ frames := 0, cells := 0, slots := 0, locals := 0 } : Room)) (fun argv U => argv = #[(.ref a), (.ref b)] ∧ Z.Warmed39 U.vm ∧ U.heap = h0) (fun _ _ _ _ _ => True) (fun _ U o U' => ∃ v L, o = .returned v ∧ Q_rm_ld Z a b k1 k2 z1 z2 v1 v2 h0 n0 v U'.heap L ∧ FrameEnd U o U' L ({ frames := 0, cells := 0, slots := 0, locals := 0 } : Room).cells ({ frames := 0, cells := 0, slots := 0, locals := 0 } : Room).slots) := by
  refine MetFree.of_bodySF (plainFor_of_name pn_3) hisR ?_
  intro p e s m args below meth c s₁ Bd hml0 hP hK
  obtain ⟨rfl, hZ, hh⟩ := hP
  have hx := Bd.exec
  have hby := Bd.bytes
  have hml : c.maxLocals = 3 := hml0
  have hown : s.vm.findClass "java/lang/StringLatin1" = some m.cls := findClass_of_methodNamed Bd.named
  have hnm := (name_of_methodNamed Bd.named Bd.method).1
  have X0 : Stand p l e ({ frames := 0, cells := 0, slots := 0, locals := 0 } : Room) s m #[(.ref a), (.ref b)] below meth c s₁ [] 0 0 := Stand.of_body Bd
  have e0 : s₁.heap = h0 := by rw [← hh, Bd.state]; rfl
  have N0 := Fr.nil n0
  obtain ⟨G, hG⟩ : ∃ G : State → Prop, G = fun tg => Steps p.tables e below (s₁.setTop (entryFrame m #[(.ref a), (.ref b)] 3)) tg := ⟨_, rfl⟩
  have pre0 : ∀ tg, Steps p.tables e below (s₁.setTop (mkF m 0 #[.val (.ref a), .val (.ref b), .unset] [])) tg → G tg := fun tg kt => by rw [hG]; exact castTop (ef_3_R_R m a b) kt
  have pre1 : ∀ tg, Steps p.tables e below (s₁.setTop (mkF m 1 #[.val (.ref a), .val (.ref b), .unset] [(.ref a)])) tg → G tg := fun tg kt => pre0 tg (by
    show Steps p.tables e below (s₁.setTop (mkF m 0 #[.val (.ref a), .val (.ref b), .unset] [])) _
    refine XS.aloadN X0.here hx rfl (hb hby d3_0) rfl rfl ?_
    exact kt)
  have op_2 := V_a
  obtain ⟨cl_2, Ar_2, q_2, S_2, Ng_2, H_2, G_2⟩ := op_2
  have pre3 : ∀ tg, Steps p.tables e below (s₁.setTop (mkF m 3 #[.val (.ref a), .val (.ref b), .unset] [(.ref b), (.int z1)])) tg → G tg := fun tg kt => pre1 tg (by
    show Steps p.tables e below (s₁.setTop (mkF m 1 #[.val (.ref a), .val (.ref b), .unset] [(.ref a)])) _
    refine X0.arraylength hx (by rw [e0]; exact Ar_2.1) (State.isArrayOf_alike hZ.alike Ar_2.2.1) (g := (mkF m 1 #[.val (.ref a), .val (.ref b), .unset] [(.ref a)])) rfl rfl (hb hby d3_1) _ ?_
    rw [len_of S_2 Ng_2]
    show Steps p.tables e below (s₁.setTop (mkF m 2 #[.val (.ref a), .val (.ref b), .unset] [(.int z1)])) _
    refine XS.aloadN X0.here hx rfl (hb hby d3_2) rfl rfl ?_
    exact kt)
  have op_4 := V_b
  obtain ⟨cl_4, Ar_4, q_4, S_4, Ng_4, H_4, G_4⟩ := op_4
  obtain ⟨fs, hr, hrun, hended, hW, hsame⟩ := X0.leave (v := some (.int (0 : Int32))) (fun h => by rw [Bd.returns] at h; cases h)
  subst hG
  refine ⟨_, _, pre3 _ ?_, hrun, hended, _, _, rfl, ?_, ⟨_, rfl⟩, hW, hsame.mono (by decide) (by decide)⟩
  · skip
    show Steps p.tables e below (s₁.setTop (mkF m 3 #[.val (.ref a), .val (.ref b), .unset] [(.ref b), (.int z1)])) _
    refine X0.arraylength hx (by rw [e0]; exact Ar_4.1) (State.isArrayOf_alike hZ.alike Ar_4.2.1) (g := (mkF m 3 #[.val (.ref a), .val (.ref b), .unset] [(.ref b), (.int z1)])) rfl rfl (hb hby d3_3) _ ?_
    rw [len_of S_4 Ng_4]
    show Steps p.tables e below (s₁.setTop (mkF m 4 #[.val (.ref a), .val (.ref b), .unset] [(.int z2), (.int z1)])) _
    refine XS.icmpYes X0.here hx rfl (pc0 := 4) (pc' := 34) rfl (hb hby d3_4) rfl (feq hz).2 (by decide) (by decide) ?_
    show Steps p.tables e below (s₁.setTop (mkF m 34 #[.val (.ref a), .val (.ref b), .unset] [])) _
    refine XS.iconst X0.here hx rfl (hb hby d3_34) ?_
    show Steps p.tables e below (s₁.setTop (mkF m 35 #[.val (.ref a), .val (.ref b), .unset] [(.int (0 : Int32))])) _
    exact retN X0 hx (t := .boolean) Bd.returns (by simp) (hb hby d3_35) hr
  · show Q_rm_ld Z a b k1 k2 z1 z2 v1 v2 h0 n0 _ s₁.heap _
    rw [e0]
    exact ⟨rfl, N0, rfl⟩
theorem d3_7 : decode jdk_43_method_13_code 7 = .ok (.iconst 0, 1) := by decide +kernel
theorem d3_8 : decode jdk_43_method_13_code 8 = .ok (.istore_n 2, 1) := by decide +kernel
theorem d3_9 : decode jdk_43_method_13_code 9 = .ok (.iload_n 2, 1) := by decide +kernel
theorem d3_10 : decode jdk_43_method_13_code 10 = .ok (.aload_n 0, 1) := by decide +kernel
theorem d3_11 : decode jdk_43_method_13_code 11 = .ok (.arraylength, 1) := by decide +kernel
theorem d3_12 : decode jdk_43_method_13_code 12 = .ok (.if_icmp .ge 20, 3) := by decide +kernel
theorem d3_15 : decode jdk_43_method_13_code 15 = .ok (.aload_n 0, 1) := by decide +kernel
theorem d3_16 : decode jdk_43_method_13_code 16 = .ok (.iload_n 2, 1) := by decide +kernel
theorem d3_17 : decode jdk_43_method_13_code 17 = .ok (.baload, 1) := by decide +kernel
theorem d3_18 : decode jdk_43_method_13_code 18 = .ok (.aload_n 1, 1) := by decide +kernel
theorem d3_19 : decode jdk_43_method_13_code 19 = .ok (.iload_n 2, 1) := by decide +kernel
theorem d3_20 : decode jdk_43_method_13_code 20 = .ok (.baload, 1) := by decide +kernel
theorem d3_21 : decode jdk_43_method_13_code 21 = .ok (.if_icmp .eq 5, 3) := by decide +kernel
theorem d3_24 : decode jdk_43_method_13_code 24 = .ok (.iconst 0, 1) := by decide +kernel
theorem d3_25 : decode jdk_43_method_13_code 25 = .ok (.ireturn, 1) := by decide +kernel
def Q_rm_fd (Z : State) (a b : Addr) (k1 k2 : ClassId) (x0 x1 x2 x3 x4 x5 x6 y0 y1 y2 y3 y4 y5 y6 : Int32) (h0 : Heap) (n0 : Nat) (v : Option Value) (h : Heap) (L : List Loc) : Prop := v = some (.int (0 : Int32)) ∧ Fr n0 L ∧ h = h0
set_option maxRecDepth 65536 in
set_option maxHeartbeats 40000000 in
theorem rm_fd (l : Launch) (Z : State) (a0 : Array Value) (hw : ∀ d ∈ tables_1, d.before a0 Z = true) (ws : List Jvm.Cond) (a b : Addr) (k1 k2 : ClassId) (x0 x1 x2 x3 x4 x5 x6 y0 y1 y2 y3 y4 y5 y6 : Int32) (h0 : Heap) (n0 : Nat) (Z0 : n0 ≤ h0.size) (V_a : Arv Z h0 a k1 .byte (7 : Int32) [(.int x0), (.int x1), (.int x2), (.int x3), (.int x4), (.int x5), (.int x6)] (.int (0 : Int32))) (V_b : Arv Z h0 b k2 .byte (7 : Int32) [(.int y0), (.int y1), (.int y2), (.int y3), (.int y4), (.int y5), (.int y6)] (.int (0 : Int32))) (hxy : ¬ x0 = y0) :
    MetFree l (⟨"java/lang/StringLatin1", "equals", "([B[B)Z"⟩ : MethodName) (head1 (Jvm.Cond.code (⟨"java/lang/StringLatin1", "equals", "([B[B)Z"⟩ : MethodName) jdk_43_method_13_code 3 (some .boolean) :: ws) ({ frames := 0, cells := 0, slots := 0, locals := 0 } : Room)) (fun argv U => argv = #[(.ref a), (.ref b)] ∧ Z.Warmed39 U.vm ∧ U.heap = h0) (fun _ _ _ _ _ => True) (fun _ U o U' => ∃ v L, o = .returned v ∧ Q_rm_fd Z a b k1 k2 x0 x1 x2 x3 x4 x5 x6 y0 y1 y2 y3 y4 y5 y6 h0 n0 v U'.heap L ∧ FrameEnd U o U' L ({ frames := 0, cells := 0, slots := 0, locals := 0 } : Room).cells ({ frames := 0, cells := 0, slots := 0, locals := 0 } : Room).slots) := by
  refine MetFree.of_bodySF (plainFor_of_name pn_3) hisR ?_
  intro p e s m args below meth c s₁ Bd hml0 hP hK
  obtain ⟨rfl, hZ, hh⟩ := hP
  have hx := Bd.exec
  have hby := Bd.bytes
  have hml : c.maxLocals = 3 := hml0
  have hown : s.vm.findClass "java/lang/StringLatin1" = some m.cls := findClass_of_methodNamed Bd.named
  have hnm := (name_of_methodNamed Bd.named Bd.method).1
  have X0 : Stand p l e ({ frames := 0, cells := 0, slots := 0, locals := 0 } : Room) s m #[(.ref a), (.ref b)] below meth c s₁ [] 0 0 := Stand.of_body Bd
  have e0 : s₁.heap = h0 := by rw [← hh, Bd.state]; rfl
  have N0 := Fr.nil n0
  obtain ⟨G, hG⟩ : ∃ G : State → Prop, G = fun tg => Steps p.tables e below (s₁.setTop (entryFrame m #[(.ref a), (.ref b)] 3)) tg := ⟨_, rfl⟩
  have pre0 : ∀ tg, Steps p.tables e below (s₁.setTop (mkF m 0 #[.val (.ref a), .val (.ref b), .unset] [])) tg → G tg := fun tg kt => by rw [hG]; exact castTop (ef_3_R_R m a b) kt
  have pre1 : ∀ tg, Steps p.tables e below (s₁.setTop (mkF m 1 #[.val (.ref a), .val (.ref b), .unset] [(.ref a)])) tg → G tg := fun tg kt => pre0 tg (by
    show Steps p.tables e below (s₁.setTop (mkF m 0 #[.val (.ref a), .val (.ref b), .unset] [])) _
    refine XS.aloadN X0.here hx rfl (hb hby d3_0) rfl rfl ?_
    exact kt)
  have op_2 := V_a
  obtain ⟨cl_2, Ar_2, q_2, S_2, Ng_2, H_2, G_2⟩ := op_2
  have pre3 : ∀ tg, Steps p.tables e below (s₁.setTop (mkF m 3 #[.val (.ref a), .val (.ref b), .unset] [(.ref b), (.int (7 : Int32))])) tg → G tg := fun tg kt => pre1 tg (by
    show Steps p.tables e below (s₁.setTop (mkF m 1 #[.val (.ref a), .val (.ref b), .unset] [(.ref a)])) _
    refine X0.arraylength hx (by rw [e0]; exact Ar_2.1) (State.isArrayOf_alike hZ.alike Ar_2.2.1) (g := (mkF m 1 #[.val (.ref a), .val (.ref b), .unset] [(.ref a)])) rfl rfl (hb hby d3_1) _ ?_
    rw [len_of S_2 Ng_2]
    show Steps p.tables e below (s₁.setTop (mkF m 2 #[.val (.ref a), .val (.ref b), .unset] [(.int (7 : Int32))])) _
    refine XS.aloadN X0.here hx rfl (hb hby d3_2) rfl rfl ?_
    exact kt)
  have op_4 := V_b
  obtain ⟨cl_4, Ar_4, q_4, S_4, Ng_4, H_4, G_4⟩ := op_4
  have pre5 : ∀ tg, Steps p.tables e below (s₁.setTop (mkF m 11 #[.val (.ref a), .val (.ref b), .val (.int (0 : Int32))] [(.ref a), (.int (0 : Int32))])) tg → G tg := fun tg kt => pre3 tg (by
    show Steps p.tables e below (s₁.setTop (mkF m 3 #[.val (.ref a), .val (.ref b), .unset] [(.ref b), (.int (7 : Int32))])) _
    refine X0.arraylength hx (by rw [e0]; exact Ar_4.1) (State.isArrayOf_alike hZ.alike Ar_4.2.1) (g := (mkF m 3 #[.val (.ref a), .val (.ref b), .unset] [(.ref b), (.int (7 : Int32))])) rfl rfl (hb hby d3_3) _ ?_
    rw [len_of S_4 Ng_4]
    show Steps p.tables e below (s₁.setTop (mkF m 4 #[.val (.ref a), .val (.ref b), .unset] [(.int (7 : Int32)), (.int (7 : Int32))])) _
    refine XS.icmpNo X0.here hx rfl (hb hby d3_4) rfl (teq (by decide : (7 : Int32) = (7 : Int32))).2 ?_
    show Steps p.tables e below (s₁.setTop (mkF m 7 #[.val (.ref a), .val (.ref b), .unset] [])) _
    refine XS.iconst X0.here hx rfl (hb hby d3_7) ?_
    show Steps p.tables e below (s₁.setTop (mkF m 8 #[.val (.ref a), .val (.ref b), .unset] [(.int (0 : Int32))])) _
    refine XS.istoreN X0.here hx rfl (hb hby d3_8) rfl (l' := #[.val (.ref a), .val (.ref b), .val (.int (0 : Int32))]) rfl ?_
    show Steps p.tables e below (s₁.setTop (mkF m 9 #[.val (.ref a), .val (.ref b), .val (.int (0 : Int32))] [])) _
    refine XS.iloadN X0.here hx rfl (hb hby d3_9) rfl ?_
    show Steps p.tables e below (s₁.setTop (mkF m 10 #[.val (.ref a), .val (.ref b), .val (.int (0 : Int32))] [(.int (0 : Int32))])) _
    refine XS.aloadN X0.here hx rfl (hb hby d3_10) rfl rfl ?_
    exact kt)
  have op_6 := V_a
  obtain ⟨cl_6, Ar_6, q_6, S_6, Ng_6, H_6, G_6⟩ := op_6
  have pre7 : ∀ tg, Steps p.tables e below (s₁.setTop (mkF m 17 #[.val (.ref a), .val (.ref b), .val (.int (0 : Int32))] [(.int (0 : Int32)), (.ref a)])) tg → G tg := fun tg kt => pre5 tg (by
    show Steps p.tables e below (s₁.setTop (mkF m 11 #[.val (.ref a), .val (.ref b), .val (.int (0 : Int32))] [(.ref a), (.int (0 : Int32))])) _
    refine X0.arraylength hx (by rw [e0]; exact Ar_6.1) (State.isArrayOf_alike hZ.alike Ar_6.2.1) (g := (mkF m 11 #[.val (.ref a), .val (.ref b), .val (.int (0 : Int32))] [(.ref a), (.int (0 : Int32))])) rfl rfl (hb hby d3_11) _ ?_
    rw [len_of S_6 Ng_6]
    show Steps p.tables e below (s₁.setTop (mkF m 12 #[.val (.ref a), .val (.ref b), .val (.int (0 : Int32))] [(.int (7 : Int32)), (.int (0 : Int32))])) _
    refine XS.icmpNo X0.here hx rfl (hb hby d3_12) rfl (tlt (by decide : (0 : Int32) < (7 : Int32))).2.1 ?_
    show Steps p.tables e below (s₁.setTop (mkF m 15 #[.val (.ref a), .val (.ref b), .val (.int (0 : Int32))] [])) _
    refine XS.aloadN X0.here hx rfl (hb hby d3_15) rfl rfl ?_
    show Steps p.tables e below (s₁.setTop (mkF m 16 #[.val (.ref a), .val (.ref b), .val (.int (0 : Int32))] [(.ref a)])) _
    refine XS.iloadN X0.here hx rfl (hb hby d3_16) rfl ?_
    exact kt)
  have op_8 := V_a
  obtain ⟨cl_8, Ar_8, q_8, S_8, Ng_8, H_8, G_8⟩ := op_8
  have hin_8 : ¬ ((0 : Int32) < 0 ∨ cl_8.slots.size ≤ ((0 : Int32)).toNatClampNeg) := inb_of S_8 ⟨by decide, by decide⟩
  have pre9 : ∀ tg, Steps p.tables e below (s₁.setTop (mkF m 20 #[.val (.ref a), .val (.ref b), .val (.int (0 : Int32))] [(.int (0 : Int32)), (.ref b), (.int x0)])) tg → G tg := fun tg kt => pre7 tg (by
    show Steps p.tables e below (s₁.setTop (mkF m 17 #[.val (.ref a), .val (.ref b), .val (.int (0 : Int32))] [(.int (0 : Int32)), (.ref a)])) _
    refine X0.baloadBytes hx (j := (0 : Int32)) (v := (.int x0)) (by rw [e0]; exact Ar_8.1) (State.isArrayOf_alike hZ.alike Ar_8.2.1) Ar_8.2.2 hin_8 (H_8.at hin_8 rfl) (g := (mkF m 17 #[.val (.ref a), .val (.ref b), .val (.int (0 : Int32))] [(.int (0 : Int32)), (.ref a)])) rfl rfl (hb hby d3_17) _ ?_
    show Steps p.tables e below (s₁.setTop (mkF m 18 #[.val (.ref a), .val (.ref b), .val (.int (0 : Int32))] [(.int x0)])) _
    refine XS.aloadN X0.here hx rfl (hb hby d3_18) rfl rfl ?_
    show Steps p.tables e below (s₁.setTop (mkF m 19 #[.val (.ref a), .val (.ref b), .val (.int (0 : Int32))] [(.ref b), (.int x0)])) _
    refine XS.iloadN X0.here hx rfl (hb hby d3_19) rfl ?_
    exact kt)
  have op_10 := V_b
  obtain ⟨cl_10, Ar_10, q_10, S_10, Ng_10, H_10, G_10⟩ := op_10
  have hin_10 : ¬ ((0 : Int32) < 0 ∨ cl_10.slots.size ≤ ((0 : Int32)).toNatClampNeg) := inb_of S_10 ⟨by decide, by decide⟩
  obtain ⟨fs, hr, hrun, hended, hW, hsame⟩ := X0.leave (v := some (.int (0 : Int32))) (fun h => by rw [Bd.returns] at h; cases h)
  subst hG
  refine ⟨_, _, pre9 _ ?_, hrun, hended, _, _, rfl, ?_, ⟨_, rfl⟩, hW, hsame.mono (by decide) (by decide)⟩
  · skip
    show Steps p.tables e below (s₁.setTop (mkF m 20 #[.val (.ref a), .val (.ref b), .val (.int (0 : Int32))] [(.int (0 : Int32)), (.ref b), (.int x0)])) _
    refine X0.baloadBytes hx (j := (0 : Int32)) (v := (.int y0)) (by rw [e0]; exact Ar_10.1) (State.isArrayOf_alike hZ.alike Ar_10.2.1) Ar_10.2.2 hin_10 (H_10.at hin_10 rfl) (g := (mkF m 20 #[.val (.ref a), .val (.ref b), .val (.int (0 : Int32))] [(.int (0 : Int32)), (.ref b), (.int x0)])) rfl rfl (hb hby d3_20) _ ?_
    show Steps p.tables e below (s₁.setTop (mkF m 21 #[.val (.ref a), .val (.ref b), .val (.int (0 : Int32))] [(.int y0), (.int x0)])) _
    refine XS.icmpNo X0.here hx rfl (hb hby d3_21) rfl (feq hxy).1 ?_
    show Steps p.tables e below (s₁.setTop (mkF m 24 #[.val (.ref a), .val (.ref b), .val (.int (0 : Int32))] [])) _
    refine XS.iconst X0.here hx rfl (hb hby d3_24) ?_
    show Steps p.tables e below (s₁.setTop (mkF m 25 #[.val (.ref a), .val (.ref b), .val (.int (0 : Int32))] [(.int (0 : Int32))])) _
    exact retN X0 hx (t := .boolean) Bd.returns (by simp) (hb hby d3_25) hr
  · show Q_rm_fd Z a b k1 k2 x0 x1 x2 x3 x4 x5 x6 y0 y1 y2 y3 y4 y5 y6 h0 n0 _ s₁.heap _
    rw [e0]
    exact ⟨rfl, N0, rfl⟩
theorem d3_26 : decode jdk_43_method_13_code 26 = .ok (.iinc 2 1, 3) := by decide +kernel
theorem d3_29 : decode jdk_43_method_13_code 29 = .ok (.goto (-20), 3) := by decide +kernel
theorem d3_32 : decode jdk_43_method_13_code 32 = .ok (.iconst 1, 1) := by decide +kernel
theorem d3_33 : decode jdk_43_method_13_code 33 = .ok (.ireturn, 1) := by decide +kernel
def Q_rm_s5 (Z : State) (a b : Addr) (k1 k2 : ClassId) (x0 x1 x2 x3 x4 : Int32) (h0 : Heap) (n0 : Nat) (v : Option Value) (h : Heap) (L : List Loc) : Prop := v = some (.int (1 : Int32)) ∧ Fr n0 L ∧ h = h0
set_option maxRecDepth 65536 in
set_option maxHeartbeats 40000000 in
theorem rm_s5 (l : Launch) (Z : State) (a0 : Array Value) (hw : ∀ d ∈ tables_1, d.before a0 Z = true) (ws : List Jvm.Cond) (a b : Addr) (k1 k2 : ClassId) (x0 x1 x2 x3 x4 : Int32) (h0 : Heap) (n0 : Nat) (Z0 : n0 ≤ h0.size) (V_a : Arv Z h0 a k1 .byte (5 : Int32) [(.int x0), (.int x1), (.int x2), (.int x3), (.int x4)] (.int (0 : Int32))) (V_b : Arv Z h0 b k2 .byte (5 : Int32) [(.int x0), (.int x1), (.int x2), (.int x3), (.int x4)] (.int (0 : Int32))) :
    MetFree l (⟨"java/lang/StringLatin1", "equals", "([B[B)Z"⟩ : MethodName) (head1 (Jvm.Cond.code (⟨"java/lang/StringLatin1", "equals", "([B[B)Z"⟩ : MethodName) jdk_43_method_13_code 3 (some .boolean) :: ws) ({ frames := 0, cells := 0, slots := 0, locals := 0 } : Room)) (fun argv U => argv = #[(.ref a), (.ref b)] ∧ Z.Warmed39 U.vm ∧ U.heap = h0) (fun _ _ _ _ _ => True) (fun _ U o U' => ∃ v L, o = .returned v ∧ Q_rm_s5 Z a b k1 k2 x0 x1 x2 x3 x4 h0 n0 v U'.heap L ∧ FrameEnd U o U' L ({ frames := 0, cells := 0, slots := 0, locals := 0 } : Room).cells ({ frames := 0, cells := 0, slots := 0, locals := 0 } : Room).slots) := by
  refine MetFree.of_bodySF (plainFor_of_name pn_3) hisR ?_
  intro p e s m args below meth c s₁ Bd hml0 hP hK
  obtain ⟨rfl, hZ, hh⟩ := hP
  have hx := Bd.exec
  have hby := Bd.bytes
  have hml : c.maxLocals = 3 := hml0
  have hown : s.vm.findClass "java/lang/StringLatin1" = some m.cls := findClass_of_methodNamed Bd.named
  have hnm := (name_of_methodNamed Bd.named Bd.method).1
  have X0 : Stand p l e ({ frames := 0, cells := 0, slots := 0, locals := 0 } : Room) s m #[(.ref a), (.ref b)] below meth c s₁ [] 0 0 := Stand.of_body Bd
  have e0 : s₁.heap = h0 := by rw [← hh, Bd.state]; rfl
  have N0 := Fr.nil n0
  obtain ⟨G, hG⟩ : ∃ G : State → Prop, G = fun tg => Steps p.tables e below (s₁.setTop (entryFrame m #[(.ref a), (.ref b)] 3)) tg := ⟨_, rfl⟩
  have pre0 : ∀ tg, Steps p.tables e below (s₁.setTop (mkF m 0 #[.val (.ref a), .val (.ref b), .unset] [])) tg → G tg := fun tg kt => by rw [hG]; exact castTop (ef_3_R_R m a b) kt
  have pre1 : ∀ tg, Steps p.tables e below (s₁.setTop (mkF m 1 #[.val (.ref a), .val (.ref b), .unset] [(.ref a)])) tg → G tg := fun tg kt => pre0 tg (by
    show Steps p.tables e below (s₁.setTop (mkF m 0 #[.val (.ref a), .val (.ref b), .unset] [])) _
    refine XS.aloadN X0.here hx rfl (hb hby d3_0) rfl rfl ?_
    exact kt)
  have op_2 := V_a
  obtain ⟨cl_2, Ar_2, q_2, S_2, Ng_2, H_2, G_2⟩ := op_2
  have pre3 : ∀ tg, Steps p.tables e below (s₁.setTop (mkF m 3 #[.val (.ref a), .val (.ref b), .unset] [(.ref b), (.int (5 : Int32))])) tg → G tg := fun tg kt => pre1 tg (by
    show Steps p.tables e below (s₁.setTop (mkF m 1 #[.val (.ref a), .val (.ref b), .unset] [(.ref a)])) _
    refine X0.arraylength hx (by rw [e0]; exact Ar_2.1) (State.isArrayOf_alike hZ.alike Ar_2.2.1) (g := (mkF m 1 #[.val (.ref a), .val (.ref b), .unset] [(.ref a)])) rfl rfl (hb hby d3_1) _ ?_
    rw [len_of S_2 Ng_2]
    show Steps p.tables e below (s₁.setTop (mkF m 2 #[.val (.ref a), .val (.ref b), .unset] [(.int (5 : Int32))])) _
    refine XS.aloadN X0.here hx rfl (hb hby d3_2) rfl rfl ?_
    exact kt)
  have op_4 := V_b
  obtain ⟨cl_4, Ar_4, q_4, S_4, Ng_4, H_4, G_4⟩ := op_4
  have pre5 : ∀ tg, Steps p.tables e below (s₁.setTop (mkF m 11 #[.val (.ref a), .val (.ref b), .val (.int (0 : Int32))] [(.ref a), (.int (0 : Int32))])) tg → G tg := fun tg kt => pre3 tg (by
    show Steps p.tables e below (s₁.setTop (mkF m 3 #[.val (.ref a), .val (.ref b), .unset] [(.ref b), (.int (5 : Int32))])) _
    refine X0.arraylength hx (by rw [e0]; exact Ar_4.1) (State.isArrayOf_alike hZ.alike Ar_4.2.1) (g := (mkF m 3 #[.val (.ref a), .val (.ref b), .unset] [(.ref b), (.int (5 : Int32))])) rfl rfl (hb hby d3_3) _ ?_
    rw [len_of S_4 Ng_4]
    show Steps p.tables e below (s₁.setTop (mkF m 4 #[.val (.ref a), .val (.ref b), .unset] [(.int (5 : Int32)), (.int (5 : Int32))])) _
    refine XS.icmpNo X0.here hx rfl (hb hby d3_4) rfl (teq (by decide : (5 : Int32) = (5 : Int32))).2 ?_
    show Steps p.tables e below (s₁.setTop (mkF m 7 #[.val (.ref a), .val (.ref b), .unset] [])) _
    refine XS.iconst X0.here hx rfl (hb hby d3_7) ?_
    show Steps p.tables e below (s₁.setTop (mkF m 8 #[.val (.ref a), .val (.ref b), .unset] [(.int (0 : Int32))])) _
    refine XS.istoreN X0.here hx rfl (hb hby d3_8) rfl (l' := #[.val (.ref a), .val (.ref b), .val (.int (0 : Int32))]) rfl ?_
    show Steps p.tables e below (s₁.setTop (mkF m 9 #[.val (.ref a), .val (.ref b), .val (.int (0 : Int32))] [])) _
    refine XS.iloadN X0.here hx rfl (hb hby d3_9) rfl ?_
    show Steps p.tables e below (s₁.setTop (mkF m 10 #[.val (.ref a), .val (.ref b), .val (.int (0 : Int32))] [(.int (0 : Int32))])) _
    refine XS.aloadN X0.here hx rfl (hb hby d3_10) rfl rfl ?_
    exact kt)
  have op_6 := V_a
  obtain ⟨cl_6, Ar_6, q_6, S_6, Ng_6, H_6, G_6⟩ := op_6
  have pre7 : ∀ tg, Steps p.tables e below (s₁.setTop (mkF m 17 #[.val (.ref a), .val (.ref b), .val (.int (0 : Int32))] [(.int (0 : Int32)), (.ref a)])) tg → G tg := fun tg kt => pre5 tg (by
    show Steps p.tables e below (s₁.setTop (mkF m 11 #[.val (.ref a), .val (.ref b), .val (.int (0 : Int32))] [(.ref a), (.int (0 : Int32))])) _
    refine X0.arraylength hx (by rw [e0]; exact Ar_6.1) (State.isArrayOf_alike hZ.alike Ar_6.2.1) (g := (mkF m 11 #[.val (.ref a), .val (.ref b), .val (.int (0 : Int32))] [(.ref a), (.int (0 : Int32))])) rfl rfl (hb hby d3_11) _ ?_
    rw [len_of S_6 Ng_6]
    show Steps p.tables e below (s₁.setTop (mkF m 12 #[.val (.ref a), .val (.ref b), .val (.int (0 : Int32))] [(.int (5 : Int32)), (.int (0 : Int32))])) _
    refine XS.icmpNo X0.here hx rfl (hb hby d3_12) rfl (tlt (by decide : (0 : Int32) < (5 : Int32))).2.1 ?_
    show Steps p.tables e below (s₁.setTop (mkF m 15 #[.val (.ref a), .val (.ref b), .val (.int (0 : Int32))] [])) _
    refine XS.aloadN X0.here hx rfl (hb hby d3_15) rfl rfl ?_
    show Steps p.tables e below (s₁.setTop (mkF m 16 #[.val (.ref a), .val (.ref b), .val (.int (0 : Int32))] [(.ref a)])) _
    refine XS.iloadN X0.here hx rfl (hb hby d3_16) rfl ?_
    exact kt)
  have op_8 := V_a
  obtain ⟨cl_8, Ar_8, q_8, S_8, Ng_8, H_8, G_8⟩ := op_8
  have hin_8 : ¬ ((0 : Int32) < 0 ∨ cl_8.slots.size ≤ ((0 : Int32)).toNatClampNeg) := inb_of S_8 ⟨by decide, by decide⟩
  have pre9 : ∀ tg, Steps p.tables e below (s₁.setTop (mkF m 20 #[.val (.ref a), .val (.ref b), .val (.int (0 : Int32))] [(.int (0 : Int32)), (.ref b), (.int x0)])) tg → G tg := fun tg kt => pre7 tg (by
    show Steps p.tables e below (s₁.setTop (mkF m 17 #[.val (.ref a), .val (.ref b), .val (.int (0 : Int32))] [(.int (0 : Int32)), (.ref a)])) _
    refine X0.baloadBytes hx (j := (0 : Int32)) (v := (.int x0)) (by rw [e0]; exact Ar_8.1) (State.isArrayOf_alike hZ.alike Ar_8.2.1) Ar_8.2.2 hin_8 (H_8.at hin_8 rfl) (g := (mkF m 17 #[.val (.ref a), .val (.ref b), .val (.int (0 : Int32))] [(.int (0 : Int32)), (.ref a)])) rfl rfl (hb hby d3_17) _ ?_
    show Steps p.tables e below (s₁.setTop (mkF m 18 #[.val (.ref a), .val (.ref b), .val (.int (0 : Int32))] [(.int x0)])) _
    refine XS.aloadN X0.here hx rfl (hb hby d3_18) rfl rfl ?_
    show Steps p.tables e below (s₁.setTop (mkF m 19 #[.val (.ref a), .val (.ref b), .val (.int (0 : Int32))] [(.ref b), (.int x0)])) _
    refine XS.iloadN X0.here hx rfl (hb hby d3_19) rfl ?_
    exact kt)
  have op_10 := V_b
  obtain ⟨cl_10, Ar_10, q_10, S_10, Ng_10, H_10, G_10⟩ := op_10
  have hin_10 : ¬ ((0 : Int32) < 0 ∨ cl_10.slots.size ≤ ((0 : Int32)).toNatClampNeg) := inb_of S_10 ⟨by decide, by decide⟩
  have pre11 : ∀ tg, Steps p.tables e below (s₁.setTop (mkF m 11 #[.val (.ref a), .val (.ref b), .val (.int (1 : Int32))] [(.ref a), (.int (1 : Int32))])) tg → G tg := fun tg kt => pre9 tg (by
    show Steps p.tables e below (s₁.setTop (mkF m 20 #[.val (.ref a), .val (.ref b), .val (.int (0 : Int32))] [(.int (0 : Int32)), (.ref b), (.int x0)])) _
    refine X0.baloadBytes hx (j := (0 : Int32)) (v := (.int x0)) (by rw [e0]; exact Ar_10.1) (State.isArrayOf_alike hZ.alike Ar_10.2.1) Ar_10.2.2 hin_10 (H_10.at hin_10 rfl) (g := (mkF m 20 #[.val (.ref a), .val (.ref b), .val (.int (0 : Int32))] [(.int (0 : Int32)), (.ref b), (.int x0)])) rfl rfl (hb hby d3_20) _ ?_
    show Steps p.tables e below (s₁.setTop (mkF m 21 #[.val (.ref a), .val (.ref b), .val (.int (0 : Int32))] [(.int x0), (.int x0)])) _
    refine XS.icmpYes X0.here hx rfl (pc0 := 21) (pc' := 26) rfl (hb hby d3_21) rfl (teq rfl).1 (by decide) (by decide) ?_
    show Steps p.tables e below (s₁.setTop (mkF m 26 #[.val (.ref a), .val (.ref b), .val (.int (0 : Int32))] [])) _
    refine XS.iinc X0.here hx rfl (hb hby d3_26) rfl (l' := #[.val (.ref a), .val (.ref b), .val (.int (1 : Int32))]) rfl ?_
    show Steps p.tables e below (s₁.setTop (mkF m 29 #[.val (.ref a), .val (.ref b), .val (.int (1 : Int32))] [])) _
    refine XS.goto X0.here hx rfl (pc0 := 29) (pc' := 9) rfl (hb hby d3_29) (by decide) (by decide) ?_
    show Steps p.tables e below (s₁.setTop (mkF m 9 #[.val (.ref a), .val (.ref b), .val (.int (1 : Int32))] [])) _
    refine XS.iloadN X0.here hx rfl (hb hby d3_9) rfl ?_
    show Steps p.tables e below (s₁.setTop (mkF m 10 #[.val (.ref a), .val (.ref b), .val (.int (1 : Int32))] [(.int (1 : Int32))])) _
    refine XS.aloadN X0.here hx rfl (hb hby d3_10) rfl rfl ?_
    exact kt)
  have op_12 := V_a
  obtain ⟨cl_12, Ar_12, q_12, S_12, Ng_12, H_12, G_12⟩ := op_12
  have pre13 : ∀ tg, Steps p.tables e below (s₁.setTop (mkF m 17 #[.val (.ref a), .val (.ref b), .val (.int (1 : Int32))] [(.int (1 : Int32)), (.ref a)])) tg → G tg := fun tg kt => pre11 tg (by
    show Steps p.tables e below (s₁.setTop (mkF m 11 #[.val (.ref a), .val (.ref b), .val (.int (1 : Int32))] [(.ref a), (.int (1 : Int32))])) _
    refine X0.arraylength hx (by rw [e0]; exact Ar_12.1) (State.isArrayOf_alike hZ.alike Ar_12.2.1) (g := (mkF m 11 #[.val (.ref a), .val (.ref b), .val (.int (1 : Int32))] [(.ref a), (.int (1 : Int32))])) rfl rfl (hb hby d3_11) _ ?_
    rw [len_of S_12 Ng_12]
    show Steps p.tables e below (s₁.setTop (mkF m 12 #[.val (.ref a), .val (.ref b), .val (.int (1 : Int32))] [(.int (5 : Int32)), (.int (1 : Int32))])) _
    refine XS.icmpNo X0.here hx rfl (hb hby d3_12) rfl (tlt (by decide : (1 : Int32) < (5 : Int32))).2.1 ?_
    show Steps p.tables e below (s₁.setTop (mkF m 15 #[.val (.ref a), .val (.ref b), .val (.int (1 : Int32))] [])) _
    refine XS.aloadN X0.here hx rfl (hb hby d3_15) rfl rfl ?_
    show Steps p.tables e below (s₁.setTop (mkF m 16 #[.val (.ref a), .val (.ref b), .val (.int (1 : Int32))] [(.ref a)])) _
    refine XS.iloadN X0.here hx rfl (hb hby d3_16) rfl ?_
    exact kt)
  have op_14 := V_a
  obtain ⟨cl_14, Ar_14, q_14, S_14, Ng_14, H_14, G_14⟩ := op_14
  have hin_14 : ¬ ((1 : Int32) < 0 ∨ cl_14.slots.size ≤ ((1 : Int32)).toNatClampNeg) := inb_of S_14 ⟨by decide, by decide⟩
  have pre15 : ∀ tg, Steps p.tables e below (s₁.setTop (mkF m 20 #[.val (.ref a), .val (.ref b), .val (.int (1 : Int32))] [(.int (1 : Int32)), (.ref b), (.int x1)])) tg → G tg := fun tg kt => pre13 tg (by
    show Steps p.tables e below (s₁.setTop (mkF m 17 #[.val (.ref a), .val (.ref b), .val (.int (1 : Int32))] [(.int (1 : Int32)), (.ref a)])) _
    refine X0.baloadBytes hx (j := (1 : Int32)) (v := (.int x1)) (by rw [e0]; exact Ar_14.1) (State.isArrayOf_alike hZ.alike Ar_14.2.1) Ar_14.2.2 hin_14 (H_14.at hin_14 rfl) (g := (mkF m 17 #[.val (.ref a), .val (.ref b), .val (.int (1 : Int32))] [(.int (1 : Int32)), (.ref a)])) rfl rfl (hb hby d3_17) _ ?_
    show Steps p.tables e below (s₁.setTop (mkF m 18 #[.val (.ref a), .val (.ref b), .val (.int (1 : Int32))] [(.int x1)])) _
    refine XS.aloadN X0.here hx rfl (hb hby d3_18) rfl rfl ?_
    show Steps p.tables e below (s₁.setTop (mkF m 19 #[.val (.ref a), .val (.ref b), .val (.int (1 : Int32))] [(.ref b), (.int x1)])) _
    refine XS.iloadN X0.here hx rfl (hb hby d3_19) rfl ?_
    exact kt)
  have op_16 := V_b
  obtain ⟨cl_16, Ar_16, q_16, S_16, Ng_16, H_16, G_16⟩ := op_16
  have hin_16 : ¬ ((1 : Int32) < 0 ∨ cl_16.slots.size ≤ ((1 : Int32)).toNatClampNeg) := inb_of S_16 ⟨by decide, by decide⟩
  have pre17 : ∀ tg, Steps p.tables e below (s₁.setTop (mkF m 11 #[.val (.ref a), .val (.ref b), .val (.int (2 : Int32))] [(.ref a), (.int (2 : Int32))])) tg → G tg := fun tg kt => pre15 tg (by
    show Steps p.tables e below (s₁.setTop (mkF m 20 #[.val (.ref a), .val (.ref b), .val (.int (1 : Int32))] [(.int (1 : Int32)), (.ref b), (.int x1)])) _
    refine X0.baloadBytes hx (j := (1 : Int32)) (v := (.int x1)) (by rw [e0]; exact Ar_16.1) (State.isArrayOf_alike hZ.alike Ar_16.2.1) Ar_16.2.2 hin_16 (H_16.at hin_16 rfl) (g := (mkF m 20 #[.val (.ref a), .val (.ref b), .val (.int (1 : Int32))] [(.int (1 : Int32)), (.ref b), (.int x1)])) rfl rfl (hb hby d3_20) _ ?_
    show Steps p.tables e below (s₁.setTop (mkF m 21 #[.val (.ref a), .val (.ref b), .val (.int (1 : Int32))] [(.int x1), (.int x1)])) _
    refine XS.icmpYes X0.here hx rfl (pc0 := 21) (pc' := 26) rfl (hb hby d3_21) rfl (teq rfl).1 (by decide) (by decide) ?_
    show Steps p.tables e below (s₁.setTop (mkF m 26 #[.val (.ref a), .val (.ref b), .val (.int (1 : Int32))] [])) _
    refine XS.iinc X0.here hx rfl (hb hby d3_26) rfl (l' := #[.val (.ref a), .val (.ref b), .val (.int (2 : Int32))]) rfl ?_
    show Steps p.tables e below (s₁.setTop (mkF m 29 #[.val (.ref a), .val (.ref b), .val (.int (2 : Int32))] [])) _
    refine XS.goto X0.here hx rfl (pc0 := 29) (pc' := 9) rfl (hb hby d3_29) (by decide) (by decide) ?_
    show Steps p.tables e below (s₁.setTop (mkF m 9 #[.val (.ref a), .val (.ref b), .val (.int (2 : Int32))] [])) _
    refine XS.iloadN X0.here hx rfl (hb hby d3_9) rfl ?_
    show Steps p.tables e below (s₁.setTop (mkF m 10 #[.val (.ref a), .val (.ref b), .val (.int (2 : Int32))] [(.int (2 : Int32))])) _
    refine XS.aloadN X0.here hx rfl (hb hby d3_10) rfl rfl ?_
    exact kt)
  have op_18 := V_a
  obtain ⟨cl_18, Ar_18, q_18, S_18, Ng_18, H_18, G_18⟩ := op_18
  have pre19 : ∀ tg, Steps p.tables e below (s₁.setTop (mkF m 17 #[.val (.ref a), .val (.ref b), .val (.int (2 : Int32))] [(.int (2 : Int32)), (.ref a)])) tg → G tg := fun tg kt => pre17 tg (by
    show Steps p.tables e below (s₁.setTop (mkF m 11 #[.val (.ref a), .val (.ref b), .val (.int (2 : Int32))] [(.ref a), (.int (2 : Int32))])) _
    refine X0.arraylength hx (by rw [e0]; exact Ar_18.1) (State.isArrayOf_alike hZ.alike Ar_18.2.1) (g := (mkF m 11 #[.val (.ref a), .val (.ref b), .val (.int (2 : Int32))] [(.ref a), (.int (2 : Int32))])) rfl rfl (hb hby d3_11) _ ?_
    rw [len_of S_18 Ng_18]
    show Steps p.tables e below (s₁.setTop (mkF m 12 #[.val (.ref a), .val (.ref b), .val (.int (2 : Int32))] [(.int (5 : Int32)), (.int (2 : Int32))])) _
    refine XS.icmpNo X0.here hx rfl (hb hby d3_12) rfl (tlt (by decide : (2 : Int32) < (5 : Int32))).2.1 ?_
    show Steps p.tables e below (s₁.setTop (mkF m 15 #[.val (.ref a), .val (.ref b), .val (.int (2 : Int32))] [])) _
    refine XS.aloadN X0.here hx rfl (hb hby d3_15) rfl rfl ?_
    show Steps p.tables e below (s₁.setTop (mkF m 16 #[.val (.ref a), .val (.ref b), .val (.int (2 : Int32))] [(.ref a)])) _
    refine XS.iloadN X0.here hx rfl (hb hby d3_16) rfl ?_
    exact kt)
  have op_20 := V_a
  obtain ⟨cl_20, Ar_20, q_20, S_20, Ng_20, H_20, G_20⟩ := op_20
  have hin_20 : ¬ ((2 : Int32) < 0 ∨ cl_20.slots.size ≤ ((2 : Int32)).toNatClampNeg) := inb_of S_20 ⟨by decide, by decide⟩
  have pre21 : ∀ tg, Steps p.tables e below (s₁.setTop (mkF m 20 #[.val (.ref a), .val (.ref b), .val (.int (2 : Int32))] [(.int (2 : Int32)), (.ref b), (.int x2)])) tg → G tg := fun tg kt => pre19 tg (by
    show Steps p.tables e below (s₁.setTop (mkF m 17 #[.val (.ref a), .val (.ref b), .val (.int (2 : Int32))] [(.int (2 : Int32)), (.ref a)])) _
    refine X0.baloadBytes hx (j := (2 : Int32)) (v := (.int x2)) (by rw [e0]; exact Ar_20.1) (State.isArrayOf_alike hZ.alike Ar_20.2.1) Ar_20.2.2 hin_20 (H_20.at hin_20 rfl) (g := (mkF m 17 #[.val (.ref a), .val (.ref b), .val (.int (2 : Int32))] [(.int (2 : Int32)), (.ref a)])) rfl rfl (hb hby d3_17) _ ?_
    show Steps p.tables e below (s₁.setTop (mkF m 18 #[.val (.ref a), .val (.ref b), .val (.int (2 : Int32))] [(.int x2)])) _
    refine XS.aloadN X0.here hx rfl (hb hby d3_18) rfl rfl ?_
    show Steps p.tables e below (s₁.setTop (mkF m 19 #[.val (.ref a), .val (.ref b), .val (.int (2 : Int32))] [(.ref b), (.int x2)])) _
    refine XS.iloadN X0.here hx rfl (hb hby d3_19) rfl ?_
    exact kt)
  have op_22 := V_b
  obtain ⟨cl_22, Ar_22, q_22, S_22, Ng_22, H_22, G_22⟩ := op_22
  have hin_22 : ¬ ((2 : Int32) < 0 ∨ cl_22.slots.size ≤ ((2 : Int32)).toNatClampNeg) := inb_of S_22 ⟨by decide, by decide⟩
  have pre23 : ∀ tg, Steps p.tables e below (s₁.setTop (mkF m 11 #[.val (.ref a), .val (.ref b), .val (.int (3 : Int32))] [(.ref a), (.int (3 : Int32))])) tg → G tg := fun tg kt => pre21 tg (by
    show Steps p.tables e below (s₁.setTop (mkF m 20 #[.val (.ref a), .val (.ref b), .val (.int (2 : Int32))] [(.int (2 : Int32)), (.ref b), (.int x2)])) _
    refine X0.baloadBytes hx (j := (2 : Int32)) (v := (.int x2)) (by rw [e0]; exact Ar_22.1) (State.isArrayOf_alike hZ.alike Ar_22.2.1) Ar_22.2.2 hin_22 (H_22.at hin_22 rfl) (g := (mkF m 20 #[.val (.ref a), .val (.ref b), .val (.int (2 : Int32))] [(.int (2 : Int32)), (.ref b), (.int x2)])) rfl rfl (hb hby d3_20) _ ?_
    show Steps p.tables e below (s₁.setTop (mkF m 21 #[.val (.ref a), .val (.ref b), .val (.int (2 : Int32))] [(.int x2), (.int x2)])) _
    refine XS.icmpYes X0.here hx rfl (pc0 := 21) (pc' := 26) rfl (hb hby d3_21) rfl (teq rfl).1 (by decide) (by decide) ?_
    show Steps p.tables e below (s₁.setTop (mkF m 26 #[.val (.ref a), .val (.ref b), .val (.int (2 : Int32))] [])) _
    refine XS.iinc X0.here hx rfl (hb hby d3_26) rfl (l' := #[.val (.ref a), .val (.ref b), .val (.int (3 : Int32))]) rfl ?_
    show Steps p.tables e below (s₁.setTop (mkF m 29 #[.val (.ref a), .val (.ref b), .val (.int (3 : Int32))] [])) _
    refine XS.goto X0.here hx rfl (pc0 := 29) (pc' := 9) rfl (hb hby d3_29) (by decide) (by decide) ?_
    show Steps p.tables e below (s₁.setTop (mkF m 9 #[.val (.ref a), .val (.ref b), .val (.int (3 : Int32))] [])) _
    refine XS.iloadN X0.here hx rfl (hb hby d3_9) rfl ?_
    show Steps p.tables e below (s₁.setTop (mkF m 10 #[.val (.ref a), .val (.ref b), .val (.int (3 : Int32))] [(.int (3 : Int32))])) _
    refine XS.aloadN X0.here hx rfl (hb hby d3_10) rfl rfl ?_
    exact kt)
  have op_24 := V_a
  obtain ⟨cl_24, Ar_24, q_24, S_24, Ng_24, H_24, G_24⟩ := op_24
  have pre25 : ∀ tg, Steps p.tables e below (s₁.setTop (mkF m 17 #[.val (.ref a), .val (.ref b), .val (.int (3 : Int32))] [(.int (3 : Int32)), (.ref a)])) tg → G tg := fun tg kt => pre23 tg (by
    show Steps p.tables e below (s₁.setTop (mkF m 11 #[.val (.ref a), .val (.ref b), .val (.int (3 : Int32))] [(.ref a), (.int (3 : Int32))])) _
    refine X0.arraylength hx (by rw [e0]; exact Ar_24.1) (State.isArrayOf_alike hZ.alike Ar_24.2.1) (g := (mkF m 11 #[.val (.ref a), .val (.ref b), .val (.int (3 : Int32))] [(.ref a), (.int (3 : Int32))])) rfl rfl (hb hby d3_11) _ ?_
    rw [len_of S_24 Ng_24]
    show Steps p.tables e below (s₁.setTop (mkF m 12 #[.val (.ref a), .val (.ref b), .val (.int (3 : Int32))] [(.int (5 : Int32)), (.int (3 : Int32))])) _
    refine XS.icmpNo X0.here hx rfl (hb hby d3_12) rfl (tlt (by decide : (3 : Int32) < (5 : Int32))).2.1 ?_
    show Steps p.tables e below (s₁.setTop (mkF m 15 #[.val (.ref a), .val (.ref b), .val (.int (3 : Int32))] [])) _
    refine XS.aloadN X0.here hx rfl (hb hby d3_15) rfl rfl ?_
    show Steps p.tables e below (s₁.setTop (mkF m 16 #[.val (.ref a), .val (.ref b), .val (.int (3 : Int32))] [(.ref a)])) _
    refine XS.iloadN X0.here hx rfl (hb hby d3_16) rfl ?_
    exact kt)
  have op_26 := V_a
  obtain ⟨cl_26, Ar_26, q_26, S_26, Ng_26, H_26, G_26⟩ := op_26
  have hin_26 : ¬ ((3 : Int32) < 0 ∨ cl_26.slots.size ≤ ((3 : Int32)).toNatClampNeg) := inb_of S_26 ⟨by decide, by decide⟩
  have pre27 : ∀ tg, Steps p.tables e below (s₁.setTop (mkF m 20 #[.val (.ref a), .val (.ref b), .val (.int (3 : Int32))] [(.int (3 : Int32)), (.ref b), (.int x3)])) tg → G tg := fun tg kt => pre25 tg (by
    show Steps p.tables e below (s₁.setTop (mkF m 17 #[.val (.ref a), .val (.ref b), .val (.int (3 : Int32))] [(.int (3 : Int32)), (.ref a)])) _
    refine X0.baloadBytes hx (j := (3 : Int32)) (v := (.int x3)) (by rw [e0]; exact Ar_26.1) (State.isArrayOf_alike hZ.alike Ar_26.2.1) Ar_26.2.2 hin_26 (H_26.at hin_26 rfl) (g := (mkF m 17 #[.val (.ref a), .val (.ref b), .val (.int (3 : Int32))] [(.int (3 : Int32)), (.ref a)])) rfl rfl (hb hby d3_17) _ ?_
    show Steps p.tables e below (s₁.setTop (mkF m 18 #[.val (.ref a), .val (.ref b), .val (.int (3 : Int32))] [(.int x3)])) _
    refine XS.aloadN X0.here hx rfl (hb hby d3_18) rfl rfl ?_
    show Steps p.tables e below (s₁.setTop (mkF m 19 #[.val (.ref a), .val (.ref b), .val (.int (3 : Int32))] [(.ref b), (.int x3)])) _
    refine XS.iloadN X0.here hx rfl (hb hby d3_19) rfl ?_
    exact kt)
  have op_28 := V_b
  obtain ⟨cl_28, Ar_28, q_28, S_28, Ng_28, H_28, G_28⟩ := op_28
  have hin_28 : ¬ ((3 : Int32) < 0 ∨ cl_28.slots.size ≤ ((3 : Int32)).toNatClampNeg) := inb_of S_28 ⟨by decide, by decide⟩
  have pre29 : ∀ tg, Steps p.tables e below (s₁.setTop (mkF m 11 #[.val (.ref a), .val (.ref b), .val (.int (4 : Int32))] [(.ref a), (.int (4 : Int32))])) tg → G tg := fun tg kt => pre27 tg (by
    show Steps p.tables e below (s₁.setTop (mkF m 20 #[.val (.ref a), .val (.ref b), .val (.int (3 : Int32))] [(.int (3 : Int32)), (.ref b), (.int x3)])) _
    refine X0.baloadBytes hx (j := (3 : Int32)) (v := (.int x3)) (by rw [e0]; exact Ar_28.1) (State.isArrayOf_alike hZ.alike Ar_28.2.1) Ar_28.2.2 hin_28 (H_28.at hin_28 rfl) (g := (mkF m 20 #[.val (.ref a), .val (.ref b), .val (.int (3 : Int32))] [(.int (3 : Int32)), (.ref b), (.int x3)])) rfl rfl (hb hby d3_20) _ ?_
    show Steps p.tables e below (s₁.setTop (mkF m 21 #[.val (.ref a), .val (.ref b), .val (.int (3 : Int32))] [(.int x3), (.int x3)])) _
    refine XS.icmpYes X0.here hx rfl (pc0 := 21) (pc' := 26) rfl (hb hby d3_21) rfl (teq rfl).1 (by decide) (by decide) ?_
    show Steps p.tables e below (s₁.setTop (mkF m 26 #[.val (.ref a), .val (.ref b), .val (.int (3 : Int32))] [])) _
    refine XS.iinc X0.here hx rfl (hb hby d3_26) rfl (l' := #[.val (.ref a), .val (.ref b), .val (.int (4 : Int32))]) rfl ?_
    show Steps p.tables e below (s₁.setTop (mkF m 29 #[.val (.ref a), .val (.ref b), .val (.int (4 : Int32))] [])) _
    refine XS.goto X0.here hx rfl (pc0 := 29) (pc' := 9) rfl (hb hby d3_29) (by decide) (by decide) ?_
    show Steps p.tables e below (s₁.setTop (mkF m 9 #[.val (.ref a), .val (.ref b), .val (.int (4 : Int32))] [])) _
    refine XS.iloadN X0.here hx rfl (hb hby d3_9) rfl ?_
    show Steps p.tables e below (s₁.setTop (mkF m 10 #[.val (.ref a), .val (.ref b), .val (.int (4 : Int32))] [(.int (4 : Int32))])) _
    refine XS.aloadN X0.here hx rfl (hb hby d3_10) rfl rfl ?_
    exact kt)
  have op_30 := V_a
  obtain ⟨cl_30, Ar_30, q_30, S_30, Ng_30, H_30, G_30⟩ := op_30
  have pre31 : ∀ tg, Steps p.tables e below (s₁.setTop (mkF m 17 #[.val (.ref a), .val (.ref b), .val (.int (4 : Int32))] [(.int (4 : Int32)), (.ref a)])) tg → G tg := fun tg kt => pre29 tg (by
    show Steps p.tables e below (s₁.setTop (mkF m 11 #[.val (.ref a), .val (.ref b), .val (.int (4 : Int32))] [(.ref a), (.int (4 : Int32))])) _
    refine X0.arraylength hx (by rw [e0]; exact Ar_30.1) (State.isArrayOf_alike hZ.alike Ar_30.2.1) (g := (mkF m 11 #[.val (.ref a), .val (.ref b), .val (.int (4 : Int32))] [(.ref a), (.int (4 : Int32))])) rfl rfl (hb hby d3_11) _ ?_
    rw [len_of S_30 Ng_30]
    show Steps p.tables e below (s₁.setTop (mkF m 12 #[.val (.ref a), .val (.ref b), .val (.int (4 : Int32))] [(.int (5 : Int32)), (.int (4 : Int32))])) _
    refine XS.icmpNo X0.here hx rfl (hb hby d3_12) rfl (tlt (by decide : (4 : Int32) < (5 : Int32))).2.1 ?_
    show Steps p.tables e below (s₁.setTop (mkF m 15 #[.val (.ref a), .val (.ref b), .val (.int (4 : Int32))] [])) _
    refine XS.aloadN X0.here hx rfl (hb hby d3_15) rfl rfl ?_
    show Steps p.tables e below (s₁.setTop (mkF m 16 #[.val (.ref a), .val (.ref b), .val (.int (4 : Int32))] [(.ref a)])) _
    refine XS.iloadN X0.here hx rfl (hb hby d3_16) rfl ?_
    exact kt)
  have op_32 := V_a
  obtain ⟨cl_32, Ar_32, q_32, S_32, Ng_32, H_32, G_32⟩ := op_32
  have hin_32 : ¬ ((4 : Int32) < 0 ∨ cl_32.slots.size ≤ ((4 : Int32)).toNatClampNeg) := inb_of S_32 ⟨by decide, by decide⟩
  have pre33 : ∀ tg, Steps p.tables e below (s₁.setTop (mkF m 20 #[.val (.ref a), .val (.ref b), .val (.int (4 : Int32))] [(.int (4 : Int32)), (.ref b), (.int x4)])) tg → G tg := fun tg kt => pre31 tg (by
    show Steps p.tables e below (s₁.setTop (mkF m 17 #[.val (.ref a), .val (.ref b), .val (.int (4 : Int32))] [(.int (4 : Int32)), (.ref a)])) _
    refine X0.baloadBytes hx (j := (4 : Int32)) (v := (.int x4)) (by rw [e0]; exact Ar_32.1) (State.isArrayOf_alike hZ.alike Ar_32.2.1) Ar_32.2.2 hin_32 (H_32.at hin_32 rfl) (g := (mkF m 17 #[.val (.ref a), .val (.ref b), .val (.int (4 : Int32))] [(.int (4 : Int32)), (.ref a)])) rfl rfl (hb hby d3_17) _ ?_
    show Steps p.tables e below (s₁.setTop (mkF m 18 #[.val (.ref a), .val (.ref b), .val (.int (4 : Int32))] [(.int x4)])) _
    refine XS.aloadN X0.here hx rfl (hb hby d3_18) rfl rfl ?_
    show Steps p.tables e below (s₁.setTop (mkF m 19 #[.val (.ref a), .val (.ref b), .val (.int (4 : Int32))] [(.ref b), (.int x4)])) _
    refine XS.iloadN X0.here hx rfl (hb hby d3_19) rfl ?_
    exact kt)
  have op_34 := V_b
  obtain ⟨cl_34, Ar_34, q_34, S_34, Ng_34, H_34, G_34⟩ := op_34
  have hin_34 : ¬ ((4 : Int32) < 0 ∨ cl_34.slots.size ≤ ((4 : Int32)).toNatClampNeg) := inb_of S_34 ⟨by decide, by decide⟩
  have pre35 : ∀ tg, Steps p.tables e below (s₁.setTop (mkF m 11 #[.val (.ref a), .val (.ref b), .val (.int (5 : Int32))] [(.ref a), (.int (5 : Int32))])) tg → G tg := fun tg kt => pre33 tg (by
    show Steps p.tables e below (s₁.setTop (mkF m 20 #[.val (.ref a), .val (.ref b), .val (.int (4 : Int32))] [(.int (4 : Int32)), (.ref b), (.int x4)])) _
    refine X0.baloadBytes hx (j := (4 : Int32)) (v := (.int x4)) (by rw [e0]; exact Ar_34.1) (State.isArrayOf_alike hZ.alike Ar_34.2.1) Ar_34.2.2 hin_34 (H_34.at hin_34 rfl) (g := (mkF m 20 #[.val (.ref a), .val (.ref b), .val (.int (4 : Int32))] [(.int (4 : Int32)), (.ref b), (.int x4)])) rfl rfl (hb hby d3_20) _ ?_
    show Steps p.tables e below (s₁.setTop (mkF m 21 #[.val (.ref a), .val (.ref b), .val (.int (4 : Int32))] [(.int x4), (.int x4)])) _
    refine XS.icmpYes X0.here hx rfl (pc0 := 21) (pc' := 26) rfl (hb hby d3_21) rfl (teq rfl).1 (by decide) (by decide) ?_
    show Steps p.tables e below (s₁.setTop (mkF m 26 #[.val (.ref a), .val (.ref b), .val (.int (4 : Int32))] [])) _
    refine XS.iinc X0.here hx rfl (hb hby d3_26) rfl (l' := #[.val (.ref a), .val (.ref b), .val (.int (5 : Int32))]) rfl ?_
    show Steps p.tables e below (s₁.setTop (mkF m 29 #[.val (.ref a), .val (.ref b), .val (.int (5 : Int32))] [])) _
    refine XS.goto X0.here hx rfl (pc0 := 29) (pc' := 9) rfl (hb hby d3_29) (by decide) (by decide) ?_
    show Steps p.tables e below (s₁.setTop (mkF m 9 #[.val (.ref a), .val (.ref b), .val (.int (5 : Int32))] [])) _
    refine XS.iloadN X0.here hx rfl (hb hby d3_9) rfl ?_
    show Steps p.tables e below (s₁.setTop (mkF m 10 #[.val (.ref a), .val (.ref b), .val (.int (5 : Int32))] [(.int (5 : Int32))])) _
    refine XS.aloadN X0.here hx rfl (hb hby d3_10) rfl rfl ?_
    exact kt)
  have op_36 := V_a
  obtain ⟨cl_36, Ar_36, q_36, S_36, Ng_36, H_36, G_36⟩ := op_36
  obtain ⟨fs, hr, hrun, hended, hW, hsame⟩ := X0.leave (v := some (.int (1 : Int32))) (fun h => by rw [Bd.returns] at h; cases h)
  subst hG
  refine ⟨_, _, pre35 _ ?_, hrun, hended, _, _, rfl, ?_, ⟨_, rfl⟩, hW, hsame.mono (by decide) (by decide)⟩
  · skip
    show Steps p.tables e below (s₁.setTop (mkF m 11 #[.val (.ref a), .val (.ref b), .val (.int (5 : Int32))] [(.ref a), (.int (5 : Int32))])) _
    refine X0.arraylength hx (by rw [e0]; exact Ar_36.1) (State.isArrayOf_alike hZ.alike Ar_36.2.1) (g := (mkF m 11 #[.val (.ref a), .val (.ref b), .val (.int (5 : Int32))] [(.ref a), (.int (5 : Int32))])) rfl rfl (hb hby d3_11) _ ?_
    rw [len_of S_36 Ng_36]
    show Steps p.tables e below (s₁.setTop (mkF m 12 #[.val (.ref a), .val (.ref b), .val (.int (5 : Int32))] [(.int (5 : Int32)), (.int (5 : Int32))])) _
    refine XS.icmpYes X0.here hx rfl (pc0 := 12) (pc' := 32) rfl (hb hby d3_12) rfl (flt (by decide : ¬ ((5 : Int32) < (5 : Int32)))).2.1 (by decide) (by decide) ?_
    show Steps p.tables e below (s₁.setTop (mkF m 32 #[.val (.ref a), .val (.ref b), .val (.int (5 : Int32))] [])) _
    refine XS.iconst X0.here hx rfl (hb hby d3_32) ?_
    show Steps p.tables e below (s₁.setTop (mkF m 33 #[.val (.ref a), .val (.ref b), .val (.int (5 : Int32))] [(.int (1 : Int32))])) _
    exact retN X0 hx (t := .boolean) Bd.returns (by simp) (hb hby d3_33) hr
  · show Q_rm_s5 Z a b k1 k2 x0 x1 x2 x3 x4 h0 n0 _ s₁.heap _
    rw [e0]
    exact ⟨rfl, N0, rfl⟩
def Q_rm_s7 (Z : State) (a b : Addr) (k1 k2 : ClassId) (x0 x1 x2 x3 x4 x5 x6 : Int32) (h0 : Heap) (n0 : Nat) (v : Option Value) (h : Heap) (L : List Loc) : Prop := v = some (.int (1 : Int32)) ∧ Fr n0 L ∧ h = h0
set_option maxRecDepth 65536 in
set_option maxHeartbeats 40000000 in
theorem rm_s7 (l : Launch) (Z : State) (a0 : Array Value) (hw : ∀ d ∈ tables_1, d.before a0 Z = true) (ws : List Jvm.Cond) (a b : Addr) (k1 k2 : ClassId) (x0 x1 x2 x3 x4 x5 x6 : Int32) (h0 : Heap) (n0 : Nat) (Z0 : n0 ≤ h0.size) (V_a : Arv Z h0 a k1 .byte (7 : Int32) [(.int x0), (.int x1), (.int x2), (.int x3), (.int x4), (.int x5), (.int x6)] (.int (0 : Int32))) (V_b : Arv Z h0 b k2 .byte (7 : Int32) [(.int x0), (.int x1), (.int x2), (.int x3), (.int x4), (.int x5), (.int x6)] (.int (0 : Int32))) :
    MetFree l (⟨"java/lang/StringLatin1", "equals", "([B[B)Z"⟩ : MethodName) (head1 (Jvm.Cond.code (⟨"java/lang/StringLatin1", "equals", "([B[B)Z"⟩ : MethodName) jdk_43_method_13_code 3 (some .boolean) :: ws) ({ frames := 0, cells := 0, slots := 0, locals := 0 } : Room)) (fun argv U => argv = #[(.ref a), (.ref b)] ∧ Z.Warmed39 U.vm ∧ U.heap = h0) (fun _ _ _ _ _ => True) (fun _ U o U' => ∃ v L, o = .returned v ∧ Q_rm_s7 Z a b k1 k2 x0 x1 x2 x3 x4 x5 x6 h0 n0 v U'.heap L ∧ FrameEnd U o U' L ({ frames := 0, cells := 0, slots := 0, locals := 0 } : Room).cells ({ frames := 0, cells := 0, slots := 0, locals := 0 } : Room).slots) := by
  refine MetFree.of_bodySF (plainFor_of_name pn_3) hisR ?_
  intro p e s m args below meth c s₁ Bd hml0 hP hK
  obtain ⟨rfl, hZ, hh⟩ := hP
  have hx := Bd.exec
  have hby := Bd.bytes
  have hml : c.maxLocals = 3 := hml0
  have hown : s.vm.findClass "java/lang/StringLatin1" = some m.cls := findClass_of_methodNamed Bd.named
  have hnm := (name_of_methodNamed Bd.named Bd.method).1
  have X0 : Stand p l e ({ frames := 0, cells := 0, slots := 0, locals := 0 } : Room) s m #[(.ref a), (.ref b)] below meth c s₁ [] 0 0 := Stand.of_body Bd
  have e0 : s₁.heap = h0 := by rw [← hh, Bd.state]; rfl
  have N0 := Fr.nil n0
  obtain ⟨G, hG⟩ : ∃ G : State → Prop, G = fun tg => Steps p.tables e below (s₁.setTop (entryFrame m #[(.ref a), (.ref b)] 3)) tg := ⟨_, rfl⟩
  have pre0 : ∀ tg, Steps p.tables e below (s₁.setTop (mkF m 0 #[.val (.ref a), .val (.ref b), .unset] [])) tg → G tg := fun tg kt => by rw [hG]; exact castTop (ef_3_R_R m a b) kt
  have pre1 : ∀ tg, Steps p.tables e below (s₁.setTop (mkF m 1 #[.val (.ref a), .val (.ref b), .unset] [(.ref a)])) tg → G tg := fun tg kt => pre0 tg (by
    show Steps p.tables e below (s₁.setTop (mkF m 0 #[.val (.ref a), .val (.ref b), .unset] [])) _
    refine XS.aloadN X0.here hx rfl (hb hby d3_0) rfl rfl ?_
    exact kt)
  have op_2 := V_a
  obtain ⟨cl_2, Ar_2, q_2, S_2, Ng_2, H_2, G_2⟩ := op_2
  have pre3 : ∀ tg, Steps p.tables e below (s₁.setTop (mkF m 3 #[.val (.ref a), .val (.ref b), .unset] [(.ref b), (.int (7 : Int32))])) tg → G tg := fun tg kt => pre1 tg (by
    show Steps p.tables e below (s₁.setTop (mkF m 1 #[.val (.ref a), .val (.ref b), .unset] [(.ref a)])) _
    refine X0.arraylength hx (by rw [e0]; exact Ar_2.1) (State.isArrayOf_alike hZ.alike Ar_2.2.1) (g := (mkF m 1 #[.val (.ref a), .val (.ref b), .unset] [(.ref a)])) rfl rfl (hb hby d3_1) _ ?_
    rw [len_of S_2 Ng_2]
    show Steps p.tables e below (s₁.setTop (mkF m 2 #[.val (.ref a), .val (.ref b), .unset] [(.int (7 : Int32))])) _
    refine XS.aloadN X0.here hx rfl (hb hby d3_2) rfl rfl ?_
    exact kt)
  have op_4 := V_b
  obtain ⟨cl_4, Ar_4, q_4, S_4, Ng_4, H_4, G_4⟩ := op_4
  have pre5 : ∀ tg, Steps p.tables e below (s₁.setTop (mkF m 11 #[.val (.ref a), .val (.ref b), .val (.int (0 : Int32))] [(.ref a), (.int (0 : Int32))])) tg → G tg := fun tg kt => pre3 tg (by
    show Steps p.tables e below (s₁.setTop (mkF m 3 #[.val (.ref a), .val (.ref b), .unset] [(.ref b), (.int (7 : Int32))])) _
    refine X0.arraylength hx (by rw [e0]; exact Ar_4.1) (State.isArrayOf_alike hZ.alike Ar_4.2.1) (g := (mkF m 3 #[.val (.ref a), .val (.ref b), .unset] [(.ref b), (.int (7 : Int32))])) rfl rfl (hb hby d3_3) _ ?_
    rw [len_of S_4 Ng_4]
    show Steps p.tables e below (s₁.setTop (mkF m 4 #[.val (.ref a), .val (.ref b), .unset] [(.int (7 : Int32)), (.int (7 : Int32))])) _
    refine XS.icmpNo X0.here hx rfl (hb hby d3_4) rfl (teq (by decide : (7 : Int32) = (7 : Int32))).2 ?_
    show Steps p.tables e below (s₁.setTop (mkF m 7 #[.val (.ref a), .val (.ref b), .unset] [])) _
    refine XS.iconst X0.here hx rfl (hb hby d3_7) ?_
    show Steps p.tables e below (s₁.setTop (mkF m 8 #[.val (.ref a), .val (.ref b), .unset] [(.int (0 : Int32))])) _
    refine XS.istoreN X0.here hx rfl (hb hby d3_8) rfl (l' := #[.val (.ref a), .val (.ref b), .val (.int (0 : Int32))]) rfl ?_
    show Steps p.tables e below (s₁.setTop (mkF m 9 #[.val (.ref a), .val (.ref b), .val (.int (0 : Int32))] [])) _
    refine XS.iloadN X0.here hx rfl (hb hby d3_9) rfl ?_
    show Steps p.tables e below (s₁.setTop (mkF m 10 #[.val (.ref a), .val (.ref b), .val (.int (0 : Int32))] [(.int (0 : Int32))])) _
    refine XS.aloadN X0.here hx rfl (hb hby d3_10) rfl rfl ?_
    exact kt)
  have op_6 := V_a
  obtain ⟨cl_6, Ar_6, q_6, S_6, Ng_6, H_6, G_6⟩ := op_6
  have pre7 : ∀ tg, Steps p.tables e below (s₁.setTop (mkF m 17 #[.val (.ref a), .val (.ref b), .val (.int (0 : Int32))] [(.int (0 : Int32)), (.ref a)])) tg → G tg := fun tg kt => pre5 tg (by
    show Steps p.tables e below (s₁.setTop (mkF m 11 #[.val (.ref a), .val (.ref b), .val (.int (0 : Int32))] [(.ref a), (.int (0 : Int32))])) _
    refine X0.arraylength hx (by rw [e0]; exact Ar_6.1) (State.isArrayOf_alike hZ.alike Ar_6.2.1) (g := (mkF m 11 #[.val (.ref a), .val (.ref b), .val (.int (0 : Int32))] [(.ref a), (.int (0 : Int32))])) rfl rfl (hb hby d3_11) _ ?_
    rw [len_of S_6 Ng_6]
    show Steps p.tables e below (s₁.setTop (mkF m 12 #[.val (.ref a), .val (.ref b), .val (.int (0 : Int32))] [(.int (7 : Int32)), (.int (0 : Int32))])) _
    refine XS.icmpNo X0.here hx rfl (hb hby d3_12) rfl (tlt (by decide : (0 : Int32) < (7 : Int32))).2.1 ?_
    show Steps p.tables e below (s₁.setTop (mkF m 15 #[.val (.ref a), .val (.ref b), .val (.int (0 : Int32))] [])) _
    refine XS.aloadN X0.here hx rfl (hb hby d3_15) rfl rfl ?_
    show Steps p.tables e below (s₁.setTop (mkF m 16 #[.val (.ref a), .val (.ref b), .val (.int (0 : Int32))] [(.ref a)])) _
    refine XS.iloadN X0.here hx rfl (hb hby d3_16) rfl ?_
    exact kt)
  have op_8 := V_a
  obtain ⟨cl_8, Ar_8, q_8, S_8, Ng_8, H_8, G_8⟩ := op_8
  have hin_8 : ¬ ((0 : Int32) < 0 ∨ cl_8.slots.size ≤ ((0 : Int32)).toNatClampNeg) := inb_of S_8 ⟨by decide, by decide⟩
  have pre9 : ∀ tg, Steps p.tables e below (s₁.setTop (mkF m 20 #[.val (.ref a), .val (.ref b), .val (.int (0 : Int32))] [(.int (0 : Int32)), (.ref b), (.int x0)])) tg → G tg := fun tg kt => pre7 tg (by
    show Steps p.tables e below (s₁.setTop (mkF m 17 #[.val (.ref a), .val (.ref b), .val (.int (0 : Int32))] [(.int (0 : Int32)), (.ref a)])) _
    refine X0.baloadBytes hx (j := (0 : Int32)) (v := (.int x0)) (by rw [e0]; exact Ar_8.1) (State.isArrayOf_alike hZ.alike Ar_8.2.1) Ar_8.2.2 hin_8 (H_8.at hin_8 rfl) (g := (mkF m 17 #[.val (.ref a), .val (.ref b), .val (.int (0 : Int32))] [(.int (0 : Int32)), (.ref a)])) rfl rfl (hb hby d3_17) _ ?_
    show Steps p.tables e below (s₁.setTop (mkF m 18 #[.val (.ref a), .val (.ref b), .val (.int (0 : Int32))] [(.int x0)])) _
    refine XS.aloadN X0.here hx rfl (hb hby d3_18) rfl rfl ?_
    show Steps p.tables e below (s₁.setTop (mkF m 19 #[.val (.ref a), .val (.ref b), .val (.int (0 : Int32))] [(.ref b), (.int x0)])) _
    refine XS.iloadN X0.here hx rfl (hb hby d3_19) rfl ?_
    exact kt)
  have op_10 := V_b
  obtain ⟨cl_10, Ar_10, q_10, S_10, Ng_10, H_10, G_10⟩ := op_10
  have hin_10 : ¬ ((0 : Int32) < 0 ∨ cl_10.slots.size ≤ ((0 : Int32)).toNatClampNeg) := inb_of S_10 ⟨by decide, by decide⟩
  have pre11 : ∀ tg, Steps p.tables e below (s₁.setTop (mkF m 11 #[.val (.ref a), .val (.ref b), .val (.int (1 : Int32))] [(.ref a), (.int (1 : Int32))])) tg → G tg := fun tg kt => pre9 tg (by
    show Steps p.tables e below (s₁.setTop (mkF m 20 #[.val (.ref a), .val (.ref b), .val (.int (0 : Int32))] [(.int (0 : Int32)), (.ref b), (.int x0)])) _
    refine X0.baloadBytes hx (j := (0 : Int32)) (v := (.int x0)) (by rw [e0]; exact Ar_10.1) (State.isArrayOf_alike hZ.alike Ar_10.2.1) Ar_10.2.2 hin_10 (H_10.at hin_10 rfl) (g := (mkF m 20 #[.val (.ref a), .val (.ref b), .val (.int (0 : Int32))] [(.int (0 : Int32)), (.ref b), (.int x0)])) rfl rfl (hb hby d3_20) _ ?_
    show Steps p.tables e below (s₁.setTop (mkF m 21 #[.val (.ref a), .val (.ref b), .val (.int (0 : Int32))] [(.int x0), (.int x0)])) _
    refine XS.icmpYes X0.here hx rfl (pc0 := 21) (pc' := 26) rfl (hb hby d3_21) rfl (teq rfl).1 (by decide) (by decide) ?_
    show Steps p.tables e below (s₁.setTop (mkF m 26 #[.val (.ref a), .val (.ref b), .val (.int (0 : Int32))] [])) _
    refine XS.iinc X0.here hx rfl (hb hby d3_26) rfl (l' := #[.val (.ref a), .val (.ref b), .val (.int (1 : Int32))]) rfl ?_
    show Steps p.tables e below (s₁.setTop (mkF m 29 #[.val (.ref a), .val (.ref b), .val (.int (1 : Int32))] [])) _
    refine XS.goto X0.here hx rfl (pc0 := 29) (pc' := 9) rfl (hb hby d3_29) (by decide) (by decide) ?_
    show Steps p.tables e below (s₁.setTop (mkF m 9 #[.val (.ref a), .val (.ref b), .val (.int (1 : Int32))] [])) _
    refine XS.iloadN X0.here hx rfl (hb hby d3_9) rfl ?_
    show Steps p.tables e below (s₁.setTop (mkF m 10 #[.val (.ref a), .val (.ref b), .val (.int (1 : Int32))] [(.int (1 : Int32))])) _
    refine XS.aloadN X0.here hx rfl (hb hby d3_10) rfl rfl ?_
    exact kt)
  have op_12 := V_a
  obtain ⟨cl_12, Ar_12, q_12, S_12, Ng_12, H_12, G_12⟩ := op_12
  have pre13 : ∀ tg, Steps p.tables e below (s₁.setTop (mkF m 17 #[.val (.ref a), .val (.ref b), .val (.int (1 : Int32))] [(.int (1 : Int32)), (.ref a)])) tg → G tg := fun tg kt => pre11 tg (by
    show Steps p.tables e below (s₁.setTop (mkF m 11 #[.val (.ref a), .val (.ref b), .val (.int (1 : Int32))] [(.ref a), (.int (1 : Int32))])) _
    refine X0.arraylength hx (by rw [e0]; exact Ar_12.1) (State.isArrayOf_alike hZ.alike Ar_12.2.1) (g := (mkF m 11 #[.val (.ref a), .val (.ref b), .val (.int (1 : Int32))] [(.ref a), (.int (1 : Int32))])) rfl rfl (hb hby d3_11) _ ?_
    rw [len_of S_12 Ng_12]
    show Steps p.tables e below (s₁.setTop (mkF m 12 #[.val (.ref a), .val (.ref b), .val (.int (1 : Int32))] [(.int (7 : Int32)), (.int (1 : Int32))])) _
    refine XS.icmpNo X0.here hx rfl (hb hby d3_12) rfl (tlt (by decide : (1 : Int32) < (7 : Int32))).2.1 ?_
    show Steps p.tables e below (s₁.setTop (mkF m 15 #[.val (.ref a), .val (.ref b), .val (.int (1 : Int32))] [])) _
    refine XS.aloadN X0.here hx rfl (hb hby d3_15) rfl rfl ?_
    show Steps p.tables e below (s₁.setTop (mkF m 16 #[.val (.ref a), .val (.ref b), .val (.int (1 : Int32))] [(.ref a)])) _
    refine XS.iloadN X0.here hx rfl (hb hby d3_16) rfl ?_
    exact kt)
  have op_14 := V_a
  obtain ⟨cl_14, Ar_14, q_14, S_14, Ng_14, H_14, G_14⟩ := op_14
  have hin_14 : ¬ ((1 : Int32) < 0 ∨ cl_14.slots.size ≤ ((1 : Int32)).toNatClampNeg) := inb_of S_14 ⟨by decide, by decide⟩
  have pre15 : ∀ tg, Steps p.tables e below (s₁.setTop (mkF m 20 #[.val (.ref a), .val (.ref b), .val (.int (1 : Int32))] [(.int (1 : Int32)), (.ref b), (.int x1)])) tg → G tg := fun tg kt => pre13 tg (by
    show Steps p.tables e below (s₁.setTop (mkF m 17 #[.val (.ref a), .val (.ref b), .val (.int (1 : Int32))] [(.int (1 : Int32)), (.ref a)])) _
    refine X0.baloadBytes hx (j := (1 : Int32)) (v := (.int x1)) (by rw [e0]; exact Ar_14.1) (State.isArrayOf_alike hZ.alike Ar_14.2.1) Ar_14.2.2 hin_14 (H_14.at hin_14 rfl) (g := (mkF m 17 #[.val (.ref a), .val (.ref b), .val (.int (1 : Int32))] [(.int (1 : Int32)), (.ref a)])) rfl rfl (hb hby d3_17) _ ?_
    show Steps p.tables e below (s₁.setTop (mkF m 18 #[.val (.ref a), .val (.ref b), .val (.int (1 : Int32))] [(.int x1)])) _
    refine XS.aloadN X0.here hx rfl (hb hby d3_18) rfl rfl ?_
    show Steps p.tables e below (s₁.setTop (mkF m 19 #[.val (.ref a), .val (.ref b), .val (.int (1 : Int32))] [(.ref b), (.int x1)])) _
    refine XS.iloadN X0.here hx rfl (hb hby d3_19) rfl ?_
    exact kt)
  have op_16 := V_b
  obtain ⟨cl_16, Ar_16, q_16, S_16, Ng_16, H_16, G_16⟩ := op_16
  have hin_16 : ¬ ((1 : Int32) < 0 ∨ cl_16.slots.size ≤ ((1 : Int32)).toNatClampNeg) := inb_of S_16 ⟨by decide, by decide⟩
  have pre17 : ∀ tg, Steps p.tables e below (s₁.setTop (mkF m 11 #[.val (.ref a), .val (.ref b), .val (.int (2 : Int32))] [(.ref a), (.int (2 : Int32))])) tg → G tg := fun tg kt => pre15 tg (by
    show Steps p.tables e below (s₁.setTop (mkF m 20 #[.val (.ref a), .val (.ref b), .val (.int (1 : Int32))] [(.int (1 : Int32)), (.ref b), (.int x1)])) _
    refine X0.baloadBytes hx (j := (1 : Int32)) (v := (.int x1)) (by rw [e0]; exact Ar_16.1) (State.isArrayOf_alike hZ.alike Ar_16.2.1) Ar_16.2.2 hin_16 (H_16.at hin_16 rfl) (g := (mkF m 20 #[.val (.ref a), .val (.ref b), .val (.int (1 : Int32))] [(.int (1 : Int32)), (.ref b), (.int x1)])) rfl rfl (hb hby d3_20) _ ?_
    show Steps p.tables e below (s₁.setTop (mkF m 21 #[.val (.ref a), .val (.ref b), .val (.int (1 : Int32))] [(.int x1), (.int x1)])) _
    refine XS.icmpYes X0.here hx rfl (pc0 := 21) (pc' := 26) rfl (hb hby d3_21) rfl (teq rfl).1 (by decide) (by decide) ?_
    show Steps p.tables e below (s₁.setTop (mkF m 26 #[.val (.ref a), .val (.ref b), .val (.int (1 : Int32))] [])) _
    refine XS.iinc X0.here hx rfl (hb hby d3_26) rfl (l' := #[.val (.ref a), .val (.ref b), .val (.int (2 : Int32))]) rfl ?_
    show Steps p.tables e below (s₁.setTop (mkF m 29 #[.val (.ref a), .val (.ref b), .val (.int (2 : Int32))] [])) _
    refine XS.goto X0.here hx rfl (pc0 := 29) (pc' := 9) rfl (hb hby d3_29) (by decide) (by decide) ?_
    show Steps p.tables e below (s₁.setTop (mkF m 9 #[.val (.ref a), .val (.ref b), .val (.int (2 : Int32))] [])) _
    refine XS.iloadN X0.here hx rfl (hb hby d3_9) rfl ?_
    show Steps p.tables e below (s₁.setTop (mkF m 10 #[.val (.ref a), .val (.ref b), .val (.int (2 : Int32))] [(.int (2 : Int32))])) _
    refine XS.aloadN X0.here hx rfl (hb hby d3_10) rfl rfl ?_
    exact kt)
  have op_18 := V_a
  obtain ⟨cl_18, Ar_18, q_18, S_18, Ng_18, H_18, G_18⟩ := op_18
  have pre19 : ∀ tg, Steps p.tables e below (s₁.setTop (mkF m 17 #[.val (.ref a), .val (.ref b), .val (.int (2 : Int32))] [(.int (2 : Int32)), (.ref a)])) tg → G tg := fun tg kt => pre17 tg (by
    show Steps p.tables e below (s₁.setTop (mkF m 11 #[.val (.ref a), .val (.ref b), .val (.int (2 : Int32))] [(.ref a), (.int (2 : Int32))])) _
    refine X0.arraylength hx (by rw [e0]; exact Ar_18.1) (State.isArrayOf_alike hZ.alike Ar_18.2.1) (g := (mkF m 11 #[.val (.ref a), .val (.ref b), .val (.int (2 : Int32))] [(.ref a), (.int (2 : Int32))])) rfl rfl (hb hby d3_11) _ ?_
    rw [len_of S_18 Ng_18]
    show Steps p.tables e below (s₁.setTop (mkF m 12 #[.val (.ref a), .val (.ref b), .val (.int (2 : Int32))] [(.int (7 : Int32)), (.int (2 : Int32))])) _
    refine XS.icmpNo X0.here hx rfl (hb hby d3_12) rfl (tlt (by decide : (2 : Int32) < (7 : Int32))).2.1 ?_
    show Steps p.tables e below (s₁.setTop (mkF m 15 #[.val (.ref a), .val (.ref b), .val (.int (2 : Int32))] [])) _
    refine XS.aloadN X0.here hx rfl (hb hby d3_15) rfl rfl ?_
    show Steps p.tables e below (s₁.setTop (mkF m 16 #[.val (.ref a), .val (.ref b), .val (.int (2 : Int32))] [(.ref a)])) _
    refine XS.iloadN X0.here hx rfl (hb hby d3_16) rfl ?_
    exact kt)
  have op_20 := V_a
  obtain ⟨cl_20, Ar_20, q_20, S_20, Ng_20, H_20, G_20⟩ := op_20
  have hin_20 : ¬ ((2 : Int32) < 0 ∨ cl_20.slots.size ≤ ((2 : Int32)).toNatClampNeg) := inb_of S_20 ⟨by decide, by decide⟩
  have pre21 : ∀ tg, Steps p.tables e below (s₁.setTop (mkF m 20 #[.val (.ref a), .val (.ref b), .val (.int (2 : Int32))] [(.int (2 : Int32)), (.ref b), (.int x2)])) tg → G tg := fun tg kt => pre19 tg (by
    show Steps p.tables e below (s₁.setTop (mkF m 17 #[.val (.ref a), .val (.ref b), .val (.int (2 : Int32))] [(.int (2 : Int32)), (.ref a)])) _
    refine X0.baloadBytes hx (j := (2 : Int32)) (v := (.int x2)) (by rw [e0]; exact Ar_20.1) (State.isArrayOf_alike hZ.alike Ar_20.2.1) Ar_20.2.2 hin_20 (H_20.at hin_20 rfl) (g := (mkF m 17 #[.val (.ref a), .val (.ref b), .val (.int (2 : Int32))] [(.int (2 : Int32)), (.ref a)])) rfl rfl (hb hby d3_17) _ ?_
    show Steps p.tables e below (s₁.setTop (mkF m 18 #[.val (.ref a), .val (.ref b), .val (.int (2 : Int32))] [(.int x2)])) _
    refine XS.aloadN X0.here hx rfl (hb hby d3_18) rfl rfl ?_
    show Steps p.tables e below (s₁.setTop (mkF m 19 #[.val (.ref a), .val (.ref b), .val (.int (2 : Int32))] [(.ref b), (.int x2)])) _
    refine XS.iloadN X0.here hx rfl (hb hby d3_19) rfl ?_
    exact kt)
  have op_22 := V_b
  obtain ⟨cl_22, Ar_22, q_22, S_22, Ng_22, H_22, G_22⟩ := op_22
  have hin_22 : ¬ ((2 : Int32) < 0 ∨ cl_22.slots.size ≤ ((2 : Int32)).toNatClampNeg) := inb_of S_22 ⟨by decide, by decide⟩
  have pre23 : ∀ tg, Steps p.tables e below (s₁.setTop (mkF m 11 #[.val (.ref a), .val (.ref b), .val (.int (3 : Int32))] [(.ref a), (.int (3 : Int32))])) tg → G tg := fun tg kt => pre21 tg (by
    show Steps p.tables e below (s₁.setTop (mkF m 20 #[.val (.ref a), .val (.ref b), .val (.int (2 : Int32))] [(.int (2 : Int32)), (.ref b), (.int x2)])) _
    refine X0.baloadBytes hx (j := (2 : Int32)) (v := (.int x2)) (by rw [e0]; exact Ar_22.1) (State.isArrayOf_alike hZ.alike Ar_22.2.1) Ar_22.2.2 hin_22 (H_22.at hin_22 rfl) (g := (mkF m 20 #[.val (.ref a), .val (.ref b), .val (.int (2 : Int32))] [(.int (2 : Int32)), (.ref b), (.int x2)])) rfl rfl (hb hby d3_20) _ ?_
    show Steps p.tables e below (s₁.setTop (mkF m 21 #[.val (.ref a), .val (.ref b), .val (.int (2 : Int32))] [(.int x2), (.int x2)])) _
    refine XS.icmpYes X0.here hx rfl (pc0 := 21) (pc' := 26) rfl (hb hby d3_21) rfl (teq rfl).1 (by decide) (by decide) ?_
    show Steps p.tables e below (s₁.setTop (mkF m 26 #[.val (.ref a), .val (.ref b), .val (.int (2 : Int32))] [])) _
    refine XS.iinc X0.here hx rfl (hb hby d3_26) rfl (l' := #[.val (.ref a), .val (.ref b), .val (.int (3 : Int32))]) rfl ?_
    show Steps p.tables e below (s₁.setTop (mkF m 29 #[.val (.ref a), .val (.ref b), .val (.int (3 : Int32))] [])) _
    refine XS.goto X0.here hx rfl (pc0 := 29) (pc' := 9) rfl (hb hby d3_29) (by decide) (by decide) ?_
    show Steps p.tables e below (s₁.setTop (mkF m 9 #[.val (.ref a), .val (.ref b), .val (.int (3 : Int32))] [])) _
    refine XS.iloadN X0.here hx rfl (hb hby d3_9) rfl ?_
    show Steps p.tables e below (s₁.setTop (mkF m 10 #[.val (.ref a), .val (.ref b), .val (.int (3 : Int32))] [(.int (3 : Int32))])) _
    refine XS.aloadN X0.here hx rfl (hb hby d3_10) rfl rfl ?_
    exact kt)
  have op_24 := V_a
  obtain ⟨cl_24, Ar_24, q_24, S_24, Ng_24, H_24, G_24⟩ := op_24
  have pre25 : ∀ tg, Steps p.tables e below (s₁.setTop (mkF m 17 #[.val (.ref a), .val (.ref b), .val (.int (3 : Int32))] [(.int (3 : Int32)), (.ref a)])) tg → G tg := fun tg kt => pre23 tg (by
    show Steps p.tables e below (s₁.setTop (mkF m 11 #[.val (.ref a), .val (.ref b), .val (.int (3 : Int32))] [(.ref a), (.int (3 : Int32))])) _
    refine X0.arraylength hx (by rw [e0]; exact Ar_24.1) (State.isArrayOf_alike hZ.alike Ar_24.2.1) (g := (mkF m 11 #[.val (.ref a), .val (.ref b), .val (.int (3 : Int32))] [(.ref a), (.int (3 : Int32))])) rfl rfl (hb hby d3_11) _ ?_
    rw [len_of S_24 Ng_24]
    show Steps p.tables e below (s₁.setTop (mkF m 12 #[.val (.ref a), .val (.ref b), .val (.int (3 : Int32))] [(.int (7 : Int32)), (.int (3 : Int32))])) _
    refine XS.icmpNo X0.here hx rfl (hb hby d3_12) rfl (tlt (by decide : (3 : Int32) < (7 : Int32))).2.1 ?_
    show Steps p.tables e below (s₁.setTop (mkF m 15 #[.val (.ref a), .val (.ref b), .val (.int (3 : Int32))] [])) _
    refine XS.aloadN X0.here hx rfl (hb hby d3_15) rfl rfl ?_
    show Steps p.tables e below (s₁.setTop (mkF m 16 #[.val (.ref a), .val (.ref b), .val (.int (3 : Int32))] [(.ref a)])) _
    refine XS.iloadN X0.here hx rfl (hb hby d3_16) rfl ?_
    exact kt)
  have op_26 := V_a
  obtain ⟨cl_26, Ar_26, q_26, S_26, Ng_26, H_26, G_26⟩ := op_26
  have hin_26 : ¬ ((3 : Int32) < 0 ∨ cl_26.slots.size ≤ ((3 : Int32)).toNatClampNeg) := inb_of S_26 ⟨by decide, by decide⟩
  have pre27 : ∀ tg, Steps p.tables e below (s₁.setTop (mkF m 20 #[.val (.ref a), .val (.ref b), .val (.int (3 : Int32))] [(.int (3 : Int32)), (.ref b), (.int x3)])) tg → G tg := fun tg kt => pre25 tg (by
    show Steps p.tables e below (s₁.setTop (mkF m 17 #[.val (.ref a), .val (.ref b), .val (.int (3 : Int32))] [(.int (3 : Int32)), (.ref a)])) _
    refine X0.baloadBytes hx (j := (3 : Int32)) (v := (.int x3)) (by rw [e0]; exact Ar_26.1) (State.isArrayOf_alike hZ.alike Ar_26.2.1) Ar_26.2.2 hin_26 (H_26.at hin_26 rfl) (g := (mkF m 17 #[.val (.ref a), .val (.ref b), .val (.int (3 : Int32))] [(.int (3 : Int32)), (.ref a)])) rfl rfl (hb hby d3_17) _ ?_
    show Steps p.tables e below (s₁.setTop (mkF m 18 #[.val (.ref a), .val (.ref b), .val (.int (3 : Int32))] [(.int x3)])) _
    refine XS.aloadN X0.here hx rfl (hb hby d3_18) rfl rfl ?_
    show Steps p.tables e below (s₁.setTop (mkF m 19 #[.val (.ref a), .val (.ref b), .val (.int (3 : Int32))] [(.ref b), (.int x3)])) _
    refine XS.iloadN X0.here hx rfl (hb hby d3_19) rfl ?_
    exact kt)
  have op_28 := V_b
  obtain ⟨cl_28, Ar_28, q_28, S_28, Ng_28, H_28, G_28⟩ := op_28
  have hin_28 : ¬ ((3 : Int32) < 0 ∨ cl_28.slots.size ≤ ((3 : Int32)).toNatClampNeg) := inb_of S_28 ⟨by decide, by decide⟩
  have pre29 : ∀ tg, Steps p.tables e below (s₁.setTop (mkF m 11 #[.val (.ref a), .val (.ref b), .val (.int (4 : Int32))] [(.ref a), (.int (4 : Int32))])) tg → G tg := fun tg kt => pre27 tg (by
    show Steps p.tables e below (s₁.setTop (mkF m 20 #[.val (.ref a), .val (.ref b), .val (.int (3 : Int32))] [(.int (3 : Int32)), (.ref b), (.int x3)])) _
    refine X0.baloadBytes hx (j := (3 : Int32)) (v := (.int x3)) (by rw [e0]; exact Ar_28.1) (State.isArrayOf_alike hZ.alike Ar_28.2.1) Ar_28.2.2 hin_28 (H_28.at hin_28 rfl) (g := (mkF m 20 #[.val (.ref a), .val (.ref b), .val (.int (3 : Int32))] [(.int (3 : Int32)), (.ref b), (.int x3)])) rfl rfl (hb hby d3_20) _ ?_
    show Steps p.tables e below (s₁.setTop (mkF m 21 #[.val (.ref a), .val (.ref b), .val (.int (3 : Int32))] [(.int x3), (.int x3)])) _
    refine XS.icmpYes X0.here hx rfl (pc0 := 21) (pc' := 26) rfl (hb hby d3_21) rfl (teq rfl).1 (by decide) (by decide) ?_
    show Steps p.tables e below (s₁.setTop (mkF m 26 #[.val (.ref a), .val (.ref b), .val (.int (3 : Int32))] [])) _
    refine XS.iinc X0.here hx rfl (hb hby d3_26) rfl (l' := #[.val (.ref a), .val (.ref b), .val (.int (4 : Int32))]) rfl ?_
    show Steps p.tables e below (s₁.setTop (mkF m 29 #[.val (.ref a), .val (.ref b), .val (.int (4 : Int32))] [])) _
    refine XS.goto X0.here hx rfl (pc0 := 29) (pc' := 9) rfl (hb hby d3_29) (by decide) (by decide) ?_
    show Steps p.tables e below (s₁.setTop (mkF m 9 #[.val (.ref a), .val (.ref b), .val (.int (4 : Int32))] [])) _
    refine XS.iloadN X0.here hx rfl (hb hby d3_9) rfl ?_
    show Steps p.tables e below (s₁.setTop (mkF m 10 #[.val (.ref a), .val (.ref b), .val (.int (4 : Int32))] [(.int (4 : Int32))])) _
    refine XS.aloadN X0.here hx rfl (hb hby d3_10) rfl rfl ?_
    exact kt)
  have op_30 := V_a
  obtain ⟨cl_30, Ar_30, q_30, S_30, Ng_30, H_30, G_30⟩ := op_30
  have pre31 : ∀ tg, Steps p.tables e below (s₁.setTop (mkF m 17 #[.val (.ref a), .val (.ref b), .val (.int (4 : Int32))] [(.int (4 : Int32)), (.ref a)])) tg → G tg := fun tg kt => pre29 tg (by
    show Steps p.tables e below (s₁.setTop (mkF m 11 #[.val (.ref a), .val (.ref b), .val (.int (4 : Int32))] [(.ref a), (.int (4 : Int32))])) _
    refine X0.arraylength hx (by rw [e0]; exact Ar_30.1) (State.isArrayOf_alike hZ.alike Ar_30.2.1) (g := (mkF m 11 #[.val (.ref a), .val (.ref b), .val (.int (4 : Int32))] [(.ref a), (.int (4 : Int32))])) rfl rfl (hb hby d3_11) _ ?_
    rw [len_of S_30 Ng_30]
    show Steps p.tables e below (s₁.setTop (mkF m 12 #[.val (.ref a), .val (.ref b), .val (.int (4 : Int32))] [(.int (7 : Int32)), (.int (4 : Int32))])) _
    refine XS.icmpNo X0.here hx rfl (hb hby d3_12) rfl (tlt (by decide : (4 : Int32) < (7 : Int32))).2.1 ?_
    show Steps p.tables e below (s₁.setTop (mkF m 15 #[.val (.ref a), .val (.ref b), .val (.int (4 : Int32))] [])) _
    refine XS.aloadN X0.here hx rfl (hb hby d3_15) rfl rfl ?_
    show Steps p.tables e below (s₁.setTop (mkF m 16 #[.val (.ref a), .val (.ref b), .val (.int (4 : Int32))] [(.ref a)])) _
    refine XS.iloadN X0.here hx rfl (hb hby d3_16) rfl ?_
    exact kt)
  have op_32 := V_a
  obtain ⟨cl_32, Ar_32, q_32, S_32, Ng_32, H_32, G_32⟩ := op_32
  have hin_32 : ¬ ((4 : Int32) < 0 ∨ cl_32.slots.size ≤ ((4 : Int32)).toNatClampNeg) := inb_of S_32 ⟨by decide, by decide⟩
  have pre33 : ∀ tg, Steps p.tables e below (s₁.setTop (mkF m 20 #[.val (.ref a), .val (.ref b), .val (.int (4 : Int32))] [(.int (4 : Int32)), (.ref b), (.int x4)])) tg → G tg := fun tg kt => pre31 tg (by
    show Steps p.tables e below (s₁.setTop (mkF m 17 #[.val (.ref a), .val (.ref b), .val (.int (4 : Int32))] [(.int (4 : Int32)), (.ref a)])) _
    refine X0.baloadBytes hx (j := (4 : Int32)) (v := (.int x4)) (by rw [e0]; exact Ar_32.1) (State.isArrayOf_alike hZ.alike Ar_32.2.1) Ar_32.2.2 hin_32 (H_32.at hin_32 rfl) (g := (mkF m 17 #[.val (.ref a), .val (.ref b), .val (.int (4 : Int32))] [(.int (4 : Int32)), (.ref a)])) rfl rfl (hb hby d3_17) _ ?_
    show Steps p.tables e below (s₁.setTop (mkF m 18 #[.val (.ref a), .val (.ref b), .val (.int (4 : Int32))] [(.int x4)])) _
    refine XS.aloadN X0.here hx rfl (hb hby d3_18) rfl rfl ?_
    show Steps p.tables e below (s₁.setTop (mkF m 19 #[.val (.ref a), .val (.ref b), .val (.int (4 : Int32))] [(.ref b), (.int x4)])) _
    refine XS.iloadN X0.here hx rfl (hb hby d3_19) rfl ?_
    exact kt)
  have op_34 := V_b
  obtain ⟨cl_34, Ar_34, q_34, S_34, Ng_34, H_34, G_34⟩ := op_34
  have hin_34 : ¬ ((4 : Int32) < 0 ∨ cl_34.slots.size ≤ ((4 : Int32)).toNatClampNeg) := inb_of S_34 ⟨by decide, by decide⟩
  have pre35 : ∀ tg, Steps p.tables e below (s₁.setTop (mkF m 11 #[.val (.ref a), .val (.ref b), .val (.int (5 : Int32))] [(.ref a), (.int (5 : Int32))])) tg → G tg := fun tg kt => pre33 tg (by
    show Steps p.tables e below (s₁.setTop (mkF m 20 #[.val (.ref a), .val (.ref b), .val (.int (4 : Int32))] [(.int (4 : Int32)), (.ref b), (.int x4)])) _
    refine X0.baloadBytes hx (j := (4 : Int32)) (v := (.int x4)) (by rw [e0]; exact Ar_34.1) (State.isArrayOf_alike hZ.alike Ar_34.2.1) Ar_34.2.2 hin_34 (H_34.at hin_34 rfl) (g := (mkF m 20 #[.val (.ref a), .val (.ref b), .val (.int (4 : Int32))] [(.int (4 : Int32)), (.ref b), (.int x4)])) rfl rfl (hb hby d3_20) _ ?_
    show Steps p.tables e below (s₁.setTop (mkF m 21 #[.val (.ref a), .val (.ref b), .val (.int (4 : Int32))] [(.int x4), (.int x4)])) _
    refine XS.icmpYes X0.here hx rfl (pc0 := 21) (pc' := 26) rfl (hb hby d3_21) rfl (teq rfl).1 (by decide) (by decide) ?_
    show Steps p.tables e below (s₁.setTop (mkF m 26 #[.val (.ref a), .val (.ref b), .val (.int (4 : Int32))] [])) _
    refine XS.iinc X0.here hx rfl (hb hby d3_26) rfl (l' := #[.val (.ref a), .val (.ref b), .val (.int (5 : Int32))]) rfl ?_
    show Steps p.tables e below (s₁.setTop (mkF m 29 #[.val (.ref a), .val (.ref b), .val (.int (5 : Int32))] [])) _
    refine XS.goto X0.here hx rfl (pc0 := 29) (pc' := 9) rfl (hb hby d3_29) (by decide) (by decide) ?_
    show Steps p.tables e below (s₁.setTop (mkF m 9 #[.val (.ref a), .val (.ref b), .val (.int (5 : Int32))] [])) _
    refine XS.iloadN X0.here hx rfl (hb hby d3_9) rfl ?_
    show Steps p.tables e below (s₁.setTop (mkF m 10 #[.val (.ref a), .val (.ref b), .val (.int (5 : Int32))] [(.int (5 : Int32))])) _
    refine XS.aloadN X0.here hx rfl (hb hby d3_10) rfl rfl ?_
    exact kt)
  have op_36 := V_a
  obtain ⟨cl_36, Ar_36, q_36, S_36, Ng_36, H_36, G_36⟩ := op_36
  have pre37 : ∀ tg, Steps p.tables e below (s₁.setTop (mkF m 17 #[.val (.ref a), .val (.ref b), .val (.int (5 : Int32))] [(.int (5 : Int32)), (.ref a)])) tg → G tg := fun tg kt => pre35 tg (by
    show Steps p.tables e below (s₁.setTop (mkF m 11 #[.val (.ref a), .val (.ref b), .val (.int (5 : Int32))] [(.ref a), (.int (5 : Int32))])) _
    refine X0.arraylength hx (by rw [e0]; exact Ar_36.1) (State.isArrayOf_alike hZ.alike Ar_36.2.1) (g := (mkF m 11 #[.val (.ref a), .val (.ref b), .val (.int (5 : Int32))] [(.ref a), (.int (5 : Int32))])) rfl rfl (hb hby d3_11) _ ?_
    rw [len_of S_36 Ng_36]
    show Steps p.tables e below (s₁.setTop (mkF m 12 #[.val (.ref a), .val (.ref b), .val (.int (5 : Int32))] [(.int (7 : Int32)), (.int (5 : Int32))])) _
    refine XS.icmpNo X0.here hx rfl (hb hby d3_12) rfl (tlt (by decide : (5 : Int32) < (7 : Int32))).2.1 ?_
    show Steps p.tables e below (s₁.setTop (mkF m 15 #[.val (.ref a), .val (.ref b), .val (.int (5 : Int32))] [])) _
    refine XS.aloadN X0.here hx rfl (hb hby d3_15) rfl rfl ?_
    show Steps p.tables e below (s₁.setTop (mkF m 16 #[.val (.ref a), .val (.ref b), .val (.int (5 : Int32))] [(.ref a)])) _
    refine XS.iloadN X0.here hx rfl (hb hby d3_16) rfl ?_
    exact kt)
  have op_38 := V_a
  obtain ⟨cl_38, Ar_38, q_38, S_38, Ng_38, H_38, G_38⟩ := op_38
  have hin_38 : ¬ ((5 : Int32) < 0 ∨ cl_38.slots.size ≤ ((5 : Int32)).toNatClampNeg) := inb_of S_38 ⟨by decide, by decide⟩
  have pre39 : ∀ tg, Steps p.tables e below (s₁.setTop (mkF m 20 #[.val (.ref a), .val (.ref b), .val (.int (5 : Int32))] [(.int (5 : Int32)), (.ref b), (.int x5)])) tg → G tg := fun tg kt => pre37 tg (by
    show Steps p.tables e below (s₁.setTop (mkF m 17 #[.val (.ref a), .val (.ref b), .val (.int (5 : Int32))] [(.int (5 : Int32)), (.ref a)])) _
    refine X0.baloadBytes hx (j := (5 : Int32)) (v := (.int x5)) (by rw [e0]; exact Ar_38.1) (State.isArrayOf_alike hZ.alike Ar_38.2.1) Ar_38.2.2 hin_38 (H_38.at hin_38 rfl) (g := (mkF m 17 #[.val (.ref a), .val (.ref b), .val (.int (5 : Int32))] [(.int (5 : Int32)), (.ref a)])) rfl rfl (hb hby d3_17) _ ?_
    show Steps p.tables e below (s₁.setTop (mkF m 18 #[.val (.ref a), .val (.ref b), .val (.int (5 : Int32))] [(.int x5)])) _
    refine XS.aloadN X0.here hx rfl (hb hby d3_18) rfl rfl ?_
    show Steps p.tables e below (s₁.setTop (mkF m 19 #[.val (.ref a), .val (.ref b), .val (.int (5 : Int32))] [(.ref b), (.int x5)])) _
    refine XS.iloadN X0.here hx rfl (hb hby d3_19) rfl ?_
    exact kt)
  have op_40 := V_b
  obtain ⟨cl_40, Ar_40, q_40, S_40, Ng_40, H_40, G_40⟩ := op_40
  have hin_40 : ¬ ((5 : Int32) < 0 ∨ cl_40.slots.size ≤ ((5 : Int32)).toNatClampNeg) := inb_of S_40 ⟨by decide, by decide⟩
  have pre41 : ∀ tg, Steps p.tables e below (s₁.setTop (mkF m 11 #[.val (.ref a), .val (.ref b), .val (.int (6 : Int32))] [(.ref a), (.int (6 : Int32))])) tg → G tg := fun tg kt => pre39 tg (by
    show Steps p.tables e below (s₁.setTop (mkF m 20 #[.val (.ref a), .val (.ref b), .val (.int (5 : Int32))] [(.int (5 : Int32)), (.ref b), (.int x5)])) _
    refine X0.baloadBytes hx (j := (5 : Int32)) (v := (.int x5)) (by rw [e0]; exact Ar_40.1) (State.isArrayOf_alike hZ.alike Ar_40.2.1) Ar_40.2.2 hin_40 (H_40.at hin_40 rfl) (g := (mkF m 20 #[.val (.ref a), .val (.ref b), .val (.int (5 : Int32))] [(.int (5 : Int32)), (.ref b), (.int x5)])) rfl rfl (hb hby d3_20) _ ?_
    show Steps p.tables e below (s₁.setTop (mkF m 21 #[.val (.ref a), .val (.ref b), .val (.int (5 : Int32))] [(.int x5), (.int x5)])) _
    refine XS.icmpYes X0.here hx rfl (pc0 := 21) (pc' := 26) rfl (hb hby d3_21) rfl (teq rfl).1 (by decide) (by decide) ?_
    show Steps p.tables e below (s₁.setTop (mkF m 26 #[.val (.ref a), .val (.ref b), .val (.int (5 : Int32))] [])) _
    refine XS.iinc X0.here hx rfl (hb hby d3_26) rfl (l' := #[.val (.ref a), .val (.ref b), .val (.int (6 : Int32))]) rfl ?_
    show Steps p.tables e below (s₁.setTop (mkF m 29 #[.val (.ref a), .val (.ref b), .val (.int (6 : Int32))] [])) _
    refine XS.goto X0.here hx rfl (pc0 := 29) (pc' := 9) rfl (hb hby d3_29) (by decide) (by decide) ?_
    show Steps p.tables e below (s₁.setTop (mkF m 9 #[.val (.ref a), .val (.ref b), .val (.int (6 : Int32))] [])) _
    refine XS.iloadN X0.here hx rfl (hb hby d3_9) rfl ?_
    show Steps p.tables e below (s₁.setTop (mkF m 10 #[.val (.ref a), .val (.ref b), .val (.int (6 : Int32))] [(.int (6 : Int32))])) _
    refine XS.aloadN X0.here hx rfl (hb hby d3_10) rfl rfl ?_
    exact kt)
  have op_42 := V_a
  obtain ⟨cl_42, Ar_42, q_42, S_42, Ng_42, H_42, G_42⟩ := op_42
  have pre43 : ∀ tg, Steps p.tables e below (s₁.setTop (mkF m 17 #[.val (.ref a), .val (.ref b), .val (.int (6 : Int32))] [(.int (6 : Int32)), (.ref a)])) tg → G tg := fun tg kt => pre41 tg (by
    show Steps p.tables e below (s₁.setTop (mkF m 11 #[.val (.ref a), .val (.ref b), .val (.int (6 : Int32))] [(.ref a), (.int (6 : Int32))])) _
    refine X0.arraylength hx (by rw [e0]; exact Ar_42.1) (State.isArrayOf_alike hZ.alike Ar_42.2.1) (g := (mkF m 11 #[.val (.ref a), .val (.ref b), .val (.int (6 : Int32))] [(.ref a), (.int (6 : Int32))])) rfl rfl (hb hby d3_11) _ ?_
    rw [len_of S_42 Ng_42]
    show Steps p.tables e below (s₁.setTop (mkF m 12 #[.val (.ref a), .val (.ref b), .val (.int (6 : Int32))] [(.int (7 : Int32)), (.int (6 : Int32))])) _
    refine XS.icmpNo X0.here hx rfl (hb hby d3_12) rfl (tlt (by decide : (6 : Int32) < (7 : Int32))).2.1 ?_
    show Steps p.tables e below (s₁.setTop (mkF m 15 #[.val (.ref a), .val (.ref b), .val (.int (6 : Int32))] [])) _
    refine XS.aloadN X0.here hx rfl (hb hby d3_15) rfl rfl ?_
    show Steps p.tables e below (s₁.setTop (mkF m 16 #[.val (.ref a), .val (.ref b), .val (.int (6 : Int32))] [(.ref a)])) _
    refine XS.iloadN X0.here hx rfl (hb hby d3_16) rfl ?_
    exact kt)
  have op_44 := V_a
  obtain ⟨cl_44, Ar_44, q_44, S_44, Ng_44, H_44, G_44⟩ := op_44
  have hin_44 : ¬ ((6 : Int32) < 0 ∨ cl_44.slots.size ≤ ((6 : Int32)).toNatClampNeg) := inb_of S_44 ⟨by decide, by decide⟩
  have pre45 : ∀ tg, Steps p.tables e below (s₁.setTop (mkF m 20 #[.val (.ref a), .val (.ref b), .val (.int (6 : Int32))] [(.int (6 : Int32)), (.ref b), (.int x6)])) tg → G tg := fun tg kt => pre43 tg (by
    show Steps p.tables e below (s₁.setTop (mkF m 17 #[.val (.ref a), .val (.ref b), .val (.int (6 : Int32))] [(.int (6 : Int32)), (.ref a)])) _
    refine X0.baloadBytes hx (j := (6 : Int32)) (v := (.int x6)) (by rw [e0]; exact Ar_44.1) (State.isArrayOf_alike hZ.alike Ar_44.2.1) Ar_44.2.2 hin_44 (H_44.at hin_44 rfl) (g := (mkF m 17 #[.val (.ref a), .val (.ref b), .val (.int (6 : Int32))] [(.int (6 : Int32)), (.ref a)])) rfl rfl (hb hby d3_17) _ ?_
    show Steps p.tables e below (s₁.setTop (mkF m 18 #[.val (.ref a), .val (.ref b), .val (.int (6 : Int32))] [(.int x6)])) _
    refine XS.aloadN X0.here hx rfl (hb hby d3_18) rfl rfl ?_
    show Steps p.tables e below (s₁.setTop (mkF m 19 #[.val (.ref a), .val (.ref b), .val (.int (6 : Int32))] [(.ref b), (.int x6)])) _
    refine XS.iloadN X0.here hx rfl (hb hby d3_19) rfl ?_
    exact kt)
  have op_46 := V_b
  obtain ⟨cl_46, Ar_46, q_46, S_46, Ng_46, H_46, G_46⟩ := op_46
  have hin_46 : ¬ ((6 : Int32) < 0 ∨ cl_46.slots.size ≤ ((6 : Int32)).toNatClampNeg) := inb_of S_46 ⟨by decide, by decide⟩
  have pre47 : ∀ tg, Steps p.tables e below (s₁.setTop (mkF m 11 #[.val (.ref a), .val (.ref b), .val (.int (7 : Int32))] [(.ref a), (.int (7 : Int32))])) tg → G tg := fun tg kt => pre45 tg (by
    show Steps p.tables e below (s₁.setTop (mkF m 20 #[.val (.ref a), .val (.ref b), .val (.int (6 : Int32))] [(.int (6 : Int32)), (.ref b), (.int x6)])) _
    refine X0.baloadBytes hx (j := (6 : Int32)) (v := (.int x6)) (by rw [e0]; exact Ar_46.1) (State.isArrayOf_alike hZ.alike Ar_46.2.1) Ar_46.2.2 hin_46 (H_46.at hin_46 rfl) (g := (mkF m 20 #[.val (.ref a), .val (.ref b), .val (.int (6 : Int32))] [(.int (6 : Int32)), (.ref b), (.int x6)])) rfl rfl (hb hby d3_20) _ ?_
    show Steps p.tables e below (s₁.setTop (mkF m 21 #[.val (.ref a), .val (.ref b), .val (.int (6 : Int32))] [(.int x6), (.int x6)])) _
    refine XS.icmpYes X0.here hx rfl (pc0 := 21) (pc' := 26) rfl (hb hby d3_21) rfl (teq rfl).1 (by decide) (by decide) ?_
    show Steps p.tables e below (s₁.setTop (mkF m 26 #[.val (.ref a), .val (.ref b), .val (.int (6 : Int32))] [])) _
    refine XS.iinc X0.here hx rfl (hb hby d3_26) rfl (l' := #[.val (.ref a), .val (.ref b), .val (.int (7 : Int32))]) rfl ?_
    show Steps p.tables e below (s₁.setTop (mkF m 29 #[.val (.ref a), .val (.ref b), .val (.int (7 : Int32))] [])) _
    refine XS.goto X0.here hx rfl (pc0 := 29) (pc' := 9) rfl (hb hby d3_29) (by decide) (by decide) ?_
    show Steps p.tables e below (s₁.setTop (mkF m 9 #[.val (.ref a), .val (.ref b), .val (.int (7 : Int32))] [])) _
    refine XS.iloadN X0.here hx rfl (hb hby d3_9) rfl ?_
    show Steps p.tables e below (s₁.setTop (mkF m 10 #[.val (.ref a), .val (.ref b), .val (.int (7 : Int32))] [(.int (7 : Int32))])) _
    refine XS.aloadN X0.here hx rfl (hb hby d3_10) rfl rfl ?_
    exact kt)
  have op_48 := V_a
  obtain ⟨cl_48, Ar_48, q_48, S_48, Ng_48, H_48, G_48⟩ := op_48
  obtain ⟨fs, hr, hrun, hended, hW, hsame⟩ := X0.leave (v := some (.int (1 : Int32))) (fun h => by rw [Bd.returns] at h; cases h)
  subst hG
  refine ⟨_, _, pre47 _ ?_, hrun, hended, _, _, rfl, ?_, ⟨_, rfl⟩, hW, hsame.mono (by decide) (by decide)⟩
  · skip
    show Steps p.tables e below (s₁.setTop (mkF m 11 #[.val (.ref a), .val (.ref b), .val (.int (7 : Int32))] [(.ref a), (.int (7 : Int32))])) _
    refine X0.arraylength hx (by rw [e0]; exact Ar_48.1) (State.isArrayOf_alike hZ.alike Ar_48.2.1) (g := (mkF m 11 #[.val (.ref a), .val (.ref b), .val (.int (7 : Int32))] [(.ref a), (.int (7 : Int32))])) rfl rfl (hb hby d3_11) _ ?_
    rw [len_of S_48 Ng_48]
    show Steps p.tables e below (s₁.setTop (mkF m 12 #[.val (.ref a), .val (.ref b), .val (.int (7 : Int32))] [(.int (7 : Int32)), (.int (7 : Int32))])) _
    refine XS.icmpYes X0.here hx rfl (pc0 := 12) (pc' := 32) rfl (hb hby d3_12) rfl (flt (by decide : ¬ ((7 : Int32) < (7 : Int32)))).2.1 (by decide) (by decide) ?_
    show Steps p.tables e below (s₁.setTop (mkF m 32 #[.val (.ref a), .val (.ref b), .val (.int (7 : Int32))] [])) _
    refine XS.iconst X0.here hx rfl (hb hby d3_32) ?_
    show Steps p.tables e below (s₁.setTop (mkF m 33 #[.val (.ref a), .val (.ref b), .val (.int (7 : Int32))] [(.int (1 : Int32))])) _
    exact retN X0 hx (t := .boolean) Bd.returns (by simp) (hb hby d3_33) hr
  · show Q_rm_s7 Z a b k1 k2 x0 x1 x2 x3 x4 x5 x6 h0 n0 _ s₁.heap _
    rw [e0]
    exact ⟨rfl, N0, rfl⟩
def Q_rm_s8 (Z : State) (a b : Addr) (k1 k2 : ClassId) (x0 x1 x2 x3 x4 x5 x6 x7 : Int32) (h0 : Heap) (n0 : Nat) (v : Option Value) (h : Heap) (L : List Loc) : Prop := v = some (.int (1 : Int32)) ∧ Fr n0 L ∧ h = h0
set_option maxRecDepth 65536 in
set_option maxHeartbeats 40000000 in
theorem rm_s8 (l : Launch) (Z : State) (a0 : Array Value) (hw : ∀ d ∈ tables_1, d.before a0 Z = true) (ws : List Jvm.Cond) (a b : Addr) (k1 k2 : ClassId) (x0 x1 x2 x3 x4 x5 x6 x7 : Int32) (h0 : Heap) (n0 : Nat) (Z0 : n0 ≤ h0.size) (V_a : Arv Z h0 a k1 .byte (8 : Int32) [(.int x0), (.int x1), (.int x2), (.int x3), (.int x4), (.int x5), (.int x6), (.int x7)] (.int (0 : Int32))) (V_b : Arv Z h0 b k2 .byte (8 : Int32) [(.int x0), (.int x1), (.int x2), (.int x3), (.int x4), (.int x5), (.int x6), (.int x7)] (.int (0 : Int32))) :
    MetFree l (⟨"java/lang/StringLatin1", "equals", "([B[B)Z"⟩ : MethodName) (head1 (Jvm.Cond.code (⟨"java/lang/StringLatin1", "equals", "([B[B)Z"⟩ : MethodName) jdk_43_method_13_code 3 (some .boolean) :: ws) ({ frames := 0, cells := 0, slots := 0, locals := 0 } : Room)) (fun argv U => argv = #[(.ref a), (.ref b)] ∧ Z.Warmed39 U.vm ∧ U.heap = h0) (fun _ _ _ _ _ => True) (fun _ U o U' => ∃ v L, o = .returned v ∧ Q_rm_s8 Z a b k1 k2 x0 x1 x2 x3 x4 x5 x6 x7 h0 n0 v U'.heap L ∧ FrameEnd U o U' L ({ frames := 0, cells := 0, slots := 0, locals := 0 } : Room).cells ({ frames := 0, cells := 0, slots := 0, locals := 0 } : Room).slots) := by
  refine MetFree.of_bodySF (plainFor_of_name pn_3) hisR ?_
  intro p e s m args below meth c s₁ Bd hml0 hP hK
  obtain ⟨rfl, hZ, hh⟩ := hP
  have hx := Bd.exec
  have hby := Bd.bytes
  have hml : c.maxLocals = 3 := hml0
  have hown : s.vm.findClass "java/lang/StringLatin1" = some m.cls := findClass_of_methodNamed Bd.named
  have hnm := (name_of_methodNamed Bd.named Bd.method).1
  have X0 : Stand p l e ({ frames := 0, cells := 0, slots := 0, locals := 0 } : Room) s m #[(.ref a), (.ref b)] below meth c s₁ [] 0 0 := Stand.of_body Bd
  have e0 : s₁.heap = h0 := by rw [← hh, Bd.state]; rfl
  have N0 := Fr.nil n0
  obtain ⟨G, hG⟩ : ∃ G : State → Prop, G = fun tg => Steps p.tables e below (s₁.setTop (entryFrame m #[(.ref a), (.ref b)] 3)) tg := ⟨_, rfl⟩
  have pre0 : ∀ tg, Steps p.tables e below (s₁.setTop (mkF m 0 #[.val (.ref a), .val (.ref b), .unset] [])) tg → G tg := fun tg kt => by rw [hG]; exact castTop (ef_3_R_R m a b) kt
  have pre1 : ∀ tg, Steps p.tables e below (s₁.setTop (mkF m 1 #[.val (.ref a), .val (.ref b), .unset] [(.ref a)])) tg → G tg := fun tg kt => pre0 tg (by
    show Steps p.tables e below (s₁.setTop (mkF m 0 #[.val (.ref a), .val (.ref b), .unset] [])) _
    refine XS.aloadN X0.here hx rfl (hb hby d3_0) rfl rfl ?_
    exact kt)
  have op_2 := V_a
  obtain ⟨cl_2, Ar_2, q_2, S_2, Ng_2, H_2, G_2⟩ := op_2
  have pre3 : ∀ tg, Steps p.tables e below (s₁.setTop (mkF m 3 #[.val (.ref a), .val (.ref b), .unset] [(.ref b), (.int (8 : Int32))])) tg → G tg := fun tg kt => pre1 tg (by
    show Steps p.tables e below (s₁.setTop (mkF m 1 #[.val (.ref a), .val (.ref b), .unset] [(.ref a)])) _
    refine X0.arraylength hx (by rw [e0]; exact Ar_2.1) (State.isArrayOf_alike hZ.alike Ar_2.2.1) (g := (mkF m 1 #[.val (.ref a), .val (.ref b), .unset] [(.ref a)])) rfl rfl (hb hby d3_1) _ ?_
    rw [len_of S_2 Ng_2]
    show Steps p.tables e below (s₁.setTop (mkF m 2 #[.val (.ref a), .val (.ref b), .unset] [(.int (8 : Int32))])) _
    refine XS.aloadN X0.here hx rfl (hb hby d3_2) rfl rfl ?_
    exact kt)
  have op_4 := V_b
  obtain ⟨cl_4, Ar_4, q_4, S_4, Ng_4, H_4, G_4⟩ := op_4
  have pre5 : ∀ tg, Steps p.tables e below (s₁.setTop (mkF m 11 #[.val (.ref a), .val (.ref b), .val (.int (0 : Int32))] [(.ref a), (.int (0 : Int32))])) tg → G tg := fun tg kt => pre3 tg (by
    show Steps p.tables e below (s₁.setTop (mkF m 3 #[.val (.ref a), .val (.ref b), .unset] [(.ref b), (.int (8 : Int32))])) _
    refine X0.arraylength hx (by rw [e0]; exact Ar_4.1) (State.isArrayOf_alike hZ.alike Ar_4.2.1) (g := (mkF m 3 #[.val (.ref a), .val (.ref b), .unset] [(.ref b), (.int (8 : Int32))])) rfl rfl (hb hby d3_3) _ ?_
    rw [len_of S_4 Ng_4]
    show Steps p.tables e below (s₁.setTop (mkF m 4 #[.val (.ref a), .val (.ref b), .unset] [(.int (8 : Int32)), (.int (8 : Int32))])) _
    refine XS.icmpNo X0.here hx rfl (hb hby d3_4) rfl (teq (by decide : (8 : Int32) = (8 : Int32))).2 ?_
    show Steps p.tables e below (s₁.setTop (mkF m 7 #[.val (.ref a), .val (.ref b), .unset] [])) _
    refine XS.iconst X0.here hx rfl (hb hby d3_7) ?_
    show Steps p.tables e below (s₁.setTop (mkF m 8 #[.val (.ref a), .val (.ref b), .unset] [(.int (0 : Int32))])) _
    refine XS.istoreN X0.here hx rfl (hb hby d3_8) rfl (l' := #[.val (.ref a), .val (.ref b), .val (.int (0 : Int32))]) rfl ?_
    show Steps p.tables e below (s₁.setTop (mkF m 9 #[.val (.ref a), .val (.ref b), .val (.int (0 : Int32))] [])) _
    refine XS.iloadN X0.here hx rfl (hb hby d3_9) rfl ?_
    show Steps p.tables e below (s₁.setTop (mkF m 10 #[.val (.ref a), .val (.ref b), .val (.int (0 : Int32))] [(.int (0 : Int32))])) _
    refine XS.aloadN X0.here hx rfl (hb hby d3_10) rfl rfl ?_
    exact kt)
  have op_6 := V_a
  obtain ⟨cl_6, Ar_6, q_6, S_6, Ng_6, H_6, G_6⟩ := op_6
  have pre7 : ∀ tg, Steps p.tables e below (s₁.setTop (mkF m 17 #[.val (.ref a), .val (.ref b), .val (.int (0 : Int32))] [(.int (0 : Int32)), (.ref a)])) tg → G tg := fun tg kt => pre5 tg (by
    show Steps p.tables e below (s₁.setTop (mkF m 11 #[.val (.ref a), .val (.ref b), .val (.int (0 : Int32))] [(.ref a), (.int (0 : Int32))])) _
    refine X0.arraylength hx (by rw [e0]; exact Ar_6.1) (State.isArrayOf_alike hZ.alike Ar_6.2.1) (g := (mkF m 11 #[.val (.ref a), .val (.ref b), .val (.int (0 : Int32))] [(.ref a), (.int (0 : Int32))])) rfl rfl (hb hby d3_11) _ ?_
    rw [len_of S_6 Ng_6]
    show Steps p.tables e below (s₁.setTop (mkF m 12 #[.val (.ref a), .val (.ref b), .val (.int (0 : Int32))] [(.int (8 : Int32)), (.int (0 : Int32))])) _
    refine XS.icmpNo X0.here hx rfl (hb hby d3_12) rfl (tlt (by decide : (0 : Int32) < (8 : Int32))).2.1 ?_
    show Steps p.tables e below (s₁.setTop (mkF m 15 #[.val (.ref a), .val (.ref b), .val (.int (0 : Int32))] [])) _
    refine XS.aloadN X0.here hx rfl (hb hby d3_15) rfl rfl ?_
    show Steps p.tables e below (s₁.setTop (mkF m 16 #[.val (.ref a), .val (.ref b), .val (.int (0 : Int32))] [(.ref a)])) _
    refine XS.iloadN X0.here hx rfl (hb hby d3_16) rfl ?_
    exact kt)
  have op_8 := V_a
  obtain ⟨cl_8, Ar_8, q_8, S_8, Ng_8, H_8, G_8⟩ := op_8
  have hin_8 : ¬ ((0 : Int32) < 0 ∨ cl_8.slots.size ≤ ((0 : Int32)).toNatClampNeg) := inb_of S_8 ⟨by decide, by decide⟩
  have pre9 : ∀ tg, Steps p.tables e below (s₁.setTop (mkF m 20 #[.val (.ref a), .val (.ref b), .val (.int (0 : Int32))] [(.int (0 : Int32)), (.ref b), (.int x0)])) tg → G tg := fun tg kt => pre7 tg (by
    show Steps p.tables e below (s₁.setTop (mkF m 17 #[.val (.ref a), .val (.ref b), .val (.int (0 : Int32))] [(.int (0 : Int32)), (.ref a)])) _
    refine X0.baloadBytes hx (j := (0 : Int32)) (v := (.int x0)) (by rw [e0]; exact Ar_8.1) (State.isArrayOf_alike hZ.alike Ar_8.2.1) Ar_8.2.2 hin_8 (H_8.at hin_8 rfl) (g := (mkF m 17 #[.val (.ref a), .val (.ref b), .val (.int (0 : Int32))] [(.int (0 : Int32)), (.ref a)])) rfl rfl (hb hby d3_17) _ ?_
    show Steps p.tables e below (s₁.setTop (mkF m 18 #[.val (.ref a), .val (.ref b), .val (.int (0 : Int32))] [(.int x0)])) _
    refine XS.aloadN X0.here hx rfl (hb hby d3_18) rfl rfl ?_
    show Steps p.tables e below (s₁.setTop (mkF m 19 #[.val (.ref a), .val (.ref b), .val (.int (0 : Int32))] [(.ref b), (.int x0)])) _
    refine XS.iloadN X0.here hx rfl (hb hby d3_19) rfl ?_
    exact kt)
  have op_10 := V_b
  obtain ⟨cl_10, Ar_10, q_10, S_10, Ng_10, H_10, G_10⟩ := op_10
  have hin_10 : ¬ ((0 : Int32) < 0 ∨ cl_10.slots.size ≤ ((0 : Int32)).toNatClampNeg) := inb_of S_10 ⟨by decide, by decide⟩
  have pre11 : ∀ tg, Steps p.tables e below (s₁.setTop (mkF m 11 #[.val (.ref a), .val (.ref b), .val (.int (1 : Int32))] [(.ref a), (.int (1 : Int32))])) tg → G tg := fun tg kt => pre9 tg (by
    show Steps p.tables e below (s₁.setTop (mkF m 20 #[.val (.ref a), .val (.ref b), .val (.int (0 : Int32))] [(.int (0 : Int32)), (.ref b), (.int x0)])) _
    refine X0.baloadBytes hx (j := (0 : Int32)) (v := (.int x0)) (by rw [e0]; exact Ar_10.1) (State.isArrayOf_alike hZ.alike Ar_10.2.1) Ar_10.2.2 hin_10 (H_10.at hin_10 rfl) (g := (mkF m 20 #[.val (.ref a), .val (.ref b), .val (.int (0 : Int32))] [(.int (0 : Int32)), (.ref b), (.int x0)])) rfl rfl (hb hby d3_20) _ ?_
    show Steps p.tables e below (s₁.setTop (mkF m 21 #[.val (.ref a), .val (.ref b), .val (.int (0 : Int32))] [(.int x0), (.int x0)])) _
    refine XS.icmpYes X0.here hx rfl (pc0 := 21) (pc' := 26) rfl (hb hby d3_21) rfl (teq rfl).1 (by decide) (by decide) ?_
    show Steps p.tables e below (s₁.setTop (mkF m 26 #[.val (.ref a), .val (.ref b), .val (.int (0 : Int32))] [])) _
    refine XS.iinc X0.here hx rfl (hb hby d3_26) rfl (l' := #[.val (.ref a), .val (.ref b), .val (.int (1 : Int32))]) rfl ?_
    show Steps p.tables e below (s₁.setTop (mkF m 29 #[.val (.ref a), .val (.ref b), .val (.int (1 : Int32))] [])) _
    refine XS.goto X0.here hx rfl (pc0 := 29) (pc' := 9) rfl (hb hby d3_29) (by decide) (by decide) ?_
    show Steps p.tables e below (s₁.setTop (mkF m 9 #[.val (.ref a), .val (.ref b), .val (.int (1 : Int32))] [])) _
    refine XS.iloadN X0.here hx rfl (hb hby d3_9) rfl ?_
    show Steps p.tables e below (s₁.setTop (mkF m 10 #[.val (.ref a), .val (.ref b), .val (.int (1 : Int32))] [(.int (1 : Int32))])) _
    refine XS.aloadN X0.here hx rfl (hb hby d3_10) rfl rfl ?_
    exact kt)
  have op_12 := V_a
  obtain ⟨cl_12, Ar_12, q_12, S_12, Ng_12, H_12, G_12⟩ := op_12
  have pre13 : ∀ tg, Steps p.tables e below (s₁.setTop (mkF m 17 #[.val (.ref a), .val (.ref b), .val (.int (1 : Int32))] [(.int (1 : Int32)), (.ref a)])) tg → G tg := fun tg kt => pre11 tg (by
    show Steps p.tables e below (s₁.setTop (mkF m 11 #[.val (.ref a), .val (.ref b), .val (.int (1 : Int32))] [(.ref a), (.int (1 : Int32))])) _
    refine X0.arraylength hx (by rw [e0]; exact Ar_12.1) (State.isArrayOf_alike hZ.alike Ar_12.2.1) (g := (mkF m 11 #[.val (.ref a), .val (.ref b), .val (.int (1 : Int32))] [(.ref a), (.int (1 : Int32))])) rfl rfl (hb hby d3_11) _ ?_
    rw [len_of S_12 Ng_12]
    show Steps p.tables e below (s₁.setTop (mkF m 12 #[.val (.ref a), .val (.ref b), .val (.int (1 : Int32))] [(.int (8 : Int32)), (.int (1 : Int32))])) _
    refine XS.icmpNo X0.here hx rfl (hb hby d3_12) rfl (tlt (by decide : (1 : Int32) < (8 : Int32))).2.1 ?_
    show Steps p.tables e below (s₁.setTop (mkF m 15 #[.val (.ref a), .val (.ref b), .val (.int (1 : Int32))] [])) _
    refine XS.aloadN X0.here hx rfl (hb hby d3_15) rfl rfl ?_
    show Steps p.tables e below (s₁.setTop (mkF m 16 #[.val (.ref a), .val (.ref b), .val (.int (1 : Int32))] [(.ref a)])) _
    refine XS.iloadN X0.here hx rfl (hb hby d3_16) rfl ?_
    exact kt)
  have op_14 := V_a
  obtain ⟨cl_14, Ar_14, q_14, S_14, Ng_14, H_14, G_14⟩ := op_14
  have hin_14 : ¬ ((1 : Int32) < 0 ∨ cl_14.slots.size ≤ ((1 : Int32)).toNatClampNeg) := inb_of S_14 ⟨by decide, by decide⟩
  have pre15 : ∀ tg, Steps p.tables e below (s₁.setTop (mkF m 20 #[.val (.ref a), .val (.ref b), .val (.int (1 : Int32))] [(.int (1 : Int32)), (.ref b), (.int x1)])) tg → G tg := fun tg kt => pre13 tg (by
    show Steps p.tables e below (s₁.setTop (mkF m 17 #[.val (.ref a), .val (.ref b), .val (.int (1 : Int32))] [(.int (1 : Int32)), (.ref a)])) _
    refine X0.baloadBytes hx (j := (1 : Int32)) (v := (.int x1)) (by rw [e0]; exact Ar_14.1) (State.isArrayOf_alike hZ.alike Ar_14.2.1) Ar_14.2.2 hin_14 (H_14.at hin_14 rfl) (g := (mkF m 17 #[.val (.ref a), .val (.ref b), .val (.int (1 : Int32))] [(.int (1 : Int32)), (.ref a)])) rfl rfl (hb hby d3_17) _ ?_
    show Steps p.tables e below (s₁.setTop (mkF m 18 #[.val (.ref a), .val (.ref b), .val (.int (1 : Int32))] [(.int x1)])) _
    refine XS.aloadN X0.here hx rfl (hb hby d3_18) rfl rfl ?_
    show Steps p.tables e below (s₁.setTop (mkF m 19 #[.val (.ref a), .val (.ref b), .val (.int (1 : Int32))] [(.ref b), (.int x1)])) _
    refine XS.iloadN X0.here hx rfl (hb hby d3_19) rfl ?_
    exact kt)
  have op_16 := V_b
  obtain ⟨cl_16, Ar_16, q_16, S_16, Ng_16, H_16, G_16⟩ := op_16
  have hin_16 : ¬ ((1 : Int32) < 0 ∨ cl_16.slots.size ≤ ((1 : Int32)).toNatClampNeg) := inb_of S_16 ⟨by decide, by decide⟩
  have pre17 : ∀ tg, Steps p.tables e below (s₁.setTop (mkF m 11 #[.val (.ref a), .val (.ref b), .val (.int (2 : Int32))] [(.ref a), (.int (2 : Int32))])) tg → G tg := fun tg kt => pre15 tg (by
    show Steps p.tables e below (s₁.setTop (mkF m 20 #[.val (.ref a), .val (.ref b), .val (.int (1 : Int32))] [(.int (1 : Int32)), (.ref b), (.int x1)])) _
    refine X0.baloadBytes hx (j := (1 : Int32)) (v := (.int x1)) (by rw [e0]; exact Ar_16.1) (State.isArrayOf_alike hZ.alike Ar_16.2.1) Ar_16.2.2 hin_16 (H_16.at hin_16 rfl) (g := (mkF m 20 #[.val (.ref a), .val (.ref b), .val (.int (1 : Int32))] [(.int (1 : Int32)), (.ref b), (.int x1)])) rfl rfl (hb hby d3_20) _ ?_
    show Steps p.tables e below (s₁.setTop (mkF m 21 #[.val (.ref a), .val (.ref b), .val (.int (1 : Int32))] [(.int x1), (.int x1)])) _
    refine XS.icmpYes X0.here hx rfl (pc0 := 21) (pc' := 26) rfl (hb hby d3_21) rfl (teq rfl).1 (by decide) (by decide) ?_
    show Steps p.tables e below (s₁.setTop (mkF m 26 #[.val (.ref a), .val (.ref b), .val (.int (1 : Int32))] [])) _
    refine XS.iinc X0.here hx rfl (hb hby d3_26) rfl (l' := #[.val (.ref a), .val (.ref b), .val (.int (2 : Int32))]) rfl ?_
    show Steps p.tables e below (s₁.setTop (mkF m 29 #[.val (.ref a), .val (.ref b), .val (.int (2 : Int32))] [])) _
    refine XS.goto X0.here hx rfl (pc0 := 29) (pc' := 9) rfl (hb hby d3_29) (by decide) (by decide) ?_
    show Steps p.tables e below (s₁.setTop (mkF m 9 #[.val (.ref a), .val (.ref b), .val (.int (2 : Int32))] [])) _
    refine XS.iloadN X0.here hx rfl (hb hby d3_9) rfl ?_
    show Steps p.tables e below (s₁.setTop (mkF m 10 #[.val (.ref a), .val (.ref b), .val (.int (2 : Int32))] [(.int (2 : Int32))])) _
    refine XS.aloadN X0.here hx rfl (hb hby d3_10) rfl rfl ?_
    exact kt)
  have op_18 := V_a
  obtain ⟨cl_18, Ar_18, q_18, S_18, Ng_18, H_18, G_18⟩ := op_18
  have pre19 : ∀ tg, Steps p.tables e below (s₁.setTop (mkF m 17 #[.val (.ref a), .val (.ref b), .val (.int (2 : Int32))] [(.int (2 : Int32)), (.ref a)])) tg → G tg := fun tg kt => pre17 tg (by
    show Steps p.tables e below (s₁.setTop (mkF m 11 #[.val (.ref a), .val (.ref b), .val (.int (2 : Int32))] [(.ref a), (.int (2 : Int32))])) _
    refine X0.arraylength hx (by rw [e0]; exact Ar_18.1) (State.isArrayOf_alike hZ.alike Ar_18.2.1) (g := (mkF m 11 #[.val (.ref a), .val (.ref b), .val (.int (2 : Int32))] [(.ref a), (.int (2 : Int32))])) rfl rfl (hb hby d3_11) _ ?_
    rw [len_of S_18 Ng_18]
    show Steps p.tables e below (s₁.setTop (mkF m 12 #[.val (.ref a), .val (.ref b), .val (.int (2 : Int32))] [(.int (8 : Int32)), (.int (2 : Int32))])) _
    refine XS.icmpNo X0.here hx rfl (hb hby d3_12) rfl (tlt (by decide : (2 : Int32) < (8 : Int32))).2.1 ?_
    show Steps p.tables e below (s₁.setTop (mkF m 15 #[.val (.ref a), .val (.ref b), .val (.int (2 : Int32))] [])) _
    refine XS.aloadN X0.here hx rfl (hb hby d3_15) rfl rfl ?_
    show Steps p.tables e below (s₁.setTop (mkF m 16 #[.val (.ref a), .val (.ref b), .val (.int (2 : Int32))] [(.ref a)])) _
    refine XS.iloadN X0.here hx rfl (hb hby d3_16) rfl ?_
    exact kt)
  have op_20 := V_a
  obtain ⟨cl_20, Ar_20, q_20, S_20, Ng_20, H_20, G_20⟩ := op_20
  have hin_20 : ¬ ((2 : Int32) < 0 ∨ cl_20.slots.size ≤ ((2 : Int32)).toNatClampNeg) := inb_of S_20 ⟨by decide, by decide⟩
  have pre21 : ∀ tg, Steps p.tables e below (s₁.setTop (mkF m 20 #[.val (.ref a), .val (.ref b), .val (.int (2 : Int32))] [(.int (2 : Int32)), (.ref b), (.int x2)])) tg → G tg := fun tg kt => pre19 tg (by
    show Steps p.tables e below (s₁.setTop (mkF m 17 #[.val (.ref a), .val (.ref b), .val (.int (2 : Int32))] [(.int (2 : Int32)), (.ref a)])) _
    refine X0.baloadBytes hx (j := (2 : Int32)) (v := (.int x2)) (by rw [e0]; exact Ar_20.1) (State.isArrayOf_alike hZ.alike Ar_20.2.1) Ar_20.2.2 hin_20 (H_20.at hin_20 rfl) (g := (mkF m 17 #[.val (.ref a), .val (.ref b), .val (.int (2 : Int32))] [(.int (2 : Int32)), (.ref a)])) rfl rfl (hb hby d3_17) _ ?_
    show Steps p.tables e below (s₁.setTop (mkF m 18 #[.val (.ref a), .val (.ref b), .val (.int (2 : Int32))] [(.int x2)])) _
    refine XS.aloadN X0.here hx rfl (hb hby d3_18) rfl rfl ?_
    show Steps p.tables e below (s₁.setTop (mkF m 19 #[.val (.ref a), .val (.ref b), .val (.int (2 : Int32))] [(.ref b), (.int x2)])) _
    refine XS.iloadN X0.here hx rfl (hb hby d3_19) rfl ?_
    exact kt)
  have op_22 := V_b
  obtain ⟨cl_22, Ar_22, q_22, S_22, Ng_22, H_22, G_22⟩ := op_22
  have hin_22 : ¬ ((2 : Int32) < 0 ∨ cl_22.slots.size ≤ ((2 : Int32)).toNatClampNeg) := inb_of S_22 ⟨by decide, by decide⟩
  have pre23 : ∀ tg, Steps p.tables e below (s₁.setTop (mkF m 11 #[.val (.ref a), .val (.ref b), .val (.int (3 : Int32))] [(.ref a), (.int (3 : Int32))])) tg → G tg := fun tg kt => pre21 tg (by
    show Steps p.tables e below (s₁.setTop (mkF m 20 #[.val (.ref a), .val (.ref b), .val (.int (2 : Int32))] [(.int (2 : Int32)), (.ref b), (.int x2)])) _
    refine X0.baloadBytes hx (j := (2 : Int32)) (v := (.int x2)) (by rw [e0]; exact Ar_22.1) (State.isArrayOf_alike hZ.alike Ar_22.2.1) Ar_22.2.2 hin_22 (H_22.at hin_22 rfl) (g := (mkF m 20 #[.val (.ref a), .val (.ref b), .val (.int (2 : Int32))] [(.int (2 : Int32)), (.ref b), (.int x2)])) rfl rfl (hb hby d3_20) _ ?_
    show Steps p.tables e below (s₁.setTop (mkF m 21 #[.val (.ref a), .val (.ref b), .val (.int (2 : Int32))] [(.int x2), (.int x2)])) _
    refine XS.icmpYes X0.here hx rfl (pc0 := 21) (pc' := 26) rfl (hb hby d3_21) rfl (teq rfl).1 (by decide) (by decide) ?_
    show Steps p.tables e below (s₁.setTop (mkF m 26 #[.val (.ref a), .val (.ref b), .val (.int (2 : Int32))] [])) _
    refine XS.iinc X0.here hx rfl (hb hby d3_26) rfl (l' := #[.val (.ref a), .val (.ref b), .val (.int (3 : Int32))]) rfl ?_
    show Steps p.tables e below (s₁.setTop (mkF m 29 #[.val (.ref a), .val (.ref b), .val (.int (3 : Int32))] [])) _
    refine XS.goto X0.here hx rfl (pc0 := 29) (pc' := 9) rfl (hb hby d3_29) (by decide) (by decide) ?_
    show Steps p.tables e below (s₁.setTop (mkF m 9 #[.val (.ref a), .val (.ref b), .val (.int (3 : Int32))] [])) _
    refine XS.iloadN X0.here hx rfl (hb hby d3_9) rfl ?_
    show Steps p.tables e below (s₁.setTop (mkF m 10 #[.val (.ref a), .val (.ref b), .val (.int (3 : Int32))] [(.int (3 : Int32))])) _
    refine XS.aloadN X0.here hx rfl (hb hby d3_10) rfl rfl ?_
    exact kt)
  have op_24 := V_a
  obtain ⟨cl_24, Ar_24, q_24, S_24, Ng_24, H_24, G_24⟩ := op_24
  have pre25 : ∀ tg, Steps p.tables e below (s₁.setTop (mkF m 17 #[.val (.ref a), .val (.ref b), .val (.int (3 : Int32))] [(.int (3 : Int32)), (.ref a)])) tg → G tg := fun tg kt => pre23 tg (by
    show Steps p.tables e below (s₁.setTop (mkF m 11 #[.val (.ref a), .val (.ref b), .val (.int (3 : Int32))] [(.ref a), (.int (3 : Int32))])) _
    refine X0.arraylength hx (by rw [e0]; exact Ar_24.1) (State.isArrayOf_alike hZ.alike Ar_24.2.1) (g := (mkF m 11 #[.val (.ref a), .val (.ref b), .val (.int (3 : Int32))] [(.ref a), (.int (3 : Int32))])) rfl rfl (hb hby d3_11) _ ?_
    rw [len_of S_24 Ng_24]
    show Steps p.tables e below (s₁.setTop (mkF m 12 #[.val (.ref a), .val (.ref b), .val (.int (3 : Int32))] [(.int (8 : Int32)), (.int (3 : Int32))])) _
    refine XS.icmpNo X0.here hx rfl (hb hby d3_12) rfl (tlt (by decide : (3 : Int32) < (8 : Int32))).2.1 ?_
    show Steps p.tables e below (s₁.setTop (mkF m 15 #[.val (.ref a), .val (.ref b), .val (.int (3 : Int32))] [])) _
    refine XS.aloadN X0.here hx rfl (hb hby d3_15) rfl rfl ?_
    show Steps p.tables e below (s₁.setTop (mkF m 16 #[.val (.ref a), .val (.ref b), .val (.int (3 : Int32))] [(.ref a)])) _
    refine XS.iloadN X0.here hx rfl (hb hby d3_16) rfl ?_
    exact kt)
  have op_26 := V_a
  obtain ⟨cl_26, Ar_26, q_26, S_26, Ng_26, H_26, G_26⟩ := op_26
  have hin_26 : ¬ ((3 : Int32) < 0 ∨ cl_26.slots.size ≤ ((3 : Int32)).toNatClampNeg) := inb_of S_26 ⟨by decide, by decide⟩
  have pre27 : ∀ tg, Steps p.tables e below (s₁.setTop (mkF m 20 #[.val (.ref a), .val (.ref b), .val (.int (3 : Int32))] [(.int (3 : Int32)), (.ref b), (.int x3)])) tg → G tg := fun tg kt => pre25 tg (by
    show Steps p.tables e below (s₁.setTop (mkF m 17 #[.val (.ref a), .val (.ref b), .val (.int (3 : Int32))] [(.int (3 : Int32)), (.ref a)])) _
    refine X0.baloadBytes hx (j := (3 : Int32)) (v := (.int x3)) (by rw [e0]; exact Ar_26.1) (State.isArrayOf_alike hZ.alike Ar_26.2.1) Ar_26.2.2 hin_26 (H_26.at hin_26 rfl) (g := (mkF m 17 #[.val (.ref a), .val (.ref b), .val (.int (3 : Int32))] [(.int (3 : Int32)), (.ref a)])) rfl rfl (hb hby d3_17) _ ?_
    show Steps p.tables e below (s₁.setTop (mkF m 18 #[.val (.ref a), .val (.ref b), .val (.int (3 : Int32))] [(.int x3)])) _
    refine XS.aloadN X0.here hx rfl (hb hby d3_18) rfl rfl ?_
    show Steps p.tables e below (s₁.setTop (mkF m 19 #[.val (.ref a), .val (.ref b), .val (.int (3 : Int32))] [(.ref b), (.int x3)])) _
    refine XS.iloadN X0.here hx rfl (hb hby d3_19) rfl ?_
    exact kt)
  have op_28 := V_b
  obtain ⟨cl_28, Ar_28, q_28, S_28, Ng_28, H_28, G_28⟩ := op_28
  have hin_28 : ¬ ((3 : Int32) < 0 ∨ cl_28.slots.size ≤ ((3 : Int32)).toNatClampNeg) := inb_of S_28 ⟨by decide, by decide⟩
  have pre29 : ∀ tg, Steps p.tables e below (s₁.setTop (mkF m 11 #[.val (.ref a), .val (.ref b), .val (.int (4 : Int32))] [(.ref a), (.int (4 : Int32))])) tg → G tg := fun tg kt => pre27 tg (by
    show Steps p.tables e below (s₁.setTop (mkF m 20 #[.val (.ref a), .val (.ref b), .val (.int (3 : Int32))] [(.int (3 : Int32)), (.ref b), (.int x3)])) _
    refine X0.baloadBytes hx (j := (3 : Int32)) (v := (.int x3)) (by rw [e0]; exact Ar_28.1) (State.isArrayOf_alike hZ.alike Ar_28.2.1) Ar_28.2.2 hin_28 (H_28.at hin_28 rfl) (g := (mkF m 20 #[.val (.ref a), .val (.ref b), .val (.int (3 : Int32))] [(.int (3 : Int32)), (.ref b), (.int x3)])) rfl rfl (hb hby d3_20) _ ?_
    show Steps p.tables e below (s₁.setTop (mkF m 21 #[.val (.ref a), .val (.ref b), .val (.int (3 : Int32))] [(.int x3), (.int x3)])) _
    refine XS.icmpYes X0.here hx rfl (pc0 := 21) (pc' := 26) rfl (hb hby d3_21) rfl (teq rfl).1 (by decide) (by decide) ?_
    show Steps p.tables e below (s₁.setTop (mkF m 26 #[.val (.ref a), .val (.ref b), .val (.int (3 : Int32))] [])) _
    refine XS.iinc X0.here hx rfl (hb hby d3_26) rfl (l' := #[.val (.ref a), .val (.ref b), .val (.int (4 : Int32))]) rfl ?_
    show Steps p.tables e below (s₁.setTop (mkF m 29 #[.val (.ref a), .val (.ref b), .val (.int (4 : Int32))] [])) _
    refine XS.goto X0.here hx rfl (pc0 := 29) (pc' := 9) rfl (hb hby d3_29) (by decide) (by decide) ?_
    show Steps p.tables e below (s₁.setTop (mkF m 9 #[.val (.ref a), .val (.ref b), .val (.int (4 : Int32))] [])) _
    refine XS.iloadN X0.here hx rfl (hb hby d3_9) rfl ?_
    show Steps p.tables e below (s₁.setTop (mkF m 10 #[.val (.ref a), .val (.ref b), .val (.int (4 : Int32))] [(.int (4 : Int32))])) _
    refine XS.aloadN X0.here hx rfl (hb hby d3_10) rfl rfl ?_
    exact kt)
  have op_30 := V_a
  obtain ⟨cl_30, Ar_30, q_30, S_30, Ng_30, H_30, G_30⟩ := op_30
  have pre31 : ∀ tg, Steps p.tables e below (s₁.setTop (mkF m 17 #[.val (.ref a), .val (.ref b), .val (.int (4 : Int32))] [(.int (4 : Int32)), (.ref a)])) tg → G tg := fun tg kt => pre29 tg (by
    show Steps p.tables e below (s₁.setTop (mkF m 11 #[.val (.ref a), .val (.ref b), .val (.int (4 : Int32))] [(.ref a), (.int (4 : Int32))])) _
    refine X0.arraylength hx (by rw [e0]; exact Ar_30.1) (State.isArrayOf_alike hZ.alike Ar_30.2.1) (g := (mkF m 11 #[.val (.ref a), .val (.ref b), .val (.int (4 : Int32))] [(.ref a), (.int (4 : Int32))])) rfl rfl (hb hby d3_11) _ ?_
    rw [len_of S_30 Ng_30]
    show Steps p.tables e below (s₁.setTop (mkF m 12 #[.val (.ref a), .val (.ref b), .val (.int (4 : Int32))] [(.int (8 : Int32)), (.int (4 : Int32))])) _
    refine XS.icmpNo X0.here hx rfl (hb hby d3_12) rfl (tlt (by decide : (4 : Int32) < (8 : Int32))).2.1 ?_
    show Steps p.tables e below (s₁.setTop (mkF m 15 #[.val (.ref a), .val (.ref b), .val (.int (4 : Int32))] [])) _
    refine XS.aloadN X0.here hx rfl (hb hby d3_15) rfl rfl ?_
    show Steps p.tables e below (s₁.setTop (mkF m 16 #[.val (.ref a), .val (.ref b), .val (.int (4 : Int32))] [(.ref a)])) _
    refine XS.iloadN X0.here hx rfl (hb hby d3_16) rfl ?_
    exact kt)
  have op_32 := V_a
  obtain ⟨cl_32, Ar_32, q_32, S_32, Ng_32, H_32, G_32⟩ := op_32
  have hin_32 : ¬ ((4 : Int32) < 0 ∨ cl_32.slots.size ≤ ((4 : Int32)).toNatClampNeg) := inb_of S_32 ⟨by decide, by decide⟩
  have pre33 : ∀ tg, Steps p.tables e below (s₁.setTop (mkF m 20 #[.val (.ref a), .val (.ref b), .val (.int (4 : Int32))] [(.int (4 : Int32)), (.ref b), (.int x4)])) tg → G tg := fun tg kt => pre31 tg (by
    show Steps p.tables e below (s₁.setTop (mkF m 17 #[.val (.ref a), .val (.ref b), .val (.int (4 : Int32))] [(.int (4 : Int32)), (.ref a)])) _
    refine X0.baloadBytes hx (j := (4 : Int32)) (v := (.int x4)) (by rw [e0]; exact Ar_32.1) (State.isArrayOf_alike hZ.alike Ar_32.2.1) Ar_32.2.2 hin_32 (H_32.at hin_32 rfl) (g := (mkF m 17 #[.val (.ref a), .val (.ref b), .val (.int (4 : Int32))] [(.int (4 : Int32)), (.ref a)])) rfl rfl (hb hby d3_17) _ ?_
    show Steps p.tables e below (s₁.setTop (mkF m 18 #[.val (.ref a), .val (.ref b), .val (.int (4 : Int32))] [(.int x4)])) _
    refine XS.aloadN X0.here hx rfl (hb hby d3_18) rfl rfl ?_
    show Steps p.tables e below (s₁.setTop (mkF m 19 #[.val (.ref a), .val (.ref b), .val (.int (4 : Int32))] [(.ref b), (.int x4)])) _
    refine XS.iloadN X0.here hx rfl (hb hby d3_19) rfl ?_
    exact kt)
  have op_34 := V_b
  obtain ⟨cl_34, Ar_34, q_34, S_34, Ng_34, H_34, G_34⟩ := op_34
  have hin_34 : ¬ ((4 : Int32) < 0 ∨ cl_34.slots.size ≤ ((4 : Int32)).toNatClampNeg) := inb_of S_34 ⟨by decide, by decide⟩
  have pre35 : ∀ tg, Steps p.tables e below (s₁.setTop (mkF m 11 #[.val (.ref a), .val (.ref b), .val (.int (5 : Int32))] [(.ref a), (.int (5 : Int32))])) tg → G tg := fun tg kt => pre33 tg (by
    show Steps p.tables e below (s₁.setTop (mkF m 20 #[.val (.ref a), .val (.ref b), .val (.int (4 : Int32))] [(.int (4 : Int32)), (.ref b), (.int x4)])) _
    refine X0.baloadBytes hx (j := (4 : Int32)) (v := (.int x4)) (by rw [e0]; exact Ar_34.1) (State.isArrayOf_alike hZ.alike Ar_34.2.1) Ar_34.2.2 hin_34 (H_34.at hin_34 rfl) (g := (mkF m 20 #[.val (.ref a), .val (.ref b), .val (.int (4 : Int32))] [(.int (4 : Int32)), (.ref b), (.int x4)])) rfl rfl (hb hby d3_20) _ ?_
    show Steps p.tables e below (s₁.setTop (mkF m 21 #[.val (.ref a), .val (.ref b), .val (.int (4 : Int32))] [(.int x4), (.int x4)])) _
    refine XS.icmpYes X0.here hx rfl (pc0 := 21) (pc' := 26) rfl (hb hby d3_21) rfl (teq rfl).1 (by decide) (by decide) ?_
    show Steps p.tables e below (s₁.setTop (mkF m 26 #[.val (.ref a), .val (.ref b), .val (.int (4 : Int32))] [])) _
    refine XS.iinc X0.here hx rfl (hb hby d3_26) rfl (l' := #[.val (.ref a), .val (.ref b), .val (.int (5 : Int32))]) rfl ?_
    show Steps p.tables e below (s₁.setTop (mkF m 29 #[.val (.ref a), .val (.ref b), .val (.int (5 : Int32))] [])) _
    refine XS.goto X0.here hx rfl (pc0 := 29) (pc' := 9) rfl (hb hby d3_29) (by decide) (by decide) ?_
    show Steps p.tables e below (s₁.setTop (mkF m 9 #[.val (.ref a), .val (.ref b), .val (.int (5 : Int32))] [])) _
    refine XS.iloadN X0.here hx rfl (hb hby d3_9) rfl ?_
    show Steps p.tables e below (s₁.setTop (mkF m 10 #[.val (.ref a), .val (.ref b), .val (.int (5 : Int32))] [(.int (5 : Int32))])) _
    refine XS.aloadN X0.here hx rfl (hb hby d3_10) rfl rfl ?_
    exact kt)
  have op_36 := V_a
  obtain ⟨cl_36, Ar_36, q_36, S_36, Ng_36, H_36, G_36⟩ := op_36
  have pre37 : ∀ tg, Steps p.tables e below (s₁.setTop (mkF m 17 #[.val (.ref a), .val (.ref b), .val (.int (5 : Int32))] [(.int (5 : Int32)), (.ref a)])) tg → G tg := fun tg kt => pre35 tg (by
    show Steps p.tables e below (s₁.setTop (mkF m 11 #[.val (.ref a), .val (.ref b), .val (.int (5 : Int32))] [(.ref a), (.int (5 : Int32))])) _
    refine X0.arraylength hx (by rw [e0]; exact Ar_36.1) (State.isArrayOf_alike hZ.alike Ar_36.2.1) (g := (mkF m 11 #[.val (.ref a), .val (.ref b), .val (.int (5 : Int32))] [(.ref a), (.int (5 : Int32))])) rfl rfl (hb hby d3_11) _ ?_
    rw [len_of S_36 Ng_36]
    show Steps p.tables e below (s₁.setTop (mkF m 12 #[.val (.ref a), .val (.ref b), .val (.int (5 : Int32))] [(.int (8 : Int32)), (.int (5 : Int32))])) _
    refine XS.icmpNo X0.here hx rfl (hb hby d3_12) rfl (tlt (by decide : (5 : Int32) < (8 : Int32))).2.1 ?_
    show Steps p.tables e below (s₁.setTop (mkF m 15 #[.val (.ref a), .val (.ref b), .val (.int (5 : Int32))] [])) _
    refine XS.aloadN X0.here hx rfl (hb hby d3_15) rfl rfl ?_
    show Steps p.tables e below (s₁.setTop (mkF m 16 #[.val (.ref a), .val (.ref b), .val (.int (5 : Int32))] [(.ref a)])) _
    refine XS.iloadN X0.here hx rfl (hb hby d3_16) rfl ?_
    exact kt)
  have op_38 := V_a
  obtain ⟨cl_38, Ar_38, q_38, S_38, Ng_38, H_38, G_38⟩ := op_38
  have hin_38 : ¬ ((5 : Int32) < 0 ∨ cl_38.slots.size ≤ ((5 : Int32)).toNatClampNeg) := inb_of S_38 ⟨by decide, by decide⟩
  have pre39 : ∀ tg, Steps p.tables e below (s₁.setTop (mkF m 20 #[.val (.ref a), .val (.ref b), .val (.int (5 : Int32))] [(.int (5 : Int32)), (.ref b), (.int x5)])) tg → G tg := fun tg kt => pre37 tg (by
    show Steps p.tables e below (s₁.setTop (mkF m 17 #[.val (.ref a), .val (.ref b), .val (.int (5 : Int32))] [(.int (5 : Int32)), (.ref a)])) _
    refine X0.baloadBytes hx (j := (5 : Int32)) (v := (.int x5)) (by rw [e0]; exact Ar_38.1) (State.isArrayOf_alike hZ.alike Ar_38.2.1) Ar_38.2.2 hin_38 (H_38.at hin_38 rfl) (g := (mkF m 17 #[.val (.ref a), .val (.ref b), .val (.int (5 : Int32))] [(.int (5 : Int32)), (.ref a)])) rfl rfl (hb hby d3_17) _ ?_
    show Steps p.tables e below (s₁.setTop (mkF m 18 #[.val (.ref a), .val (.ref b), .val (.int (5 : Int32))] [(.int x5)])) _
    refine XS.aloadN X0.here hx rfl (hb hby d3_18) rfl rfl ?_
    show Steps p.tables e below (s₁.setTop (mkF m 19 #[.val (.ref a), .val (.ref b), .val (.int (5 : Int32))] [(.ref b), (.int x5)])) _
    refine XS.iloadN X0.here hx rfl (hb hby d3_19) rfl ?_
    exact kt)
  have op_40 := V_b
  obtain ⟨cl_40, Ar_40, q_40, S_40, Ng_40, H_40, G_40⟩ := op_40
  have hin_40 : ¬ ((5 : Int32) < 0 ∨ cl_40.slots.size ≤ ((5 : Int32)).toNatClampNeg) := inb_of S_40 ⟨by decide, by decide⟩
  have pre41 : ∀ tg, Steps p.tables e below (s₁.setTop (mkF m 11 #[.val (.ref a), .val (.ref b), .val (.int (6 : Int32))] [(.ref a), (.int (6 : Int32))])) tg → G tg := fun tg kt => pre39 tg (by
    show Steps p.tables e below (s₁.setTop (mkF m 20 #[.val (.ref a), .val (.ref b), .val (.int (5 : Int32))] [(.int (5 : Int32)), (.ref b), (.int x5)])) _
    refine X0.baloadBytes hx (j := (5 : Int32)) (v := (.int x5)) (by rw [e0]; exact Ar_40.1) (State.isArrayOf_alike hZ.alike Ar_40.2.1) Ar_40.2.2 hin_40 (H_40.at hin_40 rfl) (g := (mkF m 20 #[.val (.ref a), .val (.ref b), .val (.int (5 : Int32))] [(.int (5 : Int32)), (.ref b), (.int x5)])) rfl rfl (hb hby d3_20) _ ?_
    show Steps p.tables e below (s₁.setTop (mkF m 21 #[.val (.ref a), .val (.ref b), .val (.int (5 : Int32))] [(.int x5), (.int x5)])) _
    refine XS.icmpYes X0.here hx rfl (pc0 := 21) (pc' := 26) rfl (hb hby d3_21) rfl (teq rfl).1 (by decide) (by decide) ?_
    show Steps p.tables e below (s₁.setTop (mkF m 26 #[.val (.ref a), .val (.ref b), .val (.int (5 : Int32))] [])) _
    refine XS.iinc X0.here hx rfl (hb hby d3_26) rfl (l' := #[.val (.ref a), .val (.ref b), .val (.int (6 : Int32))]) rfl ?_
    show Steps p.tables e below (s₁.setTop (mkF m 29 #[.val (.ref a), .val (.ref b), .val (.int (6 : Int32))] [])) _
    refine XS.goto X0.here hx rfl (pc0 := 29) (pc' := 9) rfl (hb hby d3_29) (by decide) (by decide) ?_
    show Steps p.tables e below (s₁.setTop (mkF m 9 #[.val (.ref a), .val (.ref b), .val (.int (6 : Int32))] [])) _
    refine XS.iloadN X0.here hx rfl (hb hby d3_9) rfl ?_
    show Steps p.tables e below (s₁.setTop (mkF m 10 #[.val (.ref a), .val (.ref b), .val (.int (6 : Int32))] [(.int (6 : Int32))])) _
    refine XS.aloadN X0.here hx rfl (hb hby d3_10) rfl rfl ?_
    exact kt)
  have op_42 := V_a
  obtain ⟨cl_42, Ar_42, q_42, S_42, Ng_42, H_42, G_42⟩ := op_42
  have pre43 : ∀ tg, Steps p.tables e below (s₁.setTop (mkF m 17 #[.val (.ref a), .val (.ref b), .val (.int (6 : Int32))] [(.int (6 : Int32)), (.ref a)])) tg → G tg := fun tg kt => pre41 tg (by
    show Steps p.tables e below (s₁.setTop (mkF m 11 #[.val (.ref a), .val (.ref b), .val (.int (6 : Int32))] [(.ref a), (.int (6 : Int32))])) _
    refine X0.arraylength hx (by rw [e0]; exact Ar_42.1) (State.isArrayOf_alike hZ.alike Ar_42.2.1) (g := (mkF m 11 #[.val (.ref a), .val (.ref b), .val (.int (6 : Int32))] [(.ref a), (.int (6 : Int32))])) rfl rfl (hb hby d3_11) _ ?_
    rw [len_of S_42 Ng_42]
    show Steps p.tables e below (s₁.setTop (mkF m 12 #[.val (.ref a), .val (.ref b), .val (.int (6 : Int32))] [(.int (8 : Int32)), (.int (6 : Int32))])) _
    refine XS.icmpNo X0.here hx rfl (hb hby d3_12) rfl (tlt (by decide : (6 : Int32) < (8 : Int32))).2.1 ?_
    show Steps p.tables e below (s₁.setTop (mkF m 15 #[.val (.ref a), .val (.ref b), .val (.int (6 : Int32))] [])) _
    refine XS.aloadN X0.here hx rfl (hb hby d3_15) rfl rfl ?_
    show Steps p.tables e below (s₁.setTop (mkF m 16 #[.val (.ref a), .val (.ref b), .val (.int (6 : Int32))] [(.ref a)])) _
    refine XS.iloadN X0.here hx rfl (hb hby d3_16) rfl ?_
    exact kt)
  have op_44 := V_a
  obtain ⟨cl_44, Ar_44, q_44, S_44, Ng_44, H_44, G_44⟩ := op_44
  have hin_44 : ¬ ((6 : Int32) < 0 ∨ cl_44.slots.size ≤ ((6 : Int32)).toNatClampNeg) := inb_of S_44 ⟨by decide, by decide⟩
  have pre45 : ∀ tg, Steps p.tables e below (s₁.setTop (mkF m 20 #[.val (.ref a), .val (.ref b), .val (.int (6 : Int32))] [(.int (6 : Int32)), (.ref b), (.int x6)])) tg → G tg := fun tg kt => pre43 tg (by
    show Steps p.tables e below (s₁.setTop (mkF m 17 #[.val (.ref a), .val (.ref b), .val (.int (6 : Int32))] [(.int (6 : Int32)), (.ref a)])) _
    refine X0.baloadBytes hx (j := (6 : Int32)) (v := (.int x6)) (by rw [e0]; exact Ar_44.1) (State.isArrayOf_alike hZ.alike Ar_44.2.1) Ar_44.2.2 hin_44 (H_44.at hin_44 rfl) (g := (mkF m 17 #[.val (.ref a), .val (.ref b), .val (.int (6 : Int32))] [(.int (6 : Int32)), (.ref a)])) rfl rfl (hb hby d3_17) _ ?_
    show Steps p.tables e below (s₁.setTop (mkF m 18 #[.val (.ref a), .val (.ref b), .val (.int (6 : Int32))] [(.int x6)])) _
    refine XS.aloadN X0.here hx rfl (hb hby d3_18) rfl rfl ?_
    show Steps p.tables e below (s₁.setTop (mkF m 19 #[.val (.ref a), .val (.ref b), .val (.int (6 : Int32))] [(.ref b), (.int x6)])) _
    refine XS.iloadN X0.here hx rfl (hb hby d3_19) rfl ?_
    exact kt)
  have op_46 := V_b
  obtain ⟨cl_46, Ar_46, q_46, S_46, Ng_46, H_46, G_46⟩ := op_46
  have hin_46 : ¬ ((6 : Int32) < 0 ∨ cl_46.slots.size ≤ ((6 : Int32)).toNatClampNeg) := inb_of S_46 ⟨by decide, by decide⟩
  have pre47 : ∀ tg, Steps p.tables e below (s₁.setTop (mkF m 11 #[.val (.ref a), .val (.ref b), .val (.int (7 : Int32))] [(.ref a), (.int (7 : Int32))])) tg → G tg := fun tg kt => pre45 tg (by
    show Steps p.tables e below (s₁.setTop (mkF m 20 #[.val (.ref a), .val (.ref b), .val (.int (6 : Int32))] [(.int (6 : Int32)), (.ref b), (.int x6)])) _
    refine X0.baloadBytes hx (j := (6 : Int32)) (v := (.int x6)) (by rw [e0]; exact Ar_46.1) (State.isArrayOf_alike hZ.alike Ar_46.2.1) Ar_46.2.2 hin_46 (H_46.at hin_46 rfl) (g := (mkF m 20 #[.val (.ref a), .val (.ref b), .val (.int (6 : Int32))] [(.int (6 : Int32)), (.ref b), (.int x6)])) rfl rfl (hb hby d3_20) _ ?_
    show Steps p.tables e below (s₁.setTop (mkF m 21 #[.val (.ref a), .val (.ref b), .val (.int (6 : Int32))] [(.int x6), (.int x6)])) _
    refine XS.icmpYes X0.here hx rfl (pc0 := 21) (pc' := 26) rfl (hb hby d3_21) rfl (teq rfl).1 (by decide) (by decide) ?_
    show Steps p.tables e below (s₁.setTop (mkF m 26 #[.val (.ref a), .val (.ref b), .val (.int (6 : Int32))] [])) _
    refine XS.iinc X0.here hx rfl (hb hby d3_26) rfl (l' := #[.val (.ref a), .val (.ref b), .val (.int (7 : Int32))]) rfl ?_
    show Steps p.tables e below (s₁.setTop (mkF m 29 #[.val (.ref a), .val (.ref b), .val (.int (7 : Int32))] [])) _
    refine XS.goto X0.here hx rfl (pc0 := 29) (pc' := 9) rfl (hb hby d3_29) (by decide) (by decide) ?_
    show Steps p.tables e below (s₁.setTop (mkF m 9 #[.val (.ref a), .val (.ref b), .val (.int (7 : Int32))] [])) _
    refine XS.iloadN X0.here hx rfl (hb hby d3_9) rfl ?_
    show Steps p.tables e below (s₁.setTop (mkF m 10 #[.val (.ref a), .val (.ref b), .val (.int (7 : Int32))] [(.int (7 : Int32))])) _
    refine XS.aloadN X0.here hx rfl (hb hby d3_10) rfl rfl ?_
    exact kt)
  have op_48 := V_a
  obtain ⟨cl_48, Ar_48, q_48, S_48, Ng_48, H_48, G_48⟩ := op_48
  have pre49 : ∀ tg, Steps p.tables e below (s₁.setTop (mkF m 17 #[.val (.ref a), .val (.ref b), .val (.int (7 : Int32))] [(.int (7 : Int32)), (.ref a)])) tg → G tg := fun tg kt => pre47 tg (by
    show Steps p.tables e below (s₁.setTop (mkF m 11 #[.val (.ref a), .val (.ref b), .val (.int (7 : Int32))] [(.ref a), (.int (7 : Int32))])) _
    refine X0.arraylength hx (by rw [e0]; exact Ar_48.1) (State.isArrayOf_alike hZ.alike Ar_48.2.1) (g := (mkF m 11 #[.val (.ref a), .val (.ref b), .val (.int (7 : Int32))] [(.ref a), (.int (7 : Int32))])) rfl rfl (hb hby d3_11) _ ?_
    rw [len_of S_48 Ng_48]
    show Steps p.tables e below (s₁.setTop (mkF m 12 #[.val (.ref a), .val (.ref b), .val (.int (7 : Int32))] [(.int (8 : Int32)), (.int (7 : Int32))])) _
    refine XS.icmpNo X0.here hx rfl (hb hby d3_12) rfl (tlt (by decide : (7 : Int32) < (8 : Int32))).2.1 ?_
    show Steps p.tables e below (s₁.setTop (mkF m 15 #[.val (.ref a), .val (.ref b), .val (.int (7 : Int32))] [])) _
    refine XS.aloadN X0.here hx rfl (hb hby d3_15) rfl rfl ?_
    show Steps p.tables e below (s₁.setTop (mkF m 16 #[.val (.ref a), .val (.ref b), .val (.int (7 : Int32))] [(.ref a)])) _
    refine XS.iloadN X0.here hx rfl (hb hby d3_16) rfl ?_
    exact kt)
  have op_50 := V_a
  obtain ⟨cl_50, Ar_50, q_50, S_50, Ng_50, H_50, G_50⟩ := op_50
  have hin_50 : ¬ ((7 : Int32) < 0 ∨ cl_50.slots.size ≤ ((7 : Int32)).toNatClampNeg) := inb_of S_50 ⟨by decide, by decide⟩
  have pre51 : ∀ tg, Steps p.tables e below (s₁.setTop (mkF m 20 #[.val (.ref a), .val (.ref b), .val (.int (7 : Int32))] [(.int (7 : Int32)), (.ref b), (.int x7)])) tg → G tg := fun tg kt => pre49 tg (by
    show Steps p.tables e below (s₁.setTop (mkF m 17 #[.val (.ref a), .val (.ref b), .val (.int (7 : Int32))] [(.int (7 : Int32)), (.ref a)])) _
    refine X0.baloadBytes hx (j := (7 : Int32)) (v := (.int x7)) (by rw [e0]; exact Ar_50.1) (State.isArrayOf_alike hZ.alike Ar_50.2.1) Ar_50.2.2 hin_50 (H_50.at hin_50 rfl) (g := (mkF m 17 #[.val (.ref a), .val (.ref b), .val (.int (7 : Int32))] [(.int (7 : Int32)), (.ref a)])) rfl rfl (hb hby d3_17) _ ?_
    show Steps p.tables e below (s₁.setTop (mkF m 18 #[.val (.ref a), .val (.ref b), .val (.int (7 : Int32))] [(.int x7)])) _
    refine XS.aloadN X0.here hx rfl (hb hby d3_18) rfl rfl ?_
    show Steps p.tables e below (s₁.setTop (mkF m 19 #[.val (.ref a), .val (.ref b), .val (.int (7 : Int32))] [(.ref b), (.int x7)])) _
    refine XS.iloadN X0.here hx rfl (hb hby d3_19) rfl ?_
    exact kt)
  have op_52 := V_b
  obtain ⟨cl_52, Ar_52, q_52, S_52, Ng_52, H_52, G_52⟩ := op_52
  have hin_52 : ¬ ((7 : Int32) < 0 ∨ cl_52.slots.size ≤ ((7 : Int32)).toNatClampNeg) := inb_of S_52 ⟨by decide, by decide⟩
  have pre53 : ∀ tg, Steps p.tables e below (s₁.setTop (mkF m 11 #[.val (.ref a), .val (.ref b), .val (.int (8 : Int32))] [(.ref a), (.int (8 : Int32))])) tg → G tg := fun tg kt => pre51 tg (by
    show Steps p.tables e below (s₁.setTop (mkF m 20 #[.val (.ref a), .val (.ref b), .val (.int (7 : Int32))] [(.int (7 : Int32)), (.ref b), (.int x7)])) _
    refine X0.baloadBytes hx (j := (7 : Int32)) (v := (.int x7)) (by rw [e0]; exact Ar_52.1) (State.isArrayOf_alike hZ.alike Ar_52.2.1) Ar_52.2.2 hin_52 (H_52.at hin_52 rfl) (g := (mkF m 20 #[.val (.ref a), .val (.ref b), .val (.int (7 : Int32))] [(.int (7 : Int32)), (.ref b), (.int x7)])) rfl rfl (hb hby d3_20) _ ?_
    show Steps p.tables e below (s₁.setTop (mkF m 21 #[.val (.ref a), .val (.ref b), .val (.int (7 : Int32))] [(.int x7), (.int x7)])) _
    refine XS.icmpYes X0.here hx rfl (pc0 := 21) (pc' := 26) rfl (hb hby d3_21) rfl (teq rfl).1 (by decide) (by decide) ?_
    show Steps p.tables e below (s₁.setTop (mkF m 26 #[.val (.ref a), .val (.ref b), .val (.int (7 : Int32))] [])) _
    refine XS.iinc X0.here hx rfl (hb hby d3_26) rfl (l' := #[.val (.ref a), .val (.ref b), .val (.int (8 : Int32))]) rfl ?_
    show Steps p.tables e below (s₁.setTop (mkF m 29 #[.val (.ref a), .val (.ref b), .val (.int (8 : Int32))] [])) _
    refine XS.goto X0.here hx rfl (pc0 := 29) (pc' := 9) rfl (hb hby d3_29) (by decide) (by decide) ?_
    show Steps p.tables e below (s₁.setTop (mkF m 9 #[.val (.ref a), .val (.ref b), .val (.int (8 : Int32))] [])) _
    refine XS.iloadN X0.here hx rfl (hb hby d3_9) rfl ?_
    show Steps p.tables e below (s₁.setTop (mkF m 10 #[.val (.ref a), .val (.ref b), .val (.int (8 : Int32))] [(.int (8 : Int32))])) _
    refine XS.aloadN X0.here hx rfl (hb hby d3_10) rfl rfl ?_
    exact kt)
  have op_54 := V_a
  obtain ⟨cl_54, Ar_54, q_54, S_54, Ng_54, H_54, G_54⟩ := op_54
  obtain ⟨fs, hr, hrun, hended, hW, hsame⟩ := X0.leave (v := some (.int (1 : Int32))) (fun h => by rw [Bd.returns] at h; cases h)
  subst hG
  refine ⟨_, _, pre53 _ ?_, hrun, hended, _, _, rfl, ?_, ⟨_, rfl⟩, hW, hsame.mono (by decide) (by decide)⟩
  · skip
    show Steps p.tables e below (s₁.setTop (mkF m 11 #[.val (.ref a), .val (.ref b), .val (.int (8 : Int32))] [(.ref a), (.int (8 : Int32))])) _
    refine X0.arraylength hx (by rw [e0]; exact Ar_54.1) (State.isArrayOf_alike hZ.alike Ar_54.2.1) (g := (mkF m 11 #[.val (.ref a), .val (.ref b), .val (.int (8 : Int32))] [(.ref a), (.int (8 : Int32))])) rfl rfl (hb hby d3_11) _ ?_
    rw [len_of S_54 Ng_54]
    show Steps p.tables e below (s₁.setTop (mkF m 12 #[.val (.ref a), .val (.ref b), .val (.int (8 : Int32))] [(.int (8 : Int32)), (.int (8 : Int32))])) _
    refine XS.icmpYes X0.here hx rfl (pc0 := 12) (pc' := 32) rfl (hb hby d3_12) rfl (flt (by decide : ¬ ((8 : Int32) < (8 : Int32)))).2.1 (by decide) (by decide) ?_
    show Steps p.tables e below (s₁.setTop (mkF m 32 #[.val (.ref a), .val (.ref b), .val (.int (8 : Int32))] [])) _
    refine XS.iconst X0.here hx rfl (hb hby d3_32) ?_
    show Steps p.tables e below (s₁.setTop (mkF m 33 #[.val (.ref a), .val (.ref b), .val (.int (8 : Int32))] [(.int (1 : Int32))])) _
    exact retN X0 hx (t := .boolean) Bd.returns (by simp) (hb hby d3_33) hr
  · show Q_rm_s8 Z a b k1 k2 x0 x1 x2 x3 x4 x5 x6 x7 h0 n0 _ s₁.heap _
    rw [e0]
    exact ⟨rfl, N0, rfl⟩
theorem pn_2 : plainName "java/lang/String" = true := by first | (simp [plainName, overriddenIn]; done) | decide +kernel
theorem ef_2_R_R (m : MethodId) (x0 : Addr) (x1 : Addr) : entryFrame m #[(.ref x0), (.ref x1)] 3 = mkF m 0 #[.val (.ref x0), .val (.ref x1), .unset] [] := by first | (simp [entryFrame, mkF, argsToLocals, Value.category]; done) | rfl
theorem pd_0 : parseMethodDescriptor "([B[B)Z" = some ⟨[(.array .byte), (.array .byte)], some .boolean⟩ := by decide +kernel
theorem d2_0 : decode jdk_42_method_66_code 0 = .ok (.aload_n 0, 1) := by decide +kernel
theorem d2_1 : decode jdk_42_method_66_code 1 = .ok (.aload_n 1, 1) := by decide +kernel
theorem d2_2 : decode jdk_42_method_66_code 2 = .ok (.if_acmp .ne 5, 3) := by decide +kernel
theorem d2_7 : decode jdk_42_method_66_code 7 = .ok (.aload_n 1, 1) := by decide +kernel
theorem d2_8 : decode jdk_42_method_66_code 8 = .ok (.instanceof 10, 3) := by decide +kernel
theorem d2_11 : decode jdk_42_method_66_code 11 = .ok (.ifCond .eq 43, 3) := by decide +kernel
theorem d2_14 : decode jdk_42_method_66_code 14 = .ok (.aload_n 1, 1) := by decide +kernel
theorem d2_15 : decode jdk_42_method_66_code 15 = .ok (.checkcast 10, 3) := by decide +kernel
theorem d2_18 : decode jdk_42_method_66_code 18 = .ok (.astore_n 2, 1) := by decide +kernel
theorem d2_19 : decode jdk_42_method_66_code 19 = .ok (.getstatic 38, 3) := by decide +kernel
theorem d2_22 : decode jdk_42_method_66_code 22 = .ok (.ifCond .eq 14, 3) := by decide +kernel
theorem d2_25 : decode jdk_42_method_66_code 25 = .ok (.aload_n 0, 1) := by decide +kernel
theorem d2_26 : decode jdk_42_method_66_code 26 = .ok (.getfield 15, 3) := by decide +kernel
theorem d2_29 : decode jdk_42_method_66_code 29 = .ok (.aload_n 2, 1) := by decide +kernel
theorem d2_30 : decode jdk_42_method_66_code 30 = .ok (.getfield 15, 3) := by decide +kernel
theorem d2_33 : decode jdk_42_method_66_code 33 = .ok (.if_icmp .ne 21, 3) := by decide +kernel
theorem d2_36 : decode jdk_42_method_66_code 36 = .ok (.aload_n 0, 1) := by decide +kernel
theorem d2_37 : decode jdk_42_method_66_code 37 = .ok (.getfield 9, 3) := by decide +kernel
theorem d2_40 : decode jdk_42_method_66_code 40 = .ok (.aload_n 2, 1) := by decide +kernel
theorem d2_41 : decode jdk_42_method_66_code 41 = .ok (.getfield 9, 3) := by decide +kernel
theorem d2_44 : decode jdk_42_method_66_code 44 = .ok (.invokestatic 541, 3) := by decide +kernel
theorem d2_47 : decode jdk_42_method_66_code 47 = .ok (.ifCond .eq 7, 3) := by decide +kernel
theorem d2_54 : decode jdk_42_method_66_code 54 = .ok (.iconst 0, 1) := by decide +kernel
theorem d2_55 : decode jdk_42_method_66_code 55 = .ok (.ireturn, 1) := by decide +kernel
def Q_rm_eld (Z : State) (a b va vb : Addr) (k1 k2 : ClassId) (cs : Int32) (z1 z2 : Int32) (v1 v2 : List Value) (h0 : Heap) (n0 : Nat) (v : Option Value) (h : Heap) (L : List Loc) : Prop := v = some (.int (0 : Int32)) ∧ Fr n0 L ∧ h = h0
set_option maxRecDepth 65536 in
set_option maxHeartbeats 40000000 in
theorem rm_eld (l : Launch) (Z : State) (a0 : Array Value) (hw : ∀ d ∈ tables_1, d.before a0 Z = true) (ws : List Jvm.Cond) (a b va vb : Addr) (k1 k2 : ClassId) (cs : Int32) (z1 z2 : Int32) (v1 v2 : List Value) (h0 : Heap) (n0 : Nat) (Z0 : n0 ≤ h0.size) (S_c : Sta Z h0 "java/lang/String" "COMPACT_STRINGS" "Z" (.int cs)) (hcs : ¬ cs = (0 : Int32)) (E_b : Exa Z h0 b "java/lang/String") (C_a : Fld Z h0 a "java/lang/String" "coder" "B" (.int 0)) (C_b : Fld Z h0 b "java/lang/String" "coder" "B" (.int 0)) (F_a : Fld Z h0 a "java/lang/String" "value" "[B" (.ref va)) (F_b : Fld Z h0 b "java/lang/String" "value" "[B" (.ref vb)) (V_a : Arv Z h0 va k1 .byte z1 v1 (.int (0 : Int32))) (V_b : Arv Z h0 vb k2 .byte z2 v2 (.int (0 : Int32))) (hz : ¬ z1 = z2) (ne : a ≠ b) :
    MetFree l (⟨"java/lang/String", "equals", "(Ljava/lang/Object;)Z"⟩ : MethodName) (head1 (Jvm.Cond.code (⟨"java/lang/String", "equals", "(Ljava/lang/Object;)Z"⟩ : MethodName) jdk_42_method_66_code 3 (some .boolean) :: ws) ({ frames := 1, cells := 0, slots := 0, locals := 30 } : Room)) (fun argv U => argv = #[(.ref a), (.ref b)] ∧ Z.Warmed39 U.vm ∧ U.heap = h0) (fun _ _ _ _ _ => True) (fun _ U o U' => ∃ v L, o = .returned v ∧ Q_rm_eld Z a b va vb k1 k2 cs z1 z2 v1 v2 h0 n0 v U'.heap L ∧ FrameEnd U o U' L ({ frames := 1, cells := 0, slots := 0, locals := 30 } : Room).cells ({ frames := 1, cells := 0, slots := 0, locals := 30 } : Room).slots) := by
  refine MetFree.of_bodySF (plainFor_of_name pn_2) hisR ?_
  intro p e s m args below meth c s₁ Bd hml0 hP hK
  obtain ⟨rfl, hZ, hh⟩ := hP
  have hx := Bd.exec
  have hby := Bd.bytes
  have hml : c.maxLocals = 3 := hml0
  have hown : s.vm.findClass "java/lang/String" = some m.cls := findClass_of_methodNamed Bd.named
  have hnm := (name_of_methodNamed Bd.named Bd.method).1
  have X0 : Stand p l e ({ frames := 1, cells := 0, slots := 0, locals := 30 } : Room) s m #[(.ref a), (.ref b)] below meth c s₁ [] 0 0 := Stand.of_body Bd
  have e0 : s₁.heap = h0 := by rw [← hh, Bd.state]; rfl
  have N0 := Fr.nil n0
  obtain ⟨G, hG⟩ : ∃ G : State → Prop, G = fun tg => Steps p.tables e below (s₁.setTop (entryFrame m #[(.ref a), (.ref b)] 3)) tg := ⟨_, rfl⟩
  have pre0 : ∀ tg, Steps p.tables e below (s₁.setTop (mkF m 0 #[.val (.ref a), .val (.ref b), .unset] [])) tg → G tg := fun tg kt => by rw [hG]; exact castTop (ef_2_R_R m a b) kt
  have pre1 : ∀ tg, Steps p.tables e below (s₁.setTop (mkF m 8 #[.val (.ref a), .val (.ref b), .unset] [(.ref b)])) tg → G tg := fun tg kt => pre0 tg (by
    show Steps p.tables e below (s₁.setTop (mkF m 0 #[.val (.ref a), .val (.ref b), .unset] [])) _
    refine XS.aloadN X0.here hx rfl (hb hby d2_0) rfl rfl ?_
    show Steps p.tables e below (s₁.setTop (mkF m 1 #[.val (.ref a), .val (.ref b), .unset] [(.ref a)])) _
    refine XS.aloadN X0.here hx rfl (hb hby d2_1) rfl rfl ?_
    show Steps p.tables e below (s₁.setTop (mkF m 2 #[.val (.ref a), .val (.ref b), .unset] [(.ref b), (.ref a)])) _
    refine Jvm.RoadKit.acmp (g := (mkF m 2 #[.val (.ref a), .val (.ref b), .unset] [(.ref b), (.ref a)])) X0 hx rfl rfl rfl (pc0 := 2) (pc' := 7) (same := false) rfl (hb hby d2_2) rfl (decide_eq_false (fun q => ne (Value.ref.inj q))) (by decide) (by decide) ?_
    show Steps p.tables e below (s₁.setTop (mkF m 7 #[.val (.ref a), .val (.ref b), .unset] [])) _
    refine XS.aloadN X0.here hx rfl (hb hby d2_7) rfl rfl ?_
    exact kt)
  obtain ⟨T2, X2, e2, st2⟩ := instY X0 hx hZ hown (hw _ (List.mem_of_getElem? (i := 24) rfl)) e0 (Ins.self E_b) (g := (mkF m 8 #[.val (.ref a), .val (.ref b), .unset] [(.ref b)])) rfl rfl (hb hby d2_8)
  have pre2s : ∀ tg, Steps p.tables e below (T2.setTop (mkF m 11 #[.val (.ref a), .val (.ref b), .unset] [(.int (1 : Int32))])) tg → G tg := fun tg kt => pre1 tg (st2 tg kt)
  have pre3 : ∀ tg, Steps p.tables e below (T2.setTop (mkF m 15 #[.val (.ref a), .val (.ref b), .unset] [(.ref b)])) tg → G tg := fun tg kt => pre2s tg (by
    show Steps p.tables e below (T2.setTop (mkF m 11 #[.val (.ref a), .val (.ref b), .unset] [(.int (1 : Int32))])) _
    refine XS.ifNo X2.here hx rfl (hb hby d2_11) rfl ((if0 _ _).trans (feq (by decide : ¬ ((1 : Int32) = (0 : Int32)))).1) ?_
    show Steps p.tables e below (T2.setTop (mkF m 14 #[.val (.ref a), .val (.ref b), .unset] [])) _
    refine XS.aloadN X2.here hx rfl (hb hby d2_14) rfl rfl ?_
    exact kt)
  obtain ⟨T4, X4, e4, st4⟩ := castY X2 hx hZ hown (hw _ (List.mem_of_getElem? (i := 24) rfl)) e2 (Ins.self E_b) (g := (mkF m 15 #[.val (.ref a), .val (.ref b), .unset] [(.ref b)])) rfl rfl (hb hby d2_15)
  have pre4s : ∀ tg, Steps p.tables e below (T4.setTop (mkF m 18 #[.val (.ref a), .val (.ref b), .unset] [(.ref b)])) tg → G tg := fun tg kt => pre3 tg (st4 tg kt)
  have pre5 : ∀ tg, Steps p.tables e below (T4.setTop (mkF m 19 #[.val (.ref a), .val (.ref b), .val (.ref b)] [])) tg → G tg := fun tg kt => pre4s tg (by
    show Steps p.tables e below (T4.setTop (mkF m 18 #[.val (.ref a), .val (.ref b), .unset] [(.ref b)])) _
    refine XS.astoreN X4.here hx rfl (hb hby d2_18) rfl rfl (l' := #[.val (.ref a), .val (.ref b), .val (.ref b)]) rfl ?_
    exact kt)
  obtain ⟨T6, X6, e6, st6⟩ := getS2 X4 hx hZ hown (host := "") (Or.inl (hw _ (List.mem_of_getElem? (i := 26) rfl))) Via.refl e4 S_c (g := (mkF m 19 #[.val (.ref a), .val (.ref b), .val (.ref b)] [])) rfl (hb hby d2_19)
  have pre6s : ∀ tg, Steps p.tables e below (T6.setTop (mkF m 22 #[.val (.ref a), .val (.ref b), .val (.ref b)] [(.int cs)])) tg → G tg := fun tg kt => pre5 tg (st6 tg kt)
  have pre7 : ∀ tg, Steps p.tables e below (T6.setTop (mkF m 26 #[.val (.ref a), .val (.ref b), .val (.ref b)] [(.ref a)])) tg → G tg := fun tg kt => pre6s tg (by
    show Steps p.tables e below (T6.setTop (mkF m 22 #[.val (.ref a), .val (.ref b), .val (.ref b)] [(.int cs)])) _
    refine XS.ifNo X6.here hx rfl (hb hby d2_22) rfl ((if0 _ _).trans (feq hcs).1) ?_
    show Steps p.tables e below (T6.setTop (mkF m 25 #[.val (.ref a), .val (.ref b), .val (.ref b)] [])) _
    refine XS.aloadN X6.here hx rfl (hb hby d2_25) rfl rfl ?_
    exact kt)
  obtain ⟨T8, X8, e8, st8⟩ := getF X6 hx hZ hown (host := "") (Or.inl (hw _ (List.mem_of_getElem? (i := 27) rfl))) Via.refl e6 C_a (g := (mkF m 26 #[.val (.ref a), .val (.ref b), .val (.ref b)] [(.ref a)])) rfl rfl (hb hby d2_26)
  have pre8s : ∀ tg, Steps p.tables e below (T8.setTop (mkF m 29 #[.val (.ref a), .val (.ref b), .val (.ref b)] [(.int (0 : Int32))])) tg → G tg := fun tg kt => pre7 tg (st8 tg kt)
  have pre9 : ∀ tg, Steps p.tables e below (T8.setTop (mkF m 30 #[.val (.ref a), .val (.ref b), .val (.ref b)] [(.ref b), (.int (0 : Int32))])) tg → G tg := fun tg kt => pre8s tg (by
    show Steps p.tables e below (T8.setTop (mkF m 29 #[.val (.ref a), .val (.ref b), .val (.ref b)] [(.int (0 : Int32))])) _
    refine XS.aloadN X8.here hx rfl (hb hby d2_29) rfl rfl ?_
    exact kt)
  obtain ⟨T10, X10, e10, st10⟩ := getF X8 hx hZ hown (host := "") (Or.inl (hw _ (List.mem_of_getElem? (i := 27) rfl))) Via.refl e8 C_b (g := (mkF m 30 #[.val (.ref a), .val (.ref b), .val (.ref b)] [(.ref b), (.int (0 : Int32))])) rfl rfl (hb hby d2_30)
  have pre10s : ∀ tg, Steps p.tables e below (T10.setTop (mkF m 33 #[.val (.ref a), .val (.ref b), .val (.ref b)] [(.int (0 : Int32)), (.int (0 : Int32))])) tg → G tg := fun tg kt => pre9 tg (st10 tg kt)
  have pre11 : ∀ tg, Steps p.tables e below (T10.setTop (mkF m 37 #[.val (.ref a), .val (.ref b), .val (.ref b)] [(.ref a)])) tg → G tg := fun tg kt => pre10s tg (by
    show Steps p.tables e below (T10.setTop (mkF m 33 #[.val (.ref a), .val (.ref b), .val (.ref b)] [(.int (0 : Int32)), (.int (0 : Int32))])) _
    refine XS.icmpNo X10.here hx rfl (hb hby d2_33) rfl (teq (by decide : (0 : Int32) = (0 : Int32))).2 ?_
    show Steps p.tables e below (T10.setTop (mkF m 36 #[.val (.ref a), .val (.ref b), .val (.ref b)] [])) _
    refine XS.aloadN X10.here hx rfl (hb hby d2_36) rfl rfl ?_
    exact kt)
  obtain ⟨T12, X12, e12, st12⟩ := getF X10 hx hZ hown (host := "") (Or.inl (hw _ (List.mem_of_getElem? (i := 28) rfl))) Via.refl e10 F_a (g := (mkF m 37 #[.val (.ref a), .val (.ref b), .val (.ref b)] [(.ref a)])) rfl rfl (hb hby d2_37)
  have pre12s : ∀ tg, Steps p.tables e below (T12.setTop (mkF m 40 #[.val (.ref a), .val (.ref b), .val (.ref b)] [(.ref va)])) tg → G tg := fun tg kt => pre11 tg (st12 tg kt)
  have pre13 : ∀ tg, Steps p.tables e below (T12.setTop (mkF m 41 #[.val (.ref a), .val (.ref b), .val (.ref b)] [(.ref b), (.ref va)])) tg → G tg := fun tg kt => pre12s tg (by
    show Steps p.tables e below (T12.setTop (mkF m 40 #[.val (.ref a), .val (.ref b), .val (.ref b)] [(.ref va)])) _
    refine XS.aloadN X12.here hx rfl (hb hby d2_40) rfl rfl ?_
    exact kt)
  obtain ⟨T14, X14, e14, st14⟩ := getF X12 hx hZ hown (host := "") (Or.inl (hw _ (List.mem_of_getElem? (i := 28) rfl))) Via.refl e12 F_b (g := (mkF m 41 #[.val (.ref a), .val (.ref b), .val (.ref b)] [(.ref b), (.ref va)])) rfl rfl (hb hby d2_41)
  have pre14s : ∀ tg, Steps p.tables e below (T14.setTop (mkF m 44 #[.val (.ref a), .val (.ref b), .val (.ref b)] [(.ref vb), (.ref va)])) tg → G tg := fun tg kt => pre13 tg (st14 tg kt)
  obtain ⟨_, _, ⟨T15, L15, k15, n15⟩, -, X15, ⟨Lc15, hQ15, l15, y15, z15⟩, st15⟩ := Jvm.LawKit.callS X14 hx (y := (⟨"java/lang/StringLatin1", "equals", "([B[B)Z"⟩ : MethodName)) hown (mvT hZ (hw _ (List.mem_of_getElem? (i := 29) rfl))) (mvT hZ (hw _ (List.mem_of_getElem? (i := 30) rfl))) (mvT hZ (hw _ (List.mem_of_getElem? (i := 31) rfl))) (mvT hZ (hw _ (List.mem_of_getElem? (i := 32) rfl))) (by decide) (backOf (W := 0) (rm_ld l Z a0 hw [] va vb k1 k2 z1 z2 v1 v2 h0 n0 Z0 V_a V_b hz) hZ (hw _ (List.mem_of_getElem? (i := 32) rfl)) (hw _ (List.mem_of_getElem? (i := 31) rfl)) (by decide) (by decide)) (g := (mkF m 44 #[.val (.ref a), .val (.ref b), .val (.ref b)] [(.ref vb), (.ref va)])) rfl (by rw [hml]; rfl) (argsL := [(.ref va), (.ref vb)]) (rest := []) (lenOf pd_0 rfl) rfl (by show 2 * 0 + _ ≤ _; exact Nat.le_of_eq rfl) (hb hby d2_44) (fun _ _ => ⟨rfl, e14, (Nat.le_of_ble_eq_true rfl), (Nat.le_of_ble_eq_true rfl)⟩)
  dsimp only [Pt.U, Pt.locs, Pt.cells, Pt.slots] at X15 l15 y15 z15 st15 hQ15
  subst l15 y15 z15
  obtain ⟨rfl, N15q, e15⟩ := hQ15
  have N15 := Fr.app N0 N15q
  have pre15s : ∀ tg, Steps p.tables e below (T15.setTop (mkF m 47 #[.val (.ref a), .val (.ref b), .val (.ref b)] [(.int (0 : Int32))])) tg → G tg := fun tg kt => pre14s tg (st15 tg kt)
  obtain ⟨fs, hr, hrun, hended, hW, hsame⟩ := X15.leave (v := some (.int (0 : Int32))) (fun h => by rw [Bd.returns] at h; cases h)
  subst hG
  refine ⟨_, _, pre15s _ ?_, hrun, hended, _, _, rfl, ?_, ⟨_, rfl⟩, hW, hsame.mono (by decide) (by decide)⟩
  · skip
    show Steps p.tables e below (T15.setTop (mkF m 47 #[.val (.ref a), .val (.ref b), .val (.ref b)] [(.int (0 : Int32))])) _
    refine XS.ifYes X15.here hx rfl (pc0 := 47) (pc' := 54) rfl (hb hby d2_47) rfl ((if0 _ _).trans (teq (by decide : (0 : Int32) = (0 : Int32))).1) (by decide) (by decide) ?_
    show Steps p.tables e below (T15.setTop (mkF m 54 #[.val (.ref a), .val (.ref b), .val (.ref b)] [])) _
    refine XS.iconst X15.here hx rfl (hb hby d2_54) ?_
    show Steps p.tables e below (T15.setTop (mkF m 55 #[.val (.ref a), .val (.ref b), .val (.ref b)] [(.int (0 : Int32))])) _
    exact retN X15 hx (t := .boolean) Bd.returns (by simp) (hb hby d2_55) hr
  · show Q_rm_eld Z a b va vb k1 k2 cs z1 z2 v1 v2 h0 n0 _ T15.heap _
    rw [e15]
    exact ⟨rfl, N15, rfl⟩
def Q_rm_efd (Z : State) (a b va vb : Addr) (k1 k2 : ClassId) (cs : Int32) (x0 x1 x2 x3 x4 x5 x6 y0 y1 y2 y3 y4 y5 y6 : Int32) (h0 : Heap) (n0 : Nat) (v : Option Value) (h : Heap) (L : List Loc) : Prop := v = some (.int (0 : Int32)) ∧ Fr n0 L ∧ h = h0
set_option maxRecDepth 65536 in
set_option maxHeartbeats 40000000 in
theorem rm_efd (l : Launch) (Z : State) (a0 : Array Value) (hw : ∀ d ∈ tables_1, d.before a0 Z = true) (ws : List Jvm.Cond) (a b va vb : Addr) (k1 k2 : ClassId) (cs : Int32) (x0 x1 x2 x3 x4 x5 x6 y0 y1 y2 y3 y4 y5 y6 : Int32) (h0 : Heap) (n0 : Nat) (Z0 : n0 ≤ h0.size) (S_c : Sta Z h0 "java/lang/String" "COMPACT_STRINGS" "Z" (.int cs)) (hcs : ¬ cs = (0 : Int32)) (E_b : Exa Z h0 b "java/lang/String") (C_a : Fld Z h0 a "java/lang/String" "coder" "B" (.int 0)) (C_b : Fld Z h0 b "java/lang/String" "coder" "B" (.int 0)) (F_a : Fld Z h0 a "java/lang/String" "value" "[B" (.ref va)) (F_b : Fld Z h0 b "java/lang/String" "value" "[B" (.ref vb)) (V_a : Arv Z h0 va k1 .byte (7 : Int32) [(.int x0), (.int x1), (.int x2), (.int x3), (.int x4), (.int x5), (.int x6)] (.int (0 : Int32))) (V_b : Arv Z h0 vb k2 .byte (7 : Int32) [(.int y0), (.int y1), (.int y2), (.int y3), (.int y4), (.int y5), (.int y6)] (.int (0 : Int32))) (hxy : ¬ x0 = y0) (ne : a ≠ b) :
    MetFree l (⟨"java/lang/String", "equals", "(Ljava/lang/Object;)Z"⟩ : MethodName) (head1 (Jvm.Cond.code (⟨"java/lang/String", "equals", "(Ljava/lang/Object;)Z"⟩ : MethodName) jdk_42_method_66_code 3 (some .boolean) :: ws) ({ frames := 1, cells := 0, slots := 0, locals := 30 } : Room)) (fun argv U => argv = #[(.ref a), (.ref b)] ∧ Z.Warmed39 U.vm ∧ U.heap = h0) (fun _ _ _ _ _ => True) (fun _ U o U' => ∃ v L, o = .returned v ∧ Q_rm_efd Z a b va vb k1 k2 cs x0 x1 x2 x3 x4 x5 x6 y0 y1 y2 y3 y4 y5 y6 h0 n0 v U'.heap L ∧ FrameEnd U o U' L ({ frames := 1, cells := 0, slots := 0, locals := 30 } : Room).cells ({ frames := 1, cells := 0, slots := 0, locals := 30 } : Room).slots) := by
  refine MetFree.of_bodySF (plainFor_of_name pn_2) hisR ?_
  intro p e s m args below meth c s₁ Bd hml0 hP hK
  obtain ⟨rfl, hZ, hh⟩ := hP
  have hx := Bd.exec
  have hby := Bd.bytes
  have hml : c.maxLocals = 3 := hml0
  have hown : s.vm.findClass "java/lang/String" = some m.cls := findClass_of_methodNamed Bd.named
  have hnm := (name_of_methodNamed Bd.named Bd.method).1
  have X0 : Stand p l e ({ frames := 1, cells := 0, slots := 0, locals := 30 } : Room) s m #[(.ref a), (.ref b)] below meth c s₁ [] 0 0 := Stand.of_body Bd
  have e0 : s₁.heap = h0 := by rw [← hh, Bd.state]; rfl
  have N0 := Fr.nil n0
  obtain ⟨G, hG⟩ : ∃ G : State → Prop, G = fun tg => Steps p.tables e below (s₁.setTop (entryFrame m #[(.ref a), (.ref b)] 3)) tg := ⟨_, rfl⟩
  have pre0 : ∀ tg, Steps p.tables e below (s₁.setTop (mkF m 0 #[.val (.ref a), .val (.ref b), .unset] [])) tg → G tg := fun tg kt => by rw [hG]; exact castTop (ef_2_R_R m a b) kt
  have pre1 : ∀ tg, Steps p.tables e below (s₁.setTop (mkF m 8 #[.val (.ref a), .val (.ref b), .unset] [(.ref b)])) tg → G tg := fun tg kt => pre0 tg (by
    show Steps p.tables e below (s₁.setTop (mkF m 0 #[.val (.ref a), .val (.ref b), .unset] [])) _
    refine XS.aloadN X0.here hx rfl (hb hby d2_0) rfl rfl ?_
    show Steps p.tables e below (s₁.setTop (mkF m 1 #[.val (.ref a), .val (.ref b), .unset] [(.ref a)])) _
    refine XS.aloadN X0.here hx rfl (hb hby d2_1) rfl rfl ?_
    show Steps p.tables e below (s₁.setTop (mkF m 2 #[.val (.ref a), .val (.ref b), .unset] [(.ref b), (.ref a)])) _
    refine Jvm.RoadKit.acmp (g := (mkF m 2 #[.val (.ref a), .val (.ref b), .unset] [(.ref b), (.ref a)])) X0 hx rfl rfl rfl (pc0 := 2) (pc' := 7) (same := false) rfl (hb hby d2_2) rfl (decide_eq_false (fun q => ne (Value.ref.inj q))) (by decide) (by decide) ?_
    show Steps p.tables e below (s₁.setTop (mkF m 7 #[.val (.ref a), .val (.ref b), .unset] [])) _
    refine XS.aloadN X0.here hx rfl (hb hby d2_7) rfl rfl ?_
    exact kt)
  obtain ⟨T2, X2, e2, st2⟩ := instY X0 hx hZ hown (hw _ (List.mem_of_getElem? (i := 24) rfl)) e0 (Ins.self E_b) (g := (mkF m 8 #[.val (.ref a), .val (.ref b), .unset] [(.ref b)])) rfl rfl (hb hby d2_8)
  have pre2s : ∀ tg, Steps p.tables e below (T2.setTop (mkF m 11 #[.val (.ref a), .val (.ref b), .unset] [(.int (1 : Int32))])) tg → G tg := fun tg kt => pre1 tg (st2 tg kt)
  have pre3 : ∀ tg, Steps p.tables e below (T2.setTop (mkF m 15 #[.val (.ref a), .val (.ref b), .unset] [(.ref b)])) tg → G tg := fun tg kt => pre2s tg (by
    show Steps p.tables e below (T2.setTop (mkF m 11 #[.val (.ref a), .val (.ref b), .unset] [(.int (1 : Int32))])) _
    refine XS.ifNo X2.here hx rfl (hb hby d2_11) rfl ((if0 _ _).trans (feq (by decide : ¬ ((1 : Int32) = (0 : Int32)))).1) ?_
    show Steps p.tables e below (T2.setTop (mkF m 14 #[.val (.ref a), .val (.ref b), .unset] [])) _
    refine XS.aloadN X2.here hx rfl (hb hby d2_14) rfl rfl ?_
    exact kt)
  obtain ⟨T4, X4, e4, st4⟩ := castY X2 hx hZ hown (hw _ (List.mem_of_getElem? (i := 24) rfl)) e2 (Ins.self E_b) (g := (mkF m 15 #[.val (.ref a), .val (.ref b), .unset] [(.ref b)])) rfl rfl (hb hby d2_15)
  have pre4s : ∀ tg, Steps p.tables e below (T4.setTop (mkF m 18 #[.val (.ref a), .val (.ref b), .unset] [(.ref b)])) tg → G tg := fun tg kt => pre3 tg (st4 tg kt)
  have pre5 : ∀ tg, Steps p.tables e below (T4.setTop (mkF m 19 #[.val (.ref a), .val (.ref b), .val (.ref b)] [])) tg → G tg := fun tg kt => pre4s tg (by
    show Steps p.tables e below (T4.setTop (mkF m 18 #[.val (.ref a), .val (.ref b), .unset] [(.ref b)])) _
    refine XS.astoreN X4.here hx rfl (hb hby d2_18) rfl rfl (l' := #[.val (.ref a), .val (.ref b), .val (.ref b)]) rfl ?_
    exact kt)
  obtain ⟨T6, X6, e6, st6⟩ := getS2 X4 hx hZ hown (host := "") (Or.inl (hw _ (List.mem_of_getElem? (i := 26) rfl))) Via.refl e4 S_c (g := (mkF m 19 #[.val (.ref a), .val (.ref b), .val (.ref b)] [])) rfl (hb hby d2_19)
  have pre6s : ∀ tg, Steps p.tables e below (T6.setTop (mkF m 22 #[.val (.ref a), .val (.ref b), .val (.ref b)] [(.int cs)])) tg → G tg := fun tg kt => pre5 tg (st6 tg kt)
  have pre7 : ∀ tg, Steps p.tables e below (T6.setTop (mkF m 26 #[.val (.ref a), .val (.ref b), .val (.ref b)] [(.ref a)])) tg → G tg := fun tg kt => pre6s tg (by
    show Steps p.tables e below (T6.setTop (mkF m 22 #[.val (.ref a), .val (.ref b), .val (.ref b)] [(.int cs)])) _
    refine XS.ifNo X6.here hx rfl (hb hby d2_22) rfl ((if0 _ _).trans (feq hcs).1) ?_
    show Steps p.tables e below (T6.setTop (mkF m 25 #[.val (.ref a), .val (.ref b), .val (.ref b)] [])) _
    refine XS.aloadN X6.here hx rfl (hb hby d2_25) rfl rfl ?_
    exact kt)
  obtain ⟨T8, X8, e8, st8⟩ := getF X6 hx hZ hown (host := "") (Or.inl (hw _ (List.mem_of_getElem? (i := 27) rfl))) Via.refl e6 C_a (g := (mkF m 26 #[.val (.ref a), .val (.ref b), .val (.ref b)] [(.ref a)])) rfl rfl (hb hby d2_26)
  have pre8s : ∀ tg, Steps p.tables e below (T8.setTop (mkF m 29 #[.val (.ref a), .val (.ref b), .val (.ref b)] [(.int (0 : Int32))])) tg → G tg := fun tg kt => pre7 tg (st8 tg kt)
  have pre9 : ∀ tg, Steps p.tables e below (T8.setTop (mkF m 30 #[.val (.ref a), .val (.ref b), .val (.ref b)] [(.ref b), (.int (0 : Int32))])) tg → G tg := fun tg kt => pre8s tg (by
    show Steps p.tables e below (T8.setTop (mkF m 29 #[.val (.ref a), .val (.ref b), .val (.ref b)] [(.int (0 : Int32))])) _
    refine XS.aloadN X8.here hx rfl (hb hby d2_29) rfl rfl ?_
    exact kt)
  obtain ⟨T10, X10, e10, st10⟩ := getF X8 hx hZ hown (host := "") (Or.inl (hw _ (List.mem_of_getElem? (i := 27) rfl))) Via.refl e8 C_b (g := (mkF m 30 #[.val (.ref a), .val (.ref b), .val (.ref b)] [(.ref b), (.int (0 : Int32))])) rfl rfl (hb hby d2_30)
  have pre10s : ∀ tg, Steps p.tables e below (T10.setTop (mkF m 33 #[.val (.ref a), .val (.ref b), .val (.ref b)] [(.int (0 : Int32)), (.int (0 : Int32))])) tg → G tg := fun tg kt => pre9 tg (st10 tg kt)
  have pre11 : ∀ tg, Steps p.tables e below (T10.setTop (mkF m 37 #[.val (.ref a), .val (.ref b), .val (.ref b)] [(.ref a)])) tg → G tg := fun tg kt => pre10s tg (by
    show Steps p.tables e below (T10.setTop (mkF m 33 #[.val (.ref a), .val (.ref b), .val (.ref b)] [(.int (0 : Int32)), (.int (0 : Int32))])) _
    refine XS.icmpNo X10.here hx rfl (hb hby d2_33) rfl (teq (by decide : (0 : Int32) = (0 : Int32))).2 ?_
    show Steps p.tables e below (T10.setTop (mkF m 36 #[.val (.ref a), .val (.ref b), .val (.ref b)] [])) _
    refine XS.aloadN X10.here hx rfl (hb hby d2_36) rfl rfl ?_
    exact kt)
  obtain ⟨T12, X12, e12, st12⟩ := getF X10 hx hZ hown (host := "") (Or.inl (hw _ (List.mem_of_getElem? (i := 28) rfl))) Via.refl e10 F_a (g := (mkF m 37 #[.val (.ref a), .val (.ref b), .val (.ref b)] [(.ref a)])) rfl rfl (hb hby d2_37)
  have pre12s : ∀ tg, Steps p.tables e below (T12.setTop (mkF m 40 #[.val (.ref a), .val (.ref b), .val (.ref b)] [(.ref va)])) tg → G tg := fun tg kt => pre11 tg (st12 tg kt)
  have pre13 : ∀ tg, Steps p.tables e below (T12.setTop (mkF m 41 #[.val (.ref a), .val (.ref b), .val (.ref b)] [(.ref b), (.ref va)])) tg → G tg := fun tg kt => pre12s tg (by
    show Steps p.tables e below (T12.setTop (mkF m 40 #[.val (.ref a), .val (.ref b), .val (.ref b)] [(.ref va)])) _
    refine XS.aloadN X12.here hx rfl (hb hby d2_40) rfl rfl ?_
    exact kt)
  obtain ⟨T14, X14, e14, st14⟩ := getF X12 hx hZ hown (host := "") (Or.inl (hw _ (List.mem_of_getElem? (i := 28) rfl))) Via.refl e12 F_b (g := (mkF m 41 #[.val (.ref a), .val (.ref b), .val (.ref b)] [(.ref b), (.ref va)])) rfl rfl (hb hby d2_41)
  have pre14s : ∀ tg, Steps p.tables e below (T14.setTop (mkF m 44 #[.val (.ref a), .val (.ref b), .val (.ref b)] [(.ref vb), (.ref va)])) tg → G tg := fun tg kt => pre13 tg (st14 tg kt)
  obtain ⟨_, _, ⟨T15, L15, k15, n15⟩, -, X15, ⟨Lc15, hQ15, l15, y15, z15⟩, st15⟩ := Jvm.LawKit.callS X14 hx (y := (⟨"java/lang/StringLatin1", "equals", "([B[B)Z"⟩ : MethodName)) hown (mvT hZ (hw _ (List.mem_of_getElem? (i := 29) rfl))) (mvT hZ (hw _ (List.mem_of_getElem? (i := 30) rfl))) (mvT hZ (hw _ (List.mem_of_getElem? (i := 31) rfl))) (mvT hZ (hw _ (List.mem_of_getElem? (i := 32) rfl))) (by decide) (backOf (W := 0) (rm_fd l Z a0 hw [] va vb k1 k2 x0 x1 x2 x3 x4 x5 x6 y0 y1 y2 y3 y4 y5 y6 h0 n0 Z0 V_a V_b hxy) hZ (hw _ (List.mem_of_getElem? (i := 32) rfl)) (hw _ (List.mem_of_getElem? (i := 31) rfl)) (by decide) (by decide)) (g := (mkF m 44 #[.val (.ref a), .val (.ref b), .val (.ref b)] [(.ref vb), (.ref va)])) rfl (by rw [hml]; rfl) (argsL := [(.ref va), (.ref vb)]) (rest := []) (lenOf pd_0 rfl) rfl (by show 2 * 0 + _ ≤ _; exact Nat.le_of_eq rfl) (hb hby d2_44) (fun _ _ => ⟨rfl, e14, (Nat.le_of_ble_eq_true rfl), (Nat.le_of_ble_eq_true rfl)⟩)
  dsimp only [Pt.U, Pt.locs, Pt.cells, Pt.slots] at X15 l15 y15 z15 st15 hQ15
  subst l15 y15 z15
  obtain ⟨rfl, N15q, e15⟩ := hQ15
  have N15 := Fr.app N0 N15q
  have pre15s : ∀ tg, Steps p.tables e below (T15.setTop (mkF m 47 #[.val (.ref a), .val (.ref b), .val (.ref b)] [(.int (0 : Int32))])) tg → G tg := fun tg kt => pre14s tg (st15 tg kt)
  obtain ⟨fs, hr, hrun, hended, hW, hsame⟩ := X15.leave (v := some (.int (0 : Int32))) (fun h => by rw [Bd.returns] at h; cases h)
  subst hG
  refine ⟨_, _, pre15s _ ?_, hrun, hended, _, _, rfl, ?_, ⟨_, rfl⟩, hW, hsame.mono (by decide) (by decide)⟩
  · skip
    show Steps p.tables e below (T15.setTop (mkF m 47 #[.val (.ref a), .val (.ref b), .val (.ref b)] [(.int (0 : Int32))])) _
    refine XS.ifYes X15.here hx rfl (pc0 := 47) (pc' := 54) rfl (hb hby d2_47) rfl ((if0 _ _).trans (teq (by decide : (0 : Int32) = (0 : Int32))).1) (by decide) (by decide) ?_
    show Steps p.tables e below (T15.setTop (mkF m 54 #[.val (.ref a), .val (.ref b), .val (.ref b)] [])) _
    refine XS.iconst X15.here hx rfl (hb hby d2_54) ?_
    show Steps p.tables e below (T15.setTop (mkF m 55 #[.val (.ref a), .val (.ref b), .val (.ref b)] [(.int (0 : Int32))])) _
    exact retN X15 hx (t := .boolean) Bd.returns (by simp) (hb hby d2_55) hr
  · show Q_rm_efd Z a b va vb k1 k2 cs x0 x1 x2 x3 x4 x5 x6 y0 y1 y2 y3 y4 y5 y6 h0 n0 _ T15.heap _
    rw [e15]
    exact ⟨rfl, N15, rfl⟩
theorem d2_5 : decode jdk_42_method_66_code 5 = .ok (.iconst 1, 1) := by decide +kernel
theorem d2_6 : decode jdk_42_method_66_code 6 = .ok (.ireturn, 1) := by decide +kernel
theorem d2_50 : decode jdk_42_method_66_code 50 = .ok (.iconst 1, 1) := by decide +kernel
theorem d2_51 : decode jdk_42_method_66_code 51 = .ok (.goto 4, 3) := by decide +kernel
def Q_rm_es5 (Z : State) (a b va vb : Addr) (k1 k2 : ClassId) (cs : Int32) (x0 x1 x2 x3 x4 : Int32) (h0 : Heap) (n0 : Nat) (v : Option Value) (h : Heap) (L : List Loc) : Prop := v = some (.int (1 : Int32)) ∧ Fr n0 L ∧ h = h0
set_option maxRecDepth 65536 in
set_option maxHeartbeats 40000000 in
theorem rm_es5 (l : Launch) (Z : State) (a0 : Array Value) (hw : ∀ d ∈ tables_1, d.before a0 Z = true) (ws : List Jvm.Cond) (a b va vb : Addr) (k1 k2 : ClassId) (cs : Int32) (x0 x1 x2 x3 x4 : Int32) (h0 : Heap) (n0 : Nat) (Z0 : n0 ≤ h0.size) (S_c : Sta Z h0 "java/lang/String" "COMPACT_STRINGS" "Z" (.int cs)) (hcs : ¬ cs = (0 : Int32)) (E_b : Exa Z h0 b "java/lang/String") (C_a : Fld Z h0 a "java/lang/String" "coder" "B" (.int 0)) (C_b : Fld Z h0 b "java/lang/String" "coder" "B" (.int 0)) (F_a : Fld Z h0 a "java/lang/String" "value" "[B" (.ref va)) (F_b : Fld Z h0 b "java/lang/String" "value" "[B" (.ref vb)) (V_a : Arv Z h0 va k1 .byte (5 : Int32) [(.int x0), (.int x1), (.int x2), (.int x3), (.int x4)] (.int (0 : Int32))) (V_b : Arv Z h0 vb k2 .byte (5 : Int32) [(.int x0), (.int x1), (.int x2), (.int x3), (.int x4)] (.int (0 : Int32))) :
    MetFree l (⟨"java/lang/String", "equals", "(Ljava/lang/Object;)Z"⟩ : MethodName) (head1 (Jvm.Cond.code (⟨"java/lang/String", "equals", "(Ljava/lang/Object;)Z"⟩ : MethodName) jdk_42_method_66_code 3 (some .boolean) :: ws) ({ frames := 1, cells := 0, slots := 0, locals := 30 } : Room)) (fun argv U => argv = #[(.ref a), (.ref b)] ∧ Z.Warmed39 U.vm ∧ U.heap = h0) (fun _ _ _ _ _ => True) (fun _ U o U' => ∃ v L, o = .returned v ∧ Q_rm_es5 Z a b va vb k1 k2 cs x0 x1 x2 x3 x4 h0 n0 v U'.heap L ∧ FrameEnd U o U' L ({ frames := 1, cells := 0, slots := 0, locals := 30 } : Room).cells ({ frames := 1, cells := 0, slots := 0, locals := 30 } : Room).slots) := by
  refine MetFree.of_bodySF (plainFor_of_name pn_2) hisR ?_
  intro p e s m args below meth c s₁ Bd hml0 hP hK
  obtain ⟨rfl, hZ, hh⟩ := hP
  have hx := Bd.exec
  have hby := Bd.bytes
  have hml : c.maxLocals = 3 := hml0
  have hown : s.vm.findClass "java/lang/String" = some m.cls := findClass_of_methodNamed Bd.named
  have hnm := (name_of_methodNamed Bd.named Bd.method).1
  have X0 : Stand p l e ({ frames := 1, cells := 0, slots := 0, locals := 30 } : Room) s m #[(.ref a), (.ref b)] below meth c s₁ [] 0 0 := Stand.of_body Bd
  have e0 : s₁.heap = h0 := by rw [← hh, Bd.state]; rfl
  have N0 := Fr.nil n0
  obtain ⟨G, hG⟩ : ∃ G : State → Prop, G = fun tg => Steps p.tables e below (s₁.setTop (entryFrame m #[(.ref a), (.ref b)] 3)) tg := ⟨_, rfl⟩
  have pre0 : ∀ tg, Steps p.tables e below (s₁.setTop (mkF m 0 #[.val (.ref a), .val (.ref b), .unset] [])) tg → G tg := fun tg kt => by rw [hG]; exact castTop (ef_2_R_R m a b) kt
  have pre1 : ∀ tg, Steps p.tables e below (s₁.setTop (mkF m 2 #[.val (.ref a), .val (.ref b), .unset] [(.ref b), (.ref a)])) tg → G tg := fun tg kt => pre0 tg (by
    show Steps p.tables e below (s₁.setTop (mkF m 0 #[.val (.ref a), .val (.ref b), .unset] [])) _
    refine XS.aloadN X0.here hx rfl (hb hby d2_0) rfl rfl ?_
    show Steps p.tables e below (s₁.setTop (mkF m 1 #[.val (.ref a), .val (.ref b), .unset] [(.ref a)])) _
    refine XS.aloadN X0.here hx rfl (hb hby d2_1) rfl rfl ?_
    exact kt)
  by_cases hab : a = b
  · skip
    obtain ⟨fs, hr, hrun, hended, hW, hsame⟩ := X0.leave (v := some (.int (1 : Int32))) (fun h => by rw [Bd.returns] at h; cases h)
    subst hG
    refine ⟨_, _, pre1 _ ?_, hrun, hended, _, _, rfl, ?_, ⟨_, rfl⟩, hW, hsame.mono (by decide) (by decide)⟩
    · skip
      show Steps p.tables e below (s₁.setTop (mkF m 2 #[.val (.ref a), .val (.ref b), .unset] [(.ref b), (.ref a)])) _
      refine Jvm.RoadKit.acmp (g := (mkF m 2 #[.val (.ref a), .val (.ref b), .unset] [(.ref b), (.ref a)])) X0 hx rfl rfl rfl (pc0 := 2) (pc' := 5) (same := true) rfl (hb hby d2_2) rfl (decide_eq_true (congrArg Value.ref hab)) (by decide) (by decide) ?_
      show Steps p.tables e below (s₁.setTop (mkF m 5 #[.val (.ref a), .val (.ref b), .unset] [])) _
      refine XS.iconst X0.here hx rfl (hb hby d2_5) ?_
      show Steps p.tables e below (s₁.setTop (mkF m 6 #[.val (.ref a), .val (.ref b), .unset] [(.int (1 : Int32))])) _
      exact retN X0 hx (t := .boolean) Bd.returns (by simp) (hb hby d2_6) hr
    · show Q_rm_es5 Z a b va vb k1 k2 cs x0 x1 x2 x3 x4 h0 n0 _ s₁.heap _
      rw [e0]
      exact ⟨rfl, N0, rfl⟩
  · skip
    have pre2 : ∀ tg, Steps p.tables e below (s₁.setTop (mkF m 8 #[.val (.ref a), .val (.ref b), .unset] [(.ref b)])) tg → G tg := fun tg kt => pre1 tg (by
      show Steps p.tables e below (s₁.setTop (mkF m 2 #[.val (.ref a), .val (.ref b), .unset] [(.ref b), (.ref a)])) _
      refine Jvm.RoadKit.acmp (g := (mkF m 2 #[.val (.ref a), .val (.ref b), .unset] [(.ref b), (.ref a)])) X0 hx rfl rfl rfl (pc0 := 2) (pc' := 7) (same := false) rfl (hb hby d2_2) rfl (decide_eq_false (fun q => hab (Value.ref.inj q))) (by decide) (by decide) ?_
      show Steps p.tables e below (s₁.setTop (mkF m 7 #[.val (.ref a), .val (.ref b), .unset] [])) _
      refine XS.aloadN X0.here hx rfl (hb hby d2_7) rfl rfl ?_
      exact kt)
    obtain ⟨T3, X3, e3, st3⟩ := instY X0 hx hZ hown (hw _ (List.mem_of_getElem? (i := 24) rfl)) e0 (Ins.self E_b) (g := (mkF m 8 #[.val (.ref a), .val (.ref b), .unset] [(.ref b)])) rfl rfl (hb hby d2_8)
    have pre3s : ∀ tg, Steps p.tables e below (T3.setTop (mkF m 11 #[.val (.ref a), .val (.ref b), .unset] [(.int (1 : Int32))])) tg → G tg := fun tg kt => pre2 tg (st3 tg kt)
    have pre4 : ∀ tg, Steps p.tables e below (T3.setTop (mkF m 15 #[.val (.ref a), .val (.ref b), .unset] [(.ref b)])) tg → G tg := fun tg kt => pre3s tg (by
      show Steps p.tables e below (T3.setTop (mkF m 11 #[.val (.ref a), .val (.ref b), .unset] [(.int (1 : Int32))])) _
      refine XS.ifNo X3.here hx rfl (hb hby d2_11) rfl ((if0 _ _).trans (feq (by decide : ¬ ((1 : Int32) = (0 : Int32)))).1) ?_
      show Steps p.tables e below (T3.setTop (mkF m 14 #[.val (.ref a), .val (.ref b), .unset] [])) _
      refine XS.aloadN X3.here hx rfl (hb hby d2_14) rfl rfl ?_
      exact kt)
    obtain ⟨T5, X5, e5, st5⟩ := castY X3 hx hZ hown (hw _ (List.mem_of_getElem? (i := 24) rfl)) e3 (Ins.self E_b) (g := (mkF m 15 #[.val (.ref a), .val (.ref b), .unset] [(.ref b)])) rfl rfl (hb hby d2_15)
    have pre5s : ∀ tg, Steps p.tables e below (T5.setTop (mkF m 18 #[.val (.ref a), .val (.ref b), .unset] [(.ref b)])) tg → G tg := fun tg kt => pre4 tg (st5 tg kt)
    have pre6 : ∀ tg, Steps p.tables e below (T5.setTop (mkF m 19 #[.val (.ref a), .val (.ref b), .val (.ref b)] [])) tg → G tg := fun tg kt => pre5s tg (by
      show Steps p.tables e below (T5.setTop (mkF m 18 #[.val (.ref a), .val (.ref b), .unset] [(.ref b)])) _
      refine XS.astoreN X5.here hx rfl (hb hby d2_18) rfl rfl (l' := #[.val (.ref a), .val (.ref b), .val (.ref b)]) rfl ?_
      exact kt)
    obtain ⟨T7, X7, e7, st7⟩ := getS2 X5 hx hZ hown (host := "") (Or.inl (hw _ (List.mem_of_getElem? (i := 26) rfl))) Via.refl e5 S_c (g := (mkF m 19 #[.val (.ref a), .val (.ref b), .val (.ref b)] [])) rfl (hb hby d2_19)
    have pre7s : ∀ tg, Steps p.tables e below (T7.setTop (mkF m 22 #[.val (.ref a), .val (.ref b), .val (.ref b)] [(.int cs)])) tg → G tg := fun tg kt => pre6 tg (st7 tg kt)
    have pre8 : ∀ tg, Steps p.tables e below (T7.setTop (mkF m 26 #[.val (.ref a), .val (.ref b), .val (.ref b)] [(.ref a)])) tg → G tg := fun tg kt => pre7s tg (by
      show Steps p.tables e below (T7.setTop (mkF m 22 #[.val (.ref a), .val (.ref b), .val (.ref b)] [(.int cs)])) _
      refine XS.ifNo X7.here hx rfl (hb hby d2_22) rfl ((if0 _ _).trans (feq hcs).1) ?_
      show Steps p.tables e below (T7.setTop (mkF m 25 #[.val (.ref a), .val (.ref b), .val (.ref b)] [])) _
      refine XS.aloadN X7.here hx rfl (hb hby d2_25) rfl rfl ?_
      exact kt)
    obtain ⟨T9, X9, e9, st9⟩ := getF X7 hx hZ hown (host := "") (Or.inl (hw _ (List.mem_of_getElem? (i := 27) rfl))) Via.refl e7 C_a (g := (mkF m 26 #[.val (.ref a), .val (.ref b), .val (.ref b)] [(.ref a)])) rfl rfl (hb hby d2_26)
    have pre9s : ∀ tg, Steps p.tables e below (T9.setTop (mkF m 29 #[.val (.ref a), .val (.ref b), .val (.ref b)] [(.int (0 : Int32))])) tg → G tg := fun tg kt => pre8 tg (st9 tg kt)
    have pre10 : ∀ tg, Steps p.tables e below (T9.setTop (mkF m 30 #[.val (.ref a), .val (.ref b), .val (.ref b)] [(.ref b), (.int (0 : Int32))])) tg → G tg := fun tg kt => pre9s tg (by
      show Steps p.tables e below (T9.setTop (mkF m 29 #[.val (.ref a), .val (.ref b), .val (.ref b)] [(.int (0 : Int32))])) _
      refine XS.aloadN X9.here hx rfl (hb hby d2_29) rfl rfl ?_
      exact kt)
    obtain ⟨T11, X11, e11, st11⟩ := getF X9 hx hZ hown (host := "") (Or.inl (hw _ (List.mem_of_getElem? (i := 27) rfl))) Via.refl e9 C_b (g := (mkF m 30 #[.val (.ref a), .val (.ref b), .val (.ref b)] [(.ref b), (.int (0 : Int32))])) rfl rfl (hb hby d2_30)
    have pre11s : ∀ tg, Steps p.tables e below (T11.setTop (mkF m 33 #[.val (.ref a), .val (.ref b), .val (.ref b)] [(.int (0 : Int32)), (.int (0 : Int32))])) tg → G tg := fun tg kt => pre10 tg (st11 tg kt)
    have pre12 : ∀ tg, Steps p.tables e below (T11.setTop (mkF m 37 #[.val (.ref a), .val (.ref b), .val (.ref b)] [(.ref a)])) tg → G tg := fun tg kt => pre11s tg (by
      show Steps p.tables e below (T11.setTop (mkF m 33 #[.val (.ref a), .val (.ref b), .val (.ref b)] [(.int (0 : Int32)), (.int (0 : Int32))])) _
      refine XS.icmpNo X11.here hx rfl (hb hby d2_33) rfl (teq (by decide : (0 : Int32) = (0 : Int32))).2 ?_
      show Steps p.tables e below (T11.setTop (mkF m 36 #[.val (.ref a), .val (.ref b), .val (.ref b)] [])) _
      refine XS.aloadN X11.here hx rfl (hb hby d2_36) rfl rfl ?_
      exact kt)
    obtain ⟨T13, X13, e13, st13⟩ := getF X11 hx hZ hown (host := "") (Or.inl (hw _ (List.mem_of_getElem? (i := 28) rfl))) Via.refl e11 F_a (g := (mkF m 37 #[.val (.ref a), .val (.ref b), .val (.ref b)] [(.ref a)])) rfl rfl (hb hby d2_37)
    have pre13s : ∀ tg, Steps p.tables e below (T13.setTop (mkF m 40 #[.val (.ref a), .val (.ref b), .val (.ref b)] [(.ref va)])) tg → G tg := fun tg kt => pre12 tg (st13 tg kt)
    have pre14 : ∀ tg, Steps p.tables e below (T13.setTop (mkF m 41 #[.val (.ref a), .val (.ref b), .val (.ref b)] [(.ref b), (.ref va)])) tg → G tg := fun tg kt => pre13s tg (by
      show Steps p.tables e below (T13.setTop (mkF m 40 #[.val (.ref a), .val (.ref b), .val (.ref b)] [(.ref va)])) _
      refine XS.aloadN X13.here hx rfl (hb hby d2_40) rfl rfl ?_
      exact kt)
    obtain ⟨T15, X15, e15, st15⟩ := getF X13 hx hZ hown (host := "") (Or.inl (hw _ (List.mem_of_getElem? (i := 28) rfl))) Via.refl e13 F_b (g := (mkF m 41 #[.val (.ref a), .val (.ref b), .val (.ref b)] [(.ref b), (.ref va)])) rfl rfl (hb hby d2_41)
    have pre15s : ∀ tg, Steps p.tables e below (T15.setTop (mkF m 44 #[.val (.ref a), .val (.ref b), .val (.ref b)] [(.ref vb), (.ref va)])) tg → G tg := fun tg kt => pre14 tg (st15 tg kt)
    obtain ⟨_, _, ⟨T16, L16, k16, n16⟩, -, X16, ⟨Lc16, hQ16, l16, y16, z16⟩, st16⟩ := Jvm.LawKit.callS X15 hx (y := (⟨"java/lang/StringLatin1", "equals", "([B[B)Z"⟩ : MethodName)) hown (mvT hZ (hw _ (List.mem_of_getElem? (i := 29) rfl))) (mvT hZ (hw _ (List.mem_of_getElem? (i := 30) rfl))) (mvT hZ (hw _ (List.mem_of_getElem? (i := 31) rfl))) (mvT hZ (hw _ (List.mem_of_getElem? (i := 32) rfl))) (by decide) (backOf (W := 0) (rm_s5 l Z a0 hw [] va vb k1 k2 x0 x1 x2 x3 x4 h0 n0 Z0 V_a V_b ) hZ (hw _ (List.mem_of_getElem? (i := 32) rfl)) (hw _ (List.mem_of_getElem? (i := 31) rfl)) (by decide) (by decide)) (g := (mkF m 44 #[.val (.ref a), .val (.ref b), .val (.ref b)] [(.ref vb), (.ref va)])) rfl (by rw [hml]; rfl) (argsL := [(.ref va), (.ref vb)]) (rest := []) (lenOf pd_0 rfl) rfl (by show 2 * 0 + _ ≤ _; exact Nat.le_of_eq rfl) (hb hby d2_44) (fun _ _ => ⟨rfl, e15, (Nat.le_of_ble_eq_true rfl), (Nat.le_of_ble_eq_true rfl)⟩)
    dsimp only [Pt.U, Pt.locs, Pt.cells, Pt.slots] at X16 l16 y16 z16 st16 hQ16
    subst l16 y16 z16
    obtain ⟨rfl, N16q, e16⟩ := hQ16
    have N16 := Fr.app N0 N16q
    have pre16s : ∀ tg, Steps p.tables e below (T16.setTop (mkF m 47 #[.val (.ref a), .val (.ref b), .val (.ref b)] [(.int (1 : Int32))])) tg → G tg := fun tg kt => pre15s tg (st16 tg kt)
    obtain ⟨fs, hr, hrun, hended, hW, hsame⟩ := X16.leave (v := some (.int (1 : Int32))) (fun h => by rw [Bd.returns] at h; cases h)
    subst hG
    refine ⟨_, _, pre16s _ ?_, hrun, hended, _, _, rfl, ?_, ⟨_, rfl⟩, hW, hsame.mono (by decide) (by decide)⟩
    · skip
      show Steps p.tables e below (T16.setTop (mkF m 47 #[.val (.ref a), .val (.ref b), .val (.ref b)] [(.int (1 : Int32))])) _
      refine XS.ifNo X16.here hx rfl (hb hby d2_47) rfl ((if0 _ _).trans (feq (by decide : ¬ ((1 : Int32) = (0 : Int32)))).1) ?_
      show Steps p.tables e below (T16.setTop (mkF m 50 #[.val (.ref a), .val (.ref b), .val (.ref b)] [])) _
      refine XS.iconst X16.here hx rfl (hb hby d2_50) ?_
      show Steps p.tables e below (T16.setTop (mkF m 51 #[.val (.ref a), .val (.ref b), .val (.ref b)] [(.int (1 : Int32))])) _
      refine XS.goto X16.here hx rfl (pc0 := 51) (pc' := 55) rfl (hb hby d2_51) (by decide) (by decide) ?_
      show Steps p.tables e below (T16.setTop (mkF m 55 #[.val (.ref a), .val (.ref b), .val (.ref b)] [(.int (1 : Int32))])) _
      exact retN X16 hx (t := .boolean) Bd.returns (by simp) (hb hby d2_55) hr
    · show Q_rm_es5 Z a b va vb k1 k2 cs x0 x1 x2 x3 x4 h0 n0 _ T16.heap _
      rw [e16]
      exact ⟨rfl, N16, rfl⟩
def Q_rm_es7 (Z : State) (a b va vb : Addr) (k1 k2 : ClassId) (cs : Int32) (x0 x1 x2 x3 x4 x5 x6 : Int32) (h0 : Heap) (n0 : Nat) (v : Option Value) (h : Heap) (L : List Loc) : Prop := v = some (.int (1 : Int32)) ∧ Fr n0 L ∧ h = h0
set_option maxRecDepth 65536 in
set_option maxHeartbeats 40000000 in
theorem rm_es7 (l : Launch) (Z : State) (a0 : Array Value) (hw : ∀ d ∈ tables_1, d.before a0 Z = true) (ws : List Jvm.Cond) (a b va vb : Addr) (k1 k2 : ClassId) (cs : Int32) (x0 x1 x2 x3 x4 x5 x6 : Int32) (h0 : Heap) (n0 : Nat) (Z0 : n0 ≤ h0.size) (S_c : Sta Z h0 "java/lang/String" "COMPACT_STRINGS" "Z" (.int cs)) (hcs : ¬ cs = (0 : Int32)) (E_b : Exa Z h0 b "java/lang/String") (C_a : Fld Z h0 a "java/lang/String" "coder" "B" (.int 0)) (C_b : Fld Z h0 b "java/lang/String" "coder" "B" (.int 0)) (F_a : Fld Z h0 a "java/lang/String" "value" "[B" (.ref va)) (F_b : Fld Z h0 b "java/lang/String" "value" "[B" (.ref vb)) (V_a : Arv Z h0 va k1 .byte (7 : Int32) [(.int x0), (.int x1), (.int x2), (.int x3), (.int x4), (.int x5), (.int x6)] (.int (0 : Int32))) (V_b : Arv Z h0 vb k2 .byte (7 : Int32) [(.int x0), (.int x1), (.int x2), (.int x3), (.int x4), (.int x5), (.int x6)] (.int (0 : Int32))) :
    MetFree l (⟨"java/lang/String", "equals", "(Ljava/lang/Object;)Z"⟩ : MethodName) (head1 (Jvm.Cond.code (⟨"java/lang/String", "equals", "(Ljava/lang/Object;)Z"⟩ : MethodName) jdk_42_method_66_code 3 (some .boolean) :: ws) ({ frames := 1, cells := 0, slots := 0, locals := 30 } : Room)) (fun argv U => argv = #[(.ref a), (.ref b)] ∧ Z.Warmed39 U.vm ∧ U.heap = h0) (fun _ _ _ _ _ => True) (fun _ U o U' => ∃ v L, o = .returned v ∧ Q_rm_es7 Z a b va vb k1 k2 cs x0 x1 x2 x3 x4 x5 x6 h0 n0 v U'.heap L ∧ FrameEnd U o U' L ({ frames := 1, cells := 0, slots := 0, locals := 30 } : Room).cells ({ frames := 1, cells := 0, slots := 0, locals := 30 } : Room).slots) := by
  refine MetFree.of_bodySF (plainFor_of_name pn_2) hisR ?_
  intro p e s m args below meth c s₁ Bd hml0 hP hK
  obtain ⟨rfl, hZ, hh⟩ := hP
  have hx := Bd.exec
  have hby := Bd.bytes
  have hml : c.maxLocals = 3 := hml0
  have hown : s.vm.findClass "java/lang/String" = some m.cls := findClass_of_methodNamed Bd.named
  have hnm := (name_of_methodNamed Bd.named Bd.method).1
  have X0 : Stand p l e ({ frames := 1, cells := 0, slots := 0, locals := 30 } : Room) s m #[(.ref a), (.ref b)] below meth c s₁ [] 0 0 := Stand.of_body Bd
  have e0 : s₁.heap = h0 := by rw [← hh, Bd.state]; rfl
  have N0 := Fr.nil n0
  obtain ⟨G, hG⟩ : ∃ G : State → Prop, G = fun tg => Steps p.tables e below (s₁.setTop (entryFrame m #[(.ref a), (.ref b)] 3)) tg := ⟨_, rfl⟩
  have pre0 : ∀ tg, Steps p.tables e below (s₁.setTop (mkF m 0 #[.val (.ref a), .val (.ref b), .unset] [])) tg → G tg := fun tg kt => by rw [hG]; exact castTop (ef_2_R_R m a b) kt
  have pre1 : ∀ tg, Steps p.tables e below (s₁.setTop (mkF m 2 #[.val (.ref a), .val (.ref b), .unset] [(.ref b), (.ref a)])) tg → G tg := fun tg kt => pre0 tg (by
    show Steps p.tables e below (s₁.setTop (mkF m 0 #[.val (.ref a), .val (.ref b), .unset] [])) _
    refine XS.aloadN X0.here hx rfl (hb hby d2_0) rfl rfl ?_
    show Steps p.tables e below (s₁.setTop (mkF m 1 #[.val (.ref a), .val (.ref b), .unset] [(.ref a)])) _
    refine XS.aloadN X0.here hx rfl (hb hby d2_1) rfl rfl ?_
    exact kt)
  by_cases hab : a = b
  · skip
    obtain ⟨fs, hr, hrun, hended, hW, hsame⟩ := X0.leave (v := some (.int (1 : Int32))) (fun h => by rw [Bd.returns] at h; cases h)
    subst hG
    refine ⟨_, _, pre1 _ ?_, hrun, hended, _, _, rfl, ?_, ⟨_, rfl⟩, hW, hsame.mono (by decide) (by decide)⟩
    · skip
      show Steps p.tables e below (s₁.setTop (mkF m 2 #[.val (.ref a), .val (.ref b), .unset] [(.ref b), (.ref a)])) _
      refine Jvm.RoadKit.acmp (g := (mkF m 2 #[.val (.ref a), .val (.ref b), .unset] [(.ref b), (.ref a)])) X0 hx rfl rfl rfl (pc0 := 2) (pc' := 5) (same := true) rfl (hb hby d2_2) rfl (decide_eq_true (congrArg Value.ref hab)) (by decide) (by decide) ?_
      show Steps p.tables e below (s₁.setTop (mkF m 5 #[.val (.ref a), .val (.ref b), .unset] [])) _
      refine XS.iconst X0.here hx rfl (hb hby d2_5) ?_
      show Steps p.tables e below (s₁.setTop (mkF m 6 #[.val (.ref a), .val (.ref b), .unset] [(.int (1 : Int32))])) _
      exact retN X0 hx (t := .boolean) Bd.returns (by simp) (hb hby d2_6) hr
    · show Q_rm_es7 Z a b va vb k1 k2 cs x0 x1 x2 x3 x4 x5 x6 h0 n0 _ s₁.heap _
      rw [e0]
      exact ⟨rfl, N0, rfl⟩
  · skip
    have pre2 : ∀ tg, Steps p.tables e below (s₁.setTop (mkF m 8 #[.val (.ref a), .val (.ref b), .unset] [(.ref b)])) tg → G tg := fun tg kt => pre1 tg (by
      show Steps p.tables e below (s₁.setTop (mkF m 2 #[.val (.ref a), .val (.ref b), .unset] [(.ref b), (.ref a)])) _
      refine Jvm.RoadKit.acmp (g := (mkF m 2 #[.val (.ref a), .val (.ref b), .unset] [(.ref b), (.ref a)])) X0 hx rfl rfl rfl (pc0 := 2) (pc' := 7) (same := false) rfl (hb hby d2_2) rfl (decide_eq_false (fun q => hab (Value.ref.inj q))) (by decide) (by decide) ?_
      show Steps p.tables e below (s₁.setTop (mkF m 7 #[.val (.ref a), .val (.ref b), .unset] [])) _
      refine XS.aloadN X0.here hx rfl (hb hby d2_7) rfl rfl ?_
      exact kt)
    obtain ⟨T3, X3, e3, st3⟩ := instY X0 hx hZ hown (hw _ (List.mem_of_getElem? (i := 24) rfl)) e0 (Ins.self E_b) (g := (mkF m 8 #[.val (.ref a), .val (.ref b), .unset] [(.ref b)])) rfl rfl (hb hby d2_8)
    have pre3s : ∀ tg, Steps p.tables e below (T3.setTop (mkF m 11 #[.val (.ref a), .val (.ref b), .unset] [(.int (1 : Int32))])) tg → G tg := fun tg kt => pre2 tg (st3 tg kt)
    have pre4 : ∀ tg, Steps p.tables e below (T3.setTop (mkF m 15 #[.val (.ref a), .val (.ref b), .unset] [(.ref b)])) tg → G tg := fun tg kt => pre3s tg (by
      show Steps p.tables e below (T3.setTop (mkF m 11 #[.val (.ref a), .val (.ref b), .unset] [(.int (1 : Int32))])) _
      refine XS.ifNo X3.here hx rfl (hb hby d2_11) rfl ((if0 _ _).trans (feq (by decide : ¬ ((1 : Int32) = (0 : Int32)))).1) ?_
      show Steps p.tables e below (T3.setTop (mkF m 14 #[.val (.ref a), .val (.ref b), .unset] [])) _
      refine XS.aloadN X3.here hx rfl (hb hby d2_14) rfl rfl ?_
      exact kt)
    obtain ⟨T5, X5, e5, st5⟩ := castY X3 hx hZ hown (hw _ (List.mem_of_getElem? (i := 24) rfl)) e3 (Ins.self E_b) (g := (mkF m 15 #[.val (.ref a), .val (.ref b), .unset] [(.ref b)])) rfl rfl (hb hby d2_15)
    have pre5s : ∀ tg, Steps p.tables e below (T5.setTop (mkF m 18 #[.val (.ref a), .val (.ref b), .unset] [(.ref b)])) tg → G tg := fun tg kt => pre4 tg (st5 tg kt)
    have pre6 : ∀ tg, Steps p.tables e below (T5.setTop (mkF m 19 #[.val (.ref a), .val (.ref b), .val (.ref b)] [])) tg → G tg := fun tg kt => pre5s tg (by
      show Steps p.tables e below (T5.setTop (mkF m 18 #[.val (.ref a), .val (.ref b), .unset] [(.ref b)])) _
      refine XS.astoreN X5.here hx rfl (hb hby d2_18) rfl rfl (l' := #[.val (.ref a), .val (.ref b), .val (.ref b)]) rfl ?_
      exact kt)
    obtain ⟨T7, X7, e7, st7⟩ := getS2 X5 hx hZ hown (host := "") (Or.inl (hw _ (List.mem_of_getElem? (i := 26) rfl))) Via.refl e5 S_c (g := (mkF m 19 #[.val (.ref a), .val (.ref b), .val (.ref b)] [])) rfl (hb hby d2_19)
    have pre7s : ∀ tg, Steps p.tables e below (T7.setTop (mkF m 22 #[.val (.ref a), .val (.ref b), .val (.ref b)] [(.int cs)])) tg → G tg := fun tg kt => pre6 tg (st7 tg kt)
    have pre8 : ∀ tg, Steps p.tables e below (T7.setTop (mkF m 26 #[.val (.ref a), .val (.ref b), .val (.ref b)] [(.ref a)])) tg → G tg := fun tg kt => pre7s tg (by
      show Steps p.tables e below (T7.setTop (mkF m 22 #[.val (.ref a), .val (.ref b), .val (.ref b)] [(.int cs)])) _
      refine XS.ifNo X7.here hx rfl (hb hby d2_22) rfl ((if0 _ _).trans (feq hcs).1) ?_
      show Steps p.tables e below (T7.setTop (mkF m 25 #[.val (.ref a), .val (.ref b), .val (.ref b)] [])) _
      refine XS.aloadN X7.here hx rfl (hb hby d2_25) rfl rfl ?_
      exact kt)
    obtain ⟨T9, X9, e9, st9⟩ := getF X7 hx hZ hown (host := "") (Or.inl (hw _ (List.mem_of_getElem? (i := 27) rfl))) Via.refl e7 C_a (g := (mkF m 26 #[.val (.ref a), .val (.ref b), .val (.ref b)] [(.ref a)])) rfl rfl (hb hby d2_26)
    have pre9s : ∀ tg, Steps p.tables e below (T9.setTop (mkF m 29 #[.val (.ref a), .val (.ref b), .val (.ref b)] [(.int (0 : Int32))])) tg → G tg := fun tg kt => pre8 tg (st9 tg kt)
    have pre10 : ∀ tg, Steps p.tables e below (T9.setTop (mkF m 30 #[.val (.ref a), .val (.ref b), .val (.ref b)] [(.ref b), (.int (0 : Int32))])) tg → G tg := fun tg kt => pre9s tg (by
      show Steps p.tables e below (T9.setTop (mkF m 29 #[.val (.ref a), .val (.ref b), .val (.ref b)] [(.int (0 : Int32))])) _
      refine XS.aloadN X9.here hx rfl (hb hby d2_29) rfl rfl ?_
      exact kt)
    obtain ⟨T11, X11, e11, st11⟩ := getF X9 hx hZ hown (host := "") (Or.inl (hw _ (List.mem_of_getElem? (i := 27) rfl))) Via.refl e9 C_b (g := (mkF m 30 #[.val (.ref a), .val (.ref b), .val (.ref b)] [(.ref b), (.int (0 : Int32))])) rfl rfl (hb hby d2_30)
    have pre11s : ∀ tg, Steps p.tables e below (T11.setTop (mkF m 33 #[.val (.ref a), .val (.ref b), .val (.ref b)] [(.int (0 : Int32)), (.int (0 : Int32))])) tg → G tg := fun tg kt => pre10 tg (st11 tg kt)
    have pre12 : ∀ tg, Steps p.tables e below (T11.setTop (mkF m 37 #[.val (.ref a), .val (.ref b), .val (.ref b)] [(.ref a)])) tg → G tg := fun tg kt => pre11s tg (by
      show Steps p.tables e below (T11.setTop (mkF m 33 #[.val (.ref a), .val (.ref b), .val (.ref b)] [(.int (0 : Int32)), (.int (0 : Int32))])) _
      refine XS.icmpNo X11.here hx rfl (hb hby d2_33) rfl (teq (by decide : (0 : Int32) = (0 : Int32))).2 ?_
      show Steps p.tables e below (T11.setTop (mkF m 36 #[.val (.ref a), .val (.ref b), .val (.ref b)] [])) _
      refine XS.aloadN X11.here hx rfl (hb hby d2_36) rfl rfl ?_
      exact kt)
    obtain ⟨T13, X13, e13, st13⟩ := getF X11 hx hZ hown (host := "") (Or.inl (hw _ (List.mem_of_getElem? (i := 28) rfl))) Via.refl e11 F_a (g := (mkF m 37 #[.val (.ref a), .val (.ref b), .val (.ref b)] [(.ref a)])) rfl rfl (hb hby d2_37)
    have pre13s : ∀ tg, Steps p.tables e below (T13.setTop (mkF m 40 #[.val (.ref a), .val (.ref b), .val (.ref b)] [(.ref va)])) tg → G tg := fun tg kt => pre12 tg (st13 tg kt)
    have pre14 : ∀ tg, Steps p.tables e below (T13.setTop (mkF m 41 #[.val (.ref a), .val (.ref b), .val (.ref b)] [(.ref b), (.ref va)])) tg → G tg := fun tg kt => pre13s tg (by
      show Steps p.tables e below (T13.setTop (mkF m 40 #[.val (.ref a), .val (.ref b), .val (.ref b)] [(.ref va)])) _
      refine XS.aloadN X13.here hx rfl (hb hby d2_40) rfl rfl ?_
      exact kt)
    obtain ⟨T15, X15, e15, st15⟩ := getF X13 hx hZ hown (host := "") (Or.inl (hw _ (List.mem_of_getElem? (i := 28) rfl))) Via.refl e13 F_b (g := (mkF m 41 #[.val (.ref a), .val (.ref b), .val (.ref b)] [(.ref b), (.ref va)])) rfl rfl (hb hby d2_41)
    have pre15s : ∀ tg, Steps p.tables e below (T15.setTop (mkF m 44 #[.val (.ref a), .val (.ref b), .val (.ref b)] [(.ref vb), (.ref va)])) tg → G tg := fun tg kt => pre14 tg (st15 tg kt)
    obtain ⟨_, _, ⟨T16, L16, k16, n16⟩, -, X16, ⟨Lc16, hQ16, l16, y16, z16⟩, st16⟩ := Jvm.LawKit.callS X15 hx (y := (⟨"java/lang/StringLatin1", "equals", "([B[B)Z"⟩ : MethodName)) hown (mvT hZ (hw _ (List.mem_of_getElem? (i := 29) rfl))) (mvT hZ (hw _ (List.mem_of_getElem? (i := 30) rfl))) (mvT hZ (hw _ (List.mem_of_getElem? (i := 31) rfl))) (mvT hZ (hw _ (List.mem_of_getElem? (i := 32) rfl))) (by decide) (backOf (W := 0) (rm_s7 l Z a0 hw [] va vb k1 k2 x0 x1 x2 x3 x4 x5 x6 h0 n0 Z0 V_a V_b ) hZ (hw _ (List.mem_of_getElem? (i := 32) rfl)) (hw _ (List.mem_of_getElem? (i := 31) rfl)) (by decide) (by decide)) (g := (mkF m 44 #[.val (.ref a), .val (.ref b), .val (.ref b)] [(.ref vb), (.ref va)])) rfl (by rw [hml]; rfl) (argsL := [(.ref va), (.ref vb)]) (rest := []) (lenOf pd_0 rfl) rfl (by show 2 * 0 + _ ≤ _; exact Nat.le_of_eq rfl) (hb hby d2_44) (fun _ _ => ⟨rfl, e15, (Nat.le_of_ble_eq_true rfl), (Nat.le_of_ble_eq_true rfl)⟩)
    dsimp only [Pt.U, Pt.locs, Pt.cells, Pt.slots] at X16 l16 y16 z16 st16 hQ16
    subst l16 y16 z16
    obtain ⟨rfl, N16q, e16⟩ := hQ16
    have N16 := Fr.app N0 N16q
    have pre16s : ∀ tg, Steps p.tables e below (T16.setTop (mkF m 47 #[.val (.ref a), .val (.ref b), .val (.ref b)] [(.int (1 : Int32))])) tg → G tg := fun tg kt => pre15s tg (st16 tg kt)
    obtain ⟨fs, hr, hrun, hended, hW, hsame⟩ := X16.leave (v := some (.int (1 : Int32))) (fun h => by rw [Bd.returns] at h; cases h)
    subst hG
    refine ⟨_, _, pre16s _ ?_, hrun, hended, _, _, rfl, ?_, ⟨_, rfl⟩, hW, hsame.mono (by decide) (by decide)⟩
    · skip
      show Steps p.tables e below (T16.setTop (mkF m 47 #[.val (.ref a), .val (.ref b), .val (.ref b)] [(.int (1 : Int32))])) _
      refine XS.ifNo X16.here hx rfl (hb hby d2_47) rfl ((if0 _ _).trans (feq (by decide : ¬ ((1 : Int32) = (0 : Int32)))).1) ?_
      show Steps p.tables e below (T16.setTop (mkF m 50 #[.val (.ref a), .val (.ref b), .val (.ref b)] [])) _
      refine XS.iconst X16.here hx rfl (hb hby d2_50) ?_
      show Steps p.tables e below (T16.setTop (mkF m 51 #[.val (.ref a), .val (.ref b), .val (.ref b)] [(.int (1 : Int32))])) _
      refine XS.goto X16.here hx rfl (pc0 := 51) (pc' := 55) rfl (hb hby d2_51) (by decide) (by decide) ?_
      show Steps p.tables e below (T16.setTop (mkF m 55 #[.val (.ref a), .val (.ref b), .val (.ref b)] [(.int (1 : Int32))])) _
      exact retN X16 hx (t := .boolean) Bd.returns (by simp) (hb hby d2_55) hr
    · show Q_rm_es7 Z a b va vb k1 k2 cs x0 x1 x2 x3 x4 x5 x6 h0 n0 _ T16.heap _
      rw [e16]
      exact ⟨rfl, N16, rfl⟩
def Q_rm_es8 (Z : State) (a b va vb : Addr) (k1 k2 : ClassId) (cs : Int32) (x0 x1 x2 x3 x4 x5 x6 x7 : Int32) (h0 : Heap) (n0 : Nat) (v : Option Value) (h : Heap) (L : List Loc) : Prop := v = some (.int (1 : Int32)) ∧ Fr n0 L ∧ h = h0
set_option maxRecDepth 65536 in
set_option maxHeartbeats 40000000 in
theorem rm_es8 (l : Launch) (Z : State) (a0 : Array Value) (hw : ∀ d ∈ tables_1, d.before a0 Z = true) (ws : List Jvm.Cond) (a b va vb : Addr) (k1 k2 : ClassId) (cs : Int32) (x0 x1 x2 x3 x4 x5 x6 x7 : Int32) (h0 : Heap) (n0 : Nat) (Z0 : n0 ≤ h0.size) (S_c : Sta Z h0 "java/lang/String" "COMPACT_STRINGS" "Z" (.int cs)) (hcs : ¬ cs = (0 : Int32)) (E_b : Exa Z h0 b "java/lang/String") (C_a : Fld Z h0 a "java/lang/String" "coder" "B" (.int 0)) (C_b : Fld Z h0 b "java/lang/String" "coder" "B" (.int 0)) (F_a : Fld Z h0 a "java/lang/String" "value" "[B" (.ref va)) (F_b : Fld Z h0 b "java/lang/String" "value" "[B" (.ref vb)) (V_a : Arv Z h0 va k1 .byte (8 : Int32) [(.int x0), (.int x1), (.int x2), (.int x3), (.int x4), (.int x5), (.int x6), (.int x7)] (.int (0 : Int32))) (V_b : Arv Z h0 vb k2 .byte (8 : Int32) [(.int x0), (.int x1), (.int x2), (.int x3), (.int x4), (.int x5), (.int x6), (.int x7)] (.int (0 : Int32))) :
    MetFree l (⟨"java/lang/String", "equals", "(Ljava/lang/Object;)Z"⟩ : MethodName) (head1 (Jvm.Cond.code (⟨"java/lang/String", "equals", "(Ljava/lang/Object;)Z"⟩ : MethodName) jdk_42_method_66_code 3 (some .boolean) :: ws) ({ frames := 1, cells := 0, slots := 0, locals := 30 } : Room)) (fun argv U => argv = #[(.ref a), (.ref b)] ∧ Z.Warmed39 U.vm ∧ U.heap = h0) (fun _ _ _ _ _ => True) (fun _ U o U' => ∃ v L, o = .returned v ∧ Q_rm_es8 Z a b va vb k1 k2 cs x0 x1 x2 x3 x4 x5 x6 x7 h0 n0 v U'.heap L ∧ FrameEnd U o U' L ({ frames := 1, cells := 0, slots := 0, locals := 30 } : Room).cells ({ frames := 1, cells := 0, slots := 0, locals := 30 } : Room).slots) := by
  refine MetFree.of_bodySF (plainFor_of_name pn_2) hisR ?_
  intro p e s m args below meth c s₁ Bd hml0 hP hK
  obtain ⟨rfl, hZ, hh⟩ := hP
  have hx := Bd.exec
  have hby := Bd.bytes
  have hml : c.maxLocals = 3 := hml0
  have hown : s.vm.findClass "java/lang/String" = some m.cls := findClass_of_methodNamed Bd.named
  have hnm := (name_of_methodNamed Bd.named Bd.method).1
  have X0 : Stand p l e ({ frames := 1, cells := 0, slots := 0, locals := 30 } : Room) s m #[(.ref a), (.ref b)] below meth c s₁ [] 0 0 := Stand.of_body Bd
  have e0 : s₁.heap = h0 := by rw [← hh, Bd.state]; rfl
  have N0 := Fr.nil n0
  obtain ⟨G, hG⟩ : ∃ G : State → Prop, G = fun tg => Steps p.tables e below (s₁.setTop (entryFrame m #[(.ref a), (.ref b)] 3)) tg := ⟨_, rfl⟩
  have pre0 : ∀ tg, Steps p.tables e below (s₁.setTop (mkF m 0 #[.val (.ref a), .val (.ref b), .unset] [])) tg → G tg := fun tg kt => by rw [hG]; exact castTop (ef_2_R_R m a b) kt
  have pre1 : ∀ tg, Steps p.tables e below (s₁.setTop (mkF m 2 #[.val (.ref a), .val (.ref b), .unset] [(.ref b), (.ref a)])) tg → G tg := fun tg kt => pre0 tg (by
    show Steps p.tables e below (s₁.setTop (mkF m 0 #[.val (.ref a), .val (.ref b), .unset] [])) _
    refine XS.aloadN X0.here hx rfl (hb hby d2_0) rfl rfl ?_
    show Steps p.tables e below (s₁.setTop (mkF m 1 #[.val (.ref a), .val (.ref b), .unset] [(.ref a)])) _
    refine XS.aloadN X0.here hx rfl (hb hby d2_1) rfl rfl ?_
    exact kt)
  by_cases hab : a = b
  · skip
    obtain ⟨fs, hr, hrun, hended, hW, hsame⟩ := X0.leave (v := some (.int (1 : Int32))) (fun h => by rw [Bd.returns] at h; cases h)
    subst hG
    refine ⟨_, _, pre1 _ ?_, hrun, hended, _, _, rfl, ?_, ⟨_, rfl⟩, hW, hsame.mono (by decide) (by decide)⟩
    · skip
      show Steps p.tables e below (s₁.setTop (mkF m 2 #[.val (.ref a), .val (.ref b), .unset] [(.ref b), (.ref a)])) _
      refine Jvm.RoadKit.acmp (g := (mkF m 2 #[.val (.ref a), .val (.ref b), .unset] [(.ref b), (.ref a)])) X0 hx rfl rfl rfl (pc0 := 2) (pc' := 5) (same := true) rfl (hb hby d2_2) rfl (decide_eq_true (congrArg Value.ref hab)) (by decide) (by decide) ?_
      show Steps p.tables e below (s₁.setTop (mkF m 5 #[.val (.ref a), .val (.ref b), .unset] [])) _
      refine XS.iconst X0.here hx rfl (hb hby d2_5) ?_
      show Steps p.tables e below (s₁.setTop (mkF m 6 #[.val (.ref a), .val (.ref b), .unset] [(.int (1 : Int32))])) _
      exact retN X0 hx (t := .boolean) Bd.returns (by simp) (hb hby d2_6) hr
    · show Q_rm_es8 Z a b va vb k1 k2 cs x0 x1 x2 x3 x4 x5 x6 x7 h0 n0 _ s₁.heap _
      rw [e0]
      exact ⟨rfl, N0, rfl⟩
  · skip
    have pre2 : ∀ tg, Steps p.tables e below (s₁.setTop (mkF m 8 #[.val (.ref a), .val (.ref b), .unset] [(.ref b)])) tg → G tg := fun tg kt => pre1 tg (by
      show Steps p.tables e below (s₁.setTop (mkF m 2 #[.val (.ref a), .val (.ref b), .unset] [(.ref b), (.ref a)])) _
      refine Jvm.RoadKit.acmp (g := (mkF m 2 #[.val (.ref a), .val (.ref b), .unset] [(.ref b), (.ref a)])) X0 hx rfl rfl rfl (pc0 := 2) (pc' := 7) (same := false) rfl (hb hby d2_2) rfl (decide_eq_false (fun q => hab (Value.ref.inj q))) (by decide) (by decide) ?_
      show Steps p.tables e below (s₁.setTop (mkF m 7 #[.val (.ref a), .val (.ref b), .unset] [])) _
      refine XS.aloadN X0.here hx rfl (hb hby d2_7) rfl rfl ?_
      exact kt)
    obtain ⟨T3, X3, e3, st3⟩ := instY X0 hx hZ hown (hw _ (List.mem_of_getElem? (i := 24) rfl)) e0 (Ins.self E_b) (g := (mkF m 8 #[.val (.ref a), .val (.ref b), .unset] [(.ref b)])) rfl rfl (hb hby d2_8)
    have pre3s : ∀ tg, Steps p.tables e below (T3.setTop (mkF m 11 #[.val (.ref a), .val (.ref b), .unset] [(.int (1 : Int32))])) tg → G tg := fun tg kt => pre2 tg (st3 tg kt)
    have pre4 : ∀ tg, Steps p.tables e below (T3.setTop (mkF m 15 #[.val (.ref a), .val (.ref b), .unset] [(.ref b)])) tg → G tg := fun tg kt => pre3s tg (by
      show Steps p.tables e below (T3.setTop (mkF m 11 #[.val (.ref a), .val (.ref b), .unset] [(.int (1 : Int32))])) _
      refine XS.ifNo X3.here hx rfl (hb hby d2_11) rfl ((if0 _ _).trans (feq (by decide : ¬ ((1 : Int32) = (0 : Int32)))).1) ?_
      show Steps p.tables e below (T3.setTop (mkF m 14 #[.val (.ref a), .val (.ref b), .unset] [])) _
      refine XS.aloadN X3.here hx rfl (hb hby d2_14) rfl rfl ?_
      exact kt)
    obtain ⟨T5, X5, e5, st5⟩ := castY X3 hx hZ hown (hw _ (List.mem_of_getElem? (i := 24) rfl)) e3 (Ins.self E_b) (g := (mkF m 15 #[.val (.ref a), .val (.ref b), .unset] [(.ref b)])) rfl rfl (hb hby d2_15)
    have pre5s : ∀ tg, Steps p.tables e below (T5.setTop (mkF m 18 #[.val (.ref a), .val (.ref b), .unset] [(.ref b)])) tg → G tg := fun tg kt => pre4 tg (st5 tg kt)
    have pre6 : ∀ tg, Steps p.tables e below (T5.setTop (mkF m 19 #[.val (.ref a), .val (.ref b), .val (.ref b)] [])) tg → G tg := fun tg kt => pre5s tg (by
      show Steps p.tables e below (T5.setTop (mkF m 18 #[.val (.ref a), .val (.ref b), .unset] [(.ref b)])) _
      refine XS.astoreN X5.here hx rfl (hb hby d2_18) rfl rfl (l' := #[.val (.ref a), .val (.ref b), .val (.ref b)]) rfl ?_
      exact kt)
    obtain ⟨T7, X7, e7, st7⟩ := getS2 X5 hx hZ hown (host := "") (Or.inl (hw _ (List.mem_of_getElem? (i := 26) rfl))) Via.refl e5 S_c (g := (mkF m 19 #[.val (.ref a), .val (.ref b), .val (.ref b)] [])) rfl (hb hby d2_19)
    have pre7s : ∀ tg, Steps p.tables e below (T7.setTop (mkF m 22 #[.val (.ref a), .val (.ref b), .val (.ref b)] [(.int cs)])) tg → G tg := fun tg kt => pre6 tg (st7 tg kt)
    have pre8 : ∀ tg, Steps p.tables e below (T7.setTop (mkF m 26 #[.val (.ref a), .val (.ref b), .val (.ref b)] [(.ref a)])) tg → G tg := fun tg kt => pre7s tg (by
      show Steps p.tables e below (T7.setTop (mkF m 22 #[.val (.ref a), .val (.ref b), .val (.ref b)] [(.int cs)])) _
      refine XS.ifNo X7.here hx rfl (hb hby d2_22) rfl ((if0 _ _).trans (feq hcs).1) ?_
      show Steps p.tables e below (T7.setTop (mkF m 25 #[.val (.ref a), .val (.ref b), .val (.ref b)] [])) _
      refine XS.aloadN X7.here hx rfl (hb hby d2_25) rfl rfl ?_
      exact kt)
    obtain ⟨T9, X9, e9, st9⟩ := getF X7 hx hZ hown (host := "") (Or.inl (hw _ (List.mem_of_getElem? (i := 27) rfl))) Via.refl e7 C_a (g := (mkF m 26 #[.val (.ref a), .val (.ref b), .val (.ref b)] [(.ref a)])) rfl rfl (hb hby d2_26)
    have pre9s : ∀ tg, Steps p.tables e below (T9.setTop (mkF m 29 #[.val (.ref a), .val (.ref b), .val (.ref b)] [(.int (0 : Int32))])) tg → G tg := fun tg kt => pre8 tg (st9 tg kt)
    have pre10 : ∀ tg, Steps p.tables e below (T9.setTop (mkF m 30 #[.val (.ref a), .val (.ref b), .val (.ref b)] [(.ref b), (.int (0 : Int32))])) tg → G tg := fun tg kt => pre9s tg (by
      show Steps p.tables e below (T9.setTop (mkF m 29 #[.val (.ref a), .val (.ref b), .val (.ref b)] [(.int (0 : Int32))])) _
      refine XS.aloadN X9.here hx rfl (hb hby d2_29) rfl rfl ?_
      exact kt)
    obtain ⟨T11, X11, e11, st11⟩ := getF X9 hx hZ hown (host := "") (Or.inl (hw _ (List.mem_of_getElem? (i := 27) rfl))) Via.refl e9 C_b (g := (mkF m 30 #[.val (.ref a), .val (.ref b), .val (.ref b)] [(.ref b), (.int (0 : Int32))])) rfl rfl (hb hby d2_30)
    have pre11s : ∀ tg, Steps p.tables e below (T11.setTop (mkF m 33 #[.val (.ref a), .val (.ref b), .val (.ref b)] [(.int (0 : Int32)), (.int (0 : Int32))])) tg → G tg := fun tg kt => pre10 tg (st11 tg kt)
    have pre12 : ∀ tg, Steps p.tables e below (T11.setTop (mkF m 37 #[.val (.ref a), .val (.ref b), .val (.ref b)] [(.ref a)])) tg → G tg := fun tg kt => pre11s tg (by
      show Steps p.tables e below (T11.setTop (mkF m 33 #[.val (.ref a), .val (.ref b), .val (.ref b)] [(.int (0 : Int32)), (.int (0 : Int32))])) _
      refine XS.icmpNo X11.here hx rfl (hb hby d2_33) rfl (teq (by decide : (0 : Int32) = (0 : Int32))).2 ?_
      show Steps p.tables e below (T11.setTop (mkF m 36 #[.val (.ref a), .val (.ref b), .val (.ref b)] [])) _
      refine XS.aloadN X11.here hx rfl (hb hby d2_36) rfl rfl ?_
      exact kt)
    obtain ⟨T13, X13, e13, st13⟩ := getF X11 hx hZ hown (host := "") (Or.inl (hw _ (List.mem_of_getElem? (i := 28) rfl))) Via.refl e11 F_a (g := (mkF m 37 #[.val (.ref a), .val (.ref b), .val (.ref b)] [(.ref a)])) rfl rfl (hb hby d2_37)
    have pre13s : ∀ tg, Steps p.tables e below (T13.setTop (mkF m 40 #[.val (.ref a), .val (.ref b), .val (.ref b)] [(.ref va)])) tg → G tg := fun tg kt => pre12 tg (st13 tg kt)
    have pre14 : ∀ tg, Steps p.tables e below (T13.setTop (mkF m 41 #[.val (.ref a), .val (.ref b), .val (.ref b)] [(.ref b), (.ref va)])) tg → G tg := fun tg kt => pre13s tg (by
      show Steps p.tables e below (T13.setTop (mkF m 40 #[.val (.ref a), .val (.ref b), .val (.ref b)] [(.ref va)])) _
      refine XS.aloadN X13.here hx rfl (hb hby d2_40) rfl rfl ?_
      exact kt)
    obtain ⟨T15, X15, e15, st15⟩ := getF X13 hx hZ hown (host := "") (Or.inl (hw _ (List.mem_of_getElem? (i := 28) rfl))) Via.refl e13 F_b (g := (mkF m 41 #[.val (.ref a), .val (.ref b), .val (.ref b)] [(.ref b), (.ref va)])) rfl rfl (hb hby d2_41)
    have pre15s : ∀ tg, Steps p.tables e below (T15.setTop (mkF m 44 #[.val (.ref a), .val (.ref b), .val (.ref b)] [(.ref vb), (.ref va)])) tg → G tg := fun tg kt => pre14 tg (st15 tg kt)
    obtain ⟨_, _, ⟨T16, L16, k16, n16⟩, -, X16, ⟨Lc16, hQ16, l16, y16, z16⟩, st16⟩ := Jvm.LawKit.callS X15 hx (y := (⟨"java/lang/StringLatin1", "equals", "([B[B)Z"⟩ : MethodName)) hown (mvT hZ (hw _ (List.mem_of_getElem? (i := 29) rfl))) (mvT hZ (hw _ (List.mem_of_getElem? (i := 30) rfl))) (mvT hZ (hw _ (List.mem_of_getElem? (i := 31) rfl))) (mvT hZ (hw _ (List.mem_of_getElem? (i := 32) rfl))) (by decide) (backOf (W := 0) (rm_s8 l Z a0 hw [] va vb k1 k2 x0 x1 x2 x3 x4 x5 x6 x7 h0 n0 Z0 V_a V_b ) hZ (hw _ (List.mem_of_getElem? (i := 32) rfl)) (hw _ (List.mem_of_getElem? (i := 31) rfl)) (by decide) (by decide)) (g := (mkF m 44 #[.val (.ref a), .val (.ref b), .val (.ref b)] [(.ref vb), (.ref va)])) rfl (by rw [hml]; rfl) (argsL := [(.ref va), (.ref vb)]) (rest := []) (lenOf pd_0 rfl) rfl (by show 2 * 0 + _ ≤ _; exact Nat.le_of_eq rfl) (hb hby d2_44) (fun _ _ => ⟨rfl, e15, (Nat.le_of_ble_eq_true rfl), (Nat.le_of_ble_eq_true rfl)⟩)
    dsimp only [Pt.U, Pt.locs, Pt.cells, Pt.slots] at X16 l16 y16 z16 st16 hQ16
    subst l16 y16 z16
    obtain ⟨rfl, N16q, e16⟩ := hQ16
    have N16 := Fr.app N0 N16q
    have pre16s : ∀ tg, Steps p.tables e below (T16.setTop (mkF m 47 #[.val (.ref a), .val (.ref b), .val (.ref b)] [(.int (1 : Int32))])) tg → G tg := fun tg kt => pre15s tg (st16 tg kt)
    obtain ⟨fs, hr, hrun, hended, hW, hsame⟩ := X16.leave (v := some (.int (1 : Int32))) (fun h => by rw [Bd.returns] at h; cases h)
    subst hG
    refine ⟨_, _, pre16s _ ?_, hrun, hended, _, _, rfl, ?_, ⟨_, rfl⟩, hW, hsame.mono (by decide) (by decide)⟩
    · skip
      show Steps p.tables e below (T16.setTop (mkF m 47 #[.val (.ref a), .val (.ref b), .val (.ref b)] [(.int (1 : Int32))])) _
      refine XS.ifNo X16.here hx rfl (hb hby d2_47) rfl ((if0 _ _).trans (feq (by decide : ¬ ((1 : Int32) = (0 : Int32)))).1) ?_
      show Steps p.tables e below (T16.setTop (mkF m 50 #[.val (.ref a), .val (.ref b), .val (.ref b)] [])) _
      refine XS.iconst X16.here hx rfl (hb hby d2_50) ?_
      show Steps p.tables e below (T16.setTop (mkF m 51 #[.val (.ref a), .val (.ref b), .val (.ref b)] [(.int (1 : Int32))])) _
      refine XS.goto X16.here hx rfl (pc0 := 51) (pc' := 55) rfl (hb hby d2_51) (by decide) (by decide) ?_
      show Steps p.tables e below (T16.setTop (mkF m 55 #[.val (.ref a), .val (.ref b), .val (.ref b)] [(.int (1 : Int32))])) _
      exact retN X16 hx (t := .boolean) Bd.returns (by simp) (hb hby d2_55) hr
    · show Q_rm_es8 Z a b va vb k1 k2 cs x0 x1 x2 x3 x4 x5 x6 x7 h0 n0 _ T16.heap _
      rw [e16]
      exact ⟨rfl, N16, rfl⟩
theorem pn_1 : plainName "com/example/restate/restate/Address$Kind" = true := by first | (simp [plainName, overriddenIn]; done) | decide +kernel
theorem ef_1_R (m : MethodId) (x0 : Addr) : entryFrame m #[(.ref x0)] 1 = mkF m 0 #[.val (.ref x0)] [] := by first | (simp [entryFrame, mkF, argsToLocals, Value.category]; done) | rfl
theorem d1_0 : decode prog_5_method_4_code 0 = .ok (.aload_n 0, 1) := by decide +kernel
theorem d1_1 : decode prog_5_method_4_code 1 = .ok (.getfield 40, 3) := by decide +kernel
theorem d1_4 : decode prog_5_method_4_code 4 = .ok (.areturn, 1) := by decide +kernel
def Q_rm1 (Z : State) (a r : Addr) (h0 : Heap) (n0 : Nat) (v : Option Value) (h : Heap) (L : List Loc) : Prop := v = some (.ref r) ∧ Fr n0 L ∧ h = h0
set_option maxRecDepth 65536 in
set_option maxHeartbeats 40000000 in
theorem rm1 (l : Launch) (Z : State) (a0 : Array Value) (hw : ∀ d ∈ tables_1, d.before a0 Z = true) (ws : List Jvm.Cond) (a r : Addr) (h0 : Heap) (n0 : Nat) (Z0 : n0 ≤ h0.size) (F : Fld Z h0 a "com/example/restate/restate/Address$Kind" "word" "Ljava/lang/String;" (.ref r)) :
    MetFree l (⟨"com/example/restate/restate/Address$Kind", "word", "()Ljava/lang/String;"⟩ : MethodName) (head1 (Jvm.Cond.code (⟨"com/example/restate/restate/Address$Kind", "word", "()Ljava/lang/String;"⟩ : MethodName) prog_5_method_4_code 1 (some (.object "java/lang/String")) :: ws) ({ frames := 0, cells := 0, slots := 0, locals := 0 } : Room)) (fun argv U => argv = #[(.ref a)] ∧ Z.Warmed39 U.vm ∧ U.heap = h0) (fun _ _ _ _ _ => True) (fun _ U o U' => ∃ v L, o = .returned v ∧ Q_rm1 Z a r h0 n0 v U'.heap L ∧ FrameEnd U o U' L ({ frames := 0, cells := 0, slots := 0, locals := 0 } : Room).cells ({ frames := 0, cells := 0, slots := 0, locals := 0 } : Room).slots) := by
  refine MetFree.of_bodySF (plainFor_of_name pn_1) hisR ?_
  intro p e s m args below meth c s₁ Bd hml0 hP hK
  obtain ⟨rfl, hZ, hh⟩ := hP
  have hx := Bd.exec
  have hby := Bd.bytes
  have hml : c.maxLocals = 1 := hml0
  have hown : s.vm.findClass "com/example/restate/restate/Address$Kind" = some m.cls := findClass_of_methodNamed Bd.named
  have hnm := (name_of_methodNamed Bd.named Bd.method).1
  have X0 : Stand p l e ({ frames := 0, cells := 0, slots := 0, locals := 0 } : Room) s m #[(.ref a)] below meth c s₁ [] 0 0 := Stand.of_body Bd
  have e0 : s₁.heap = h0 := by rw [← hh, Bd.state]; rfl
  have N0 := Fr.nil n0
  obtain ⟨G, hG⟩ : ∃ G : State → Prop, G = fun tg => Steps p.tables e below (s₁.setTop (entryFrame m #[(.ref a)] 1)) tg := ⟨_, rfl⟩
  have pre0 : ∀ tg, Steps p.tables e below (s₁.setTop (mkF m 0 #[.val (.ref a)] [])) tg → G tg := fun tg kt => by rw [hG]; exact castTop (ef_1_R m a) kt
  have pre1 : ∀ tg, Steps p.tables e below (s₁.setTop (mkF m 1 #[.val (.ref a)] [(.ref a)])) tg → G tg := fun tg kt => pre0 tg (by
    show Steps p.tables e below (s₁.setTop (mkF m 0 #[.val (.ref a)] [])) _
    refine XS.aloadN X0.here hx rfl (hb hby d1_0) rfl rfl ?_
    exact kt)
  obtain ⟨T2, X2, e2, st2⟩ := getF X0 hx hZ hown (host := "") (Or.inl (hw _ (List.mem_of_getElem? (i := 9) rfl))) Via.refl e0 F (g := (mkF m 1 #[.val (.ref a)] [(.ref a)])) rfl rfl (hb hby d1_1)
  have pre2s : ∀ tg, Steps p.tables e below (T2.setTop (mkF m 4 #[.val (.ref a)] [(.ref r)])) tg → G tg := fun tg kt => pre1 tg (st2 tg kt)
  obtain ⟨fs, hr, hrun, hended, hW, hsame⟩ := X2.leave (v := some (.ref r)) (fun h => by rw [Bd.returns] at h; cases h)
  subst hG
  refine ⟨_, _, pre2s _ ?_, hrun, hended, _, _, rfl, ?_, ⟨_, rfl⟩, hW, hsame.mono (by decide) (by decide)⟩
  · skip
    show Steps p.tables e below (T2.setTop (mkF m 4 #[.val (.ref a)] [(.ref r)])) _
    jvm_step X2.here [X2.here.top, hx, (hb hby d1_4), X2.method', Bd.returns, Value.isRef, FieldType.isReference]
    first | (intro acts; rw [hr _ acts rfl rfl rfl]) | rw [hr _ _ rfl rfl rfl]
    exact Steps.refl _
  · show Q_rm1 Z a r h0 n0 _ T2.heap _
    rw [e2]
    exact ⟨rfl, N0, rfl⟩
theorem pn_4 : plainName "com/example/restate/restate/Address$Kind" = true := by first | (simp [plainName, overriddenIn]; done) | decide +kernel
theorem ef_4_R (m : MethodId) (x0 : Addr) : entryFrame m #[(.ref x0)] 1 = mkF m 0 #[.val (.ref x0)] [] := by first | (simp [entryFrame, mkF, argsToLocals, Value.category]; done) | rfl
theorem d4_0 : decode prog_5_method_5_code 0 = .ok (.aload_n 0, 1) := by decide +kernel
theorem d4_1 : decode prog_5_method_5_code 1 = .ok (.getstatic 12, 3) := by decide +kernel
theorem d4_4 : decode prog_5_method_5_code 4 = .ok (.if_acmp .eq 17, 3) := by decide +kernel
theorem d4_7 : decode prog_5_method_5_code 7 = .ok (.aload_n 0, 1) := by decide +kernel
theorem d4_8 : decode prog_5_method_5_code 8 = .ok (.getstatic 15, 3) := by decide +kernel
theorem d4_11 : decode prog_5_method_5_code 11 = .ok (.if_acmp .eq 10, 3) := by decide +kernel
theorem d4_14 : decode prog_5_method_5_code 14 = .ok (.aload_n 0, 1) := by decide +kernel
theorem d4_15 : decode prog_5_method_5_code 15 = .ok (.getstatic 18, 3) := by decide +kernel
theorem d4_18 : decode prog_5_method_5_code 18 = .ok (.if_acmp .ne 7, 3) := by decide +kernel
theorem d4_21 : decode prog_5_method_5_code 21 = .ok (.iconst 1, 1) := by decide +kernel
theorem d4_22 : decode prog_5_method_5_code 22 = .ok (.goto 4, 3) := by decide +kernel
theorem d4_25 : decode prog_5_method_5_code 25 = .ok (.iconst 0, 1) := by decide +kernel
theorem d4_26 : decode prog_5_method_5_code 26 = .ok (.ireturn, 1) := by decide +kernel
def Q_rm4 (Z : State) (a s_SCHEDULE s_EXHIBIT s_ANNEX : Addr) (h0 : Heap) (n0 : Nat) (v : Option Value) (h : Heap) (L : List Loc) : Prop := v = some (.int (if a = s_SCHEDULE then 1 else if a = s_EXHIBIT then 1 else if a = s_ANNEX then 1 else 0)) ∧ Fr n0 L ∧ h = h0
set_option maxRecDepth 65536 in
set_option maxHeartbeats 40000000 in
theorem rm4 (l : Launch) (Z : State) (a0 : Array Value) (hw : ∀ d ∈ tables_1, d.before a0 Z = true) (ws : List Jvm.Cond) (a s_SCHEDULE s_EXHIBIT s_ANNEX : Addr) (h0 : Heap) (n0 : Nat) (Z0 : n0 ≤ h0.size) (S_SCHEDULE : Sta Z h0 "com/example/restate/restate/Address$Kind" "SCHEDULE" "Lcom/example/restate/restate/Address$Kind;" (.ref s_SCHEDULE)) (S_EXHIBIT : Sta Z h0 "com/example/restate/restate/Address$Kind" "EXHIBIT" "Lcom/example/restate/restate/Address$Kind;" (.ref s_EXHIBIT)) (S_ANNEX : Sta Z h0 "com/example/restate/restate/Address$Kind" "ANNEX" "Lcom/example/restate/restate/Address$Kind;" (.ref s_ANNEX)) :
    MetFree l (⟨"com/example/restate/restate/Address$Kind", "isAttachment", "()Z"⟩ : MethodName) (head1 (Jvm.Cond.code (⟨"com/example/restate/restate/Address$Kind", "isAttachment", "()Z"⟩ : MethodName) prog_5_method_5_code 1 (some .boolean) :: ws) ({ frames := 0, cells := 0, slots := 0, locals := 0 } : Room)) (fun argv U => argv = #[(.ref a)] ∧ Z.Warmed39 U.vm ∧ U.heap = h0) (fun _ _ _ _ _ => True) (fun _ U o U' => ∃ v L, o = .returned v ∧ Q_rm4 Z a s_SCHEDULE s_EXHIBIT s_ANNEX h0 n0 v U'.heap L ∧ FrameEnd U o U' L ({ frames := 0, cells := 0, slots := 0, locals := 0 } : Room).cells ({ frames := 0, cells := 0, slots := 0, locals := 0 } : Room).slots) := by
  refine MetFree.of_bodySF (plainFor_of_name pn_4) hisR ?_
  intro p e s m args below meth c s₁ Bd hml0 hP hK
  obtain ⟨rfl, hZ, hh⟩ := hP
  have hx := Bd.exec
  have hby := Bd.bytes
  have hml : c.maxLocals = 1 := hml0
  have hown : s.vm.findClass "com/example/restate/restate/Address$Kind" = some m.cls := findClass_of_methodNamed Bd.named
  have hnm := (name_of_methodNamed Bd.named Bd.method).1
  have X0 : Stand p l e ({ frames := 0, cells := 0, slots := 0, locals := 0 } : Room) s m #[(.ref a)] below meth c s₁ [] 0 0 := Stand.of_body Bd
  have e0 : s₁.heap = h0 := by rw [← hh, Bd.state]; rfl
  have N0 := Fr.nil n0
  obtain ⟨G, hG⟩ : ∃ G : State → Prop, G = fun tg => Steps p.tables e below (s₁.setTop (entryFrame m #[(.ref a)] 1)) tg := ⟨_, rfl⟩
  have pre0 : ∀ tg, Steps p.tables e below (s₁.setTop (mkF m 0 #[.val (.ref a)] [])) tg → G tg := fun tg kt => by rw [hG]; exact castTop (ef_4_R m a) kt
  have pre1 : ∀ tg, Steps p.tables e below (s₁.setTop (mkF m 1 #[.val (.ref a)] [(.ref a)])) tg → G tg := fun tg kt => pre0 tg (by
    show Steps p.tables e below (s₁.setTop (mkF m 0 #[.val (.ref a)] [])) _
    refine XS.aloadN X0.here hx rfl (hb hby d4_0) rfl rfl ?_
    exact kt)
  obtain ⟨T2, X2, e2, st2⟩ := getS2 X0 hx hZ hown (host := "") (Or.inl (hw _ (List.mem_of_getElem? (i := 40) rfl))) Via.refl e0 S_SCHEDULE (g := (mkF m 1 #[.val (.ref a)] [(.ref a)])) rfl (hb hby d4_1)
  have pre2s : ∀ tg, Steps p.tables e below (T2.setTop (mkF m 4 #[.val (.ref a)] [(.ref s_SCHEDULE), (.ref a)])) tg → G tg := fun tg kt => pre1 tg (st2 tg kt)
  by_cases c0 : a = s_SCHEDULE
  · skip
    obtain ⟨fs, hr, hrun, hended, hW, hsame⟩ := X2.leave (v := some (.int (1 : Int32))) (fun h => by rw [Bd.returns] at h; cases h)
    subst hG
    refine ⟨_, _, pre2s _ ?_, hrun, hended, _, _, rfl, ?_, ⟨_, rfl⟩, hW, hsame.mono (by decide) (by decide)⟩
    · skip
      show Steps p.tables e below (T2.setTop (mkF m 4 #[.val (.ref a)] [(.ref s_SCHEDULE), (.ref a)])) _
      refine Jvm.RoadKit.acmp (g := (mkF m 4 #[.val (.ref a)] [(.ref s_SCHEDULE), (.ref a)])) X2 hx rfl rfl rfl (pc0 := 4) (pc' := 21) (same := true) rfl (hb hby d4_4) rfl (decide_eq_true (congrArg Value.ref c0)) (by decide) (by decide) ?_
      show Steps p.tables e below (T2.setTop (mkF m 21 #[.val (.ref a)] [])) _
      refine XS.iconst X2.here hx rfl (hb hby d4_21) ?_
      show Steps p.tables e below (T2.setTop (mkF m 22 #[.val (.ref a)] [(.int (1 : Int32))])) _
      refine XS.goto X2.here hx rfl (pc0 := 22) (pc' := 26) rfl (hb hby d4_22) (by decide) (by decide) ?_
      show Steps p.tables e below (T2.setTop (mkF m 26 #[.val (.ref a)] [(.int (1 : Int32))])) _
      exact retN X2 hx (t := .boolean) Bd.returns (by simp) (hb hby d4_26) hr
    · show Q_rm4 Z a s_SCHEDULE s_EXHIBIT s_ANNEX h0 n0 _ T2.heap _
      rw [e2]
      exact ⟨by simp only [if_pos c0], N0, rfl⟩
  · skip
    have pre3 : ∀ tg, Steps p.tables e below (T2.setTop (mkF m 8 #[.val (.ref a)] [(.ref a)])) tg → G tg := fun tg kt => pre2s tg (by
      show Steps p.tables e below (T2.setTop (mkF m 4 #[.val (.ref a)] [(.ref s_SCHEDULE), (.ref a)])) _
      refine Jvm.RoadKit.acmp (g := (mkF m 4 #[.val (.ref a)] [(.ref s_SCHEDULE), (.ref a)])) X2 hx rfl rfl rfl (pc0 := 4) (pc' := 7) (same := false) rfl (hb hby d4_4) rfl (decide_eq_false (fun q => c0 (Value.ref.inj q))) (by decide) (by decide) ?_
      show Steps p.tables e below (T2.setTop (mkF m 7 #[.val (.ref a)] [])) _
      refine XS.aloadN X2.here hx rfl (hb hby d4_7) rfl rfl ?_
      exact kt)
    obtain ⟨T4, X4, e4, st4⟩ := getS2 X2 hx hZ hown (host := "") (Or.inl (hw _ (List.mem_of_getElem? (i := 42) rfl))) Via.refl e2 S_EXHIBIT (g := (mkF m 8 #[.val (.ref a)] [(.ref a)])) rfl (hb hby d4_8)
    have pre4s : ∀ tg, Steps p.tables e below (T4.setTop (mkF m 11 #[.val (.ref a)] [(.ref s_EXHIBIT), (.ref a)])) tg → G tg := fun tg kt => pre3 tg (st4 tg kt)
    by_cases c1 : a = s_EXHIBIT
    · skip
      obtain ⟨fs, hr, hrun, hended, hW, hsame⟩ := X4.leave (v := some (.int (1 : Int32))) (fun h => by rw [Bd.returns] at h; cases h)
      subst hG
      refine ⟨_, _, pre4s _ ?_, hrun, hended, _, _, rfl, ?_, ⟨_, rfl⟩, hW, hsame.mono (by decide) (by decide)⟩
      · skip
        show Steps p.tables e below (T4.setTop (mkF m 11 #[.val (.ref a)] [(.ref s_EXHIBIT), (.ref a)])) _
        refine Jvm.RoadKit.acmp (g := (mkF m 11 #[.val (.ref a)] [(.ref s_EXHIBIT), (.ref a)])) X4 hx rfl rfl rfl (pc0 := 11) (pc' := 21) (same := true) rfl (hb hby d4_11) rfl (decide_eq_true (congrArg Value.ref c1)) (by decide) (by decide) ?_
        show Steps p.tables e below (T4.setTop (mkF m 21 #[.val (.ref a)] [])) _
        refine XS.iconst X4.here hx rfl (hb hby d4_21) ?_
        show Steps p.tables e below (T4.setTop (mkF m 22 #[.val (.ref a)] [(.int (1 : Int32))])) _
        refine XS.goto X4.here hx rfl (pc0 := 22) (pc' := 26) rfl (hb hby d4_22) (by decide) (by decide) ?_
        show Steps p.tables e below (T4.setTop (mkF m 26 #[.val (.ref a)] [(.int (1 : Int32))])) _
        exact retN X4 hx (t := .boolean) Bd.returns (by simp) (hb hby d4_26) hr
      · show Q_rm4 Z a s_SCHEDULE s_EXHIBIT s_ANNEX h0 n0 _ T4.heap _
        rw [e4]
        exact ⟨by simp only [if_neg c0, if_pos c1], N0, rfl⟩
    · skip
      have pre5 : ∀ tg, Steps p.tables e below (T4.setTop (mkF m 15 #[.val (.ref a)] [(.ref a)])) tg → G tg := fun tg kt => pre4s tg (by
        show Steps p.tables e below (T4.setTop (mkF m 11 #[.val (.ref a)] [(.ref s_EXHIBIT), (.ref a)])) _
        refine Jvm.RoadKit.acmp (g := (mkF m 11 #[.val (.ref a)] [(.ref s_EXHIBIT), (.ref a)])) X4 hx rfl rfl rfl (pc0 := 11) (pc' := 14) (same := false) rfl (hb hby d4_11) rfl (decide_eq_false (fun q => c1 (Value.ref.inj q))) (by decide) (by decide) ?_
        show Steps p.tables e below (T4.setTop (mkF m 14 #[.val (.ref a)] [])) _
        refine XS.aloadN X4.here hx rfl (hb hby d4_14) rfl rfl ?_
        exact kt)
      obtain ⟨T6, X6, e6, st6⟩ := getS2 X4 hx hZ hown (host := "") (Or.inl (hw _ (List.mem_of_getElem? (i := 44) rfl))) Via.refl e4 S_ANNEX (g := (mkF m 15 #[.val (.ref a)] [(.ref a)])) rfl (hb hby d4_15)
      have pre6s : ∀ tg, Steps p.tables e below (T6.setTop (mkF m 18 #[.val (.ref a)] [(.ref s_ANNEX), (.ref a)])) tg → G tg := fun tg kt => pre5 tg (st6 tg kt)
      by_cases c2 : a = s_ANNEX
      · skip
        obtain ⟨fs, hr, hrun, hended, hW, hsame⟩ := X6.leave (v := some (.int (1 : Int32))) (fun h => by rw [Bd.returns] at h; cases h)
        subst hG
        refine ⟨_, _, pre6s _ ?_, hrun, hended, _, _, rfl, ?_, ⟨_, rfl⟩, hW, hsame.mono (by decide) (by decide)⟩
        · skip
          show Steps p.tables e below (T6.setTop (mkF m 18 #[.val (.ref a)] [(.ref s_ANNEX), (.ref a)])) _
          refine Jvm.RoadKit.acmp (g := (mkF m 18 #[.val (.ref a)] [(.ref s_ANNEX), (.ref a)])) X6 hx rfl rfl rfl (pc0 := 18) (pc' := 21) (same := true) rfl (hb hby d4_18) rfl (decide_eq_true (congrArg Value.ref c2)) (by decide) (by decide) ?_
          show Steps p.tables e below (T6.setTop (mkF m 21 #[.val (.ref a)] [])) _
          refine XS.iconst X6.here hx rfl (hb hby d4_21) ?_
          show Steps p.tables e below (T6.setTop (mkF m 22 #[.val (.ref a)] [(.int (1 : Int32))])) _
          refine XS.goto X6.here hx rfl (pc0 := 22) (pc' := 26) rfl (hb hby d4_22) (by decide) (by decide) ?_
          show Steps p.tables e below (T6.setTop (mkF m 26 #[.val (.ref a)] [(.int (1 : Int32))])) _
          exact retN X6 hx (t := .boolean) Bd.returns (by simp) (hb hby d4_26) hr
        · show Q_rm4 Z a s_SCHEDULE s_EXHIBIT s_ANNEX h0 n0 _ T6.heap _
          rw [e6]
          exact ⟨by simp only [if_neg c0, if_neg c1, if_pos c2], N0, rfl⟩
      · skip
        obtain ⟨fs, hr, hrun, hended, hW, hsame⟩ := X6.leave (v := some (.int (0 : Int32))) (fun h => by rw [Bd.returns] at h; cases h)
        subst hG
        refine ⟨_, _, pre6s _ ?_, hrun, hended, _, _, rfl, ?_, ⟨_, rfl⟩, hW, hsame.mono (by decide) (by decide)⟩
        · skip
          show Steps p.tables e below (T6.setTop (mkF m 18 #[.val (.ref a)] [(.ref s_ANNEX), (.ref a)])) _
          refine Jvm.RoadKit.acmp (g := (mkF m 18 #[.val (.ref a)] [(.ref s_ANNEX), (.ref a)])) X6 hx rfl rfl rfl (pc0 := 18) (pc' := 25) (same := false) rfl (hb hby d4_18) rfl (decide_eq_false (fun q => c2 (Value.ref.inj q))) (by decide) (by decide) ?_
          show Steps p.tables e below (T6.setTop (mkF m 25 #[.val (.ref a)] [])) _
          refine XS.iconst X6.here hx rfl (hb hby d4_25) ?_
          show Steps p.tables e below (T6.setTop (mkF m 26 #[.val (.ref a)] [(.int (0 : Int32))])) _
          exact retN X6 hx (t := .boolean) Bd.returns (by simp) (hb hby d4_26) hr
        · show Q_rm4 Z a s_SCHEDULE s_EXHIBIT s_ANNEX h0 n0 _ T6.heap _
          rw [e6]
          exact ⟨by simp only [if_neg c0, if_neg c1, if_neg c2], N0, rfl⟩
theorem pn_0 : plainName "com/example/restate/restate/KindIsAttachmentPinLaw" = true := by first | (simp [plainName, overriddenIn]; done) | decide +kernel
theorem ef_0_I (m : MethodId) (x0 : Int32) : entryFrame m #[(.int x0)] maxLocals = mkF m 0 #[.val (.int x0), .unset, .unset, .unset, .unset, .unset, .unset] [] := by first | (simp [entryFrame, mkF, argsToLocals, Value.category, maxLocals]; done) | rfl
theorem own_lt2 {i : Int32} (h : i = (0 : Int32) ∨ i = (1 : Int32)) : i < (2 : Int32) := by rcases h with rfl | rfl <;> decide
theorem own_ge2 (p0 : Int32) (h0 : ¬ ((p0 &&& (2147483647 : Int32)) % (5 : Int32)) = (0 : Int32)) (h1 : ¬ ((p0 &&& (2147483647 : Int32)) % (5 : Int32)) = (1 : Int32)) : ¬ ((p0 &&& (2147483647 : Int32)) % (5 : Int32)) < (2 : Int32) := by
  have e1 := c_mask p0 2147483647 31 (by decide) (by decide)
  have e2 := (c_irem (p0 &&& 2147483647) 5 5 (by decide)).1 (by omega)
  rw [← Int32.toInt_inj] at h0 h1
  rw [Int32.lt_iff_toInt_lt]
  have z0 : (0 : Int32).toInt = 0 := by decide
  have z1 : (1 : Int32).toInt = 1 := by decide
  have z2 : (2 : Int32).toInt = 2 := by decide
  omega
theorem pd_1 : parseMethodDescriptor "()Ljava/lang/String;" = some ⟨[], some (.object "java/lang/String")⟩ := by decide +kernel
theorem pd_2 : parseMethodDescriptor "(Ljava/lang/Object;)Z" = some ⟨[(.object "java/lang/Object")], some .boolean⟩ := by decide +kernel
theorem pd_3 : parseMethodDescriptor "()Z" = some ⟨[], some .boolean⟩ := by decide +kernel
def Q_rm0 (Z : State) (p0 cs : Int32) (s_ARTICLE w_ARTICLE v_ARTICLE s_SECTION w_SECTION v_SECTION s_SCHEDULE w_SCHEDULE v_SCHEDULE s_EXHIBIT w_EXHIBIT v_EXHIBIT s_ANNEX w_ANNEX v_ANNEX : Addr) (k_ARTICLE k_SECTION k_SCHEDULE k_EXHIBIT k_ANNEX : ClassId) (h0 : Heap) (n0 : Nat) (v : Option Value) (h : Heap) (L : List Loc) : Prop := v = some (.int 1) ∧ Fr n0 L
set_option maxRecDepth 65536 in
set_option maxHeartbeats 40000000 in
theorem rm0 (l : Launch) (Z : State) (a0 : Array Value) (hw : ∀ d ∈ tables_1, d.before a0 Z = true) (ws : List Jvm.Cond) (p0 cs : Int32) (s_ARTICLE w_ARTICLE v_ARTICLE s_SECTION w_SECTION v_SECTION s_SCHEDULE w_SCHEDULE v_SCHEDULE s_EXHIBIT w_EXHIBIT v_EXHIBIT s_ANNEX w_ANNEX v_ANNEX : Addr) (k_ARTICLE k_SECTION k_SCHEDULE k_EXHIBIT k_ANNEX : ClassId) (h0 : Heap) (n0 : Nat) (Z0 : n0 ≤ h0.size) (hsz : n0 = h0.size) (Ol : Old Z n0 h0) (S_c : Sta Z h0 "java/lang/String" "COMPACT_STRINGS" "Z" (.int cs)) (hcs : ¬ cs = (0 : Int32)) (hcw : Jvm.Lit.compactW.before a0 Z = true) (wS : ∀ a ∈ Bundle.stringAtoms, a.before a0 Z = true) (hc30 : Jvm.Lit.constHeld Z "com/example/restate/restate/KindIsAttachmentPinLaw" 30) (hc38 : Jvm.Lit.constHeld Z "com/example/restate/restate/KindIsAttachmentPinLaw" 38) (hc40 : Jvm.Lit.constHeld Z "com/example/restate/restate/KindIsAttachmentPinLaw" 40) (S_ARTICLE : Sta Z h0 "com/example/restate/restate/Address$Kind" "ARTICLE" "Lcom/example/restate/restate/Address$Kind;" (.ref s_ARTICLE)) (E_ARTICLE : Exa Z h0 s_ARTICLE "com/example/restate/restate/Address$Kind") (Fw_ARTICLE : Fld Z h0 s_ARTICLE "com/example/restate/restate/Address$Kind" "word" "Ljava/lang/String;" (.ref w_ARTICLE)) (Ew_ARTICLE : Exa Z h0 w_ARTICLE "java/lang/String") (Fc_ARTICLE : Fld Z h0 w_ARTICLE "java/lang/String" "coder" "B" (.int 0)) (Fv_ARTICLE : Fld Z h0 w_ARTICLE "java/lang/String" "value" "[B" (.ref v_ARTICLE)) (V_ARTICLE : Arv Z h0 v_ARTICLE k_ARTICLE .byte (7 : Int32) [(.int (65 : Int32)), (.int (114 : Int32)), (.int (116 : Int32)), (.int (105 : Int32)), (.int (99 : Int32)), (.int (108 : Int32)), (.int (101 : Int32))] (.int (0 : Int32))) (S_SECTION : Sta Z h0 "com/example/restate/restate/Address$Kind" "SECTION" "Lcom/example/restate/restate/Address$Kind;" (.ref s_SECTION)) (E_SECTION : Exa Z h0 s_SECTION "com/example/restate/restate/Address$Kind") (Fw_SECTION : Fld Z h0 s_SECTION "com/example/restate/restate/Address$Kind" "word" "Ljava/lang/String;" (.ref w_SECTION)) (Ew_SECTION : Exa Z h0 w_SECTION "java/lang/String") (Fc_SECTION : Fld Z h0 w_SECTION "java/lang/String" "coder" "B" (.int 0)) (Fv_SECTION : Fld Z h0 w_SECTION "java/lang/String" "value" "[B" (.ref v_SECTION)) (V_SECTION : Arv Z h0 v_SECTION k_SECTION .byte (7 : Int32) [(.int (83 : Int32)), (.int (101 : Int32)), (.int (99 : Int32)), (.int (116 : Int32)), (.int (105 : Int32)), (.int (111 : Int32)), (.int (110 : Int32))] (.int (0 : Int32))) (S_SCHEDULE : Sta Z h0 "com/example/restate/restate/Address$Kind" "SCHEDULE" "Lcom/example/restate/restate/Address$Kind;" (.ref s_SCHEDULE)) (E_SCHEDULE : Exa Z h0 s_SCHEDULE "com/example/restate/restate/Address$Kind") (Fw_SCHEDULE : Fld Z h0 s_SCHEDULE "com/example/restate/restate/Address$Kind" "word" "Ljava/lang/String;" (.ref w_SCHEDULE)) (Ew_SCHEDULE : Exa Z h0 w_SCHEDULE "java/lang/String") (Fc_SCHEDULE : Fld Z h0 w_SCHEDULE "java/lang/String" "coder" "B" (.int 0)) (Fv_SCHEDULE : Fld Z h0 w_SCHEDULE "java/lang/String" "value" "[B" (.ref v_SCHEDULE)) (V_SCHEDULE : Arv Z h0 v_SCHEDULE k_SCHEDULE .byte (8 : Int32) [(.int (83 : Int32)), (.int (99 : Int32)), (.int (104 : Int32)), (.int (101 : Int32)), (.int (100 : Int32)), (.int (117 : Int32)), (.int (108 : Int32)), (.int (101 : Int32))] (.int (0 : Int32))) (S_EXHIBIT : Sta Z h0 "com/example/restate/restate/Address$Kind" "EXHIBIT" "Lcom/example/restate/restate/Address$Kind;" (.ref s_EXHIBIT)) (E_EXHIBIT : Exa Z h0 s_EXHIBIT "com/example/restate/restate/Address$Kind") (Fw_EXHIBIT : Fld Z h0 s_EXHIBIT "com/example/restate/restate/Address$Kind" "word" "Ljava/lang/String;" (.ref w_EXHIBIT)) (Ew_EXHIBIT : Exa Z h0 w_EXHIBIT "java/lang/String") (Fc_EXHIBIT : Fld Z h0 w_EXHIBIT "java/lang/String" "coder" "B" (.int 0)) (Fv_EXHIBIT : Fld Z h0 w_EXHIBIT "java/lang/String" "value" "[B" (.ref v_EXHIBIT)) (V_EXHIBIT : Arv Z h0 v_EXHIBIT k_EXHIBIT .byte (7 : Int32) [(.int (69 : Int32)), (.int (120 : Int32)), (.int (104 : Int32)), (.int (105 : Int32)), (.int (98 : Int32)), (.int (105 : Int32)), (.int (116 : Int32))] (.int (0 : Int32))) (S_ANNEX : Sta Z h0 "com/example/restate/restate/Address$Kind" "ANNEX" "Lcom/example/restate/restate/Address$Kind;" (.ref s_ANNEX)) (E_ANNEX : Exa Z h0 s_ANNEX "com/example/restate/restate/Address$Kind") (Fw_ANNEX : Fld Z h0 s_ANNEX "com/example/restate/restate/Address$Kind" "word" "Ljava/lang/String;" (.ref w_ANNEX)) (Ew_ANNEX : Exa Z h0 w_ANNEX "java/lang/String") (Fc_ANNEX : Fld Z h0 w_ANNEX "java/lang/String" "coder" "B" (.int 0)) (Fv_ANNEX : Fld Z h0 w_ANNEX "java/lang/String" "value" "[B" (.ref v_ANNEX)) (V_ANNEX : Arv Z h0 v_ANNEX k_ANNEX .byte (5 : Int32) [(.int (65 : Int32)), (.int (110 : Int32)), (.int (110 : Int32)), (.int (101 : Int32)), (.int (120 : Int32))] (.int (0 : Int32))) (ne_ARTICLE_SCHEDULE : s_ARTICLE ≠ s_SCHEDULE) (ne_ARTICLE_EXHIBIT : s_ARTICLE ≠ s_EXHIBIT) (ne_ARTICLE_ANNEX : s_ARTICLE ≠ s_ANNEX) (ne_SECTION_SCHEDULE : s_SECTION ≠ s_SCHEDULE) (ne_SECTION_EXHIBIT : s_SECTION ≠ s_EXHIBIT) (ne_SECTION_ANNEX : s_SECTION ≠ s_ANNEX) (ne_EXHIBIT_SCHEDULE : s_EXHIBIT ≠ s_SCHEDULE) (ne_ANNEX_SCHEDULE : s_ANNEX ≠ s_SCHEDULE) (ne_ANNEX_EXHIBIT : s_ANNEX ≠ s_EXHIBIT) :
    MetFree l x (head1 (Jvm.Cond.code x code maxLocals ret :: ws) room_1) (fun argv U => argv = #[(.int p0)] ∧ Z.Warmed39 U.vm ∧ U.heap = h0 ∧ U.vm.interned = Z.vm.interned) (fun _ _ _ _ _ => True) (fun _ U o U' => ∃ v L, o = .returned v ∧ Q_rm0 Z p0 cs s_ARTICLE w_ARTICLE v_ARTICLE s_SECTION w_SECTION v_SECTION s_SCHEDULE w_SCHEDULE v_SCHEDULE s_EXHIBIT w_EXHIBIT v_EXHIBIT s_ANNEX w_ANNEX v_ANNEX k_ARTICLE k_SECTION k_SCHEDULE k_EXHIBIT k_ANNEX h0 n0 v U'.heap L ∧ ReturnedEndW U o U' L 8 3136) := by
  refine MetFree.of_bodySF (plainFor_of_name pn_0) hisR ?_
  intro p e s m args below meth c s₁ Bd hml0 hP hK
  obtain ⟨rfl, hZ, hh, hint⟩ := hP
  have hx := Bd.exec
  have hby := Bd.bytes
  have hml : c.maxLocals = 7 := hml0
  have hown : s.vm.findClass "com/example/restate/restate/KindIsAttachmentPinLaw" = some m.cls := findClass_of_methodNamed Bd.named
  have hnm := (name_of_methodNamed Bd.named Bd.method).1
  have X0 : Stand p l e room_1 s m #[(.int p0)] below meth c s₁ [] 0 0 := Stand.of_body Bd
  have e0 : s₁.heap = h0 := by rw [← hh, Bd.state]; rfl
  have N0 := Fr.nil n0
  obtain ⟨G, hG⟩ : ∃ G : State → Prop, G = fun tg => Steps p.tables e below (s₁.setTop (entryFrame m #[(.int p0)] maxLocals)) tg := ⟨_, rfl⟩
  have pre0 : ∀ tg, Steps p.tables e below (s₁.setTop (mkF m 0 #[.val (.int p0), .unset, .unset, .unset, .unset, .unset, .unset] [])) tg → G tg := fun tg kt => by rw [hG]; exact castTop (ef_0_I m p0) kt
  have hS : s.Since s.vm 0 := (State.WarmedH.refl s).since 0
  have hkz : 0 ≤ h0.size := Nat.zero_le _
  have IB0 : IB Z s.vm [] := ⟨#[], by simp [hint], fun q hq => by simp at hq⟩
  have X0 : Stand p l e room_1 (s.setVm s.vm) m #[(.int p0)] below meth c s₁ [] 0 0 := X0
  have hkeep : ∀ (b : Addr) (cl : Cell), Z.heap[b]? = some cl → s.heap[b]? = some cl := fun b cl q => by rw [hh]; exact Ol.2.2 b cl q
  have pre1 : ∀ tg, Steps p.tables e below (s₁.setTop (mkF m 8 #[.val (.int p0), .val (.int ((p0 &&& (2147483647 : Int32)) % (5 : Int32))), .unset, .unset, .unset, .unset, .unset] [(.int ((p0 &&& (2147483647 : Int32)) % (5 : Int32)))])) tg → G tg := fun tg kt => pre0 tg (by
    show Steps p.tables e below (s₁.setTop (mkF m 0 #[.val (.int p0), .unset, .unset, .unset, .unset, .unset, .unset] [])) _
    refine XS.iloadN X0.here hx rfl (hb hby at_0) rfl ?_
    show Steps p.tables e below (s₁.setTop (mkF m 1 #[.val (.int p0), .unset, .unset, .unset, .unset, .unset, .unset] [(.int p0)])) _
    refine X0.ldcInt hx hown (mvT hZ (hw _ (List.mem_of_getElem? (i := 0) rfl))) (g := (mkF m 1 #[.val (.int p0), .unset, .unset, .unset, .unset, .unset, .unset] [(.int p0)])) rfl (hb hby at_1) _ ?_
    show Steps p.tables e below (s₁.setTop (mkF m 3 #[.val (.int p0), .unset, .unset, .unset, .unset, .unset, .unset] [(.int (2147483647 : Int32)), (.int p0)])) _
    refine XS.iand X0.here hx rfl (hb hby at_3) rfl ?_
    show Steps p.tables e below (s₁.setTop (mkF m 4 #[.val (.int p0), .unset, .unset, .unset, .unset, .unset, .unset] [(.int (p0 &&& (2147483647 : Int32)))])) _
    refine XS.iconst X0.here hx rfl (hb hby at_4) ?_
    show Steps p.tables e below (s₁.setTop (mkF m 5 #[.val (.int p0), .unset, .unset, .unset, .unset, .unset, .unset] [(.int (5 : Int32)), (.int (p0 &&& (2147483647 : Int32)))])) _
    refine iremM X0 hx rfl (hb hby at_5) rfl (by decide) ?_
    show Steps p.tables e below (s₁.setTop (mkF m 6 #[.val (.int p0), .unset, .unset, .unset, .unset, .unset, .unset] [(.int ((p0 &&& (2147483647 : Int32)) % (5 : Int32)))])) _
    refine XS.istoreN X0.here hx rfl (hb hby at_6) rfl (l' := #[.val (.int p0), .val (.int ((p0 &&& (2147483647 : Int32)) % (5 : Int32))), .unset, .unset, .unset, .unset, .unset]) rfl ?_
    show Steps p.tables e below (s₁.setTop (mkF m 7 #[.val (.int p0), .val (.int ((p0 &&& (2147483647 : Int32)) % (5 : Int32))), .unset, .unset, .unset, .unset, .unset] [])) _
    refine XS.iloadN X0.here hx rfl (hb hby at_7) rfl ?_
    exact kt)
  by_cases hk0 : ((p0 &&& (2147483647 : Int32)) % (5 : Int32)) = (0 : Int32)
  · -- hk0
    have hk2 := own_lt2 (Or.inl hk0)
    have pre2 : ∀ tg, Steps p.tables e below (s₁.setTop (mkF m 11 #[.val (.int p0), .val (.int ((p0 &&& (2147483647 : Int32)) % (5 : Int32))), .unset, .unset, .unset, .unset, .unset] [])) tg → G tg := fun tg kt => pre1 tg (by
      show Steps p.tables e below (s₁.setTop (mkF m 8 #[.val (.int p0), .val (.int ((p0 &&& (2147483647 : Int32)) % (5 : Int32))), .unset, .unset, .unset, .unset, .unset] [(.int ((p0 &&& (2147483647 : Int32)) % (5 : Int32)))])) _
      refine XS.ifNo X0.here hx rfl (hb hby at_8) rfl ((if0 _ _).trans (teq hk0).2) ?_
      exact kt)
    obtain ⟨T3, X3, e3, st3⟩ := getS2 X0 hx hZ hown (host := "") (Or.inl (hw _ (List.mem_of_getElem? (i := 1) rfl))) Via.refl e0 S_ARTICLE (g := (mkF m 11 #[.val (.int p0), .val (.int ((p0 &&& (2147483647 : Int32)) % (5 : Int32))), .unset, .unset, .unset, .unset, .unset] [])) rfl (hb hby at_11)
    have pre3s : ∀ tg, Steps p.tables e below (T3.setTop (mkF m 14 #[.val (.int p0), .val (.int ((p0 &&& (2147483647 : Int32)) % (5 : Int32))), .unset, .unset, .unset, .unset, .unset] [(.ref s_ARTICLE)])) tg → G tg := fun tg kt => pre2 tg (st3 tg kt)
    have pre4 : ∀ tg, Steps p.tables e below (T3.setTop (mkF m 70 #[.val (.int p0), .val (.int ((p0 &&& (2147483647 : Int32)) % (5 : Int32))), .val (.ref s_ARTICLE), .val (.int (0 : Int32)), .unset, .unset, .unset] [(.ref s_ARTICLE)])) tg → G tg := fun tg kt => pre3s tg (by
      show Steps p.tables e below (T3.setTop (mkF m 14 #[.val (.int p0), .val (.int ((p0 &&& (2147483647 : Int32)) % (5 : Int32))), .unset, .unset, .unset, .unset, .unset] [(.ref s_ARTICLE)])) _
      refine XS.astoreN X3.here hx rfl (hb hby at_14) rfl rfl (l' := #[.val (.int p0), .val (.int ((p0 &&& (2147483647 : Int32)) % (5 : Int32))), .val (.ref s_ARTICLE), .unset, .unset, .unset, .unset]) rfl ?_
      show Steps p.tables e below (T3.setTop (mkF m 15 #[.val (.int p0), .val (.int ((p0 &&& (2147483647 : Int32)) % (5 : Int32))), .val (.ref s_ARTICLE), .unset, .unset, .unset, .unset] [])) _
      refine XS.goto X3.here hx rfl (pc0 := 15) (pc' := 58) rfl (hb hby at_15) (by decide) (by decide) ?_
      show Steps p.tables e below (T3.setTop (mkF m 58 #[.val (.int p0), .val (.int ((p0 &&& (2147483647 : Int32)) % (5 : Int32))), .val (.ref s_ARTICLE), .unset, .unset, .unset, .unset] [])) _
      refine XS.iloadN X3.here hx rfl (hb hby at_58) rfl ?_
      show Steps p.tables e below (T3.setTop (mkF m 59 #[.val (.int p0), .val (.int ((p0 &&& (2147483647 : Int32)) % (5 : Int32))), .val (.ref s_ARTICLE), .unset, .unset, .unset, .unset] [(.int ((p0 &&& (2147483647 : Int32)) % (5 : Int32)))])) _
      refine XS.iconst X3.here hx rfl (hb hby at_59) ?_
      show Steps p.tables e below (T3.setTop (mkF m 60 #[.val (.int p0), .val (.int ((p0 &&& (2147483647 : Int32)) % (5 : Int32))), .val (.ref s_ARTICLE), .unset, .unset, .unset, .unset] [(.int (2 : Int32)), (.int ((p0 &&& (2147483647 : Int32)) % (5 : Int32)))])) _
      refine XS.icmpYes X3.here hx rfl (pc0 := 60) (pc' := 67) rfl (hb hby at_60) rfl (tlt hk2).1 (by decide) (by decide) ?_
      show Steps p.tables e below (T3.setTop (mkF m 67 #[.val (.int p0), .val (.int ((p0 &&& (2147483647 : Int32)) % (5 : Int32))), .val (.ref s_ARTICLE), .unset, .unset, .unset, .unset] [])) _
      refine XS.iconst X3.here hx rfl (hb hby at_67) ?_
      show Steps p.tables e below (T3.setTop (mkF m 68 #[.val (.int p0), .val (.int ((p0 &&& (2147483647 : Int32)) % (5 : Int32))), .val (.ref s_ARTICLE), .unset, .unset, .unset, .unset] [(.int (0 : Int32))])) _
      refine XS.istoreN X3.here hx rfl (hb hby at_68) rfl (l' := #[.val (.int p0), .val (.int ((p0 &&& (2147483647 : Int32)) % (5 : Int32))), .val (.ref s_ARTICLE), .val (.int (0 : Int32)), .unset, .unset, .unset]) rfl ?_
      show Steps p.tables e below (T3.setTop (mkF m 69 #[.val (.int p0), .val (.int ((p0 &&& (2147483647 : Int32)) % (5 : Int32))), .val (.ref s_ARTICLE), .val (.int (0 : Int32)), .unset, .unset, .unset] [])) _
      refine XS.aloadN X3.here hx rfl (hb hby at_69) rfl rfl ?_
      exact kt)
    obtain ⟨cq5, kq5, q5a, q5b, q5c⟩ := isOf hZ e3 E_ARTICLE
    obtain ⟨_, _, ⟨T5, L5, k5, n5⟩, -, X5, ⟨Lc5, hQ5, l5, y5, z5⟩, st5⟩ := X3.virtualBack hx (y := (⟨"com/example/restate/restate/Address$Kind", "word", "()Ljava/lang/String;"⟩ : MethodName)) (z := (⟨"com/example/restate/restate/Address$Kind", "word", "()Ljava/lang/String;"⟩ : MethodName)) hown (mvT hZ (hw _ (List.mem_of_getElem? (i := 4) rfl))) (mvT hZ (hw _ (List.mem_of_getElem? (i := 5) rfl))) (notFace_of_selects (args := #[]) (mvT hZ (hw _ (List.mem_of_getElem? (i := 7) rfl)))) (mvT hZ (hw _ (List.mem_of_getElem? (i := 7) rfl))) (mvT hZ (hw _ (List.mem_of_getElem? (i := 6) rfl))) (by decide) (backOf (W := 0) (rm1 l Z a0 hw [] s_ARTICLE w_ARTICLE h0 n0 Z0 Fw_ARTICLE) hZ (hw _ (List.mem_of_getElem? (i := 8) rfl)) (hw _ (List.mem_of_getElem? (i := 2) rfl)) (by decide) (by decide)) q5a q5c (g := (mkF m 70 #[.val (.int p0), .val (.int ((p0 &&& (2147483647 : Int32)) % (5 : Int32))), .val (.ref s_ARTICLE), .val (.int (0 : Int32)), .unset, .unset, .unset] [(.ref s_ARTICLE)])) rfl (by rw [hml]; rfl) (Steps.refl _) (argsL := []) (rest := []) (lenOf pd_1 rfl) rfl (by show 2 * 0 + _ ≤ _; exact Nat.le_of_eq rfl) (hb hby at_70) (fun _ _ => ⟨rfl, e3, (Nat.le_of_ble_eq_true rfl), (Nat.le_of_ble_eq_true rfl)⟩)
    dsimp only [Pt.U, Pt.locs, Pt.cells, Pt.slots] at X5 l5 y5 z5 st5 hQ5
    subst l5 y5 z5
    obtain ⟨rfl, N5q, e5⟩ := hQ5
    have N5 := Fr.app N0 N5q
    have pre5s : ∀ tg, Steps p.tables e below (T5.setTop (mkF m 73 #[.val (.int p0), .val (.int ((p0 &&& (2147483647 : Int32)) % (5 : Int32))), .val (.ref s_ARTICLE), .val (.int (0 : Int32)), .unset, .unset, .unset] [(.ref w_ARTICLE)])) tg → G tg := fun tg kt => pre4 tg (st5.trans kt)
    have pre6 : ∀ tg, Steps p.tables e below (T5.setTop (mkF m 77 #[.val (.int p0), .val (.int ((p0 &&& (2147483647 : Int32)) % (5 : Int32))), .val (.ref s_ARTICLE), .val (.int (0 : Int32)), .val (.ref w_ARTICLE), .unset, .unset] [(.ref w_ARTICLE)])) tg → G tg := fun tg kt => pre5s tg (by
      show Steps p.tables e below (T5.setTop (mkF m 73 #[.val (.int p0), .val (.int ((p0 &&& (2147483647 : Int32)) % (5 : Int32))), .val (.ref s_ARTICLE), .val (.int (0 : Int32)), .unset, .unset, .unset] [(.ref w_ARTICLE)])) _
      refine XS.astore X5.here hx rfl (hb hby at_73) rfl rfl (l' := #[.val (.int p0), .val (.int ((p0 &&& (2147483647 : Int32)) % (5 : Int32))), .val (.ref s_ARTICLE), .val (.int (0 : Int32)), .val (.ref w_ARTICLE), .unset, .unset]) rfl ?_
      show Steps p.tables e below (T5.setTop (mkF m 75 #[.val (.int p0), .val (.int ((p0 &&& (2147483647 : Int32)) % (5 : Int32))), .val (.ref s_ARTICLE), .val (.int (0 : Int32)), .val (.ref w_ARTICLE), .unset, .unset] [])) _
      refine XS.aload X5.here hx rfl (hb hby at_75) rfl rfl ?_
      exact kt)
    obtain ⟨l0, T7, h7, kk7, lb0, k7, X7, e7, E7, hS7, hk7, hZ, hown, E_l0, C_l0, F_l0, V_l0, -, -, IB7, -, st7⟩ := ldcSVL (vm0 := s.vm) (s := s) X5 hx hZ hown (hw _ (List.mem_of_getElem? (i := 11) rfl)) wS e5 hS hkz (by rw [hh, ← hsz]; exact N5) hkeep IB0 (by decide) hc30 hcw (vs := [(.int (83 : Int32)), (.int (99 : Int32)), (.int (104 : Int32)), (.int (101 : Int32)), (.int (100 : Int32)), (.int (117 : Int32)), (.int (108 : Int32)), (.int (101 : Int32))]) (z := (8 : Int32)) ⟨by decide, by decide⟩ (by decide) (by decide) (g := (mkF m 77 #[.val (.int p0), .val (.int ((p0 &&& (2147483647 : Int32)) % (5 : Int32))), .val (.ref s_ARTICLE), .val (.int (0 : Int32)), .val (.ref w_ARTICLE), .unset, .unset] [(.ref w_ARTICLE)])) rfl (hb hby at_77) (n := 32) (by decide) (by decide) (by decide) (by decide)
    have pre7s : ∀ tg, Steps p.tables e below (T7.setTop (mkF m 79 #[.val (.int p0), .val (.int ((p0 &&& (2147483647 : Int32)) % (5 : Int32))), .val (.ref s_ARTICLE), .val (.int (0 : Int32)), .val (.ref w_ARTICLE), .unset, .unset] [(.ref l0), (.ref w_ARTICLE)])) tg → G tg := fun tg kt => pre6 tg (st7 tg kt)
    have S_c_8 := S_c.ext E7
    have S_ARTICLE_9 := S_ARTICLE.ext E7
    have E_ARTICLE_10 := E_ARTICLE.ext E7
    have Ew_ARTICLE_11 := Ew_ARTICLE.ext E7
    have Fw_ARTICLE_12 := Fw_ARTICLE.ext E7
    have Fc_ARTICLE_13 := Fc_ARTICLE.ext E7
    have Fv_ARTICLE_14 := Fv_ARTICLE.ext E7
    have V_ARTICLE_15 := V_ARTICLE.ext E7
    have S_SECTION_16 := S_SECTION.ext E7
    have S_SCHEDULE_17 := S_SCHEDULE.ext E7
    have S_EXHIBIT_18 := S_EXHIBIT.ext E7
    have S_ANNEX_19 := S_ANNEX.ext E7
    have Ol20 := Ol.ext E7
    have Z7 : n0 ≤ h7.size := Nat.le_trans Z0 E7.1
    have nv21 : v_ARTICLE ≠ lb0 := arv_ne V_ARTICLE_15 V_l0 (Or.inl (by decide))
    have nw21 : w_ARTICLE ≠ l0 := Fld.ne Fv_ARTICLE_14 F_l0 (fun q => nv21 (Value.ref.inj q))
    obtain ⟨cq22, kq22, q22a, q22b, q22c⟩ := isOf hZ e7 Ew_ARTICLE_11
    obtain ⟨_, _, ⟨T22, L22, k22, n22⟩, -, X22, ⟨Lc22, hQ22, l22, y22, z22⟩, st22⟩ := X7.virtualBack hx (y := (⟨"java/lang/String", "equals", "(Ljava/lang/Object;)Z"⟩ : MethodName)) (z := (⟨"java/lang/String", "equals", "(Ljava/lang/Object;)Z"⟩ : MethodName)) hown (mvT hZ (hw _ (List.mem_of_getElem? (i := 19) rfl))) (mvT hZ (hw _ (List.mem_of_getElem? (i := 20) rfl))) (notFace_of_selects (args := #[]) (mvT hZ (hw _ (List.mem_of_getElem? (i := 22) rfl)))) (mvT hZ (hw _ (List.mem_of_getElem? (i := 22) rfl))) (mvT hZ (hw _ (List.mem_of_getElem? (i := 21) rfl))) (by decide) (backOf (W := 0) (rm_eld l Z a0 hw [] w_ARTICLE l0 v_ARTICLE lb0 k_ARTICLE k7 cs (7 : Int32) (8 : Int32) [(.int (65 : Int32)), (.int (114 : Int32)), (.int (116 : Int32)), (.int (105 : Int32)), (.int (99 : Int32)), (.int (108 : Int32)), (.int (101 : Int32))] [(.int (83 : Int32)), (.int (99 : Int32)), (.int (104 : Int32)), (.int (101 : Int32)), (.int (100 : Int32)), (.int (117 : Int32)), (.int (108 : Int32)), (.int (101 : Int32))] h7 n0 Z7 S_c_8 hcs E_l0 Fc_ARTICLE_13 C_l0 Fv_ARTICLE_14 F_l0 V_ARTICLE_15 V_l0 (by decide) nw21) hZ (hw _ (List.mem_of_getElem? (i := 23) rfl)) (hw _ (List.mem_of_getElem? (i := 12) rfl)) (by decide) (by decide)) q22a q22c (g := (mkF m 79 #[.val (.int p0), .val (.int ((p0 &&& (2147483647 : Int32)) % (5 : Int32))), .val (.ref s_ARTICLE), .val (.int (0 : Int32)), .val (.ref w_ARTICLE), .unset, .unset] [(.ref l0), (.ref w_ARTICLE)])) rfl (by rw [hml]; rfl) (Steps.refl _) (argsL := [(.ref l0)]) (rest := []) (lenOf pd_2 rfl) rfl (by show 2 * 0 + _ ≤ _; exact Nat.le_of_eq rfl) (hb hby at_79) (fun _ _ => ⟨rfl, e7, (Nat.le_of_ble_eq_true rfl), (Nat.le_of_ble_eq_true rfl)⟩)
    dsimp only [Pt.U, Pt.locs, Pt.cells, Pt.slots] at X22 l22 y22 z22 st22 hQ22
    subst l22 y22 z22
    obtain ⟨rfl, N22q, e22⟩ := hQ22
    have N22 := Fr.app N5 N22q
    have pre22s : ∀ tg, Steps p.tables e below (T22.setTop (mkF m 82 #[.val (.int p0), .val (.int ((p0 &&& (2147483647 : Int32)) % (5 : Int32))), .val (.ref s_ARTICLE), .val (.int (0 : Int32)), .val (.ref w_ARTICLE), .unset, .unset] [(.int (0 : Int32))])) tg → G tg := fun tg kt => pre7s tg (st22.trans kt)
    have pre23 : ∀ tg, Steps p.tables e below (T22.setTop (mkF m 87 #[.val (.int p0), .val (.int ((p0 &&& (2147483647 : Int32)) % (5 : Int32))), .val (.ref s_ARTICLE), .val (.int (0 : Int32)), .val (.ref w_ARTICLE), .unset, .unset] [(.ref w_ARTICLE)])) tg → G tg := fun tg kt => pre22s tg (by
      show Steps p.tables e below (T22.setTop (mkF m 82 #[.val (.int p0), .val (.int ((p0 &&& (2147483647 : Int32)) % (5 : Int32))), .val (.ref s_ARTICLE), .val (.int (0 : Int32)), .val (.ref w_ARTICLE), .unset, .unset] [(.int (0 : Int32))])) _
      refine XS.ifNo X22.here hx rfl (hb hby at_82) rfl ((if0 _ _).trans (teq (by decide : (0 : Int32) = (0 : Int32))).2) ?_
      show Steps p.tables e below (T22.setTop (mkF m 85 #[.val (.int p0), .val (.int ((p0 &&& (2147483647 : Int32)) % (5 : Int32))), .val (.ref s_ARTICLE), .val (.int (0 : Int32)), .val (.ref w_ARTICLE), .unset, .unset] [])) _
      refine XS.aload X22.here hx rfl (hb hby at_85) rfl rfl ?_
      exact kt)
    obtain ⟨l1, T24, h24, kk24, lb1, k24, X24, e24, E24, hS24, hk24, hZ, hown, E_l1, C_l1, F_l1, V_l1, -, -, IB24, -, st24⟩ := ldcSVL (vm0 := T7.vm) (s := s) X22 hx hZ hown (hw _ (List.mem_of_getElem? (i := 33) rfl)) wS e22 hS7 hk7 (by rw [hh, ← hsz]; exact N22) hkeep IB7 (by decide) hc38 hcw (vs := [(.int (69 : Int32)), (.int (120 : Int32)), (.int (104 : Int32)), (.int (105 : Int32)), (.int (98 : Int32)), (.int (105 : Int32)), (.int (116 : Int32))]) (z := (7 : Int32)) ⟨by decide, by decide⟩ (by decide) (by decide) (g := (mkF m 87 #[.val (.int p0), .val (.int ((p0 &&& (2147483647 : Int32)) % (5 : Int32))), .val (.ref s_ARTICLE), .val (.int (0 : Int32)), .val (.ref w_ARTICLE), .unset, .unset] [(.ref w_ARTICLE)])) rfl (hb hby at_87) (n := 28) (by decide) (by decide) (by decide) (by decide)
    have pre24s : ∀ tg, Steps p.tables e below (T24.setTop (mkF m 89 #[.val (.int p0), .val (.int ((p0 &&& (2147483647 : Int32)) % (5 : Int32))), .val (.ref s_ARTICLE), .val (.int (0 : Int32)), .val (.ref w_ARTICLE), .unset, .unset] [(.ref l1), (.ref w_ARTICLE)])) tg → G tg := fun tg kt => pre23 tg (st24 tg kt)
    have S_c_25 := S_c_8.ext E24
    have S_ARTICLE_26 := S_ARTICLE_9.ext E24
    have E_ARTICLE_27 := E_ARTICLE_10.ext E24
    have Ew_ARTICLE_28 := Ew_ARTICLE_11.ext E24
    have Fw_ARTICLE_29 := Fw_ARTICLE_12.ext E24
    have Fc_ARTICLE_30 := Fc_ARTICLE_13.ext E24
    have Fv_ARTICLE_31 := Fv_ARTICLE_14.ext E24
    have V_ARTICLE_32 := V_ARTICLE_15.ext E24
    have S_SECTION_33 := S_SECTION_16.ext E24
    have S_SCHEDULE_34 := S_SCHEDULE_17.ext E24
    have S_EXHIBIT_35 := S_EXHIBIT_18.ext E24
    have S_ANNEX_36 := S_ANNEX_19.ext E24
    have E_l0_37 := E_l0.ext E24
    have C_l0_38 := C_l0.ext E24
    have F_l0_39 := F_l0.ext E24
    have V_l0_40 := V_l0.ext E24
    have Ol41 := Ol20.ext E24
    have Z24 : n0 ≤ h24.size := Nat.le_trans Z7 E24.1
    have nv42 : v_ARTICLE ≠ lb1 := arv_ne V_ARTICLE_32 V_l1 (Or.inr ⟨0, by decide, by decide⟩)
    have nw42 : w_ARTICLE ≠ l1 := Fld.ne Fv_ARTICLE_31 F_l1 (fun q => nv42 (Value.ref.inj q))
    obtain ⟨cq43, kq43, q43a, q43b, q43c⟩ := isOf hZ e24 Ew_ARTICLE_28
    obtain ⟨_, _, ⟨T43, L43, k43, n43⟩, -, X43, ⟨Lc43, hQ43, l43, y43, z43⟩, st43⟩ := X24.virtualBack hx (y := (⟨"java/lang/String", "equals", "(Ljava/lang/Object;)Z"⟩ : MethodName)) (z := (⟨"java/lang/String", "equals", "(Ljava/lang/Object;)Z"⟩ : MethodName)) hown (mvT hZ (hw _ (List.mem_of_getElem? (i := 19) rfl))) (mvT hZ (hw _ (List.mem_of_getElem? (i := 20) rfl))) (notFace_of_selects (args := #[]) (mvT hZ (hw _ (List.mem_of_getElem? (i := 22) rfl)))) (mvT hZ (hw _ (List.mem_of_getElem? (i := 22) rfl))) (mvT hZ (hw _ (List.mem_of_getElem? (i := 21) rfl))) (by decide) (backOf (W := 0) (rm_efd l Z a0 hw [] w_ARTICLE l1 v_ARTICLE lb1 k_ARTICLE k24 cs (65 : Int32) (114 : Int32) (116 : Int32) (105 : Int32) (99 : Int32) (108 : Int32) (101 : Int32) (69 : Int32) (120 : Int32) (104 : Int32) (105 : Int32) (98 : Int32) (105 : Int32) (116 : Int32) h24 n0 Z24 S_c_25 hcs E_l1 Fc_ARTICLE_30 C_l1 Fv_ARTICLE_31 F_l1 V_ARTICLE_32 V_l1 (by decide) nw42) hZ (hw _ (List.mem_of_getElem? (i := 23) rfl)) (hw _ (List.mem_of_getElem? (i := 12) rfl)) (by decide) (by decide)) q43a q43c (g := (mkF m 89 #[.val (.int p0), .val (.int ((p0 &&& (2147483647 : Int32)) % (5 : Int32))), .val (.ref s_ARTICLE), .val (.int (0 : Int32)), .val (.ref w_ARTICLE), .unset, .unset] [(.ref l1), (.ref w_ARTICLE)])) rfl (by rw [hml]; rfl) (Steps.refl _) (argsL := [(.ref l1)]) (rest := []) (lenOf pd_2 rfl) rfl (by show 2 * 0 + _ ≤ _; exact Nat.le_of_eq rfl) (hb hby at_89) (fun _ _ => ⟨rfl, e24, (Nat.le_of_ble_eq_true rfl), (Nat.le_of_ble_eq_true rfl)⟩)
    dsimp only [Pt.U, Pt.locs, Pt.cells, Pt.slots] at X43 l43 y43 z43 st43 hQ43
    subst l43 y43 z43
    obtain ⟨rfl, N43q, e43⟩ := hQ43
    have N43 := Fr.app N22 N43q
    have pre43s : ∀ tg, Steps p.tables e below (T43.setTop (mkF m 92 #[.val (.int p0), .val (.int ((p0 &&& (2147483647 : Int32)) % (5 : Int32))), .val (.ref s_ARTICLE), .val (.int (0 : Int32)), .val (.ref w_ARTICLE), .unset, .unset] [(.int (0 : Int32))])) tg → G tg := fun tg kt => pre24s tg (st43.trans kt)
    have pre44 : ∀ tg, Steps p.tables e below (T43.setTop (mkF m 97 #[.val (.int p0), .val (.int ((p0 &&& (2147483647 : Int32)) % (5 : Int32))), .val (.ref s_ARTICLE), .val (.int (0 : Int32)), .val (.ref w_ARTICLE), .unset, .unset] [(.ref w_ARTICLE)])) tg → G tg := fun tg kt => pre43s tg (by
      show Steps p.tables e below (T43.setTop (mkF m 92 #[.val (.int p0), .val (.int ((p0 &&& (2147483647 : Int32)) % (5 : Int32))), .val (.ref s_ARTICLE), .val (.int (0 : Int32)), .val (.ref w_ARTICLE), .unset, .unset] [(.int (0 : Int32))])) _
      refine XS.ifNo X43.here hx rfl (hb hby at_92) rfl ((if0 _ _).trans (teq (by decide : (0 : Int32) = (0 : Int32))).2) ?_
      show Steps p.tables e below (T43.setTop (mkF m 95 #[.val (.int p0), .val (.int ((p0 &&& (2147483647 : Int32)) % (5 : Int32))), .val (.ref s_ARTICLE), .val (.int (0 : Int32)), .val (.ref w_ARTICLE), .unset, .unset] [])) _
      refine XS.aload X43.here hx rfl (hb hby at_95) rfl rfl ?_
      exact kt)
    obtain ⟨l2, T45, h45, kk45, lb2, k45, X45, e45, E45, hS45, hk45, hZ, hown, E_l2, C_l2, F_l2, V_l2, -, -, IB45, -, st45⟩ := ldcSVL (vm0 := T24.vm) (s := s) X43 hx hZ hown (hw _ (List.mem_of_getElem? (i := 34) rfl)) wS e43 hS24 hk24 (by rw [hh, ← hsz]; exact N43) hkeep IB24 (by decide) hc40 hcw (vs := [(.int (65 : Int32)), (.int (110 : Int32)), (.int (110 : Int32)), (.int (101 : Int32)), (.int (120 : Int32))]) (z := (5 : Int32)) ⟨by decide, by decide⟩ (by decide) (by decide) (g := (mkF m 97 #[.val (.int p0), .val (.int ((p0 &&& (2147483647 : Int32)) % (5 : Int32))), .val (.ref s_ARTICLE), .val (.int (0 : Int32)), .val (.ref w_ARTICLE), .unset, .unset] [(.ref w_ARTICLE)])) rfl (hb hby at_97) (n := 20) (by decide) (by decide) (by decide) (by decide)
    have pre45s : ∀ tg, Steps p.tables e below (T45.setTop (mkF m 99 #[.val (.int p0), .val (.int ((p0 &&& (2147483647 : Int32)) % (5 : Int32))), .val (.ref s_ARTICLE), .val (.int (0 : Int32)), .val (.ref w_ARTICLE), .unset, .unset] [(.ref l2), (.ref w_ARTICLE)])) tg → G tg := fun tg kt => pre44 tg (st45 tg kt)
    have S_c_46 := S_c_25.ext E45
    have S_ARTICLE_47 := S_ARTICLE_26.ext E45
    have E_ARTICLE_48 := E_ARTICLE_27.ext E45
    have Ew_ARTICLE_49 := Ew_ARTICLE_28.ext E45
    have Fw_ARTICLE_50 := Fw_ARTICLE_29.ext E45
    have Fc_ARTICLE_51 := Fc_ARTICLE_30.ext E45
    have Fv_ARTICLE_52 := Fv_ARTICLE_31.ext E45
    have V_ARTICLE_53 := V_ARTICLE_32.ext E45
    have S_SECTION_54 := S_SECTION_33.ext E45
    have S_SCHEDULE_55 := S_SCHEDULE_34.ext E45
    have S_EXHIBIT_56 := S_EXHIBIT_35.ext E45
    have S_ANNEX_57 := S_ANNEX_36.ext E45
    have E_l0_58 := E_l0_37.ext E45
    have C_l0_59 := C_l0_38.ext E45
    have F_l0_60 := F_l0_39.ext E45
    have V_l0_61 := V_l0_40.ext E45
    have E_l1_62 := E_l1.ext E45
    have C_l1_63 := C_l1.ext E45
    have F_l1_64 := F_l1.ext E45
    have V_l1_65 := V_l1.ext E45
    have Ol66 := Ol41.ext E45
    have Z45 : n0 ≤ h45.size := Nat.le_trans Z24 E45.1
    have nv67 : v_ARTICLE ≠ lb2 := arv_ne V_ARTICLE_53 V_l2 (Or.inl (by decide))
    have nw67 : w_ARTICLE ≠ l2 := Fld.ne Fv_ARTICLE_52 F_l2 (fun q => nv67 (Value.ref.inj q))
    obtain ⟨cq68, kq68, q68a, q68b, q68c⟩ := isOf hZ e45 Ew_ARTICLE_49
    obtain ⟨_, _, ⟨T68, L68, k68, n68⟩, -, X68, ⟨Lc68, hQ68, l68, y68, z68⟩, st68⟩ := X45.virtualBack hx (y := (⟨"java/lang/String", "equals", "(Ljava/lang/Object;)Z"⟩ : MethodName)) (z := (⟨"java/lang/String", "equals", "(Ljava/lang/Object;)Z"⟩ : MethodName)) hown (mvT hZ (hw _ (List.mem_of_getElem? (i := 19) rfl))) (mvT hZ (hw _ (List.mem_of_getElem? (i := 20) rfl))) (notFace_of_selects (args := #[]) (mvT hZ (hw _ (List.mem_of_getElem? (i := 22) rfl)))) (mvT hZ (hw _ (List.mem_of_getElem? (i := 22) rfl))) (mvT hZ (hw _ (List.mem_of_getElem? (i := 21) rfl))) (by decide) (backOf (W := 0) (rm_eld l Z a0 hw [] w_ARTICLE l2 v_ARTICLE lb2 k_ARTICLE k45 cs (7 : Int32) (5 : Int32) [(.int (65 : Int32)), (.int (114 : Int32)), (.int (116 : Int32)), (.int (105 : Int32)), (.int (99 : Int32)), (.int (108 : Int32)), (.int (101 : Int32))] [(.int (65 : Int32)), (.int (110 : Int32)), (.int (110 : Int32)), (.int (101 : Int32)), (.int (120 : Int32))] h45 n0 Z45 S_c_46 hcs E_l2 Fc_ARTICLE_51 C_l2 Fv_ARTICLE_52 F_l2 V_ARTICLE_53 V_l2 (by decide) nw67) hZ (hw _ (List.mem_of_getElem? (i := 23) rfl)) (hw _ (List.mem_of_getElem? (i := 12) rfl)) (by decide) (by decide)) q68a q68c (g := (mkF m 99 #[.val (.int p0), .val (.int ((p0 &&& (2147483647 : Int32)) % (5 : Int32))), .val (.ref s_ARTICLE), .val (.int (0 : Int32)), .val (.ref w_ARTICLE), .unset, .unset] [(.ref l2), (.ref w_ARTICLE)])) rfl (by rw [hml]; rfl) (Steps.refl _) (argsL := [(.ref l2)]) (rest := []) (lenOf pd_2 rfl) rfl (by show 2 * 0 + _ ≤ _; exact Nat.le_of_eq rfl) (hb hby at_99) (fun _ _ => ⟨rfl, e45, (Nat.le_of_ble_eq_true rfl), (Nat.le_of_ble_eq_true rfl)⟩)
    dsimp only [Pt.U, Pt.locs, Pt.cells, Pt.slots] at X68 l68 y68 z68 st68 hQ68
    subst l68 y68 z68
    obtain ⟨rfl, N68q, e68⟩ := hQ68
    have N68 := Fr.app N43 N68q
    have pre68s : ∀ tg, Steps p.tables e below (T68.setTop (mkF m 102 #[.val (.int p0), .val (.int ((p0 &&& (2147483647 : Int32)) % (5 : Int32))), .val (.ref s_ARTICLE), .val (.int (0 : Int32)), .val (.ref w_ARTICLE), .unset, .unset] [(.int (0 : Int32))])) tg → G tg := fun tg kt => pre45s tg (st68.trans kt)
    have pre69 : ∀ tg, Steps p.tables e below (T68.setTop (mkF m 113 #[.val (.int p0), .val (.int ((p0 &&& (2147483647 : Int32)) % (5 : Int32))), .val (.ref s_ARTICLE), .val (.int (0 : Int32)), .val (.ref w_ARTICLE), .val (.int (0 : Int32)), .unset] [(.ref s_ARTICLE)])) tg → G tg := fun tg kt => pre68s tg (by
      show Steps p.tables e below (T68.setTop (mkF m 102 #[.val (.int p0), .val (.int ((p0 &&& (2147483647 : Int32)) % (5 : Int32))), .val (.ref s_ARTICLE), .val (.int (0 : Int32)), .val (.ref w_ARTICLE), .unset, .unset] [(.int (0 : Int32))])) _
      refine XS.ifYes X68.here hx rfl (pc0 := 102) (pc' := 109) rfl (hb hby at_102) rfl ((if0 _ _).trans (teq (by decide : (0 : Int32) = (0 : Int32))).1) (by decide) (by decide) ?_
      show Steps p.tables e below (T68.setTop (mkF m 109 #[.val (.int p0), .val (.int ((p0 &&& (2147483647 : Int32)) % (5 : Int32))), .val (.ref s_ARTICLE), .val (.int (0 : Int32)), .val (.ref w_ARTICLE), .unset, .unset] [])) _
      refine XS.iconst X68.here hx rfl (hb hby at_109) ?_
      show Steps p.tables e below (T68.setTop (mkF m 110 #[.val (.int p0), .val (.int ((p0 &&& (2147483647 : Int32)) % (5 : Int32))), .val (.ref s_ARTICLE), .val (.int (0 : Int32)), .val (.ref w_ARTICLE), .unset, .unset] [(.int (0 : Int32))])) _
      refine XS.istore X68.here hx rfl (hb hby at_110) rfl (l' := #[.val (.int p0), .val (.int ((p0 &&& (2147483647 : Int32)) % (5 : Int32))), .val (.ref s_ARTICLE), .val (.int (0 : Int32)), .val (.ref w_ARTICLE), .val (.int (0 : Int32)), .unset]) rfl ?_
      show Steps p.tables e below (T68.setTop (mkF m 112 #[.val (.int p0), .val (.int ((p0 &&& (2147483647 : Int32)) % (5 : Int32))), .val (.ref s_ARTICLE), .val (.int (0 : Int32)), .val (.ref w_ARTICLE), .val (.int (0 : Int32)), .unset] [])) _
      refine XS.aloadN X68.here hx rfl (hb hby at_112) rfl rfl ?_
      exact kt)
    obtain ⟨cq70, kq70, q70a, q70b, q70c⟩ := isOf hZ e68 E_ARTICLE_48
    obtain ⟨_, _, ⟨T70, L70, k70, n70⟩, -, X70, ⟨Lc70, hQ70, l70, y70, z70⟩, st70⟩ := X68.virtualBack hx (y := (⟨"com/example/restate/restate/Address$Kind", "isAttachment", "()Z"⟩ : MethodName)) (z := (⟨"com/example/restate/restate/Address$Kind", "isAttachment", "()Z"⟩ : MethodName)) hown (mvT hZ (hw _ (List.mem_of_getElem? (i := 35) rfl))) (mvT hZ (hw _ (List.mem_of_getElem? (i := 36) rfl))) (notFace_of_selects (args := #[]) (mvT hZ (hw _ (List.mem_of_getElem? (i := 38) rfl)))) (mvT hZ (hw _ (List.mem_of_getElem? (i := 38) rfl))) (mvT hZ (hw _ (List.mem_of_getElem? (i := 37) rfl))) (by decide) (backOf (W := 0) (rm4 l Z a0 hw [] s_ARTICLE s_SCHEDULE s_EXHIBIT s_ANNEX h45 n0 Z45 S_SCHEDULE_55 S_EXHIBIT_56 S_ANNEX_57) hZ (hw _ (List.mem_of_getElem? (i := 39) rfl)) (hw _ (List.mem_of_getElem? (i := 2) rfl)) (by decide) (by decide)) q70a q70c (g := (mkF m 113 #[.val (.int p0), .val (.int ((p0 &&& (2147483647 : Int32)) % (5 : Int32))), .val (.ref s_ARTICLE), .val (.int (0 : Int32)), .val (.ref w_ARTICLE), .val (.int (0 : Int32)), .unset] [(.ref s_ARTICLE)])) rfl (by rw [hml]; rfl) (Steps.refl _) (argsL := []) (rest := []) (lenOf pd_3 rfl) rfl (by show 2 * 0 + _ ≤ _; exact Nat.le_of_eq rfl) (hb hby at_113) (fun _ _ => ⟨rfl, e68, (Nat.le_of_ble_eq_true rfl), (Nat.le_of_ble_eq_true rfl)⟩)
    dsimp only [Pt.U, Pt.locs, Pt.cells, Pt.slots] at X70 l70 y70 z70 st70 hQ70
    subst l70 y70 z70
    obtain ⟨hv70, N70q, e70⟩ := hQ70
    rw [if_neg ne_ARTICLE_SCHEDULE, if_neg ne_ARTICLE_EXHIBIT, if_neg ne_ARTICLE_ANNEX] at hv70
    subst hv70
    have N70 := Fr.app N68 N70q
    have pre70s : ∀ tg, Steps p.tables e below (T70.setTop (mkF m 116 #[.val (.int p0), .val (.int ((p0 &&& (2147483647 : Int32)) % (5 : Int32))), .val (.ref s_ARTICLE), .val (.int (0 : Int32)), .val (.ref w_ARTICLE), .val (.int (0 : Int32)), .unset] [(.int (0 : Int32))])) tg → G tg := fun tg kt => pre69 tg (st70.trans kt)
    have pre71 : ∀ tg, Steps p.tables e below (T70.setTop (mkF m 136 #[.val (.int p0), .val (.int ((p0 &&& (2147483647 : Int32)) % (5 : Int32))), .val (.ref s_ARTICLE), .val (.int (0 : Int32)), .val (.ref w_ARTICLE), .val (.int (0 : Int32)), .val (.int (0 : Int32))] [(.int (1 : Int32))])) tg → G tg := fun tg kt => pre70s tg (by
      show Steps p.tables e below (T70.setTop (mkF m 116 #[.val (.int p0), .val (.int ((p0 &&& (2147483647 : Int32)) % (5 : Int32))), .val (.ref s_ARTICLE), .val (.int (0 : Int32)), .val (.ref w_ARTICLE), .val (.int (0 : Int32)), .unset] [(.int (0 : Int32))])) _
      refine XS.istore X70.here hx rfl (hb hby at_116) rfl (l' := #[.val (.int p0), .val (.int ((p0 &&& (2147483647 : Int32)) % (5 : Int32))), .val (.ref s_ARTICLE), .val (.int (0 : Int32)), .val (.ref w_ARTICLE), .val (.int (0 : Int32)), .val (.int (0 : Int32))]) rfl ?_
      show Steps p.tables e below (T70.setTop (mkF m 118 #[.val (.int p0), .val (.int ((p0 &&& (2147483647 : Int32)) % (5 : Int32))), .val (.ref s_ARTICLE), .val (.int (0 : Int32)), .val (.ref w_ARTICLE), .val (.int (0 : Int32)), .val (.int (0 : Int32))] [])) _
      refine XS.iload X70.here hx rfl (hb hby at_118) rfl ?_
      show Steps p.tables e below (T70.setTop (mkF m 120 #[.val (.int p0), .val (.int ((p0 &&& (2147483647 : Int32)) % (5 : Int32))), .val (.ref s_ARTICLE), .val (.int (0 : Int32)), .val (.ref w_ARTICLE), .val (.int (0 : Int32)), .val (.int (0 : Int32))] [(.int (0 : Int32))])) _
      refine XS.iloadN X70.here hx rfl (hb hby at_120) rfl ?_
      show Steps p.tables e below (T70.setTop (mkF m 121 #[.val (.int p0), .val (.int ((p0 &&& (2147483647 : Int32)) % (5 : Int32))), .val (.ref s_ARTICLE), .val (.int (0 : Int32)), .val (.ref w_ARTICLE), .val (.int (0 : Int32)), .val (.int (0 : Int32))] [(.int (0 : Int32)), (.int (0 : Int32))])) _
      refine XS.icmpNo X70.here hx rfl (hb hby at_121) rfl (teq (by decide : (0 : Int32) = (0 : Int32))).2 ?_
      show Steps p.tables e below (T70.setTop (mkF m 124 #[.val (.int p0), .val (.int ((p0 &&& (2147483647 : Int32)) % (5 : Int32))), .val (.ref s_ARTICLE), .val (.int (0 : Int32)), .val (.ref w_ARTICLE), .val (.int (0 : Int32)), .val (.int (0 : Int32))] [])) _
      refine XS.iload X70.here hx rfl (hb hby at_124) rfl ?_
      show Steps p.tables e below (T70.setTop (mkF m 126 #[.val (.int p0), .val (.int ((p0 &&& (2147483647 : Int32)) % (5 : Int32))), .val (.ref s_ARTICLE), .val (.int (0 : Int32)), .val (.ref w_ARTICLE), .val (.int (0 : Int32)), .val (.int (0 : Int32))] [(.int (0 : Int32))])) _
      refine XS.iload X70.here hx rfl (hb hby at_126) rfl ?_
      show Steps p.tables e below (T70.setTop (mkF m 128 #[.val (.int p0), .val (.int ((p0 &&& (2147483647 : Int32)) % (5 : Int32))), .val (.ref s_ARTICLE), .val (.int (0 : Int32)), .val (.ref w_ARTICLE), .val (.int (0 : Int32)), .val (.int (0 : Int32))] [(.int (0 : Int32)), (.int (0 : Int32))])) _
      refine XS.icmpNo X70.here hx rfl (hb hby at_128) rfl (teq (by decide : (0 : Int32) = (0 : Int32))).2 ?_
      show Steps p.tables e below (T70.setTop (mkF m 131 #[.val (.int p0), .val (.int ((p0 &&& (2147483647 : Int32)) % (5 : Int32))), .val (.ref s_ARTICLE), .val (.int (0 : Int32)), .val (.ref w_ARTICLE), .val (.int (0 : Int32)), .val (.int (0 : Int32))] [])) _
      refine XS.iconst X70.here hx rfl (hb hby at_131) ?_
      show Steps p.tables e below (T70.setTop (mkF m 132 #[.val (.int p0), .val (.int ((p0 &&& (2147483647 : Int32)) % (5 : Int32))), .val (.ref s_ARTICLE), .val (.int (0 : Int32)), .val (.ref w_ARTICLE), .val (.int (0 : Int32)), .val (.int (0 : Int32))] [(.int (1 : Int32))])) _
      refine XS.goto X70.here hx rfl (pc0 := 132) (pc' := 136) rfl (hb hby at_132) (by decide) (by decide) ?_
      exact kt)
    obtain ⟨fs, hr, hrun, hended, hRE⟩ := X70.leaveW (s := s) (vm₁ := T45.vm) (v := some (.int (1 : Int32))) hS45 (by rw [e70]; exact hk45) (fun h => by rw [Bd.returns] at h; cases h)
    subst hG
    refine ⟨_, _, pre71 _ ?_, hrun, hended, _, _, rfl, ?_, hRE.1, hRE.2.1, hRE.2.2.1, hRE.2.2.2.mono (by decide) (by decide)⟩
    · exact retN X70 hx (t := .boolean) Bd.returns (by simp) (hb hby at_136) hr
    · exact ⟨rfl, N70⟩
  · -- not hk0
    have pre72 : ∀ tg, Steps p.tables e below (s₁.setTop (mkF m 20 #[.val (.int p0), .val (.int ((p0 &&& (2147483647 : Int32)) % (5 : Int32))), .unset, .unset, .unset, .unset, .unset] [(.int (1 : Int32)), (.int ((p0 &&& (2147483647 : Int32)) % (5 : Int32)))])) tg → G tg := fun tg kt => pre1 tg (by
      show Steps p.tables e below (s₁.setTop (mkF m 8 #[.val (.int p0), .val (.int ((p0 &&& (2147483647 : Int32)) % (5 : Int32))), .unset, .unset, .unset, .unset, .unset] [(.int ((p0 &&& (2147483647 : Int32)) % (5 : Int32)))])) _
      refine XS.ifYes X0.here hx rfl (pc0 := 8) (pc' := 18) rfl (hb hby at_8) rfl ((if0 _ _).trans (feq hk0).2) (by decide) (by decide) ?_
      show Steps p.tables e below (s₁.setTop (mkF m 18 #[.val (.int p0), .val (.int ((p0 &&& (2147483647 : Int32)) % (5 : Int32))), .unset, .unset, .unset, .unset, .unset] [])) _
      refine XS.iloadN X0.here hx rfl (hb hby at_18) rfl ?_
      show Steps p.tables e below (s₁.setTop (mkF m 19 #[.val (.int p0), .val (.int ((p0 &&& (2147483647 : Int32)) % (5 : Int32))), .unset, .unset, .unset, .unset, .unset] [(.int ((p0 &&& (2147483647 : Int32)) % (5 : Int32)))])) _
      refine XS.iconst X0.here hx rfl (hb hby at_19) ?_
      exact kt)
    by_cases hk1 : ((p0 &&& (2147483647 : Int32)) % (5 : Int32)) = (1 : Int32)
    · -- hk1
      have hk2 := own_lt2 (Or.inr hk1)
      have pre73 : ∀ tg, Steps p.tables e below (s₁.setTop (mkF m 23 #[.val (.int p0), .val (.int ((p0 &&& (2147483647 : Int32)) % (5 : Int32))), .unset, .unset, .unset, .unset, .unset] [])) tg → G tg := fun tg kt => pre72 tg (by
        show Steps p.tables e below (s₁.setTop (mkF m 20 #[.val (.int p0), .val (.int ((p0 &&& (2147483647 : Int32)) % (5 : Int32))), .unset, .unset, .unset, .unset, .unset] [(.int (1 : Int32)), (.int ((p0 &&& (2147483647 : Int32)) % (5 : Int32)))])) _
        refine XS.icmpNo X0.here hx rfl (hb hby at_20) rfl (teq hk1).2 ?_
        exact kt)
      obtain ⟨T74, X74, e74, st74⟩ := getS2 X0 hx hZ hown (host := "") (Or.inl (hw _ (List.mem_of_getElem? (i := 47) rfl))) Via.refl e0 S_SECTION (g := (mkF m 23 #[.val (.int p0), .val (.int ((p0 &&& (2147483647 : Int32)) % (5 : Int32))), .unset, .unset, .unset, .unset, .unset] [])) rfl (hb hby at_23)
      have pre74s : ∀ tg, Steps p.tables e below (T74.setTop (mkF m 26 #[.val (.int p0), .val (.int ((p0 &&& (2147483647 : Int32)) % (5 : Int32))), .unset, .unset, .unset, .unset, .unset] [(.ref s_SECTION)])) tg → G tg := fun tg kt => pre73 tg (st74 tg kt)
      have pre75 : ∀ tg, Steps p.tables e below (T74.setTop (mkF m 70 #[.val (.int p0), .val (.int ((p0 &&& (2147483647 : Int32)) % (5 : Int32))), .val (.ref s_SECTION), .val (.int (0 : Int32)), .unset, .unset, .unset] [(.ref s_SECTION)])) tg → G tg := fun tg kt => pre74s tg (by
        show Steps p.tables e below (T74.setTop (mkF m 26 #[.val (.int p0), .val (.int ((p0 &&& (2147483647 : Int32)) % (5 : Int32))), .unset, .unset, .unset, .unset, .unset] [(.ref s_SECTION)])) _
        refine XS.astoreN X74.here hx rfl (hb hby at_26) rfl rfl (l' := #[.val (.int p0), .val (.int ((p0 &&& (2147483647 : Int32)) % (5 : Int32))), .val (.ref s_SECTION), .unset, .unset, .unset, .unset]) rfl ?_
        show Steps p.tables e below (T74.setTop (mkF m 27 #[.val (.int p0), .val (.int ((p0 &&& (2147483647 : Int32)) % (5 : Int32))), .val (.ref s_SECTION), .unset, .unset, .unset, .unset] [])) _
        refine XS.goto X74.here hx rfl (pc0 := 27) (pc' := 58) rfl (hb hby at_27) (by decide) (by decide) ?_
        show Steps p.tables e below (T74.setTop (mkF m 58 #[.val (.int p0), .val (.int ((p0 &&& (2147483647 : Int32)) % (5 : Int32))), .val (.ref s_SECTION), .unset, .unset, .unset, .unset] [])) _
        refine XS.iloadN X74.here hx rfl (hb hby at_58) rfl ?_
        show Steps p.tables e below (T74.setTop (mkF m 59 #[.val (.int p0), .val (.int ((p0 &&& (2147483647 : Int32)) % (5 : Int32))), .val (.ref s_SECTION), .unset, .unset, .unset, .unset] [(.int ((p0 &&& (2147483647 : Int32)) % (5 : Int32)))])) _
        refine XS.iconst X74.here hx rfl (hb hby at_59) ?_
        show Steps p.tables e below (T74.setTop (mkF m 60 #[.val (.int p0), .val (.int ((p0 &&& (2147483647 : Int32)) % (5 : Int32))), .val (.ref s_SECTION), .unset, .unset, .unset, .unset] [(.int (2 : Int32)), (.int ((p0 &&& (2147483647 : Int32)) % (5 : Int32)))])) _
        refine XS.icmpYes X74.here hx rfl (pc0 := 60) (pc' := 67) rfl (hb hby at_60) rfl (tlt hk2).1 (by decide) (by decide) ?_
        show Steps p.tables e below (T74.setTop (mkF m 67 #[.val (.int p0), .val (.int ((p0 &&& (2147483647 : Int32)) % (5 : Int32))), .val (.ref s_SECTION), .unset, .unset, .unset, .unset] [])) _
        refine XS.iconst X74.here hx rfl (hb hby at_67) ?_
        show Steps p.tables e below (T74.setTop (mkF m 68 #[.val (.int p0), .val (.int ((p0 &&& (2147483647 : Int32)) % (5 : Int32))), .val (.ref s_SECTION), .unset, .unset, .unset, .unset] [(.int (0 : Int32))])) _
        refine XS.istoreN X74.here hx rfl (hb hby at_68) rfl (l' := #[.val (.int p0), .val (.int ((p0 &&& (2147483647 : Int32)) % (5 : Int32))), .val (.ref s_SECTION), .val (.int (0 : Int32)), .unset, .unset, .unset]) rfl ?_
        show Steps p.tables e below (T74.setTop (mkF m 69 #[.val (.int p0), .val (.int ((p0 &&& (2147483647 : Int32)) % (5 : Int32))), .val (.ref s_SECTION), .val (.int (0 : Int32)), .unset, .unset, .unset] [])) _
        refine XS.aloadN X74.here hx rfl (hb hby at_69) rfl rfl ?_
        exact kt)
      obtain ⟨cq76, kq76, q76a, q76b, q76c⟩ := isOf hZ e74 E_SECTION
      obtain ⟨_, _, ⟨T76, L76, k76, n76⟩, -, X76, ⟨Lc76, hQ76, l76, y76, z76⟩, st76⟩ := X74.virtualBack hx (y := (⟨"com/example/restate/restate/Address$Kind", "word", "()Ljava/lang/String;"⟩ : MethodName)) (z := (⟨"com/example/restate/restate/Address$Kind", "word", "()Ljava/lang/String;"⟩ : MethodName)) hown (mvT hZ (hw _ (List.mem_of_getElem? (i := 4) rfl))) (mvT hZ (hw _ (List.mem_of_getElem? (i := 5) rfl))) (notFace_of_selects (args := #[]) (mvT hZ (hw _ (List.mem_of_getElem? (i := 7) rfl)))) (mvT hZ (hw _ (List.mem_of_getElem? (i := 7) rfl))) (mvT hZ (hw _ (List.mem_of_getElem? (i := 6) rfl))) (by decide) (backOf (W := 0) (rm1 l Z a0 hw [] s_SECTION w_SECTION h0 n0 Z0 Fw_SECTION) hZ (hw _ (List.mem_of_getElem? (i := 8) rfl)) (hw _ (List.mem_of_getElem? (i := 2) rfl)) (by decide) (by decide)) q76a q76c (g := (mkF m 70 #[.val (.int p0), .val (.int ((p0 &&& (2147483647 : Int32)) % (5 : Int32))), .val (.ref s_SECTION), .val (.int (0 : Int32)), .unset, .unset, .unset] [(.ref s_SECTION)])) rfl (by rw [hml]; rfl) (Steps.refl _) (argsL := []) (rest := []) (lenOf pd_1 rfl) rfl (by show 2 * 0 + _ ≤ _; exact Nat.le_of_eq rfl) (hb hby at_70) (fun _ _ => ⟨rfl, e74, (Nat.le_of_ble_eq_true rfl), (Nat.le_of_ble_eq_true rfl)⟩)
      dsimp only [Pt.U, Pt.locs, Pt.cells, Pt.slots] at X76 l76 y76 z76 st76 hQ76
      subst l76 y76 z76
      obtain ⟨rfl, N76q, e76⟩ := hQ76
      have N76 := Fr.app N0 N76q
      have pre76s : ∀ tg, Steps p.tables e below (T76.setTop (mkF m 73 #[.val (.int p0), .val (.int ((p0 &&& (2147483647 : Int32)) % (5 : Int32))), .val (.ref s_SECTION), .val (.int (0 : Int32)), .unset, .unset, .unset] [(.ref w_SECTION)])) tg → G tg := fun tg kt => pre75 tg (st76.trans kt)
      have pre77 : ∀ tg, Steps p.tables e below (T76.setTop (mkF m 77 #[.val (.int p0), .val (.int ((p0 &&& (2147483647 : Int32)) % (5 : Int32))), .val (.ref s_SECTION), .val (.int (0 : Int32)), .val (.ref w_SECTION), .unset, .unset] [(.ref w_SECTION)])) tg → G tg := fun tg kt => pre76s tg (by
        show Steps p.tables e below (T76.setTop (mkF m 73 #[.val (.int p0), .val (.int ((p0 &&& (2147483647 : Int32)) % (5 : Int32))), .val (.ref s_SECTION), .val (.int (0 : Int32)), .unset, .unset, .unset] [(.ref w_SECTION)])) _
        refine XS.astore X76.here hx rfl (hb hby at_73) rfl rfl (l' := #[.val (.int p0), .val (.int ((p0 &&& (2147483647 : Int32)) % (5 : Int32))), .val (.ref s_SECTION), .val (.int (0 : Int32)), .val (.ref w_SECTION), .unset, .unset]) rfl ?_
        show Steps p.tables e below (T76.setTop (mkF m 75 #[.val (.int p0), .val (.int ((p0 &&& (2147483647 : Int32)) % (5 : Int32))), .val (.ref s_SECTION), .val (.int (0 : Int32)), .val (.ref w_SECTION), .unset, .unset] [])) _
        refine XS.aload X76.here hx rfl (hb hby at_75) rfl rfl ?_
        exact kt)
      obtain ⟨l0, T78, h78, kk78, lb0, k78, X78, e78, E78, hS78, hk78, hZ, hown, E_l0, C_l0, F_l0, V_l0, -, -, IB78, -, st78⟩ := ldcSVL (vm0 := s.vm) (s := s) X76 hx hZ hown (hw _ (List.mem_of_getElem? (i := 11) rfl)) wS e76 hS hkz (by rw [hh, ← hsz]; exact N76) hkeep IB0 (by decide) hc30 hcw (vs := [(.int (83 : Int32)), (.int (99 : Int32)), (.int (104 : Int32)), (.int (101 : Int32)), (.int (100 : Int32)), (.int (117 : Int32)), (.int (108 : Int32)), (.int (101 : Int32))]) (z := (8 : Int32)) ⟨by decide, by decide⟩ (by decide) (by decide) (g := (mkF m 77 #[.val (.int p0), .val (.int ((p0 &&& (2147483647 : Int32)) % (5 : Int32))), .val (.ref s_SECTION), .val (.int (0 : Int32)), .val (.ref w_SECTION), .unset, .unset] [(.ref w_SECTION)])) rfl (hb hby at_77) (n := 32) (by decide) (by decide) (by decide) (by decide)
      have pre78s : ∀ tg, Steps p.tables e below (T78.setTop (mkF m 79 #[.val (.int p0), .val (.int ((p0 &&& (2147483647 : Int32)) % (5 : Int32))), .val (.ref s_SECTION), .val (.int (0 : Int32)), .val (.ref w_SECTION), .unset, .unset] [(.ref l0), (.ref w_SECTION)])) tg → G tg := fun tg kt => pre77 tg (st78 tg kt)
      have S_c_79 := S_c.ext E78
      have S_ARTICLE_80 := S_ARTICLE.ext E78
      have S_SECTION_81 := S_SECTION.ext E78
      have E_SECTION_82 := E_SECTION.ext E78
      have Ew_SECTION_83 := Ew_SECTION.ext E78
      have Fw_SECTION_84 := Fw_SECTION.ext E78
      have Fc_SECTION_85 := Fc_SECTION.ext E78
      have Fv_SECTION_86 := Fv_SECTION.ext E78
      have V_SECTION_87 := V_SECTION.ext E78
      have S_SCHEDULE_88 := S_SCHEDULE.ext E78
      have S_EXHIBIT_89 := S_EXHIBIT.ext E78
      have S_ANNEX_90 := S_ANNEX.ext E78
      have Ol91 := Ol.ext E78
      have Z78 : n0 ≤ h78.size := Nat.le_trans Z0 E78.1
      have nv92 : v_SECTION ≠ lb0 := arv_ne V_SECTION_87 V_l0 (Or.inl (by decide))
      have nw92 : w_SECTION ≠ l0 := Fld.ne Fv_SECTION_86 F_l0 (fun q => nv92 (Value.ref.inj q))
      obtain ⟨cq93, kq93, q93a, q93b, q93c⟩ := isOf hZ e78 Ew_SECTION_83
      obtain ⟨_, _, ⟨T93, L93, k93, n93⟩, -, X93, ⟨Lc93, hQ93, l93, y93, z93⟩, st93⟩ := X78.virtualBack hx (y := (⟨"java/lang/String", "equals", "(Ljava/lang/Object;)Z"⟩ : MethodName)) (z := (⟨"java/lang/String", "equals", "(Ljava/lang/Object;)Z"⟩ : MethodName)) hown (mvT hZ (hw _ (List.mem_of_getElem? (i := 19) rfl))) (mvT hZ (hw _ (List.mem_of_getElem? (i := 20) rfl))) (notFace_of_selects (args := #[]) (mvT hZ (hw _ (List.mem_of_getElem? (i := 22) rfl)))) (mvT hZ (hw _ (List.mem_of_getElem? (i := 22) rfl))) (mvT hZ (hw _ (List.mem_of_getElem? (i := 21) rfl))) (by decide) (backOf (W := 0) (rm_eld l Z a0 hw [] w_SECTION l0 v_SECTION lb0 k_SECTION k78 cs (7 : Int32) (8 : Int32) [(.int (83 : Int32)), (.int (101 : Int32)), (.int (99 : Int32)), (.int (116 : Int32)), (.int (105 : Int32)), (.int (111 : Int32)), (.int (110 : Int32))] [(.int (83 : Int32)), (.int (99 : Int32)), (.int (104 : Int32)), (.int (101 : Int32)), (.int (100 : Int32)), (.int (117 : Int32)), (.int (108 : Int32)), (.int (101 : Int32))] h78 n0 Z78 S_c_79 hcs E_l0 Fc_SECTION_85 C_l0 Fv_SECTION_86 F_l0 V_SECTION_87 V_l0 (by decide) nw92) hZ (hw _ (List.mem_of_getElem? (i := 23) rfl)) (hw _ (List.mem_of_getElem? (i := 12) rfl)) (by decide) (by decide)) q93a q93c (g := (mkF m 79 #[.val (.int p0), .val (.int ((p0 &&& (2147483647 : Int32)) % (5 : Int32))), .val (.ref s_SECTION), .val (.int (0 : Int32)), .val (.ref w_SECTION), .unset, .unset] [(.ref l0), (.ref w_SECTION)])) rfl (by rw [hml]; rfl) (Steps.refl _) (argsL := [(.ref l0)]) (rest := []) (lenOf pd_2 rfl) rfl (by show 2 * 0 + _ ≤ _; exact Nat.le_of_eq rfl) (hb hby at_79) (fun _ _ => ⟨rfl, e78, (Nat.le_of_ble_eq_true rfl), (Nat.le_of_ble_eq_true rfl)⟩)
      dsimp only [Pt.U, Pt.locs, Pt.cells, Pt.slots] at X93 l93 y93 z93 st93 hQ93
      subst l93 y93 z93
      obtain ⟨rfl, N93q, e93⟩ := hQ93
      have N93 := Fr.app N76 N93q
      have pre93s : ∀ tg, Steps p.tables e below (T93.setTop (mkF m 82 #[.val (.int p0), .val (.int ((p0 &&& (2147483647 : Int32)) % (5 : Int32))), .val (.ref s_SECTION), .val (.int (0 : Int32)), .val (.ref w_SECTION), .unset, .unset] [(.int (0 : Int32))])) tg → G tg := fun tg kt => pre78s tg (st93.trans kt)
      have pre94 : ∀ tg, Steps p.tables e below (T93.setTop (mkF m 87 #[.val (.int p0), .val (.int ((p0 &&& (2147483647 : Int32)) % (5 : Int32))), .val (.ref s_SECTION), .val (.int (0 : Int32)), .val (.ref w_SECTION), .unset, .unset] [(.ref w_SECTION)])) tg → G tg := fun tg kt => pre93s tg (by
        show Steps p.tables e below (T93.setTop (mkF m 82 #[.val (.int p0), .val (.int ((p0 &&& (2147483647 : Int32)) % (5 : Int32))), .val (.ref s_SECTION), .val (.int (0 : Int32)), .val (.ref w_SECTION), .unset, .unset] [(.int (0 : Int32))])) _
        refine XS.ifNo X93.here hx rfl (hb hby at_82) rfl ((if0 _ _).trans (teq (by decide : (0 : Int32) = (0 : Int32))).2) ?_
        show Steps p.tables e below (T93.setTop (mkF m 85 #[.val (.int p0), .val (.int ((p0 &&& (2147483647 : Int32)) % (5 : Int32))), .val (.ref s_SECTION), .val (.int (0 : Int32)), .val (.ref w_SECTION), .unset, .unset] [])) _
        refine XS.aload X93.here hx rfl (hb hby at_85) rfl rfl ?_
        exact kt)
      obtain ⟨l1, T95, h95, kk95, lb1, k95, X95, e95, E95, hS95, hk95, hZ, hown, E_l1, C_l1, F_l1, V_l1, -, -, IB95, -, st95⟩ := ldcSVL (vm0 := T78.vm) (s := s) X93 hx hZ hown (hw _ (List.mem_of_getElem? (i := 33) rfl)) wS e93 hS78 hk78 (by rw [hh, ← hsz]; exact N93) hkeep IB78 (by decide) hc38 hcw (vs := [(.int (69 : Int32)), (.int (120 : Int32)), (.int (104 : Int32)), (.int (105 : Int32)), (.int (98 : Int32)), (.int (105 : Int32)), (.int (116 : Int32))]) (z := (7 : Int32)) ⟨by decide, by decide⟩ (by decide) (by decide) (g := (mkF m 87 #[.val (.int p0), .val (.int ((p0 &&& (2147483647 : Int32)) % (5 : Int32))), .val (.ref s_SECTION), .val (.int (0 : Int32)), .val (.ref w_SECTION), .unset, .unset] [(.ref w_SECTION)])) rfl (hb hby at_87) (n := 28) (by decide) (by decide) (by decide) (by decide)
      have pre95s : ∀ tg, Steps p.tables e below (T95.setTop (mkF m 89 #[.val (.int p0), .val (.int ((p0 &&& (2147483647 : Int32)) % (5 : Int32))), .val (.ref s_SECTION), .val (.int (0 : Int32)), .val (.ref w_SECTION), .unset, .unset] [(.ref l1), (.ref w_SECTION)])) tg → G tg := fun tg kt => pre94 tg (st95 tg kt)
      have S_c_96 := S_c_79.ext E95
      have S_ARTICLE_97 := S_ARTICLE_80.ext E95
      have S_SECTION_98 := S_SECTION_81.ext E95
      have E_SECTION_99 := E_SECTION_82.ext E95
      have Ew_SECTION_100 := Ew_SECTION_83.ext E95
      have Fw_SECTION_101 := Fw_SECTION_84.ext E95
      have Fc_SECTION_102 := Fc_SECTION_85.ext E95
      have Fv_SECTION_103 := Fv_SECTION_86.ext E95
      have V_SECTION_104 := V_SECTION_87.ext E95
      have S_SCHEDULE_105 := S_SCHEDULE_88.ext E95
      have S_EXHIBIT_106 := S_EXHIBIT_89.ext E95
      have S_ANNEX_107 := S_ANNEX_90.ext E95
      have E_l0_108 := E_l0.ext E95
      have C_l0_109 := C_l0.ext E95
      have F_l0_110 := F_l0.ext E95
      have V_l0_111 := V_l0.ext E95
      have Ol112 := Ol91.ext E95
      have Z95 : n0 ≤ h95.size := Nat.le_trans Z78 E95.1
      have nv113 : v_SECTION ≠ lb1 := arv_ne V_SECTION_104 V_l1 (Or.inr ⟨0, by decide, by decide⟩)
      have nw113 : w_SECTION ≠ l1 := Fld.ne Fv_SECTION_103 F_l1 (fun q => nv113 (Value.ref.inj q))
      obtain ⟨cq114, kq114, q114a, q114b, q114c⟩ := isOf hZ e95 Ew_SECTION_100
      obtain ⟨_, _, ⟨T114, L114, k114, n114⟩, -, X114, ⟨Lc114, hQ114, l114, y114, z114⟩, st114⟩ := X95.virtualBack hx (y := (⟨"java/lang/String", "equals", "(Ljava/lang/Object;)Z"⟩ : MethodName)) (z := (⟨"java/lang/String", "equals", "(Ljava/lang/Object;)Z"⟩ : MethodName)) hown (mvT hZ (hw _ (List.mem_of_getElem? (i := 19) rfl))) (mvT hZ (hw _ (List.mem_of_getElem? (i := 20) rfl))) (notFace_of_selects (args := #[]) (mvT hZ (hw _ (List.mem_of_getElem? (i := 22) rfl)))) (mvT hZ (hw _ (List.mem_of_getElem? (i := 22) rfl))) (mvT hZ (hw _ (List.mem_of_getElem? (i := 21) rfl))) (by decide) (backOf (W := 0) (rm_efd l Z a0 hw [] w_SECTION l1 v_SECTION lb1 k_SECTION k95 cs (83 : Int32) (101 : Int32) (99 : Int32) (116 : Int32) (105 : Int32) (111 : Int32) (110 : Int32) (69 : Int32) (120 : Int32) (104 : Int32) (105 : Int32) (98 : Int32) (105 : Int32) (116 : Int32) h95 n0 Z95 S_c_96 hcs E_l1 Fc_SECTION_102 C_l1 Fv_SECTION_103 F_l1 V_SECTION_104 V_l1 (by decide) nw113) hZ (hw _ (List.mem_of_getElem? (i := 23) rfl)) (hw _ (List.mem_of_getElem? (i := 12) rfl)) (by decide) (by decide)) q114a q114c (g := (mkF m 89 #[.val (.int p0), .val (.int ((p0 &&& (2147483647 : Int32)) % (5 : Int32))), .val (.ref s_SECTION), .val (.int (0 : Int32)), .val (.ref w_SECTION), .unset, .unset] [(.ref l1), (.ref w_SECTION)])) rfl (by rw [hml]; rfl) (Steps.refl _) (argsL := [(.ref l1)]) (rest := []) (lenOf pd_2 rfl) rfl (by show 2 * 0 + _ ≤ _; exact Nat.le_of_eq rfl) (hb hby at_89) (fun _ _ => ⟨rfl, e95, (Nat.le_of_ble_eq_true rfl), (Nat.le_of_ble_eq_true rfl)⟩)
      dsimp only [Pt.U, Pt.locs, Pt.cells, Pt.slots] at X114 l114 y114 z114 st114 hQ114
      subst l114 y114 z114
      obtain ⟨rfl, N114q, e114⟩ := hQ114
      have N114 := Fr.app N93 N114q
      have pre114s : ∀ tg, Steps p.tables e below (T114.setTop (mkF m 92 #[.val (.int p0), .val (.int ((p0 &&& (2147483647 : Int32)) % (5 : Int32))), .val (.ref s_SECTION), .val (.int (0 : Int32)), .val (.ref w_SECTION), .unset, .unset] [(.int (0 : Int32))])) tg → G tg := fun tg kt => pre95s tg (st114.trans kt)
      have pre115 : ∀ tg, Steps p.tables e below (T114.setTop (mkF m 97 #[.val (.int p0), .val (.int ((p0 &&& (2147483647 : Int32)) % (5 : Int32))), .val (.ref s_SECTION), .val (.int (0 : Int32)), .val (.ref w_SECTION), .unset, .unset] [(.ref w_SECTION)])) tg → G tg := fun tg kt => pre114s tg (by
        show Steps p.tables e below (T114.setTop (mkF m 92 #[.val (.int p0), .val (.int ((p0 &&& (2147483647 : Int32)) % (5 : Int32))), .val (.ref s_SECTION), .val (.int (0 : Int32)), .val (.ref w_SECTION), .unset, .unset] [(.int (0 : Int32))])) _
        refine XS.ifNo X114.here hx rfl (hb hby at_92) rfl ((if0 _ _).trans (teq (by decide : (0 : Int32) = (0 : Int32))).2) ?_
        show Steps p.tables e below (T114.setTop (mkF m 95 #[.val (.int p0), .val (.int ((p0 &&& (2147483647 : Int32)) % (5 : Int32))), .val (.ref s_SECTION), .val (.int (0 : Int32)), .val (.ref w_SECTION), .unset, .unset] [])) _
        refine XS.aload X114.here hx rfl (hb hby at_95) rfl rfl ?_
        exact kt)
      obtain ⟨l2, T116, h116, kk116, lb2, k116, X116, e116, E116, hS116, hk116, hZ, hown, E_l2, C_l2, F_l2, V_l2, -, -, IB116, -, st116⟩ := ldcSVL (vm0 := T95.vm) (s := s) X114 hx hZ hown (hw _ (List.mem_of_getElem? (i := 34) rfl)) wS e114 hS95 hk95 (by rw [hh, ← hsz]; exact N114) hkeep IB95 (by decide) hc40 hcw (vs := [(.int (65 : Int32)), (.int (110 : Int32)), (.int (110 : Int32)), (.int (101 : Int32)), (.int (120 : Int32))]) (z := (5 : Int32)) ⟨by decide, by decide⟩ (by decide) (by decide) (g := (mkF m 97 #[.val (.int p0), .val (.int ((p0 &&& (2147483647 : Int32)) % (5 : Int32))), .val (.ref s_SECTION), .val (.int (0 : Int32)), .val (.ref w_SECTION), .unset, .unset] [(.ref w_SECTION)])) rfl (hb hby at_97) (n := 20) (by decide) (by decide) (by decide) (by decide)
      have pre116s : ∀ tg, Steps p.tables e below (T116.setTop (mkF m 99 #[.val (.int p0), .val (.int ((p0 &&& (2147483647 : Int32)) % (5 : Int32))), .val (.ref s_SECTION), .val (.int (0 : Int32)), .val (.ref w_SECTION), .unset, .unset] [(.ref l2), (.ref w_SECTION)])) tg → G tg := fun tg kt => pre115 tg (st116 tg kt)
      have S_c_117 := S_c_96.ext E116
      have S_ARTICLE_118 := S_ARTICLE_97.ext E116
      have S_SECTION_119 := S_SECTION_98.ext E116
      have E_SECTION_120 := E_SECTION_99.ext E116
      have Ew_SECTION_121 := Ew_SECTION_100.ext E116
      have Fw_SECTION_122 := Fw_SECTION_101.ext E116
      have Fc_SECTION_123 := Fc_SECTION_102.ext E116
      have Fv_SECTION_124 := Fv_SECTION_103.ext E116
      have V_SECTION_125 := V_SECTION_104.ext E116
      have S_SCHEDULE_126 := S_SCHEDULE_105.ext E116
      have S_EXHIBIT_127 := S_EXHIBIT_106.ext E116
      have S_ANNEX_128 := S_ANNEX_107.ext E116
      have E_l0_129 := E_l0_108.ext E116
      have C_l0_130 := C_l0_109.ext E116
      have F_l0_131 := F_l0_110.ext E116
      have V_l0_132 := V_l0_111.ext E116
      have E_l1_133 := E_l1.ext E116
      have C_l1_134 := C_l1.ext E116
      have F_l1_135 := F_l1.ext E116
      have V_l1_136 := V_l1.ext E116
      have Ol137 := Ol112.ext E116
      have Z116 : n0 ≤ h116.size := Nat.le_trans Z95 E116.1
      have nv138 : v_SECTION ≠ lb2 := arv_ne V_SECTION_125 V_l2 (Or.inl (by decide))
      have nw138 : w_SECTION ≠ l2 := Fld.ne Fv_SECTION_124 F_l2 (fun q => nv138 (Value.ref.inj q))
      obtain ⟨cq139, kq139, q139a, q139b, q139c⟩ := isOf hZ e116 Ew_SECTION_121
      obtain ⟨_, _, ⟨T139, L139, k139, n139⟩, -, X139, ⟨Lc139, hQ139, l139, y139, z139⟩, st139⟩ := X116.virtualBack hx (y := (⟨"java/lang/String", "equals", "(Ljava/lang/Object;)Z"⟩ : MethodName)) (z := (⟨"java/lang/String", "equals", "(Ljava/lang/Object;)Z"⟩ : MethodName)) hown (mvT hZ (hw _ (List.mem_of_getElem? (i := 19) rfl))) (mvT hZ (hw _ (List.mem_of_getElem? (i := 20) rfl))) (notFace_of_selects (args := #[]) (mvT hZ (hw _ (List.mem_of_getElem? (i := 22) rfl)))) (mvT hZ (hw _ (List.mem_of_getElem? (i := 22) rfl))) (mvT hZ (hw _ (List.mem_of_getElem? (i := 21) rfl))) (by decide) (backOf (W := 0) (rm_eld l Z a0 hw [] w_SECTION l2 v_SECTION lb2 k_SECTION k116 cs (7 : Int32) (5 : Int32) [(.int (83 : Int32)), (.int (101 : Int32)), (.int (99 : Int32)), (.int (116 : Int32)), (.int (105 : Int32)), (.int (111 : Int32)), (.int (110 : Int32))] [(.int (65 : Int32)), (.int (110 : Int32)), (.int (110 : Int32)), (.int (101 : Int32)), (.int (120 : Int32))] h116 n0 Z116 S_c_117 hcs E_l2 Fc_SECTION_123 C_l2 Fv_SECTION_124 F_l2 V_SECTION_125 V_l2 (by decide) nw138) hZ (hw _ (List.mem_of_getElem? (i := 23) rfl)) (hw _ (List.mem_of_getElem? (i := 12) rfl)) (by decide) (by decide)) q139a q139c (g := (mkF m 99 #[.val (.int p0), .val (.int ((p0 &&& (2147483647 : Int32)) % (5 : Int32))), .val (.ref s_SECTION), .val (.int (0 : Int32)), .val (.ref w_SECTION), .unset, .unset] [(.ref l2), (.ref w_SECTION)])) rfl (by rw [hml]; rfl) (Steps.refl _) (argsL := [(.ref l2)]) (rest := []) (lenOf pd_2 rfl) rfl (by show 2 * 0 + _ ≤ _; exact Nat.le_of_eq rfl) (hb hby at_99) (fun _ _ => ⟨rfl, e116, (Nat.le_of_ble_eq_true rfl), (Nat.le_of_ble_eq_true rfl)⟩)
      dsimp only [Pt.U, Pt.locs, Pt.cells, Pt.slots] at X139 l139 y139 z139 st139 hQ139
      subst l139 y139 z139
      obtain ⟨rfl, N139q, e139⟩ := hQ139
      have N139 := Fr.app N114 N139q
      have pre139s : ∀ tg, Steps p.tables e below (T139.setTop (mkF m 102 #[.val (.int p0), .val (.int ((p0 &&& (2147483647 : Int32)) % (5 : Int32))), .val (.ref s_SECTION), .val (.int (0 : Int32)), .val (.ref w_SECTION), .unset, .unset] [(.int (0 : Int32))])) tg → G tg := fun tg kt => pre116s tg (st139.trans kt)
      have pre140 : ∀ tg, Steps p.tables e below (T139.setTop (mkF m 113 #[.val (.int p0), .val (.int ((p0 &&& (2147483647 : Int32)) % (5 : Int32))), .val (.ref s_SECTION), .val (.int (0 : Int32)), .val (.ref w_SECTION), .val (.int (0 : Int32)), .unset] [(.ref s_SECTION)])) tg → G tg := fun tg kt => pre139s tg (by
        show Steps p.tables e below (T139.setTop (mkF m 102 #[.val (.int p0), .val (.int ((p0 &&& (2147483647 : Int32)) % (5 : Int32))), .val (.ref s_SECTION), .val (.int (0 : Int32)), .val (.ref w_SECTION), .unset, .unset] [(.int (0 : Int32))])) _
        refine XS.ifYes X139.here hx rfl (pc0 := 102) (pc' := 109) rfl (hb hby at_102) rfl ((if0 _ _).trans (teq (by decide : (0 : Int32) = (0 : Int32))).1) (by decide) (by decide) ?_
        show Steps p.tables e below (T139.setTop (mkF m 109 #[.val (.int p0), .val (.int ((p0 &&& (2147483647 : Int32)) % (5 : Int32))), .val (.ref s_SECTION), .val (.int (0 : Int32)), .val (.ref w_SECTION), .unset, .unset] [])) _
        refine XS.iconst X139.here hx rfl (hb hby at_109) ?_
        show Steps p.tables e below (T139.setTop (mkF m 110 #[.val (.int p0), .val (.int ((p0 &&& (2147483647 : Int32)) % (5 : Int32))), .val (.ref s_SECTION), .val (.int (0 : Int32)), .val (.ref w_SECTION), .unset, .unset] [(.int (0 : Int32))])) _
        refine XS.istore X139.here hx rfl (hb hby at_110) rfl (l' := #[.val (.int p0), .val (.int ((p0 &&& (2147483647 : Int32)) % (5 : Int32))), .val (.ref s_SECTION), .val (.int (0 : Int32)), .val (.ref w_SECTION), .val (.int (0 : Int32)), .unset]) rfl ?_
        show Steps p.tables e below (T139.setTop (mkF m 112 #[.val (.int p0), .val (.int ((p0 &&& (2147483647 : Int32)) % (5 : Int32))), .val (.ref s_SECTION), .val (.int (0 : Int32)), .val (.ref w_SECTION), .val (.int (0 : Int32)), .unset] [])) _
        refine XS.aloadN X139.here hx rfl (hb hby at_112) rfl rfl ?_
        exact kt)
      obtain ⟨cq141, kq141, q141a, q141b, q141c⟩ := isOf hZ e139 E_SECTION_120
      obtain ⟨_, _, ⟨T141, L141, k141, n141⟩, -, X141, ⟨Lc141, hQ141, l141, y141, z141⟩, st141⟩ := X139.virtualBack hx (y := (⟨"com/example/restate/restate/Address$Kind", "isAttachment", "()Z"⟩ : MethodName)) (z := (⟨"com/example/restate/restate/Address$Kind", "isAttachment", "()Z"⟩ : MethodName)) hown (mvT hZ (hw _ (List.mem_of_getElem? (i := 35) rfl))) (mvT hZ (hw _ (List.mem_of_getElem? (i := 36) rfl))) (notFace_of_selects (args := #[]) (mvT hZ (hw _ (List.mem_of_getElem? (i := 38) rfl)))) (mvT hZ (hw _ (List.mem_of_getElem? (i := 38) rfl))) (mvT hZ (hw _ (List.mem_of_getElem? (i := 37) rfl))) (by decide) (backOf (W := 0) (rm4 l Z a0 hw [] s_SECTION s_SCHEDULE s_EXHIBIT s_ANNEX h116 n0 Z116 S_SCHEDULE_126 S_EXHIBIT_127 S_ANNEX_128) hZ (hw _ (List.mem_of_getElem? (i := 39) rfl)) (hw _ (List.mem_of_getElem? (i := 2) rfl)) (by decide) (by decide)) q141a q141c (g := (mkF m 113 #[.val (.int p0), .val (.int ((p0 &&& (2147483647 : Int32)) % (5 : Int32))), .val (.ref s_SECTION), .val (.int (0 : Int32)), .val (.ref w_SECTION), .val (.int (0 : Int32)), .unset] [(.ref s_SECTION)])) rfl (by rw [hml]; rfl) (Steps.refl _) (argsL := []) (rest := []) (lenOf pd_3 rfl) rfl (by show 2 * 0 + _ ≤ _; exact Nat.le_of_eq rfl) (hb hby at_113) (fun _ _ => ⟨rfl, e139, (Nat.le_of_ble_eq_true rfl), (Nat.le_of_ble_eq_true rfl)⟩)
      dsimp only [Pt.U, Pt.locs, Pt.cells, Pt.slots] at X141 l141 y141 z141 st141 hQ141
      subst l141 y141 z141
      obtain ⟨hv141, N141q, e141⟩ := hQ141
      rw [if_neg ne_SECTION_SCHEDULE, if_neg ne_SECTION_EXHIBIT, if_neg ne_SECTION_ANNEX] at hv141
      subst hv141
      have N141 := Fr.app N139 N141q
      have pre141s : ∀ tg, Steps p.tables e below (T141.setTop (mkF m 116 #[.val (.int p0), .val (.int ((p0 &&& (2147483647 : Int32)) % (5 : Int32))), .val (.ref s_SECTION), .val (.int (0 : Int32)), .val (.ref w_SECTION), .val (.int (0 : Int32)), .unset] [(.int (0 : Int32))])) tg → G tg := fun tg kt => pre140 tg (st141.trans kt)
      have pre142 : ∀ tg, Steps p.tables e below (T141.setTop (mkF m 136 #[.val (.int p0), .val (.int ((p0 &&& (2147483647 : Int32)) % (5 : Int32))), .val (.ref s_SECTION), .val (.int (0 : Int32)), .val (.ref w_SECTION), .val (.int (0 : Int32)), .val (.int (0 : Int32))] [(.int (1 : Int32))])) tg → G tg := fun tg kt => pre141s tg (by
        show Steps p.tables e below (T141.setTop (mkF m 116 #[.val (.int p0), .val (.int ((p0 &&& (2147483647 : Int32)) % (5 : Int32))), .val (.ref s_SECTION), .val (.int (0 : Int32)), .val (.ref w_SECTION), .val (.int (0 : Int32)), .unset] [(.int (0 : Int32))])) _
        refine XS.istore X141.here hx rfl (hb hby at_116) rfl (l' := #[.val (.int p0), .val (.int ((p0 &&& (2147483647 : Int32)) % (5 : Int32))), .val (.ref s_SECTION), .val (.int (0 : Int32)), .val (.ref w_SECTION), .val (.int (0 : Int32)), .val (.int (0 : Int32))]) rfl ?_
        show Steps p.tables e below (T141.setTop (mkF m 118 #[.val (.int p0), .val (.int ((p0 &&& (2147483647 : Int32)) % (5 : Int32))), .val (.ref s_SECTION), .val (.int (0 : Int32)), .val (.ref w_SECTION), .val (.int (0 : Int32)), .val (.int (0 : Int32))] [])) _
        refine XS.iload X141.here hx rfl (hb hby at_118) rfl ?_
        show Steps p.tables e below (T141.setTop (mkF m 120 #[.val (.int p0), .val (.int ((p0 &&& (2147483647 : Int32)) % (5 : Int32))), .val (.ref s_SECTION), .val (.int (0 : Int32)), .val (.ref w_SECTION), .val (.int (0 : Int32)), .val (.int (0 : Int32))] [(.int (0 : Int32))])) _
        refine XS.iloadN X141.here hx rfl (hb hby at_120) rfl ?_
        show Steps p.tables e below (T141.setTop (mkF m 121 #[.val (.int p0), .val (.int ((p0 &&& (2147483647 : Int32)) % (5 : Int32))), .val (.ref s_SECTION), .val (.int (0 : Int32)), .val (.ref w_SECTION), .val (.int (0 : Int32)), .val (.int (0 : Int32))] [(.int (0 : Int32)), (.int (0 : Int32))])) _
        refine XS.icmpNo X141.here hx rfl (hb hby at_121) rfl (teq (by decide : (0 : Int32) = (0 : Int32))).2 ?_
        show Steps p.tables e below (T141.setTop (mkF m 124 #[.val (.int p0), .val (.int ((p0 &&& (2147483647 : Int32)) % (5 : Int32))), .val (.ref s_SECTION), .val (.int (0 : Int32)), .val (.ref w_SECTION), .val (.int (0 : Int32)), .val (.int (0 : Int32))] [])) _
        refine XS.iload X141.here hx rfl (hb hby at_124) rfl ?_
        show Steps p.tables e below (T141.setTop (mkF m 126 #[.val (.int p0), .val (.int ((p0 &&& (2147483647 : Int32)) % (5 : Int32))), .val (.ref s_SECTION), .val (.int (0 : Int32)), .val (.ref w_SECTION), .val (.int (0 : Int32)), .val (.int (0 : Int32))] [(.int (0 : Int32))])) _
        refine XS.iload X141.here hx rfl (hb hby at_126) rfl ?_
        show Steps p.tables e below (T141.setTop (mkF m 128 #[.val (.int p0), .val (.int ((p0 &&& (2147483647 : Int32)) % (5 : Int32))), .val (.ref s_SECTION), .val (.int (0 : Int32)), .val (.ref w_SECTION), .val (.int (0 : Int32)), .val (.int (0 : Int32))] [(.int (0 : Int32)), (.int (0 : Int32))])) _
        refine XS.icmpNo X141.here hx rfl (hb hby at_128) rfl (teq (by decide : (0 : Int32) = (0 : Int32))).2 ?_
        show Steps p.tables e below (T141.setTop (mkF m 131 #[.val (.int p0), .val (.int ((p0 &&& (2147483647 : Int32)) % (5 : Int32))), .val (.ref s_SECTION), .val (.int (0 : Int32)), .val (.ref w_SECTION), .val (.int (0 : Int32)), .val (.int (0 : Int32))] [])) _
        refine XS.iconst X141.here hx rfl (hb hby at_131) ?_
        show Steps p.tables e below (T141.setTop (mkF m 132 #[.val (.int p0), .val (.int ((p0 &&& (2147483647 : Int32)) % (5 : Int32))), .val (.ref s_SECTION), .val (.int (0 : Int32)), .val (.ref w_SECTION), .val (.int (0 : Int32)), .val (.int (0 : Int32))] [(.int (1 : Int32))])) _
        refine XS.goto X141.here hx rfl (pc0 := 132) (pc' := 136) rfl (hb hby at_132) (by decide) (by decide) ?_
        exact kt)
      obtain ⟨fs, hr, hrun, hended, hRE⟩ := X141.leaveW (s := s) (vm₁ := T116.vm) (v := some (.int (1 : Int32))) hS116 (by rw [e141]; exact hk116) (fun h => by rw [Bd.returns] at h; cases h)
      subst hG
      refine ⟨_, _, pre142 _ ?_, hrun, hended, _, _, rfl, ?_, hRE.1, hRE.2.1, hRE.2.2.1, hRE.2.2.2.mono (by decide) (by decide)⟩
      · exact retN X141 hx (t := .boolean) Bd.returns (by simp) (hb hby at_136) hr
      · exact ⟨rfl, N141⟩
    · -- not hk1
      have hk2 := own_ge2 p0 hk0 hk1
      have pre143 : ∀ tg, Steps p.tables e below (s₁.setTop (mkF m 32 #[.val (.int p0), .val (.int ((p0 &&& (2147483647 : Int32)) % (5 : Int32))), .unset, .unset, .unset, .unset, .unset] [(.int (2 : Int32)), (.int ((p0 &&& (2147483647 : Int32)) % (5 : Int32)))])) tg → G tg := fun tg kt => pre72 tg (by
        show Steps p.tables e below (s₁.setTop (mkF m 20 #[.val (.int p0), .val (.int ((p0 &&& (2147483647 : Int32)) % (5 : Int32))), .unset, .unset, .unset, .unset, .unset] [(.int (1 : Int32)), (.int ((p0 &&& (2147483647 : Int32)) % (5 : Int32)))])) _
        refine XS.icmpYes X0.here hx rfl (pc0 := 20) (pc' := 30) rfl (hb hby at_20) rfl (feq hk1).2 (by decide) (by decide) ?_
        show Steps p.tables e below (s₁.setTop (mkF m 30 #[.val (.int p0), .val (.int ((p0 &&& (2147483647 : Int32)) % (5 : Int32))), .unset, .unset, .unset, .unset, .unset] [])) _
        refine XS.iloadN X0.here hx rfl (hb hby at_30) rfl ?_
        show Steps p.tables e below (s₁.setTop (mkF m 31 #[.val (.int p0), .val (.int ((p0 &&& (2147483647 : Int32)) % (5 : Int32))), .unset, .unset, .unset, .unset, .unset] [(.int ((p0 &&& (2147483647 : Int32)) % (5 : Int32)))])) _
        refine XS.iconst X0.here hx rfl (hb hby at_31) ?_
        exact kt)
      by_cases hkk2 : ((p0 &&& (2147483647 : Int32)) % (5 : Int32)) = (2 : Int32)
      · -- hkk2
        have pre144 : ∀ tg, Steps p.tables e below (s₁.setTop (mkF m 35 #[.val (.int p0), .val (.int ((p0 &&& (2147483647 : Int32)) % (5 : Int32))), .unset, .unset, .unset, .unset, .unset] [])) tg → G tg := fun tg kt => pre143 tg (by
          show Steps p.tables e below (s₁.setTop (mkF m 32 #[.val (.int p0), .val (.int ((p0 &&& (2147483647 : Int32)) % (5 : Int32))), .unset, .unset, .unset, .unset, .unset] [(.int (2 : Int32)), (.int ((p0 &&& (2147483647 : Int32)) % (5 : Int32)))])) _
          refine XS.icmpNo X0.here hx rfl (hb hby at_32) rfl (teq hkk2).2 ?_
          exact kt)
        obtain ⟨T145, X145, e145, st145⟩ := getS2 X0 hx hZ hown (host := "") (Or.inl (hw _ (List.mem_of_getElem? (i := 50) rfl))) Via.refl e0 S_SCHEDULE (g := (mkF m 35 #[.val (.int p0), .val (.int ((p0 &&& (2147483647 : Int32)) % (5 : Int32))), .unset, .unset, .unset, .unset, .unset] [])) rfl (hb hby at_35)
        have pre145s : ∀ tg, Steps p.tables e below (T145.setTop (mkF m 38 #[.val (.int p0), .val (.int ((p0 &&& (2147483647 : Int32)) % (5 : Int32))), .unset, .unset, .unset, .unset, .unset] [(.ref s_SCHEDULE)])) tg → G tg := fun tg kt => pre144 tg (st145 tg kt)
        have pre146 : ∀ tg, Steps p.tables e below (T145.setTop (mkF m 70 #[.val (.int p0), .val (.int ((p0 &&& (2147483647 : Int32)) % (5 : Int32))), .val (.ref s_SCHEDULE), .val (.int (1 : Int32)), .unset, .unset, .unset] [(.ref s_SCHEDULE)])) tg → G tg := fun tg kt => pre145s tg (by
          show Steps p.tables e below (T145.setTop (mkF m 38 #[.val (.int p0), .val (.int ((p0 &&& (2147483647 : Int32)) % (5 : Int32))), .unset, .unset, .unset, .unset, .unset] [(.ref s_SCHEDULE)])) _
          refine XS.astoreN X145.here hx rfl (hb hby at_38) rfl rfl (l' := #[.val (.int p0), .val (.int ((p0 &&& (2147483647 : Int32)) % (5 : Int32))), .val (.ref s_SCHEDULE), .unset, .unset, .unset, .unset]) rfl ?_
          show Steps p.tables e below (T145.setTop (mkF m 39 #[.val (.int p0), .val (.int ((p0 &&& (2147483647 : Int32)) % (5 : Int32))), .val (.ref s_SCHEDULE), .unset, .unset, .unset, .unset] [])) _
          refine XS.goto X145.here hx rfl (pc0 := 39) (pc' := 58) rfl (hb hby at_39) (by decide) (by decide) ?_
          show Steps p.tables e below (T145.setTop (mkF m 58 #[.val (.int p0), .val (.int ((p0 &&& (2147483647 : Int32)) % (5 : Int32))), .val (.ref s_SCHEDULE), .unset, .unset, .unset, .unset] [])) _
          refine XS.iloadN X145.here hx rfl (hb hby at_58) rfl ?_
          show Steps p.tables e below (T145.setTop (mkF m 59 #[.val (.int p0), .val (.int ((p0 &&& (2147483647 : Int32)) % (5 : Int32))), .val (.ref s_SCHEDULE), .unset, .unset, .unset, .unset] [(.int ((p0 &&& (2147483647 : Int32)) % (5 : Int32)))])) _
          refine XS.iconst X145.here hx rfl (hb hby at_59) ?_
          show Steps p.tables e below (T145.setTop (mkF m 60 #[.val (.int p0), .val (.int ((p0 &&& (2147483647 : Int32)) % (5 : Int32))), .val (.ref s_SCHEDULE), .unset, .unset, .unset, .unset] [(.int (2 : Int32)), (.int ((p0 &&& (2147483647 : Int32)) % (5 : Int32)))])) _
          refine XS.icmpNo X145.here hx rfl (hb hby at_60) rfl (flt hk2).1 ?_
          show Steps p.tables e below (T145.setTop (mkF m 63 #[.val (.int p0), .val (.int ((p0 &&& (2147483647 : Int32)) % (5 : Int32))), .val (.ref s_SCHEDULE), .unset, .unset, .unset, .unset] [])) _
          refine XS.iconst X145.here hx rfl (hb hby at_63) ?_
          show Steps p.tables e below (T145.setTop (mkF m 64 #[.val (.int p0), .val (.int ((p0 &&& (2147483647 : Int32)) % (5 : Int32))), .val (.ref s_SCHEDULE), .unset, .unset, .unset, .unset] [(.int (1 : Int32))])) _
          refine XS.goto X145.here hx rfl (pc0 := 64) (pc' := 68) rfl (hb hby at_64) (by decide) (by decide) ?_
          show Steps p.tables e below (T145.setTop (mkF m 68 #[.val (.int p0), .val (.int ((p0 &&& (2147483647 : Int32)) % (5 : Int32))), .val (.ref s_SCHEDULE), .unset, .unset, .unset, .unset] [(.int (1 : Int32))])) _
          refine XS.istoreN X145.here hx rfl (hb hby at_68) rfl (l' := #[.val (.int p0), .val (.int ((p0 &&& (2147483647 : Int32)) % (5 : Int32))), .val (.ref s_SCHEDULE), .val (.int (1 : Int32)), .unset, .unset, .unset]) rfl ?_
          show Steps p.tables e below (T145.setTop (mkF m 69 #[.val (.int p0), .val (.int ((p0 &&& (2147483647 : Int32)) % (5 : Int32))), .val (.ref s_SCHEDULE), .val (.int (1 : Int32)), .unset, .unset, .unset] [])) _
          refine XS.aloadN X145.here hx rfl (hb hby at_69) rfl rfl ?_
          exact kt)
        obtain ⟨cq147, kq147, q147a, q147b, q147c⟩ := isOf hZ e145 E_SCHEDULE
        obtain ⟨_, _, ⟨T147, L147, k147, n147⟩, -, X147, ⟨Lc147, hQ147, l147, y147, z147⟩, st147⟩ := X145.virtualBack hx (y := (⟨"com/example/restate/restate/Address$Kind", "word", "()Ljava/lang/String;"⟩ : MethodName)) (z := (⟨"com/example/restate/restate/Address$Kind", "word", "()Ljava/lang/String;"⟩ : MethodName)) hown (mvT hZ (hw _ (List.mem_of_getElem? (i := 4) rfl))) (mvT hZ (hw _ (List.mem_of_getElem? (i := 5) rfl))) (notFace_of_selects (args := #[]) (mvT hZ (hw _ (List.mem_of_getElem? (i := 7) rfl)))) (mvT hZ (hw _ (List.mem_of_getElem? (i := 7) rfl))) (mvT hZ (hw _ (List.mem_of_getElem? (i := 6) rfl))) (by decide) (backOf (W := 0) (rm1 l Z a0 hw [] s_SCHEDULE w_SCHEDULE h0 n0 Z0 Fw_SCHEDULE) hZ (hw _ (List.mem_of_getElem? (i := 8) rfl)) (hw _ (List.mem_of_getElem? (i := 2) rfl)) (by decide) (by decide)) q147a q147c (g := (mkF m 70 #[.val (.int p0), .val (.int ((p0 &&& (2147483647 : Int32)) % (5 : Int32))), .val (.ref s_SCHEDULE), .val (.int (1 : Int32)), .unset, .unset, .unset] [(.ref s_SCHEDULE)])) rfl (by rw [hml]; rfl) (Steps.refl _) (argsL := []) (rest := []) (lenOf pd_1 rfl) rfl (by show 2 * 0 + _ ≤ _; exact Nat.le_of_eq rfl) (hb hby at_70) (fun _ _ => ⟨rfl, e145, (Nat.le_of_ble_eq_true rfl), (Nat.le_of_ble_eq_true rfl)⟩)
        dsimp only [Pt.U, Pt.locs, Pt.cells, Pt.slots] at X147 l147 y147 z147 st147 hQ147
        subst l147 y147 z147
        obtain ⟨rfl, N147q, e147⟩ := hQ147
        have N147 := Fr.app N0 N147q
        have pre147s : ∀ tg, Steps p.tables e below (T147.setTop (mkF m 73 #[.val (.int p0), .val (.int ((p0 &&& (2147483647 : Int32)) % (5 : Int32))), .val (.ref s_SCHEDULE), .val (.int (1 : Int32)), .unset, .unset, .unset] [(.ref w_SCHEDULE)])) tg → G tg := fun tg kt => pre146 tg (st147.trans kt)
        have pre148 : ∀ tg, Steps p.tables e below (T147.setTop (mkF m 77 #[.val (.int p0), .val (.int ((p0 &&& (2147483647 : Int32)) % (5 : Int32))), .val (.ref s_SCHEDULE), .val (.int (1 : Int32)), .val (.ref w_SCHEDULE), .unset, .unset] [(.ref w_SCHEDULE)])) tg → G tg := fun tg kt => pre147s tg (by
          show Steps p.tables e below (T147.setTop (mkF m 73 #[.val (.int p0), .val (.int ((p0 &&& (2147483647 : Int32)) % (5 : Int32))), .val (.ref s_SCHEDULE), .val (.int (1 : Int32)), .unset, .unset, .unset] [(.ref w_SCHEDULE)])) _
          refine XS.astore X147.here hx rfl (hb hby at_73) rfl rfl (l' := #[.val (.int p0), .val (.int ((p0 &&& (2147483647 : Int32)) % (5 : Int32))), .val (.ref s_SCHEDULE), .val (.int (1 : Int32)), .val (.ref w_SCHEDULE), .unset, .unset]) rfl ?_
          show Steps p.tables e below (T147.setTop (mkF m 75 #[.val (.int p0), .val (.int ((p0 &&& (2147483647 : Int32)) % (5 : Int32))), .val (.ref s_SCHEDULE), .val (.int (1 : Int32)), .val (.ref w_SCHEDULE), .unset, .unset] [])) _
          refine XS.aload X147.here hx rfl (hb hby at_75) rfl rfl ?_
          exact kt)
        obtain ⟨l0, T149, h149, kk149, lb0, k149, X149, e149, E149, hS149, hk149, hZ, hown, E_l0, C_l0, F_l0, V_l0, -, -, IB149, -, st149⟩ := ldcSVL (vm0 := s.vm) (s := s) X147 hx hZ hown (hw _ (List.mem_of_getElem? (i := 11) rfl)) wS e147 hS hkz (by rw [hh, ← hsz]; exact N147) hkeep IB0 (by decide) hc30 hcw (vs := [(.int (83 : Int32)), (.int (99 : Int32)), (.int (104 : Int32)), (.int (101 : Int32)), (.int (100 : Int32)), (.int (117 : Int32)), (.int (108 : Int32)), (.int (101 : Int32))]) (z := (8 : Int32)) ⟨by decide, by decide⟩ (by decide) (by decide) (g := (mkF m 77 #[.val (.int p0), .val (.int ((p0 &&& (2147483647 : Int32)) % (5 : Int32))), .val (.ref s_SCHEDULE), .val (.int (1 : Int32)), .val (.ref w_SCHEDULE), .unset, .unset] [(.ref w_SCHEDULE)])) rfl (hb hby at_77) (n := 32) (by decide) (by decide) (by decide) (by decide)
        have pre149s : ∀ tg, Steps p.tables e below (T149.setTop (mkF m 79 #[.val (.int p0), .val (.int ((p0 &&& (2147483647 : Int32)) % (5 : Int32))), .val (.ref s_SCHEDULE), .val (.int (1 : Int32)), .val (.ref w_SCHEDULE), .unset, .unset] [(.ref l0), (.ref w_SCHEDULE)])) tg → G tg := fun tg kt => pre148 tg (st149 tg kt)
        have S_c_150 := S_c.ext E149
        have S_ARTICLE_151 := S_ARTICLE.ext E149
        have S_SECTION_152 := S_SECTION.ext E149
        have S_SCHEDULE_153 := S_SCHEDULE.ext E149
        have E_SCHEDULE_154 := E_SCHEDULE.ext E149
        have Ew_SCHEDULE_155 := Ew_SCHEDULE.ext E149
        have Fw_SCHEDULE_156 := Fw_SCHEDULE.ext E149
        have Fc_SCHEDULE_157 := Fc_SCHEDULE.ext E149
        have Fv_SCHEDULE_158 := Fv_SCHEDULE.ext E149
        have V_SCHEDULE_159 := V_SCHEDULE.ext E149
        have S_EXHIBIT_160 := S_EXHIBIT.ext E149
        have S_ANNEX_161 := S_ANNEX.ext E149
        have Ol162 := Ol.ext E149
        have Z149 : n0 ≤ h149.size := Nat.le_trans Z0 E149.1
        obtain ⟨cq164, kq164, q164a, q164b, q164c⟩ := isOf hZ e149 Ew_SCHEDULE_155
        obtain ⟨_, _, ⟨T164, L164, k164, n164⟩, -, X164, ⟨Lc164, hQ164, l164, y164, z164⟩, st164⟩ := X149.virtualBack hx (y := (⟨"java/lang/String", "equals", "(Ljava/lang/Object;)Z"⟩ : MethodName)) (z := (⟨"java/lang/String", "equals", "(Ljava/lang/Object;)Z"⟩ : MethodName)) hown (mvT hZ (hw _ (List.mem_of_getElem? (i := 19) rfl))) (mvT hZ (hw _ (List.mem_of_getElem? (i := 20) rfl))) (notFace_of_selects (args := #[]) (mvT hZ (hw _ (List.mem_of_getElem? (i := 22) rfl)))) (mvT hZ (hw _ (List.mem_of_getElem? (i := 22) rfl))) (mvT hZ (hw _ (List.mem_of_getElem? (i := 21) rfl))) (by decide) (backOf (W := 0) (rm_es8 l Z a0 hw [] w_SCHEDULE l0 v_SCHEDULE lb0 k_SCHEDULE k149 cs (83 : Int32) (99 : Int32) (104 : Int32) (101 : Int32) (100 : Int32) (117 : Int32) (108 : Int32) (101 : Int32) h149 n0 Z149 S_c_150 hcs E_l0 Fc_SCHEDULE_157 C_l0 Fv_SCHEDULE_158 F_l0 V_SCHEDULE_159 V_l0) hZ (hw _ (List.mem_of_getElem? (i := 23) rfl)) (hw _ (List.mem_of_getElem? (i := 12) rfl)) (by decide) (by decide)) q164a q164c (g := (mkF m 79 #[.val (.int p0), .val (.int ((p0 &&& (2147483647 : Int32)) % (5 : Int32))), .val (.ref s_SCHEDULE), .val (.int (1 : Int32)), .val (.ref w_SCHEDULE), .unset, .unset] [(.ref l0), (.ref w_SCHEDULE)])) rfl (by rw [hml]; rfl) (Steps.refl _) (argsL := [(.ref l0)]) (rest := []) (lenOf pd_2 rfl) rfl (by show 2 * 0 + _ ≤ _; exact Nat.le_of_eq rfl) (hb hby at_79) (fun _ _ => ⟨rfl, e149, (Nat.le_of_ble_eq_true rfl), (Nat.le_of_ble_eq_true rfl)⟩)
        dsimp only [Pt.U, Pt.locs, Pt.cells, Pt.slots] at X164 l164 y164 z164 st164 hQ164
        subst l164 y164 z164
        obtain ⟨rfl, N164q, e164⟩ := hQ164
        have N164 := Fr.app N147 N164q
        have pre164s : ∀ tg, Steps p.tables e below (T164.setTop (mkF m 82 #[.val (.int p0), .val (.int ((p0 &&& (2147483647 : Int32)) % (5 : Int32))), .val (.ref s_SCHEDULE), .val (.int (1 : Int32)), .val (.ref w_SCHEDULE), .unset, .unset] [(.int (1 : Int32))])) tg → G tg := fun tg kt => pre149s tg (st164.trans kt)
        have pre165 : ∀ tg, Steps p.tables e below (T164.setTop (mkF m 113 #[.val (.int p0), .val (.int ((p0 &&& (2147483647 : Int32)) % (5 : Int32))), .val (.ref s_SCHEDULE), .val (.int (1 : Int32)), .val (.ref w_SCHEDULE), .val (.int (1 : Int32)), .unset] [(.ref s_SCHEDULE)])) tg → G tg := fun tg kt => pre164s tg (by
          show Steps p.tables e below (T164.setTop (mkF m 82 #[.val (.int p0), .val (.int ((p0 &&& (2147483647 : Int32)) % (5 : Int32))), .val (.ref s_SCHEDULE), .val (.int (1 : Int32)), .val (.ref w_SCHEDULE), .unset, .unset] [(.int (1 : Int32))])) _
          refine XS.ifYes X164.here hx rfl (pc0 := 82) (pc' := 105) rfl (hb hby at_82) rfl ((if0 _ _).trans (feq (by decide : ¬ ((1 : Int32) = (0 : Int32)))).2) (by decide) (by decide) ?_
          show Steps p.tables e below (T164.setTop (mkF m 105 #[.val (.int p0), .val (.int ((p0 &&& (2147483647 : Int32)) % (5 : Int32))), .val (.ref s_SCHEDULE), .val (.int (1 : Int32)), .val (.ref w_SCHEDULE), .unset, .unset] [])) _
          refine XS.iconst X164.here hx rfl (hb hby at_105) ?_
          show Steps p.tables e below (T164.setTop (mkF m 106 #[.val (.int p0), .val (.int ((p0 &&& (2147483647 : Int32)) % (5 : Int32))), .val (.ref s_SCHEDULE), .val (.int (1 : Int32)), .val (.ref w_SCHEDULE), .unset, .unset] [(.int (1 : Int32))])) _
          refine XS.goto X164.here hx rfl (pc0 := 106) (pc' := 110) rfl (hb hby at_106) (by decide) (by decide) ?_
          show Steps p.tables e below (T164.setTop (mkF m 110 #[.val (.int p0), .val (.int ((p0 &&& (2147483647 : Int32)) % (5 : Int32))), .val (.ref s_SCHEDULE), .val (.int (1 : Int32)), .val (.ref w_SCHEDULE), .unset, .unset] [(.int (1 : Int32))])) _
          refine XS.istore X164.here hx rfl (hb hby at_110) rfl (l' := #[.val (.int p0), .val (.int ((p0 &&& (2147483647 : Int32)) % (5 : Int32))), .val (.ref s_SCHEDULE), .val (.int (1 : Int32)), .val (.ref w_SCHEDULE), .val (.int (1 : Int32)), .unset]) rfl ?_
          show Steps p.tables e below (T164.setTop (mkF m 112 #[.val (.int p0), .val (.int ((p0 &&& (2147483647 : Int32)) % (5 : Int32))), .val (.ref s_SCHEDULE), .val (.int (1 : Int32)), .val (.ref w_SCHEDULE), .val (.int (1 : Int32)), .unset] [])) _
          refine XS.aloadN X164.here hx rfl (hb hby at_112) rfl rfl ?_
          exact kt)
        obtain ⟨cq166, kq166, q166a, q166b, q166c⟩ := isOf hZ e164 E_SCHEDULE_154
        obtain ⟨_, _, ⟨T166, L166, k166, n166⟩, -, X166, ⟨Lc166, hQ166, l166, y166, z166⟩, st166⟩ := X164.virtualBack hx (y := (⟨"com/example/restate/restate/Address$Kind", "isAttachment", "()Z"⟩ : MethodName)) (z := (⟨"com/example/restate/restate/Address$Kind", "isAttachment", "()Z"⟩ : MethodName)) hown (mvT hZ (hw _ (List.mem_of_getElem? (i := 35) rfl))) (mvT hZ (hw _ (List.mem_of_getElem? (i := 36) rfl))) (notFace_of_selects (args := #[]) (mvT hZ (hw _ (List.mem_of_getElem? (i := 38) rfl)))) (mvT hZ (hw _ (List.mem_of_getElem? (i := 38) rfl))) (mvT hZ (hw _ (List.mem_of_getElem? (i := 37) rfl))) (by decide) (backOf (W := 0) (rm4 l Z a0 hw [] s_SCHEDULE s_SCHEDULE s_EXHIBIT s_ANNEX h149 n0 Z149 S_SCHEDULE_153 S_EXHIBIT_160 S_ANNEX_161) hZ (hw _ (List.mem_of_getElem? (i := 39) rfl)) (hw _ (List.mem_of_getElem? (i := 2) rfl)) (by decide) (by decide)) q166a q166c (g := (mkF m 113 #[.val (.int p0), .val (.int ((p0 &&& (2147483647 : Int32)) % (5 : Int32))), .val (.ref s_SCHEDULE), .val (.int (1 : Int32)), .val (.ref w_SCHEDULE), .val (.int (1 : Int32)), .unset] [(.ref s_SCHEDULE)])) rfl (by rw [hml]; rfl) (Steps.refl _) (argsL := []) (rest := []) (lenOf pd_3 rfl) rfl (by show 2 * 0 + _ ≤ _; exact Nat.le_of_eq rfl) (hb hby at_113) (fun _ _ => ⟨rfl, e164, (Nat.le_of_ble_eq_true rfl), (Nat.le_of_ble_eq_true rfl)⟩)
        dsimp only [Pt.U, Pt.locs, Pt.cells, Pt.slots] at X166 l166 y166 z166 st166 hQ166
        subst l166 y166 z166
        obtain ⟨hv166, N166q, e166⟩ := hQ166
        rw [if_pos rfl] at hv166
        subst hv166
        have N166 := Fr.app N164 N166q
        have pre166s : ∀ tg, Steps p.tables e below (T166.setTop (mkF m 116 #[.val (.int p0), .val (.int ((p0 &&& (2147483647 : Int32)) % (5 : Int32))), .val (.ref s_SCHEDULE), .val (.int (1 : Int32)), .val (.ref w_SCHEDULE), .val (.int (1 : Int32)), .unset] [(.int (1 : Int32))])) tg → G tg := fun tg kt => pre165 tg (st166.trans kt)
        have pre167 : ∀ tg, Steps p.tables e below (T166.setTop (mkF m 136 #[.val (.int p0), .val (.int ((p0 &&& (2147483647 : Int32)) % (5 : Int32))), .val (.ref s_SCHEDULE), .val (.int (1 : Int32)), .val (.ref w_SCHEDULE), .val (.int (1 : Int32)), .val (.int (1 : Int32))] [(.int (1 : Int32))])) tg → G tg := fun tg kt => pre166s tg (by
          show Steps p.tables e below (T166.setTop (mkF m 116 #[.val (.int p0), .val (.int ((p0 &&& (2147483647 : Int32)) % (5 : Int32))), .val (.ref s_SCHEDULE), .val (.int (1 : Int32)), .val (.ref w_SCHEDULE), .val (.int (1 : Int32)), .unset] [(.int (1 : Int32))])) _
          refine XS.istore X166.here hx rfl (hb hby at_116) rfl (l' := #[.val (.int p0), .val (.int ((p0 &&& (2147483647 : Int32)) % (5 : Int32))), .val (.ref s_SCHEDULE), .val (.int (1 : Int32)), .val (.ref w_SCHEDULE), .val (.int (1 : Int32)), .val (.int (1 : Int32))]) rfl ?_
          show Steps p.tables e below (T166.setTop (mkF m 118 #[.val (.int p0), .val (.int ((p0 &&& (2147483647 : Int32)) % (5 : Int32))), .val (.ref s_SCHEDULE), .val (.int (1 : Int32)), .val (.ref w_SCHEDULE), .val (.int (1 : Int32)), .val (.int (1 : Int32))] [])) _
          refine XS.iload X166.here hx rfl (hb hby at_118) rfl ?_
          show Steps p.tables e below (T166.setTop (mkF m 120 #[.val (.int p0), .val (.int ((p0 &&& (2147483647 : Int32)) % (5 : Int32))), .val (.ref s_SCHEDULE), .val (.int (1 : Int32)), .val (.ref w_SCHEDULE), .val (.int (1 : Int32)), .val (.int (1 : Int32))] [(.int (1 : Int32))])) _
          refine XS.iloadN X166.here hx rfl (hb hby at_120) rfl ?_
          show Steps p.tables e below (T166.setTop (mkF m 121 #[.val (.int p0), .val (.int ((p0 &&& (2147483647 : Int32)) % (5 : Int32))), .val (.ref s_SCHEDULE), .val (.int (1 : Int32)), .val (.ref w_SCHEDULE), .val (.int (1 : Int32)), .val (.int (1 : Int32))] [(.int (1 : Int32)), (.int (1 : Int32))])) _
          refine XS.icmpNo X166.here hx rfl (hb hby at_121) rfl (teq (by decide : (1 : Int32) = (1 : Int32))).2 ?_
          show Steps p.tables e below (T166.setTop (mkF m 124 #[.val (.int p0), .val (.int ((p0 &&& (2147483647 : Int32)) % (5 : Int32))), .val (.ref s_SCHEDULE), .val (.int (1 : Int32)), .val (.ref w_SCHEDULE), .val (.int (1 : Int32)), .val (.int (1 : Int32))] [])) _
          refine XS.iload X166.here hx rfl (hb hby at_124) rfl ?_
          show Steps p.tables e below (T166.setTop (mkF m 126 #[.val (.int p0), .val (.int ((p0 &&& (2147483647 : Int32)) % (5 : Int32))), .val (.ref s_SCHEDULE), .val (.int (1 : Int32)), .val (.ref w_SCHEDULE), .val (.int (1 : Int32)), .val (.int (1 : Int32))] [(.int (1 : Int32))])) _
          refine XS.iload X166.here hx rfl (hb hby at_126) rfl ?_
          show Steps p.tables e below (T166.setTop (mkF m 128 #[.val (.int p0), .val (.int ((p0 &&& (2147483647 : Int32)) % (5 : Int32))), .val (.ref s_SCHEDULE), .val (.int (1 : Int32)), .val (.ref w_SCHEDULE), .val (.int (1 : Int32)), .val (.int (1 : Int32))] [(.int (1 : Int32)), (.int (1 : Int32))])) _
          refine XS.icmpNo X166.here hx rfl (hb hby at_128) rfl (teq (by decide : (1 : Int32) = (1 : Int32))).2 ?_
          show Steps p.tables e below (T166.setTop (mkF m 131 #[.val (.int p0), .val (.int ((p0 &&& (2147483647 : Int32)) % (5 : Int32))), .val (.ref s_SCHEDULE), .val (.int (1 : Int32)), .val (.ref w_SCHEDULE), .val (.int (1 : Int32)), .val (.int (1 : Int32))] [])) _
          refine XS.iconst X166.here hx rfl (hb hby at_131) ?_
          show Steps p.tables e below (T166.setTop (mkF m 132 #[.val (.int p0), .val (.int ((p0 &&& (2147483647 : Int32)) % (5 : Int32))), .val (.ref s_SCHEDULE), .val (.int (1 : Int32)), .val (.ref w_SCHEDULE), .val (.int (1 : Int32)), .val (.int (1 : Int32))] [(.int (1 : Int32))])) _
          refine XS.goto X166.here hx rfl (pc0 := 132) (pc' := 136) rfl (hb hby at_132) (by decide) (by decide) ?_
          exact kt)
        obtain ⟨fs, hr, hrun, hended, hRE⟩ := X166.leaveW (s := s) (vm₁ := T149.vm) (v := some (.int (1 : Int32))) hS149 (by rw [e166]; exact hk149) (fun h => by rw [Bd.returns] at h; cases h)
        subst hG
        refine ⟨_, _, pre167 _ ?_, hrun, hended, _, _, rfl, ?_, hRE.1, hRE.2.1, hRE.2.2.1, hRE.2.2.2.mono (by decide) (by decide)⟩
        · exact retN X166 hx (t := .boolean) Bd.returns (by simp) (hb hby at_136) hr
        · exact ⟨rfl, N166⟩
      · -- not hkk2
        have pre168 : ∀ tg, Steps p.tables e below (s₁.setTop (mkF m 44 #[.val (.int p0), .val (.int ((p0 &&& (2147483647 : Int32)) % (5 : Int32))), .unset, .unset, .unset, .unset, .unset] [(.int (3 : Int32)), (.int ((p0 &&& (2147483647 : Int32)) % (5 : Int32)))])) tg → G tg := fun tg kt => pre143 tg (by
          show Steps p.tables e below (s₁.setTop (mkF m 32 #[.val (.int p0), .val (.int ((p0 &&& (2147483647 : Int32)) % (5 : Int32))), .unset, .unset, .unset, .unset, .unset] [(.int (2 : Int32)), (.int ((p0 &&& (2147483647 : Int32)) % (5 : Int32)))])) _
          refine XS.icmpYes X0.here hx rfl (pc0 := 32) (pc' := 42) rfl (hb hby at_32) rfl (feq hkk2).2 (by decide) (by decide) ?_
          show Steps p.tables e below (s₁.setTop (mkF m 42 #[.val (.int p0), .val (.int ((p0 &&& (2147483647 : Int32)) % (5 : Int32))), .unset, .unset, .unset, .unset, .unset] [])) _
          refine XS.iloadN X0.here hx rfl (hb hby at_42) rfl ?_
          show Steps p.tables e below (s₁.setTop (mkF m 43 #[.val (.int p0), .val (.int ((p0 &&& (2147483647 : Int32)) % (5 : Int32))), .unset, .unset, .unset, .unset, .unset] [(.int ((p0 &&& (2147483647 : Int32)) % (5 : Int32)))])) _
          refine XS.iconst X0.here hx rfl (hb hby at_43) ?_
          exact kt)
        by_cases hkk3 : ((p0 &&& (2147483647 : Int32)) % (5 : Int32)) = (3 : Int32)
        · -- hkk3
          have pre169 : ∀ tg, Steps p.tables e below (s₁.setTop (mkF m 47 #[.val (.int p0), .val (.int ((p0 &&& (2147483647 : Int32)) % (5 : Int32))), .unset, .unset, .unset, .unset, .unset] [])) tg → G tg := fun tg kt => pre168 tg (by
            show Steps p.tables e below (s₁.setTop (mkF m 44 #[.val (.int p0), .val (.int ((p0 &&& (2147483647 : Int32)) % (5 : Int32))), .unset, .unset, .unset, .unset, .unset] [(.int (3 : Int32)), (.int ((p0 &&& (2147483647 : Int32)) % (5 : Int32)))])) _
            refine XS.icmpNo X0.here hx rfl (hb hby at_44) rfl (teq hkk3).2 ?_
            exact kt)
          obtain ⟨T170, X170, e170, st170⟩ := getS2 X0 hx hZ hown (host := "") (Or.inl (hw _ (List.mem_of_getElem? (i := 46) rfl))) Via.refl e0 S_EXHIBIT (g := (mkF m 47 #[.val (.int p0), .val (.int ((p0 &&& (2147483647 : Int32)) % (5 : Int32))), .unset, .unset, .unset, .unset, .unset] [])) rfl (hb hby at_47)
          have pre170s : ∀ tg, Steps p.tables e below (T170.setTop (mkF m 50 #[.val (.int p0), .val (.int ((p0 &&& (2147483647 : Int32)) % (5 : Int32))), .unset, .unset, .unset, .unset, .unset] [(.ref s_EXHIBIT)])) tg → G tg := fun tg kt => pre169 tg (st170 tg kt)
          have pre171 : ∀ tg, Steps p.tables e below (T170.setTop (mkF m 70 #[.val (.int p0), .val (.int ((p0 &&& (2147483647 : Int32)) % (5 : Int32))), .val (.ref s_EXHIBIT), .val (.int (1 : Int32)), .unset, .unset, .unset] [(.ref s_EXHIBIT)])) tg → G tg := fun tg kt => pre170s tg (by
            show Steps p.tables e below (T170.setTop (mkF m 50 #[.val (.int p0), .val (.int ((p0 &&& (2147483647 : Int32)) % (5 : Int32))), .unset, .unset, .unset, .unset, .unset] [(.ref s_EXHIBIT)])) _
            refine XS.astoreN X170.here hx rfl (hb hby at_50) rfl rfl (l' := #[.val (.int p0), .val (.int ((p0 &&& (2147483647 : Int32)) % (5 : Int32))), .val (.ref s_EXHIBIT), .unset, .unset, .unset, .unset]) rfl ?_
            show Steps p.tables e below (T170.setTop (mkF m 51 #[.val (.int p0), .val (.int ((p0 &&& (2147483647 : Int32)) % (5 : Int32))), .val (.ref s_EXHIBIT), .unset, .unset, .unset, .unset] [])) _
            refine XS.goto X170.here hx rfl (pc0 := 51) (pc' := 58) rfl (hb hby at_51) (by decide) (by decide) ?_
            show Steps p.tables e below (T170.setTop (mkF m 58 #[.val (.int p0), .val (.int ((p0 &&& (2147483647 : Int32)) % (5 : Int32))), .val (.ref s_EXHIBIT), .unset, .unset, .unset, .unset] [])) _
            refine XS.iloadN X170.here hx rfl (hb hby at_58) rfl ?_
            show Steps p.tables e below (T170.setTop (mkF m 59 #[.val (.int p0), .val (.int ((p0 &&& (2147483647 : Int32)) % (5 : Int32))), .val (.ref s_EXHIBIT), .unset, .unset, .unset, .unset] [(.int ((p0 &&& (2147483647 : Int32)) % (5 : Int32)))])) _
            refine XS.iconst X170.here hx rfl (hb hby at_59) ?_
            show Steps p.tables e below (T170.setTop (mkF m 60 #[.val (.int p0), .val (.int ((p0 &&& (2147483647 : Int32)) % (5 : Int32))), .val (.ref s_EXHIBIT), .unset, .unset, .unset, .unset] [(.int (2 : Int32)), (.int ((p0 &&& (2147483647 : Int32)) % (5 : Int32)))])) _
            refine XS.icmpNo X170.here hx rfl (hb hby at_60) rfl (flt hk2).1 ?_
            show Steps p.tables e below (T170.setTop (mkF m 63 #[.val (.int p0), .val (.int ((p0 &&& (2147483647 : Int32)) % (5 : Int32))), .val (.ref s_EXHIBIT), .unset, .unset, .unset, .unset] [])) _
            refine XS.iconst X170.here hx rfl (hb hby at_63) ?_
            show Steps p.tables e below (T170.setTop (mkF m 64 #[.val (.int p0), .val (.int ((p0 &&& (2147483647 : Int32)) % (5 : Int32))), .val (.ref s_EXHIBIT), .unset, .unset, .unset, .unset] [(.int (1 : Int32))])) _
            refine XS.goto X170.here hx rfl (pc0 := 64) (pc' := 68) rfl (hb hby at_64) (by decide) (by decide) ?_
            show Steps p.tables e below (T170.setTop (mkF m 68 #[.val (.int p0), .val (.int ((p0 &&& (2147483647 : Int32)) % (5 : Int32))), .val (.ref s_EXHIBIT), .unset, .unset, .unset, .unset] [(.int (1 : Int32))])) _
            refine XS.istoreN X170.here hx rfl (hb hby at_68) rfl (l' := #[.val (.int p0), .val (.int ((p0 &&& (2147483647 : Int32)) % (5 : Int32))), .val (.ref s_EXHIBIT), .val (.int (1 : Int32)), .unset, .unset, .unset]) rfl ?_
            show Steps p.tables e below (T170.setTop (mkF m 69 #[.val (.int p0), .val (.int ((p0 &&& (2147483647 : Int32)) % (5 : Int32))), .val (.ref s_EXHIBIT), .val (.int (1 : Int32)), .unset, .unset, .unset] [])) _
            refine XS.aloadN X170.here hx rfl (hb hby at_69) rfl rfl ?_
            exact kt)
          obtain ⟨cq172, kq172, q172a, q172b, q172c⟩ := isOf hZ e170 E_EXHIBIT
          obtain ⟨_, _, ⟨T172, L172, k172, n172⟩, -, X172, ⟨Lc172, hQ172, l172, y172, z172⟩, st172⟩ := X170.virtualBack hx (y := (⟨"com/example/restate/restate/Address$Kind", "word", "()Ljava/lang/String;"⟩ : MethodName)) (z := (⟨"com/example/restate/restate/Address$Kind", "word", "()Ljava/lang/String;"⟩ : MethodName)) hown (mvT hZ (hw _ (List.mem_of_getElem? (i := 4) rfl))) (mvT hZ (hw _ (List.mem_of_getElem? (i := 5) rfl))) (notFace_of_selects (args := #[]) (mvT hZ (hw _ (List.mem_of_getElem? (i := 7) rfl)))) (mvT hZ (hw _ (List.mem_of_getElem? (i := 7) rfl))) (mvT hZ (hw _ (List.mem_of_getElem? (i := 6) rfl))) (by decide) (backOf (W := 0) (rm1 l Z a0 hw [] s_EXHIBIT w_EXHIBIT h0 n0 Z0 Fw_EXHIBIT) hZ (hw _ (List.mem_of_getElem? (i := 8) rfl)) (hw _ (List.mem_of_getElem? (i := 2) rfl)) (by decide) (by decide)) q172a q172c (g := (mkF m 70 #[.val (.int p0), .val (.int ((p0 &&& (2147483647 : Int32)) % (5 : Int32))), .val (.ref s_EXHIBIT), .val (.int (1 : Int32)), .unset, .unset, .unset] [(.ref s_EXHIBIT)])) rfl (by rw [hml]; rfl) (Steps.refl _) (argsL := []) (rest := []) (lenOf pd_1 rfl) rfl (by show 2 * 0 + _ ≤ _; exact Nat.le_of_eq rfl) (hb hby at_70) (fun _ _ => ⟨rfl, e170, (Nat.le_of_ble_eq_true rfl), (Nat.le_of_ble_eq_true rfl)⟩)
          dsimp only [Pt.U, Pt.locs, Pt.cells, Pt.slots] at X172 l172 y172 z172 st172 hQ172
          subst l172 y172 z172
          obtain ⟨rfl, N172q, e172⟩ := hQ172
          have N172 := Fr.app N0 N172q
          have pre172s : ∀ tg, Steps p.tables e below (T172.setTop (mkF m 73 #[.val (.int p0), .val (.int ((p0 &&& (2147483647 : Int32)) % (5 : Int32))), .val (.ref s_EXHIBIT), .val (.int (1 : Int32)), .unset, .unset, .unset] [(.ref w_EXHIBIT)])) tg → G tg := fun tg kt => pre171 tg (st172.trans kt)
          have pre173 : ∀ tg, Steps p.tables e below (T172.setTop (mkF m 77 #[.val (.int p0), .val (.int ((p0 &&& (2147483647 : Int32)) % (5 : Int32))), .val (.ref s_EXHIBIT), .val (.int (1 : Int32)), .val (.ref w_EXHIBIT), .unset, .unset] [(.ref w_EXHIBIT)])) tg → G tg := fun tg kt => pre172s tg (by
            show Steps p.tables e below (T172.setTop (mkF m 73 #[.val (.int p0), .val (.int ((p0 &&& (2147483647 : Int32)) % (5 : Int32))), .val (.ref s_EXHIBIT), .val (.int (1 : Int32)), .unset, .unset, .unset] [(.ref w_EXHIBIT)])) _
            refine XS.astore X172.here hx rfl (hb hby at_73) rfl rfl (l' := #[.val (.int p0), .val (.int ((p0 &&& (2147483647 : Int32)) % (5 : Int32))), .val (.ref s_EXHIBIT), .val (.int (1 : Int32)), .val (.ref w_EXHIBIT), .unset, .unset]) rfl ?_
            show Steps p.tables e below (T172.setTop (mkF m 75 #[.val (.int p0), .val (.int ((p0 &&& (2147483647 : Int32)) % (5 : Int32))), .val (.ref s_EXHIBIT), .val (.int (1 : Int32)), .val (.ref w_EXHIBIT), .unset, .unset] [])) _
            refine XS.aload X172.here hx rfl (hb hby at_75) rfl rfl ?_
            exact kt)
          obtain ⟨l0, T174, h174, kk174, lb0, k174, X174, e174, E174, hS174, hk174, hZ, hown, E_l0, C_l0, F_l0, V_l0, -, -, IB174, -, st174⟩ := ldcSVL (vm0 := s.vm) (s := s) X172 hx hZ hown (hw _ (List.mem_of_getElem? (i := 11) rfl)) wS e172 hS hkz (by rw [hh, ← hsz]; exact N172) hkeep IB0 (by decide) hc30 hcw (vs := [(.int (83 : Int32)), (.int (99 : Int32)), (.int (104 : Int32)), (.int (101 : Int32)), (.int (100 : Int32)), (.int (117 : Int32)), (.int (108 : Int32)), (.int (101 : Int32))]) (z := (8 : Int32)) ⟨by decide, by decide⟩ (by decide) (by decide) (g := (mkF m 77 #[.val (.int p0), .val (.int ((p0 &&& (2147483647 : Int32)) % (5 : Int32))), .val (.ref s_EXHIBIT), .val (.int (1 : Int32)), .val (.ref w_EXHIBIT), .unset, .unset] [(.ref w_EXHIBIT)])) rfl (hb hby at_77) (n := 32) (by decide) (by decide) (by decide) (by decide)
          have pre174s : ∀ tg, Steps p.tables e below (T174.setTop (mkF m 79 #[.val (.int p0), .val (.int ((p0 &&& (2147483647 : Int32)) % (5 : Int32))), .val (.ref s_EXHIBIT), .val (.int (1 : Int32)), .val (.ref w_EXHIBIT), .unset, .unset] [(.ref l0), (.ref w_EXHIBIT)])) tg → G tg := fun tg kt => pre173 tg (st174 tg kt)
          have S_c_175 := S_c.ext E174
          have S_ARTICLE_176 := S_ARTICLE.ext E174
          have S_SECTION_177 := S_SECTION.ext E174
          have S_SCHEDULE_178 := S_SCHEDULE.ext E174
          have S_EXHIBIT_179 := S_EXHIBIT.ext E174
          have E_EXHIBIT_180 := E_EXHIBIT.ext E174
          have Ew_EXHIBIT_181 := Ew_EXHIBIT.ext E174
          have Fw_EXHIBIT_182 := Fw_EXHIBIT.ext E174
          have Fc_EXHIBIT_183 := Fc_EXHIBIT.ext E174
          have Fv_EXHIBIT_184 := Fv_EXHIBIT.ext E174
          have V_EXHIBIT_185 := V_EXHIBIT.ext E174
          have S_ANNEX_186 := S_ANNEX.ext E174
          have Ol187 := Ol.ext E174
          have Z174 : n0 ≤ h174.size := Nat.le_trans Z0 E174.1
          have nv188 : v_EXHIBIT ≠ lb0 := arv_ne V_EXHIBIT_185 V_l0 (Or.inl (by decide))
          have nw188 : w_EXHIBIT ≠ l0 := Fld.ne Fv_EXHIBIT_184 F_l0 (fun q => nv188 (Value.ref.inj q))
          obtain ⟨cq189, kq189, q189a, q189b, q189c⟩ := isOf hZ e174 Ew_EXHIBIT_181
          obtain ⟨_, _, ⟨T189, L189, k189, n189⟩, -, X189, ⟨Lc189, hQ189, l189, y189, z189⟩, st189⟩ := X174.virtualBack hx (y := (⟨"java/lang/String", "equals", "(Ljava/lang/Object;)Z"⟩ : MethodName)) (z := (⟨"java/lang/String", "equals", "(Ljava/lang/Object;)Z"⟩ : MethodName)) hown (mvT hZ (hw _ (List.mem_of_getElem? (i := 19) rfl))) (mvT hZ (hw _ (List.mem_of_getElem? (i := 20) rfl))) (notFace_of_selects (args := #[]) (mvT hZ (hw _ (List.mem_of_getElem? (i := 22) rfl)))) (mvT hZ (hw _ (List.mem_of_getElem? (i := 22) rfl))) (mvT hZ (hw _ (List.mem_of_getElem? (i := 21) rfl))) (by decide) (backOf (W := 0) (rm_eld l Z a0 hw [] w_EXHIBIT l0 v_EXHIBIT lb0 k_EXHIBIT k174 cs (7 : Int32) (8 : Int32) [(.int (69 : Int32)), (.int (120 : Int32)), (.int (104 : Int32)), (.int (105 : Int32)), (.int (98 : Int32)), (.int (105 : Int32)), (.int (116 : Int32))] [(.int (83 : Int32)), (.int (99 : Int32)), (.int (104 : Int32)), (.int (101 : Int32)), (.int (100 : Int32)), (.int (117 : Int32)), (.int (108 : Int32)), (.int (101 : Int32))] h174 n0 Z174 S_c_175 hcs E_l0 Fc_EXHIBIT_183 C_l0 Fv_EXHIBIT_184 F_l0 V_EXHIBIT_185 V_l0 (by decide) nw188) hZ (hw _ (List.mem_of_getElem? (i := 23) rfl)) (hw _ (List.mem_of_getElem? (i := 12) rfl)) (by decide) (by decide)) q189a q189c (g := (mkF m 79 #[.val (.int p0), .val (.int ((p0 &&& (2147483647 : Int32)) % (5 : Int32))), .val (.ref s_EXHIBIT), .val (.int (1 : Int32)), .val (.ref w_EXHIBIT), .unset, .unset] [(.ref l0), (.ref w_EXHIBIT)])) rfl (by rw [hml]; rfl) (Steps.refl _) (argsL := [(.ref l0)]) (rest := []) (lenOf pd_2 rfl) rfl (by show 2 * 0 + _ ≤ _; exact Nat.le_of_eq rfl) (hb hby at_79) (fun _ _ => ⟨rfl, e174, (Nat.le_of_ble_eq_true rfl), (Nat.le_of_ble_eq_true rfl)⟩)
          dsimp only [Pt.U, Pt.locs, Pt.cells, Pt.slots] at X189 l189 y189 z189 st189 hQ189
          subst l189 y189 z189
          obtain ⟨rfl, N189q, e189⟩ := hQ189
          have N189 := Fr.app N172 N189q
          have pre189s : ∀ tg, Steps p.tables e below (T189.setTop (mkF m 82 #[.val (.int p0), .val (.int ((p0 &&& (2147483647 : Int32)) % (5 : Int32))), .val (.ref s_EXHIBIT), .val (.int (1 : Int32)), .val (.ref w_EXHIBIT), .unset, .unset] [(.int (0 : Int32))])) tg → G tg := fun tg kt => pre174s tg (st189.trans kt)
          have pre190 : ∀ tg, Steps p.tables e below (T189.setTop (mkF m 87 #[.val (.int p0), .val (.int ((p0 &&& (2147483647 : Int32)) % (5 : Int32))), .val (.ref s_EXHIBIT), .val (.int (1 : Int32)), .val (.ref w_EXHIBIT), .unset, .unset] [(.ref w_EXHIBIT)])) tg → G tg := fun tg kt => pre189s tg (by
            show Steps p.tables e below (T189.setTop (mkF m 82 #[.val (.int p0), .val (.int ((p0 &&& (2147483647 : Int32)) % (5 : Int32))), .val (.ref s_EXHIBIT), .val (.int (1 : Int32)), .val (.ref w_EXHIBIT), .unset, .unset] [(.int (0 : Int32))])) _
            refine XS.ifNo X189.here hx rfl (hb hby at_82) rfl ((if0 _ _).trans (teq (by decide : (0 : Int32) = (0 : Int32))).2) ?_
            show Steps p.tables e below (T189.setTop (mkF m 85 #[.val (.int p0), .val (.int ((p0 &&& (2147483647 : Int32)) % (5 : Int32))), .val (.ref s_EXHIBIT), .val (.int (1 : Int32)), .val (.ref w_EXHIBIT), .unset, .unset] [])) _
            refine XS.aload X189.here hx rfl (hb hby at_85) rfl rfl ?_
            exact kt)
          obtain ⟨l1, T191, h191, kk191, lb1, k191, X191, e191, E191, hS191, hk191, hZ, hown, E_l1, C_l1, F_l1, V_l1, -, -, IB191, -, st191⟩ := ldcSVL (vm0 := T174.vm) (s := s) X189 hx hZ hown (hw _ (List.mem_of_getElem? (i := 33) rfl)) wS e189 hS174 hk174 (by rw [hh, ← hsz]; exact N189) hkeep IB174 (by decide) hc38 hcw (vs := [(.int (69 : Int32)), (.int (120 : Int32)), (.int (104 : Int32)), (.int (105 : Int32)), (.int (98 : Int32)), (.int (105 : Int32)), (.int (116 : Int32))]) (z := (7 : Int32)) ⟨by decide, by decide⟩ (by decide) (by decide) (g := (mkF m 87 #[.val (.int p0), .val (.int ((p0 &&& (2147483647 : Int32)) % (5 : Int32))), .val (.ref s_EXHIBIT), .val (.int (1 : Int32)), .val (.ref w_EXHIBIT), .unset, .unset] [(.ref w_EXHIBIT)])) rfl (hb hby at_87) (n := 28) (by decide) (by decide) (by decide) (by decide)
          have pre191s : ∀ tg, Steps p.tables e below (T191.setTop (mkF m 89 #[.val (.int p0), .val (.int ((p0 &&& (2147483647 : Int32)) % (5 : Int32))), .val (.ref s_EXHIBIT), .val (.int (1 : Int32)), .val (.ref w_EXHIBIT), .unset, .unset] [(.ref l1), (.ref w_EXHIBIT)])) tg → G tg := fun tg kt => pre190 tg (st191 tg kt)
          have S_c_192 := S_c_175.ext E191
          have S_ARTICLE_193 := S_ARTICLE_176.ext E191
          have S_SECTION_194 := S_SECTION_177.ext E191
          have S_SCHEDULE_195 := S_SCHEDULE_178.ext E191
          have S_EXHIBIT_196 := S_EXHIBIT_179.ext E191
          have E_EXHIBIT_197 := E_EXHIBIT_180.ext E191
          have Ew_EXHIBIT_198 := Ew_EXHIBIT_181.ext E191
          have Fw_EXHIBIT_199 := Fw_EXHIBIT_182.ext E191
          have Fc_EXHIBIT_200 := Fc_EXHIBIT_183.ext E191
          have Fv_EXHIBIT_201 := Fv_EXHIBIT_184.ext E191
          have V_EXHIBIT_202 := V_EXHIBIT_185.ext E191
          have S_ANNEX_203 := S_ANNEX_186.ext E191
          have E_l0_204 := E_l0.ext E191
          have C_l0_205 := C_l0.ext E191
          have F_l0_206 := F_l0.ext E191
          have V_l0_207 := V_l0.ext E191
          have Ol208 := Ol187.ext E191
          have Z191 : n0 ≤ h191.size := Nat.le_trans Z174 E191.1
          obtain ⟨cq210, kq210, q210a, q210b, q210c⟩ := isOf hZ e191 Ew_EXHIBIT_198
          obtain ⟨_, _, ⟨T210, L210, k210, n210⟩, -, X210, ⟨Lc210, hQ210, l210, y210, z210⟩, st210⟩ := X191.virtualBack hx (y := (⟨"java/lang/String", "equals", "(Ljava/lang/Object;)Z"⟩ : MethodName)) (z := (⟨"java/lang/String", "equals", "(Ljava/lang/Object;)Z"⟩ : MethodName)) hown (mvT hZ (hw _ (List.mem_of_getElem? (i := 19) rfl))) (mvT hZ (hw _ (List.mem_of_getElem? (i := 20) rfl))) (notFace_of_selects (args := #[]) (mvT hZ (hw _ (List.mem_of_getElem? (i := 22) rfl)))) (mvT hZ (hw _ (List.mem_of_getElem? (i := 22) rfl))) (mvT hZ (hw _ (List.mem_of_getElem? (i := 21) rfl))) (by decide) (backOf (W := 0) (rm_es7 l Z a0 hw [] w_EXHIBIT l1 v_EXHIBIT lb1 k_EXHIBIT k191 cs (69 : Int32) (120 : Int32) (104 : Int32) (105 : Int32) (98 : Int32) (105 : Int32) (116 : Int32) h191 n0 Z191 S_c_192 hcs E_l1 Fc_EXHIBIT_200 C_l1 Fv_EXHIBIT_201 F_l1 V_EXHIBIT_202 V_l1) hZ (hw _ (List.mem_of_getElem? (i := 23) rfl)) (hw _ (List.mem_of_getElem? (i := 12) rfl)) (by decide) (by decide)) q210a q210c (g := (mkF m 89 #[.val (.int p0), .val (.int ((p0 &&& (2147483647 : Int32)) % (5 : Int32))), .val (.ref s_EXHIBIT), .val (.int (1 : Int32)), .val (.ref w_EXHIBIT), .unset, .unset] [(.ref l1), (.ref w_EXHIBIT)])) rfl (by rw [hml]; rfl) (Steps.refl _) (argsL := [(.ref l1)]) (rest := []) (lenOf pd_2 rfl) rfl (by show 2 * 0 + _ ≤ _; exact Nat.le_of_eq rfl) (hb hby at_89) (fun _ _ => ⟨rfl, e191, (Nat.le_of_ble_eq_true rfl), (Nat.le_of_ble_eq_true rfl)⟩)
          dsimp only [Pt.U, Pt.locs, Pt.cells, Pt.slots] at X210 l210 y210 z210 st210 hQ210
          subst l210 y210 z210
          obtain ⟨rfl, N210q, e210⟩ := hQ210
          have N210 := Fr.app N189 N210q
          have pre210s : ∀ tg, Steps p.tables e below (T210.setTop (mkF m 92 #[.val (.int p0), .val (.int ((p0 &&& (2147483647 : Int32)) % (5 : Int32))), .val (.ref s_EXHIBIT), .val (.int (1 : Int32)), .val (.ref w_EXHIBIT), .unset, .unset] [(.int (1 : Int32))])) tg → G tg := fun tg kt => pre191s tg (st210.trans kt)
          have pre211 : ∀ tg, Steps p.tables e below (T210.setTop (mkF m 113 #[.val (.int p0), .val (.int ((p0 &&& (2147483647 : Int32)) % (5 : Int32))), .val (.ref s_EXHIBIT), .val (.int (1 : Int32)), .val (.ref w_EXHIBIT), .val (.int (1 : Int32)), .unset] [(.ref s_EXHIBIT)])) tg → G tg := fun tg kt => pre210s tg (by
            show Steps p.tables e below (T210.setTop (mkF m 92 #[.val (.int p0), .val (.int ((p0 &&& (2147483647 : Int32)) % (5 : Int32))), .val (.ref s_EXHIBIT), .val (.int (1 : Int32)), .val (.ref w_EXHIBIT), .unset, .unset] [(.int (1 : Int32))])) _
            refine XS.ifYes X210.here hx rfl (pc0 := 92) (pc' := 105) rfl (hb hby at_92) rfl ((if0 _ _).trans (feq (by decide : ¬ ((1 : Int32) = (0 : Int32)))).2) (by decide) (by decide) ?_
            show Steps p.tables e below (T210.setTop (mkF m 105 #[.val (.int p0), .val (.int ((p0 &&& (2147483647 : Int32)) % (5 : Int32))), .val (.ref s_EXHIBIT), .val (.int (1 : Int32)), .val (.ref w_EXHIBIT), .unset, .unset] [])) _
            refine XS.iconst X210.here hx rfl (hb hby at_105) ?_
            show Steps p.tables e below (T210.setTop (mkF m 106 #[.val (.int p0), .val (.int ((p0 &&& (2147483647 : Int32)) % (5 : Int32))), .val (.ref s_EXHIBIT), .val (.int (1 : Int32)), .val (.ref w_EXHIBIT), .unset, .unset] [(.int (1 : Int32))])) _
            refine XS.goto X210.here hx rfl (pc0 := 106) (pc' := 110) rfl (hb hby at_106) (by decide) (by decide) ?_
            show Steps p.tables e below (T210.setTop (mkF m 110 #[.val (.int p0), .val (.int ((p0 &&& (2147483647 : Int32)) % (5 : Int32))), .val (.ref s_EXHIBIT), .val (.int (1 : Int32)), .val (.ref w_EXHIBIT), .unset, .unset] [(.int (1 : Int32))])) _
            refine XS.istore X210.here hx rfl (hb hby at_110) rfl (l' := #[.val (.int p0), .val (.int ((p0 &&& (2147483647 : Int32)) % (5 : Int32))), .val (.ref s_EXHIBIT), .val (.int (1 : Int32)), .val (.ref w_EXHIBIT), .val (.int (1 : Int32)), .unset]) rfl ?_
            show Steps p.tables e below (T210.setTop (mkF m 112 #[.val (.int p0), .val (.int ((p0 &&& (2147483647 : Int32)) % (5 : Int32))), .val (.ref s_EXHIBIT), .val (.int (1 : Int32)), .val (.ref w_EXHIBIT), .val (.int (1 : Int32)), .unset] [])) _
            refine XS.aloadN X210.here hx rfl (hb hby at_112) rfl rfl ?_
            exact kt)
          obtain ⟨cq212, kq212, q212a, q212b, q212c⟩ := isOf hZ e210 E_EXHIBIT_197
          obtain ⟨_, _, ⟨T212, L212, k212, n212⟩, -, X212, ⟨Lc212, hQ212, l212, y212, z212⟩, st212⟩ := X210.virtualBack hx (y := (⟨"com/example/restate/restate/Address$Kind", "isAttachment", "()Z"⟩ : MethodName)) (z := (⟨"com/example/restate/restate/Address$Kind", "isAttachment", "()Z"⟩ : MethodName)) hown (mvT hZ (hw _ (List.mem_of_getElem? (i := 35) rfl))) (mvT hZ (hw _ (List.mem_of_getElem? (i := 36) rfl))) (notFace_of_selects (args := #[]) (mvT hZ (hw _ (List.mem_of_getElem? (i := 38) rfl)))) (mvT hZ (hw _ (List.mem_of_getElem? (i := 38) rfl))) (mvT hZ (hw _ (List.mem_of_getElem? (i := 37) rfl))) (by decide) (backOf (W := 0) (rm4 l Z a0 hw [] s_EXHIBIT s_SCHEDULE s_EXHIBIT s_ANNEX h191 n0 Z191 S_SCHEDULE_195 S_EXHIBIT_196 S_ANNEX_203) hZ (hw _ (List.mem_of_getElem? (i := 39) rfl)) (hw _ (List.mem_of_getElem? (i := 2) rfl)) (by decide) (by decide)) q212a q212c (g := (mkF m 113 #[.val (.int p0), .val (.int ((p0 &&& (2147483647 : Int32)) % (5 : Int32))), .val (.ref s_EXHIBIT), .val (.int (1 : Int32)), .val (.ref w_EXHIBIT), .val (.int (1 : Int32)), .unset] [(.ref s_EXHIBIT)])) rfl (by rw [hml]; rfl) (Steps.refl _) (argsL := []) (rest := []) (lenOf pd_3 rfl) rfl (by show 2 * 0 + _ ≤ _; exact Nat.le_of_eq rfl) (hb hby at_113) (fun _ _ => ⟨rfl, e210, (Nat.le_of_ble_eq_true rfl), (Nat.le_of_ble_eq_true rfl)⟩)
          dsimp only [Pt.U, Pt.locs, Pt.cells, Pt.slots] at X212 l212 y212 z212 st212 hQ212
          subst l212 y212 z212
          obtain ⟨hv212, N212q, e212⟩ := hQ212
          rw [if_neg ne_EXHIBIT_SCHEDULE, if_pos rfl] at hv212
          subst hv212
          have N212 := Fr.app N210 N212q
          have pre212s : ∀ tg, Steps p.tables e below (T212.setTop (mkF m 116 #[.val (.int p0), .val (.int ((p0 &&& (2147483647 : Int32)) % (5 : Int32))), .val (.ref s_EXHIBIT), .val (.int (1 : Int32)), .val (.ref w_EXHIBIT), .val (.int (1 : Int32)), .unset] [(.int (1 : Int32))])) tg → G tg := fun tg kt => pre211 tg (st212.trans kt)
          have pre213 : ∀ tg, Steps p.tables e below (T212.setTop (mkF m 136 #[.val (.int p0), .val (.int ((p0 &&& (2147483647 : Int32)) % (5 : Int32))), .val (.ref s_EXHIBIT), .val (.int (1 : Int32)), .val (.ref w_EXHIBIT), .val (.int (1 : Int32)), .val (.int (1 : Int32))] [(.int (1 : Int32))])) tg → G tg := fun tg kt => pre212s tg (by
            show Steps p.tables e below (T212.setTop (mkF m 116 #[.val (.int p0), .val (.int ((p0 &&& (2147483647 : Int32)) % (5 : Int32))), .val (.ref s_EXHIBIT), .val (.int (1 : Int32)), .val (.ref w_EXHIBIT), .val (.int (1 : Int32)), .unset] [(.int (1 : Int32))])) _
            refine XS.istore X212.here hx rfl (hb hby at_116) rfl (l' := #[.val (.int p0), .val (.int ((p0 &&& (2147483647 : Int32)) % (5 : Int32))), .val (.ref s_EXHIBIT), .val (.int (1 : Int32)), .val (.ref w_EXHIBIT), .val (.int (1 : Int32)), .val (.int (1 : Int32))]) rfl ?_
            show Steps p.tables e below (T212.setTop (mkF m 118 #[.val (.int p0), .val (.int ((p0 &&& (2147483647 : Int32)) % (5 : Int32))), .val (.ref s_EXHIBIT), .val (.int (1 : Int32)), .val (.ref w_EXHIBIT), .val (.int (1 : Int32)), .val (.int (1 : Int32))] [])) _
            refine XS.iload X212.here hx rfl (hb hby at_118) rfl ?_
            show Steps p.tables e below (T212.setTop (mkF m 120 #[.val (.int p0), .val (.int ((p0 &&& (2147483647 : Int32)) % (5 : Int32))), .val (.ref s_EXHIBIT), .val (.int (1 : Int32)), .val (.ref w_EXHIBIT), .val (.int (1 : Int32)), .val (.int (1 : Int32))] [(.int (1 : Int32))])) _
            refine XS.iloadN X212.here hx rfl (hb hby at_120) rfl ?_
            show Steps p.tables e below (T212.setTop (mkF m 121 #[.val (.int p0), .val (.int ((p0 &&& (2147483647 : Int32)) % (5 : Int32))), .val (.ref s_EXHIBIT), .val (.int (1 : Int32)), .val (.ref w_EXHIBIT), .val (.int (1 : Int32)), .val (.int (1 : Int32))] [(.int (1 : Int32)), (.int (1 : Int32))])) _
            refine XS.icmpNo X212.here hx rfl (hb hby at_121) rfl (teq (by decide : (1 : Int32) = (1 : Int32))).2 ?_
            show Steps p.tables e below (T212.setTop (mkF m 124 #[.val (.int p0), .val (.int ((p0 &&& (2147483647 : Int32)) % (5 : Int32))), .val (.ref s_EXHIBIT), .val (.int (1 : Int32)), .val (.ref w_EXHIBIT), .val (.int (1 : Int32)), .val (.int (1 : Int32))] [])) _
            refine XS.iload X212.here hx rfl (hb hby at_124) rfl ?_
            show Steps p.tables e below (T212.setTop (mkF m 126 #[.val (.int p0), .val (.int ((p0 &&& (2147483647 : Int32)) % (5 : Int32))), .val (.ref s_EXHIBIT), .val (.int (1 : Int32)), .val (.ref w_EXHIBIT), .val (.int (1 : Int32)), .val (.int (1 : Int32))] [(.int (1 : Int32))])) _
            refine XS.iload X212.here hx rfl (hb hby at_126) rfl ?_
            show Steps p.tables e below (T212.setTop (mkF m 128 #[.val (.int p0), .val (.int ((p0 &&& (2147483647 : Int32)) % (5 : Int32))), .val (.ref s_EXHIBIT), .val (.int (1 : Int32)), .val (.ref w_EXHIBIT), .val (.int (1 : Int32)), .val (.int (1 : Int32))] [(.int (1 : Int32)), (.int (1 : Int32))])) _
            refine XS.icmpNo X212.here hx rfl (hb hby at_128) rfl (teq (by decide : (1 : Int32) = (1 : Int32))).2 ?_
            show Steps p.tables e below (T212.setTop (mkF m 131 #[.val (.int p0), .val (.int ((p0 &&& (2147483647 : Int32)) % (5 : Int32))), .val (.ref s_EXHIBIT), .val (.int (1 : Int32)), .val (.ref w_EXHIBIT), .val (.int (1 : Int32)), .val (.int (1 : Int32))] [])) _
            refine XS.iconst X212.here hx rfl (hb hby at_131) ?_
            show Steps p.tables e below (T212.setTop (mkF m 132 #[.val (.int p0), .val (.int ((p0 &&& (2147483647 : Int32)) % (5 : Int32))), .val (.ref s_EXHIBIT), .val (.int (1 : Int32)), .val (.ref w_EXHIBIT), .val (.int (1 : Int32)), .val (.int (1 : Int32))] [(.int (1 : Int32))])) _
            refine XS.goto X212.here hx rfl (pc0 := 132) (pc' := 136) rfl (hb hby at_132) (by decide) (by decide) ?_
            exact kt)
          obtain ⟨fs, hr, hrun, hended, hRE⟩ := X212.leaveW (s := s) (vm₁ := T191.vm) (v := some (.int (1 : Int32))) hS191 (by rw [e212]; exact hk191) (fun h => by rw [Bd.returns] at h; cases h)
          subst hG
          refine ⟨_, _, pre213 _ ?_, hrun, hended, _, _, rfl, ?_, hRE.1, hRE.2.1, hRE.2.2.1, hRE.2.2.2.mono (by decide) (by decide)⟩
          · exact retN X212 hx (t := .boolean) Bd.returns (by simp) (hb hby at_136) hr
          · exact ⟨rfl, N212⟩
        · -- not hkk3
          have pre214 : ∀ tg, Steps p.tables e below (s₁.setTop (mkF m 54 #[.val (.int p0), .val (.int ((p0 &&& (2147483647 : Int32)) % (5 : Int32))), .unset, .unset, .unset, .unset, .unset] [])) tg → G tg := fun tg kt => pre168 tg (by
            show Steps p.tables e below (s₁.setTop (mkF m 44 #[.val (.int p0), .val (.int ((p0 &&& (2147483647 : Int32)) % (5 : Int32))), .unset, .unset, .unset, .unset, .unset] [(.int (3 : Int32)), (.int ((p0 &&& (2147483647 : Int32)) % (5 : Int32)))])) _
            refine XS.icmpYes X0.here hx rfl (pc0 := 44) (pc' := 54) rfl (hb hby at_44) rfl (feq hkk3).2 (by decide) (by decide) ?_
            exact kt)
          obtain ⟨T215, X215, e215, st215⟩ := getS2 X0 hx hZ hown (host := "") (Or.inl (hw _ (List.mem_of_getElem? (i := 49) rfl))) Via.refl e0 S_ANNEX (g := (mkF m 54 #[.val (.int p0), .val (.int ((p0 &&& (2147483647 : Int32)) % (5 : Int32))), .unset, .unset, .unset, .unset, .unset] [])) rfl (hb hby at_54)
          have pre215s : ∀ tg, Steps p.tables e below (T215.setTop (mkF m 57 #[.val (.int p0), .val (.int ((p0 &&& (2147483647 : Int32)) % (5 : Int32))), .unset, .unset, .unset, .unset, .unset] [(.ref s_ANNEX)])) tg → G tg := fun tg kt => pre214 tg (st215 tg kt)
          have pre216 : ∀ tg, Steps p.tables e below (T215.setTop (mkF m 70 #[.val (.int p0), .val (.int ((p0 &&& (2147483647 : Int32)) % (5 : Int32))), .val (.ref s_ANNEX), .val (.int (1 : Int32)), .unset, .unset, .unset] [(.ref s_ANNEX)])) tg → G tg := fun tg kt => pre215s tg (by
            show Steps p.tables e below (T215.setTop (mkF m 57 #[.val (.int p0), .val (.int ((p0 &&& (2147483647 : Int32)) % (5 : Int32))), .unset, .unset, .unset, .unset, .unset] [(.ref s_ANNEX)])) _
            refine XS.astoreN X215.here hx rfl (hb hby at_57) rfl rfl (l' := #[.val (.int p0), .val (.int ((p0 &&& (2147483647 : Int32)) % (5 : Int32))), .val (.ref s_ANNEX), .unset, .unset, .unset, .unset]) rfl ?_
            show Steps p.tables e below (T215.setTop (mkF m 58 #[.val (.int p0), .val (.int ((p0 &&& (2147483647 : Int32)) % (5 : Int32))), .val (.ref s_ANNEX), .unset, .unset, .unset, .unset] [])) _
            refine XS.iloadN X215.here hx rfl (hb hby at_58) rfl ?_
            show Steps p.tables e below (T215.setTop (mkF m 59 #[.val (.int p0), .val (.int ((p0 &&& (2147483647 : Int32)) % (5 : Int32))), .val (.ref s_ANNEX), .unset, .unset, .unset, .unset] [(.int ((p0 &&& (2147483647 : Int32)) % (5 : Int32)))])) _
            refine XS.iconst X215.here hx rfl (hb hby at_59) ?_
            show Steps p.tables e below (T215.setTop (mkF m 60 #[.val (.int p0), .val (.int ((p0 &&& (2147483647 : Int32)) % (5 : Int32))), .val (.ref s_ANNEX), .unset, .unset, .unset, .unset] [(.int (2 : Int32)), (.int ((p0 &&& (2147483647 : Int32)) % (5 : Int32)))])) _
            refine XS.icmpNo X215.here hx rfl (hb hby at_60) rfl (flt hk2).1 ?_
            show Steps p.tables e below (T215.setTop (mkF m 63 #[.val (.int p0), .val (.int ((p0 &&& (2147483647 : Int32)) % (5 : Int32))), .val (.ref s_ANNEX), .unset, .unset, .unset, .unset] [])) _
            refine XS.iconst X215.here hx rfl (hb hby at_63) ?_
            show Steps p.tables e below (T215.setTop (mkF m 64 #[.val (.int p0), .val (.int ((p0 &&& (2147483647 : Int32)) % (5 : Int32))), .val (.ref s_ANNEX), .unset, .unset, .unset, .unset] [(.int (1 : Int32))])) _
            refine XS.goto X215.here hx rfl (pc0 := 64) (pc' := 68) rfl (hb hby at_64) (by decide) (by decide) ?_
            show Steps p.tables e below (T215.setTop (mkF m 68 #[.val (.int p0), .val (.int ((p0 &&& (2147483647 : Int32)) % (5 : Int32))), .val (.ref s_ANNEX), .unset, .unset, .unset, .unset] [(.int (1 : Int32))])) _
            refine XS.istoreN X215.here hx rfl (hb hby at_68) rfl (l' := #[.val (.int p0), .val (.int ((p0 &&& (2147483647 : Int32)) % (5 : Int32))), .val (.ref s_ANNEX), .val (.int (1 : Int32)), .unset, .unset, .unset]) rfl ?_
            show Steps p.tables e below (T215.setTop (mkF m 69 #[.val (.int p0), .val (.int ((p0 &&& (2147483647 : Int32)) % (5 : Int32))), .val (.ref s_ANNEX), .val (.int (1 : Int32)), .unset, .unset, .unset] [])) _
            refine XS.aloadN X215.here hx rfl (hb hby at_69) rfl rfl ?_
            exact kt)
          obtain ⟨cq217, kq217, q217a, q217b, q217c⟩ := isOf hZ e215 E_ANNEX
          obtain ⟨_, _, ⟨T217, L217, k217, n217⟩, -, X217, ⟨Lc217, hQ217, l217, y217, z217⟩, st217⟩ := X215.virtualBack hx (y := (⟨"com/example/restate/restate/Address$Kind", "word", "()Ljava/lang/String;"⟩ : MethodName)) (z := (⟨"com/example/restate/restate/Address$Kind", "word", "()Ljava/lang/String;"⟩ : MethodName)) hown (mvT hZ (hw _ (List.mem_of_getElem? (i := 4) rfl))) (mvT hZ (hw _ (List.mem_of_getElem? (i := 5) rfl))) (notFace_of_selects (args := #[]) (mvT hZ (hw _ (List.mem_of_getElem? (i := 7) rfl)))) (mvT hZ (hw _ (List.mem_of_getElem? (i := 7) rfl))) (mvT hZ (hw _ (List.mem_of_getElem? (i := 6) rfl))) (by decide) (backOf (W := 0) (rm1 l Z a0 hw [] s_ANNEX w_ANNEX h0 n0 Z0 Fw_ANNEX) hZ (hw _ (List.mem_of_getElem? (i := 8) rfl)) (hw _ (List.mem_of_getElem? (i := 2) rfl)) (by decide) (by decide)) q217a q217c (g := (mkF m 70 #[.val (.int p0), .val (.int ((p0 &&& (2147483647 : Int32)) % (5 : Int32))), .val (.ref s_ANNEX), .val (.int (1 : Int32)), .unset, .unset, .unset] [(.ref s_ANNEX)])) rfl (by rw [hml]; rfl) (Steps.refl _) (argsL := []) (rest := []) (lenOf pd_1 rfl) rfl (by show 2 * 0 + _ ≤ _; exact Nat.le_of_eq rfl) (hb hby at_70) (fun _ _ => ⟨rfl, e215, (Nat.le_of_ble_eq_true rfl), (Nat.le_of_ble_eq_true rfl)⟩)
          dsimp only [Pt.U, Pt.locs, Pt.cells, Pt.slots] at X217 l217 y217 z217 st217 hQ217
          subst l217 y217 z217
          obtain ⟨rfl, N217q, e217⟩ := hQ217
          have N217 := Fr.app N0 N217q
          have pre217s : ∀ tg, Steps p.tables e below (T217.setTop (mkF m 73 #[.val (.int p0), .val (.int ((p0 &&& (2147483647 : Int32)) % (5 : Int32))), .val (.ref s_ANNEX), .val (.int (1 : Int32)), .unset, .unset, .unset] [(.ref w_ANNEX)])) tg → G tg := fun tg kt => pre216 tg (st217.trans kt)
          have pre218 : ∀ tg, Steps p.tables e below (T217.setTop (mkF m 77 #[.val (.int p0), .val (.int ((p0 &&& (2147483647 : Int32)) % (5 : Int32))), .val (.ref s_ANNEX), .val (.int (1 : Int32)), .val (.ref w_ANNEX), .unset, .unset] [(.ref w_ANNEX)])) tg → G tg := fun tg kt => pre217s tg (by
            show Steps p.tables e below (T217.setTop (mkF m 73 #[.val (.int p0), .val (.int ((p0 &&& (2147483647 : Int32)) % (5 : Int32))), .val (.ref s_ANNEX), .val (.int (1 : Int32)), .unset, .unset, .unset] [(.ref w_ANNEX)])) _
            refine XS.astore X217.here hx rfl (hb hby at_73) rfl rfl (l' := #[.val (.int p0), .val (.int ((p0 &&& (2147483647 : Int32)) % (5 : Int32))), .val (.ref s_ANNEX), .val (.int (1 : Int32)), .val (.ref w_ANNEX), .unset, .unset]) rfl ?_
            show Steps p.tables e below (T217.setTop (mkF m 75 #[.val (.int p0), .val (.int ((p0 &&& (2147483647 : Int32)) % (5 : Int32))), .val (.ref s_ANNEX), .val (.int (1 : Int32)), .val (.ref w_ANNEX), .unset, .unset] [])) _
            refine XS.aload X217.here hx rfl (hb hby at_75) rfl rfl ?_
            exact kt)
          obtain ⟨l0, T219, h219, kk219, lb0, k219, X219, e219, E219, hS219, hk219, hZ, hown, E_l0, C_l0, F_l0, V_l0, -, -, IB219, -, st219⟩ := ldcSVL (vm0 := s.vm) (s := s) X217 hx hZ hown (hw _ (List.mem_of_getElem? (i := 11) rfl)) wS e217 hS hkz (by rw [hh, ← hsz]; exact N217) hkeep IB0 (by decide) hc30 hcw (vs := [(.int (83 : Int32)), (.int (99 : Int32)), (.int (104 : Int32)), (.int (101 : Int32)), (.int (100 : Int32)), (.int (117 : Int32)), (.int (108 : Int32)), (.int (101 : Int32))]) (z := (8 : Int32)) ⟨by decide, by decide⟩ (by decide) (by decide) (g := (mkF m 77 #[.val (.int p0), .val (.int ((p0 &&& (2147483647 : Int32)) % (5 : Int32))), .val (.ref s_ANNEX), .val (.int (1 : Int32)), .val (.ref w_ANNEX), .unset, .unset] [(.ref w_ANNEX)])) rfl (hb hby at_77) (n := 32) (by decide) (by decide) (by decide) (by decide)
          have pre219s : ∀ tg, Steps p.tables e below (T219.setTop (mkF m 79 #[.val (.int p0), .val (.int ((p0 &&& (2147483647 : Int32)) % (5 : Int32))), .val (.ref s_ANNEX), .val (.int (1 : Int32)), .val (.ref w_ANNEX), .unset, .unset] [(.ref l0), (.ref w_ANNEX)])) tg → G tg := fun tg kt => pre218 tg (st219 tg kt)
          have S_c_220 := S_c.ext E219
          have S_ARTICLE_221 := S_ARTICLE.ext E219
          have S_SECTION_222 := S_SECTION.ext E219
          have S_SCHEDULE_223 := S_SCHEDULE.ext E219
          have S_EXHIBIT_224 := S_EXHIBIT.ext E219
          have S_ANNEX_225 := S_ANNEX.ext E219
          have E_ANNEX_226 := E_ANNEX.ext E219
          have Ew_ANNEX_227 := Ew_ANNEX.ext E219
          have Fw_ANNEX_228 := Fw_ANNEX.ext E219
          have Fc_ANNEX_229 := Fc_ANNEX.ext E219
          have Fv_ANNEX_230 := Fv_ANNEX.ext E219
          have V_ANNEX_231 := V_ANNEX.ext E219
          have Ol232 := Ol.ext E219
          have Z219 : n0 ≤ h219.size := Nat.le_trans Z0 E219.1
          have nv233 : v_ANNEX ≠ lb0 := arv_ne V_ANNEX_231 V_l0 (Or.inl (by decide))
          have nw233 : w_ANNEX ≠ l0 := Fld.ne Fv_ANNEX_230 F_l0 (fun q => nv233 (Value.ref.inj q))
          obtain ⟨cq234, kq234, q234a, q234b, q234c⟩ := isOf hZ e219 Ew_ANNEX_227
          obtain ⟨_, _, ⟨T234, L234, k234, n234⟩, -, X234, ⟨Lc234, hQ234, l234, y234, z234⟩, st234⟩ := X219.virtualBack hx (y := (⟨"java/lang/String", "equals", "(Ljava/lang/Object;)Z"⟩ : MethodName)) (z := (⟨"java/lang/String", "equals", "(Ljava/lang/Object;)Z"⟩ : MethodName)) hown (mvT hZ (hw _ (List.mem_of_getElem? (i := 19) rfl))) (mvT hZ (hw _ (List.mem_of_getElem? (i := 20) rfl))) (notFace_of_selects (args := #[]) (mvT hZ (hw _ (List.mem_of_getElem? (i := 22) rfl)))) (mvT hZ (hw _ (List.mem_of_getElem? (i := 22) rfl))) (mvT hZ (hw _ (List.mem_of_getElem? (i := 21) rfl))) (by decide) (backOf (W := 0) (rm_eld l Z a0 hw [] w_ANNEX l0 v_ANNEX lb0 k_ANNEX k219 cs (5 : Int32) (8 : Int32) [(.int (65 : Int32)), (.int (110 : Int32)), (.int (110 : Int32)), (.int (101 : Int32)), (.int (120 : Int32))] [(.int (83 : Int32)), (.int (99 : Int32)), (.int (104 : Int32)), (.int (101 : Int32)), (.int (100 : Int32)), (.int (117 : Int32)), (.int (108 : Int32)), (.int (101 : Int32))] h219 n0 Z219 S_c_220 hcs E_l0 Fc_ANNEX_229 C_l0 Fv_ANNEX_230 F_l0 V_ANNEX_231 V_l0 (by decide) nw233) hZ (hw _ (List.mem_of_getElem? (i := 23) rfl)) (hw _ (List.mem_of_getElem? (i := 12) rfl)) (by decide) (by decide)) q234a q234c (g := (mkF m 79 #[.val (.int p0), .val (.int ((p0 &&& (2147483647 : Int32)) % (5 : Int32))), .val (.ref s_ANNEX), .val (.int (1 : Int32)), .val (.ref w_ANNEX), .unset, .unset] [(.ref l0), (.ref w_ANNEX)])) rfl (by rw [hml]; rfl) (Steps.refl _) (argsL := [(.ref l0)]) (rest := []) (lenOf pd_2 rfl) rfl (by show 2 * 0 + _ ≤ _; exact Nat.le_of_eq rfl) (hb hby at_79) (fun _ _ => ⟨rfl, e219, (Nat.le_of_ble_eq_true rfl), (Nat.le_of_ble_eq_true rfl)⟩)
          dsimp only [Pt.U, Pt.locs, Pt.cells, Pt.slots] at X234 l234 y234 z234 st234 hQ234
          subst l234 y234 z234
          obtain ⟨rfl, N234q, e234⟩ := hQ234
          have N234 := Fr.app N217 N234q
          have pre234s : ∀ tg, Steps p.tables e below (T234.setTop (mkF m 82 #[.val (.int p0), .val (.int ((p0 &&& (2147483647 : Int32)) % (5 : Int32))), .val (.ref s_ANNEX), .val (.int (1 : Int32)), .val (.ref w_ANNEX), .unset, .unset] [(.int (0 : Int32))])) tg → G tg := fun tg kt => pre219s tg (st234.trans kt)
          have pre235 : ∀ tg, Steps p.tables e below (T234.setTop (mkF m 87 #[.val (.int p0), .val (.int ((p0 &&& (2147483647 : Int32)) % (5 : Int32))), .val (.ref s_ANNEX), .val (.int (1 : Int32)), .val (.ref w_ANNEX), .unset, .unset] [(.ref w_ANNEX)])) tg → G tg := fun tg kt => pre234s tg (by
            show Steps p.tables e below (T234.setTop (mkF m 82 #[.val (.int p0), .val (.int ((p0 &&& (2147483647 : Int32)) % (5 : Int32))), .val (.ref s_ANNEX), .val (.int (1 : Int32)), .val (.ref w_ANNEX), .unset, .unset] [(.int (0 : Int32))])) _
            refine XS.ifNo X234.here hx rfl (hb hby at_82) rfl ((if0 _ _).trans (teq (by decide : (0 : Int32) = (0 : Int32))).2) ?_
            show Steps p.tables e below (T234.setTop (mkF m 85 #[.val (.int p0), .val (.int ((p0 &&& (2147483647 : Int32)) % (5 : Int32))), .val (.ref s_ANNEX), .val (.int (1 : Int32)), .val (.ref w_ANNEX), .unset, .unset] [])) _
            refine XS.aload X234.here hx rfl (hb hby at_85) rfl rfl ?_
            exact kt)
          obtain ⟨l1, T236, h236, kk236, lb1, k236, X236, e236, E236, hS236, hk236, hZ, hown, E_l1, C_l1, F_l1, V_l1, -, -, IB236, -, st236⟩ := ldcSVL (vm0 := T219.vm) (s := s) X234 hx hZ hown (hw _ (List.mem_of_getElem? (i := 33) rfl)) wS e234 hS219 hk219 (by rw [hh, ← hsz]; exact N234) hkeep IB219 (by decide) hc38 hcw (vs := [(.int (69 : Int32)), (.int (120 : Int32)), (.int (104 : Int32)), (.int (105 : Int32)), (.int (98 : Int32)), (.int (105 : Int32)), (.int (116 : Int32))]) (z := (7 : Int32)) ⟨by decide, by decide⟩ (by decide) (by decide) (g := (mkF m 87 #[.val (.int p0), .val (.int ((p0 &&& (2147483647 : Int32)) % (5 : Int32))), .val (.ref s_ANNEX), .val (.int (1 : Int32)), .val (.ref w_ANNEX), .unset, .unset] [(.ref w_ANNEX)])) rfl (hb hby at_87) (n := 28) (by decide) (by decide) (by decide) (by decide)
          have pre236s : ∀ tg, Steps p.tables e below (T236.setTop (mkF m 89 #[.val (.int p0), .val (.int ((p0 &&& (2147483647 : Int32)) % (5 : Int32))), .val (.ref s_ANNEX), .val (.int (1 : Int32)), .val (.ref w_ANNEX), .unset, .unset] [(.ref l1), (.ref w_ANNEX)])) tg → G tg := fun tg kt => pre235 tg (st236 tg kt)
          have S_c_237 := S_c_220.ext E236
          have S_ARTICLE_238 := S_ARTICLE_221.ext E236
          have S_SECTION_239 := S_SECTION_222.ext E236
          have S_SCHEDULE_240 := S_SCHEDULE_223.ext E236
          have S_EXHIBIT_241 := S_EXHIBIT_224.ext E236
          have S_ANNEX_242 := S_ANNEX_225.ext E236
          have E_ANNEX_243 := E_ANNEX_226.ext E236
          have Ew_ANNEX_244 := Ew_ANNEX_227.ext E236
          have Fw_ANNEX_245 := Fw_ANNEX_228.ext E236
          have Fc_ANNEX_246 := Fc_ANNEX_229.ext E236
          have Fv_ANNEX_247 := Fv_ANNEX_230.ext E236
          have V_ANNEX_248 := V_ANNEX_231.ext E236
          have E_l0_249 := E_l0.ext E236
          have C_l0_250 := C_l0.ext E236
          have F_l0_251 := F_l0.ext E236
          have V_l0_252 := V_l0.ext E236
          have Ol253 := Ol232.ext E236
          have Z236 : n0 ≤ h236.size := Nat.le_trans Z219 E236.1
          have nv254 : v_ANNEX ≠ lb1 := arv_ne V_ANNEX_248 V_l1 (Or.inl (by decide))
          have nw254 : w_ANNEX ≠ l1 := Fld.ne Fv_ANNEX_247 F_l1 (fun q => nv254 (Value.ref.inj q))
          obtain ⟨cq255, kq255, q255a, q255b, q255c⟩ := isOf hZ e236 Ew_ANNEX_244
          obtain ⟨_, _, ⟨T255, L255, k255, n255⟩, -, X255, ⟨Lc255, hQ255, l255, y255, z255⟩, st255⟩ := X236.virtualBack hx (y := (⟨"java/lang/String", "equals", "(Ljava/lang/Object;)Z"⟩ : MethodName)) (z := (⟨"java/lang/String", "equals", "(Ljava/lang/Object;)Z"⟩ : MethodName)) hown (mvT hZ (hw _ (List.mem_of_getElem? (i := 19) rfl))) (mvT hZ (hw _ (List.mem_of_getElem? (i := 20) rfl))) (notFace_of_selects (args := #[]) (mvT hZ (hw _ (List.mem_of_getElem? (i := 22) rfl)))) (mvT hZ (hw _ (List.mem_of_getElem? (i := 22) rfl))) (mvT hZ (hw _ (List.mem_of_getElem? (i := 21) rfl))) (by decide) (backOf (W := 0) (rm_eld l Z a0 hw [] w_ANNEX l1 v_ANNEX lb1 k_ANNEX k236 cs (5 : Int32) (7 : Int32) [(.int (65 : Int32)), (.int (110 : Int32)), (.int (110 : Int32)), (.int (101 : Int32)), (.int (120 : Int32))] [(.int (69 : Int32)), (.int (120 : Int32)), (.int (104 : Int32)), (.int (105 : Int32)), (.int (98 : Int32)), (.int (105 : Int32)), (.int (116 : Int32))] h236 n0 Z236 S_c_237 hcs E_l1 Fc_ANNEX_246 C_l1 Fv_ANNEX_247 F_l1 V_ANNEX_248 V_l1 (by decide) nw254) hZ (hw _ (List.mem_of_getElem? (i := 23) rfl)) (hw _ (List.mem_of_getElem? (i := 12) rfl)) (by decide) (by decide)) q255a q255c (g := (mkF m 89 #[.val (.int p0), .val (.int ((p0 &&& (2147483647 : Int32)) % (5 : Int32))), .val (.ref s_ANNEX), .val (.int (1 : Int32)), .val (.ref w_ANNEX), .unset, .unset] [(.ref l1), (.ref w_ANNEX)])) rfl (by rw [hml]; rfl) (Steps.refl _) (argsL := [(.ref l1)]) (rest := []) (lenOf pd_2 rfl) rfl (by show 2 * 0 + _ ≤ _; exact Nat.le_of_eq rfl) (hb hby at_89) (fun _ _ => ⟨rfl, e236, (Nat.le_of_ble_eq_true rfl), (Nat.le_of_ble_eq_true rfl)⟩)
          dsimp only [Pt.U, Pt.locs, Pt.cells, Pt.slots] at X255 l255 y255 z255 st255 hQ255
          subst l255 y255 z255
          obtain ⟨rfl, N255q, e255⟩ := hQ255
          have N255 := Fr.app N234 N255q
          have pre255s : ∀ tg, Steps p.tables e below (T255.setTop (mkF m 92 #[.val (.int p0), .val (.int ((p0 &&& (2147483647 : Int32)) % (5 : Int32))), .val (.ref s_ANNEX), .val (.int (1 : Int32)), .val (.ref w_ANNEX), .unset, .unset] [(.int (0 : Int32))])) tg → G tg := fun tg kt => pre236s tg (st255.trans kt)
          have pre256 : ∀ tg, Steps p.tables e below (T255.setTop (mkF m 97 #[.val (.int p0), .val (.int ((p0 &&& (2147483647 : Int32)) % (5 : Int32))), .val (.ref s_ANNEX), .val (.int (1 : Int32)), .val (.ref w_ANNEX), .unset, .unset] [(.ref w_ANNEX)])) tg → G tg := fun tg kt => pre255s tg (by
            show Steps p.tables e below (T255.setTop (mkF m 92 #[.val (.int p0), .val (.int ((p0 &&& (2147483647 : Int32)) % (5 : Int32))), .val (.ref s_ANNEX), .val (.int (1 : Int32)), .val (.ref w_ANNEX), .unset, .unset] [(.int (0 : Int32))])) _
            refine XS.ifNo X255.here hx rfl (hb hby at_92) rfl ((if0 _ _).trans (teq (by decide : (0 : Int32) = (0 : Int32))).2) ?_
            show Steps p.tables e below (T255.setTop (mkF m 95 #[.val (.int p0), .val (.int ((p0 &&& (2147483647 : Int32)) % (5 : Int32))), .val (.ref s_ANNEX), .val (.int (1 : Int32)), .val (.ref w_ANNEX), .unset, .unset] [])) _
            refine XS.aload X255.here hx rfl (hb hby at_95) rfl rfl ?_
            exact kt)
          obtain ⟨l2, T257, h257, kk257, lb2, k257, X257, e257, E257, hS257, hk257, hZ, hown, E_l2, C_l2, F_l2, V_l2, -, -, IB257, -, st257⟩ := ldcSVL (vm0 := T236.vm) (s := s) X255 hx hZ hown (hw _ (List.mem_of_getElem? (i := 34) rfl)) wS e255 hS236 hk236 (by rw [hh, ← hsz]; exact N255) hkeep IB236 (by decide) hc40 hcw (vs := [(.int (65 : Int32)), (.int (110 : Int32)), (.int (110 : Int32)), (.int (101 : Int32)), (.int (120 : Int32))]) (z := (5 : Int32)) ⟨by decide, by decide⟩ (by decide) (by decide) (g := (mkF m 97 #[.val (.int p0), .val (.int ((p0 &&& (2147483647 : Int32)) % (5 : Int32))), .val (.ref s_ANNEX), .val (.int (1 : Int32)), .val (.ref w_ANNEX), .unset, .unset] [(.ref w_ANNEX)])) rfl (hb hby at_97) (n := 20) (by decide) (by decide) (by decide) (by decide)
          have pre257s : ∀ tg, Steps p.tables e below (T257.setTop (mkF m 99 #[.val (.int p0), .val (.int ((p0 &&& (2147483647 : Int32)) % (5 : Int32))), .val (.ref s_ANNEX), .val (.int (1 : Int32)), .val (.ref w_ANNEX), .unset, .unset] [(.ref l2), (.ref w_ANNEX)])) tg → G tg := fun tg kt => pre256 tg (st257 tg kt)
          have S_c_258 := S_c_237.ext E257
          have S_ARTICLE_259 := S_ARTICLE_238.ext E257
          have S_SECTION_260 := S_SECTION_239.ext E257
          have S_SCHEDULE_261 := S_SCHEDULE_240.ext E257
          have S_EXHIBIT_262 := S_EXHIBIT_241.ext E257
          have S_ANNEX_263 := S_ANNEX_242.ext E257
          have E_ANNEX_264 := E_ANNEX_243.ext E257
          have Ew_ANNEX_265 := Ew_ANNEX_244.ext E257
          have Fw_ANNEX_266 := Fw_ANNEX_245.ext E257
          have Fc_ANNEX_267 := Fc_ANNEX_246.ext E257
          have Fv_ANNEX_268 := Fv_ANNEX_247.ext E257
          have V_ANNEX_269 := V_ANNEX_248.ext E257
          have E_l0_270 := E_l0_249.ext E257
          have C_l0_271 := C_l0_250.ext E257
          have F_l0_272 := F_l0_251.ext E257
          have V_l0_273 := V_l0_252.ext E257
          have E_l1_274 := E_l1.ext E257
          have C_l1_275 := C_l1.ext E257
          have F_l1_276 := F_l1.ext E257
          have V_l1_277 := V_l1.ext E257
          have Ol278 := Ol253.ext E257
          have Z257 : n0 ≤ h257.size := Nat.le_trans Z236 E257.1
          obtain ⟨cq280, kq280, q280a, q280b, q280c⟩ := isOf hZ e257 Ew_ANNEX_265
          obtain ⟨_, _, ⟨T280, L280, k280, n280⟩, -, X280, ⟨Lc280, hQ280, l280, y280, z280⟩, st280⟩ := X257.virtualBack hx (y := (⟨"java/lang/String", "equals", "(Ljava/lang/Object;)Z"⟩ : MethodName)) (z := (⟨"java/lang/String", "equals", "(Ljava/lang/Object;)Z"⟩ : MethodName)) hown (mvT hZ (hw _ (List.mem_of_getElem? (i := 19) rfl))) (mvT hZ (hw _ (List.mem_of_getElem? (i := 20) rfl))) (notFace_of_selects (args := #[]) (mvT hZ (hw _ (List.mem_of_getElem? (i := 22) rfl)))) (mvT hZ (hw _ (List.mem_of_getElem? (i := 22) rfl))) (mvT hZ (hw _ (List.mem_of_getElem? (i := 21) rfl))) (by decide) (backOf (W := 0) (rm_es5 l Z a0 hw [] w_ANNEX l2 v_ANNEX lb2 k_ANNEX k257 cs (65 : Int32) (110 : Int32) (110 : Int32) (101 : Int32) (120 : Int32) h257 n0 Z257 S_c_258 hcs E_l2 Fc_ANNEX_267 C_l2 Fv_ANNEX_268 F_l2 V_ANNEX_269 V_l2) hZ (hw _ (List.mem_of_getElem? (i := 23) rfl)) (hw _ (List.mem_of_getElem? (i := 12) rfl)) (by decide) (by decide)) q280a q280c (g := (mkF m 99 #[.val (.int p0), .val (.int ((p0 &&& (2147483647 : Int32)) % (5 : Int32))), .val (.ref s_ANNEX), .val (.int (1 : Int32)), .val (.ref w_ANNEX), .unset, .unset] [(.ref l2), (.ref w_ANNEX)])) rfl (by rw [hml]; rfl) (Steps.refl _) (argsL := [(.ref l2)]) (rest := []) (lenOf pd_2 rfl) rfl (by show 2 * 0 + _ ≤ _; exact Nat.le_of_eq rfl) (hb hby at_99) (fun _ _ => ⟨rfl, e257, (Nat.le_of_ble_eq_true rfl), (Nat.le_of_ble_eq_true rfl)⟩)
          dsimp only [Pt.U, Pt.locs, Pt.cells, Pt.slots] at X280 l280 y280 z280 st280 hQ280
          subst l280 y280 z280
          obtain ⟨rfl, N280q, e280⟩ := hQ280
          have N280 := Fr.app N255 N280q
          have pre280s : ∀ tg, Steps p.tables e below (T280.setTop (mkF m 102 #[.val (.int p0), .val (.int ((p0 &&& (2147483647 : Int32)) % (5 : Int32))), .val (.ref s_ANNEX), .val (.int (1 : Int32)), .val (.ref w_ANNEX), .unset, .unset] [(.int (1 : Int32))])) tg → G tg := fun tg kt => pre257s tg (st280.trans kt)
          have pre281 : ∀ tg, Steps p.tables e below (T280.setTop (mkF m 113 #[.val (.int p0), .val (.int ((p0 &&& (2147483647 : Int32)) % (5 : Int32))), .val (.ref s_ANNEX), .val (.int (1 : Int32)), .val (.ref w_ANNEX), .val (.int (1 : Int32)), .unset] [(.ref s_ANNEX)])) tg → G tg := fun tg kt => pre280s tg (by
            show Steps p.tables e below (T280.setTop (mkF m 102 #[.val (.int p0), .val (.int ((p0 &&& (2147483647 : Int32)) % (5 : Int32))), .val (.ref s_ANNEX), .val (.int (1 : Int32)), .val (.ref w_ANNEX), .unset, .unset] [(.int (1 : Int32))])) _
            refine XS.ifNo X280.here hx rfl (hb hby at_102) rfl ((if0 _ _).trans (feq (by decide : ¬ ((1 : Int32) = (0 : Int32)))).1) ?_
            show Steps p.tables e below (T280.setTop (mkF m 105 #[.val (.int p0), .val (.int ((p0 &&& (2147483647 : Int32)) % (5 : Int32))), .val (.ref s_ANNEX), .val (.int (1 : Int32)), .val (.ref w_ANNEX), .unset, .unset] [])) _
            refine XS.iconst X280.here hx rfl (hb hby at_105) ?_
            show Steps p.tables e below (T280.setTop (mkF m 106 #[.val (.int p0), .val (.int ((p0 &&& (2147483647 : Int32)) % (5 : Int32))), .val (.ref s_ANNEX), .val (.int (1 : Int32)), .val (.ref w_ANNEX), .unset, .unset] [(.int (1 : Int32))])) _
            refine XS.goto X280.here hx rfl (pc0 := 106) (pc' := 110) rfl (hb hby at_106) (by decide) (by decide) ?_
            show Steps p.tables e below (T280.setTop (mkF m 110 #[.val (.int p0), .val (.int ((p0 &&& (2147483647 : Int32)) % (5 : Int32))), .val (.ref s_ANNEX), .val (.int (1 : Int32)), .val (.ref w_ANNEX), .unset, .unset] [(.int (1 : Int32))])) _
            refine XS.istore X280.here hx rfl (hb hby at_110) rfl (l' := #[.val (.int p0), .val (.int ((p0 &&& (2147483647 : Int32)) % (5 : Int32))), .val (.ref s_ANNEX), .val (.int (1 : Int32)), .val (.ref w_ANNEX), .val (.int (1 : Int32)), .unset]) rfl ?_
            show Steps p.tables e below (T280.setTop (mkF m 112 #[.val (.int p0), .val (.int ((p0 &&& (2147483647 : Int32)) % (5 : Int32))), .val (.ref s_ANNEX), .val (.int (1 : Int32)), .val (.ref w_ANNEX), .val (.int (1 : Int32)), .unset] [])) _
            refine XS.aloadN X280.here hx rfl (hb hby at_112) rfl rfl ?_
            exact kt)
          obtain ⟨cq282, kq282, q282a, q282b, q282c⟩ := isOf hZ e280 E_ANNEX_264
          obtain ⟨_, _, ⟨T282, L282, k282, n282⟩, -, X282, ⟨Lc282, hQ282, l282, y282, z282⟩, st282⟩ := X280.virtualBack hx (y := (⟨"com/example/restate/restate/Address$Kind", "isAttachment", "()Z"⟩ : MethodName)) (z := (⟨"com/example/restate/restate/Address$Kind", "isAttachment", "()Z"⟩ : MethodName)) hown (mvT hZ (hw _ (List.mem_of_getElem? (i := 35) rfl))) (mvT hZ (hw _ (List.mem_of_getElem? (i := 36) rfl))) (notFace_of_selects (args := #[]) (mvT hZ (hw _ (List.mem_of_getElem? (i := 38) rfl)))) (mvT hZ (hw _ (List.mem_of_getElem? (i := 38) rfl))) (mvT hZ (hw _ (List.mem_of_getElem? (i := 37) rfl))) (by decide) (backOf (W := 0) (rm4 l Z a0 hw [] s_ANNEX s_SCHEDULE s_EXHIBIT s_ANNEX h257 n0 Z257 S_SCHEDULE_261 S_EXHIBIT_262 S_ANNEX_263) hZ (hw _ (List.mem_of_getElem? (i := 39) rfl)) (hw _ (List.mem_of_getElem? (i := 2) rfl)) (by decide) (by decide)) q282a q282c (g := (mkF m 113 #[.val (.int p0), .val (.int ((p0 &&& (2147483647 : Int32)) % (5 : Int32))), .val (.ref s_ANNEX), .val (.int (1 : Int32)), .val (.ref w_ANNEX), .val (.int (1 : Int32)), .unset] [(.ref s_ANNEX)])) rfl (by rw [hml]; rfl) (Steps.refl _) (argsL := []) (rest := []) (lenOf pd_3 rfl) rfl (by show 2 * 0 + _ ≤ _; exact Nat.le_of_eq rfl) (hb hby at_113) (fun _ _ => ⟨rfl, e280, (Nat.le_of_ble_eq_true rfl), (Nat.le_of_ble_eq_true rfl)⟩)
          dsimp only [Pt.U, Pt.locs, Pt.cells, Pt.slots] at X282 l282 y282 z282 st282 hQ282
          subst l282 y282 z282
          obtain ⟨hv282, N282q, e282⟩ := hQ282
          rw [if_neg ne_ANNEX_SCHEDULE, if_neg ne_ANNEX_EXHIBIT, if_pos rfl] at hv282
          subst hv282
          have N282 := Fr.app N280 N282q
          have pre282s : ∀ tg, Steps p.tables e below (T282.setTop (mkF m 116 #[.val (.int p0), .val (.int ((p0 &&& (2147483647 : Int32)) % (5 : Int32))), .val (.ref s_ANNEX), .val (.int (1 : Int32)), .val (.ref w_ANNEX), .val (.int (1 : Int32)), .unset] [(.int (1 : Int32))])) tg → G tg := fun tg kt => pre281 tg (st282.trans kt)
          have pre283 : ∀ tg, Steps p.tables e below (T282.setTop (mkF m 136 #[.val (.int p0), .val (.int ((p0 &&& (2147483647 : Int32)) % (5 : Int32))), .val (.ref s_ANNEX), .val (.int (1 : Int32)), .val (.ref w_ANNEX), .val (.int (1 : Int32)), .val (.int (1 : Int32))] [(.int (1 : Int32))])) tg → G tg := fun tg kt => pre282s tg (by
            show Steps p.tables e below (T282.setTop (mkF m 116 #[.val (.int p0), .val (.int ((p0 &&& (2147483647 : Int32)) % (5 : Int32))), .val (.ref s_ANNEX), .val (.int (1 : Int32)), .val (.ref w_ANNEX), .val (.int (1 : Int32)), .unset] [(.int (1 : Int32))])) _
            refine XS.istore X282.here hx rfl (hb hby at_116) rfl (l' := #[.val (.int p0), .val (.int ((p0 &&& (2147483647 : Int32)) % (5 : Int32))), .val (.ref s_ANNEX), .val (.int (1 : Int32)), .val (.ref w_ANNEX), .val (.int (1 : Int32)), .val (.int (1 : Int32))]) rfl ?_
            show Steps p.tables e below (T282.setTop (mkF m 118 #[.val (.int p0), .val (.int ((p0 &&& (2147483647 : Int32)) % (5 : Int32))), .val (.ref s_ANNEX), .val (.int (1 : Int32)), .val (.ref w_ANNEX), .val (.int (1 : Int32)), .val (.int (1 : Int32))] [])) _
            refine XS.iload X282.here hx rfl (hb hby at_118) rfl ?_
            show Steps p.tables e below (T282.setTop (mkF m 120 #[.val (.int p0), .val (.int ((p0 &&& (2147483647 : Int32)) % (5 : Int32))), .val (.ref s_ANNEX), .val (.int (1 : Int32)), .val (.ref w_ANNEX), .val (.int (1 : Int32)), .val (.int (1 : Int32))] [(.int (1 : Int32))])) _
            refine XS.iloadN X282.here hx rfl (hb hby at_120) rfl ?_
            show Steps p.tables e below (T282.setTop (mkF m 121 #[.val (.int p0), .val (.int ((p0 &&& (2147483647 : Int32)) % (5 : Int32))), .val (.ref s_ANNEX), .val (.int (1 : Int32)), .val (.ref w_ANNEX), .val (.int (1 : Int32)), .val (.int (1 : Int32))] [(.int (1 : Int32)), (.int (1 : Int32))])) _
            refine XS.icmpNo X282.here hx rfl (hb hby at_121) rfl (teq (by decide : (1 : Int32) = (1 : Int32))).2 ?_
            show Steps p.tables e below (T282.setTop (mkF m 124 #[.val (.int p0), .val (.int ((p0 &&& (2147483647 : Int32)) % (5 : Int32))), .val (.ref s_ANNEX), .val (.int (1 : Int32)), .val (.ref w_ANNEX), .val (.int (1 : Int32)), .val (.int (1 : Int32))] [])) _
            refine XS.iload X282.here hx rfl (hb hby at_124) rfl ?_
            show Steps p.tables e below (T282.setTop (mkF m 126 #[.val (.int p0), .val (.int ((p0 &&& (2147483647 : Int32)) % (5 : Int32))), .val (.ref s_ANNEX), .val (.int (1 : Int32)), .val (.ref w_ANNEX), .val (.int (1 : Int32)), .val (.int (1 : Int32))] [(.int (1 : Int32))])) _
            refine XS.iload X282.here hx rfl (hb hby at_126) rfl ?_
            show Steps p.tables e below (T282.setTop (mkF m 128 #[.val (.int p0), .val (.int ((p0 &&& (2147483647 : Int32)) % (5 : Int32))), .val (.ref s_ANNEX), .val (.int (1 : Int32)), .val (.ref w_ANNEX), .val (.int (1 : Int32)), .val (.int (1 : Int32))] [(.int (1 : Int32)), (.int (1 : Int32))])) _
            refine XS.icmpNo X282.here hx rfl (hb hby at_128) rfl (teq (by decide : (1 : Int32) = (1 : Int32))).2 ?_
            show Steps p.tables e below (T282.setTop (mkF m 131 #[.val (.int p0), .val (.int ((p0 &&& (2147483647 : Int32)) % (5 : Int32))), .val (.ref s_ANNEX), .val (.int (1 : Int32)), .val (.ref w_ANNEX), .val (.int (1 : Int32)), .val (.int (1 : Int32))] [])) _
            refine XS.iconst X282.here hx rfl (hb hby at_131) ?_
            show Steps p.tables e below (T282.setTop (mkF m 132 #[.val (.int p0), .val (.int ((p0 &&& (2147483647 : Int32)) % (5 : Int32))), .val (.ref s_ANNEX), .val (.int (1 : Int32)), .val (.ref w_ANNEX), .val (.int (1 : Int32)), .val (.int (1 : Int32))] [(.int (1 : Int32))])) _
            refine XS.goto X282.here hx rfl (pc0 := 132) (pc' := 136) rfl (hb hby at_132) (by decide) (by decide) ?_
            exact kt)
          obtain ⟨fs, hr, hrun, hended, hRE⟩ := X282.leaveW (s := s) (vm₁ := T257.vm) (v := some (.int (1 : Int32))) hS257 (by rw [e282]; exact hk257) (fun h => by rw [Bd.returns] at h; cases h)
          subst hG
          refine ⟨_, _, pre283 _ ?_, hrun, hended, _, _, rfl, ?_, hRE.1, hRE.2.1, hRE.2.2.1, hRE.2.2.2.mono (by decide) (by decide)⟩
          · exact retN X282 hx (t := .boolean) Bd.returns (by simp) (hb hby at_136) hr
          · exact ⟨rfl, N282⟩
set_option maxRecDepth 65536 in
set_option maxHeartbeats 40000000 in
theorem comes_1 {Post : Tables → Env → Array Value → State → Outcome → State → Prop} (hpost : ∀ tb e args s v u, (limb_1_1.after args s (.returned v) u = true ∧ limb_1_2.after args s (.returned v) u = true ∧ True) → ReturnedEndW s (.returned v) u (Jvm.fieldLocs frame_1_writes args s ++ Jvm.arrayLocs frame_1_arrays args s ++ Jvm.staticLocs frame_1_statics s) 8 3136 → Post tb e args s (.returned v) u) :
    ArmFor flags0 classFile x code maxLocals ret World_1 tables_1 room_1 Calls_1 rest_1 Pre_1 Post := by
  intro l hfl _ _ p e ha hc hk s m args below hf hA hF happ hP
  obtain ⟨hcalls, hrest, hpre⟩ := hP
  obtain ⟨-, -, -, hnamed, -, -, -, hat⟩ := (Spec.applies_iff hf).mp happ
  obtain ⟨hg, hn⟩ := and_e (Cond.before_iff.mp (show (Jvm.Cond.and given_1 narrow_1).before args s = true from hpre))
  obtain ⟨ga0, gb0⟩ := and_e hg
  obtain ⟨w0, rfl⟩ : ∃ w0 : Value, args = #[w0] := by
    have hs : args.size = 1 := by simpa [Cond.value, given_1] using ga0
    obtain ⟨L⟩ := args
    match L, hs with
    | [w0], _ => exact ⟨w0, rfl⟩
  have hw := fun d (hd : d ∈ tables_1) => atoms_spec (ws := Jvm.Cond.code x code maxLocals ret :: tables_1) hat d (List.mem_cons_of_mem _ hd)
  have hfit : Fit s := fun {y c} hc i hi => by
    obtain ⟨ha, rfl⟩ := Array.getElem?_eq_some_iff.mp hc
    have q := List.all_eq_true.mp ((Array.all_eq_true_iff_forall_mem.mp hF) _ (Array.getElem_mem ha)) i (List.mem_range.mpr hi)
    simpa [Array.getElem?_eq_getElem hi] using q
  obtain ⟨hsets, hown0⟩ := atoms_of _ (rest_1_c_eq ▸ (show rest_1_c.before _ s = true from hrest))
  obtain ⟨i0, ei0⟩ := is_v gb0
  obtain rfl : w0 = (.int i0) := Option.some.inj ei0
  obtain ⟨na1, nb1⟩ := and_e hn
  obtain ⟨na2, nb2⟩ := and_e nb1
  obtain ⟨na3, nb3⟩ := and_e nb2
  obtain ⟨na4, nb4⟩ := and_e nb3
  obtain ⟨na5, nb5⟩ := and_e nb4
  obtain ⟨na6, nb6⟩ := and_e nb5
  obtain ⟨na7, nb7⟩ := and_e nb6
  obtain ⟨na8, nb8⟩ := and_e nb7
  obtain ⟨na9, nb9⟩ := and_e nb8
  obtain ⟨na10, nb10⟩ := and_e nb9
  obtain ⟨na11, nb11⟩ := and_e nb10
  obtain ⟨na12, nb12⟩ := and_e nb11
  obtain ⟨na13, nb13⟩ := and_e nb12
  obtain ⟨na14, nb14⟩ := and_e nb13
  obtain ⟨na15, nb15⟩ := and_e nb14
  obtain ⟨na16, nb16⟩ := and_e nb15
  obtain ⟨na17, nb17⟩ := and_e nb16
  obtain ⟨na18, nb18⟩ := and_e nb17
  obtain ⟨na19, nb19⟩ := and_e nb18
  obtain ⟨na20, nb20⟩ := and_e nb19
  obtain ⟨na21, nb21⟩ := and_e nb20
  obtain ⟨na22, nb22⟩ := and_e nb21
  obtain ⟨na23, nb23⟩ := and_e nb22
  obtain ⟨na24, nb24⟩ := and_e nb23
  obtain ⟨na25, nb25⟩ := and_e nb24
  obtain ⟨na26, nb26⟩ := and_e nb25
  obtain ⟨na27, nb27⟩ := and_e nb26
  obtain ⟨na28, nb28⟩ := and_e nb27
  obtain ⟨na29, nb29⟩ := and_e nb28
  obtain ⟨na30, nb30⟩ := and_e nb29
  obtain ⟨na31, nb31⟩ := and_e nb30
  obtain ⟨na32, nb32⟩ := and_e nb31
  obtain ⟨na33, nb33⟩ := and_e nb32
  obtain ⟨na34, nb34⟩ := and_e nb33
  obtain ⟨na35, nb35⟩ := and_e nb34
  obtain ⟨na36, nb36⟩ := and_e nb35
  obtain ⟨na37, nb37⟩ := and_e nb36
  obtain ⟨na38, nb38⟩ := and_e nb37
  obtain ⟨na39, nb39⟩ := and_e nb38
  obtain ⟨na40, nb40⟩ := and_e nb39
  obtain ⟨na41, nb41⟩ := and_e nb40
  obtain ⟨na42, nb42⟩ := and_e nb41
  obtain ⟨na43, nb43⟩ := and_e nb42
  obtain ⟨na44, nb44⟩ := and_e nb43
  obtain ⟨na45, nb45⟩ := and_e nb44
  obtain ⟨na46, nb46⟩ := and_e nb45
  obtain ⟨na47, nb47⟩ := and_e nb46
  obtain ⟨na48, nb48⟩ := and_e nb47
  obtain ⟨na49, nb49⟩ := and_e nb48
  obtain ⟨na50, nb50⟩ := and_e nb49
  obtain ⟨na51, nb51⟩ := and_e nb50
  obtain ⟨na52, nb52⟩ := and_e nb51
  obtain ⟨na53, nb53⟩ := and_e nb52
  obtain ⟨na54, nb54⟩ := and_e nb53
  obtain ⟨na55, nb55⟩ := and_e nb54
  obtain ⟨na56, nb56⟩ := and_e nb55
  obtain ⟨na57, nb57⟩ := and_e nb56
  obtain ⟨na58, nb58⟩ := and_e nb57
  obtain ⟨na59, nb59⟩ := and_e nb58
  obtain ⟨na60, nb60⟩ := and_e nb59
  obtain ⟨na61, nb61⟩ := and_e nb60
  obtain ⟨na62, nb62⟩ := and_e nb61
  obtain ⟨na63, nb63⟩ := and_e nb62
  obtain ⟨s_ARTICLE, ev_ARTICLE⟩ := exa_v na1
  have E_ARTICLE : Exa s s.heap s_ARTICLE "com/example/restate/restate/Address$Kind" := Exa.start ev_ARTICLE na1
  have S_ARTICLE : Sta s s.heap "com/example/restate/restate/Address$Kind" "ARTICLE" "Lcom/example/restate/restate/Address$Kind;" (.ref s_ARTICLE) := Sta.start ev_ARTICLE (Or.inr ⟨(hw _ (List.mem_of_getElem? (i := 2) rfl)), (hw _ (List.mem_of_getElem? (i := 3) rfl))⟩)
  obtain ⟨s_SCHEDULE, ev_SCHEDULE⟩ := exa_v na6
  have E_SCHEDULE : Exa s s.heap s_SCHEDULE "com/example/restate/restate/Address$Kind" := Exa.start ev_SCHEDULE na6
  have S_SCHEDULE : Sta s s.heap "com/example/restate/restate/Address$Kind" "SCHEDULE" "Lcom/example/restate/restate/Address$Kind;" (.ref s_SCHEDULE) := Sta.start ev_SCHEDULE (Or.inr ⟨(hw _ (List.mem_of_getElem? (i := 2) rfl)), (hw _ (List.mem_of_getElem? (i := 41) rfl))⟩)
  obtain ⟨s_EXHIBIT, ev_EXHIBIT⟩ := exa_v na9
  have E_EXHIBIT : Exa s s.heap s_EXHIBIT "com/example/restate/restate/Address$Kind" := Exa.start ev_EXHIBIT na9
  have S_EXHIBIT : Sta s s.heap "com/example/restate/restate/Address$Kind" "EXHIBIT" "Lcom/example/restate/restate/Address$Kind;" (.ref s_EXHIBIT) := Sta.start ev_EXHIBIT (Or.inr ⟨(hw _ (List.mem_of_getElem? (i := 2) rfl)), (hw _ (List.mem_of_getElem? (i := 43) rfl))⟩)
  obtain ⟨s_ANNEX, ev_ANNEX⟩ := exa_v na11
  have E_ANNEX : Exa s s.heap s_ANNEX "com/example/restate/restate/Address$Kind" := Exa.start ev_ANNEX na11
  have S_ANNEX : Sta s s.heap "com/example/restate/restate/Address$Kind" "ANNEX" "Lcom/example/restate/restate/Address$Kind;" (.ref s_ANNEX) := Sta.start ev_ANNEX (Or.inr ⟨(hw _ (List.mem_of_getElem? (i := 2) rfl)), (hw _ (List.mem_of_getElem? (i := 45) rfl))⟩)
  obtain ⟨s_SECTION, ev_SECTION⟩ := exa_v na17
  have E_SECTION : Exa s s.heap s_SECTION "com/example/restate/restate/Address$Kind" := Exa.start ev_SECTION na17
  have S_SECTION : Sta s s.heap "com/example/restate/restate/Address$Kind" "SECTION" "Lcom/example/restate/restate/Address$Kind;" (.ref s_SECTION) := Sta.start ev_SECTION (Or.inr ⟨(hw _ (List.mem_of_getElem? (i := 2) rfl)), (hw _ (List.mem_of_getElem? (i := 48) rfl))⟩)
  have O_ARTICLE_ordinal : Fld s s.heap s_ARTICLE "java/lang/Enum" "ordinal" "I" (.int 0) := Fld.start ((fld_at ev_ARTICLE).symm.trans (eqv_i (Term.int_eval _) na7))
  have O_SCHEDULE_ordinal : Fld s s.heap s_SCHEDULE "java/lang/Enum" "ordinal" "I" (.int 2) := Fld.start ((fld_at ev_SCHEDULE).symm.trans (eqv_i (Term.int_eval _) na8))
  have O_EXHIBIT_ordinal : Fld s s.heap s_EXHIBIT "java/lang/Enum" "ordinal" "I" (.int 3) := Fld.start ((fld_at ev_EXHIBIT).symm.trans (eqv_i (Term.int_eval _) na10))
  have O_ANNEX_ordinal : Fld s s.heap s_ANNEX "java/lang/Enum" "ordinal" "I" (.int 4) := Fld.start ((fld_at ev_ANNEX).symm.trans (eqv_i (Term.int_eval _) na12))
  have O_SECTION_ordinal : Fld s s.heap s_SECTION "java/lang/Enum" "ordinal" "I" (.int 1) := Fld.start ((fld_at ev_SECTION).symm.trans (eqv_i (Term.int_eval _) na22))
  obtain ⟨w_ARTICLE, ew_ARTICLE⟩ := exa_v na2
  have Ew_ARTICLE : Exa s s.heap w_ARTICLE "java/lang/String" := Exa.start ew_ARTICLE na2
  have Fw_ARTICLE : Fld s s.heap s_ARTICLE "com/example/restate/restate/Address$Kind" "word" "Ljava/lang/String;" (.ref w_ARTICLE) := Fld.start ((fld_at ev_ARTICLE).symm.trans ew_ARTICLE)
  have Fc_ARTICLE : Fld s s.heap w_ARTICLE "java/lang/String" "coder" "B" (.int 0) := Fld.start ((fld_at ew_ARTICLE).symm.trans (eqv_i (Term.int_eval _) na3))
  obtain ⟨v_ARTICLE, ea_ARTICLE⟩ := arr_v na4
  obtain ⟨cl_ARTICLE, A_ARTICLE⟩ := Arr.start ea_ARTICLE na4
  have Fv_ARTICLE : Fld s s.heap w_ARTICLE "java/lang/String" "value" "[B" (.ref v_ARTICLE) := Fld.start ((fld_at ew_ARTICLE).symm.trans ea_ARTICLE)
  obtain ⟨ln_ARTICLE, le_ARTICLE⟩ := own_len ea_ARTICLE (A_ARTICLE.fin (Vm.Alike.refl _)) (eqv_i (Term.int_eval _) na5)
  have b0_ARTICLE := (elem_in (eqv_i (Term.int_eval _) na31) ea_ARTICLE (Term.int_eval _) A_ARTICLE.1).2
  have b1_ARTICLE := (elem_in (eqv_i (Term.int_eval _) na32) ea_ARTICLE (Term.int_eval _) A_ARTICLE.1).2
  have b2_ARTICLE := (elem_in (eqv_i (Term.int_eval _) na33) ea_ARTICLE (Term.int_eval _) A_ARTICLE.1).2
  have b3_ARTICLE := (elem_in (eqv_i (Term.int_eval _) na34) ea_ARTICLE (Term.int_eval _) A_ARTICLE.1).2
  have b4_ARTICLE := (elem_in (eqv_i (Term.int_eval _) na35) ea_ARTICLE (Term.int_eval _) A_ARTICLE.1).2
  have b5_ARTICLE := (elem_in (eqv_i (Term.int_eval _) na36) ea_ARTICLE (Term.int_eval _) A_ARTICLE.1).2
  have b6_ARTICLE := (elem_in (eqv_i (Term.int_eval _) na37) ea_ARTICLE (Term.int_eval _) A_ARTICLE.1).2
  have V_ARTICLE : Arv s s.heap v_ARTICLE cl_ARTICLE.cls .byte (7 : Int32) [(.int (65 : Int32)), (.int (114 : Int32)), (.int (116 : Int32)), (.int (105 : Int32)), (.int (99 : Int32)), (.int (108 : Int32)), (.int (101 : Int32))] (.int (0 : Int32)) := Arv.start hfit A_ARTICLE ln_ARTICLE (Value.int.inj le_ARTICLE).symm (by decide) (by decide) ⟨b0_ARTICLE, b1_ARTICLE, b2_ARTICLE, b3_ARTICLE, b4_ARTICLE, b5_ARTICLE, b6_ARTICLE, trivial⟩
  obtain ⟨w_SECTION, ew_SECTION⟩ := exa_v na18
  have Ew_SECTION : Exa s s.heap w_SECTION "java/lang/String" := Exa.start ew_SECTION na18
  have Fw_SECTION : Fld s s.heap s_SECTION "com/example/restate/restate/Address$Kind" "word" "Ljava/lang/String;" (.ref w_SECTION) := Fld.start ((fld_at ev_SECTION).symm.trans ew_SECTION)
  have Fc_SECTION : Fld s s.heap w_SECTION "java/lang/String" "coder" "B" (.int 0) := Fld.start ((fld_at ew_SECTION).symm.trans (eqv_i (Term.int_eval _) na19))
  obtain ⟨v_SECTION, ea_SECTION⟩ := arr_v na20
  obtain ⟨cl_SECTION, A_SECTION⟩ := Arr.start ea_SECTION na20
  have Fv_SECTION : Fld s s.heap w_SECTION "java/lang/String" "value" "[B" (.ref v_SECTION) := Fld.start ((fld_at ew_SECTION).symm.trans ea_SECTION)
  obtain ⟨ln_SECTION, le_SECTION⟩ := own_len ea_SECTION (A_SECTION.fin (Vm.Alike.refl _)) (eqv_i (Term.int_eval _) na21)
  have b0_SECTION := (elem_in (eqv_i (Term.int_eval _) na45) ea_SECTION (Term.int_eval _) A_SECTION.1).2
  have b1_SECTION := (elem_in (eqv_i (Term.int_eval _) na46) ea_SECTION (Term.int_eval _) A_SECTION.1).2
  have b2_SECTION := (elem_in (eqv_i (Term.int_eval _) na47) ea_SECTION (Term.int_eval _) A_SECTION.1).2
  have b3_SECTION := (elem_in (eqv_i (Term.int_eval _) na48) ea_SECTION (Term.int_eval _) A_SECTION.1).2
  have b4_SECTION := (elem_in (eqv_i (Term.int_eval _) na49) ea_SECTION (Term.int_eval _) A_SECTION.1).2
  have b5_SECTION := (elem_in (eqv_i (Term.int_eval _) na50) ea_SECTION (Term.int_eval _) A_SECTION.1).2
  have b6_SECTION := (elem_in (eqv_i (Term.int_eval _) na51) ea_SECTION (Term.int_eval _) A_SECTION.1).2
  have V_SECTION : Arv s s.heap v_SECTION cl_SECTION.cls .byte (7 : Int32) [(.int (83 : Int32)), (.int (101 : Int32)), (.int (99 : Int32)), (.int (116 : Int32)), (.int (105 : Int32)), (.int (111 : Int32)), (.int (110 : Int32))] (.int (0 : Int32)) := Arv.start hfit A_SECTION ln_SECTION (Value.int.inj le_SECTION).symm (by decide) (by decide) ⟨b0_SECTION, b1_SECTION, b2_SECTION, b3_SECTION, b4_SECTION, b5_SECTION, b6_SECTION, trivial⟩
  obtain ⟨w_SCHEDULE, ew_SCHEDULE⟩ := exa_v na27
  have Ew_SCHEDULE : Exa s s.heap w_SCHEDULE "java/lang/String" := Exa.start ew_SCHEDULE na27
  have Fw_SCHEDULE : Fld s s.heap s_SCHEDULE "com/example/restate/restate/Address$Kind" "word" "Ljava/lang/String;" (.ref w_SCHEDULE) := Fld.start ((fld_at ev_SCHEDULE).symm.trans ew_SCHEDULE)
  have Fc_SCHEDULE : Fld s s.heap w_SCHEDULE "java/lang/String" "coder" "B" (.int 0) := Fld.start ((fld_at ew_SCHEDULE).symm.trans (eqv_i (Term.int_eval _) na28))
  obtain ⟨v_SCHEDULE, ea_SCHEDULE⟩ := arr_v na29
  obtain ⟨cl_SCHEDULE, A_SCHEDULE⟩ := Arr.start ea_SCHEDULE na29
  have Fv_SCHEDULE : Fld s s.heap w_SCHEDULE "java/lang/String" "value" "[B" (.ref v_SCHEDULE) := Fld.start ((fld_at ew_SCHEDULE).symm.trans ea_SCHEDULE)
  obtain ⟨ln_SCHEDULE, le_SCHEDULE⟩ := own_len ea_SCHEDULE (A_SCHEDULE.fin (Vm.Alike.refl _)) (eqv_i (Term.int_eval _) na30)
  have b0_SCHEDULE := (elem_in (eqv_i (Term.int_eval _) na57) ea_SCHEDULE (Term.int_eval _) A_SCHEDULE.1).2
  have b1_SCHEDULE := (elem_in (eqv_i (Term.int_eval _) na58) ea_SCHEDULE (Term.int_eval _) A_SCHEDULE.1).2
  have b2_SCHEDULE := (elem_in (eqv_i (Term.int_eval _) na59) ea_SCHEDULE (Term.int_eval _) A_SCHEDULE.1).2
  have b3_SCHEDULE := (elem_in (eqv_i (Term.int_eval _) na60) ea_SCHEDULE (Term.int_eval _) A_SCHEDULE.1).2
  have b4_SCHEDULE := (elem_in (eqv_i (Term.int_eval _) na61) ea_SCHEDULE (Term.int_eval _) A_SCHEDULE.1).2
  have b5_SCHEDULE := (elem_in (eqv_i (Term.int_eval _) na62) ea_SCHEDULE (Term.int_eval _) A_SCHEDULE.1).2
  have b6_SCHEDULE := (elem_in (eqv_i (Term.int_eval _) na63) ea_SCHEDULE (Term.int_eval _) A_SCHEDULE.1).2
  have b7_SCHEDULE := (elem_in (eqv_i (Term.int_eval _) nb63) ea_SCHEDULE (Term.int_eval _) A_SCHEDULE.1).2
  have V_SCHEDULE : Arv s s.heap v_SCHEDULE cl_SCHEDULE.cls .byte (8 : Int32) [(.int (83 : Int32)), (.int (99 : Int32)), (.int (104 : Int32)), (.int (101 : Int32)), (.int (100 : Int32)), (.int (117 : Int32)), (.int (108 : Int32)), (.int (101 : Int32))] (.int (0 : Int32)) := Arv.start hfit A_SCHEDULE ln_SCHEDULE (Value.int.inj le_SCHEDULE).symm (by decide) (by decide) ⟨b0_SCHEDULE, b1_SCHEDULE, b2_SCHEDULE, b3_SCHEDULE, b4_SCHEDULE, b5_SCHEDULE, b6_SCHEDULE, b7_SCHEDULE, trivial⟩
  obtain ⟨w_EXHIBIT, ew_EXHIBIT⟩ := exa_v na13
  have Ew_EXHIBIT : Exa s s.heap w_EXHIBIT "java/lang/String" := Exa.start ew_EXHIBIT na13
  have Fw_EXHIBIT : Fld s s.heap s_EXHIBIT "com/example/restate/restate/Address$Kind" "word" "Ljava/lang/String;" (.ref w_EXHIBIT) := Fld.start ((fld_at ev_EXHIBIT).symm.trans ew_EXHIBIT)
  have Fc_EXHIBIT : Fld s s.heap w_EXHIBIT "java/lang/String" "coder" "B" (.int 0) := Fld.start ((fld_at ew_EXHIBIT).symm.trans (eqv_i (Term.int_eval _) na14))
  obtain ⟨v_EXHIBIT, ea_EXHIBIT⟩ := arr_v na15
  obtain ⟨cl_EXHIBIT, A_EXHIBIT⟩ := Arr.start ea_EXHIBIT na15
  have Fv_EXHIBIT : Fld s s.heap w_EXHIBIT "java/lang/String" "value" "[B" (.ref v_EXHIBIT) := Fld.start ((fld_at ew_EXHIBIT).symm.trans ea_EXHIBIT)
  obtain ⟨ln_EXHIBIT, le_EXHIBIT⟩ := own_len ea_EXHIBIT (A_EXHIBIT.fin (Vm.Alike.refl _)) (eqv_i (Term.int_eval _) na16)
  have b0_EXHIBIT := (elem_in (eqv_i (Term.int_eval _) na38) ea_EXHIBIT (Term.int_eval _) A_EXHIBIT.1).2
  have b1_EXHIBIT := (elem_in (eqv_i (Term.int_eval _) na39) ea_EXHIBIT (Term.int_eval _) A_EXHIBIT.1).2
  have b2_EXHIBIT := (elem_in (eqv_i (Term.int_eval _) na40) ea_EXHIBIT (Term.int_eval _) A_EXHIBIT.1).2
  have b3_EXHIBIT := (elem_in (eqv_i (Term.int_eval _) na41) ea_EXHIBIT (Term.int_eval _) A_EXHIBIT.1).2
  have b4_EXHIBIT := (elem_in (eqv_i (Term.int_eval _) na42) ea_EXHIBIT (Term.int_eval _) A_EXHIBIT.1).2
  have b5_EXHIBIT := (elem_in (eqv_i (Term.int_eval _) na43) ea_EXHIBIT (Term.int_eval _) A_EXHIBIT.1).2
  have b6_EXHIBIT := (elem_in (eqv_i (Term.int_eval _) na44) ea_EXHIBIT (Term.int_eval _) A_EXHIBIT.1).2
  have V_EXHIBIT : Arv s s.heap v_EXHIBIT cl_EXHIBIT.cls .byte (7 : Int32) [(.int (69 : Int32)), (.int (120 : Int32)), (.int (104 : Int32)), (.int (105 : Int32)), (.int (98 : Int32)), (.int (105 : Int32)), (.int (116 : Int32))] (.int (0 : Int32)) := Arv.start hfit A_EXHIBIT ln_EXHIBIT (Value.int.inj le_EXHIBIT).symm (by decide) (by decide) ⟨b0_EXHIBIT, b1_EXHIBIT, b2_EXHIBIT, b3_EXHIBIT, b4_EXHIBIT, b5_EXHIBIT, b6_EXHIBIT, trivial⟩
  obtain ⟨w_ANNEX, ew_ANNEX⟩ := exa_v na23
  have Ew_ANNEX : Exa s s.heap w_ANNEX "java/lang/String" := Exa.start ew_ANNEX na23
  have Fw_ANNEX : Fld s s.heap s_ANNEX "com/example/restate/restate/Address$Kind" "word" "Ljava/lang/String;" (.ref w_ANNEX) := Fld.start ((fld_at ev_ANNEX).symm.trans ew_ANNEX)
  have Fc_ANNEX : Fld s s.heap w_ANNEX "java/lang/String" "coder" "B" (.int 0) := Fld.start ((fld_at ew_ANNEX).symm.trans (eqv_i (Term.int_eval _) na24))
  obtain ⟨v_ANNEX, ea_ANNEX⟩ := arr_v na25
  obtain ⟨cl_ANNEX, A_ANNEX⟩ := Arr.start ea_ANNEX na25
  have Fv_ANNEX : Fld s s.heap w_ANNEX "java/lang/String" "value" "[B" (.ref v_ANNEX) := Fld.start ((fld_at ew_ANNEX).symm.trans ea_ANNEX)
  obtain ⟨ln_ANNEX, le_ANNEX⟩ := own_len ea_ANNEX (A_ANNEX.fin (Vm.Alike.refl _)) (eqv_i (Term.int_eval _) na26)
  have b0_ANNEX := (elem_in (eqv_i (Term.int_eval _) na52) ea_ANNEX (Term.int_eval _) A_ANNEX.1).2
  have b1_ANNEX := (elem_in (eqv_i (Term.int_eval _) na53) ea_ANNEX (Term.int_eval _) A_ANNEX.1).2
  have b2_ANNEX := (elem_in (eqv_i (Term.int_eval _) na54) ea_ANNEX (Term.int_eval _) A_ANNEX.1).2
  have b3_ANNEX := (elem_in (eqv_i (Term.int_eval _) na55) ea_ANNEX (Term.int_eval _) A_ANNEX.1).2
  have b4_ANNEX := (elem_in (eqv_i (Term.int_eval _) na56) ea_ANNEX (Term.int_eval _) A_ANNEX.1).2
  have V_ANNEX : Arv s s.heap v_ANNEX cl_ANNEX.cls .byte (5 : Int32) [(.int (65 : Int32)), (.int (110 : Int32)), (.int (110 : Int32)), (.int (101 : Int32)), (.int (120 : Int32))] (.int (0 : Int32)) := Arv.start hfit A_ANNEX ln_ANNEX (Value.int.inj le_ANNEX).symm (by decide) (by decide) ⟨b0_ANNEX, b1_ANNEX, b2_ANNEX, b3_ANNEX, b4_ANNEX, trivial⟩
  have ne_ARTICLE_SCHEDULE : s_ARTICLE ≠ s_SCHEDULE := Fld.ne O_ARTICLE_ordinal O_SCHEDULE_ordinal (by decide)
  have ne_ARTICLE_EXHIBIT : s_ARTICLE ≠ s_EXHIBIT := Fld.ne O_ARTICLE_ordinal O_EXHIBIT_ordinal (by decide)
  have ne_ARTICLE_ANNEX : s_ARTICLE ≠ s_ANNEX := Fld.ne O_ARTICLE_ordinal O_ANNEX_ordinal (by decide)
  have ne_SECTION_SCHEDULE : s_SECTION ≠ s_SCHEDULE := Fld.ne O_SECTION_ordinal O_SCHEDULE_ordinal (by decide)
  have ne_SECTION_EXHIBIT : s_SECTION ≠ s_EXHIBIT := Fld.ne O_SECTION_ordinal O_EXHIBIT_ordinal (by decide)
  have ne_SECTION_ANNEX : s_SECTION ≠ s_ANNEX := Fld.ne O_SECTION_ordinal O_ANNEX_ordinal (by decide)
  have ne_EXHIBIT_SCHEDULE : s_EXHIBIT ≠ s_SCHEDULE := Fld.ne O_EXHIBIT_ordinal O_SCHEDULE_ordinal (by decide)
  have ne_ANNEX_SCHEDULE : s_ANNEX ≠ s_SCHEDULE := Fld.ne O_ANNEX_ordinal O_SCHEDULE_ordinal (by decide)
  have ne_ANNEX_EXHIBIT : s_ANNEX ≠ s_EXHIBIT := Fld.ne O_ANNEX_ordinal O_EXHIBIT_ordinal (by decide)
  obtain ⟨cs, ecs⟩ := is_v (Cond.before_iff.mp (hsets _ (List.mem_of_getElem? (i := 1) rfl)))
  have S_c : Sta s s.heap "java/lang/String" "COMPACT_STRINGS" "Z" (.int cs) := Sta.start ecs (Or.inl (hsets _ (List.mem_of_getElem? (i := 0) rfl)))
  have hcs : ¬ cs = (0 : Int32) := gotF (Cond.eq_ints ecs (Term.int_eval _)) (not_v (Cond.before_iff.mp (hsets _ (List.mem_of_getElem? (i := 2) rfl))))
  have hcw : Jvm.Lit.compactW.before _ s = true := (hsets _ (List.mem_of_getElem? (i := 2) rfl))
  have wS : ∀ a ∈ Bundle.stringAtoms, a.before #[.int i0] s = true := by
    intro a ha'
    simp only [Bundle.stringAtoms, List.mem_cons, List.not_mem_nil, or_false] at ha'
    rcases ha' with rfl | rfl | rfl | rfl | rfl | rfl | rfl
    · exact (hw _ (List.mem_of_getElem? (i := 12) rfl))
    · exact (hw _ (List.mem_of_getElem? (i := 13) rfl))
    · exact (hw _ (List.mem_of_getElem? (i := 14) rfl))
    · exact (hw _ (List.mem_of_getElem? (i := 15) rfl))
    · exact (hw _ (List.mem_of_getElem? (i := 16) rfl))
    · exact (hw _ (List.mem_of_getElem? (i := 17) rfl))
    · exact (hw _ (List.mem_of_getElem? (i := 18) rfl))
  have hc30 : Jvm.Lit.constHeld s "com/example/restate/restate/KindIsAttachmentPinLaw" 30 := hcalls.1 ("com/example/restate/restate/KindIsAttachmentPinLaw", 30) (by simp [consts_1])
  have hc38 : Jvm.Lit.constHeld s "com/example/restate/restate/KindIsAttachmentPinLaw" 38 := hcalls.1 ("com/example/restate/restate/KindIsAttachmentPinLaw", 38) (by simp [consts_1])
  have hc40 : Jvm.Lit.constHeld s "com/example/restate/restate/KindIsAttachmentPinLaw" 40 := hcalls.1 ("com/example/restate/restate/KindIsAttachmentPinLaw", 40) (by simp [consts_1])
  obtain ⟨n, o, h1, h2, h3, _, L, rfl, ⟨rfl, N⟩, hq⟩ := rm0 l s _ hw tables_1 i0 cs s_ARTICLE w_ARTICLE v_ARTICLE s_SECTION w_SECTION v_SECTION s_SCHEDULE w_SCHEDULE v_SCHEDULE s_EXHIBIT w_EXHIBIT v_EXHIBIT s_ANNEX w_ANNEX v_ANNEX _ _ _ _ _ s.heap s.heap.size (Nat.le_refl _) rfl (Old.start s) S_c hcs hcw wS hc30 hc38 hc40 S_ARTICLE E_ARTICLE Fw_ARTICLE Ew_ARTICLE Fc_ARTICLE Fv_ARTICLE V_ARTICLE S_SECTION E_SECTION Fw_SECTION Ew_SECTION Fc_SECTION Fv_SECTION V_SECTION S_SCHEDULE E_SCHEDULE Fw_SCHEDULE Ew_SCHEDULE Fc_SCHEDULE Fv_SCHEDULE V_SCHEDULE S_EXHIBIT E_EXHIBIT Fw_EXHIBIT Ew_EXHIBIT Fc_EXHIBIT Fv_EXHIBIT V_EXHIBIT S_ANNEX E_ANNEX Fw_ANNEX Ew_ANNEX Fc_ANNEX Fv_ANNEX V_ANNEX ne_ARTICLE_SCHEDULE ne_ARTICLE_EXHIBIT ne_ARTICLE_ANNEX ne_SECTION_SCHEDULE ne_SECTION_EXHIBIT ne_SECTION_ANNEX ne_EXHIBIT_SCHEDULE ne_ANNEX_SCHEDULE ne_ANNEX_EXHIBIT p e ha hc hk s m _ below hf ((Spec.applies_iff_loose hf).mp happ).1 ⟨rfl, State.Warmed39.refl s, rfl, rfl⟩ trivial
  refine ⟨n, _, h1, h2, h3, hpost _ _ _ _ _ _ ⟨Cond.after_iff.mpr rfl, Cond.after_iff.mpr (eq_i res_at (Term.int_eval (1)) rfl), trivial⟩ ⟨hq.1, hq.2.1, hq.2.2.1, (hq.2.2.2.sift fun y hy => Or.inr (N y hy)).mono (by decide) (by decide)⟩⟩
theorem main_1_1 : Claimed_1_1 := comes_1 fun _ _ _ _ _ _ h hF => ⟨h.1, hF⟩
theorem main_1_2 : Claimed_1_2 := comes_1 fun _ _ _ _ _ _ h hF => ⟨h.2.1, hF⟩
end Jvm.Pilot.@@N@@
namespace Jvm.Pilot.@@N@@
open Jvm Jvm.ClassFile Sem Op Lib Jvm.Free Jvm.Stand Jvm.Pilot.@@N@@.Jvm.D
/-! MADE BY PROGRAM (witnessworld.py) out of the Statement's table words and the real class files: 18 classes; the members and pool entries that the words name. The judged class is class 1, her method 1. -/
namespace start1
open Jvm.ClassFile
def u (s : String) : CpInfo := .utf8 (stringToUtf16 s)
/-- a pool by its gaps: so many unusable entries, then the entry; so many at the end -/
def gap : Nat → List CpInfo → List CpInfo
  | 0, r => r
  | n + 1, r => .unusable :: gap n r
def poolList (es : List (Nat × CpInfo)) (last : Nat) : List CpInfo := es.foldr (fun e r => gap e.1 (e.2 :: r)) (gap last [])
def pool (es : List (Nat × CpInfo)) (last : Nat) : Array CpInfo := ⟨poolList es last⟩
def fileOf (pool : Array CpInfo) (this : Nat) (attrs : Array Attribute := #[]) (ms : Array MethodInfo := #[]) (fl : Nat := 33) (sup : Nat := 0) (ifs : Array Nat := #[]) (fds : Array FieldInfo := #[]) : ClassFile where
  minorVersion := 0
  majorVersion := 65
  constantPool := pool
  accessFlags := fl
  thisClass := this
  superClass := sup
  interfaces := ifs
  fields := fds
  methods := ms
  attributes := attrs
def plain (name : String) (sup : Option ClassId) : Class where
  name := name
  kind := .ordinary
  loader := none
  accessFlags := 33
  super := sup
  interfaces := #[]
  cf := none
  fields := #[]
  methods := #[]
  instanceTypes := #[]
  staticTypes := #[]
  resolved := #[]
  callSites := []
  init := .initialized
  statics := none
  mirror := none

def pool0 : Array CpInfo := pool [(5, u "<init>"), (0, u "()V"), (1, .class_ 10), (1, u "java/lang/Object")] 113

def k0m0 : Method := { name := "<init>", desc := "()V", sig := { parameters := [], returnType := none }, accessFlags := 1, code := none }
/-- java/lang/Object -/
def k0 : Class := { plain "java/lang/Object" none with
  accessFlags := 33
  interfaces := #[]
  cf := some (fileOf pool0 8 #[] #[{ accessFlags := 1, nameIndex := 5, descriptorIndex := 6, attributes := #[] }] 33 0 #[] #[])
  fields := #[]
  methods := #[k0m0]
  instanceTypes := #[]
  staticTypes := #[]
  resolved := Array.replicate 124 none
  statics := none }

def pool1 : Array CpInfo := pool [(2, .class_ 4), (1, u "java/lang/Object"), (0, u "<init>"), (0, u "()V"), (0, .integer 2147483647), (0, .fieldref 9 10), (0, .class_ 11), (0, .nameAndType 12 13), (0, u "com/example/restate/restate/Address$Kind"), (0, u "ARTICLE"), (0, u "Lcom/example/restate/restate/Address$Kind;"), (0, .fieldref 9 15), (0, .nameAndType 16 13), (0, u "SECTION"), (0, .fieldref 9 18), (0, .nameAndType 19 13), (0, u "SCHEDULE"), (0, .fieldref 9 21), (0, .nameAndType 22 13), (0, u "EXHIBIT"), (0, .fieldref 9 24), (0, .nameAndType 25 13), (0, u "ANNEX"), (0, .methodref 9 27), (0, .nameAndType 28 29), (0, u "word"), (0, u "()Ljava/lang/String;"), (0, .string 31), (0, u "Schedule"), (0, .methodref 33 34), (0, .class_ 35), (0, .nameAndType 36 37), (0, u "java/lang/String"), (0, u "equals"), (0, u "(Ljava/lang/Object;)Z"), (0, .string 39), (0, u "Exhibit"), (0, .string 41), (0, u "Annex"), (0, .methodref 9 43), (0, .nameAndType 44 45), (0, u "isAttachment"), (0, u "()Z"), (0, .class_ 47), (0, u "com/example/restate/restate/KindIsAttachmentPinLaw"), (2, u "law"), (0, u "(I)Z")] 7

def k1m0 : Method := { name := "<init>", desc := "()V", sig := { parameters := [], returnType := none }, accessFlags := 1, code := none }
def k1c1 : Code := { maxStack := 2, maxLocals := 7, code := code, exceptionTable := #[], attributes := #[] }
def k1m1 : Method := { name := "law", desc := "(I)Z", sig := { parameters := [.int], returnType := some .boolean }, accessFlags := 9, code := some k1c1 }
/-- com/example/restate/restate/KindIsAttachmentPinLaw -/
def k1 : Class := { plain "com/example/restate/restate/KindIsAttachmentPinLaw" (some 0) with
  accessFlags := 49
  interfaces := #[]
  cf := some (fileOf pool1 46 #[] #[{ accessFlags := 1, nameIndex := 5, descriptorIndex := 6, attributes := #[] }, { accessFlags := 9, nameIndex := 50, descriptorIndex := 51, attributes := #[] }] 49 2 #[] #[])
  fields := #[]
  methods := #[k1m0, k1m1]
  instanceTypes := #[]
  staticTypes := #[]
  resolved := Array.replicate 59 none
  statics := none }

def pool2 : Array CpInfo := pool [(1, .class_ 2), (0, u "java/lang/constant/Constable"), (0, .class_ 4), (0, u "java/lang/Object")] 6

/-- java/lang/constant/Constable -/
def k2 : Class := { plain "java/lang/constant/Constable" (some 0) with
  accessFlags := 1537
  interfaces := #[]
  cf := some (fileOf pool2 1 #[] #[] 1537 3 #[] #[])
  fields := #[]
  methods := #[]
  instanceTypes := #[]
  staticTypes := #[]
  resolved := Array.replicate 11 none
  statics := none }

def pool3 : Array CpInfo := pool [(1, .class_ 2), (0, u "java/lang/Comparable"), (0, .class_ 4), (0, u "java/lang/Object")] 7

/-- java/lang/Comparable -/
def k3 : Class := { plain "java/lang/Comparable" (some 0) with
  accessFlags := 1537
  interfaces := #[]
  cf := some (fileOf pool3 1 #[] #[] 1537 3 #[] #[])
  fields := #[]
  methods := #[]
  instanceTypes := #[]
  staticTypes := #[]
  resolved := Array.replicate 12 none
  statics := none }

def pool4 : Array CpInfo := pool [(1, .class_ 2), (0, u "java/io/Serializable"), (0, .class_ 4), (0, u "java/lang/Object")] 2

/-- java/io/Serializable -/
def k4 : Class := { plain "java/io/Serializable" (some 0) with
  accessFlags := 1537
  interfaces := #[]
  cf := some (fileOf pool4 1 #[] #[] 1537 3 #[] #[])
  fields := #[]
  methods := #[]
  instanceTypes := #[]
  staticTypes := #[]
  resolved := Array.replicate 7 none
  statics := none }

def pool5 : Array CpInfo := pool [(2, .class_ 4), (1, u "java/lang/Enum"), (0, u "name"), (0, u "Ljava/lang/String;"), (2, u "ordinal"), (0, u "I"), (1, .class_ 14), (1, u "java/lang/Object"), (4, u "hash"), (86, .class_ 108), (1, u "java/lang/Enum$EnumDesc"), (2, .class_ 112), (0, u "java/lang/constant/Constable"), (0, .class_ 114), (0, u "java/lang/Comparable"), (0, .class_ 116), (0, u "java/io/Serializable")] 87

/-- java/lang/Enum -/
def k5 : Class := { plain "java/lang/Enum" (some 0) with
  accessFlags := 1057
  interfaces := #[2, 3, 4]
  cf := some (fileOf pool5 2 #[.nestMembers #[106]] #[] 1057 12 #[111, 113, 115] #[{ accessFlags := 18, nameIndex := 5, descriptorIndex := 6, attributes := #[] }, { accessFlags := 18, nameIndex := 9, descriptorIndex := 10, attributes := #[] }, { accessFlags := 2, nameIndex := 19, descriptorIndex := 10, attributes := #[] }])
  fields := #[{ name := "name", type := (.object "java/lang/String"), accessFlags := 18, slot := 0, constantValue := 0 }, { name := "ordinal", type := .int, accessFlags := 18, slot := 1, constantValue := 0 }, { name := "hash", type := .int, accessFlags := 2, slot := 2, constantValue := 0 }]
  methods := #[]
  instanceTypes := #[(.object "java/lang/String"), .int, .int]
  staticTypes := #[]
  resolved := Array.replicate 204 none
  statics := none }

def pool6 : Array CpInfo := pool [(1, .class_ 2), (0, u "com/example/restate/restate/Address"), (0, .class_ 4), (0, u "com/example/restate/restate/Address$Kind"), (2, u "ARTICLE"), (0, u "Lcom/example/restate/restate/Address$Kind;"), (2, u "SECTION"), (0, .fieldref 3 13), (0, .nameAndType 14 8), (0, u "SCHEDULE"), (0, .fieldref 3 16), (0, .nameAndType 17 8), (0, u "EXHIBIT"), (0, .fieldref 3 19), (0, .nameAndType 20 8), (0, u "ANNEX"), (2, u "$VALUES"), (0, u "[Lcom/example/restate/restate/Address$Kind;"), (6, .class_ 33), (1, u "java/lang/Enum"), (6, .fieldref 3 41), (0, .nameAndType 42 43), (0, u "word"), (0, u "Ljava/lang/String;"), (8, u "designation"), (0, u "Ljava/util/regex/Pattern;"), (9, u "()Z"), (18, u "KINDS"), (51, u "()Ljava/lang/String;"), (0, u "isAttachment")] 15

def k6c0 : Code := { maxStack := 1, maxLocals := 1, code := prog_5_method_4_code, exceptionTable := #[], attributes := #[] }
def k6m0 : Method := { name := "word", desc := "()Ljava/lang/String;", sig := { parameters := [], returnType := some (.object "java/lang/String") }, accessFlags := 1, code := some k6c0 }
def k6c1 : Code := { maxStack := 2, maxLocals := 1, code := prog_5_method_5_code, exceptionTable := #[], attributes := #[] }
def k6m1 : Method := { name := "isAttachment", desc := "()Z", sig := { parameters := [], returnType := some .boolean }, accessFlags := 1, code := some k6c1 }
/-- com/example/restate/restate/Address$Kind -/
def k6 : Class := { plain "com/example/restate/restate/Address$Kind" (some 5) with
  accessFlags := 16433
  interfaces := #[]
  cf := some (fileOf pool6 3 #[.nestHost 1] #[{ accessFlags := 1, nameIndex := 42, descriptorIndex := 134, attributes := #[] }, { accessFlags := 1, nameIndex := 135, descriptorIndex := 63, attributes := #[] }] 16433 31 #[] #[{ accessFlags := 16409, nameIndex := 7, descriptorIndex := 8, attributes := #[] }, { accessFlags := 16409, nameIndex := 11, descriptorIndex := 8, attributes := #[] }, { accessFlags := 16409, nameIndex := 14, descriptorIndex := 8, attributes := #[] }, { accessFlags := 16409, nameIndex := 17, descriptorIndex := 8, attributes := #[] }, { accessFlags := 16409, nameIndex := 20, descriptorIndex := 8, attributes := #[] }, { accessFlags := 26, nameIndex := 82, descriptorIndex := 24, attributes := #[] }, { accessFlags := 18, nameIndex := 42, descriptorIndex := 43, attributes := #[] }, { accessFlags := 18, nameIndex := 52, descriptorIndex := 53, attributes := #[] }, { accessFlags := 4122, nameIndex := 23, descriptorIndex := 24, attributes := #[] }])
  fields := #[{ name := "ARTICLE", type := (.object "com/example/restate/restate/Address$Kind"), accessFlags := 16409, slot := 0, constantValue := 0 }, { name := "SECTION", type := (.object "com/example/restate/restate/Address$Kind"), accessFlags := 16409, slot := 1, constantValue := 0 }, { name := "SCHEDULE", type := (.object "com/example/restate/restate/Address$Kind"), accessFlags := 16409, slot := 2, constantValue := 0 }, { name := "EXHIBIT", type := (.object "com/example/restate/restate/Address$Kind"), accessFlags := 16409, slot := 3, constantValue := 0 }, { name := "ANNEX", type := (.object "com/example/restate/restate/Address$Kind"), accessFlags := 16409, slot := 4, constantValue := 0 }, { name := "KINDS", type := (.array (.object "com/example/restate/restate/Address$Kind")), accessFlags := 26, slot := 5, constantValue := 0 }, { name := "word", type := (.object "java/lang/String"), accessFlags := 18, slot := 3, constantValue := 0 }, { name := "designation", type := (.object "java/util/regex/Pattern"), accessFlags := 18, slot := 4, constantValue := 0 }, { name := "$VALUES", type := (.array (.object "com/example/restate/restate/Address$Kind")), accessFlags := 4122, slot := 6, constantValue := 0 }]
  methods := #[k6m0, k6m1]
  instanceTypes := #[(.object "java/lang/String"), .int, .int, (.object "java/lang/String"), (.object "java/util/regex/Pattern")]
  staticTypes := #[(.object "com/example/restate/restate/Address$Kind"), (.object "com/example/restate/restate/Address$Kind"), (.object "com/example/restate/restate/Address$Kind"), (.object "com/example/restate/restate/Address$Kind"), (.object "com/example/restate/restate/Address$Kind"), (.array (.object "com/example/restate/restate/Address$Kind")), (.array (.object "com/example/restate/restate/Address$Kind"))]
  resolved := Array.replicate 151 none
  statics := some 0 }

def pool7 : Array CpInfo := pool [(2, .class_ 4), (1, u "java/lang/CharSequence"), (42, .class_ 48), (0, u "java/lang/CharSequence$1CodePointIterator"), (10, .class_ 60), (0, u "java/lang/CharSequence$1CharIterator"), (5, .class_ 67), (0, u "java/lang/Object")] 63

/-- java/lang/CharSequence -/
def k7 : Class := { plain "java/lang/CharSequence" (some 0) with
  accessFlags := 1537
  interfaces := #[]
  cf := some (fileOf pool7 2 #[.nestMembers #[47, 59]] #[] 1537 66 #[] #[])
  fields := #[]
  methods := #[]
  instanceTypes := #[]
  staticTypes := #[]
  resolved := Array.replicate 131 none
  statics := none }

def pool8 : Array CpInfo := pool [(1, .class_ 2), (0, u "java/lang/constant/ConstantDesc"), (0, .class_ 4), (0, u "java/lang/Object")] 32

/-- java/lang/constant/ConstantDesc -/
def k8 : Class := { plain "java/lang/constant/ConstantDesc" (some 0) with
  accessFlags := 1537
  interfaces := #[]
  cf := some (fileOf pool8 1 #[] #[] 1537 3 #[] #[])
  fields := #[]
  methods := #[]
  instanceTypes := #[]
  staticTypes := #[]
  resolved := Array.replicate 37 none
  statics := none }

def pool9 : Array CpInfo := pool [(2, .class_ 4), (1, u "java/lang/Object"), (0, u "<init>"), (0, u "()V"), (2, .fieldref 10 11), (0, .class_ 12), (0, .nameAndType 13 14), (0, u "java/lang/String"), (0, u "value"), (0, u "[B"), (0, .fieldref 10 16), (0, .nameAndType 17 18), (0, u "coder"), (0, u "B"), (2, u "hash"), (0, u "I"), (2, u "hashIsZero"), (0, u "Z"), (11, .fieldref 10 39), (0, .nameAndType 40 26), (0, u "COMPACT_STRINGS"), (66, .class_ 109), (1, u "java/lang/StringLatin1"), (431, .methodref 107 542), (0, .nameAndType 543 544), (0, u "equals"), (0, u "([B[B)Z"), (28, u "(Ljava/lang/Object;)Z"), (1, .class_ 576), (0, u "java/lang/CharSequence"), (22, u "CASE_INSENSITIVE_ORDER"), (0, u "Ljava/util/Comparator;"), (500, u "serialPersistentFields"), (0, u "[Ljava/io/ObjectStreamField;"), (0, .class_ 1104), (0, u "java/lang/String$CaseInsensitiveComparator"), (1, .class_ 1107), (0, u "java/io/Serializable"), (0, .class_ 1109), (0, u "java/lang/Comparable"), (0, .class_ 1111), (0, u "java/lang/constant/Constable"), (0, .class_ 1113), (0, u "java/lang/constant/ConstantDesc"), (2, u "serialVersionUID"), (0, u "J"), (3, u "REPL"), (0, u "C"), (2, u "LATIN1"), (1, u "UTF16")] 323

def k9m0 : Method := { name := "<init>", desc := "()V", sig := { parameters := [], returnType := none }, accessFlags := 1, code := none }
def k9c1 : Code := { maxStack := 2, maxLocals := 3, code := jdk_42_method_66_code, exceptionTable := #[], attributes := #[] }
def k9m1 : Method := { name := "equals", desc := "(Ljava/lang/Object;)Z", sig := { parameters := [(.object "java/lang/Object")], returnType := some .boolean }, accessFlags := 1, code := some k9c1 }
/-- java/lang/String -/
def k9 : Class := { plain "java/lang/String" (some 0) with
  accessFlags := 49
  interfaces := #[4, 3, 7, 2, 8]
  cf := some (fileOf pool9 10 #[.nestMembers #[1103]] #[{ accessFlags := 1, nameIndex := 5, descriptorIndex := 6, attributes := #[] }, { accessFlags := 1, nameIndex := 543, descriptorIndex := 573, attributes := #[] }] 49 2 #[1106, 1108, 575, 1110, 1112] #[{ accessFlags := 18, nameIndex := 13, descriptorIndex := 14, attributes := #[] }, { accessFlags := 18, nameIndex := 17, descriptorIndex := 18, attributes := #[] }, { accessFlags := 2, nameIndex := 21, descriptorIndex := 22, attributes := #[] }, { accessFlags := 2, nameIndex := 25, descriptorIndex := 26, attributes := #[] }, { accessFlags := 26, nameIndex := 1116, descriptorIndex := 1117, attributes := #[] }, { accessFlags := 24, nameIndex := 40, descriptorIndex := 26, attributes := #[] }, { accessFlags := 26, nameIndex := 1101, descriptorIndex := 1102, attributes := #[] }, { accessFlags := 26, nameIndex := 1121, descriptorIndex := 1122, attributes := #[] }, { accessFlags := 25, nameIndex := 599, descriptorIndex := 600, attributes := #[] }, { accessFlags := 24, nameIndex := 1125, descriptorIndex := 18, attributes := #[] }, { accessFlags := 24, nameIndex := 1127, descriptorIndex := 18, attributes := #[] }])
  fields := #[{ name := "value", type := (.array .byte), accessFlags := 18, slot := 0, constantValue := 0 }, { name := "coder", type := .byte, accessFlags := 18, slot := 1, constantValue := 0 }, { name := "hash", type := .int, accessFlags := 2, slot := 2, constantValue := 0 }, { name := "hashIsZero", type := .boolean, accessFlags := 2, slot := 3, constantValue := 0 }, { name := "serialVersionUID", type := .long, accessFlags := 26, slot := 0, constantValue := 0 }, { name := "COMPACT_STRINGS", type := .boolean, accessFlags := 24, slot := 1, constantValue := 0 }, { name := "serialPersistentFields", type := (.array (.object "java/io/ObjectStreamField")), accessFlags := 26, slot := 2, constantValue := 0 }, { name := "REPL", type := .char, accessFlags := 26, slot := 3, constantValue := 0 }, { name := "CASE_INSENSITIVE_ORDER", type := (.object "java/util/Comparator"), accessFlags := 25, slot := 4, constantValue := 0 }, { name := "LATIN1", type := .byte, accessFlags := 24, slot := 5, constantValue := 0 }, { name := "UTF16", type := .byte, accessFlags := 24, slot := 6, constantValue := 0 }]
  methods := #[k9m0, k9m1]
  instanceTypes := #[(.array .byte), .byte, .int, .boolean]
  staticTypes := #[.long, .boolean, (.array (.object "java/io/ObjectStreamField")), .char, (.object "java/util/Comparator"), .byte, .byte]
  resolved := Array.replicate 1451 none
  statics := some 1 }

def pool10 : Array CpInfo := pool [(4, .class_ 6), (1, u "java/lang/Object"), (0, u "<init>"), (0, u "()V"), (5, .class_ 16), (1, u "java/lang/StringLatin1"), (104, u "$assertionsDisabled"), (0, u "Z"), (98, .class_ 223), (1, u "java/lang/StringLatin1$LinesSpliterator"), (57, u "equals"), (0, u "([B[B)Z"), (107, .class_ 391), (0, u "java/lang/StringLatin1$CharsSpliterator")] 3

def k10m0 : Method := { name := "<init>", desc := "()V", sig := { parameters := [], returnType := none }, accessFlags := 0, code := none }
def k10c1 : Code := { maxStack := 3, maxLocals := 3, code := jdk_43_method_13_code, exceptionTable := #[], attributes := #[] }
def k10m1 : Method := { name := "equals", desc := "([B[B)Z", sig := { parameters := [(.array .byte), (.array .byte)], returnType := some .boolean }, accessFlags := 9, code := some k10c1 }
/-- java/lang/StringLatin1 -/
def k10 : Class := { plain "java/lang/StringLatin1" (some 0) with
  accessFlags := 48
  interfaces := #[]
  cf := some (fileOf pool10 14 #[.nestMembers #[390, 221]] #[{ accessFlags := 0, nameIndex := 7, descriptorIndex := 8, attributes := #[] }, { accessFlags := 9, nameIndex := 281, descriptorIndex := 282, attributes := #[] }] 48 4 #[] #[{ accessFlags := 4120, nameIndex := 121, descriptorIndex := 122, attributes := #[] }])
  fields := #[{ name := "$assertionsDisabled", type := .boolean, accessFlags := 4120, slot := 0, constantValue := 0 }]
  methods := #[k10m0, k10m1]
  instanceTypes := #[]
  staticTypes := #[.boolean]
  resolved := Array.replicate 395 none
  statics := none }

def pool11 : Array CpInfo := pool [(2, .class_ 4), (1, u "java/lang/Object"), (0, u "<init>"), (0, u "()V"), (17, .class_ 26), (1, u "jdk/internal/util/Preconditions"), (28, .class_ 56), (0, u "jdk/internal/util/Preconditions$4"), (57, .class_ 115), (0, u "jdk/internal/util/Preconditions$1"), (7, u "SIOOBE_FORMATTER"), (0, u "Ljava/util/function/BiFunction;"), (0, .class_ 126), (0, u "jdk/internal/util/Preconditions$2"), (3, u "AIOOBE_FORMATTER"), (0, .class_ 132), (0, u "jdk/internal/util/Preconditions$3"), (3, u "IOOBE_FORMATTER")] 57

def k11m0 : Method := { name := "<init>", desc := "()V", sig := { parameters := [], returnType := none }, accessFlags := 1, code := none }
/-- jdk/internal/util/Preconditions -/
def k11 : Class := { plain "jdk/internal/util/Preconditions" (some 0) with
  accessFlags := 33
  interfaces := #[]
  cf := some (fileOf pool11 24 #[.nestMembers #[55, 131, 125, 114]] #[{ accessFlags := 1, nameIndex := 5, descriptorIndex := 6, attributes := #[] }] 33 2 #[] #[{ accessFlags := 25, nameIndex := 123, descriptorIndex := 124, attributes := #[] }, { accessFlags := 25, nameIndex := 130, descriptorIndex := 124, attributes := #[] }, { accessFlags := 25, nameIndex := 136, descriptorIndex := 124, attributes := #[] }])
  fields := #[{ name := "SIOOBE_FORMATTER", type := (.object "java/util/function/BiFunction"), accessFlags := 25, slot := 0, constantValue := 0 }, { name := "AIOOBE_FORMATTER", type := (.object "java/util/function/BiFunction"), accessFlags := 25, slot := 1, constantValue := 0 }, { name := "IOOBE_FORMATTER", type := (.object "java/util/function/BiFunction"), accessFlags := 25, slot := 2, constantValue := 0 }]
  methods := #[k11m0]
  instanceTypes := #[]
  staticTypes := #[(.object "java/util/function/BiFunction"), (.object "java/util/function/BiFunction"), (.object "java/util/function/BiFunction")]
  resolved := Array.replicate 194 none
  statics := some 2 }

def pool12 : Array CpInfo := pool [(9, u "<init>"), (6, .class_ 18), (1, u "java/lang/Object"), (0, u "()V"), (1, .class_ 23), (1, u "jdk/internal/util/ArraysSupport"), (0, u "LOG2_ARRAY_LONG_INDEX_SCALE"), (0, u "I"), (2, u "U"), (0, u "Ljdk/internal/misc/Unsafe;"), (8, u "BIG_ENDIAN"), (0, u "Z"), (8, u "LOG2_BYTE_BIT_SIZE"), (4, u "LOG2_ARRAY_INT_INDEX_SCALE"), (54, u "JLA"), (0, u "Ljdk/internal/access/JavaLangAccess;"), (11, u "LOG2_ARRAY_BOOLEAN_INDEX_SCALE"), (9, u "LOG2_ARRAY_BYTE_INDEX_SCALE"), (5, u "LOG2_ARRAY_CHAR_INDEX_SCALE"), (5, u "LOG2_ARRAY_SHORT_INDEX_SCALE"), (18, u "LOG2_ARRAY_FLOAT_INDEX_SCALE"), (24, u "LOG2_ARRAY_DOUBLE_INDEX_SCALE"), (89, u "T_BOOLEAN"), (2, u "T_CHAR"), (1, u "T_FLOAT"), (1, u "T_DOUBLE"), (1, u "T_BYTE"), (1, u "T_SHORT"), (1, u "T_INT"), (1, u "T_LONG"), (1, u "SOFT_MAX_ARRAY_LENGTH")] 83

def k12m0 : Method := { name := "<init>", desc := "()V", sig := { parameters := [], returnType := none }, accessFlags := 2, code := none }
/-- jdk/internal/util/ArraysSupport -/
def k12 : Class := { plain "jdk/internal/util/ArraysSupport" (some 0) with
  accessFlags := 33
  interfaces := #[]
  cf := some (fileOf pool12 21 #[] #[{ accessFlags := 2, nameIndex := 9, descriptorIndex := 19, attributes := #[] }] 33 16 #[] #[{ accessFlags := 24, nameIndex := 28, descriptorIndex := 29, attributes := #[] }, { accessFlags := 26, nameIndex := 38, descriptorIndex := 39, attributes := #[] }, { accessFlags := 25, nameIndex := 121, descriptorIndex := 25, attributes := #[] }, { accessFlags := 25, nameIndex := 131, descriptorIndex := 25, attributes := #[] }, { accessFlags := 25, nameIndex := 137, descriptorIndex := 25, attributes := #[] }, { accessFlags := 25, nameIndex := 143, descriptorIndex := 25, attributes := #[] }, { accessFlags := 25, nameIndex := 53, descriptorIndex := 25, attributes := #[] }, { accessFlags := 25, nameIndex := 24, descriptorIndex := 25, attributes := #[] }, { accessFlags := 25, nameIndex := 162, descriptorIndex := 25, attributes := #[] }, { accessFlags := 25, nameIndex := 187, descriptorIndex := 25, attributes := #[] }, { accessFlags := 26, nameIndex := 48, descriptorIndex := 25, attributes := #[] }, { accessFlags := 25, nameIndex := 277, descriptorIndex := 25, attributes := #[] }, { accessFlags := 25, nameIndex := 280, descriptorIndex := 25, attributes := #[] }, { accessFlags := 25, nameIndex := 282, descriptorIndex := 25, attributes := #[] }, { accessFlags := 25, nameIndex := 284, descriptorIndex := 25, attributes := #[] }, { accessFlags := 25, nameIndex := 286, descriptorIndex := 25, attributes := #[] }, { accessFlags := 25, nameIndex := 288, descriptorIndex := 25, attributes := #[] }, { accessFlags := 25, nameIndex := 290, descriptorIndex := 25, attributes := #[] }, { accessFlags := 25, nameIndex := 292, descriptorIndex := 25, attributes := #[] }, { accessFlags := 26, nameIndex := 108, descriptorIndex := 109, attributes := #[] }, { accessFlags := 25, nameIndex := 294, descriptorIndex := 25, attributes := #[] }])
  fields := #[{ name := "U", type := (.object "jdk/internal/misc/Unsafe"), accessFlags := 24, slot := 0, constantValue := 0 }, { name := "BIG_ENDIAN", type := .boolean, accessFlags := 26, slot := 1, constantValue := 0 }, { name := "LOG2_ARRAY_BOOLEAN_INDEX_SCALE", type := .int, accessFlags := 25, slot := 2, constantValue := 0 }, { name := "LOG2_ARRAY_BYTE_INDEX_SCALE", type := .int, accessFlags := 25, slot := 3, constantValue := 0 }, { name := "LOG2_ARRAY_CHAR_INDEX_SCALE", type := .int, accessFlags := 25, slot := 4, constantValue := 0 }, { name := "LOG2_ARRAY_SHORT_INDEX_SCALE", type := .int, accessFlags := 25, slot := 5, constantValue := 0 }, { name := "LOG2_ARRAY_INT_INDEX_SCALE", type := .int, accessFlags := 25, slot := 6, constantValue := 0 }, { name := "LOG2_ARRAY_LONG_INDEX_SCALE", type := .int, accessFlags := 25, slot := 7, constantValue := 0 }, { name := "LOG2_ARRAY_FLOAT_INDEX_SCALE", type := .int, accessFlags := 25, slot := 8, constantValue := 0 }, { name := "LOG2_ARRAY_DOUBLE_INDEX_SCALE", type := .int, accessFlags := 25, slot := 9, constantValue := 0 }, { name := "LOG2_BYTE_BIT_SIZE", type := .int, accessFlags := 26, slot := 10, constantValue := 0 }, { name := "T_BOOLEAN", type := .int, accessFlags := 25, slot := 11, constantValue := 0 }, { name := "T_CHAR", type := .int, accessFlags := 25, slot := 12, constantValue := 0 }, { name := "T_FLOAT", type := .int, accessFlags := 25, slot := 13, constantValue := 0 }, { name := "T_DOUBLE", type := .int, accessFlags := 25, slot := 14, constantValue := 0 }, { name := "T_BYTE", type := .int, accessFlags := 25, slot := 15, constantValue := 0 }, { name := "T_SHORT", type := .int, accessFlags := 25, slot := 16, constantValue := 0 }, { name := "T_INT", type := .int, accessFlags := 25, slot := 17, constantValue := 0 }, { name := "T_LONG", type := .int, accessFlags := 25, slot := 18, constantValue := 0 }, { name := "JLA", type := (.object "jdk/internal/access/JavaLangAccess"), accessFlags := 26, slot := 19, constantValue := 0 }, { name := "SOFT_MAX_ARRAY_LENGTH", type := .int, accessFlags := 25, slot := 20, constantValue := 0 }]
  methods := #[k12m0]
  instanceTypes := #[]
  staticTypes := #[(.object "jdk/internal/misc/Unsafe"), .boolean, .int, .int, .int, .int, .int, .int, .int, .int, .int, .int, .int, .int, .int, .int, .int, .int, .int, (.object "jdk/internal/access/JavaLangAccess"), .int]
  resolved := Array.replicate 378 none
  statics := none }

def pool13 : Array CpInfo := pool [(1, u "java/lang/Cloneable"), (0, .class_ 1), (0, u "java/lang/Object"), (0, .class_ 3)] 3

/-- java/lang/Cloneable -/
def k13 : Class := { plain "java/lang/Cloneable" (some 0) with
  accessFlags := 1537
  interfaces := #[]
  cf := some (fileOf pool13 2 #[] #[] 1537 4 #[] #[])
  fields := #[]
  methods := #[]
  instanceTypes := #[]
  staticTypes := #[]
  resolved := Array.replicate 8 none
  statics := none }

/-- the primitive byte -/
def k14 : Class := { plain "byte" none with kind := .primitive 'B', accessFlags := 0x411 }
/-- [B -/
def k15 : Class := { plain "[B" (some 0) with kind := .array 14 .byte, interfaces := #[13, 4], accessFlags := 1041 }

/-- the primitive int -/
def k16 : Class := { plain "int" none with kind := .primitive 'I', accessFlags := 0x411 }
/-- [I -/
def k17 : Class := { plain "[I" (some 0) with kind := .array 16 .int, interfaces := #[13, 4], accessFlags := 1041 }

def heap : Heap := #[{ cls := 6, slots := #[.ref 13, .ref 14, .ref 15, .ref 16, .ref 17, .null, .null], vm := .statics 6 },
  { cls := 9, slots := #[.long 0, .int 1, .null, .int 0, .null, .int 0, .int 0], vm := .statics 9 },
  { cls := 11, slots := #[.null, .null, .null], vm := .statics 11 },
  { cls := 15, slots := #[.int 65, .int 114, .int 116, .int 105, .int 99, .int 108, .int 101], vm := .none },
  { cls := 15, slots := #[.int 83, .int 101, .int 99, .int 116, .int 105, .int 111, .int 110], vm := .none },
  { cls := 15, slots := #[.int 83, .int 99, .int 104, .int 101, .int 100, .int 117, .int 108, .int 101], vm := .none },
  { cls := 15, slots := #[.int 69, .int 120, .int 104, .int 105, .int 98, .int 105, .int 116], vm := .none },
  { cls := 15, slots := #[.int 65, .int 110, .int 110, .int 101, .int 120], vm := .none },
  { cls := 9, slots := #[.ref 3, .int 0, .int 0, .int 0], vm := .none },
  { cls := 9, slots := #[.ref 4, .int 0, .int 0, .int 0], vm := .none },
  { cls := 9, slots := #[.ref 5, .int 0, .int 0, .int 0], vm := .none },
  { cls := 9, slots := #[.ref 6, .int 0, .int 0, .int 0], vm := .none },
  { cls := 9, slots := #[.ref 7, .int 0, .int 0, .int 0], vm := .none },
  { cls := 6, slots := #[.null, .int 0, .int 0, .ref 8, .null], vm := .none },
  { cls := 6, slots := #[.null, .int 1, .int 0, .ref 9, .null], vm := .none },
  { cls := 6, slots := #[.null, .int 2, .int 0, .ref 10, .null], vm := .none },
  { cls := 6, slots := #[.null, .int 3, .int 0, .ref 11, .null], vm := .none },
  { cls := 6, slots := #[.null, .int 4, .int 0, .ref 12, .null], vm := .none }]
def classes : Array Class := #[k0, k1, k2, k3, k4, k5, k6, k7, k8, k9, k10, k11, k12, k13, k14, k15, k16, k17]
def interned : List (Array UInt16 × Addr) := []
def slotsUsed : Nat := 96
def theMethod : MethodId := ⟨1, 1⟩
def args0 : Array Value := #[.int 5]
def aboutOver (below : List Frame) : State where
  vm := { classes := classes, interned := interned.toArray }
  heap := heap
  slotsUsed := slotsUsed
  threads := #[{ frames := .invoking theMethod args0 :: below }]
def below0 : List Frame := [.native { method := ⟨0, 0⟩, args := #[] }]
def about1 : State := aboutOver below0
def p0 : Program := .bare "" "" ""
def e0 : Env := launch0.env 0 0 0
theorem w_frames : about1.frames = Frame.invoking theMethod args0 :: below0 := rfl
set_option maxRecDepth 65536 in
theorem w_args : argsFit about1.vm theMethod args0 = true := by decide +kernel
set_option maxRecDepth 65536 in
theorem w_heap : heapFits about1 = true := by decide +kernel
set_option maxRecDepth 65536 in
theorem w_runnable : about1.curStatus? = some .runnable := by decide +kernel
set_option maxRecDepth 65536 in
theorem w_alone : about1.alone = true := by decide +kernel
set_option maxRecDepth 65536 in
theorem w_named : about1.methodNamed? x = some theMethod := by decide +kernel
set_option maxRecDepth 65536 in
theorem w_hears : about1.hears theMethod below0 = true := by decide +kernel
set_option maxRecDepth 65536 in
theorem w_ripe : about1.ripe theMethod args0 below0 = true := by decide +kernel
theorem w_running : about1.status = .running := rfl
set_option maxRecDepth 65536 in
theorem w_room : about1.hasRoom e0.platform room_1 = true :=
  launch0.hasRoom_least _ room_1 (by decide +kernel) (by decide +kernel) (by decide +kernel) (by decide +kernel) (by decide +kernel) (by decide +kernel)
theorem allAtoms_all (ts : List Jvm.Cond) (a : Array Jvm.Value) (st : Jvm.State) : (allAtoms ts).before a st = ts.all (fun c => c.before a st) := by
  induction ts with
  | nil => rfl
  | cons c t ih =>
    show (Jvm.Cond.and c (allAtoms t)).before a st = _
    rw [Jvm.Cond.before_and, ih, List.all_cons]
def words1 : List Jvm.Cond := Jvm.Cond.code x code maxLocals ret :: tables_1
/-- a 'code' word, met by the world's own term for the bytes: nothing is compared byte by byte -/
theorem code_word {y : MethodName} {bytes : ByteArray} {mx : Nat} {rt : Option FieldType} {a : Array Value} {s : State} {m : MethodId} {meth : Method} {c : Code} (h1 : s.methodNamed? y = some m) (h2 : s.vm.method? m = some meth) (h3 : meth.code = some c) (h4 : c.code = bytes)
    (h5 : (c.maxLocals == mx && c.exceptionTable.isEmpty && decide (c.maxStack ≤ mostOperands) && decide (meth.sig.returnType = rt) && !meth.locks && decide (parseMethodDescriptor y.desc = some meth.sig)) = true) : (Jvm.Cond.code y bytes mx rt).before a s = true := by
  simp only [Bool.and_eq_true, beq_iff_eq, Bool.not_eq_true', decide_eq_true_eq] at h5
  obtain ⟨⟨⟨⟨⟨g1, g2⟩, g3⟩, g4⟩, g5⟩, g6⟩ := h5
  simp [Cond.before, Cond.holds, Cond.value, h1, h2, h3, h4, g1, g2, g3, g4, g5, g6]
def isCode : Jvm.Cond → Bool
  | .code _ _ _ _ => true
  | _ => false
theorem all_split {L : List Jvm.Cond} {P : Jvm.Cond → Bool} (h1 : L.all (fun c => isCode c || P c) = true) (h2 : ∀ c ∈ L.filter isCode, P c = true) : L.all P = true := by
  refine List.all_eq_true.mpr fun c hc => ?_
  have h := List.all_eq_true.mp h1 c hc
  rcases Bool.eq_false_or_eq_true (isCode c) with hi | hi
  · exact h2 c (List.mem_filter.mpr ⟨hc, hi⟩)
  · simpa [hi] using h
set_option maxRecDepth 65536 in
theorem w_c0 : (Jvm.Cond.code x code maxLocals ret).before args0 about1 = true := code_word (m := ⟨1, 1⟩) (meth := k1m1) (c := k1c1) (by decide +kernel) rfl rfl rfl (by decide +kernel)
set_option maxRecDepth 65536 in
theorem w_c1 : (Jvm.Cond.code ({ cls := "com/example/restate/restate/Address$Kind", name := "word", desc := "()Ljava/lang/String;" } : Jvm.MethodName) prog_5_method_4_code (1 : Nat) (Option.some (Jvm.ClassFile.FieldType.object "java/lang/String"))).before args0 about1 = true := code_word (m := ⟨6, 0⟩) (meth := k6m0) (c := k6c0) (by decide +kernel) rfl rfl rfl (by decide +kernel)
set_option maxRecDepth 65536 in
theorem w_c2 : (Jvm.Cond.code ({ cls := "java/lang/String", name := "equals", desc := "(Ljava/lang/Object;)Z" } : Jvm.MethodName) jdk_42_method_66_code (3 : Nat) (Option.some Jvm.ClassFile.FieldType.boolean)).before args0 about1 = true := code_word (m := ⟨9, 1⟩) (meth := k9m1) (c := k9c1) (by decide +kernel) rfl rfl rfl (by decide +kernel)
set_option maxRecDepth 65536 in
theorem w_c3 : (Jvm.Cond.code ({ cls := "java/lang/StringLatin1", name := "equals", desc := "([B[B)Z" } : Jvm.MethodName) jdk_43_method_13_code (3 : Nat) (Option.some Jvm.ClassFile.FieldType.boolean)).before args0 about1 = true := code_word (m := ⟨10, 1⟩) (meth := k10m1) (c := k10c1) (by decide +kernel) rfl rfl rfl (by decide +kernel)
set_option maxRecDepth 65536 in
theorem w_c4 : (Jvm.Cond.code ({ cls := "com/example/restate/restate/Address$Kind", name := "isAttachment", desc := "()Z" } : Jvm.MethodName) prog_5_method_5_code (1 : Nat) (Option.some Jvm.ClassFile.FieldType.boolean)).before args0 about1 = true := code_word (m := ⟨6, 1⟩) (meth := k6m1) (c := k6c1) (by decide +kernel) rfl rfl rfl (by decide +kernel)
def codes1 : List Jvm.Cond := [Jvm.Cond.code x code maxLocals ret, Jvm.Cond.code ({ cls := "com/example/restate/restate/Address$Kind", name := "word", desc := "()Ljava/lang/String;" } : Jvm.MethodName) prog_5_method_4_code (1 : Nat) (Option.some (Jvm.ClassFile.FieldType.object "java/lang/String")), Jvm.Cond.code ({ cls := "java/lang/String", name := "equals", desc := "(Ljava/lang/Object;)Z" } : Jvm.MethodName) jdk_42_method_66_code (3 : Nat) (Option.some Jvm.ClassFile.FieldType.boolean), Jvm.Cond.code ({ cls := "java/lang/StringLatin1", name := "equals", desc := "([B[B)Z" } : Jvm.MethodName) jdk_43_method_13_code (3 : Nat) (Option.some Jvm.ClassFile.FieldType.boolean), Jvm.Cond.code ({ cls := "com/example/restate/restate/Address$Kind", name := "isAttachment", desc := "()Z" } : Jvm.MethodName) prog_5_method_5_code (1 : Nat) (Option.some Jvm.ClassFile.FieldType.boolean)]
set_option maxRecDepth 65536 in
theorem codes_eq : words1.filter isCode = codes1 := rfl
theorem w_codes : ∀ c ∈ words1.filter isCode, c.before args0 about1 = true := by
  rw [codes_eq]
  intro c hc
  simp only [codes1, List.mem_cons, List.not_mem_nil, or_false] at hc
  rcases hc with rfl | rfl | rfl | rfl | rfl
  · exact w_c0
  · exact w_c1
  · exact w_c2
  · exact w_c3
  · exact w_c4
set_option maxRecDepth 65536 in
theorem w_t1 : (words1.take 24).all (fun c => isCode c || c.before args0 about1) = true := by decide +kernel
set_option maxRecDepth 65536 in
theorem w_t2 : ((words1.drop 24).take 24).all (fun c => isCode c || c.before args0 about1) = true := by decide +kernel
set_option maxRecDepth 65536 in
theorem w_t3 : ((words1.drop 24).drop 24).all (fun c => isCode c || c.before args0 about1) = true := by decide +kernel
theorem w_tables : (allAtoms (Jvm.Cond.code x code maxLocals ret :: tables_1)).before args0 about1 = true := by
  rw [allAtoms_all]
  show words1.all (fun c => c.before args0 about1) = true
  refine all_split ?_ w_codes
  rw [← List.take_append_drop 24 words1, List.all_append, w_t1, ← List.take_append_drop 24 (words1.drop 24), List.all_append, w_t2, w_t3]
  rfl
set_option maxRecDepth 65536 in
theorem w_rest : rest_1_c.before args0 about1 = true := by decide +kernel
set_option maxRecDepth 65536 in
theorem w_case : (Jvm.Cond.and given_1 narrow_1).before args0 about1 = true := by decide +kernel
set_option maxRecDepth 65536 in
theorem w_consts : constsHeld consts_1 about1 := Jvm.Lit.constsHeldB_iff.mp (by decide +kernel)
theorem w_applies : (headSpec (Jvm.Cond.code x code maxLocals ret :: tables_1) room_1).applies x e0.platform about1 = true :=
  (Spec.applies_iff w_frames).mpr ⟨w_running, w_runnable, w_alone, w_named, w_hears, w_ripe, w_room, w_tables⟩
theorem atStart : AtStart classFile x code maxLocals ret World_1 tables_1 room_1 Calls_1 rest_1 Pre_1 launch0 p0 e0 about1 theMethod args0 below0 :=
  ⟨lists_1, trivial, launch0.admits_env _ _ _, launch0.least_env, fairChoices_fair.cas, fairChoices_fair.clock, w_frames, w_args, w_heap, w_applies, ⟨w_consts, trivial⟩, w_rest, w_case⟩
end start1
theorem witness_1 : WitnessClaimed_1 := ⟨start1.p0, start1.e0, start1.about1, start1.theMethod, start1.args0, start1.below0, start1.atStart⟩
end Jvm.Pilot.@@N@@
