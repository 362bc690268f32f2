import JvmDerived
import JvmDerived.Pilot.@@N@@Statement
import JvmDerived.Pilot.@@N@@Code
set_option linter.unusedVariables false
set_option linter.unusedSimpArgs false
namespace Jvm.RoadKit
open Sem ClassFile Op Lib Jvm.Stand Jvm.Free Jvm.LawKit
section New
variable {p : Program} {l : Launch} {e : Env} {R : Room} {s : State} {m : MethodId} {args : Array Value} {below : List Frame} {meth : Method} {c : Code} {T : State} {locs : List Loc} {cells slots : Nat}
theorem retI (X : Stand p l e R s m args below meth c T locs cells slots) (hx : p.tables.exec = Jvm.exec) {pc : Nat} {Ls : Array Slot} {z : Int32} {rest : List Value} (hret : meth.sig.returnType = some .int) (hd : decode c.code pc = .ok (.ireturn, 1)) {fs : List Frame}
    (hl : ∀ (f : JFrame) (acts : List Action), f.method = m → f.locked = none → f.entered = [] → (doReturn e (T.setTop f) acts (some (.int z))).1 = T.setFrames fs) : Steps p.tables e below (T.setTop (mkF m pc Ls (.int z :: rest))) (T.setFrames fs) := by
  have hm' : T.vm.method? m = some meth := X.method'
  have hn : narrow .int (.int z) = .int z := rfl
  show Steps p.tables e below (T.setTop { method := m, pc := pc, locals := Ls, stack := _ :: rest, locked := none }) _
  jvm_step X.here [X.here.top, hx, hd, hm', hret, hn]
  first | (intro acts; rw [hl _ acts rfl rfl rfl]) | rw [hl _ _ rfl rfl rfl]
  exact Steps.refl _
end New
end Jvm.RoadKit
namespace Jvm.Pilot.@@N@@
open Jvm Jvm.ClassFile Sem Op Lib Jvm.Free Jvm.Stand Jvm.LawKit Jvm.RoadKit Bundle Jvm.Pilot.@@N@@.Jvm.D

abbrev own_EL : List (String × Nat) := [("java/lang/String", 7)]
theorem own_safe {Z : State} {EL : List (String × Nat)} {vm : Vm} {h : Heap} {x : Addr} (hal : Z.vm.Alike vm) (E : Exa Z h x "java/lang/String") (Fn : Fld Z h x "java/lang/String" "value" "[B" .null) : Safe Z EL vm h x := fun B => by
  obtain ⟨p, -, u, a, -, q, -, F, rfl | rfl⟩ := B
  · obtain ⟨cS, ⟨⟨s1, s2, s3, ⟨cv, kv, iv, s4, s4'⟩, ⟨cc, kc, ic, s5, s5'⟩, s6, s7, s8, s9, sr⟩, hfS, hcS⟩, -⟩ := F
    obtain ⟨kv', z4⟩ := ff_back (U := Wst Z vm h) hal s4
    have F2 : Fld Z h q.sa "java/lang/String" "value" "[B" (.ref q.sd) := ⟨q.sC, cv, kv', iv, q.fSV, s1, z4, s6, s2, s3, by rw [← hal.assignable]; exact s4', s8⟩
    exact Fld.ne Fn F2 (fun e => nomatch e) rfl
  · obtain ⟨cell, k, e1, e2, e3, -, -⟩ := E
    cases (show h[q.sd]? = some q.SA from F.hd).symm.trans e1
    obtain ⟨cS, -, -, f, -⟩ := F
    have f' : vm.findClass "[B" = some q.SA.cls := f
    rw [hal.findClass] at f'
    obtain ⟨k1, q1, q2⟩ := Vm.findClass_spec f'
    obtain ⟨k2, q3, q4⟩ := Vm.findClass_spec e2
    cases q1.symm.trans q3
    have q5 := q2.symm.trans q4
    exact absurd q5 (by decide)
def own_y (y : Int32) : Prop := 0 ≤ y.toInt ∧ y.toInt ≤ 255
theorem own_l255 : (255 : Int32).toInt = 255 := by decide
theorem own_dgc (x n : Int32) : own_y (((((48 : Int32) + ((((x.toUInt32 >>> (((5 : Int32) * n) &&& 31).toUInt32).toInt32) &&& (31 : Int32)) % (10 : Int32))).toUInt32.toUInt16.toUInt32.toInt32)).toUInt32.toUInt16.toUInt32.toInt32) := by
  have a := c_mask ((x.toUInt32 >>> (((5 : Int32) * n) &&& 31).toUInt32).toInt32) 31 5 (by decide) (by decide)
  have b := (c_irem ((((x.toUInt32 >>> (((5 : Int32) * n) &&& 31).toUInt32).toInt32) &&& (31 : Int32))) 10 10 (by decide)).1 (by omega)
  have d := c_iadd 48 ((((x.toUInt32 >>> (((5 : Int32) * n) &&& 31).toUInt32).toInt32) &&& (31 : Int32)) % (10 : Int32))
  have r := rng32 ((48 : Int32) + ((((x.toUInt32 >>> (((5 : Int32) * n) &&& 31).toUInt32).toInt32) &&& (31 : Int32)) % (10 : Int32)))
  have e1 := c_i2c ((48 : Int32) + ((((x.toUInt32 >>> (((5 : Int32) * n) &&& 31).toUInt32).toInt32) &&& (31 : Int32)) % (10 : Int32)))
  have e2 := c_i2c (((48 : Int32) + ((((x.toUInt32 >>> (((5 : Int32) * n) &&& 31).toUInt32).toInt32) &&& (31 : Int32)) % (10 : Int32))).toUInt32.toUInt16.toUInt32.toInt32)
  have z : (48 : Int32).toInt = 48 := by decide
  unfold own_y
  rw [z] at d; omega
theorem own_yc {y : Int32} (h : own_y y) : (y.toUInt32.toUInt16.toUInt32.toInt32) = y := by
  apply Int32.toInt_inj.mp; have := c_i2c y; unfold own_y at h; omega
theorem own_gt {y : Int32} (h : own_y y) : ¬ (255 : Int32) < y := by unfold own_y at h; rw [Int32.lt_iff_toInt_lt, own_l255]; omega
theorem own_y57 : own_y (57 : Int32) := by unfold own_y; decide
theorem own_y48 : own_y (48 : Int32) := by unfold own_y; decide
theorem own_sh0 (n : Int32) : (n >>> ((0 : Int32) &&& 31)) = n := by
  apply Int32.toInt_inj.mp
  have a := c_ishr n 0 0 (by decide)
  omega
theorem own_d1 (p : Int32) : ((1 : Int32) + ((p &&& (2147483647 : Int32)) % (5 : Int32))) = (1 : Int32) ∨ ((1 : Int32) + ((p &&& (2147483647 : Int32)) % (5 : Int32))) = (2 : Int32) ∨ ((1 : Int32) + ((p &&& (2147483647 : Int32)) % (5 : Int32))) = (3 : Int32) ∨ ((1 : Int32) + ((p &&& (2147483647 : Int32)) % (5 : Int32))) = (4 : Int32) ∨ ((1 : Int32) + ((p &&& (2147483647 : Int32)) % (5 : Int32))) = (5 : Int32) := by
  have a := c_mask p 2147483647 31 (by decide) (by decide)
  have b := (c_irem (p &&& 2147483647) 5 5 (by decide)).1 (by omega)
  have d := c_iadd 1 ((p &&& (2147483647 : Int32)) % (5 : Int32))
  have r := rng32 ((1 : Int32) + ((p &&& (2147483647 : Int32)) % (5 : Int32)))
  simp only [← Int32.toInt_inj, show (1 : Int32).toInt = 1 from by decide, show (2 : Int32).toInt = 2 from by decide, show (3 : Int32).toInt = 3 from by decide, show (4 : Int32).toInt = 4 from by decide, show (5 : Int32).toInt = 5 from by decide] at d ⊢
  omega
theorem own_d0 (p : Int32) (h : ¬ ((p &&& (2147483647 : Int32)) % (6 : Int32)) = (0 : Int32)) : ((p &&& (2147483647 : Int32)) % (6 : Int32)) = (1 : Int32) ∨ ((p &&& (2147483647 : Int32)) % (6 : Int32)) = (2 : Int32) ∨ ((p &&& (2147483647 : Int32)) % (6 : Int32)) = (3 : Int32) ∨ ((p &&& (2147483647 : Int32)) % (6 : Int32)) = (4 : Int32) ∨ ((p &&& (2147483647 : Int32)) % (6 : Int32)) = (5 : Int32) := by
  have a := c_mask p 2147483647 31 (by decide) (by decide)
  have b := (c_irem (p &&& 2147483647) 6 6 (by decide)).1 (by omega)
  simp only [← Int32.toInt_inj, show (0 : Int32).toInt = 0 from by decide, show (1 : Int32).toInt = 1 from by decide, show (2 : Int32).toInt = 2 from by decide, show (3 : Int32).toInt = 3 from by decide, show (4 : Int32).toInt = 4 from by decide, show (5 : Int32).toInt = 5 from by decide] at h ⊢
  omega
theorem own_w3 (p : Int32) : ((1 : Int32) + ((p &&& (2147483647 : Int32)) % (3 : Int32))) = (1 : Int32) ∨ ((1 : Int32) + ((p &&& (2147483647 : Int32)) % (3 : Int32))) = (2 : Int32) ∨ ((1 : Int32) + ((p &&& (2147483647 : Int32)) % (3 : Int32))) = (3 : Int32) := by
  have a := c_mask p 2147483647 31 (by decide) (by decide)
  have b := (c_irem (p &&& 2147483647) 3 3 (by decide)).1 (by omega)
  have d := c_iadd 1 ((p &&& (2147483647 : Int32)) % (3 : Int32))
  have r := rng32 ((1 : Int32) + ((p &&& (2147483647 : Int32)) % (3 : Int32)))
  simp only [← Int32.toInt_inj, show (1 : Int32).toInt = 1 from by decide, show (2 : Int32).toInt = 2 from by decide, show (3 : Int32).toInt = 3 from by decide] at d ⊢
  omega
theorem own_is3 {x : Int32} (h : x = (1 : Int32) ∨ x = (2 : Int32) ∨ x = (3 : Int32)) : x = (1 : Int32) ∨ x = (2 : Int32) ∨ x = (3 : Int32) ∨ x = (4 : Int32) ∨ x = (5 : Int32) := by
  rcases h with h | h | h
  · exact Or.inl h
  · exact Or.inr (Or.inl h)
  · exact Or.inr (Or.inr (Or.inl h))
theorem own_nz3 {x : Int32} (h : x = (1 : Int32) ∨ x = (2 : Int32) ∨ x = (3 : Int32)) : ¬ x = (0 : Int32) := by rcases h with rfl | rfl | rfl <;> decide
theorem own_EW {a0 : Array Value} {Z : State} (hw : ∀ d ∈ tables_1, d.before a0 Z = true) : EW Z a0 own_EL := EW.cons (hw _ (List.mem_of_getElem? (i := 19) rfl)) (by decide) EW.nil
theorem own_wS {a0 : Array Value} {Z : State} (hw : ∀ d ∈ tables_1, d.before a0 Z = true) : ∀ a ∈ Bundle.stringAtoms, a.before a0 Z = true := by
  intro a ha'
  simp only [Bundle.stringAtoms, List.mem_cons, List.not_mem_nil, or_false] at ha'
  rcases ha' with rfl | rfl | rfl | rfl | rfl | rfl | rfl
  · exact (hw _ (List.mem_of_getElem? (i := 7) rfl))
  · exact (hw _ (List.mem_of_getElem? (i := 6) rfl))
  · exact (hw _ (List.mem_of_getElem? (i := 20) rfl))
  · exact (hw _ (List.mem_of_getElem? (i := 21) rfl))
  · exact (hw _ (List.mem_of_getElem? (i := 22) rfl))
  · exact (hw _ (List.mem_of_getElem? (i := 23) rfl))
  · exact (hw _ (List.mem_of_getElem? (i := 24) rfl))
def own_st (Z : State) : Prop := ∃ cs : Int32, Sta Z Z.heap "java/lang/String" "COMPACT_STRINGS" "Z" (.int cs) ∧ ¬ cs = (0 : Int32)
def own_s (Z : State) (h : Heap) (a : Addr) (n : Int32) : Prop := ∃ (va : Addr) (kv : ClassId) (vs : List Value), Fld Z h a "java/lang/String" "coder" "B" (.int (0 : Int32)) ∧ Fld Z h a "java/lang/String" "value" "[B" (.ref va) ∧ Arv Z h va kv .byte n vs (.int (0 : Int32))
theorem pn_5 : plainName "com/example/ringfence/ringfence/NumberPatternRankPinLaw" = true := by first | (simp [plainName, overriddenIn]; done) | decide +kernel
theorem ef_5_I_I (m : MethodId) (x0 : Int32) (x1 : Int32) : entryFrame m #[(.int x0), (.int x1)] 2 = mkF m 0 #[.val (.int x0), .val (.int x1)] [] := by first | (simp [entryFrame, mkF, argsToLocals, Value.category]; done) | rfl
theorem d5_0 : decode method_3_code 0 = .ok (.bipush 48, 2) := by decide +kernel
theorem d5_2 : decode method_3_code 2 = .ok (.iload_n 0, 1) := by decide +kernel
theorem d5_3 : decode method_3_code 3 = .ok (.iconst 5, 1) := by decide +kernel
theorem d5_4 : decode method_3_code 4 = .ok (.iload_n 1, 1) := by decide +kernel
theorem d5_5 : decode method_3_code 5 = .ok (.imul, 1) := by decide +kernel
theorem d5_6 : decode method_3_code 6 = .ok (.iushr, 1) := by decide +kernel
theorem d5_7 : decode method_3_code 7 = .ok (.bipush 31, 2) := by decide +kernel
theorem d5_9 : decode method_3_code 9 = .ok (.iand, 1) := by decide +kernel
theorem d5_10 : decode method_3_code 10 = .ok (.bipush 10, 2) := by decide +kernel
theorem d5_12 : decode method_3_code 12 = .ok (.irem, 1) := by decide +kernel
theorem d5_13 : decode method_3_code 13 = .ok (.iadd, 1) := by decide +kernel
theorem d5_14 : decode method_3_code 14 = .ok (.i2c, 1) := by decide +kernel
theorem d5_15 : decode method_3_code 15 = .ok (.ireturn, 1) := by decide +kernel
def Q_rm5 (Z : State) (p0 p1 : Int32) (h0 : Heap) (n0 : Nat) (v : Option Value) (h : Heap) (L : List Loc) : Prop := ∃ y : Int32, v = some (.int y) ∧ own_y y ∧ Fr n0 L ∧ h = h0
set_option maxRecDepth 65536 in
set_option maxHeartbeats 40000000 in
theorem rm5 (l : Launch) (Z : State) (a0 : Array Value) (hw : ∀ d ∈ tables_1, d.before a0 Z = true) (ws : List Jvm.Cond) (p0 p1 : Int32) (h0 : Heap) (n0 : Nat) (Z0 : n0 ≤ h0.size)  :
    MetFree l (⟨"com/example/ringfence/ringfence/NumberPatternRankPinLaw", "dg", "(II)C"⟩ : MethodName) (head1 (Jvm.Cond.code (⟨"com/example/ringfence/ringfence/NumberPatternRankPinLaw", "dg", "(II)C"⟩ : MethodName) method_3_code 2 (some .char) :: ws) ({ frames := 0, cells := 0, slots := 0, locals := 0 } : Room)) (fun argv U => argv = #[(.int p0), (.int p1)] ∧ Z.Warmed39 U.vm ∧ U.heap = h0) (fun _ _ _ _ _ => True) (fun _ U o U' => ∃ v L, o = .returned v ∧ Q_rm5 Z p0 p1 h0 n0 v U'.heap L ∧ FrameEnd U o U' L ({ frames := 0, cells := 0, slots := 0, locals := 0 } : Room).cells ({ frames := 0, cells := 0, slots := 0, locals := 0 } : Room).slots) := by
  refine MetFree.of_bodySF (plainFor_of_name pn_5) hisR ?_
  intro p e s m args below meth c s₁ Bd hml0 hP hK
  obtain ⟨rfl, hZ, hh⟩ := hP
  have hx := Bd.exec
  have hby := Bd.bytes
  have hml : c.maxLocals = 2 := hml0
  have hown : s.vm.findClass "com/example/ringfence/ringfence/NumberPatternRankPinLaw" = some m.cls := findClass_of_methodNamed Bd.named
  have hnm := (name_of_methodNamed Bd.named Bd.method).1
  have X0 : Stand p l e ({ frames := 0, cells := 0, slots := 0, locals := 0 } : Room) s m #[(.int p0), (.int p1)] below meth c s₁ [] 0 0 := Stand.of_body Bd
  have e0 : s₁.heap = h0 := by rw [← hh, Bd.state]; rfl
  have N0 := Fr.nil n0
  obtain ⟨G, hG⟩ : ∃ G : State → Prop, G = fun tg => Steps p.tables e below (s₁.setTop (entryFrame m #[(.int p0), (.int p1)] 2)) tg := ⟨_, rfl⟩
  have pre0 : ∀ tg, Steps p.tables e below (s₁.setTop (mkF m 0 #[.val (.int p0), .val (.int p1)] [])) tg → G tg := fun tg kt => by rw [hG]; exact castTop (ef_5_I_I m p0 p1) kt
  obtain ⟨fs, hr, hrun, hended, hW, hsame⟩ := X0.leave (v := some (.int ((((48 : Int32) + ((((p0.toUInt32 >>> (((5 : Int32) * p1) &&& 31).toUInt32).toInt32) &&& (31 : Int32)) % (10 : Int32))).toUInt32.toUInt16.toUInt32.toInt32).toUInt32.toUInt16.toUInt32.toInt32))) (fun h => by rw [Bd.returns] at h; cases h)
  subst hG
  refine ⟨_, _, pre0 _ ?_, hrun, hended, _, _, rfl, ?_, ⟨_, rfl⟩, hW, hsame.mono (by decide) (by decide)⟩
  · skip
    show Steps p.tables e below (s₁.setTop (mkF m 0 #[.val (.int p0), .val (.int p1)] [])) _
    refine XS.bipush X0.here hx rfl (hb hby d5_0) ?_
    show Steps p.tables e below (s₁.setTop (mkF m 2 #[.val (.int p0), .val (.int p1)] [(.int (48 : Int32))])) _
    refine XS.iloadN X0.here hx rfl (hb hby d5_2) rfl ?_
    show Steps p.tables e below (s₁.setTop (mkF m 3 #[.val (.int p0), .val (.int p1)] [(.int p0), (.int (48 : Int32))])) _
    refine XS.iconst X0.here hx rfl (hb hby d5_3) ?_
    show Steps p.tables e below (s₁.setTop (mkF m 4 #[.val (.int p0), .val (.int p1)] [(.int (5 : Int32)), (.int p0), (.int (48 : Int32))])) _
    refine XS.iloadN X0.here hx rfl (hb hby d5_4) rfl ?_
    show Steps p.tables e below (s₁.setTop (mkF m 5 #[.val (.int p0), .val (.int p1)] [(.int p1), (.int (5 : Int32)), (.int p0), (.int (48 : Int32))])) _
    refine XS.imul X0.here hx rfl (hb hby d5_5) rfl ?_
    show Steps p.tables e below (s₁.setTop (mkF m 6 #[.val (.int p0), .val (.int p1)] [(.int ((5 : Int32) * p1)), (.int p0), (.int (48 : Int32))])) _
    refine XS.iushr X0.here hx rfl (hb hby d5_6) rfl ?_
    show Steps p.tables e below (s₁.setTop (mkF m 7 #[.val (.int p0), .val (.int p1)] [(.int ((p0.toUInt32 >>> (((5 : Int32) * p1) &&& 31).toUInt32).toInt32)), (.int (48 : Int32))])) _
    refine XS.bipush X0.here hx rfl (hb hby d5_7) ?_
    show Steps p.tables e below (s₁.setTop (mkF m 9 #[.val (.int p0), .val (.int p1)] [(.int (31 : Int32)), (.int ((p0.toUInt32 >>> (((5 : Int32) * p1) &&& 31).toUInt32).toInt32)), (.int (48 : Int32))])) _
    refine XS.iand X0.here hx rfl (hb hby d5_9) rfl ?_
    show Steps p.tables e below (s₁.setTop (mkF m 10 #[.val (.int p0), .val (.int p1)] [(.int (((p0.toUInt32 >>> (((5 : Int32) * p1) &&& 31).toUInt32).toInt32) &&& (31 : Int32))), (.int (48 : Int32))])) _
    refine XS.bipush X0.here hx rfl (hb hby d5_10) ?_
    show Steps p.tables e below (s₁.setTop (mkF m 12 #[.val (.int p0), .val (.int p1)] [(.int (10 : Int32)), (.int (((p0.toUInt32 >>> (((5 : Int32) * p1) &&& 31).toUInt32).toInt32) &&& (31 : Int32))), (.int (48 : Int32))])) _
    refine iremM X0 hx rfl (hb hby d5_12) rfl (by decide) ?_
    show Steps p.tables e below (s₁.setTop (mkF m 13 #[.val (.int p0), .val (.int p1)] [(.int ((((p0.toUInt32 >>> (((5 : Int32) * p1) &&& 31).toUInt32).toInt32) &&& (31 : Int32)) % (10 : Int32))), (.int (48 : Int32))])) _
    refine XS.iadd X0.here hx rfl (hb hby d5_13) rfl ?_
    show Steps p.tables e below (s₁.setTop (mkF m 14 #[.val (.int p0), .val (.int p1)] [(.int ((48 : Int32) + ((((p0.toUInt32 >>> (((5 : Int32) * p1) &&& 31).toUInt32).toInt32) &&& (31 : Int32)) % (10 : Int32))))])) _
    refine XS.i2c X0.here hx rfl (hb hby d5_14) rfl ?_
    show Steps p.tables e below (s₁.setTop (mkF m 15 #[.val (.int p0), .val (.int p1)] [(.int (((48 : Int32) + ((((p0.toUInt32 >>> (((5 : Int32) * p1) &&& 31).toUInt32).toInt32) &&& (31 : Int32)) % (10 : Int32))).toUInt32.toUInt16.toUInt32.toInt32))])) _
    exact retN X0 hx (t := .char) Bd.returns (by simp) (hb hby d5_15) hr
  · show Q_rm5 Z p0 p1 h0 n0 _ s₁.heap _
    rw [e0]
    exact ⟨_, rfl, own_dgc _ _, N0, rfl⟩
theorem pn_7 : plainName "java/lang/StringUTF16" = true := by first | (simp [plainName, overriddenIn]; done) | decide +kernel
theorem ef_7_R_I_R_I_I (m : MethodId) (x0 : Addr) (x1 : Int32) (x2 : Addr) (x3 : Int32) (x4 : Int32) : entryFrame m #[(.ref x0), (.int x1), (.ref x2), (.int x3), (.int x4)] 7 = mkF m 0 #[.val (.ref x0), .val (.int x1), .val (.ref x2), .val (.int x3), .val (.int x4), .unset, .unset] [] := by first | (simp [entryFrame, mkF, argsToLocals, Value.category]; done) | rfl
theorem d7_0 : decode jdk_52_method_21_code 0 = .ok (.iconst 0, 1) := by decide +kernel
theorem d7_1 : decode jdk_52_method_21_code 1 = .ok (.istore 5, 2) := by decide +kernel
theorem d7_3 : decode jdk_52_method_21_code 3 = .ok (.iload 5, 2) := by decide +kernel
theorem d7_5 : decode jdk_52_method_21_code 5 = .ok (.iload 4, 2) := by decide +kernel
theorem d7_7 : decode jdk_52_method_21_code 7 = .ok (.if_icmp .ge 37, 3) := by decide +kernel
theorem d7_10 : decode jdk_52_method_21_code 10 = .ok (.aload_n 0, 1) := by decide +kernel
theorem d7_11 : decode jdk_52_method_21_code 11 = .ok (.iload_n 1, 1) := by decide +kernel
theorem d7_12 : decode jdk_52_method_21_code 12 = .ok (.caload, 1) := by decide +kernel
theorem d7_13 : decode jdk_52_method_21_code 13 = .ok (.istore 6, 2) := by decide +kernel
theorem d7_15 : decode jdk_52_method_21_code 15 = .ok (.iload 6, 2) := by decide +kernel
theorem d7_17 : decode jdk_52_method_21_code 17 = .ok (.sipush 255, 3) := by decide +kernel
theorem d7_20 : decode jdk_52_method_21_code 20 = .ok (.if_icmp .le 6, 3) := by decide +kernel
theorem d7_26 : decode jdk_52_method_21_code 26 = .ok (.aload_n 2, 1) := by decide +kernel
theorem d7_27 : decode jdk_52_method_21_code 27 = .ok (.iload_n 3, 1) := by decide +kernel
theorem d7_28 : decode jdk_52_method_21_code 28 = .ok (.iload 6, 2) := by decide +kernel
theorem d7_30 : decode jdk_52_method_21_code 30 = .ok (.i2b, 1) := by decide +kernel
theorem d7_31 : decode jdk_52_method_21_code 31 = .ok (.bastore, 1) := by decide +kernel
theorem d7_32 : decode jdk_52_method_21_code 32 = .ok (.iinc 1 1, 3) := by decide +kernel
theorem d7_35 : decode jdk_52_method_21_code 35 = .ok (.iinc 3 1, 3) := by decide +kernel
theorem d7_38 : decode jdk_52_method_21_code 38 = .ok (.iinc 5 1, 3) := by decide +kernel
theorem d7_41 : decode jdk_52_method_21_code 41 = .ok (.goto (-38), 3) := by decide +kernel
theorem d7_44 : decode jdk_52_method_21_code 44 = .ok (.iload 4, 2) := by decide +kernel
theorem d7_46 : decode jdk_52_method_21_code 46 = .ok (.ireturn, 1) := by decide +kernel
def Q_rmC_1 (Z : State) (ca va : Addr) (kc kv : ClassId) (y0 : Int32) (h0 : Heap) (n0 : Nat) (v : Option Value) (h : Heap) (L : List Loc) : Prop := v = some (.int (1 : Int32)) ∧ Fr n0 L ∧ Keep h0 h [va] ∧ Arv Z h va kv .byte (1 : Int32) [(.int (y0.toInt8.toInt32.toInt8.toInt32))] (.int (0 : Int32))
set_option maxRecDepth 65536 in
set_option maxHeartbeats 40000000 in
theorem rmC_1 (l : Launch) (Z : State) (a0 : Array Value) (hw : ∀ d ∈ tables_1, d.before a0 Z = true) (ws : List Jvm.Cond) (ca va : Addr) (kc kv : ClassId) (y0 : Int32) (h0 : Heap) (n0 : Nat) (Z0 : n0 ≤ h0.size) (V_c : Arv Z h0 ca kc .char (1 : Int32) [(.int y0)] (.int (0 : Int32))) (V_v : Arv Z h0 va kv .byte (1 : Int32) [(.int (0 : Int32))] (.int (0 : Int32))) (O_va : n0 ≤ va) (ne_c_v : ca ≠ va) (hy0 : own_y y0) :
    MetFree l (⟨"java/lang/StringUTF16", "compress", "([CI[BII)I"⟩ : MethodName) (head1 (Jvm.Cond.code (⟨"java/lang/StringUTF16", "compress", "([CI[BII)I"⟩ : MethodName) jdk_52_method_21_code 7 (some .int) :: ws) ({ frames := 0, cells := 0, slots := 0, locals := 0 } : Room)) (fun argv U => argv = #[(.ref ca), (.int (0 : Int32)), (.ref va), (.int (0 : Int32)), (.int (1 : Int32))] ∧ Z.Warmed39 U.vm ∧ U.heap = h0) (fun _ _ _ _ _ => True) (fun _ U o U' => ∃ v L, o = .returned v ∧ Q_rmC_1 Z ca va kc kv y0 h0 n0 v U'.heap L ∧ FrameEnd U o U' L ({ frames := 0, cells := 0, slots := 0, locals := 0 } : Room).cells ({ frames := 0, cells := 0, slots := 0, locals := 0 } : Room).slots) := by
  refine MetFree.of_bodySF (plainFor_of_name pn_7) hisR ?_
  intro p e s m args below meth c s₁ Bd hml0 hP hK
  obtain ⟨rfl, hZ, hh⟩ := hP
  have hx := Bd.exec
  have hby := Bd.bytes
  have hml : c.maxLocals = 7 := hml0
  have hown : s.vm.findClass "java/lang/StringUTF16" = some m.cls := findClass_of_methodNamed Bd.named
  have hnm := (name_of_methodNamed Bd.named Bd.method).1
  have X0 : Stand p l e ({ frames := 0, cells := 0, slots := 0, locals := 0 } : Room) s m #[(.ref ca), (.int (0 : Int32)), (.ref va), (.int (0 : Int32)), (.int (1 : Int32))] below meth c s₁ [] 0 0 := Stand.of_body Bd
  have e0 : s₁.heap = h0 := by rw [← hh, Bd.state]; rfl
  have N0 := Fr.nil n0
  obtain ⟨G, hG⟩ : ∃ G : State → Prop, G = fun tg => Steps p.tables e below (s₁.setTop (entryFrame m #[(.ref ca), (.int (0 : Int32)), (.ref va), (.int (0 : Int32)), (.int (1 : Int32))] 7)) tg := ⟨_, rfl⟩
  have pre0 : ∀ tg, Steps p.tables e below (s₁.setTop (mkF m 0 #[.val (.ref ca), .val (.int (0 : Int32)), .val (.ref va), .val (.int (0 : Int32)), .val (.int (1 : Int32)), .unset, .unset] [])) tg → G tg := fun tg kt => by rw [hG]; exact castTop (ef_7_R_I_R_I_I m ca (0 : Int32) va (0 : Int32) (1 : Int32)) kt
  have pre1 : ∀ tg, Steps p.tables e below (s₁.setTop (mkF m 12 #[.val (.ref ca), .val (.int (0 : Int32)), .val (.ref va), .val (.int (0 : Int32)), .val (.int (1 : Int32)), .val (.int (0 : Int32)), .unset] [(.int (0 : Int32)), (.ref ca)])) tg → G tg := fun tg kt => pre0 tg (by
    show Steps p.tables e below (s₁.setTop (mkF m 0 #[.val (.ref ca), .val (.int (0 : Int32)), .val (.ref va), .val (.int (0 : Int32)), .val (.int (1 : Int32)), .unset, .unset] [])) _
    refine XS.iconst X0.here hx rfl (hb hby d7_0) ?_
    show Steps p.tables e below (s₁.setTop (mkF m 1 #[.val (.ref ca), .val (.int (0 : Int32)), .val (.ref va), .val (.int (0 : Int32)), .val (.int (1 : Int32)), .unset, .unset] [(.int (0 : Int32))])) _
    refine XS.istore X0.here hx rfl (hb hby d7_1) rfl (l' := #[.val (.ref ca), .val (.int (0 : Int32)), .val (.ref va), .val (.int (0 : Int32)), .val (.int (1 : Int32)), .val (.int (0 : Int32)), .unset]) rfl ?_
    show Steps p.tables e below (s₁.setTop (mkF m 3 #[.val (.ref ca), .val (.int (0 : Int32)), .val (.ref va), .val (.int (0 : Int32)), .val (.int (1 : Int32)), .val (.int (0 : Int32)), .unset] [])) _
    refine XS.iload X0.here hx rfl (hb hby d7_3) rfl ?_
    show Steps p.tables e below (s₁.setTop (mkF m 5 #[.val (.ref ca), .val (.int (0 : Int32)), .val (.ref va), .val (.int (0 : Int32)), .val (.int (1 : Int32)), .val (.int (0 : Int32)), .unset] [(.int (0 : Int32))])) _
    refine XS.iload X0.here hx rfl (hb hby d7_5) rfl ?_
    show Steps p.tables e below (s₁.setTop (mkF m 7 #[.val (.ref ca), .val (.int (0 : Int32)), .val (.ref va), .val (.int (0 : Int32)), .val (.int (1 : Int32)), .val (.int (0 : Int32)), .unset] [(.int (1 : Int32)), (.int (0 : Int32))])) _
    refine XS.icmpNo X0.here hx rfl (hb hby d7_7) rfl (tlt (by decide : (0 : Int32) < (1 : Int32))).2.1 ?_
    show Steps p.tables e below (s₁.setTop (mkF m 10 #[.val (.ref ca), .val (.int (0 : Int32)), .val (.ref va), .val (.int (0 : Int32)), .val (.int (1 : Int32)), .val (.int (0 : Int32)), .unset] [])) _
    refine XS.aloadN X0.here hx rfl (hb hby d7_10) rfl rfl ?_
    show Steps p.tables e below (s₁.setTop (mkF m 11 #[.val (.ref ca), .val (.int (0 : Int32)), .val (.ref va), .val (.int (0 : Int32)), .val (.int (1 : Int32)), .val (.int (0 : Int32)), .unset] [(.ref ca)])) _
    refine XS.iloadN X0.here hx rfl (hb hby d7_11) rfl ?_
    exact kt)
  have op_2 := V_c
  obtain ⟨cl_2, Ar_2, q_2, S_2, Ng_2, H_2, G_2⟩ := op_2
  have hin_2 : ¬ ((0 : Int32) < 0 ∨ cl_2.slots.size ≤ ((0 : Int32)).toNatClampNeg) := inb_of S_2 ⟨by decide, by decide⟩
  have pre3 : ∀ tg, Steps p.tables e below (s₁.setTop (mkF m 31 #[.val (.ref ca), .val (.int (0 : Int32)), .val (.ref va), .val (.int (0 : Int32)), .val (.int (1 : Int32)), .val (.int (0 : Int32)), .val (.int y0)] [(.int (y0.toInt8.toInt32)), (.int (0 : Int32)), (.ref va)])) tg → G tg := fun tg kt => pre1 tg (by
    show Steps p.tables e below (s₁.setTop (mkF m 12 #[.val (.ref ca), .val (.int (0 : Int32)), .val (.ref va), .val (.int (0 : Int32)), .val (.int (1 : Int32)), .val (.int (0 : Int32)), .unset] [(.int (0 : Int32)), (.ref ca)])) _
    refine X0.caload hx (j := (0 : Int32)) (v := (.int y0)) (by rw [e0]; exact Ar_2.1) (State.isArrayOf_alike hZ.alike Ar_2.2.1) Ar_2.2.2 hin_2 (H_2.at hin_2 rfl) (g := (mkF m 12 #[.val (.ref ca), .val (.int (0 : Int32)), .val (.ref va), .val (.int (0 : Int32)), .val (.int (1 : Int32)), .val (.int (0 : Int32)), .unset] [(.int (0 : Int32)), (.ref ca)])) rfl rfl (hb hby d7_12) _ ?_
    show Steps p.tables e below (s₁.setTop (mkF m 13 #[.val (.ref ca), .val (.int (0 : Int32)), .val (.ref va), .val (.int (0 : Int32)), .val (.int (1 : Int32)), .val (.int (0 : Int32)), .unset] [(.int y0)])) _
    refine XS.istore X0.here hx rfl (hb hby d7_13) rfl (l' := #[.val (.ref ca), .val (.int (0 : Int32)), .val (.ref va), .val (.int (0 : Int32)), .val (.int (1 : Int32)), .val (.int (0 : Int32)), .val (.int y0)]) rfl ?_
    show Steps p.tables e below (s₁.setTop (mkF m 15 #[.val (.ref ca), .val (.int (0 : Int32)), .val (.ref va), .val (.int (0 : Int32)), .val (.int (1 : Int32)), .val (.int (0 : Int32)), .val (.int y0)] [])) _
    refine XS.iload X0.here hx rfl (hb hby d7_15) rfl ?_
    show Steps p.tables e below (s₁.setTop (mkF m 17 #[.val (.ref ca), .val (.int (0 : Int32)), .val (.ref va), .val (.int (0 : Int32)), .val (.int (1 : Int32)), .val (.int (0 : Int32)), .val (.int y0)] [(.int y0)])) _
    refine XS.sipush X0.here hx rfl (hb hby d7_17) ?_
    show Steps p.tables e below (s₁.setTop (mkF m 20 #[.val (.ref ca), .val (.int (0 : Int32)), .val (.ref va), .val (.int (0 : Int32)), .val (.int (1 : Int32)), .val (.int (0 : Int32)), .val (.int y0)] [(.int (255 : Int32)), (.int y0)])) _
    refine XS.icmpYes X0.here hx rfl (pc0 := 20) (pc' := 26) rfl (hb hby d7_20) rfl (flt (own_gt hy0)).2.2.2 (by decide) (by decide) ?_
    show Steps p.tables e below (s₁.setTop (mkF m 26 #[.val (.ref ca), .val (.int (0 : Int32)), .val (.ref va), .val (.int (0 : Int32)), .val (.int (1 : Int32)), .val (.int (0 : Int32)), .val (.int y0)] [])) _
    refine XS.aloadN X0.here hx rfl (hb hby d7_26) rfl rfl ?_
    show Steps p.tables e below (s₁.setTop (mkF m 27 #[.val (.ref ca), .val (.int (0 : Int32)), .val (.ref va), .val (.int (0 : Int32)), .val (.int (1 : Int32)), .val (.int (0 : Int32)), .val (.int y0)] [(.ref va)])) _
    refine XS.iloadN X0.here hx rfl (hb hby d7_27) rfl ?_
    show Steps p.tables e below (s₁.setTop (mkF m 28 #[.val (.ref ca), .val (.int (0 : Int32)), .val (.ref va), .val (.int (0 : Int32)), .val (.int (1 : Int32)), .val (.int (0 : Int32)), .val (.int y0)] [(.int (0 : Int32)), (.ref va)])) _
    refine XS.iload X0.here hx rfl (hb hby d7_28) rfl ?_
    show Steps p.tables e below (s₁.setTop (mkF m 30 #[.val (.ref ca), .val (.int (0 : Int32)), .val (.ref va), .val (.int (0 : Int32)), .val (.int (1 : Int32)), .val (.int (0 : Int32)), .val (.int y0)] [(.int y0), (.int (0 : Int32)), (.ref va)])) _
    refine XS.i2b X0.here hx rfl (hb hby d7_30) rfl ?_
    exact kt)
  have op_4 := V_v
  obtain ⟨cl_4, Ar_4, q_4, S_4, Ng_4, H_4, G_4⟩ := op_4
  have hin_4 : ¬ ((0 : Int32) < 0 ∨ cl_4.slots.size ≤ ((0 : Int32)).toNatClampNeg) := inb_of S_4 ⟨by decide, by decide⟩
  obtain ⟨T4, h4, X4, e4, W4, st4⟩ := stB X0 hx hZ e0 Ar_4 (j := (0 : Int32)) hin_4 (g := (mkF m 31 #[.val (.ref ca), .val (.int (0 : Int32)), .val (.ref va), .val (.int (0 : Int32)), .val (.int (1 : Int32)), .val (.int (0 : Int32)), .val (.int y0)] [(.int (y0.toInt8.toInt32)), (.int (0 : Int32)), (.ref va)])) rfl rfl (hb hby d7_31)
  have pre4s : ∀ tg, Steps p.tables e below (T4.setTop (mkF m 32 #[.val (.ref ca), .val (.int (0 : Int32)), .val (.ref va), .val (.int (0 : Int32)), .val (.int (1 : Int32)), .val (.int (0 : Int32)), .val (.int y0)] [])) tg → G tg := fun tg kt => pre3 tg (st4 tg kt)
  have V_c_5 := V_c.other W4 ne_c_v
  have V4_va : Arv Z h4 va kv .byte (1 : Int32) [(.int (y0.toInt8.toInt32.toInt8.toInt32))] (.int (0 : Int32)) := Arv.set Ar_4 q_4 S_4 Ng_4 H_4 G_4 (fits_nar_byte _) W4 0 rfl (Nat.le_of_ble_eq_true rfl)
  have N4 := Fr.snoc X4 N0 O_va
  have Z4 : n0 ≤ h4.size := Nat.le_trans Z0 (Keep.of_wr W4).1
  have K4 : Keep h0 h4 [va] := (Keep.refl h0 [va]).wr W4 (Or.inl (List.mem_of_getElem? (i := 0) rfl))
  obtain ⟨fs, hr, hrun, hended, hW, hsame⟩ := X4.leave (v := some (.int (1 : Int32))) (fun h => by rw [Bd.returns] at h; cases h)
  subst hG
  refine ⟨_, _, pre4s _ ?_, hrun, hended, _, _, rfl, ?_, ⟨_, rfl⟩, hW, hsame.mono (by decide) (by decide)⟩
  · skip
    show Steps p.tables e below (T4.setTop (mkF m 32 #[.val (.ref ca), .val (.int (0 : Int32)), .val (.ref va), .val (.int (0 : Int32)), .val (.int (1 : Int32)), .val (.int (0 : Int32)), .val (.int y0)] [])) _
    refine XS.iinc X4.here hx rfl (hb hby d7_32) rfl (l' := #[.val (.ref ca), .val (.int (1 : Int32)), .val (.ref va), .val (.int (0 : Int32)), .val (.int (1 : Int32)), .val (.int (0 : Int32)), .val (.int y0)]) rfl ?_
    show Steps p.tables e below (T4.setTop (mkF m 35 #[.val (.ref ca), .val (.int (1 : Int32)), .val (.ref va), .val (.int (0 : Int32)), .val (.int (1 : Int32)), .val (.int (0 : Int32)), .val (.int y0)] [])) _
    refine XS.iinc X4.here hx rfl (hb hby d7_35) rfl (l' := #[.val (.ref ca), .val (.int (1 : Int32)), .val (.ref va), .val (.int (1 : Int32)), .val (.int (1 : Int32)), .val (.int (0 : Int32)), .val (.int y0)]) rfl ?_
    show Steps p.tables e below (T4.setTop (mkF m 38 #[.val (.ref ca), .val (.int (1 : Int32)), .val (.ref va), .val (.int (1 : Int32)), .val (.int (1 : Int32)), .val (.int (0 : Int32)), .val (.int y0)] [])) _
    refine XS.iinc X4.here hx rfl (hb hby d7_38) rfl (l' := #[.val (.ref ca), .val (.int (1 : Int32)), .val (.ref va), .val (.int (1 : Int32)), .val (.int (1 : Int32)), .val (.int (1 : Int32)), .val (.int y0)]) rfl ?_
    show Steps p.tables e below (T4.setTop (mkF m 41 #[.val (.ref ca), .val (.int (1 : Int32)), .val (.ref va), .val (.int (1 : Int32)), .val (.int (1 : Int32)), .val (.int (1 : Int32)), .val (.int y0)] [])) _
    refine XS.goto X4.here hx rfl (pc0 := 41) (pc' := 3) rfl (hb hby d7_41) (by decide) (by decide) ?_
    show Steps p.tables e below (T4.setTop (mkF m 3 #[.val (.ref ca), .val (.int (1 : Int32)), .val (.ref va), .val (.int (1 : Int32)), .val (.int (1 : Int32)), .val (.int (1 : Int32)), .val (.int y0)] [])) _
    refine XS.iload X4.here hx rfl (hb hby d7_3) rfl ?_
    show Steps p.tables e below (T4.setTop (mkF m 5 #[.val (.ref ca), .val (.int (1 : Int32)), .val (.ref va), .val (.int (1 : Int32)), .val (.int (1 : Int32)), .val (.int (1 : Int32)), .val (.int y0)] [(.int (1 : Int32))])) _
    refine XS.iload X4.here hx rfl (hb hby d7_5) rfl ?_
    show Steps p.tables e below (T4.setTop (mkF m 7 #[.val (.ref ca), .val (.int (1 : Int32)), .val (.ref va), .val (.int (1 : Int32)), .val (.int (1 : Int32)), .val (.int (1 : Int32)), .val (.int y0)] [(.int (1 : Int32)), (.int (1 : Int32))])) _
    refine XS.icmpYes X4.here hx rfl (pc0 := 7) (pc' := 44) rfl (hb hby d7_7) rfl (flt (by decide : ¬ ((1 : Int32) < (1 : Int32)))).2.1 (by decide) (by decide) ?_
    show Steps p.tables e below (T4.setTop (mkF m 44 #[.val (.ref ca), .val (.int (1 : Int32)), .val (.ref va), .val (.int (1 : Int32)), .val (.int (1 : Int32)), .val (.int (1 : Int32)), .val (.int y0)] [])) _
    refine XS.iload X4.here hx rfl (hb hby d7_44) rfl ?_
    show Steps p.tables e below (T4.setTop (mkF m 46 #[.val (.ref ca), .val (.int (1 : Int32)), .val (.ref va), .val (.int (1 : Int32)), .val (.int (1 : Int32)), .val (.int (1 : Int32)), .val (.int y0)] [(.int (1 : Int32))])) _
    exact retI X4 hx Bd.returns (hb hby d7_46) hr
  · show Q_rmC_1 Z ca va kc kv y0 h0 n0 _ T4.heap _
    rw [e4]
    exact ⟨rfl, N4, K4, V4_va⟩
theorem pn_6 : plainName "java/lang/StringUTF16" = true := by first | (simp [plainName, overriddenIn]; done) | decide +kernel
theorem ef_6_R_I_I (m : MethodId) (x0 : Addr) (x1 : Int32) (x2 : Int32) : entryFrame m #[(.ref x0), (.int x1), (.int x2)] 6 = mkF m 0 #[.val (.ref x0), .val (.int x1), .val (.int x2), .unset, .unset, .unset] [] := by first | (simp [entryFrame, mkF, argsToLocals, Value.category]; done) | rfl
theorem pd_0 : parseMethodDescriptor "([CI[BII)I" = some ⟨[(.array .char), .int, (.array .byte), .int, .int], some .int⟩ := by decide +kernel
theorem d6_0 : decode jdk_52_method_16_code 0 = .ok (.iload_n 2, 1) := by decide +kernel
theorem d6_1 : decode jdk_52_method_16_code 1 = .ok (.newarray .byte, 2) := by decide +kernel
theorem d6_3 : decode jdk_52_method_16_code 3 = .ok (.astore_n 3, 1) := by decide +kernel
theorem d6_4 : decode jdk_52_method_16_code 4 = .ok (.aload_n 0, 1) := by decide +kernel
theorem d6_5 : decode jdk_52_method_16_code 5 = .ok (.iload_n 1, 1) := by decide +kernel
theorem d6_6 : decode jdk_52_method_16_code 6 = .ok (.aload_n 3, 1) := by decide +kernel
theorem d6_7 : decode jdk_52_method_16_code 7 = .ok (.iconst 0, 1) := by decide +kernel
theorem d6_8 : decode jdk_52_method_16_code 8 = .ok (.iload_n 2, 1) := by decide +kernel
theorem d6_9 : decode jdk_52_method_16_code 9 = .ok (.invokestatic 115, 3) := by decide +kernel
theorem d6_12 : decode jdk_52_method_16_code 12 = .ok (.istore 4, 2) := by decide +kernel
theorem d6_14 : decode jdk_52_method_16_code 14 = .ok (.iload 4, 2) := by decide +kernel
theorem d6_16 : decode jdk_52_method_16_code 16 = .ok (.iload_n 2, 1) := by decide +kernel
theorem d6_17 : decode jdk_52_method_16_code 17 = .ok (.if_icmp .eq 40, 3) := by decide +kernel
theorem d6_57 : decode jdk_52_method_16_code 57 = .ok (.aload_n 3, 1) := by decide +kernel
theorem d6_58 : decode jdk_52_method_16_code 58 = .ok (.areturn, 1) := by decide +kernel
def Q_rmD_1 (Z : State) (ca : Addr) (kc : ClassId) (y0 : Int32) (h0 : Heap) (n0 : Nat) (v : Option Value) (h : Heap) (L : List Loc) : Prop := ∃ (va : Addr) (kv : ClassId), v = some (.ref va) ∧ Fr n0 L ∧ Keep h0 h [] ∧ h0.size ≤ va ∧ Arv Z h va kv .byte (1 : Int32) [(.int (y0.toInt8.toInt32.toInt8.toInt32))] (.int (0 : Int32))
set_option maxRecDepth 65536 in
set_option maxHeartbeats 40000000 in
theorem rmD_1 (l : Launch) (Z : State) (a0 : Array Value) (hw : ∀ d ∈ tables_1, d.before a0 Z = true) (ws : List Jvm.Cond) (ca : Addr) (kc : ClassId) (y0 : Int32) (h0 : Heap) (n0 : Nat) (Z0 : n0 ≤ h0.size) (V_c : Arv Z h0 ca kc .char (1 : Int32) [(.int y0)] (.int (0 : Int32))) (hy0 : own_y y0) :
    MetFree l (⟨"java/lang/StringUTF16", "compress", "([CII)[B"⟩ : MethodName) (head1 (Jvm.Cond.code (⟨"java/lang/StringUTF16", "compress", "([CII)[B"⟩ : MethodName) jdk_52_method_16_code 6 (some (.array .byte)) :: ws) ({ frames := 1, cells := 1, slots := 1, locals := 24 } : Room)) (fun argv U => argv = #[(.ref ca), (.int (0 : Int32)), (.int (1 : Int32))] ∧ Z.Warmed39 U.vm ∧ U.heap = h0) (fun _ _ _ _ _ => True) (fun _ U o U' => ∃ v L, o = .returned v ∧ Q_rmD_1 Z ca kc y0 h0 n0 v U'.heap L ∧ FrameEnd U o U' L ({ frames := 1, cells := 1, slots := 1, locals := 24 } : Room).cells ({ frames := 1, cells := 1, slots := 1, locals := 24 } : Room).slots) := by
  refine MetFree.of_bodySF (plainFor_of_name pn_6) hisR ?_
  intro p e s m args below meth c s₁ Bd hml0 hP hK
  obtain ⟨rfl, hZ, hh⟩ := hP
  have hx := Bd.exec
  have hby := Bd.bytes
  have hml : c.maxLocals = 6 := hml0
  have hown : s.vm.findClass "java/lang/StringUTF16" = some m.cls := findClass_of_methodNamed Bd.named
  have hnm := (name_of_methodNamed Bd.named Bd.method).1
  have X0 : Stand p l e ({ frames := 1, cells := 1, slots := 1, locals := 24 } : Room) s m #[(.ref ca), (.int (0 : Int32)), (.int (1 : Int32))] below meth c s₁ [] 0 0 := Stand.of_body Bd
  have e0 : s₁.heap = h0 := by rw [← hh, Bd.state]; rfl
  have N0 := Fr.nil n0
  obtain ⟨G, hG⟩ : ∃ G : State → Prop, G = fun tg => Steps p.tables e below (s₁.setTop (entryFrame m #[(.ref ca), (.int (0 : Int32)), (.int (1 : Int32))] 6)) tg := ⟨_, rfl⟩
  have pre0 : ∀ tg, Steps p.tables e below (s₁.setTop (mkF m 0 #[.val (.ref ca), .val (.int (0 : Int32)), .val (.int (1 : Int32)), .unset, .unset, .unset] [])) tg → G tg := fun tg kt => by rw [hG]; exact castTop (ef_6_R_I_I m ca (0 : Int32) (1 : Int32)) kt
  have pre1 : ∀ tg, Steps p.tables e below (s₁.setTop (mkF m 1 #[.val (.ref ca), .val (.int (0 : Int32)), .val (.int (1 : Int32)), .unset, .unset, .unset] [(.int (1 : Int32))])) tg → G tg := fun tg kt => pre0 tg (by
    show Steps p.tables e below (s₁.setTop (mkF m 0 #[.val (.ref ca), .val (.int (0 : Int32)), .val (.int (1 : Int32)), .unset, .unset, .unset] [])) _
    refine XS.iloadN X0.here hx rfl (hb hby d6_0) rfl ?_
    exact kt)
  obtain ⟨T2, h2, k2, X2, e2, E2, A2, st2⟩ := newP X0 hx hZ (hw _ (List.mem_of_getElem? (i := 20) rfl)) e0 (g := (mkF m 1 #[.val (.ref ca), .val (.int (0 : Int32)), .val (.int (1 : Int32)), .unset, .unset, .unset] [(.int (1 : Int32))])) rfl (hb hby d6_1) rfl (by decide) (cap := 1) (by decide) (by decide) (by decide) (by decide)
  obtain ⟨va, g2⟩ : ∃ z, z = h0.size := ⟨_, rfl⟩
  rw [← g2] at A2 st2
  have O_va : n0 ≤ va := Nat.le_trans Z0 (Nat.le_of_eq g2.symm)
  have Z2 : n0 ≤ h2.size := Nat.le_trans Z0 E2.1
  have ne_ca_va : ca ≠ va := Nat.ne_of_lt (Nat.lt_of_lt_of_le V_c.lt (Nat.le_of_eq g2.symm))
  have S_va : h0.size ≤ va := Nat.le_trans (Keep.refl h0 []).1 (Nat.le_of_eq g2.symm)
  have pre2s : ∀ tg, Steps p.tables e below (T2.setTop (mkF m 3 #[.val (.ref ca), .val (.int (0 : Int32)), .val (.int (1 : Int32)), .unset, .unset, .unset] [(.ref va)])) tg → G tg := fun tg kt => pre1 tg (st2 tg kt)
  have V_c_3 := V_c.ext E2
  have V_va : Arv Z h2 va k2 .byte (1 : Int32) [(.int (0 : Int32))] (.int (0 : Int32)) := (Arv.new A2 (by decide)).pad (pad_rep [] (.int (0 : Int32)) 1)
  have K2 : Keep h0 h2 [] := (Keep.refl h0 []).ext E2
  have pre4 : ∀ tg, Steps p.tables e below (T2.setTop (mkF m 9 #[.val (.ref ca), .val (.int (0 : Int32)), .val (.int (1 : Int32)), .val (.ref va), .unset, .unset] [(.int (1 : Int32)), (.int (0 : Int32)), (.ref va), (.int (0 : Int32)), (.ref ca)])) tg → G tg := fun tg kt => pre2s tg (by
    show Steps p.tables e below (T2.setTop (mkF m 3 #[.val (.ref ca), .val (.int (0 : Int32)), .val (.int (1 : Int32)), .unset, .unset, .unset] [(.ref va)])) _
    refine XS.astoreN X2.here hx rfl (hb hby d6_3) rfl rfl (l' := #[.val (.ref ca), .val (.int (0 : Int32)), .val (.int (1 : Int32)), .val (.ref va), .unset, .unset]) rfl ?_
    show Steps p.tables e below (T2.setTop (mkF m 4 #[.val (.ref ca), .val (.int (0 : Int32)), .val (.int (1 : Int32)), .val (.ref va), .unset, .unset] [])) _
    refine XS.aloadN X2.here hx rfl (hb hby d6_4) rfl rfl ?_
    show Steps p.tables e below (T2.setTop (mkF m 5 #[.val (.ref ca), .val (.int (0 : Int32)), .val (.int (1 : Int32)), .val (.ref va), .unset, .unset] [(.ref ca)])) _
    refine XS.iloadN X2.here hx rfl (hb hby d6_5) rfl ?_
    show Steps p.tables e below (T2.setTop (mkF m 6 #[.val (.ref ca), .val (.int (0 : Int32)), .val (.int (1 : Int32)), .val (.ref va), .unset, .unset] [(.int (0 : Int32)), (.ref ca)])) _
    refine XS.aloadN X2.here hx rfl (hb hby d6_6) rfl rfl ?_
    show Steps p.tables e below (T2.setTop (mkF m 7 #[.val (.ref ca), .val (.int (0 : Int32)), .val (.int (1 : Int32)), .val (.ref va), .unset, .unset] [(.ref va), (.int (0 : Int32)), (.ref ca)])) _
    refine XS.iconst X2.here hx rfl (hb hby d6_7) ?_
    show Steps p.tables e below (T2.setTop (mkF m 8 #[.val (.ref ca), .val (.int (0 : Int32)), .val (.int (1 : Int32)), .val (.ref va), .unset, .unset] [(.int (0 : Int32)), (.ref va), (.int (0 : Int32)), (.ref ca)])) _
    refine XS.iloadN X2.here hx rfl (hb hby d6_8) rfl ?_
    exact kt)
  obtain ⟨_, _, ⟨T5, L5, k5, n5⟩, -, X5, ⟨Lc5, hQ5, l5, y5, z5⟩, st5⟩ := Jvm.LawKit.callS X2 hx (y := (⟨"java/lang/StringUTF16", "compress", "([CI[BII)I"⟩ : MethodName)) hown (mvT hZ (hw _ (List.mem_of_getElem? (i := 35) rfl))) (mvT hZ (hw _ (List.mem_of_getElem? (i := 36) rfl))) (mvT hZ (hw _ (List.mem_of_getElem? (i := 33) rfl))) (mvT hZ (hw _ (List.mem_of_getElem? (i := 37) rfl))) (by decide) (backOf (W := 0) (rmC_1 l Z a0 hw [] ca va kc k2 y0 h2 n0 Z2 V_c_3 V_va O_va ne_ca_va hy0) hZ (hw _ (List.mem_of_getElem? (i := 37) rfl)) (hw _ (List.mem_of_getElem? (i := 33) rfl)) (by decide) (by decide)) (g := (mkF m 9 #[.val (.ref ca), .val (.int (0 : Int32)), .val (.int (1 : Int32)), .val (.ref va), .unset, .unset] [(.int (1 : Int32)), (.int (0 : Int32)), (.ref va), (.int (0 : Int32)), (.ref ca)])) rfl (by rw [hml]; rfl) (argsL := [(.ref ca), (.int (0 : Int32)), (.ref va), (.int (0 : Int32)), (.int (1 : Int32))]) (rest := []) (lenOf pd_0 rfl) rfl (by show 2 * 0 + _ ≤ _; exact Nat.le_of_eq rfl) (hb hby d6_9) (fun _ _ => ⟨rfl, e2, (Nat.le_of_ble_eq_true rfl), (Nat.le_of_ble_eq_true rfl)⟩)
  dsimp only [Pt.U, Pt.locs, Pt.cells, Pt.slots] at X5 l5 y5 z5 st5 hQ5
  subst l5 y5 z5
  obtain ⟨rfl, N5q, K5, V4⟩ := hQ5
  have N5 := Fr.app N0 N5q
  have pre5s : ∀ tg, Steps p.tables e below (T5.setTop (mkF m 12 #[.val (.ref ca), .val (.int (0 : Int32)), .val (.int (1 : Int32)), .val (.ref va), .unset, .unset] [(.int (1 : Int32))])) tg → G tg := fun tg kt => pre4 tg (st5 tg kt)
  have Z5 : n0 ≤ T5.heap.size := Nat.le_trans Z2 K5.1
  have V_c_6 := V_c_3.keep K5 (ninS ne_ca_va nin0)
  have KK5 : Keep h0 T5.heap [] := K2.trans K5 (allS (Or.inr S_va) all0)
  obtain ⟨fs, hr, hrun, hended, hW, hsame⟩ := X5.leave (v := some (.ref va)) (fun h => by rw [Bd.returns] at h; cases h)
  subst hG
  refine ⟨_, _, pre5s _ ?_, hrun, hended, _, _, rfl, ?_, ⟨_, rfl⟩, hW, hsame.mono (by decide) (by decide)⟩
  · skip
    show Steps p.tables e below (T5.setTop (mkF m 12 #[.val (.ref ca), .val (.int (0 : Int32)), .val (.int (1 : Int32)), .val (.ref va), .unset, .unset] [(.int (1 : Int32))])) _
    refine XS.istore X5.here hx rfl (hb hby d6_12) rfl (l' := #[.val (.ref ca), .val (.int (0 : Int32)), .val (.int (1 : Int32)), .val (.ref va), .val (.int (1 : Int32)), .unset]) rfl ?_
    show Steps p.tables e below (T5.setTop (mkF m 14 #[.val (.ref ca), .val (.int (0 : Int32)), .val (.int (1 : Int32)), .val (.ref va), .val (.int (1 : Int32)), .unset] [])) _
    refine XS.iload X5.here hx rfl (hb hby d6_14) rfl ?_
    show Steps p.tables e below (T5.setTop (mkF m 16 #[.val (.ref ca), .val (.int (0 : Int32)), .val (.int (1 : Int32)), .val (.ref va), .val (.int (1 : Int32)), .unset] [(.int (1 : Int32))])) _
    refine XS.iloadN X5.here hx rfl (hb hby d6_16) rfl ?_
    show Steps p.tables e below (T5.setTop (mkF m 17 #[.val (.ref ca), .val (.int (0 : Int32)), .val (.int (1 : Int32)), .val (.ref va), .val (.int (1 : Int32)), .unset] [(.int (1 : Int32)), (.int (1 : Int32))])) _
    refine XS.icmpYes X5.here hx rfl (pc0 := 17) (pc' := 57) rfl (hb hby d6_17) rfl (teq (by decide : (1 : Int32) = (1 : Int32))).1 (by decide) (by decide) ?_
    show Steps p.tables e below (T5.setTop (mkF m 57 #[.val (.ref ca), .val (.int (0 : Int32)), .val (.int (1 : Int32)), .val (.ref va), .val (.int (1 : Int32)), .unset] [])) _
    refine XS.aloadN X5.here hx rfl (hb hby d6_57) rfl rfl ?_
    show Steps p.tables e below (T5.setTop (mkF m 58 #[.val (.ref ca), .val (.int (0 : Int32)), .val (.int (1 : Int32)), .val (.ref va), .val (.int (1 : Int32)), .unset] [(.ref va)])) _
    jvm_step X5.here [X5.here.top, hx, (hb hby d6_58), X5.method', Bd.returns, Value.isRef, FieldType.isReference]
    first | (intro acts; rw [hr _ acts rfl rfl rfl]) | rw [hr _ _ rfl rfl rfl]
    exact Steps.refl _
  · show Q_rmD_1 Z ca kc y0 h0 n0 _ T5.heap _
    exact ⟨va, _, rfl, N5, KK5, S_va, V4⟩
theorem pn_8 : plainName "java/lang/StringUTF16" = true := by first | (simp [plainName, overriddenIn]; done) | decide +kernel
theorem ef_8_R_I (m : MethodId) (x0 : Addr) (x1 : Int32) : entryFrame m #[(.ref x0), (.int x1)] 2 = mkF m 0 #[.val (.ref x0), .val (.int x1)] [] := by first | (simp [entryFrame, mkF, argsToLocals, Value.category]; done) | rfl
theorem d8_0 : decode jdk_52_method_15_code 0 = .ok (.iload_n 1, 1) := by decide +kernel
theorem d8_1 : decode jdk_52_method_15_code 1 = .ok (.aload_n 0, 1) := by decide +kernel
theorem d8_2 : decode jdk_52_method_15_code 2 = .ok (.arraylength, 1) := by decide +kernel
theorem d8_3 : decode jdk_52_method_15_code 3 = .ok (.isub, 1) := by decide +kernel
theorem d8_4 : decode jdk_52_method_15_code 4 = .ok (.bipush 31, 2) := by decide +kernel
theorem d8_6 : decode jdk_52_method_15_code 6 = .ok (.iushr, 1) := by decide +kernel
theorem d8_7 : decode jdk_52_method_15_code 7 = .ok (.i2b, 1) := by decide +kernel
theorem d8_8 : decode jdk_52_method_15_code 8 = .ok (.ireturn, 1) := by decide +kernel
def Q_rmE_1 (Z : State) (b : Addr) (kb : ClassId) (x0 : Int32) (h0 : Heap) (n0 : Nat) (v : Option Value) (h : Heap) (L : List Loc) : Prop := v = some (.int (0 : Int32)) ∧ Fr n0 L ∧ h = h0
set_option maxRecDepth 65536 in
set_option maxHeartbeats 40000000 in
theorem rmE_1 (l : Launch) (Z : State) (a0 : Array Value) (hw : ∀ d ∈ tables_1, d.before a0 Z = true) (ws : List Jvm.Cond) (b : Addr) (kb : ClassId) (x0 : Int32) (h0 : Heap) (n0 : Nat) (Z0 : n0 ≤ h0.size) (V_b : Arv Z h0 b kb .byte (1 : Int32) [(.int x0)] (.int (0 : Int32))) :
    MetFree l (⟨"java/lang/StringUTF16", "coderFromArrayLen", "([BI)B"⟩ : MethodName) (head1 (Jvm.Cond.code (⟨"java/lang/StringUTF16", "coderFromArrayLen", "([BI)B"⟩ : MethodName) jdk_52_method_15_code 2 (some .byte) :: ws) ({ frames := 0, cells := 0, slots := 0, locals := 0 } : Room)) (fun argv U => argv = #[(.ref b), (.int (1 : Int32))] ∧ Z.Warmed39 U.vm ∧ U.heap = h0) (fun _ _ _ _ _ => True) (fun _ U o U' => ∃ v L, o = .returned v ∧ Q_rmE_1 Z b kb x0 h0 n0 v U'.heap L ∧ FrameEnd U o U' L ({ frames := 0, cells := 0, slots := 0, locals := 0 } : Room).cells ({ frames := 0, cells := 0, slots := 0, locals := 0 } : Room).slots) := by
  refine MetFree.of_bodySF (plainFor_of_name pn_8) hisR ?_
  intro p e s m args below meth c s₁ Bd hml0 hP hK
  obtain ⟨rfl, hZ, hh⟩ := hP
  have hx := Bd.exec
  have hby := Bd.bytes
  have hml : c.maxLocals = 2 := hml0
  have hown : s.vm.findClass "java/lang/StringUTF16" = some m.cls := findClass_of_methodNamed Bd.named
  have hnm := (name_of_methodNamed Bd.named Bd.method).1
  have X0 : Stand p l e ({ frames := 0, cells := 0, slots := 0, locals := 0 } : Room) s m #[(.ref b), (.int (1 : Int32))] below meth c s₁ [] 0 0 := Stand.of_body Bd
  have e0 : s₁.heap = h0 := by rw [← hh, Bd.state]; rfl
  have N0 := Fr.nil n0
  obtain ⟨G, hG⟩ : ∃ G : State → Prop, G = fun tg => Steps p.tables e below (s₁.setTop (entryFrame m #[(.ref b), (.int (1 : Int32))] 2)) tg := ⟨_, rfl⟩
  have pre0 : ∀ tg, Steps p.tables e below (s₁.setTop (mkF m 0 #[.val (.ref b), .val (.int (1 : Int32))] [])) tg → G tg := fun tg kt => by rw [hG]; exact castTop (ef_8_R_I m b (1 : Int32)) kt
  have pre1 : ∀ tg, Steps p.tables e below (s₁.setTop (mkF m 2 #[.val (.ref b), .val (.int (1 : Int32))] [(.ref b), (.int (1 : Int32))])) tg → G tg := fun tg kt => pre0 tg (by
    show Steps p.tables e below (s₁.setTop (mkF m 0 #[.val (.ref b), .val (.int (1 : Int32))] [])) _
    refine XS.iloadN X0.here hx rfl (hb hby d8_0) rfl ?_
    show Steps p.tables e below (s₁.setTop (mkF m 1 #[.val (.ref b), .val (.int (1 : Int32))] [(.int (1 : Int32))])) _
    refine XS.aloadN X0.here hx rfl (hb hby d8_1) rfl rfl ?_
    exact kt)
  have op_2 := V_b
  obtain ⟨cl_2, Ar_2, q_2, S_2, Ng_2, H_2, G_2⟩ := op_2
  obtain ⟨fs, hr, hrun, hended, hW, hsame⟩ := X0.leave (v := some (.int (0 : Int32))) (fun h => by rw [Bd.returns] at h; cases h)
  subst hG
  refine ⟨_, _, pre1 _ ?_, hrun, hended, _, _, rfl, ?_, ⟨_, rfl⟩, hW, hsame.mono (by decide) (by decide)⟩
  · skip
    show Steps p.tables e below (s₁.setTop (mkF m 2 #[.val (.ref b), .val (.int (1 : Int32))] [(.ref b), (.int (1 : Int32))])) _
    refine X0.arraylength hx (by rw [e0]; exact Ar_2.1) (State.isArrayOf_alike hZ.alike Ar_2.2.1) (g := (mkF m 2 #[.val (.ref b), .val (.int (1 : Int32))] [(.ref b), (.int (1 : Int32))])) rfl rfl (hb hby d8_2) _ ?_
    rw [len_of S_2 Ng_2]
    show Steps p.tables e below (s₁.setTop (mkF m 3 #[.val (.ref b), .val (.int (1 : Int32))] [(.int (1 : Int32)), (.int (1 : Int32))])) _
    refine XS.isub X0.here hx rfl (hb hby d8_3) rfl ?_
    show Steps p.tables e below (s₁.setTop (mkF m 4 #[.val (.ref b), .val (.int (1 : Int32))] [(.int (0 : Int32))])) _
    refine XS.bipush X0.here hx rfl (hb hby d8_4) ?_
    show Steps p.tables e below (s₁.setTop (mkF m 6 #[.val (.ref b), .val (.int (1 : Int32))] [(.int (31 : Int32)), (.int (0 : Int32))])) _
    refine XS.iushr X0.here hx rfl (hb hby d8_6) rfl ?_
    show Steps p.tables e below (s₁.setTop (mkF m 7 #[.val (.ref b), .val (.int (1 : Int32))] [(.int (0 : Int32))])) _
    refine XS.i2b X0.here hx rfl (hb hby d8_7) rfl ?_
    show Steps p.tables e below (s₁.setTop (mkF m 8 #[.val (.ref b), .val (.int (1 : Int32))] [(.int (0 : Int32))])) _
    exact retN X0 hx (t := .byte) Bd.returns (by simp) (hb hby d8_8) hr
  · show Q_rmE_1 Z b kb x0 h0 n0 _ s₁.heap _
    rw [e0]
    exact ⟨rfl, N0, rfl⟩
theorem pn_3 : plainName "java/lang/String" = true := by first | (simp [plainName, overriddenIn]; done) | decide +kernel
theorem ef_3_R_R_I_I_n (m : MethodId) (x0 : Addr) (x1 : Addr) (x2 : Int32) (x3 : Int32) : entryFrame m #[(.ref x0), (.ref x1), (.int x2), (.int x3), .null] 6 = mkF m 0 #[.val (.ref x0), .val (.ref x1), .val (.int x2), .val (.int x3), .val .null, .unset] [] := by first | (simp [entryFrame, mkF, argsToLocals, Value.category]; done) | rfl
theorem pd_1 : parseMethodDescriptor "([CII)[B" = some ⟨[(.array .char), .int, .int], some (.array .byte)⟩ := by decide +kernel
theorem pd_2 : parseMethodDescriptor "([BI)B" = some ⟨[(.array .byte), .int], some .byte⟩ := by decide +kernel
theorem d3_0 : decode jdk_42_method_149_code 0 = .ok (.aload_n 0, 1) := by decide +kernel
theorem d3_1 : decode jdk_42_method_149_code 1 = .ok (.invokespecial 1, 3) := by decide +kernel
theorem d3_4 : decode jdk_42_method_149_code 4 = .ok (.iload_n 3, 1) := by decide +kernel
theorem d3_5 : decode jdk_42_method_149_code 5 = .ok (.ifCond .ne 22, 3) := by decide +kernel
theorem d3_27 : decode jdk_42_method_149_code 27 = .ok (.getstatic 38, 3) := by decide +kernel
theorem d3_30 : decode jdk_42_method_149_code 30 = .ok (.ifCond .eq 28, 3) := by decide +kernel
theorem d3_33 : decode jdk_42_method_149_code 33 = .ok (.aload_n 1, 1) := by decide +kernel
theorem d3_34 : decode jdk_42_method_149_code 34 = .ok (.iload_n 2, 1) := by decide +kernel
theorem d3_35 : decode jdk_42_method_149_code 35 = .ok (.iload_n 3, 1) := by decide +kernel
theorem d3_36 : decode jdk_42_method_149_code 36 = .ok (.invokestatic 177, 3) := by decide +kernel
theorem d3_39 : decode jdk_42_method_149_code 39 = .ok (.astore 5, 2) := by decide +kernel
theorem d3_41 : decode jdk_42_method_149_code 41 = .ok (.aload_n 0, 1) := by decide +kernel
theorem d3_42 : decode jdk_42_method_149_code 42 = .ok (.aload 5, 2) := by decide +kernel
theorem d3_44 : decode jdk_42_method_149_code 44 = .ok (.iload_n 3, 1) := by decide +kernel
theorem d3_45 : decode jdk_42_method_149_code 45 = .ok (.invokestatic 47, 3) := by decide +kernel
theorem d3_48 : decode jdk_42_method_149_code 48 = .ok (.putfield 15, 3) := by decide +kernel
theorem d3_51 : decode jdk_42_method_149_code 51 = .ok (.aload_n 0, 1) := by decide +kernel
theorem d3_52 : decode jdk_42_method_149_code 52 = .ok (.aload 5, 2) := by decide +kernel
theorem d3_54 : decode jdk_42_method_149_code 54 = .ok (.putfield 9, 3) := by decide +kernel
theorem d3_57 : decode jdk_42_method_149_code 57 = .ok (.return_, 1) := by decide +kernel
def Q_rmI_1 (Z : State) (a ca : Addr) (kc : ClassId) (y0 : Int32) (h0 : Heap) (n0 : Nat) (v : Option Value) (h : Heap) (L : List Loc) : Prop := v = none ∧ Fr n0 L ∧ Keep h0 h [a] ∧ own_s Z h a (1 : Int32)
set_option maxRecDepth 65536 in
set_option maxHeartbeats 40000000 in
theorem rmI_1 (l : Launch) (Z : State) (a0 : Array Value) (hw : ∀ d ∈ tables_1, d.before a0 Z = true) (ws : List Jvm.Cond) (a ca : Addr) (kc : ClassId) (y0 : Int32) (h0 : Heap) (n0 : Nat) (Z0 : n0 ≤ h0.size) (hs : own_st Z) (Ol : Old Z n0 h0) (E_a : Exa Z h0 a "java/lang/String") (F_c : Fld Z h0 a "java/lang/String" "coder" "B" (.int (0 : Int32))) (F_v : Fld Z h0 a "java/lang/String" "value" "[B" .null) (O_a : n0 ≤ a) (ne_a_c : ca ≠ a) (V_c : Arv Z h0 ca kc .char (1 : Int32) [(.int y0)] (.int (0 : Int32))) (hy0 : own_y y0) :
    MetFree l (⟨"java/lang/String", "<init>", "([CIILjava/lang/Void;)V"⟩ : MethodName) (head1 (Jvm.Cond.code (⟨"java/lang/String", "<init>", "([CIILjava/lang/Void;)V"⟩ : MethodName) jdk_42_method_149_code 6 none :: ws) ({ frames := 2, cells := 1, slots := 1, locals := 48 } : Room)) (fun argv U => argv = #[(.ref a), (.ref ca), (.int (0 : Int32)), (.int (1 : Int32)), .null] ∧ Z.Warmed39 U.vm ∧ U.heap = h0) (fun _ _ _ _ _ => True) (fun _ U o U' => ∃ v L, o = .returned v ∧ Q_rmI_1 Z a ca kc y0 h0 n0 v U'.heap L ∧ FrameEnd U o U' L ({ frames := 2, cells := 1, slots := 1, locals := 48 } : Room).cells ({ frames := 2, cells := 1, slots := 1, locals := 48 } : Room).slots) := by
  refine MetFree.of_bodySF (plainFor_of_name pn_3) hisR ?_
  intro p e s m args below meth c s₁ Bd hml0 hP hK
  obtain ⟨rfl, hZ, hh⟩ := hP
  have hx := Bd.exec
  have hby := Bd.bytes
  have hml : c.maxLocals = 6 := hml0
  have hown : s.vm.findClass "java/lang/String" = some m.cls := findClass_of_methodNamed Bd.named
  have hnm := (name_of_methodNamed Bd.named Bd.method).1
  have X0 : Stand p l e ({ frames := 2, cells := 1, slots := 1, locals := 48 } : Room) s m #[(.ref a), (.ref ca), (.int (0 : Int32)), (.int (1 : Int32)), .null] below meth c s₁ [] 0 0 := Stand.of_body Bd
  have e0 : s₁.heap = h0 := by rw [← hh, Bd.state]; rfl
  have N0 := Fr.nil n0
  obtain ⟨G, hG⟩ : ∃ G : State → Prop, G = fun tg => Steps p.tables e below (s₁.setTop (entryFrame m #[(.ref a), (.ref ca), (.int (0 : Int32)), (.int (1 : Int32)), .null] 6)) tg := ⟨_, rfl⟩
  have pre0 : ∀ tg, Steps p.tables e below (s₁.setTop (mkF m 0 #[.val (.ref a), .val (.ref ca), .val (.int (0 : Int32)), .val (.int (1 : Int32)), .val .null, .unset] [])) tg → G tg := fun tg kt => by rw [hG]; exact castTop (ef_3_R_R_I_I_n m a ca (0 : Int32) (1 : Int32) ) kt
  have pre1 : ∀ tg, Steps p.tables e below (s₁.setTop (mkF m 1 #[.val (.ref a), .val (.ref ca), .val (.int (0 : Int32)), .val (.int (1 : Int32)), .val .null, .unset] [(.ref a)])) tg → G tg := fun tg kt => pre0 tg (by
    show Steps p.tables e below (s₁.setTop (mkF m 0 #[.val (.ref a), .val (.ref ca), .val (.int (0 : Int32)), .val (.int (1 : Int32)), .val .null, .unset] [])) _
    refine XS.aloadN X0.here hx rfl (hb hby d3_0) rfl rfl ?_
    exact kt)
  obtain ⟨T2, X2, e2, st2⟩ := initO X0 hx hZ hown (hw _ (List.mem_of_getElem? (i := 16) rfl)) (hw _ (List.mem_of_getElem? (i := 17) rfl)) (hw _ (List.mem_of_getElem? (i := 18) rfl)) e0 (g := (mkF m 1 #[.val (.ref a), .val (.ref ca), .val (.int (0 : Int32)), .val (.int (1 : Int32)), .val .null, .unset] [(.ref a)])) rfl (by rw [hml]; rfl) rfl (hb hby d3_1) (by decide) (W := 0) (by show 2 * 0 + _ ≤ _; exact Nat.le_of_eq rfl) (by decide)
  have pre2s : ∀ tg, Steps p.tables e below (T2.setTop (mkF m 4 #[.val (.ref a), .val (.ref ca), .val (.int (0 : Int32)), .val (.int (1 : Int32)), .val .null, .unset] [])) tg → G tg := fun tg kt => pre1 tg (st2 tg kt)
  have pre4 : ∀ tg, Steps p.tables e below (T2.setTop (mkF m 27 #[.val (.ref a), .val (.ref ca), .val (.int (0 : Int32)), .val (.int (1 : Int32)), .val .null, .unset] [])) tg → G tg := fun tg kt => pre2s tg (by
    show Steps p.tables e below (T2.setTop (mkF m 4 #[.val (.ref a), .val (.ref ca), .val (.int (0 : Int32)), .val (.int (1 : Int32)), .val .null, .unset] [])) _
    refine XS.iloadN X2.here hx rfl (hb hby d3_4) rfl ?_
    show Steps p.tables e below (T2.setTop (mkF m 5 #[.val (.ref a), .val (.ref ca), .val (.int (0 : Int32)), .val (.int (1 : Int32)), .val .null, .unset] [(.int (1 : Int32))])) _
    refine XS.ifYes X2.here hx rfl (pc0 := 5) (pc' := 27) rfl (hb hby d3_5) rfl ((if0 _ _).trans (feq (by decide : ¬ ((1 : Int32) = (0 : Int32)))).2) (by decide) (by decide) ?_
    exact kt)
  have hs3' := hs
  obtain ⟨cs, S_c, hcs⟩ := hs3'
  obtain ⟨T5, X5, e5, st5⟩ := getS2 X2 hx hZ hown (host := "") (Or.inl (hw _ (List.mem_of_getElem? (i := 30) rfl))) Via.refl e2 (Sta.ext Ol.2 S_c) (g := (mkF m 27 #[.val (.ref a), .val (.ref ca), .val (.int (0 : Int32)), .val (.int (1 : Int32)), .val .null, .unset] [])) rfl (hb hby d3_27)
  have pre5s : ∀ tg, Steps p.tables e below (T5.setTop (mkF m 30 #[.val (.ref a), .val (.ref ca), .val (.int (0 : Int32)), .val (.int (1 : Int32)), .val .null, .unset] [(.int cs)])) tg → G tg := fun tg kt => pre4 tg (st5 tg kt)
  have pre6 : ∀ tg, Steps p.tables e below (T5.setTop (mkF m 36 #[.val (.ref a), .val (.ref ca), .val (.int (0 : Int32)), .val (.int (1 : Int32)), .val .null, .unset] [(.int (1 : Int32)), (.int (0 : Int32)), (.ref ca)])) tg → G tg := fun tg kt => pre5s tg (by
    show Steps p.tables e below (T5.setTop (mkF m 30 #[.val (.ref a), .val (.ref ca), .val (.int (0 : Int32)), .val (.int (1 : Int32)), .val .null, .unset] [(.int cs)])) _
    refine XS.ifNo X5.here hx rfl (hb hby d3_30) rfl ((if0 _ _).trans (feq hcs).1) ?_
    show Steps p.tables e below (T5.setTop (mkF m 33 #[.val (.ref a), .val (.ref ca), .val (.int (0 : Int32)), .val (.int (1 : Int32)), .val .null, .unset] [])) _
    refine XS.aloadN X5.here hx rfl (hb hby d3_33) rfl rfl ?_
    show Steps p.tables e below (T5.setTop (mkF m 34 #[.val (.ref a), .val (.ref ca), .val (.int (0 : Int32)), .val (.int (1 : Int32)), .val .null, .unset] [(.ref ca)])) _
    refine XS.iloadN X5.here hx rfl (hb hby d3_34) rfl ?_
    show Steps p.tables e below (T5.setTop (mkF m 35 #[.val (.ref a), .val (.ref ca), .val (.int (0 : Int32)), .val (.int (1 : Int32)), .val .null, .unset] [(.int (0 : Int32)), (.ref ca)])) _
    refine XS.iloadN X5.here hx rfl (hb hby d3_35) rfl ?_
    exact kt)
  obtain ⟨_, _, ⟨T7, L7, k7, n7⟩, -, X7, ⟨Lc7, hQ7, l7, y7, z7⟩, st7⟩ := Jvm.LawKit.callS X5 hx (y := (⟨"java/lang/StringUTF16", "compress", "([CII)[B"⟩ : MethodName)) hown (mvT hZ (hw _ (List.mem_of_getElem? (i := 31) rfl))) (mvT hZ (hw _ (List.mem_of_getElem? (i := 32) rfl))) (mvT hZ (hw _ (List.mem_of_getElem? (i := 33) rfl))) (mvT hZ (hw _ (List.mem_of_getElem? (i := 34) rfl))) (by decide) (backOf (W := 0) (rmD_1 l Z a0 hw [] ca kc y0 h0 n0 Z0 V_c hy0) hZ (hw _ (List.mem_of_getElem? (i := 34) rfl)) (hw _ (List.mem_of_getElem? (i := 33) rfl)) (by decide) (by decide)) (g := (mkF m 36 #[.val (.ref a), .val (.ref ca), .val (.int (0 : Int32)), .val (.int (1 : Int32)), .val .null, .unset] [(.int (1 : Int32)), (.int (0 : Int32)), (.ref ca)])) rfl (by rw [hml]; rfl) (argsL := [(.ref ca), (.int (0 : Int32)), (.int (1 : Int32))]) (rest := []) (lenOf pd_1 rfl) rfl (by show 2 * 0 + _ ≤ _; exact Nat.le_of_eq rfl) (hb hby d3_36) (fun _ _ => ⟨rfl, e5, (Nat.le_of_ble_eq_true rfl), (Nat.le_of_ble_eq_true rfl)⟩)
  dsimp only [Pt.U, Pt.locs, Pt.cells, Pt.slots] at X7 l7 y7 z7 st7 hQ7
  subst l7 y7 z7
  obtain ⟨va, kv, rfl, N7q, K7, Sz, V_v⟩ := hQ7
  have N7 := Fr.app N0 N7q
  have pre7s : ∀ tg, Steps p.tables e below (T7.setTop (mkF m 39 #[.val (.ref a), .val (.ref ca), .val (.int (0 : Int32)), .val (.int (1 : Int32)), .val .null, .unset] [(.ref va)])) tg → G tg := fun tg kt => pre6 tg (st7 tg kt)
  have Z7 : n0 ≤ T7.heap.size := Nat.le_trans Z0 K7.1
  have E_a_8 := E_a.keep K7
  have F_c_9 := F_c.keep K7 nin0
  have F_v_10 := F_v.keep K7 nin0
  have V_c_11 := V_c.keep K7 nin0
  have Ol12 := Ol.keep K7 all0
  have KK7 : Keep h0 T7.heap [a] := (Keep.refl h0 [a]).trans K7 all0
  have ne_v_a : va ≠ a := Ne.symm (Nat.ne_of_lt (Nat.lt_of_lt_of_le E_a.lt Sz))
  have pre13 : ∀ tg, Steps p.tables e below (T7.setTop (mkF m 45 #[.val (.ref a), .val (.ref ca), .val (.int (0 : Int32)), .val (.int (1 : Int32)), .val .null, .val (.ref va)] [(.int (1 : Int32)), (.ref va), (.ref a)])) tg → G tg := fun tg kt => pre7s tg (by
    show Steps p.tables e below (T7.setTop (mkF m 39 #[.val (.ref a), .val (.ref ca), .val (.int (0 : Int32)), .val (.int (1 : Int32)), .val .null, .unset] [(.ref va)])) _
    refine XS.astore X7.here hx rfl (hb hby d3_39) rfl rfl (l' := #[.val (.ref a), .val (.ref ca), .val (.int (0 : Int32)), .val (.int (1 : Int32)), .val .null, .val (.ref va)]) rfl ?_
    show Steps p.tables e below (T7.setTop (mkF m 41 #[.val (.ref a), .val (.ref ca), .val (.int (0 : Int32)), .val (.int (1 : Int32)), .val .null, .val (.ref va)] [])) _
    refine XS.aloadN X7.here hx rfl (hb hby d3_41) rfl rfl ?_
    show Steps p.tables e below (T7.setTop (mkF m 42 #[.val (.ref a), .val (.ref ca), .val (.int (0 : Int32)), .val (.int (1 : Int32)), .val .null, .val (.ref va)] [(.ref a)])) _
    refine XS.aload X7.here hx rfl (hb hby d3_42) rfl rfl ?_
    show Steps p.tables e below (T7.setTop (mkF m 44 #[.val (.ref a), .val (.ref ca), .val (.int (0 : Int32)), .val (.int (1 : Int32)), .val .null, .val (.ref va)] [(.ref va), (.ref a)])) _
    refine XS.iloadN X7.here hx rfl (hb hby d3_44) rfl ?_
    exact kt)
  obtain ⟨_, _, ⟨T14, L14, k14, n14⟩, -, X14, ⟨Lc14, hQ14, l14, y14, z14⟩, st14⟩ := Jvm.LawKit.callS X7 hx (y := (⟨"java/lang/StringUTF16", "coderFromArrayLen", "([BI)B"⟩ : MethodName)) hown (mvT hZ (hw _ (List.mem_of_getElem? (i := 38) rfl))) (mvT hZ (hw _ (List.mem_of_getElem? (i := 39) rfl))) (mvT hZ (hw _ (List.mem_of_getElem? (i := 33) rfl))) (mvT hZ (hw _ (List.mem_of_getElem? (i := 40) rfl))) (by decide) (backOf (W := 1) (rmE_1 l Z a0 hw [] va kv (y0.toInt8.toInt32.toInt8.toInt32) T7.heap n0 Z7 V_v) hZ (hw _ (List.mem_of_getElem? (i := 40) rfl)) (hw _ (List.mem_of_getElem? (i := 33) rfl)) (by decide) (by decide)) (g := (mkF m 45 #[.val (.ref a), .val (.ref ca), .val (.int (0 : Int32)), .val (.int (1 : Int32)), .val .null, .val (.ref va)] [(.int (1 : Int32)), (.ref va), (.ref a)])) rfl (by rw [hml]; rfl) (argsL := [(.ref va), (.int (1 : Int32))]) (rest := [(.ref a)]) (lenOf pd_2 rfl) rfl (by show 2 * 0 + _ ≤ _; exact Nat.le_of_eq rfl) (hb hby d3_45) (fun _ _ => ⟨rfl, rfl, (Nat.le_of_ble_eq_true rfl), (Nat.le_of_ble_eq_true rfl)⟩)
  dsimp only [Pt.U, Pt.locs, Pt.cells, Pt.slots] at X14 l14 y14 z14 st14 hQ14
  subst l14 y14 z14
  obtain ⟨rfl, N14q, e14⟩ := hQ14
  have N14 := Fr.app N7 N14q
  have pre14s : ∀ tg, Steps p.tables e below (T14.setTop (mkF m 48 #[.val (.ref a), .val (.ref ca), .val (.int (0 : Int32)), .val (.int (1 : Int32)), .val .null, .val (.ref va)] [(.int (0 : Int32)), (.ref a)])) tg → G tg := fun tg kt => pre13 tg (st14 tg kt)
  obtain ⟨T15, h15, X15, e15, W15, st15⟩ := putFN X14 hx hZ hown (hw _ (List.mem_of_getElem? (i := 26) rfl)) Via.refl e14 F_c_9 E_a_8 (Or.inr ⟨(hw _ (List.mem_of_getElem? (i := 22) rfl)), rfl, hnm⟩) (hw _ (List.mem_of_getElem? (i := 6) rfl)) (ty := .byte) (v' := (.int (0 : Int32))) (by decide) rfl rfl (g := (mkF m 48 #[.val (.ref a), .val (.ref ca), .val (.int (0 : Int32)), .val (.int (1 : Int32)), .val .null, .val (.ref va)] [(.int (0 : Int32)), (.ref a)])) rfl rfl (hb hby d3_48)
  have pre15s : ∀ tg, Steps p.tables e below (T15.setTop (mkF m 51 #[.val (.ref a), .val (.ref ca), .val (.int (0 : Int32)), .val (.int (1 : Int32)), .val .null, .val (.ref va)] [])) tg → G tg := fun tg kt => pre14s tg (st15 tg kt)
  have E_a_16 := E_a_8.wr W15
  have F_c_17 := F_c_9.same W15
  have F_v_18 := F_v_10.other W15 (Or.inr (slot_ne (Or.inr (hw _ (List.mem_of_getElem? (i := 21) rfl))) (Or.inr (hw _ (List.mem_of_getElem? (i := 22) rfl))) (by decide) (t := (.array .byte)) (t' := .byte) (by decide) (by decide)))
  have V_c_19 := V_c_11.other W15 ne_a_c
  have V_v_20 := V_v.other W15 ne_v_a
  have Ol21 := Ol12.wr W15 O_a
  have N15 := Fr.snoc X15 N14 O_a
  have Z15 : n0 ≤ h15.size := Nat.le_trans Z7 (Keep.of_wr W15).1
  have K15 : Keep h0 h15 [a] := KK7.wr W15 (Or.inl (List.mem_of_getElem? (i := 0) rfl))
  have pre22 : ∀ tg, Steps p.tables e below (T15.setTop (mkF m 54 #[.val (.ref a), .val (.ref ca), .val (.int (0 : Int32)), .val (.int (1 : Int32)), .val .null, .val (.ref va)] [(.ref va), (.ref a)])) tg → G tg := fun tg kt => pre15s tg (by
    show Steps p.tables e below (T15.setTop (mkF m 51 #[.val (.ref a), .val (.ref ca), .val (.int (0 : Int32)), .val (.int (1 : Int32)), .val .null, .val (.ref va)] [])) _
    refine XS.aloadN X15.here hx rfl (hb hby d3_51) rfl rfl ?_
    show Steps p.tables e below (T15.setTop (mkF m 52 #[.val (.ref a), .val (.ref ca), .val (.int (0 : Int32)), .val (.int (1 : Int32)), .val .null, .val (.ref va)] [(.ref a)])) _
    refine XS.aload X15.here hx rfl (hb hby d3_52) rfl rfl ?_
    exact kt)
  obtain ⟨T23, h23, X23, e23, W23, st23⟩ := putF X15 hx hZ hown (host := "") (Or.inl (hw _ (List.mem_of_getElem? (i := 25) rfl))) Via.refl e15 F_v_18 E_a_16 (Or.inr ⟨(hw _ (List.mem_of_getElem? (i := 21) rfl)), rfl, hnm⟩) (hw _ (List.mem_of_getElem? (i := 6) rfl)) (ty := (.array .byte)) (by decide) rfl rfl (g := (mkF m 54 #[.val (.ref a), .val (.ref ca), .val (.int (0 : Int32)), .val (.int (1 : Int32)), .val .null, .val (.ref va)] [(.ref va), (.ref a)])) rfl rfl (hb hby d3_54)
  have pre23s : ∀ tg, Steps p.tables e below (T23.setTop (mkF m 57 #[.val (.ref a), .val (.ref ca), .val (.int (0 : Int32)), .val (.int (1 : Int32)), .val .null, .val (.ref va)] [])) tg → G tg := fun tg kt => pre22 tg (st23 tg kt)
  have E_a_24 := E_a_16.wr W23
  have F_c_25 := F_c_17.other W23 (Or.inr (slot_ne (Or.inr (hw _ (List.mem_of_getElem? (i := 22) rfl))) (Or.inr (hw _ (List.mem_of_getElem? (i := 21) rfl))) (by decide) (t := .byte) (t' := (.array .byte)) (by decide) (by decide)))
  have F_v_26 := F_v_18.same W23
  have V_c_27 := V_c_19.other W23 ne_a_c
  have V_v_28 := V_v_20.other W23 ne_v_a
  have Ol29 := Ol21.wr W23 O_a
  have N23 := Fr.snoc X23 N15 O_a
  have Z23 : n0 ≤ h23.size := Nat.le_trans Z15 (Keep.of_wr W23).1
  have K23 : Keep h0 h23 [a] := K15.wr W23 (Or.inl (List.mem_of_getElem? (i := 0) rfl))
  obtain ⟨fs, hr, hrun, hended, hW, hsame⟩ := X23.leave (v := none) (fun _ => rfl)
  subst hG
  refine ⟨_, _, pre23s _ ?_, hrun, hended, _, _, rfl, ?_, ⟨_, rfl⟩, hW, hsame.mono (by decide) (by decide)⟩
  · skip
    show Steps p.tables e below (T23.setTop (mkF m 57 #[.val (.ref a), .val (.ref ca), .val (.int (0 : Int32)), .val (.int (1 : Int32)), .val .null, .val (.ref va)] [])) _
    exact X23.returnOut hx Bd.returns (hb hby d3_57) hr
  · show Q_rmI_1 Z a ca kc y0 h0 n0 _ T23.heap _
    rw [e23]
    exact ⟨rfl, N23, K23, va, kv, _, F_c_25, F_v_26, V_v_28⟩
theorem pn_2 : plainName "java/lang/String" = true := by first | (simp [plainName, overriddenIn]; done) | decide +kernel
theorem ef_2_R_R (m : MethodId) (x0 : Addr) (x1 : Addr) : entryFrame m #[(.ref x0), (.ref x1)] 2 = mkF m 0 #[.val (.ref x0), .val (.ref x1)] [] := by first | (simp [entryFrame, mkF, argsToLocals, Value.category]; done) | rfl
theorem pd_3 : parseMethodDescriptor "([CIILjava/lang/Void;)V" = some ⟨[(.array .char), .int, .int, (.object "java/lang/Void")], none⟩ := by decide +kernel
theorem d2_0 : decode jdk_42_method_3_code 0 = .ok (.aload_n 0, 1) := by decide +kernel
theorem d2_1 : decode jdk_42_method_3_code 1 = .ok (.aload_n 1, 1) := by decide +kernel
theorem d2_2 : decode jdk_42_method_3_code 2 = .ok (.iconst 0, 1) := by decide +kernel
theorem d2_3 : decode jdk_42_method_3_code 3 = .ok (.aload_n 1, 1) := by decide +kernel
theorem d2_4 : decode jdk_42_method_3_code 4 = .ok (.arraylength, 1) := by decide +kernel
theorem d2_5 : decode jdk_42_method_3_code 5 = .ok (.aconst_null, 1) := by decide +kernel
theorem d2_6 : decode jdk_42_method_3_code 6 = .ok (.invokespecial 27, 3) := by decide +kernel
theorem d2_9 : decode jdk_42_method_3_code 9 = .ok (.return_, 1) := by decide +kernel
def Q_rmJ_1 (Z : State) (a ca : Addr) (kc : ClassId) (y0 : Int32) (h0 : Heap) (n0 : Nat) (v : Option Value) (h : Heap) (L : List Loc) : Prop := v = none ∧ Fr n0 L ∧ Keep h0 h [a] ∧ own_s Z h a (1 : Int32)
set_option maxRecDepth 65536 in
set_option maxHeartbeats 40000000 in
theorem rmJ_1 (l : Launch) (Z : State) (a0 : Array Value) (hw : ∀ d ∈ tables_1, d.before a0 Z = true) (ws : List Jvm.Cond) (a ca : Addr) (kc : ClassId) (y0 : Int32) (h0 : Heap) (n0 : Nat) (Z0 : n0 ≤ h0.size) (hs : own_st Z) (Ol : Old Z n0 h0) (E_a : Exa Z h0 a "java/lang/String") (F_c : Fld Z h0 a "java/lang/String" "coder" "B" (.int (0 : Int32))) (F_v : Fld Z h0 a "java/lang/String" "value" "[B" .null) (O_a : n0 ≤ a) (ne_a_c : ca ≠ a) (V_c : Arv Z h0 ca kc .char (1 : Int32) [(.int y0)] (.int (0 : Int32))) (hy0 : own_y y0) :
    MetFree l (⟨"java/lang/String", "<init>", "([C)V"⟩ : MethodName) (head1 (Jvm.Cond.code (⟨"java/lang/String", "<init>", "([C)V"⟩ : MethodName) jdk_42_method_3_code 2 none :: ws) ({ frames := 3, cells := 1, slots := 1, locals := 72 } : Room)) (fun argv U => argv = #[(.ref a), (.ref ca)] ∧ Z.Warmed39 U.vm ∧ U.heap = h0) (fun _ _ _ _ _ => True) (fun _ U o U' => ∃ v L, o = .returned v ∧ Q_rmJ_1 Z a ca kc y0 h0 n0 v U'.heap L ∧ FrameEnd U o U' L ({ frames := 3, cells := 1, slots := 1, locals := 72 } : Room).cells ({ frames := 3, cells := 1, slots := 1, locals := 72 } : Room).slots) := by
  refine MetFree.of_bodySF (plainFor_of_name pn_2) hisR ?_
  intro p e s m args below meth c s₁ Bd hml0 hP hK
  obtain ⟨rfl, hZ, hh⟩ := hP
  have hx := Bd.exec
  have hby := Bd.bytes
  have hml : c.maxLocals = 2 := hml0
  have hown : s.vm.findClass "java/lang/String" = some m.cls := findClass_of_methodNamed Bd.named
  have hnm := (name_of_methodNamed Bd.named Bd.method).1
  have X0 : Stand p l e ({ frames := 3, cells := 1, slots := 1, locals := 72 } : Room) s m #[(.ref a), (.ref ca)] below meth c s₁ [] 0 0 := Stand.of_body Bd
  have e0 : s₁.heap = h0 := by rw [← hh, Bd.state]; rfl
  have N0 := Fr.nil n0
  obtain ⟨G, hG⟩ : ∃ G : State → Prop, G = fun tg => Steps p.tables e below (s₁.setTop (entryFrame m #[(.ref a), (.ref ca)] 2)) tg := ⟨_, rfl⟩
  have pre0 : ∀ tg, Steps p.tables e below (s₁.setTop (mkF m 0 #[.val (.ref a), .val (.ref ca)] [])) tg → G tg := fun tg kt => by rw [hG]; exact castTop (ef_2_R_R m a ca) kt
  have pre1 : ∀ tg, Steps p.tables e below (s₁.setTop (mkF m 4 #[.val (.ref a), .val (.ref ca)] [(.ref ca), (.int (0 : Int32)), (.ref ca), (.ref a)])) tg → G tg := fun tg kt => pre0 tg (by
    show Steps p.tables e below (s₁.setTop (mkF m 0 #[.val (.ref a), .val (.ref ca)] [])) _
    refine XS.aloadN X0.here hx rfl (hb hby d2_0) rfl rfl ?_
    show Steps p.tables e below (s₁.setTop (mkF m 1 #[.val (.ref a), .val (.ref ca)] [(.ref a)])) _
    refine XS.aloadN X0.here hx rfl (hb hby d2_1) rfl rfl ?_
    show Steps p.tables e below (s₁.setTop (mkF m 2 #[.val (.ref a), .val (.ref ca)] [(.ref ca), (.ref a)])) _
    refine XS.iconst X0.here hx rfl (hb hby d2_2) ?_
    show Steps p.tables e below (s₁.setTop (mkF m 3 #[.val (.ref a), .val (.ref ca)] [(.int (0 : Int32)), (.ref ca), (.ref a)])) _
    refine XS.aloadN X0.here hx rfl (hb hby d2_3) rfl rfl ?_
    exact kt)
  have op_2 := V_c
  obtain ⟨cl_2, Ar_2, q_2, S_2, Ng_2, H_2, G_2⟩ := op_2
  have pre3 : ∀ tg, Steps p.tables e below (s₁.setTop (mkF m 6 #[.val (.ref a), .val (.ref ca)] [.null, (.int (1 : Int32)), (.int (0 : Int32)), (.ref ca), (.ref a)])) tg → G tg := fun tg kt => pre1 tg (by
    show Steps p.tables e below (s₁.setTop (mkF m 4 #[.val (.ref a), .val (.ref ca)] [(.ref ca), (.int (0 : Int32)), (.ref ca), (.ref a)])) _
    refine X0.arraylength hx (by rw [e0]; exact Ar_2.1) (State.isArrayOf_alike hZ.alike Ar_2.2.1) (g := (mkF m 4 #[.val (.ref a), .val (.ref ca)] [(.ref ca), (.int (0 : Int32)), (.ref ca), (.ref a)])) rfl rfl (hb hby d2_4) _ ?_
    rw [len_of S_2 Ng_2]
    show Steps p.tables e below (s₁.setTop (mkF m 5 #[.val (.ref a), .val (.ref ca)] [(.int (1 : Int32)), (.int (0 : Int32)), (.ref ca), (.ref a)])) _
    refine XS.aconstNull X0.here hx rfl (hb hby d2_5) ?_
    exact kt)
  obtain ⟨_, _, ⟨T4, L4, k4, n4⟩, -, X4, ⟨Lc4, hQ4, l4, y4, z4⟩, st4⟩ := X0.specialBack hx (y := (⟨"java/lang/String", "<init>", "([CIILjava/lang/Void;)V"⟩ : MethodName)) rfl hown (mvT hZ (hw _ (List.mem_of_getElem? (i := 12) rfl))) (mvT hZ (hw _ (List.mem_of_getElem? (i := 13) rfl))) (mvT hZ (hw _ (List.mem_of_getElem? (i := 15) rfl))) (by decide) (backOf (W := 0) (rmI_1 l Z a0 hw [] a ca kc y0 h0 n0 Z0 hs Ol E_a F_c F_v O_a ne_a_c V_c hy0) hZ (hw _ (List.mem_of_getElem? (i := 15) rfl)) (hw _ (List.mem_of_getElem? (i := 7) rfl)) (by decide) (by decide)) (g := (mkF m 6 #[.val (.ref a), .val (.ref ca)] [.null, (.int (1 : Int32)), (.int (0 : Int32)), (.ref ca), (.ref a)])) rfl (by rw [hml]; rfl) (Steps.refl _) (a := a) (argsL := [(.ref ca), (.int (0 : Int32)), (.int (1 : Int32)), .null]) (rest := []) (lenOf pd_3 rfl) rfl (by show 2 * 0 + _ ≤ _; exact Nat.le_of_eq rfl) (hb hby d2_6) (fun _ _ => ⟨rfl, e0, (Nat.le_of_ble_eq_true rfl), (Nat.le_of_ble_eq_true rfl)⟩)
  dsimp only [Pt.U, Pt.locs, Pt.cells, Pt.slots] at X4 l4 y4 z4 st4 hQ4
  subst l4 y4 z4
  obtain ⟨rfl, N4q, K4, Tx⟩ := hQ4
  have N4 := Fr.app N0 N4q
  have pre4s : ∀ tg, Steps p.tables e below (T4.setTop (mkF m 9 #[.val (.ref a), .val (.ref ca)] [])) tg → G tg := fun tg kt => pre3 tg (st4.trans kt)
  have Z4 : n0 ≤ T4.heap.size := Nat.le_trans Z0 K4.1
  have E_a_5 := E_a.keep K4
  have V_c_6 := V_c.keep K4 (ninS ne_a_c nin0)
  have Ol7 := Ol.keep K4 (allS O_a all0)
  have KK4 : Keep h0 T4.heap [a] := (Keep.refl h0 [a]).trans K4 (allS (Or.inl (List.mem_of_getElem? (i := 0) rfl)) all0)
  obtain ⟨fs, hr, hrun, hended, hW, hsame⟩ := X4.leave (v := none) (fun _ => rfl)
  subst hG
  refine ⟨_, _, pre4s _ ?_, hrun, hended, _, _, rfl, ?_, ⟨_, rfl⟩, hW, hsame.mono (by decide) (by decide)⟩
  · skip
    show Steps p.tables e below (T4.setTop (mkF m 9 #[.val (.ref a), .val (.ref ca)] [])) _
    exact X4.returnOut hx Bd.returns (hb hby d2_9) hr
  · show Q_rmJ_1 Z a ca kc y0 h0 n0 _ T4.heap _
    exact ⟨rfl, N4, KK4, Tx⟩
def Q_rmC_2 (Z : State) (ca va : Addr) (kc kv : ClassId) (y0 y1 : Int32) (h0 : Heap) (n0 : Nat) (v : Option Value) (h : Heap) (L : List Loc) : Prop := v = some (.int (2 : Int32)) ∧ Fr n0 L ∧ Keep h0 h [va] ∧ Arv Z h va kv .byte (2 : Int32) [(.int (y0.toInt8.toInt32.toInt8.toInt32)), (.int (y1.toInt8.toInt32.toInt8.toInt32))] (.int (0 : Int32))
set_option maxRecDepth 65536 in
set_option maxHeartbeats 40000000 in
theorem rmC_2 (l : Launch) (Z : State) (a0 : Array Value) (hw : ∀ d ∈ tables_1, d.before a0 Z = true) (ws : List Jvm.Cond) (ca va : Addr) (kc kv : ClassId) (y0 y1 : Int32) (h0 : Heap) (n0 : Nat) (Z0 : n0 ≤ h0.size) (V_c : Arv Z h0 ca kc .char (2 : Int32) [(.int y0), (.int y1)] (.int (0 : Int32))) (V_v : Arv Z h0 va kv .byte (2 : Int32) [(.int (0 : Int32)), (.int (0 : Int32))] (.int (0 : Int32))) (O_va : n0 ≤ va) (ne_c_v : ca ≠ va) (hy0 : own_y y0) (hy1 : own_y y1) :
    MetFree l (⟨"java/lang/StringUTF16", "compress", "([CI[BII)I"⟩ : MethodName) (head1 (Jvm.Cond.code (⟨"java/lang/StringUTF16", "compress", "([CI[BII)I"⟩ : MethodName) jdk_52_method_21_code 7 (some .int) :: ws) ({ frames := 0, cells := 0, slots := 0, locals := 0 } : Room)) (fun argv U => argv = #[(.ref ca), (.int (0 : Int32)), (.ref va), (.int (0 : Int32)), (.int (2 : Int32))] ∧ Z.Warmed39 U.vm ∧ U.heap = h0) (fun _ _ _ _ _ => True) (fun _ U o U' => ∃ v L, o = .returned v ∧ Q_rmC_2 Z ca va kc kv y0 y1 h0 n0 v U'.heap L ∧ FrameEnd U o U' L ({ frames := 0, cells := 0, slots := 0, locals := 0 } : Room).cells ({ frames := 0, cells := 0, slots := 0, locals := 0 } : Room).slots) := by
  refine MetFree.of_bodySF (plainFor_of_name pn_7) hisR ?_
  intro p e s m args below meth c s₁ Bd hml0 hP hK
  obtain ⟨rfl, hZ, hh⟩ := hP
  have hx := Bd.exec
  have hby := Bd.bytes
  have hml : c.maxLocals = 7 := hml0
  have hown : s.vm.findClass "java/lang/StringUTF16" = some m.cls := findClass_of_methodNamed Bd.named
  have hnm := (name_of_methodNamed Bd.named Bd.method).1
  have X0 : Stand p l e ({ frames := 0, cells := 0, slots := 0, locals := 0 } : Room) s m #[(.ref ca), (.int (0 : Int32)), (.ref va), (.int (0 : Int32)), (.int (2 : Int32))] below meth c s₁ [] 0 0 := Stand.of_body Bd
  have e0 : s₁.heap = h0 := by rw [← hh, Bd.state]; rfl
  have N0 := Fr.nil n0
  obtain ⟨G, hG⟩ : ∃ G : State → Prop, G = fun tg => Steps p.tables e below (s₁.setTop (entryFrame m #[(.ref ca), (.int (0 : Int32)), (.ref va), (.int (0 : Int32)), (.int (2 : Int32))] 7)) tg := ⟨_, rfl⟩
  have pre0 : ∀ tg, Steps p.tables e below (s₁.setTop (mkF m 0 #[.val (.ref ca), .val (.int (0 : Int32)), .val (.ref va), .val (.int (0 : Int32)), .val (.int (2 : Int32)), .unset, .unset] [])) tg → G tg := fun tg kt => by rw [hG]; exact castTop (ef_7_R_I_R_I_I m ca (0 : Int32) va (0 : Int32) (2 : Int32)) kt
  have pre1 : ∀ tg, Steps p.tables e below (s₁.setTop (mkF m 12 #[.val (.ref ca), .val (.int (0 : Int32)), .val (.ref va), .val (.int (0 : Int32)), .val (.int (2 : Int32)), .val (.int (0 : Int32)), .unset] [(.int (0 : Int32)), (.ref ca)])) tg → G tg := fun tg kt => pre0 tg (by
    show Steps p.tables e below (s₁.setTop (mkF m 0 #[.val (.ref ca), .val (.int (0 : Int32)), .val (.ref va), .val (.int (0 : Int32)), .val (.int (2 : Int32)), .unset, .unset] [])) _
    refine XS.iconst X0.here hx rfl (hb hby d7_0) ?_
    show Steps p.tables e below (s₁.setTop (mkF m 1 #[.val (.ref ca), .val (.int (0 : Int32)), .val (.ref va), .val (.int (0 : Int32)), .val (.int (2 : Int32)), .unset, .unset] [(.int (0 : Int32))])) _
    refine XS.istore X0.here hx rfl (hb hby d7_1) rfl (l' := #[.val (.ref ca), .val (.int (0 : Int32)), .val (.ref va), .val (.int (0 : Int32)), .val (.int (2 : Int32)), .val (.int (0 : Int32)), .unset]) rfl ?_
    show Steps p.tables e below (s₁.setTop (mkF m 3 #[.val (.ref ca), .val (.int (0 : Int32)), .val (.ref va), .val (.int (0 : Int32)), .val (.int (2 : Int32)), .val (.int (0 : Int32)), .unset] [])) _
    refine XS.iload X0.here hx rfl (hb hby d7_3) rfl ?_
    show Steps p.tables e below (s₁.setTop (mkF m 5 #[.val (.ref ca), .val (.int (0 : Int32)), .val (.ref va), .val (.int (0 : Int32)), .val (.int (2 : Int32)), .val (.int (0 : Int32)), .unset] [(.int (0 : Int32))])) _
    refine XS.iload X0.here hx rfl (hb hby d7_5) rfl ?_
    show Steps p.tables e below (s₁.setTop (mkF m 7 #[.val (.ref ca), .val (.int (0 : Int32)), .val (.ref va), .val (.int (0 : Int32)), .val (.int (2 : Int32)), .val (.int (0 : Int32)), .unset] [(.int (2 : Int32)), (.int (0 : Int32))])) _
    refine XS.icmpNo X0.here hx rfl (hb hby d7_7) rfl (tlt (by decide : (0 : Int32) < (2 : Int32))).2.1 ?_
    show Steps p.tables e below (s₁.setTop (mkF m 10 #[.val (.ref ca), .val (.int (0 : Int32)), .val (.ref va), .val (.int (0 : Int32)), .val (.int (2 : Int32)), .val (.int (0 : Int32)), .unset] [])) _
    refine XS.aloadN X0.here hx rfl (hb hby d7_10) rfl rfl ?_
    show Steps p.tables e below (s₁.setTop (mkF m 11 #[.val (.ref ca), .val (.int (0 : Int32)), .val (.ref va), .val (.int (0 : Int32)), .val (.int (2 : Int32)), .val (.int (0 : Int32)), .unset] [(.ref ca)])) _
    refine XS.iloadN X0.here hx rfl (hb hby d7_11) rfl ?_
    exact kt)
  have op_2 := V_c
  obtain ⟨cl_2, Ar_2, q_2, S_2, Ng_2, H_2, G_2⟩ := op_2
  have hin_2 : ¬ ((0 : Int32) < 0 ∨ cl_2.slots.size ≤ ((0 : Int32)).toNatClampNeg) := inb_of S_2 ⟨by decide, by decide⟩
  have pre3 : ∀ tg, Steps p.tables e below (s₁.setTop (mkF m 31 #[.val (.ref ca), .val (.int (0 : Int32)), .val (.ref va), .val (.int (0 : Int32)), .val (.int (2 : Int32)), .val (.int (0 : Int32)), .val (.int y0)] [(.int (y0.toInt8.toInt32)), (.int (0 : Int32)), (.ref va)])) tg → G tg := fun tg kt => pre1 tg (by
    show Steps p.tables e below (s₁.setTop (mkF m 12 #[.val (.ref ca), .val (.int (0 : Int32)), .val (.ref va), .val (.int (0 : Int32)), .val (.int (2 : Int32)), .val (.int (0 : Int32)), .unset] [(.int (0 : Int32)), (.ref ca)])) _
    refine X0.caload hx (j := (0 : Int32)) (v := (.int y0)) (by rw [e0]; exact Ar_2.1) (State.isArrayOf_alike hZ.alike Ar_2.2.1) Ar_2.2.2 hin_2 (H_2.at hin_2 rfl) (g := (mkF m 12 #[.val (.ref ca), .val (.int (0 : Int32)), .val (.ref va), .val (.int (0 : Int32)), .val (.int (2 : Int32)), .val (.int (0 : Int32)), .unset] [(.int (0 : Int32)), (.ref ca)])) rfl rfl (hb hby d7_12) _ ?_
    show Steps p.tables e below (s₁.setTop (mkF m 13 #[.val (.ref ca), .val (.int (0 : Int32)), .val (.ref va), .val (.int (0 : Int32)), .val (.int (2 : Int32)), .val (.int (0 : Int32)), .unset] [(.int y0)])) _
    refine XS.istore X0.here hx rfl (hb hby d7_13) rfl (l' := #[.val (.ref ca), .val (.int (0 : Int32)), .val (.ref va), .val (.int (0 : Int32)), .val (.int (2 : Int32)), .val (.int (0 : Int32)), .val (.int y0)]) rfl ?_
    show Steps p.tables e below (s₁.setTop (mkF m 15 #[.val (.ref ca), .val (.int (0 : Int32)), .val (.ref va), .val (.int (0 : Int32)), .val (.int (2 : Int32)), .val (.int (0 : Int32)), .val (.int y0)] [])) _
    refine XS.iload X0.here hx rfl (hb hby d7_15) rfl ?_
    show Steps p.tables e below (s₁.setTop (mkF m 17 #[.val (.ref ca), .val (.int (0 : Int32)), .val (.ref va), .val (.int (0 : Int32)), .val (.int (2 : Int32)), .val (.int (0 : Int32)), .val (.int y0)] [(.int y0)])) _
    refine XS.sipush X0.here hx rfl (hb hby d7_17) ?_
    show Steps p.tables e below (s₁.setTop (mkF m 20 #[.val (.ref ca), .val (.int (0 : Int32)), .val (.ref va), .val (.int (0 : Int32)), .val (.int (2 : Int32)), .val (.int (0 : Int32)), .val (.int y0)] [(.int (255 : Int32)), (.int y0)])) _
    refine XS.icmpYes X0.here hx rfl (pc0 := 20) (pc' := 26) rfl (hb hby d7_20) rfl (flt (own_gt hy0)).2.2.2 (by decide) (by decide) ?_
    show Steps p.tables e below (s₁.setTop (mkF m 26 #[.val (.ref ca), .val (.int (0 : Int32)), .val (.ref va), .val (.int (0 : Int32)), .val (.int (2 : Int32)), .val (.int (0 : Int32)), .val (.int y0)] [])) _
    refine XS.aloadN X0.here hx rfl (hb hby d7_26) rfl rfl ?_
    show Steps p.tables e below (s₁.setTop (mkF m 27 #[.val (.ref ca), .val (.int (0 : Int32)), .val (.ref va), .val (.int (0 : Int32)), .val (.int (2 : Int32)), .val (.int (0 : Int32)), .val (.int y0)] [(.ref va)])) _
    refine XS.iloadN X0.here hx rfl (hb hby d7_27) rfl ?_
    show Steps p.tables e below (s₁.setTop (mkF m 28 #[.val (.ref ca), .val (.int (0 : Int32)), .val (.ref va), .val (.int (0 : Int32)), .val (.int (2 : Int32)), .val (.int (0 : Int32)), .val (.int y0)] [(.int (0 : Int32)), (.ref va)])) _
    refine XS.iload X0.here hx rfl (hb hby d7_28) rfl ?_
    show Steps p.tables e below (s₁.setTop (mkF m 30 #[.val (.ref ca), .val (.int (0 : Int32)), .val (.ref va), .val (.int (0 : Int32)), .val (.int (2 : Int32)), .val (.int (0 : Int32)), .val (.int y0)] [(.int y0), (.int (0 : Int32)), (.ref va)])) _
    refine XS.i2b X0.here hx rfl (hb hby d7_30) rfl ?_
    exact kt)
  have op_4 := V_v
  obtain ⟨cl_4, Ar_4, q_4, S_4, Ng_4, H_4, G_4⟩ := op_4
  have hin_4 : ¬ ((0 : Int32) < 0 ∨ cl_4.slots.size ≤ ((0 : Int32)).toNatClampNeg) := inb_of S_4 ⟨by decide, by decide⟩
  obtain ⟨T4, h4, X4, e4, W4, st4⟩ := stB X0 hx hZ e0 Ar_4 (j := (0 : Int32)) hin_4 (g := (mkF m 31 #[.val (.ref ca), .val (.int (0 : Int32)), .val (.ref va), .val (.int (0 : Int32)), .val (.int (2 : Int32)), .val (.int (0 : Int32)), .val (.int y0)] [(.int (y0.toInt8.toInt32)), (.int (0 : Int32)), (.ref va)])) rfl rfl (hb hby d7_31)
  have pre4s : ∀ tg, Steps p.tables e below (T4.setTop (mkF m 32 #[.val (.ref ca), .val (.int (0 : Int32)), .val (.ref va), .val (.int (0 : Int32)), .val (.int (2 : Int32)), .val (.int (0 : Int32)), .val (.int y0)] [])) tg → G tg := fun tg kt => pre3 tg (st4 tg kt)
  have V_c_5 := V_c.other W4 ne_c_v
  have V4_va : Arv Z h4 va kv .byte (2 : Int32) [(.int (y0.toInt8.toInt32.toInt8.toInt32)), (.int (0 : Int32))] (.int (0 : Int32)) := Arv.set Ar_4 q_4 S_4 Ng_4 H_4 G_4 (fits_nar_byte _) W4 0 rfl (Nat.le_of_ble_eq_true rfl)
  have N4 := Fr.snoc X4 N0 O_va
  have Z4 : n0 ≤ h4.size := Nat.le_trans Z0 (Keep.of_wr W4).1
  have K4 : Keep h0 h4 [va] := (Keep.refl h0 [va]).wr W4 (Or.inl (List.mem_of_getElem? (i := 0) rfl))
  have pre6 : ∀ tg, Steps p.tables e below (T4.setTop (mkF m 12 #[.val (.ref ca), .val (.int (1 : Int32)), .val (.ref va), .val (.int (1 : Int32)), .val (.int (2 : Int32)), .val (.int (1 : Int32)), .val (.int y0)] [(.int (1 : Int32)), (.ref ca)])) tg → G tg := fun tg kt => pre4s tg (by
    show Steps p.tables e below (T4.setTop (mkF m 32 #[.val (.ref ca), .val (.int (0 : Int32)), .val (.ref va), .val (.int (0 : Int32)), .val (.int (2 : Int32)), .val (.int (0 : Int32)), .val (.int y0)] [])) _
    refine XS.iinc X4.here hx rfl (hb hby d7_32) rfl (l' := #[.val (.ref ca), .val (.int (1 : Int32)), .val (.ref va), .val (.int (0 : Int32)), .val (.int (2 : Int32)), .val (.int (0 : Int32)), .val (.int y0)]) rfl ?_
    show Steps p.tables e below (T4.setTop (mkF m 35 #[.val (.ref ca), .val (.int (1 : Int32)), .val (.ref va), .val (.int (0 : Int32)), .val (.int (2 : Int32)), .val (.int (0 : Int32)), .val (.int y0)] [])) _
    refine XS.iinc X4.here hx rfl (hb hby d7_35) rfl (l' := #[.val (.ref ca), .val (.int (1 : Int32)), .val (.ref va), .val (.int (1 : Int32)), .val (.int (2 : Int32)), .val (.int (0 : Int32)), .val (.int y0)]) rfl ?_
    show Steps p.tables e below (T4.setTop (mkF m 38 #[.val (.ref ca), .val (.int (1 : Int32)), .val (.ref va), .val (.int (1 : Int32)), .val (.int (2 : Int32)), .val (.int (0 : Int32)), .val (.int y0)] [])) _
    refine XS.iinc X4.here hx rfl (hb hby d7_38) rfl (l' := #[.val (.ref ca), .val (.int (1 : Int32)), .val (.ref va), .val (.int (1 : Int32)), .val (.int (2 : Int32)), .val (.int (1 : Int32)), .val (.int y0)]) rfl ?_
    show Steps p.tables e below (T4.setTop (mkF m 41 #[.val (.ref ca), .val (.int (1 : Int32)), .val (.ref va), .val (.int (1 : Int32)), .val (.int (2 : Int32)), .val (.int (1 : Int32)), .val (.int y0)] [])) _
    refine XS.goto X4.here hx rfl (pc0 := 41) (pc' := 3) rfl (hb hby d7_41) (by decide) (by decide) ?_
    show Steps p.tables e below (T4.setTop (mkF m 3 #[.val (.ref ca), .val (.int (1 : Int32)), .val (.ref va), .val (.int (1 : Int32)), .val (.int (2 : Int32)), .val (.int (1 : Int32)), .val (.int y0)] [])) _
    refine XS.iload X4.here hx rfl (hb hby d7_3) rfl ?_
    show Steps p.tables e below (T4.setTop (mkF m 5 #[.val (.ref ca), .val (.int (1 : Int32)), .val (.ref va), .val (.int (1 : Int32)), .val (.int (2 : Int32)), .val (.int (1 : Int32)), .val (.int y0)] [(.int (1 : Int32))])) _
    refine XS.iload X4.here hx rfl (hb hby d7_5) rfl ?_
    show Steps p.tables e below (T4.setTop (mkF m 7 #[.val (.ref ca), .val (.int (1 : Int32)), .val (.ref va), .val (.int (1 : Int32)), .val (.int (2 : Int32)), .val (.int (1 : Int32)), .val (.int y0)] [(.int (2 : Int32)), (.int (1 : Int32))])) _
    refine XS.icmpNo X4.here hx rfl (hb hby d7_7) rfl (tlt (by decide : (1 : Int32) < (2 : Int32))).2.1 ?_
    show Steps p.tables e below (T4.setTop (mkF m 10 #[.val (.ref ca), .val (.int (1 : Int32)), .val (.ref va), .val (.int (1 : Int32)), .val (.int (2 : Int32)), .val (.int (1 : Int32)), .val (.int y0)] [])) _
    refine XS.aloadN X4.here hx rfl (hb hby d7_10) rfl rfl ?_
    show Steps p.tables e below (T4.setTop (mkF m 11 #[.val (.ref ca), .val (.int (1 : Int32)), .val (.ref va), .val (.int (1 : Int32)), .val (.int (2 : Int32)), .val (.int (1 : Int32)), .val (.int y0)] [(.ref ca)])) _
    refine XS.iloadN X4.here hx rfl (hb hby d7_11) rfl ?_
    exact kt)
  have op_7 := V_c_5
  obtain ⟨cl_7, Ar_7, q_7, S_7, Ng_7, H_7, G_7⟩ := op_7
  have hin_7 : ¬ ((1 : Int32) < 0 ∨ cl_7.slots.size ≤ ((1 : Int32)).toNatClampNeg) := inb_of S_7 ⟨by decide, by decide⟩
  have pre8 : ∀ tg, Steps p.tables e below (T4.setTop (mkF m 31 #[.val (.ref ca), .val (.int (1 : Int32)), .val (.ref va), .val (.int (1 : Int32)), .val (.int (2 : Int32)), .val (.int (1 : Int32)), .val (.int y1)] [(.int (y1.toInt8.toInt32)), (.int (1 : Int32)), (.ref va)])) tg → G tg := fun tg kt => pre6 tg (by
    show Steps p.tables e below (T4.setTop (mkF m 12 #[.val (.ref ca), .val (.int (1 : Int32)), .val (.ref va), .val (.int (1 : Int32)), .val (.int (2 : Int32)), .val (.int (1 : Int32)), .val (.int y0)] [(.int (1 : Int32)), (.ref ca)])) _
    refine X4.caload hx (j := (1 : Int32)) (v := (.int y1)) (by rw [e4]; exact Ar_7.1) (State.isArrayOf_alike hZ.alike Ar_7.2.1) Ar_7.2.2 hin_7 (H_7.at hin_7 rfl) (g := (mkF m 12 #[.val (.ref ca), .val (.int (1 : Int32)), .val (.ref va), .val (.int (1 : Int32)), .val (.int (2 : Int32)), .val (.int (1 : Int32)), .val (.int y0)] [(.int (1 : Int32)), (.ref ca)])) rfl rfl (hb hby d7_12) _ ?_
    show Steps p.tables e below (T4.setTop (mkF m 13 #[.val (.ref ca), .val (.int (1 : Int32)), .val (.ref va), .val (.int (1 : Int32)), .val (.int (2 : Int32)), .val (.int (1 : Int32)), .val (.int y0)] [(.int y1)])) _
    refine XS.istore X4.here hx rfl (hb hby d7_13) rfl (l' := #[.val (.ref ca), .val (.int (1 : Int32)), .val (.ref va), .val (.int (1 : Int32)), .val (.int (2 : Int32)), .val (.int (1 : Int32)), .val (.int y1)]) rfl ?_
    show Steps p.tables e below (T4.setTop (mkF m 15 #[.val (.ref ca), .val (.int (1 : Int32)), .val (.ref va), .val (.int (1 : Int32)), .val (.int (2 : Int32)), .val (.int (1 : Int32)), .val (.int y1)] [])) _
    refine XS.iload X4.here hx rfl (hb hby d7_15) rfl ?_
    show Steps p.tables e below (T4.setTop (mkF m 17 #[.val (.ref ca), .val (.int (1 : Int32)), .val (.ref va), .val (.int (1 : Int32)), .val (.int (2 : Int32)), .val (.int (1 : Int32)), .val (.int y1)] [(.int y1)])) _
    refine XS.sipush X4.here hx rfl (hb hby d7_17) ?_
    show Steps p.tables e below (T4.setTop (mkF m 20 #[.val (.ref ca), .val (.int (1 : Int32)), .val (.ref va), .val (.int (1 : Int32)), .val (.int (2 : Int32)), .val (.int (1 : Int32)), .val (.int y1)] [(.int (255 : Int32)), (.int y1)])) _
    refine XS.icmpYes X4.here hx rfl (pc0 := 20) (pc' := 26) rfl (hb hby d7_20) rfl (flt (own_gt hy1)).2.2.2 (by decide) (by decide) ?_
    show Steps p.tables e below (T4.setTop (mkF m 26 #[.val (.ref ca), .val (.int (1 : Int32)), .val (.ref va), .val (.int (1 : Int32)), .val (.int (2 : Int32)), .val (.int (1 : Int32)), .val (.int y1)] [])) _
    refine XS.aloadN X4.here hx rfl (hb hby d7_26) rfl rfl ?_
    show Steps p.tables e below (T4.setTop (mkF m 27 #[.val (.ref ca), .val (.int (1 : Int32)), .val (.ref va), .val (.int (1 : Int32)), .val (.int (2 : Int32)), .val (.int (1 : Int32)), .val (.int y1)] [(.ref va)])) _
    refine XS.iloadN X4.here hx rfl (hb hby d7_27) rfl ?_
    show Steps p.tables e below (T4.setTop (mkF m 28 #[.val (.ref ca), .val (.int (1 : Int32)), .val (.ref va), .val (.int (1 : Int32)), .val (.int (2 : Int32)), .val (.int (1 : Int32)), .val (.int y1)] [(.int (1 : Int32)), (.ref va)])) _
    refine XS.iload X4.here hx rfl (hb hby d7_28) rfl ?_
    show Steps p.tables e below (T4.setTop (mkF m 30 #[.val (.ref ca), .val (.int (1 : Int32)), .val (.ref va), .val (.int (1 : Int32)), .val (.int (2 : Int32)), .val (.int (1 : Int32)), .val (.int y1)] [(.int y1), (.int (1 : Int32)), (.ref va)])) _
    refine XS.i2b X4.here hx rfl (hb hby d7_30) rfl ?_
    exact kt)
  have op_9 := V4_va
  obtain ⟨cl_9, Ar_9, q_9, S_9, Ng_9, H_9, G_9⟩ := op_9
  have hin_9 : ¬ ((1 : Int32) < 0 ∨ cl_9.slots.size ≤ ((1 : Int32)).toNatClampNeg) := inb_of S_9 ⟨by decide, by decide⟩
  obtain ⟨T9, h9, X9, e9, W9, st9⟩ := stB X4 hx hZ e4 Ar_9 (j := (1 : Int32)) hin_9 (g := (mkF m 31 #[.val (.ref ca), .val (.int (1 : Int32)), .val (.ref va), .val (.int (1 : Int32)), .val (.int (2 : Int32)), .val (.int (1 : Int32)), .val (.int y1)] [(.int (y1.toInt8.toInt32)), (.int (1 : Int32)), (.ref va)])) rfl rfl (hb hby d7_31)
  have pre9s : ∀ tg, Steps p.tables e below (T9.setTop (mkF m 32 #[.val (.ref ca), .val (.int (1 : Int32)), .val (.ref va), .val (.int (1 : Int32)), .val (.int (2 : Int32)), .val (.int (1 : Int32)), .val (.int y1)] [])) tg → G tg := fun tg kt => pre8 tg (st9 tg kt)
  have V_c_10 := V_c_5.other W9 ne_c_v
  have V9_va : Arv Z h9 va kv .byte (2 : Int32) [(.int (y0.toInt8.toInt32.toInt8.toInt32)), (.int (y1.toInt8.toInt32.toInt8.toInt32))] (.int (0 : Int32)) := Arv.set Ar_9 q_9 S_9 Ng_9 H_9 G_9 (fits_nar_byte _) W9 1 rfl (Nat.le_of_ble_eq_true rfl)
  have N9 := Fr.snoc X9 N4 O_va
  have Z9 : n0 ≤ h9.size := Nat.le_trans Z4 (Keep.of_wr W9).1
  have K9 : Keep h0 h9 [va] := K4.wr W9 (Or.inl (List.mem_of_getElem? (i := 0) rfl))
  obtain ⟨fs, hr, hrun, hended, hW, hsame⟩ := X9.leave (v := some (.int (2 : Int32))) (fun h => by rw [Bd.returns] at h; cases h)
  subst hG
  refine ⟨_, _, pre9s _ ?_, hrun, hended, _, _, rfl, ?_, ⟨_, rfl⟩, hW, hsame.mono (by decide) (by decide)⟩
  · skip
    show Steps p.tables e below (T9.setTop (mkF m 32 #[.val (.ref ca), .val (.int (1 : Int32)), .val (.ref va), .val (.int (1 : Int32)), .val (.int (2 : Int32)), .val (.int (1 : Int32)), .val (.int y1)] [])) _
    refine XS.iinc X9.here hx rfl (hb hby d7_32) rfl (l' := #[.val (.ref ca), .val (.int (2 : Int32)), .val (.ref va), .val (.int (1 : Int32)), .val (.int (2 : Int32)), .val (.int (1 : Int32)), .val (.int y1)]) rfl ?_
    show Steps p.tables e below (T9.setTop (mkF m 35 #[.val (.ref ca), .val (.int (2 : Int32)), .val (.ref va), .val (.int (1 : Int32)), .val (.int (2 : Int32)), .val (.int (1 : Int32)), .val (.int y1)] [])) _
    refine XS.iinc X9.here hx rfl (hb hby d7_35) rfl (l' := #[.val (.ref ca), .val (.int (2 : Int32)), .val (.ref va), .val (.int (2 : Int32)), .val (.int (2 : Int32)), .val (.int (1 : Int32)), .val (.int y1)]) rfl ?_
    show Steps p.tables e below (T9.setTop (mkF m 38 #[.val (.ref ca), .val (.int (2 : Int32)), .val (.ref va), .val (.int (2 : Int32)), .val (.int (2 : Int32)), .val (.int (1 : Int32)), .val (.int y1)] [])) _
    refine XS.iinc X9.here hx rfl (hb hby d7_38) rfl (l' := #[.val (.ref ca), .val (.int (2 : Int32)), .val (.ref va), .val (.int (2 : Int32)), .val (.int (2 : Int32)), .val (.int (2 : Int32)), .val (.int y1)]) rfl ?_
    show Steps p.tables e below (T9.setTop (mkF m 41 #[.val (.ref ca), .val (.int (2 : Int32)), .val (.ref va), .val (.int (2 : Int32)), .val (.int (2 : Int32)), .val (.int (2 : Int32)), .val (.int y1)] [])) _
    refine XS.goto X9.here hx rfl (pc0 := 41) (pc' := 3) rfl (hb hby d7_41) (by decide) (by decide) ?_
    show Steps p.tables e below (T9.setTop (mkF m 3 #[.val (.ref ca), .val (.int (2 : Int32)), .val (.ref va), .val (.int (2 : Int32)), .val (.int (2 : Int32)), .val (.int (2 : Int32)), .val (.int y1)] [])) _
    refine XS.iload X9.here hx rfl (hb hby d7_3) rfl ?_
    show Steps p.tables e below (T9.setTop (mkF m 5 #[.val (.ref ca), .val (.int (2 : Int32)), .val (.ref va), .val (.int (2 : Int32)), .val (.int (2 : Int32)), .val (.int (2 : Int32)), .val (.int y1)] [(.int (2 : Int32))])) _
    refine XS.iload X9.here hx rfl (hb hby d7_5) rfl ?_
    show Steps p.tables e below (T9.setTop (mkF m 7 #[.val (.ref ca), .val (.int (2 : Int32)), .val (.ref va), .val (.int (2 : Int32)), .val (.int (2 : Int32)), .val (.int (2 : Int32)), .val (.int y1)] [(.int (2 : Int32)), (.int (2 : Int32))])) _
    refine XS.icmpYes X9.here hx rfl (pc0 := 7) (pc' := 44) rfl (hb hby d7_7) rfl (flt (by decide : ¬ ((2 : Int32) < (2 : Int32)))).2.1 (by decide) (by decide) ?_
    show Steps p.tables e below (T9.setTop (mkF m 44 #[.val (.ref ca), .val (.int (2 : Int32)), .val (.ref va), .val (.int (2 : Int32)), .val (.int (2 : Int32)), .val (.int (2 : Int32)), .val (.int y1)] [])) _
    refine XS.iload X9.here hx rfl (hb hby d7_44) rfl ?_
    show Steps p.tables e below (T9.setTop (mkF m 46 #[.val (.ref ca), .val (.int (2 : Int32)), .val (.ref va), .val (.int (2 : Int32)), .val (.int (2 : Int32)), .val (.int (2 : Int32)), .val (.int y1)] [(.int (2 : Int32))])) _
    exact retI X9 hx Bd.returns (hb hby d7_46) hr
  · show Q_rmC_2 Z ca va kc kv y0 y1 h0 n0 _ T9.heap _
    rw [e9]
    exact ⟨rfl, N9, K9, V9_va⟩
def Q_rmD_2 (Z : State) (ca : Addr) (kc : ClassId) (y0 y1 : Int32) (h0 : Heap) (n0 : Nat) (v : Option Value) (h : Heap) (L : List Loc) : Prop := ∃ (va : Addr) (kv : ClassId), v = some (.ref va) ∧ Fr n0 L ∧ Keep h0 h [] ∧ h0.size ≤ va ∧ Arv Z h va kv .byte (2 : Int32) [(.int (y0.toInt8.toInt32.toInt8.toInt32)), (.int (y1.toInt8.toInt32.toInt8.toInt32))] (.int (0 : Int32))
set_option maxRecDepth 65536 in
set_option maxHeartbeats 40000000 in
theorem rmD_2 (l : Launch) (Z : State) (a0 : Array Value) (hw : ∀ d ∈ tables_1, d.before a0 Z = true) (ws : List Jvm.Cond) (ca : Addr) (kc : ClassId) (y0 y1 : Int32) (h0 : Heap) (n0 : Nat) (Z0 : n0 ≤ h0.size) (V_c : Arv Z h0 ca kc .char (2 : Int32) [(.int y0), (.int y1)] (.int (0 : Int32))) (hy0 : own_y y0) (hy1 : own_y y1) :
    MetFree l (⟨"java/lang/StringUTF16", "compress", "([CII)[B"⟩ : MethodName) (head1 (Jvm.Cond.code (⟨"java/lang/StringUTF16", "compress", "([CII)[B"⟩ : MethodName) jdk_52_method_16_code 6 (some (.array .byte)) :: ws) ({ frames := 1, cells := 1, slots := 2, locals := 24 } : Room)) (fun argv U => argv = #[(.ref ca), (.int (0 : Int32)), (.int (2 : Int32))] ∧ Z.Warmed39 U.vm ∧ U.heap = h0) (fun _ _ _ _ _ => True) (fun _ U o U' => ∃ v L, o = .returned v ∧ Q_rmD_2 Z ca kc y0 y1 h0 n0 v U'.heap L ∧ FrameEnd U o U' L ({ frames := 1, cells := 1, slots := 2, locals := 24 } : Room).cells ({ frames := 1, cells := 1, slots := 2, locals := 24 } : Room).slots) := by
  refine MetFree.of_bodySF (plainFor_of_name pn_6) hisR ?_
  intro p e s m args below meth c s₁ Bd hml0 hP hK
  obtain ⟨rfl, hZ, hh⟩ := hP
  have hx := Bd.exec
  have hby := Bd.bytes
  have hml : c.maxLocals = 6 := hml0
  have hown : s.vm.findClass "java/lang/StringUTF16" = some m.cls := findClass_of_methodNamed Bd.named
  have hnm := (name_of_methodNamed Bd.named Bd.method).1
  have X0 : Stand p l e ({ frames := 1, cells := 1, slots := 2, locals := 24 } : Room) s m #[(.ref ca), (.int (0 : Int32)), (.int (2 : Int32))] below meth c s₁ [] 0 0 := Stand.of_body Bd
  have e0 : s₁.heap = h0 := by rw [← hh, Bd.state]; rfl
  have N0 := Fr.nil n0
  obtain ⟨G, hG⟩ : ∃ G : State → Prop, G = fun tg => Steps p.tables e below (s₁.setTop (entryFrame m #[(.ref ca), (.int (0 : Int32)), (.int (2 : Int32))] 6)) tg := ⟨_, rfl⟩
  have pre0 : ∀ tg, Steps p.tables e below (s₁.setTop (mkF m 0 #[.val (.ref ca), .val (.int (0 : Int32)), .val (.int (2 : Int32)), .unset, .unset, .unset] [])) tg → G tg := fun tg kt => by rw [hG]; exact castTop (ef_6_R_I_I m ca (0 : Int32) (2 : Int32)) kt
  have pre1 : ∀ tg, Steps p.tables e below (s₁.setTop (mkF m 1 #[.val (.ref ca), .val (.int (0 : Int32)), .val (.int (2 : Int32)), .unset, .unset, .unset] [(.int (2 : Int32))])) tg → G tg := fun tg kt => pre0 tg (by
    show Steps p.tables e below (s₁.setTop (mkF m 0 #[.val (.ref ca), .val (.int (0 : Int32)), .val (.int (2 : Int32)), .unset, .unset, .unset] [])) _
    refine XS.iloadN X0.here hx rfl (hb hby d6_0) rfl ?_
    exact kt)
  obtain ⟨T2, h2, k2, X2, e2, E2, A2, st2⟩ := newP X0 hx hZ (hw _ (List.mem_of_getElem? (i := 20) rfl)) e0 (g := (mkF m 1 #[.val (.ref ca), .val (.int (0 : Int32)), .val (.int (2 : Int32)), .unset, .unset, .unset] [(.int (2 : Int32))])) rfl (hb hby d6_1) rfl (by decide) (cap := 2) (by decide) (by decide) (by decide) (by decide)
  obtain ⟨va, g2⟩ : ∃ z, z = h0.size := ⟨_, rfl⟩
  rw [← g2] at A2 st2
  have O_va : n0 ≤ va := Nat.le_trans Z0 (Nat.le_of_eq g2.symm)
  have Z2 : n0 ≤ h2.size := Nat.le_trans Z0 E2.1
  have ne_ca_va : ca ≠ va := Nat.ne_of_lt (Nat.lt_of_lt_of_le V_c.lt (Nat.le_of_eq g2.symm))
  have S_va : h0.size ≤ va := Nat.le_trans (Keep.refl h0 []).1 (Nat.le_of_eq g2.symm)
  have pre2s : ∀ tg, Steps p.tables e below (T2.setTop (mkF m 3 #[.val (.ref ca), .val (.int (0 : Int32)), .val (.int (2 : Int32)), .unset, .unset, .unset] [(.ref va)])) tg → G tg := fun tg kt => pre1 tg (st2 tg kt)
  have V_c_3 := V_c.ext E2
  have V_va : Arv Z h2 va k2 .byte (2 : Int32) [(.int (0 : Int32)), (.int (0 : Int32))] (.int (0 : Int32)) := (Arv.new A2 (by decide)).pad (pad_rep [] (.int (0 : Int32)) 2)
  have K2 : Keep h0 h2 [] := (Keep.refl h0 []).ext E2
  have pre4 : ∀ tg, Steps p.tables e below (T2.setTop (mkF m 9 #[.val (.ref ca), .val (.int (0 : Int32)), .val (.int (2 : Int32)), .val (.ref va), .unset, .unset] [(.int (2 : Int32)), (.int (0 : Int32)), (.ref va), (.int (0 : Int32)), (.ref ca)])) tg → G tg := fun tg kt => pre2s tg (by
    show Steps p.tables e below (T2.setTop (mkF m 3 #[.val (.ref ca), .val (.int (0 : Int32)), .val (.int (2 : Int32)), .unset, .unset, .unset] [(.ref va)])) _
    refine XS.astoreN X2.here hx rfl (hb hby d6_3) rfl rfl (l' := #[.val (.ref ca), .val (.int (0 : Int32)), .val (.int (2 : Int32)), .val (.ref va), .unset, .unset]) rfl ?_
    show Steps p.tables e below (T2.setTop (mkF m 4 #[.val (.ref ca), .val (.int (0 : Int32)), .val (.int (2 : Int32)), .val (.ref va), .unset, .unset] [])) _
    refine XS.aloadN X2.here hx rfl (hb hby d6_4) rfl rfl ?_
    show Steps p.tables e below (T2.setTop (mkF m 5 #[.val (.ref ca), .val (.int (0 : Int32)), .val (.int (2 : Int32)), .val (.ref va), .unset, .unset] [(.ref ca)])) _
    refine XS.iloadN X2.here hx rfl (hb hby d6_5) rfl ?_
    show Steps p.tables e below (T2.setTop (mkF m 6 #[.val (.ref ca), .val (.int (0 : Int32)), .val (.int (2 : Int32)), .val (.ref va), .unset, .unset] [(.int (0 : Int32)), (.ref ca)])) _
    refine XS.aloadN X2.here hx rfl (hb hby d6_6) rfl rfl ?_
    show Steps p.tables e below (T2.setTop (mkF m 7 #[.val (.ref ca), .val (.int (0 : Int32)), .val (.int (2 : Int32)), .val (.ref va), .unset, .unset] [(.ref va), (.int (0 : Int32)), (.ref ca)])) _
    refine XS.iconst X2.here hx rfl (hb hby d6_7) ?_
    show Steps p.tables e below (T2.setTop (mkF m 8 #[.val (.ref ca), .val (.int (0 : Int32)), .val (.int (2 : Int32)), .val (.ref va), .unset, .unset] [(.int (0 : Int32)), (.ref va), (.int (0 : Int32)), (.ref ca)])) _
    refine XS.iloadN X2.here hx rfl (hb hby d6_8) rfl ?_
    exact kt)
  obtain ⟨_, _, ⟨T5, L5, k5, n5⟩, -, X5, ⟨Lc5, hQ5, l5, y5, z5⟩, st5⟩ := Jvm.LawKit.callS X2 hx (y := (⟨"java/lang/StringUTF16", "compress", "([CI[BII)I"⟩ : MethodName)) hown (mvT hZ (hw _ (List.mem_of_getElem? (i := 35) rfl))) (mvT hZ (hw _ (List.mem_of_getElem? (i := 36) rfl))) (mvT hZ (hw _ (List.mem_of_getElem? (i := 33) rfl))) (mvT hZ (hw _ (List.mem_of_getElem? (i := 37) rfl))) (by decide) (backOf (W := 0) (rmC_2 l Z a0 hw [] ca va kc k2 y0 y1 h2 n0 Z2 V_c_3 V_va O_va ne_ca_va hy0 hy1) hZ (hw _ (List.mem_of_getElem? (i := 37) rfl)) (hw _ (List.mem_of_getElem? (i := 33) rfl)) (by decide) (by decide)) (g := (mkF m 9 #[.val (.ref ca), .val (.int (0 : Int32)), .val (.int (2 : Int32)), .val (.ref va), .unset, .unset] [(.int (2 : Int32)), (.int (0 : Int32)), (.ref va), (.int (0 : Int32)), (.ref ca)])) rfl (by rw [hml]; rfl) (argsL := [(.ref ca), (.int (0 : Int32)), (.ref va), (.int (0 : Int32)), (.int (2 : Int32))]) (rest := []) (lenOf pd_0 rfl) rfl (by show 2 * 0 + _ ≤ _; exact Nat.le_of_eq rfl) (hb hby d6_9) (fun _ _ => ⟨rfl, e2, (Nat.le_of_ble_eq_true rfl), (Nat.le_of_ble_eq_true rfl)⟩)
  dsimp only [Pt.U, Pt.locs, Pt.cells, Pt.slots] at X5 l5 y5 z5 st5 hQ5
  subst l5 y5 z5
  obtain ⟨rfl, N5q, K5, V4⟩ := hQ5
  have N5 := Fr.app N0 N5q
  have pre5s : ∀ tg, Steps p.tables e below (T5.setTop (mkF m 12 #[.val (.ref ca), .val (.int (0 : Int32)), .val (.int (2 : Int32)), .val (.ref va), .unset, .unset] [(.int (2 : Int32))])) tg → G tg := fun tg kt => pre4 tg (st5 tg kt)
  have Z5 : n0 ≤ T5.heap.size := Nat.le_trans Z2 K5.1
  have V_c_6 := V_c_3.keep K5 (ninS ne_ca_va nin0)
  have KK5 : Keep h0 T5.heap [] := K2.trans K5 (allS (Or.inr S_va) all0)
  obtain ⟨fs, hr, hrun, hended, hW, hsame⟩ := X5.leave (v := some (.ref va)) (fun h => by rw [Bd.returns] at h; cases h)
  subst hG
  refine ⟨_, _, pre5s _ ?_, hrun, hended, _, _, rfl, ?_, ⟨_, rfl⟩, hW, hsame.mono (by decide) (by decide)⟩
  · skip
    show Steps p.tables e below (T5.setTop (mkF m 12 #[.val (.ref ca), .val (.int (0 : Int32)), .val (.int (2 : Int32)), .val (.ref va), .unset, .unset] [(.int (2 : Int32))])) _
    refine XS.istore X5.here hx rfl (hb hby d6_12) rfl (l' := #[.val (.ref ca), .val (.int (0 : Int32)), .val (.int (2 : Int32)), .val (.ref va), .val (.int (2 : Int32)), .unset]) rfl ?_
    show Steps p.tables e below (T5.setTop (mkF m 14 #[.val (.ref ca), .val (.int (0 : Int32)), .val (.int (2 : Int32)), .val (.ref va), .val (.int (2 : Int32)), .unset] [])) _
    refine XS.iload X5.here hx rfl (hb hby d6_14) rfl ?_
    show Steps p.tables e below (T5.setTop (mkF m 16 #[.val (.ref ca), .val (.int (0 : Int32)), .val (.int (2 : Int32)), .val (.ref va), .val (.int (2 : Int32)), .unset] [(.int (2 : Int32))])) _
    refine XS.iloadN X5.here hx rfl (hb hby d6_16) rfl ?_
    show Steps p.tables e below (T5.setTop (mkF m 17 #[.val (.ref ca), .val (.int (0 : Int32)), .val (.int (2 : Int32)), .val (.ref va), .val (.int (2 : Int32)), .unset] [(.int (2 : Int32)), (.int (2 : Int32))])) _
    refine XS.icmpYes X5.here hx rfl (pc0 := 17) (pc' := 57) rfl (hb hby d6_17) rfl (teq (by decide : (2 : Int32) = (2 : Int32))).1 (by decide) (by decide) ?_
    show Steps p.tables e below (T5.setTop (mkF m 57 #[.val (.ref ca), .val (.int (0 : Int32)), .val (.int (2 : Int32)), .val (.ref va), .val (.int (2 : Int32)), .unset] [])) _
    refine XS.aloadN X5.here hx rfl (hb hby d6_57) rfl rfl ?_
    show Steps p.tables e below (T5.setTop (mkF m 58 #[.val (.ref ca), .val (.int (0 : Int32)), .val (.int (2 : Int32)), .val (.ref va), .val (.int (2 : Int32)), .unset] [(.ref va)])) _
    jvm_step X5.here [X5.here.top, hx, (hb hby d6_58), X5.method', Bd.returns, Value.isRef, FieldType.isReference]
    first | (intro acts; rw [hr _ acts rfl rfl rfl]) | rw [hr _ _ rfl rfl rfl]
    exact Steps.refl _
  · show Q_rmD_2 Z ca kc y0 y1 h0 n0 _ T5.heap _
    exact ⟨va, _, rfl, N5, KK5, S_va, V4⟩
def Q_rmE_2 (Z : State) (b : Addr) (kb : ClassId) (x0 x1 : Int32) (h0 : Heap) (n0 : Nat) (v : Option Value) (h : Heap) (L : List Loc) : Prop := v = some (.int (0 : Int32)) ∧ Fr n0 L ∧ h = h0
set_option maxRecDepth 65536 in
set_option maxHeartbeats 40000000 in
theorem rmE_2 (l : Launch) (Z : State) (a0 : Array Value) (hw : ∀ d ∈ tables_1, d.before a0 Z = true) (ws : List Jvm.Cond) (b : Addr) (kb : ClassId) (x0 x1 : Int32) (h0 : Heap) (n0 : Nat) (Z0 : n0 ≤ h0.size) (V_b : Arv Z h0 b kb .byte (2 : Int32) [(.int x0), (.int x1)] (.int (0 : Int32))) :
    MetFree l (⟨"java/lang/StringUTF16", "coderFromArrayLen", "([BI)B"⟩ : MethodName) (head1 (Jvm.Cond.code (⟨"java/lang/StringUTF16", "coderFromArrayLen", "([BI)B"⟩ : MethodName) jdk_52_method_15_code 2 (some .byte) :: ws) ({ frames := 0, cells := 0, slots := 0, locals := 0 } : Room)) (fun argv U => argv = #[(.ref b), (.int (2 : Int32))] ∧ Z.Warmed39 U.vm ∧ U.heap = h0) (fun _ _ _ _ _ => True) (fun _ U o U' => ∃ v L, o = .returned v ∧ Q_rmE_2 Z b kb x0 x1 h0 n0 v U'.heap L ∧ FrameEnd U o U' L ({ frames := 0, cells := 0, slots := 0, locals := 0 } : Room).cells ({ frames := 0, cells := 0, slots := 0, locals := 0 } : Room).slots) := by
  refine MetFree.of_bodySF (plainFor_of_name pn_8) hisR ?_
  intro p e s m args below meth c s₁ Bd hml0 hP hK
  obtain ⟨rfl, hZ, hh⟩ := hP
  have hx := Bd.exec
  have hby := Bd.bytes
  have hml : c.maxLocals = 2 := hml0
  have hown : s.vm.findClass "java/lang/StringUTF16" = some m.cls := findClass_of_methodNamed Bd.named
  have hnm := (name_of_methodNamed Bd.named Bd.method).1
  have X0 : Stand p l e ({ frames := 0, cells := 0, slots := 0, locals := 0 } : Room) s m #[(.ref b), (.int (2 : Int32))] below meth c s₁ [] 0 0 := Stand.of_body Bd
  have e0 : s₁.heap = h0 := by rw [← hh, Bd.state]; rfl
  have N0 := Fr.nil n0
  obtain ⟨G, hG⟩ : ∃ G : State → Prop, G = fun tg => Steps p.tables e below (s₁.setTop (entryFrame m #[(.ref b), (.int (2 : Int32))] 2)) tg := ⟨_, rfl⟩
  have pre0 : ∀ tg, Steps p.tables e below (s₁.setTop (mkF m 0 #[.val (.ref b), .val (.int (2 : Int32))] [])) tg → G tg := fun tg kt => by rw [hG]; exact castTop (ef_8_R_I m b (2 : Int32)) kt
  have pre1 : ∀ tg, Steps p.tables e below (s₁.setTop (mkF m 2 #[.val (.ref b), .val (.int (2 : Int32))] [(.ref b), (.int (2 : Int32))])) tg → G tg := fun tg kt => pre0 tg (by
    show Steps p.tables e below (s₁.setTop (mkF m 0 #[.val (.ref b), .val (.int (2 : Int32))] [])) _
    refine XS.iloadN X0.here hx rfl (hb hby d8_0) rfl ?_
    show Steps p.tables e below (s₁.setTop (mkF m 1 #[.val (.ref b), .val (.int (2 : Int32))] [(.int (2 : Int32))])) _
    refine XS.aloadN X0.here hx rfl (hb hby d8_1) rfl rfl ?_
    exact kt)
  have op_2 := V_b
  obtain ⟨cl_2, Ar_2, q_2, S_2, Ng_2, H_2, G_2⟩ := op_2
  obtain ⟨fs, hr, hrun, hended, hW, hsame⟩ := X0.leave (v := some (.int (0 : Int32))) (fun h => by rw [Bd.returns] at h; cases h)
  subst hG
  refine ⟨_, _, pre1 _ ?_, hrun, hended, _, _, rfl, ?_, ⟨_, rfl⟩, hW, hsame.mono (by decide) (by decide)⟩
  · skip
    show Steps p.tables e below (s₁.setTop (mkF m 2 #[.val (.ref b), .val (.int (2 : Int32))] [(.ref b), (.int (2 : Int32))])) _
    refine X0.arraylength hx (by rw [e0]; exact Ar_2.1) (State.isArrayOf_alike hZ.alike Ar_2.2.1) (g := (mkF m 2 #[.val (.ref b), .val (.int (2 : Int32))] [(.ref b), (.int (2 : Int32))])) rfl rfl (hb hby d8_2) _ ?_
    rw [len_of S_2 Ng_2]
    show Steps p.tables e below (s₁.setTop (mkF m 3 #[.val (.ref b), .val (.int (2 : Int32))] [(.int (2 : Int32)), (.int (2 : Int32))])) _
    refine XS.isub X0.here hx rfl (hb hby d8_3) rfl ?_
    show Steps p.tables e below (s₁.setTop (mkF m 4 #[.val (.ref b), .val (.int (2 : Int32))] [(.int (0 : Int32))])) _
    refine XS.bipush X0.here hx rfl (hb hby d8_4) ?_
    show Steps p.tables e below (s₁.setTop (mkF m 6 #[.val (.ref b), .val (.int (2 : Int32))] [(.int (31 : Int32)), (.int (0 : Int32))])) _
    refine XS.iushr X0.here hx rfl (hb hby d8_6) rfl ?_
    show Steps p.tables e below (s₁.setTop (mkF m 7 #[.val (.ref b), .val (.int (2 : Int32))] [(.int (0 : Int32))])) _
    refine XS.i2b X0.here hx rfl (hb hby d8_7) rfl ?_
    show Steps p.tables e below (s₁.setTop (mkF m 8 #[.val (.ref b), .val (.int (2 : Int32))] [(.int (0 : Int32))])) _
    exact retN X0 hx (t := .byte) Bd.returns (by simp) (hb hby d8_8) hr
  · show Q_rmE_2 Z b kb x0 x1 h0 n0 _ s₁.heap _
    rw [e0]
    exact ⟨rfl, N0, rfl⟩
def Q_rmI_2 (Z : State) (a ca : Addr) (kc : ClassId) (y0 y1 : Int32) (h0 : Heap) (n0 : Nat) (v : Option Value) (h : Heap) (L : List Loc) : Prop := v = none ∧ Fr n0 L ∧ Keep h0 h [a] ∧ own_s Z h a (2 : Int32)
set_option maxRecDepth 65536 in
set_option maxHeartbeats 40000000 in
theorem rmI_2 (l : Launch) (Z : State) (a0 : Array Value) (hw : ∀ d ∈ tables_1, d.before a0 Z = true) (ws : List Jvm.Cond) (a ca : Addr) (kc : ClassId) (y0 y1 : Int32) (h0 : Heap) (n0 : Nat) (Z0 : n0 ≤ h0.size) (hs : own_st Z) (Ol : Old Z n0 h0) (E_a : Exa Z h0 a "java/lang/String") (F_c : Fld Z h0 a "java/lang/String" "coder" "B" (.int (0 : Int32))) (F_v : Fld Z h0 a "java/lang/String" "value" "[B" .null) (O_a : n0 ≤ a) (ne_a_c : ca ≠ a) (V_c : Arv Z h0 ca kc .char (2 : Int32) [(.int y0), (.int y1)] (.int (0 : Int32))) (hy0 : own_y y0) (hy1 : own_y y1) :
    MetFree l (⟨"java/lang/String", "<init>", "([CIILjava/lang/Void;)V"⟩ : MethodName) (head1 (Jvm.Cond.code (⟨"java/lang/String", "<init>", "([CIILjava/lang/Void;)V"⟩ : MethodName) jdk_42_method_149_code 6 none :: ws) ({ frames := 2, cells := 1, slots := 2, locals := 48 } : Room)) (fun argv U => argv = #[(.ref a), (.ref ca), (.int (0 : Int32)), (.int (2 : Int32)), .null] ∧ Z.Warmed39 U.vm ∧ U.heap = h0) (fun _ _ _ _ _ => True) (fun _ U o U' => ∃ v L, o = .returned v ∧ Q_rmI_2 Z a ca kc y0 y1 h0 n0 v U'.heap L ∧ FrameEnd U o U' L ({ frames := 2, cells := 1, slots := 2, locals := 48 } : Room).cells ({ frames := 2, cells := 1, slots := 2, locals := 48 } : Room).slots) := by
  refine MetFree.of_bodySF (plainFor_of_name pn_3) hisR ?_
  intro p e s m args below meth c s₁ Bd hml0 hP hK
  obtain ⟨rfl, hZ, hh⟩ := hP
  have hx := Bd.exec
  have hby := Bd.bytes
  have hml : c.maxLocals = 6 := hml0
  have hown : s.vm.findClass "java/lang/String" = some m.cls := findClass_of_methodNamed Bd.named
  have hnm := (name_of_methodNamed Bd.named Bd.method).1
  have X0 : Stand p l e ({ frames := 2, cells := 1, slots := 2, locals := 48 } : Room) s m #[(.ref a), (.ref ca), (.int (0 : Int32)), (.int (2 : Int32)), .null] below meth c s₁ [] 0 0 := Stand.of_body Bd
  have e0 : s₁.heap = h0 := by rw [← hh, Bd.state]; rfl
  have N0 := Fr.nil n0
  obtain ⟨G, hG⟩ : ∃ G : State → Prop, G = fun tg => Steps p.tables e below (s₁.setTop (entryFrame m #[(.ref a), (.ref ca), (.int (0 : Int32)), (.int (2 : Int32)), .null] 6)) tg := ⟨_, rfl⟩
  have pre0 : ∀ tg, Steps p.tables e below (s₁.setTop (mkF m 0 #[.val (.ref a), .val (.ref ca), .val (.int (0 : Int32)), .val (.int (2 : Int32)), .val .null, .unset] [])) tg → G tg := fun tg kt => by rw [hG]; exact castTop (ef_3_R_R_I_I_n m a ca (0 : Int32) (2 : Int32) ) kt
  have pre1 : ∀ tg, Steps p.tables e below (s₁.setTop (mkF m 1 #[.val (.ref a), .val (.ref ca), .val (.int (0 : Int32)), .val (.int (2 : Int32)), .val .null, .unset] [(.ref a)])) tg → G tg := fun tg kt => pre0 tg (by
    show Steps p.tables e below (s₁.setTop (mkF m 0 #[.val (.ref a), .val (.ref ca), .val (.int (0 : Int32)), .val (.int (2 : Int32)), .val .null, .unset] [])) _
    refine XS.aloadN X0.here hx rfl (hb hby d3_0) rfl rfl ?_
    exact kt)
  obtain ⟨T2, X2, e2, st2⟩ := initO X0 hx hZ hown (hw _ (List.mem_of_getElem? (i := 16) rfl)) (hw _ (List.mem_of_getElem? (i := 17) rfl)) (hw _ (List.mem_of_getElem? (i := 18) rfl)) e0 (g := (mkF m 1 #[.val (.ref a), .val (.ref ca), .val (.int (0 : Int32)), .val (.int (2 : Int32)), .val .null, .unset] [(.ref a)])) rfl (by rw [hml]; rfl) rfl (hb hby d3_1) (by decide) (W := 0) (by show 2 * 0 + _ ≤ _; exact Nat.le_of_eq rfl) (by decide)
  have pre2s : ∀ tg, Steps p.tables e below (T2.setTop (mkF m 4 #[.val (.ref a), .val (.ref ca), .val (.int (0 : Int32)), .val (.int (2 : Int32)), .val .null, .unset] [])) tg → G tg := fun tg kt => pre1 tg (st2 tg kt)
  have pre4 : ∀ tg, Steps p.tables e below (T2.setTop (mkF m 27 #[.val (.ref a), .val (.ref ca), .val (.int (0 : Int32)), .val (.int (2 : Int32)), .val .null, .unset] [])) tg → G tg := fun tg kt => pre2s tg (by
    show Steps p.tables e below (T2.setTop (mkF m 4 #[.val (.ref a), .val (.ref ca), .val (.int (0 : Int32)), .val (.int (2 : Int32)), .val .null, .unset] [])) _
    refine XS.iloadN X2.here hx rfl (hb hby d3_4) rfl ?_
    show Steps p.tables e below (T2.setTop (mkF m 5 #[.val (.ref a), .val (.ref ca), .val (.int (0 : Int32)), .val (.int (2 : Int32)), .val .null, .unset] [(.int (2 : Int32))])) _
    refine XS.ifYes X2.here hx rfl (pc0 := 5) (pc' := 27) rfl (hb hby d3_5) rfl ((if0 _ _).trans (feq (by decide : ¬ ((2 : Int32) = (0 : Int32)))).2) (by decide) (by decide) ?_
    exact kt)
  have hs3' := hs
  obtain ⟨cs, S_c, hcs⟩ := hs3'
  obtain ⟨T5, X5, e5, st5⟩ := getS2 X2 hx hZ hown (host := "") (Or.inl (hw _ (List.mem_of_getElem? (i := 30) rfl))) Via.refl e2 (Sta.ext Ol.2 S_c) (g := (mkF m 27 #[.val (.ref a), .val (.ref ca), .val (.int (0 : Int32)), .val (.int (2 : Int32)), .val .null, .unset] [])) rfl (hb hby d3_27)
  have pre5s : ∀ tg, Steps p.tables e below (T5.setTop (mkF m 30 #[.val (.ref a), .val (.ref ca), .val (.int (0 : Int32)), .val (.int (2 : Int32)), .val .null, .unset] [(.int cs)])) tg → G tg := fun tg kt => pre4 tg (st5 tg kt)
  have pre6 : ∀ tg, Steps p.tables e below (T5.setTop (mkF m 36 #[.val (.ref a), .val (.ref ca), .val (.int (0 : Int32)), .val (.int (2 : Int32)), .val .null, .unset] [(.int (2 : Int32)), (.int (0 : Int32)), (.ref ca)])) tg → G tg := fun tg kt => pre5s tg (by
    show Steps p.tables e below (T5.setTop (mkF m 30 #[.val (.ref a), .val (.ref ca), .val (.int (0 : Int32)), .val (.int (2 : Int32)), .val .null, .unset] [(.int cs)])) _
    refine XS.ifNo X5.here hx rfl (hb hby d3_30) rfl ((if0 _ _).trans (feq hcs).1) ?_
    show Steps p.tables e below (T5.setTop (mkF m 33 #[.val (.ref a), .val (.ref ca), .val (.int (0 : Int32)), .val (.int (2 : Int32)), .val .null, .unset] [])) _
    refine XS.aloadN X5.here hx rfl (hb hby d3_33) rfl rfl ?_
    show Steps p.tables e below (T5.setTop (mkF m 34 #[.val (.ref a), .val (.ref ca), .val (.int (0 : Int32)), .val (.int (2 : Int32)), .val .null, .unset] [(.ref ca)])) _
    refine XS.iloadN X5.here hx rfl (hb hby d3_34) rfl ?_
    show Steps p.tables e below (T5.setTop (mkF m 35 #[.val (.ref a), .val (.ref ca), .val (.int (0 : Int32)), .val (.int (2 : Int32)), .val .null, .unset] [(.int (0 : Int32)), (.ref ca)])) _
    refine XS.iloadN X5.here hx rfl (hb hby d3_35) rfl ?_
    exact kt)
  obtain ⟨_, _, ⟨T7, L7, k7, n7⟩, -, X7, ⟨Lc7, hQ7, l7, y7, z7⟩, st7⟩ := Jvm.LawKit.callS X5 hx (y := (⟨"java/lang/StringUTF16", "compress", "([CII)[B"⟩ : MethodName)) hown (mvT hZ (hw _ (List.mem_of_getElem? (i := 31) rfl))) (mvT hZ (hw _ (List.mem_of_getElem? (i := 32) rfl))) (mvT hZ (hw _ (List.mem_of_getElem? (i := 33) rfl))) (mvT hZ (hw _ (List.mem_of_getElem? (i := 34) rfl))) (by decide) (backOf (W := 0) (rmD_2 l Z a0 hw [] ca kc y0 y1 h0 n0 Z0 V_c hy0 hy1) hZ (hw _ (List.mem_of_getElem? (i := 34) rfl)) (hw _ (List.mem_of_getElem? (i := 33) rfl)) (by decide) (by decide)) (g := (mkF m 36 #[.val (.ref a), .val (.ref ca), .val (.int (0 : Int32)), .val (.int (2 : Int32)), .val .null, .unset] [(.int (2 : Int32)), (.int (0 : Int32)), (.ref ca)])) rfl (by rw [hml]; rfl) (argsL := [(.ref ca), (.int (0 : Int32)), (.int (2 : Int32))]) (rest := []) (lenOf pd_1 rfl) rfl (by show 2 * 0 + _ ≤ _; exact Nat.le_of_eq rfl) (hb hby d3_36) (fun _ _ => ⟨rfl, e5, (Nat.le_of_ble_eq_true rfl), (Nat.le_of_ble_eq_true rfl)⟩)
  dsimp only [Pt.U, Pt.locs, Pt.cells, Pt.slots] at X7 l7 y7 z7 st7 hQ7
  subst l7 y7 z7
  obtain ⟨va, kv, rfl, N7q, K7, Sz, V_v⟩ := hQ7
  have N7 := Fr.app N0 N7q
  have pre7s : ∀ tg, Steps p.tables e below (T7.setTop (mkF m 39 #[.val (.ref a), .val (.ref ca), .val (.int (0 : Int32)), .val (.int (2 : Int32)), .val .null, .unset] [(.ref va)])) tg → G tg := fun tg kt => pre6 tg (st7 tg kt)
  have Z7 : n0 ≤ T7.heap.size := Nat.le_trans Z0 K7.1
  have E_a_8 := E_a.keep K7
  have F_c_9 := F_c.keep K7 nin0
  have F_v_10 := F_v.keep K7 nin0
  have V_c_11 := V_c.keep K7 nin0
  have Ol12 := Ol.keep K7 all0
  have KK7 : Keep h0 T7.heap [a] := (Keep.refl h0 [a]).trans K7 all0
  have ne_v_a : va ≠ a := Ne.symm (Nat.ne_of_lt (Nat.lt_of_lt_of_le E_a.lt Sz))
  have pre13 : ∀ tg, Steps p.tables e below (T7.setTop (mkF m 45 #[.val (.ref a), .val (.ref ca), .val (.int (0 : Int32)), .val (.int (2 : Int32)), .val .null, .val (.ref va)] [(.int (2 : Int32)), (.ref va), (.ref a)])) tg → G tg := fun tg kt => pre7s tg (by
    show Steps p.tables e below (T7.setTop (mkF m 39 #[.val (.ref a), .val (.ref ca), .val (.int (0 : Int32)), .val (.int (2 : Int32)), .val .null, .unset] [(.ref va)])) _
    refine XS.astore X7.here hx rfl (hb hby d3_39) rfl rfl (l' := #[.val (.ref a), .val (.ref ca), .val (.int (0 : Int32)), .val (.int (2 : Int32)), .val .null, .val (.ref va)]) rfl ?_
    show Steps p.tables e below (T7.setTop (mkF m 41 #[.val (.ref a), .val (.ref ca), .val (.int (0 : Int32)), .val (.int (2 : Int32)), .val .null, .val (.ref va)] [])) _
    refine XS.aloadN X7.here hx rfl (hb hby d3_41) rfl rfl ?_
    show Steps p.tables e below (T7.setTop (mkF m 42 #[.val (.ref a), .val (.ref ca), .val (.int (0 : Int32)), .val (.int (2 : Int32)), .val .null, .val (.ref va)] [(.ref a)])) _
    refine XS.aload X7.here hx rfl (hb hby d3_42) rfl rfl ?_
    show Steps p.tables e below (T7.setTop (mkF m 44 #[.val (.ref a), .val (.ref ca), .val (.int (0 : Int32)), .val (.int (2 : Int32)), .val .null, .val (.ref va)] [(.ref va), (.ref a)])) _
    refine XS.iloadN X7.here hx rfl (hb hby d3_44) rfl ?_
    exact kt)
  obtain ⟨_, _, ⟨T14, L14, k14, n14⟩, -, X14, ⟨Lc14, hQ14, l14, y14, z14⟩, st14⟩ := Jvm.LawKit.callS X7 hx (y := (⟨"java/lang/StringUTF16", "coderFromArrayLen", "([BI)B"⟩ : MethodName)) hown (mvT hZ (hw _ (List.mem_of_getElem? (i := 38) rfl))) (mvT hZ (hw _ (List.mem_of_getElem? (i := 39) rfl))) (mvT hZ (hw _ (List.mem_of_getElem? (i := 33) rfl))) (mvT hZ (hw _ (List.mem_of_getElem? (i := 40) rfl))) (by decide) (backOf (W := 1) (rmE_2 l Z a0 hw [] va kv (y0.toInt8.toInt32.toInt8.toInt32) (y1.toInt8.toInt32.toInt8.toInt32) T7.heap n0 Z7 V_v) hZ (hw _ (List.mem_of_getElem? (i := 40) rfl)) (hw _ (List.mem_of_getElem? (i := 33) rfl)) (by decide) (by decide)) (g := (mkF m 45 #[.val (.ref a), .val (.ref ca), .val (.int (0 : Int32)), .val (.int (2 : Int32)), .val .null, .val (.ref va)] [(.int (2 : Int32)), (.ref va), (.ref a)])) rfl (by rw [hml]; rfl) (argsL := [(.ref va), (.int (2 : Int32))]) (rest := [(.ref a)]) (lenOf pd_2 rfl) rfl (by show 2 * 0 + _ ≤ _; exact Nat.le_of_eq rfl) (hb hby d3_45) (fun _ _ => ⟨rfl, rfl, (Nat.le_of_ble_eq_true rfl), (Nat.le_of_ble_eq_true rfl)⟩)
  dsimp only [Pt.U, Pt.locs, Pt.cells, Pt.slots] at X14 l14 y14 z14 st14 hQ14
  subst l14 y14 z14
  obtain ⟨rfl, N14q, e14⟩ := hQ14
  have N14 := Fr.app N7 N14q
  have pre14s : ∀ tg, Steps p.tables e below (T14.setTop (mkF m 48 #[.val (.ref a), .val (.ref ca), .val (.int (0 : Int32)), .val (.int (2 : Int32)), .val .null, .val (.ref va)] [(.int (0 : Int32)), (.ref a)])) tg → G tg := fun tg kt => pre13 tg (st14 tg kt)
  obtain ⟨T15, h15, X15, e15, W15, st15⟩ := putFN X14 hx hZ hown (hw _ (List.mem_of_getElem? (i := 26) rfl)) Via.refl e14 F_c_9 E_a_8 (Or.inr ⟨(hw _ (List.mem_of_getElem? (i := 22) rfl)), rfl, hnm⟩) (hw _ (List.mem_of_getElem? (i := 6) rfl)) (ty := .byte) (v' := (.int (0 : Int32))) (by decide) rfl rfl (g := (mkF m 48 #[.val (.ref a), .val (.ref ca), .val (.int (0 : Int32)), .val (.int (2 : Int32)), .val .null, .val (.ref va)] [(.int (0 : Int32)), (.ref a)])) rfl rfl (hb hby d3_48)
  have pre15s : ∀ tg, Steps p.tables e below (T15.setTop (mkF m 51 #[.val (.ref a), .val (.ref ca), .val (.int (0 : Int32)), .val (.int (2 : Int32)), .val .null, .val (.ref va)] [])) tg → G tg := fun tg kt => pre14s tg (st15 tg kt)
  have E_a_16 := E_a_8.wr W15
  have F_c_17 := F_c_9.same W15
  have F_v_18 := F_v_10.other W15 (Or.inr (slot_ne (Or.inr (hw _ (List.mem_of_getElem? (i := 21) rfl))) (Or.inr (hw _ (List.mem_of_getElem? (i := 22) rfl))) (by decide) (t := (.array .byte)) (t' := .byte) (by decide) (by decide)))
  have V_c_19 := V_c_11.other W15 ne_a_c
  have V_v_20 := V_v.other W15 ne_v_a
  have Ol21 := Ol12.wr W15 O_a
  have N15 := Fr.snoc X15 N14 O_a
  have Z15 : n0 ≤ h15.size := Nat.le_trans Z7 (Keep.of_wr W15).1
  have K15 : Keep h0 h15 [a] := KK7.wr W15 (Or.inl (List.mem_of_getElem? (i := 0) rfl))
  have pre22 : ∀ tg, Steps p.tables e below (T15.setTop (mkF m 54 #[.val (.ref a), .val (.ref ca), .val (.int (0 : Int32)), .val (.int (2 : Int32)), .val .null, .val (.ref va)] [(.ref va), (.ref a)])) tg → G tg := fun tg kt => pre15s tg (by
    show Steps p.tables e below (T15.setTop (mkF m 51 #[.val (.ref a), .val (.ref ca), .val (.int (0 : Int32)), .val (.int (2 : Int32)), .val .null, .val (.ref va)] [])) _
    refine XS.aloadN X15.here hx rfl (hb hby d3_51) rfl rfl ?_
    show Steps p.tables e below (T15.setTop (mkF m 52 #[.val (.ref a), .val (.ref ca), .val (.int (0 : Int32)), .val (.int (2 : Int32)), .val .null, .val (.ref va)] [(.ref a)])) _
    refine XS.aload X15.here hx rfl (hb hby d3_52) rfl rfl ?_
    exact kt)
  obtain ⟨T23, h23, X23, e23, W23, st23⟩ := putF X15 hx hZ hown (host := "") (Or.inl (hw _ (List.mem_of_getElem? (i := 25) rfl))) Via.refl e15 F_v_18 E_a_16 (Or.inr ⟨(hw _ (List.mem_of_getElem? (i := 21) rfl)), rfl, hnm⟩) (hw _ (List.mem_of_getElem? (i := 6) rfl)) (ty := (.array .byte)) (by decide) rfl rfl (g := (mkF m 54 #[.val (.ref a), .val (.ref ca), .val (.int (0 : Int32)), .val (.int (2 : Int32)), .val .null, .val (.ref va)] [(.ref va), (.ref a)])) rfl rfl (hb hby d3_54)
  have pre23s : ∀ tg, Steps p.tables e below (T23.setTop (mkF m 57 #[.val (.ref a), .val (.ref ca), .val (.int (0 : Int32)), .val (.int (2 : Int32)), .val .null, .val (.ref va)] [])) tg → G tg := fun tg kt => pre22 tg (st23 tg kt)
  have E_a_24 := E_a_16.wr W23
  have F_c_25 := F_c_17.other W23 (Or.inr (slot_ne (Or.inr (hw _ (List.mem_of_getElem? (i := 22) rfl))) (Or.inr (hw _ (List.mem_of_getElem? (i := 21) rfl))) (by decide) (t := .byte) (t' := (.array .byte)) (by decide) (by decide)))
  have F_v_26 := F_v_18.same W23
  have V_c_27 := V_c_19.other W23 ne_a_c
  have V_v_28 := V_v_20.other W23 ne_v_a
  have Ol29 := Ol21.wr W23 O_a
  have N23 := Fr.snoc X23 N15 O_a
  have Z23 : n0 ≤ h23.size := Nat.le_trans Z15 (Keep.of_wr W23).1
  have K23 : Keep h0 h23 [a] := K15.wr W23 (Or.inl (List.mem_of_getElem? (i := 0) rfl))
  obtain ⟨fs, hr, hrun, hended, hW, hsame⟩ := X23.leave (v := none) (fun _ => rfl)
  subst hG
  refine ⟨_, _, pre23s _ ?_, hrun, hended, _, _, rfl, ?_, ⟨_, rfl⟩, hW, hsame.mono (by decide) (by decide)⟩
  · skip
    show Steps p.tables e below (T23.setTop (mkF m 57 #[.val (.ref a), .val (.ref ca), .val (.int (0 : Int32)), .val (.int (2 : Int32)), .val .null, .val (.ref va)] [])) _
    exact X23.returnOut hx Bd.returns (hb hby d3_57) hr
  · show Q_rmI_2 Z a ca kc y0 y1 h0 n0 _ T23.heap _
    rw [e23]
    exact ⟨rfl, N23, K23, va, kv, _, F_c_25, F_v_26, V_v_28⟩
def Q_rmJ_2 (Z : State) (a ca : Addr) (kc : ClassId) (y0 y1 : Int32) (h0 : Heap) (n0 : Nat) (v : Option Value) (h : Heap) (L : List Loc) : Prop := v = none ∧ Fr n0 L ∧ Keep h0 h [a] ∧ own_s Z h a (2 : Int32)
set_option maxRecDepth 65536 in
set_option maxHeartbeats 40000000 in
theorem rmJ_2 (l : Launch) (Z : State) (a0 : Array Value) (hw : ∀ d ∈ tables_1, d.before a0 Z = true) (ws : List Jvm.Cond) (a ca : Addr) (kc : ClassId) (y0 y1 : Int32) (h0 : Heap) (n0 : Nat) (Z0 : n0 ≤ h0.size) (hs : own_st Z) (Ol : Old Z n0 h0) (E_a : Exa Z h0 a "java/lang/String") (F_c : Fld Z h0 a "java/lang/String" "coder" "B" (.int (0 : Int32))) (F_v : Fld Z h0 a "java/lang/String" "value" "[B" .null) (O_a : n0 ≤ a) (ne_a_c : ca ≠ a) (V_c : Arv Z h0 ca kc .char (2 : Int32) [(.int y0), (.int y1)] (.int (0 : Int32))) (hy0 : own_y y0) (hy1 : own_y y1) :
    MetFree l (⟨"java/lang/String", "<init>", "([C)V"⟩ : MethodName) (head1 (Jvm.Cond.code (⟨"java/lang/String", "<init>", "([C)V"⟩ : MethodName) jdk_42_method_3_code 2 none :: ws) ({ frames := 3, cells := 1, slots := 2, locals := 72 } : Room)) (fun argv U => argv = #[(.ref a), (.ref ca)] ∧ Z.Warmed39 U.vm ∧ U.heap = h0) (fun _ _ _ _ _ => True) (fun _ U o U' => ∃ v L, o = .returned v ∧ Q_rmJ_2 Z a ca kc y0 y1 h0 n0 v U'.heap L ∧ FrameEnd U o U' L ({ frames := 3, cells := 1, slots := 2, locals := 72 } : Room).cells ({ frames := 3, cells := 1, slots := 2, locals := 72 } : Room).slots) := by
  refine MetFree.of_bodySF (plainFor_of_name pn_2) hisR ?_
  intro p e s m args below meth c s₁ Bd hml0 hP hK
  obtain ⟨rfl, hZ, hh⟩ := hP
  have hx := Bd.exec
  have hby := Bd.bytes
  have hml : c.maxLocals = 2 := hml0
  have hown : s.vm.findClass "java/lang/String" = some m.cls := findClass_of_methodNamed Bd.named
  have hnm := (name_of_methodNamed Bd.named Bd.method).1
  have X0 : Stand p l e ({ frames := 3, cells := 1, slots := 2, locals := 72 } : Room) s m #[(.ref a), (.ref ca)] below meth c s₁ [] 0 0 := Stand.of_body Bd
  have e0 : s₁.heap = h0 := by rw [← hh, Bd.state]; rfl
  have N0 := Fr.nil n0
  obtain ⟨G, hG⟩ : ∃ G : State → Prop, G = fun tg => Steps p.tables e below (s₁.setTop (entryFrame m #[(.ref a), (.ref ca)] 2)) tg := ⟨_, rfl⟩
  have pre0 : ∀ tg, Steps p.tables e below (s₁.setTop (mkF m 0 #[.val (.ref a), .val (.ref ca)] [])) tg → G tg := fun tg kt => by rw [hG]; exact castTop (ef_2_R_R m a ca) kt
  have pre1 : ∀ tg, Steps p.tables e below (s₁.setTop (mkF m 4 #[.val (.ref a), .val (.ref ca)] [(.ref ca), (.int (0 : Int32)), (.ref ca), (.ref a)])) tg → G tg := fun tg kt => pre0 tg (by
    show Steps p.tables e below (s₁.setTop (mkF m 0 #[.val (.ref a), .val (.ref ca)] [])) _
    refine XS.aloadN X0.here hx rfl (hb hby d2_0) rfl rfl ?_
    show Steps p.tables e below (s₁.setTop (mkF m 1 #[.val (.ref a), .val (.ref ca)] [(.ref a)])) _
    refine XS.aloadN X0.here hx rfl (hb hby d2_1) rfl rfl ?_
    show Steps p.tables e below (s₁.setTop (mkF m 2 #[.val (.ref a), .val (.ref ca)] [(.ref ca), (.ref a)])) _
    refine XS.iconst X0.here hx rfl (hb hby d2_2) ?_
    show Steps p.tables e below (s₁.setTop (mkF m 3 #[.val (.ref a), .val (.ref ca)] [(.int (0 : Int32)), (.ref ca), (.ref a)])) _
    refine XS.aloadN X0.here hx rfl (hb hby d2_3) rfl rfl ?_
    exact kt)
  have op_2 := V_c
  obtain ⟨cl_2, Ar_2, q_2, S_2, Ng_2, H_2, G_2⟩ := op_2
  have pre3 : ∀ tg, Steps p.tables e below (s₁.setTop (mkF m 6 #[.val (.ref a), .val (.ref ca)] [.null, (.int (2 : Int32)), (.int (0 : Int32)), (.ref ca), (.ref a)])) tg → G tg := fun tg kt => pre1 tg (by
    show Steps p.tables e below (s₁.setTop (mkF m 4 #[.val (.ref a), .val (.ref ca)] [(.ref ca), (.int (0 : Int32)), (.ref ca), (.ref a)])) _
    refine X0.arraylength hx (by rw [e0]; exact Ar_2.1) (State.isArrayOf_alike hZ.alike Ar_2.2.1) (g := (mkF m 4 #[.val (.ref a), .val (.ref ca)] [(.ref ca), (.int (0 : Int32)), (.ref ca), (.ref a)])) rfl rfl (hb hby d2_4) _ ?_
    rw [len_of S_2 Ng_2]
    show Steps p.tables e below (s₁.setTop (mkF m 5 #[.val (.ref a), .val (.ref ca)] [(.int (2 : Int32)), (.int (0 : Int32)), (.ref ca), (.ref a)])) _
    refine XS.aconstNull X0.here hx rfl (hb hby d2_5) ?_
    exact kt)
  obtain ⟨_, _, ⟨T4, L4, k4, n4⟩, -, X4, ⟨Lc4, hQ4, l4, y4, z4⟩, st4⟩ := X0.specialBack hx (y := (⟨"java/lang/String", "<init>", "([CIILjava/lang/Void;)V"⟩ : MethodName)) rfl hown (mvT hZ (hw _ (List.mem_of_getElem? (i := 12) rfl))) (mvT hZ (hw _ (List.mem_of_getElem? (i := 13) rfl))) (mvT hZ (hw _ (List.mem_of_getElem? (i := 15) rfl))) (by decide) (backOf (W := 0) (rmI_2 l Z a0 hw [] a ca kc y0 y1 h0 n0 Z0 hs Ol E_a F_c F_v O_a ne_a_c V_c hy0 hy1) hZ (hw _ (List.mem_of_getElem? (i := 15) rfl)) (hw _ (List.mem_of_getElem? (i := 7) rfl)) (by decide) (by decide)) (g := (mkF m 6 #[.val (.ref a), .val (.ref ca)] [.null, (.int (2 : Int32)), (.int (0 : Int32)), (.ref ca), (.ref a)])) rfl (by rw [hml]; rfl) (Steps.refl _) (a := a) (argsL := [(.ref ca), (.int (0 : Int32)), (.int (2 : Int32)), .null]) (rest := []) (lenOf pd_3 rfl) rfl (by show 2 * 0 + _ ≤ _; exact Nat.le_of_eq rfl) (hb hby d2_6) (fun _ _ => ⟨rfl, e0, (Nat.le_of_ble_eq_true rfl), (Nat.le_of_ble_eq_true rfl)⟩)
  dsimp only [Pt.U, Pt.locs, Pt.cells, Pt.slots] at X4 l4 y4 z4 st4 hQ4
  subst l4 y4 z4
  obtain ⟨rfl, N4q, K4, Tx⟩ := hQ4
  have N4 := Fr.app N0 N4q
  have pre4s : ∀ tg, Steps p.tables e below (T4.setTop (mkF m 9 #[.val (.ref a), .val (.ref ca)] [])) tg → G tg := fun tg kt => pre3 tg (st4.trans kt)
  have Z4 : n0 ≤ T4.heap.size := Nat.le_trans Z0 K4.1
  have E_a_5 := E_a.keep K4
  have V_c_6 := V_c.keep K4 (ninS ne_a_c nin0)
  have Ol7 := Ol.keep K4 (allS O_a all0)
  have KK4 : Keep h0 T4.heap [a] := (Keep.refl h0 [a]).trans K4 (allS (Or.inl (List.mem_of_getElem? (i := 0) rfl)) all0)
  obtain ⟨fs, hr, hrun, hended, hW, hsame⟩ := X4.leave (v := none) (fun _ => rfl)
  subst hG
  refine ⟨_, _, pre4s _ ?_, hrun, hended, _, _, rfl, ?_, ⟨_, rfl⟩, hW, hsame.mono (by decide) (by decide)⟩
  · skip
    show Steps p.tables e below (T4.setTop (mkF m 9 #[.val (.ref a), .val (.ref ca)] [])) _
    exact X4.returnOut hx Bd.returns (hb hby d2_9) hr
  · show Q_rmJ_2 Z a ca kc y0 y1 h0 n0 _ T4.heap _
    exact ⟨rfl, N4, KK4, Tx⟩
def Q_rmC_3 (Z : State) (ca va : Addr) (kc kv : ClassId) (y0 y1 y2 : Int32) (h0 : Heap) (n0 : Nat) (v : Option Value) (h : Heap) (L : List Loc) : Prop := v = some (.int (3 : Int32)) ∧ Fr n0 L ∧ Keep h0 h [va] ∧ Arv Z h va kv .byte (3 : Int32) [(.int (y0.toInt8.toInt32.toInt8.toInt32)), (.int (y1.toInt8.toInt32.toInt8.toInt32)), (.int (y2.toInt8.toInt32.toInt8.toInt32))] (.int (0 : Int32))
set_option maxRecDepth 65536 in
set_option maxHeartbeats 40000000 in
theorem rmC_3 (l : Launch) (Z : State) (a0 : Array Value) (hw : ∀ d ∈ tables_1, d.before a0 Z = true) (ws : List Jvm.Cond) (ca va : Addr) (kc kv : ClassId) (y0 y1 y2 : Int32) (h0 : Heap) (n0 : Nat) (Z0 : n0 ≤ h0.size) (V_c : Arv Z h0 ca kc .char (3 : Int32) [(.int y0), (.int y1), (.int y2)] (.int (0 : Int32))) (V_v : Arv Z h0 va kv .byte (3 : Int32) [(.int (0 : Int32)), (.int (0 : Int32)), (.int (0 : Int32))] (.int (0 : Int32))) (O_va : n0 ≤ va) (ne_c_v : ca ≠ va) (hy0 : own_y y0) (hy1 : own_y y1) (hy2 : own_y y2) :
    MetFree l (⟨"java/lang/StringUTF16", "compress", "([CI[BII)I"⟩ : MethodName) (head1 (Jvm.Cond.code (⟨"java/lang/StringUTF16", "compress", "([CI[BII)I"⟩ : MethodName) jdk_52_method_21_code 7 (some .int) :: ws) ({ frames := 0, cells := 0, slots := 0, locals := 0 } : Room)) (fun argv U => argv = #[(.ref ca), (.int (0 : Int32)), (.ref va), (.int (0 : Int32)), (.int (3 : Int32))] ∧ Z.Warmed39 U.vm ∧ U.heap = h0) (fun _ _ _ _ _ => True) (fun _ U o U' => ∃ v L, o = .returned v ∧ Q_rmC_3 Z ca va kc kv y0 y1 y2 h0 n0 v U'.heap L ∧ FrameEnd U o U' L ({ frames := 0, cells := 0, slots := 0, locals := 0 } : Room).cells ({ frames := 0, cells := 0, slots := 0, locals := 0 } : Room).slots) := by
  refine MetFree.of_bodySF (plainFor_of_name pn_7) hisR ?_
  intro p e s m args below meth c s₁ Bd hml0 hP hK
  obtain ⟨rfl, hZ, hh⟩ := hP
  have hx := Bd.exec
  have hby := Bd.bytes
  have hml : c.maxLocals = 7 := hml0
  have hown : s.vm.findClass "java/lang/StringUTF16" = some m.cls := findClass_of_methodNamed Bd.named
  have hnm := (name_of_methodNamed Bd.named Bd.method).1
  have X0 : Stand p l e ({ frames := 0, cells := 0, slots := 0, locals := 0 } : Room) s m #[(.ref ca), (.int (0 : Int32)), (.ref va), (.int (0 : Int32)), (.int (3 : Int32))] below meth c s₁ [] 0 0 := Stand.of_body Bd
  have e0 : s₁.heap = h0 := by rw [← hh, Bd.state]; rfl
  have N0 := Fr.nil n0
  obtain ⟨G, hG⟩ : ∃ G : State → Prop, G = fun tg => Steps p.tables e below (s₁.setTop (entryFrame m #[(.ref ca), (.int (0 : Int32)), (.ref va), (.int (0 : Int32)), (.int (3 : Int32))] 7)) tg := ⟨_, rfl⟩
  have pre0 : ∀ tg, Steps p.tables e below (s₁.setTop (mkF m 0 #[.val (.ref ca), .val (.int (0 : Int32)), .val (.ref va), .val (.int (0 : Int32)), .val (.int (3 : Int32)), .unset, .unset] [])) tg → G tg := fun tg kt => by rw [hG]; exact castTop (ef_7_R_I_R_I_I m ca (0 : Int32) va (0 : Int32) (3 : Int32)) kt
  have pre1 : ∀ tg, Steps p.tables e below (s₁.setTop (mkF m 12 #[.val (.ref ca), .val (.int (0 : Int32)), .val (.ref va), .val (.int (0 : Int32)), .val (.int (3 : Int32)), .val (.int (0 : Int32)), .unset] [(.int (0 : Int32)), (.ref ca)])) tg → G tg := fun tg kt => pre0 tg (by
    show Steps p.tables e below (s₁.setTop (mkF m 0 #[.val (.ref ca), .val (.int (0 : Int32)), .val (.ref va), .val (.int (0 : Int32)), .val (.int (3 : Int32)), .unset, .unset] [])) _
    refine XS.iconst X0.here hx rfl (hb hby d7_0) ?_
    show Steps p.tables e below (s₁.setTop (mkF m 1 #[.val (.ref ca), .val (.int (0 : Int32)), .val (.ref va), .val (.int (0 : Int32)), .val (.int (3 : Int32)), .unset, .unset] [(.int (0 : Int32))])) _
    refine XS.istore X0.here hx rfl (hb hby d7_1) rfl (l' := #[.val (.ref ca), .val (.int (0 : Int32)), .val (.ref va), .val (.int (0 : Int32)), .val (.int (3 : Int32)), .val (.int (0 : Int32)), .unset]) rfl ?_
    show Steps p.tables e below (s₁.setTop (mkF m 3 #[.val (.ref ca), .val (.int (0 : Int32)), .val (.ref va), .val (.int (0 : Int32)), .val (.int (3 : Int32)), .val (.int (0 : Int32)), .unset] [])) _
    refine XS.iload X0.here hx rfl (hb hby d7_3) rfl ?_
    show Steps p.tables e below (s₁.setTop (mkF m 5 #[.val (.ref ca), .val (.int (0 : Int32)), .val (.ref va), .val (.int (0 : Int32)), .val (.int (3 : Int32)), .val (.int (0 : Int32)), .unset] [(.int (0 : Int32))])) _
    refine XS.iload X0.here hx rfl (hb hby d7_5) rfl ?_
    show Steps p.tables e below (s₁.setTop (mkF m 7 #[.val (.ref ca), .val (.int (0 : Int32)), .val (.ref va), .val (.int (0 : Int32)), .val (.int (3 : Int32)), .val (.int (0 : Int32)), .unset] [(.int (3 : Int32)), (.int (0 : Int32))])) _
    refine XS.icmpNo X0.here hx rfl (hb hby d7_7) rfl (tlt (by decide : (0 : Int32) < (3 : Int32))).2.1 ?_
    show Steps p.tables e below (s₁.setTop (mkF m 10 #[.val (.ref ca), .val (.int (0 : Int32)), .val (.ref va), .val (.int (0 : Int32)), .val (.int (3 : Int32)), .val (.int (0 : Int32)), .unset] [])) _
    refine XS.aloadN X0.here hx rfl (hb hby d7_10) rfl rfl ?_
    show Steps p.tables e below (s₁.setTop (mkF m 11 #[.val (.ref ca), .val (.int (0 : Int32)), .val (.ref va), .val (.int (0 : Int32)), .val (.int (3 : Int32)), .val (.int (0 : Int32)), .unset] [(.ref ca)])) _
    refine XS.iloadN X0.here hx rfl (hb hby d7_11) rfl ?_
    exact kt)
  have op_2 := V_c
  obtain ⟨cl_2, Ar_2, q_2, S_2, Ng_2, H_2, G_2⟩ := op_2
  have hin_2 : ¬ ((0 : Int32) < 0 ∨ cl_2.slots.size ≤ ((0 : Int32)).toNatClampNeg) := inb_of S_2 ⟨by decide, by decide⟩
  have pre3 : ∀ tg, Steps p.tables e below (s₁.setTop (mkF m 31 #[.val (.ref ca), .val (.int (0 : Int32)), .val (.ref va), .val (.int (0 : Int32)), .val (.int (3 : Int32)), .val (.int (0 : Int32)), .val (.int y0)] [(.int (y0.toInt8.toInt32)), (.int (0 : Int32)), (.ref va)])) tg → G tg := fun tg kt => pre1 tg (by
    show Steps p.tables e below (s₁.setTop (mkF m 12 #[.val (.ref ca), .val (.int (0 : Int32)), .val (.ref va), .val (.int (0 : Int32)), .val (.int (3 : Int32)), .val (.int (0 : Int32)), .unset] [(.int (0 : Int32)), (.ref ca)])) _
    refine X0.caload hx (j := (0 : Int32)) (v := (.int y0)) (by rw [e0]; exact Ar_2.1) (State.isArrayOf_alike hZ.alike Ar_2.2.1) Ar_2.2.2 hin_2 (H_2.at hin_2 rfl) (g := (mkF m 12 #[.val (.ref ca), .val (.int (0 : Int32)), .val (.ref va), .val (.int (0 : Int32)), .val (.int (3 : Int32)), .val (.int (0 : Int32)), .unset] [(.int (0 : Int32)), (.ref ca)])) rfl rfl (hb hby d7_12) _ ?_
    show Steps p.tables e below (s₁.setTop (mkF m 13 #[.val (.ref ca), .val (.int (0 : Int32)), .val (.ref va), .val (.int (0 : Int32)), .val (.int (3 : Int32)), .val (.int (0 : Int32)), .unset] [(.int y0)])) _
    refine XS.istore X0.here hx rfl (hb hby d7_13) rfl (l' := #[.val (.ref ca), .val (.int (0 : Int32)), .val (.ref va), .val (.int (0 : Int32)), .val (.int (3 : Int32)), .val (.int (0 : Int32)), .val (.int y0)]) rfl ?_
    show Steps p.tables e below (s₁.setTop (mkF m 15 #[.val (.ref ca), .val (.int (0 : Int32)), .val (.ref va), .val (.int (0 : Int32)), .val (.int (3 : Int32)), .val (.int (0 : Int32)), .val (.int y0)] [])) _
    refine XS.iload X0.here hx rfl (hb hby d7_15) rfl ?_
    show Steps p.tables e below (s₁.setTop (mkF m 17 #[.val (.ref ca), .val (.int (0 : Int32)), .val (.ref va), .val (.int (0 : Int32)), .val (.int (3 : Int32)), .val (.int (0 : Int32)), .val (.int y0)] [(.int y0)])) _
    refine XS.sipush X0.here hx rfl (hb hby d7_17) ?_
    show Steps p.tables e below (s₁.setTop (mkF m 20 #[.val (.ref ca), .val (.int (0 : Int32)), .val (.ref va), .val (.int (0 : Int32)), .val (.int (3 : Int32)), .val (.int (0 : Int32)), .val (.int y0)] [(.int (255 : Int32)), (.int y0)])) _
    refine XS.icmpYes X0.here hx rfl (pc0 := 20) (pc' := 26) rfl (hb hby d7_20) rfl (flt (own_gt hy0)).2.2.2 (by decide) (by decide) ?_
    show Steps p.tables e below (s₁.setTop (mkF m 26 #[.val (.ref ca), .val (.int (0 : Int32)), .val (.ref va), .val (.int (0 : Int32)), .val (.int (3 : Int32)), .val (.int (0 : Int32)), .val (.int y0)] [])) _
    refine XS.aloadN X0.here hx rfl (hb hby d7_26) rfl rfl ?_
    show Steps p.tables e below (s₁.setTop (mkF m 27 #[.val (.ref ca), .val (.int (0 : Int32)), .val (.ref va), .val (.int (0 : Int32)), .val (.int (3 : Int32)), .val (.int (0 : Int32)), .val (.int y0)] [(.ref va)])) _
    refine XS.iloadN X0.here hx rfl (hb hby d7_27) rfl ?_
    show Steps p.tables e below (s₁.setTop (mkF m 28 #[.val (.ref ca), .val (.int (0 : Int32)), .val (.ref va), .val (.int (0 : Int32)), .val (.int (3 : Int32)), .val (.int (0 : Int32)), .val (.int y0)] [(.int (0 : Int32)), (.ref va)])) _
    refine XS.iload X0.here hx rfl (hb hby d7_28) rfl ?_
    show Steps p.tables e below (s₁.setTop (mkF m 30 #[.val (.ref ca), .val (.int (0 : Int32)), .val (.ref va), .val (.int (0 : Int32)), .val (.int (3 : Int32)), .val (.int (0 : Int32)), .val (.int y0)] [(.int y0), (.int (0 : Int32)), (.ref va)])) _
    refine XS.i2b X0.here hx rfl (hb hby d7_30) rfl ?_
    exact kt)
  have op_4 := V_v
  obtain ⟨cl_4, Ar_4, q_4, S_4, Ng_4, H_4, G_4⟩ := op_4
  have hin_4 : ¬ ((0 : Int32) < 0 ∨ cl_4.slots.size ≤ ((0 : Int32)).toNatClampNeg) := inb_of S_4 ⟨by decide, by decide⟩
  obtain ⟨T4, h4, X4, e4, W4, st4⟩ := stB X0 hx hZ e0 Ar_4 (j := (0 : Int32)) hin_4 (g := (mkF m 31 #[.val (.ref ca), .val (.int (0 : Int32)), .val (.ref va), .val (.int (0 : Int32)), .val (.int (3 : Int32)), .val (.int (0 : Int32)), .val (.int y0)] [(.int (y0.toInt8.toInt32)), (.int (0 : Int32)), (.ref va)])) rfl rfl (hb hby d7_31)
  have pre4s : ∀ tg, Steps p.tables e below (T4.setTop (mkF m 32 #[.val (.ref ca), .val (.int (0 : Int32)), .val (.ref va), .val (.int (0 : Int32)), .val (.int (3 : Int32)), .val (.int (0 : Int32)), .val (.int y0)] [])) tg → G tg := fun tg kt => pre3 tg (st4 tg kt)
  have V_c_5 := V_c.other W4 ne_c_v
  have V4_va : Arv Z h4 va kv .byte (3 : Int32) [(.int (y0.toInt8.toInt32.toInt8.toInt32)), (.int (0 : Int32)), (.int (0 : Int32))] (.int (0 : Int32)) := Arv.set Ar_4 q_4 S_4 Ng_4 H_4 G_4 (fits_nar_byte _) W4 0 rfl (Nat.le_of_ble_eq_true rfl)
  have N4 := Fr.snoc X4 N0 O_va
  have Z4 : n0 ≤ h4.size := Nat.le_trans Z0 (Keep.of_wr W4).1
  have K4 : Keep h0 h4 [va] := (Keep.refl h0 [va]).wr W4 (Or.inl (List.mem_of_getElem? (i := 0) rfl))
  have pre6 : ∀ tg, Steps p.tables e below (T4.setTop (mkF m 12 #[.val (.ref ca), .val (.int (1 : Int32)), .val (.ref va), .val (.int (1 : Int32)), .val (.int (3 : Int32)), .val (.int (1 : Int32)), .val (.int y0)] [(.int (1 : Int32)), (.ref ca)])) tg → G tg := fun tg kt => pre4s tg (by
    show Steps p.tables e below (T4.setTop (mkF m 32 #[.val (.ref ca), .val (.int (0 : Int32)), .val (.ref va), .val (.int (0 : Int32)), .val (.int (3 : Int32)), .val (.int (0 : Int32)), .val (.int y0)] [])) _
    refine XS.iinc X4.here hx rfl (hb hby d7_32) rfl (l' := #[.val (.ref ca), .val (.int (1 : Int32)), .val (.ref va), .val (.int (0 : Int32)), .val (.int (3 : Int32)), .val (.int (0 : Int32)), .val (.int y0)]) rfl ?_
    show Steps p.tables e below (T4.setTop (mkF m 35 #[.val (.ref ca), .val (.int (1 : Int32)), .val (.ref va), .val (.int (0 : Int32)), .val (.int (3 : Int32)), .val (.int (0 : Int32)), .val (.int y0)] [])) _
    refine XS.iinc X4.here hx rfl (hb hby d7_35) rfl (l' := #[.val (.ref ca), .val (.int (1 : Int32)), .val (.ref va), .val (.int (1 : Int32)), .val (.int (3 : Int32)), .val (.int (0 : Int32)), .val (.int y0)]) rfl ?_
    show Steps p.tables e below (T4.setTop (mkF m 38 #[.val (.ref ca), .val (.int (1 : Int32)), .val (.ref va), .val (.int (1 : Int32)), .val (.int (3 : Int32)), .val (.int (0 : Int32)), .val (.int y0)] [])) _
    refine XS.iinc X4.here hx rfl (hb hby d7_38) rfl (l' := #[.val (.ref ca), .val (.int (1 : Int32)), .val (.ref va), .val (.int (1 : Int32)), .val (.int (3 : Int32)), .val (.int (1 : Int32)), .val (.int y0)]) rfl ?_
    show Steps p.tables e below (T4.setTop (mkF m 41 #[.val (.ref ca), .val (.int (1 : Int32)), .val (.ref va), .val (.int (1 : Int32)), .val (.int (3 : Int32)), .val (.int (1 : Int32)), .val (.int y0)] [])) _
    refine XS.goto X4.here hx rfl (pc0 := 41) (pc' := 3) rfl (hb hby d7_41) (by decide) (by decide) ?_
    show Steps p.tables e below (T4.setTop (mkF m 3 #[.val (.ref ca), .val (.int (1 : Int32)), .val (.ref va), .val (.int (1 : Int32)), .val (.int (3 : Int32)), .val (.int (1 : Int32)), .val (.int y0)] [])) _
    refine XS.iload X4.here hx rfl (hb hby d7_3) rfl ?_
    show Steps p.tables e below (T4.setTop (mkF m 5 #[.val (.ref ca), .val (.int (1 : Int32)), .val (.ref va), .val (.int (1 : Int32)), .val (.int (3 : Int32)), .val (.int (1 : Int32)), .val (.int y0)] [(.int (1 : Int32))])) _
    refine XS.iload X4.here hx rfl (hb hby d7_5) rfl ?_
    show Steps p.tables e below (T4.setTop (mkF m 7 #[.val (.ref ca), .val (.int (1 : Int32)), .val (.ref va), .val (.int (1 : Int32)), .val (.int (3 : Int32)), .val (.int (1 : Int32)), .val (.int y0)] [(.int (3 : Int32)), (.int (1 : Int32))])) _
    refine XS.icmpNo X4.here hx rfl (hb hby d7_7) rfl (tlt (by decide : (1 : Int32) < (3 : Int32))).2.1 ?_
    show Steps p.tables e below (T4.setTop (mkF m 10 #[.val (.ref ca), .val (.int (1 : Int32)), .val (.ref va), .val (.int (1 : Int32)), .val (.int (3 : Int32)), .val (.int (1 : Int32)), .val (.int y0)] [])) _
    refine XS.aloadN X4.here hx rfl (hb hby d7_10) rfl rfl ?_
    show Steps p.tables e below (T4.setTop (mkF m 11 #[.val (.ref ca), .val (.int (1 : Int32)), .val (.ref va), .val (.int (1 : Int32)), .val (.int (3 : Int32)), .val (.int (1 : Int32)), .val (.int y0)] [(.ref ca)])) _
    refine XS.iloadN X4.here hx rfl (hb hby d7_11) rfl ?_
    exact kt)
  have op_7 := V_c_5
  obtain ⟨cl_7, Ar_7, q_7, S_7, Ng_7, H_7, G_7⟩ := op_7
  have hin_7 : ¬ ((1 : Int32) < 0 ∨ cl_7.slots.size ≤ ((1 : Int32)).toNatClampNeg) := inb_of S_7 ⟨by decide, by decide⟩
  have pre8 : ∀ tg, Steps p.tables e below (T4.setTop (mkF m 31 #[.val (.ref ca), .val (.int (1 : Int32)), .val (.ref va), .val (.int (1 : Int32)), .val (.int (3 : Int32)), .val (.int (1 : Int32)), .val (.int y1)] [(.int (y1.toInt8.toInt32)), (.int (1 : Int32)), (.ref va)])) tg → G tg := fun tg kt => pre6 tg (by
    show Steps p.tables e below (T4.setTop (mkF m 12 #[.val (.ref ca), .val (.int (1 : Int32)), .val (.ref va), .val (.int (1 : Int32)), .val (.int (3 : Int32)), .val (.int (1 : Int32)), .val (.int y0)] [(.int (1 : Int32)), (.ref ca)])) _
    refine X4.caload hx (j := (1 : Int32)) (v := (.int y1)) (by rw [e4]; exact Ar_7.1) (State.isArrayOf_alike hZ.alike Ar_7.2.1) Ar_7.2.2 hin_7 (H_7.at hin_7 rfl) (g := (mkF m 12 #[.val (.ref ca), .val (.int (1 : Int32)), .val (.ref va), .val (.int (1 : Int32)), .val (.int (3 : Int32)), .val (.int (1 : Int32)), .val (.int y0)] [(.int (1 : Int32)), (.ref ca)])) rfl rfl (hb hby d7_12) _ ?_
    show Steps p.tables e below (T4.setTop (mkF m 13 #[.val (.ref ca), .val (.int (1 : Int32)), .val (.ref va), .val (.int (1 : Int32)), .val (.int (3 : Int32)), .val (.int (1 : Int32)), .val (.int y0)] [(.int y1)])) _
    refine XS.istore X4.here hx rfl (hb hby d7_13) rfl (l' := #[.val (.ref ca), .val (.int (1 : Int32)), .val (.ref va), .val (.int (1 : Int32)), .val (.int (3 : Int32)), .val (.int (1 : Int32)), .val (.int y1)]) rfl ?_
    show Steps p.tables e below (T4.setTop (mkF m 15 #[.val (.ref ca), .val (.int (1 : Int32)), .val (.ref va), .val (.int (1 : Int32)), .val (.int (3 : Int32)), .val (.int (1 : Int32)), .val (.int y1)] [])) _
    refine XS.iload X4.here hx rfl (hb hby d7_15) rfl ?_
    show Steps p.tables e below (T4.setTop (mkF m 17 #[.val (.ref ca), .val (.int (1 : Int32)), .val (.ref va), .val (.int (1 : Int32)), .val (.int (3 : Int32)), .val (.int (1 : Int32)), .val (.int y1)] [(.int y1)])) _
    refine XS.sipush X4.here hx rfl (hb hby d7_17) ?_
    show Steps p.tables e below (T4.setTop (mkF m 20 #[.val (.ref ca), .val (.int (1 : Int32)), .val (.ref va), .val (.int (1 : Int32)), .val (.int (3 : Int32)), .val (.int (1 : Int32)), .val (.int y1)] [(.int (255 : Int32)), (.int y1)])) _
    refine XS.icmpYes X4.here hx rfl (pc0 := 20) (pc' := 26) rfl (hb hby d7_20) rfl (flt (own_gt hy1)).2.2.2 (by decide) (by decide) ?_
    show Steps p.tables e below (T4.setTop (mkF m 26 #[.val (.ref ca), .val (.int (1 : Int32)), .val (.ref va), .val (.int (1 : Int32)), .val (.int (3 : Int32)), .val (.int (1 : Int32)), .val (.int y1)] [])) _
    refine XS.aloadN X4.here hx rfl (hb hby d7_26) rfl rfl ?_
    show Steps p.tables e below (T4.setTop (mkF m 27 #[.val (.ref ca), .val (.int (1 : Int32)), .val (.ref va), .val (.int (1 : Int32)), .val (.int (3 : Int32)), .val (.int (1 : Int32)), .val (.int y1)] [(.ref va)])) _
    refine XS.iloadN X4.here hx rfl (hb hby d7_27) rfl ?_
    show Steps p.tables e below (T4.setTop (mkF m 28 #[.val (.ref ca), .val (.int (1 : Int32)), .val (.ref va), .val (.int (1 : Int32)), .val (.int (3 : Int32)), .val (.int (1 : Int32)), .val (.int y1)] [(.int (1 : Int32)), (.ref va)])) _
    refine XS.iload X4.here hx rfl (hb hby d7_28) rfl ?_
    show Steps p.tables e below (T4.setTop (mkF m 30 #[.val (.ref ca), .val (.int (1 : Int32)), .val (.ref va), .val (.int (1 : Int32)), .val (.int (3 : Int32)), .val (.int (1 : Int32)), .val (.int y1)] [(.int y1), (.int (1 : Int32)), (.ref va)])) _
    refine XS.i2b X4.here hx rfl (hb hby d7_30) rfl ?_
    exact kt)
  have op_9 := V4_va
  obtain ⟨cl_9, Ar_9, q_9, S_9, Ng_9, H_9, G_9⟩ := op_9
  have hin_9 : ¬ ((1 : Int32) < 0 ∨ cl_9.slots.size ≤ ((1 : Int32)).toNatClampNeg) := inb_of S_9 ⟨by decide, by decide⟩
  obtain ⟨T9, h9, X9, e9, W9, st9⟩ := stB X4 hx hZ e4 Ar_9 (j := (1 : Int32)) hin_9 (g := (mkF m 31 #[.val (.ref ca), .val (.int (1 : Int32)), .val (.ref va), .val (.int (1 : Int32)), .val (.int (3 : Int32)), .val (.int (1 : Int32)), .val (.int y1)] [(.int (y1.toInt8.toInt32)), (.int (1 : Int32)), (.ref va)])) rfl rfl (hb hby d7_31)
  have pre9s : ∀ tg, Steps p.tables e below (T9.setTop (mkF m 32 #[.val (.ref ca), .val (.int (1 : Int32)), .val (.ref va), .val (.int (1 : Int32)), .val (.int (3 : Int32)), .val (.int (1 : Int32)), .val (.int y1)] [])) tg → G tg := fun tg kt => pre8 tg (st9 tg kt)
  have V_c_10 := V_c_5.other W9 ne_c_v
  have V9_va : Arv Z h9 va kv .byte (3 : Int32) [(.int (y0.toInt8.toInt32.toInt8.toInt32)), (.int (y1.toInt8.toInt32.toInt8.toInt32)), (.int (0 : Int32))] (.int (0 : Int32)) := Arv.set Ar_9 q_9 S_9 Ng_9 H_9 G_9 (fits_nar_byte _) W9 1 rfl (Nat.le_of_ble_eq_true rfl)
  have N9 := Fr.snoc X9 N4 O_va
  have Z9 : n0 ≤ h9.size := Nat.le_trans Z4 (Keep.of_wr W9).1
  have K9 : Keep h0 h9 [va] := K4.wr W9 (Or.inl (List.mem_of_getElem? (i := 0) rfl))
  have pre11 : ∀ tg, Steps p.tables e below (T9.setTop (mkF m 12 #[.val (.ref ca), .val (.int (2 : Int32)), .val (.ref va), .val (.int (2 : Int32)), .val (.int (3 : Int32)), .val (.int (2 : Int32)), .val (.int y1)] [(.int (2 : Int32)), (.ref ca)])) tg → G tg := fun tg kt => pre9s tg (by
    show Steps p.tables e below (T9.setTop (mkF m 32 #[.val (.ref ca), .val (.int (1 : Int32)), .val (.ref va), .val (.int (1 : Int32)), .val (.int (3 : Int32)), .val (.int (1 : Int32)), .val (.int y1)] [])) _
    refine XS.iinc X9.here hx rfl (hb hby d7_32) rfl (l' := #[.val (.ref ca), .val (.int (2 : Int32)), .val (.ref va), .val (.int (1 : Int32)), .val (.int (3 : Int32)), .val (.int (1 : Int32)), .val (.int y1)]) rfl ?_
    show Steps p.tables e below (T9.setTop (mkF m 35 #[.val (.ref ca), .val (.int (2 : Int32)), .val (.ref va), .val (.int (1 : Int32)), .val (.int (3 : Int32)), .val (.int (1 : Int32)), .val (.int y1)] [])) _
    refine XS.iinc X9.here hx rfl (hb hby d7_35) rfl (l' := #[.val (.ref ca), .val (.int (2 : Int32)), .val (.ref va), .val (.int (2 : Int32)), .val (.int (3 : Int32)), .val (.int (1 : Int32)), .val (.int y1)]) rfl ?_
    show Steps p.tables e below (T9.setTop (mkF m 38 #[.val (.ref ca), .val (.int (2 : Int32)), .val (.ref va), .val (.int (2 : Int32)), .val (.int (3 : Int32)), .val (.int (1 : Int32)), .val (.int y1)] [])) _
    refine XS.iinc X9.here hx rfl (hb hby d7_38) rfl (l' := #[.val (.ref ca), .val (.int (2 : Int32)), .val (.ref va), .val (.int (2 : Int32)), .val (.int (3 : Int32)), .val (.int (2 : Int32)), .val (.int y1)]) rfl ?_
    show Steps p.tables e below (T9.setTop (mkF m 41 #[.val (.ref ca), .val (.int (2 : Int32)), .val (.ref va), .val (.int (2 : Int32)), .val (.int (3 : Int32)), .val (.int (2 : Int32)), .val (.int y1)] [])) _
    refine XS.goto X9.here hx rfl (pc0 := 41) (pc' := 3) rfl (hb hby d7_41) (by decide) (by decide) ?_
    show Steps p.tables e below (T9.setTop (mkF m 3 #[.val (.ref ca), .val (.int (2 : Int32)), .val (.ref va), .val (.int (2 : Int32)), .val (.int (3 : Int32)), .val (.int (2 : Int32)), .val (.int y1)] [])) _
    refine XS.iload X9.here hx rfl (hb hby d7_3) rfl ?_
    show Steps p.tables e below (T9.setTop (mkF m 5 #[.val (.ref ca), .val (.int (2 : Int32)), .val (.ref va), .val (.int (2 : Int32)), .val (.int (3 : Int32)), .val (.int (2 : Int32)), .val (.int y1)] [(.int (2 : Int32))])) _
    refine XS.iload X9.here hx rfl (hb hby d7_5) rfl ?_
    show Steps p.tables e below (T9.setTop (mkF m 7 #[.val (.ref ca), .val (.int (2 : Int32)), .val (.ref va), .val (.int (2 : Int32)), .val (.int (3 : Int32)), .val (.int (2 : Int32)), .val (.int y1)] [(.int (3 : Int32)), (.int (2 : Int32))])) _
    refine XS.icmpNo X9.here hx rfl (hb hby d7_7) rfl (tlt (by decide : (2 : Int32) < (3 : Int32))).2.1 ?_
    show Steps p.tables e below (T9.setTop (mkF m 10 #[.val (.ref ca), .val (.int (2 : Int32)), .val (.ref va), .val (.int (2 : Int32)), .val (.int (3 : Int32)), .val (.int (2 : Int32)), .val (.int y1)] [])) _
    refine XS.aloadN X9.here hx rfl (hb hby d7_10) rfl rfl ?_
    show Steps p.tables e below (T9.setTop (mkF m 11 #[.val (.ref ca), .val (.int (2 : Int32)), .val (.ref va), .val (.int (2 : Int32)), .val (.int (3 : Int32)), .val (.int (2 : Int32)), .val (.int y1)] [(.ref ca)])) _
    refine XS.iloadN X9.here hx rfl (hb hby d7_11) rfl ?_
    exact kt)
  have op_12 := V_c_10
  obtain ⟨cl_12, Ar_12, q_12, S_12, Ng_12, H_12, G_12⟩ := op_12
  have hin_12 : ¬ ((2 : Int32) < 0 ∨ cl_12.slots.size ≤ ((2 : Int32)).toNatClampNeg) := inb_of S_12 ⟨by decide, by decide⟩
  have pre13 : ∀ tg, Steps p.tables e below (T9.setTop (mkF m 31 #[.val (.ref ca), .val (.int (2 : Int32)), .val (.ref va), .val (.int (2 : Int32)), .val (.int (3 : Int32)), .val (.int (2 : Int32)), .val (.int y2)] [(.int (y2.toInt8.toInt32)), (.int (2 : Int32)), (.ref va)])) tg → G tg := fun tg kt => pre11 tg (by
    show Steps p.tables e below (T9.setTop (mkF m 12 #[.val (.ref ca), .val (.int (2 : Int32)), .val (.ref va), .val (.int (2 : Int32)), .val (.int (3 : Int32)), .val (.int (2 : Int32)), .val (.int y1)] [(.int (2 : Int32)), (.ref ca)])) _
    refine X9.caload hx (j := (2 : Int32)) (v := (.int y2)) (by rw [e9]; exact Ar_12.1) (State.isArrayOf_alike hZ.alike Ar_12.2.1) Ar_12.2.2 hin_12 (H_12.at hin_12 rfl) (g := (mkF m 12 #[.val (.ref ca), .val (.int (2 : Int32)), .val (.ref va), .val (.int (2 : Int32)), .val (.int (3 : Int32)), .val (.int (2 : Int32)), .val (.int y1)] [(.int (2 : Int32)), (.ref ca)])) rfl rfl (hb hby d7_12) _ ?_
    show Steps p.tables e below (T9.setTop (mkF m 13 #[.val (.ref ca), .val (.int (2 : Int32)), .val (.ref va), .val (.int (2 : Int32)), .val (.int (3 : Int32)), .val (.int (2 : Int32)), .val (.int y1)] [(.int y2)])) _
    refine XS.istore X9.here hx rfl (hb hby d7_13) rfl (l' := #[.val (.ref ca), .val (.int (2 : Int32)), .val (.ref va), .val (.int (2 : Int32)), .val (.int (3 : Int32)), .val (.int (2 : Int32)), .val (.int y2)]) rfl ?_
    show Steps p.tables e below (T9.setTop (mkF m 15 #[.val (.ref ca), .val (.int (2 : Int32)), .val (.ref va), .val (.int (2 : Int32)), .val (.int (3 : Int32)), .val (.int (2 : Int32)), .val (.int y2)] [])) _
    refine XS.iload X9.here hx rfl (hb hby d7_15) rfl ?_
    show Steps p.tables e below (T9.setTop (mkF m 17 #[.val (.ref ca), .val (.int (2 : Int32)), .val (.ref va), .val (.int (2 : Int32)), .val (.int (3 : Int32)), .val (.int (2 : Int32)), .val (.int y2)] [(.int y2)])) _
    refine XS.sipush X9.here hx rfl (hb hby d7_17) ?_
    show Steps p.tables e below (T9.setTop (mkF m 20 #[.val (.ref ca), .val (.int (2 : Int32)), .val (.ref va), .val (.int (2 : Int32)), .val (.int (3 : Int32)), .val (.int (2 : Int32)), .val (.int y2)] [(.int (255 : Int32)), (.int y2)])) _
    refine XS.icmpYes X9.here hx rfl (pc0 := 20) (pc' := 26) rfl (hb hby d7_20) rfl (flt (own_gt hy2)).2.2.2 (by decide) (by decide) ?_
    show Steps p.tables e below (T9.setTop (mkF m 26 #[.val (.ref ca), .val (.int (2 : Int32)), .val (.ref va), .val (.int (2 : Int32)), .val (.int (3 : Int32)), .val (.int (2 : Int32)), .val (.int y2)] [])) _
    refine XS.aloadN X9.here hx rfl (hb hby d7_26) rfl rfl ?_
    show Steps p.tables e below (T9.setTop (mkF m 27 #[.val (.ref ca), .val (.int (2 : Int32)), .val (.ref va), .val (.int (2 : Int32)), .val (.int (3 : Int32)), .val (.int (2 : Int32)), .val (.int y2)] [(.ref va)])) _
    refine XS.iloadN X9.here hx rfl (hb hby d7_27) rfl ?_
    show Steps p.tables e below (T9.setTop (mkF m 28 #[.val (.ref ca), .val (.int (2 : Int32)), .val (.ref va), .val (.int (2 : Int32)), .val (.int (3 : Int32)), .val (.int (2 : Int32)), .val (.int y2)] [(.int (2 : Int32)), (.ref va)])) _
    refine XS.iload X9.here hx rfl (hb hby d7_28) rfl ?_
    show Steps p.tables e below (T9.setTop (mkF m 30 #[.val (.ref ca), .val (.int (2 : Int32)), .val (.ref va), .val (.int (2 : Int32)), .val (.int (3 : Int32)), .val (.int (2 : Int32)), .val (.int y2)] [(.int y2), (.int (2 : Int32)), (.ref va)])) _
    refine XS.i2b X9.here hx rfl (hb hby d7_30) rfl ?_
    exact kt)
  have op_14 := V9_va
  obtain ⟨cl_14, Ar_14, q_14, S_14, Ng_14, H_14, G_14⟩ := op_14
  have hin_14 : ¬ ((2 : Int32) < 0 ∨ cl_14.slots.size ≤ ((2 : Int32)).toNatClampNeg) := inb_of S_14 ⟨by decide, by decide⟩
  obtain ⟨T14, h14, X14, e14, W14, st14⟩ := stB X9 hx hZ e9 Ar_14 (j := (2 : Int32)) hin_14 (g := (mkF m 31 #[.val (.ref ca), .val (.int (2 : Int32)), .val (.ref va), .val (.int (2 : Int32)), .val (.int (3 : Int32)), .val (.int (2 : Int32)), .val (.int y2)] [(.int (y2.toInt8.toInt32)), (.int (2 : Int32)), (.ref va)])) rfl rfl (hb hby d7_31)
  have pre14s : ∀ tg, Steps p.tables e below (T14.setTop (mkF m 32 #[.val (.ref ca), .val (.int (2 : Int32)), .val (.ref va), .val (.int (2 : Int32)), .val (.int (3 : Int32)), .val (.int (2 : Int32)), .val (.int y2)] [])) tg → G tg := fun tg kt => pre13 tg (st14 tg kt)
  have V_c_15 := V_c_10.other W14 ne_c_v
  have V14_va : Arv Z h14 va kv .byte (3 : Int32) [(.int (y0.toInt8.toInt32.toInt8.toInt32)), (.int (y1.toInt8.toInt32.toInt8.toInt32)), (.int (y2.toInt8.toInt32.toInt8.toInt32))] (.int (0 : Int32)) := Arv.set Ar_14 q_14 S_14 Ng_14 H_14 G_14 (fits_nar_byte _) W14 2 rfl (Nat.le_of_ble_eq_true rfl)
  have N14 := Fr.snoc X14 N9 O_va
  have Z14 : n0 ≤ h14.size := Nat.le_trans Z9 (Keep.of_wr W14).1
  have K14 : Keep h0 h14 [va] := K9.wr W14 (Or.inl (List.mem_of_getElem? (i := 0) rfl))
  obtain ⟨fs, hr, hrun, hended, hW, hsame⟩ := X14.leave (v := some (.int (3 : Int32))) (fun h => by rw [Bd.returns] at h; cases h)
  subst hG
  refine ⟨_, _, pre14s _ ?_, hrun, hended, _, _, rfl, ?_, ⟨_, rfl⟩, hW, hsame.mono (by decide) (by decide)⟩
  · skip
    show Steps p.tables e below (T14.setTop (mkF m 32 #[.val (.ref ca), .val (.int (2 : Int32)), .val (.ref va), .val (.int (2 : Int32)), .val (.int (3 : Int32)), .val (.int (2 : Int32)), .val (.int y2)] [])) _
    refine XS.iinc X14.here hx rfl (hb hby d7_32) rfl (l' := #[.val (.ref ca), .val (.int (3 : Int32)), .val (.ref va), .val (.int (2 : Int32)), .val (.int (3 : Int32)), .val (.int (2 : Int32)), .val (.int y2)]) rfl ?_
    show Steps p.tables e below (T14.setTop (mkF m 35 #[.val (.ref ca), .val (.int (3 : Int32)), .val (.ref va), .val (.int (2 : Int32)), .val (.int (3 : Int32)), .val (.int (2 : Int32)), .val (.int y2)] [])) _
    refine XS.iinc X14.here hx rfl (hb hby d7_35) rfl (l' := #[.val (.ref ca), .val (.int (3 : Int32)), .val (.ref va), .val (.int (3 : Int32)), .val (.int (3 : Int32)), .val (.int (2 : Int32)), .val (.int y2)]) rfl ?_
    show Steps p.tables e below (T14.setTop (mkF m 38 #[.val (.ref ca), .val (.int (3 : Int32)), .val (.ref va), .val (.int (3 : Int32)), .val (.int (3 : Int32)), .val (.int (2 : Int32)), .val (.int y2)] [])) _
    refine XS.iinc X14.here hx rfl (hb hby d7_38) rfl (l' := #[.val (.ref ca), .val (.int (3 : Int32)), .val (.ref va), .val (.int (3 : Int32)), .val (.int (3 : Int32)), .val (.int (3 : Int32)), .val (.int y2)]) rfl ?_
    show Steps p.tables e below (T14.setTop (mkF m 41 #[.val (.ref ca), .val (.int (3 : Int32)), .val (.ref va), .val (.int (3 : Int32)), .val (.int (3 : Int32)), .val (.int (3 : Int32)), .val (.int y2)] [])) _
    refine XS.goto X14.here hx rfl (pc0 := 41) (pc' := 3) rfl (hb hby d7_41) (by decide) (by decide) ?_
    show Steps p.tables e below (T14.setTop (mkF m 3 #[.val (.ref ca), .val (.int (3 : Int32)), .val (.ref va), .val (.int (3 : Int32)), .val (.int (3 : Int32)), .val (.int (3 : Int32)), .val (.int y2)] [])) _
    refine XS.iload X14.here hx rfl (hb hby d7_3) rfl ?_
    show Steps p.tables e below (T14.setTop (mkF m 5 #[.val (.ref ca), .val (.int (3 : Int32)), .val (.ref va), .val (.int (3 : Int32)), .val (.int (3 : Int32)), .val (.int (3 : Int32)), .val (.int y2)] [(.int (3 : Int32))])) _
    refine XS.iload X14.here hx rfl (hb hby d7_5) rfl ?_
    show Steps p.tables e below (T14.setTop (mkF m 7 #[.val (.ref ca), .val (.int (3 : Int32)), .val (.ref va), .val (.int (3 : Int32)), .val (.int (3 : Int32)), .val (.int (3 : Int32)), .val (.int y2)] [(.int (3 : Int32)), (.int (3 : Int32))])) _
    refine XS.icmpYes X14.here hx rfl (pc0 := 7) (pc' := 44) rfl (hb hby d7_7) rfl (flt (by decide : ¬ ((3 : Int32) < (3 : Int32)))).2.1 (by decide) (by decide) ?_
    show Steps p.tables e below (T14.setTop (mkF m 44 #[.val (.ref ca), .val (.int (3 : Int32)), .val (.ref va), .val (.int (3 : Int32)), .val (.int (3 : Int32)), .val (.int (3 : Int32)), .val (.int y2)] [])) _
    refine XS.iload X14.here hx rfl (hb hby d7_44) rfl ?_
    show Steps p.tables e below (T14.setTop (mkF m 46 #[.val (.ref ca), .val (.int (3 : Int32)), .val (.ref va), .val (.int (3 : Int32)), .val (.int (3 : Int32)), .val (.int (3 : Int32)), .val (.int y2)] [(.int (3 : Int32))])) _
    exact retI X14 hx Bd.returns (hb hby d7_46) hr
  · show Q_rmC_3 Z ca va kc kv y0 y1 y2 h0 n0 _ T14.heap _
    rw [e14]
    exact ⟨rfl, N14, K14, V14_va⟩
def Q_rmD_3 (Z : State) (ca : Addr) (kc : ClassId) (y0 y1 y2 : Int32) (h0 : Heap) (n0 : Nat) (v : Option Value) (h : Heap) (L : List Loc) : Prop := ∃ (va : Addr) (kv : ClassId), v = some (.ref va) ∧ Fr n0 L ∧ Keep h0 h [] ∧ h0.size ≤ va ∧ Arv Z h va kv .byte (3 : Int32) [(.int (y0.toInt8.toInt32.toInt8.toInt32)), (.int (y1.toInt8.toInt32.toInt8.toInt32)), (.int (y2.toInt8.toInt32.toInt8.toInt32))] (.int (0 : Int32))
set_option maxRecDepth 65536 in
set_option maxHeartbeats 40000000 in
theorem rmD_3 (l : Launch) (Z : State) (a0 : Array Value) (hw : ∀ d ∈ tables_1, d.before a0 Z = true) (ws : List Jvm.Cond) (ca : Addr) (kc : ClassId) (y0 y1 y2 : Int32) (h0 : Heap) (n0 : Nat) (Z0 : n0 ≤ h0.size) (V_c : Arv Z h0 ca kc .char (3 : Int32) [(.int y0), (.int y1), (.int y2)] (.int (0 : Int32))) (hy0 : own_y y0) (hy1 : own_y y1) (hy2 : own_y y2) :
    MetFree l (⟨"java/lang/StringUTF16", "compress", "([CII)[B"⟩ : MethodName) (head1 (Jvm.Cond.code (⟨"java/lang/StringUTF16", "compress", "([CII)[B"⟩ : MethodName) jdk_52_method_16_code 6 (some (.array .byte)) :: ws) ({ frames := 1, cells := 1, slots := 3, locals := 24 } : Room)) (fun argv U => argv = #[(.ref ca), (.int (0 : Int32)), (.int (3 : Int32))] ∧ Z.Warmed39 U.vm ∧ U.heap = h0) (fun _ _ _ _ _ => True) (fun _ U o U' => ∃ v L, o = .returned v ∧ Q_rmD_3 Z ca kc y0 y1 y2 h0 n0 v U'.heap L ∧ FrameEnd U o U' L ({ frames := 1, cells := 1, slots := 3, locals := 24 } : Room).cells ({ frames := 1, cells := 1, slots := 3, locals := 24 } : Room).slots) := by
  refine MetFree.of_bodySF (plainFor_of_name pn_6) hisR ?_
  intro p e s m args below meth c s₁ Bd hml0 hP hK
  obtain ⟨rfl, hZ, hh⟩ := hP
  have hx := Bd.exec
  have hby := Bd.bytes
  have hml : c.maxLocals = 6 := hml0
  have hown : s.vm.findClass "java/lang/StringUTF16" = some m.cls := findClass_of_methodNamed Bd.named
  have hnm := (name_of_methodNamed Bd.named Bd.method).1
  have X0 : Stand p l e ({ frames := 1, cells := 1, slots := 3, locals := 24 } : Room) s m #[(.ref ca), (.int (0 : Int32)), (.int (3 : Int32))] below meth c s₁ [] 0 0 := Stand.of_body Bd
  have e0 : s₁.heap = h0 := by rw [← hh, Bd.state]; rfl
  have N0 := Fr.nil n0
  obtain ⟨G, hG⟩ : ∃ G : State → Prop, G = fun tg => Steps p.tables e below (s₁.setTop (entryFrame m #[(.ref ca), (.int (0 : Int32)), (.int (3 : Int32))] 6)) tg := ⟨_, rfl⟩
  have pre0 : ∀ tg, Steps p.tables e below (s₁.setTop (mkF m 0 #[.val (.ref ca), .val (.int (0 : Int32)), .val (.int (3 : Int32)), .unset, .unset, .unset] [])) tg → G tg := fun tg kt => by rw [hG]; exact castTop (ef_6_R_I_I m ca (0 : Int32) (3 : Int32)) kt
  have pre1 : ∀ tg, Steps p.tables e below (s₁.setTop (mkF m 1 #[.val (.ref ca), .val (.int (0 : Int32)), .val (.int (3 : Int32)), .unset, .unset, .unset] [(.int (3 : Int32))])) tg → G tg := fun tg kt => pre0 tg (by
    show Steps p.tables e below (s₁.setTop (mkF m 0 #[.val (.ref ca), .val (.int (0 : Int32)), .val (.int (3 : Int32)), .unset, .unset, .unset] [])) _
    refine XS.iloadN X0.here hx rfl (hb hby d6_0) rfl ?_
    exact kt)
  obtain ⟨T2, h2, k2, X2, e2, E2, A2, st2⟩ := newP X0 hx hZ (hw _ (List.mem_of_getElem? (i := 20) rfl)) e0 (g := (mkF m 1 #[.val (.ref ca), .val (.int (0 : Int32)), .val (.int (3 : Int32)), .unset, .unset, .unset] [(.int (3 : Int32))])) rfl (hb hby d6_1) rfl (by decide) (cap := 3) (by decide) (by decide) (by decide) (by decide)
  obtain ⟨va, g2⟩ : ∃ z, z = h0.size := ⟨_, rfl⟩
  rw [← g2] at A2 st2
  have O_va : n0 ≤ va := Nat.le_trans Z0 (Nat.le_of_eq g2.symm)
  have Z2 : n0 ≤ h2.size := Nat.le_trans Z0 E2.1
  have ne_ca_va : ca ≠ va := Nat.ne_of_lt (Nat.lt_of_lt_of_le V_c.lt (Nat.le_of_eq g2.symm))
  have S_va : h0.size ≤ va := Nat.le_trans (Keep.refl h0 []).1 (Nat.le_of_eq g2.symm)
  have pre2s : ∀ tg, Steps p.tables e below (T2.setTop (mkF m 3 #[.val (.ref ca), .val (.int (0 : Int32)), .val (.int (3 : Int32)), .unset, .unset, .unset] [(.ref va)])) tg → G tg := fun tg kt => pre1 tg (st2 tg kt)
  have V_c_3 := V_c.ext E2
  have V_va : Arv Z h2 va k2 .byte (3 : Int32) [(.int (0 : Int32)), (.int (0 : Int32)), (.int (0 : Int32))] (.int (0 : Int32)) := (Arv.new A2 (by decide)).pad (pad_rep [] (.int (0 : Int32)) 3)
  have K2 : Keep h0 h2 [] := (Keep.refl h0 []).ext E2
  have pre4 : ∀ tg, Steps p.tables e below (T2.setTop (mkF m 9 #[.val (.ref ca), .val (.int (0 : Int32)), .val (.int (3 : Int32)), .val (.ref va), .unset, .unset] [(.int (3 : Int32)), (.int (0 : Int32)), (.ref va), (.int (0 : Int32)), (.ref ca)])) tg → G tg := fun tg kt => pre2s tg (by
    show Steps p.tables e below (T2.setTop (mkF m 3 #[.val (.ref ca), .val (.int (0 : Int32)), .val (.int (3 : Int32)), .unset, .unset, .unset] [(.ref va)])) _
    refine XS.astoreN X2.here hx rfl (hb hby d6_3) rfl rfl (l' := #[.val (.ref ca), .val (.int (0 : Int32)), .val (.int (3 : Int32)), .val (.ref va), .unset, .unset]) rfl ?_
    show Steps p.tables e below (T2.setTop (mkF m 4 #[.val (.ref ca), .val (.int (0 : Int32)), .val (.int (3 : Int32)), .val (.ref va), .unset, .unset] [])) _
    refine XS.aloadN X2.here hx rfl (hb hby d6_4) rfl rfl ?_
    show Steps p.tables e below (T2.setTop (mkF m 5 #[.val (.ref ca), .val (.int (0 : Int32)), .val (.int (3 : Int32)), .val (.ref va), .unset, .unset] [(.ref ca)])) _
    refine XS.iloadN X2.here hx rfl (hb hby d6_5) rfl ?_
    show Steps p.tables e below (T2.setTop (mkF m 6 #[.val (.ref ca), .val (.int (0 : Int32)), .val (.int (3 : Int32)), .val (.ref va), .unset, .unset] [(.int (0 : Int32)), (.ref ca)])) _
    refine XS.aloadN X2.here hx rfl (hb hby d6_6) rfl rfl ?_
    show Steps p.tables e below (T2.setTop (mkF m 7 #[.val (.ref ca), .val (.int (0 : Int32)), .val (.int (3 : Int32)), .val (.ref va), .unset, .unset] [(.ref va), (.int (0 : Int32)), (.ref ca)])) _
    refine XS.iconst X2.here hx rfl (hb hby d6_7) ?_
    show Steps p.tables e below (T2.setTop (mkF m 8 #[.val (.ref ca), .val (.int (0 : Int32)), .val (.int (3 : Int32)), .val (.ref va), .unset, .unset] [(.int (0 : Int32)), (.ref va), (.int (0 : Int32)), (.ref ca)])) _
    refine XS.iloadN X2.here hx rfl (hb hby d6_8) rfl ?_
    exact kt)
  obtain ⟨_, _, ⟨T5, L5, k5, n5⟩, -, X5, ⟨Lc5, hQ5, l5, y5, z5⟩, st5⟩ := Jvm.LawKit.callS X2 hx (y := (⟨"java/lang/StringUTF16", "compress", "([CI[BII)I"⟩ : MethodName)) hown (mvT hZ (hw _ (List.mem_of_getElem? (i := 35) rfl))) (mvT hZ (hw _ (List.mem_of_getElem? (i := 36) rfl))) (mvT hZ (hw _ (List.mem_of_getElem? (i := 33) rfl))) (mvT hZ (hw _ (List.mem_of_getElem? (i := 37) rfl))) (by decide) (backOf (W := 0) (rmC_3 l Z a0 hw [] ca va kc k2 y0 y1 y2 h2 n0 Z2 V_c_3 V_va O_va ne_ca_va hy0 hy1 hy2) hZ (hw _ (List.mem_of_getElem? (i := 37) rfl)) (hw _ (List.mem_of_getElem? (i := 33) rfl)) (by decide) (by decide)) (g := (mkF m 9 #[.val (.ref ca), .val (.int (0 : Int32)), .val (.int (3 : Int32)), .val (.ref va), .unset, .unset] [(.int (3 : Int32)), (.int (0 : Int32)), (.ref va), (.int (0 : Int32)), (.ref ca)])) rfl (by rw [hml]; rfl) (argsL := [(.ref ca), (.int (0 : Int32)), (.ref va), (.int (0 : Int32)), (.int (3 : Int32))]) (rest := []) (lenOf pd_0 rfl) rfl (by show 2 * 0 + _ ≤ _; exact Nat.le_of_eq rfl) (hb hby d6_9) (fun _ _ => ⟨rfl, e2, (Nat.le_of_ble_eq_true rfl), (Nat.le_of_ble_eq_true rfl)⟩)
  dsimp only [Pt.U, Pt.locs, Pt.cells, Pt.slots] at X5 l5 y5 z5 st5 hQ5
  subst l5 y5 z5
  obtain ⟨rfl, N5q, K5, V4⟩ := hQ5
  have N5 := Fr.app N0 N5q
  have pre5s : ∀ tg, Steps p.tables e below (T5.setTop (mkF m 12 #[.val (.ref ca), .val (.int (0 : Int32)), .val (.int (3 : Int32)), .val (.ref va), .unset, .unset] [(.int (3 : Int32))])) tg → G tg := fun tg kt => pre4 tg (st5 tg kt)
  have Z5 : n0 ≤ T5.heap.size := Nat.le_trans Z2 K5.1
  have V_c_6 := V_c_3.keep K5 (ninS ne_ca_va nin0)
  have KK5 : Keep h0 T5.heap [] := K2.trans K5 (allS (Or.inr S_va) all0)
  obtain ⟨fs, hr, hrun, hended, hW, hsame⟩ := X5.leave (v := some (.ref va)) (fun h => by rw [Bd.returns] at h; cases h)
  subst hG
  refine ⟨_, _, pre5s _ ?_, hrun, hended, _, _, rfl, ?_, ⟨_, rfl⟩, hW, hsame.mono (by decide) (by decide)⟩
  · skip
    show Steps p.tables e below (T5.setTop (mkF m 12 #[.val (.ref ca), .val (.int (0 : Int32)), .val (.int (3 : Int32)), .val (.ref va), .unset, .unset] [(.int (3 : Int32))])) _
    refine XS.istore X5.here hx rfl (hb hby d6_12) rfl (l' := #[.val (.ref ca), .val (.int (0 : Int32)), .val (.int (3 : Int32)), .val (.ref va), .val (.int (3 : Int32)), .unset]) rfl ?_
    show Steps p.tables e below (T5.setTop (mkF m 14 #[.val (.ref ca), .val (.int (0 : Int32)), .val (.int (3 : Int32)), .val (.ref va), .val (.int (3 : Int32)), .unset] [])) _
    refine XS.iload X5.here hx rfl (hb hby d6_14) rfl ?_
    show Steps p.tables e below (T5.setTop (mkF m 16 #[.val (.ref ca), .val (.int (0 : Int32)), .val (.int (3 : Int32)), .val (.ref va), .val (.int (3 : Int32)), .unset] [(.int (3 : Int32))])) _
    refine XS.iloadN X5.here hx rfl (hb hby d6_16) rfl ?_
    show Steps p.tables e below (T5.setTop (mkF m 17 #[.val (.ref ca), .val (.int (0 : Int32)), .val (.int (3 : Int32)), .val (.ref va), .val (.int (3 : Int32)), .unset] [(.int (3 : Int32)), (.int (3 : Int32))])) _
    refine XS.icmpYes X5.here hx rfl (pc0 := 17) (pc' := 57) rfl (hb hby d6_17) rfl (teq (by decide : (3 : Int32) = (3 : Int32))).1 (by decide) (by decide) ?_
    show Steps p.tables e below (T5.setTop (mkF m 57 #[.val (.ref ca), .val (.int (0 : Int32)), .val (.int (3 : Int32)), .val (.ref va), .val (.int (3 : Int32)), .unset] [])) _
    refine XS.aloadN X5.here hx rfl (hb hby d6_57) rfl rfl ?_
    show Steps p.tables e below (T5.setTop (mkF m 58 #[.val (.ref ca), .val (.int (0 : Int32)), .val (.int (3 : Int32)), .val (.ref va), .val (.int (3 : Int32)), .unset] [(.ref va)])) _
    jvm_step X5.here [X5.here.top, hx, (hb hby d6_58), X5.method', Bd.returns, Value.isRef, FieldType.isReference]
    first | (intro acts; rw [hr _ acts rfl rfl rfl]) | rw [hr _ _ rfl rfl rfl]
    exact Steps.refl _
  · show Q_rmD_3 Z ca kc y0 y1 y2 h0 n0 _ T5.heap _
    exact ⟨va, _, rfl, N5, KK5, S_va, V4⟩
def Q_rmE_3 (Z : State) (b : Addr) (kb : ClassId) (x0 x1 x2 : Int32) (h0 : Heap) (n0 : Nat) (v : Option Value) (h : Heap) (L : List Loc) : Prop := v = some (.int (0 : Int32)) ∧ Fr n0 L ∧ h = h0
set_option maxRecDepth 65536 in
set_option maxHeartbeats 40000000 in
theorem rmE_3 (l : Launch) (Z : State) (a0 : Array Value) (hw : ∀ d ∈ tables_1, d.before a0 Z = true) (ws : List Jvm.Cond) (b : Addr) (kb : ClassId) (x0 x1 x2 : Int32) (h0 : Heap) (n0 : Nat) (Z0 : n0 ≤ h0.size) (V_b : Arv Z h0 b kb .byte (3 : Int32) [(.int x0), (.int x1), (.int x2)] (.int (0 : Int32))) :
    MetFree l (⟨"java/lang/StringUTF16", "coderFromArrayLen", "([BI)B"⟩ : MethodName) (head1 (Jvm.Cond.code (⟨"java/lang/StringUTF16", "coderFromArrayLen", "([BI)B"⟩ : MethodName) jdk_52_method_15_code 2 (some .byte) :: ws) ({ frames := 0, cells := 0, slots := 0, locals := 0 } : Room)) (fun argv U => argv = #[(.ref b), (.int (3 : Int32))] ∧ Z.Warmed39 U.vm ∧ U.heap = h0) (fun _ _ _ _ _ => True) (fun _ U o U' => ∃ v L, o = .returned v ∧ Q_rmE_3 Z b kb x0 x1 x2 h0 n0 v U'.heap L ∧ FrameEnd U o U' L ({ frames := 0, cells := 0, slots := 0, locals := 0 } : Room).cells ({ frames := 0, cells := 0, slots := 0, locals := 0 } : Room).slots) := by
  refine MetFree.of_bodySF (plainFor_of_name pn_8) hisR ?_
  intro p e s m args below meth c s₁ Bd hml0 hP hK
  obtain ⟨rfl, hZ, hh⟩ := hP
  have hx := Bd.exec
  have hby := Bd.bytes
  have hml : c.maxLocals = 2 := hml0
  have hown : s.vm.findClass "java/lang/StringUTF16" = some m.cls := findClass_of_methodNamed Bd.named
  have hnm := (name_of_methodNamed Bd.named Bd.method).1
  have X0 : Stand p l e ({ frames := 0, cells := 0, slots := 0, locals := 0 } : Room) s m #[(.ref b), (.int (3 : Int32))] below meth c s₁ [] 0 0 := Stand.of_body Bd
  have e0 : s₁.heap = h0 := by rw [← hh, Bd.state]; rfl
  have N0 := Fr.nil n0
  obtain ⟨G, hG⟩ : ∃ G : State → Prop, G = fun tg => Steps p.tables e below (s₁.setTop (entryFrame m #[(.ref b), (.int (3 : Int32))] 2)) tg := ⟨_, rfl⟩
  have pre0 : ∀ tg, Steps p.tables e below (s₁.setTop (mkF m 0 #[.val (.ref b), .val (.int (3 : Int32))] [])) tg → G tg := fun tg kt => by rw [hG]; exact castTop (ef_8_R_I m b (3 : Int32)) kt
  have pre1 : ∀ tg, Steps p.tables e below (s₁.setTop (mkF m 2 #[.val (.ref b), .val (.int (3 : Int32))] [(.ref b), (.int (3 : Int32))])) tg → G tg := fun tg kt => pre0 tg (by
    show Steps p.tables e below (s₁.setTop (mkF m 0 #[.val (.ref b), .val (.int (3 : Int32))] [])) _
    refine XS.iloadN X0.here hx rfl (hb hby d8_0) rfl ?_
    show Steps p.tables e below (s₁.setTop (mkF m 1 #[.val (.ref b), .val (.int (3 : Int32))] [(.int (3 : Int32))])) _
    refine XS.aloadN X0.here hx rfl (hb hby d8_1) rfl rfl ?_
    exact kt)
  have op_2 := V_b
  obtain ⟨cl_2, Ar_2, q_2, S_2, Ng_2, H_2, G_2⟩ := op_2
  obtain ⟨fs, hr, hrun, hended, hW, hsame⟩ := X0.leave (v := some (.int (0 : Int32))) (fun h => by rw [Bd.returns] at h; cases h)
  subst hG
  refine ⟨_, _, pre1 _ ?_, hrun, hended, _, _, rfl, ?_, ⟨_, rfl⟩, hW, hsame.mono (by decide) (by decide)⟩
  · skip
    show Steps p.tables e below (s₁.setTop (mkF m 2 #[.val (.ref b), .val (.int (3 : Int32))] [(.ref b), (.int (3 : Int32))])) _
    refine X0.arraylength hx (by rw [e0]; exact Ar_2.1) (State.isArrayOf_alike hZ.alike Ar_2.2.1) (g := (mkF m 2 #[.val (.ref b), .val (.int (3 : Int32))] [(.ref b), (.int (3 : Int32))])) rfl rfl (hb hby d8_2) _ ?_
    rw [len_of S_2 Ng_2]
    show Steps p.tables e below (s₁.setTop (mkF m 3 #[.val (.ref b), .val (.int (3 : Int32))] [(.int (3 : Int32)), (.int (3 : Int32))])) _
    refine XS.isub X0.here hx rfl (hb hby d8_3) rfl ?_
    show Steps p.tables e below (s₁.setTop (mkF m 4 #[.val (.ref b), .val (.int (3 : Int32))] [(.int (0 : Int32))])) _
    refine XS.bipush X0.here hx rfl (hb hby d8_4) ?_
    show Steps p.tables e below (s₁.setTop (mkF m 6 #[.val (.ref b), .val (.int (3 : Int32))] [(.int (31 : Int32)), (.int (0 : Int32))])) _
    refine XS.iushr X0.here hx rfl (hb hby d8_6) rfl ?_
    show Steps p.tables e below (s₁.setTop (mkF m 7 #[.val (.ref b), .val (.int (3 : Int32))] [(.int (0 : Int32))])) _
    refine XS.i2b X0.here hx rfl (hb hby d8_7) rfl ?_
    show Steps p.tables e below (s₁.setTop (mkF m 8 #[.val (.ref b), .val (.int (3 : Int32))] [(.int (0 : Int32))])) _
    exact retN X0 hx (t := .byte) Bd.returns (by simp) (hb hby d8_8) hr
  · show Q_rmE_3 Z b kb x0 x1 x2 h0 n0 _ s₁.heap _
    rw [e0]
    exact ⟨rfl, N0, rfl⟩
def Q_rmI_3 (Z : State) (a ca : Addr) (kc : ClassId) (y0 y1 y2 : Int32) (h0 : Heap) (n0 : Nat) (v : Option Value) (h : Heap) (L : List Loc) : Prop := v = none ∧ Fr n0 L ∧ Keep h0 h [a] ∧ own_s Z h a (3 : Int32)
set_option maxRecDepth 65536 in
set_option maxHeartbeats 40000000 in
theorem rmI_3 (l : Launch) (Z : State) (a0 : Array Value) (hw : ∀ d ∈ tables_1, d.before a0 Z = true) (ws : List Jvm.Cond) (a ca : Addr) (kc : ClassId) (y0 y1 y2 : Int32) (h0 : Heap) (n0 : Nat) (Z0 : n0 ≤ h0.size) (hs : own_st Z) (Ol : Old Z n0 h0) (E_a : Exa Z h0 a "java/lang/String") (F_c : Fld Z h0 a "java/lang/String" "coder" "B" (.int (0 : Int32))) (F_v : Fld Z h0 a "java/lang/String" "value" "[B" .null) (O_a : n0 ≤ a) (ne_a_c : ca ≠ a) (V_c : Arv Z h0 ca kc .char (3 : Int32) [(.int y0), (.int y1), (.int y2)] (.int (0 : Int32))) (hy0 : own_y y0) (hy1 : own_y y1) (hy2 : own_y y2) :
    MetFree l (⟨"java/lang/String", "<init>", "([CIILjava/lang/Void;)V"⟩ : MethodName) (head1 (Jvm.Cond.code (⟨"java/lang/String", "<init>", "([CIILjava/lang/Void;)V"⟩ : MethodName) jdk_42_method_149_code 6 none :: ws) ({ frames := 2, cells := 1, slots := 3, locals := 48 } : Room)) (fun argv U => argv = #[(.ref a), (.ref ca), (.int (0 : Int32)), (.int (3 : Int32)), .null] ∧ Z.Warmed39 U.vm ∧ U.heap = h0) (fun _ _ _ _ _ => True) (fun _ U o U' => ∃ v L, o = .returned v ∧ Q_rmI_3 Z a ca kc y0 y1 y2 h0 n0 v U'.heap L ∧ FrameEnd U o U' L ({ frames := 2, cells := 1, slots := 3, locals := 48 } : Room).cells ({ frames := 2, cells := 1, slots := 3, locals := 48 } : Room).slots) := by
  refine MetFree.of_bodySF (plainFor_of_name pn_3) hisR ?_
  intro p e s m args below meth c s₁ Bd hml0 hP hK
  obtain ⟨rfl, hZ, hh⟩ := hP
  have hx := Bd.exec
  have hby := Bd.bytes
  have hml : c.maxLocals = 6 := hml0
  have hown : s.vm.findClass "java/lang/String" = some m.cls := findClass_of_methodNamed Bd.named
  have hnm := (name_of_methodNamed Bd.named Bd.method).1
  have X0 : Stand p l e ({ frames := 2, cells := 1, slots := 3, locals := 48 } : Room) s m #[(.ref a), (.ref ca), (.int (0 : Int32)), (.int (3 : Int32)), .null] below meth c s₁ [] 0 0 := Stand.of_body Bd
  have e0 : s₁.heap = h0 := by rw [← hh, Bd.state]; rfl
  have N0 := Fr.nil n0
  obtain ⟨G, hG⟩ : ∃ G : State → Prop, G = fun tg => Steps p.tables e below (s₁.setTop (entryFrame m #[(.ref a), (.ref ca), (.int (0 : Int32)), (.int (3 : Int32)), .null] 6)) tg := ⟨_, rfl⟩
  have pre0 : ∀ tg, Steps p.tables e below (s₁.setTop (mkF m 0 #[.val (.ref a), .val (.ref ca), .val (.int (0 : Int32)), .val (.int (3 : Int32)), .val .null, .unset] [])) tg → G tg := fun tg kt => by rw [hG]; exact castTop (ef_3_R_R_I_I_n m a ca (0 : Int32) (3 : Int32) ) kt
  have pre1 : ∀ tg, Steps p.tables e below (s₁.setTop (mkF m 1 #[.val (.ref a), .val (.ref ca), .val (.int (0 : Int32)), .val (.int (3 : Int32)), .val .null, .unset] [(.ref a)])) tg → G tg := fun tg kt => pre0 tg (by
    show Steps p.tables e below (s₁.setTop (mkF m 0 #[.val (.ref a), .val (.ref ca), .val (.int (0 : Int32)), .val (.int (3 : Int32)), .val .null, .unset] [])) _
    refine XS.aloadN X0.here hx rfl (hb hby d3_0) rfl rfl ?_
    exact kt)
  obtain ⟨T2, X2, e2, st2⟩ := initO X0 hx hZ hown (hw _ (List.mem_of_getElem? (i := 16) rfl)) (hw _ (List.mem_of_getElem? (i := 17) rfl)) (hw _ (List.mem_of_getElem? (i := 18) rfl)) e0 (g := (mkF m 1 #[.val (.ref a), .val (.ref ca), .val (.int (0 : Int32)), .val (.int (3 : Int32)), .val .null, .unset] [(.ref a)])) rfl (by rw [hml]; rfl) rfl (hb hby d3_1) (by decide) (W := 0) (by show 2 * 0 + _ ≤ _; exact Nat.le_of_eq rfl) (by decide)
  have pre2s : ∀ tg, Steps p.tables e below (T2.setTop (mkF m 4 #[.val (.ref a), .val (.ref ca), .val (.int (0 : Int32)), .val (.int (3 : Int32)), .val .null, .unset] [])) tg → G tg := fun tg kt => pre1 tg (st2 tg kt)
  have pre4 : ∀ tg, Steps p.tables e below (T2.setTop (mkF m 27 #[.val (.ref a), .val (.ref ca), .val (.int (0 : Int32)), .val (.int (3 : Int32)), .val .null, .unset] [])) tg → G tg := fun tg kt => pre2s tg (by
    show Steps p.tables e below (T2.setTop (mkF m 4 #[.val (.ref a), .val (.ref ca), .val (.int (0 : Int32)), .val (.int (3 : Int32)), .val .null, .unset] [])) _
    refine XS.iloadN X2.here hx rfl (hb hby d3_4) rfl ?_
    show Steps p.tables e below (T2.setTop (mkF m 5 #[.val (.ref a), .val (.ref ca), .val (.int (0 : Int32)), .val (.int (3 : Int32)), .val .null, .unset] [(.int (3 : Int32))])) _
    refine XS.ifYes X2.here hx rfl (pc0 := 5) (pc' := 27) rfl (hb hby d3_5) rfl ((if0 _ _).trans (feq (by decide : ¬ ((3 : Int32) = (0 : Int32)))).2) (by decide) (by decide) ?_
    exact kt)
  have hs3' := hs
  obtain ⟨cs, S_c, hcs⟩ := hs3'
  obtain ⟨T5, X5, e5, st5⟩ := getS2 X2 hx hZ hown (host := "") (Or.inl (hw _ (List.mem_of_getElem? (i := 30) rfl))) Via.refl e2 (Sta.ext Ol.2 S_c) (g := (mkF m 27 #[.val (.ref a), .val (.ref ca), .val (.int (0 : Int32)), .val (.int (3 : Int32)), .val .null, .unset] [])) rfl (hb hby d3_27)
  have pre5s : ∀ tg, Steps p.tables e below (T5.setTop (mkF m 30 #[.val (.ref a), .val (.ref ca), .val (.int (0 : Int32)), .val (.int (3 : Int32)), .val .null, .unset] [(.int cs)])) tg → G tg := fun tg kt => pre4 tg (st5 tg kt)
  have pre6 : ∀ tg, Steps p.tables e below (T5.setTop (mkF m 36 #[.val (.ref a), .val (.ref ca), .val (.int (0 : Int32)), .val (.int (3 : Int32)), .val .null, .unset] [(.int (3 : Int32)), (.int (0 : Int32)), (.ref ca)])) tg → G tg := fun tg kt => pre5s tg (by
    show Steps p.tables e below (T5.setTop (mkF m 30 #[.val (.ref a), .val (.ref ca), .val (.int (0 : Int32)), .val (.int (3 : Int32)), .val .null, .unset] [(.int cs)])) _
    refine XS.ifNo X5.here hx rfl (hb hby d3_30) rfl ((if0 _ _).trans (feq hcs).1) ?_
    show Steps p.tables e below (T5.setTop (mkF m 33 #[.val (.ref a), .val (.ref ca), .val (.int (0 : Int32)), .val (.int (3 : Int32)), .val .null, .unset] [])) _
    refine XS.aloadN X5.here hx rfl (hb hby d3_33) rfl rfl ?_
    show Steps p.tables e below (T5.setTop (mkF m 34 #[.val (.ref a), .val (.ref ca), .val (.int (0 : Int32)), .val (.int (3 : Int32)), .val .null, .unset] [(.ref ca)])) _
    refine XS.iloadN X5.here hx rfl (hb hby d3_34) rfl ?_
    show Steps p.tables e below (T5.setTop (mkF m 35 #[.val (.ref a), .val (.ref ca), .val (.int (0 : Int32)), .val (.int (3 : Int32)), .val .null, .unset] [(.int (0 : Int32)), (.ref ca)])) _
    refine XS.iloadN X5.here hx rfl (hb hby d3_35) rfl ?_
    exact kt)
  obtain ⟨_, _, ⟨T7, L7, k7, n7⟩, -, X7, ⟨Lc7, hQ7, l7, y7, z7⟩, st7⟩ := Jvm.LawKit.callS X5 hx (y := (⟨"java/lang/StringUTF16", "compress", "([CII)[B"⟩ : MethodName)) hown (mvT hZ (hw _ (List.mem_of_getElem? (i := 31) rfl))) (mvT hZ (hw _ (List.mem_of_getElem? (i := 32) rfl))) (mvT hZ (hw _ (List.mem_of_getElem? (i := 33) rfl))) (mvT hZ (hw _ (List.mem_of_getElem? (i := 34) rfl))) (by decide) (backOf (W := 0) (rmD_3 l Z a0 hw [] ca kc y0 y1 y2 h0 n0 Z0 V_c hy0 hy1 hy2) hZ (hw _ (List.mem_of_getElem? (i := 34) rfl)) (hw _ (List.mem_of_getElem? (i := 33) rfl)) (by decide) (by decide)) (g := (mkF m 36 #[.val (.ref a), .val (.ref ca), .val (.int (0 : Int32)), .val (.int (3 : Int32)), .val .null, .unset] [(.int (3 : Int32)), (.int (0 : Int32)), (.ref ca)])) rfl (by rw [hml]; rfl) (argsL := [(.ref ca), (.int (0 : Int32)), (.int (3 : Int32))]) (rest := []) (lenOf pd_1 rfl) rfl (by show 2 * 0 + _ ≤ _; exact Nat.le_of_eq rfl) (hb hby d3_36) (fun _ _ => ⟨rfl, e5, (Nat.le_of_ble_eq_true rfl), (Nat.le_of_ble_eq_true rfl)⟩)
  dsimp only [Pt.U, Pt.locs, Pt.cells, Pt.slots] at X7 l7 y7 z7 st7 hQ7
  subst l7 y7 z7
  obtain ⟨va, kv, rfl, N7q, K7, Sz, V_v⟩ := hQ7
  have N7 := Fr.app N0 N7q
  have pre7s : ∀ tg, Steps p.tables e below (T7.setTop (mkF m 39 #[.val (.ref a), .val (.ref ca), .val (.int (0 : Int32)), .val (.int (3 : Int32)), .val .null, .unset] [(.ref va)])) tg → G tg := fun tg kt => pre6 tg (st7 tg kt)
  have Z7 : n0 ≤ T7.heap.size := Nat.le_trans Z0 K7.1
  have E_a_8 := E_a.keep K7
  have F_c_9 := F_c.keep K7 nin0
  have F_v_10 := F_v.keep K7 nin0
  have V_c_11 := V_c.keep K7 nin0
  have Ol12 := Ol.keep K7 all0
  have KK7 : Keep h0 T7.heap [a] := (Keep.refl h0 [a]).trans K7 all0
  have ne_v_a : va ≠ a := Ne.symm (Nat.ne_of_lt (Nat.lt_of_lt_of_le E_a.lt Sz))
  have pre13 : ∀ tg, Steps p.tables e below (T7.setTop (mkF m 45 #[.val (.ref a), .val (.ref ca), .val (.int (0 : Int32)), .val (.int (3 : Int32)), .val .null, .val (.ref va)] [(.int (3 : Int32)), (.ref va), (.ref a)])) tg → G tg := fun tg kt => pre7s tg (by
    show Steps p.tables e below (T7.setTop (mkF m 39 #[.val (.ref a), .val (.ref ca), .val (.int (0 : Int32)), .val (.int (3 : Int32)), .val .null, .unset] [(.ref va)])) _
    refine XS.astore X7.here hx rfl (hb hby d3_39) rfl rfl (l' := #[.val (.ref a), .val (.ref ca), .val (.int (0 : Int32)), .val (.int (3 : Int32)), .val .null, .val (.ref va)]) rfl ?_
    show Steps p.tables e below (T7.setTop (mkF m 41 #[.val (.ref a), .val (.ref ca), .val (.int (0 : Int32)), .val (.int (3 : Int32)), .val .null, .val (.ref va)] [])) _
    refine XS.aloadN X7.here hx rfl (hb hby d3_41) rfl rfl ?_
    show Steps p.tables e below (T7.setTop (mkF m 42 #[.val (.ref a), .val (.ref ca), .val (.int (0 : Int32)), .val (.int (3 : Int32)), .val .null, .val (.ref va)] [(.ref a)])) _
    refine XS.aload X7.here hx rfl (hb hby d3_42) rfl rfl ?_
    show Steps p.tables e below (T7.setTop (mkF m 44 #[.val (.ref a), .val (.ref ca), .val (.int (0 : Int32)), .val (.int (3 : Int32)), .val .null, .val (.ref va)] [(.ref va), (.ref a)])) _
    refine XS.iloadN X7.here hx rfl (hb hby d3_44) rfl ?_
    exact kt)
  obtain ⟨_, _, ⟨T14, L14, k14, n14⟩, -, X14, ⟨Lc14, hQ14, l14, y14, z14⟩, st14⟩ := Jvm.LawKit.callS X7 hx (y := (⟨"java/lang/StringUTF16", "coderFromArrayLen", "([BI)B"⟩ : MethodName)) hown (mvT hZ (hw _ (List.mem_of_getElem? (i := 38) rfl))) (mvT hZ (hw _ (List.mem_of_getElem? (i := 39) rfl))) (mvT hZ (hw _ (List.mem_of_getElem? (i := 33) rfl))) (mvT hZ (hw _ (List.mem_of_getElem? (i := 40) rfl))) (by decide) (backOf (W := 1) (rmE_3 l Z a0 hw [] va kv (y0.toInt8.toInt32.toInt8.toInt32) (y1.toInt8.toInt32.toInt8.toInt32) (y2.toInt8.toInt32.toInt8.toInt32) T7.heap n0 Z7 V_v) hZ (hw _ (List.mem_of_getElem? (i := 40) rfl)) (hw _ (List.mem_of_getElem? (i := 33) rfl)) (by decide) (by decide)) (g := (mkF m 45 #[.val (.ref a), .val (.ref ca), .val (.int (0 : Int32)), .val (.int (3 : Int32)), .val .null, .val (.ref va)] [(.int (3 : Int32)), (.ref va), (.ref a)])) rfl (by rw [hml]; rfl) (argsL := [(.ref va), (.int (3 : Int32))]) (rest := [(.ref a)]) (lenOf pd_2 rfl) rfl (by show 2 * 0 + _ ≤ _; exact Nat.le_of_eq rfl) (hb hby d3_45) (fun _ _ => ⟨rfl, rfl, (Nat.le_of_ble_eq_true rfl), (Nat.le_of_ble_eq_true rfl)⟩)
  dsimp only [Pt.U, Pt.locs, Pt.cells, Pt.slots] at X14 l14 y14 z14 st14 hQ14
  subst l14 y14 z14
  obtain ⟨rfl, N14q, e14⟩ := hQ14
  have N14 := Fr.app N7 N14q
  have pre14s : ∀ tg, Steps p.tables e below (T14.setTop (mkF m 48 #[.val (.ref a), .val (.ref ca), .val (.int (0 : Int32)), .val (.int (3 : Int32)), .val .null, .val (.ref va)] [(.int (0 : Int32)), (.ref a)])) tg → G tg := fun tg kt => pre13 tg (st14 tg kt)
  obtain ⟨T15, h15, X15, e15, W15, st15⟩ := putFN X14 hx hZ hown (hw _ (List.mem_of_getElem? (i := 26) rfl)) Via.refl e14 F_c_9 E_a_8 (Or.inr ⟨(hw _ (List.mem_of_getElem? (i := 22) rfl)), rfl, hnm⟩) (hw _ (List.mem_of_getElem? (i := 6) rfl)) (ty := .byte) (v' := (.int (0 : Int32))) (by decide) rfl rfl (g := (mkF m 48 #[.val (.ref a), .val (.ref ca), .val (.int (0 : Int32)), .val (.int (3 : Int32)), .val .null, .val (.ref va)] [(.int (0 : Int32)), (.ref a)])) rfl rfl (hb hby d3_48)
  have pre15s : ∀ tg, Steps p.tables e below (T15.setTop (mkF m 51 #[.val (.ref a), .val (.ref ca), .val (.int (0 : Int32)), .val (.int (3 : Int32)), .val .null, .val (.ref va)] [])) tg → G tg := fun tg kt => pre14s tg (st15 tg kt)
  have E_a_16 := E_a_8.wr W15
  have F_c_17 := F_c_9.same W15
  have F_v_18 := F_v_10.other W15 (Or.inr (slot_ne (Or.inr (hw _ (List.mem_of_getElem? (i := 21) rfl))) (Or.inr (hw _ (List.mem_of_getElem? (i := 22) rfl))) (by decide) (t := (.array .byte)) (t' := .byte) (by decide) (by decide)))
  have V_c_19 := V_c_11.other W15 ne_a_c
  have V_v_20 := V_v.other W15 ne_v_a
  have Ol21 := Ol12.wr W15 O_a
  have N15 := Fr.snoc X15 N14 O_a
  have Z15 : n0 ≤ h15.size := Nat.le_trans Z7 (Keep.of_wr W15).1
  have K15 : Keep h0 h15 [a] := KK7.wr W15 (Or.inl (List.mem_of_getElem? (i := 0) rfl))
  have pre22 : ∀ tg, Steps p.tables e below (T15.setTop (mkF m 54 #[.val (.ref a), .val (.ref ca), .val (.int (0 : Int32)), .val (.int (3 : Int32)), .val .null, .val (.ref va)] [(.ref va), (.ref a)])) tg → G tg := fun tg kt => pre15s tg (by
    show Steps p.tables e below (T15.setTop (mkF m 51 #[.val (.ref a), .val (.ref ca), .val (.int (0 : Int32)), .val (.int (3 : Int32)), .val .null, .val (.ref va)] [])) _
    refine XS.aloadN X15.here hx rfl (hb hby d3_51) rfl rfl ?_
    show Steps p.tables e below (T15.setTop (mkF m 52 #[.val (.ref a), .val (.ref ca), .val (.int (0 : Int32)), .val (.int (3 : Int32)), .val .null, .val (.ref va)] [(.ref a)])) _
    refine XS.aload X15.here hx rfl (hb hby d3_52) rfl rfl ?_
    exact kt)
  obtain ⟨T23, h23, X23, e23, W23, st23⟩ := putF X15 hx hZ hown (host := "") (Or.inl (hw _ (List.mem_of_getElem? (i := 25) rfl))) Via.refl e15 F_v_18 E_a_16 (Or.inr ⟨(hw _ (List.mem_of_getElem? (i := 21) rfl)), rfl, hnm⟩) (hw _ (List.mem_of_getElem? (i := 6) rfl)) (ty := (.array .byte)) (by decide) rfl rfl (g := (mkF m 54 #[.val (.ref a), .val (.ref ca), .val (.int (0 : Int32)), .val (.int (3 : Int32)), .val .null, .val (.ref va)] [(.ref va), (.ref a)])) rfl rfl (hb hby d3_54)
  have pre23s : ∀ tg, Steps p.tables e below (T23.setTop (mkF m 57 #[.val (.ref a), .val (.ref ca), .val (.int (0 : Int32)), .val (.int (3 : Int32)), .val .null, .val (.ref va)] [])) tg → G tg := fun tg kt => pre22 tg (st23 tg kt)
  have E_a_24 := E_a_16.wr W23
  have F_c_25 := F_c_17.other W23 (Or.inr (slot_ne (Or.inr (hw _ (List.mem_of_getElem? (i := 22) rfl))) (Or.inr (hw _ (List.mem_of_getElem? (i := 21) rfl))) (by decide) (t := .byte) (t' := (.array .byte)) (by decide) (by decide)))
  have F_v_26 := F_v_18.same W23
  have V_c_27 := V_c_19.other W23 ne_a_c
  have V_v_28 := V_v_20.other W23 ne_v_a
  have Ol29 := Ol21.wr W23 O_a
  have N23 := Fr.snoc X23 N15 O_a
  have Z23 : n0 ≤ h23.size := Nat.le_trans Z15 (Keep.of_wr W23).1
  have K23 : Keep h0 h23 [a] := K15.wr W23 (Or.inl (List.mem_of_getElem? (i := 0) rfl))
  obtain ⟨fs, hr, hrun, hended, hW, hsame⟩ := X23.leave (v := none) (fun _ => rfl)
  subst hG
  refine ⟨_, _, pre23s _ ?_, hrun, hended, _, _, rfl, ?_, ⟨_, rfl⟩, hW, hsame.mono (by decide) (by decide)⟩
  · skip
    show Steps p.tables e below (T23.setTop (mkF m 57 #[.val (.ref a), .val (.ref ca), .val (.int (0 : Int32)), .val (.int (3 : Int32)), .val .null, .val (.ref va)] [])) _
    exact X23.returnOut hx Bd.returns (hb hby d3_57) hr
  · show Q_rmI_3 Z a ca kc y0 y1 y2 h0 n0 _ T23.heap _
    rw [e23]
    exact ⟨rfl, N23, K23, va, kv, _, F_c_25, F_v_26, V_v_28⟩
def Q_rmJ_3 (Z : State) (a ca : Addr) (kc : ClassId) (y0 y1 y2 : Int32) (h0 : Heap) (n0 : Nat) (v : Option Value) (h : Heap) (L : List Loc) : Prop := v = none ∧ Fr n0 L ∧ Keep h0 h [a] ∧ own_s Z h a (3 : Int32)
set_option maxRecDepth 65536 in
set_option maxHeartbeats 40000000 in
theorem rmJ_3 (l : Launch) (Z : State) (a0 : Array Value) (hw : ∀ d ∈ tables_1, d.before a0 Z = true) (ws : List Jvm.Cond) (a ca : Addr) (kc : ClassId) (y0 y1 y2 : Int32) (h0 : Heap) (n0 : Nat) (Z0 : n0 ≤ h0.size) (hs : own_st Z) (Ol : Old Z n0 h0) (E_a : Exa Z h0 a "java/lang/String") (F_c : Fld Z h0 a "java/lang/String" "coder" "B" (.int (0 : Int32))) (F_v : Fld Z h0 a "java/lang/String" "value" "[B" .null) (O_a : n0 ≤ a) (ne_a_c : ca ≠ a) (V_c : Arv Z h0 ca kc .char (3 : Int32) [(.int y0), (.int y1), (.int y2)] (.int (0 : Int32))) (hy0 : own_y y0) (hy1 : own_y y1) (hy2 : own_y y2) :
    MetFree l (⟨"java/lang/String", "<init>", "([C)V"⟩ : MethodName) (head1 (Jvm.Cond.code (⟨"java/lang/String", "<init>", "([C)V"⟩ : MethodName) jdk_42_method_3_code 2 none :: ws) ({ frames := 3, cells := 1, slots := 3, locals := 72 } : Room)) (fun argv U => argv = #[(.ref a), (.ref ca)] ∧ Z.Warmed39 U.vm ∧ U.heap = h0) (fun _ _ _ _ _ => True) (fun _ U o U' => ∃ v L, o = .returned v ∧ Q_rmJ_3 Z a ca kc y0 y1 y2 h0 n0 v U'.heap L ∧ FrameEnd U o U' L ({ frames := 3, cells := 1, slots := 3, locals := 72 } : Room).cells ({ frames := 3, cells := 1, slots := 3, locals := 72 } : Room).slots) := by
  refine MetFree.of_bodySF (plainFor_of_name pn_2) hisR ?_
  intro p e s m args below meth c s₁ Bd hml0 hP hK
  obtain ⟨rfl, hZ, hh⟩ := hP
  have hx := Bd.exec
  have hby := Bd.bytes
  have hml : c.maxLocals = 2 := hml0
  have hown : s.vm.findClass "java/lang/String" = some m.cls := findClass_of_methodNamed Bd.named
  have hnm := (name_of_methodNamed Bd.named Bd.method).1
  have X0 : Stand p l e ({ frames := 3, cells := 1, slots := 3, locals := 72 } : Room) s m #[(.ref a), (.ref ca)] below meth c s₁ [] 0 0 := Stand.of_body Bd
  have e0 : s₁.heap = h0 := by rw [← hh, Bd.state]; rfl
  have N0 := Fr.nil n0
  obtain ⟨G, hG⟩ : ∃ G : State → Prop, G = fun tg => Steps p.tables e below (s₁.setTop (entryFrame m #[(.ref a), (.ref ca)] 2)) tg := ⟨_, rfl⟩
  have pre0 : ∀ tg, Steps p.tables e below (s₁.setTop (mkF m 0 #[.val (.ref a), .val (.ref ca)] [])) tg → G tg := fun tg kt => by rw [hG]; exact castTop (ef_2_R_R m a ca) kt
  have pre1 : ∀ tg, Steps p.tables e below (s₁.setTop (mkF m 4 #[.val (.ref a), .val (.ref ca)] [(.ref ca), (.int (0 : Int32)), (.ref ca), (.ref a)])) tg → G tg := fun tg kt => pre0 tg (by
    show Steps p.tables e below (s₁.setTop (mkF m 0 #[.val (.ref a), .val (.ref ca)] [])) _
    refine XS.aloadN X0.here hx rfl (hb hby d2_0) rfl rfl ?_
    show Steps p.tables e below (s₁.setTop (mkF m 1 #[.val (.ref a), .val (.ref ca)] [(.ref a)])) _
    refine XS.aloadN X0.here hx rfl (hb hby d2_1) rfl rfl ?_
    show Steps p.tables e below (s₁.setTop (mkF m 2 #[.val (.ref a), .val (.ref ca)] [(.ref ca), (.ref a)])) _
    refine XS.iconst X0.here hx rfl (hb hby d2_2) ?_
    show Steps p.tables e below (s₁.setTop (mkF m 3 #[.val (.ref a), .val (.ref ca)] [(.int (0 : Int32)), (.ref ca), (.ref a)])) _
    refine XS.aloadN X0.here hx rfl (hb hby d2_3) rfl rfl ?_
    exact kt)
  have op_2 := V_c
  obtain ⟨cl_2, Ar_2, q_2, S_2, Ng_2, H_2, G_2⟩ := op_2
  have pre3 : ∀ tg, Steps p.tables e below (s₁.setTop (mkF m 6 #[.val (.ref a), .val (.ref ca)] [.null, (.int (3 : Int32)), (.int (0 : Int32)), (.ref ca), (.ref a)])) tg → G tg := fun tg kt => pre1 tg (by
    show Steps p.tables e below (s₁.setTop (mkF m 4 #[.val (.ref a), .val (.ref ca)] [(.ref ca), (.int (0 : Int32)), (.ref ca), (.ref a)])) _
    refine X0.arraylength hx (by rw [e0]; exact Ar_2.1) (State.isArrayOf_alike hZ.alike Ar_2.2.1) (g := (mkF m 4 #[.val (.ref a), .val (.ref ca)] [(.ref ca), (.int (0 : Int32)), (.ref ca), (.ref a)])) rfl rfl (hb hby d2_4) _ ?_
    rw [len_of S_2 Ng_2]
    show Steps p.tables e below (s₁.setTop (mkF m 5 #[.val (.ref a), .val (.ref ca)] [(.int (3 : Int32)), (.int (0 : Int32)), (.ref ca), (.ref a)])) _
    refine XS.aconstNull X0.here hx rfl (hb hby d2_5) ?_
    exact kt)
  obtain ⟨_, _, ⟨T4, L4, k4, n4⟩, -, X4, ⟨Lc4, hQ4, l4, y4, z4⟩, st4⟩ := X0.specialBack hx (y := (⟨"java/lang/String", "<init>", "([CIILjava/lang/Void;)V"⟩ : MethodName)) rfl hown (mvT hZ (hw _ (List.mem_of_getElem? (i := 12) rfl))) (mvT hZ (hw _ (List.mem_of_getElem? (i := 13) rfl))) (mvT hZ (hw _ (List.mem_of_getElem? (i := 15) rfl))) (by decide) (backOf (W := 0) (rmI_3 l Z a0 hw [] a ca kc y0 y1 y2 h0 n0 Z0 hs Ol E_a F_c F_v O_a ne_a_c V_c hy0 hy1 hy2) hZ (hw _ (List.mem_of_getElem? (i := 15) rfl)) (hw _ (List.mem_of_getElem? (i := 7) rfl)) (by decide) (by decide)) (g := (mkF m 6 #[.val (.ref a), .val (.ref ca)] [.null, (.int (3 : Int32)), (.int (0 : Int32)), (.ref ca), (.ref a)])) rfl (by rw [hml]; rfl) (Steps.refl _) (a := a) (argsL := [(.ref ca), (.int (0 : Int32)), (.int (3 : Int32)), .null]) (rest := []) (lenOf pd_3 rfl) rfl (by show 2 * 0 + _ ≤ _; exact Nat.le_of_eq rfl) (hb hby d2_6) (fun _ _ => ⟨rfl, e0, (Nat.le_of_ble_eq_true rfl), (Nat.le_of_ble_eq_true rfl)⟩)
  dsimp only [Pt.U, Pt.locs, Pt.cells, Pt.slots] at X4 l4 y4 z4 st4 hQ4
  subst l4 y4 z4
  obtain ⟨rfl, N4q, K4, Tx⟩ := hQ4
  have N4 := Fr.app N0 N4q
  have pre4s : ∀ tg, Steps p.tables e below (T4.setTop (mkF m 9 #[.val (.ref a), .val (.ref ca)] [])) tg → G tg := fun tg kt => pre3 tg (st4.trans kt)
  have Z4 : n0 ≤ T4.heap.size := Nat.le_trans Z0 K4.1
  have E_a_5 := E_a.keep K4
  have V_c_6 := V_c.keep K4 (ninS ne_a_c nin0)
  have Ol7 := Ol.keep K4 (allS O_a all0)
  have KK4 : Keep h0 T4.heap [a] := (Keep.refl h0 [a]).trans K4 (allS (Or.inl (List.mem_of_getElem? (i := 0) rfl)) all0)
  obtain ⟨fs, hr, hrun, hended, hW, hsame⟩ := X4.leave (v := none) (fun _ => rfl)
  subst hG
  refine ⟨_, _, pre4s _ ?_, hrun, hended, _, _, rfl, ?_, ⟨_, rfl⟩, hW, hsame.mono (by decide) (by decide)⟩
  · skip
    show Steps p.tables e below (T4.setTop (mkF m 9 #[.val (.ref a), .val (.ref ca)] [])) _
    exact X4.returnOut hx Bd.returns (hb hby d2_9) hr
  · show Q_rmJ_3 Z a ca kc y0 y1 y2 h0 n0 _ T4.heap _
    exact ⟨rfl, N4, KK4, Tx⟩
def Q_rmC_4 (Z : State) (ca va : Addr) (kc kv : ClassId) (y0 y1 y2 y3 : Int32) (h0 : Heap) (n0 : Nat) (v : Option Value) (h : Heap) (L : List Loc) : Prop := v = some (.int (4 : Int32)) ∧ Fr n0 L ∧ Keep h0 h [va] ∧ Arv Z h va kv .byte (4 : Int32) [(.int (y0.toInt8.toInt32.toInt8.toInt32)), (.int (y1.toInt8.toInt32.toInt8.toInt32)), (.int (y2.toInt8.toInt32.toInt8.toInt32)), (.int (y3.toInt8.toInt32.toInt8.toInt32))] (.int (0 : Int32))
set_option maxRecDepth 65536 in
set_option maxHeartbeats 40000000 in
theorem rmC_4 (l : Launch) (Z : State) (a0 : Array Value) (hw : ∀ d ∈ tables_1, d.before a0 Z = true) (ws : List Jvm.Cond) (ca va : Addr) (kc kv : ClassId) (y0 y1 y2 y3 : Int32) (h0 : Heap) (n0 : Nat) (Z0 : n0 ≤ h0.size) (V_c : Arv Z h0 ca kc .char (4 : Int32) [(.int y0), (.int y1), (.int y2), (.int y3)] (.int (0 : Int32))) (V_v : Arv Z h0 va kv .byte (4 : Int32) [(.int (0 : Int32)), (.int (0 : Int32)), (.int (0 : Int32)), (.int (0 : Int32))] (.int (0 : Int32))) (O_va : n0 ≤ va) (ne_c_v : ca ≠ va) (hy0 : own_y y0) (hy1 : own_y y1) (hy2 : own_y y2) (hy3 : own_y y3) :
    MetFree l (⟨"java/lang/StringUTF16", "compress", "([CI[BII)I"⟩ : MethodName) (head1 (Jvm.Cond.code (⟨"java/lang/StringUTF16", "compress", "([CI[BII)I"⟩ : MethodName) jdk_52_method_21_code 7 (some .int) :: ws) ({ frames := 0, cells := 0, slots := 0, locals := 0 } : Room)) (fun argv U => argv = #[(.ref ca), (.int (0 : Int32)), (.ref va), (.int (0 : Int32)), (.int (4 : Int32))] ∧ Z.Warmed39 U.vm ∧ U.heap = h0) (fun _ _ _ _ _ => True) (fun _ U o U' => ∃ v L, o = .returned v ∧ Q_rmC_4 Z ca va kc kv y0 y1 y2 y3 h0 n0 v U'.heap L ∧ FrameEnd U o U' L ({ frames := 0, cells := 0, slots := 0, locals := 0 } : Room).cells ({ frames := 0, cells := 0, slots := 0, locals := 0 } : Room).slots) := by
  refine MetFree.of_bodySF (plainFor_of_name pn_7) hisR ?_
  intro p e s m args below meth c s₁ Bd hml0 hP hK
  obtain ⟨rfl, hZ, hh⟩ := hP
  have hx := Bd.exec
  have hby := Bd.bytes
  have hml : c.maxLocals = 7 := hml0
  have hown : s.vm.findClass "java/lang/StringUTF16" = some m.cls := findClass_of_methodNamed Bd.named
  have hnm := (name_of_methodNamed Bd.named Bd.method).1
  have X0 : Stand p l e ({ frames := 0, cells := 0, slots := 0, locals := 0 } : Room) s m #[(.ref ca), (.int (0 : Int32)), (.ref va), (.int (0 : Int32)), (.int (4 : Int32))] below meth c s₁ [] 0 0 := Stand.of_body Bd
  have e0 : s₁.heap = h0 := by rw [← hh, Bd.state]; rfl
  have N0 := Fr.nil n0
  obtain ⟨G, hG⟩ : ∃ G : State → Prop, G = fun tg => Steps p.tables e below (s₁.setTop (entryFrame m #[(.ref ca), (.int (0 : Int32)), (.ref va), (.int (0 : Int32)), (.int (4 : Int32))] 7)) tg := ⟨_, rfl⟩
  have pre0 : ∀ tg, Steps p.tables e below (s₁.setTop (mkF m 0 #[.val (.ref ca), .val (.int (0 : Int32)), .val (.ref va), .val (.int (0 : Int32)), .val (.int (4 : Int32)), .unset, .unset] [])) tg → G tg := fun tg kt => by rw [hG]; exact castTop (ef_7_R_I_R_I_I m ca (0 : Int32) va (0 : Int32) (4 : Int32)) kt
  have pre1 : ∀ tg, Steps p.tables e below (s₁.setTop (mkF m 12 #[.val (.ref ca), .val (.int (0 : Int32)), .val (.ref va), .val (.int (0 : Int32)), .val (.int (4 : Int32)), .val (.int (0 : Int32)), .unset] [(.int (0 : Int32)), (.ref ca)])) tg → G tg := fun tg kt => pre0 tg (by
    show Steps p.tables e below (s₁.setTop (mkF m 0 #[.val (.ref ca), .val (.int (0 : Int32)), .val (.ref va), .val (.int (0 : Int32)), .val (.int (4 : Int32)), .unset, .unset] [])) _
    refine XS.iconst X0.here hx rfl (hb hby d7_0) ?_
    show Steps p.tables e below (s₁.setTop (mkF m 1 #[.val (.ref ca), .val (.int (0 : Int32)), .val (.ref va), .val (.int (0 : Int32)), .val (.int (4 : Int32)), .unset, .unset] [(.int (0 : Int32))])) _
    refine XS.istore X0.here hx rfl (hb hby d7_1) rfl (l' := #[.val (.ref ca), .val (.int (0 : Int32)), .val (.ref va), .val (.int (0 : Int32)), .val (.int (4 : Int32)), .val (.int (0 : Int32)), .unset]) rfl ?_
    show Steps p.tables e below (s₁.setTop (mkF m 3 #[.val (.ref ca), .val (.int (0 : Int32)), .val (.ref va), .val (.int (0 : Int32)), .val (.int (4 : Int32)), .val (.int (0 : Int32)), .unset] [])) _
    refine XS.iload X0.here hx rfl (hb hby d7_3) rfl ?_
    show Steps p.tables e below (s₁.setTop (mkF m 5 #[.val (.ref ca), .val (.int (0 : Int32)), .val (.ref va), .val (.int (0 : Int32)), .val (.int (4 : Int32)), .val (.int (0 : Int32)), .unset] [(.int (0 : Int32))])) _
    refine XS.iload X0.here hx rfl (hb hby d7_5) rfl ?_
    show Steps p.tables e below (s₁.setTop (mkF m 7 #[.val (.ref ca), .val (.int (0 : Int32)), .val (.ref va), .val (.int (0 : Int32)), .val (.int (4 : Int32)), .val (.int (0 : Int32)), .unset] [(.int (4 : Int32)), (.int (0 : Int32))])) _
    refine XS.icmpNo X0.here hx rfl (hb hby d7_7) rfl (tlt (by decide : (0 : Int32) < (4 : Int32))).2.1 ?_
    show Steps p.tables e below (s₁.setTop (mkF m 10 #[.val (.ref ca), .val (.int (0 : Int32)), .val (.ref va), .val (.int (0 : Int32)), .val (.int (4 : Int32)), .val (.int (0 : Int32)), .unset] [])) _
    refine XS.aloadN X0.here hx rfl (hb hby d7_10) rfl rfl ?_
    show Steps p.tables e below (s₁.setTop (mkF m 11 #[.val (.ref ca), .val (.int (0 : Int32)), .val (.ref va), .val (.int (0 : Int32)), .val (.int (4 : Int32)), .val (.int (0 : Int32)), .unset] [(.ref ca)])) _
    refine XS.iloadN X0.here hx rfl (hb hby d7_11) rfl ?_
    exact kt)
  have op_2 := V_c
  obtain ⟨cl_2, Ar_2, q_2, S_2, Ng_2, H_2, G_2⟩ := op_2
  have hin_2 : ¬ ((0 : Int32) < 0 ∨ cl_2.slots.size ≤ ((0 : Int32)).toNatClampNeg) := inb_of S_2 ⟨by decide, by decide⟩
  have pre3 : ∀ tg, Steps p.tables e below (s₁.setTop (mkF m 31 #[.val (.ref ca), .val (.int (0 : Int32)), .val (.ref va), .val (.int (0 : Int32)), .val (.int (4 : Int32)), .val (.int (0 : Int32)), .val (.int y0)] [(.int (y0.toInt8.toInt32)), (.int (0 : Int32)), (.ref va)])) tg → G tg := fun tg kt => pre1 tg (by
    show Steps p.tables e below (s₁.setTop (mkF m 12 #[.val (.ref ca), .val (.int (0 : Int32)), .val (.ref va), .val (.int (0 : Int32)), .val (.int (4 : Int32)), .val (.int (0 : Int32)), .unset] [(.int (0 : Int32)), (.ref ca)])) _
    refine X0.caload hx (j := (0 : Int32)) (v := (.int y0)) (by rw [e0]; exact Ar_2.1) (State.isArrayOf_alike hZ.alike Ar_2.2.1) Ar_2.2.2 hin_2 (H_2.at hin_2 rfl) (g := (mkF m 12 #[.val (.ref ca), .val (.int (0 : Int32)), .val (.ref va), .val (.int (0 : Int32)), .val (.int (4 : Int32)), .val (.int (0 : Int32)), .unset] [(.int (0 : Int32)), (.ref ca)])) rfl rfl (hb hby d7_12) _ ?_
    show Steps p.tables e below (s₁.setTop (mkF m 13 #[.val (.ref ca), .val (.int (0 : Int32)), .val (.ref va), .val (.int (0 : Int32)), .val (.int (4 : Int32)), .val (.int (0 : Int32)), .unset] [(.int y0)])) _
    refine XS.istore X0.here hx rfl (hb hby d7_13) rfl (l' := #[.val (.ref ca), .val (.int (0 : Int32)), .val (.ref va), .val (.int (0 : Int32)), .val (.int (4 : Int32)), .val (.int (0 : Int32)), .val (.int y0)]) rfl ?_
    show Steps p.tables e below (s₁.setTop (mkF m 15 #[.val (.ref ca), .val (.int (0 : Int32)), .val (.ref va), .val (.int (0 : Int32)), .val (.int (4 : Int32)), .val (.int (0 : Int32)), .val (.int y0)] [])) _
    refine XS.iload X0.here hx rfl (hb hby d7_15) rfl ?_
    show Steps p.tables e below (s₁.setTop (mkF m 17 #[.val (.ref ca), .val (.int (0 : Int32)), .val (.ref va), .val (.int (0 : Int32)), .val (.int (4 : Int32)), .val (.int (0 : Int32)), .val (.int y0)] [(.int y0)])) _
    refine XS.sipush X0.here hx rfl (hb hby d7_17) ?_
    show Steps p.tables e below (s₁.setTop (mkF m 20 #[.val (.ref ca), .val (.int (0 : Int32)), .val (.ref va), .val (.int (0 : Int32)), .val (.int (4 : Int32)), .val (.int (0 : Int32)), .val (.int y0)] [(.int (255 : Int32)), (.int y0)])) _
    refine XS.icmpYes X0.here hx rfl (pc0 := 20) (pc' := 26) rfl (hb hby d7_20) rfl (flt (own_gt hy0)).2.2.2 (by decide) (by decide) ?_
    show Steps p.tables e below (s₁.setTop (mkF m 26 #[.val (.ref ca), .val (.int (0 : Int32)), .val (.ref va), .val (.int (0 : Int32)), .val (.int (4 : Int32)), .val (.int (0 : Int32)), .val (.int y0)] [])) _
    refine XS.aloadN X0.here hx rfl (hb hby d7_26) rfl rfl ?_
    show Steps p.tables e below (s₁.setTop (mkF m 27 #[.val (.ref ca), .val (.int (0 : Int32)), .val (.ref va), .val (.int (0 : Int32)), .val (.int (4 : Int32)), .val (.int (0 : Int32)), .val (.int y0)] [(.ref va)])) _
    refine XS.iloadN X0.here hx rfl (hb hby d7_27) rfl ?_
    show Steps p.tables e below (s₁.setTop (mkF m 28 #[.val (.ref ca), .val (.int (0 : Int32)), .val (.ref va), .val (.int (0 : Int32)), .val (.int (4 : Int32)), .val (.int (0 : Int32)), .val (.int y0)] [(.int (0 : Int32)), (.ref va)])) _
    refine XS.iload X0.here hx rfl (hb hby d7_28) rfl ?_
    show Steps p.tables e below (s₁.setTop (mkF m 30 #[.val (.ref ca), .val (.int (0 : Int32)), .val (.ref va), .val (.int (0 : Int32)), .val (.int (4 : Int32)), .val (.int (0 : Int32)), .val (.int y0)] [(.int y0), (.int (0 : Int32)), (.ref va)])) _
    refine XS.i2b X0.here hx rfl (hb hby d7_30) rfl ?_
    exact kt)
  have op_4 := V_v
  obtain ⟨cl_4, Ar_4, q_4, S_4, Ng_4, H_4, G_4⟩ := op_4
  have hin_4 : ¬ ((0 : Int32) < 0 ∨ cl_4.slots.size ≤ ((0 : Int32)).toNatClampNeg) := inb_of S_4 ⟨by decide, by decide⟩
  obtain ⟨T4, h4, X4, e4, W4, st4⟩ := stB X0 hx hZ e0 Ar_4 (j := (0 : Int32)) hin_4 (g := (mkF m 31 #[.val (.ref ca), .val (.int (0 : Int32)), .val (.ref va), .val (.int (0 : Int32)), .val (.int (4 : Int32)), .val (.int (0 : Int32)), .val (.int y0)] [(.int (y0.toInt8.toInt32)), (.int (0 : Int32)), (.ref va)])) rfl rfl (hb hby d7_31)
  have pre4s : ∀ tg, Steps p.tables e below (T4.setTop (mkF m 32 #[.val (.ref ca), .val (.int (0 : Int32)), .val (.ref va), .val (.int (0 : Int32)), .val (.int (4 : Int32)), .val (.int (0 : Int32)), .val (.int y0)] [])) tg → G tg := fun tg kt => pre3 tg (st4 tg kt)
  have V_c_5 := V_c.other W4 ne_c_v
  have V4_va : Arv Z h4 va kv .byte (4 : Int32) [(.int (y0.toInt8.toInt32.toInt8.toInt32)), (.int (0 : Int32)), (.int (0 : Int32)), (.int (0 : Int32))] (.int (0 : Int32)) := Arv.set Ar_4 q_4 S_4 Ng_4 H_4 G_4 (fits_nar_byte _) W4 0 rfl (Nat.le_of_ble_eq_true rfl)
  have N4 := Fr.snoc X4 N0 O_va
  have Z4 : n0 ≤ h4.size := Nat.le_trans Z0 (Keep.of_wr W4).1
  have K4 : Keep h0 h4 [va] := (Keep.refl h0 [va]).wr W4 (Or.inl (List.mem_of_getElem? (i := 0) rfl))
  have pre6 : ∀ tg, Steps p.tables e below (T4.setTop (mkF m 12 #[.val (.ref ca), .val (.int (1 : Int32)), .val (.ref va), .val (.int (1 : Int32)), .val (.int (4 : Int32)), .val (.int (1 : Int32)), .val (.int y0)] [(.int (1 : Int32)), (.ref ca)])) tg → G tg := fun tg kt => pre4s tg (by
    show Steps p.tables e below (T4.setTop (mkF m 32 #[.val (.ref ca), .val (.int (0 : Int32)), .val (.ref va), .val (.int (0 : Int32)), .val (.int (4 : Int32)), .val (.int (0 : Int32)), .val (.int y0)] [])) _
    refine XS.iinc X4.here hx rfl (hb hby d7_32) rfl (l' := #[.val (.ref ca), .val (.int (1 : Int32)), .val (.ref va), .val (.int (0 : Int32)), .val (.int (4 : Int32)), .val (.int (0 : Int32)), .val (.int y0)]) rfl ?_
    show Steps p.tables e below (T4.setTop (mkF m 35 #[.val (.ref ca), .val (.int (1 : Int32)), .val (.ref va), .val (.int (0 : Int32)), .val (.int (4 : Int32)), .val (.int (0 : Int32)), .val (.int y0)] [])) _
    refine XS.iinc X4.here hx rfl (hb hby d7_35) rfl (l' := #[.val (.ref ca), .val (.int (1 : Int32)), .val (.ref va), .val (.int (1 : Int32)), .val (.int (4 : Int32)), .val (.int (0 : Int32)), .val (.int y0)]) rfl ?_
    show Steps p.tables e below (T4.setTop (mkF m 38 #[.val (.ref ca), .val (.int (1 : Int32)), .val (.ref va), .val (.int (1 : Int32)), .val (.int (4 : Int32)), .val (.int (0 : Int32)), .val (.int y0)] [])) _
    refine XS.iinc X4.here hx rfl (hb hby d7_38) rfl (l' := #[.val (.ref ca), .val (.int (1 : Int32)), .val (.ref va), .val (.int (1 : Int32)), .val (.int (4 : Int32)), .val (.int (1 : Int32)), .val (.int y0)]) rfl ?_
    show Steps p.tables e below (T4.setTop (mkF m 41 #[.val (.ref ca), .val (.int (1 : Int32)), .val (.ref va), .val (.int (1 : Int32)), .val (.int (4 : Int32)), .val (.int (1 : Int32)), .val (.int y0)] [])) _
    refine XS.goto X4.here hx rfl (pc0 := 41) (pc' := 3) rfl (hb hby d7_41) (by decide) (by decide) ?_
    show Steps p.tables e below (T4.setTop (mkF m 3 #[.val (.ref ca), .val (.int (1 : Int32)), .val (.ref va), .val (.int (1 : Int32)), .val (.int (4 : Int32)), .val (.int (1 : Int32)), .val (.int y0)] [])) _
    refine XS.iload X4.here hx rfl (hb hby d7_3) rfl ?_
    show Steps p.tables e below (T4.setTop (mkF m 5 #[.val (.ref ca), .val (.int (1 : Int32)), .val (.ref va), .val (.int (1 : Int32)), .val (.int (4 : Int32)), .val (.int (1 : Int32)), .val (.int y0)] [(.int (1 : Int32))])) _
    refine XS.iload X4.here hx rfl (hb hby d7_5) rfl ?_
    show Steps p.tables e below (T4.setTop (mkF m 7 #[.val (.ref ca), .val (.int (1 : Int32)), .val (.ref va), .val (.int (1 : Int32)), .val (.int (4 : Int32)), .val (.int (1 : Int32)), .val (.int y0)] [(.int (4 : Int32)), (.int (1 : Int32))])) _
    refine XS.icmpNo X4.here hx rfl (hb hby d7_7) rfl (tlt (by decide : (1 : Int32) < (4 : Int32))).2.1 ?_
    show Steps p.tables e below (T4.setTop (mkF m 10 #[.val (.ref ca), .val (.int (1 : Int32)), .val (.ref va), .val (.int (1 : Int32)), .val (.int (4 : Int32)), .val (.int (1 : Int32)), .val (.int y0)] [])) _
    refine XS.aloadN X4.here hx rfl (hb hby d7_10) rfl rfl ?_
    show Steps p.tables e below (T4.setTop (mkF m 11 #[.val (.ref ca), .val (.int (1 : Int32)), .val (.ref va), .val (.int (1 : Int32)), .val (.int (4 : Int32)), .val (.int (1 : Int32)), .val (.int y0)] [(.ref ca)])) _
    refine XS.iloadN X4.here hx rfl (hb hby d7_11) rfl ?_
    exact kt)
  have op_7 := V_c_5
  obtain ⟨cl_7, Ar_7, q_7, S_7, Ng_7, H_7, G_7⟩ := op_7
  have hin_7 : ¬ ((1 : Int32) < 0 ∨ cl_7.slots.size ≤ ((1 : Int32)).toNatClampNeg) := inb_of S_7 ⟨by decide, by decide⟩
  have pre8 : ∀ tg, Steps p.tables e below (T4.setTop (mkF m 31 #[.val (.ref ca), .val (.int (1 : Int32)), .val (.ref va), .val (.int (1 : Int32)), .val (.int (4 : Int32)), .val (.int (1 : Int32)), .val (.int y1)] [(.int (y1.toInt8.toInt32)), (.int (1 : Int32)), (.ref va)])) tg → G tg := fun tg kt => pre6 tg (by
    show Steps p.tables e below (T4.setTop (mkF m 12 #[.val (.ref ca), .val (.int (1 : Int32)), .val (.ref va), .val (.int (1 : Int32)), .val (.int (4 : Int32)), .val (.int (1 : Int32)), .val (.int y0)] [(.int (1 : Int32)), (.ref ca)])) _
    refine X4.caload hx (j := (1 : Int32)) (v := (.int y1)) (by rw [e4]; exact Ar_7.1) (State.isArrayOf_alike hZ.alike Ar_7.2.1) Ar_7.2.2 hin_7 (H_7.at hin_7 rfl) (g := (mkF m 12 #[.val (.ref ca), .val (.int (1 : Int32)), .val (.ref va), .val (.int (1 : Int32)), .val (.int (4 : Int32)), .val (.int (1 : Int32)), .val (.int y0)] [(.int (1 : Int32)), (.ref ca)])) rfl rfl (hb hby d7_12) _ ?_
    show Steps p.tables e below (T4.setTop (mkF m 13 #[.val (.ref ca), .val (.int (1 : Int32)), .val (.ref va), .val (.int (1 : Int32)), .val (.int (4 : Int32)), .val (.int (1 : Int32)), .val (.int y0)] [(.int y1)])) _
    refine XS.istore X4.here hx rfl (hb hby d7_13) rfl (l' := #[.val (.ref ca), .val (.int (1 : Int32)), .val (.ref va), .val (.int (1 : Int32)), .val (.int (4 : Int32)), .val (.int (1 : Int32)), .val (.int y1)]) rfl ?_
    show Steps p.tables e below (T4.setTop (mkF m 15 #[.val (.ref ca), .val (.int (1 : Int32)), .val (.ref va), .val (.int (1 : Int32)), .val (.int (4 : Int32)), .val (.int (1 : Int32)), .val (.int y1)] [])) _
    refine XS.iload X4.here hx rfl (hb hby d7_15) rfl ?_
    show Steps p.tables e below (T4.setTop (mkF m 17 #[.val (.ref ca), .val (.int (1 : Int32)), .val (.ref va), .val (.int (1 : Int32)), .val (.int (4 : Int32)), .val (.int (1 : Int32)), .val (.int y1)] [(.int y1)])) _
    refine XS.sipush X4.here hx rfl (hb hby d7_17) ?_
    show Steps p.tables e below (T4.setTop (mkF m 20 #[.val (.ref ca), .val (.int (1 : Int32)), .val (.ref va), .val (.int (1 : Int32)), .val (.int (4 : Int32)), .val (.int (1 : Int32)), .val (.int y1)] [(.int (255 : Int32)), (.int y1)])) _
    refine XS.icmpYes X4.here hx rfl (pc0 := 20) (pc' := 26) rfl (hb hby d7_20) rfl (flt (own_gt hy1)).2.2.2 (by decide) (by decide) ?_
    show Steps p.tables e below (T4.setTop (mkF m 26 #[.val (.ref ca), .val (.int (1 : Int32)), .val (.ref va), .val (.int (1 : Int32)), .val (.int (4 : Int32)), .val (.int (1 : Int32)), .val (.int y1)] [])) _
    refine XS.aloadN X4.here hx rfl (hb hby d7_26) rfl rfl ?_
    show Steps p.tables e below (T4.setTop (mkF m 27 #[.val (.ref ca), .val (.int (1 : Int32)), .val (.ref va), .val (.int (1 : Int32)), .val (.int (4 : Int32)), .val (.int (1 : Int32)), .val (.int y1)] [(.ref va)])) _
    refine XS.iloadN X4.here hx rfl (hb hby d7_27) rfl ?_
    show Steps p.tables e below (T4.setTop (mkF m 28 #[.val (.ref ca), .val (.int (1 : Int32)), .val (.ref va), .val (.int (1 : Int32)), .val (.int (4 : Int32)), .val (.int (1 : Int32)), .val (.int y1)] [(.int (1 : Int32)), (.ref va)])) _
    refine XS.iload X4.here hx rfl (hb hby d7_28) rfl ?_
    show Steps p.tables e below (T4.setTop (mkF m 30 #[.val (.ref ca), .val (.int (1 : Int32)), .val (.ref va), .val (.int (1 : Int32)), .val (.int (4 : Int32)), .val (.int (1 : Int32)), .val (.int y1)] [(.int y1), (.int (1 : Int32)), (.ref va)])) _
    refine XS.i2b X4.here hx rfl (hb hby d7_30) rfl ?_
    exact kt)
  have op_9 := V4_va
  obtain ⟨cl_9, Ar_9, q_9, S_9, Ng_9, H_9, G_9⟩ := op_9
  have hin_9 : ¬ ((1 : Int32) < 0 ∨ cl_9.slots.size ≤ ((1 : Int32)).toNatClampNeg) := inb_of S_9 ⟨by decide, by decide⟩
  obtain ⟨T9, h9, X9, e9, W9, st9⟩ := stB X4 hx hZ e4 Ar_9 (j := (1 : Int32)) hin_9 (g := (mkF m 31 #[.val (.ref ca), .val (.int (1 : Int32)), .val (.ref va), .val (.int (1 : Int32)), .val (.int (4 : Int32)), .val (.int (1 : Int32)), .val (.int y1)] [(.int (y1.toInt8.toInt32)), (.int (1 : Int32)), (.ref va)])) rfl rfl (hb hby d7_31)
  have pre9s : ∀ tg, Steps p.tables e below (T9.setTop (mkF m 32 #[.val (.ref ca), .val (.int (1 : Int32)), .val (.ref va), .val (.int (1 : Int32)), .val (.int (4 : Int32)), .val (.int (1 : Int32)), .val (.int y1)] [])) tg → G tg := fun tg kt => pre8 tg (st9 tg kt)
  have V_c_10 := V_c_5.other W9 ne_c_v
  have V9_va : Arv Z h9 va kv .byte (4 : Int32) [(.int (y0.toInt8.toInt32.toInt8.toInt32)), (.int (y1.toInt8.toInt32.toInt8.toInt32)), (.int (0 : Int32)), (.int (0 : Int32))] (.int (0 : Int32)) := Arv.set Ar_9 q_9 S_9 Ng_9 H_9 G_9 (fits_nar_byte _) W9 1 rfl (Nat.le_of_ble_eq_true rfl)
  have N9 := Fr.snoc X9 N4 O_va
  have Z9 : n0 ≤ h9.size := Nat.le_trans Z4 (Keep.of_wr W9).1
  have K9 : Keep h0 h9 [va] := K4.wr W9 (Or.inl (List.mem_of_getElem? (i := 0) rfl))
  have pre11 : ∀ tg, Steps p.tables e below (T9.setTop (mkF m 12 #[.val (.ref ca), .val (.int (2 : Int32)), .val (.ref va), .val (.int (2 : Int32)), .val (.int (4 : Int32)), .val (.int (2 : Int32)), .val (.int y1)] [(.int (2 : Int32)), (.ref ca)])) tg → G tg := fun tg kt => pre9s tg (by
    show Steps p.tables e below (T9.setTop (mkF m 32 #[.val (.ref ca), .val (.int (1 : Int32)), .val (.ref va), .val (.int (1 : Int32)), .val (.int (4 : Int32)), .val (.int (1 : Int32)), .val (.int y1)] [])) _
    refine XS.iinc X9.here hx rfl (hb hby d7_32) rfl (l' := #[.val (.ref ca), .val (.int (2 : Int32)), .val (.ref va), .val (.int (1 : Int32)), .val (.int (4 : Int32)), .val (.int (1 : Int32)), .val (.int y1)]) rfl ?_
    show Steps p.tables e below (T9.setTop (mkF m 35 #[.val (.ref ca), .val (.int (2 : Int32)), .val (.ref va), .val (.int (1 : Int32)), .val (.int (4 : Int32)), .val (.int (1 : Int32)), .val (.int y1)] [])) _
    refine XS.iinc X9.here hx rfl (hb hby d7_35) rfl (l' := #[.val (.ref ca), .val (.int (2 : Int32)), .val (.ref va), .val (.int (2 : Int32)), .val (.int (4 : Int32)), .val (.int (1 : Int32)), .val (.int y1)]) rfl ?_
    show Steps p.tables e below (T9.setTop (mkF m 38 #[.val (.ref ca), .val (.int (2 : Int32)), .val (.ref va), .val (.int (2 : Int32)), .val (.int (4 : Int32)), .val (.int (1 : Int32)), .val (.int y1)] [])) _
    refine XS.iinc X9.here hx rfl (hb hby d7_38) rfl (l' := #[.val (.ref ca), .val (.int (2 : Int32)), .val (.ref va), .val (.int (2 : Int32)), .val (.int (4 : Int32)), .val (.int (2 : Int32)), .val (.int y1)]) rfl ?_
    show Steps p.tables e below (T9.setTop (mkF m 41 #[.val (.ref ca), .val (.int (2 : Int32)), .val (.ref va), .val (.int (2 : Int32)), .val (.int (4 : Int32)), .val (.int (2 : Int32)), .val (.int y1)] [])) _
    refine XS.goto X9.here hx rfl (pc0 := 41) (pc' := 3) rfl (hb hby d7_41) (by decide) (by decide) ?_
    show Steps p.tables e below (T9.setTop (mkF m 3 #[.val (.ref ca), .val (.int (2 : Int32)), .val (.ref va), .val (.int (2 : Int32)), .val (.int (4 : Int32)), .val (.int (2 : Int32)), .val (.int y1)] [])) _
    refine XS.iload X9.here hx rfl (hb hby d7_3) rfl ?_
    show Steps p.tables e below (T9.setTop (mkF m 5 #[.val (.ref ca), .val (.int (2 : Int32)), .val (.ref va), .val (.int (2 : Int32)), .val (.int (4 : Int32)), .val (.int (2 : Int32)), .val (.int y1)] [(.int (2 : Int32))])) _
    refine XS.iload X9.here hx rfl (hb hby d7_5) rfl ?_
    show Steps p.tables e below (T9.setTop (mkF m 7 #[.val (.ref ca), .val (.int (2 : Int32)), .val (.ref va), .val (.int (2 : Int32)), .val (.int (4 : Int32)), .val (.int (2 : Int32)), .val (.int y1)] [(.int (4 : Int32)), (.int (2 : Int32))])) _
    refine XS.icmpNo X9.here hx rfl (hb hby d7_7) rfl (tlt (by decide : (2 : Int32) < (4 : Int32))).2.1 ?_
    show Steps p.tables e below (T9.setTop (mkF m 10 #[.val (.ref ca), .val (.int (2 : Int32)), .val (.ref va), .val (.int (2 : Int32)), .val (.int (4 : Int32)), .val (.int (2 : Int32)), .val (.int y1)] [])) _
    refine XS.aloadN X9.here hx rfl (hb hby d7_10) rfl rfl ?_
    show Steps p.tables e below (T9.setTop (mkF m 11 #[.val (.ref ca), .val (.int (2 : Int32)), .val (.ref va), .val (.int (2 : Int32)), .val (.int (4 : Int32)), .val (.int (2 : Int32)), .val (.int y1)] [(.ref ca)])) _
    refine XS.iloadN X9.here hx rfl (hb hby d7_11) rfl ?_
    exact kt)
  have op_12 := V_c_10
  obtain ⟨cl_12, Ar_12, q_12, S_12, Ng_12, H_12, G_12⟩ := op_12
  have hin_12 : ¬ ((2 : Int32) < 0 ∨ cl_12.slots.size ≤ ((2 : Int32)).toNatClampNeg) := inb_of S_12 ⟨by decide, by decide⟩
  have pre13 : ∀ tg, Steps p.tables e below (T9.setTop (mkF m 31 #[.val (.ref ca), .val (.int (2 : Int32)), .val (.ref va), .val (.int (2 : Int32)), .val (.int (4 : Int32)), .val (.int (2 : Int32)), .val (.int y2)] [(.int (y2.toInt8.toInt32)), (.int (2 : Int32)), (.ref va)])) tg → G tg := fun tg kt => pre11 tg (by
    show Steps p.tables e below (T9.setTop (mkF m 12 #[.val (.ref ca), .val (.int (2 : Int32)), .val (.ref va), .val (.int (2 : Int32)), .val (.int (4 : Int32)), .val (.int (2 : Int32)), .val (.int y1)] [(.int (2 : Int32)), (.ref ca)])) _
    refine X9.caload hx (j := (2 : Int32)) (v := (.int y2)) (by rw [e9]; exact Ar_12.1) (State.isArrayOf_alike hZ.alike Ar_12.2.1) Ar_12.2.2 hin_12 (H_12.at hin_12 rfl) (g := (mkF m 12 #[.val (.ref ca), .val (.int (2 : Int32)), .val (.ref va), .val (.int (2 : Int32)), .val (.int (4 : Int32)), .val (.int (2 : Int32)), .val (.int y1)] [(.int (2 : Int32)), (.ref ca)])) rfl rfl (hb hby d7_12) _ ?_
    show Steps p.tables e below (T9.setTop (mkF m 13 #[.val (.ref ca), .val (.int (2 : Int32)), .val (.ref va), .val (.int (2 : Int32)), .val (.int (4 : Int32)), .val (.int (2 : Int32)), .val (.int y1)] [(.int y2)])) _
    refine XS.istore X9.here hx rfl (hb hby d7_13) rfl (l' := #[.val (.ref ca), .val (.int (2 : Int32)), .val (.ref va), .val (.int (2 : Int32)), .val (.int (4 : Int32)), .val (.int (2 : Int32)), .val (.int y2)]) rfl ?_
    show Steps p.tables e below (T9.setTop (mkF m 15 #[.val (.ref ca), .val (.int (2 : Int32)), .val (.ref va), .val (.int (2 : Int32)), .val (.int (4 : Int32)), .val (.int (2 : Int32)), .val (.int y2)] [])) _
    refine XS.iload X9.here hx rfl (hb hby d7_15) rfl ?_
    show Steps p.tables e below (T9.setTop (mkF m 17 #[.val (.ref ca), .val (.int (2 : Int32)), .val (.ref va), .val (.int (2 : Int32)), .val (.int (4 : Int32)), .val (.int (2 : Int32)), .val (.int y2)] [(.int y2)])) _
    refine XS.sipush X9.here hx rfl (hb hby d7_17) ?_
    show Steps p.tables e below (T9.setTop (mkF m 20 #[.val (.ref ca), .val (.int (2 : Int32)), .val (.ref va), .val (.int (2 : Int32)), .val (.int (4 : Int32)), .val (.int (2 : Int32)), .val (.int y2)] [(.int (255 : Int32)), (.int y2)])) _
    refine XS.icmpYes X9.here hx rfl (pc0 := 20) (pc' := 26) rfl (hb hby d7_20) rfl (flt (own_gt hy2)).2.2.2 (by decide) (by decide) ?_
    show Steps p.tables e below (T9.setTop (mkF m 26 #[.val (.ref ca), .val (.int (2 : Int32)), .val (.ref va), .val (.int (2 : Int32)), .val (.int (4 : Int32)), .val (.int (2 : Int32)), .val (.int y2)] [])) _
    refine XS.aloadN X9.here hx rfl (hb hby d7_26) rfl rfl ?_
    show Steps p.tables e below (T9.setTop (mkF m 27 #[.val (.ref ca), .val (.int (2 : Int32)), .val (.ref va), .val (.int (2 : Int32)), .val (.int (4 : Int32)), .val (.int (2 : Int32)), .val (.int y2)] [(.ref va)])) _
    refine XS.iloadN X9.here hx rfl (hb hby d7_27) rfl ?_
    show Steps p.tables e below (T9.setTop (mkF m 28 #[.val (.ref ca), .val (.int (2 : Int32)), .val (.ref va), .val (.int (2 : Int32)), .val (.int (4 : Int32)), .val (.int (2 : Int32)), .val (.int y2)] [(.int (2 : Int32)), (.ref va)])) _
    refine XS.iload X9.here hx rfl (hb hby d7_28) rfl ?_
    show Steps p.tables e below (T9.setTop (mkF m 30 #[.val (.ref ca), .val (.int (2 : Int32)), .val (.ref va), .val (.int (2 : Int32)), .val (.int (4 : Int32)), .val (.int (2 : Int32)), .val (.int y2)] [(.int y2), (.int (2 : Int32)), (.ref va)])) _
    refine XS.i2b X9.here hx rfl (hb hby d7_30) rfl ?_
    exact kt)
  have op_14 := V9_va
  obtain ⟨cl_14, Ar_14, q_14, S_14, Ng_14, H_14, G_14⟩ := op_14
  have hin_14 : ¬ ((2 : Int32) < 0 ∨ cl_14.slots.size ≤ ((2 : Int32)).toNatClampNeg) := inb_of S_14 ⟨by decide, by decide⟩
  obtain ⟨T14, h14, X14, e14, W14, st14⟩ := stB X9 hx hZ e9 Ar_14 (j := (2 : Int32)) hin_14 (g := (mkF m 31 #[.val (.ref ca), .val (.int (2 : Int32)), .val (.ref va), .val (.int (2 : Int32)), .val (.int (4 : Int32)), .val (.int (2 : Int32)), .val (.int y2)] [(.int (y2.toInt8.toInt32)), (.int (2 : Int32)), (.ref va)])) rfl rfl (hb hby d7_31)
  have pre14s : ∀ tg, Steps p.tables e below (T14.setTop (mkF m 32 #[.val (.ref ca), .val (.int (2 : Int32)), .val (.ref va), .val (.int (2 : Int32)), .val (.int (4 : Int32)), .val (.int (2 : Int32)), .val (.int y2)] [])) tg → G tg := fun tg kt => pre13 tg (st14 tg kt)
  have V_c_15 := V_c_10.other W14 ne_c_v
  have V14_va : Arv Z h14 va kv .byte (4 : Int32) [(.int (y0.toInt8.toInt32.toInt8.toInt32)), (.int (y1.toInt8.toInt32.toInt8.toInt32)), (.int (y2.toInt8.toInt32.toInt8.toInt32)), (.int (0 : Int32))] (.int (0 : Int32)) := Arv.set Ar_14 q_14 S_14 Ng_14 H_14 G_14 (fits_nar_byte _) W14 2 rfl (Nat.le_of_ble_eq_true rfl)
  have N14 := Fr.snoc X14 N9 O_va
  have Z14 : n0 ≤ h14.size := Nat.le_trans Z9 (Keep.of_wr W14).1
  have K14 : Keep h0 h14 [va] := K9.wr W14 (Or.inl (List.mem_of_getElem? (i := 0) rfl))
  have pre16 : ∀ tg, Steps p.tables e below (T14.setTop (mkF m 12 #[.val (.ref ca), .val (.int (3 : Int32)), .val (.ref va), .val (.int (3 : Int32)), .val (.int (4 : Int32)), .val (.int (3 : Int32)), .val (.int y2)] [(.int (3 : Int32)), (.ref ca)])) tg → G tg := fun tg kt => pre14s tg (by
    show Steps p.tables e below (T14.setTop (mkF m 32 #[.val (.ref ca), .val (.int (2 : Int32)), .val (.ref va), .val (.int (2 : Int32)), .val (.int (4 : Int32)), .val (.int (2 : Int32)), .val (.int y2)] [])) _
    refine XS.iinc X14.here hx rfl (hb hby d7_32) rfl (l' := #[.val (.ref ca), .val (.int (3 : Int32)), .val (.ref va), .val (.int (2 : Int32)), .val (.int (4 : Int32)), .val (.int (2 : Int32)), .val (.int y2)]) rfl ?_
    show Steps p.tables e below (T14.setTop (mkF m 35 #[.val (.ref ca), .val (.int (3 : Int32)), .val (.ref va), .val (.int (2 : Int32)), .val (.int (4 : Int32)), .val (.int (2 : Int32)), .val (.int y2)] [])) _
    refine XS.iinc X14.here hx rfl (hb hby d7_35) rfl (l' := #[.val (.ref ca), .val (.int (3 : Int32)), .val (.ref va), .val (.int (3 : Int32)), .val (.int (4 : Int32)), .val (.int (2 : Int32)), .val (.int y2)]) rfl ?_
    show Steps p.tables e below (T14.setTop (mkF m 38 #[.val (.ref ca), .val (.int (3 : Int32)), .val (.ref va), .val (.int (3 : Int32)), .val (.int (4 : Int32)), .val (.int (2 : Int32)), .val (.int y2)] [])) _
    refine XS.iinc X14.here hx rfl (hb hby d7_38) rfl (l' := #[.val (.ref ca), .val (.int (3 : Int32)), .val (.ref va), .val (.int (3 : Int32)), .val (.int (4 : Int32)), .val (.int (3 : Int32)), .val (.int y2)]) rfl ?_
    show Steps p.tables e below (T14.setTop (mkF m 41 #[.val (.ref ca), .val (.int (3 : Int32)), .val (.ref va), .val (.int (3 : Int32)), .val (.int (4 : Int32)), .val (.int (3 : Int32)), .val (.int y2)] [])) _
    refine XS.goto X14.here hx rfl (pc0 := 41) (pc' := 3) rfl (hb hby d7_41) (by decide) (by decide) ?_
    show Steps p.tables e below (T14.setTop (mkF m 3 #[.val (.ref ca), .val (.int (3 : Int32)), .val (.ref va), .val (.int (3 : Int32)), .val (.int (4 : Int32)), .val (.int (3 : Int32)), .val (.int y2)] [])) _
    refine XS.iload X14.here hx rfl (hb hby d7_3) rfl ?_
    show Steps p.tables e below (T14.setTop (mkF m 5 #[.val (.ref ca), .val (.int (3 : Int32)), .val (.ref va), .val (.int (3 : Int32)), .val (.int (4 : Int32)), .val (.int (3 : Int32)), .val (.int y2)] [(.int (3 : Int32))])) _
    refine XS.iload X14.here hx rfl (hb hby d7_5) rfl ?_
    show Steps p.tables e below (T14.setTop (mkF m 7 #[.val (.ref ca), .val (.int (3 : Int32)), .val (.ref va), .val (.int (3 : Int32)), .val (.int (4 : Int32)), .val (.int (3 : Int32)), .val (.int y2)] [(.int (4 : Int32)), (.int (3 : Int32))])) _
    refine XS.icmpNo X14.here hx rfl (hb hby d7_7) rfl (tlt (by decide : (3 : Int32) < (4 : Int32))).2.1 ?_
    show Steps p.tables e below (T14.setTop (mkF m 10 #[.val (.ref ca), .val (.int (3 : Int32)), .val (.ref va), .val (.int (3 : Int32)), .val (.int (4 : Int32)), .val (.int (3 : Int32)), .val (.int y2)] [])) _
    refine XS.aloadN X14.here hx rfl (hb hby d7_10) rfl rfl ?_
    show Steps p.tables e below (T14.setTop (mkF m 11 #[.val (.ref ca), .val (.int (3 : Int32)), .val (.ref va), .val (.int (3 : Int32)), .val (.int (4 : Int32)), .val (.int (3 : Int32)), .val (.int y2)] [(.ref ca)])) _
    refine XS.iloadN X14.here hx rfl (hb hby d7_11) rfl ?_
    exact kt)
  have op_17 := V_c_15
  obtain ⟨cl_17, Ar_17, q_17, S_17, Ng_17, H_17, G_17⟩ := op_17
  have hin_17 : ¬ ((3 : Int32) < 0 ∨ cl_17.slots.size ≤ ((3 : Int32)).toNatClampNeg) := inb_of S_17 ⟨by decide, by decide⟩
  have pre18 : ∀ tg, Steps p.tables e below (T14.setTop (mkF m 31 #[.val (.ref ca), .val (.int (3 : Int32)), .val (.ref va), .val (.int (3 : Int32)), .val (.int (4 : Int32)), .val (.int (3 : Int32)), .val (.int y3)] [(.int (y3.toInt8.toInt32)), (.int (3 : Int32)), (.ref va)])) tg → G tg := fun tg kt => pre16 tg (by
    show Steps p.tables e below (T14.setTop (mkF m 12 #[.val (.ref ca), .val (.int (3 : Int32)), .val (.ref va), .val (.int (3 : Int32)), .val (.int (4 : Int32)), .val (.int (3 : Int32)), .val (.int y2)] [(.int (3 : Int32)), (.ref ca)])) _
    refine X14.caload hx (j := (3 : Int32)) (v := (.int y3)) (by rw [e14]; exact Ar_17.1) (State.isArrayOf_alike hZ.alike Ar_17.2.1) Ar_17.2.2 hin_17 (H_17.at hin_17 rfl) (g := (mkF m 12 #[.val (.ref ca), .val (.int (3 : Int32)), .val (.ref va), .val (.int (3 : Int32)), .val (.int (4 : Int32)), .val (.int (3 : Int32)), .val (.int y2)] [(.int (3 : Int32)), (.ref ca)])) rfl rfl (hb hby d7_12) _ ?_
    show Steps p.tables e below (T14.setTop (mkF m 13 #[.val (.ref ca), .val (.int (3 : Int32)), .val (.ref va), .val (.int (3 : Int32)), .val (.int (4 : Int32)), .val (.int (3 : Int32)), .val (.int y2)] [(.int y3)])) _
    refine XS.istore X14.here hx rfl (hb hby d7_13) rfl (l' := #[.val (.ref ca), .val (.int (3 : Int32)), .val (.ref va), .val (.int (3 : Int32)), .val (.int (4 : Int32)), .val (.int (3 : Int32)), .val (.int y3)]) rfl ?_
    show Steps p.tables e below (T14.setTop (mkF m 15 #[.val (.ref ca), .val (.int (3 : Int32)), .val (.ref va), .val (.int (3 : Int32)), .val (.int (4 : Int32)), .val (.int (3 : Int32)), .val (.int y3)] [])) _
    refine XS.iload X14.here hx rfl (hb hby d7_15) rfl ?_
    show Steps p.tables e below (T14.setTop (mkF m 17 #[.val (.ref ca), .val (.int (3 : Int32)), .val (.ref va), .val (.int (3 : Int32)), .val (.int (4 : Int32)), .val (.int (3 : Int32)), .val (.int y3)] [(.int y3)])) _
    refine XS.sipush X14.here hx rfl (hb hby d7_17) ?_
    show Steps p.tables e below (T14.setTop (mkF m 20 #[.val (.ref ca), .val (.int (3 : Int32)), .val (.ref va), .val (.int (3 : Int32)), .val (.int (4 : Int32)), .val (.int (3 : Int32)), .val (.int y3)] [(.int (255 : Int32)), (.int y3)])) _
    refine XS.icmpYes X14.here hx rfl (pc0 := 20) (pc' := 26) rfl (hb hby d7_20) rfl (flt (own_gt hy3)).2.2.2 (by decide) (by decide) ?_
    show Steps p.tables e below (T14.setTop (mkF m 26 #[.val (.ref ca), .val (.int (3 : Int32)), .val (.ref va), .val (.int (3 : Int32)), .val (.int (4 : Int32)), .val (.int (3 : Int32)), .val (.int y3)] [])) _
    refine XS.aloadN X14.here hx rfl (hb hby d7_26) rfl rfl ?_
    show Steps p.tables e below (T14.setTop (mkF m 27 #[.val (.ref ca), .val (.int (3 : Int32)), .val (.ref va), .val (.int (3 : Int32)), .val (.int (4 : Int32)), .val (.int (3 : Int32)), .val (.int y3)] [(.ref va)])) _
    refine XS.iloadN X14.here hx rfl (hb hby d7_27) rfl ?_
    show Steps p.tables e below (T14.setTop (mkF m 28 #[.val (.ref ca), .val (.int (3 : Int32)), .val (.ref va), .val (.int (3 : Int32)), .val (.int (4 : Int32)), .val (.int (3 : Int32)), .val (.int y3)] [(.int (3 : Int32)), (.ref va)])) _
    refine XS.iload X14.here hx rfl (hb hby d7_28) rfl ?_
    show Steps p.tables e below (T14.setTop (mkF m 30 #[.val (.ref ca), .val (.int (3 : Int32)), .val (.ref va), .val (.int (3 : Int32)), .val (.int (4 : Int32)), .val (.int (3 : Int32)), .val (.int y3)] [(.int y3), (.int (3 : Int32)), (.ref va)])) _
    refine XS.i2b X14.here hx rfl (hb hby d7_30) rfl ?_
    exact kt)
  have op_19 := V14_va
  obtain ⟨cl_19, Ar_19, q_19, S_19, Ng_19, H_19, G_19⟩ := op_19
  have hin_19 : ¬ ((3 : Int32) < 0 ∨ cl_19.slots.size ≤ ((3 : Int32)).toNatClampNeg) := inb_of S_19 ⟨by decide, by decide⟩
  obtain ⟨T19, h19, X19, e19, W19, st19⟩ := stB X14 hx hZ e14 Ar_19 (j := (3 : Int32)) hin_19 (g := (mkF m 31 #[.val (.ref ca), .val (.int (3 : Int32)), .val (.ref va), .val (.int (3 : Int32)), .val (.int (4 : Int32)), .val (.int (3 : Int32)), .val (.int y3)] [(.int (y3.toInt8.toInt32)), (.int (3 : Int32)), (.ref va)])) rfl rfl (hb hby d7_31)
  have pre19s : ∀ tg, Steps p.tables e below (T19.setTop (mkF m 32 #[.val (.ref ca), .val (.int (3 : Int32)), .val (.ref va), .val (.int (3 : Int32)), .val (.int (4 : Int32)), .val (.int (3 : Int32)), .val (.int y3)] [])) tg → G tg := fun tg kt => pre18 tg (st19 tg kt)
  have V_c_20 := V_c_15.other W19 ne_c_v
  have V19_va : Arv Z h19 va kv .byte (4 : Int32) [(.int (y0.toInt8.toInt32.toInt8.toInt32)), (.int (y1.toInt8.toInt32.toInt8.toInt32)), (.int (y2.toInt8.toInt32.toInt8.toInt32)), (.int (y3.toInt8.toInt32.toInt8.toInt32))] (.int (0 : Int32)) := Arv.set Ar_19 q_19 S_19 Ng_19 H_19 G_19 (fits_nar_byte _) W19 3 rfl (Nat.le_of_ble_eq_true rfl)
  have N19 := Fr.snoc X19 N14 O_va
  have Z19 : n0 ≤ h19.size := Nat.le_trans Z14 (Keep.of_wr W19).1
  have K19 : Keep h0 h19 [va] := K14.wr W19 (Or.inl (List.mem_of_getElem? (i := 0) rfl))
  obtain ⟨fs, hr, hrun, hended, hW, hsame⟩ := X19.leave (v := some (.int (4 : Int32))) (fun h => by rw [Bd.returns] at h; cases h)
  subst hG
  refine ⟨_, _, pre19s _ ?_, hrun, hended, _, _, rfl, ?_, ⟨_, rfl⟩, hW, hsame.mono (by decide) (by decide)⟩
  · skip
    show Steps p.tables e below (T19.setTop (mkF m 32 #[.val (.ref ca), .val (.int (3 : Int32)), .val (.ref va), .val (.int (3 : Int32)), .val (.int (4 : Int32)), .val (.int (3 : Int32)), .val (.int y3)] [])) _
    refine XS.iinc X19.here hx rfl (hb hby d7_32) rfl (l' := #[.val (.ref ca), .val (.int (4 : Int32)), .val (.ref va), .val (.int (3 : Int32)), .val (.int (4 : Int32)), .val (.int (3 : Int32)), .val (.int y3)]) rfl ?_
    show Steps p.tables e below (T19.setTop (mkF m 35 #[.val (.ref ca), .val (.int (4 : Int32)), .val (.ref va), .val (.int (3 : Int32)), .val (.int (4 : Int32)), .val (.int (3 : Int32)), .val (.int y3)] [])) _
    refine XS.iinc X19.here hx rfl (hb hby d7_35) rfl (l' := #[.val (.ref ca), .val (.int (4 : Int32)), .val (.ref va), .val (.int (4 : Int32)), .val (.int (4 : Int32)), .val (.int (3 : Int32)), .val (.int y3)]) rfl ?_
    show Steps p.tables e below (T19.setTop (mkF m 38 #[.val (.ref ca), .val (.int (4 : Int32)), .val (.ref va), .val (.int (4 : Int32)), .val (.int (4 : Int32)), .val (.int (3 : Int32)), .val (.int y3)] [])) _
    refine XS.iinc X19.here hx rfl (hb hby d7_38) rfl (l' := #[.val (.ref ca), .val (.int (4 : Int32)), .val (.ref va), .val (.int (4 : Int32)), .val (.int (4 : Int32)), .val (.int (4 : Int32)), .val (.int y3)]) rfl ?_
    show Steps p.tables e below (T19.setTop (mkF m 41 #[.val (.ref ca), .val (.int (4 : Int32)), .val (.ref va), .val (.int (4 : Int32)), .val (.int (4 : Int32)), .val (.int (4 : Int32)), .val (.int y3)] [])) _
    refine XS.goto X19.here hx rfl (pc0 := 41) (pc' := 3) rfl (hb hby d7_41) (by decide) (by decide) ?_
    show Steps p.tables e below (T19.setTop (mkF m 3 #[.val (.ref ca), .val (.int (4 : Int32)), .val (.ref va), .val (.int (4 : Int32)), .val (.int (4 : Int32)), .val (.int (4 : Int32)), .val (.int y3)] [])) _
    refine XS.iload X19.here hx rfl (hb hby d7_3) rfl ?_
    show Steps p.tables e below (T19.setTop (mkF m 5 #[.val (.ref ca), .val (.int (4 : Int32)), .val (.ref va), .val (.int (4 : Int32)), .val (.int (4 : Int32)), .val (.int (4 : Int32)), .val (.int y3)] [(.int (4 : Int32))])) _
    refine XS.iload X19.here hx rfl (hb hby d7_5) rfl ?_
    show Steps p.tables e below (T19.setTop (mkF m 7 #[.val (.ref ca), .val (.int (4 : Int32)), .val (.ref va), .val (.int (4 : Int32)), .val (.int (4 : Int32)), .val (.int (4 : Int32)), .val (.int y3)] [(.int (4 : Int32)), (.int (4 : Int32))])) _
    refine XS.icmpYes X19.here hx rfl (pc0 := 7) (pc' := 44) rfl (hb hby d7_7) rfl (flt (by decide : ¬ ((4 : Int32) < (4 : Int32)))).2.1 (by decide) (by decide) ?_
    show Steps p.tables e below (T19.setTop (mkF m 44 #[.val (.ref ca), .val (.int (4 : Int32)), .val (.ref va), .val (.int (4 : Int32)), .val (.int (4 : Int32)), .val (.int (4 : Int32)), .val (.int y3)] [])) _
    refine XS.iload X19.here hx rfl (hb hby d7_44) rfl ?_
    show Steps p.tables e below (T19.setTop (mkF m 46 #[.val (.ref ca), .val (.int (4 : Int32)), .val (.ref va), .val (.int (4 : Int32)), .val (.int (4 : Int32)), .val (.int (4 : Int32)), .val (.int y3)] [(.int (4 : Int32))])) _
    exact retI X19 hx Bd.returns (hb hby d7_46) hr
  · show Q_rmC_4 Z ca va kc kv y0 y1 y2 y3 h0 n0 _ T19.heap _
    rw [e19]
    exact ⟨rfl, N19, K19, V19_va⟩
def Q_rmD_4 (Z : State) (ca : Addr) (kc : ClassId) (y0 y1 y2 y3 : Int32) (h0 : Heap) (n0 : Nat) (v : Option Value) (h : Heap) (L : List Loc) : Prop := ∃ (va : Addr) (kv : ClassId), v = some (.ref va) ∧ Fr n0 L ∧ Keep h0 h [] ∧ h0.size ≤ va ∧ Arv Z h va kv .byte (4 : Int32) [(.int (y0.toInt8.toInt32.toInt8.toInt32)), (.int (y1.toInt8.toInt32.toInt8.toInt32)), (.int (y2.toInt8.toInt32.toInt8.toInt32)), (.int (y3.toInt8.toInt32.toInt8.toInt32))] (.int (0 : Int32))
set_option maxRecDepth 65536 in
set_option maxHeartbeats 40000000 in
theorem rmD_4 (l : Launch) (Z : State) (a0 : Array Value) (hw : ∀ d ∈ tables_1, d.before a0 Z = true) (ws : List Jvm.Cond) (ca : Addr) (kc : ClassId) (y0 y1 y2 y3 : Int32) (h0 : Heap) (n0 : Nat) (Z0 : n0 ≤ h0.size) (V_c : Arv Z h0 ca kc .char (4 : Int32) [(.int y0), (.int y1), (.int y2), (.int y3)] (.int (0 : Int32))) (hy0 : own_y y0) (hy1 : own_y y1) (hy2 : own_y y2) (hy3 : own_y y3) :
    MetFree l (⟨"java/lang/StringUTF16", "compress", "([CII)[B"⟩ : MethodName) (head1 (Jvm.Cond.code (⟨"java/lang/StringUTF16", "compress", "([CII)[B"⟩ : MethodName) jdk_52_method_16_code 6 (some (.array .byte)) :: ws) ({ frames := 1, cells := 1, slots := 4, locals := 24 } : Room)) (fun argv U => argv = #[(.ref ca), (.int (0 : Int32)), (.int (4 : Int32))] ∧ Z.Warmed39 U.vm ∧ U.heap = h0) (fun _ _ _ _ _ => True) (fun _ U o U' => ∃ v L, o = .returned v ∧ Q_rmD_4 Z ca kc y0 y1 y2 y3 h0 n0 v U'.heap L ∧ FrameEnd U o U' L ({ frames := 1, cells := 1, slots := 4, locals := 24 } : Room).cells ({ frames := 1, cells := 1, slots := 4, locals := 24 } : Room).slots) := by
  refine MetFree.of_bodySF (plainFor_of_name pn_6) hisR ?_
  intro p e s m args below meth c s₁ Bd hml0 hP hK
  obtain ⟨rfl, hZ, hh⟩ := hP
  have hx := Bd.exec
  have hby := Bd.bytes
  have hml : c.maxLocals = 6 := hml0
  have hown : s.vm.findClass "java/lang/StringUTF16" = some m.cls := findClass_of_methodNamed Bd.named
  have hnm := (name_of_methodNamed Bd.named Bd.method).1
  have X0 : Stand p l e ({ frames := 1, cells := 1, slots := 4, locals := 24 } : Room) s m #[(.ref ca), (.int (0 : Int32)), (.int (4 : Int32))] below meth c s₁ [] 0 0 := Stand.of_body Bd
  have e0 : s₁.heap = h0 := by rw [← hh, Bd.state]; rfl
  have N0 := Fr.nil n0
  obtain ⟨G, hG⟩ : ∃ G : State → Prop, G = fun tg => Steps p.tables e below (s₁.setTop (entryFrame m #[(.ref ca), (.int (0 : Int32)), (.int (4 : Int32))] 6)) tg := ⟨_, rfl⟩
  have pre0 : ∀ tg, Steps p.tables e below (s₁.setTop (mkF m 0 #[.val (.ref ca), .val (.int (0 : Int32)), .val (.int (4 : Int32)), .unset, .unset, .unset] [])) tg → G tg := fun tg kt => by rw [hG]; exact castTop (ef_6_R_I_I m ca (0 : Int32) (4 : Int32)) kt
  have pre1 : ∀ tg, Steps p.tables e below (s₁.setTop (mkF m 1 #[.val (.ref ca), .val (.int (0 : Int32)), .val (.int (4 : Int32)), .unset, .unset, .unset] [(.int (4 : Int32))])) tg → G tg := fun tg kt => pre0 tg (by
    show Steps p.tables e below (s₁.setTop (mkF m 0 #[.val (.ref ca), .val (.int (0 : Int32)), .val (.int (4 : Int32)), .unset, .unset, .unset] [])) _
    refine XS.iloadN X0.here hx rfl (hb hby d6_0) rfl ?_
    exact kt)
  obtain ⟨T2, h2, k2, X2, e2, E2, A2, st2⟩ := newP X0 hx hZ (hw _ (List.mem_of_getElem? (i := 20) rfl)) e0 (g := (mkF m 1 #[.val (.ref ca), .val (.int (0 : Int32)), .val (.int (4 : Int32)), .unset, .unset, .unset] [(.int (4 : Int32))])) rfl (hb hby d6_1) rfl (by decide) (cap := 4) (by decide) (by decide) (by decide) (by decide)
  obtain ⟨va, g2⟩ : ∃ z, z = h0.size := ⟨_, rfl⟩
  rw [← g2] at A2 st2
  have O_va : n0 ≤ va := Nat.le_trans Z0 (Nat.le_of_eq g2.symm)
  have Z2 : n0 ≤ h2.size := Nat.le_trans Z0 E2.1
  have ne_ca_va : ca ≠ va := Nat.ne_of_lt (Nat.lt_of_lt_of_le V_c.lt (Nat.le_of_eq g2.symm))
  have S_va : h0.size ≤ va := Nat.le_trans (Keep.refl h0 []).1 (Nat.le_of_eq g2.symm)
  have pre2s : ∀ tg, Steps p.tables e below (T2.setTop (mkF m 3 #[.val (.ref ca), .val (.int (0 : Int32)), .val (.int (4 : Int32)), .unset, .unset, .unset] [(.ref va)])) tg → G tg := fun tg kt => pre1 tg (st2 tg kt)
  have V_c_3 := V_c.ext E2
  have V_va : Arv Z h2 va k2 .byte (4 : Int32) [(.int (0 : Int32)), (.int (0 : Int32)), (.int (0 : Int32)), (.int (0 : Int32))] (.int (0 : Int32)) := (Arv.new A2 (by decide)).pad (pad_rep [] (.int (0 : Int32)) 4)
  have K2 : Keep h0 h2 [] := (Keep.refl h0 []).ext E2
  have pre4 : ∀ tg, Steps p.tables e below (T2.setTop (mkF m 9 #[.val (.ref ca), .val (.int (0 : Int32)), .val (.int (4 : Int32)), .val (.ref va), .unset, .unset] [(.int (4 : Int32)), (.int (0 : Int32)), (.ref va), (.int (0 : Int32)), (.ref ca)])) tg → G tg := fun tg kt => pre2s tg (by
    show Steps p.tables e below (T2.setTop (mkF m 3 #[.val (.ref ca), .val (.int (0 : Int32)), .val (.int (4 : Int32)), .unset, .unset, .unset] [(.ref va)])) _
    refine XS.astoreN X2.here hx rfl (hb hby d6_3) rfl rfl (l' := #[.val (.ref ca), .val (.int (0 : Int32)), .val (.int (4 : Int32)), .val (.ref va), .unset, .unset]) rfl ?_
    show Steps p.tables e below (T2.setTop (mkF m 4 #[.val (.ref ca), .val (.int (0 : Int32)), .val (.int (4 : Int32)), .val (.ref va), .unset, .unset] [])) _
    refine XS.aloadN X2.here hx rfl (hb hby d6_4) rfl rfl ?_
    show Steps p.tables e below (T2.setTop (mkF m 5 #[.val (.ref ca), .val (.int (0 : Int32)), .val (.int (4 : Int32)), .val (.ref va), .unset, .unset] [(.ref ca)])) _
    refine XS.iloadN X2.here hx rfl (hb hby d6_5) rfl ?_
    show Steps p.tables e below (T2.setTop (mkF m 6 #[.val (.ref ca), .val (.int (0 : Int32)), .val (.int (4 : Int32)), .val (.ref va), .unset, .unset] [(.int (0 : Int32)), (.ref ca)])) _
    refine XS.aloadN X2.here hx rfl (hb hby d6_6) rfl rfl ?_
    show Steps p.tables e below (T2.setTop (mkF m 7 #[.val (.ref ca), .val (.int (0 : Int32)), .val (.int (4 : Int32)), .val (.ref va), .unset, .unset] [(.ref va), (.int (0 : Int32)), (.ref ca)])) _
    refine XS.iconst X2.here hx rfl (hb hby d6_7) ?_
    show Steps p.tables e below (T2.setTop (mkF m 8 #[.val (.ref ca), .val (.int (0 : Int32)), .val (.int (4 : Int32)), .val (.ref va), .unset, .unset] [(.int (0 : Int32)), (.ref va), (.int (0 : Int32)), (.ref ca)])) _
    refine XS.iloadN X2.here hx rfl (hb hby d6_8) rfl ?_
    exact kt)
  obtain ⟨_, _, ⟨T5, L5, k5, n5⟩, -, X5, ⟨Lc5, hQ5, l5, y5, z5⟩, st5⟩ := Jvm.LawKit.callS X2 hx (y := (⟨"java/lang/StringUTF16", "compress", "([CI[BII)I"⟩ : MethodName)) hown (mvT hZ (hw _ (List.mem_of_getElem? (i := 35) rfl))) (mvT hZ (hw _ (List.mem_of_getElem? (i := 36) rfl))) (mvT hZ (hw _ (List.mem_of_getElem? (i := 33) rfl))) (mvT hZ (hw _ (List.mem_of_getElem? (i := 37) rfl))) (by decide) (backOf (W := 0) (rmC_4 l Z a0 hw [] ca va kc k2 y0 y1 y2 y3 h2 n0 Z2 V_c_3 V_va O_va ne_ca_va hy0 hy1 hy2 hy3) hZ (hw _ (List.mem_of_getElem? (i := 37) rfl)) (hw _ (List.mem_of_getElem? (i := 33) rfl)) (by decide) (by decide)) (g := (mkF m 9 #[.val (.ref ca), .val (.int (0 : Int32)), .val (.int (4 : Int32)), .val (.ref va), .unset, .unset] [(.int (4 : Int32)), (.int (0 : Int32)), (.ref va), (.int (0 : Int32)), (.ref ca)])) rfl (by rw [hml]; rfl) (argsL := [(.ref ca), (.int (0 : Int32)), (.ref va), (.int (0 : Int32)), (.int (4 : Int32))]) (rest := []) (lenOf pd_0 rfl) rfl (by show 2 * 0 + _ ≤ _; exact Nat.le_of_eq rfl) (hb hby d6_9) (fun _ _ => ⟨rfl, e2, (Nat.le_of_ble_eq_true rfl), (Nat.le_of_ble_eq_true rfl)⟩)
  dsimp only [Pt.U, Pt.locs, Pt.cells, Pt.slots] at X5 l5 y5 z5 st5 hQ5
  subst l5 y5 z5
  obtain ⟨rfl, N5q, K5, V4⟩ := hQ5
  have N5 := Fr.app N0 N5q
  have pre5s : ∀ tg, Steps p.tables e below (T5.setTop (mkF m 12 #[.val (.ref ca), .val (.int (0 : Int32)), .val (.int (4 : Int32)), .val (.ref va), .unset, .unset] [(.int (4 : Int32))])) tg → G tg := fun tg kt => pre4 tg (st5 tg kt)
  have Z5 : n0 ≤ T5.heap.size := Nat.le_trans Z2 K5.1
  have V_c_6 := V_c_3.keep K5 (ninS ne_ca_va nin0)
  have KK5 : Keep h0 T5.heap [] := K2.trans K5 (allS (Or.inr S_va) all0)
  obtain ⟨fs, hr, hrun, hended, hW, hsame⟩ := X5.leave (v := some (.ref va)) (fun h => by rw [Bd.returns] at h; cases h)
  subst hG
  refine ⟨_, _, pre5s _ ?_, hrun, hended, _, _, rfl, ?_, ⟨_, rfl⟩, hW, hsame.mono (by decide) (by decide)⟩
  · skip
    show Steps p.tables e below (T5.setTop (mkF m 12 #[.val (.ref ca), .val (.int (0 : Int32)), .val (.int (4 : Int32)), .val (.ref va), .unset, .unset] [(.int (4 : Int32))])) _
    refine XS.istore X5.here hx rfl (hb hby d6_12) rfl (l' := #[.val (.ref ca), .val (.int (0 : Int32)), .val (.int (4 : Int32)), .val (.ref va), .val (.int (4 : Int32)), .unset]) rfl ?_
    show Steps p.tables e below (T5.setTop (mkF m 14 #[.val (.ref ca), .val (.int (0 : Int32)), .val (.int (4 : Int32)), .val (.ref va), .val (.int (4 : Int32)), .unset] [])) _
    refine XS.iload X5.here hx rfl (hb hby d6_14) rfl ?_
    show Steps p.tables e below (T5.setTop (mkF m 16 #[.val (.ref ca), .val (.int (0 : Int32)), .val (.int (4 : Int32)), .val (.ref va), .val (.int (4 : Int32)), .unset] [(.int (4 : Int32))])) _
    refine XS.iloadN X5.here hx rfl (hb hby d6_16) rfl ?_
    show Steps p.tables e below (T5.setTop (mkF m 17 #[.val (.ref ca), .val (.int (0 : Int32)), .val (.int (4 : Int32)), .val (.ref va), .val (.int (4 : Int32)), .unset] [(.int (4 : Int32)), (.int (4 : Int32))])) _
    refine XS.icmpYes X5.here hx rfl (pc0 := 17) (pc' := 57) rfl (hb hby d6_17) rfl (teq (by decide : (4 : Int32) = (4 : Int32))).1 (by decide) (by decide) ?_
    show Steps p.tables e below (T5.setTop (mkF m 57 #[.val (.ref ca), .val (.int (0 : Int32)), .val (.int (4 : Int32)), .val (.ref va), .val (.int (4 : Int32)), .unset] [])) _
    refine XS.aloadN X5.here hx rfl (hb hby d6_57) rfl rfl ?_
    show Steps p.tables e below (T5.setTop (mkF m 58 #[.val (.ref ca), .val (.int (0 : Int32)), .val (.int (4 : Int32)), .val (.ref va), .val (.int (4 : Int32)), .unset] [(.ref va)])) _
    jvm_step X5.here [X5.here.top, hx, (hb hby d6_58), X5.method', Bd.returns, Value.isRef, FieldType.isReference]
    first | (intro acts; rw [hr _ acts rfl rfl rfl]) | rw [hr _ _ rfl rfl rfl]
    exact Steps.refl _
  · show Q_rmD_4 Z ca kc y0 y1 y2 y3 h0 n0 _ T5.heap _
    exact ⟨va, _, rfl, N5, KK5, S_va, V4⟩
def Q_rmE_4 (Z : State) (b : Addr) (kb : ClassId) (x0 x1 x2 x3 : Int32) (h0 : Heap) (n0 : Nat) (v : Option Value) (h : Heap) (L : List Loc) : Prop := v = some (.int (0 : Int32)) ∧ Fr n0 L ∧ h = h0
set_option maxRecDepth 65536 in
set_option maxHeartbeats 40000000 in
theorem rmE_4 (l : Launch) (Z : State) (a0 : Array Value) (hw : ∀ d ∈ tables_1, d.before a0 Z = true) (ws : List Jvm.Cond) (b : Addr) (kb : ClassId) (x0 x1 x2 x3 : Int32) (h0 : Heap) (n0 : Nat) (Z0 : n0 ≤ h0.size) (V_b : Arv Z h0 b kb .byte (4 : Int32) [(.int x0), (.int x1), (.int x2), (.int x3)] (.int (0 : Int32))) :
    MetFree l (⟨"java/lang/StringUTF16", "coderFromArrayLen", "([BI)B"⟩ : MethodName) (head1 (Jvm.Cond.code (⟨"java/lang/StringUTF16", "coderFromArrayLen", "([BI)B"⟩ : MethodName) jdk_52_method_15_code 2 (some .byte) :: ws) ({ frames := 0, cells := 0, slots := 0, locals := 0 } : Room)) (fun argv U => argv = #[(.ref b), (.int (4 : Int32))] ∧ Z.Warmed39 U.vm ∧ U.heap = h0) (fun _ _ _ _ _ => True) (fun _ U o U' => ∃ v L, o = .returned v ∧ Q_rmE_4 Z b kb x0 x1 x2 x3 h0 n0 v U'.heap L ∧ FrameEnd U o U' L ({ frames := 0, cells := 0, slots := 0, locals := 0 } : Room).cells ({ frames := 0, cells := 0, slots := 0, locals := 0 } : Room).slots) := by
  refine MetFree.of_bodySF (plainFor_of_name pn_8) hisR ?_
  intro p e s m args below meth c s₁ Bd hml0 hP hK
  obtain ⟨rfl, hZ, hh⟩ := hP
  have hx := Bd.exec
  have hby := Bd.bytes
  have hml : c.maxLocals = 2 := hml0
  have hown : s.vm.findClass "java/lang/StringUTF16" = some m.cls := findClass_of_methodNamed Bd.named
  have hnm := (name_of_methodNamed Bd.named Bd.method).1
  have X0 : Stand p l e ({ frames := 0, cells := 0, slots := 0, locals := 0 } : Room) s m #[(.ref b), (.int (4 : Int32))] below meth c s₁ [] 0 0 := Stand.of_body Bd
  have e0 : s₁.heap = h0 := by rw [← hh, Bd.state]; rfl
  have N0 := Fr.nil n0
  obtain ⟨G, hG⟩ : ∃ G : State → Prop, G = fun tg => Steps p.tables e below (s₁.setTop (entryFrame m #[(.ref b), (.int (4 : Int32))] 2)) tg := ⟨_, rfl⟩
  have pre0 : ∀ tg, Steps p.tables e below (s₁.setTop (mkF m 0 #[.val (.ref b), .val (.int (4 : Int32))] [])) tg → G tg := fun tg kt => by rw [hG]; exact castTop (ef_8_R_I m b (4 : Int32)) kt
  have pre1 : ∀ tg, Steps p.tables e below (s₁.setTop (mkF m 2 #[.val (.ref b), .val (.int (4 : Int32))] [(.ref b), (.int (4 : Int32))])) tg → G tg := fun tg kt => pre0 tg (by
    show Steps p.tables e below (s₁.setTop (mkF m 0 #[.val (.ref b), .val (.int (4 : Int32))] [])) _
    refine XS.iloadN X0.here hx rfl (hb hby d8_0) rfl ?_
    show Steps p.tables e below (s₁.setTop (mkF m 1 #[.val (.ref b), .val (.int (4 : Int32))] [(.int (4 : Int32))])) _
    refine XS.aloadN X0.here hx rfl (hb hby d8_1) rfl rfl ?_
    exact kt)
  have op_2 := V_b
  obtain ⟨cl_2, Ar_2, q_2, S_2, Ng_2, H_2, G_2⟩ := op_2
  obtain ⟨fs, hr, hrun, hended, hW, hsame⟩ := X0.leave (v := some (.int (0 : Int32))) (fun h => by rw [Bd.returns] at h; cases h)
  subst hG
  refine ⟨_, _, pre1 _ ?_, hrun, hended, _, _, rfl, ?_, ⟨_, rfl⟩, hW, hsame.mono (by decide) (by decide)⟩
  · skip
    show Steps p.tables e below (s₁.setTop (mkF m 2 #[.val (.ref b), .val (.int (4 : Int32))] [(.ref b), (.int (4 : Int32))])) _
    refine X0.arraylength hx (by rw [e0]; exact Ar_2.1) (State.isArrayOf_alike hZ.alike Ar_2.2.1) (g := (mkF m 2 #[.val (.ref b), .val (.int (4 : Int32))] [(.ref b), (.int (4 : Int32))])) rfl rfl (hb hby d8_2) _ ?_
    rw [len_of S_2 Ng_2]
    show Steps p.tables e below (s₁.setTop (mkF m 3 #[.val (.ref b), .val (.int (4 : Int32))] [(.int (4 : Int32)), (.int (4 : Int32))])) _
    refine XS.isub X0.here hx rfl (hb hby d8_3) rfl ?_
    show Steps p.tables e below (s₁.setTop (mkF m 4 #[.val (.ref b), .val (.int (4 : Int32))] [(.int (0 : Int32))])) _
    refine XS.bipush X0.here hx rfl (hb hby d8_4) ?_
    show Steps p.tables e below (s₁.setTop (mkF m 6 #[.val (.ref b), .val (.int (4 : Int32))] [(.int (31 : Int32)), (.int (0 : Int32))])) _
    refine XS.iushr X0.here hx rfl (hb hby d8_6) rfl ?_
    show Steps p.tables e below (s₁.setTop (mkF m 7 #[.val (.ref b), .val (.int (4 : Int32))] [(.int (0 : Int32))])) _
    refine XS.i2b X0.here hx rfl (hb hby d8_7) rfl ?_
    show Steps p.tables e below (s₁.setTop (mkF m 8 #[.val (.ref b), .val (.int (4 : Int32))] [(.int (0 : Int32))])) _
    exact retN X0 hx (t := .byte) Bd.returns (by simp) (hb hby d8_8) hr
  · show Q_rmE_4 Z b kb x0 x1 x2 x3 h0 n0 _ s₁.heap _
    rw [e0]
    exact ⟨rfl, N0, rfl⟩
def Q_rmI_4 (Z : State) (a ca : Addr) (kc : ClassId) (y0 y1 y2 y3 : Int32) (h0 : Heap) (n0 : Nat) (v : Option Value) (h : Heap) (L : List Loc) : Prop := v = none ∧ Fr n0 L ∧ Keep h0 h [a] ∧ own_s Z h a (4 : Int32)
set_option maxRecDepth 65536 in
set_option maxHeartbeats 40000000 in
theorem rmI_4 (l : Launch) (Z : State) (a0 : Array Value) (hw : ∀ d ∈ tables_1, d.before a0 Z = true) (ws : List Jvm.Cond) (a ca : Addr) (kc : ClassId) (y0 y1 y2 y3 : Int32) (h0 : Heap) (n0 : Nat) (Z0 : n0 ≤ h0.size) (hs : own_st Z) (Ol : Old Z n0 h0) (E_a : Exa Z h0 a "java/lang/String") (F_c : Fld Z h0 a "java/lang/String" "coder" "B" (.int (0 : Int32))) (F_v : Fld Z h0 a "java/lang/String" "value" "[B" .null) (O_a : n0 ≤ a) (ne_a_c : ca ≠ a) (V_c : Arv Z h0 ca kc .char (4 : Int32) [(.int y0), (.int y1), (.int y2), (.int y3)] (.int (0 : Int32))) (hy0 : own_y y0) (hy1 : own_y y1) (hy2 : own_y y2) (hy3 : own_y y3) :
    MetFree l (⟨"java/lang/String", "<init>", "([CIILjava/lang/Void;)V"⟩ : MethodName) (head1 (Jvm.Cond.code (⟨"java/lang/String", "<init>", "([CIILjava/lang/Void;)V"⟩ : MethodName) jdk_42_method_149_code 6 none :: ws) ({ frames := 2, cells := 1, slots := 4, locals := 48 } : Room)) (fun argv U => argv = #[(.ref a), (.ref ca), (.int (0 : Int32)), (.int (4 : Int32)), .null] ∧ Z.Warmed39 U.vm ∧ U.heap = h0) (fun _ _ _ _ _ => True) (fun _ U o U' => ∃ v L, o = .returned v ∧ Q_rmI_4 Z a ca kc y0 y1 y2 y3 h0 n0 v U'.heap L ∧ FrameEnd U o U' L ({ frames := 2, cells := 1, slots := 4, locals := 48 } : Room).cells ({ frames := 2, cells := 1, slots := 4, locals := 48 } : Room).slots) := by
  refine MetFree.of_bodySF (plainFor_of_name pn_3) hisR ?_
  intro p e s m args below meth c s₁ Bd hml0 hP hK
  obtain ⟨rfl, hZ, hh⟩ := hP
  have hx := Bd.exec
  have hby := Bd.bytes
  have hml : c.maxLocals = 6 := hml0
  have hown : s.vm.findClass "java/lang/String" = some m.cls := findClass_of_methodNamed Bd.named
  have hnm := (name_of_methodNamed Bd.named Bd.method).1
  have X0 : Stand p l e ({ frames := 2, cells := 1, slots := 4, locals := 48 } : Room) s m #[(.ref a), (.ref ca), (.int (0 : Int32)), (.int (4 : Int32)), .null] below meth c s₁ [] 0 0 := Stand.of_body Bd
  have e0 : s₁.heap = h0 := by rw [← hh, Bd.state]; rfl
  have N0 := Fr.nil n0
  obtain ⟨G, hG⟩ : ∃ G : State → Prop, G = fun tg => Steps p.tables e below (s₁.setTop (entryFrame m #[(.ref a), (.ref ca), (.int (0 : Int32)), (.int (4 : Int32)), .null] 6)) tg := ⟨_, rfl⟩
  have pre0 : ∀ tg, Steps p.tables e below (s₁.setTop (mkF m 0 #[.val (.ref a), .val (.ref ca), .val (.int (0 : Int32)), .val (.int (4 : Int32)), .val .null, .unset] [])) tg → G tg := fun tg kt => by rw [hG]; exact castTop (ef_3_R_R_I_I_n m a ca (0 : Int32) (4 : Int32) ) kt
  have pre1 : ∀ tg, Steps p.tables e below (s₁.setTop (mkF m 1 #[.val (.ref a), .val (.ref ca), .val (.int (0 : Int32)), .val (.int (4 : Int32)), .val .null, .unset] [(.ref a)])) tg → G tg := fun tg kt => pre0 tg (by
    show Steps p.tables e below (s₁.setTop (mkF m 0 #[.val (.ref a), .val (.ref ca), .val (.int (0 : Int32)), .val (.int (4 : Int32)), .val .null, .unset] [])) _
    refine XS.aloadN X0.here hx rfl (hb hby d3_0) rfl rfl ?_
    exact kt)
  obtain ⟨T2, X2, e2, st2⟩ := initO X0 hx hZ hown (hw _ (List.mem_of_getElem? (i := 16) rfl)) (hw _ (List.mem_of_getElem? (i := 17) rfl)) (hw _ (List.mem_of_getElem? (i := 18) rfl)) e0 (g := (mkF m 1 #[.val (.ref a), .val (.ref ca), .val (.int (0 : Int32)), .val (.int (4 : Int32)), .val .null, .unset] [(.ref a)])) rfl (by rw [hml]; rfl) rfl (hb hby d3_1) (by decide) (W := 0) (by show 2 * 0 + _ ≤ _; exact Nat.le_of_eq rfl) (by decide)
  have pre2s : ∀ tg, Steps p.tables e below (T2.setTop (mkF m 4 #[.val (.ref a), .val (.ref ca), .val (.int (0 : Int32)), .val (.int (4 : Int32)), .val .null, .unset] [])) tg → G tg := fun tg kt => pre1 tg (st2 tg kt)
  have pre4 : ∀ tg, Steps p.tables e below (T2.setTop (mkF m 27 #[.val (.ref a), .val (.ref ca), .val (.int (0 : Int32)), .val (.int (4 : Int32)), .val .null, .unset] [])) tg → G tg := fun tg kt => pre2s tg (by
    show Steps p.tables e below (T2.setTop (mkF m 4 #[.val (.ref a), .val (.ref ca), .val (.int (0 : Int32)), .val (.int (4 : Int32)), .val .null, .unset] [])) _
    refine XS.iloadN X2.here hx rfl (hb hby d3_4) rfl ?_
    show Steps p.tables e below (T2.setTop (mkF m 5 #[.val (.ref a), .val (.ref ca), .val (.int (0 : Int32)), .val (.int (4 : Int32)), .val .null, .unset] [(.int (4 : Int32))])) _
    refine XS.ifYes X2.here hx rfl (pc0 := 5) (pc' := 27) rfl (hb hby d3_5) rfl ((if0 _ _).trans (feq (by decide : ¬ ((4 : Int32) = (0 : Int32)))).2) (by decide) (by decide) ?_
    exact kt)
  have hs3' := hs
  obtain ⟨cs, S_c, hcs⟩ := hs3'
  obtain ⟨T5, X5, e5, st5⟩ := getS2 X2 hx hZ hown (host := "") (Or.inl (hw _ (List.mem_of_getElem? (i := 30) rfl))) Via.refl e2 (Sta.ext Ol.2 S_c) (g := (mkF m 27 #[.val (.ref a), .val (.ref ca), .val (.int (0 : Int32)), .val (.int (4 : Int32)), .val .null, .unset] [])) rfl (hb hby d3_27)
  have pre5s : ∀ tg, Steps p.tables e below (T5.setTop (mkF m 30 #[.val (.ref a), .val (.ref ca), .val (.int (0 : Int32)), .val (.int (4 : Int32)), .val .null, .unset] [(.int cs)])) tg → G tg := fun tg kt => pre4 tg (st5 tg kt)
  have pre6 : ∀ tg, Steps p.tables e below (T5.setTop (mkF m 36 #[.val (.ref a), .val (.ref ca), .val (.int (0 : Int32)), .val (.int (4 : Int32)), .val .null, .unset] [(.int (4 : Int32)), (.int (0 : Int32)), (.ref ca)])) tg → G tg := fun tg kt => pre5s tg (by
    show Steps p.tables e below (T5.setTop (mkF m 30 #[.val (.ref a), .val (.ref ca), .val (.int (0 : Int32)), .val (.int (4 : Int32)), .val .null, .unset] [(.int cs)])) _
    refine XS.ifNo X5.here hx rfl (hb hby d3_30) rfl ((if0 _ _).trans (feq hcs).1) ?_
    show Steps p.tables e below (T5.setTop (mkF m 33 #[.val (.ref a), .val (.ref ca), .val (.int (0 : Int32)), .val (.int (4 : Int32)), .val .null, .unset] [])) _
    refine XS.aloadN X5.here hx rfl (hb hby d3_33) rfl rfl ?_
    show Steps p.tables e below (T5.setTop (mkF m 34 #[.val (.ref a), .val (.ref ca), .val (.int (0 : Int32)), .val (.int (4 : Int32)), .val .null, .unset] [(.ref ca)])) _
    refine XS.iloadN X5.here hx rfl (hb hby d3_34) rfl ?_
    show Steps p.tables e below (T5.setTop (mkF m 35 #[.val (.ref a), .val (.ref ca), .val (.int (0 : Int32)), .val (.int (4 : Int32)), .val .null, .unset] [(.int (0 : Int32)), (.ref ca)])) _
    refine XS.iloadN X5.here hx rfl (hb hby d3_35) rfl ?_
    exact kt)
  obtain ⟨_, _, ⟨T7, L7, k7, n7⟩, -, X7, ⟨Lc7, hQ7, l7, y7, z7⟩, st7⟩ := Jvm.LawKit.callS X5 hx (y := (⟨"java/lang/StringUTF16", "compress", "([CII)[B"⟩ : MethodName)) hown (mvT hZ (hw _ (List.mem_of_getElem? (i := 31) rfl))) (mvT hZ (hw _ (List.mem_of_getElem? (i := 32) rfl))) (mvT hZ (hw _ (List.mem_of_getElem? (i := 33) rfl))) (mvT hZ (hw _ (List.mem_of_getElem? (i := 34) rfl))) (by decide) (backOf (W := 0) (rmD_4 l Z a0 hw [] ca kc y0 y1 y2 y3 h0 n0 Z0 V_c hy0 hy1 hy2 hy3) hZ (hw _ (List.mem_of_getElem? (i := 34) rfl)) (hw _ (List.mem_of_getElem? (i := 33) rfl)) (by decide) (by decide)) (g := (mkF m 36 #[.val (.ref a), .val (.ref ca), .val (.int (0 : Int32)), .val (.int (4 : Int32)), .val .null, .unset] [(.int (4 : Int32)), (.int (0 : Int32)), (.ref ca)])) rfl (by rw [hml]; rfl) (argsL := [(.ref ca), (.int (0 : Int32)), (.int (4 : Int32))]) (rest := []) (lenOf pd_1 rfl) rfl (by show 2 * 0 + _ ≤ _; exact Nat.le_of_eq rfl) (hb hby d3_36) (fun _ _ => ⟨rfl, e5, (Nat.le_of_ble_eq_true rfl), (Nat.le_of_ble_eq_true rfl)⟩)
  dsimp only [Pt.U, Pt.locs, Pt.cells, Pt.slots] at X7 l7 y7 z7 st7 hQ7
  subst l7 y7 z7
  obtain ⟨va, kv, rfl, N7q, K7, Sz, V_v⟩ := hQ7
  have N7 := Fr.app N0 N7q
  have pre7s : ∀ tg, Steps p.tables e below (T7.setTop (mkF m 39 #[.val (.ref a), .val (.ref ca), .val (.int (0 : Int32)), .val (.int (4 : Int32)), .val .null, .unset] [(.ref va)])) tg → G tg := fun tg kt => pre6 tg (st7 tg kt)
  have Z7 : n0 ≤ T7.heap.size := Nat.le_trans Z0 K7.1
  have E_a_8 := E_a.keep K7
  have F_c_9 := F_c.keep K7 nin0
  have F_v_10 := F_v.keep K7 nin0
  have V_c_11 := V_c.keep K7 nin0
  have Ol12 := Ol.keep K7 all0
  have KK7 : Keep h0 T7.heap [a] := (Keep.refl h0 [a]).trans K7 all0
  have ne_v_a : va ≠ a := Ne.symm (Nat.ne_of_lt (Nat.lt_of_lt_of_le E_a.lt Sz))
  have pre13 : ∀ tg, Steps p.tables e below (T7.setTop (mkF m 45 #[.val (.ref a), .val (.ref ca), .val (.int (0 : Int32)), .val (.int (4 : Int32)), .val .null, .val (.ref va)] [(.int (4 : Int32)), (.ref va), (.ref a)])) tg → G tg := fun tg kt => pre7s tg (by
    show Steps p.tables e below (T7.setTop (mkF m 39 #[.val (.ref a), .val (.ref ca), .val (.int (0 : Int32)), .val (.int (4 : Int32)), .val .null, .unset] [(.ref va)])) _
    refine XS.astore X7.here hx rfl (hb hby d3_39) rfl rfl (l' := #[.val (.ref a), .val (.ref ca), .val (.int (0 : Int32)), .val (.int (4 : Int32)), .val .null, .val (.ref va)]) rfl ?_
    show Steps p.tables e below (T7.setTop (mkF m 41 #[.val (.ref a), .val (.ref ca), .val (.int (0 : Int32)), .val (.int (4 : Int32)), .val .null, .val (.ref va)] [])) _
    refine XS.aloadN X7.here hx rfl (hb hby d3_41) rfl rfl ?_
    show Steps p.tables e below (T7.setTop (mkF m 42 #[.val (.ref a), .val (.ref ca), .val (.int (0 : Int32)), .val (.int (4 : Int32)), .val .null, .val (.ref va)] [(.ref a)])) _
    refine XS.aload X7.here hx rfl (hb hby d3_42) rfl rfl ?_
    show Steps p.tables e below (T7.setTop (mkF m 44 #[.val (.ref a), .val (.ref ca), .val (.int (0 : Int32)), .val (.int (4 : Int32)), .val .null, .val (.ref va)] [(.ref va), (.ref a)])) _
    refine XS.iloadN X7.here hx rfl (hb hby d3_44) rfl ?_
    exact kt)
  obtain ⟨_, _, ⟨T14, L14, k14, n14⟩, -, X14, ⟨Lc14, hQ14, l14, y14, z14⟩, st14⟩ := Jvm.LawKit.callS X7 hx (y := (⟨"java/lang/StringUTF16", "coderFromArrayLen", "([BI)B"⟩ : MethodName)) hown (mvT hZ (hw _ (List.mem_of_getElem? (i := 38) rfl))) (mvT hZ (hw _ (List.mem_of_getElem? (i := 39) rfl))) (mvT hZ (hw _ (List.mem_of_getElem? (i := 33) rfl))) (mvT hZ (hw _ (List.mem_of_getElem? (i := 40) rfl))) (by decide) (backOf (W := 1) (rmE_4 l Z a0 hw [] va kv (y0.toInt8.toInt32.toInt8.toInt32) (y1.toInt8.toInt32.toInt8.toInt32) (y2.toInt8.toInt32.toInt8.toInt32) (y3.toInt8.toInt32.toInt8.toInt32) T7.heap n0 Z7 V_v) hZ (hw _ (List.mem_of_getElem? (i := 40) rfl)) (hw _ (List.mem_of_getElem? (i := 33) rfl)) (by decide) (by decide)) (g := (mkF m 45 #[.val (.ref a), .val (.ref ca), .val (.int (0 : Int32)), .val (.int (4 : Int32)), .val .null, .val (.ref va)] [(.int (4 : Int32)), (.ref va), (.ref a)])) rfl (by rw [hml]; rfl) (argsL := [(.ref va), (.int (4 : Int32))]) (rest := [(.ref a)]) (lenOf pd_2 rfl) rfl (by show 2 * 0 + _ ≤ _; exact Nat.le_of_eq rfl) (hb hby d3_45) (fun _ _ => ⟨rfl, rfl, (Nat.le_of_ble_eq_true rfl), (Nat.le_of_ble_eq_true rfl)⟩)
  dsimp only [Pt.U, Pt.locs, Pt.cells, Pt.slots] at X14 l14 y14 z14 st14 hQ14
  subst l14 y14 z14
  obtain ⟨rfl, N14q, e14⟩ := hQ14
  have N14 := Fr.app N7 N14q
  have pre14s : ∀ tg, Steps p.tables e below (T14.setTop (mkF m 48 #[.val (.ref a), .val (.ref ca), .val (.int (0 : Int32)), .val (.int (4 : Int32)), .val .null, .val (.ref va)] [(.int (0 : Int32)), (.ref a)])) tg → G tg := fun tg kt => pre13 tg (st14 tg kt)
  obtain ⟨T15, h15, X15, e15, W15, st15⟩ := putFN X14 hx hZ hown (hw _ (List.mem_of_getElem? (i := 26) rfl)) Via.refl e14 F_c_9 E_a_8 (Or.inr ⟨(hw _ (List.mem_of_getElem? (i := 22) rfl)), rfl, hnm⟩) (hw _ (List.mem_of_getElem? (i := 6) rfl)) (ty := .byte) (v' := (.int (0 : Int32))) (by decide) rfl rfl (g := (mkF m 48 #[.val (.ref a), .val (.ref ca), .val (.int (0 : Int32)), .val (.int (4 : Int32)), .val .null, .val (.ref va)] [(.int (0 : Int32)), (.ref a)])) rfl rfl (hb hby d3_48)
  have pre15s : ∀ tg, Steps p.tables e below (T15.setTop (mkF m 51 #[.val (.ref a), .val (.ref ca), .val (.int (0 : Int32)), .val (.int (4 : Int32)), .val .null, .val (.ref va)] [])) tg → G tg := fun tg kt => pre14s tg (st15 tg kt)
  have E_a_16 := E_a_8.wr W15
  have F_c_17 := F_c_9.same W15
  have F_v_18 := F_v_10.other W15 (Or.inr (slot_ne (Or.inr (hw _ (List.mem_of_getElem? (i := 21) rfl))) (Or.inr (hw _ (List.mem_of_getElem? (i := 22) rfl))) (by decide) (t := (.array .byte)) (t' := .byte) (by decide) (by decide)))
  have V_c_19 := V_c_11.other W15 ne_a_c
  have V_v_20 := V_v.other W15 ne_v_a
  have Ol21 := Ol12.wr W15 O_a
  have N15 := Fr.snoc X15 N14 O_a
  have Z15 : n0 ≤ h15.size := Nat.le_trans Z7 (Keep.of_wr W15).1
  have K15 : Keep h0 h15 [a] := KK7.wr W15 (Or.inl (List.mem_of_getElem? (i := 0) rfl))
  have pre22 : ∀ tg, Steps p.tables e below (T15.setTop (mkF m 54 #[.val (.ref a), .val (.ref ca), .val (.int (0 : Int32)), .val (.int (4 : Int32)), .val .null, .val (.ref va)] [(.ref va), (.ref a)])) tg → G tg := fun tg kt => pre15s tg (by
    show Steps p.tables e below (T15.setTop (mkF m 51 #[.val (.ref a), .val (.ref ca), .val (.int (0 : Int32)), .val (.int (4 : Int32)), .val .null, .val (.ref va)] [])) _
    refine XS.aloadN X15.here hx rfl (hb hby d3_51) rfl rfl ?_
    show Steps p.tables e below (T15.setTop (mkF m 52 #[.val (.ref a), .val (.ref ca), .val (.int (0 : Int32)), .val (.int (4 : Int32)), .val .null, .val (.ref va)] [(.ref a)])) _
    refine XS.aload X15.here hx rfl (hb hby d3_52) rfl rfl ?_
    exact kt)
  obtain ⟨T23, h23, X23, e23, W23, st23⟩ := putF X15 hx hZ hown (host := "") (Or.inl (hw _ (List.mem_of_getElem? (i := 25) rfl))) Via.refl e15 F_v_18 E_a_16 (Or.inr ⟨(hw _ (List.mem_of_getElem? (i := 21) rfl)), rfl, hnm⟩) (hw _ (List.mem_of_getElem? (i := 6) rfl)) (ty := (.array .byte)) (by decide) rfl rfl (g := (mkF m 54 #[.val (.ref a), .val (.ref ca), .val (.int (0 : Int32)), .val (.int (4 : Int32)), .val .null, .val (.ref va)] [(.ref va), (.ref a)])) rfl rfl (hb hby d3_54)
  have pre23s : ∀ tg, Steps p.tables e below (T23.setTop (mkF m 57 #[.val (.ref a), .val (.ref ca), .val (.int (0 : Int32)), .val (.int (4 : Int32)), .val .null, .val (.ref va)] [])) tg → G tg := fun tg kt => pre22 tg (st23 tg kt)
  have E_a_24 := E_a_16.wr W23
  have F_c_25 := F_c_17.other W23 (Or.inr (slot_ne (Or.inr (hw _ (List.mem_of_getElem? (i := 22) rfl))) (Or.inr (hw _ (List.mem_of_getElem? (i := 21) rfl))) (by decide) (t := .byte) (t' := (.array .byte)) (by decide) (by decide)))
  have F_v_26 := F_v_18.same W23
  have V_c_27 := V_c_19.other W23 ne_a_c
  have V_v_28 := V_v_20.other W23 ne_v_a
  have Ol29 := Ol21.wr W23 O_a
  have N23 := Fr.snoc X23 N15 O_a
  have Z23 : n0 ≤ h23.size := Nat.le_trans Z15 (Keep.of_wr W23).1
  have K23 : Keep h0 h23 [a] := K15.wr W23 (Or.inl (List.mem_of_getElem? (i := 0) rfl))
  obtain ⟨fs, hr, hrun, hended, hW, hsame⟩ := X23.leave (v := none) (fun _ => rfl)
  subst hG
  refine ⟨_, _, pre23s _ ?_, hrun, hended, _, _, rfl, ?_, ⟨_, rfl⟩, hW, hsame.mono (by decide) (by decide)⟩
  · skip
    show Steps p.tables e below (T23.setTop (mkF m 57 #[.val (.ref a), .val (.ref ca), .val (.int (0 : Int32)), .val (.int (4 : Int32)), .val .null, .val (.ref va)] [])) _
    exact X23.returnOut hx Bd.returns (hb hby d3_57) hr
  · show Q_rmI_4 Z a ca kc y0 y1 y2 y3 h0 n0 _ T23.heap _
    rw [e23]
    exact ⟨rfl, N23, K23, va, kv, _, F_c_25, F_v_26, V_v_28⟩
def Q_rmJ_4 (Z : State) (a ca : Addr) (kc : ClassId) (y0 y1 y2 y3 : Int32) (h0 : Heap) (n0 : Nat) (v : Option Value) (h : Heap) (L : List Loc) : Prop := v = none ∧ Fr n0 L ∧ Keep h0 h [a] ∧ own_s Z h a (4 : Int32)
set_option maxRecDepth 65536 in
set_option maxHeartbeats 40000000 in
theorem rmJ_4 (l : Launch) (Z : State) (a0 : Array Value) (hw : ∀ d ∈ tables_1, d.before a0 Z = true) (ws : List Jvm.Cond) (a ca : Addr) (kc : ClassId) (y0 y1 y2 y3 : Int32) (h0 : Heap) (n0 : Nat) (Z0 : n0 ≤ h0.size) (hs : own_st Z) (Ol : Old Z n0 h0) (E_a : Exa Z h0 a "java/lang/String") (F_c : Fld Z h0 a "java/lang/String" "coder" "B" (.int (0 : Int32))) (F_v : Fld Z h0 a "java/lang/String" "value" "[B" .null) (O_a : n0 ≤ a) (ne_a_c : ca ≠ a) (V_c : Arv Z h0 ca kc .char (4 : Int32) [(.int y0), (.int y1), (.int y2), (.int y3)] (.int (0 : Int32))) (hy0 : own_y y0) (hy1 : own_y y1) (hy2 : own_y y2) (hy3 : own_y y3) :
    MetFree l (⟨"java/lang/String", "<init>", "([C)V"⟩ : MethodName) (head1 (Jvm.Cond.code (⟨"java/lang/String", "<init>", "([C)V"⟩ : MethodName) jdk_42_method_3_code 2 none :: ws) ({ frames := 3, cells := 1, slots := 4, locals := 72 } : Room)) (fun argv U => argv = #[(.ref a), (.ref ca)] ∧ Z.Warmed39 U.vm ∧ U.heap = h0) (fun _ _ _ _ _ => True) (fun _ U o U' => ∃ v L, o = .returned v ∧ Q_rmJ_4 Z a ca kc y0 y1 y2 y3 h0 n0 v U'.heap L ∧ FrameEnd U o U' L ({ frames := 3, cells := 1, slots := 4, locals := 72 } : Room).cells ({ frames := 3, cells := 1, slots := 4, locals := 72 } : Room).slots) := by
  refine MetFree.of_bodySF (plainFor_of_name pn_2) hisR ?_
  intro p e s m args below meth c s₁ Bd hml0 hP hK
  obtain ⟨rfl, hZ, hh⟩ := hP
  have hx := Bd.exec
  have hby := Bd.bytes
  have hml : c.maxLocals = 2 := hml0
  have hown : s.vm.findClass "java/lang/String" = some m.cls := findClass_of_methodNamed Bd.named
  have hnm := (name_of_methodNamed Bd.named Bd.method).1
  have X0 : Stand p l e ({ frames := 3, cells := 1, slots := 4, locals := 72 } : Room) s m #[(.ref a), (.ref ca)] below meth c s₁ [] 0 0 := Stand.of_body Bd
  have e0 : s₁.heap = h0 := by rw [← hh, Bd.state]; rfl
  have N0 := Fr.nil n0
  obtain ⟨G, hG⟩ : ∃ G : State → Prop, G = fun tg => Steps p.tables e below (s₁.setTop (entryFrame m #[(.ref a), (.ref ca)] 2)) tg := ⟨_, rfl⟩
  have pre0 : ∀ tg, Steps p.tables e below (s₁.setTop (mkF m 0 #[.val (.ref a), .val (.ref ca)] [])) tg → G tg := fun tg kt => by rw [hG]; exact castTop (ef_2_R_R m a ca) kt
  have pre1 : ∀ tg, Steps p.tables e below (s₁.setTop (mkF m 4 #[.val (.ref a), .val (.ref ca)] [(.ref ca), (.int (0 : Int32)), (.ref ca), (.ref a)])) tg → G tg := fun tg kt => pre0 tg (by
    show Steps p.tables e below (s₁.setTop (mkF m 0 #[.val (.ref a), .val (.ref ca)] [])) _
    refine XS.aloadN X0.here hx rfl (hb hby d2_0) rfl rfl ?_
    show Steps p.tables e below (s₁.setTop (mkF m 1 #[.val (.ref a), .val (.ref ca)] [(.ref a)])) _
    refine XS.aloadN X0.here hx rfl (hb hby d2_1) rfl rfl ?_
    show Steps p.tables e below (s₁.setTop (mkF m 2 #[.val (.ref a), .val (.ref ca)] [(.ref ca), (.ref a)])) _
    refine XS.iconst X0.here hx rfl (hb hby d2_2) ?_
    show Steps p.tables e below (s₁.setTop (mkF m 3 #[.val (.ref a), .val (.ref ca)] [(.int (0 : Int32)), (.ref ca), (.ref a)])) _
    refine XS.aloadN X0.here hx rfl (hb hby d2_3) rfl rfl ?_
    exact kt)
  have op_2 := V_c
  obtain ⟨cl_2, Ar_2, q_2, S_2, Ng_2, H_2, G_2⟩ := op_2
  have pre3 : ∀ tg, Steps p.tables e below (s₁.setTop (mkF m 6 #[.val (.ref a), .val (.ref ca)] [.null, (.int (4 : Int32)), (.int (0 : Int32)), (.ref ca), (.ref a)])) tg → G tg := fun tg kt => pre1 tg (by
    show Steps p.tables e below (s₁.setTop (mkF m 4 #[.val (.ref a), .val (.ref ca)] [(.ref ca), (.int (0 : Int32)), (.ref ca), (.ref a)])) _
    refine X0.arraylength hx (by rw [e0]; exact Ar_2.1) (State.isArrayOf_alike hZ.alike Ar_2.2.1) (g := (mkF m 4 #[.val (.ref a), .val (.ref ca)] [(.ref ca), (.int (0 : Int32)), (.ref ca), (.ref a)])) rfl rfl (hb hby d2_4) _ ?_
    rw [len_of S_2 Ng_2]
    show Steps p.tables e below (s₁.setTop (mkF m 5 #[.val (.ref a), .val (.ref ca)] [(.int (4 : Int32)), (.int (0 : Int32)), (.ref ca), (.ref a)])) _
    refine XS.aconstNull X0.here hx rfl (hb hby d2_5) ?_
    exact kt)
  obtain ⟨_, _, ⟨T4, L4, k4, n4⟩, -, X4, ⟨Lc4, hQ4, l4, y4, z4⟩, st4⟩ := X0.specialBack hx (y := (⟨"java/lang/String", "<init>", "([CIILjava/lang/Void;)V"⟩ : MethodName)) rfl hown (mvT hZ (hw _ (List.mem_of_getElem? (i := 12) rfl))) (mvT hZ (hw _ (List.mem_of_getElem? (i := 13) rfl))) (mvT hZ (hw _ (List.mem_of_getElem? (i := 15) rfl))) (by decide) (backOf (W := 0) (rmI_4 l Z a0 hw [] a ca kc y0 y1 y2 y3 h0 n0 Z0 hs Ol E_a F_c F_v O_a ne_a_c V_c hy0 hy1 hy2 hy3) hZ (hw _ (List.mem_of_getElem? (i := 15) rfl)) (hw _ (List.mem_of_getElem? (i := 7) rfl)) (by decide) (by decide)) (g := (mkF m 6 #[.val (.ref a), .val (.ref ca)] [.null, (.int (4 : Int32)), (.int (0 : Int32)), (.ref ca), (.ref a)])) rfl (by rw [hml]; rfl) (Steps.refl _) (a := a) (argsL := [(.ref ca), (.int (0 : Int32)), (.int (4 : Int32)), .null]) (rest := []) (lenOf pd_3 rfl) rfl (by show 2 * 0 + _ ≤ _; exact Nat.le_of_eq rfl) (hb hby d2_6) (fun _ _ => ⟨rfl, e0, (Nat.le_of_ble_eq_true rfl), (Nat.le_of_ble_eq_true rfl)⟩)
  dsimp only [Pt.U, Pt.locs, Pt.cells, Pt.slots] at X4 l4 y4 z4 st4 hQ4
  subst l4 y4 z4
  obtain ⟨rfl, N4q, K4, Tx⟩ := hQ4
  have N4 := Fr.app N0 N4q
  have pre4s : ∀ tg, Steps p.tables e below (T4.setTop (mkF m 9 #[.val (.ref a), .val (.ref ca)] [])) tg → G tg := fun tg kt => pre3 tg (st4.trans kt)
  have Z4 : n0 ≤ T4.heap.size := Nat.le_trans Z0 K4.1
  have E_a_5 := E_a.keep K4
  have V_c_6 := V_c.keep K4 (ninS ne_a_c nin0)
  have Ol7 := Ol.keep K4 (allS O_a all0)
  have KK4 : Keep h0 T4.heap [a] := (Keep.refl h0 [a]).trans K4 (allS (Or.inl (List.mem_of_getElem? (i := 0) rfl)) all0)
  obtain ⟨fs, hr, hrun, hended, hW, hsame⟩ := X4.leave (v := none) (fun _ => rfl)
  subst hG
  refine ⟨_, _, pre4s _ ?_, hrun, hended, _, _, rfl, ?_, ⟨_, rfl⟩, hW, hsame.mono (by decide) (by decide)⟩
  · skip
    show Steps p.tables e below (T4.setTop (mkF m 9 #[.val (.ref a), .val (.ref ca)] [])) _
    exact X4.returnOut hx Bd.returns (hb hby d2_9) hr
  · show Q_rmJ_4 Z a ca kc y0 y1 y2 y3 h0 n0 _ T4.heap _
    exact ⟨rfl, N4, KK4, Tx⟩
def Q_rmC_5 (Z : State) (ca va : Addr) (kc kv : ClassId) (y0 y1 y2 y3 y4 : Int32) (h0 : Heap) (n0 : Nat) (v : Option Value) (h : Heap) (L : List Loc) : Prop := v = some (.int (5 : Int32)) ∧ Fr n0 L ∧ Keep h0 h [va] ∧ Arv Z h va kv .byte (5 : Int32) [(.int (y0.toInt8.toInt32.toInt8.toInt32)), (.int (y1.toInt8.toInt32.toInt8.toInt32)), (.int (y2.toInt8.toInt32.toInt8.toInt32)), (.int (y3.toInt8.toInt32.toInt8.toInt32)), (.int (y4.toInt8.toInt32.toInt8.toInt32))] (.int (0 : Int32))
set_option maxRecDepth 65536 in
set_option maxHeartbeats 40000000 in
theorem rmC_5 (l : Launch) (Z : State) (a0 : Array Value) (hw : ∀ d ∈ tables_1, d.before a0 Z = true) (ws : List Jvm.Cond) (ca va : Addr) (kc kv : ClassId) (y0 y1 y2 y3 y4 : Int32) (h0 : Heap) (n0 : Nat) (Z0 : n0 ≤ h0.size) (V_c : Arv Z h0 ca kc .char (5 : Int32) [(.int y0), (.int y1), (.int y2), (.int y3), (.int y4)] (.int (0 : Int32))) (V_v : Arv Z h0 va kv .byte (5 : Int32) [(.int (0 : Int32)), (.int (0 : Int32)), (.int (0 : Int32)), (.int (0 : Int32)), (.int (0 : Int32))] (.int (0 : Int32))) (O_va : n0 ≤ va) (ne_c_v : ca ≠ va) (hy0 : own_y y0) (hy1 : own_y y1) (hy2 : own_y y2) (hy3 : own_y y3) (hy4 : own_y y4) :
    MetFree l (⟨"java/lang/StringUTF16", "compress", "([CI[BII)I"⟩ : MethodName) (head1 (Jvm.Cond.code (⟨"java/lang/StringUTF16", "compress", "([CI[BII)I"⟩ : MethodName) jdk_52_method_21_code 7 (some .int) :: ws) ({ frames := 0, cells := 0, slots := 0, locals := 0 } : Room)) (fun argv U => argv = #[(.ref ca), (.int (0 : Int32)), (.ref va), (.int (0 : Int32)), (.int (5 : Int32))] ∧ Z.Warmed39 U.vm ∧ U.heap = h0) (fun _ _ _ _ _ => True) (fun _ U o U' => ∃ v L, o = .returned v ∧ Q_rmC_5 Z ca va kc kv y0 y1 y2 y3 y4 h0 n0 v U'.heap L ∧ FrameEnd U o U' L ({ frames := 0, cells := 0, slots := 0, locals := 0 } : Room).cells ({ frames := 0, cells := 0, slots := 0, locals := 0 } : Room).slots) := by
  refine MetFree.of_bodySF (plainFor_of_name pn_7) hisR ?_
  intro p e s m args below meth c s₁ Bd hml0 hP hK
  obtain ⟨rfl, hZ, hh⟩ := hP
  have hx := Bd.exec
  have hby := Bd.bytes
  have hml : c.maxLocals = 7 := hml0
  have hown : s.vm.findClass "java/lang/StringUTF16" = some m.cls := findClass_of_methodNamed Bd.named
  have hnm := (name_of_methodNamed Bd.named Bd.method).1
  have X0 : Stand p l e ({ frames := 0, cells := 0, slots := 0, locals := 0 } : Room) s m #[(.ref ca), (.int (0 : Int32)), (.ref va), (.int (0 : Int32)), (.int (5 : Int32))] below meth c s₁ [] 0 0 := Stand.of_body Bd
  have e0 : s₁.heap = h0 := by rw [← hh, Bd.state]; rfl
  have N0 := Fr.nil n0
  obtain ⟨G, hG⟩ : ∃ G : State → Prop, G = fun tg => Steps p.tables e below (s₁.setTop (entryFrame m #[(.ref ca), (.int (0 : Int32)), (.ref va), (.int (0 : Int32)), (.int (5 : Int32))] 7)) tg := ⟨_, rfl⟩
  have pre0 : ∀ tg, Steps p.tables e below (s₁.setTop (mkF m 0 #[.val (.ref ca), .val (.int (0 : Int32)), .val (.ref va), .val (.int (0 : Int32)), .val (.int (5 : Int32)), .unset, .unset] [])) tg → G tg := fun tg kt => by rw [hG]; exact castTop (ef_7_R_I_R_I_I m ca (0 : Int32) va (0 : Int32) (5 : Int32)) kt
  have pre1 : ∀ tg, Steps p.tables e below (s₁.setTop (mkF m 12 #[.val (.ref ca), .val (.int (0 : Int32)), .val (.ref va), .val (.int (0 : Int32)), .val (.int (5 : Int32)), .val (.int (0 : Int32)), .unset] [(.int (0 : Int32)), (.ref ca)])) tg → G tg := fun tg kt => pre0 tg (by
    show Steps p.tables e below (s₁.setTop (mkF m 0 #[.val (.ref ca), .val (.int (0 : Int32)), .val (.ref va), .val (.int (0 : Int32)), .val (.int (5 : Int32)), .unset, .unset] [])) _
    refine XS.iconst X0.here hx rfl (hb hby d7_0) ?_
    show Steps p.tables e below (s₁.setTop (mkF m 1 #[.val (.ref ca), .val (.int (0 : Int32)), .val (.ref va), .val (.int (0 : Int32)), .val (.int (5 : Int32)), .unset, .unset] [(.int (0 : Int32))])) _
    refine XS.istore X0.here hx rfl (hb hby d7_1) rfl (l' := #[.val (.ref ca), .val (.int (0 : Int32)), .val (.ref va), .val (.int (0 : Int32)), .val (.int (5 : Int32)), .val (.int (0 : Int32)), .unset]) rfl ?_
    show Steps p.tables e below (s₁.setTop (mkF m 3 #[.val (.ref ca), .val (.int (0 : Int32)), .val (.ref va), .val (.int (0 : Int32)), .val (.int (5 : Int32)), .val (.int (0 : Int32)), .unset] [])) _
    refine XS.iload X0.here hx rfl (hb hby d7_3) rfl ?_
    show Steps p.tables e below (s₁.setTop (mkF m 5 #[.val (.ref ca), .val (.int (0 : Int32)), .val (.ref va), .val (.int (0 : Int32)), .val (.int (5 : Int32)), .val (.int (0 : Int32)), .unset] [(.int (0 : Int32))])) _
    refine XS.iload X0.here hx rfl (hb hby d7_5) rfl ?_
    show Steps p.tables e below (s₁.setTop (mkF m 7 #[.val (.ref ca), .val (.int (0 : Int32)), .val (.ref va), .val (.int (0 : Int32)), .val (.int (5 : Int32)), .val (.int (0 : Int32)), .unset] [(.int (5 : Int32)), (.int (0 : Int32))])) _
    refine XS.icmpNo X0.here hx rfl (hb hby d7_7) rfl (tlt (by decide : (0 : Int32) < (5 : Int32))).2.1 ?_
    show Steps p.tables e below (s₁.setTop (mkF m 10 #[.val (.ref ca), .val (.int (0 : Int32)), .val (.ref va), .val (.int (0 : Int32)), .val (.int (5 : Int32)), .val (.int (0 : Int32)), .unset] [])) _
    refine XS.aloadN X0.here hx rfl (hb hby d7_10) rfl rfl ?_
    show Steps p.tables e below (s₁.setTop (mkF m 11 #[.val (.ref ca), .val (.int (0 : Int32)), .val (.ref va), .val (.int (0 : Int32)), .val (.int (5 : Int32)), .val (.int (0 : Int32)), .unset] [(.ref ca)])) _
    refine XS.iloadN X0.here hx rfl (hb hby d7_11) rfl ?_
    exact kt)
  have op_2 := V_c
  obtain ⟨cl_2, Ar_2, q_2, S_2, Ng_2, H_2, G_2⟩ := op_2
  have hin_2 : ¬ ((0 : Int32) < 0 ∨ cl_2.slots.size ≤ ((0 : Int32)).toNatClampNeg) := inb_of S_2 ⟨by decide, by decide⟩
  have pre3 : ∀ tg, Steps p.tables e below (s₁.setTop (mkF m 31 #[.val (.ref ca), .val (.int (0 : Int32)), .val (.ref va), .val (.int (0 : Int32)), .val (.int (5 : Int32)), .val (.int (0 : Int32)), .val (.int y0)] [(.int (y0.toInt8.toInt32)), (.int (0 : Int32)), (.ref va)])) tg → G tg := fun tg kt => pre1 tg (by
    show Steps p.tables e below (s₁.setTop (mkF m 12 #[.val (.ref ca), .val (.int (0 : Int32)), .val (.ref va), .val (.int (0 : Int32)), .val (.int (5 : Int32)), .val (.int (0 : Int32)), .unset] [(.int (0 : Int32)), (.ref ca)])) _
    refine X0.caload hx (j := (0 : Int32)) (v := (.int y0)) (by rw [e0]; exact Ar_2.1) (State.isArrayOf_alike hZ.alike Ar_2.2.1) Ar_2.2.2 hin_2 (H_2.at hin_2 rfl) (g := (mkF m 12 #[.val (.ref ca), .val (.int (0 : Int32)), .val (.ref va), .val (.int (0 : Int32)), .val (.int (5 : Int32)), .val (.int (0 : Int32)), .unset] [(.int (0 : Int32)), (.ref ca)])) rfl rfl (hb hby d7_12) _ ?_
    show Steps p.tables e below (s₁.setTop (mkF m 13 #[.val (.ref ca), .val (.int (0 : Int32)), .val (.ref va), .val (.int (0 : Int32)), .val (.int (5 : Int32)), .val (.int (0 : Int32)), .unset] [(.int y0)])) _
    refine XS.istore X0.here hx rfl (hb hby d7_13) rfl (l' := #[.val (.ref ca), .val (.int (0 : Int32)), .val (.ref va), .val (.int (0 : Int32)), .val (.int (5 : Int32)), .val (.int (0 : Int32)), .val (.int y0)]) rfl ?_
    show Steps p.tables e below (s₁.setTop (mkF m 15 #[.val (.ref ca), .val (.int (0 : Int32)), .val (.ref va), .val (.int (0 : Int32)), .val (.int (5 : Int32)), .val (.int (0 : Int32)), .val (.int y0)] [])) _
    refine XS.iload X0.here hx rfl (hb hby d7_15) rfl ?_
    show Steps p.tables e below (s₁.setTop (mkF m 17 #[.val (.ref ca), .val (.int (0 : Int32)), .val (.ref va), .val (.int (0 : Int32)), .val (.int (5 : Int32)), .val (.int (0 : Int32)), .val (.int y0)] [(.int y0)])) _
    refine XS.sipush X0.here hx rfl (hb hby d7_17) ?_
    show Steps p.tables e below (s₁.setTop (mkF m 20 #[.val (.ref ca), .val (.int (0 : Int32)), .val (.ref va), .val (.int (0 : Int32)), .val (.int (5 : Int32)), .val (.int (0 : Int32)), .val (.int y0)] [(.int (255 : Int32)), (.int y0)])) _
    refine XS.icmpYes X0.here hx rfl (pc0 := 20) (pc' := 26) rfl (hb hby d7_20) rfl (flt (own_gt hy0)).2.2.2 (by decide) (by decide) ?_
    show Steps p.tables e below (s₁.setTop (mkF m 26 #[.val (.ref ca), .val (.int (0 : Int32)), .val (.ref va), .val (.int (0 : Int32)), .val (.int (5 : Int32)), .val (.int (0 : Int32)), .val (.int y0)] [])) _
    refine XS.aloadN X0.here hx rfl (hb hby d7_26) rfl rfl ?_
    show Steps p.tables e below (s₁.setTop (mkF m 27 #[.val (.ref ca), .val (.int (0 : Int32)), .val (.ref va), .val (.int (0 : Int32)), .val (.int (5 : Int32)), .val (.int (0 : Int32)), .val (.int y0)] [(.ref va)])) _
    refine XS.iloadN X0.here hx rfl (hb hby d7_27) rfl ?_
    show Steps p.tables e below (s₁.setTop (mkF m 28 #[.val (.ref ca), .val (.int (0 : Int32)), .val (.ref va), .val (.int (0 : Int32)), .val (.int (5 : Int32)), .val (.int (0 : Int32)), .val (.int y0)] [(.int (0 : Int32)), (.ref va)])) _
    refine XS.iload X0.here hx rfl (hb hby d7_28) rfl ?_
    show Steps p.tables e below (s₁.setTop (mkF m 30 #[.val (.ref ca), .val (.int (0 : Int32)), .val (.ref va), .val (.int (0 : Int32)), .val (.int (5 : Int32)), .val (.int (0 : Int32)), .val (.int y0)] [(.int y0), (.int (0 : Int32)), (.ref va)])) _
    refine XS.i2b X0.here hx rfl (hb hby d7_30) rfl ?_
    exact kt)
  have op_4 := V_v
  obtain ⟨cl_4, Ar_4, q_4, S_4, Ng_4, H_4, G_4⟩ := op_4
  have hin_4 : ¬ ((0 : Int32) < 0 ∨ cl_4.slots.size ≤ ((0 : Int32)).toNatClampNeg) := inb_of S_4 ⟨by decide, by decide⟩
  obtain ⟨T4, h4, X4, e4, W4, st4⟩ := stB X0 hx hZ e0 Ar_4 (j := (0 : Int32)) hin_4 (g := (mkF m 31 #[.val (.ref ca), .val (.int (0 : Int32)), .val (.ref va), .val (.int (0 : Int32)), .val (.int (5 : Int32)), .val (.int (0 : Int32)), .val (.int y0)] [(.int (y0.toInt8.toInt32)), (.int (0 : Int32)), (.ref va)])) rfl rfl (hb hby d7_31)
  have pre4s : ∀ tg, Steps p.tables e below (T4.setTop (mkF m 32 #[.val (.ref ca), .val (.int (0 : Int32)), .val (.ref va), .val (.int (0 : Int32)), .val (.int (5 : Int32)), .val (.int (0 : Int32)), .val (.int y0)] [])) tg → G tg := fun tg kt => pre3 tg (st4 tg kt)
  have V_c_5 := V_c.other W4 ne_c_v
  have V4_va : Arv Z h4 va kv .byte (5 : Int32) [(.int (y0.toInt8.toInt32.toInt8.toInt32)), (.int (0 : Int32)), (.int (0 : Int32)), (.int (0 : Int32)), (.int (0 : Int32))] (.int (0 : Int32)) := Arv.set Ar_4 q_4 S_4 Ng_4 H_4 G_4 (fits_nar_byte _) W4 0 rfl (Nat.le_of_ble_eq_true rfl)
  have N4 := Fr.snoc X4 N0 O_va
  have Z4 : n0 ≤ h4.size := Nat.le_trans Z0 (Keep.of_wr W4).1
  have K4 : Keep h0 h4 [va] := (Keep.refl h0 [va]).wr W4 (Or.inl (List.mem_of_getElem? (i := 0) rfl))
  have pre6 : ∀ tg, Steps p.tables e below (T4.setTop (mkF m 12 #[.val (.ref ca), .val (.int (1 : Int32)), .val (.ref va), .val (.int (1 : Int32)), .val (.int (5 : Int32)), .val (.int (1 : Int32)), .val (.int y0)] [(.int (1 : Int32)), (.ref ca)])) tg → G tg := fun tg kt => pre4s tg (by
    show Steps p.tables e below (T4.setTop (mkF m 32 #[.val (.ref ca), .val (.int (0 : Int32)), .val (.ref va), .val (.int (0 : Int32)), .val (.int (5 : Int32)), .val (.int (0 : Int32)), .val (.int y0)] [])) _
    refine XS.iinc X4.here hx rfl (hb hby d7_32) rfl (l' := #[.val (.ref ca), .val (.int (1 : Int32)), .val (.ref va), .val (.int (0 : Int32)), .val (.int (5 : Int32)), .val (.int (0 : Int32)), .val (.int y0)]) rfl ?_
    show Steps p.tables e below (T4.setTop (mkF m 35 #[.val (.ref ca), .val (.int (1 : Int32)), .val (.ref va), .val (.int (0 : Int32)), .val (.int (5 : Int32)), .val (.int (0 : Int32)), .val (.int y0)] [])) _
    refine XS.iinc X4.here hx rfl (hb hby d7_35) rfl (l' := #[.val (.ref ca), .val (.int (1 : Int32)), .val (.ref va), .val (.int (1 : Int32)), .val (.int (5 : Int32)), .val (.int (0 : Int32)), .val (.int y0)]) rfl ?_
    show Steps p.tables e below (T4.setTop (mkF m 38 #[.val (.ref ca), .val (.int (1 : Int32)), .val (.ref va), .val (.int (1 : Int32)), .val (.int (5 : Int32)), .val (.int (0 : Int32)), .val (.int y0)] [])) _
    refine XS.iinc X4.here hx rfl (hb hby d7_38) rfl (l' := #[.val (.ref ca), .val (.int (1 : Int32)), .val (.ref va), .val (.int (1 : Int32)), .val (.int (5 : Int32)), .val (.int (1 : Int32)), .val (.int y0)]) rfl ?_
    show Steps p.tables e below (T4.setTop (mkF m 41 #[.val (.ref ca), .val (.int (1 : Int32)), .val (.ref va), .val (.int (1 : Int32)), .val (.int (5 : Int32)), .val (.int (1 : Int32)), .val (.int y0)] [])) _
    refine XS.goto X4.here hx rfl (pc0 := 41) (pc' := 3) rfl (hb hby d7_41) (by decide) (by decide) ?_
    show Steps p.tables e below (T4.setTop (mkF m 3 #[.val (.ref ca), .val (.int (1 : Int32)), .val (.ref va), .val (.int (1 : Int32)), .val (.int (5 : Int32)), .val (.int (1 : Int32)), .val (.int y0)] [])) _
    refine XS.iload X4.here hx rfl (hb hby d7_3) rfl ?_
    show Steps p.tables e below (T4.setTop (mkF m 5 #[.val (.ref ca), .val (.int (1 : Int32)), .val (.ref va), .val (.int (1 : Int32)), .val (.int (5 : Int32)), .val (.int (1 : Int32)), .val (.int y0)] [(.int (1 : Int32))])) _
    refine XS.iload X4.here hx rfl (hb hby d7_5) rfl ?_
    show Steps p.tables e below (T4.setTop (mkF m 7 #[.val (.ref ca), .val (.int (1 : Int32)), .val (.ref va), .val (.int (1 : Int32)), .val (.int (5 : Int32)), .val (.int (1 : Int32)), .val (.int y0)] [(.int (5 : Int32)), (.int (1 : Int32))])) _
    refine XS.icmpNo X4.here hx rfl (hb hby d7_7) rfl (tlt (by decide : (1 : Int32) < (5 : Int32))).2.1 ?_
    show Steps p.tables e below (T4.setTop (mkF m 10 #[.val (.ref ca), .val (.int (1 : Int32)), .val (.ref va), .val (.int (1 : Int32)), .val (.int (5 : Int32)), .val (.int (1 : Int32)), .val (.int y0)] [])) _
    refine XS.aloadN X4.here hx rfl (hb hby d7_10) rfl rfl ?_
    show Steps p.tables e below (T4.setTop (mkF m 11 #[.val (.ref ca), .val (.int (1 : Int32)), .val (.ref va), .val (.int (1 : Int32)), .val (.int (5 : Int32)), .val (.int (1 : Int32)), .val (.int y0)] [(.ref ca)])) _
    refine XS.iloadN X4.here hx rfl (hb hby d7_11) rfl ?_
    exact kt)
  have op_7 := V_c_5
  obtain ⟨cl_7, Ar_7, q_7, S_7, Ng_7, H_7, G_7⟩ := op_7
  have hin_7 : ¬ ((1 : Int32) < 0 ∨ cl_7.slots.size ≤ ((1 : Int32)).toNatClampNeg) := inb_of S_7 ⟨by decide, by decide⟩
  have pre8 : ∀ tg, Steps p.tables e below (T4.setTop (mkF m 31 #[.val (.ref ca), .val (.int (1 : Int32)), .val (.ref va), .val (.int (1 : Int32)), .val (.int (5 : Int32)), .val (.int (1 : Int32)), .val (.int y1)] [(.int (y1.toInt8.toInt32)), (.int (1 : Int32)), (.ref va)])) tg → G tg := fun tg kt => pre6 tg (by
    show Steps p.tables e below (T4.setTop (mkF m 12 #[.val (.ref ca), .val (.int (1 : Int32)), .val (.ref va), .val (.int (1 : Int32)), .val (.int (5 : Int32)), .val (.int (1 : Int32)), .val (.int y0)] [(.int (1 : Int32)), (.ref ca)])) _
    refine X4.caload hx (j := (1 : Int32)) (v := (.int y1)) (by rw [e4]; exact Ar_7.1) (State.isArrayOf_alike hZ.alike Ar_7.2.1) Ar_7.2.2 hin_7 (H_7.at hin_7 rfl) (g := (mkF m 12 #[.val (.ref ca), .val (.int (1 : Int32)), .val (.ref va), .val (.int (1 : Int32)), .val (.int (5 : Int32)), .val (.int (1 : Int32)), .val (.int y0)] [(.int (1 : Int32)), (.ref ca)])) rfl rfl (hb hby d7_12) _ ?_
    show Steps p.tables e below (T4.setTop (mkF m 13 #[.val (.ref ca), .val (.int (1 : Int32)), .val (.ref va), .val (.int (1 : Int32)), .val (.int (5 : Int32)), .val (.int (1 : Int32)), .val (.int y0)] [(.int y1)])) _
    refine XS.istore X4.here hx rfl (hb hby d7_13) rfl (l' := #[.val (.ref ca), .val (.int (1 : Int32)), .val (.ref va), .val (.int (1 : Int32)), .val (.int (5 : Int32)), .val (.int (1 : Int32)), .val (.int y1)]) rfl ?_
    show Steps p.tables e below (T4.setTop (mkF m 15 #[.val (.ref ca), .val (.int (1 : Int32)), .val (.ref va), .val (.int (1 : Int32)), .val (.int (5 : Int32)), .val (.int (1 : Int32)), .val (.int y1)] [])) _
    refine XS.iload X4.here hx rfl (hb hby d7_15) rfl ?_
    show Steps p.tables e below (T4.setTop (mkF m 17 #[.val (.ref ca), .val (.int (1 : Int32)), .val (.ref va), .val (.int (1 : Int32)), .val (.int (5 : Int32)), .val (.int (1 : Int32)), .val (.int y1)] [(.int y1)])) _
    refine XS.sipush X4.here hx rfl (hb hby d7_17) ?_
    show Steps p.tables e below (T4.setTop (mkF m 20 #[.val (.ref ca), .val (.int (1 : Int32)), .val (.ref va), .val (.int (1 : Int32)), .val (.int (5 : Int32)), .val (.int (1 : Int32)), .val (.int y1)] [(.int (255 : Int32)), (.int y1)])) _
    refine XS.icmpYes X4.here hx rfl (pc0 := 20) (pc' := 26) rfl (hb hby d7_20) rfl (flt (own_gt hy1)).2.2.2 (by decide) (by decide) ?_
    show Steps p.tables e below (T4.setTop (mkF m 26 #[.val (.ref ca), .val (.int (1 : Int32)), .val (.ref va), .val (.int (1 : Int32)), .val (.int (5 : Int32)), .val (.int (1 : Int32)), .val (.int y1)] [])) _
    refine XS.aloadN X4.here hx rfl (hb hby d7_26) rfl rfl ?_
    show Steps p.tables e below (T4.setTop (mkF m 27 #[.val (.ref ca), .val (.int (1 : Int32)), .val (.ref va), .val (.int (1 : Int32)), .val (.int (5 : Int32)), .val (.int (1 : Int32)), .val (.int y1)] [(.ref va)])) _
    refine XS.iloadN X4.here hx rfl (hb hby d7_27) rfl ?_
    show Steps p.tables e below (T4.setTop (mkF m 28 #[.val (.ref ca), .val (.int (1 : Int32)), .val (.ref va), .val (.int (1 : Int32)), .val (.int (5 : Int32)), .val (.int (1 : Int32)), .val (.int y1)] [(.int (1 : Int32)), (.ref va)])) _
    refine XS.iload X4.here hx rfl (hb hby d7_28) rfl ?_
    show Steps p.tables e below (T4.setTop (mkF m 30 #[.val (.ref ca), .val (.int (1 : Int32)), .val (.ref va), .val (.int (1 : Int32)), .val (.int (5 : Int32)), .val (.int (1 : Int32)), .val (.int y1)] [(.int y1), (.int (1 : Int32)), (.ref va)])) _
    refine XS.i2b X4.here hx rfl (hb hby d7_30) rfl ?_
    exact kt)
  have op_9 := V4_va
  obtain ⟨cl_9, Ar_9, q_9, S_9, Ng_9, H_9, G_9⟩ := op_9
  have hin_9 : ¬ ((1 : Int32) < 0 ∨ cl_9.slots.size ≤ ((1 : Int32)).toNatClampNeg) := inb_of S_9 ⟨by decide, by decide⟩
  obtain ⟨T9, h9, X9, e9, W9, st9⟩ := stB X4 hx hZ e4 Ar_9 (j := (1 : Int32)) hin_9 (g := (mkF m 31 #[.val (.ref ca), .val (.int (1 : Int32)), .val (.ref va), .val (.int (1 : Int32)), .val (.int (5 : Int32)), .val (.int (1 : Int32)), .val (.int y1)] [(.int (y1.toInt8.toInt32)), (.int (1 : Int32)), (.ref va)])) rfl rfl (hb hby d7_31)
  have pre9s : ∀ tg, Steps p.tables e below (T9.setTop (mkF m 32 #[.val (.ref ca), .val (.int (1 : Int32)), .val (.ref va), .val (.int (1 : Int32)), .val (.int (5 : Int32)), .val (.int (1 : Int32)), .val (.int y1)] [])) tg → G tg := fun tg kt => pre8 tg (st9 tg kt)
  have V_c_10 := V_c_5.other W9 ne_c_v
  have V9_va : Arv Z h9 va kv .byte (5 : Int32) [(.int (y0.toInt8.toInt32.toInt8.toInt32)), (.int (y1.toInt8.toInt32.toInt8.toInt32)), (.int (0 : Int32)), (.int (0 : Int32)), (.int (0 : Int32))] (.int (0 : Int32)) := Arv.set Ar_9 q_9 S_9 Ng_9 H_9 G_9 (fits_nar_byte _) W9 1 rfl (Nat.le_of_ble_eq_true rfl)
  have N9 := Fr.snoc X9 N4 O_va
  have Z9 : n0 ≤ h9.size := Nat.le_trans Z4 (Keep.of_wr W9).1
  have K9 : Keep h0 h9 [va] := K4.wr W9 (Or.inl (List.mem_of_getElem? (i := 0) rfl))
  have pre11 : ∀ tg, Steps p.tables e below (T9.setTop (mkF m 12 #[.val (.ref ca), .val (.int (2 : Int32)), .val (.ref va), .val (.int (2 : Int32)), .val (.int (5 : Int32)), .val (.int (2 : Int32)), .val (.int y1)] [(.int (2 : Int32)), (.ref ca)])) tg → G tg := fun tg kt => pre9s tg (by
    show Steps p.tables e below (T9.setTop (mkF m 32 #[.val (.ref ca), .val (.int (1 : Int32)), .val (.ref va), .val (.int (1 : Int32)), .val (.int (5 : Int32)), .val (.int (1 : Int32)), .val (.int y1)] [])) _
    refine XS.iinc X9.here hx rfl (hb hby d7_32) rfl (l' := #[.val (.ref ca), .val (.int (2 : Int32)), .val (.ref va), .val (.int (1 : Int32)), .val (.int (5 : Int32)), .val (.int (1 : Int32)), .val (.int y1)]) rfl ?_
    show Steps p.tables e below (T9.setTop (mkF m 35 #[.val (.ref ca), .val (.int (2 : Int32)), .val (.ref va), .val (.int (1 : Int32)), .val (.int (5 : Int32)), .val (.int (1 : Int32)), .val (.int y1)] [])) _
    refine XS.iinc X9.here hx rfl (hb hby d7_35) rfl (l' := #[.val (.ref ca), .val (.int (2 : Int32)), .val (.ref va), .val (.int (2 : Int32)), .val (.int (5 : Int32)), .val (.int (1 : Int32)), .val (.int y1)]) rfl ?_
    show Steps p.tables e below (T9.setTop (mkF m 38 #[.val (.ref ca), .val (.int (2 : Int32)), .val (.ref va), .val (.int (2 : Int32)), .val (.int (5 : Int32)), .val (.int (1 : Int32)), .val (.int y1)] [])) _
    refine XS.iinc X9.here hx rfl (hb hby d7_38) rfl (l' := #[.val (.ref ca), .val (.int (2 : Int32)), .val (.ref va), .val (.int (2 : Int32)), .val (.int (5 : Int32)), .val (.int (2 : Int32)), .val (.int y1)]) rfl ?_
    show Steps p.tables e below (T9.setTop (mkF m 41 #[.val (.ref ca), .val (.int (2 : Int32)), .val (.ref va), .val (.int (2 : Int32)), .val (.int (5 : Int32)), .val (.int (2 : Int32)), .val (.int y1)] [])) _
    refine XS.goto X9.here hx rfl (pc0 := 41) (pc' := 3) rfl (hb hby d7_41) (by decide) (by decide) ?_
    show Steps p.tables e below (T9.setTop (mkF m 3 #[.val (.ref ca), .val (.int (2 : Int32)), .val (.ref va), .val (.int (2 : Int32)), .val (.int (5 : Int32)), .val (.int (2 : Int32)), .val (.int y1)] [])) _
    refine XS.iload X9.here hx rfl (hb hby d7_3) rfl ?_
    show Steps p.tables e below (T9.setTop (mkF m 5 #[.val (.ref ca), .val (.int (2 : Int32)), .val (.ref va), .val (.int (2 : Int32)), .val (.int (5 : Int32)), .val (.int (2 : Int32)), .val (.int y1)] [(.int (2 : Int32))])) _
    refine XS.iload X9.here hx rfl (hb hby d7_5) rfl ?_
    show Steps p.tables e below (T9.setTop (mkF m 7 #[.val (.ref ca), .val (.int (2 : Int32)), .val (.ref va), .val (.int (2 : Int32)), .val (.int (5 : Int32)), .val (.int (2 : Int32)), .val (.int y1)] [(.int (5 : Int32)), (.int (2 : Int32))])) _
    refine XS.icmpNo X9.here hx rfl (hb hby d7_7) rfl (tlt (by decide : (2 : Int32) < (5 : Int32))).2.1 ?_
    show Steps p.tables e below (T9.setTop (mkF m 10 #[.val (.ref ca), .val (.int (2 : Int32)), .val (.ref va), .val (.int (2 : Int32)), .val (.int (5 : Int32)), .val (.int (2 : Int32)), .val (.int y1)] [])) _
    refine XS.aloadN X9.here hx rfl (hb hby d7_10) rfl rfl ?_
    show Steps p.tables e below (T9.setTop (mkF m 11 #[.val (.ref ca), .val (.int (2 : Int32)), .val (.ref va), .val (.int (2 : Int32)), .val (.int (5 : Int32)), .val (.int (2 : Int32)), .val (.int y1)] [(.ref ca)])) _
    refine XS.iloadN X9.here hx rfl (hb hby d7_11) rfl ?_
    exact kt)
  have op_12 := V_c_10
  obtain ⟨cl_12, Ar_12, q_12, S_12, Ng_12, H_12, G_12⟩ := op_12
  have hin_12 : ¬ ((2 : Int32) < 0 ∨ cl_12.slots.size ≤ ((2 : Int32)).toNatClampNeg) := inb_of S_12 ⟨by decide, by decide⟩
  have pre13 : ∀ tg, Steps p.tables e below (T9.setTop (mkF m 31 #[.val (.ref ca), .val (.int (2 : Int32)), .val (.ref va), .val (.int (2 : Int32)), .val (.int (5 : Int32)), .val (.int (2 : Int32)), .val (.int y2)] [(.int (y2.toInt8.toInt32)), (.int (2 : Int32)), (.ref va)])) tg → G tg := fun tg kt => pre11 tg (by
    show Steps p.tables e below (T9.setTop (mkF m 12 #[.val (.ref ca), .val (.int (2 : Int32)), .val (.ref va), .val (.int (2 : Int32)), .val (.int (5 : Int32)), .val (.int (2 : Int32)), .val (.int y1)] [(.int (2 : Int32)), (.ref ca)])) _
    refine X9.caload hx (j := (2 : Int32)) (v := (.int y2)) (by rw [e9]; exact Ar_12.1) (State.isArrayOf_alike hZ.alike Ar_12.2.1) Ar_12.2.2 hin_12 (H_12.at hin_12 rfl) (g := (mkF m 12 #[.val (.ref ca), .val (.int (2 : Int32)), .val (.ref va), .val (.int (2 : Int32)), .val (.int (5 : Int32)), .val (.int (2 : Int32)), .val (.int y1)] [(.int (2 : Int32)), (.ref ca)])) rfl rfl (hb hby d7_12) _ ?_
    show Steps p.tables e below (T9.setTop (mkF m 13 #[.val (.ref ca), .val (.int (2 : Int32)), .val (.ref va), .val (.int (2 : Int32)), .val (.int (5 : Int32)), .val (.int (2 : Int32)), .val (.int y1)] [(.int y2)])) _
    refine XS.istore X9.here hx rfl (hb hby d7_13) rfl (l' := #[.val (.ref ca), .val (.int (2 : Int32)), .val (.ref va), .val (.int (2 : Int32)), .val (.int (5 : Int32)), .val (.int (2 : Int32)), .val (.int y2)]) rfl ?_
    show Steps p.tables e below (T9.setTop (mkF m 15 #[.val (.ref ca), .val (.int (2 : Int32)), .val (.ref va), .val (.int (2 : Int32)), .val (.int (5 : Int32)), .val (.int (2 : Int32)), .val (.int y2)] [])) _
    refine XS.iload X9.here hx rfl (hb hby d7_15) rfl ?_
    show Steps p.tables e below (T9.setTop (mkF m 17 #[.val (.ref ca), .val (.int (2 : Int32)), .val (.ref va), .val (.int (2 : Int32)), .val (.int (5 : Int32)), .val (.int (2 : Int32)), .val (.int y2)] [(.int y2)])) _
    refine XS.sipush X9.here hx rfl (hb hby d7_17) ?_
    show Steps p.tables e below (T9.setTop (mkF m 20 #[.val (.ref ca), .val (.int (2 : Int32)), .val (.ref va), .val (.int (2 : Int32)), .val (.int (5 : Int32)), .val (.int (2 : Int32)), .val (.int y2)] [(.int (255 : Int32)), (.int y2)])) _
    refine XS.icmpYes X9.here hx rfl (pc0 := 20) (pc' := 26) rfl (hb hby d7_20) rfl (flt (own_gt hy2)).2.2.2 (by decide) (by decide) ?_
    show Steps p.tables e below (T9.setTop (mkF m 26 #[.val (.ref ca), .val (.int (2 : Int32)), .val (.ref va), .val (.int (2 : Int32)), .val (.int (5 : Int32)), .val (.int (2 : Int32)), .val (.int y2)] [])) _
    refine XS.aloadN X9.here hx rfl (hb hby d7_26) rfl rfl ?_
    show Steps p.tables e below (T9.setTop (mkF m 27 #[.val (.ref ca), .val (.int (2 : Int32)), .val (.ref va), .val (.int (2 : Int32)), .val (.int (5 : Int32)), .val (.int (2 : Int32)), .val (.int y2)] [(.ref va)])) _
    refine XS.iloadN X9.here hx rfl (hb hby d7_27) rfl ?_
    show Steps p.tables e below (T9.setTop (mkF m 28 #[.val (.ref ca), .val (.int (2 : Int32)), .val (.ref va), .val (.int (2 : Int32)), .val (.int (5 : Int32)), .val (.int (2 : Int32)), .val (.int y2)] [(.int (2 : Int32)), (.ref va)])) _
    refine XS.iload X9.here hx rfl (hb hby d7_28) rfl ?_
    show Steps p.tables e below (T9.setTop (mkF m 30 #[.val (.ref ca), .val (.int (2 : Int32)), .val (.ref va), .val (.int (2 : Int32)), .val (.int (5 : Int32)), .val (.int (2 : Int32)), .val (.int y2)] [(.int y2), (.int (2 : Int32)), (.ref va)])) _
    refine XS.i2b X9.here hx rfl (hb hby d7_30) rfl ?_
    exact kt)
  have op_14 := V9_va
  obtain ⟨cl_14, Ar_14, q_14, S_14, Ng_14, H_14, G_14⟩ := op_14
  have hin_14 : ¬ ((2 : Int32) < 0 ∨ cl_14.slots.size ≤ ((2 : Int32)).toNatClampNeg) := inb_of S_14 ⟨by decide, by decide⟩
  obtain ⟨T14, h14, X14, e14, W14, st14⟩ := stB X9 hx hZ e9 Ar_14 (j := (2 : Int32)) hin_14 (g := (mkF m 31 #[.val (.ref ca), .val (.int (2 : Int32)), .val (.ref va), .val (.int (2 : Int32)), .val (.int (5 : Int32)), .val (.int (2 : Int32)), .val (.int y2)] [(.int (y2.toInt8.toInt32)), (.int (2 : Int32)), (.ref va)])) rfl rfl (hb hby d7_31)
  have pre14s : ∀ tg, Steps p.tables e below (T14.setTop (mkF m 32 #[.val (.ref ca), .val (.int (2 : Int32)), .val (.ref va), .val (.int (2 : Int32)), .val (.int (5 : Int32)), .val (.int (2 : Int32)), .val (.int y2)] [])) tg → G tg := fun tg kt => pre13 tg (st14 tg kt)
  have V_c_15 := V_c_10.other W14 ne_c_v
  have V14_va : Arv Z h14 va kv .byte (5 : Int32) [(.int (y0.toInt8.toInt32.toInt8.toInt32)), (.int (y1.toInt8.toInt32.toInt8.toInt32)), (.int (y2.toInt8.toInt32.toInt8.toInt32)), (.int (0 : Int32)), (.int (0 : Int32))] (.int (0 : Int32)) := Arv.set Ar_14 q_14 S_14 Ng_14 H_14 G_14 (fits_nar_byte _) W14 2 rfl (Nat.le_of_ble_eq_true rfl)
  have N14 := Fr.snoc X14 N9 O_va
  have Z14 : n0 ≤ h14.size := Nat.le_trans Z9 (Keep.of_wr W14).1
  have K14 : Keep h0 h14 [va] := K9.wr W14 (Or.inl (List.mem_of_getElem? (i := 0) rfl))
  have pre16 : ∀ tg, Steps p.tables e below (T14.setTop (mkF m 12 #[.val (.ref ca), .val (.int (3 : Int32)), .val (.ref va), .val (.int (3 : Int32)), .val (.int (5 : Int32)), .val (.int (3 : Int32)), .val (.int y2)] [(.int (3 : Int32)), (.ref ca)])) tg → G tg := fun tg kt => pre14s tg (by
    show Steps p.tables e below (T14.setTop (mkF m 32 #[.val (.ref ca), .val (.int (2 : Int32)), .val (.ref va), .val (.int (2 : Int32)), .val (.int (5 : Int32)), .val (.int (2 : Int32)), .val (.int y2)] [])) _
    refine XS.iinc X14.here hx rfl (hb hby d7_32) rfl (l' := #[.val (.ref ca), .val (.int (3 : Int32)), .val (.ref va), .val (.int (2 : Int32)), .val (.int (5 : Int32)), .val (.int (2 : Int32)), .val (.int y2)]) rfl ?_
    show Steps p.tables e below (T14.setTop (mkF m 35 #[.val (.ref ca), .val (.int (3 : Int32)), .val (.ref va), .val (.int (2 : Int32)), .val (.int (5 : Int32)), .val (.int (2 : Int32)), .val (.int y2)] [])) _
    refine XS.iinc X14.here hx rfl (hb hby d7_35) rfl (l' := #[.val (.ref ca), .val (.int (3 : Int32)), .val (.ref va), .val (.int (3 : Int32)), .val (.int (5 : Int32)), .val (.int (2 : Int32)), .val (.int y2)]) rfl ?_
    show Steps p.tables e below (T14.setTop (mkF m 38 #[.val (.ref ca), .val (.int (3 : Int32)), .val (.ref va), .val (.int (3 : Int32)), .val (.int (5 : Int32)), .val (.int (2 : Int32)), .val (.int y2)] [])) _
    refine XS.iinc X14.here hx rfl (hb hby d7_38) rfl (l' := #[.val (.ref ca), .val (.int (3 : Int32)), .val (.ref va), .val (.int (3 : Int32)), .val (.int (5 : Int32)), .val (.int (3 : Int32)), .val (.int y2)]) rfl ?_
    show Steps p.tables e below (T14.setTop (mkF m 41 #[.val (.ref ca), .val (.int (3 : Int32)), .val (.ref va), .val (.int (3 : Int32)), .val (.int (5 : Int32)), .val (.int (3 : Int32)), .val (.int y2)] [])) _
    refine XS.goto X14.here hx rfl (pc0 := 41) (pc' := 3) rfl (hb hby d7_41) (by decide) (by decide) ?_
    show Steps p.tables e below (T14.setTop (mkF m 3 #[.val (.ref ca), .val (.int (3 : Int32)), .val (.ref va), .val (.int (3 : Int32)), .val (.int (5 : Int32)), .val (.int (3 : Int32)), .val (.int y2)] [])) _
    refine XS.iload X14.here hx rfl (hb hby d7_3) rfl ?_
    show Steps p.tables e below (T14.setTop (mkF m 5 #[.val (.ref ca), .val (.int (3 : Int32)), .val (.ref va), .val (.int (3 : Int32)), .val (.int (5 : Int32)), .val (.int (3 : Int32)), .val (.int y2)] [(.int (3 : Int32))])) _
    refine XS.iload X14.here hx rfl (hb hby d7_5) rfl ?_
    show Steps p.tables e below (T14.setTop (mkF m 7 #[.val (.ref ca), .val (.int (3 : Int32)), .val (.ref va), .val (.int (3 : Int32)), .val (.int (5 : Int32)), .val (.int (3 : Int32)), .val (.int y2)] [(.int (5 : Int32)), (.int (3 : Int32))])) _
    refine XS.icmpNo X14.here hx rfl (hb hby d7_7) rfl (tlt (by decide : (3 : Int32) < (5 : Int32))).2.1 ?_
    show Steps p.tables e below (T14.setTop (mkF m 10 #[.val (.ref ca), .val (.int (3 : Int32)), .val (.ref va), .val (.int (3 : Int32)), .val (.int (5 : Int32)), .val (.int (3 : Int32)), .val (.int y2)] [])) _
    refine XS.aloadN X14.here hx rfl (hb hby d7_10) rfl rfl ?_
    show Steps p.tables e below (T14.setTop (mkF m 11 #[.val (.ref ca), .val (.int (3 : Int32)), .val (.ref va), .val (.int (3 : Int32)), .val (.int (5 : Int32)), .val (.int (3 : Int32)), .val (.int y2)] [(.ref ca)])) _
    refine XS.iloadN X14.here hx rfl (hb hby d7_11) rfl ?_
    exact kt)
  have op_17 := V_c_15
  obtain ⟨cl_17, Ar_17, q_17, S_17, Ng_17, H_17, G_17⟩ := op_17
  have hin_17 : ¬ ((3 : Int32) < 0 ∨ cl_17.slots.size ≤ ((3 : Int32)).toNatClampNeg) := inb_of S_17 ⟨by decide, by decide⟩
  have pre18 : ∀ tg, Steps p.tables e below (T14.setTop (mkF m 31 #[.val (.ref ca), .val (.int (3 : Int32)), .val (.ref va), .val (.int (3 : Int32)), .val (.int (5 : Int32)), .val (.int (3 : Int32)), .val (.int y3)] [(.int (y3.toInt8.toInt32)), (.int (3 : Int32)), (.ref va)])) tg → G tg := fun tg kt => pre16 tg (by
    show Steps p.tables e below (T14.setTop (mkF m 12 #[.val (.ref ca), .val (.int (3 : Int32)), .val (.ref va), .val (.int (3 : Int32)), .val (.int (5 : Int32)), .val (.int (3 : Int32)), .val (.int y2)] [(.int (3 : Int32)), (.ref ca)])) _
    refine X14.caload hx (j := (3 : Int32)) (v := (.int y3)) (by rw [e14]; exact Ar_17.1) (State.isArrayOf_alike hZ.alike Ar_17.2.1) Ar_17.2.2 hin_17 (H_17.at hin_17 rfl) (g := (mkF m 12 #[.val (.ref ca), .val (.int (3 : Int32)), .val (.ref va), .val (.int (3 : Int32)), .val (.int (5 : Int32)), .val (.int (3 : Int32)), .val (.int y2)] [(.int (3 : Int32)), (.ref ca)])) rfl rfl (hb hby d7_12) _ ?_
    show Steps p.tables e below (T14.setTop (mkF m 13 #[.val (.ref ca), .val (.int (3 : Int32)), .val (.ref va), .val (.int (3 : Int32)), .val (.int (5 : Int32)), .val (.int (3 : Int32)), .val (.int y2)] [(.int y3)])) _
    refine XS.istore X14.here hx rfl (hb hby d7_13) rfl (l' := #[.val (.ref ca), .val (.int (3 : Int32)), .val (.ref va), .val (.int (3 : Int32)), .val (.int (5 : Int32)), .val (.int (3 : Int32)), .val (.int y3)]) rfl ?_
    show Steps p.tables e below (T14.setTop (mkF m 15 #[.val (.ref ca), .val (.int (3 : Int32)), .val (.ref va), .val (.int (3 : Int32)), .val (.int (5 : Int32)), .val (.int (3 : Int32)), .val (.int y3)] [])) _
    refine XS.iload X14.here hx rfl (hb hby d7_15) rfl ?_
    show Steps p.tables e below (T14.setTop (mkF m 17 #[.val (.ref ca), .val (.int (3 : Int32)), .val (.ref va), .val (.int (3 : Int32)), .val (.int (5 : Int32)), .val (.int (3 : Int32)), .val (.int y3)] [(.int y3)])) _
    refine XS.sipush X14.here hx rfl (hb hby d7_17) ?_
    show Steps p.tables e below (T14.setTop (mkF m 20 #[.val (.ref ca), .val (.int (3 : Int32)), .val (.ref va), .val (.int (3 : Int32)), .val (.int (5 : Int32)), .val (.int (3 : Int32)), .val (.int y3)] [(.int (255 : Int32)), (.int y3)])) _
    refine XS.icmpYes X14.here hx rfl (pc0 := 20) (pc' := 26) rfl (hb hby d7_20) rfl (flt (own_gt hy3)).2.2.2 (by decide) (by decide) ?_
    show Steps p.tables e below (T14.setTop (mkF m 26 #[.val (.ref ca), .val (.int (3 : Int32)), .val (.ref va), .val (.int (3 : Int32)), .val (.int (5 : Int32)), .val (.int (3 : Int32)), .val (.int y3)] [])) _
    refine XS.aloadN X14.here hx rfl (hb hby d7_26) rfl rfl ?_
    show Steps p.tables e below (T14.setTop (mkF m 27 #[.val (.ref ca), .val (.int (3 : Int32)), .val (.ref va), .val (.int (3 : Int32)), .val (.int (5 : Int32)), .val (.int (3 : Int32)), .val (.int y3)] [(.ref va)])) _
    refine XS.iloadN X14.here hx rfl (hb hby d7_27) rfl ?_
    show Steps p.tables e below (T14.setTop (mkF m 28 #[.val (.ref ca), .val (.int (3 : Int32)), .val (.ref va), .val (.int (3 : Int32)), .val (.int (5 : Int32)), .val (.int (3 : Int32)), .val (.int y3)] [(.int (3 : Int32)), (.ref va)])) _
    refine XS.iload X14.here hx rfl (hb hby d7_28) rfl ?_
    show Steps p.tables e below (T14.setTop (mkF m 30 #[.val (.ref ca), .val (.int (3 : Int32)), .val (.ref va), .val (.int (3 : Int32)), .val (.int (5 : Int32)), .val (.int (3 : Int32)), .val (.int y3)] [(.int y3), (.int (3 : Int32)), (.ref va)])) _
    refine XS.i2b X14.here hx rfl (hb hby d7_30) rfl ?_
    exact kt)
  have op_19 := V14_va
  obtain ⟨cl_19, Ar_19, q_19, S_19, Ng_19, H_19, G_19⟩ := op_19
  have hin_19 : ¬ ((3 : Int32) < 0 ∨ cl_19.slots.size ≤ ((3 : Int32)).toNatClampNeg) := inb_of S_19 ⟨by decide, by decide⟩
  obtain ⟨T19, h19, X19, e19, W19, st19⟩ := stB X14 hx hZ e14 Ar_19 (j := (3 : Int32)) hin_19 (g := (mkF m 31 #[.val (.ref ca), .val (.int (3 : Int32)), .val (.ref va), .val (.int (3 : Int32)), .val (.int (5 : Int32)), .val (.int (3 : Int32)), .val (.int y3)] [(.int (y3.toInt8.toInt32)), (.int (3 : Int32)), (.ref va)])) rfl rfl (hb hby d7_31)
  have pre19s : ∀ tg, Steps p.tables e below (T19.setTop (mkF m 32 #[.val (.ref ca), .val (.int (3 : Int32)), .val (.ref va), .val (.int (3 : Int32)), .val (.int (5 : Int32)), .val (.int (3 : Int32)), .val (.int y3)] [])) tg → G tg := fun tg kt => pre18 tg (st19 tg kt)
  have V_c_20 := V_c_15.other W19 ne_c_v
  have V19_va : Arv Z h19 va kv .byte (5 : Int32) [(.int (y0.toInt8.toInt32.toInt8.toInt32)), (.int (y1.toInt8.toInt32.toInt8.toInt32)), (.int (y2.toInt8.toInt32.toInt8.toInt32)), (.int (y3.toInt8.toInt32.toInt8.toInt32)), (.int (0 : Int32))] (.int (0 : Int32)) := Arv.set Ar_19 q_19 S_19 Ng_19 H_19 G_19 (fits_nar_byte _) W19 3 rfl (Nat.le_of_ble_eq_true rfl)
  have N19 := Fr.snoc X19 N14 O_va
  have Z19 : n0 ≤ h19.size := Nat.le_trans Z14 (Keep.of_wr W19).1
  have K19 : Keep h0 h19 [va] := K14.wr W19 (Or.inl (List.mem_of_getElem? (i := 0) rfl))
  have pre21 : ∀ tg, Steps p.tables e below (T19.setTop (mkF m 12 #[.val (.ref ca), .val (.int (4 : Int32)), .val (.ref va), .val (.int (4 : Int32)), .val (.int (5 : Int32)), .val (.int (4 : Int32)), .val (.int y3)] [(.int (4 : Int32)), (.ref ca)])) tg → G tg := fun tg kt => pre19s tg (by
    show Steps p.tables e below (T19.setTop (mkF m 32 #[.val (.ref ca), .val (.int (3 : Int32)), .val (.ref va), .val (.int (3 : Int32)), .val (.int (5 : Int32)), .val (.int (3 : Int32)), .val (.int y3)] [])) _
    refine XS.iinc X19.here hx rfl (hb hby d7_32) rfl (l' := #[.val (.ref ca), .val (.int (4 : Int32)), .val (.ref va), .val (.int (3 : Int32)), .val (.int (5 : Int32)), .val (.int (3 : Int32)), .val (.int y3)]) rfl ?_
    show Steps p.tables e below (T19.setTop (mkF m 35 #[.val (.ref ca), .val (.int (4 : Int32)), .val (.ref va), .val (.int (3 : Int32)), .val (.int (5 : Int32)), .val (.int (3 : Int32)), .val (.int y3)] [])) _
    refine XS.iinc X19.here hx rfl (hb hby d7_35) rfl (l' := #[.val (.ref ca), .val (.int (4 : Int32)), .val (.ref va), .val (.int (4 : Int32)), .val (.int (5 : Int32)), .val (.int (3 : Int32)), .val (.int y3)]) rfl ?_
    show Steps p.tables e below (T19.setTop (mkF m 38 #[.val (.ref ca), .val (.int (4 : Int32)), .val (.ref va), .val (.int (4 : Int32)), .val (.int (5 : Int32)), .val (.int (3 : Int32)), .val (.int y3)] [])) _
    refine XS.iinc X19.here hx rfl (hb hby d7_38) rfl (l' := #[.val (.ref ca), .val (.int (4 : Int32)), .val (.ref va), .val (.int (4 : Int32)), .val (.int (5 : Int32)), .val (.int (4 : Int32)), .val (.int y3)]) rfl ?_
    show Steps p.tables e below (T19.setTop (mkF m 41 #[.val (.ref ca), .val (.int (4 : Int32)), .val (.ref va), .val (.int (4 : Int32)), .val (.int (5 : Int32)), .val (.int (4 : Int32)), .val (.int y3)] [])) _
    refine XS.goto X19.here hx rfl (pc0 := 41) (pc' := 3) rfl (hb hby d7_41) (by decide) (by decide) ?_
    show Steps p.tables e below (T19.setTop (mkF m 3 #[.val (.ref ca), .val (.int (4 : Int32)), .val (.ref va), .val (.int (4 : Int32)), .val (.int (5 : Int32)), .val (.int (4 : Int32)), .val (.int y3)] [])) _
    refine XS.iload X19.here hx rfl (hb hby d7_3) rfl ?_
    show Steps p.tables e below (T19.setTop (mkF m 5 #[.val (.ref ca), .val (.int (4 : Int32)), .val (.ref va), .val (.int (4 : Int32)), .val (.int (5 : Int32)), .val (.int (4 : Int32)), .val (.int y3)] [(.int (4 : Int32))])) _
    refine XS.iload X19.here hx rfl (hb hby d7_5) rfl ?_
    show Steps p.tables e below (T19.setTop (mkF m 7 #[.val (.ref ca), .val (.int (4 : Int32)), .val (.ref va), .val (.int (4 : Int32)), .val (.int (5 : Int32)), .val (.int (4 : Int32)), .val (.int y3)] [(.int (5 : Int32)), (.int (4 : Int32))])) _
    refine XS.icmpNo X19.here hx rfl (hb hby d7_7) rfl (tlt (by decide : (4 : Int32) < (5 : Int32))).2.1 ?_
    show Steps p.tables e below (T19.setTop (mkF m 10 #[.val (.ref ca), .val (.int (4 : Int32)), .val (.ref va), .val (.int (4 : Int32)), .val (.int (5 : Int32)), .val (.int (4 : Int32)), .val (.int y3)] [])) _
    refine XS.aloadN X19.here hx rfl (hb hby d7_10) rfl rfl ?_
    show Steps p.tables e below (T19.setTop (mkF m 11 #[.val (.ref ca), .val (.int (4 : Int32)), .val (.ref va), .val (.int (4 : Int32)), .val (.int (5 : Int32)), .val (.int (4 : Int32)), .val (.int y3)] [(.ref ca)])) _
    refine XS.iloadN X19.here hx rfl (hb hby d7_11) rfl ?_
    exact kt)
  have op_22 := V_c_20
  obtain ⟨cl_22, Ar_22, q_22, S_22, Ng_22, H_22, G_22⟩ := op_22
  have hin_22 : ¬ ((4 : Int32) < 0 ∨ cl_22.slots.size ≤ ((4 : Int32)).toNatClampNeg) := inb_of S_22 ⟨by decide, by decide⟩
  have pre23 : ∀ tg, Steps p.tables e below (T19.setTop (mkF m 31 #[.val (.ref ca), .val (.int (4 : Int32)), .val (.ref va), .val (.int (4 : Int32)), .val (.int (5 : Int32)), .val (.int (4 : Int32)), .val (.int y4)] [(.int (y4.toInt8.toInt32)), (.int (4 : Int32)), (.ref va)])) tg → G tg := fun tg kt => pre21 tg (by
    show Steps p.tables e below (T19.setTop (mkF m 12 #[.val (.ref ca), .val (.int (4 : Int32)), .val (.ref va), .val (.int (4 : Int32)), .val (.int (5 : Int32)), .val (.int (4 : Int32)), .val (.int y3)] [(.int (4 : Int32)), (.ref ca)])) _
    refine X19.caload hx (j := (4 : Int32)) (v := (.int y4)) (by rw [e19]; exact Ar_22.1) (State.isArrayOf_alike hZ.alike Ar_22.2.1) Ar_22.2.2 hin_22 (H_22.at hin_22 rfl) (g := (mkF m 12 #[.val (.ref ca), .val (.int (4 : Int32)), .val (.ref va), .val (.int (4 : Int32)), .val (.int (5 : Int32)), .val (.int (4 : Int32)), .val (.int y3)] [(.int (4 : Int32)), (.ref ca)])) rfl rfl (hb hby d7_12) _ ?_
    show Steps p.tables e below (T19.setTop (mkF m 13 #[.val (.ref ca), .val (.int (4 : Int32)), .val (.ref va), .val (.int (4 : Int32)), .val (.int (5 : Int32)), .val (.int (4 : Int32)), .val (.int y3)] [(.int y4)])) _
    refine XS.istore X19.here hx rfl (hb hby d7_13) rfl (l' := #[.val (.ref ca), .val (.int (4 : Int32)), .val (.ref va), .val (.int (4 : Int32)), .val (.int (5 : Int32)), .val (.int (4 : Int32)), .val (.int y4)]) rfl ?_
    show Steps p.tables e below (T19.setTop (mkF m 15 #[.val (.ref ca), .val (.int (4 : Int32)), .val (.ref va), .val (.int (4 : Int32)), .val (.int (5 : Int32)), .val (.int (4 : Int32)), .val (.int y4)] [])) _
    refine XS.iload X19.here hx rfl (hb hby d7_15) rfl ?_
    show Steps p.tables e below (T19.setTop (mkF m 17 #[.val (.ref ca), .val (.int (4 : Int32)), .val (.ref va), .val (.int (4 : Int32)), .val (.int (5 : Int32)), .val (.int (4 : Int32)), .val (.int y4)] [(.int y4)])) _
    refine XS.sipush X19.here hx rfl (hb hby d7_17) ?_
    show Steps p.tables e below (T19.setTop (mkF m 20 #[.val (.ref ca), .val (.int (4 : Int32)), .val (.ref va), .val (.int (4 : Int32)), .val (.int (5 : Int32)), .val (.int (4 : Int32)), .val (.int y4)] [(.int (255 : Int32)), (.int y4)])) _
    refine XS.icmpYes X19.here hx rfl (pc0 := 20) (pc' := 26) rfl (hb hby d7_20) rfl (flt (own_gt hy4)).2.2.2 (by decide) (by decide) ?_
    show Steps p.tables e below (T19.setTop (mkF m 26 #[.val (.ref ca), .val (.int (4 : Int32)), .val (.ref va), .val (.int (4 : Int32)), .val (.int (5 : Int32)), .val (.int (4 : Int32)), .val (.int y4)] [])) _
    refine XS.aloadN X19.here hx rfl (hb hby d7_26) rfl rfl ?_
    show Steps p.tables e below (T19.setTop (mkF m 27 #[.val (.ref ca), .val (.int (4 : Int32)), .val (.ref va), .val (.int (4 : Int32)), .val (.int (5 : Int32)), .val (.int (4 : Int32)), .val (.int y4)] [(.ref va)])) _
    refine XS.iloadN X19.here hx rfl (hb hby d7_27) rfl ?_
    show Steps p.tables e below (T19.setTop (mkF m 28 #[.val (.ref ca), .val (.int (4 : Int32)), .val (.ref va), .val (.int (4 : Int32)), .val (.int (5 : Int32)), .val (.int (4 : Int32)), .val (.int y4)] [(.int (4 : Int32)), (.ref va)])) _
    refine XS.iload X19.here hx rfl (hb hby d7_28) rfl ?_
    show Steps p.tables e below (T19.setTop (mkF m 30 #[.val (.ref ca), .val (.int (4 : Int32)), .val (.ref va), .val (.int (4 : Int32)), .val (.int (5 : Int32)), .val (.int (4 : Int32)), .val (.int y4)] [(.int y4), (.int (4 : Int32)), (.ref va)])) _
    refine XS.i2b X19.here hx rfl (hb hby d7_30) rfl ?_
    exact kt)
  have op_24 := V19_va
  obtain ⟨cl_24, Ar_24, q_24, S_24, Ng_24, H_24, G_24⟩ := op_24
  have hin_24 : ¬ ((4 : Int32) < 0 ∨ cl_24.slots.size ≤ ((4 : Int32)).toNatClampNeg) := inb_of S_24 ⟨by decide, by decide⟩
  obtain ⟨T24, h24, X24, e24, W24, st24⟩ := stB X19 hx hZ e19 Ar_24 (j := (4 : Int32)) hin_24 (g := (mkF m 31 #[.val (.ref ca), .val (.int (4 : Int32)), .val (.ref va), .val (.int (4 : Int32)), .val (.int (5 : Int32)), .val (.int (4 : Int32)), .val (.int y4)] [(.int (y4.toInt8.toInt32)), (.int (4 : Int32)), (.ref va)])) rfl rfl (hb hby d7_31)
  have pre24s : ∀ tg, Steps p.tables e below (T24.setTop (mkF m 32 #[.val (.ref ca), .val (.int (4 : Int32)), .val (.ref va), .val (.int (4 : Int32)), .val (.int (5 : Int32)), .val (.int (4 : Int32)), .val (.int y4)] [])) tg → G tg := fun tg kt => pre23 tg (st24 tg kt)
  have V_c_25 := V_c_20.other W24 ne_c_v
  have V24_va : Arv Z h24 va kv .byte (5 : Int32) [(.int (y0.toInt8.toInt32.toInt8.toInt32)), (.int (y1.toInt8.toInt32.toInt8.toInt32)), (.int (y2.toInt8.toInt32.toInt8.toInt32)), (.int (y3.toInt8.toInt32.toInt8.toInt32)), (.int (y4.toInt8.toInt32.toInt8.toInt32))] (.int (0 : Int32)) := Arv.set Ar_24 q_24 S_24 Ng_24 H_24 G_24 (fits_nar_byte _) W24 4 rfl (Nat.le_of_ble_eq_true rfl)
  have N24 := Fr.snoc X24 N19 O_va
  have Z24 : n0 ≤ h24.size := Nat.le_trans Z19 (Keep.of_wr W24).1
  have K24 : Keep h0 h24 [va] := K19.wr W24 (Or.inl (List.mem_of_getElem? (i := 0) rfl))
  obtain ⟨fs, hr, hrun, hended, hW, hsame⟩ := X24.leave (v := some (.int (5 : Int32))) (fun h => by rw [Bd.returns] at h; cases h)
  subst hG
  refine ⟨_, _, pre24s _ ?_, hrun, hended, _, _, rfl, ?_, ⟨_, rfl⟩, hW, hsame.mono (by decide) (by decide)⟩
  · skip
    show Steps p.tables e below (T24.setTop (mkF m 32 #[.val (.ref ca), .val (.int (4 : Int32)), .val (.ref va), .val (.int (4 : Int32)), .val (.int (5 : Int32)), .val (.int (4 : Int32)), .val (.int y4)] [])) _
    refine XS.iinc X24.here hx rfl (hb hby d7_32) rfl (l' := #[.val (.ref ca), .val (.int (5 : Int32)), .val (.ref va), .val (.int (4 : Int32)), .val (.int (5 : Int32)), .val (.int (4 : Int32)), .val (.int y4)]) rfl ?_
    show Steps p.tables e below (T24.setTop (mkF m 35 #[.val (.ref ca), .val (.int (5 : Int32)), .val (.ref va), .val (.int (4 : Int32)), .val (.int (5 : Int32)), .val (.int (4 : Int32)), .val (.int y4)] [])) _
    refine XS.iinc X24.here hx rfl (hb hby d7_35) rfl (l' := #[.val (.ref ca), .val (.int (5 : Int32)), .val (.ref va), .val (.int (5 : Int32)), .val (.int (5 : Int32)), .val (.int (4 : Int32)), .val (.int y4)]) rfl ?_
    show Steps p.tables e below (T24.setTop (mkF m 38 #[.val (.ref ca), .val (.int (5 : Int32)), .val (.ref va), .val (.int (5 : Int32)), .val (.int (5 : Int32)), .val (.int (4 : Int32)), .val (.int y4)] [])) _
    refine XS.iinc X24.here hx rfl (hb hby d7_38) rfl (l' := #[.val (.ref ca), .val (.int (5 : Int32)), .val (.ref va), .val (.int (5 : Int32)), .val (.int (5 : Int32)), .val (.int (5 : Int32)), .val (.int y4)]) rfl ?_
    show Steps p.tables e below (T24.setTop (mkF m 41 #[.val (.ref ca), .val (.int (5 : Int32)), .val (.ref va), .val (.int (5 : Int32)), .val (.int (5 : Int32)), .val (.int (5 : Int32)), .val (.int y4)] [])) _
    refine XS.goto X24.here hx rfl (pc0 := 41) (pc' := 3) rfl (hb hby d7_41) (by decide) (by decide) ?_
    show Steps p.tables e below (T24.setTop (mkF m 3 #[.val (.ref ca), .val (.int (5 : Int32)), .val (.ref va), .val (.int (5 : Int32)), .val (.int (5 : Int32)), .val (.int (5 : Int32)), .val (.int y4)] [])) _
    refine XS.iload X24.here hx rfl (hb hby d7_3) rfl ?_
    show Steps p.tables e below (T24.setTop (mkF m 5 #[.val (.ref ca), .val (.int (5 : Int32)), .val (.ref va), .val (.int (5 : Int32)), .val (.int (5 : Int32)), .val (.int (5 : Int32)), .val (.int y4)] [(.int (5 : Int32))])) _
    refine XS.iload X24.here hx rfl (hb hby d7_5) rfl ?_
    show Steps p.tables e below (T24.setTop (mkF m 7 #[.val (.ref ca), .val (.int (5 : Int32)), .val (.ref va), .val (.int (5 : Int32)), .val (.int (5 : Int32)), .val (.int (5 : Int32)), .val (.int y4)] [(.int (5 : Int32)), (.int (5 : Int32))])) _
    refine XS.icmpYes X24.here hx rfl (pc0 := 7) (pc' := 44) rfl (hb hby d7_7) rfl (flt (by decide : ¬ ((5 : Int32) < (5 : Int32)))).2.1 (by decide) (by decide) ?_
    show Steps p.tables e below (T24.setTop (mkF m 44 #[.val (.ref ca), .val (.int (5 : Int32)), .val (.ref va), .val (.int (5 : Int32)), .val (.int (5 : Int32)), .val (.int (5 : Int32)), .val (.int y4)] [])) _
    refine XS.iload X24.here hx rfl (hb hby d7_44) rfl ?_
    show Steps p.tables e below (T24.setTop (mkF m 46 #[.val (.ref ca), .val (.int (5 : Int32)), .val (.ref va), .val (.int (5 : Int32)), .val (.int (5 : Int32)), .val (.int (5 : Int32)), .val (.int y4)] [(.int (5 : Int32))])) _
    exact retI X24 hx Bd.returns (hb hby d7_46) hr
  · show Q_rmC_5 Z ca va kc kv y0 y1 y2 y3 y4 h0 n0 _ T24.heap _
    rw [e24]
    exact ⟨rfl, N24, K24, V24_va⟩
def Q_rmD_5 (Z : State) (ca : Addr) (kc : ClassId) (y0 y1 y2 y3 y4 : Int32) (h0 : Heap) (n0 : Nat) (v : Option Value) (h : Heap) (L : List Loc) : Prop := ∃ (va : Addr) (kv : ClassId), v = some (.ref va) ∧ Fr n0 L ∧ Keep h0 h [] ∧ h0.size ≤ va ∧ Arv Z h va kv .byte (5 : Int32) [(.int (y0.toInt8.toInt32.toInt8.toInt32)), (.int (y1.toInt8.toInt32.toInt8.toInt32)), (.int (y2.toInt8.toInt32.toInt8.toInt32)), (.int (y3.toInt8.toInt32.toInt8.toInt32)), (.int (y4.toInt8.toInt32.toInt8.toInt32))] (.int (0 : Int32))
set_option maxRecDepth 65536 in
set_option maxHeartbeats 40000000 in
theorem rmD_5 (l : Launch) (Z : State) (a0 : Array Value) (hw : ∀ d ∈ tables_1, d.before a0 Z = true) (ws : List Jvm.Cond) (ca : Addr) (kc : ClassId) (y0 y1 y2 y3 y4 : Int32) (h0 : Heap) (n0 : Nat) (Z0 : n0 ≤ h0.size) (V_c : Arv Z h0 ca kc .char (5 : Int32) [(.int y0), (.int y1), (.int y2), (.int y3), (.int y4)] (.int (0 : Int32))) (hy0 : own_y y0) (hy1 : own_y y1) (hy2 : own_y y2) (hy3 : own_y y3) (hy4 : own_y y4) :
    MetFree l (⟨"java/lang/StringUTF16", "compress", "([CII)[B"⟩ : MethodName) (head1 (Jvm.Cond.code (⟨"java/lang/StringUTF16", "compress", "([CII)[B"⟩ : MethodName) jdk_52_method_16_code 6 (some (.array .byte)) :: ws) ({ frames := 1, cells := 1, slots := 5, locals := 24 } : Room)) (fun argv U => argv = #[(.ref ca), (.int (0 : Int32)), (.int (5 : Int32))] ∧ Z.Warmed39 U.vm ∧ U.heap = h0) (fun _ _ _ _ _ => True) (fun _ U o U' => ∃ v L, o = .returned v ∧ Q_rmD_5 Z ca kc y0 y1 y2 y3 y4 h0 n0 v U'.heap L ∧ FrameEnd U o U' L ({ frames := 1, cells := 1, slots := 5, locals := 24 } : Room).cells ({ frames := 1, cells := 1, slots := 5, locals := 24 } : Room).slots) := by
  refine MetFree.of_bodySF (plainFor_of_name pn_6) hisR ?_
  intro p e s m args below meth c s₁ Bd hml0 hP hK
  obtain ⟨rfl, hZ, hh⟩ := hP
  have hx := Bd.exec
  have hby := Bd.bytes
  have hml : c.maxLocals = 6 := hml0
  have hown : s.vm.findClass "java/lang/StringUTF16" = some m.cls := findClass_of_methodNamed Bd.named
  have hnm := (name_of_methodNamed Bd.named Bd.method).1
  have X0 : Stand p l e ({ frames := 1, cells := 1, slots := 5, locals := 24 } : Room) s m #[(.ref ca), (.int (0 : Int32)), (.int (5 : Int32))] below meth c s₁ [] 0 0 := Stand.of_body Bd
  have e0 : s₁.heap = h0 := by rw [← hh, Bd.state]; rfl
  have N0 := Fr.nil n0
  obtain ⟨G, hG⟩ : ∃ G : State → Prop, G = fun tg => Steps p.tables e below (s₁.setTop (entryFrame m #[(.ref ca), (.int (0 : Int32)), (.int (5 : Int32))] 6)) tg := ⟨_, rfl⟩
  have pre0 : ∀ tg, Steps p.tables e below (s₁.setTop (mkF m 0 #[.val (.ref ca), .val (.int (0 : Int32)), .val (.int (5 : Int32)), .unset, .unset, .unset] [])) tg → G tg := fun tg kt => by rw [hG]; exact castTop (ef_6_R_I_I m ca (0 : Int32) (5 : Int32)) kt
  have pre1 : ∀ tg, Steps p.tables e below (s₁.setTop (mkF m 1 #[.val (.ref ca), .val (.int (0 : Int32)), .val (.int (5 : Int32)), .unset, .unset, .unset] [(.int (5 : Int32))])) tg → G tg := fun tg kt => pre0 tg (by
    show Steps p.tables e below (s₁.setTop (mkF m 0 #[.val (.ref ca), .val (.int (0 : Int32)), .val (.int (5 : Int32)), .unset, .unset, .unset] [])) _
    refine XS.iloadN X0.here hx rfl (hb hby d6_0) rfl ?_
    exact kt)
  obtain ⟨T2, h2, k2, X2, e2, E2, A2, st2⟩ := newP X0 hx hZ (hw _ (List.mem_of_getElem? (i := 20) rfl)) e0 (g := (mkF m 1 #[.val (.ref ca), .val (.int (0 : Int32)), .val (.int (5 : Int32)), .unset, .unset, .unset] [(.int (5 : Int32))])) rfl (hb hby d6_1) rfl (by decide) (cap := 5) (by decide) (by decide) (by decide) (by decide)
  obtain ⟨va, g2⟩ : ∃ z, z = h0.size := ⟨_, rfl⟩
  rw [← g2] at A2 st2
  have O_va : n0 ≤ va := Nat.le_trans Z0 (Nat.le_of_eq g2.symm)
  have Z2 : n0 ≤ h2.size := Nat.le_trans Z0 E2.1
  have ne_ca_va : ca ≠ va := Nat.ne_of_lt (Nat.lt_of_lt_of_le V_c.lt (Nat.le_of_eq g2.symm))
  have S_va : h0.size ≤ va := Nat.le_trans (Keep.refl h0 []).1 (Nat.le_of_eq g2.symm)
  have pre2s : ∀ tg, Steps p.tables e below (T2.setTop (mkF m 3 #[.val (.ref ca), .val (.int (0 : Int32)), .val (.int (5 : Int32)), .unset, .unset, .unset] [(.ref va)])) tg → G tg := fun tg kt => pre1 tg (st2 tg kt)
  have V_c_3 := V_c.ext E2
  have V_va : Arv Z h2 va k2 .byte (5 : Int32) [(.int (0 : Int32)), (.int (0 : Int32)), (.int (0 : Int32)), (.int (0 : Int32)), (.int (0 : Int32))] (.int (0 : Int32)) := (Arv.new A2 (by decide)).pad (pad_rep [] (.int (0 : Int32)) 5)
  have K2 : Keep h0 h2 [] := (Keep.refl h0 []).ext E2
  have pre4 : ∀ tg, Steps p.tables e below (T2.setTop (mkF m 9 #[.val (.ref ca), .val (.int (0 : Int32)), .val (.int (5 : Int32)), .val (.ref va), .unset, .unset] [(.int (5 : Int32)), (.int (0 : Int32)), (.ref va), (.int (0 : Int32)), (.ref ca)])) tg → G tg := fun tg kt => pre2s tg (by
    show Steps p.tables e below (T2.setTop (mkF m 3 #[.val (.ref ca), .val (.int (0 : Int32)), .val (.int (5 : Int32)), .unset, .unset, .unset] [(.ref va)])) _
    refine XS.astoreN X2.here hx rfl (hb hby d6_3) rfl rfl (l' := #[.val (.ref ca), .val (.int (0 : Int32)), .val (.int (5 : Int32)), .val (.ref va), .unset, .unset]) rfl ?_
    show Steps p.tables e below (T2.setTop (mkF m 4 #[.val (.ref ca), .val (.int (0 : Int32)), .val (.int (5 : Int32)), .val (.ref va), .unset, .unset] [])) _
    refine XS.aloadN X2.here hx rfl (hb hby d6_4) rfl rfl ?_
    show Steps p.tables e below (T2.setTop (mkF m 5 #[.val (.ref ca), .val (.int (0 : Int32)), .val (.int (5 : Int32)), .val (.ref va), .unset, .unset] [(.ref ca)])) _
    refine XS.iloadN X2.here hx rfl (hb hby d6_5) rfl ?_
    show Steps p.tables e below (T2.setTop (mkF m 6 #[.val (.ref ca), .val (.int (0 : Int32)), .val (.int (5 : Int32)), .val (.ref va), .unset, .unset] [(.int (0 : Int32)), (.ref ca)])) _
    refine XS.aloadN X2.here hx rfl (hb hby d6_6) rfl rfl ?_
    show Steps p.tables e below (T2.setTop (mkF m 7 #[.val (.ref ca), .val (.int (0 : Int32)), .val (.int (5 : Int32)), .val (.ref va), .unset, .unset] [(.ref va), (.int (0 : Int32)), (.ref ca)])) _
    refine XS.iconst X2.here hx rfl (hb hby d6_7) ?_
    show Steps p.tables e below (T2.setTop (mkF m 8 #[.val (.ref ca), .val (.int (0 : Int32)), .val (.int (5 : Int32)), .val (.ref va), .unset, .unset] [(.int (0 : Int32)), (.ref va), (.int (0 : Int32)), (.ref ca)])) _
    refine XS.iloadN X2.here hx rfl (hb hby d6_8) rfl ?_
    exact kt)
  obtain ⟨_, _, ⟨T5, L5, k5, n5⟩, -, X5, ⟨Lc5, hQ5, l5, y5, z5⟩, st5⟩ := Jvm.LawKit.callS X2 hx (y := (⟨"java/lang/StringUTF16", "compress", "([CI[BII)I"⟩ : MethodName)) hown (mvT hZ (hw _ (List.mem_of_getElem? (i := 35) rfl))) (mvT hZ (hw _ (List.mem_of_getElem? (i := 36) rfl))) (mvT hZ (hw _ (List.mem_of_getElem? (i := 33) rfl))) (mvT hZ (hw _ (List.mem_of_getElem? (i := 37) rfl))) (by decide) (backOf (W := 0) (rmC_5 l Z a0 hw [] ca va kc k2 y0 y1 y2 y3 y4 h2 n0 Z2 V_c_3 V_va O_va ne_ca_va hy0 hy1 hy2 hy3 hy4) hZ (hw _ (List.mem_of_getElem? (i := 37) rfl)) (hw _ (List.mem_of_getElem? (i := 33) rfl)) (by decide) (by decide)) (g := (mkF m 9 #[.val (.ref ca), .val (.int (0 : Int32)), .val (.int (5 : Int32)), .val (.ref va), .unset, .unset] [(.int (5 : Int32)), (.int (0 : Int32)), (.ref va), (.int (0 : Int32)), (.ref ca)])) rfl (by rw [hml]; rfl) (argsL := [(.ref ca), (.int (0 : Int32)), (.ref va), (.int (0 : Int32)), (.int (5 : Int32))]) (rest := []) (lenOf pd_0 rfl) rfl (by show 2 * 0 + _ ≤ _; exact Nat.le_of_eq rfl) (hb hby d6_9) (fun _ _ => ⟨rfl, e2, (Nat.le_of_ble_eq_true rfl), (Nat.le_of_ble_eq_true rfl)⟩)
  dsimp only [Pt.U, Pt.locs, Pt.cells, Pt.slots] at X5 l5 y5 z5 st5 hQ5
  subst l5 y5 z5
  obtain ⟨rfl, N5q, K5, V4⟩ := hQ5
  have N5 := Fr.app N0 N5q
  have pre5s : ∀ tg, Steps p.tables e below (T5.setTop (mkF m 12 #[.val (.ref ca), .val (.int (0 : Int32)), .val (.int (5 : Int32)), .val (.ref va), .unset, .unset] [(.int (5 : Int32))])) tg → G tg := fun tg kt => pre4 tg (st5 tg kt)
  have Z5 : n0 ≤ T5.heap.size := Nat.le_trans Z2 K5.1
  have V_c_6 := V_c_3.keep K5 (ninS ne_ca_va nin0)
  have KK5 : Keep h0 T5.heap [] := K2.trans K5 (allS (Or.inr S_va) all0)
  obtain ⟨fs, hr, hrun, hended, hW, hsame⟩ := X5.leave (v := some (.ref va)) (fun h => by rw [Bd.returns] at h; cases h)
  subst hG
  refine ⟨_, _, pre5s _ ?_, hrun, hended, _, _, rfl, ?_, ⟨_, rfl⟩, hW, hsame.mono (by decide) (by decide)⟩
  · skip
    show Steps p.tables e below (T5.setTop (mkF m 12 #[.val (.ref ca), .val (.int (0 : Int32)), .val (.int (5 : Int32)), .val (.ref va), .unset, .unset] [(.int (5 : Int32))])) _
    refine XS.istore X5.here hx rfl (hb hby d6_12) rfl (l' := #[.val (.ref ca), .val (.int (0 : Int32)), .val (.int (5 : Int32)), .val (.ref va), .val (.int (5 : Int32)), .unset]) rfl ?_
    show Steps p.tables e below (T5.setTop (mkF m 14 #[.val (.ref ca), .val (.int (0 : Int32)), .val (.int (5 : Int32)), .val (.ref va), .val (.int (5 : Int32)), .unset] [])) _
    refine XS.iload X5.here hx rfl (hb hby d6_14) rfl ?_
    show Steps p.tables e below (T5.setTop (mkF m 16 #[.val (.ref ca), .val (.int (0 : Int32)), .val (.int (5 : Int32)), .val (.ref va), .val (.int (5 : Int32)), .unset] [(.int (5 : Int32))])) _
    refine XS.iloadN X5.here hx rfl (hb hby d6_16) rfl ?_
    show Steps p.tables e below (T5.setTop (mkF m 17 #[.val (.ref ca), .val (.int (0 : Int32)), .val (.int (5 : Int32)), .val (.ref va), .val (.int (5 : Int32)), .unset] [(.int (5 : Int32)), (.int (5 : Int32))])) _
    refine XS.icmpYes X5.here hx rfl (pc0 := 17) (pc' := 57) rfl (hb hby d6_17) rfl (teq (by decide : (5 : Int32) = (5 : Int32))).1 (by decide) (by decide) ?_
    show Steps p.tables e below (T5.setTop (mkF m 57 #[.val (.ref ca), .val (.int (0 : Int32)), .val (.int (5 : Int32)), .val (.ref va), .val (.int (5 : Int32)), .unset] [])) _
    refine XS.aloadN X5.here hx rfl (hb hby d6_57) rfl rfl ?_
    show Steps p.tables e below (T5.setTop (mkF m 58 #[.val (.ref ca), .val (.int (0 : Int32)), .val (.int (5 : Int32)), .val (.ref va), .val (.int (5 : Int32)), .unset] [(.ref va)])) _
    jvm_step X5.here [X5.here.top, hx, (hb hby d6_58), X5.method', Bd.returns, Value.isRef, FieldType.isReference]
    first | (intro acts; rw [hr _ acts rfl rfl rfl]) | rw [hr _ _ rfl rfl rfl]
    exact Steps.refl _
  · show Q_rmD_5 Z ca kc y0 y1 y2 y3 y4 h0 n0 _ T5.heap _
    exact ⟨va, _, rfl, N5, KK5, S_va, V4⟩
def Q_rmE_5 (Z : State) (b : Addr) (kb : ClassId) (x0 x1 x2 x3 x4 : Int32) (h0 : Heap) (n0 : Nat) (v : Option Value) (h : Heap) (L : List Loc) : Prop := v = some (.int (0 : Int32)) ∧ Fr n0 L ∧ h = h0
set_option maxRecDepth 65536 in
set_option maxHeartbeats 40000000 in
theorem rmE_5 (l : Launch) (Z : State) (a0 : Array Value) (hw : ∀ d ∈ tables_1, d.before a0 Z = true) (ws : List Jvm.Cond) (b : Addr) (kb : ClassId) (x0 x1 x2 x3 x4 : Int32) (h0 : Heap) (n0 : Nat) (Z0 : n0 ≤ h0.size) (V_b : Arv Z h0 b kb .byte (5 : Int32) [(.int x0), (.int x1), (.int x2), (.int x3), (.int x4)] (.int (0 : Int32))) :
    MetFree l (⟨"java/lang/StringUTF16", "coderFromArrayLen", "([BI)B"⟩ : MethodName) (head1 (Jvm.Cond.code (⟨"java/lang/StringUTF16", "coderFromArrayLen", "([BI)B"⟩ : MethodName) jdk_52_method_15_code 2 (some .byte) :: ws) ({ frames := 0, cells := 0, slots := 0, locals := 0 } : Room)) (fun argv U => argv = #[(.ref b), (.int (5 : Int32))] ∧ Z.Warmed39 U.vm ∧ U.heap = h0) (fun _ _ _ _ _ => True) (fun _ U o U' => ∃ v L, o = .returned v ∧ Q_rmE_5 Z b kb x0 x1 x2 x3 x4 h0 n0 v U'.heap L ∧ FrameEnd U o U' L ({ frames := 0, cells := 0, slots := 0, locals := 0 } : Room).cells ({ frames := 0, cells := 0, slots := 0, locals := 0 } : Room).slots) := by
  refine MetFree.of_bodySF (plainFor_of_name pn_8) hisR ?_
  intro p e s m args below meth c s₁ Bd hml0 hP hK
  obtain ⟨rfl, hZ, hh⟩ := hP
  have hx := Bd.exec
  have hby := Bd.bytes
  have hml : c.maxLocals = 2 := hml0
  have hown : s.vm.findClass "java/lang/StringUTF16" = some m.cls := findClass_of_methodNamed Bd.named
  have hnm := (name_of_methodNamed Bd.named Bd.method).1
  have X0 : Stand p l e ({ frames := 0, cells := 0, slots := 0, locals := 0 } : Room) s m #[(.ref b), (.int (5 : Int32))] below meth c s₁ [] 0 0 := Stand.of_body Bd
  have e0 : s₁.heap = h0 := by rw [← hh, Bd.state]; rfl
  have N0 := Fr.nil n0
  obtain ⟨G, hG⟩ : ∃ G : State → Prop, G = fun tg => Steps p.tables e below (s₁.setTop (entryFrame m #[(.ref b), (.int (5 : Int32))] 2)) tg := ⟨_, rfl⟩
  have pre0 : ∀ tg, Steps p.tables e below (s₁.setTop (mkF m 0 #[.val (.ref b), .val (.int (5 : Int32))] [])) tg → G tg := fun tg kt => by rw [hG]; exact castTop (ef_8_R_I m b (5 : Int32)) kt
  have pre1 : ∀ tg, Steps p.tables e below (s₁.setTop (mkF m 2 #[.val (.ref b), .val (.int (5 : Int32))] [(.ref b), (.int (5 : Int32))])) tg → G tg := fun tg kt => pre0 tg (by
    show Steps p.tables e below (s₁.setTop (mkF m 0 #[.val (.ref b), .val (.int (5 : Int32))] [])) _
    refine XS.iloadN X0.here hx rfl (hb hby d8_0) rfl ?_
    show Steps p.tables e below (s₁.setTop (mkF m 1 #[.val (.ref b), .val (.int (5 : Int32))] [(.int (5 : Int32))])) _
    refine XS.aloadN X0.here hx rfl (hb hby d8_1) rfl rfl ?_
    exact kt)
  have op_2 := V_b
  obtain ⟨cl_2, Ar_2, q_2, S_2, Ng_2, H_2, G_2⟩ := op_2
  obtain ⟨fs, hr, hrun, hended, hW, hsame⟩ := X0.leave (v := some (.int (0 : Int32))) (fun h => by rw [Bd.returns] at h; cases h)
  subst hG
  refine ⟨_, _, pre1 _ ?_, hrun, hended, _, _, rfl, ?_, ⟨_, rfl⟩, hW, hsame.mono (by decide) (by decide)⟩
  · skip
    show Steps p.tables e below (s₁.setTop (mkF m 2 #[.val (.ref b), .val (.int (5 : Int32))] [(.ref b), (.int (5 : Int32))])) _
    refine X0.arraylength hx (by rw [e0]; exact Ar_2.1) (State.isArrayOf_alike hZ.alike Ar_2.2.1) (g := (mkF m 2 #[.val (.ref b), .val (.int (5 : Int32))] [(.ref b), (.int (5 : Int32))])) rfl rfl (hb hby d8_2) _ ?_
    rw [len_of S_2 Ng_2]
    show Steps p.tables e below (s₁.setTop (mkF m 3 #[.val (.ref b), .val (.int (5 : Int32))] [(.int (5 : Int32)), (.int (5 : Int32))])) _
    refine XS.isub X0.here hx rfl (hb hby d8_3) rfl ?_
    show Steps p.tables e below (s₁.setTop (mkF m 4 #[.val (.ref b), .val (.int (5 : Int32))] [(.int (0 : Int32))])) _
    refine XS.bipush X0.here hx rfl (hb hby d8_4) ?_
    show Steps p.tables e below (s₁.setTop (mkF m 6 #[.val (.ref b), .val (.int (5 : Int32))] [(.int (31 : Int32)), (.int (0 : Int32))])) _
    refine XS.iushr X0.here hx rfl (hb hby d8_6) rfl ?_
    show Steps p.tables e below (s₁.setTop (mkF m 7 #[.val (.ref b), .val (.int (5 : Int32))] [(.int (0 : Int32))])) _
    refine XS.i2b X0.here hx rfl (hb hby d8_7) rfl ?_
    show Steps p.tables e below (s₁.setTop (mkF m 8 #[.val (.ref b), .val (.int (5 : Int32))] [(.int (0 : Int32))])) _
    exact retN X0 hx (t := .byte) Bd.returns (by simp) (hb hby d8_8) hr
  · show Q_rmE_5 Z b kb x0 x1 x2 x3 x4 h0 n0 _ s₁.heap _
    rw [e0]
    exact ⟨rfl, N0, rfl⟩
def Q_rmI_5 (Z : State) (a ca : Addr) (kc : ClassId) (y0 y1 y2 y3 y4 : Int32) (h0 : Heap) (n0 : Nat) (v : Option Value) (h : Heap) (L : List Loc) : Prop := v = none ∧ Fr n0 L ∧ Keep h0 h [a] ∧ own_s Z h a (5 : Int32)
set_option maxRecDepth 65536 in
set_option maxHeartbeats 40000000 in
theorem rmI_5 (l : Launch) (Z : State) (a0 : Array Value) (hw : ∀ d ∈ tables_1, d.before a0 Z = true) (ws : List Jvm.Cond) (a ca : Addr) (kc : ClassId) (y0 y1 y2 y3 y4 : Int32) (h0 : Heap) (n0 : Nat) (Z0 : n0 ≤ h0.size) (hs : own_st Z) (Ol : Old Z n0 h0) (E_a : Exa Z h0 a "java/lang/String") (F_c : Fld Z h0 a "java/lang/String" "coder" "B" (.int (0 : Int32))) (F_v : Fld Z h0 a "java/lang/String" "value" "[B" .null) (O_a : n0 ≤ a) (ne_a_c : ca ≠ a) (V_c : Arv Z h0 ca kc .char (5 : Int32) [(.int y0), (.int y1), (.int y2), (.int y3), (.int y4)] (.int (0 : Int32))) (hy0 : own_y y0) (hy1 : own_y y1) (hy2 : own_y y2) (hy3 : own_y y3) (hy4 : own_y y4) :
    MetFree l (⟨"java/lang/String", "<init>", "([CIILjava/lang/Void;)V"⟩ : MethodName) (head1 (Jvm.Cond.code (⟨"java/lang/String", "<init>", "([CIILjava/lang/Void;)V"⟩ : MethodName) jdk_42_method_149_code 6 none :: ws) ({ frames := 2, cells := 1, slots := 5, locals := 48 } : Room)) (fun argv U => argv = #[(.ref a), (.ref ca), (.int (0 : Int32)), (.int (5 : Int32)), .null] ∧ Z.Warmed39 U.vm ∧ U.heap = h0) (fun _ _ _ _ _ => True) (fun _ U o U' => ∃ v L, o = .returned v ∧ Q_rmI_5 Z a ca kc y0 y1 y2 y3 y4 h0 n0 v U'.heap L ∧ FrameEnd U o U' L ({ frames := 2, cells := 1, slots := 5, locals := 48 } : Room).cells ({ frames := 2, cells := 1, slots := 5, locals := 48 } : Room).slots) := by
  refine MetFree.of_bodySF (plainFor_of_name pn_3) hisR ?_
  intro p e s m args below meth c s₁ Bd hml0 hP hK
  obtain ⟨rfl, hZ, hh⟩ := hP
  have hx := Bd.exec
  have hby := Bd.bytes
  have hml : c.maxLocals = 6 := hml0
  have hown : s.vm.findClass "java/lang/String" = some m.cls := findClass_of_methodNamed Bd.named
  have hnm := (name_of_methodNamed Bd.named Bd.method).1
  have X0 : Stand p l e ({ frames := 2, cells := 1, slots := 5, locals := 48 } : Room) s m #[(.ref a), (.ref ca), (.int (0 : Int32)), (.int (5 : Int32)), .null] below meth c s₁ [] 0 0 := Stand.of_body Bd
  have e0 : s₁.heap = h0 := by rw [← hh, Bd.state]; rfl
  have N0 := Fr.nil n0
  obtain ⟨G, hG⟩ : ∃ G : State → Prop, G = fun tg => Steps p.tables e below (s₁.setTop (entryFrame m #[(.ref a), (.ref ca), (.int (0 : Int32)), (.int (5 : Int32)), .null] 6)) tg := ⟨_, rfl⟩
  have pre0 : ∀ tg, Steps p.tables e below (s₁.setTop (mkF m 0 #[.val (.ref a), .val (.ref ca), .val (.int (0 : Int32)), .val (.int (5 : Int32)), .val .null, .unset] [])) tg → G tg := fun tg kt => by rw [hG]; exact castTop (ef_3_R_R_I_I_n m a ca (0 : Int32) (5 : Int32) ) kt
  have pre1 : ∀ tg, Steps p.tables e below (s₁.setTop (mkF m 1 #[.val (.ref a), .val (.ref ca), .val (.int (0 : Int32)), .val (.int (5 : Int32)), .val .null, .unset] [(.ref a)])) tg → G tg := fun tg kt => pre0 tg (by
    show Steps p.tables e below (s₁.setTop (mkF m 0 #[.val (.ref a), .val (.ref ca), .val (.int (0 : Int32)), .val (.int (5 : Int32)), .val .null, .unset] [])) _
    refine XS.aloadN X0.here hx rfl (hb hby d3_0) rfl rfl ?_
    exact kt)
  obtain ⟨T2, X2, e2, st2⟩ := initO X0 hx hZ hown (hw _ (List.mem_of_getElem? (i := 16) rfl)) (hw _ (List.mem_of_getElem? (i := 17) rfl)) (hw _ (List.mem_of_getElem? (i := 18) rfl)) e0 (g := (mkF m 1 #[.val (.ref a), .val (.ref ca), .val (.int (0 : Int32)), .val (.int (5 : Int32)), .val .null, .unset] [(.ref a)])) rfl (by rw [hml]; rfl) rfl (hb hby d3_1) (by decide) (W := 0) (by show 2 * 0 + _ ≤ _; exact Nat.le_of_eq rfl) (by decide)
  have pre2s : ∀ tg, Steps p.tables e below (T2.setTop (mkF m 4 #[.val (.ref a), .val (.ref ca), .val (.int (0 : Int32)), .val (.int (5 : Int32)), .val .null, .unset] [])) tg → G tg := fun tg kt => pre1 tg (st2 tg kt)
  have pre4 : ∀ tg, Steps p.tables e below (T2.setTop (mkF m 27 #[.val (.ref a), .val (.ref ca), .val (.int (0 : Int32)), .val (.int (5 : Int32)), .val .null, .unset] [])) tg → G tg := fun tg kt => pre2s tg (by
    show Steps p.tables e below (T2.setTop (mkF m 4 #[.val (.ref a), .val (.ref ca), .val (.int (0 : Int32)), .val (.int (5 : Int32)), .val .null, .unset] [])) _
    refine XS.iloadN X2.here hx rfl (hb hby d3_4) rfl ?_
    show Steps p.tables e below (T2.setTop (mkF m 5 #[.val (.ref a), .val (.ref ca), .val (.int (0 : Int32)), .val (.int (5 : Int32)), .val .null, .unset] [(.int (5 : Int32))])) _
    refine XS.ifYes X2.here hx rfl (pc0 := 5) (pc' := 27) rfl (hb hby d3_5) rfl ((if0 _ _).trans (feq (by decide : ¬ ((5 : Int32) = (0 : Int32)))).2) (by decide) (by decide) ?_
    exact kt)
  have hs3' := hs
  obtain ⟨cs, S_c, hcs⟩ := hs3'
  obtain ⟨T5, X5, e5, st5⟩ := getS2 X2 hx hZ hown (host := "") (Or.inl (hw _ (List.mem_of_getElem? (i := 30) rfl))) Via.refl e2 (Sta.ext Ol.2 S_c) (g := (mkF m 27 #[.val (.ref a), .val (.ref ca), .val (.int (0 : Int32)), .val (.int (5 : Int32)), .val .null, .unset] [])) rfl (hb hby d3_27)
  have pre5s : ∀ tg, Steps p.tables e below (T5.setTop (mkF m 30 #[.val (.ref a), .val (.ref ca), .val (.int (0 : Int32)), .val (.int (5 : Int32)), .val .null, .unset] [(.int cs)])) tg → G tg := fun tg kt => pre4 tg (st5 tg kt)
  have pre6 : ∀ tg, Steps p.tables e below (T5.setTop (mkF m 36 #[.val (.ref a), .val (.ref ca), .val (.int (0 : Int32)), .val (.int (5 : Int32)), .val .null, .unset] [(.int (5 : Int32)), (.int (0 : Int32)), (.ref ca)])) tg → G tg := fun tg kt => pre5s tg (by
    show Steps p.tables e below (T5.setTop (mkF m 30 #[.val (.ref a), .val (.ref ca), .val (.int (0 : Int32)), .val (.int (5 : Int32)), .val .null, .unset] [(.int cs)])) _
    refine XS.ifNo X5.here hx rfl (hb hby d3_30) rfl ((if0 _ _).trans (feq hcs).1) ?_
    show Steps p.tables e below (T5.setTop (mkF m 33 #[.val (.ref a), .val (.ref ca), .val (.int (0 : Int32)), .val (.int (5 : Int32)), .val .null, .unset] [])) _
    refine XS.aloadN X5.here hx rfl (hb hby d3_33) rfl rfl ?_
    show Steps p.tables e below (T5.setTop (mkF m 34 #[.val (.ref a), .val (.ref ca), .val (.int (0 : Int32)), .val (.int (5 : Int32)), .val .null, .unset] [(.ref ca)])) _
    refine XS.iloadN X5.here hx rfl (hb hby d3_34) rfl ?_
    show Steps p.tables e below (T5.setTop (mkF m 35 #[.val (.ref a), .val (.ref ca), .val (.int (0 : Int32)), .val (.int (5 : Int32)), .val .null, .unset] [(.int (0 : Int32)), (.ref ca)])) _
    refine XS.iloadN X5.here hx rfl (hb hby d3_35) rfl ?_
    exact kt)
  obtain ⟨_, _, ⟨T7, L7, k7, n7⟩, -, X7, ⟨Lc7, hQ7, l7, y7, z7⟩, st7⟩ := Jvm.LawKit.callS X5 hx (y := (⟨"java/lang/StringUTF16", "compress", "([CII)[B"⟩ : MethodName)) hown (mvT hZ (hw _ (List.mem_of_getElem? (i := 31) rfl))) (mvT hZ (hw _ (List.mem_of_getElem? (i := 32) rfl))) (mvT hZ (hw _ (List.mem_of_getElem? (i := 33) rfl))) (mvT hZ (hw _ (List.mem_of_getElem? (i := 34) rfl))) (by decide) (backOf (W := 0) (rmD_5 l Z a0 hw [] ca kc y0 y1 y2 y3 y4 h0 n0 Z0 V_c hy0 hy1 hy2 hy3 hy4) hZ (hw _ (List.mem_of_getElem? (i := 34) rfl)) (hw _ (List.mem_of_getElem? (i := 33) rfl)) (by decide) (by decide)) (g := (mkF m 36 #[.val (.ref a), .val (.ref ca), .val (.int (0 : Int32)), .val (.int (5 : Int32)), .val .null, .unset] [(.int (5 : Int32)), (.int (0 : Int32)), (.ref ca)])) rfl (by rw [hml]; rfl) (argsL := [(.ref ca), (.int (0 : Int32)), (.int (5 : Int32))]) (rest := []) (lenOf pd_1 rfl) rfl (by show 2 * 0 + _ ≤ _; exact Nat.le_of_eq rfl) (hb hby d3_36) (fun _ _ => ⟨rfl, e5, (Nat.le_of_ble_eq_true rfl), (Nat.le_of_ble_eq_true rfl)⟩)
  dsimp only [Pt.U, Pt.locs, Pt.cells, Pt.slots] at X7 l7 y7 z7 st7 hQ7
  subst l7 y7 z7
  obtain ⟨va, kv, rfl, N7q, K7, Sz, V_v⟩ := hQ7
  have N7 := Fr.app N0 N7q
  have pre7s : ∀ tg, Steps p.tables e below (T7.setTop (mkF m 39 #[.val (.ref a), .val (.ref ca), .val (.int (0 : Int32)), .val (.int (5 : Int32)), .val .null, .unset] [(.ref va)])) tg → G tg := fun tg kt => pre6 tg (st7 tg kt)
  have Z7 : n0 ≤ T7.heap.size := Nat.le_trans Z0 K7.1
  have E_a_8 := E_a.keep K7
  have F_c_9 := F_c.keep K7 nin0
  have F_v_10 := F_v.keep K7 nin0
  have V_c_11 := V_c.keep K7 nin0
  have Ol12 := Ol.keep K7 all0
  have KK7 : Keep h0 T7.heap [a] := (Keep.refl h0 [a]).trans K7 all0
  have ne_v_a : va ≠ a := Ne.symm (Nat.ne_of_lt (Nat.lt_of_lt_of_le E_a.lt Sz))
  have pre13 : ∀ tg, Steps p.tables e below (T7.setTop (mkF m 45 #[.val (.ref a), .val (.ref ca), .val (.int (0 : Int32)), .val (.int (5 : Int32)), .val .null, .val (.ref va)] [(.int (5 : Int32)), (.ref va), (.ref a)])) tg → G tg := fun tg kt => pre7s tg (by
    show Steps p.tables e below (T7.setTop (mkF m 39 #[.val (.ref a), .val (.ref ca), .val (.int (0 : Int32)), .val (.int (5 : Int32)), .val .null, .unset] [(.ref va)])) _
    refine XS.astore X7.here hx rfl (hb hby d3_39) rfl rfl (l' := #[.val (.ref a), .val (.ref ca), .val (.int (0 : Int32)), .val (.int (5 : Int32)), .val .null, .val (.ref va)]) rfl ?_
    show Steps p.tables e below (T7.setTop (mkF m 41 #[.val (.ref a), .val (.ref ca), .val (.int (0 : Int32)), .val (.int (5 : Int32)), .val .null, .val (.ref va)] [])) _
    refine XS.aloadN X7.here hx rfl (hb hby d3_41) rfl rfl ?_
    show Steps p.tables e below (T7.setTop (mkF m 42 #[.val (.ref a), .val (.ref ca), .val (.int (0 : Int32)), .val (.int (5 : Int32)), .val .null, .val (.ref va)] [(.ref a)])) _
    refine XS.aload X7.here hx rfl (hb hby d3_42) rfl rfl ?_
    show Steps p.tables e below (T7.setTop (mkF m 44 #[.val (.ref a), .val (.ref ca), .val (.int (0 : Int32)), .val (.int (5 : Int32)), .val .null, .val (.ref va)] [(.ref va), (.ref a)])) _
    refine XS.iloadN X7.here hx rfl (hb hby d3_44) rfl ?_
    exact kt)
  obtain ⟨_, _, ⟨T14, L14, k14, n14⟩, -, X14, ⟨Lc14, hQ14, l14, y14, z14⟩, st14⟩ := Jvm.LawKit.callS X7 hx (y := (⟨"java/lang/StringUTF16", "coderFromArrayLen", "([BI)B"⟩ : MethodName)) hown (mvT hZ (hw _ (List.mem_of_getElem? (i := 38) rfl))) (mvT hZ (hw _ (List.mem_of_getElem? (i := 39) rfl))) (mvT hZ (hw _ (List.mem_of_getElem? (i := 33) rfl))) (mvT hZ (hw _ (List.mem_of_getElem? (i := 40) rfl))) (by decide) (backOf (W := 1) (rmE_5 l Z a0 hw [] va kv (y0.toInt8.toInt32.toInt8.toInt32) (y1.toInt8.toInt32.toInt8.toInt32) (y2.toInt8.toInt32.toInt8.toInt32) (y3.toInt8.toInt32.toInt8.toInt32) (y4.toInt8.toInt32.toInt8.toInt32) T7.heap n0 Z7 V_v) hZ (hw _ (List.mem_of_getElem? (i := 40) rfl)) (hw _ (List.mem_of_getElem? (i := 33) rfl)) (by decide) (by decide)) (g := (mkF m 45 #[.val (.ref a), .val (.ref ca), .val (.int (0 : Int32)), .val (.int (5 : Int32)), .val .null, .val (.ref va)] [(.int (5 : Int32)), (.ref va), (.ref a)])) rfl (by rw [hml]; rfl) (argsL := [(.ref va), (.int (5 : Int32))]) (rest := [(.ref a)]) (lenOf pd_2 rfl) rfl (by show 2 * 0 + _ ≤ _; exact Nat.le_of_eq rfl) (hb hby d3_45) (fun _ _ => ⟨rfl, rfl, (Nat.le_of_ble_eq_true rfl), (Nat.le_of_ble_eq_true rfl)⟩)
  dsimp only [Pt.U, Pt.locs, Pt.cells, Pt.slots] at X14 l14 y14 z14 st14 hQ14
  subst l14 y14 z14
  obtain ⟨rfl, N14q, e14⟩ := hQ14
  have N14 := Fr.app N7 N14q
  have pre14s : ∀ tg, Steps p.tables e below (T14.setTop (mkF m 48 #[.val (.ref a), .val (.ref ca), .val (.int (0 : Int32)), .val (.int (5 : Int32)), .val .null, .val (.ref va)] [(.int (0 : Int32)), (.ref a)])) tg → G tg := fun tg kt => pre13 tg (st14 tg kt)
  obtain ⟨T15, h15, X15, e15, W15, st15⟩ := putFN X14 hx hZ hown (hw _ (List.mem_of_getElem? (i := 26) rfl)) Via.refl e14 F_c_9 E_a_8 (Or.inr ⟨(hw _ (List.mem_of_getElem? (i := 22) rfl)), rfl, hnm⟩) (hw _ (List.mem_of_getElem? (i := 6) rfl)) (ty := .byte) (v' := (.int (0 : Int32))) (by decide) rfl rfl (g := (mkF m 48 #[.val (.ref a), .val (.ref ca), .val (.int (0 : Int32)), .val (.int (5 : Int32)), .val .null, .val (.ref va)] [(.int (0 : Int32)), (.ref a)])) rfl rfl (hb hby d3_48)
  have pre15s : ∀ tg, Steps p.tables e below (T15.setTop (mkF m 51 #[.val (.ref a), .val (.ref ca), .val (.int (0 : Int32)), .val (.int (5 : Int32)), .val .null, .val (.ref va)] [])) tg → G tg := fun tg kt => pre14s tg (st15 tg kt)
  have E_a_16 := E_a_8.wr W15
  have F_c_17 := F_c_9.same W15
  have F_v_18 := F_v_10.other W15 (Or.inr (slot_ne (Or.inr (hw _ (List.mem_of_getElem? (i := 21) rfl))) (Or.inr (hw _ (List.mem_of_getElem? (i := 22) rfl))) (by decide) (t := (.array .byte)) (t' := .byte) (by decide) (by decide)))
  have V_c_19 := V_c_11.other W15 ne_a_c
  have V_v_20 := V_v.other W15 ne_v_a
  have Ol21 := Ol12.wr W15 O_a
  have N15 := Fr.snoc X15 N14 O_a
  have Z15 : n0 ≤ h15.size := Nat.le_trans Z7 (Keep.of_wr W15).1
  have K15 : Keep h0 h15 [a] := KK7.wr W15 (Or.inl (List.mem_of_getElem? (i := 0) rfl))
  have pre22 : ∀ tg, Steps p.tables e below (T15.setTop (mkF m 54 #[.val (.ref a), .val (.ref ca), .val (.int (0 : Int32)), .val (.int (5 : Int32)), .val .null, .val (.ref va)] [(.ref va), (.ref a)])) tg → G tg := fun tg kt => pre15s tg (by
    show Steps p.tables e below (T15.setTop (mkF m 51 #[.val (.ref a), .val (.ref ca), .val (.int (0 : Int32)), .val (.int (5 : Int32)), .val .null, .val (.ref va)] [])) _
    refine XS.aloadN X15.here hx rfl (hb hby d3_51) rfl rfl ?_
    show Steps p.tables e below (T15.setTop (mkF m 52 #[.val (.ref a), .val (.ref ca), .val (.int (0 : Int32)), .val (.int (5 : Int32)), .val .null, .val (.ref va)] [(.ref a)])) _
    refine XS.aload X15.here hx rfl (hb hby d3_52) rfl rfl ?_
    exact kt)
  obtain ⟨T23, h23, X23, e23, W23, st23⟩ := putF X15 hx hZ hown (host := "") (Or.inl (hw _ (List.mem_of_getElem? (i := 25) rfl))) Via.refl e15 F_v_18 E_a_16 (Or.inr ⟨(hw _ (List.mem_of_getElem? (i := 21) rfl)), rfl, hnm⟩) (hw _ (List.mem_of_getElem? (i := 6) rfl)) (ty := (.array .byte)) (by decide) rfl rfl (g := (mkF m 54 #[.val (.ref a), .val (.ref ca), .val (.int (0 : Int32)), .val (.int (5 : Int32)), .val .null, .val (.ref va)] [(.ref va), (.ref a)])) rfl rfl (hb hby d3_54)
  have pre23s : ∀ tg, Steps p.tables e below (T23.setTop (mkF m 57 #[.val (.ref a), .val (.ref ca), .val (.int (0 : Int32)), .val (.int (5 : Int32)), .val .null, .val (.ref va)] [])) tg → G tg := fun tg kt => pre22 tg (st23 tg kt)
  have E_a_24 := E_a_16.wr W23
  have F_c_25 := F_c_17.other W23 (Or.inr (slot_ne (Or.inr (hw _ (List.mem_of_getElem? (i := 22) rfl))) (Or.inr (hw _ (List.mem_of_getElem? (i := 21) rfl))) (by decide) (t := .byte) (t' := (.array .byte)) (by decide) (by decide)))
  have F_v_26 := F_v_18.same W23
  have V_c_27 := V_c_19.other W23 ne_a_c
  have V_v_28 := V_v_20.other W23 ne_v_a
  have Ol29 := Ol21.wr W23 O_a
  have N23 := Fr.snoc X23 N15 O_a
  have Z23 : n0 ≤ h23.size := Nat.le_trans Z15 (Keep.of_wr W23).1
  have K23 : Keep h0 h23 [a] := K15.wr W23 (Or.inl (List.mem_of_getElem? (i := 0) rfl))
  obtain ⟨fs, hr, hrun, hended, hW, hsame⟩ := X23.leave (v := none) (fun _ => rfl)
  subst hG
  refine ⟨_, _, pre23s _ ?_, hrun, hended, _, _, rfl, ?_, ⟨_, rfl⟩, hW, hsame.mono (by decide) (by decide)⟩
  · skip
    show Steps p.tables e below (T23.setTop (mkF m 57 #[.val (.ref a), .val (.ref ca), .val (.int (0 : Int32)), .val (.int (5 : Int32)), .val .null, .val (.ref va)] [])) _
    exact X23.returnOut hx Bd.returns (hb hby d3_57) hr
  · show Q_rmI_5 Z a ca kc y0 y1 y2 y3 y4 h0 n0 _ T23.heap _
    rw [e23]
    exact ⟨rfl, N23, K23, va, kv, _, F_c_25, F_v_26, V_v_28⟩
def Q_rmJ_5 (Z : State) (a ca : Addr) (kc : ClassId) (y0 y1 y2 y3 y4 : Int32) (h0 : Heap) (n0 : Nat) (v : Option Value) (h : Heap) (L : List Loc) : Prop := v = none ∧ Fr n0 L ∧ Keep h0 h [a] ∧ own_s Z h a (5 : Int32)
set_option maxRecDepth 65536 in
set_option maxHeartbeats 40000000 in
theorem rmJ_5 (l : Launch) (Z : State) (a0 : Array Value) (hw : ∀ d ∈ tables_1, d.before a0 Z = true) (ws : List Jvm.Cond) (a ca : Addr) (kc : ClassId) (y0 y1 y2 y3 y4 : Int32) (h0 : Heap) (n0 : Nat) (Z0 : n0 ≤ h0.size) (hs : own_st Z) (Ol : Old Z n0 h0) (E_a : Exa Z h0 a "java/lang/String") (F_c : Fld Z h0 a "java/lang/String" "coder" "B" (.int (0 : Int32))) (F_v : Fld Z h0 a "java/lang/String" "value" "[B" .null) (O_a : n0 ≤ a) (ne_a_c : ca ≠ a) (V_c : Arv Z h0 ca kc .char (5 : Int32) [(.int y0), (.int y1), (.int y2), (.int y3), (.int y4)] (.int (0 : Int32))) (hy0 : own_y y0) (hy1 : own_y y1) (hy2 : own_y y2) (hy3 : own_y y3) (hy4 : own_y y4) :
    MetFree l (⟨"java/lang/String", "<init>", "([C)V"⟩ : MethodName) (head1 (Jvm.Cond.code (⟨"java/lang/String", "<init>", "([C)V"⟩ : MethodName) jdk_42_method_3_code 2 none :: ws) ({ frames := 3, cells := 1, slots := 5, locals := 72 } : Room)) (fun argv U => argv = #[(.ref a), (.ref ca)] ∧ Z.Warmed39 U.vm ∧ U.heap = h0) (fun _ _ _ _ _ => True) (fun _ U o U' => ∃ v L, o = .returned v ∧ Q_rmJ_5 Z a ca kc y0 y1 y2 y3 y4 h0 n0 v U'.heap L ∧ FrameEnd U o U' L ({ frames := 3, cells := 1, slots := 5, locals := 72 } : Room).cells ({ frames := 3, cells := 1, slots := 5, locals := 72 } : Room).slots) := by
  refine MetFree.of_bodySF (plainFor_of_name pn_2) hisR ?_
  intro p e s m args below meth c s₁ Bd hml0 hP hK
  obtain ⟨rfl, hZ, hh⟩ := hP
  have hx := Bd.exec
  have hby := Bd.bytes
  have hml : c.maxLocals = 2 := hml0
  have hown : s.vm.findClass "java/lang/String" = some m.cls := findClass_of_methodNamed Bd.named
  have hnm := (name_of_methodNamed Bd.named Bd.method).1
  have X0 : Stand p l e ({ frames := 3, cells := 1, slots := 5, locals := 72 } : Room) s m #[(.ref a), (.ref ca)] below meth c s₁ [] 0 0 := Stand.of_body Bd
  have e0 : s₁.heap = h0 := by rw [← hh, Bd.state]; rfl
  have N0 := Fr.nil n0
  obtain ⟨G, hG⟩ : ∃ G : State → Prop, G = fun tg => Steps p.tables e below (s₁.setTop (entryFrame m #[(.ref a), (.ref ca)] 2)) tg := ⟨_, rfl⟩
  have pre0 : ∀ tg, Steps p.tables e below (s₁.setTop (mkF m 0 #[.val (.ref a), .val (.ref ca)] [])) tg → G tg := fun tg kt => by rw [hG]; exact castTop (ef_2_R_R m a ca) kt
  have pre1 : ∀ tg, Steps p.tables e below (s₁.setTop (mkF m 4 #[.val (.ref a), .val (.ref ca)] [(.ref ca), (.int (0 : Int32)), (.ref ca), (.ref a)])) tg → G tg := fun tg kt => pre0 tg (by
    show Steps p.tables e below (s₁.setTop (mkF m 0 #[.val (.ref a), .val (.ref ca)] [])) _
    refine XS.aloadN X0.here hx rfl (hb hby d2_0) rfl rfl ?_
    show Steps p.tables e below (s₁.setTop (mkF m 1 #[.val (.ref a), .val (.ref ca)] [(.ref a)])) _
    refine XS.aloadN X0.here hx rfl (hb hby d2_1) rfl rfl ?_
    show Steps p.tables e below (s₁.setTop (mkF m 2 #[.val (.ref a), .val (.ref ca)] [(.ref ca), (.ref a)])) _
    refine XS.iconst X0.here hx rfl (hb hby d2_2) ?_
    show Steps p.tables e below (s₁.setTop (mkF m 3 #[.val (.ref a), .val (.ref ca)] [(.int (0 : Int32)), (.ref ca), (.ref a)])) _
    refine XS.aloadN X0.here hx rfl (hb hby d2_3) rfl rfl ?_
    exact kt)
  have op_2 := V_c
  obtain ⟨cl_2, Ar_2, q_2, S_2, Ng_2, H_2, G_2⟩ := op_2
  have pre3 : ∀ tg, Steps p.tables e below (s₁.setTop (mkF m 6 #[.val (.ref a), .val (.ref ca)] [.null, (.int (5 : Int32)), (.int (0 : Int32)), (.ref ca), (.ref a)])) tg → G tg := fun tg kt => pre1 tg (by
    show Steps p.tables e below (s₁.setTop (mkF m 4 #[.val (.ref a), .val (.ref ca)] [(.ref ca), (.int (0 : Int32)), (.ref ca), (.ref a)])) _
    refine X0.arraylength hx (by rw [e0]; exact Ar_2.1) (State.isArrayOf_alike hZ.alike Ar_2.2.1) (g := (mkF m 4 #[.val (.ref a), .val (.ref ca)] [(.ref ca), (.int (0 : Int32)), (.ref ca), (.ref a)])) rfl rfl (hb hby d2_4) _ ?_
    rw [len_of S_2 Ng_2]
    show Steps p.tables e below (s₁.setTop (mkF m 5 #[.val (.ref a), .val (.ref ca)] [(.int (5 : Int32)), (.int (0 : Int32)), (.ref ca), (.ref a)])) _
    refine XS.aconstNull X0.here hx rfl (hb hby d2_5) ?_
    exact kt)
  obtain ⟨_, _, ⟨T4, L4, k4, n4⟩, -, X4, ⟨Lc4, hQ4, l4, y4, z4⟩, st4⟩ := X0.specialBack hx (y := (⟨"java/lang/String", "<init>", "([CIILjava/lang/Void;)V"⟩ : MethodName)) rfl hown (mvT hZ (hw _ (List.mem_of_getElem? (i := 12) rfl))) (mvT hZ (hw _ (List.mem_of_getElem? (i := 13) rfl))) (mvT hZ (hw _ (List.mem_of_getElem? (i := 15) rfl))) (by decide) (backOf (W := 0) (rmI_5 l Z a0 hw [] a ca kc y0 y1 y2 y3 y4 h0 n0 Z0 hs Ol E_a F_c F_v O_a ne_a_c V_c hy0 hy1 hy2 hy3 hy4) hZ (hw _ (List.mem_of_getElem? (i := 15) rfl)) (hw _ (List.mem_of_getElem? (i := 7) rfl)) (by decide) (by decide)) (g := (mkF m 6 #[.val (.ref a), .val (.ref ca)] [.null, (.int (5 : Int32)), (.int (0 : Int32)), (.ref ca), (.ref a)])) rfl (by rw [hml]; rfl) (Steps.refl _) (a := a) (argsL := [(.ref ca), (.int (0 : Int32)), (.int (5 : Int32)), .null]) (rest := []) (lenOf pd_3 rfl) rfl (by show 2 * 0 + _ ≤ _; exact Nat.le_of_eq rfl) (hb hby d2_6) (fun _ _ => ⟨rfl, e0, (Nat.le_of_ble_eq_true rfl), (Nat.le_of_ble_eq_true rfl)⟩)
  dsimp only [Pt.U, Pt.locs, Pt.cells, Pt.slots] at X4 l4 y4 z4 st4 hQ4
  subst l4 y4 z4
  obtain ⟨rfl, N4q, K4, Tx⟩ := hQ4
  have N4 := Fr.app N0 N4q
  have pre4s : ∀ tg, Steps p.tables e below (T4.setTop (mkF m 9 #[.val (.ref a), .val (.ref ca)] [])) tg → G tg := fun tg kt => pre3 tg (st4.trans kt)
  have Z4 : n0 ≤ T4.heap.size := Nat.le_trans Z0 K4.1
  have E_a_5 := E_a.keep K4
  have V_c_6 := V_c.keep K4 (ninS ne_a_c nin0)
  have Ol7 := Ol.keep K4 (allS O_a all0)
  have KK4 : Keep h0 T4.heap [a] := (Keep.refl h0 [a]).trans K4 (allS (Or.inl (List.mem_of_getElem? (i := 0) rfl)) all0)
  obtain ⟨fs, hr, hrun, hended, hW, hsame⟩ := X4.leave (v := none) (fun _ => rfl)
  subst hG
  refine ⟨_, _, pre4s _ ?_, hrun, hended, _, _, rfl, ?_, ⟨_, rfl⟩, hW, hsame.mono (by decide) (by decide)⟩
  · skip
    show Steps p.tables e below (T4.setTop (mkF m 9 #[.val (.ref a), .val (.ref ca)] [])) _
    exact X4.returnOut hx Bd.returns (hb hby d2_9) hr
  · show Q_rmJ_5 Z a ca kc y0 y1 y2 y3 y4 h0 n0 _ T4.heap _
    exact ⟨rfl, N4, KK4, Tx⟩
theorem d3_8 : decode jdk_42_method_149_code 8 = .ok (.aload_n 0, 1) := by decide +kernel
theorem d3_9 : decode jdk_42_method_149_code 9 = .ok (.ldc 7, 2) := by decide +kernel
theorem d3_11 : decode jdk_42_method_149_code 11 = .ok (.getfield 9, 3) := by decide +kernel
theorem d3_14 : decode jdk_42_method_149_code 14 = .ok (.putfield 9, 3) := by decide +kernel
theorem d3_17 : decode jdk_42_method_149_code 17 = .ok (.aload_n 0, 1) := by decide +kernel
theorem d3_18 : decode jdk_42_method_149_code 18 = .ok (.ldc 7, 2) := by decide +kernel
theorem d3_20 : decode jdk_42_method_149_code 20 = .ok (.getfield 15, 3) := by decide +kernel
theorem d3_23 : decode jdk_42_method_149_code 23 = .ok (.putfield 15, 3) := by decide +kernel
theorem d3_26 : decode jdk_42_method_149_code 26 = .ok (.return_, 1) := by decide +kernel
def Q_rmI_0 (Z : State) (a ca : Addr) (h0 : Heap) (n0 : Nat) (v : Option Value) (h : Heap) (L : List Loc) : Prop := v = none ∧ Fr n0 L ∧ Keep h0 h [a] ∧ own_s Z h a (0 : Int32)
set_option maxRecDepth 65536 in
set_option maxHeartbeats 40000000 in
theorem rmI_0 (l : Launch) (Z : State) (a0 : Array Value) (hw : ∀ d ∈ tables_1, d.before a0 Z = true) (ws : List Jvm.Cond) (a ca : Addr) (h0 : Heap) (n0 : Nat) (Z0 : n0 ≤ h0.size) (E_a : Exa Z h0 a "java/lang/String") (F_c : Fld Z h0 a "java/lang/String" "coder" "B" (.int (0 : Int32))) (F_v : Fld Z h0 a "java/lang/String" "value" "[B" .null) (O_a : n0 ≤ a) :
    MetFree l (⟨"java/lang/String", "<init>", "([CIILjava/lang/Void;)V"⟩ : MethodName) (head1 (Jvm.Cond.code (⟨"java/lang/String", "<init>", "([CIILjava/lang/Void;)V"⟩ : MethodName) jdk_42_method_149_code 6 none :: ws) ({ frames := 2, cells := 2, slots := 4, locals := 48 } : Room)) (fun argv U => argv = #[(.ref a), (.ref ca), (.int (0 : Int32)), (.int (0 : Int32)), .null] ∧ Z.Warmed39 U.vm ∧ U.heap = h0 ∧ CHv Z own_EL U.vm h0) (fun _ _ _ _ _ => True) (fun _ U o U' => ∃ v L, o = .returned v ∧ Q_rmI_0 Z a ca h0 n0 v U'.heap L ∧ CHr Z own_EL U.vm U.heap U'.vm U'.heap ∧ ReturnedEndW U o U' L ({ frames := 2, cells := 2, slots := 4, locals := 48 } : Room).cells ({ frames := 2, cells := 2, slots := 4, locals := 48 } : Room).slots) := by
  refine MetFree.of_bodySF (plainFor_of_name pn_3) hisR ?_
  intro p e s m args below meth c s₁ Bd hml0 hP hK
  obtain ⟨rfl, hZ, hh, hCH⟩ := hP
  have hx := Bd.exec
  have hby := Bd.bytes
  have hml : c.maxLocals = 6 := hml0
  have hown : s.vm.findClass "java/lang/String" = some m.cls := findClass_of_methodNamed Bd.named
  have hnm := (name_of_methodNamed Bd.named Bd.method).1
  have X0 : Stand p l e ({ frames := 2, cells := 2, slots := 4, locals := 48 } : Room) s m #[(.ref a), (.ref ca), (.int (0 : Int32)), (.int (0 : Int32)), .null] below meth c s₁ [] 0 0 := Stand.of_body Bd
  have e0 : s₁.heap = h0 := by rw [← hh, Bd.state]; rfl
  have N0 := Fr.nil n0
  obtain ⟨G, hG⟩ : ∃ G : State → Prop, G = fun tg => Steps p.tables e below (s₁.setTop (entryFrame m #[(.ref a), (.ref ca), (.int (0 : Int32)), (.int (0 : Int32)), .null] 6)) tg := ⟨_, rfl⟩
  have pre0 : ∀ tg, Steps p.tables e below (s₁.setTop (mkF m 0 #[.val (.ref a), .val (.ref ca), .val (.int (0 : Int32)), .val (.int (0 : Int32)), .val .null, .unset] [])) tg → G tg := fun tg kt => by rw [hG]; exact castTop (ef_3_R_R_I_I_n m a ca (0 : Int32) (0 : Int32) ) kt
  have hS : s.Since s.vm 0 := (State.WarmedH.refl s).since 0
  have hkz : 0 ≤ h0.size := Nat.zero_le _
  have X0 : Stand p l e ({ frames := 2, cells := 2, slots := 4, locals := 48 } : Room) (s.setVm s.vm) m #[(.ref a), (.ref ca), (.int (0 : Int32)), (.int (0 : Int32)), .null] below meth c s₁ [] 0 0 := X0
  have hEL := own_EW hw
  have wS := own_wS hw
  have ch0 : CHr Z own_EL s.vm h0 s.vm h0 := CHr.refl hCH
  have sf_a : Safe Z own_EL s.vm h0 a := own_safe hZ.alike E_a F_v
  have pre1 : ∀ tg, Steps p.tables e below (s₁.setTop (mkF m 1 #[.val (.ref a), .val (.ref ca), .val (.int (0 : Int32)), .val (.int (0 : Int32)), .val .null, .unset] [(.ref a)])) tg → G tg := fun tg kt => pre0 tg (by
    show Steps p.tables e below (s₁.setTop (mkF m 0 #[.val (.ref a), .val (.ref ca), .val (.int (0 : Int32)), .val (.int (0 : Int32)), .val .null, .unset] [])) _
    refine XS.aloadN X0.here hx rfl (hb hby d3_0) rfl rfl ?_
    exact kt)
  obtain ⟨T2, X2, e2, st2⟩ := initO X0 hx hZ hown (hw _ (List.mem_of_getElem? (i := 16) rfl)) (hw _ (List.mem_of_getElem? (i := 17) rfl)) (hw _ (List.mem_of_getElem? (i := 18) rfl)) e0 (g := (mkF m 1 #[.val (.ref a), .val (.ref ca), .val (.int (0 : Int32)), .val (.int (0 : Int32)), .val .null, .unset] [(.ref a)])) rfl (by rw [hml]; rfl) rfl (hb hby d3_1) (by decide) (W := 0) (by show 2 * 0 + _ ≤ _; exact Nat.le_of_eq rfl) (by decide)
  have pre2s : ∀ tg, Steps p.tables e below (T2.setTop (mkF m 4 #[.val (.ref a), .val (.ref ca), .val (.int (0 : Int32)), .val (.int (0 : Int32)), .val .null, .unset] [])) tg → G tg := fun tg kt => pre1 tg (st2 tg kt)
  have pre3 : ∀ tg, Steps p.tables e below (T2.setTop (mkF m 9 #[.val (.ref a), .val (.ref ca), .val (.int (0 : Int32)), .val (.int (0 : Int32)), .val .null, .unset] [(.ref a)])) tg → G tg := fun tg kt => pre2s tg (by
    show Steps p.tables e below (T2.setTop (mkF m 4 #[.val (.ref a), .val (.ref ca), .val (.int (0 : Int32)), .val (.int (0 : Int32)), .val .null, .unset] [])) _
    refine XS.iloadN X2.here hx rfl (hb hby d3_4) rfl ?_
    show Steps p.tables e below (T2.setTop (mkF m 5 #[.val (.ref a), .val (.ref ca), .val (.int (0 : Int32)), .val (.int (0 : Int32)), .val .null, .unset] [(.int (0 : Int32))])) _
    refine XS.ifNo X2.here hx rfl (hb hby d3_5) rfl ((if0 _ _).trans (teq (by decide : (0 : Int32) = (0 : Int32))).2) ?_
    show Steps p.tables e below (T2.setTop (mkF m 8 #[.val (.ref a), .val (.ref ca), .val (.int (0 : Int32)), .val (.int (0 : Int32)), .val .null, .unset] [])) _
    refine XS.aloadN X2.here hx rfl (hb hby d3_8) rfl rfl ?_
    exact kt)
  obtain ⟨l0, T4, h4, kk4, lb, k4, X4, e4, E4, hS4, hk4, hZ, hown, E_l0, C_l0, F_l0, V_l0, lt_l0, lt_lb, chn4, Li4, neq4, st4⟩ := ldcCH (vm0 := s.vm) (s := s) (EL := own_EL) X2 hx hZ hown (hw _ (List.mem_of_getElem? (i := 19) rfl)) wS e2 hS hkz hEL (by decide) ch0.1 (vs := []) (z := (0 : Int32)) ⟨by decide, by decide⟩ (by decide) (by decide) (g := (mkF m 9 #[.val (.ref a), .val (.ref ca), .val (.int (0 : Int32)), .val (.int (0 : Int32)), .val .null, .unset] [(.ref a)])) rfl (hb hby d3_9) (n := 0) (by decide) (by decide) (by decide) (by decide)
  have pre4s : ∀ tg, Steps p.tables e below (T4.setTop (mkF m 11 #[.val (.ref a), .val (.ref ca), .val (.int (0 : Int32)), .val (.int (0 : Int32)), .val .null, .unset] [(.ref l0), (.ref a)])) tg → G tg := fun tg kt => pre3 tg (st4 tg kt)
  have E_a_5 := E_a.ext E4
  have F_c_6 := F_c.ext E4
  have F_v_7 := F_v.ext E4
  have Z4 : n0 ≤ h4.size := Nat.le_trans Z0 E4.1
  have K4 : Keep h0 h4 [a] := (Keep.refl h0 [a]).ext E4
  have ch4 := ch0.trans chn4
  have sf4_a := chn4.safe E_a.lt sf_a
  obtain ⟨T8, X8, e8, st8⟩ := getF X4 hx hZ hown (host := "") (Or.inl (hw _ (List.mem_of_getElem? (i := 25) rfl))) Via.refl e4 F_l0 (g := (mkF m 11 #[.val (.ref a), .val (.ref ca), .val (.int (0 : Int32)), .val (.int (0 : Int32)), .val .null, .unset] [(.ref l0), (.ref a)])) rfl rfl (hb hby d3_11)
  have pre8s : ∀ tg, Steps p.tables e below (T8.setTop (mkF m 14 #[.val (.ref a), .val (.ref ca), .val (.int (0 : Int32)), .val (.int (0 : Int32)), .val .null, .unset] [(.ref lb), (.ref a)])) tg → G tg := fun tg kt => pre4s tg (st8 tg kt)
  obtain ⟨T9, h9, X9, e9, W9, st9⟩ := putF X8 hx hZ hown (host := "") (Or.inl (hw _ (List.mem_of_getElem? (i := 25) rfl))) Via.refl e8 F_v_7 E_a_5 (Or.inr ⟨(hw _ (List.mem_of_getElem? (i := 21) rfl)), rfl, hnm⟩) (hw _ (List.mem_of_getElem? (i := 6) rfl)) (ty := (.array .byte)) (by decide) rfl rfl (g := (mkF m 14 #[.val (.ref a), .val (.ref ca), .val (.int (0 : Int32)), .val (.int (0 : Int32)), .val .null, .unset] [(.ref lb), (.ref a)])) rfl rfl (hb hby d3_14)
  have pre9s : ∀ tg, Steps p.tables e below (T9.setTop (mkF m 17 #[.val (.ref a), .val (.ref ca), .val (.int (0 : Int32)), .val (.int (0 : Int32)), .val .null, .unset] [])) tg → G tg := fun tg kt => pre8s tg (st9 tg kt)
  have ch10 := ch4.trans (CHr.wr W9 sf4_a ch4.1)
  have hk10 := Nat.le_trans hk4 (Keep.of_wr W9).1
  have sf10_a := Safe.wr W9 sf4_a ch4.1 sf4_a
  have E_a_11 := E_a_5.wr W9
  have F_c_12 := F_c_6.other W9 (Or.inr (slot_ne (Or.inr (hw _ (List.mem_of_getElem? (i := 22) rfl))) (Or.inr (hw _ (List.mem_of_getElem? (i := 21) rfl))) (by decide) (t := .byte) (t' := (.array .byte)) (by decide) (by decide)))
  have F_v_13 := F_v_7.same W9
  have E_l0_14 := E_l0.wr W9
  have C_l0_15 := C_l0.other W9 (Or.inl (Ne.symm (neq4 a sf4_a).1))
  have F_l0_16 := F_l0.other W9 (Or.inl (Ne.symm (neq4 a sf4_a).1))
  have V_l0_17 := V_l0.other W9 (Ne.symm (neq4 a sf4_a).2)
  have N9 := Fr.snoc X9 N0 O_a
  have Z9 : n0 ≤ h9.size := Nat.le_trans Z4 (Keep.of_wr W9).1
  have K9 : Keep h0 h9 [a] := K4.wr W9 (Or.inl (List.mem_of_getElem? (i := 0) rfl))
  have pre18 : ∀ tg, Steps p.tables e below (T9.setTop (mkF m 20 #[.val (.ref a), .val (.ref ca), .val (.int (0 : Int32)), .val (.int (0 : Int32)), .val .null, .unset] [(.ref l0), (.ref a)])) tg → G tg := fun tg kt => pre9s tg (by
    show Steps p.tables e below (T9.setTop (mkF m 17 #[.val (.ref a), .val (.ref ca), .val (.int (0 : Int32)), .val (.int (0 : Int32)), .val .null, .unset] [])) _
    refine XS.aloadN X9.here hx rfl (hb hby d3_17) rfl rfl ?_
    show Steps p.tables e below (T9.setTop (mkF m 18 #[.val (.ref a), .val (.ref ca), .val (.int (0 : Int32)), .val (.int (0 : Int32)), .val .null, .unset] [(.ref a)])) _
    refine ldcAgain (vm0 := T4.vm) (s := s) X9 hx hZ hown (hw _ (List.mem_of_getElem? (i := 19) rfl)) Li4 (g := (mkF m 18 #[.val (.ref a), .val (.ref ca), .val (.int (0 : Int32)), .val (.int (0 : Int32)), .val .null, .unset] [(.ref a)])) rfl (hb hby d3_18) _ ?_
    exact kt)
  obtain ⟨T19, X19, e19, st19⟩ := getF X9 hx hZ hown (host := "") (Or.inl (hw _ (List.mem_of_getElem? (i := 26) rfl))) Via.refl e9 C_l0_15 (g := (mkF m 20 #[.val (.ref a), .val (.ref ca), .val (.int (0 : Int32)), .val (.int (0 : Int32)), .val .null, .unset] [(.ref l0), (.ref a)])) rfl rfl (hb hby d3_20)
  have pre19s : ∀ tg, Steps p.tables e below (T19.setTop (mkF m 23 #[.val (.ref a), .val (.ref ca), .val (.int (0 : Int32)), .val (.int (0 : Int32)), .val .null, .unset] [(.int (0 : Int32)), (.ref a)])) tg → G tg := fun tg kt => pre18 tg (st19 tg kt)
  obtain ⟨T20, h20, X20, e20, W20, st20⟩ := putFN X19 hx hZ hown (hw _ (List.mem_of_getElem? (i := 26) rfl)) Via.refl e19 F_c_12 E_a_11 (Or.inr ⟨(hw _ (List.mem_of_getElem? (i := 22) rfl)), rfl, hnm⟩) (hw _ (List.mem_of_getElem? (i := 6) rfl)) (ty := .byte) (v' := (.int (0 : Int32))) (by decide) rfl rfl (g := (mkF m 23 #[.val (.ref a), .val (.ref ca), .val (.int (0 : Int32)), .val (.int (0 : Int32)), .val .null, .unset] [(.int (0 : Int32)), (.ref a)])) rfl rfl (hb hby d3_23)
  have pre20s : ∀ tg, Steps p.tables e below (T20.setTop (mkF m 26 #[.val (.ref a), .val (.ref ca), .val (.int (0 : Int32)), .val (.int (0 : Int32)), .val .null, .unset] [])) tg → G tg := fun tg kt => pre19s tg (st20 tg kt)
  have ch21 := ch10.trans (CHr.wr W20 sf10_a ch10.1)
  have hk21 := Nat.le_trans hk10 (Keep.of_wr W20).1
  have sf21_a := Safe.wr W20 sf10_a ch10.1 sf10_a
  have E_a_22 := E_a_11.wr W20
  have F_c_23 := F_c_12.same W20
  have F_v_24 := F_v_13.other W20 (Or.inr (slot_ne (Or.inr (hw _ (List.mem_of_getElem? (i := 21) rfl))) (Or.inr (hw _ (List.mem_of_getElem? (i := 22) rfl))) (by decide) (t := (.array .byte)) (t' := .byte) (by decide) (by decide)))
  have E_l0_25 := E_l0_14.wr W20
  have C_l0_26 := C_l0_15.other W20 (Or.inl (Ne.symm (neq4 a sf4_a).1))
  have F_l0_27 := F_l0_16.other W20 (Or.inl (Ne.symm (neq4 a sf4_a).1))
  have V_l0_28 := V_l0_17.other W20 (Ne.symm (neq4 a sf4_a).2)
  have N20 := Fr.snoc X20 N9 O_a
  have Z20 : n0 ≤ h20.size := Nat.le_trans Z9 (Keep.of_wr W20).1
  have K20 : Keep h0 h20 [a] := K9.wr W20 (Or.inl (List.mem_of_getElem? (i := 0) rfl))
  obtain ⟨fs, hr, hrun, hended, hRE⟩ := X20.leaveW (s := s) (vm₁ := T4.vm) (v := none) hS4 (by rw [e20]; exact hk21) (fun _ => rfl)
  have chL := ch21.trans (CHv.at (s := s) (vm0 := T4.vm) X20 hZ hEL ch21.1)
  subst hG
  refine ⟨_, _, pre20s _ ?_, hrun, hended, _, _, rfl, ?_, ?_, hRE.1, hRE.2.1, hRE.2.2.1, hRE.2.2.2.mono (by decide) (by decide)⟩
  · skip
    show Steps p.tables e below (T20.setTop (mkF m 26 #[.val (.ref a), .val (.ref ca), .val (.int (0 : Int32)), .val (.int (0 : Int32)), .val .null, .unset] [])) _
    exact X20.returnOut hx Bd.returns (hb hby d3_26) hr
  · show Q_rmI_0 Z a ca h0 n0 _ T20.heap _
    rw [e20]
    exact ⟨rfl, N20, K20, lb, _, _, F_c_23, F_v_24, V_l0_28⟩
  · show CHr Z own_EL s.vm s.heap T20.vm T20.heap
    rw [hh, e20]; exact chL
def Q_rmJ_0 (Z : State) (a ca : Addr) (kc : ClassId) (h0 : Heap) (n0 : Nat) (v : Option Value) (h : Heap) (L : List Loc) : Prop := v = none ∧ Fr n0 L ∧ Keep h0 h [a] ∧ own_s Z h a (0 : Int32)
set_option maxRecDepth 65536 in
set_option maxHeartbeats 40000000 in
theorem rmJ_0 (l : Launch) (Z : State) (a0 : Array Value) (hw : ∀ d ∈ tables_1, d.before a0 Z = true) (ws : List Jvm.Cond) (a ca : Addr) (kc : ClassId) (h0 : Heap) (n0 : Nat) (Z0 : n0 ≤ h0.size) (E_a : Exa Z h0 a "java/lang/String") (F_c : Fld Z h0 a "java/lang/String" "coder" "B" (.int (0 : Int32))) (F_v : Fld Z h0 a "java/lang/String" "value" "[B" .null) (O_a : n0 ≤ a) (V_c : Arv Z h0 ca kc .char (0 : Int32) [] (.int (0 : Int32))) :
    MetFree l (⟨"java/lang/String", "<init>", "([C)V"⟩ : MethodName) (head1 (Jvm.Cond.code (⟨"java/lang/String", "<init>", "([C)V"⟩ : MethodName) jdk_42_method_3_code 2 none :: ws) ({ frames := 3, cells := 2, slots := 4, locals := 72 } : Room)) (fun argv U => argv = #[(.ref a), (.ref ca)] ∧ Z.Warmed39 U.vm ∧ U.heap = h0 ∧ CHv Z own_EL U.vm h0) (fun _ _ _ _ _ => True) (fun _ U o U' => ∃ v L, o = .returned v ∧ Q_rmJ_0 Z a ca kc h0 n0 v U'.heap L ∧ CHr Z own_EL U.vm U.heap U'.vm U'.heap ∧ ReturnedEndW U o U' L ({ frames := 3, cells := 2, slots := 4, locals := 72 } : Room).cells ({ frames := 3, cells := 2, slots := 4, locals := 72 } : Room).slots) := by
  refine MetFree.of_bodySF (plainFor_of_name pn_2) hisR ?_
  intro p e s m args below meth c s₁ Bd hml0 hP hK
  obtain ⟨rfl, hZ, hh, hCH⟩ := hP
  have hx := Bd.exec
  have hby := Bd.bytes
  have hml : c.maxLocals = 2 := hml0
  have hown : s.vm.findClass "java/lang/String" = some m.cls := findClass_of_methodNamed Bd.named
  have hnm := (name_of_methodNamed Bd.named Bd.method).1
  have X0 : Stand p l e ({ frames := 3, cells := 2, slots := 4, locals := 72 } : Room) s m #[(.ref a), (.ref ca)] below meth c s₁ [] 0 0 := Stand.of_body Bd
  have e0 : s₁.heap = h0 := by rw [← hh, Bd.state]; rfl
  have N0 := Fr.nil n0
  obtain ⟨G, hG⟩ : ∃ G : State → Prop, G = fun tg => Steps p.tables e below (s₁.setTop (entryFrame m #[(.ref a), (.ref ca)] 2)) tg := ⟨_, rfl⟩
  have pre0 : ∀ tg, Steps p.tables e below (s₁.setTop (mkF m 0 #[.val (.ref a), .val (.ref ca)] [])) tg → G tg := fun tg kt => by rw [hG]; exact castTop (ef_2_R_R m a ca) kt
  have hS : s.Since s.vm 0 := (State.WarmedH.refl s).since 0
  have hkz : 0 ≤ h0.size := Nat.zero_le _
  have X0 : Stand p l e ({ frames := 3, cells := 2, slots := 4, locals := 72 } : Room) (s.setVm s.vm) m #[(.ref a), (.ref ca)] below meth c s₁ [] 0 0 := X0
  have hEL := own_EW hw
  have wS := own_wS hw
  have ch0 : CHr Z own_EL s.vm h0 s.vm h0 := CHr.refl hCH
  have sf_a : Safe Z own_EL s.vm h0 a := own_safe hZ.alike E_a F_v
  have pre1 : ∀ tg, Steps p.tables e below (s₁.setTop (mkF m 4 #[.val (.ref a), .val (.ref ca)] [(.ref ca), (.int (0 : Int32)), (.ref ca), (.ref a)])) tg → G tg := fun tg kt => pre0 tg (by
    show Steps p.tables e below (s₁.setTop (mkF m 0 #[.val (.ref a), .val (.ref ca)] [])) _
    refine XS.aloadN X0.here hx rfl (hb hby d2_0) rfl rfl ?_
    show Steps p.tables e below (s₁.setTop (mkF m 1 #[.val (.ref a), .val (.ref ca)] [(.ref a)])) _
    refine XS.aloadN X0.here hx rfl (hb hby d2_1) rfl rfl ?_
    show Steps p.tables e below (s₁.setTop (mkF m 2 #[.val (.ref a), .val (.ref ca)] [(.ref ca), (.ref a)])) _
    refine XS.iconst X0.here hx rfl (hb hby d2_2) ?_
    show Steps p.tables e below (s₁.setTop (mkF m 3 #[.val (.ref a), .val (.ref ca)] [(.int (0 : Int32)), (.ref ca), (.ref a)])) _
    refine XS.aloadN X0.here hx rfl (hb hby d2_3) rfl rfl ?_
    exact kt)
  have op_2 := V_c
  obtain ⟨cl_2, Ar_2, q_2, S_2, Ng_2, H_2, G_2⟩ := op_2
  have pre3 : ∀ tg, Steps p.tables e below (s₁.setTop (mkF m 6 #[.val (.ref a), .val (.ref ca)] [.null, (.int (0 : Int32)), (.int (0 : Int32)), (.ref ca), (.ref a)])) tg → G tg := fun tg kt => pre1 tg (by
    show Steps p.tables e below (s₁.setTop (mkF m 4 #[.val (.ref a), .val (.ref ca)] [(.ref ca), (.int (0 : Int32)), (.ref ca), (.ref a)])) _
    refine X0.arraylength hx (by rw [e0]; exact Ar_2.1) (State.isArrayOf_alike hZ.alike Ar_2.2.1) (g := (mkF m 4 #[.val (.ref a), .val (.ref ca)] [(.ref ca), (.int (0 : Int32)), (.ref ca), (.ref a)])) rfl rfl (hb hby d2_4) _ ?_
    rw [len_of S_2 Ng_2]
    show Steps p.tables e below (s₁.setTop (mkF m 5 #[.val (.ref a), .val (.ref ca)] [(.int (0 : Int32)), (.int (0 : Int32)), (.ref ca), (.ref a)])) _
    refine XS.aconstNull X0.here hx rfl (hb hby d2_5) ?_
    exact kt)
  obtain ⟨_, _, ⟨T4, L4, k4, n4⟩, -, X4, hS4q, hg4, ⟨Lc4, hQ4, l4, y4, z4, chn4⟩, st4⟩ := X0.specialBackS hx (y := (⟨"java/lang/String", "<init>", "([CIILjava/lang/Void;)V"⟩ : MethodName)) rfl hown (mvT hZ (hw _ (List.mem_of_getElem? (i := 12) rfl))) (mvT hZ (hw _ (List.mem_of_getElem? (i := 13) rfl))) (mvT hZ (hw _ (List.mem_of_getElem? (i := 15) rfl))) (by decide) (backOfSH (vm0 := s.vm) (s := s) (EL := own_EL) (W := 0) (rmI_0 l Z a0 hw [] a ca h0 n0 Z0 E_a F_c F_v O_a) hZ (hw _ (List.mem_of_getElem? (i := 15) rfl)) (hw _ (List.mem_of_getElem? (i := 7) rfl)) (by decide) (by decide) hEL ch0.1) (g := (mkF m 6 #[.val (.ref a), .val (.ref ca)] [.null, (.int (0 : Int32)), (.int (0 : Int32)), (.ref ca), (.ref a)])) rfl (by rw [hml]; rfl) (Steps.refl _) (a := a) (argsL := [(.ref ca), (.int (0 : Int32)), (.int (0 : Int32)), .null]) (rest := []) (lenOf pd_3 rfl) rfl (by show 2 * 0 + _ ≤ _; exact Nat.le_of_eq rfl) (hb hby d2_6) (fun _ _ => ⟨rfl, e0, (Nat.le_of_ble_eq_true rfl), (Nat.le_of_ble_eq_true rfl)⟩)
  dsimp only [Pt.U, Pt.locs, Pt.cells, Pt.slots] at X4 l4 y4 z4 st4 hQ4 hS4q hg4 chn4
  subst l4 y4 z4
  obtain ⟨rfl, N4q, K4, Tx⟩ := hQ4
  have N4 := Fr.app N0 N4q
  have X4 : Stand p l e ({ frames := 3, cells := 2, slots := 4, locals := 72 } : Room) (s.setVm T4.vm) m #[(.ref a), (.ref ca)] below meth c _ _ _ _ := X4
  have hg4' : h0.size ≤ T4.heap.size := by have q := hg4; rw [e0] at q; exact q
  have hS4 : s.Since T4.vm T4.heap.size := hS.trans hS4q (Nat.le_trans hkz hg4')
  have hk4 : T4.heap.size ≤ T4.heap.size := Nat.le_refl _
  have hown : (s.setVm T4.vm).vm.findClass "java/lang/String" = some m.cls := by rw [show (s.setVm T4.vm).vm = T4.vm from rfl, hS4q.1.alike.findClass]; exact hown
  have hZ : Z.Warmed39 (s.setVm T4.vm).vm := State.Warmed39.trans (t := s.setVm s.vm) hZ hS4q.1
  have ch4 := ch0.trans chn4
  have pre4s : ∀ tg, Steps p.tables e below (T4.setTop (mkF m 9 #[.val (.ref a), .val (.ref ca)] [])) tg → G tg := fun tg kt => pre3 tg (st4.trans kt)
  have Z4 : n0 ≤ T4.heap.size := Nat.le_trans Z0 K4.1
  have E_a_5 := E_a.keep K4
  have KK4 : Keep h0 T4.heap [a] := (Keep.refl h0 [a]).trans K4 (allS (Or.inl (List.mem_of_getElem? (i := 0) rfl)) all0)
  obtain ⟨fs, hr, hrun, hended, hRE⟩ := X4.leaveW (s := s) (vm₁ := T4.vm) (v := none) hS4 (by rw [show T4.heap = T4.heap from rfl]; exact hk4) (fun _ => rfl)
  have chL := ch4.trans (CHv.at (s := s) (vm0 := T4.vm) X4 hZ hEL ch4.1)
  subst hG
  refine ⟨_, _, pre4s _ ?_, hrun, hended, _, _, rfl, ?_, ?_, hRE.1, hRE.2.1, hRE.2.2.1, hRE.2.2.2.mono (by decide) (by decide)⟩
  · skip
    show Steps p.tables e below (T4.setTop (mkF m 9 #[.val (.ref a), .val (.ref ca)] [])) _
    exact X4.returnOut hx Bd.returns (hb hby d2_9) hr
  · show Q_rmJ_0 Z a ca kc h0 n0 _ T4.heap _
    exact ⟨rfl, N4, KK4, Tx⟩
  · show CHr Z own_EL s.vm s.heap T4.vm T4.heap
    rw [hh]; exact chL
def SQ_ (Z : State) (q0 : Int32) (h0 : Heap) (n0 : Nat) (v : Option Value) (h : Heap) (L : List Loc) : Prop := ∃ r : Addr, v = some (.ref r) ∧ Fr n0 L ∧ Keep h0 h [] ∧ Exa Z h r "java/lang/String" ∧ own_s Z h r q0
theorem pn_1 : plainName "com/example/ringfence/ringfence/NumberPatternRankPinLaw" = true := by first | (simp [plainName, overriddenIn]; done) | decide +kernel
theorem ef_1_I_I (m : MethodId) (x0 : Int32) (x1 : Int32) : entryFrame m #[(.int x0), (.int x1)] 2 = mkF m 0 #[.val (.int x0), .val (.int x1)] [] := by first | (simp [entryFrame, mkF, argsToLocals, Value.category]; done) | rfl
theorem pd_4 : parseMethodDescriptor "([C)V" = some ⟨[(.array .char)], none⟩ := by decide +kernel
theorem d1_0 : decode method_4_code 0 = .ok (.iload_n 0, 1) := by decide +kernel
theorem d1_1 : decode method_4_code 1 = .ok (.ifCond .ne 14, 3) := by decide +kernel
theorem d1_4 : decode method_4_code 4 = .ok (.new 32, 3) := by decide +kernel
theorem d1_7 : decode method_4_code 7 = .ok (.dup, 1) := by decide +kernel
theorem d1_8 : decode method_4_code 8 = .ok (.iconst 0, 1) := by decide +kernel
theorem d1_9 : decode method_4_code 9 = .ok (.newarray .char, 2) := by decide +kernel
theorem d1_11 : decode method_4_code 11 = .ok (.invokespecial 34, 3) := by decide +kernel
theorem d1_14 : decode method_4_code 14 = .ok (.areturn, 1) := by decide +kernel
def Q_rmS_0 (Z : State) (p1 : Int32) (h0 : Heap) (n0 : Nat) (v : Option Value) (h : Heap) (L : List Loc) : Prop := SQ_ Z (0 : Int32) h0 n0 v h L
set_option maxRecDepth 65536 in
set_option maxHeartbeats 40000000 in
theorem rmS_0 (l : Launch) (Z : State) (a0 : Array Value) (hw : ∀ d ∈ tables_1, d.before a0 Z = true) (ws : List Jvm.Cond) (p1 : Int32) (h0 : Heap) (n0 : Nat) (Z0 : n0 ≤ h0.size) (hs : own_st Z) (Ol : Old Z n0 h0) :
    MetFree l (⟨"com/example/ringfence/ringfence/NumberPatternRankPinLaw", "str", "(II)Ljava/lang/String;"⟩ : MethodName) (head1 (Jvm.Cond.code (⟨"com/example/ringfence/ringfence/NumberPatternRankPinLaw", "str", "(II)Ljava/lang/String;"⟩ : MethodName) method_4_code 2 (some (.object "java/lang/String")) :: ws) ({ frames := 4, cells := 4, slots := 8, locals := 96 } : Room)) (fun argv U => argv = #[(.int (0 : Int32)), (.int p1)] ∧ Z.Warmed39 U.vm ∧ U.heap = h0 ∧ CHv Z own_EL U.vm h0) (fun _ _ _ _ _ => True) (fun _ U o U' => ∃ v L, o = .returned v ∧ Q_rmS_0 Z p1 h0 n0 v U'.heap L ∧ CHr Z own_EL U.vm U.heap U'.vm U'.heap ∧ ReturnedEndW U o U' L ({ frames := 4, cells := 4, slots := 8, locals := 96 } : Room).cells ({ frames := 4, cells := 4, slots := 8, locals := 96 } : Room).slots) := by
  refine MetFree.of_bodySF (plainFor_of_name pn_1) hisR ?_
  intro p e s m args below meth c s₁ Bd hml0 hP hK
  obtain ⟨rfl, hZ, hh, hCH⟩ := hP
  have hx := Bd.exec
  have hby := Bd.bytes
  have hml : c.maxLocals = 2 := hml0
  have hown : s.vm.findClass "com/example/ringfence/ringfence/NumberPatternRankPinLaw" = some m.cls := findClass_of_methodNamed Bd.named
  have hnm := (name_of_methodNamed Bd.named Bd.method).1
  have X0 : Stand p l e ({ frames := 4, cells := 4, slots := 8, locals := 96 } : Room) s m #[(.int (0 : Int32)), (.int p1)] below meth c s₁ [] 0 0 := Stand.of_body Bd
  have e0 : s₁.heap = h0 := by rw [← hh, Bd.state]; rfl
  have N0 := Fr.nil n0
  obtain ⟨G, hG⟩ : ∃ G : State → Prop, G = fun tg => Steps p.tables e below (s₁.setTop (entryFrame m #[(.int (0 : Int32)), (.int p1)] 2)) tg := ⟨_, rfl⟩
  have pre0 : ∀ tg, Steps p.tables e below (s₁.setTop (mkF m 0 #[.val (.int (0 : Int32)), .val (.int p1)] [])) tg → G tg := fun tg kt => by rw [hG]; exact castTop (ef_1_I_I m (0 : Int32) p1) kt
  have hS : s.Since s.vm 0 := (State.WarmedH.refl s).since 0
  have hkz : 0 ≤ h0.size := Nat.zero_le _
  have X0 : Stand p l e ({ frames := 4, cells := 4, slots := 8, locals := 96 } : Room) (s.setVm s.vm) m #[(.int (0 : Int32)), (.int p1)] below meth c s₁ [] 0 0 := X0
  have hEL := own_EW hw
  have wS := own_wS hw
  have ch0 : CHr Z own_EL s.vm h0 s.vm h0 := CHr.refl hCH
  have pre1 : ∀ tg, Steps p.tables e below (s₁.setTop (mkF m 4 #[.val (.int (0 : Int32)), .val (.int p1)] [])) tg → G tg := fun tg kt => pre0 tg (by
    show Steps p.tables e below (s₁.setTop (mkF m 0 #[.val (.int (0 : Int32)), .val (.int p1)] [])) _
    refine XS.iloadN X0.here hx rfl (hb hby d1_0) rfl ?_
    show Steps p.tables e below (s₁.setTop (mkF m 1 #[.val (.int (0 : Int32)), .val (.int p1)] [(.int (0 : Int32))])) _
    refine XS.ifNo X0.here hx rfl (hb hby d1_1) rfl ((if0 _ _).trans (teq (by decide : (0 : Int32) = (0 : Int32))).2) ?_
    exact kt)
  obtain ⟨T2, h2, X2, e2, E2, A2, D2, -, st2⟩ := newO X0 hx hZ hown (hw _ (List.mem_of_getElem? (i := 5) rfl)) (hw _ (List.mem_of_getElem? (i := 6) rfl)) (hw _ (List.mem_of_getElem? (i := 7) rfl)) e0 (g := (mkF m 4 #[.val (.int (0 : Int32)), .val (.int p1)] [])) rfl (hb hby d1_4) (by decide) (by decide)
  obtain ⟨r, g2⟩ : ∃ z, z = h0.size := ⟨_, rfl⟩
  rw [← g2] at A2 D2 st2
  have O_r : n0 ≤ r := Nat.le_trans Z0 (Nat.le_of_eq g2.symm)
  have Z2 : n0 ≤ h2.size := Nat.le_trans Z0 E2.1
  have S_r : h0.size ≤ r := Nat.le_trans (Keep.refl h0 []).1 (Nat.le_of_eq g2.symm)
  have pre2s : ∀ tg, Steps p.tables e below (T2.setTop (mkF m 7 #[.val (.int (0 : Int32)), .val (.int p1)] [(.ref r)])) tg → G tg := fun tg kt => pre1 tg (st2 tg kt)
  have ch3 := ch0.trans (CHr.ext E2 ch0.1)
  have hk3 := Nat.le_trans hkz E2.1
  have Ol4 := Ol.ext E2
  have Fvalue_r : Fld Z h2 r "java/lang/String" "value" "[B" .null := D2 (Or.inr (hw _ (List.mem_of_getElem? (i := 21) rfl))) (ty := (.array .byte)) (by decide)
  have Fcoder_r : Fld Z h2 r "java/lang/String" "coder" "B" (.int (0 : Int32)) := D2 (Or.inr (hw _ (List.mem_of_getElem? (i := 22) rfl))) (ty := .byte) (by decide)
  have K2 : Keep h0 h2 [] := (Keep.refl h0 []).ext E2
  have pre5 : ∀ tg, Steps p.tables e below (T2.setTop (mkF m 9 #[.val (.int (0 : Int32)), .val (.int p1)] [(.int (0 : Int32)), (.ref r), (.ref r)])) tg → G tg := fun tg kt => pre2s tg (by
    show Steps p.tables e below (T2.setTop (mkF m 7 #[.val (.int (0 : Int32)), .val (.int p1)] [(.ref r)])) _
    refine XS.dup X2.here hx rfl (hb hby d1_7) rfl rfl ?_
    show Steps p.tables e below (T2.setTop (mkF m 8 #[.val (.int (0 : Int32)), .val (.int p1)] [(.ref r), (.ref r)])) _
    refine XS.iconst X2.here hx rfl (hb hby d1_8) ?_
    exact kt)
  obtain ⟨T6, h6, k6, X6, e6, E6, A6, st6⟩ := newP X2 hx hZ (hw _ (List.mem_of_getElem? (i := 8) rfl)) e2 (g := (mkF m 9 #[.val (.int (0 : Int32)), .val (.int p1)] [(.int (0 : Int32)), (.ref r), (.ref r)])) rfl (hb hby d1_9) rfl (by decide) (cap := 0) (by decide) (by decide) (by decide) (by decide)
  obtain ⟨ca, g6⟩ : ∃ z, z = h2.size := ⟨_, rfl⟩
  rw [← g6] at A6 st6
  have O_ca : n0 ≤ ca := Nat.le_trans Z2 (Nat.le_of_eq g6.symm)
  have Z6 : n0 ≤ h6.size := Nat.le_trans Z2 E6.1
  have ne_r_ca : r ≠ ca := Nat.ne_of_lt (Nat.lt_of_lt_of_le A2.lt (Nat.le_of_eq g6.symm))
  have S_ca : h0.size ≤ ca := Nat.le_trans K2.1 (Nat.le_of_eq g6.symm)
  have pre6s : ∀ tg, Steps p.tables e below (T6.setTop (mkF m 11 #[.val (.int (0 : Int32)), .val (.int p1)] [(.ref ca), (.ref r), (.ref r)])) tg → G tg := fun tg kt => pre5 tg (st6 tg kt)
  have ch7 := ch3.trans (CHr.ext E6 ch3.1)
  have hk7 := Nat.le_trans hk3 E6.1
  have A2_8 := A2.ext E6
  have Fvalue_r_9 := Fvalue_r.ext E6
  have Fcoder_r_10 := Fcoder_r.ext E6
  have Ol11 := Ol4.ext E6
  have V_ca : Arv Z h6 ca k6 .char (0 : Int32) [] (.int (0 : Int32)) := (Arv.new A6 (by decide)).pad (pad_rep [] (.int (0 : Int32)) 0)
  have K6 : Keep h0 h6 [] := K2.ext E6
  obtain ⟨_, _, ⟨T12, L12, k12, n12⟩, -, X12, hS12q, hg12, ⟨Lc12, hQ12, l12, y12, z12, chn12⟩, st12⟩ := X6.specialBackS hx (y := (⟨"java/lang/String", "<init>", "([C)V"⟩ : MethodName)) rfl hown (mvT hZ (hw _ (List.mem_of_getElem? (i := 9) rfl))) (mvT hZ (hw _ (List.mem_of_getElem? (i := 10) rfl))) (mvT hZ (hw _ (List.mem_of_getElem? (i := 11) rfl))) (by decide) (backOfSH (vm0 := s.vm) (s := s) (EL := own_EL) (W := 1) (rmJ_0 l Z a0 hw [] r ca k6 h6 n0 Z6 A2_8 Fcoder_r_10 Fvalue_r_9 O_r V_ca) hZ (hw _ (List.mem_of_getElem? (i := 11) rfl)) (hw _ (List.mem_of_getElem? (i := 7) rfl)) (by decide) (by decide) hEL ch7.1) (g := (mkF m 11 #[.val (.int (0 : Int32)), .val (.int p1)] [(.ref ca), (.ref r), (.ref r)])) rfl (by rw [hml]; rfl) (Steps.refl _) (a := r) (argsL := [(.ref ca)]) (rest := [(.ref r)]) (lenOf pd_4 rfl) rfl (by show 2 * 0 + _ ≤ _; exact Nat.le_of_eq rfl) (hb hby d1_11) (fun _ _ => ⟨rfl, e6, (Nat.le_of_ble_eq_true rfl), (Nat.le_of_ble_eq_true rfl)⟩)
  dsimp only [Pt.U, Pt.locs, Pt.cells, Pt.slots] at X12 l12 y12 z12 st12 hQ12 hS12q hg12 chn12
  subst l12 y12 z12
  obtain ⟨rfl, N12q, K12, Tx⟩ := hQ12
  have N12 := Fr.app N0 N12q
  have X12 : Stand p l e ({ frames := 4, cells := 4, slots := 8, locals := 96 } : Room) (s.setVm T12.vm) m #[(.int (0 : Int32)), (.int p1)] below meth c _ _ _ _ := X12
  have hg12' : h6.size ≤ T12.heap.size := by have q := hg12; rw [e6] at q; exact q
  have hS12 : s.Since T12.vm T12.heap.size := hS.trans hS12q (Nat.le_trans hk7 hg12')
  have hk12 : T12.heap.size ≤ T12.heap.size := Nat.le_refl _
  have hown : (s.setVm T12.vm).vm.findClass "com/example/ringfence/ringfence/NumberPatternRankPinLaw" = some m.cls := by rw [show (s.setVm T12.vm).vm = T12.vm from rfl, hS12q.1.alike.findClass]; exact hown
  have hZ : Z.Warmed39 (s.setVm T12.vm).vm := State.Warmed39.trans (t := s.setVm s.vm) hZ hS12q.1
  have ch12 := ch7.trans chn12
  have pre12s : ∀ tg, Steps p.tables e below (T12.setTop (mkF m 14 #[.val (.int (0 : Int32)), .val (.int p1)] [(.ref r)])) tg → G tg := fun tg kt => pre6s tg (st12.trans kt)
  have Z12 : n0 ≤ T12.heap.size := Nat.le_trans Z6 K12.1
  have A2_13 := A2_8.keep K12
  have V_ca_14 := V_ca.keep K12 (ninS (Ne.symm ne_r_ca) nin0)
  have Ol15 := Ol11.keep K12 (allS O_r all0)
  have KK12 : Keep h0 T12.heap [] := K6.trans K12 (allS (Or.inr S_r) all0)
  obtain ⟨fs, hr, hrun, hended, hRE⟩ := X12.leaveW (s := s) (vm₁ := T12.vm) (v := some (.ref r)) hS12 (by rw [show T12.heap = T12.heap from rfl]; exact hk12) (fun h => by rw [Bd.returns] at h; cases h)
  have chL := ch12.trans (CHv.at (s := s) (vm0 := T12.vm) X12 hZ hEL ch12.1)
  subst hG
  refine ⟨_, _, pre12s _ ?_, hrun, hended, _, _, rfl, ?_, ?_, hRE.1, hRE.2.1, hRE.2.2.1, hRE.2.2.2.mono (by decide) (by decide)⟩
  · skip
    show Steps p.tables e below (T12.setTop (mkF m 14 #[.val (.int (0 : Int32)), .val (.int p1)] [(.ref r)])) _
    jvm_step X12.here [X12.here.top, hx, (hb hby d1_14), X12.method', Bd.returns, Value.isRef, FieldType.isReference]
    first | (intro acts; rw [hr _ acts rfl rfl rfl]) | rw [hr _ _ rfl rfl rfl]
    exact Steps.refl _
  · show Q_rmS_0 Z p1 h0 n0 _ T12.heap _
    exact ⟨r, rfl, N12, KK12, A2_13, Tx⟩
  · show CHr Z own_EL s.vm s.heap T12.vm T12.heap
    rw [hh]; exact chL
theorem pd_5 : parseMethodDescriptor "(II)C" = some ⟨[.int, .int], some .char⟩ := by decide +kernel
theorem d1_15 : decode method_4_code 15 = .ok (.iload_n 0, 1) := by decide +kernel
theorem d1_16 : decode method_4_code 16 = .ok (.iconst 1, 1) := by decide +kernel
theorem d1_17 : decode method_4_code 17 = .ok (.if_icmp .ne 22, 3) := by decide +kernel
theorem d1_20 : decode method_4_code 20 = .ok (.new 32, 3) := by decide +kernel
theorem d1_23 : decode method_4_code 23 = .ok (.dup, 1) := by decide +kernel
theorem d1_24 : decode method_4_code 24 = .ok (.iconst 1, 1) := by decide +kernel
theorem d1_25 : decode method_4_code 25 = .ok (.newarray .char, 2) := by decide +kernel
theorem d1_27 : decode method_4_code 27 = .ok (.dup, 1) := by decide +kernel
theorem d1_28 : decode method_4_code 28 = .ok (.iconst 0, 1) := by decide +kernel
theorem d1_29 : decode method_4_code 29 = .ok (.iload_n 1, 1) := by decide +kernel
theorem d1_30 : decode method_4_code 30 = .ok (.iconst 0, 1) := by decide +kernel
theorem d1_31 : decode method_4_code 31 = .ok (.invokestatic 37, 3) := by decide +kernel
theorem d1_34 : decode method_4_code 34 = .ok (.castore, 1) := by decide +kernel
theorem d1_35 : decode method_4_code 35 = .ok (.invokespecial 34, 3) := by decide +kernel
theorem d1_38 : decode method_4_code 38 = .ok (.areturn, 1) := by decide +kernel
def Q_rmS_1 (Z : State) (p1 : Int32) (h0 : Heap) (n0 : Nat) (v : Option Value) (h : Heap) (L : List Loc) : Prop := SQ_ Z (1 : Int32) h0 n0 v h L
set_option maxRecDepth 65536 in
set_option maxHeartbeats 40000000 in
theorem rmS_1 (l : Launch) (Z : State) (a0 : Array Value) (hw : ∀ d ∈ tables_1, d.before a0 Z = true) (ws : List Jvm.Cond) (p1 : Int32) (h0 : Heap) (n0 : Nat) (Z0 : n0 ≤ h0.size) (hs : own_st Z) (Ol : Old Z n0 h0) :
    MetFree l (⟨"com/example/ringfence/ringfence/NumberPatternRankPinLaw", "str", "(II)Ljava/lang/String;"⟩ : MethodName) (head1 (Jvm.Cond.code (⟨"com/example/ringfence/ringfence/NumberPatternRankPinLaw", "str", "(II)Ljava/lang/String;"⟩ : MethodName) method_4_code 2 (some (.object "java/lang/String")) :: ws) ({ frames := 4, cells := 3, slots := 14, locals := 96 } : Room)) (fun argv U => argv = #[(.int (1 : Int32)), (.int p1)] ∧ Z.Warmed39 U.vm ∧ U.heap = h0) (fun _ _ _ _ _ => True) (fun _ U o U' => ∃ v L, o = .returned v ∧ Q_rmS_1 Z p1 h0 n0 v U'.heap L ∧ FrameEnd U o U' L ({ frames := 4, cells := 3, slots := 14, locals := 96 } : Room).cells ({ frames := 4, cells := 3, slots := 14, locals := 96 } : Room).slots) := by
  refine MetFree.of_bodySF (plainFor_of_name pn_1) hisR ?_
  intro p e s m args below meth c s₁ Bd hml0 hP hK
  obtain ⟨rfl, hZ, hh⟩ := hP
  have hx := Bd.exec
  have hby := Bd.bytes
  have hml : c.maxLocals = 2 := hml0
  have hown : s.vm.findClass "com/example/ringfence/ringfence/NumberPatternRankPinLaw" = some m.cls := findClass_of_methodNamed Bd.named
  have hnm := (name_of_methodNamed Bd.named Bd.method).1
  have X0 : Stand p l e ({ frames := 4, cells := 3, slots := 14, locals := 96 } : Room) s m #[(.int (1 : Int32)), (.int p1)] below meth c s₁ [] 0 0 := Stand.of_body Bd
  have e0 : s₁.heap = h0 := by rw [← hh, Bd.state]; rfl
  have N0 := Fr.nil n0
  obtain ⟨G, hG⟩ : ∃ G : State → Prop, G = fun tg => Steps p.tables e below (s₁.setTop (entryFrame m #[(.int (1 : Int32)), (.int p1)] 2)) tg := ⟨_, rfl⟩
  have pre0 : ∀ tg, Steps p.tables e below (s₁.setTop (mkF m 0 #[.val (.int (1 : Int32)), .val (.int p1)] [])) tg → G tg := fun tg kt => by rw [hG]; exact castTop (ef_1_I_I m (1 : Int32) p1) kt
  have pre1 : ∀ tg, Steps p.tables e below (s₁.setTop (mkF m 20 #[.val (.int (1 : Int32)), .val (.int p1)] [])) tg → G tg := fun tg kt => pre0 tg (by
    show Steps p.tables e below (s₁.setTop (mkF m 0 #[.val (.int (1 : Int32)), .val (.int p1)] [])) _
    refine XS.iloadN X0.here hx rfl (hb hby d1_0) rfl ?_
    show Steps p.tables e below (s₁.setTop (mkF m 1 #[.val (.int (1 : Int32)), .val (.int p1)] [(.int (1 : Int32))])) _
    refine XS.ifYes X0.here hx rfl (pc0 := 1) (pc' := 15) rfl (hb hby d1_1) rfl ((if0 _ _).trans (feq (by decide : ¬ ((1 : Int32) = (0 : Int32)))).2) (by decide) (by decide) ?_
    show Steps p.tables e below (s₁.setTop (mkF m 15 #[.val (.int (1 : Int32)), .val (.int p1)] [])) _
    refine XS.iloadN X0.here hx rfl (hb hby d1_15) rfl ?_
    show Steps p.tables e below (s₁.setTop (mkF m 16 #[.val (.int (1 : Int32)), .val (.int p1)] [(.int (1 : Int32))])) _
    refine XS.iconst X0.here hx rfl (hb hby d1_16) ?_
    show Steps p.tables e below (s₁.setTop (mkF m 17 #[.val (.int (1 : Int32)), .val (.int p1)] [(.int (1 : Int32)), (.int (1 : Int32))])) _
    refine XS.icmpNo X0.here hx rfl (hb hby d1_17) rfl (teq (by decide : (1 : Int32) = (1 : Int32))).2 ?_
    exact kt)
  obtain ⟨T2, h2, X2, e2, E2, A2, D2, -, st2⟩ := newO X0 hx hZ hown (hw _ (List.mem_of_getElem? (i := 5) rfl)) (hw _ (List.mem_of_getElem? (i := 6) rfl)) (hw _ (List.mem_of_getElem? (i := 7) rfl)) e0 (g := (mkF m 20 #[.val (.int (1 : Int32)), .val (.int p1)] [])) rfl (hb hby d1_20) (by decide) (by decide)
  obtain ⟨r, g2⟩ : ∃ z, z = h0.size := ⟨_, rfl⟩
  rw [← g2] at A2 D2 st2
  have O_r : n0 ≤ r := Nat.le_trans Z0 (Nat.le_of_eq g2.symm)
  have Z2 : n0 ≤ h2.size := Nat.le_trans Z0 E2.1
  have S_r : h0.size ≤ r := Nat.le_trans (Keep.refl h0 []).1 (Nat.le_of_eq g2.symm)
  have pre2s : ∀ tg, Steps p.tables e below (T2.setTop (mkF m 23 #[.val (.int (1 : Int32)), .val (.int p1)] [(.ref r)])) tg → G tg := fun tg kt => pre1 tg (st2 tg kt)
  have Ol3 := Ol.ext E2
  have Fvalue_r : Fld Z h2 r "java/lang/String" "value" "[B" .null := D2 (Or.inr (hw _ (List.mem_of_getElem? (i := 21) rfl))) (ty := (.array .byte)) (by decide)
  have Fcoder_r : Fld Z h2 r "java/lang/String" "coder" "B" (.int (0 : Int32)) := D2 (Or.inr (hw _ (List.mem_of_getElem? (i := 22) rfl))) (ty := .byte) (by decide)
  have K2 : Keep h0 h2 [] := (Keep.refl h0 []).ext E2
  have pre4 : ∀ tg, Steps p.tables e below (T2.setTop (mkF m 25 #[.val (.int (1 : Int32)), .val (.int p1)] [(.int (1 : Int32)), (.ref r), (.ref r)])) tg → G tg := fun tg kt => pre2s tg (by
    show Steps p.tables e below (T2.setTop (mkF m 23 #[.val (.int (1 : Int32)), .val (.int p1)] [(.ref r)])) _
    refine XS.dup X2.here hx rfl (hb hby d1_23) rfl rfl ?_
    show Steps p.tables e below (T2.setTop (mkF m 24 #[.val (.int (1 : Int32)), .val (.int p1)] [(.ref r), (.ref r)])) _
    refine XS.iconst X2.here hx rfl (hb hby d1_24) ?_
    exact kt)
  obtain ⟨T5, h5, k5, X5, e5, E5, A5, st5⟩ := newP X2 hx hZ (hw _ (List.mem_of_getElem? (i := 8) rfl)) e2 (g := (mkF m 25 #[.val (.int (1 : Int32)), .val (.int p1)] [(.int (1 : Int32)), (.ref r), (.ref r)])) rfl (hb hby d1_25) rfl (by decide) (cap := 1) (by decide) (by decide) (by decide) (by decide)
  obtain ⟨ca, g5⟩ : ∃ z, z = h2.size := ⟨_, rfl⟩
  rw [← g5] at A5 st5
  have O_ca : n0 ≤ ca := Nat.le_trans Z2 (Nat.le_of_eq g5.symm)
  have Z5 : n0 ≤ h5.size := Nat.le_trans Z2 E5.1
  have ne_r_ca : r ≠ ca := Nat.ne_of_lt (Nat.lt_of_lt_of_le A2.lt (Nat.le_of_eq g5.symm))
  have S_ca : h0.size ≤ ca := Nat.le_trans K2.1 (Nat.le_of_eq g5.symm)
  have pre5s : ∀ tg, Steps p.tables e below (T5.setTop (mkF m 27 #[.val (.int (1 : Int32)), .val (.int p1)] [(.ref ca), (.ref r), (.ref r)])) tg → G tg := fun tg kt => pre4 tg (st5 tg kt)
  have A2_6 := A2.ext E5
  have Fvalue_r_7 := Fvalue_r.ext E5
  have Fcoder_r_8 := Fcoder_r.ext E5
  have Ol9 := Ol3.ext E5
  have V_ca : Arv Z h5 ca k5 .char (1 : Int32) [(.int (0 : Int32))] (.int (0 : Int32)) := (Arv.new A5 (by decide)).pad (pad_rep [] (.int (0 : Int32)) 1)
  have K5 : Keep h0 h5 [] := K2.ext E5
  have pre10 : ∀ tg, Steps p.tables e below (T5.setTop (mkF m 31 #[.val (.int (1 : Int32)), .val (.int p1)] [(.int (0 : Int32)), (.int p1), (.int (0 : Int32)), (.ref ca), (.ref ca), (.ref r), (.ref r)])) tg → G tg := fun tg kt => pre5s tg (by
    show Steps p.tables e below (T5.setTop (mkF m 27 #[.val (.int (1 : Int32)), .val (.int p1)] [(.ref ca), (.ref r), (.ref r)])) _
    refine XS.dup X5.here hx rfl (hb hby d1_27) rfl rfl ?_
    show Steps p.tables e below (T5.setTop (mkF m 28 #[.val (.int (1 : Int32)), .val (.int p1)] [(.ref ca), (.ref ca), (.ref r), (.ref r)])) _
    refine XS.iconst X5.here hx rfl (hb hby d1_28) ?_
    show Steps p.tables e below (T5.setTop (mkF m 29 #[.val (.int (1 : Int32)), .val (.int p1)] [(.int (0 : Int32)), (.ref ca), (.ref ca), (.ref r), (.ref r)])) _
    refine XS.iloadN X5.here hx rfl (hb hby d1_29) rfl ?_
    show Steps p.tables e below (T5.setTop (mkF m 30 #[.val (.int (1 : Int32)), .val (.int p1)] [(.int p1), (.int (0 : Int32)), (.ref ca), (.ref ca), (.ref r), (.ref r)])) _
    refine XS.iconst X5.here hx rfl (hb hby d1_30) ?_
    exact kt)
  obtain ⟨_, _, ⟨T11, L11, k11, n11⟩, -, X11, ⟨Lc11, hQ11, l11, y11, z11⟩, st11⟩ := Jvm.LawKit.callS X5 hx (y := (⟨"com/example/ringfence/ringfence/NumberPatternRankPinLaw", "dg", "(II)C"⟩ : MethodName)) hown (mvT hZ (hw _ (List.mem_of_getElem? (i := 27) rfl))) (mvT hZ (hw _ (List.mem_of_getElem? (i := 28) rfl))) (mvT hZ (hw _ (List.mem_of_getElem? (i := 3) rfl))) (mvT hZ (hw _ (List.mem_of_getElem? (i := 29) rfl))) (by decide) (backOf (W := 5) (rm5 l Z a0 hw [] p1 (0 : Int32) h5 n0 Z5 ) hZ (hw _ (List.mem_of_getElem? (i := 29) rfl)) (hw _ (List.mem_of_getElem? (i := 3) rfl)) (by decide) (by decide)) (g := (mkF m 31 #[.val (.int (1 : Int32)), .val (.int p1)] [(.int (0 : Int32)), (.int p1), (.int (0 : Int32)), (.ref ca), (.ref ca), (.ref r), (.ref r)])) rfl (by rw [hml]; rfl) (argsL := [(.int p1), (.int (0 : Int32))]) (rest := [(.int (0 : Int32)), (.ref ca), (.ref ca), (.ref r), (.ref r)]) (lenOf pd_5 rfl) rfl (by show 2 * 0 + _ ≤ _; exact Nat.le_of_eq rfl) (hb hby d1_31) (fun _ _ => ⟨rfl, e5, (Nat.le_of_ble_eq_true rfl), (Nat.le_of_ble_eq_true rfl)⟩)
  dsimp only [Pt.U, Pt.locs, Pt.cells, Pt.slots] at X11 l11 y11 z11 st11 hQ11
  subst l11 y11 z11
  obtain ⟨y0, rfl, hy0, N11q, e11⟩ := hQ11
  have N11 := Fr.app N0 N11q
  have pre11s : ∀ tg, Steps p.tables e below (T11.setTop (mkF m 34 #[.val (.int (1 : Int32)), .val (.int p1)] [(.int y0), (.int (0 : Int32)), (.ref ca), (.ref ca), (.ref r), (.ref r)])) tg → G tg := fun tg kt => pre10 tg (st11 tg kt)
  have op_12 := V_ca
  obtain ⟨cl_12, Ar_12, q_12, S_12, Ng_12, H_12, G_12⟩ := op_12
  have hin_12 : ¬ ((0 : Int32) < 0 ∨ cl_12.slots.size ≤ ((0 : Int32)).toNatClampNeg) := inb_of S_12 ⟨by decide, by decide⟩
  obtain ⟨T12, h12, X12, e12, W12, st12⟩ := stC X11 hx hZ e11 Ar_12 (j := (0 : Int32)) hin_12 (g := (mkF m 34 #[.val (.int (1 : Int32)), .val (.int p1)] [(.int y0), (.int (0 : Int32)), (.ref ca), (.ref ca), (.ref r), (.ref r)])) rfl rfl (hb hby d1_34)
  have pre12s : ∀ tg, Steps p.tables e below (T12.setTop (mkF m 35 #[.val (.int (1 : Int32)), .val (.int p1)] [(.ref ca), (.ref r), (.ref r)])) tg → G tg := fun tg kt => pre11s tg (st12 tg kt)
  have A2_13 := A2_6.wr W12
  have Fvalue_r_14 := Fvalue_r_7.other W12 (Or.inl ne_r_ca)
  have Fcoder_r_15 := Fcoder_r_8.other W12 (Or.inl ne_r_ca)
  have Ol16 := Ol9.wr W12 O_ca
  have V12_ca : Arv Z h12 ca k5 .char (1 : Int32) [(.int (y0.toUInt32.toUInt16.toUInt32.toInt32))] (.int (0 : Int32)) := Arv.set Ar_12 q_12 S_12 Ng_12 H_12 G_12 (fits_nar_char _) W12 0 rfl (Nat.le_of_ble_eq_true rfl)
  have N12 := Fr.snoc X12 N11 O_ca
  have Z12 : n0 ≤ h12.size := Nat.le_trans Z5 (Keep.of_wr W12).1
  have K12 : Keep h0 h12 [] := K5.wr W12 (Or.inr S_ca)
  rw [own_yc hy0] at V12_ca
  obtain ⟨_, _, ⟨T17, L17, k17, n17⟩, -, X17, ⟨Lc17, hQ17, l17, y17, z17⟩, st17⟩ := X12.specialBack hx (y := (⟨"java/lang/String", "<init>", "([C)V"⟩ : MethodName)) rfl hown (mvT hZ (hw _ (List.mem_of_getElem? (i := 9) rfl))) (mvT hZ (hw _ (List.mem_of_getElem? (i := 10) rfl))) (mvT hZ (hw _ (List.mem_of_getElem? (i := 11) rfl))) (by decide) (backOf (W := 1) (rmJ_1 l Z a0 hw [] r ca k5 y0 h12 n0 Z12 hs Ol16 A2_13 Fcoder_r_15 Fvalue_r_14 O_r (Ne.symm ne_r_ca) V12_ca hy0) hZ (hw _ (List.mem_of_getElem? (i := 11) rfl)) (hw _ (List.mem_of_getElem? (i := 7) rfl)) (by decide) (by decide)) (g := (mkF m 35 #[.val (.int (1 : Int32)), .val (.int p1)] [(.ref ca), (.ref r), (.ref r)])) rfl (by rw [hml]; rfl) (Steps.refl _) (a := r) (argsL := [(.ref ca)]) (rest := [(.ref r)]) (lenOf pd_4 rfl) rfl (by show 2 * 0 + _ ≤ _; exact Nat.le_of_eq rfl) (hb hby d1_35) (fun _ _ => ⟨rfl, e12, (Nat.le_of_ble_eq_true rfl), (Nat.le_of_ble_eq_true rfl)⟩)
  dsimp only [Pt.U, Pt.locs, Pt.cells, Pt.slots] at X17 l17 y17 z17 st17 hQ17
  subst l17 y17 z17
  obtain ⟨rfl, N17q, K17, Tx⟩ := hQ17
  have N17 := Fr.app N12 N17q
  have pre17s : ∀ tg, Steps p.tables e below (T17.setTop (mkF m 38 #[.val (.int (1 : Int32)), .val (.int p1)] [(.ref r)])) tg → G tg := fun tg kt => pre12s tg (st17.trans kt)
  have Z17 : n0 ≤ T17.heap.size := Nat.le_trans Z12 K17.1
  have A2_18 := A2_13.keep K17
  have V12_ca_19 := V12_ca.keep K17 (ninS (Ne.symm ne_r_ca) nin0)
  have Ol20 := Ol16.keep K17 (allS O_r all0)
  have KK17 : Keep h0 T17.heap [] := K12.trans K17 (allS (Or.inr S_r) all0)
  obtain ⟨fs, hr, hrun, hended, hW, hsame⟩ := X17.leave (v := some (.ref r)) (fun h => by rw [Bd.returns] at h; cases h)
  subst hG
  refine ⟨_, _, pre17s _ ?_, hrun, hended, _, _, rfl, ?_, ⟨_, rfl⟩, hW, hsame.mono (by decide) (by decide)⟩
  · skip
    show Steps p.tables e below (T17.setTop (mkF m 38 #[.val (.int (1 : Int32)), .val (.int p1)] [(.ref r)])) _
    jvm_step X17.here [X17.here.top, hx, (hb hby d1_38), X17.method', Bd.returns, Value.isRef, FieldType.isReference]
    first | (intro acts; rw [hr _ acts rfl rfl rfl]) | rw [hr _ _ rfl rfl rfl]
    exact Steps.refl _
  · show Q_rmS_1 Z p1 h0 n0 _ T17.heap _
    exact ⟨r, rfl, N17, KK17, A2_18, Tx⟩
theorem d1_39 : decode method_4_code 39 = .ok (.iload_n 0, 1) := by decide +kernel
theorem d1_40 : decode method_4_code 40 = .ok (.iconst 2, 1) := by decide +kernel
theorem d1_41 : decode method_4_code 41 = .ok (.if_icmp .ne 30, 3) := by decide +kernel
theorem d1_44 : decode method_4_code 44 = .ok (.new 32, 3) := by decide +kernel
theorem d1_47 : decode method_4_code 47 = .ok (.dup, 1) := by decide +kernel
theorem d1_48 : decode method_4_code 48 = .ok (.iconst 2, 1) := by decide +kernel
theorem d1_49 : decode method_4_code 49 = .ok (.newarray .char, 2) := by decide +kernel
theorem d1_51 : decode method_4_code 51 = .ok (.dup, 1) := by decide +kernel
theorem d1_52 : decode method_4_code 52 = .ok (.iconst 0, 1) := by decide +kernel
theorem d1_53 : decode method_4_code 53 = .ok (.iload_n 1, 1) := by decide +kernel
theorem d1_54 : decode method_4_code 54 = .ok (.iconst 0, 1) := by decide +kernel
theorem d1_55 : decode method_4_code 55 = .ok (.invokestatic 37, 3) := by decide +kernel
theorem d1_58 : decode method_4_code 58 = .ok (.castore, 1) := by decide +kernel
theorem d1_59 : decode method_4_code 59 = .ok (.dup, 1) := by decide +kernel
theorem d1_60 : decode method_4_code 60 = .ok (.iconst 1, 1) := by decide +kernel
theorem d1_61 : decode method_4_code 61 = .ok (.iload_n 1, 1) := by decide +kernel
theorem d1_62 : decode method_4_code 62 = .ok (.iconst 1, 1) := by decide +kernel
theorem d1_63 : decode method_4_code 63 = .ok (.invokestatic 37, 3) := by decide +kernel
theorem d1_66 : decode method_4_code 66 = .ok (.castore, 1) := by decide +kernel
theorem d1_67 : decode method_4_code 67 = .ok (.invokespecial 34, 3) := by decide +kernel
theorem d1_70 : decode method_4_code 70 = .ok (.areturn, 1) := by decide +kernel
def Q_rmS_2 (Z : State) (p1 : Int32) (h0 : Heap) (n0 : Nat) (v : Option Value) (h : Heap) (L : List Loc) : Prop := SQ_ Z (2 : Int32) h0 n0 v h L
set_option maxRecDepth 65536 in
set_option maxHeartbeats 40000000 in
theorem rmS_2 (l : Launch) (Z : State) (a0 : Array Value) (hw : ∀ d ∈ tables_1, d.before a0 Z = true) (ws : List Jvm.Cond) (p1 : Int32) (h0 : Heap) (n0 : Nat) (Z0 : n0 ≤ h0.size) (hs : own_st Z) (Ol : Old Z n0 h0) :
    MetFree l (⟨"com/example/ringfence/ringfence/NumberPatternRankPinLaw", "str", "(II)Ljava/lang/String;"⟩ : MethodName) (head1 (Jvm.Cond.code (⟨"com/example/ringfence/ringfence/NumberPatternRankPinLaw", "str", "(II)Ljava/lang/String;"⟩ : MethodName) method_4_code 2 (some (.object "java/lang/String")) :: ws) ({ frames := 4, cells := 3, slots := 14, locals := 96 } : Room)) (fun argv U => argv = #[(.int (2 : Int32)), (.int p1)] ∧ Z.Warmed39 U.vm ∧ U.heap = h0) (fun _ _ _ _ _ => True) (fun _ U o U' => ∃ v L, o = .returned v ∧ Q_rmS_2 Z p1 h0 n0 v U'.heap L ∧ FrameEnd U o U' L ({ frames := 4, cells := 3, slots := 14, locals := 96 } : Room).cells ({ frames := 4, cells := 3, slots := 14, locals := 96 } : Room).slots) := by
  refine MetFree.of_bodySF (plainFor_of_name pn_1) hisR ?_
  intro p e s m args below meth c s₁ Bd hml0 hP hK
  obtain ⟨rfl, hZ, hh⟩ := hP
  have hx := Bd.exec
  have hby := Bd.bytes
  have hml : c.maxLocals = 2 := hml0
  have hown : s.vm.findClass "com/example/ringfence/ringfence/NumberPatternRankPinLaw" = some m.cls := findClass_of_methodNamed Bd.named
  have hnm := (name_of_methodNamed Bd.named Bd.method).1
  have X0 : Stand p l e ({ frames := 4, cells := 3, slots := 14, locals := 96 } : Room) s m #[(.int (2 : Int32)), (.int p1)] below meth c s₁ [] 0 0 := Stand.of_body Bd
  have e0 : s₁.heap = h0 := by rw [← hh, Bd.state]; rfl
  have N0 := Fr.nil n0
  obtain ⟨G, hG⟩ : ∃ G : State → Prop, G = fun tg => Steps p.tables e below (s₁.setTop (entryFrame m #[(.int (2 : Int32)), (.int p1)] 2)) tg := ⟨_, rfl⟩
  have pre0 : ∀ tg, Steps p.tables e below (s₁.setTop (mkF m 0 #[.val (.int (2 : Int32)), .val (.int p1)] [])) tg → G tg := fun tg kt => by rw [hG]; exact castTop (ef_1_I_I m (2 : Int32) p1) kt
  have pre1 : ∀ tg, Steps p.tables e below (s₁.setTop (mkF m 44 #[.val (.int (2 : Int32)), .val (.int p1)] [])) tg → G tg := fun tg kt => pre0 tg (by
    show Steps p.tables e below (s₁.setTop (mkF m 0 #[.val (.int (2 : Int32)), .val (.int p1)] [])) _
    refine XS.iloadN X0.here hx rfl (hb hby d1_0) rfl ?_
    show Steps p.tables e below (s₁.setTop (mkF m 1 #[.val (.int (2 : Int32)), .val (.int p1)] [(.int (2 : Int32))])) _
    refine XS.ifYes X0.here hx rfl (pc0 := 1) (pc' := 15) rfl (hb hby d1_1) rfl ((if0 _ _).trans (feq (by decide : ¬ ((2 : Int32) = (0 : Int32)))).2) (by decide) (by decide) ?_
    show Steps p.tables e below (s₁.setTop (mkF m 15 #[.val (.int (2 : Int32)), .val (.int p1)] [])) _
    refine XS.iloadN X0.here hx rfl (hb hby d1_15) rfl ?_
    show Steps p.tables e below (s₁.setTop (mkF m 16 #[.val (.int (2 : Int32)), .val (.int p1)] [(.int (2 : Int32))])) _
    refine XS.iconst X0.here hx rfl (hb hby d1_16) ?_
    show Steps p.tables e below (s₁.setTop (mkF m 17 #[.val (.int (2 : Int32)), .val (.int p1)] [(.int (1 : Int32)), (.int (2 : Int32))])) _
    refine XS.icmpYes X0.here hx rfl (pc0 := 17) (pc' := 39) rfl (hb hby d1_17) rfl (feq (by decide : ¬ ((2 : Int32) = (1 : Int32)))).2 (by decide) (by decide) ?_
    show Steps p.tables e below (s₁.setTop (mkF m 39 #[.val (.int (2 : Int32)), .val (.int p1)] [])) _
    refine XS.iloadN X0.here hx rfl (hb hby d1_39) rfl ?_
    show Steps p.tables e below (s₁.setTop (mkF m 40 #[.val (.int (2 : Int32)), .val (.int p1)] [(.int (2 : Int32))])) _
    refine XS.iconst X0.here hx rfl (hb hby d1_40) ?_
    show Steps p.tables e below (s₁.setTop (mkF m 41 #[.val (.int (2 : Int32)), .val (.int p1)] [(.int (2 : Int32)), (.int (2 : Int32))])) _
    refine XS.icmpNo X0.here hx rfl (hb hby d1_41) rfl (teq (by decide : (2 : Int32) = (2 : Int32))).2 ?_
    exact kt)
  obtain ⟨T2, h2, X2, e2, E2, A2, D2, -, st2⟩ := newO X0 hx hZ hown (hw _ (List.mem_of_getElem? (i := 5) rfl)) (hw _ (List.mem_of_getElem? (i := 6) rfl)) (hw _ (List.mem_of_getElem? (i := 7) rfl)) e0 (g := (mkF m 44 #[.val (.int (2 : Int32)), .val (.int p1)] [])) rfl (hb hby d1_44) (by decide) (by decide)
  obtain ⟨r, g2⟩ : ∃ z, z = h0.size := ⟨_, rfl⟩
  rw [← g2] at A2 D2 st2
  have O_r : n0 ≤ r := Nat.le_trans Z0 (Nat.le_of_eq g2.symm)
  have Z2 : n0 ≤ h2.size := Nat.le_trans Z0 E2.1
  have S_r : h0.size ≤ r := Nat.le_trans (Keep.refl h0 []).1 (Nat.le_of_eq g2.symm)
  have pre2s : ∀ tg, Steps p.tables e below (T2.setTop (mkF m 47 #[.val (.int (2 : Int32)), .val (.int p1)] [(.ref r)])) tg → G tg := fun tg kt => pre1 tg (st2 tg kt)
  have Ol3 := Ol.ext E2
  have Fvalue_r : Fld Z h2 r "java/lang/String" "value" "[B" .null := D2 (Or.inr (hw _ (List.mem_of_getElem? (i := 21) rfl))) (ty := (.array .byte)) (by decide)
  have Fcoder_r : Fld Z h2 r "java/lang/String" "coder" "B" (.int (0 : Int32)) := D2 (Or.inr (hw _ (List.mem_of_getElem? (i := 22) rfl))) (ty := .byte) (by decide)
  have K2 : Keep h0 h2 [] := (Keep.refl h0 []).ext E2
  have pre4 : ∀ tg, Steps p.tables e below (T2.setTop (mkF m 49 #[.val (.int (2 : Int32)), .val (.int p1)] [(.int (2 : Int32)), (.ref r), (.ref r)])) tg → G tg := fun tg kt => pre2s tg (by
    show Steps p.tables e below (T2.setTop (mkF m 47 #[.val (.int (2 : Int32)), .val (.int p1)] [(.ref r)])) _
    refine XS.dup X2.here hx rfl (hb hby d1_47) rfl rfl ?_
    show Steps p.tables e below (T2.setTop (mkF m 48 #[.val (.int (2 : Int32)), .val (.int p1)] [(.ref r), (.ref r)])) _
    refine XS.iconst X2.here hx rfl (hb hby d1_48) ?_
    exact kt)
  obtain ⟨T5, h5, k5, X5, e5, E5, A5, st5⟩ := newP X2 hx hZ (hw _ (List.mem_of_getElem? (i := 8) rfl)) e2 (g := (mkF m 49 #[.val (.int (2 : Int32)), .val (.int p1)] [(.int (2 : Int32)), (.ref r), (.ref r)])) rfl (hb hby d1_49) rfl (by decide) (cap := 2) (by decide) (by decide) (by decide) (by decide)
  obtain ⟨ca, g5⟩ : ∃ z, z = h2.size := ⟨_, rfl⟩
  rw [← g5] at A5 st5
  have O_ca : n0 ≤ ca := Nat.le_trans Z2 (Nat.le_of_eq g5.symm)
  have Z5 : n0 ≤ h5.size := Nat.le_trans Z2 E5.1
  have ne_r_ca : r ≠ ca := Nat.ne_of_lt (Nat.lt_of_lt_of_le A2.lt (Nat.le_of_eq g5.symm))
  have S_ca : h0.size ≤ ca := Nat.le_trans K2.1 (Nat.le_of_eq g5.symm)
  have pre5s : ∀ tg, Steps p.tables e below (T5.setTop (mkF m 51 #[.val (.int (2 : Int32)), .val (.int p1)] [(.ref ca), (.ref r), (.ref r)])) tg → G tg := fun tg kt => pre4 tg (st5 tg kt)
  have A2_6 := A2.ext E5
  have Fvalue_r_7 := Fvalue_r.ext E5
  have Fcoder_r_8 := Fcoder_r.ext E5
  have Ol9 := Ol3.ext E5
  have V_ca : Arv Z h5 ca k5 .char (2 : Int32) [(.int (0 : Int32)), (.int (0 : Int32))] (.int (0 : Int32)) := (Arv.new A5 (by decide)).pad (pad_rep [] (.int (0 : Int32)) 2)
  have K5 : Keep h0 h5 [] := K2.ext E5
  have pre10 : ∀ tg, Steps p.tables e below (T5.setTop (mkF m 55 #[.val (.int (2 : Int32)), .val (.int p1)] [(.int (0 : Int32)), (.int p1), (.int (0 : Int32)), (.ref ca), (.ref ca), (.ref r), (.ref r)])) tg → G tg := fun tg kt => pre5s tg (by
    show Steps p.tables e below (T5.setTop (mkF m 51 #[.val (.int (2 : Int32)), .val (.int p1)] [(.ref ca), (.ref r), (.ref r)])) _
    refine XS.dup X5.here hx rfl (hb hby d1_51) rfl rfl ?_
    show Steps p.tables e below (T5.setTop (mkF m 52 #[.val (.int (2 : Int32)), .val (.int p1)] [(.ref ca), (.ref ca), (.ref r), (.ref r)])) _
    refine XS.iconst X5.here hx rfl (hb hby d1_52) ?_
    show Steps p.tables e below (T5.setTop (mkF m 53 #[.val (.int (2 : Int32)), .val (.int p1)] [(.int (0 : Int32)), (.ref ca), (.ref ca), (.ref r), (.ref r)])) _
    refine XS.iloadN X5.here hx rfl (hb hby d1_53) rfl ?_
    show Steps p.tables e below (T5.setTop (mkF m 54 #[.val (.int (2 : Int32)), .val (.int p1)] [(.int p1), (.int (0 : Int32)), (.ref ca), (.ref ca), (.ref r), (.ref r)])) _
    refine XS.iconst X5.here hx rfl (hb hby d1_54) ?_
    exact kt)
  obtain ⟨_, _, ⟨T11, L11, k11, n11⟩, -, X11, ⟨Lc11, hQ11, l11, y11, z11⟩, st11⟩ := Jvm.LawKit.callS X5 hx (y := (⟨"com/example/ringfence/ringfence/NumberPatternRankPinLaw", "dg", "(II)C"⟩ : MethodName)) hown (mvT hZ (hw _ (List.mem_of_getElem? (i := 27) rfl))) (mvT hZ (hw _ (List.mem_of_getElem? (i := 28) rfl))) (mvT hZ (hw _ (List.mem_of_getElem? (i := 3) rfl))) (mvT hZ (hw _ (List.mem_of_getElem? (i := 29) rfl))) (by decide) (backOf (W := 5) (rm5 l Z a0 hw [] p1 (0 : Int32) h5 n0 Z5 ) hZ (hw _ (List.mem_of_getElem? (i := 29) rfl)) (hw _ (List.mem_of_getElem? (i := 3) rfl)) (by decide) (by decide)) (g := (mkF m 55 #[.val (.int (2 : Int32)), .val (.int p1)] [(.int (0 : Int32)), (.int p1), (.int (0 : Int32)), (.ref ca), (.ref ca), (.ref r), (.ref r)])) rfl (by rw [hml]; rfl) (argsL := [(.int p1), (.int (0 : Int32))]) (rest := [(.int (0 : Int32)), (.ref ca), (.ref ca), (.ref r), (.ref r)]) (lenOf pd_5 rfl) rfl (by show 2 * 0 + _ ≤ _; exact Nat.le_of_eq rfl) (hb hby d1_55) (fun _ _ => ⟨rfl, e5, (Nat.le_of_ble_eq_true rfl), (Nat.le_of_ble_eq_true rfl)⟩)
  dsimp only [Pt.U, Pt.locs, Pt.cells, Pt.slots] at X11 l11 y11 z11 st11 hQ11
  subst l11 y11 z11
  obtain ⟨y0, rfl, hy0, N11q, e11⟩ := hQ11
  have N11 := Fr.app N0 N11q
  have pre11s : ∀ tg, Steps p.tables e below (T11.setTop (mkF m 58 #[.val (.int (2 : Int32)), .val (.int p1)] [(.int y0), (.int (0 : Int32)), (.ref ca), (.ref ca), (.ref r), (.ref r)])) tg → G tg := fun tg kt => pre10 tg (st11 tg kt)
  have op_12 := V_ca
  obtain ⟨cl_12, Ar_12, q_12, S_12, Ng_12, H_12, G_12⟩ := op_12
  have hin_12 : ¬ ((0 : Int32) < 0 ∨ cl_12.slots.size ≤ ((0 : Int32)).toNatClampNeg) := inb_of S_12 ⟨by decide, by decide⟩
  obtain ⟨T12, h12, X12, e12, W12, st12⟩ := stC X11 hx hZ e11 Ar_12 (j := (0 : Int32)) hin_12 (g := (mkF m 58 #[.val (.int (2 : Int32)), .val (.int p1)] [(.int y0), (.int (0 : Int32)), (.ref ca), (.ref ca), (.ref r), (.ref r)])) rfl rfl (hb hby d1_58)
  have pre12s : ∀ tg, Steps p.tables e below (T12.setTop (mkF m 59 #[.val (.int (2 : Int32)), .val (.int p1)] [(.ref ca), (.ref r), (.ref r)])) tg → G tg := fun tg kt => pre11s tg (st12 tg kt)
  have A2_13 := A2_6.wr W12
  have Fvalue_r_14 := Fvalue_r_7.other W12 (Or.inl ne_r_ca)
  have Fcoder_r_15 := Fcoder_r_8.other W12 (Or.inl ne_r_ca)
  have Ol16 := Ol9.wr W12 O_ca
  have V12_ca : Arv Z h12 ca k5 .char (2 : Int32) [(.int (y0.toUInt32.toUInt16.toUInt32.toInt32)), (.int (0 : Int32))] (.int (0 : Int32)) := Arv.set Ar_12 q_12 S_12 Ng_12 H_12 G_12 (fits_nar_char _) W12 0 rfl (Nat.le_of_ble_eq_true rfl)
  have N12 := Fr.snoc X12 N11 O_ca
  have Z12 : n0 ≤ h12.size := Nat.le_trans Z5 (Keep.of_wr W12).1
  have K12 : Keep h0 h12 [] := K5.wr W12 (Or.inr S_ca)
  rw [own_yc hy0] at V12_ca
  have pre17 : ∀ tg, Steps p.tables e below (T12.setTop (mkF m 63 #[.val (.int (2 : Int32)), .val (.int p1)] [(.int (1 : Int32)), (.int p1), (.int (1 : Int32)), (.ref ca), (.ref ca), (.ref r), (.ref r)])) tg → G tg := fun tg kt => pre12s tg (by
    show Steps p.tables e below (T12.setTop (mkF m 59 #[.val (.int (2 : Int32)), .val (.int p1)] [(.ref ca), (.ref r), (.ref r)])) _
    refine XS.dup X12.here hx rfl (hb hby d1_59) rfl rfl ?_
    show Steps p.tables e below (T12.setTop (mkF m 60 #[.val (.int (2 : Int32)), .val (.int p1)] [(.ref ca), (.ref ca), (.ref r), (.ref r)])) _
    refine XS.iconst X12.here hx rfl (hb hby d1_60) ?_
    show Steps p.tables e below (T12.setTop (mkF m 61 #[.val (.int (2 : Int32)), .val (.int p1)] [(.int (1 : Int32)), (.ref ca), (.ref ca), (.ref r), (.ref r)])) _
    refine XS.iloadN X12.here hx rfl (hb hby d1_61) rfl ?_
    show Steps p.tables e below (T12.setTop (mkF m 62 #[.val (.int (2 : Int32)), .val (.int p1)] [(.int p1), (.int (1 : Int32)), (.ref ca), (.ref ca), (.ref r), (.ref r)])) _
    refine XS.iconst X12.here hx rfl (hb hby d1_62) ?_
    exact kt)
  obtain ⟨_, _, ⟨T18, L18, k18, n18⟩, -, X18, ⟨Lc18, hQ18, l18, y18, z18⟩, st18⟩ := Jvm.LawKit.callS X12 hx (y := (⟨"com/example/ringfence/ringfence/NumberPatternRankPinLaw", "dg", "(II)C"⟩ : MethodName)) hown (mvT hZ (hw _ (List.mem_of_getElem? (i := 27) rfl))) (mvT hZ (hw _ (List.mem_of_getElem? (i := 28) rfl))) (mvT hZ (hw _ (List.mem_of_getElem? (i := 3) rfl))) (mvT hZ (hw _ (List.mem_of_getElem? (i := 29) rfl))) (by decide) (backOf (W := 5) (rm5 l Z a0 hw [] p1 (1 : Int32) h12 n0 Z12 ) hZ (hw _ (List.mem_of_getElem? (i := 29) rfl)) (hw _ (List.mem_of_getElem? (i := 3) rfl)) (by decide) (by decide)) (g := (mkF m 63 #[.val (.int (2 : Int32)), .val (.int p1)] [(.int (1 : Int32)), (.int p1), (.int (1 : Int32)), (.ref ca), (.ref ca), (.ref r), (.ref r)])) rfl (by rw [hml]; rfl) (argsL := [(.int p1), (.int (1 : Int32))]) (rest := [(.int (1 : Int32)), (.ref ca), (.ref ca), (.ref r), (.ref r)]) (lenOf pd_5 rfl) rfl (by show 2 * 0 + _ ≤ _; exact Nat.le_of_eq rfl) (hb hby d1_63) (fun _ _ => ⟨rfl, e12, (Nat.le_of_ble_eq_true rfl), (Nat.le_of_ble_eq_true rfl)⟩)
  dsimp only [Pt.U, Pt.locs, Pt.cells, Pt.slots] at X18 l18 y18 z18 st18 hQ18
  subst l18 y18 z18
  obtain ⟨y1, rfl, hy1, N18q, e18⟩ := hQ18
  have N18 := Fr.app N12 N18q
  have pre18s : ∀ tg, Steps p.tables e below (T18.setTop (mkF m 66 #[.val (.int (2 : Int32)), .val (.int p1)] [(.int y1), (.int (1 : Int32)), (.ref ca), (.ref ca), (.ref r), (.ref r)])) tg → G tg := fun tg kt => pre17 tg (st18 tg kt)
  have op_19 := V12_ca
  obtain ⟨cl_19, Ar_19, q_19, S_19, Ng_19, H_19, G_19⟩ := op_19
  have hin_19 : ¬ ((1 : Int32) < 0 ∨ cl_19.slots.size ≤ ((1 : Int32)).toNatClampNeg) := inb_of S_19 ⟨by decide, by decide⟩
  obtain ⟨T19, h19, X19, e19, W19, st19⟩ := stC X18 hx hZ e18 Ar_19 (j := (1 : Int32)) hin_19 (g := (mkF m 66 #[.val (.int (2 : Int32)), .val (.int p1)] [(.int y1), (.int (1 : Int32)), (.ref ca), (.ref ca), (.ref r), (.ref r)])) rfl rfl (hb hby d1_66)
  have pre19s : ∀ tg, Steps p.tables e below (T19.setTop (mkF m 67 #[.val (.int (2 : Int32)), .val (.int p1)] [(.ref ca), (.ref r), (.ref r)])) tg → G tg := fun tg kt => pre18s tg (st19 tg kt)
  have A2_20 := A2_13.wr W19
  have Fvalue_r_21 := Fvalue_r_14.other W19 (Or.inl ne_r_ca)
  have Fcoder_r_22 := Fcoder_r_15.other W19 (Or.inl ne_r_ca)
  have Ol23 := Ol16.wr W19 O_ca
  have V19_ca : Arv Z h19 ca k5 .char (2 : Int32) [(.int y0), (.int (y1.toUInt32.toUInt16.toUInt32.toInt32))] (.int (0 : Int32)) := Arv.set Ar_19 q_19 S_19 Ng_19 H_19 G_19 (fits_nar_char _) W19 1 rfl (Nat.le_of_ble_eq_true rfl)
  have N19 := Fr.snoc X19 N18 O_ca
  have Z19 : n0 ≤ h19.size := Nat.le_trans Z12 (Keep.of_wr W19).1
  have K19 : Keep h0 h19 [] := K12.wr W19 (Or.inr S_ca)
  rw [own_yc hy1] at V19_ca
  obtain ⟨_, _, ⟨T24, L24, k24, n24⟩, -, X24, ⟨Lc24, hQ24, l24, y24, z24⟩, st24⟩ := X19.specialBack hx (y := (⟨"java/lang/String", "<init>", "([C)V"⟩ : MethodName)) rfl hown (mvT hZ (hw _ (List.mem_of_getElem? (i := 9) rfl))) (mvT hZ (hw _ (List.mem_of_getElem? (i := 10) rfl))) (mvT hZ (hw _ (List.mem_of_getElem? (i := 11) rfl))) (by decide) (backOf (W := 1) (rmJ_2 l Z a0 hw [] r ca k5 y0 y1 h19 n0 Z19 hs Ol23 A2_20 Fcoder_r_22 Fvalue_r_21 O_r (Ne.symm ne_r_ca) V19_ca hy0 hy1) hZ (hw _ (List.mem_of_getElem? (i := 11) rfl)) (hw _ (List.mem_of_getElem? (i := 7) rfl)) (by decide) (by decide)) (g := (mkF m 67 #[.val (.int (2 : Int32)), .val (.int p1)] [(.ref ca), (.ref r), (.ref r)])) rfl (by rw [hml]; rfl) (Steps.refl _) (a := r) (argsL := [(.ref ca)]) (rest := [(.ref r)]) (lenOf pd_4 rfl) rfl (by show 2 * 0 + _ ≤ _; exact Nat.le_of_eq rfl) (hb hby d1_67) (fun _ _ => ⟨rfl, e19, (Nat.le_of_ble_eq_true rfl), (Nat.le_of_ble_eq_true rfl)⟩)
  dsimp only [Pt.U, Pt.locs, Pt.cells, Pt.slots] at X24 l24 y24 z24 st24 hQ24
  subst l24 y24 z24
  obtain ⟨rfl, N24q, K24, Tx⟩ := hQ24
  have N24 := Fr.app N19 N24q
  have pre24s : ∀ tg, Steps p.tables e below (T24.setTop (mkF m 70 #[.val (.int (2 : Int32)), .val (.int p1)] [(.ref r)])) tg → G tg := fun tg kt => pre19s tg (st24.trans kt)
  have Z24 : n0 ≤ T24.heap.size := Nat.le_trans Z19 K24.1
  have A2_25 := A2_20.keep K24
  have V19_ca_26 := V19_ca.keep K24 (ninS (Ne.symm ne_r_ca) nin0)
  have Ol27 := Ol23.keep K24 (allS O_r all0)
  have KK24 : Keep h0 T24.heap [] := K19.trans K24 (allS (Or.inr S_r) all0)
  obtain ⟨fs, hr, hrun, hended, hW, hsame⟩ := X24.leave (v := some (.ref r)) (fun h => by rw [Bd.returns] at h; cases h)
  subst hG
  refine ⟨_, _, pre24s _ ?_, hrun, hended, _, _, rfl, ?_, ⟨_, rfl⟩, hW, hsame.mono (by decide) (by decide)⟩
  · skip
    show Steps p.tables e below (T24.setTop (mkF m 70 #[.val (.int (2 : Int32)), .val (.int p1)] [(.ref r)])) _
    jvm_step X24.here [X24.here.top, hx, (hb hby d1_70), X24.method', Bd.returns, Value.isRef, FieldType.isReference]
    first | (intro acts; rw [hr _ acts rfl rfl rfl]) | rw [hr _ _ rfl rfl rfl]
    exact Steps.refl _
  · show Q_rmS_2 Z p1 h0 n0 _ T24.heap _
    exact ⟨r, rfl, N24, KK24, A2_25, Tx⟩
theorem d1_71 : decode method_4_code 71 = .ok (.iload_n 0, 1) := by decide +kernel
theorem d1_72 : decode method_4_code 72 = .ok (.iconst 3, 1) := by decide +kernel
theorem d1_73 : decode method_4_code 73 = .ok (.if_icmp .ne 38, 3) := by decide +kernel
theorem d1_76 : decode method_4_code 76 = .ok (.new 32, 3) := by decide +kernel
theorem d1_79 : decode method_4_code 79 = .ok (.dup, 1) := by decide +kernel
theorem d1_80 : decode method_4_code 80 = .ok (.iconst 3, 1) := by decide +kernel
theorem d1_81 : decode method_4_code 81 = .ok (.newarray .char, 2) := by decide +kernel
theorem d1_83 : decode method_4_code 83 = .ok (.dup, 1) := by decide +kernel
theorem d1_84 : decode method_4_code 84 = .ok (.iconst 0, 1) := by decide +kernel
theorem d1_85 : decode method_4_code 85 = .ok (.iload_n 1, 1) := by decide +kernel
theorem d1_86 : decode method_4_code 86 = .ok (.iconst 0, 1) := by decide +kernel
theorem d1_87 : decode method_4_code 87 = .ok (.invokestatic 37, 3) := by decide +kernel
theorem d1_90 : decode method_4_code 90 = .ok (.castore, 1) := by decide +kernel
theorem d1_91 : decode method_4_code 91 = .ok (.dup, 1) := by decide +kernel
theorem d1_92 : decode method_4_code 92 = .ok (.iconst 1, 1) := by decide +kernel
theorem d1_93 : decode method_4_code 93 = .ok (.iload_n 1, 1) := by decide +kernel
theorem d1_94 : decode method_4_code 94 = .ok (.iconst 1, 1) := by decide +kernel
theorem d1_95 : decode method_4_code 95 = .ok (.invokestatic 37, 3) := by decide +kernel
theorem d1_98 : decode method_4_code 98 = .ok (.castore, 1) := by decide +kernel
theorem d1_99 : decode method_4_code 99 = .ok (.dup, 1) := by decide +kernel
theorem d1_100 : decode method_4_code 100 = .ok (.iconst 2, 1) := by decide +kernel
theorem d1_101 : decode method_4_code 101 = .ok (.iload_n 1, 1) := by decide +kernel
theorem d1_102 : decode method_4_code 102 = .ok (.iconst 2, 1) := by decide +kernel
theorem d1_103 : decode method_4_code 103 = .ok (.invokestatic 37, 3) := by decide +kernel
theorem d1_106 : decode method_4_code 106 = .ok (.castore, 1) := by decide +kernel
theorem d1_107 : decode method_4_code 107 = .ok (.invokespecial 34, 3) := by decide +kernel
theorem d1_110 : decode method_4_code 110 = .ok (.areturn, 1) := by decide +kernel
def Q_rmS_3 (Z : State) (p1 : Int32) (h0 : Heap) (n0 : Nat) (v : Option Value) (h : Heap) (L : List Loc) : Prop := SQ_ Z (3 : Int32) h0 n0 v h L
set_option maxRecDepth 65536 in
set_option maxHeartbeats 40000000 in
theorem rmS_3 (l : Launch) (Z : State) (a0 : Array Value) (hw : ∀ d ∈ tables_1, d.before a0 Z = true) (ws : List Jvm.Cond) (p1 : Int32) (h0 : Heap) (n0 : Nat) (Z0 : n0 ≤ h0.size) (hs : own_st Z) (Ol : Old Z n0 h0) :
    MetFree l (⟨"com/example/ringfence/ringfence/NumberPatternRankPinLaw", "str", "(II)Ljava/lang/String;"⟩ : MethodName) (head1 (Jvm.Cond.code (⟨"com/example/ringfence/ringfence/NumberPatternRankPinLaw", "str", "(II)Ljava/lang/String;"⟩ : MethodName) method_4_code 2 (some (.object "java/lang/String")) :: ws) ({ frames := 4, cells := 3, slots := 14, locals := 96 } : Room)) (fun argv U => argv = #[(.int (3 : Int32)), (.int p1)] ∧ Z.Warmed39 U.vm ∧ U.heap = h0) (fun _ _ _ _ _ => True) (fun _ U o U' => ∃ v L, o = .returned v ∧ Q_rmS_3 Z p1 h0 n0 v U'.heap L ∧ FrameEnd U o U' L ({ frames := 4, cells := 3, slots := 14, locals := 96 } : Room).cells ({ frames := 4, cells := 3, slots := 14, locals := 96 } : Room).slots) := by
  refine MetFree.of_bodySF (plainFor_of_name pn_1) hisR ?_
  intro p e s m args below meth c s₁ Bd hml0 hP hK
  obtain ⟨rfl, hZ, hh⟩ := hP
  have hx := Bd.exec
  have hby := Bd.bytes
  have hml : c.maxLocals = 2 := hml0
  have hown : s.vm.findClass "com/example/ringfence/ringfence/NumberPatternRankPinLaw" = some m.cls := findClass_of_methodNamed Bd.named
  have hnm := (name_of_methodNamed Bd.named Bd.method).1
  have X0 : Stand p l e ({ frames := 4, cells := 3, slots := 14, locals := 96 } : Room) s m #[(.int (3 : Int32)), (.int p1)] below meth c s₁ [] 0 0 := Stand.of_body Bd
  have e0 : s₁.heap = h0 := by rw [← hh, Bd.state]; rfl
  have N0 := Fr.nil n0
  obtain ⟨G, hG⟩ : ∃ G : State → Prop, G = fun tg => Steps p.tables e below (s₁.setTop (entryFrame m #[(.int (3 : Int32)), (.int p1)] 2)) tg := ⟨_, rfl⟩
  have pre0 : ∀ tg, Steps p.tables e below (s₁.setTop (mkF m 0 #[.val (.int (3 : Int32)), .val (.int p1)] [])) tg → G tg := fun tg kt => by rw [hG]; exact castTop (ef_1_I_I m (3 : Int32) p1) kt
  have pre1 : ∀ tg, Steps p.tables e below (s₁.setTop (mkF m 76 #[.val (.int (3 : Int32)), .val (.int p1)] [])) tg → G tg := fun tg kt => pre0 tg (by
    show Steps p.tables e below (s₁.setTop (mkF m 0 #[.val (.int (3 : Int32)), .val (.int p1)] [])) _
    refine XS.iloadN X0.here hx rfl (hb hby d1_0) rfl ?_
    show Steps p.tables e below (s₁.setTop (mkF m 1 #[.val (.int (3 : Int32)), .val (.int p1)] [(.int (3 : Int32))])) _
    refine XS.ifYes X0.here hx rfl (pc0 := 1) (pc' := 15) rfl (hb hby d1_1) rfl ((if0 _ _).trans (feq (by decide : ¬ ((3 : Int32) = (0 : Int32)))).2) (by decide) (by decide) ?_
    show Steps p.tables e below (s₁.setTop (mkF m 15 #[.val (.int (3 : Int32)), .val (.int p1)] [])) _
    refine XS.iloadN X0.here hx rfl (hb hby d1_15) rfl ?_
    show Steps p.tables e below (s₁.setTop (mkF m 16 #[.val (.int (3 : Int32)), .val (.int p1)] [(.int (3 : Int32))])) _
    refine XS.iconst X0.here hx rfl (hb hby d1_16) ?_
    show Steps p.tables e below (s₁.setTop (mkF m 17 #[.val (.int (3 : Int32)), .val (.int p1)] [(.int (1 : Int32)), (.int (3 : Int32))])) _
    refine XS.icmpYes X0.here hx rfl (pc0 := 17) (pc' := 39) rfl (hb hby d1_17) rfl (feq (by decide : ¬ ((3 : Int32) = (1 : Int32)))).2 (by decide) (by decide) ?_
    show Steps p.tables e below (s₁.setTop (mkF m 39 #[.val (.int (3 : Int32)), .val (.int p1)] [])) _
    refine XS.iloadN X0.here hx rfl (hb hby d1_39) rfl ?_
    show Steps p.tables e below (s₁.setTop (mkF m 40 #[.val (.int (3 : Int32)), .val (.int p1)] [(.int (3 : Int32))])) _
    refine XS.iconst X0.here hx rfl (hb hby d1_40) ?_
    show Steps p.tables e below (s₁.setTop (mkF m 41 #[.val (.int (3 : Int32)), .val (.int p1)] [(.int (2 : Int32)), (.int (3 : Int32))])) _
    refine XS.icmpYes X0.here hx rfl (pc0 := 41) (pc' := 71) rfl (hb hby d1_41) rfl (feq (by decide : ¬ ((3 : Int32) = (2 : Int32)))).2 (by decide) (by decide) ?_
    show Steps p.tables e below (s₁.setTop (mkF m 71 #[.val (.int (3 : Int32)), .val (.int p1)] [])) _
    refine XS.iloadN X0.here hx rfl (hb hby d1_71) rfl ?_
    show Steps p.tables e below (s₁.setTop (mkF m 72 #[.val (.int (3 : Int32)), .val (.int p1)] [(.int (3 : Int32))])) _
    refine XS.iconst X0.here hx rfl (hb hby d1_72) ?_
    show Steps p.tables e below (s₁.setTop (mkF m 73 #[.val (.int (3 : Int32)), .val (.int p1)] [(.int (3 : Int32)), (.int (3 : Int32))])) _
    refine XS.icmpNo X0.here hx rfl (hb hby d1_73) rfl (teq (by decide : (3 : Int32) = (3 : Int32))).2 ?_
    exact kt)
  obtain ⟨T2, h2, X2, e2, E2, A2, D2, -, st2⟩ := newO X0 hx hZ hown (hw _ (List.mem_of_getElem? (i := 5) rfl)) (hw _ (List.mem_of_getElem? (i := 6) rfl)) (hw _ (List.mem_of_getElem? (i := 7) rfl)) e0 (g := (mkF m 76 #[.val (.int (3 : Int32)), .val (.int p1)] [])) rfl (hb hby d1_76) (by decide) (by decide)
  obtain ⟨r, g2⟩ : ∃ z, z = h0.size := ⟨_, rfl⟩
  rw [← g2] at A2 D2 st2
  have O_r : n0 ≤ r := Nat.le_trans Z0 (Nat.le_of_eq g2.symm)
  have Z2 : n0 ≤ h2.size := Nat.le_trans Z0 E2.1
  have S_r : h0.size ≤ r := Nat.le_trans (Keep.refl h0 []).1 (Nat.le_of_eq g2.symm)
  have pre2s : ∀ tg, Steps p.tables e below (T2.setTop (mkF m 79 #[.val (.int (3 : Int32)), .val (.int p1)] [(.ref r)])) tg → G tg := fun tg kt => pre1 tg (st2 tg kt)
  have Ol3 := Ol.ext E2
  have Fvalue_r : Fld Z h2 r "java/lang/String" "value" "[B" .null := D2 (Or.inr (hw _ (List.mem_of_getElem? (i := 21) rfl))) (ty := (.array .byte)) (by decide)
  have Fcoder_r : Fld Z h2 r "java/lang/String" "coder" "B" (.int (0 : Int32)) := D2 (Or.inr (hw _ (List.mem_of_getElem? (i := 22) rfl))) (ty := .byte) (by decide)
  have K2 : Keep h0 h2 [] := (Keep.refl h0 []).ext E2
  have pre4 : ∀ tg, Steps p.tables e below (T2.setTop (mkF m 81 #[.val (.int (3 : Int32)), .val (.int p1)] [(.int (3 : Int32)), (.ref r), (.ref r)])) tg → G tg := fun tg kt => pre2s tg (by
    show Steps p.tables e below (T2.setTop (mkF m 79 #[.val (.int (3 : Int32)), .val (.int p1)] [(.ref r)])) _
    refine XS.dup X2.here hx rfl (hb hby d1_79) rfl rfl ?_
    show Steps p.tables e below (T2.setTop (mkF m 80 #[.val (.int (3 : Int32)), .val (.int p1)] [(.ref r), (.ref r)])) _
    refine XS.iconst X2.here hx rfl (hb hby d1_80) ?_
    exact kt)
  obtain ⟨T5, h5, k5, X5, e5, E5, A5, st5⟩ := newP X2 hx hZ (hw _ (List.mem_of_getElem? (i := 8) rfl)) e2 (g := (mkF m 81 #[.val (.int (3 : Int32)), .val (.int p1)] [(.int (3 : Int32)), (.ref r), (.ref r)])) rfl (hb hby d1_81) rfl (by decide) (cap := 3) (by decide) (by decide) (by decide) (by decide)
  obtain ⟨ca, g5⟩ : ∃ z, z = h2.size := ⟨_, rfl⟩
  rw [← g5] at A5 st5
  have O_ca : n0 ≤ ca := Nat.le_trans Z2 (Nat.le_of_eq g5.symm)
  have Z5 : n0 ≤ h5.size := Nat.le_trans Z2 E5.1
  have ne_r_ca : r ≠ ca := Nat.ne_of_lt (Nat.lt_of_lt_of_le A2.lt (Nat.le_of_eq g5.symm))
  have S_ca : h0.size ≤ ca := Nat.le_trans K2.1 (Nat.le_of_eq g5.symm)
  have pre5s : ∀ tg, Steps p.tables e below (T5.setTop (mkF m 83 #[.val (.int (3 : Int32)), .val (.int p1)] [(.ref ca), (.ref r), (.ref r)])) tg → G tg := fun tg kt => pre4 tg (st5 tg kt)
  have A2_6 := A2.ext E5
  have Fvalue_r_7 := Fvalue_r.ext E5
  have Fcoder_r_8 := Fcoder_r.ext E5
  have Ol9 := Ol3.ext E5
  have V_ca : Arv Z h5 ca k5 .char (3 : Int32) [(.int (0 : Int32)), (.int (0 : Int32)), (.int (0 : Int32))] (.int (0 : Int32)) := (Arv.new A5 (by decide)).pad (pad_rep [] (.int (0 : Int32)) 3)
  have K5 : Keep h0 h5 [] := K2.ext E5
  have pre10 : ∀ tg, Steps p.tables e below (T5.setTop (mkF m 87 #[.val (.int (3 : Int32)), .val (.int p1)] [(.int (0 : Int32)), (.int p1), (.int (0 : Int32)), (.ref ca), (.ref ca), (.ref r), (.ref r)])) tg → G tg := fun tg kt => pre5s tg (by
    show Steps p.tables e below (T5.setTop (mkF m 83 #[.val (.int (3 : Int32)), .val (.int p1)] [(.ref ca), (.ref r), (.ref r)])) _
    refine XS.dup X5.here hx rfl (hb hby d1_83) rfl rfl ?_
    show Steps p.tables e below (T5.setTop (mkF m 84 #[.val (.int (3 : Int32)), .val (.int p1)] [(.ref ca), (.ref ca), (.ref r), (.ref r)])) _
    refine XS.iconst X5.here hx rfl (hb hby d1_84) ?_
    show Steps p.tables e below (T5.setTop (mkF m 85 #[.val (.int (3 : Int32)), .val (.int p1)] [(.int (0 : Int32)), (.ref ca), (.ref ca), (.ref r), (.ref r)])) _
    refine XS.iloadN X5.here hx rfl (hb hby d1_85) rfl ?_
    show Steps p.tables e below (T5.setTop (mkF m 86 #[.val (.int (3 : Int32)), .val (.int p1)] [(.int p1), (.int (0 : Int32)), (.ref ca), (.ref ca), (.ref r), (.ref r)])) _
    refine XS.iconst X5.here hx rfl (hb hby d1_86) ?_
    exact kt)
  obtain ⟨_, _, ⟨T11, L11, k11, n11⟩, -, X11, ⟨Lc11, hQ11, l11, y11, z11⟩, st11⟩ := Jvm.LawKit.callS X5 hx (y := (⟨"com/example/ringfence/ringfence/NumberPatternRankPinLaw", "dg", "(II)C"⟩ : MethodName)) hown (mvT hZ (hw _ (List.mem_of_getElem? (i := 27) rfl))) (mvT hZ (hw _ (List.mem_of_getElem? (i := 28) rfl))) (mvT hZ (hw _ (List.mem_of_getElem? (i := 3) rfl))) (mvT hZ (hw _ (List.mem_of_getElem? (i := 29) rfl))) (by decide) (backOf (W := 5) (rm5 l Z a0 hw [] p1 (0 : Int32) h5 n0 Z5 ) hZ (hw _ (List.mem_of_getElem? (i := 29) rfl)) (hw _ (List.mem_of_getElem? (i := 3) rfl)) (by decide) (by decide)) (g := (mkF m 87 #[.val (.int (3 : Int32)), .val (.int p1)] [(.int (0 : Int32)), (.int p1), (.int (0 : Int32)), (.ref ca), (.ref ca), (.ref r), (.ref r)])) rfl (by rw [hml]; rfl) (argsL := [(.int p1), (.int (0 : Int32))]) (rest := [(.int (0 : Int32)), (.ref ca), (.ref ca), (.ref r), (.ref r)]) (lenOf pd_5 rfl) rfl (by show 2 * 0 + _ ≤ _; exact Nat.le_of_eq rfl) (hb hby d1_87) (fun _ _ => ⟨rfl, e5, (Nat.le_of_ble_eq_true rfl), (Nat.le_of_ble_eq_true rfl)⟩)
  dsimp only [Pt.U, Pt.locs, Pt.cells, Pt.slots] at X11 l11 y11 z11 st11 hQ11
  subst l11 y11 z11
  obtain ⟨y0, rfl, hy0, N11q, e11⟩ := hQ11
  have N11 := Fr.app N0 N11q
  have pre11s : ∀ tg, Steps p.tables e below (T11.setTop (mkF m 90 #[.val (.int (3 : Int32)), .val (.int p1)] [(.int y0), (.int (0 : Int32)), (.ref ca), (.ref ca), (.ref r), (.ref r)])) tg → G tg := fun tg kt => pre10 tg (st11 tg kt)
  have op_12 := V_ca
  obtain ⟨cl_12, Ar_12, q_12, S_12, Ng_12, H_12, G_12⟩ := op_12
  have hin_12 : ¬ ((0 : Int32) < 0 ∨ cl_12.slots.size ≤ ((0 : Int32)).toNatClampNeg) := inb_of S_12 ⟨by decide, by decide⟩
  obtain ⟨T12, h12, X12, e12, W12, st12⟩ := stC X11 hx hZ e11 Ar_12 (j := (0 : Int32)) hin_12 (g := (mkF m 90 #[.val (.int (3 : Int32)), .val (.int p1)] [(.int y0), (.int (0 : Int32)), (.ref ca), (.ref ca), (.ref r), (.ref r)])) rfl rfl (hb hby d1_90)
  have pre12s : ∀ tg, Steps p.tables e below (T12.setTop (mkF m 91 #[.val (.int (3 : Int32)), .val (.int p1)] [(.ref ca), (.ref r), (.ref r)])) tg → G tg := fun tg kt => pre11s tg (st12 tg kt)
  have A2_13 := A2_6.wr W12
  have Fvalue_r_14 := Fvalue_r_7.other W12 (Or.inl ne_r_ca)
  have Fcoder_r_15 := Fcoder_r_8.other W12 (Or.inl ne_r_ca)
  have Ol16 := Ol9.wr W12 O_ca
  have V12_ca : Arv Z h12 ca k5 .char (3 : Int32) [(.int (y0.toUInt32.toUInt16.toUInt32.toInt32)), (.int (0 : Int32)), (.int (0 : Int32))] (.int (0 : Int32)) := Arv.set Ar_12 q_12 S_12 Ng_12 H_12 G_12 (fits_nar_char _) W12 0 rfl (Nat.le_of_ble_eq_true rfl)
  have N12 := Fr.snoc X12 N11 O_ca
  have Z12 : n0 ≤ h12.size := Nat.le_trans Z5 (Keep.of_wr W12).1
  have K12 : Keep h0 h12 [] := K5.wr W12 (Or.inr S_ca)
  rw [own_yc hy0] at V12_ca
  have pre17 : ∀ tg, Steps p.tables e below (T12.setTop (mkF m 95 #[.val (.int (3 : Int32)), .val (.int p1)] [(.int (1 : Int32)), (.int p1), (.int (1 : Int32)), (.ref ca), (.ref ca), (.ref r), (.ref r)])) tg → G tg := fun tg kt => pre12s tg (by
    show Steps p.tables e below (T12.setTop (mkF m 91 #[.val (.int (3 : Int32)), .val (.int p1)] [(.ref ca), (.ref r), (.ref r)])) _
    refine XS.dup X12.here hx rfl (hb hby d1_91) rfl rfl ?_
    show Steps p.tables e below (T12.setTop (mkF m 92 #[.val (.int (3 : Int32)), .val (.int p1)] [(.ref ca), (.ref ca), (.ref r), (.ref r)])) _
    refine XS.iconst X12.here hx rfl (hb hby d1_92) ?_
    show Steps p.tables e below (T12.setTop (mkF m 93 #[.val (.int (3 : Int32)), .val (.int p1)] [(.int (1 : Int32)), (.ref ca), (.ref ca), (.ref r), (.ref r)])) _
    refine XS.iloadN X12.here hx rfl (hb hby d1_93) rfl ?_
    show Steps p.tables e below (T12.setTop (mkF m 94 #[.val (.int (3 : Int32)), .val (.int p1)] [(.int p1), (.int (1 : Int32)), (.ref ca), (.ref ca), (.ref r), (.ref r)])) _
    refine XS.iconst X12.here hx rfl (hb hby d1_94) ?_
    exact kt)
  obtain ⟨_, _, ⟨T18, L18, k18, n18⟩, -, X18, ⟨Lc18, hQ18, l18, y18, z18⟩, st18⟩ := Jvm.LawKit.callS X12 hx (y := (⟨"com/example/ringfence/ringfence/NumberPatternRankPinLaw", "dg", "(II)C"⟩ : MethodName)) hown (mvT hZ (hw _ (List.mem_of_getElem? (i := 27) rfl))) (mvT hZ (hw _ (List.mem_of_getElem? (i := 28) rfl))) (mvT hZ (hw _ (List.mem_of_getElem? (i := 3) rfl))) (mvT hZ (hw _ (List.mem_of_getElem? (i := 29) rfl))) (by decide) (backOf (W := 5) (rm5 l Z a0 hw [] p1 (1 : Int32) h12 n0 Z12 ) hZ (hw _ (List.mem_of_getElem? (i := 29) rfl)) (hw _ (List.mem_of_getElem? (i := 3) rfl)) (by decide) (by decide)) (g := (mkF m 95 #[.val (.int (3 : Int32)), .val (.int p1)] [(.int (1 : Int32)), (.int p1), (.int (1 : Int32)), (.ref ca), (.ref ca), (.ref r), (.ref r)])) rfl (by rw [hml]; rfl) (argsL := [(.int p1), (.int (1 : Int32))]) (rest := [(.int (1 : Int32)), (.ref ca), (.ref ca), (.ref r), (.ref r)]) (lenOf pd_5 rfl) rfl (by show 2 * 0 + _ ≤ _; exact Nat.le_of_eq rfl) (hb hby d1_95) (fun _ _ => ⟨rfl, e12, (Nat.le_of_ble_eq_true rfl), (Nat.le_of_ble_eq_true rfl)⟩)
  dsimp only [Pt.U, Pt.locs, Pt.cells, Pt.slots] at X18 l18 y18 z18 st18 hQ18
  subst l18 y18 z18
  obtain ⟨y1, rfl, hy1, N18q, e18⟩ := hQ18
  have N18 := Fr.app N12 N18q
  have pre18s : ∀ tg, Steps p.tables e below (T18.setTop (mkF m 98 #[.val (.int (3 : Int32)), .val (.int p1)] [(.int y1), (.int (1 : Int32)), (.ref ca), (.ref ca), (.ref r), (.ref r)])) tg → G tg := fun tg kt => pre17 tg (st18 tg kt)
  have op_19 := V12_ca
  obtain ⟨cl_19, Ar_19, q_19, S_19, Ng_19, H_19, G_19⟩ := op_19
  have hin_19 : ¬ ((1 : Int32) < 0 ∨ cl_19.slots.size ≤ ((1 : Int32)).toNatClampNeg) := inb_of S_19 ⟨by decide, by decide⟩
  obtain ⟨T19, h19, X19, e19, W19, st19⟩ := stC X18 hx hZ e18 Ar_19 (j := (1 : Int32)) hin_19 (g := (mkF m 98 #[.val (.int (3 : Int32)), .val (.int p1)] [(.int y1), (.int (1 : Int32)), (.ref ca), (.ref ca), (.ref r), (.ref r)])) rfl rfl (hb hby d1_98)
  have pre19s : ∀ tg, Steps p.tables e below (T19.setTop (mkF m 99 #[.val (.int (3 : Int32)), .val (.int p1)] [(.ref ca), (.ref r), (.ref r)])) tg → G tg := fun tg kt => pre18s tg (st19 tg kt)
  have A2_20 := A2_13.wr W19
  have Fvalue_r_21 := Fvalue_r_14.other W19 (Or.inl ne_r_ca)
  have Fcoder_r_22 := Fcoder_r_15.other W19 (Or.inl ne_r_ca)
  have Ol23 := Ol16.wr W19 O_ca
  have V19_ca : Arv Z h19 ca k5 .char (3 : Int32) [(.int y0), (.int (y1.toUInt32.toUInt16.toUInt32.toInt32)), (.int (0 : Int32))] (.int (0 : Int32)) := Arv.set Ar_19 q_19 S_19 Ng_19 H_19 G_19 (fits_nar_char _) W19 1 rfl (Nat.le_of_ble_eq_true rfl)
  have N19 := Fr.snoc X19 N18 O_ca
  have Z19 : n0 ≤ h19.size := Nat.le_trans Z12 (Keep.of_wr W19).1
  have K19 : Keep h0 h19 [] := K12.wr W19 (Or.inr S_ca)
  rw [own_yc hy1] at V19_ca
  have pre24 : ∀ tg, Steps p.tables e below (T19.setTop (mkF m 103 #[.val (.int (3 : Int32)), .val (.int p1)] [(.int (2 : Int32)), (.int p1), (.int (2 : Int32)), (.ref ca), (.ref ca), (.ref r), (.ref r)])) tg → G tg := fun tg kt => pre19s tg (by
    show Steps p.tables e below (T19.setTop (mkF m 99 #[.val (.int (3 : Int32)), .val (.int p1)] [(.ref ca), (.ref r), (.ref r)])) _
    refine XS.dup X19.here hx rfl (hb hby d1_99) rfl rfl ?_
    show Steps p.tables e below (T19.setTop (mkF m 100 #[.val (.int (3 : Int32)), .val (.int p1)] [(.ref ca), (.ref ca), (.ref r), (.ref r)])) _
    refine XS.iconst X19.here hx rfl (hb hby d1_100) ?_
    show Steps p.tables e below (T19.setTop (mkF m 101 #[.val (.int (3 : Int32)), .val (.int p1)] [(.int (2 : Int32)), (.ref ca), (.ref ca), (.ref r), (.ref r)])) _
    refine XS.iloadN X19.here hx rfl (hb hby d1_101) rfl ?_
    show Steps p.tables e below (T19.setTop (mkF m 102 #[.val (.int (3 : Int32)), .val (.int p1)] [(.int p1), (.int (2 : Int32)), (.ref ca), (.ref ca), (.ref r), (.ref r)])) _
    refine XS.iconst X19.here hx rfl (hb hby d1_102) ?_
    exact kt)
  obtain ⟨_, _, ⟨T25, L25, k25, n25⟩, -, X25, ⟨Lc25, hQ25, l25, y25, z25⟩, st25⟩ := Jvm.LawKit.callS X19 hx (y := (⟨"com/example/ringfence/ringfence/NumberPatternRankPinLaw", "dg", "(II)C"⟩ : MethodName)) hown (mvT hZ (hw _ (List.mem_of_getElem? (i := 27) rfl))) (mvT hZ (hw _ (List.mem_of_getElem? (i := 28) rfl))) (mvT hZ (hw _ (List.mem_of_getElem? (i := 3) rfl))) (mvT hZ (hw _ (List.mem_of_getElem? (i := 29) rfl))) (by decide) (backOf (W := 5) (rm5 l Z a0 hw [] p1 (2 : Int32) h19 n0 Z19 ) hZ (hw _ (List.mem_of_getElem? (i := 29) rfl)) (hw _ (List.mem_of_getElem? (i := 3) rfl)) (by decide) (by decide)) (g := (mkF m 103 #[.val (.int (3 : Int32)), .val (.int p1)] [(.int (2 : Int32)), (.int p1), (.int (2 : Int32)), (.ref ca), (.ref ca), (.ref r), (.ref r)])) rfl (by rw [hml]; rfl) (argsL := [(.int p1), (.int (2 : Int32))]) (rest := [(.int (2 : Int32)), (.ref ca), (.ref ca), (.ref r), (.ref r)]) (lenOf pd_5 rfl) rfl (by show 2 * 0 + _ ≤ _; exact Nat.le_of_eq rfl) (hb hby d1_103) (fun _ _ => ⟨rfl, e19, (Nat.le_of_ble_eq_true rfl), (Nat.le_of_ble_eq_true rfl)⟩)
  dsimp only [Pt.U, Pt.locs, Pt.cells, Pt.slots] at X25 l25 y25 z25 st25 hQ25
  subst l25 y25 z25
  obtain ⟨y2, rfl, hy2, N25q, e25⟩ := hQ25
  have N25 := Fr.app N19 N25q
  have pre25s : ∀ tg, Steps p.tables e below (T25.setTop (mkF m 106 #[.val (.int (3 : Int32)), .val (.int p1)] [(.int y2), (.int (2 : Int32)), (.ref ca), (.ref ca), (.ref r), (.ref r)])) tg → G tg := fun tg kt => pre24 tg (st25 tg kt)
  have op_26 := V19_ca
  obtain ⟨cl_26, Ar_26, q_26, S_26, Ng_26, H_26, G_26⟩ := op_26
  have hin_26 : ¬ ((2 : Int32) < 0 ∨ cl_26.slots.size ≤ ((2 : Int32)).toNatClampNeg) := inb_of S_26 ⟨by decide, by decide⟩
  obtain ⟨T26, h26, X26, e26, W26, st26⟩ := stC X25 hx hZ e25 Ar_26 (j := (2 : Int32)) hin_26 (g := (mkF m 106 #[.val (.int (3 : Int32)), .val (.int p1)] [(.int y2), (.int (2 : Int32)), (.ref ca), (.ref ca), (.ref r), (.ref r)])) rfl rfl (hb hby d1_106)
  have pre26s : ∀ tg, Steps p.tables e below (T26.setTop (mkF m 107 #[.val (.int (3 : Int32)), .val (.int p1)] [(.ref ca), (.ref r), (.ref r)])) tg → G tg := fun tg kt => pre25s tg (st26 tg kt)
  have A2_27 := A2_20.wr W26
  have Fvalue_r_28 := Fvalue_r_21.other W26 (Or.inl ne_r_ca)
  have Fcoder_r_29 := Fcoder_r_22.other W26 (Or.inl ne_r_ca)
  have Ol30 := Ol23.wr W26 O_ca
  have V26_ca : Arv Z h26 ca k5 .char (3 : Int32) [(.int y0), (.int y1), (.int (y2.toUInt32.toUInt16.toUInt32.toInt32))] (.int (0 : Int32)) := Arv.set Ar_26 q_26 S_26 Ng_26 H_26 G_26 (fits_nar_char _) W26 2 rfl (Nat.le_of_ble_eq_true rfl)
  have N26 := Fr.snoc X26 N25 O_ca
  have Z26 : n0 ≤ h26.size := Nat.le_trans Z19 (Keep.of_wr W26).1
  have K26 : Keep h0 h26 [] := K19.wr W26 (Or.inr S_ca)
  rw [own_yc hy2] at V26_ca
  obtain ⟨_, _, ⟨T31, L31, k31, n31⟩, -, X31, ⟨Lc31, hQ31, l31, y31, z31⟩, st31⟩ := X26.specialBack hx (y := (⟨"java/lang/String", "<init>", "([C)V"⟩ : MethodName)) rfl hown (mvT hZ (hw _ (List.mem_of_getElem? (i := 9) rfl))) (mvT hZ (hw _ (List.mem_of_getElem? (i := 10) rfl))) (mvT hZ (hw _ (List.mem_of_getElem? (i := 11) rfl))) (by decide) (backOf (W := 1) (rmJ_3 l Z a0 hw [] r ca k5 y0 y1 y2 h26 n0 Z26 hs Ol30 A2_27 Fcoder_r_29 Fvalue_r_28 O_r (Ne.symm ne_r_ca) V26_ca hy0 hy1 hy2) hZ (hw _ (List.mem_of_getElem? (i := 11) rfl)) (hw _ (List.mem_of_getElem? (i := 7) rfl)) (by decide) (by decide)) (g := (mkF m 107 #[.val (.int (3 : Int32)), .val (.int p1)] [(.ref ca), (.ref r), (.ref r)])) rfl (by rw [hml]; rfl) (Steps.refl _) (a := r) (argsL := [(.ref ca)]) (rest := [(.ref r)]) (lenOf pd_4 rfl) rfl (by show 2 * 0 + _ ≤ _; exact Nat.le_of_eq rfl) (hb hby d1_107) (fun _ _ => ⟨rfl, e26, (Nat.le_of_ble_eq_true rfl), (Nat.le_of_ble_eq_true rfl)⟩)
  dsimp only [Pt.U, Pt.locs, Pt.cells, Pt.slots] at X31 l31 y31 z31 st31 hQ31
  subst l31 y31 z31
  obtain ⟨rfl, N31q, K31, Tx⟩ := hQ31
  have N31 := Fr.app N26 N31q
  have pre31s : ∀ tg, Steps p.tables e below (T31.setTop (mkF m 110 #[.val (.int (3 : Int32)), .val (.int p1)] [(.ref r)])) tg → G tg := fun tg kt => pre26s tg (st31.trans kt)
  have Z31 : n0 ≤ T31.heap.size := Nat.le_trans Z26 K31.1
  have A2_32 := A2_27.keep K31
  have V26_ca_33 := V26_ca.keep K31 (ninS (Ne.symm ne_r_ca) nin0)
  have Ol34 := Ol30.keep K31 (allS O_r all0)
  have KK31 : Keep h0 T31.heap [] := K26.trans K31 (allS (Or.inr S_r) all0)
  obtain ⟨fs, hr, hrun, hended, hW, hsame⟩ := X31.leave (v := some (.ref r)) (fun h => by rw [Bd.returns] at h; cases h)
  subst hG
  refine ⟨_, _, pre31s _ ?_, hrun, hended, _, _, rfl, ?_, ⟨_, rfl⟩, hW, hsame.mono (by decide) (by decide)⟩
  · skip
    show Steps p.tables e below (T31.setTop (mkF m 110 #[.val (.int (3 : Int32)), .val (.int p1)] [(.ref r)])) _
    jvm_step X31.here [X31.here.top, hx, (hb hby d1_110), X31.method', Bd.returns, Value.isRef, FieldType.isReference]
    first | (intro acts; rw [hr _ acts rfl rfl rfl]) | rw [hr _ _ rfl rfl rfl]
    exact Steps.refl _
  · show Q_rmS_3 Z p1 h0 n0 _ T31.heap _
    exact ⟨r, rfl, N31, KK31, A2_32, Tx⟩
theorem d1_111 : decode method_4_code 111 = .ok (.iload_n 0, 1) := by decide +kernel
theorem d1_112 : decode method_4_code 112 = .ok (.iconst 4, 1) := by decide +kernel
theorem d1_113 : decode method_4_code 113 = .ok (.if_icmp .ne 46, 3) := by decide +kernel
theorem d1_116 : decode method_4_code 116 = .ok (.new 32, 3) := by decide +kernel
theorem d1_119 : decode method_4_code 119 = .ok (.dup, 1) := by decide +kernel
theorem d1_120 : decode method_4_code 120 = .ok (.iconst 4, 1) := by decide +kernel
theorem d1_121 : decode method_4_code 121 = .ok (.newarray .char, 2) := by decide +kernel
theorem d1_123 : decode method_4_code 123 = .ok (.dup, 1) := by decide +kernel
theorem d1_124 : decode method_4_code 124 = .ok (.iconst 0, 1) := by decide +kernel
theorem d1_125 : decode method_4_code 125 = .ok (.iload_n 1, 1) := by decide +kernel
theorem d1_126 : decode method_4_code 126 = .ok (.iconst 0, 1) := by decide +kernel
theorem d1_127 : decode method_4_code 127 = .ok (.invokestatic 37, 3) := by decide +kernel
theorem d1_130 : decode method_4_code 130 = .ok (.castore, 1) := by decide +kernel
theorem d1_131 : decode method_4_code 131 = .ok (.dup, 1) := by decide +kernel
theorem d1_132 : decode method_4_code 132 = .ok (.iconst 1, 1) := by decide +kernel
theorem d1_133 : decode method_4_code 133 = .ok (.iload_n 1, 1) := by decide +kernel
theorem d1_134 : decode method_4_code 134 = .ok (.iconst 1, 1) := by decide +kernel
theorem d1_135 : decode method_4_code 135 = .ok (.invokestatic 37, 3) := by decide +kernel
theorem d1_138 : decode method_4_code 138 = .ok (.castore, 1) := by decide +kernel
theorem d1_139 : decode method_4_code 139 = .ok (.dup, 1) := by decide +kernel
theorem d1_140 : decode method_4_code 140 = .ok (.iconst 2, 1) := by decide +kernel
theorem d1_141 : decode method_4_code 141 = .ok (.iload_n 1, 1) := by decide +kernel
theorem d1_142 : decode method_4_code 142 = .ok (.iconst 2, 1) := by decide +kernel
theorem d1_143 : decode method_4_code 143 = .ok (.invokestatic 37, 3) := by decide +kernel
theorem d1_146 : decode method_4_code 146 = .ok (.castore, 1) := by decide +kernel
theorem d1_147 : decode method_4_code 147 = .ok (.dup, 1) := by decide +kernel
theorem d1_148 : decode method_4_code 148 = .ok (.iconst 3, 1) := by decide +kernel
theorem d1_149 : decode method_4_code 149 = .ok (.iload_n 1, 1) := by decide +kernel
theorem d1_150 : decode method_4_code 150 = .ok (.iconst 3, 1) := by decide +kernel
theorem d1_151 : decode method_4_code 151 = .ok (.invokestatic 37, 3) := by decide +kernel
theorem d1_154 : decode method_4_code 154 = .ok (.castore, 1) := by decide +kernel
theorem d1_155 : decode method_4_code 155 = .ok (.invokespecial 34, 3) := by decide +kernel
theorem d1_158 : decode method_4_code 158 = .ok (.areturn, 1) := by decide +kernel
def Q_rmS_4 (Z : State) (p1 : Int32) (h0 : Heap) (n0 : Nat) (v : Option Value) (h : Heap) (L : List Loc) : Prop := SQ_ Z (4 : Int32) h0 n0 v h L
set_option maxRecDepth 65536 in
set_option maxHeartbeats 40000000 in
theorem rmS_4 (l : Launch) (Z : State) (a0 : Array Value) (hw : ∀ d ∈ tables_1, d.before a0 Z = true) (ws : List Jvm.Cond) (p1 : Int32) (h0 : Heap) (n0 : Nat) (Z0 : n0 ≤ h0.size) (hs : own_st Z) (Ol : Old Z n0 h0) :
    MetFree l (⟨"com/example/ringfence/ringfence/NumberPatternRankPinLaw", "str", "(II)Ljava/lang/String;"⟩ : MethodName) (head1 (Jvm.Cond.code (⟨"com/example/ringfence/ringfence/NumberPatternRankPinLaw", "str", "(II)Ljava/lang/String;"⟩ : MethodName) method_4_code 2 (some (.object "java/lang/String")) :: ws) ({ frames := 4, cells := 3, slots := 14, locals := 96 } : Room)) (fun argv U => argv = #[(.int (4 : Int32)), (.int p1)] ∧ Z.Warmed39 U.vm ∧ U.heap = h0) (fun _ _ _ _ _ => True) (fun _ U o U' => ∃ v L, o = .returned v ∧ Q_rmS_4 Z p1 h0 n0 v U'.heap L ∧ FrameEnd U o U' L ({ frames := 4, cells := 3, slots := 14, locals := 96 } : Room).cells ({ frames := 4, cells := 3, slots := 14, locals := 96 } : Room).slots) := by
  refine MetFree.of_bodySF (plainFor_of_name pn_1) hisR ?_
  intro p e s m args below meth c s₁ Bd hml0 hP hK
  obtain ⟨rfl, hZ, hh⟩ := hP
  have hx := Bd.exec
  have hby := Bd.bytes
  have hml : c.maxLocals = 2 := hml0
  have hown : s.vm.findClass "com/example/ringfence/ringfence/NumberPatternRankPinLaw" = some m.cls := findClass_of_methodNamed Bd.named
  have hnm := (name_of_methodNamed Bd.named Bd.method).1
  have X0 : Stand p l e ({ frames := 4, cells := 3, slots := 14, locals := 96 } : Room) s m #[(.int (4 : Int32)), (.int p1)] below meth c s₁ [] 0 0 := Stand.of_body Bd
  have e0 : s₁.heap = h0 := by rw [← hh, Bd.state]; rfl
  have N0 := Fr.nil n0
  obtain ⟨G, hG⟩ : ∃ G : State → Prop, G = fun tg => Steps p.tables e below (s₁.setTop (entryFrame m #[(.int (4 : Int32)), (.int p1)] 2)) tg := ⟨_, rfl⟩
  have pre0 : ∀ tg, Steps p.tables e below (s₁.setTop (mkF m 0 #[.val (.int (4 : Int32)), .val (.int p1)] [])) tg → G tg := fun tg kt => by rw [hG]; exact castTop (ef_1_I_I m (4 : Int32) p1) kt
  have pre1 : ∀ tg, Steps p.tables e below (s₁.setTop (mkF m 116 #[.val (.int (4 : Int32)), .val (.int p1)] [])) tg → G tg := fun tg kt => pre0 tg (by
    show Steps p.tables e below (s₁.setTop (mkF m 0 #[.val (.int (4 : Int32)), .val (.int p1)] [])) _
    refine XS.iloadN X0.here hx rfl (hb hby d1_0) rfl ?_
    show Steps p.tables e below (s₁.setTop (mkF m 1 #[.val (.int (4 : Int32)), .val (.int p1)] [(.int (4 : Int32))])) _
    refine XS.ifYes X0.here hx rfl (pc0 := 1) (pc' := 15) rfl (hb hby d1_1) rfl ((if0 _ _).trans (feq (by decide : ¬ ((4 : Int32) = (0 : Int32)))).2) (by decide) (by decide) ?_
    show Steps p.tables e below (s₁.setTop (mkF m 15 #[.val (.int (4 : Int32)), .val (.int p1)] [])) _
    refine XS.iloadN X0.here hx rfl (hb hby d1_15) rfl ?_
    show Steps p.tables e below (s₁.setTop (mkF m 16 #[.val (.int (4 : Int32)), .val (.int p1)] [(.int (4 : Int32))])) _
    refine XS.iconst X0.here hx rfl (hb hby d1_16) ?_
    show Steps p.tables e below (s₁.setTop (mkF m 17 #[.val (.int (4 : Int32)), .val (.int p1)] [(.int (1 : Int32)), (.int (4 : Int32))])) _
    refine XS.icmpYes X0.here hx rfl (pc0 := 17) (pc' := 39) rfl (hb hby d1_17) rfl (feq (by decide : ¬ ((4 : Int32) = (1 : Int32)))).2 (by decide) (by decide) ?_
    show Steps p.tables e below (s₁.setTop (mkF m 39 #[.val (.int (4 : Int32)), .val (.int p1)] [])) _
    refine XS.iloadN X0.here hx rfl (hb hby d1_39) rfl ?_
    show Steps p.tables e below (s₁.setTop (mkF m 40 #[.val (.int (4 : Int32)), .val (.int p1)] [(.int (4 : Int32))])) _
    refine XS.iconst X0.here hx rfl (hb hby d1_40) ?_
    show Steps p.tables e below (s₁.setTop (mkF m 41 #[.val (.int (4 : Int32)), .val (.int p1)] [(.int (2 : Int32)), (.int (4 : Int32))])) _
    refine XS.icmpYes X0.here hx rfl (pc0 := 41) (pc' := 71) rfl (hb hby d1_41) rfl (feq (by decide : ¬ ((4 : Int32) = (2 : Int32)))).2 (by decide) (by decide) ?_
    show Steps p.tables e below (s₁.setTop (mkF m 71 #[.val (.int (4 : Int32)), .val (.int p1)] [])) _
    refine XS.iloadN X0.here hx rfl (hb hby d1_71) rfl ?_
    show Steps p.tables e below (s₁.setTop (mkF m 72 #[.val (.int (4 : Int32)), .val (.int p1)] [(.int (4 : Int32))])) _
    refine XS.iconst X0.here hx rfl (hb hby d1_72) ?_
    show Steps p.tables e below (s₁.setTop (mkF m 73 #[.val (.int (4 : Int32)), .val (.int p1)] [(.int (3 : Int32)), (.int (4 : Int32))])) _
    refine XS.icmpYes X0.here hx rfl (pc0 := 73) (pc' := 111) rfl (hb hby d1_73) rfl (feq (by decide : ¬ ((4 : Int32) = (3 : Int32)))).2 (by decide) (by decide) ?_
    show Steps p.tables e below (s₁.setTop (mkF m 111 #[.val (.int (4 : Int32)), .val (.int p1)] [])) _
    refine XS.iloadN X0.here hx rfl (hb hby d1_111) rfl ?_
    show Steps p.tables e below (s₁.setTop (mkF m 112 #[.val (.int (4 : Int32)), .val (.int p1)] [(.int (4 : Int32))])) _
    refine XS.iconst X0.here hx rfl (hb hby d1_112) ?_
    show Steps p.tables e below (s₁.setTop (mkF m 113 #[.val (.int (4 : Int32)), .val (.int p1)] [(.int (4 : Int32)), (.int (4 : Int32))])) _
    refine XS.icmpNo X0.here hx rfl (hb hby d1_113) rfl (teq (by decide : (4 : Int32) = (4 : Int32))).2 ?_
    exact kt)
  obtain ⟨T2, h2, X2, e2, E2, A2, D2, -, st2⟩ := newO X0 hx hZ hown (hw _ (List.mem_of_getElem? (i := 5) rfl)) (hw _ (List.mem_of_getElem? (i := 6) rfl)) (hw _ (List.mem_of_getElem? (i := 7) rfl)) e0 (g := (mkF m 116 #[.val (.int (4 : Int32)), .val (.int p1)] [])) rfl (hb hby d1_116) (by decide) (by decide)
  obtain ⟨r, g2⟩ : ∃ z, z = h0.size := ⟨_, rfl⟩
  rw [← g2] at A2 D2 st2
  have O_r : n0 ≤ r := Nat.le_trans Z0 (Nat.le_of_eq g2.symm)
  have Z2 : n0 ≤ h2.size := Nat.le_trans Z0 E2.1
  have S_r : h0.size ≤ r := Nat.le_trans (Keep.refl h0 []).1 (Nat.le_of_eq g2.symm)
  have pre2s : ∀ tg, Steps p.tables e below (T2.setTop (mkF m 119 #[.val (.int (4 : Int32)), .val (.int p1)] [(.ref r)])) tg → G tg := fun tg kt => pre1 tg (st2 tg kt)
  have Ol3 := Ol.ext E2
  have Fvalue_r : Fld Z h2 r "java/lang/String" "value" "[B" .null := D2 (Or.inr (hw _ (List.mem_of_getElem? (i := 21) rfl))) (ty := (.array .byte)) (by decide)
  have Fcoder_r : Fld Z h2 r "java/lang/String" "coder" "B" (.int (0 : Int32)) := D2 (Or.inr (hw _ (List.mem_of_getElem? (i := 22) rfl))) (ty := .byte) (by decide)
  have K2 : Keep h0 h2 [] := (Keep.refl h0 []).ext E2
  have pre4 : ∀ tg, Steps p.tables e below (T2.setTop (mkF m 121 #[.val (.int (4 : Int32)), .val (.int p1)] [(.int (4 : Int32)), (.ref r), (.ref r)])) tg → G tg := fun tg kt => pre2s tg (by
    show Steps p.tables e below (T2.setTop (mkF m 119 #[.val (.int (4 : Int32)), .val (.int p1)] [(.ref r)])) _
    refine XS.dup X2.here hx rfl (hb hby d1_119) rfl rfl ?_
    show Steps p.tables e below (T2.setTop (mkF m 120 #[.val (.int (4 : Int32)), .val (.int p1)] [(.ref r), (.ref r)])) _
    refine XS.iconst X2.here hx rfl (hb hby d1_120) ?_
    exact kt)
  obtain ⟨T5, h5, k5, X5, e5, E5, A5, st5⟩ := newP X2 hx hZ (hw _ (List.mem_of_getElem? (i := 8) rfl)) e2 (g := (mkF m 121 #[.val (.int (4 : Int32)), .val (.int p1)] [(.int (4 : Int32)), (.ref r), (.ref r)])) rfl (hb hby d1_121) rfl (by decide) (cap := 4) (by decide) (by decide) (by decide) (by decide)
  obtain ⟨ca, g5⟩ : ∃ z, z = h2.size := ⟨_, rfl⟩
  rw [← g5] at A5 st5
  have O_ca : n0 ≤ ca := Nat.le_trans Z2 (Nat.le_of_eq g5.symm)
  have Z5 : n0 ≤ h5.size := Nat.le_trans Z2 E5.1
  have ne_r_ca : r ≠ ca := Nat.ne_of_lt (Nat.lt_of_lt_of_le A2.lt (Nat.le_of_eq g5.symm))
  have S_ca : h0.size ≤ ca := Nat.le_trans K2.1 (Nat.le_of_eq g5.symm)
  have pre5s : ∀ tg, Steps p.tables e below (T5.setTop (mkF m 123 #[.val (.int (4 : Int32)), .val (.int p1)] [(.ref ca), (.ref r), (.ref r)])) tg → G tg := fun tg kt => pre4 tg (st5 tg kt)
  have A2_6 := A2.ext E5
  have Fvalue_r_7 := Fvalue_r.ext E5
  have Fcoder_r_8 := Fcoder_r.ext E5
  have Ol9 := Ol3.ext E5
  have V_ca : Arv Z h5 ca k5 .char (4 : Int32) [(.int (0 : Int32)), (.int (0 : Int32)), (.int (0 : Int32)), (.int (0 : Int32))] (.int (0 : Int32)) := (Arv.new A5 (by decide)).pad (pad_rep [] (.int (0 : Int32)) 4)
  have K5 : Keep h0 h5 [] := K2.ext E5
  have pre10 : ∀ tg, Steps p.tables e below (T5.setTop (mkF m 127 #[.val (.int (4 : Int32)), .val (.int p1)] [(.int (0 : Int32)), (.int p1), (.int (0 : Int32)), (.ref ca), (.ref ca), (.ref r), (.ref r)])) tg → G tg := fun tg kt => pre5s tg (by
    show Steps p.tables e below (T5.setTop (mkF m 123 #[.val (.int (4 : Int32)), .val (.int p1)] [(.ref ca), (.ref r), (.ref r)])) _
    refine XS.dup X5.here hx rfl (hb hby d1_123) rfl rfl ?_
    show Steps p.tables e below (T5.setTop (mkF m 124 #[.val (.int (4 : Int32)), .val (.int p1)] [(.ref ca), (.ref ca), (.ref r), (.ref r)])) _
    refine XS.iconst X5.here hx rfl (hb hby d1_124) ?_
    show Steps p.tables e below (T5.setTop (mkF m 125 #[.val (.int (4 : Int32)), .val (.int p1)] [(.int (0 : Int32)), (.ref ca), (.ref ca), (.ref r), (.ref r)])) _
    refine XS.iloadN X5.here hx rfl (hb hby d1_125) rfl ?_
    show Steps p.tables e below (T5.setTop (mkF m 126 #[.val (.int (4 : Int32)), .val (.int p1)] [(.int p1), (.int (0 : Int32)), (.ref ca), (.ref ca), (.ref r), (.ref r)])) _
    refine XS.iconst X5.here hx rfl (hb hby d1_126) ?_
    exact kt)
  obtain ⟨_, _, ⟨T11, L11, k11, n11⟩, -, X11, ⟨Lc11, hQ11, l11, y11, z11⟩, st11⟩ := Jvm.LawKit.callS X5 hx (y := (⟨"com/example/ringfence/ringfence/NumberPatternRankPinLaw", "dg", "(II)C"⟩ : MethodName)) hown (mvT hZ (hw _ (List.mem_of_getElem? (i := 27) rfl))) (mvT hZ (hw _ (List.mem_of_getElem? (i := 28) rfl))) (mvT hZ (hw _ (List.mem_of_getElem? (i := 3) rfl))) (mvT hZ (hw _ (List.mem_of_getElem? (i := 29) rfl))) (by decide) (backOf (W := 5) (rm5 l Z a0 hw [] p1 (0 : Int32) h5 n0 Z5 ) hZ (hw _ (List.mem_of_getElem? (i := 29) rfl)) (hw _ (List.mem_of_getElem? (i := 3) rfl)) (by decide) (by decide)) (g := (mkF m 127 #[.val (.int (4 : Int32)), .val (.int p1)] [(.int (0 : Int32)), (.int p1), (.int (0 : Int32)), (.ref ca), (.ref ca), (.ref r), (.ref r)])) rfl (by rw [hml]; rfl) (argsL := [(.int p1), (.int (0 : Int32))]) (rest := [(.int (0 : Int32)), (.ref ca), (.ref ca), (.ref r), (.ref r)]) (lenOf pd_5 rfl) rfl (by show 2 * 0 + _ ≤ _; exact Nat.le_of_eq rfl) (hb hby d1_127) (fun _ _ => ⟨rfl, e5, (Nat.le_of_ble_eq_true rfl), (Nat.le_of_ble_eq_true rfl)⟩)
  dsimp only [Pt.U, Pt.locs, Pt.cells, Pt.slots] at X11 l11 y11 z11 st11 hQ11
  subst l11 y11 z11
  obtain ⟨y0, rfl, hy0, N11q, e11⟩ := hQ11
  have N11 := Fr.app N0 N11q
  have pre11s : ∀ tg, Steps p.tables e below (T11.setTop (mkF m 130 #[.val (.int (4 : Int32)), .val (.int p1)] [(.int y0), (.int (0 : Int32)), (.ref ca), (.ref ca), (.ref r), (.ref r)])) tg → G tg := fun tg kt => pre10 tg (st11 tg kt)
  have op_12 := V_ca
  obtain ⟨cl_12, Ar_12, q_12, S_12, Ng_12, H_12, G_12⟩ := op_12
  have hin_12 : ¬ ((0 : Int32) < 0 ∨ cl_12.slots.size ≤ ((0 : Int32)).toNatClampNeg) := inb_of S_12 ⟨by decide, by decide⟩
  obtain ⟨T12, h12, X12, e12, W12, st12⟩ := stC X11 hx hZ e11 Ar_12 (j := (0 : Int32)) hin_12 (g := (mkF m 130 #[.val (.int (4 : Int32)), .val (.int p1)] [(.int y0), (.int (0 : Int32)), (.ref ca), (.ref ca), (.ref r), (.ref r)])) rfl rfl (hb hby d1_130)
  have pre12s : ∀ tg, Steps p.tables e below (T12.setTop (mkF m 131 #[.val (.int (4 : Int32)), .val (.int p1)] [(.ref ca), (.ref r), (.ref r)])) tg → G tg := fun tg kt => pre11s tg (st12 tg kt)
  have A2_13 := A2_6.wr W12
  have Fvalue_r_14 := Fvalue_r_7.other W12 (Or.inl ne_r_ca)
  have Fcoder_r_15 := Fcoder_r_8.other W12 (Or.inl ne_r_ca)
  have Ol16 := Ol9.wr W12 O_ca
  have V12_ca : Arv Z h12 ca k5 .char (4 : Int32) [(.int (y0.toUInt32.toUInt16.toUInt32.toInt32)), (.int (0 : Int32)), (.int (0 : Int32)), (.int (0 : Int32))] (.int (0 : Int32)) := Arv.set Ar_12 q_12 S_12 Ng_12 H_12 G_12 (fits_nar_char _) W12 0 rfl (Nat.le_of_ble_eq_true rfl)
  have N12 := Fr.snoc X12 N11 O_ca
  have Z12 : n0 ≤ h12.size := Nat.le_trans Z5 (Keep.of_wr W12).1
  have K12 : Keep h0 h12 [] := K5.wr W12 (Or.inr S_ca)
  rw [own_yc hy0] at V12_ca
  have pre17 : ∀ tg, Steps p.tables e below (T12.setTop (mkF m 135 #[.val (.int (4 : Int32)), .val (.int p1)] [(.int (1 : Int32)), (.int p1), (.int (1 : Int32)), (.ref ca), (.ref ca), (.ref r), (.ref r)])) tg → G tg := fun tg kt => pre12s tg (by
    show Steps p.tables e below (T12.setTop (mkF m 131 #[.val (.int (4 : Int32)), .val (.int p1)] [(.ref ca), (.ref r), (.ref r)])) _
    refine XS.dup X12.here hx rfl (hb hby d1_131) rfl rfl ?_
    show Steps p.tables e below (T12.setTop (mkF m 132 #[.val (.int (4 : Int32)), .val (.int p1)] [(.ref ca), (.ref ca), (.ref r), (.ref r)])) _
    refine XS.iconst X12.here hx rfl (hb hby d1_132) ?_
    show Steps p.tables e below (T12.setTop (mkF m 133 #[.val (.int (4 : Int32)), .val (.int p1)] [(.int (1 : Int32)), (.ref ca), (.ref ca), (.ref r), (.ref r)])) _
    refine XS.iloadN X12.here hx rfl (hb hby d1_133) rfl ?_
    show Steps p.tables e below (T12.setTop (mkF m 134 #[.val (.int (4 : Int32)), .val (.int p1)] [(.int p1), (.int (1 : Int32)), (.ref ca), (.ref ca), (.ref r), (.ref r)])) _
    refine XS.iconst X12.here hx rfl (hb hby d1_134) ?_
    exact kt)
  obtain ⟨_, _, ⟨T18, L18, k18, n18⟩, -, X18, ⟨Lc18, hQ18, l18, y18, z18⟩, st18⟩ := Jvm.LawKit.callS X12 hx (y := (⟨"com/example/ringfence/ringfence/NumberPatternRankPinLaw", "dg", "(II)C"⟩ : MethodName)) hown (mvT hZ (hw _ (List.mem_of_getElem? (i := 27) rfl))) (mvT hZ (hw _ (List.mem_of_getElem? (i := 28) rfl))) (mvT hZ (hw _ (List.mem_of_getElem? (i := 3) rfl))) (mvT hZ (hw _ (List.mem_of_getElem? (i := 29) rfl))) (by decide) (backOf (W := 5) (rm5 l Z a0 hw [] p1 (1 : Int32) h12 n0 Z12 ) hZ (hw _ (List.mem_of_getElem? (i := 29) rfl)) (hw _ (List.mem_of_getElem? (i := 3) rfl)) (by decide) (by decide)) (g := (mkF m 135 #[.val (.int (4 : Int32)), .val (.int p1)] [(.int (1 : Int32)), (.int p1), (.int (1 : Int32)), (.ref ca), (.ref ca), (.ref r), (.ref r)])) rfl (by rw [hml]; rfl) (argsL := [(.int p1), (.int (1 : Int32))]) (rest := [(.int (1 : Int32)), (.ref ca), (.ref ca), (.ref r), (.ref r)]) (lenOf pd_5 rfl) rfl (by show 2 * 0 + _ ≤ _; exact Nat.le_of_eq rfl) (hb hby d1_135) (fun _ _ => ⟨rfl, e12, (Nat.le_of_ble_eq_true rfl), (Nat.le_of_ble_eq_true rfl)⟩)
  dsimp only [Pt.U, Pt.locs, Pt.cells, Pt.slots] at X18 l18 y18 z18 st18 hQ18
  subst l18 y18 z18
  obtain ⟨y1, rfl, hy1, N18q, e18⟩ := hQ18
  have N18 := Fr.app N12 N18q
  have pre18s : ∀ tg, Steps p.tables e below (T18.setTop (mkF m 138 #[.val (.int (4 : Int32)), .val (.int p1)] [(.int y1), (.int (1 : Int32)), (.ref ca), (.ref ca), (.ref r), (.ref r)])) tg → G tg := fun tg kt => pre17 tg (st18 tg kt)
  have op_19 := V12_ca
  obtain ⟨cl_19, Ar_19, q_19, S_19, Ng_19, H_19, G_19⟩ := op_19
  have hin_19 : ¬ ((1 : Int32) < 0 ∨ cl_19.slots.size ≤ ((1 : Int32)).toNatClampNeg) := inb_of S_19 ⟨by decide, by decide⟩
  obtain ⟨T19, h19, X19, e19, W19, st19⟩ := stC X18 hx hZ e18 Ar_19 (j := (1 : Int32)) hin_19 (g := (mkF m 138 #[.val (.int (4 : Int32)), .val (.int p1)] [(.int y1), (.int (1 : Int32)), (.ref ca), (.ref ca), (.ref r), (.ref r)])) rfl rfl (hb hby d1_138)
  have pre19s : ∀ tg, Steps p.tables e below (T19.setTop (mkF m 139 #[.val (.int (4 : Int32)), .val (.int p1)] [(.ref ca), (.ref r), (.ref r)])) tg → G tg := fun tg kt => pre18s tg (st19 tg kt)
  have A2_20 := A2_13.wr W19
  have Fvalue_r_21 := Fvalue_r_14.other W19 (Or.inl ne_r_ca)
  have Fcoder_r_22 := Fcoder_r_15.other W19 (Or.inl ne_r_ca)
  have Ol23 := Ol16.wr W19 O_ca
  have V19_ca : Arv Z h19 ca k5 .char (4 : Int32) [(.int y0), (.int (y1.toUInt32.toUInt16.toUInt32.toInt32)), (.int (0 : Int32)), (.int (0 : Int32))] (.int (0 : Int32)) := Arv.set Ar_19 q_19 S_19 Ng_19 H_19 G_19 (fits_nar_char _) W19 1 rfl (Nat.le_of_ble_eq_true rfl)
  have N19 := Fr.snoc X19 N18 O_ca
  have Z19 : n0 ≤ h19.size := Nat.le_trans Z12 (Keep.of_wr W19).1
  have K19 : Keep h0 h19 [] := K12.wr W19 (Or.inr S_ca)
  rw [own_yc hy1] at V19_ca
  have pre24 : ∀ tg, Steps p.tables e below (T19.setTop (mkF m 143 #[.val (.int (4 : Int32)), .val (.int p1)] [(.int (2 : Int32)), (.int p1), (.int (2 : Int32)), (.ref ca), (.ref ca), (.ref r), (.ref r)])) tg → G tg := fun tg kt => pre19s tg (by
    show Steps p.tables e below (T19.setTop (mkF m 139 #[.val (.int (4 : Int32)), .val (.int p1)] [(.ref ca), (.ref r), (.ref r)])) _
    refine XS.dup X19.here hx rfl (hb hby d1_139) rfl rfl ?_
    show Steps p.tables e below (T19.setTop (mkF m 140 #[.val (.int (4 : Int32)), .val (.int p1)] [(.ref ca), (.ref ca), (.ref r), (.ref r)])) _
    refine XS.iconst X19.here hx rfl (hb hby d1_140) ?_
    show Steps p.tables e below (T19.setTop (mkF m 141 #[.val (.int (4 : Int32)), .val (.int p1)] [(.int (2 : Int32)), (.ref ca), (.ref ca), (.ref r), (.ref r)])) _
    refine XS.iloadN X19.here hx rfl (hb hby d1_141) rfl ?_
    show Steps p.tables e below (T19.setTop (mkF m 142 #[.val (.int (4 : Int32)), .val (.int p1)] [(.int p1), (.int (2 : Int32)), (.ref ca), (.ref ca), (.ref r), (.ref r)])) _
    refine XS.iconst X19.here hx rfl (hb hby d1_142) ?_
    exact kt)
  obtain ⟨_, _, ⟨T25, L25, k25, n25⟩, -, X25, ⟨Lc25, hQ25, l25, y25, z25⟩, st25⟩ := Jvm.LawKit.callS X19 hx (y := (⟨"com/example/ringfence/ringfence/NumberPatternRankPinLaw", "dg", "(II)C"⟩ : MethodName)) hown (mvT hZ (hw _ (List.mem_of_getElem? (i := 27) rfl))) (mvT hZ (hw _ (List.mem_of_getElem? (i := 28) rfl))) (mvT hZ (hw _ (List.mem_of_getElem? (i := 3) rfl))) (mvT hZ (hw _ (List.mem_of_getElem? (i := 29) rfl))) (by decide) (backOf (W := 5) (rm5 l Z a0 hw [] p1 (2 : Int32) h19 n0 Z19 ) hZ (hw _ (List.mem_of_getElem? (i := 29) rfl)) (hw _ (List.mem_of_getElem? (i := 3) rfl)) (by decide) (by decide)) (g := (mkF m 143 #[.val (.int (4 : Int32)), .val (.int p1)] [(.int (2 : Int32)), (.int p1), (.int (2 : Int32)), (.ref ca), (.ref ca), (.ref r), (.ref r)])) rfl (by rw [hml]; rfl) (argsL := [(.int p1), (.int (2 : Int32))]) (rest := [(.int (2 : Int32)), (.ref ca), (.ref ca), (.ref r), (.ref r)]) (lenOf pd_5 rfl) rfl (by show 2 * 0 + _ ≤ _; exact Nat.le_of_eq rfl) (hb hby d1_143) (fun _ _ => ⟨rfl, e19, (Nat.le_of_ble_eq_true rfl), (Nat.le_of_ble_eq_true rfl)⟩)
  dsimp only [Pt.U, Pt.locs, Pt.cells, Pt.slots] at X25 l25 y25 z25 st25 hQ25
  subst l25 y25 z25
  obtain ⟨y2, rfl, hy2, N25q, e25⟩ := hQ25
  have N25 := Fr.app N19 N25q
  have pre25s : ∀ tg, Steps p.tables e below (T25.setTop (mkF m 146 #[.val (.int (4 : Int32)), .val (.int p1)] [(.int y2), (.int (2 : Int32)), (.ref ca), (.ref ca), (.ref r), (.ref r)])) tg → G tg := fun tg kt => pre24 tg (st25 tg kt)
  have op_26 := V19_ca
  obtain ⟨cl_26, Ar_26, q_26, S_26, Ng_26, H_26, G_26⟩ := op_26
  have hin_26 : ¬ ((2 : Int32) < 0 ∨ cl_26.slots.size ≤ ((2 : Int32)).toNatClampNeg) := inb_of S_26 ⟨by decide, by decide⟩
  obtain ⟨T26, h26, X26, e26, W26, st26⟩ := stC X25 hx hZ e25 Ar_26 (j := (2 : Int32)) hin_26 (g := (mkF m 146 #[.val (.int (4 : Int32)), .val (.int p1)] [(.int y2), (.int (2 : Int32)), (.ref ca), (.ref ca), (.ref r), (.ref r)])) rfl rfl (hb hby d1_146)
  have pre26s : ∀ tg, Steps p.tables e below (T26.setTop (mkF m 147 #[.val (.int (4 : Int32)), .val (.int p1)] [(.ref ca), (.ref r), (.ref r)])) tg → G tg := fun tg kt => pre25s tg (st26 tg kt)
  have A2_27 := A2_20.wr W26
  have Fvalue_r_28 := Fvalue_r_21.other W26 (Or.inl ne_r_ca)
  have Fcoder_r_29 := Fcoder_r_22.other W26 (Or.inl ne_r_ca)
  have Ol30 := Ol23.wr W26 O_ca
  have V26_ca : Arv Z h26 ca k5 .char (4 : Int32) [(.int y0), (.int y1), (.int (y2.toUInt32.toUInt16.toUInt32.toInt32)), (.int (0 : Int32))] (.int (0 : Int32)) := Arv.set Ar_26 q_26 S_26 Ng_26 H_26 G_26 (fits_nar_char _) W26 2 rfl (Nat.le_of_ble_eq_true rfl)
  have N26 := Fr.snoc X26 N25 O_ca
  have Z26 : n0 ≤ h26.size := Nat.le_trans Z19 (Keep.of_wr W26).1
  have K26 : Keep h0 h26 [] := K19.wr W26 (Or.inr S_ca)
  rw [own_yc hy2] at V26_ca
  have pre31 : ∀ tg, Steps p.tables e below (T26.setTop (mkF m 151 #[.val (.int (4 : Int32)), .val (.int p1)] [(.int (3 : Int32)), (.int p1), (.int (3 : Int32)), (.ref ca), (.ref ca), (.ref r), (.ref r)])) tg → G tg := fun tg kt => pre26s tg (by
    show Steps p.tables e below (T26.setTop (mkF m 147 #[.val (.int (4 : Int32)), .val (.int p1)] [(.ref ca), (.ref r), (.ref r)])) _
    refine XS.dup X26.here hx rfl (hb hby d1_147) rfl rfl ?_
    show Steps p.tables e below (T26.setTop (mkF m 148 #[.val (.int (4 : Int32)), .val (.int p1)] [(.ref ca), (.ref ca), (.ref r), (.ref r)])) _
    refine XS.iconst X26.here hx rfl (hb hby d1_148) ?_
    show Steps p.tables e below (T26.setTop (mkF m 149 #[.val (.int (4 : Int32)), .val (.int p1)] [(.int (3 : Int32)), (.ref ca), (.ref ca), (.ref r), (.ref r)])) _
    refine XS.iloadN X26.here hx rfl (hb hby d1_149) rfl ?_
    show Steps p.tables e below (T26.setTop (mkF m 150 #[.val (.int (4 : Int32)), .val (.int p1)] [(.int p1), (.int (3 : Int32)), (.ref ca), (.ref ca), (.ref r), (.ref r)])) _
    refine XS.iconst X26.here hx rfl (hb hby d1_150) ?_
    exact kt)
  obtain ⟨_, _, ⟨T32, L32, k32, n32⟩, -, X32, ⟨Lc32, hQ32, l32, y32, z32⟩, st32⟩ := Jvm.LawKit.callS X26 hx (y := (⟨"com/example/ringfence/ringfence/NumberPatternRankPinLaw", "dg", "(II)C"⟩ : MethodName)) hown (mvT hZ (hw _ (List.mem_of_getElem? (i := 27) rfl))) (mvT hZ (hw _ (List.mem_of_getElem? (i := 28) rfl))) (mvT hZ (hw _ (List.mem_of_getElem? (i := 3) rfl))) (mvT hZ (hw _ (List.mem_of_getElem? (i := 29) rfl))) (by decide) (backOf (W := 5) (rm5 l Z a0 hw [] p1 (3 : Int32) h26 n0 Z26 ) hZ (hw _ (List.mem_of_getElem? (i := 29) rfl)) (hw _ (List.mem_of_getElem? (i := 3) rfl)) (by decide) (by decide)) (g := (mkF m 151 #[.val (.int (4 : Int32)), .val (.int p1)] [(.int (3 : Int32)), (.int p1), (.int (3 : Int32)), (.ref ca), (.ref ca), (.ref r), (.ref r)])) rfl (by rw [hml]; rfl) (argsL := [(.int p1), (.int (3 : Int32))]) (rest := [(.int (3 : Int32)), (.ref ca), (.ref ca), (.ref r), (.ref r)]) (lenOf pd_5 rfl) rfl (by show 2 * 0 + _ ≤ _; exact Nat.le_of_eq rfl) (hb hby d1_151) (fun _ _ => ⟨rfl, e26, (Nat.le_of_ble_eq_true rfl), (Nat.le_of_ble_eq_true rfl)⟩)
  dsimp only [Pt.U, Pt.locs, Pt.cells, Pt.slots] at X32 l32 y32 z32 st32 hQ32
  subst l32 y32 z32
  obtain ⟨y3, rfl, hy3, N32q, e32⟩ := hQ32
  have N32 := Fr.app N26 N32q
  have pre32s : ∀ tg, Steps p.tables e below (T32.setTop (mkF m 154 #[.val (.int (4 : Int32)), .val (.int p1)] [(.int y3), (.int (3 : Int32)), (.ref ca), (.ref ca), (.ref r), (.ref r)])) tg → G tg := fun tg kt => pre31 tg (st32 tg kt)
  have op_33 := V26_ca
  obtain ⟨cl_33, Ar_33, q_33, S_33, Ng_33, H_33, G_33⟩ := op_33
  have hin_33 : ¬ ((3 : Int32) < 0 ∨ cl_33.slots.size ≤ ((3 : Int32)).toNatClampNeg) := inb_of S_33 ⟨by decide, by decide⟩
  obtain ⟨T33, h33, X33, e33, W33, st33⟩ := stC X32 hx hZ e32 Ar_33 (j := (3 : Int32)) hin_33 (g := (mkF m 154 #[.val (.int (4 : Int32)), .val (.int p1)] [(.int y3), (.int (3 : Int32)), (.ref ca), (.ref ca), (.ref r), (.ref r)])) rfl rfl (hb hby d1_154)
  have pre33s : ∀ tg, Steps p.tables e below (T33.setTop (mkF m 155 #[.val (.int (4 : Int32)), .val (.int p1)] [(.ref ca), (.ref r), (.ref r)])) tg → G tg := fun tg kt => pre32s tg (st33 tg kt)
  have A2_34 := A2_27.wr W33
  have Fvalue_r_35 := Fvalue_r_28.other W33 (Or.inl ne_r_ca)
  have Fcoder_r_36 := Fcoder_r_29.other W33 (Or.inl ne_r_ca)
  have Ol37 := Ol30.wr W33 O_ca
  have V33_ca : Arv Z h33 ca k5 .char (4 : Int32) [(.int y0), (.int y1), (.int y2), (.int (y3.toUInt32.toUInt16.toUInt32.toInt32))] (.int (0 : Int32)) := Arv.set Ar_33 q_33 S_33 Ng_33 H_33 G_33 (fits_nar_char _) W33 3 rfl (Nat.le_of_ble_eq_true rfl)
  have N33 := Fr.snoc X33 N32 O_ca
  have Z33 : n0 ≤ h33.size := Nat.le_trans Z26 (Keep.of_wr W33).1
  have K33 : Keep h0 h33 [] := K26.wr W33 (Or.inr S_ca)
  rw [own_yc hy3] at V33_ca
  obtain ⟨_, _, ⟨T38, L38, k38, n38⟩, -, X38, ⟨Lc38, hQ38, l38, y38, z38⟩, st38⟩ := X33.specialBack hx (y := (⟨"java/lang/String", "<init>", "([C)V"⟩ : MethodName)) rfl hown (mvT hZ (hw _ (List.mem_of_getElem? (i := 9) rfl))) (mvT hZ (hw _ (List.mem_of_getElem? (i := 10) rfl))) (mvT hZ (hw _ (List.mem_of_getElem? (i := 11) rfl))) (by decide) (backOf (W := 1) (rmJ_4 l Z a0 hw [] r ca k5 y0 y1 y2 y3 h33 n0 Z33 hs Ol37 A2_34 Fcoder_r_36 Fvalue_r_35 O_r (Ne.symm ne_r_ca) V33_ca hy0 hy1 hy2 hy3) hZ (hw _ (List.mem_of_getElem? (i := 11) rfl)) (hw _ (List.mem_of_getElem? (i := 7) rfl)) (by decide) (by decide)) (g := (mkF m 155 #[.val (.int (4 : Int32)), .val (.int p1)] [(.ref ca), (.ref r), (.ref r)])) rfl (by rw [hml]; rfl) (Steps.refl _) (a := r) (argsL := [(.ref ca)]) (rest := [(.ref r)]) (lenOf pd_4 rfl) rfl (by show 2 * 0 + _ ≤ _; exact Nat.le_of_eq rfl) (hb hby d1_155) (fun _ _ => ⟨rfl, e33, (Nat.le_of_ble_eq_true rfl), (Nat.le_of_ble_eq_true rfl)⟩)
  dsimp only [Pt.U, Pt.locs, Pt.cells, Pt.slots] at X38 l38 y38 z38 st38 hQ38
  subst l38 y38 z38
  obtain ⟨rfl, N38q, K38, Tx⟩ := hQ38
  have N38 := Fr.app N33 N38q
  have pre38s : ∀ tg, Steps p.tables e below (T38.setTop (mkF m 158 #[.val (.int (4 : Int32)), .val (.int p1)] [(.ref r)])) tg → G tg := fun tg kt => pre33s tg (st38.trans kt)
  have Z38 : n0 ≤ T38.heap.size := Nat.le_trans Z33 K38.1
  have A2_39 := A2_34.keep K38
  have V33_ca_40 := V33_ca.keep K38 (ninS (Ne.symm ne_r_ca) nin0)
  have Ol41 := Ol37.keep K38 (allS O_r all0)
  have KK38 : Keep h0 T38.heap [] := K33.trans K38 (allS (Or.inr S_r) all0)
  obtain ⟨fs, hr, hrun, hended, hW, hsame⟩ := X38.leave (v := some (.ref r)) (fun h => by rw [Bd.returns] at h; cases h)
  subst hG
  refine ⟨_, _, pre38s _ ?_, hrun, hended, _, _, rfl, ?_, ⟨_, rfl⟩, hW, hsame.mono (by decide) (by decide)⟩
  · skip
    show Steps p.tables e below (T38.setTop (mkF m 158 #[.val (.int (4 : Int32)), .val (.int p1)] [(.ref r)])) _
    jvm_step X38.here [X38.here.top, hx, (hb hby d1_158), X38.method', Bd.returns, Value.isRef, FieldType.isReference]
    first | (intro acts; rw [hr _ acts rfl rfl rfl]) | rw [hr _ _ rfl rfl rfl]
    exact Steps.refl _
  · show Q_rmS_4 Z p1 h0 n0 _ T38.heap _
    exact ⟨r, rfl, N38, KK38, A2_39, Tx⟩
theorem d1_159 : decode method_4_code 159 = .ok (.new 32, 3) := by decide +kernel
theorem d1_162 : decode method_4_code 162 = .ok (.dup, 1) := by decide +kernel
theorem d1_163 : decode method_4_code 163 = .ok (.iconst 5, 1) := by decide +kernel
theorem d1_164 : decode method_4_code 164 = .ok (.newarray .char, 2) := by decide +kernel
theorem d1_166 : decode method_4_code 166 = .ok (.dup, 1) := by decide +kernel
theorem d1_167 : decode method_4_code 167 = .ok (.iconst 0, 1) := by decide +kernel
theorem d1_168 : decode method_4_code 168 = .ok (.iload_n 1, 1) := by decide +kernel
theorem d1_169 : decode method_4_code 169 = .ok (.iconst 0, 1) := by decide +kernel
theorem d1_170 : decode method_4_code 170 = .ok (.invokestatic 37, 3) := by decide +kernel
theorem d1_173 : decode method_4_code 173 = .ok (.castore, 1) := by decide +kernel
theorem d1_174 : decode method_4_code 174 = .ok (.dup, 1) := by decide +kernel
theorem d1_175 : decode method_4_code 175 = .ok (.iconst 1, 1) := by decide +kernel
theorem d1_176 : decode method_4_code 176 = .ok (.iload_n 1, 1) := by decide +kernel
theorem d1_177 : decode method_4_code 177 = .ok (.iconst 1, 1) := by decide +kernel
theorem d1_178 : decode method_4_code 178 = .ok (.invokestatic 37, 3) := by decide +kernel
theorem d1_181 : decode method_4_code 181 = .ok (.castore, 1) := by decide +kernel
theorem d1_182 : decode method_4_code 182 = .ok (.dup, 1) := by decide +kernel
theorem d1_183 : decode method_4_code 183 = .ok (.iconst 2, 1) := by decide +kernel
theorem d1_184 : decode method_4_code 184 = .ok (.iload_n 1, 1) := by decide +kernel
theorem d1_185 : decode method_4_code 185 = .ok (.iconst 2, 1) := by decide +kernel
theorem d1_186 : decode method_4_code 186 = .ok (.invokestatic 37, 3) := by decide +kernel
theorem d1_189 : decode method_4_code 189 = .ok (.castore, 1) := by decide +kernel
theorem d1_190 : decode method_4_code 190 = .ok (.dup, 1) := by decide +kernel
theorem d1_191 : decode method_4_code 191 = .ok (.iconst 3, 1) := by decide +kernel
theorem d1_192 : decode method_4_code 192 = .ok (.iload_n 1, 1) := by decide +kernel
theorem d1_193 : decode method_4_code 193 = .ok (.iconst 3, 1) := by decide +kernel
theorem d1_194 : decode method_4_code 194 = .ok (.invokestatic 37, 3) := by decide +kernel
theorem d1_197 : decode method_4_code 197 = .ok (.castore, 1) := by decide +kernel
theorem d1_198 : decode method_4_code 198 = .ok (.dup, 1) := by decide +kernel
theorem d1_199 : decode method_4_code 199 = .ok (.iconst 4, 1) := by decide +kernel
theorem d1_200 : decode method_4_code 200 = .ok (.iload_n 1, 1) := by decide +kernel
theorem d1_201 : decode method_4_code 201 = .ok (.iconst 4, 1) := by decide +kernel
theorem d1_202 : decode method_4_code 202 = .ok (.invokestatic 37, 3) := by decide +kernel
theorem d1_205 : decode method_4_code 205 = .ok (.castore, 1) := by decide +kernel
theorem d1_206 : decode method_4_code 206 = .ok (.invokespecial 34, 3) := by decide +kernel
theorem d1_209 : decode method_4_code 209 = .ok (.areturn, 1) := by decide +kernel
def Q_rmS_5 (Z : State) (p1 : Int32) (h0 : Heap) (n0 : Nat) (v : Option Value) (h : Heap) (L : List Loc) : Prop := SQ_ Z (5 : Int32) h0 n0 v h L
set_option maxRecDepth 65536 in
set_option maxHeartbeats 40000000 in
theorem rmS_5 (l : Launch) (Z : State) (a0 : Array Value) (hw : ∀ d ∈ tables_1, d.before a0 Z = true) (ws : List Jvm.Cond) (p1 : Int32) (h0 : Heap) (n0 : Nat) (Z0 : n0 ≤ h0.size) (hs : own_st Z) (Ol : Old Z n0 h0) :
    MetFree l (⟨"com/example/ringfence/ringfence/NumberPatternRankPinLaw", "str", "(II)Ljava/lang/String;"⟩ : MethodName) (head1 (Jvm.Cond.code (⟨"com/example/ringfence/ringfence/NumberPatternRankPinLaw", "str", "(II)Ljava/lang/String;"⟩ : MethodName) method_4_code 2 (some (.object "java/lang/String")) :: ws) ({ frames := 4, cells := 3, slots := 14, locals := 96 } : Room)) (fun argv U => argv = #[(.int (5 : Int32)), (.int p1)] ∧ Z.Warmed39 U.vm ∧ U.heap = h0) (fun _ _ _ _ _ => True) (fun _ U o U' => ∃ v L, o = .returned v ∧ Q_rmS_5 Z p1 h0 n0 v U'.heap L ∧ FrameEnd U o U' L ({ frames := 4, cells := 3, slots := 14, locals := 96 } : Room).cells ({ frames := 4, cells := 3, slots := 14, locals := 96 } : Room).slots) := by
  refine MetFree.of_bodySF (plainFor_of_name pn_1) hisR ?_
  intro p e s m args below meth c s₁ Bd hml0 hP hK
  obtain ⟨rfl, hZ, hh⟩ := hP
  have hx := Bd.exec
  have hby := Bd.bytes
  have hml : c.maxLocals = 2 := hml0
  have hown : s.vm.findClass "com/example/ringfence/ringfence/NumberPatternRankPinLaw" = some m.cls := findClass_of_methodNamed Bd.named
  have hnm := (name_of_methodNamed Bd.named Bd.method).1
  have X0 : Stand p l e ({ frames := 4, cells := 3, slots := 14, locals := 96 } : Room) s m #[(.int (5 : Int32)), (.int p1)] below meth c s₁ [] 0 0 := Stand.of_body Bd
  have e0 : s₁.heap = h0 := by rw [← hh, Bd.state]; rfl
  have N0 := Fr.nil n0
  obtain ⟨G, hG⟩ : ∃ G : State → Prop, G = fun tg => Steps p.tables e below (s₁.setTop (entryFrame m #[(.int (5 : Int32)), (.int p1)] 2)) tg := ⟨_, rfl⟩
  have pre0 : ∀ tg, Steps p.tables e below (s₁.setTop (mkF m 0 #[.val (.int (5 : Int32)), .val (.int p1)] [])) tg → G tg := fun tg kt => by rw [hG]; exact castTop (ef_1_I_I m (5 : Int32) p1) kt
  have pre1 : ∀ tg, Steps p.tables e below (s₁.setTop (mkF m 159 #[.val (.int (5 : Int32)), .val (.int p1)] [])) tg → G tg := fun tg kt => pre0 tg (by
    show Steps p.tables e below (s₁.setTop (mkF m 0 #[.val (.int (5 : Int32)), .val (.int p1)] [])) _
    refine XS.iloadN X0.here hx rfl (hb hby d1_0) rfl ?_
    show Steps p.tables e below (s₁.setTop (mkF m 1 #[.val (.int (5 : Int32)), .val (.int p1)] [(.int (5 : Int32))])) _
    refine XS.ifYes X0.here hx rfl (pc0 := 1) (pc' := 15) rfl (hb hby d1_1) rfl ((if0 _ _).trans (feq (by decide : ¬ ((5 : Int32) = (0 : Int32)))).2) (by decide) (by decide) ?_
    show Steps p.tables e below (s₁.setTop (mkF m 15 #[.val (.int (5 : Int32)), .val (.int p1)] [])) _
    refine XS.iloadN X0.here hx rfl (hb hby d1_15) rfl ?_
    show Steps p.tables e below (s₁.setTop (mkF m 16 #[.val (.int (5 : Int32)), .val (.int p1)] [(.int (5 : Int32))])) _
    refine XS.iconst X0.here hx rfl (hb hby d1_16) ?_
    show Steps p.tables e below (s₁.setTop (mkF m 17 #[.val (.int (5 : Int32)), .val (.int p1)] [(.int (1 : Int32)), (.int (5 : Int32))])) _
    refine XS.icmpYes X0.here hx rfl (pc0 := 17) (pc' := 39) rfl (hb hby d1_17) rfl (feq (by decide : ¬ ((5 : Int32) = (1 : Int32)))).2 (by decide) (by decide) ?_
    show Steps p.tables e below (s₁.setTop (mkF m 39 #[.val (.int (5 : Int32)), .val (.int p1)] [])) _
    refine XS.iloadN X0.here hx rfl (hb hby d1_39) rfl ?_
    show Steps p.tables e below (s₁.setTop (mkF m 40 #[.val (.int (5 : Int32)), .val (.int p1)] [(.int (5 : Int32))])) _
    refine XS.iconst X0.here hx rfl (hb hby d1_40) ?_
    show Steps p.tables e below (s₁.setTop (mkF m 41 #[.val (.int (5 : Int32)), .val (.int p1)] [(.int (2 : Int32)), (.int (5 : Int32))])) _
    refine XS.icmpYes X0.here hx rfl (pc0 := 41) (pc' := 71) rfl (hb hby d1_41) rfl (feq (by decide : ¬ ((5 : Int32) = (2 : Int32)))).2 (by decide) (by decide) ?_
    show Steps p.tables e below (s₁.setTop (mkF m 71 #[.val (.int (5 : Int32)), .val (.int p1)] [])) _
    refine XS.iloadN X0.here hx rfl (hb hby d1_71) rfl ?_
    show Steps p.tables e below (s₁.setTop (mkF m 72 #[.val (.int (5 : Int32)), .val (.int p1)] [(.int (5 : Int32))])) _
    refine XS.iconst X0.here hx rfl (hb hby d1_72) ?_
    show Steps p.tables e below (s₁.setTop (mkF m 73 #[.val (.int (5 : Int32)), .val (.int p1)] [(.int (3 : Int32)), (.int (5 : Int32))])) _
    refine XS.icmpYes X0.here hx rfl (pc0 := 73) (pc' := 111) rfl (hb hby d1_73) rfl (feq (by decide : ¬ ((5 : Int32) = (3 : Int32)))).2 (by decide) (by decide) ?_
    show Steps p.tables e below (s₁.setTop (mkF m 111 #[.val (.int (5 : Int32)), .val (.int p1)] [])) _
    refine XS.iloadN X0.here hx rfl (hb hby d1_111) rfl ?_
    show Steps p.tables e below (s₁.setTop (mkF m 112 #[.val (.int (5 : Int32)), .val (.int p1)] [(.int (5 : Int32))])) _
    refine XS.iconst X0.here hx rfl (hb hby d1_112) ?_
    show Steps p.tables e below (s₁.setTop (mkF m 113 #[.val (.int (5 : Int32)), .val (.int p1)] [(.int (4 : Int32)), (.int (5 : Int32))])) _
    refine XS.icmpYes X0.here hx rfl (pc0 := 113) (pc' := 159) rfl (hb hby d1_113) rfl (feq (by decide : ¬ ((5 : Int32) = (4 : Int32)))).2 (by decide) (by decide) ?_
    exact kt)
  obtain ⟨T2, h2, X2, e2, E2, A2, D2, -, st2⟩ := newO X0 hx hZ hown (hw _ (List.mem_of_getElem? (i := 5) rfl)) (hw _ (List.mem_of_getElem? (i := 6) rfl)) (hw _ (List.mem_of_getElem? (i := 7) rfl)) e0 (g := (mkF m 159 #[.val (.int (5 : Int32)), .val (.int p1)] [])) rfl (hb hby d1_159) (by decide) (by decide)
  obtain ⟨r, g2⟩ : ∃ z, z = h0.size := ⟨_, rfl⟩
  rw [← g2] at A2 D2 st2
  have O_r : n0 ≤ r := Nat.le_trans Z0 (Nat.le_of_eq g2.symm)
  have Z2 : n0 ≤ h2.size := Nat.le_trans Z0 E2.1
  have S_r : h0.size ≤ r := Nat.le_trans (Keep.refl h0 []).1 (Nat.le_of_eq g2.symm)
  have pre2s : ∀ tg, Steps p.tables e below (T2.setTop (mkF m 162 #[.val (.int (5 : Int32)), .val (.int p1)] [(.ref r)])) tg → G tg := fun tg kt => pre1 tg (st2 tg kt)
  have Ol3 := Ol.ext E2
  have Fvalue_r : Fld Z h2 r "java/lang/String" "value" "[B" .null := D2 (Or.inr (hw _ (List.mem_of_getElem? (i := 21) rfl))) (ty := (.array .byte)) (by decide)
  have Fcoder_r : Fld Z h2 r "java/lang/String" "coder" "B" (.int (0 : Int32)) := D2 (Or.inr (hw _ (List.mem_of_getElem? (i := 22) rfl))) (ty := .byte) (by decide)
  have K2 : Keep h0 h2 [] := (Keep.refl h0 []).ext E2
  have pre4 : ∀ tg, Steps p.tables e below (T2.setTop (mkF m 164 #[.val (.int (5 : Int32)), .val (.int p1)] [(.int (5 : Int32)), (.ref r), (.ref r)])) tg → G tg := fun tg kt => pre2s tg (by
    show Steps p.tables e below (T2.setTop (mkF m 162 #[.val (.int (5 : Int32)), .val (.int p1)] [(.ref r)])) _
    refine XS.dup X2.here hx rfl (hb hby d1_162) rfl rfl ?_
    show Steps p.tables e below (T2.setTop (mkF m 163 #[.val (.int (5 : Int32)), .val (.int p1)] [(.ref r), (.ref r)])) _
    refine XS.iconst X2.here hx rfl (hb hby d1_163) ?_
    exact kt)
  obtain ⟨T5, h5, k5, X5, e5, E5, A5, st5⟩ := newP X2 hx hZ (hw _ (List.mem_of_getElem? (i := 8) rfl)) e2 (g := (mkF m 164 #[.val (.int (5 : Int32)), .val (.int p1)] [(.int (5 : Int32)), (.ref r), (.ref r)])) rfl (hb hby d1_164) rfl (by decide) (cap := 5) (by decide) (by decide) (by decide) (by decide)
  obtain ⟨ca, g5⟩ : ∃ z, z = h2.size := ⟨_, rfl⟩
  rw [← g5] at A5 st5
  have O_ca : n0 ≤ ca := Nat.le_trans Z2 (Nat.le_of_eq g5.symm)
  have Z5 : n0 ≤ h5.size := Nat.le_trans Z2 E5.1
  have ne_r_ca : r ≠ ca := Nat.ne_of_lt (Nat.lt_of_lt_of_le A2.lt (Nat.le_of_eq g5.symm))
  have S_ca : h0.size ≤ ca := Nat.le_trans K2.1 (Nat.le_of_eq g5.symm)
  have pre5s : ∀ tg, Steps p.tables e below (T5.setTop (mkF m 166 #[.val (.int (5 : Int32)), .val (.int p1)] [(.ref ca), (.ref r), (.ref r)])) tg → G tg := fun tg kt => pre4 tg (st5 tg kt)
  have A2_6 := A2.ext E5
  have Fvalue_r_7 := Fvalue_r.ext E5
  have Fcoder_r_8 := Fcoder_r.ext E5
  have Ol9 := Ol3.ext E5
  have V_ca : Arv Z h5 ca k5 .char (5 : Int32) [(.int (0 : Int32)), (.int (0 : Int32)), (.int (0 : Int32)), (.int (0 : Int32)), (.int (0 : Int32))] (.int (0 : Int32)) := (Arv.new A5 (by decide)).pad (pad_rep [] (.int (0 : Int32)) 5)
  have K5 : Keep h0 h5 [] := K2.ext E5
  have pre10 : ∀ tg, Steps p.tables e below (T5.setTop (mkF m 170 #[.val (.int (5 : Int32)), .val (.int p1)] [(.int (0 : Int32)), (.int p1), (.int (0 : Int32)), (.ref ca), (.ref ca), (.ref r), (.ref r)])) tg → G tg := fun tg kt => pre5s tg (by
    show Steps p.tables e below (T5.setTop (mkF m 166 #[.val (.int (5 : Int32)), .val (.int p1)] [(.ref ca), (.ref r), (.ref r)])) _
    refine XS.dup X5.here hx rfl (hb hby d1_166) rfl rfl ?_
    show Steps p.tables e below (T5.setTop (mkF m 167 #[.val (.int (5 : Int32)), .val (.int p1)] [(.ref ca), (.ref ca), (.ref r), (.ref r)])) _
    refine XS.iconst X5.here hx rfl (hb hby d1_167) ?_
    show Steps p.tables e below (T5.setTop (mkF m 168 #[.val (.int (5 : Int32)), .val (.int p1)] [(.int (0 : Int32)), (.ref ca), (.ref ca), (.ref r), (.ref r)])) _
    refine XS.iloadN X5.here hx rfl (hb hby d1_168) rfl ?_
    show Steps p.tables e below (T5.setTop (mkF m 169 #[.val (.int (5 : Int32)), .val (.int p1)] [(.int p1), (.int (0 : Int32)), (.ref ca), (.ref ca), (.ref r), (.ref r)])) _
    refine XS.iconst X5.here hx rfl (hb hby d1_169) ?_
    exact kt)
  obtain ⟨_, _, ⟨T11, L11, k11, n11⟩, -, X11, ⟨Lc11, hQ11, l11, y11, z11⟩, st11⟩ := Jvm.LawKit.callS X5 hx (y := (⟨"com/example/ringfence/ringfence/NumberPatternRankPinLaw", "dg", "(II)C"⟩ : MethodName)) hown (mvT hZ (hw _ (List.mem_of_getElem? (i := 27) rfl))) (mvT hZ (hw _ (List.mem_of_getElem? (i := 28) rfl))) (mvT hZ (hw _ (List.mem_of_getElem? (i := 3) rfl))) (mvT hZ (hw _ (List.mem_of_getElem? (i := 29) rfl))) (by decide) (backOf (W := 5) (rm5 l Z a0 hw [] p1 (0 : Int32) h5 n0 Z5 ) hZ (hw _ (List.mem_of_getElem? (i := 29) rfl)) (hw _ (List.mem_of_getElem? (i := 3) rfl)) (by decide) (by decide)) (g := (mkF m 170 #[.val (.int (5 : Int32)), .val (.int p1)] [(.int (0 : Int32)), (.int p1), (.int (0 : Int32)), (.ref ca), (.ref ca), (.ref r), (.ref r)])) rfl (by rw [hml]; rfl) (argsL := [(.int p1), (.int (0 : Int32))]) (rest := [(.int (0 : Int32)), (.ref ca), (.ref ca), (.ref r), (.ref r)]) (lenOf pd_5 rfl) rfl (by show 2 * 0 + _ ≤ _; exact Nat.le_of_eq rfl) (hb hby d1_170) (fun _ _ => ⟨rfl, e5, (Nat.le_of_ble_eq_true rfl), (Nat.le_of_ble_eq_true rfl)⟩)
  dsimp only [Pt.U, Pt.locs, Pt.cells, Pt.slots] at X11 l11 y11 z11 st11 hQ11
  subst l11 y11 z11
  obtain ⟨y0, rfl, hy0, N11q, e11⟩ := hQ11
  have N11 := Fr.app N0 N11q
  have pre11s : ∀ tg, Steps p.tables e below (T11.setTop (mkF m 173 #[.val (.int (5 : Int32)), .val (.int p1)] [(.int y0), (.int (0 : Int32)), (.ref ca), (.ref ca), (.ref r), (.ref r)])) tg → G tg := fun tg kt => pre10 tg (st11 tg kt)
  have op_12 := V_ca
  obtain ⟨cl_12, Ar_12, q_12, S_12, Ng_12, H_12, G_12⟩ := op_12
  have hin_12 : ¬ ((0 : Int32) < 0 ∨ cl_12.slots.size ≤ ((0 : Int32)).toNatClampNeg) := inb_of S_12 ⟨by decide, by decide⟩
  obtain ⟨T12, h12, X12, e12, W12, st12⟩ := stC X11 hx hZ e11 Ar_12 (j := (0 : Int32)) hin_12 (g := (mkF m 173 #[.val (.int (5 : Int32)), .val (.int p1)] [(.int y0), (.int (0 : Int32)), (.ref ca), (.ref ca), (.ref r), (.ref r)])) rfl rfl (hb hby d1_173)
  have pre12s : ∀ tg, Steps p.tables e below (T12.setTop (mkF m 174 #[.val (.int (5 : Int32)), .val (.int p1)] [(.ref ca), (.ref r), (.ref r)])) tg → G tg := fun tg kt => pre11s tg (st12 tg kt)
  have A2_13 := A2_6.wr W12
  have Fvalue_r_14 := Fvalue_r_7.other W12 (Or.inl ne_r_ca)
  have Fcoder_r_15 := Fcoder_r_8.other W12 (Or.inl ne_r_ca)
  have Ol16 := Ol9.wr W12 O_ca
  have V12_ca : Arv Z h12 ca k5 .char (5 : Int32) [(.int (y0.toUInt32.toUInt16.toUInt32.toInt32)), (.int (0 : Int32)), (.int (0 : Int32)), (.int (0 : Int32)), (.int (0 : Int32))] (.int (0 : Int32)) := Arv.set Ar_12 q_12 S_12 Ng_12 H_12 G_12 (fits_nar_char _) W12 0 rfl (Nat.le_of_ble_eq_true rfl)
  have N12 := Fr.snoc X12 N11 O_ca
  have Z12 : n0 ≤ h12.size := Nat.le_trans Z5 (Keep.of_wr W12).1
  have K12 : Keep h0 h12 [] := K5.wr W12 (Or.inr S_ca)
  rw [own_yc hy0] at V12_ca
  have pre17 : ∀ tg, Steps p.tables e below (T12.setTop (mkF m 178 #[.val (.int (5 : Int32)), .val (.int p1)] [(.int (1 : Int32)), (.int p1), (.int (1 : Int32)), (.ref ca), (.ref ca), (.ref r), (.ref r)])) tg → G tg := fun tg kt => pre12s tg (by
    show Steps p.tables e below (T12.setTop (mkF m 174 #[.val (.int (5 : Int32)), .val (.int p1)] [(.ref ca), (.ref r), (.ref r)])) _
    refine XS.dup X12.here hx rfl (hb hby d1_174) rfl rfl ?_
    show Steps p.tables e below (T12.setTop (mkF m 175 #[.val (.int (5 : Int32)), .val (.int p1)] [(.ref ca), (.ref ca), (.ref r), (.ref r)])) _
    refine XS.iconst X12.here hx rfl (hb hby d1_175) ?_
    show Steps p.tables e below (T12.setTop (mkF m 176 #[.val (.int (5 : Int32)), .val (.int p1)] [(.int (1 : Int32)), (.ref ca), (.ref ca), (.ref r), (.ref r)])) _
    refine XS.iloadN X12.here hx rfl (hb hby d1_176) rfl ?_
    show Steps p.tables e below (T12.setTop (mkF m 177 #[.val (.int (5 : Int32)), .val (.int p1)] [(.int p1), (.int (1 : Int32)), (.ref ca), (.ref ca), (.ref r), (.ref r)])) _
    refine XS.iconst X12.here hx rfl (hb hby d1_177) ?_
    exact kt)
  obtain ⟨_, _, ⟨T18, L18, k18, n18⟩, -, X18, ⟨Lc18, hQ18, l18, y18, z18⟩, st18⟩ := Jvm.LawKit.callS X12 hx (y := (⟨"com/example/ringfence/ringfence/NumberPatternRankPinLaw", "dg", "(II)C"⟩ : MethodName)) hown (mvT hZ (hw _ (List.mem_of_getElem? (i := 27) rfl))) (mvT hZ (hw _ (List.mem_of_getElem? (i := 28) rfl))) (mvT hZ (hw _ (List.mem_of_getElem? (i := 3) rfl))) (mvT hZ (hw _ (List.mem_of_getElem? (i := 29) rfl))) (by decide) (backOf (W := 5) (rm5 l Z a0 hw [] p1 (1 : Int32) h12 n0 Z12 ) hZ (hw _ (List.mem_of_getElem? (i := 29) rfl)) (hw _ (List.mem_of_getElem? (i := 3) rfl)) (by decide) (by decide)) (g := (mkF m 178 #[.val (.int (5 : Int32)), .val (.int p1)] [(.int (1 : Int32)), (.int p1), (.int (1 : Int32)), (.ref ca), (.ref ca), (.ref r), (.ref r)])) rfl (by rw [hml]; rfl) (argsL := [(.int p1), (.int (1 : Int32))]) (rest := [(.int (1 : Int32)), (.ref ca), (.ref ca), (.ref r), (.ref r)]) (lenOf pd_5 rfl) rfl (by show 2 * 0 + _ ≤ _; exact Nat.le_of_eq rfl) (hb hby d1_178) (fun _ _ => ⟨rfl, e12, (Nat.le_of_ble_eq_true rfl), (Nat.le_of_ble_eq_true rfl)⟩)
  dsimp only [Pt.U, Pt.locs, Pt.cells, Pt.slots] at X18 l18 y18 z18 st18 hQ18
  subst l18 y18 z18
  obtain ⟨y1, rfl, hy1, N18q, e18⟩ := hQ18
  have N18 := Fr.app N12 N18q
  have pre18s : ∀ tg, Steps p.tables e below (T18.setTop (mkF m 181 #[.val (.int (5 : Int32)), .val (.int p1)] [(.int y1), (.int (1 : Int32)), (.ref ca), (.ref ca), (.ref r), (.ref r)])) tg → G tg := fun tg kt => pre17 tg (st18 tg kt)
  have op_19 := V12_ca
  obtain ⟨cl_19, Ar_19, q_19, S_19, Ng_19, H_19, G_19⟩ := op_19
  have hin_19 : ¬ ((1 : Int32) < 0 ∨ cl_19.slots.size ≤ ((1 : Int32)).toNatClampNeg) := inb_of S_19 ⟨by decide, by decide⟩
  obtain ⟨T19, h19, X19, e19, W19, st19⟩ := stC X18 hx hZ e18 Ar_19 (j := (1 : Int32)) hin_19 (g := (mkF m 181 #[.val (.int (5 : Int32)), .val (.int p1)] [(.int y1), (.int (1 : Int32)), (.ref ca), (.ref ca), (.ref r), (.ref r)])) rfl rfl (hb hby d1_181)
  have pre19s : ∀ tg, Steps p.tables e below (T19.setTop (mkF m 182 #[.val (.int (5 : Int32)), .val (.int p1)] [(.ref ca), (.ref r), (.ref r)])) tg → G tg := fun tg kt => pre18s tg (st19 tg kt)
  have A2_20 := A2_13.wr W19
  have Fvalue_r_21 := Fvalue_r_14.other W19 (Or.inl ne_r_ca)
  have Fcoder_r_22 := Fcoder_r_15.other W19 (Or.inl ne_r_ca)
  have Ol23 := Ol16.wr W19 O_ca
  have V19_ca : Arv Z h19 ca k5 .char (5 : Int32) [(.int y0), (.int (y1.toUInt32.toUInt16.toUInt32.toInt32)), (.int (0 : Int32)), (.int (0 : Int32)), (.int (0 : Int32))] (.int (0 : Int32)) := Arv.set Ar_19 q_19 S_19 Ng_19 H_19 G_19 (fits_nar_char _) W19 1 rfl (Nat.le_of_ble_eq_true rfl)
  have N19 := Fr.snoc X19 N18 O_ca
  have Z19 : n0 ≤ h19.size := Nat.le_trans Z12 (Keep.of_wr W19).1
  have K19 : Keep h0 h19 [] := K12.wr W19 (Or.inr S_ca)
  rw [own_yc hy1] at V19_ca
  have pre24 : ∀ tg, Steps p.tables e below (T19.setTop (mkF m 186 #[.val (.int (5 : Int32)), .val (.int p1)] [(.int (2 : Int32)), (.int p1), (.int (2 : Int32)), (.ref ca), (.ref ca), (.ref r), (.ref r)])) tg → G tg := fun tg kt => pre19s tg (by
    show Steps p.tables e below (T19.setTop (mkF m 182 #[.val (.int (5 : Int32)), .val (.int p1)] [(.ref ca), (.ref r), (.ref r)])) _
    refine XS.dup X19.here hx rfl (hb hby d1_182) rfl rfl ?_
    show Steps p.tables e below (T19.setTop (mkF m 183 #[.val (.int (5 : Int32)), .val (.int p1)] [(.ref ca), (.ref ca), (.ref r), (.ref r)])) _
    refine XS.iconst X19.here hx rfl (hb hby d1_183) ?_
    show Steps p.tables e below (T19.setTop (mkF m 184 #[.val (.int (5 : Int32)), .val (.int p1)] [(.int (2 : Int32)), (.ref ca), (.ref ca), (.ref r), (.ref r)])) _
    refine XS.iloadN X19.here hx rfl (hb hby d1_184) rfl ?_
    show Steps p.tables e below (T19.setTop (mkF m 185 #[.val (.int (5 : Int32)), .val (.int p1)] [(.int p1), (.int (2 : Int32)), (.ref ca), (.ref ca), (.ref r), (.ref r)])) _
    refine XS.iconst X19.here hx rfl (hb hby d1_185) ?_
    exact kt)
  obtain ⟨_, _, ⟨T25, L25, k25, n25⟩, -, X25, ⟨Lc25, hQ25, l25, y25, z25⟩, st25⟩ := Jvm.LawKit.callS X19 hx (y := (⟨"com/example/ringfence/ringfence/NumberPatternRankPinLaw", "dg", "(II)C"⟩ : MethodName)) hown (mvT hZ (hw _ (List.mem_of_getElem? (i := 27) rfl))) (mvT hZ (hw _ (List.mem_of_getElem? (i := 28) rfl))) (mvT hZ (hw _ (List.mem_of_getElem? (i := 3) rfl))) (mvT hZ (hw _ (List.mem_of_getElem? (i := 29) rfl))) (by decide) (backOf (W := 5) (rm5 l Z a0 hw [] p1 (2 : Int32) h19 n0 Z19 ) hZ (hw _ (List.mem_of_getElem? (i := 29) rfl)) (hw _ (List.mem_of_getElem? (i := 3) rfl)) (by decide) (by decide)) (g := (mkF m 186 #[.val (.int (5 : Int32)), .val (.int p1)] [(.int (2 : Int32)), (.int p1), (.int (2 : Int32)), (.ref ca), (.ref ca), (.ref r), (.ref r)])) rfl (by rw [hml]; rfl) (argsL := [(.int p1), (.int (2 : Int32))]) (rest := [(.int (2 : Int32)), (.ref ca), (.ref ca), (.ref r), (.ref r)]) (lenOf pd_5 rfl) rfl (by show 2 * 0 + _ ≤ _; exact Nat.le_of_eq rfl) (hb hby d1_186) (fun _ _ => ⟨rfl, e19, (Nat.le_of_ble_eq_true rfl), (Nat.le_of_ble_eq_true rfl)⟩)
  dsimp only [Pt.U, Pt.locs, Pt.cells, Pt.slots] at X25 l25 y25 z25 st25 hQ25
  subst l25 y25 z25
  obtain ⟨y2, rfl, hy2, N25q, e25⟩ := hQ25
  have N25 := Fr.app N19 N25q
  have pre25s : ∀ tg, Steps p.tables e below (T25.setTop (mkF m 189 #[.val (.int (5 : Int32)), .val (.int p1)] [(.int y2), (.int (2 : Int32)), (.ref ca), (.ref ca), (.ref r), (.ref r)])) tg → G tg := fun tg kt => pre24 tg (st25 tg kt)
  have op_26 := V19_ca
  obtain ⟨cl_26, Ar_26, q_26, S_26, Ng_26, H_26, G_26⟩ := op_26
  have hin_26 : ¬ ((2 : Int32) < 0 ∨ cl_26.slots.size ≤ ((2 : Int32)).toNatClampNeg) := inb_of S_26 ⟨by decide, by decide⟩
  obtain ⟨T26, h26, X26, e26, W26, st26⟩ := stC X25 hx hZ e25 Ar_26 (j := (2 : Int32)) hin_26 (g := (mkF m 189 #[.val (.int (5 : Int32)), .val (.int p1)] [(.int y2), (.int (2 : Int32)), (.ref ca), (.ref ca), (.ref r), (.ref r)])) rfl rfl (hb hby d1_189)
  have pre26s : ∀ tg, Steps p.tables e below (T26.setTop (mkF m 190 #[.val (.int (5 : Int32)), .val (.int p1)] [(.ref ca), (.ref r), (.ref r)])) tg → G tg := fun tg kt => pre25s tg (st26 tg kt)
  have A2_27 := A2_20.wr W26
  have Fvalue_r_28 := Fvalue_r_21.other W26 (Or.inl ne_r_ca)
  have Fcoder_r_29 := Fcoder_r_22.other W26 (Or.inl ne_r_ca)
  have Ol30 := Ol23.wr W26 O_ca
  have V26_ca : Arv Z h26 ca k5 .char (5 : Int32) [(.int y0), (.int y1), (.int (y2.toUInt32.toUInt16.toUInt32.toInt32)), (.int (0 : Int32)), (.int (0 : Int32))] (.int (0 : Int32)) := Arv.set Ar_26 q_26 S_26 Ng_26 H_26 G_26 (fits_nar_char _) W26 2 rfl (Nat.le_of_ble_eq_true rfl)
  have N26 := Fr.snoc X26 N25 O_ca
  have Z26 : n0 ≤ h26.size := Nat.le_trans Z19 (Keep.of_wr W26).1
  have K26 : Keep h0 h26 [] := K19.wr W26 (Or.inr S_ca)
  rw [own_yc hy2] at V26_ca
  have pre31 : ∀ tg, Steps p.tables e below (T26.setTop (mkF m 194 #[.val (.int (5 : Int32)), .val (.int p1)] [(.int (3 : Int32)), (.int p1), (.int (3 : Int32)), (.ref ca), (.ref ca), (.ref r), (.ref r)])) tg → G tg := fun tg kt => pre26s tg (by
    show Steps p.tables e below (T26.setTop (mkF m 190 #[.val (.int (5 : Int32)), .val (.int p1)] [(.ref ca), (.ref r), (.ref r)])) _
    refine XS.dup X26.here hx rfl (hb hby d1_190) rfl rfl ?_
    show Steps p.tables e below (T26.setTop (mkF m 191 #[.val (.int (5 : Int32)), .val (.int p1)] [(.ref ca), (.ref ca), (.ref r), (.ref r)])) _
    refine XS.iconst X26.here hx rfl (hb hby d1_191) ?_
    show Steps p.tables e below (T26.setTop (mkF m 192 #[.val (.int (5 : Int32)), .val (.int p1)] [(.int (3 : Int32)), (.ref ca), (.ref ca), (.ref r), (.ref r)])) _
    refine XS.iloadN X26.here hx rfl (hb hby d1_192) rfl ?_
    show Steps p.tables e below (T26.setTop (mkF m 193 #[.val (.int (5 : Int32)), .val (.int p1)] [(.int p1), (.int (3 : Int32)), (.ref ca), (.ref ca), (.ref r), (.ref r)])) _
    refine XS.iconst X26.here hx rfl (hb hby d1_193) ?_
    exact kt)
  obtain ⟨_, _, ⟨T32, L32, k32, n32⟩, -, X32, ⟨Lc32, hQ32, l32, y32, z32⟩, st32⟩ := Jvm.LawKit.callS X26 hx (y := (⟨"com/example/ringfence/ringfence/NumberPatternRankPinLaw", "dg", "(II)C"⟩ : MethodName)) hown (mvT hZ (hw _ (List.mem_of_getElem? (i := 27) rfl))) (mvT hZ (hw _ (List.mem_of_getElem? (i := 28) rfl))) (mvT hZ (hw _ (List.mem_of_getElem? (i := 3) rfl))) (mvT hZ (hw _ (List.mem_of_getElem? (i := 29) rfl))) (by decide) (backOf (W := 5) (rm5 l Z a0 hw [] p1 (3 : Int32) h26 n0 Z26 ) hZ (hw _ (List.mem_of_getElem? (i := 29) rfl)) (hw _ (List.mem_of_getElem? (i := 3) rfl)) (by decide) (by decide)) (g := (mkF m 194 #[.val (.int (5 : Int32)), .val (.int p1)] [(.int (3 : Int32)), (.int p1), (.int (3 : Int32)), (.ref ca), (.ref ca), (.ref r), (.ref r)])) rfl (by rw [hml]; rfl) (argsL := [(.int p1), (.int (3 : Int32))]) (rest := [(.int (3 : Int32)), (.ref ca), (.ref ca), (.ref r), (.ref r)]) (lenOf pd_5 rfl) rfl (by show 2 * 0 + _ ≤ _; exact Nat.le_of_eq rfl) (hb hby d1_194) (fun _ _ => ⟨rfl, e26, (Nat.le_of_ble_eq_true rfl), (Nat.le_of_ble_eq_true rfl)⟩)
  dsimp only [Pt.U, Pt.locs, Pt.cells, Pt.slots] at X32 l32 y32 z32 st32 hQ32
  subst l32 y32 z32
  obtain ⟨y3, rfl, hy3, N32q, e32⟩ := hQ32
  have N32 := Fr.app N26 N32q
  have pre32s : ∀ tg, Steps p.tables e below (T32.setTop (mkF m 197 #[.val (.int (5 : Int32)), .val (.int p1)] [(.int y3), (.int (3 : Int32)), (.ref ca), (.ref ca), (.ref r), (.ref r)])) tg → G tg := fun tg kt => pre31 tg (st32 tg kt)
  have op_33 := V26_ca
  obtain ⟨cl_33, Ar_33, q_33, S_33, Ng_33, H_33, G_33⟩ := op_33
  have hin_33 : ¬ ((3 : Int32) < 0 ∨ cl_33.slots.size ≤ ((3 : Int32)).toNatClampNeg) := inb_of S_33 ⟨by decide, by decide⟩
  obtain ⟨T33, h33, X33, e33, W33, st33⟩ := stC X32 hx hZ e32 Ar_33 (j := (3 : Int32)) hin_33 (g := (mkF m 197 #[.val (.int (5 : Int32)), .val (.int p1)] [(.int y3), (.int (3 : Int32)), (.ref ca), (.ref ca), (.ref r), (.ref r)])) rfl rfl (hb hby d1_197)
  have pre33s : ∀ tg, Steps p.tables e below (T33.setTop (mkF m 198 #[.val (.int (5 : Int32)), .val (.int p1)] [(.ref ca), (.ref r), (.ref r)])) tg → G tg := fun tg kt => pre32s tg (st33 tg kt)
  have A2_34 := A2_27.wr W33
  have Fvalue_r_35 := Fvalue_r_28.other W33 (Or.inl ne_r_ca)
  have Fcoder_r_36 := Fcoder_r_29.other W33 (Or.inl ne_r_ca)
  have Ol37 := Ol30.wr W33 O_ca
  have V33_ca : Arv Z h33 ca k5 .char (5 : Int32) [(.int y0), (.int y1), (.int y2), (.int (y3.toUInt32.toUInt16.toUInt32.toInt32)), (.int (0 : Int32))] (.int (0 : Int32)) := Arv.set Ar_33 q_33 S_33 Ng_33 H_33 G_33 (fits_nar_char _) W33 3 rfl (Nat.le_of_ble_eq_true rfl)
  have N33 := Fr.snoc X33 N32 O_ca
  have Z33 : n0 ≤ h33.size := Nat.le_trans Z26 (Keep.of_wr W33).1
  have K33 : Keep h0 h33 [] := K26.wr W33 (Or.inr S_ca)
  rw [own_yc hy3] at V33_ca
  have pre38 : ∀ tg, Steps p.tables e below (T33.setTop (mkF m 202 #[.val (.int (5 : Int32)), .val (.int p1)] [(.int (4 : Int32)), (.int p1), (.int (4 : Int32)), (.ref ca), (.ref ca), (.ref r), (.ref r)])) tg → G tg := fun tg kt => pre33s tg (by
    show Steps p.tables e below (T33.setTop (mkF m 198 #[.val (.int (5 : Int32)), .val (.int p1)] [(.ref ca), (.ref r), (.ref r)])) _
    refine XS.dup X33.here hx rfl (hb hby d1_198) rfl rfl ?_
    show Steps p.tables e below (T33.setTop (mkF m 199 #[.val (.int (5 : Int32)), .val (.int p1)] [(.ref ca), (.ref ca), (.ref r), (.ref r)])) _
    refine XS.iconst X33.here hx rfl (hb hby d1_199) ?_
    show Steps p.tables e below (T33.setTop (mkF m 200 #[.val (.int (5 : Int32)), .val (.int p1)] [(.int (4 : Int32)), (.ref ca), (.ref ca), (.ref r), (.ref r)])) _
    refine XS.iloadN X33.here hx rfl (hb hby d1_200) rfl ?_
    show Steps p.tables e below (T33.setTop (mkF m 201 #[.val (.int (5 : Int32)), .val (.int p1)] [(.int p1), (.int (4 : Int32)), (.ref ca), (.ref ca), (.ref r), (.ref r)])) _
    refine XS.iconst X33.here hx rfl (hb hby d1_201) ?_
    exact kt)
  obtain ⟨_, _, ⟨T39, L39, k39, n39⟩, -, X39, ⟨Lc39, hQ39, l39, y39, z39⟩, st39⟩ := Jvm.LawKit.callS X33 hx (y := (⟨"com/example/ringfence/ringfence/NumberPatternRankPinLaw", "dg", "(II)C"⟩ : MethodName)) hown (mvT hZ (hw _ (List.mem_of_getElem? (i := 27) rfl))) (mvT hZ (hw _ (List.mem_of_getElem? (i := 28) rfl))) (mvT hZ (hw _ (List.mem_of_getElem? (i := 3) rfl))) (mvT hZ (hw _ (List.mem_of_getElem? (i := 29) rfl))) (by decide) (backOf (W := 5) (rm5 l Z a0 hw [] p1 (4 : Int32) h33 n0 Z33 ) hZ (hw _ (List.mem_of_getElem? (i := 29) rfl)) (hw _ (List.mem_of_getElem? (i := 3) rfl)) (by decide) (by decide)) (g := (mkF m 202 #[.val (.int (5 : Int32)), .val (.int p1)] [(.int (4 : Int32)), (.int p1), (.int (4 : Int32)), (.ref ca), (.ref ca), (.ref r), (.ref r)])) rfl (by rw [hml]; rfl) (argsL := [(.int p1), (.int (4 : Int32))]) (rest := [(.int (4 : Int32)), (.ref ca), (.ref ca), (.ref r), (.ref r)]) (lenOf pd_5 rfl) rfl (by show 2 * 0 + _ ≤ _; exact Nat.le_of_eq rfl) (hb hby d1_202) (fun _ _ => ⟨rfl, e33, (Nat.le_of_ble_eq_true rfl), (Nat.le_of_ble_eq_true rfl)⟩)
  dsimp only [Pt.U, Pt.locs, Pt.cells, Pt.slots] at X39 l39 y39 z39 st39 hQ39
  subst l39 y39 z39
  obtain ⟨y4, rfl, hy4, N39q, e39⟩ := hQ39
  have N39 := Fr.app N33 N39q
  have pre39s : ∀ tg, Steps p.tables e below (T39.setTop (mkF m 205 #[.val (.int (5 : Int32)), .val (.int p1)] [(.int y4), (.int (4 : Int32)), (.ref ca), (.ref ca), (.ref r), (.ref r)])) tg → G tg := fun tg kt => pre38 tg (st39 tg kt)
  have op_40 := V33_ca
  obtain ⟨cl_40, Ar_40, q_40, S_40, Ng_40, H_40, G_40⟩ := op_40
  have hin_40 : ¬ ((4 : Int32) < 0 ∨ cl_40.slots.size ≤ ((4 : Int32)).toNatClampNeg) := inb_of S_40 ⟨by decide, by decide⟩
  obtain ⟨T40, h40, X40, e40, W40, st40⟩ := stC X39 hx hZ e39 Ar_40 (j := (4 : Int32)) hin_40 (g := (mkF m 205 #[.val (.int (5 : Int32)), .val (.int p1)] [(.int y4), (.int (4 : Int32)), (.ref ca), (.ref ca), (.ref r), (.ref r)])) rfl rfl (hb hby d1_205)
  have pre40s : ∀ tg, Steps p.tables e below (T40.setTop (mkF m 206 #[.val (.int (5 : Int32)), .val (.int p1)] [(.ref ca), (.ref r), (.ref r)])) tg → G tg := fun tg kt => pre39s tg (st40 tg kt)
  have A2_41 := A2_34.wr W40
  have Fvalue_r_42 := Fvalue_r_35.other W40 (Or.inl ne_r_ca)
  have Fcoder_r_43 := Fcoder_r_36.other W40 (Or.inl ne_r_ca)
  have Ol44 := Ol37.wr W40 O_ca
  have V40_ca : Arv Z h40 ca k5 .char (5 : Int32) [(.int y0), (.int y1), (.int y2), (.int y3), (.int (y4.toUInt32.toUInt16.toUInt32.toInt32))] (.int (0 : Int32)) := Arv.set Ar_40 q_40 S_40 Ng_40 H_40 G_40 (fits_nar_char _) W40 4 rfl (Nat.le_of_ble_eq_true rfl)
  have N40 := Fr.snoc X40 N39 O_ca
  have Z40 : n0 ≤ h40.size := Nat.le_trans Z33 (Keep.of_wr W40).1
  have K40 : Keep h0 h40 [] := K33.wr W40 (Or.inr S_ca)
  rw [own_yc hy4] at V40_ca
  obtain ⟨_, _, ⟨T45, L45, k45, n45⟩, -, X45, ⟨Lc45, hQ45, l45, y45, z45⟩, st45⟩ := X40.specialBack hx (y := (⟨"java/lang/String", "<init>", "([C)V"⟩ : MethodName)) rfl hown (mvT hZ (hw _ (List.mem_of_getElem? (i := 9) rfl))) (mvT hZ (hw _ (List.mem_of_getElem? (i := 10) rfl))) (mvT hZ (hw _ (List.mem_of_getElem? (i := 11) rfl))) (by decide) (backOf (W := 1) (rmJ_5 l Z a0 hw [] r ca k5 y0 y1 y2 y3 y4 h40 n0 Z40 hs Ol44 A2_41 Fcoder_r_43 Fvalue_r_42 O_r (Ne.symm ne_r_ca) V40_ca hy0 hy1 hy2 hy3 hy4) hZ (hw _ (List.mem_of_getElem? (i := 11) rfl)) (hw _ (List.mem_of_getElem? (i := 7) rfl)) (by decide) (by decide)) (g := (mkF m 206 #[.val (.int (5 : Int32)), .val (.int p1)] [(.ref ca), (.ref r), (.ref r)])) rfl (by rw [hml]; rfl) (Steps.refl _) (a := r) (argsL := [(.ref ca)]) (rest := [(.ref r)]) (lenOf pd_4 rfl) rfl (by show 2 * 0 + _ ≤ _; exact Nat.le_of_eq rfl) (hb hby d1_206) (fun _ _ => ⟨rfl, e40, (Nat.le_of_ble_eq_true rfl), (Nat.le_of_ble_eq_true rfl)⟩)
  dsimp only [Pt.U, Pt.locs, Pt.cells, Pt.slots] at X45 l45 y45 z45 st45 hQ45
  subst l45 y45 z45
  obtain ⟨rfl, N45q, K45, Tx⟩ := hQ45
  have N45 := Fr.app N40 N45q
  have pre45s : ∀ tg, Steps p.tables e below (T45.setTop (mkF m 209 #[.val (.int (5 : Int32)), .val (.int p1)] [(.ref r)])) tg → G tg := fun tg kt => pre40s tg (st45.trans kt)
  have Z45 : n0 ≤ T45.heap.size := Nat.le_trans Z40 K45.1
  have A2_46 := A2_41.keep K45
  have V40_ca_47 := V40_ca.keep K45 (ninS (Ne.symm ne_r_ca) nin0)
  have Ol48 := Ol44.keep K45 (allS O_r all0)
  have KK45 : Keep h0 T45.heap [] := K40.trans K45 (allS (Or.inr S_r) all0)
  obtain ⟨fs, hr, hrun, hended, hW, hsame⟩ := X45.leave (v := some (.ref r)) (fun h => by rw [Bd.returns] at h; cases h)
  subst hG
  refine ⟨_, _, pre45s _ ?_, hrun, hended, _, _, rfl, ?_, ⟨_, rfl⟩, hW, hsame.mono (by decide) (by decide)⟩
  · skip
    show Steps p.tables e below (T45.setTop (mkF m 209 #[.val (.int (5 : Int32)), .val (.int p1)] [(.ref r)])) _
    jvm_step X45.here [X45.here.top, hx, (hb hby d1_209), X45.method', Bd.returns, Value.isRef, FieldType.isReference]
    first | (intro acts; rw [hr _ acts rfl rfl rfl]) | rw [hr _ _ rfl rfl rfl]
    exact Steps.refl _
  · show Q_rmS_5 Z p1 h0 n0 _ T45.heap _
    exact ⟨r, rfl, N45, KK45, A2_46, Tx⟩
theorem pn_9 : plainName "com/example/ringfence/ringfence/NumberPatternRankPinLaw" = true := by first | (simp [plainName, overriddenIn]; done) | decide +kernel
theorem ef_9_I (m : MethodId) (x0 : Int32) : entryFrame m #[(.int x0)] 1 = mkF m 0 #[.val (.int x0)] [] := by first | (simp [entryFrame, mkF, argsToLocals, Value.category]; done) | rfl
theorem d9_0 : decode method_5_code 0 = .ok (.iload_n 0, 1) := by decide +kernel
theorem d9_1 : decode method_5_code 1 = .ok (.iconst 1, 1) := by decide +kernel
theorem d9_2 : decode method_5_code 2 = .ok (.if_icmp .ne 19, 3) := by decide +kernel
theorem d9_5 : decode method_5_code 5 = .ok (.new 32, 3) := by decide +kernel
theorem d9_8 : decode method_5_code 8 = .ok (.dup, 1) := by decide +kernel
theorem d9_9 : decode method_5_code 9 = .ok (.iconst 1, 1) := by decide +kernel
theorem d9_10 : decode method_5_code 10 = .ok (.newarray .char, 2) := by decide +kernel
theorem d9_12 : decode method_5_code 12 = .ok (.dup, 1) := by decide +kernel
theorem d9_13 : decode method_5_code 13 = .ok (.iconst 0, 1) := by decide +kernel
theorem d9_14 : decode method_5_code 14 = .ok (.bipush 57, 2) := by decide +kernel
theorem d9_16 : decode method_5_code 16 = .ok (.castore, 1) := by decide +kernel
theorem d9_17 : decode method_5_code 17 = .ok (.invokespecial 34, 3) := by decide +kernel
theorem d9_20 : decode method_5_code 20 = .ok (.areturn, 1) := by decide +kernel
def Q_rmN_1 (Z : State)  (h0 : Heap) (n0 : Nat) (v : Option Value) (h : Heap) (L : List Loc) : Prop := SQ_ Z (1 : Int32) h0 n0 v h L
set_option maxRecDepth 65536 in
set_option maxHeartbeats 40000000 in
theorem rmN_1 (l : Launch) (Z : State) (a0 : Array Value) (hw : ∀ d ∈ tables_1, d.before a0 Z = true) (ws : List Jvm.Cond)  (h0 : Heap) (n0 : Nat) (Z0 : n0 ≤ h0.size) (hs : own_st Z) (Ol : Old Z n0 h0) :
    MetFree l (⟨"com/example/ringfence/ringfence/NumberPatternRankPinLaw", "nines", "(I)Ljava/lang/String;"⟩ : MethodName) (head1 (Jvm.Cond.code (⟨"com/example/ringfence/ringfence/NumberPatternRankPinLaw", "nines", "(I)Ljava/lang/String;"⟩ : MethodName) method_5_code 1 (some (.object "java/lang/String")) :: ws) ({ frames := 4, cells := 3, slots := 10, locals := 96 } : Room)) (fun argv U => argv = #[(.int (1 : Int32))] ∧ Z.Warmed39 U.vm ∧ U.heap = h0) (fun _ _ _ _ _ => True) (fun _ U o U' => ∃ v L, o = .returned v ∧ Q_rmN_1 Z  h0 n0 v U'.heap L ∧ FrameEnd U o U' L ({ frames := 4, cells := 3, slots := 10, locals := 96 } : Room).cells ({ frames := 4, cells := 3, slots := 10, locals := 96 } : Room).slots) := by
  refine MetFree.of_bodySF (plainFor_of_name pn_9) hisR ?_
  intro p e s m args below meth c s₁ Bd hml0 hP hK
  obtain ⟨rfl, hZ, hh⟩ := hP
  have hx := Bd.exec
  have hby := Bd.bytes
  have hml : c.maxLocals = 1 := hml0
  have hown : s.vm.findClass "com/example/ringfence/ringfence/NumberPatternRankPinLaw" = some m.cls := findClass_of_methodNamed Bd.named
  have hnm := (name_of_methodNamed Bd.named Bd.method).1
  have X0 : Stand p l e ({ frames := 4, cells := 3, slots := 10, locals := 96 } : Room) s m #[(.int (1 : Int32))] below meth c s₁ [] 0 0 := Stand.of_body Bd
  have e0 : s₁.heap = h0 := by rw [← hh, Bd.state]; rfl
  have N0 := Fr.nil n0
  obtain ⟨G, hG⟩ : ∃ G : State → Prop, G = fun tg => Steps p.tables e below (s₁.setTop (entryFrame m #[(.int (1 : Int32))] 1)) tg := ⟨_, rfl⟩
  have pre0 : ∀ tg, Steps p.tables e below (s₁.setTop (mkF m 0 #[.val (.int (1 : Int32))] [])) tg → G tg := fun tg kt => by rw [hG]; exact castTop (ef_9_I m (1 : Int32)) kt
  have pre1 : ∀ tg, Steps p.tables e below (s₁.setTop (mkF m 5 #[.val (.int (1 : Int32))] [])) tg → G tg := fun tg kt => pre0 tg (by
    show Steps p.tables e below (s₁.setTop (mkF m 0 #[.val (.int (1 : Int32))] [])) _
    refine XS.iloadN X0.here hx rfl (hb hby d9_0) rfl ?_
    show Steps p.tables e below (s₁.setTop (mkF m 1 #[.val (.int (1 : Int32))] [(.int (1 : Int32))])) _
    refine XS.iconst X0.here hx rfl (hb hby d9_1) ?_
    show Steps p.tables e below (s₁.setTop (mkF m 2 #[.val (.int (1 : Int32))] [(.int (1 : Int32)), (.int (1 : Int32))])) _
    refine XS.icmpNo X0.here hx rfl (hb hby d9_2) rfl (teq (by decide : (1 : Int32) = (1 : Int32))).2 ?_
    exact kt)
  obtain ⟨T2, h2, X2, e2, E2, A2, D2, -, st2⟩ := newO X0 hx hZ hown (hw _ (List.mem_of_getElem? (i := 5) rfl)) (hw _ (List.mem_of_getElem? (i := 6) rfl)) (hw _ (List.mem_of_getElem? (i := 7) rfl)) e0 (g := (mkF m 5 #[.val (.int (1 : Int32))] [])) rfl (hb hby d9_5) (by decide) (by decide)
  obtain ⟨r, g2⟩ : ∃ z, z = h0.size := ⟨_, rfl⟩
  rw [← g2] at A2 D2 st2
  have O_r : n0 ≤ r := Nat.le_trans Z0 (Nat.le_of_eq g2.symm)
  have Z2 : n0 ≤ h2.size := Nat.le_trans Z0 E2.1
  have S_r : h0.size ≤ r := Nat.le_trans (Keep.refl h0 []).1 (Nat.le_of_eq g2.symm)
  have pre2s : ∀ tg, Steps p.tables e below (T2.setTop (mkF m 8 #[.val (.int (1 : Int32))] [(.ref r)])) tg → G tg := fun tg kt => pre1 tg (st2 tg kt)
  have Ol3 := Ol.ext E2
  have Fvalue_r : Fld Z h2 r "java/lang/String" "value" "[B" .null := D2 (Or.inr (hw _ (List.mem_of_getElem? (i := 21) rfl))) (ty := (.array .byte)) (by decide)
  have Fcoder_r : Fld Z h2 r "java/lang/String" "coder" "B" (.int (0 : Int32)) := D2 (Or.inr (hw _ (List.mem_of_getElem? (i := 22) rfl))) (ty := .byte) (by decide)
  have K2 : Keep h0 h2 [] := (Keep.refl h0 []).ext E2
  have pre4 : ∀ tg, Steps p.tables e below (T2.setTop (mkF m 10 #[.val (.int (1 : Int32))] [(.int (1 : Int32)), (.ref r), (.ref r)])) tg → G tg := fun tg kt => pre2s tg (by
    show Steps p.tables e below (T2.setTop (mkF m 8 #[.val (.int (1 : Int32))] [(.ref r)])) _
    refine XS.dup X2.here hx rfl (hb hby d9_8) rfl rfl ?_
    show Steps p.tables e below (T2.setTop (mkF m 9 #[.val (.int (1 : Int32))] [(.ref r), (.ref r)])) _
    refine XS.iconst X2.here hx rfl (hb hby d9_9) ?_
    exact kt)
  obtain ⟨T5, h5, k5, X5, e5, E5, A5, st5⟩ := newP X2 hx hZ (hw _ (List.mem_of_getElem? (i := 8) rfl)) e2 (g := (mkF m 10 #[.val (.int (1 : Int32))] [(.int (1 : Int32)), (.ref r), (.ref r)])) rfl (hb hby d9_10) rfl (by decide) (cap := 1) (by decide) (by decide) (by decide) (by decide)
  obtain ⟨ca, g5⟩ : ∃ z, z = h2.size := ⟨_, rfl⟩
  rw [← g5] at A5 st5
  have O_ca : n0 ≤ ca := Nat.le_trans Z2 (Nat.le_of_eq g5.symm)
  have Z5 : n0 ≤ h5.size := Nat.le_trans Z2 E5.1
  have ne_r_ca : r ≠ ca := Nat.ne_of_lt (Nat.lt_of_lt_of_le A2.lt (Nat.le_of_eq g5.symm))
  have S_ca : h0.size ≤ ca := Nat.le_trans K2.1 (Nat.le_of_eq g5.symm)
  have pre5s : ∀ tg, Steps p.tables e below (T5.setTop (mkF m 12 #[.val (.int (1 : Int32))] [(.ref ca), (.ref r), (.ref r)])) tg → G tg := fun tg kt => pre4 tg (st5 tg kt)
  have A2_6 := A2.ext E5
  have Fvalue_r_7 := Fvalue_r.ext E5
  have Fcoder_r_8 := Fcoder_r.ext E5
  have Ol9 := Ol3.ext E5
  have V_ca : Arv Z h5 ca k5 .char (1 : Int32) [(.int (0 : Int32))] (.int (0 : Int32)) := (Arv.new A5 (by decide)).pad (pad_rep [] (.int (0 : Int32)) 1)
  have K5 : Keep h0 h5 [] := K2.ext E5
  have pre10 : ∀ tg, Steps p.tables e below (T5.setTop (mkF m 16 #[.val (.int (1 : Int32))] [(.int (57 : Int32)), (.int (0 : Int32)), (.ref ca), (.ref ca), (.ref r), (.ref r)])) tg → G tg := fun tg kt => pre5s tg (by
    show Steps p.tables e below (T5.setTop (mkF m 12 #[.val (.int (1 : Int32))] [(.ref ca), (.ref r), (.ref r)])) _
    refine XS.dup X5.here hx rfl (hb hby d9_12) rfl rfl ?_
    show Steps p.tables e below (T5.setTop (mkF m 13 #[.val (.int (1 : Int32))] [(.ref ca), (.ref ca), (.ref r), (.ref r)])) _
    refine XS.iconst X5.here hx rfl (hb hby d9_13) ?_
    show Steps p.tables e below (T5.setTop (mkF m 14 #[.val (.int (1 : Int32))] [(.int (0 : Int32)), (.ref ca), (.ref ca), (.ref r), (.ref r)])) _
    refine XS.bipush X5.here hx rfl (hb hby d9_14) ?_
    exact kt)
  have op_11 := V_ca
  obtain ⟨cl_11, Ar_11, q_11, S_11, Ng_11, H_11, G_11⟩ := op_11
  have hin_11 : ¬ ((0 : Int32) < 0 ∨ cl_11.slots.size ≤ ((0 : Int32)).toNatClampNeg) := inb_of S_11 ⟨by decide, by decide⟩
  obtain ⟨T11, h11, X11, e11, W11, st11⟩ := stC X5 hx hZ e5 Ar_11 (j := (0 : Int32)) hin_11 (g := (mkF m 16 #[.val (.int (1 : Int32))] [(.int (57 : Int32)), (.int (0 : Int32)), (.ref ca), (.ref ca), (.ref r), (.ref r)])) rfl rfl (hb hby d9_16)
  have pre11s : ∀ tg, Steps p.tables e below (T11.setTop (mkF m 17 #[.val (.int (1 : Int32))] [(.ref ca), (.ref r), (.ref r)])) tg → G tg := fun tg kt => pre10 tg (st11 tg kt)
  have A2_12 := A2_6.wr W11
  have Fvalue_r_13 := Fvalue_r_7.other W11 (Or.inl ne_r_ca)
  have Fcoder_r_14 := Fcoder_r_8.other W11 (Or.inl ne_r_ca)
  have Ol15 := Ol9.wr W11 O_ca
  have V11_ca : Arv Z h11 ca k5 .char (1 : Int32) [(.int ((57 : Int32).toUInt32.toUInt16.toUInt32.toInt32))] (.int (0 : Int32)) := Arv.set Ar_11 q_11 S_11 Ng_11 H_11 G_11 (fits_nar_char _) W11 0 rfl (Nat.le_of_ble_eq_true rfl)
  have N11 := Fr.snoc X11 N0 O_ca
  have Z11 : n0 ≤ h11.size := Nat.le_trans Z5 (Keep.of_wr W11).1
  have K11 : Keep h0 h11 [] := K5.wr W11 (Or.inr S_ca)
  have V11_cab : Arv Z h11 ca k5 .char (1 : Int32) [(.int (57 : Int32))] (.int (0 : Int32)) := V11_ca
  obtain ⟨_, _, ⟨T16, L16, k16, n16⟩, -, X16, ⟨Lc16, hQ16, l16, y16, z16⟩, st16⟩ := X11.specialBack hx (y := (⟨"java/lang/String", "<init>", "([C)V"⟩ : MethodName)) rfl hown (mvT hZ (hw _ (List.mem_of_getElem? (i := 9) rfl))) (mvT hZ (hw _ (List.mem_of_getElem? (i := 10) rfl))) (mvT hZ (hw _ (List.mem_of_getElem? (i := 11) rfl))) (by decide) (backOf (W := 1) (rmJ_1 l Z a0 hw [] r ca k5 (57 : Int32) h11 n0 Z11 hs Ol15 A2_12 Fcoder_r_14 Fvalue_r_13 O_r (Ne.symm ne_r_ca) V11_cab own_y57) hZ (hw _ (List.mem_of_getElem? (i := 11) rfl)) (hw _ (List.mem_of_getElem? (i := 7) rfl)) (by decide) (by decide)) (g := (mkF m 17 #[.val (.int (1 : Int32))] [(.ref ca), (.ref r), (.ref r)])) rfl (by rw [hml]; rfl) (Steps.refl _) (a := r) (argsL := [(.ref ca)]) (rest := [(.ref r)]) (lenOf pd_4 rfl) rfl (by show 2 * 0 + _ ≤ _; exact Nat.le_of_eq rfl) (hb hby d9_17) (fun _ _ => ⟨rfl, e11, (Nat.le_of_ble_eq_true rfl), (Nat.le_of_ble_eq_true rfl)⟩)
  dsimp only [Pt.U, Pt.locs, Pt.cells, Pt.slots] at X16 l16 y16 z16 st16 hQ16
  subst l16 y16 z16
  obtain ⟨rfl, N16q, K16, Tx⟩ := hQ16
  have N16 := Fr.app N11 N16q
  have pre16s : ∀ tg, Steps p.tables e below (T16.setTop (mkF m 20 #[.val (.int (1 : Int32))] [(.ref r)])) tg → G tg := fun tg kt => pre11s tg (st16.trans kt)
  have Z16 : n0 ≤ T16.heap.size := Nat.le_trans Z11 K16.1
  have A2_17 := A2_12.keep K16
  have V11_cab_18 := V11_cab.keep K16 (ninS (Ne.symm ne_r_ca) nin0)
  have Ol19 := Ol15.keep K16 (allS O_r all0)
  have KK16 : Keep h0 T16.heap [] := K11.trans K16 (allS (Or.inr S_r) all0)
  obtain ⟨fs, hr, hrun, hended, hW, hsame⟩ := X16.leave (v := some (.ref r)) (fun h => by rw [Bd.returns] at h; cases h)
  subst hG
  refine ⟨_, _, pre16s _ ?_, hrun, hended, _, _, rfl, ?_, ⟨_, rfl⟩, hW, hsame.mono (by decide) (by decide)⟩
  · skip
    show Steps p.tables e below (T16.setTop (mkF m 20 #[.val (.int (1 : Int32))] [(.ref r)])) _
    jvm_step X16.here [X16.here.top, hx, (hb hby d9_20), X16.method', Bd.returns, Value.isRef, FieldType.isReference]
    first | (intro acts; rw [hr _ acts rfl rfl rfl]) | rw [hr _ _ rfl rfl rfl]
    exact Steps.refl _
  · show Q_rmN_1 Z  h0 n0 _ T16.heap _
    exact ⟨r, rfl, N16, KK16, A2_17, Tx⟩
theorem d9_21 : decode method_5_code 21 = .ok (.iload_n 0, 1) := by decide +kernel
theorem d9_22 : decode method_5_code 22 = .ok (.iconst 2, 1) := by decide +kernel
theorem d9_23 : decode method_5_code 23 = .ok (.if_icmp .ne 24, 3) := by decide +kernel
theorem d9_26 : decode method_5_code 26 = .ok (.new 32, 3) := by decide +kernel
theorem d9_29 : decode method_5_code 29 = .ok (.dup, 1) := by decide +kernel
theorem d9_30 : decode method_5_code 30 = .ok (.iconst 2, 1) := by decide +kernel
theorem d9_31 : decode method_5_code 31 = .ok (.newarray .char, 2) := by decide +kernel
theorem d9_33 : decode method_5_code 33 = .ok (.dup, 1) := by decide +kernel
theorem d9_34 : decode method_5_code 34 = .ok (.iconst 0, 1) := by decide +kernel
theorem d9_35 : decode method_5_code 35 = .ok (.bipush 57, 2) := by decide +kernel
theorem d9_37 : decode method_5_code 37 = .ok (.castore, 1) := by decide +kernel
theorem d9_38 : decode method_5_code 38 = .ok (.dup, 1) := by decide +kernel
theorem d9_39 : decode method_5_code 39 = .ok (.iconst 1, 1) := by decide +kernel
theorem d9_40 : decode method_5_code 40 = .ok (.bipush 57, 2) := by decide +kernel
theorem d9_42 : decode method_5_code 42 = .ok (.castore, 1) := by decide +kernel
theorem d9_43 : decode method_5_code 43 = .ok (.invokespecial 34, 3) := by decide +kernel
theorem d9_46 : decode method_5_code 46 = .ok (.areturn, 1) := by decide +kernel
def Q_rmN_2 (Z : State)  (h0 : Heap) (n0 : Nat) (v : Option Value) (h : Heap) (L : List Loc) : Prop := SQ_ Z (2 : Int32) h0 n0 v h L
set_option maxRecDepth 65536 in
set_option maxHeartbeats 40000000 in
theorem rmN_2 (l : Launch) (Z : State) (a0 : Array Value) (hw : ∀ d ∈ tables_1, d.before a0 Z = true) (ws : List Jvm.Cond)  (h0 : Heap) (n0 : Nat) (Z0 : n0 ≤ h0.size) (hs : own_st Z) (Ol : Old Z n0 h0) :
    MetFree l (⟨"com/example/ringfence/ringfence/NumberPatternRankPinLaw", "nines", "(I)Ljava/lang/String;"⟩ : MethodName) (head1 (Jvm.Cond.code (⟨"com/example/ringfence/ringfence/NumberPatternRankPinLaw", "nines", "(I)Ljava/lang/String;"⟩ : MethodName) method_5_code 1 (some (.object "java/lang/String")) :: ws) ({ frames := 4, cells := 3, slots := 10, locals := 96 } : Room)) (fun argv U => argv = #[(.int (2 : Int32))] ∧ Z.Warmed39 U.vm ∧ U.heap = h0) (fun _ _ _ _ _ => True) (fun _ U o U' => ∃ v L, o = .returned v ∧ Q_rmN_2 Z  h0 n0 v U'.heap L ∧ FrameEnd U o U' L ({ frames := 4, cells := 3, slots := 10, locals := 96 } : Room).cells ({ frames := 4, cells := 3, slots := 10, locals := 96 } : Room).slots) := by
  refine MetFree.of_bodySF (plainFor_of_name pn_9) hisR ?_
  intro p e s m args below meth c s₁ Bd hml0 hP hK
  obtain ⟨rfl, hZ, hh⟩ := hP
  have hx := Bd.exec
  have hby := Bd.bytes
  have hml : c.maxLocals = 1 := hml0
  have hown : s.vm.findClass "com/example/ringfence/ringfence/NumberPatternRankPinLaw" = some m.cls := findClass_of_methodNamed Bd.named
  have hnm := (name_of_methodNamed Bd.named Bd.method).1
  have X0 : Stand p l e ({ frames := 4, cells := 3, slots := 10, locals := 96 } : Room) s m #[(.int (2 : Int32))] below meth c s₁ [] 0 0 := Stand.of_body Bd
  have e0 : s₁.heap = h0 := by rw [← hh, Bd.state]; rfl
  have N0 := Fr.nil n0
  obtain ⟨G, hG⟩ : ∃ G : State → Prop, G = fun tg => Steps p.tables e below (s₁.setTop (entryFrame m #[(.int (2 : Int32))] 1)) tg := ⟨_, rfl⟩
  have pre0 : ∀ tg, Steps p.tables e below (s₁.setTop (mkF m 0 #[.val (.int (2 : Int32))] [])) tg → G tg := fun tg kt => by rw [hG]; exact castTop (ef_9_I m (2 : Int32)) kt
  have pre1 : ∀ tg, Steps p.tables e below (s₁.setTop (mkF m 26 #[.val (.int (2 : Int32))] [])) tg → G tg := fun tg kt => pre0 tg (by
    show Steps p.tables e below (s₁.setTop (mkF m 0 #[.val (.int (2 : Int32))] [])) _
    refine XS.iloadN X0.here hx rfl (hb hby d9_0) rfl ?_
    show Steps p.tables e below (s₁.setTop (mkF m 1 #[.val (.int (2 : Int32))] [(.int (2 : Int32))])) _
    refine XS.iconst X0.here hx rfl (hb hby d9_1) ?_
    show Steps p.tables e below (s₁.setTop (mkF m 2 #[.val (.int (2 : Int32))] [(.int (1 : Int32)), (.int (2 : Int32))])) _
    refine XS.icmpYes X0.here hx rfl (pc0 := 2) (pc' := 21) rfl (hb hby d9_2) rfl (feq (by decide : ¬ ((2 : Int32) = (1 : Int32)))).2 (by decide) (by decide) ?_
    show Steps p.tables e below (s₁.setTop (mkF m 21 #[.val (.int (2 : Int32))] [])) _
    refine XS.iloadN X0.here hx rfl (hb hby d9_21) rfl ?_
    show Steps p.tables e below (s₁.setTop (mkF m 22 #[.val (.int (2 : Int32))] [(.int (2 : Int32))])) _
    refine XS.iconst X0.here hx rfl (hb hby d9_22) ?_
    show Steps p.tables e below (s₁.setTop (mkF m 23 #[.val (.int (2 : Int32))] [(.int (2 : Int32)), (.int (2 : Int32))])) _
    refine XS.icmpNo X0.here hx rfl (hb hby d9_23) rfl (teq (by decide : (2 : Int32) = (2 : Int32))).2 ?_
    exact kt)
  obtain ⟨T2, h2, X2, e2, E2, A2, D2, -, st2⟩ := newO X0 hx hZ hown (hw _ (List.mem_of_getElem? (i := 5) rfl)) (hw _ (List.mem_of_getElem? (i := 6) rfl)) (hw _ (List.mem_of_getElem? (i := 7) rfl)) e0 (g := (mkF m 26 #[.val (.int (2 : Int32))] [])) rfl (hb hby d9_26) (by decide) (by decide)
  obtain ⟨r, g2⟩ : ∃ z, z = h0.size := ⟨_, rfl⟩
  rw [← g2] at A2 D2 st2
  have O_r : n0 ≤ r := Nat.le_trans Z0 (Nat.le_of_eq g2.symm)
  have Z2 : n0 ≤ h2.size := Nat.le_trans Z0 E2.1
  have S_r : h0.size ≤ r := Nat.le_trans (Keep.refl h0 []).1 (Nat.le_of_eq g2.symm)
  have pre2s : ∀ tg, Steps p.tables e below (T2.setTop (mkF m 29 #[.val (.int (2 : Int32))] [(.ref r)])) tg → G tg := fun tg kt => pre1 tg (st2 tg kt)
  have Ol3 := Ol.ext E2
  have Fvalue_r : Fld Z h2 r "java/lang/String" "value" "[B" .null := D2 (Or.inr (hw _ (List.mem_of_getElem? (i := 21) rfl))) (ty := (.array .byte)) (by decide)
  have Fcoder_r : Fld Z h2 r "java/lang/String" "coder" "B" (.int (0 : Int32)) := D2 (Or.inr (hw _ (List.mem_of_getElem? (i := 22) rfl))) (ty := .byte) (by decide)
  have K2 : Keep h0 h2 [] := (Keep.refl h0 []).ext E2
  have pre4 : ∀ tg, Steps p.tables e below (T2.setTop (mkF m 31 #[.val (.int (2 : Int32))] [(.int (2 : Int32)), (.ref r), (.ref r)])) tg → G tg := fun tg kt => pre2s tg (by
    show Steps p.tables e below (T2.setTop (mkF m 29 #[.val (.int (2 : Int32))] [(.ref r)])) _
    refine XS.dup X2.here hx rfl (hb hby d9_29) rfl rfl ?_
    show Steps p.tables e below (T2.setTop (mkF m 30 #[.val (.int (2 : Int32))] [(.ref r), (.ref r)])) _
    refine XS.iconst X2.here hx rfl (hb hby d9_30) ?_
    exact kt)
  obtain ⟨T5, h5, k5, X5, e5, E5, A5, st5⟩ := newP X2 hx hZ (hw _ (List.mem_of_getElem? (i := 8) rfl)) e2 (g := (mkF m 31 #[.val (.int (2 : Int32))] [(.int (2 : Int32)), (.ref r), (.ref r)])) rfl (hb hby d9_31) rfl (by decide) (cap := 2) (by decide) (by decide) (by decide) (by decide)
  obtain ⟨ca, g5⟩ : ∃ z, z = h2.size := ⟨_, rfl⟩
  rw [← g5] at A5 st5
  have O_ca : n0 ≤ ca := Nat.le_trans Z2 (Nat.le_of_eq g5.symm)
  have Z5 : n0 ≤ h5.size := Nat.le_trans Z2 E5.1
  have ne_r_ca : r ≠ ca := Nat.ne_of_lt (Nat.lt_of_lt_of_le A2.lt (Nat.le_of_eq g5.symm))
  have S_ca : h0.size ≤ ca := Nat.le_trans K2.1 (Nat.le_of_eq g5.symm)
  have pre5s : ∀ tg, Steps p.tables e below (T5.setTop (mkF m 33 #[.val (.int (2 : Int32))] [(.ref ca), (.ref r), (.ref r)])) tg → G tg := fun tg kt => pre4 tg (st5 tg kt)
  have A2_6 := A2.ext E5
  have Fvalue_r_7 := Fvalue_r.ext E5
  have Fcoder_r_8 := Fcoder_r.ext E5
  have Ol9 := Ol3.ext E5
  have V_ca : Arv Z h5 ca k5 .char (2 : Int32) [(.int (0 : Int32)), (.int (0 : Int32))] (.int (0 : Int32)) := (Arv.new A5 (by decide)).pad (pad_rep [] (.int (0 : Int32)) 2)
  have K5 : Keep h0 h5 [] := K2.ext E5
  have pre10 : ∀ tg, Steps p.tables e below (T5.setTop (mkF m 37 #[.val (.int (2 : Int32))] [(.int (57 : Int32)), (.int (0 : Int32)), (.ref ca), (.ref ca), (.ref r), (.ref r)])) tg → G tg := fun tg kt => pre5s tg (by
    show Steps p.tables e below (T5.setTop (mkF m 33 #[.val (.int (2 : Int32))] [(.ref ca), (.ref r), (.ref r)])) _
    refine XS.dup X5.here hx rfl (hb hby d9_33) rfl rfl ?_
    show Steps p.tables e below (T5.setTop (mkF m 34 #[.val (.int (2 : Int32))] [(.ref ca), (.ref ca), (.ref r), (.ref r)])) _
    refine XS.iconst X5.here hx rfl (hb hby d9_34) ?_
    show Steps p.tables e below (T5.setTop (mkF m 35 #[.val (.int (2 : Int32))] [(.int (0 : Int32)), (.ref ca), (.ref ca), (.ref r), (.ref r)])) _
    refine XS.bipush X5.here hx rfl (hb hby d9_35) ?_
    exact kt)
  have op_11 := V_ca
  obtain ⟨cl_11, Ar_11, q_11, S_11, Ng_11, H_11, G_11⟩ := op_11
  have hin_11 : ¬ ((0 : Int32) < 0 ∨ cl_11.slots.size ≤ ((0 : Int32)).toNatClampNeg) := inb_of S_11 ⟨by decide, by decide⟩
  obtain ⟨T11, h11, X11, e11, W11, st11⟩ := stC X5 hx hZ e5 Ar_11 (j := (0 : Int32)) hin_11 (g := (mkF m 37 #[.val (.int (2 : Int32))] [(.int (57 : Int32)), (.int (0 : Int32)), (.ref ca), (.ref ca), (.ref r), (.ref r)])) rfl rfl (hb hby d9_37)
  have pre11s : ∀ tg, Steps p.tables e below (T11.setTop (mkF m 38 #[.val (.int (2 : Int32))] [(.ref ca), (.ref r), (.ref r)])) tg → G tg := fun tg kt => pre10 tg (st11 tg kt)
  have A2_12 := A2_6.wr W11
  have Fvalue_r_13 := Fvalue_r_7.other W11 (Or.inl ne_r_ca)
  have Fcoder_r_14 := Fcoder_r_8.other W11 (Or.inl ne_r_ca)
  have Ol15 := Ol9.wr W11 O_ca
  have V11_ca : Arv Z h11 ca k5 .char (2 : Int32) [(.int ((57 : Int32).toUInt32.toUInt16.toUInt32.toInt32)), (.int (0 : Int32))] (.int (0 : Int32)) := Arv.set Ar_11 q_11 S_11 Ng_11 H_11 G_11 (fits_nar_char _) W11 0 rfl (Nat.le_of_ble_eq_true rfl)
  have N11 := Fr.snoc X11 N0 O_ca
  have Z11 : n0 ≤ h11.size := Nat.le_trans Z5 (Keep.of_wr W11).1
  have K11 : Keep h0 h11 [] := K5.wr W11 (Or.inr S_ca)
  have V11_cab : Arv Z h11 ca k5 .char (2 : Int32) [(.int (57 : Int32)), (.int (0 : Int32))] (.int (0 : Int32)) := V11_ca
  have pre16 : ∀ tg, Steps p.tables e below (T11.setTop (mkF m 42 #[.val (.int (2 : Int32))] [(.int (57 : Int32)), (.int (1 : Int32)), (.ref ca), (.ref ca), (.ref r), (.ref r)])) tg → G tg := fun tg kt => pre11s tg (by
    show Steps p.tables e below (T11.setTop (mkF m 38 #[.val (.int (2 : Int32))] [(.ref ca), (.ref r), (.ref r)])) _
    refine XS.dup X11.here hx rfl (hb hby d9_38) rfl rfl ?_
    show Steps p.tables e below (T11.setTop (mkF m 39 #[.val (.int (2 : Int32))] [(.ref ca), (.ref ca), (.ref r), (.ref r)])) _
    refine XS.iconst X11.here hx rfl (hb hby d9_39) ?_
    show Steps p.tables e below (T11.setTop (mkF m 40 #[.val (.int (2 : Int32))] [(.int (1 : Int32)), (.ref ca), (.ref ca), (.ref r), (.ref r)])) _
    refine XS.bipush X11.here hx rfl (hb hby d9_40) ?_
    exact kt)
  have op_17 := V11_cab
  obtain ⟨cl_17, Ar_17, q_17, S_17, Ng_17, H_17, G_17⟩ := op_17
  have hin_17 : ¬ ((1 : Int32) < 0 ∨ cl_17.slots.size ≤ ((1 : Int32)).toNatClampNeg) := inb_of S_17 ⟨by decide, by decide⟩
  obtain ⟨T17, h17, X17, e17, W17, st17⟩ := stC X11 hx hZ e11 Ar_17 (j := (1 : Int32)) hin_17 (g := (mkF m 42 #[.val (.int (2 : Int32))] [(.int (57 : Int32)), (.int (1 : Int32)), (.ref ca), (.ref ca), (.ref r), (.ref r)])) rfl rfl (hb hby d9_42)
  have pre17s : ∀ tg, Steps p.tables e below (T17.setTop (mkF m 43 #[.val (.int (2 : Int32))] [(.ref ca), (.ref r), (.ref r)])) tg → G tg := fun tg kt => pre16 tg (st17 tg kt)
  have A2_18 := A2_12.wr W17
  have Fvalue_r_19 := Fvalue_r_13.other W17 (Or.inl ne_r_ca)
  have Fcoder_r_20 := Fcoder_r_14.other W17 (Or.inl ne_r_ca)
  have Ol21 := Ol15.wr W17 O_ca
  have V17_ca : Arv Z h17 ca k5 .char (2 : Int32) [(.int (57 : Int32)), (.int ((57 : Int32).toUInt32.toUInt16.toUInt32.toInt32))] (.int (0 : Int32)) := Arv.set Ar_17 q_17 S_17 Ng_17 H_17 G_17 (fits_nar_char _) W17 1 rfl (Nat.le_of_ble_eq_true rfl)
  have N17 := Fr.snoc X17 N11 O_ca
  have Z17 : n0 ≤ h17.size := Nat.le_trans Z11 (Keep.of_wr W17).1
  have K17 : Keep h0 h17 [] := K11.wr W17 (Or.inr S_ca)
  have V17_cab : Arv Z h17 ca k5 .char (2 : Int32) [(.int (57 : Int32)), (.int (57 : Int32))] (.int (0 : Int32)) := V17_ca
  obtain ⟨_, _, ⟨T22, L22, k22, n22⟩, -, X22, ⟨Lc22, hQ22, l22, y22, z22⟩, st22⟩ := X17.specialBack hx (y := (⟨"java/lang/String", "<init>", "([C)V"⟩ : MethodName)) rfl hown (mvT hZ (hw _ (List.mem_of_getElem? (i := 9) rfl))) (mvT hZ (hw _ (List.mem_of_getElem? (i := 10) rfl))) (mvT hZ (hw _ (List.mem_of_getElem? (i := 11) rfl))) (by decide) (backOf (W := 1) (rmJ_2 l Z a0 hw [] r ca k5 (57 : Int32) (57 : Int32) h17 n0 Z17 hs Ol21 A2_18 Fcoder_r_20 Fvalue_r_19 O_r (Ne.symm ne_r_ca) V17_cab own_y57 own_y57) hZ (hw _ (List.mem_of_getElem? (i := 11) rfl)) (hw _ (List.mem_of_getElem? (i := 7) rfl)) (by decide) (by decide)) (g := (mkF m 43 #[.val (.int (2 : Int32))] [(.ref ca), (.ref r), (.ref r)])) rfl (by rw [hml]; rfl) (Steps.refl _) (a := r) (argsL := [(.ref ca)]) (rest := [(.ref r)]) (lenOf pd_4 rfl) rfl (by show 2 * 0 + _ ≤ _; exact Nat.le_of_eq rfl) (hb hby d9_43) (fun _ _ => ⟨rfl, e17, (Nat.le_of_ble_eq_true rfl), (Nat.le_of_ble_eq_true rfl)⟩)
  dsimp only [Pt.U, Pt.locs, Pt.cells, Pt.slots] at X22 l22 y22 z22 st22 hQ22
  subst l22 y22 z22
  obtain ⟨rfl, N22q, K22, Tx⟩ := hQ22
  have N22 := Fr.app N17 N22q
  have pre22s : ∀ tg, Steps p.tables e below (T22.setTop (mkF m 46 #[.val (.int (2 : Int32))] [(.ref r)])) tg → G tg := fun tg kt => pre17s tg (st22.trans kt)
  have Z22 : n0 ≤ T22.heap.size := Nat.le_trans Z17 K22.1
  have A2_23 := A2_18.keep K22
  have V17_cab_24 := V17_cab.keep K22 (ninS (Ne.symm ne_r_ca) nin0)
  have Ol25 := Ol21.keep K22 (allS O_r all0)
  have KK22 : Keep h0 T22.heap [] := K17.trans K22 (allS (Or.inr S_r) all0)
  obtain ⟨fs, hr, hrun, hended, hW, hsame⟩ := X22.leave (v := some (.ref r)) (fun h => by rw [Bd.returns] at h; cases h)
  subst hG
  refine ⟨_, _, pre22s _ ?_, hrun, hended, _, _, rfl, ?_, ⟨_, rfl⟩, hW, hsame.mono (by decide) (by decide)⟩
  · skip
    show Steps p.tables e below (T22.setTop (mkF m 46 #[.val (.int (2 : Int32))] [(.ref r)])) _
    jvm_step X22.here [X22.here.top, hx, (hb hby d9_46), X22.method', Bd.returns, Value.isRef, FieldType.isReference]
    first | (intro acts; rw [hr _ acts rfl rfl rfl]) | rw [hr _ _ rfl rfl rfl]
    exact Steps.refl _
  · show Q_rmN_2 Z  h0 n0 _ T22.heap _
    exact ⟨r, rfl, N22, KK22, A2_23, Tx⟩
theorem d9_47 : decode method_5_code 47 = .ok (.new 32, 3) := by decide +kernel
theorem d9_50 : decode method_5_code 50 = .ok (.dup, 1) := by decide +kernel
theorem d9_51 : decode method_5_code 51 = .ok (.iconst 3, 1) := by decide +kernel
theorem d9_52 : decode method_5_code 52 = .ok (.newarray .char, 2) := by decide +kernel
theorem d9_54 : decode method_5_code 54 = .ok (.dup, 1) := by decide +kernel
theorem d9_55 : decode method_5_code 55 = .ok (.iconst 0, 1) := by decide +kernel
theorem d9_56 : decode method_5_code 56 = .ok (.bipush 57, 2) := by decide +kernel
theorem d9_58 : decode method_5_code 58 = .ok (.castore, 1) := by decide +kernel
theorem d9_59 : decode method_5_code 59 = .ok (.dup, 1) := by decide +kernel
theorem d9_60 : decode method_5_code 60 = .ok (.iconst 1, 1) := by decide +kernel
theorem d9_61 : decode method_5_code 61 = .ok (.bipush 57, 2) := by decide +kernel
theorem d9_63 : decode method_5_code 63 = .ok (.castore, 1) := by decide +kernel
theorem d9_64 : decode method_5_code 64 = .ok (.dup, 1) := by decide +kernel
theorem d9_65 : decode method_5_code 65 = .ok (.iconst 2, 1) := by decide +kernel
theorem d9_66 : decode method_5_code 66 = .ok (.bipush 57, 2) := by decide +kernel
theorem d9_68 : decode method_5_code 68 = .ok (.castore, 1) := by decide +kernel
theorem d9_69 : decode method_5_code 69 = .ok (.invokespecial 34, 3) := by decide +kernel
theorem d9_72 : decode method_5_code 72 = .ok (.areturn, 1) := by decide +kernel
def Q_rmN_3 (Z : State)  (h0 : Heap) (n0 : Nat) (v : Option Value) (h : Heap) (L : List Loc) : Prop := SQ_ Z (3 : Int32) h0 n0 v h L
set_option maxRecDepth 65536 in
set_option maxHeartbeats 40000000 in
theorem rmN_3 (l : Launch) (Z : State) (a0 : Array Value) (hw : ∀ d ∈ tables_1, d.before a0 Z = true) (ws : List Jvm.Cond)  (h0 : Heap) (n0 : Nat) (Z0 : n0 ≤ h0.size) (hs : own_st Z) (Ol : Old Z n0 h0) :
    MetFree l (⟨"com/example/ringfence/ringfence/NumberPatternRankPinLaw", "nines", "(I)Ljava/lang/String;"⟩ : MethodName) (head1 (Jvm.Cond.code (⟨"com/example/ringfence/ringfence/NumberPatternRankPinLaw", "nines", "(I)Ljava/lang/String;"⟩ : MethodName) method_5_code 1 (some (.object "java/lang/String")) :: ws) ({ frames := 4, cells := 3, slots := 10, locals := 96 } : Room)) (fun argv U => argv = #[(.int (3 : Int32))] ∧ Z.Warmed39 U.vm ∧ U.heap = h0) (fun _ _ _ _ _ => True) (fun _ U o U' => ∃ v L, o = .returned v ∧ Q_rmN_3 Z  h0 n0 v U'.heap L ∧ FrameEnd U o U' L ({ frames := 4, cells := 3, slots := 10, locals := 96 } : Room).cells ({ frames := 4, cells := 3, slots := 10, locals := 96 } : Room).slots) := by
  refine MetFree.of_bodySF (plainFor_of_name pn_9) hisR ?_
  intro p e s m args below meth c s₁ Bd hml0 hP hK
  obtain ⟨rfl, hZ, hh⟩ := hP
  have hx := Bd.exec
  have hby := Bd.bytes
  have hml : c.maxLocals = 1 := hml0
  have hown : s.vm.findClass "com/example/ringfence/ringfence/NumberPatternRankPinLaw" = some m.cls := findClass_of_methodNamed Bd.named
  have hnm := (name_of_methodNamed Bd.named Bd.method).1
  have X0 : Stand p l e ({ frames := 4, cells := 3, slots := 10, locals := 96 } : Room) s m #[(.int (3 : Int32))] below meth c s₁ [] 0 0 := Stand.of_body Bd
  have e0 : s₁.heap = h0 := by rw [← hh, Bd.state]; rfl
  have N0 := Fr.nil n0
  obtain ⟨G, hG⟩ : ∃ G : State → Prop, G = fun tg => Steps p.tables e below (s₁.setTop (entryFrame m #[(.int (3 : Int32))] 1)) tg := ⟨_, rfl⟩
  have pre0 : ∀ tg, Steps p.tables e below (s₁.setTop (mkF m 0 #[.val (.int (3 : Int32))] [])) tg → G tg := fun tg kt => by rw [hG]; exact castTop (ef_9_I m (3 : Int32)) kt
  have pre1 : ∀ tg, Steps p.tables e below (s₁.setTop (mkF m 47 #[.val (.int (3 : Int32))] [])) tg → G tg := fun tg kt => pre0 tg (by
    show Steps p.tables e below (s₁.setTop (mkF m 0 #[.val (.int (3 : Int32))] [])) _
    refine XS.iloadN X0.here hx rfl (hb hby d9_0) rfl ?_
    show Steps p.tables e below (s₁.setTop (mkF m 1 #[.val (.int (3 : Int32))] [(.int (3 : Int32))])) _
    refine XS.iconst X0.here hx rfl (hb hby d9_1) ?_
    show Steps p.tables e below (s₁.setTop (mkF m 2 #[.val (.int (3 : Int32))] [(.int (1 : Int32)), (.int (3 : Int32))])) _
    refine XS.icmpYes X0.here hx rfl (pc0 := 2) (pc' := 21) rfl (hb hby d9_2) rfl (feq (by decide : ¬ ((3 : Int32) = (1 : Int32)))).2 (by decide) (by decide) ?_
    show Steps p.tables e below (s₁.setTop (mkF m 21 #[.val (.int (3 : Int32))] [])) _
    refine XS.iloadN X0.here hx rfl (hb hby d9_21) rfl ?_
    show Steps p.tables e below (s₁.setTop (mkF m 22 #[.val (.int (3 : Int32))] [(.int (3 : Int32))])) _
    refine XS.iconst X0.here hx rfl (hb hby d9_22) ?_
    show Steps p.tables e below (s₁.setTop (mkF m 23 #[.val (.int (3 : Int32))] [(.int (2 : Int32)), (.int (3 : Int32))])) _
    refine XS.icmpYes X0.here hx rfl (pc0 := 23) (pc' := 47) rfl (hb hby d9_23) rfl (feq (by decide : ¬ ((3 : Int32) = (2 : Int32)))).2 (by decide) (by decide) ?_
    exact kt)
  obtain ⟨T2, h2, X2, e2, E2, A2, D2, -, st2⟩ := newO X0 hx hZ hown (hw _ (List.mem_of_getElem? (i := 5) rfl)) (hw _ (List.mem_of_getElem? (i := 6) rfl)) (hw _ (List.mem_of_getElem? (i := 7) rfl)) e0 (g := (mkF m 47 #[.val (.int (3 : Int32))] [])) rfl (hb hby d9_47) (by decide) (by decide)
  obtain ⟨r, g2⟩ : ∃ z, z = h0.size := ⟨_, rfl⟩
  rw [← g2] at A2 D2 st2
  have O_r : n0 ≤ r := Nat.le_trans Z0 (Nat.le_of_eq g2.symm)
  have Z2 : n0 ≤ h2.size := Nat.le_trans Z0 E2.1
  have S_r : h0.size ≤ r := Nat.le_trans (Keep.refl h0 []).1 (Nat.le_of_eq g2.symm)
  have pre2s : ∀ tg, Steps p.tables e below (T2.setTop (mkF m 50 #[.val (.int (3 : Int32))] [(.ref r)])) tg → G tg := fun tg kt => pre1 tg (st2 tg kt)
  have Ol3 := Ol.ext E2
  have Fvalue_r : Fld Z h2 r "java/lang/String" "value" "[B" .null := D2 (Or.inr (hw _ (List.mem_of_getElem? (i := 21) rfl))) (ty := (.array .byte)) (by decide)
  have Fcoder_r : Fld Z h2 r "java/lang/String" "coder" "B" (.int (0 : Int32)) := D2 (Or.inr (hw _ (List.mem_of_getElem? (i := 22) rfl))) (ty := .byte) (by decide)
  have K2 : Keep h0 h2 [] := (Keep.refl h0 []).ext E2
  have pre4 : ∀ tg, Steps p.tables e below (T2.setTop (mkF m 52 #[.val (.int (3 : Int32))] [(.int (3 : Int32)), (.ref r), (.ref r)])) tg → G tg := fun tg kt => pre2s tg (by
    show Steps p.tables e below (T2.setTop (mkF m 50 #[.val (.int (3 : Int32))] [(.ref r)])) _
    refine XS.dup X2.here hx rfl (hb hby d9_50) rfl rfl ?_
    show Steps p.tables e below (T2.setTop (mkF m 51 #[.val (.int (3 : Int32))] [(.ref r), (.ref r)])) _
    refine XS.iconst X2.here hx rfl (hb hby d9_51) ?_
    exact kt)
  obtain ⟨T5, h5, k5, X5, e5, E5, A5, st5⟩ := newP X2 hx hZ (hw _ (List.mem_of_getElem? (i := 8) rfl)) e2 (g := (mkF m 52 #[.val (.int (3 : Int32))] [(.int (3 : Int32)), (.ref r), (.ref r)])) rfl (hb hby d9_52) rfl (by decide) (cap := 3) (by decide) (by decide) (by decide) (by decide)
  obtain ⟨ca, g5⟩ : ∃ z, z = h2.size := ⟨_, rfl⟩
  rw [← g5] at A5 st5
  have O_ca : n0 ≤ ca := Nat.le_trans Z2 (Nat.le_of_eq g5.symm)
  have Z5 : n0 ≤ h5.size := Nat.le_trans Z2 E5.1
  have ne_r_ca : r ≠ ca := Nat.ne_of_lt (Nat.lt_of_lt_of_le A2.lt (Nat.le_of_eq g5.symm))
  have S_ca : h0.size ≤ ca := Nat.le_trans K2.1 (Nat.le_of_eq g5.symm)
  have pre5s : ∀ tg, Steps p.tables e below (T5.setTop (mkF m 54 #[.val (.int (3 : Int32))] [(.ref ca), (.ref r), (.ref r)])) tg → G tg := fun tg kt => pre4 tg (st5 tg kt)
  have A2_6 := A2.ext E5
  have Fvalue_r_7 := Fvalue_r.ext E5
  have Fcoder_r_8 := Fcoder_r.ext E5
  have Ol9 := Ol3.ext E5
  have V_ca : Arv Z h5 ca k5 .char (3 : Int32) [(.int (0 : Int32)), (.int (0 : Int32)), (.int (0 : Int32))] (.int (0 : Int32)) := (Arv.new A5 (by decide)).pad (pad_rep [] (.int (0 : Int32)) 3)
  have K5 : Keep h0 h5 [] := K2.ext E5
  have pre10 : ∀ tg, Steps p.tables e below (T5.setTop (mkF m 58 #[.val (.int (3 : Int32))] [(.int (57 : Int32)), (.int (0 : Int32)), (.ref ca), (.ref ca), (.ref r), (.ref r)])) tg → G tg := fun tg kt => pre5s tg (by
    show Steps p.tables e below (T5.setTop (mkF m 54 #[.val (.int (3 : Int32))] [(.ref ca), (.ref r), (.ref r)])) _
    refine XS.dup X5.here hx rfl (hb hby d9_54) rfl rfl ?_
    show Steps p.tables e below (T5.setTop (mkF m 55 #[.val (.int (3 : Int32))] [(.ref ca), (.ref ca), (.ref r), (.ref r)])) _
    refine XS.iconst X5.here hx rfl (hb hby d9_55) ?_
    show Steps p.tables e below (T5.setTop (mkF m 56 #[.val (.int (3 : Int32))] [(.int (0 : Int32)), (.ref ca), (.ref ca), (.ref r), (.ref r)])) _
    refine XS.bipush X5.here hx rfl (hb hby d9_56) ?_
    exact kt)
  have op_11 := V_ca
  obtain ⟨cl_11, Ar_11, q_11, S_11, Ng_11, H_11, G_11⟩ := op_11
  have hin_11 : ¬ ((0 : Int32) < 0 ∨ cl_11.slots.size ≤ ((0 : Int32)).toNatClampNeg) := inb_of S_11 ⟨by decide, by decide⟩
  obtain ⟨T11, h11, X11, e11, W11, st11⟩ := stC X5 hx hZ e5 Ar_11 (j := (0 : Int32)) hin_11 (g := (mkF m 58 #[.val (.int (3 : Int32))] [(.int (57 : Int32)), (.int (0 : Int32)), (.ref ca), (.ref ca), (.ref r), (.ref r)])) rfl rfl (hb hby d9_58)
  have pre11s : ∀ tg, Steps p.tables e below (T11.setTop (mkF m 59 #[.val (.int (3 : Int32))] [(.ref ca), (.ref r), (.ref r)])) tg → G tg := fun tg kt => pre10 tg (st11 tg kt)
  have A2_12 := A2_6.wr W11
  have Fvalue_r_13 := Fvalue_r_7.other W11 (Or.inl ne_r_ca)
  have Fcoder_r_14 := Fcoder_r_8.other W11 (Or.inl ne_r_ca)
  have Ol15 := Ol9.wr W11 O_ca
  have V11_ca : Arv Z h11 ca k5 .char (3 : Int32) [(.int ((57 : Int32).toUInt32.toUInt16.toUInt32.toInt32)), (.int (0 : Int32)), (.int (0 : Int32))] (.int (0 : Int32)) := Arv.set Ar_11 q_11 S_11 Ng_11 H_11 G_11 (fits_nar_char _) W11 0 rfl (Nat.le_of_ble_eq_true rfl)
  have N11 := Fr.snoc X11 N0 O_ca
  have Z11 : n0 ≤ h11.size := Nat.le_trans Z5 (Keep.of_wr W11).1
  have K11 : Keep h0 h11 [] := K5.wr W11 (Or.inr S_ca)
  have V11_cab : Arv Z h11 ca k5 .char (3 : Int32) [(.int (57 : Int32)), (.int (0 : Int32)), (.int (0 : Int32))] (.int (0 : Int32)) := V11_ca
  have pre16 : ∀ tg, Steps p.tables e below (T11.setTop (mkF m 63 #[.val (.int (3 : Int32))] [(.int (57 : Int32)), (.int (1 : Int32)), (.ref ca), (.ref ca), (.ref r), (.ref r)])) tg → G tg := fun tg kt => pre11s tg (by
    show Steps p.tables e below (T11.setTop (mkF m 59 #[.val (.int (3 : Int32))] [(.ref ca), (.ref r), (.ref r)])) _
    refine XS.dup X11.here hx rfl (hb hby d9_59) rfl rfl ?_
    show Steps p.tables e below (T11.setTop (mkF m 60 #[.val (.int (3 : Int32))] [(.ref ca), (.ref ca), (.ref r), (.ref r)])) _
    refine XS.iconst X11.here hx rfl (hb hby d9_60) ?_
    show Steps p.tables e below (T11.setTop (mkF m 61 #[.val (.int (3 : Int32))] [(.int (1 : Int32)), (.ref ca), (.ref ca), (.ref r), (.ref r)])) _
    refine XS.bipush X11.here hx rfl (hb hby d9_61) ?_
    exact kt)
  have op_17 := V11_cab
  obtain ⟨cl_17, Ar_17, q_17, S_17, Ng_17, H_17, G_17⟩ := op_17
  have hin_17 : ¬ ((1 : Int32) < 0 ∨ cl_17.slots.size ≤ ((1 : Int32)).toNatClampNeg) := inb_of S_17 ⟨by decide, by decide⟩
  obtain ⟨T17, h17, X17, e17, W17, st17⟩ := stC X11 hx hZ e11 Ar_17 (j := (1 : Int32)) hin_17 (g := (mkF m 63 #[.val (.int (3 : Int32))] [(.int (57 : Int32)), (.int (1 : Int32)), (.ref ca), (.ref ca), (.ref r), (.ref r)])) rfl rfl (hb hby d9_63)
  have pre17s : ∀ tg, Steps p.tables e below (T17.setTop (mkF m 64 #[.val (.int (3 : Int32))] [(.ref ca), (.ref r), (.ref r)])) tg → G tg := fun tg kt => pre16 tg (st17 tg kt)
  have A2_18 := A2_12.wr W17
  have Fvalue_r_19 := Fvalue_r_13.other W17 (Or.inl ne_r_ca)
  have Fcoder_r_20 := Fcoder_r_14.other W17 (Or.inl ne_r_ca)
  have Ol21 := Ol15.wr W17 O_ca
  have V17_ca : Arv Z h17 ca k5 .char (3 : Int32) [(.int (57 : Int32)), (.int ((57 : Int32).toUInt32.toUInt16.toUInt32.toInt32)), (.int (0 : Int32))] (.int (0 : Int32)) := Arv.set Ar_17 q_17 S_17 Ng_17 H_17 G_17 (fits_nar_char _) W17 1 rfl (Nat.le_of_ble_eq_true rfl)
  have N17 := Fr.snoc X17 N11 O_ca
  have Z17 : n0 ≤ h17.size := Nat.le_trans Z11 (Keep.of_wr W17).1
  have K17 : Keep h0 h17 [] := K11.wr W17 (Or.inr S_ca)
  have V17_cab : Arv Z h17 ca k5 .char (3 : Int32) [(.int (57 : Int32)), (.int (57 : Int32)), (.int (0 : Int32))] (.int (0 : Int32)) := V17_ca
  have pre22 : ∀ tg, Steps p.tables e below (T17.setTop (mkF m 68 #[.val (.int (3 : Int32))] [(.int (57 : Int32)), (.int (2 : Int32)), (.ref ca), (.ref ca), (.ref r), (.ref r)])) tg → G tg := fun tg kt => pre17s tg (by
    show Steps p.tables e below (T17.setTop (mkF m 64 #[.val (.int (3 : Int32))] [(.ref ca), (.ref r), (.ref r)])) _
    refine XS.dup X17.here hx rfl (hb hby d9_64) rfl rfl ?_
    show Steps p.tables e below (T17.setTop (mkF m 65 #[.val (.int (3 : Int32))] [(.ref ca), (.ref ca), (.ref r), (.ref r)])) _
    refine XS.iconst X17.here hx rfl (hb hby d9_65) ?_
    show Steps p.tables e below (T17.setTop (mkF m 66 #[.val (.int (3 : Int32))] [(.int (2 : Int32)), (.ref ca), (.ref ca), (.ref r), (.ref r)])) _
    refine XS.bipush X17.here hx rfl (hb hby d9_66) ?_
    exact kt)
  have op_23 := V17_cab
  obtain ⟨cl_23, Ar_23, q_23, S_23, Ng_23, H_23, G_23⟩ := op_23
  have hin_23 : ¬ ((2 : Int32) < 0 ∨ cl_23.slots.size ≤ ((2 : Int32)).toNatClampNeg) := inb_of S_23 ⟨by decide, by decide⟩
  obtain ⟨T23, h23, X23, e23, W23, st23⟩ := stC X17 hx hZ e17 Ar_23 (j := (2 : Int32)) hin_23 (g := (mkF m 68 #[.val (.int (3 : Int32))] [(.int (57 : Int32)), (.int (2 : Int32)), (.ref ca), (.ref ca), (.ref r), (.ref r)])) rfl rfl (hb hby d9_68)
  have pre23s : ∀ tg, Steps p.tables e below (T23.setTop (mkF m 69 #[.val (.int (3 : Int32))] [(.ref ca), (.ref r), (.ref r)])) tg → G tg := fun tg kt => pre22 tg (st23 tg kt)
  have A2_24 := A2_18.wr W23
  have Fvalue_r_25 := Fvalue_r_19.other W23 (Or.inl ne_r_ca)
  have Fcoder_r_26 := Fcoder_r_20.other W23 (Or.inl ne_r_ca)
  have Ol27 := Ol21.wr W23 O_ca
  have V23_ca : Arv Z h23 ca k5 .char (3 : Int32) [(.int (57 : Int32)), (.int (57 : Int32)), (.int ((57 : Int32).toUInt32.toUInt16.toUInt32.toInt32))] (.int (0 : Int32)) := Arv.set Ar_23 q_23 S_23 Ng_23 H_23 G_23 (fits_nar_char _) W23 2 rfl (Nat.le_of_ble_eq_true rfl)
  have N23 := Fr.snoc X23 N17 O_ca
  have Z23 : n0 ≤ h23.size := Nat.le_trans Z17 (Keep.of_wr W23).1
  have K23 : Keep h0 h23 [] := K17.wr W23 (Or.inr S_ca)
  have V23_cab : Arv Z h23 ca k5 .char (3 : Int32) [(.int (57 : Int32)), (.int (57 : Int32)), (.int (57 : Int32))] (.int (0 : Int32)) := V23_ca
  obtain ⟨_, _, ⟨T28, L28, k28, n28⟩, -, X28, ⟨Lc28, hQ28, l28, y28, z28⟩, st28⟩ := X23.specialBack hx (y := (⟨"java/lang/String", "<init>", "([C)V"⟩ : MethodName)) rfl hown (mvT hZ (hw _ (List.mem_of_getElem? (i := 9) rfl))) (mvT hZ (hw _ (List.mem_of_getElem? (i := 10) rfl))) (mvT hZ (hw _ (List.mem_of_getElem? (i := 11) rfl))) (by decide) (backOf (W := 1) (rmJ_3 l Z a0 hw [] r ca k5 (57 : Int32) (57 : Int32) (57 : Int32) h23 n0 Z23 hs Ol27 A2_24 Fcoder_r_26 Fvalue_r_25 O_r (Ne.symm ne_r_ca) V23_cab own_y57 own_y57 own_y57) hZ (hw _ (List.mem_of_getElem? (i := 11) rfl)) (hw _ (List.mem_of_getElem? (i := 7) rfl)) (by decide) (by decide)) (g := (mkF m 69 #[.val (.int (3 : Int32))] [(.ref ca), (.ref r), (.ref r)])) rfl (by rw [hml]; rfl) (Steps.refl _) (a := r) (argsL := [(.ref ca)]) (rest := [(.ref r)]) (lenOf pd_4 rfl) rfl (by show 2 * 0 + _ ≤ _; exact Nat.le_of_eq rfl) (hb hby d9_69) (fun _ _ => ⟨rfl, e23, (Nat.le_of_ble_eq_true rfl), (Nat.le_of_ble_eq_true rfl)⟩)
  dsimp only [Pt.U, Pt.locs, Pt.cells, Pt.slots] at X28 l28 y28 z28 st28 hQ28
  subst l28 y28 z28
  obtain ⟨rfl, N28q, K28, Tx⟩ := hQ28
  have N28 := Fr.app N23 N28q
  have pre28s : ∀ tg, Steps p.tables e below (T28.setTop (mkF m 72 #[.val (.int (3 : Int32))] [(.ref r)])) tg → G tg := fun tg kt => pre23s tg (st28.trans kt)
  have Z28 : n0 ≤ T28.heap.size := Nat.le_trans Z23 K28.1
  have A2_29 := A2_24.keep K28
  have V23_cab_30 := V23_cab.keep K28 (ninS (Ne.symm ne_r_ca) nin0)
  have Ol31 := Ol27.keep K28 (allS O_r all0)
  have KK28 : Keep h0 T28.heap [] := K23.trans K28 (allS (Or.inr S_r) all0)
  obtain ⟨fs, hr, hrun, hended, hW, hsame⟩ := X28.leave (v := some (.ref r)) (fun h => by rw [Bd.returns] at h; cases h)
  subst hG
  refine ⟨_, _, pre28s _ ?_, hrun, hended, _, _, rfl, ?_, ⟨_, rfl⟩, hW, hsame.mono (by decide) (by decide)⟩
  · skip
    show Steps p.tables e below (T28.setTop (mkF m 72 #[.val (.int (3 : Int32))] [(.ref r)])) _
    jvm_step X28.here [X28.here.top, hx, (hb hby d9_72), X28.method', Bd.returns, Value.isRef, FieldType.isReference]
    first | (intro acts; rw [hr _ acts rfl rfl rfl]) | rw [hr _ _ rfl rfl rfl]
    exact Steps.refl _
  · show Q_rmN_3 Z  h0 n0 _ T28.heap _
    exact ⟨r, rfl, N28, KK28, A2_29, Tx⟩
theorem pn_16 : plainName "com/example/ringfence/ringfence/NumberPatternRankPinLaw" = true := by first | (simp [plainName, overriddenIn]; done) | decide +kernel
theorem ef_16_I (m : MethodId) (x0 : Int32) : entryFrame m #[(.int x0)] 1 = mkF m 0 #[.val (.int x0)] [] := by first | (simp [entryFrame, mkF, argsToLocals, Value.category]; done) | rfl
theorem d16_0 : decode method_6_code 0 = .ok (.iload_n 0, 1) := by decide +kernel
theorem d16_1 : decode method_6_code 1 = .ok (.iconst 1, 1) := by decide +kernel
theorem d16_2 : decode method_6_code 2 = .ok (.if_icmp .ne 19, 3) := by decide +kernel
theorem d16_5 : decode method_6_code 5 = .ok (.new 32, 3) := by decide +kernel
theorem d16_8 : decode method_6_code 8 = .ok (.dup, 1) := by decide +kernel
theorem d16_9 : decode method_6_code 9 = .ok (.iconst 1, 1) := by decide +kernel
theorem d16_10 : decode method_6_code 10 = .ok (.newarray .char, 2) := by decide +kernel
theorem d16_12 : decode method_6_code 12 = .ok (.dup, 1) := by decide +kernel
theorem d16_13 : decode method_6_code 13 = .ok (.iconst 0, 1) := by decide +kernel
theorem d16_14 : decode method_6_code 14 = .ok (.bipush 48, 2) := by decide +kernel
theorem d16_16 : decode method_6_code 16 = .ok (.castore, 1) := by decide +kernel
theorem d16_17 : decode method_6_code 17 = .ok (.invokespecial 34, 3) := by decide +kernel
theorem d16_20 : decode method_6_code 20 = .ok (.areturn, 1) := by decide +kernel
def Q_rmZ_1 (Z : State)  (h0 : Heap) (n0 : Nat) (v : Option Value) (h : Heap) (L : List Loc) : Prop := SQ_ Z (1 : Int32) h0 n0 v h L
set_option maxRecDepth 65536 in
set_option maxHeartbeats 40000000 in
theorem rmZ_1 (l : Launch) (Z : State) (a0 : Array Value) (hw : ∀ d ∈ tables_1, d.before a0 Z = true) (ws : List Jvm.Cond)  (h0 : Heap) (n0 : Nat) (Z0 : n0 ≤ h0.size) (hs : own_st Z) (Ol : Old Z n0 h0) :
    MetFree l (⟨"com/example/ringfence/ringfence/NumberPatternRankPinLaw", "zeros", "(I)Ljava/lang/String;"⟩ : MethodName) (head1 (Jvm.Cond.code (⟨"com/example/ringfence/ringfence/NumberPatternRankPinLaw", "zeros", "(I)Ljava/lang/String;"⟩ : MethodName) method_6_code 1 (some (.object "java/lang/String")) :: ws) ({ frames := 4, cells := 3, slots := 10, locals := 96 } : Room)) (fun argv U => argv = #[(.int (1 : Int32))] ∧ Z.Warmed39 U.vm ∧ U.heap = h0) (fun _ _ _ _ _ => True) (fun _ U o U' => ∃ v L, o = .returned v ∧ Q_rmZ_1 Z  h0 n0 v U'.heap L ∧ FrameEnd U o U' L ({ frames := 4, cells := 3, slots := 10, locals := 96 } : Room).cells ({ frames := 4, cells := 3, slots := 10, locals := 96 } : Room).slots) := by
  refine MetFree.of_bodySF (plainFor_of_name pn_16) hisR ?_
  intro p e s m args below meth c s₁ Bd hml0 hP hK
  obtain ⟨rfl, hZ, hh⟩ := hP
  have hx := Bd.exec
  have hby := Bd.bytes
  have hml : c.maxLocals = 1 := hml0
  have hown : s.vm.findClass "com/example/ringfence/ringfence/NumberPatternRankPinLaw" = some m.cls := findClass_of_methodNamed Bd.named
  have hnm := (name_of_methodNamed Bd.named Bd.method).1
  have X0 : Stand p l e ({ frames := 4, cells := 3, slots := 10, locals := 96 } : Room) s m #[(.int (1 : Int32))] below meth c s₁ [] 0 0 := Stand.of_body Bd
  have e0 : s₁.heap = h0 := by rw [← hh, Bd.state]; rfl
  have N0 := Fr.nil n0
  obtain ⟨G, hG⟩ : ∃ G : State → Prop, G = fun tg => Steps p.tables e below (s₁.setTop (entryFrame m #[(.int (1 : Int32))] 1)) tg := ⟨_, rfl⟩
  have pre0 : ∀ tg, Steps p.tables e below (s₁.setTop (mkF m 0 #[.val (.int (1 : Int32))] [])) tg → G tg := fun tg kt => by rw [hG]; exact castTop (ef_16_I m (1 : Int32)) kt
  have pre1 : ∀ tg, Steps p.tables e below (s₁.setTop (mkF m 5 #[.val (.int (1 : Int32))] [])) tg → G tg := fun tg kt => pre0 tg (by
    show Steps p.tables e below (s₁.setTop (mkF m 0 #[.val (.int (1 : Int32))] [])) _
    refine XS.iloadN X0.here hx rfl (hb hby d16_0) rfl ?_
    show Steps p.tables e below (s₁.setTop (mkF m 1 #[.val (.int (1 : Int32))] [(.int (1 : Int32))])) _
    refine XS.iconst X0.here hx rfl (hb hby d16_1) ?_
    show Steps p.tables e below (s₁.setTop (mkF m 2 #[.val (.int (1 : Int32))] [(.int (1 : Int32)), (.int (1 : Int32))])) _
    refine XS.icmpNo X0.here hx rfl (hb hby d16_2) rfl (teq (by decide : (1 : Int32) = (1 : Int32))).2 ?_
    exact kt)
  obtain ⟨T2, h2, X2, e2, E2, A2, D2, -, st2⟩ := newO X0 hx hZ hown (hw _ (List.mem_of_getElem? (i := 5) rfl)) (hw _ (List.mem_of_getElem? (i := 6) rfl)) (hw _ (List.mem_of_getElem? (i := 7) rfl)) e0 (g := (mkF m 5 #[.val (.int (1 : Int32))] [])) rfl (hb hby d16_5) (by decide) (by decide)
  obtain ⟨r, g2⟩ : ∃ z, z = h0.size := ⟨_, rfl⟩
  rw [← g2] at A2 D2 st2
  have O_r : n0 ≤ r := Nat.le_trans Z0 (Nat.le_of_eq g2.symm)
  have Z2 : n0 ≤ h2.size := Nat.le_trans Z0 E2.1
  have S_r : h0.size ≤ r := Nat.le_trans (Keep.refl h0 []).1 (Nat.le_of_eq g2.symm)
  have pre2s : ∀ tg, Steps p.tables e below (T2.setTop (mkF m 8 #[.val (.int (1 : Int32))] [(.ref r)])) tg → G tg := fun tg kt => pre1 tg (st2 tg kt)
  have Ol3 := Ol.ext E2
  have Fvalue_r : Fld Z h2 r "java/lang/String" "value" "[B" .null := D2 (Or.inr (hw _ (List.mem_of_getElem? (i := 21) rfl))) (ty := (.array .byte)) (by decide)
  have Fcoder_r : Fld Z h2 r "java/lang/String" "coder" "B" (.int (0 : Int32)) := D2 (Or.inr (hw _ (List.mem_of_getElem? (i := 22) rfl))) (ty := .byte) (by decide)
  have K2 : Keep h0 h2 [] := (Keep.refl h0 []).ext E2
  have pre4 : ∀ tg, Steps p.tables e below (T2.setTop (mkF m 10 #[.val (.int (1 : Int32))] [(.int (1 : Int32)), (.ref r), (.ref r)])) tg → G tg := fun tg kt => pre2s tg (by
    show Steps p.tables e below (T2.setTop (mkF m 8 #[.val (.int (1 : Int32))] [(.ref r)])) _
    refine XS.dup X2.here hx rfl (hb hby d16_8) rfl rfl ?_
    show Steps p.tables e below (T2.setTop (mkF m 9 #[.val (.int (1 : Int32))] [(.ref r), (.ref r)])) _
    refine XS.iconst X2.here hx rfl (hb hby d16_9) ?_
    exact kt)
  obtain ⟨T5, h5, k5, X5, e5, E5, A5, st5⟩ := newP X2 hx hZ (hw _ (List.mem_of_getElem? (i := 8) rfl)) e2 (g := (mkF m 10 #[.val (.int (1 : Int32))] [(.int (1 : Int32)), (.ref r), (.ref r)])) rfl (hb hby d16_10) rfl (by decide) (cap := 1) (by decide) (by decide) (by decide) (by decide)
  obtain ⟨ca, g5⟩ : ∃ z, z = h2.size := ⟨_, rfl⟩
  rw [← g5] at A5 st5
  have O_ca : n0 ≤ ca := Nat.le_trans Z2 (Nat.le_of_eq g5.symm)
  have Z5 : n0 ≤ h5.size := Nat.le_trans Z2 E5.1
  have ne_r_ca : r ≠ ca := Nat.ne_of_lt (Nat.lt_of_lt_of_le A2.lt (Nat.le_of_eq g5.symm))
  have S_ca : h0.size ≤ ca := Nat.le_trans K2.1 (Nat.le_of_eq g5.symm)
  have pre5s : ∀ tg, Steps p.tables e below (T5.setTop (mkF m 12 #[.val (.int (1 : Int32))] [(.ref ca), (.ref r), (.ref r)])) tg → G tg := fun tg kt => pre4 tg (st5 tg kt)
  have A2_6 := A2.ext E5
  have Fvalue_r_7 := Fvalue_r.ext E5
  have Fcoder_r_8 := Fcoder_r.ext E5
  have Ol9 := Ol3.ext E5
  have V_ca : Arv Z h5 ca k5 .char (1 : Int32) [(.int (0 : Int32))] (.int (0 : Int32)) := (Arv.new A5 (by decide)).pad (pad_rep [] (.int (0 : Int32)) 1)
  have K5 : Keep h0 h5 [] := K2.ext E5
  have pre10 : ∀ tg, Steps p.tables e below (T5.setTop (mkF m 16 #[.val (.int (1 : Int32))] [(.int (48 : Int32)), (.int (0 : Int32)), (.ref ca), (.ref ca), (.ref r), (.ref r)])) tg → G tg := fun tg kt => pre5s tg (by
    show Steps p.tables e below (T5.setTop (mkF m 12 #[.val (.int (1 : Int32))] [(.ref ca), (.ref r), (.ref r)])) _
    refine XS.dup X5.here hx rfl (hb hby d16_12) rfl rfl ?_
    show Steps p.tables e below (T5.setTop (mkF m 13 #[.val (.int (1 : Int32))] [(.ref ca), (.ref ca), (.ref r), (.ref r)])) _
    refine XS.iconst X5.here hx rfl (hb hby d16_13) ?_
    show Steps p.tables e below (T5.setTop (mkF m 14 #[.val (.int (1 : Int32))] [(.int (0 : Int32)), (.ref ca), (.ref ca), (.ref r), (.ref r)])) _
    refine XS.bipush X5.here hx rfl (hb hby d16_14) ?_
    exact kt)
  have op_11 := V_ca
  obtain ⟨cl_11, Ar_11, q_11, S_11, Ng_11, H_11, G_11⟩ := op_11
  have hin_11 : ¬ ((0 : Int32) < 0 ∨ cl_11.slots.size ≤ ((0 : Int32)).toNatClampNeg) := inb_of S_11 ⟨by decide, by decide⟩
  obtain ⟨T11, h11, X11, e11, W11, st11⟩ := stC X5 hx hZ e5 Ar_11 (j := (0 : Int32)) hin_11 (g := (mkF m 16 #[.val (.int (1 : Int32))] [(.int (48 : Int32)), (.int (0 : Int32)), (.ref ca), (.ref ca), (.ref r), (.ref r)])) rfl rfl (hb hby d16_16)
  have pre11s : ∀ tg, Steps p.tables e below (T11.setTop (mkF m 17 #[.val (.int (1 : Int32))] [(.ref ca), (.ref r), (.ref r)])) tg → G tg := fun tg kt => pre10 tg (st11 tg kt)
  have A2_12 := A2_6.wr W11
  have Fvalue_r_13 := Fvalue_r_7.other W11 (Or.inl ne_r_ca)
  have Fcoder_r_14 := Fcoder_r_8.other W11 (Or.inl ne_r_ca)
  have Ol15 := Ol9.wr W11 O_ca
  have V11_ca : Arv Z h11 ca k5 .char (1 : Int32) [(.int ((48 : Int32).toUInt32.toUInt16.toUInt32.toInt32))] (.int (0 : Int32)) := Arv.set Ar_11 q_11 S_11 Ng_11 H_11 G_11 (fits_nar_char _) W11 0 rfl (Nat.le_of_ble_eq_true rfl)
  have N11 := Fr.snoc X11 N0 O_ca
  have Z11 : n0 ≤ h11.size := Nat.le_trans Z5 (Keep.of_wr W11).1
  have K11 : Keep h0 h11 [] := K5.wr W11 (Or.inr S_ca)
  have V11_cab : Arv Z h11 ca k5 .char (1 : Int32) [(.int (48 : Int32))] (.int (0 : Int32)) := V11_ca
  obtain ⟨_, _, ⟨T16, L16, k16, n16⟩, -, X16, ⟨Lc16, hQ16, l16, y16, z16⟩, st16⟩ := X11.specialBack hx (y := (⟨"java/lang/String", "<init>", "([C)V"⟩ : MethodName)) rfl hown (mvT hZ (hw _ (List.mem_of_getElem? (i := 9) rfl))) (mvT hZ (hw _ (List.mem_of_getElem? (i := 10) rfl))) (mvT hZ (hw _ (List.mem_of_getElem? (i := 11) rfl))) (by decide) (backOf (W := 1) (rmJ_1 l Z a0 hw [] r ca k5 (48 : Int32) h11 n0 Z11 hs Ol15 A2_12 Fcoder_r_14 Fvalue_r_13 O_r (Ne.symm ne_r_ca) V11_cab own_y48) hZ (hw _ (List.mem_of_getElem? (i := 11) rfl)) (hw _ (List.mem_of_getElem? (i := 7) rfl)) (by decide) (by decide)) (g := (mkF m 17 #[.val (.int (1 : Int32))] [(.ref ca), (.ref r), (.ref r)])) rfl (by rw [hml]; rfl) (Steps.refl _) (a := r) (argsL := [(.ref ca)]) (rest := [(.ref r)]) (lenOf pd_4 rfl) rfl (by show 2 * 0 + _ ≤ _; exact Nat.le_of_eq rfl) (hb hby d16_17) (fun _ _ => ⟨rfl, e11, (Nat.le_of_ble_eq_true rfl), (Nat.le_of_ble_eq_true rfl)⟩)
  dsimp only [Pt.U, Pt.locs, Pt.cells, Pt.slots] at X16 l16 y16 z16 st16 hQ16
  subst l16 y16 z16
  obtain ⟨rfl, N16q, K16, Tx⟩ := hQ16
  have N16 := Fr.app N11 N16q
  have pre16s : ∀ tg, Steps p.tables e below (T16.setTop (mkF m 20 #[.val (.int (1 : Int32))] [(.ref r)])) tg → G tg := fun tg kt => pre11s tg (st16.trans kt)
  have Z16 : n0 ≤ T16.heap.size := Nat.le_trans Z11 K16.1
  have A2_17 := A2_12.keep K16
  have V11_cab_18 := V11_cab.keep K16 (ninS (Ne.symm ne_r_ca) nin0)
  have Ol19 := Ol15.keep K16 (allS O_r all0)
  have KK16 : Keep h0 T16.heap [] := K11.trans K16 (allS (Or.inr S_r) all0)
  obtain ⟨fs, hr, hrun, hended, hW, hsame⟩ := X16.leave (v := some (.ref r)) (fun h => by rw [Bd.returns] at h; cases h)
  subst hG
  refine ⟨_, _, pre16s _ ?_, hrun, hended, _, _, rfl, ?_, ⟨_, rfl⟩, hW, hsame.mono (by decide) (by decide)⟩
  · skip
    show Steps p.tables e below (T16.setTop (mkF m 20 #[.val (.int (1 : Int32))] [(.ref r)])) _
    jvm_step X16.here [X16.here.top, hx, (hb hby d16_20), X16.method', Bd.returns, Value.isRef, FieldType.isReference]
    first | (intro acts; rw [hr _ acts rfl rfl rfl]) | rw [hr _ _ rfl rfl rfl]
    exact Steps.refl _
  · show Q_rmZ_1 Z  h0 n0 _ T16.heap _
    exact ⟨r, rfl, N16, KK16, A2_17, Tx⟩
theorem d16_21 : decode method_6_code 21 = .ok (.iload_n 0, 1) := by decide +kernel
theorem d16_22 : decode method_6_code 22 = .ok (.iconst 2, 1) := by decide +kernel
theorem d16_23 : decode method_6_code 23 = .ok (.if_icmp .ne 24, 3) := by decide +kernel
theorem d16_26 : decode method_6_code 26 = .ok (.new 32, 3) := by decide +kernel
theorem d16_29 : decode method_6_code 29 = .ok (.dup, 1) := by decide +kernel
theorem d16_30 : decode method_6_code 30 = .ok (.iconst 2, 1) := by decide +kernel
theorem d16_31 : decode method_6_code 31 = .ok (.newarray .char, 2) := by decide +kernel
theorem d16_33 : decode method_6_code 33 = .ok (.dup, 1) := by decide +kernel
theorem d16_34 : decode method_6_code 34 = .ok (.iconst 0, 1) := by decide +kernel
theorem d16_35 : decode method_6_code 35 = .ok (.bipush 48, 2) := by decide +kernel
theorem d16_37 : decode method_6_code 37 = .ok (.castore, 1) := by decide +kernel
theorem d16_38 : decode method_6_code 38 = .ok (.dup, 1) := by decide +kernel
theorem d16_39 : decode method_6_code 39 = .ok (.iconst 1, 1) := by decide +kernel
theorem d16_40 : decode method_6_code 40 = .ok (.bipush 48, 2) := by decide +kernel
theorem d16_42 : decode method_6_code 42 = .ok (.castore, 1) := by decide +kernel
theorem d16_43 : decode method_6_code 43 = .ok (.invokespecial 34, 3) := by decide +kernel
theorem d16_46 : decode method_6_code 46 = .ok (.areturn, 1) := by decide +kernel
def Q_rmZ_2 (Z : State)  (h0 : Heap) (n0 : Nat) (v : Option Value) (h : Heap) (L : List Loc) : Prop := SQ_ Z (2 : Int32) h0 n0 v h L
set_option maxRecDepth 65536 in
set_option maxHeartbeats 40000000 in
theorem rmZ_2 (l : Launch) (Z : State) (a0 : Array Value) (hw : ∀ d ∈ tables_1, d.before a0 Z = true) (ws : List Jvm.Cond)  (h0 : Heap) (n0 : Nat) (Z0 : n0 ≤ h0.size) (hs : own_st Z) (Ol : Old Z n0 h0) :
    MetFree l (⟨"com/example/ringfence/ringfence/NumberPatternRankPinLaw", "zeros", "(I)Ljava/lang/String;"⟩ : MethodName) (head1 (Jvm.Cond.code (⟨"com/example/ringfence/ringfence/NumberPatternRankPinLaw", "zeros", "(I)Ljava/lang/String;"⟩ : MethodName) method_6_code 1 (some (.object "java/lang/String")) :: ws) ({ frames := 4, cells := 3, slots := 10, locals := 96 } : Room)) (fun argv U => argv = #[(.int (2 : Int32))] ∧ Z.Warmed39 U.vm ∧ U.heap = h0) (fun _ _ _ _ _ => True) (fun _ U o U' => ∃ v L, o = .returned v ∧ Q_rmZ_2 Z  h0 n0 v U'.heap L ∧ FrameEnd U o U' L ({ frames := 4, cells := 3, slots := 10, locals := 96 } : Room).cells ({ frames := 4, cells := 3, slots := 10, locals := 96 } : Room).slots) := by
  refine MetFree.of_bodySF (plainFor_of_name pn_16) hisR ?_
  intro p e s m args below meth c s₁ Bd hml0 hP hK
  obtain ⟨rfl, hZ, hh⟩ := hP
  have hx := Bd.exec
  have hby := Bd.bytes
  have hml : c.maxLocals = 1 := hml0
  have hown : s.vm.findClass "com/example/ringfence/ringfence/NumberPatternRankPinLaw" = some m.cls := findClass_of_methodNamed Bd.named
  have hnm := (name_of_methodNamed Bd.named Bd.method).1
  have X0 : Stand p l e ({ frames := 4, cells := 3, slots := 10, locals := 96 } : Room) s m #[(.int (2 : Int32))] below meth c s₁ [] 0 0 := Stand.of_body Bd
  have e0 : s₁.heap = h0 := by rw [← hh, Bd.state]; rfl
  have N0 := Fr.nil n0
  obtain ⟨G, hG⟩ : ∃ G : State → Prop, G = fun tg => Steps p.tables e below (s₁.setTop (entryFrame m #[(.int (2 : Int32))] 1)) tg := ⟨_, rfl⟩
  have pre0 : ∀ tg, Steps p.tables e below (s₁.setTop (mkF m 0 #[.val (.int (2 : Int32))] [])) tg → G tg := fun tg kt => by rw [hG]; exact castTop (ef_16_I m (2 : Int32)) kt
  have pre1 : ∀ tg, Steps p.tables e below (s₁.setTop (mkF m 26 #[.val (.int (2 : Int32))] [])) tg → G tg := fun tg kt => pre0 tg (by
    show Steps p.tables e below (s₁.setTop (mkF m 0 #[.val (.int (2 : Int32))] [])) _
    refine XS.iloadN X0.here hx rfl (hb hby d16_0) rfl ?_
    show Steps p.tables e below (s₁.setTop (mkF m 1 #[.val (.int (2 : Int32))] [(.int (2 : Int32))])) _
    refine XS.iconst X0.here hx rfl (hb hby d16_1) ?_
    show Steps p.tables e below (s₁.setTop (mkF m 2 #[.val (.int (2 : Int32))] [(.int (1 : Int32)), (.int (2 : Int32))])) _
    refine XS.icmpYes X0.here hx rfl (pc0 := 2) (pc' := 21) rfl (hb hby d16_2) rfl (feq (by decide : ¬ ((2 : Int32) = (1 : Int32)))).2 (by decide) (by decide) ?_
    show Steps p.tables e below (s₁.setTop (mkF m 21 #[.val (.int (2 : Int32))] [])) _
    refine XS.iloadN X0.here hx rfl (hb hby d16_21) rfl ?_
    show Steps p.tables e below (s₁.setTop (mkF m 22 #[.val (.int (2 : Int32))] [(.int (2 : Int32))])) _
    refine XS.iconst X0.here hx rfl (hb hby d16_22) ?_
    show Steps p.tables e below (s₁.setTop (mkF m 23 #[.val (.int (2 : Int32))] [(.int (2 : Int32)), (.int (2 : Int32))])) _
    refine XS.icmpNo X0.here hx rfl (hb hby d16_23) rfl (teq (by decide : (2 : Int32) = (2 : Int32))).2 ?_
    exact kt)
  obtain ⟨T2, h2, X2, e2, E2, A2, D2, -, st2⟩ := newO X0 hx hZ hown (hw _ (List.mem_of_getElem? (i := 5) rfl)) (hw _ (List.mem_of_getElem? (i := 6) rfl)) (hw _ (List.mem_of_getElem? (i := 7) rfl)) e0 (g := (mkF m 26 #[.val (.int (2 : Int32))] [])) rfl (hb hby d16_26) (by decide) (by decide)
  obtain ⟨r, g2⟩ : ∃ z, z = h0.size := ⟨_, rfl⟩
  rw [← g2] at A2 D2 st2
  have O_r : n0 ≤ r := Nat.le_trans Z0 (Nat.le_of_eq g2.symm)
  have Z2 : n0 ≤ h2.size := Nat.le_trans Z0 E2.1
  have S_r : h0.size ≤ r := Nat.le_trans (Keep.refl h0 []).1 (Nat.le_of_eq g2.symm)
  have pre2s : ∀ tg, Steps p.tables e below (T2.setTop (mkF m 29 #[.val (.int (2 : Int32))] [(.ref r)])) tg → G tg := fun tg kt => pre1 tg (st2 tg kt)
  have Ol3 := Ol.ext E2
  have Fvalue_r : Fld Z h2 r "java/lang/String" "value" "[B" .null := D2 (Or.inr (hw _ (List.mem_of_getElem? (i := 21) rfl))) (ty := (.array .byte)) (by decide)
  have Fcoder_r : Fld Z h2 r "java/lang/String" "coder" "B" (.int (0 : Int32)) := D2 (Or.inr (hw _ (List.mem_of_getElem? (i := 22) rfl))) (ty := .byte) (by decide)
  have K2 : Keep h0 h2 [] := (Keep.refl h0 []).ext E2
  have pre4 : ∀ tg, Steps p.tables e below (T2.setTop (mkF m 31 #[.val (.int (2 : Int32))] [(.int (2 : Int32)), (.ref r), (.ref r)])) tg → G tg := fun tg kt => pre2s tg (by
    show Steps p.tables e below (T2.setTop (mkF m 29 #[.val (.int (2 : Int32))] [(.ref r)])) _
    refine XS.dup X2.here hx rfl (hb hby d16_29) rfl rfl ?_
    show Steps p.tables e below (T2.setTop (mkF m 30 #[.val (.int (2 : Int32))] [(.ref r), (.ref r)])) _
    refine XS.iconst X2.here hx rfl (hb hby d16_30) ?_
    exact kt)
  obtain ⟨T5, h5, k5, X5, e5, E5, A5, st5⟩ := newP X2 hx hZ (hw _ (List.mem_of_getElem? (i := 8) rfl)) e2 (g := (mkF m 31 #[.val (.int (2 : Int32))] [(.int (2 : Int32)), (.ref r), (.ref r)])) rfl (hb hby d16_31) rfl (by decide) (cap := 2) (by decide) (by decide) (by decide) (by decide)
  obtain ⟨ca, g5⟩ : ∃ z, z = h2.size := ⟨_, rfl⟩
  rw [← g5] at A5 st5
  have O_ca : n0 ≤ ca := Nat.le_trans Z2 (Nat.le_of_eq g5.symm)
  have Z5 : n0 ≤ h5.size := Nat.le_trans Z2 E5.1
  have ne_r_ca : r ≠ ca := Nat.ne_of_lt (Nat.lt_of_lt_of_le A2.lt (Nat.le_of_eq g5.symm))
  have S_ca : h0.size ≤ ca := Nat.le_trans K2.1 (Nat.le_of_eq g5.symm)
  have pre5s : ∀ tg, Steps p.tables e below (T5.setTop (mkF m 33 #[.val (.int (2 : Int32))] [(.ref ca), (.ref r), (.ref r)])) tg → G tg := fun tg kt => pre4 tg (st5 tg kt)
  have A2_6 := A2.ext E5
  have Fvalue_r_7 := Fvalue_r.ext E5
  have Fcoder_r_8 := Fcoder_r.ext E5
  have Ol9 := Ol3.ext E5
  have V_ca : Arv Z h5 ca k5 .char (2 : Int32) [(.int (0 : Int32)), (.int (0 : Int32))] (.int (0 : Int32)) := (Arv.new A5 (by decide)).pad (pad_rep [] (.int (0 : Int32)) 2)
  have K5 : Keep h0 h5 [] := K2.ext E5
  have pre10 : ∀ tg, Steps p.tables e below (T5.setTop (mkF m 37 #[.val (.int (2 : Int32))] [(.int (48 : Int32)), (.int (0 : Int32)), (.ref ca), (.ref ca), (.ref r), (.ref r)])) tg → G tg := fun tg kt => pre5s tg (by
    show Steps p.tables e below (T5.setTop (mkF m 33 #[.val (.int (2 : Int32))] [(.ref ca), (.ref r), (.ref r)])) _
    refine XS.dup X5.here hx rfl (hb hby d16_33) rfl rfl ?_
    show Steps p.tables e below (T5.setTop (mkF m 34 #[.val (.int (2 : Int32))] [(.ref ca), (.ref ca), (.ref r), (.ref r)])) _
    refine XS.iconst X5.here hx rfl (hb hby d16_34) ?_
    show Steps p.tables e below (T5.setTop (mkF m 35 #[.val (.int (2 : Int32))] [(.int (0 : Int32)), (.ref ca), (.ref ca), (.ref r), (.ref r)])) _
    refine XS.bipush X5.here hx rfl (hb hby d16_35) ?_
    exact kt)
  have op_11 := V_ca
  obtain ⟨cl_11, Ar_11, q_11, S_11, Ng_11, H_11, G_11⟩ := op_11
  have hin_11 : ¬ ((0 : Int32) < 0 ∨ cl_11.slots.size ≤ ((0 : Int32)).toNatClampNeg) := inb_of S_11 ⟨by decide, by decide⟩
  obtain ⟨T11, h11, X11, e11, W11, st11⟩ := stC X5 hx hZ e5 Ar_11 (j := (0 : Int32)) hin_11 (g := (mkF m 37 #[.val (.int (2 : Int32))] [(.int (48 : Int32)), (.int (0 : Int32)), (.ref ca), (.ref ca), (.ref r), (.ref r)])) rfl rfl (hb hby d16_37)
  have pre11s : ∀ tg, Steps p.tables e below (T11.setTop (mkF m 38 #[.val (.int (2 : Int32))] [(.ref ca), (.ref r), (.ref r)])) tg → G tg := fun tg kt => pre10 tg (st11 tg kt)
  have A2_12 := A2_6.wr W11
  have Fvalue_r_13 := Fvalue_r_7.other W11 (Or.inl ne_r_ca)
  have Fcoder_r_14 := Fcoder_r_8.other W11 (Or.inl ne_r_ca)
  have Ol15 := Ol9.wr W11 O_ca
  have V11_ca : Arv Z h11 ca k5 .char (2 : Int32) [(.int ((48 : Int32).toUInt32.toUInt16.toUInt32.toInt32)), (.int (0 : Int32))] (.int (0 : Int32)) := Arv.set Ar_11 q_11 S_11 Ng_11 H_11 G_11 (fits_nar_char _) W11 0 rfl (Nat.le_of_ble_eq_true rfl)
  have N11 := Fr.snoc X11 N0 O_ca
  have Z11 : n0 ≤ h11.size := Nat.le_trans Z5 (Keep.of_wr W11).1
  have K11 : Keep h0 h11 [] := K5.wr W11 (Or.inr S_ca)
  have V11_cab : Arv Z h11 ca k5 .char (2 : Int32) [(.int (48 : Int32)), (.int (0 : Int32))] (.int (0 : Int32)) := V11_ca
  have pre16 : ∀ tg, Steps p.tables e below (T11.setTop (mkF m 42 #[.val (.int (2 : Int32))] [(.int (48 : Int32)), (.int (1 : Int32)), (.ref ca), (.ref ca), (.ref r), (.ref r)])) tg → G tg := fun tg kt => pre11s tg (by
    show Steps p.tables e below (T11.setTop (mkF m 38 #[.val (.int (2 : Int32))] [(.ref ca), (.ref r), (.ref r)])) _
    refine XS.dup X11.here hx rfl (hb hby d16_38) rfl rfl ?_
    show Steps p.tables e below (T11.setTop (mkF m 39 #[.val (.int (2 : Int32))] [(.ref ca), (.ref ca), (.ref r), (.ref r)])) _
    refine XS.iconst X11.here hx rfl (hb hby d16_39) ?_
    show Steps p.tables e below (T11.setTop (mkF m 40 #[.val (.int (2 : Int32))] [(.int (1 : Int32)), (.ref ca), (.ref ca), (.ref r), (.ref r)])) _
    refine XS.bipush X11.here hx rfl (hb hby d16_40) ?_
    exact kt)
  have op_17 := V11_cab
  obtain ⟨cl_17, Ar_17, q_17, S_17, Ng_17, H_17, G_17⟩ := op_17
  have hin_17 : ¬ ((1 : Int32) < 0 ∨ cl_17.slots.size ≤ ((1 : Int32)).toNatClampNeg) := inb_of S_17 ⟨by decide, by decide⟩
  obtain ⟨T17, h17, X17, e17, W17, st17⟩ := stC X11 hx hZ e11 Ar_17 (j := (1 : Int32)) hin_17 (g := (mkF m 42 #[.val (.int (2 : Int32))] [(.int (48 : Int32)), (.int (1 : Int32)), (.ref ca), (.ref ca), (.ref r), (.ref r)])) rfl rfl (hb hby d16_42)
  have pre17s : ∀ tg, Steps p.tables e below (T17.setTop (mkF m 43 #[.val (.int (2 : Int32))] [(.ref ca), (.ref r), (.ref r)])) tg → G tg := fun tg kt => pre16 tg (st17 tg kt)
  have A2_18 := A2_12.wr W17
  have Fvalue_r_19 := Fvalue_r_13.other W17 (Or.inl ne_r_ca)
  have Fcoder_r_20 := Fcoder_r_14.other W17 (Or.inl ne_r_ca)
  have Ol21 := Ol15.wr W17 O_ca
  have V17_ca : Arv Z h17 ca k5 .char (2 : Int32) [(.int (48 : Int32)), (.int ((48 : Int32).toUInt32.toUInt16.toUInt32.toInt32))] (.int (0 : Int32)) := Arv.set Ar_17 q_17 S_17 Ng_17 H_17 G_17 (fits_nar_char _) W17 1 rfl (Nat.le_of_ble_eq_true rfl)
  have N17 := Fr.snoc X17 N11 O_ca
  have Z17 : n0 ≤ h17.size := Nat.le_trans Z11 (Keep.of_wr W17).1
  have K17 : Keep h0 h17 [] := K11.wr W17 (Or.inr S_ca)
  have V17_cab : Arv Z h17 ca k5 .char (2 : Int32) [(.int (48 : Int32)), (.int (48 : Int32))] (.int (0 : Int32)) := V17_ca
  obtain ⟨_, _, ⟨T22, L22, k22, n22⟩, -, X22, ⟨Lc22, hQ22, l22, y22, z22⟩, st22⟩ := X17.specialBack hx (y := (⟨"java/lang/String", "<init>", "([C)V"⟩ : MethodName)) rfl hown (mvT hZ (hw _ (List.mem_of_getElem? (i := 9) rfl))) (mvT hZ (hw _ (List.mem_of_getElem? (i := 10) rfl))) (mvT hZ (hw _ (List.mem_of_getElem? (i := 11) rfl))) (by decide) (backOf (W := 1) (rmJ_2 l Z a0 hw [] r ca k5 (48 : Int32) (48 : Int32) h17 n0 Z17 hs Ol21 A2_18 Fcoder_r_20 Fvalue_r_19 O_r (Ne.symm ne_r_ca) V17_cab own_y48 own_y48) hZ (hw _ (List.mem_of_getElem? (i := 11) rfl)) (hw _ (List.mem_of_getElem? (i := 7) rfl)) (by decide) (by decide)) (g := (mkF m 43 #[.val (.int (2 : Int32))] [(.ref ca), (.ref r), (.ref r)])) rfl (by rw [hml]; rfl) (Steps.refl _) (a := r) (argsL := [(.ref ca)]) (rest := [(.ref r)]) (lenOf pd_4 rfl) rfl (by show 2 * 0 + _ ≤ _; exact Nat.le_of_eq rfl) (hb hby d16_43) (fun _ _ => ⟨rfl, e17, (Nat.le_of_ble_eq_true rfl), (Nat.le_of_ble_eq_true rfl)⟩)
  dsimp only [Pt.U, Pt.locs, Pt.cells, Pt.slots] at X22 l22 y22 z22 st22 hQ22
  subst l22 y22 z22
  obtain ⟨rfl, N22q, K22, Tx⟩ := hQ22
  have N22 := Fr.app N17 N22q
  have pre22s : ∀ tg, Steps p.tables e below (T22.setTop (mkF m 46 #[.val (.int (2 : Int32))] [(.ref r)])) tg → G tg := fun tg kt => pre17s tg (st22.trans kt)
  have Z22 : n0 ≤ T22.heap.size := Nat.le_trans Z17 K22.1
  have A2_23 := A2_18.keep K22
  have V17_cab_24 := V17_cab.keep K22 (ninS (Ne.symm ne_r_ca) nin0)
  have Ol25 := Ol21.keep K22 (allS O_r all0)
  have KK22 : Keep h0 T22.heap [] := K17.trans K22 (allS (Or.inr S_r) all0)
  obtain ⟨fs, hr, hrun, hended, hW, hsame⟩ := X22.leave (v := some (.ref r)) (fun h => by rw [Bd.returns] at h; cases h)
  subst hG
  refine ⟨_, _, pre22s _ ?_, hrun, hended, _, _, rfl, ?_, ⟨_, rfl⟩, hW, hsame.mono (by decide) (by decide)⟩
  · skip
    show Steps p.tables e below (T22.setTop (mkF m 46 #[.val (.int (2 : Int32))] [(.ref r)])) _
    jvm_step X22.here [X22.here.top, hx, (hb hby d16_46), X22.method', Bd.returns, Value.isRef, FieldType.isReference]
    first | (intro acts; rw [hr _ acts rfl rfl rfl]) | rw [hr _ _ rfl rfl rfl]
    exact Steps.refl _
  · show Q_rmZ_2 Z  h0 n0 _ T22.heap _
    exact ⟨r, rfl, N22, KK22, A2_23, Tx⟩
theorem d16_47 : decode method_6_code 47 = .ok (.new 32, 3) := by decide +kernel
theorem d16_50 : decode method_6_code 50 = .ok (.dup, 1) := by decide +kernel
theorem d16_51 : decode method_6_code 51 = .ok (.iconst 3, 1) := by decide +kernel
theorem d16_52 : decode method_6_code 52 = .ok (.newarray .char, 2) := by decide +kernel
theorem d16_54 : decode method_6_code 54 = .ok (.dup, 1) := by decide +kernel
theorem d16_55 : decode method_6_code 55 = .ok (.iconst 0, 1) := by decide +kernel
theorem d16_56 : decode method_6_code 56 = .ok (.bipush 48, 2) := by decide +kernel
theorem d16_58 : decode method_6_code 58 = .ok (.castore, 1) := by decide +kernel
theorem d16_59 : decode method_6_code 59 = .ok (.dup, 1) := by decide +kernel
theorem d16_60 : decode method_6_code 60 = .ok (.iconst 1, 1) := by decide +kernel
theorem d16_61 : decode method_6_code 61 = .ok (.bipush 48, 2) := by decide +kernel
theorem d16_63 : decode method_6_code 63 = .ok (.castore, 1) := by decide +kernel
theorem d16_64 : decode method_6_code 64 = .ok (.dup, 1) := by decide +kernel
theorem d16_65 : decode method_6_code 65 = .ok (.iconst 2, 1) := by decide +kernel
theorem d16_66 : decode method_6_code 66 = .ok (.bipush 48, 2) := by decide +kernel
theorem d16_68 : decode method_6_code 68 = .ok (.castore, 1) := by decide +kernel
theorem d16_69 : decode method_6_code 69 = .ok (.invokespecial 34, 3) := by decide +kernel
theorem d16_72 : decode method_6_code 72 = .ok (.areturn, 1) := by decide +kernel
def Q_rmZ_3 (Z : State)  (h0 : Heap) (n0 : Nat) (v : Option Value) (h : Heap) (L : List Loc) : Prop := SQ_ Z (3 : Int32) h0 n0 v h L
set_option maxRecDepth 65536 in
set_option maxHeartbeats 40000000 in
theorem rmZ_3 (l : Launch) (Z : State) (a0 : Array Value) (hw : ∀ d ∈ tables_1, d.before a0 Z = true) (ws : List Jvm.Cond)  (h0 : Heap) (n0 : Nat) (Z0 : n0 ≤ h0.size) (hs : own_st Z) (Ol : Old Z n0 h0) :
    MetFree l (⟨"com/example/ringfence/ringfence/NumberPatternRankPinLaw", "zeros", "(I)Ljava/lang/String;"⟩ : MethodName) (head1 (Jvm.Cond.code (⟨"com/example/ringfence/ringfence/NumberPatternRankPinLaw", "zeros", "(I)Ljava/lang/String;"⟩ : MethodName) method_6_code 1 (some (.object "java/lang/String")) :: ws) ({ frames := 4, cells := 3, slots := 10, locals := 96 } : Room)) (fun argv U => argv = #[(.int (3 : Int32))] ∧ Z.Warmed39 U.vm ∧ U.heap = h0) (fun _ _ _ _ _ => True) (fun _ U o U' => ∃ v L, o = .returned v ∧ Q_rmZ_3 Z  h0 n0 v U'.heap L ∧ FrameEnd U o U' L ({ frames := 4, cells := 3, slots := 10, locals := 96 } : Room).cells ({ frames := 4, cells := 3, slots := 10, locals := 96 } : Room).slots) := by
  refine MetFree.of_bodySF (plainFor_of_name pn_16) hisR ?_
  intro p e s m args below meth c s₁ Bd hml0 hP hK
  obtain ⟨rfl, hZ, hh⟩ := hP
  have hx := Bd.exec
  have hby := Bd.bytes
  have hml : c.maxLocals = 1 := hml0
  have hown : s.vm.findClass "com/example/ringfence/ringfence/NumberPatternRankPinLaw" = some m.cls := findClass_of_methodNamed Bd.named
  have hnm := (name_of_methodNamed Bd.named Bd.method).1
  have X0 : Stand p l e ({ frames := 4, cells := 3, slots := 10, locals := 96 } : Room) s m #[(.int (3 : Int32))] below meth c s₁ [] 0 0 := Stand.of_body Bd
  have e0 : s₁.heap = h0 := by rw [← hh, Bd.state]; rfl
  have N0 := Fr.nil n0
  obtain ⟨G, hG⟩ : ∃ G : State → Prop, G = fun tg => Steps p.tables e below (s₁.setTop (entryFrame m #[(.int (3 : Int32))] 1)) tg := ⟨_, rfl⟩
  have pre0 : ∀ tg, Steps p.tables e below (s₁.setTop (mkF m 0 #[.val (.int (3 : Int32))] [])) tg → G tg := fun tg kt => by rw [hG]; exact castTop (ef_16_I m (3 : Int32)) kt
  have pre1 : ∀ tg, Steps p.tables e below (s₁.setTop (mkF m 47 #[.val (.int (3 : Int32))] [])) tg → G tg := fun tg kt => pre0 tg (by
    show Steps p.tables e below (s₁.setTop (mkF m 0 #[.val (.int (3 : Int32))] [])) _
    refine XS.iloadN X0.here hx rfl (hb hby d16_0) rfl ?_
    show Steps p.tables e below (s₁.setTop (mkF m 1 #[.val (.int (3 : Int32))] [(.int (3 : Int32))])) _
    refine XS.iconst X0.here hx rfl (hb hby d16_1) ?_
    show Steps p.tables e below (s₁.setTop (mkF m 2 #[.val (.int (3 : Int32))] [(.int (1 : Int32)), (.int (3 : Int32))])) _
    refine XS.icmpYes X0.here hx rfl (pc0 := 2) (pc' := 21) rfl (hb hby d16_2) rfl (feq (by decide : ¬ ((3 : Int32) = (1 : Int32)))).2 (by decide) (by decide) ?_
    show Steps p.tables e below (s₁.setTop (mkF m 21 #[.val (.int (3 : Int32))] [])) _
    refine XS.iloadN X0.here hx rfl (hb hby d16_21) rfl ?_
    show Steps p.tables e below (s₁.setTop (mkF m 22 #[.val (.int (3 : Int32))] [(.int (3 : Int32))])) _
    refine XS.iconst X0.here hx rfl (hb hby d16_22) ?_
    show Steps p.tables e below (s₁.setTop (mkF m 23 #[.val (.int (3 : Int32))] [(.int (2 : Int32)), (.int (3 : Int32))])) _
    refine XS.icmpYes X0.here hx rfl (pc0 := 23) (pc' := 47) rfl (hb hby d16_23) rfl (feq (by decide : ¬ ((3 : Int32) = (2 : Int32)))).2 (by decide) (by decide) ?_
    exact kt)
  obtain ⟨T2, h2, X2, e2, E2, A2, D2, -, st2⟩ := newO X0 hx hZ hown (hw _ (List.mem_of_getElem? (i := 5) rfl)) (hw _ (List.mem_of_getElem? (i := 6) rfl)) (hw _ (List.mem_of_getElem? (i := 7) rfl)) e0 (g := (mkF m 47 #[.val (.int (3 : Int32))] [])) rfl (hb hby d16_47) (by decide) (by decide)
  obtain ⟨r, g2⟩ : ∃ z, z = h0.size := ⟨_, rfl⟩
  rw [← g2] at A2 D2 st2
  have O_r : n0 ≤ r := Nat.le_trans Z0 (Nat.le_of_eq g2.symm)
  have Z2 : n0 ≤ h2.size := Nat.le_trans Z0 E2.1
  have S_r : h0.size ≤ r := Nat.le_trans (Keep.refl h0 []).1 (Nat.le_of_eq g2.symm)
  have pre2s : ∀ tg, Steps p.tables e below (T2.setTop (mkF m 50 #[.val (.int (3 : Int32))] [(.ref r)])) tg → G tg := fun tg kt => pre1 tg (st2 tg kt)
  have Ol3 := Ol.ext E2
  have Fvalue_r : Fld Z h2 r "java/lang/String" "value" "[B" .null := D2 (Or.inr (hw _ (List.mem_of_getElem? (i := 21) rfl))) (ty := (.array .byte)) (by decide)
  have Fcoder_r : Fld Z h2 r "java/lang/String" "coder" "B" (.int (0 : Int32)) := D2 (Or.inr (hw _ (List.mem_of_getElem? (i := 22) rfl))) (ty := .byte) (by decide)
  have K2 : Keep h0 h2 [] := (Keep.refl h0 []).ext E2
  have pre4 : ∀ tg, Steps p.tables e below (T2.setTop (mkF m 52 #[.val (.int (3 : Int32))] [(.int (3 : Int32)), (.ref r), (.ref r)])) tg → G tg := fun tg kt => pre2s tg (by
    show Steps p.tables e below (T2.setTop (mkF m 50 #[.val (.int (3 : Int32))] [(.ref r)])) _
    refine XS.dup X2.here hx rfl (hb hby d16_50) rfl rfl ?_
    show Steps p.tables e below (T2.setTop (mkF m 51 #[.val (.int (3 : Int32))] [(.ref r), (.ref r)])) _
    refine XS.iconst X2.here hx rfl (hb hby d16_51) ?_
    exact kt)
  obtain ⟨T5, h5, k5, X5, e5, E5, A5, st5⟩ := newP X2 hx hZ (hw _ (List.mem_of_getElem? (i := 8) rfl)) e2 (g := (mkF m 52 #[.val (.int (3 : Int32))] [(.int (3 : Int32)), (.ref r), (.ref r)])) rfl (hb hby d16_52) rfl (by decide) (cap := 3) (by decide) (by decide) (by decide) (by decide)
  obtain ⟨ca, g5⟩ : ∃ z, z = h2.size := ⟨_, rfl⟩
  rw [← g5] at A5 st5
  have O_ca : n0 ≤ ca := Nat.le_trans Z2 (Nat.le_of_eq g5.symm)
  have Z5 : n0 ≤ h5.size := Nat.le_trans Z2 E5.1
  have ne_r_ca : r ≠ ca := Nat.ne_of_lt (Nat.lt_of_lt_of_le A2.lt (Nat.le_of_eq g5.symm))
  have S_ca : h0.size ≤ ca := Nat.le_trans K2.1 (Nat.le_of_eq g5.symm)
  have pre5s : ∀ tg, Steps p.tables e below (T5.setTop (mkF m 54 #[.val (.int (3 : Int32))] [(.ref ca), (.ref r), (.ref r)])) tg → G tg := fun tg kt => pre4 tg (st5 tg kt)
  have A2_6 := A2.ext E5
  have Fvalue_r_7 := Fvalue_r.ext E5
  have Fcoder_r_8 := Fcoder_r.ext E5
  have Ol9 := Ol3.ext E5
  have V_ca : Arv Z h5 ca k5 .char (3 : Int32) [(.int (0 : Int32)), (.int (0 : Int32)), (.int (0 : Int32))] (.int (0 : Int32)) := (Arv.new A5 (by decide)).pad (pad_rep [] (.int (0 : Int32)) 3)
  have K5 : Keep h0 h5 [] := K2.ext E5
  have pre10 : ∀ tg, Steps p.tables e below (T5.setTop (mkF m 58 #[.val (.int (3 : Int32))] [(.int (48 : Int32)), (.int (0 : Int32)), (.ref ca), (.ref ca), (.ref r), (.ref r)])) tg → G tg := fun tg kt => pre5s tg (by
    show Steps p.tables e below (T5.setTop (mkF m 54 #[.val (.int (3 : Int32))] [(.ref ca), (.ref r), (.ref r)])) _
    refine XS.dup X5.here hx rfl (hb hby d16_54) rfl rfl ?_
    show Steps p.tables e below (T5.setTop (mkF m 55 #[.val (.int (3 : Int32))] [(.ref ca), (.ref ca), (.ref r), (.ref r)])) _
    refine XS.iconst X5.here hx rfl (hb hby d16_55) ?_
    show Steps p.tables e below (T5.setTop (mkF m 56 #[.val (.int (3 : Int32))] [(.int (0 : Int32)), (.ref ca), (.ref ca), (.ref r), (.ref r)])) _
    refine XS.bipush X5.here hx rfl (hb hby d16_56) ?_
    exact kt)
  have op_11 := V_ca
  obtain ⟨cl_11, Ar_11, q_11, S_11, Ng_11, H_11, G_11⟩ := op_11
  have hin_11 : ¬ ((0 : Int32) < 0 ∨ cl_11.slots.size ≤ ((0 : Int32)).toNatClampNeg) := inb_of S_11 ⟨by decide, by decide⟩
  obtain ⟨T11, h11, X11, e11, W11, st11⟩ := stC X5 hx hZ e5 Ar_11 (j := (0 : Int32)) hin_11 (g := (mkF m 58 #[.val (.int (3 : Int32))] [(.int (48 : Int32)), (.int (0 : Int32)), (.ref ca), (.ref ca), (.ref r), (.ref r)])) rfl rfl (hb hby d16_58)
  have pre11s : ∀ tg, Steps p.tables e below (T11.setTop (mkF m 59 #[.val (.int (3 : Int32))] [(.ref ca), (.ref r), (.ref r)])) tg → G tg := fun tg kt => pre10 tg (st11 tg kt)
  have A2_12 := A2_6.wr W11
  have Fvalue_r_13 := Fvalue_r_7.other W11 (Or.inl ne_r_ca)
  have Fcoder_r_14 := Fcoder_r_8.other W11 (Or.inl ne_r_ca)
  have Ol15 := Ol9.wr W11 O_ca
  have V11_ca : Arv Z h11 ca k5 .char (3 : Int32) [(.int ((48 : Int32).toUInt32.toUInt16.toUInt32.toInt32)), (.int (0 : Int32)), (.int (0 : Int32))] (.int (0 : Int32)) := Arv.set Ar_11 q_11 S_11 Ng_11 H_11 G_11 (fits_nar_char _) W11 0 rfl (Nat.le_of_ble_eq_true rfl)
  have N11 := Fr.snoc X11 N0 O_ca
  have Z11 : n0 ≤ h11.size := Nat.le_trans Z5 (Keep.of_wr W11).1
  have K11 : Keep h0 h11 [] := K5.wr W11 (Or.inr S_ca)
  have V11_cab : Arv Z h11 ca k5 .char (3 : Int32) [(.int (48 : Int32)), (.int (0 : Int32)), (.int (0 : Int32))] (.int (0 : Int32)) := V11_ca
  have pre16 : ∀ tg, Steps p.tables e below (T11.setTop (mkF m 63 #[.val (.int (3 : Int32))] [(.int (48 : Int32)), (.int (1 : Int32)), (.ref ca), (.ref ca), (.ref r), (.ref r)])) tg → G tg := fun tg kt => pre11s tg (by
    show Steps p.tables e below (T11.setTop (mkF m 59 #[.val (.int (3 : Int32))] [(.ref ca), (.ref r), (.ref r)])) _
    refine XS.dup X11.here hx rfl (hb hby d16_59) rfl rfl ?_
    show Steps p.tables e below (T11.setTop (mkF m 60 #[.val (.int (3 : Int32))] [(.ref ca), (.ref ca), (.ref r), (.ref r)])) _
    refine XS.iconst X11.here hx rfl (hb hby d16_60) ?_
    show Steps p.tables e below (T11.setTop (mkF m 61 #[.val (.int (3 : Int32))] [(.int (1 : Int32)), (.ref ca), (.ref ca), (.ref r), (.ref r)])) _
    refine XS.bipush X11.here hx rfl (hb hby d16_61) ?_
    exact kt)
  have op_17 := V11_cab
  obtain ⟨cl_17, Ar_17, q_17, S_17, Ng_17, H_17, G_17⟩ := op_17
  have hin_17 : ¬ ((1 : Int32) < 0 ∨ cl_17.slots.size ≤ ((1 : Int32)).toNatClampNeg) := inb_of S_17 ⟨by decide, by decide⟩
  obtain ⟨T17, h17, X17, e17, W17, st17⟩ := stC X11 hx hZ e11 Ar_17 (j := (1 : Int32)) hin_17 (g := (mkF m 63 #[.val (.int (3 : Int32))] [(.int (48 : Int32)), (.int (1 : Int32)), (.ref ca), (.ref ca), (.ref r), (.ref r)])) rfl rfl (hb hby d16_63)
  have pre17s : ∀ tg, Steps p.tables e below (T17.setTop (mkF m 64 #[.val (.int (3 : Int32))] [(.ref ca), (.ref r), (.ref r)])) tg → G tg := fun tg kt => pre16 tg (st17 tg kt)
  have A2_18 := A2_12.wr W17
  have Fvalue_r_19 := Fvalue_r_13.other W17 (Or.inl ne_r_ca)
  have Fcoder_r_20 := Fcoder_r_14.other W17 (Or.inl ne_r_ca)
  have Ol21 := Ol15.wr W17 O_ca
  have V17_ca : Arv Z h17 ca k5 .char (3 : Int32) [(.int (48 : Int32)), (.int ((48 : Int32).toUInt32.toUInt16.toUInt32.toInt32)), (.int (0 : Int32))] (.int (0 : Int32)) := Arv.set Ar_17 q_17 S_17 Ng_17 H_17 G_17 (fits_nar_char _) W17 1 rfl (Nat.le_of_ble_eq_true rfl)
  have N17 := Fr.snoc X17 N11 O_ca
  have Z17 : n0 ≤ h17.size := Nat.le_trans Z11 (Keep.of_wr W17).1
  have K17 : Keep h0 h17 [] := K11.wr W17 (Or.inr S_ca)
  have V17_cab : Arv Z h17 ca k5 .char (3 : Int32) [(.int (48 : Int32)), (.int (48 : Int32)), (.int (0 : Int32))] (.int (0 : Int32)) := V17_ca
  have pre22 : ∀ tg, Steps p.tables e below (T17.setTop (mkF m 68 #[.val (.int (3 : Int32))] [(.int (48 : Int32)), (.int (2 : Int32)), (.ref ca), (.ref ca), (.ref r), (.ref r)])) tg → G tg := fun tg kt => pre17s tg (by
    show Steps p.tables e below (T17.setTop (mkF m 64 #[.val (.int (3 : Int32))] [(.ref ca), (.ref r), (.ref r)])) _
    refine XS.dup X17.here hx rfl (hb hby d16_64) rfl rfl ?_
    show Steps p.tables e below (T17.setTop (mkF m 65 #[.val (.int (3 : Int32))] [(.ref ca), (.ref ca), (.ref r), (.ref r)])) _
    refine XS.iconst X17.here hx rfl (hb hby d16_65) ?_
    show Steps p.tables e below (T17.setTop (mkF m 66 #[.val (.int (3 : Int32))] [(.int (2 : Int32)), (.ref ca), (.ref ca), (.ref r), (.ref r)])) _
    refine XS.bipush X17.here hx rfl (hb hby d16_66) ?_
    exact kt)
  have op_23 := V17_cab
  obtain ⟨cl_23, Ar_23, q_23, S_23, Ng_23, H_23, G_23⟩ := op_23
  have hin_23 : ¬ ((2 : Int32) < 0 ∨ cl_23.slots.size ≤ ((2 : Int32)).toNatClampNeg) := inb_of S_23 ⟨by decide, by decide⟩
  obtain ⟨T23, h23, X23, e23, W23, st23⟩ := stC X17 hx hZ e17 Ar_23 (j := (2 : Int32)) hin_23 (g := (mkF m 68 #[.val (.int (3 : Int32))] [(.int (48 : Int32)), (.int (2 : Int32)), (.ref ca), (.ref ca), (.ref r), (.ref r)])) rfl rfl (hb hby d16_68)
  have pre23s : ∀ tg, Steps p.tables e below (T23.setTop (mkF m 69 #[.val (.int (3 : Int32))] [(.ref ca), (.ref r), (.ref r)])) tg → G tg := fun tg kt => pre22 tg (st23 tg kt)
  have A2_24 := A2_18.wr W23
  have Fvalue_r_25 := Fvalue_r_19.other W23 (Or.inl ne_r_ca)
  have Fcoder_r_26 := Fcoder_r_20.other W23 (Or.inl ne_r_ca)
  have Ol27 := Ol21.wr W23 O_ca
  have V23_ca : Arv Z h23 ca k5 .char (3 : Int32) [(.int (48 : Int32)), (.int (48 : Int32)), (.int ((48 : Int32).toUInt32.toUInt16.toUInt32.toInt32))] (.int (0 : Int32)) := Arv.set Ar_23 q_23 S_23 Ng_23 H_23 G_23 (fits_nar_char _) W23 2 rfl (Nat.le_of_ble_eq_true rfl)
  have N23 := Fr.snoc X23 N17 O_ca
  have Z23 : n0 ≤ h23.size := Nat.le_trans Z17 (Keep.of_wr W23).1
  have K23 : Keep h0 h23 [] := K17.wr W23 (Or.inr S_ca)
  have V23_cab : Arv Z h23 ca k5 .char (3 : Int32) [(.int (48 : Int32)), (.int (48 : Int32)), (.int (48 : Int32))] (.int (0 : Int32)) := V23_ca
  obtain ⟨_, _, ⟨T28, L28, k28, n28⟩, -, X28, ⟨Lc28, hQ28, l28, y28, z28⟩, st28⟩ := X23.specialBack hx (y := (⟨"java/lang/String", "<init>", "([C)V"⟩ : MethodName)) rfl hown (mvT hZ (hw _ (List.mem_of_getElem? (i := 9) rfl))) (mvT hZ (hw _ (List.mem_of_getElem? (i := 10) rfl))) (mvT hZ (hw _ (List.mem_of_getElem? (i := 11) rfl))) (by decide) (backOf (W := 1) (rmJ_3 l Z a0 hw [] r ca k5 (48 : Int32) (48 : Int32) (48 : Int32) h23 n0 Z23 hs Ol27 A2_24 Fcoder_r_26 Fvalue_r_25 O_r (Ne.symm ne_r_ca) V23_cab own_y48 own_y48 own_y48) hZ (hw _ (List.mem_of_getElem? (i := 11) rfl)) (hw _ (List.mem_of_getElem? (i := 7) rfl)) (by decide) (by decide)) (g := (mkF m 69 #[.val (.int (3 : Int32))] [(.ref ca), (.ref r), (.ref r)])) rfl (by rw [hml]; rfl) (Steps.refl _) (a := r) (argsL := [(.ref ca)]) (rest := [(.ref r)]) (lenOf pd_4 rfl) rfl (by show 2 * 0 + _ ≤ _; exact Nat.le_of_eq rfl) (hb hby d16_69) (fun _ _ => ⟨rfl, e23, (Nat.le_of_ble_eq_true rfl), (Nat.le_of_ble_eq_true rfl)⟩)
  dsimp only [Pt.U, Pt.locs, Pt.cells, Pt.slots] at X28 l28 y28 z28 st28 hQ28
  subst l28 y28 z28
  obtain ⟨rfl, N28q, K28, Tx⟩ := hQ28
  have N28 := Fr.app N23 N28q
  have pre28s : ∀ tg, Steps p.tables e below (T28.setTop (mkF m 72 #[.val (.int (3 : Int32))] [(.ref r)])) tg → G tg := fun tg kt => pre23s tg (st28.trans kt)
  have Z28 : n0 ≤ T28.heap.size := Nat.le_trans Z23 K28.1
  have A2_29 := A2_24.keep K28
  have V23_cab_30 := V23_cab.keep K28 (ninS (Ne.symm ne_r_ca) nin0)
  have Ol31 := Ol27.keep K28 (allS O_r all0)
  have KK28 : Keep h0 T28.heap [] := K23.trans K28 (allS (Or.inr S_r) all0)
  obtain ⟨fs, hr, hrun, hended, hW, hsame⟩ := X28.leave (v := some (.ref r)) (fun h => by rw [Bd.returns] at h; cases h)
  subst hG
  refine ⟨_, _, pre28s _ ?_, hrun, hended, _, _, rfl, ?_, ⟨_, rfl⟩, hW, hsame.mono (by decide) (by decide)⟩
  · skip
    show Steps p.tables e below (T28.setTop (mkF m 72 #[.val (.int (3 : Int32))] [(.ref r)])) _
    jvm_step X28.here [X28.here.top, hx, (hb hby d16_72), X28.method', Bd.returns, Value.isRef, FieldType.isReference]
    first | (intro acts; rw [hr _ acts rfl rfl rfl]) | rw [hr _ _ rfl rfl rfl]
    exact Steps.refl _
  · show Q_rmZ_3 Z  h0 n0 _ T28.heap _
    exact ⟨r, rfl, N28, KK28, A2_29, Tx⟩
def Q_rmSs (Z : State) (q0 : Int32) (p1 : Int32) (h0 : Heap) (n0 : Nat) (v : Option Value) (h : Heap) (L : List Loc) : Prop := SQ_ Z q0 h0 n0 v h L
theorem rmSs (l : Launch) (Z : State) (a0 : Array Value) (hw : ∀ d ∈ tables_1, d.before a0 Z = true) (ws : List Jvm.Cond) (q0 : Int32) (p1 : Int32) (h0 : Heap) (n0 : Nat) (Z0 : n0 ≤ h0.size) (hs : own_st Z) (Ol : Old Z n0 h0) (hq : q0 = (1 : Int32) ∨ q0 = (2 : Int32) ∨ q0 = (3 : Int32) ∨ q0 = (4 : Int32) ∨ q0 = (5 : Int32)) :
    MetFree l (⟨"com/example/ringfence/ringfence/NumberPatternRankPinLaw", "str", "(II)Ljava/lang/String;"⟩ : MethodName) (head1 (Jvm.Cond.code (⟨"com/example/ringfence/ringfence/NumberPatternRankPinLaw", "str", "(II)Ljava/lang/String;"⟩ : MethodName) method_4_code 2 (some (.object "java/lang/String")) :: ws) ({ frames := 4, cells := 3, slots := 14, locals := 96 } : Room)) (fun argv U => argv = #[(.int q0), (.int p1)] ∧ Z.Warmed39 U.vm ∧ U.heap = h0) (fun _ _ _ _ _ => True) (fun _ U o U' => ∃ v L, o = .returned v ∧ Q_rmSs Z q0 p1 h0 n0 v U'.heap L ∧ FrameEnd U o U' L 3 14) := by
  rcases hq with rfl | rfl | rfl | rfl | rfl
  · exact rmS_1 l Z a0 hw ws p1 h0 n0 Z0 hs Ol
  · exact rmS_2 l Z a0 hw ws p1 h0 n0 Z0 hs Ol
  · exact rmS_3 l Z a0 hw ws p1 h0 n0 Z0 hs Ol
  · exact rmS_4 l Z a0 hw ws p1 h0 n0 Z0 hs Ol
  · exact rmS_5 l Z a0 hw ws p1 h0 n0 Z0 hs Ol
def Q_rmNs (Z : State) (q0 : Int32)  (h0 : Heap) (n0 : Nat) (v : Option Value) (h : Heap) (L : List Loc) : Prop := SQ_ Z q0 h0 n0 v h L
theorem rmNs (l : Launch) (Z : State) (a0 : Array Value) (hw : ∀ d ∈ tables_1, d.before a0 Z = true) (ws : List Jvm.Cond) (q0 : Int32)  (h0 : Heap) (n0 : Nat) (Z0 : n0 ≤ h0.size) (hs : own_st Z) (Ol : Old Z n0 h0) (hq : q0 = (1 : Int32) ∨ q0 = (2 : Int32) ∨ q0 = (3 : Int32)) :
    MetFree l (⟨"com/example/ringfence/ringfence/NumberPatternRankPinLaw", "nines", "(I)Ljava/lang/String;"⟩ : MethodName) (head1 (Jvm.Cond.code (⟨"com/example/ringfence/ringfence/NumberPatternRankPinLaw", "nines", "(I)Ljava/lang/String;"⟩ : MethodName) method_5_code 1 (some (.object "java/lang/String")) :: ws) ({ frames := 4, cells := 3, slots := 10, locals := 96 } : Room)) (fun argv U => argv = #[(.int q0)] ∧ Z.Warmed39 U.vm ∧ U.heap = h0) (fun _ _ _ _ _ => True) (fun _ U o U' => ∃ v L, o = .returned v ∧ Q_rmNs Z q0  h0 n0 v U'.heap L ∧ FrameEnd U o U' L 3 10) := by
  rcases hq with rfl | rfl | rfl
  · exact rmN_1 l Z a0 hw ws  h0 n0 Z0 hs Ol
  · exact rmN_2 l Z a0 hw ws  h0 n0 Z0 hs Ol
  · exact rmN_3 l Z a0 hw ws  h0 n0 Z0 hs Ol
def Q_rmZs (Z : State) (q0 : Int32)  (h0 : Heap) (n0 : Nat) (v : Option Value) (h : Heap) (L : List Loc) : Prop := SQ_ Z q0 h0 n0 v h L
theorem rmZs (l : Launch) (Z : State) (a0 : Array Value) (hw : ∀ d ∈ tables_1, d.before a0 Z = true) (ws : List Jvm.Cond) (q0 : Int32)  (h0 : Heap) (n0 : Nat) (Z0 : n0 ≤ h0.size) (hs : own_st Z) (Ol : Old Z n0 h0) (hq : q0 = (1 : Int32) ∨ q0 = (2 : Int32) ∨ q0 = (3 : Int32)) :
    MetFree l (⟨"com/example/ringfence/ringfence/NumberPatternRankPinLaw", "zeros", "(I)Ljava/lang/String;"⟩ : MethodName) (head1 (Jvm.Cond.code (⟨"com/example/ringfence/ringfence/NumberPatternRankPinLaw", "zeros", "(I)Ljava/lang/String;"⟩ : MethodName) method_6_code 1 (some (.object "java/lang/String")) :: ws) ({ frames := 4, cells := 3, slots := 10, locals := 96 } : Room)) (fun argv U => argv = #[(.int q0)] ∧ Z.Warmed39 U.vm ∧ U.heap = h0) (fun _ _ _ _ _ => True) (fun _ U o U' => ∃ v L, o = .returned v ∧ Q_rmZs Z q0  h0 n0 v U'.heap L ∧ FrameEnd U o U' L 3 10) := by
  rcases hq with rfl | rfl | rfl
  · exact rmZ_1 l Z a0 hw ws  h0 n0 Z0 hs Ol
  · exact rmZ_2 l Z a0 hw ws  h0 n0 Z0 hs Ol
  · exact rmZ_3 l Z a0 hw ws  h0 n0 Z0 hs Ol
theorem pn_15 : plainName "java/lang/String" = true := by first | (simp [plainName, overriddenIn]; done) | decide +kernel
theorem ef_15_R (m : MethodId) (x0 : Addr) : entryFrame m #[(.ref x0)] 1 = mkF m 0 #[.val (.ref x0)] [] := by first | (simp [entryFrame, mkF, argsToLocals, Value.category]; done) | rfl
theorem d15_0 : decode jdk_42_method_152_code 0 = .ok (.getstatic 38, 3) := by decide +kernel
theorem d15_3 : decode jdk_42_method_152_code 3 = .ok (.ifCond .eq 10, 3) := by decide +kernel
theorem d15_6 : decode jdk_42_method_152_code 6 = .ok (.aload_n 0, 1) := by decide +kernel
theorem d15_7 : decode jdk_42_method_152_code 7 = .ok (.getfield 15, 3) := by decide +kernel
theorem d15_10 : decode jdk_42_method_152_code 10 = .ok (.goto 4, 3) := by decide +kernel
theorem d15_14 : decode jdk_42_method_152_code 14 = .ok (.ireturn, 1) := by decide +kernel
def Q_rmK (Z : State) (a : Addr) (h0 : Heap) (n0 : Nat) (v : Option Value) (h : Heap) (L : List Loc) : Prop := v = some (.int (0 : Int32)) ∧ Fr n0 L ∧ h = h0
set_option maxRecDepth 65536 in
set_option maxHeartbeats 40000000 in
theorem rmK (l : Launch) (Z : State) (a0 : Array Value) (hw : ∀ d ∈ tables_1, d.before a0 Z = true) (ws : List Jvm.Cond) (a : Addr) (h0 : Heap) (n0 : Nat) (Z0 : n0 ≤ h0.size) (hs : own_st Z) (Ol : Old Z n0 h0) (F_c : Fld Z h0 a "java/lang/String" "coder" "B" (.int (0 : Int32))) :
    MetFree l (⟨"java/lang/String", "coder", "()B"⟩ : MethodName) (head1 (Jvm.Cond.code (⟨"java/lang/String", "coder", "()B"⟩ : MethodName) jdk_42_method_152_code 1 (some .byte) :: ws) ({ frames := 0, cells := 0, slots := 0, locals := 0 } : Room)) (fun argv U => argv = #[(.ref a)] ∧ Z.Warmed39 U.vm ∧ U.heap = h0) (fun _ _ _ _ _ => True) (fun _ U o U' => ∃ v L, o = .returned v ∧ Q_rmK Z a h0 n0 v U'.heap L ∧ FrameEnd U o U' L ({ frames := 0, cells := 0, slots := 0, locals := 0 } : Room).cells ({ frames := 0, cells := 0, slots := 0, locals := 0 } : Room).slots) := by
  refine MetFree.of_bodySF (plainFor_of_name pn_15) hisR ?_
  intro p e s m args below meth c s₁ Bd hml0 hP hK
  obtain ⟨rfl, hZ, hh⟩ := hP
  have hx := Bd.exec
  have hby := Bd.bytes
  have hml : c.maxLocals = 1 := hml0
  have hown : s.vm.findClass "java/lang/String" = some m.cls := findClass_of_methodNamed Bd.named
  have hnm := (name_of_methodNamed Bd.named Bd.method).1
  have X0 : Stand p l e ({ frames := 0, cells := 0, slots := 0, locals := 0 } : Room) s m #[(.ref a)] below meth c s₁ [] 0 0 := Stand.of_body Bd
  have e0 : s₁.heap = h0 := by rw [← hh, Bd.state]; rfl
  have N0 := Fr.nil n0
  obtain ⟨G, hG⟩ : ∃ G : State → Prop, G = fun tg => Steps p.tables e below (s₁.setTop (entryFrame m #[(.ref a)] 1)) tg := ⟨_, rfl⟩
  have pre0 : ∀ tg, Steps p.tables e below (s₁.setTop (mkF m 0 #[.val (.ref a)] [])) tg → G tg := fun tg kt => by rw [hG]; exact castTop (ef_15_R m a) kt
  have hs1' := hs
  obtain ⟨cs, S_c, hcs⟩ := hs1'
  obtain ⟨T2, X2, e2, st2⟩ := getS2 X0 hx hZ hown (host := "") (Or.inl (hw _ (List.mem_of_getElem? (i := 30) rfl))) Via.refl e0 (Sta.ext Ol.2 S_c) (g := (mkF m 0 #[.val (.ref a)] [])) rfl (hb hby d15_0)
  have pre2s : ∀ tg, Steps p.tables e below (T2.setTop (mkF m 3 #[.val (.ref a)] [(.int cs)])) tg → G tg := fun tg kt => pre0 tg (st2 tg kt)
  have pre3 : ∀ tg, Steps p.tables e below (T2.setTop (mkF m 7 #[.val (.ref a)] [(.ref a)])) tg → G tg := fun tg kt => pre2s tg (by
    show Steps p.tables e below (T2.setTop (mkF m 3 #[.val (.ref a)] [(.int cs)])) _
    refine XS.ifNo X2.here hx rfl (hb hby d15_3) rfl ((if0 _ _).trans (feq hcs).1) ?_
    show Steps p.tables e below (T2.setTop (mkF m 6 #[.val (.ref a)] [])) _
    refine XS.aloadN X2.here hx rfl (hb hby d15_6) rfl rfl ?_
    exact kt)
  obtain ⟨T4, X4, e4, st4⟩ := getF X2 hx hZ hown (host := "") (Or.inl (hw _ (List.mem_of_getElem? (i := 26) rfl))) Via.refl e2 F_c (g := (mkF m 7 #[.val (.ref a)] [(.ref a)])) rfl rfl (hb hby d15_7)
  have pre4s : ∀ tg, Steps p.tables e below (T4.setTop (mkF m 10 #[.val (.ref a)] [(.int (0 : Int32))])) tg → G tg := fun tg kt => pre3 tg (st4 tg kt)
  obtain ⟨fs, hr, hrun, hended, hW, hsame⟩ := X4.leave (v := some (.int (0 : Int32))) (fun h => by rw [Bd.returns] at h; cases h)
  subst hG
  refine ⟨_, _, pre4s _ ?_, hrun, hended, _, _, rfl, ?_, ⟨_, rfl⟩, hW, hsame.mono (by decide) (by decide)⟩
  · skip
    show Steps p.tables e below (T4.setTop (mkF m 10 #[.val (.ref a)] [(.int (0 : Int32))])) _
    refine XS.goto X4.here hx rfl (pc0 := 10) (pc' := 14) rfl (hb hby d15_10) (by decide) (by decide) ?_
    show Steps p.tables e below (T4.setTop (mkF m 14 #[.val (.ref a)] [(.int (0 : Int32))])) _
    exact retN X4 hx (t := .byte) Bd.returns (by simp) (hb hby d15_14) hr
  · show Q_rmK Z a h0 n0 _ T4.heap _
    rw [e4]
    exact ⟨rfl, N0, rfl⟩
theorem pn_14 : plainName "java/lang/String" = true := by first | (simp [plainName, overriddenIn]; done) | decide +kernel
theorem ef_14_R (m : MethodId) (x0 : Addr) : entryFrame m #[(.ref x0)] 1 = mkF m 0 #[.val (.ref x0)] [] := by first | (simp [entryFrame, mkF, argsToLocals, Value.category]; done) | rfl
theorem pd_6 : parseMethodDescriptor "()B" = some ⟨[], some .byte⟩ := by decide +kernel
theorem d14_0 : decode jdk_42_method_54_code 0 = .ok (.aload_n 0, 1) := by decide +kernel
theorem d14_1 : decode jdk_42_method_54_code 1 = .ok (.getfield 9, 3) := by decide +kernel
theorem d14_4 : decode jdk_42_method_54_code 4 = .ok (.arraylength, 1) := by decide +kernel
theorem d14_5 : decode jdk_42_method_54_code 5 = .ok (.aload_n 0, 1) := by decide +kernel
theorem d14_6 : decode jdk_42_method_54_code 6 = .ok (.invokevirtual 335, 3) := by decide +kernel
theorem d14_9 : decode jdk_42_method_54_code 9 = .ok (.ishr, 1) := by decide +kernel
theorem d14_10 : decode jdk_42_method_54_code 10 = .ok (.ireturn, 1) := by decide +kernel
def Q_rmL (Z : State) (a va : Addr) (kv : ClassId) (nn : Int32) (vs : List Value) (h0 : Heap) (n0 : Nat) (v : Option Value) (h : Heap) (L : List Loc) : Prop := v = some (.int nn) ∧ Fr n0 L ∧ h = h0
set_option maxRecDepth 65536 in
set_option maxHeartbeats 40000000 in
theorem rmL (l : Launch) (Z : State) (a0 : Array Value) (hw : ∀ d ∈ tables_1, d.before a0 Z = true) (ws : List Jvm.Cond) (a va : Addr) (kv : ClassId) (nn : Int32) (vs : List Value) (h0 : Heap) (n0 : Nat) (Z0 : n0 ≤ h0.size) (hs : own_st Z) (Ol : Old Z n0 h0) (E_a : Exa Z h0 a "java/lang/String") (F_c : Fld Z h0 a "java/lang/String" "coder" "B" (.int (0 : Int32))) (F_v : Fld Z h0 a "java/lang/String" "value" "[B" (.ref va)) (V_v : Arv Z h0 va kv .byte nn vs (.int (0 : Int32))) :
    MetFree l (⟨"java/lang/String", "length", "()I"⟩ : MethodName) (head1 (Jvm.Cond.code (⟨"java/lang/String", "length", "()I"⟩ : MethodName) jdk_42_method_54_code 1 (some .int) :: ws) ({ frames := 1, cells := 0, slots := 0, locals := 24 } : Room)) (fun argv U => argv = #[(.ref a)] ∧ Z.Warmed39 U.vm ∧ U.heap = h0) (fun _ _ _ _ _ => True) (fun _ U o U' => ∃ v L, o = .returned v ∧ Q_rmL Z a va kv nn vs h0 n0 v U'.heap L ∧ FrameEnd U o U' L ({ frames := 1, cells := 0, slots := 0, locals := 24 } : Room).cells ({ frames := 1, cells := 0, slots := 0, locals := 24 } : Room).slots) := by
  refine MetFree.of_bodySF (plainFor_of_name pn_14) hisR ?_
  intro p e s m args below meth c s₁ Bd hml0 hP hK
  obtain ⟨rfl, hZ, hh⟩ := hP
  have hx := Bd.exec
  have hby := Bd.bytes
  have hml : c.maxLocals = 1 := hml0
  have hown : s.vm.findClass "java/lang/String" = some m.cls := findClass_of_methodNamed Bd.named
  have hnm := (name_of_methodNamed Bd.named Bd.method).1
  have X0 : Stand p l e ({ frames := 1, cells := 0, slots := 0, locals := 24 } : Room) s m #[(.ref a)] below meth c s₁ [] 0 0 := Stand.of_body Bd
  have e0 : s₁.heap = h0 := by rw [← hh, Bd.state]; rfl
  have N0 := Fr.nil n0
  obtain ⟨G, hG⟩ : ∃ G : State → Prop, G = fun tg => Steps p.tables e below (s₁.setTop (entryFrame m #[(.ref a)] 1)) tg := ⟨_, rfl⟩
  have pre0 : ∀ tg, Steps p.tables e below (s₁.setTop (mkF m 0 #[.val (.ref a)] [])) tg → G tg := fun tg kt => by rw [hG]; exact castTop (ef_14_R m a) kt
  have pre1 : ∀ tg, Steps p.tables e below (s₁.setTop (mkF m 1 #[.val (.ref a)] [(.ref a)])) tg → G tg := fun tg kt => pre0 tg (by
    show Steps p.tables e below (s₁.setTop (mkF m 0 #[.val (.ref a)] [])) _
    refine XS.aloadN X0.here hx rfl (hb hby d14_0) rfl rfl ?_
    exact kt)
  obtain ⟨T2, X2, e2, st2⟩ := getF X0 hx hZ hown (host := "") (Or.inl (hw _ (List.mem_of_getElem? (i := 25) rfl))) Via.refl e0 F_v (g := (mkF m 1 #[.val (.ref a)] [(.ref a)])) rfl rfl (hb hby d14_1)
  have pre2s : ∀ tg, Steps p.tables e below (T2.setTop (mkF m 4 #[.val (.ref a)] [(.ref va)])) tg → G tg := fun tg kt => pre1 tg (st2 tg kt)
  have op_3 := V_v
  obtain ⟨cl_3, Ar_3, q_3, S_3, Ng_3, H_3, G_3⟩ := op_3
  have pre4 : ∀ tg, Steps p.tables e below (T2.setTop (mkF m 6 #[.val (.ref a)] [(.ref a), (.int nn)])) tg → G tg := fun tg kt => pre2s tg (by
    show Steps p.tables e below (T2.setTop (mkF m 4 #[.val (.ref a)] [(.ref va)])) _
    refine X2.arraylength hx (by rw [e2]; exact Ar_3.1) (State.isArrayOf_alike hZ.alike Ar_3.2.1) (g := (mkF m 4 #[.val (.ref a)] [(.ref va)])) rfl rfl (hb hby d14_4) _ ?_
    rw [len_of S_3 Ng_3]
    show Steps p.tables e below (T2.setTop (mkF m 5 #[.val (.ref a)] [(.int nn)])) _
    refine XS.aloadN X2.here hx rfl (hb hby d14_5) rfl rfl ?_
    exact kt)
  obtain ⟨cq5, kq5, q5a, q5b, q5c⟩ := isOf hZ e2 E_a
  obtain ⟨_, _, ⟨T5, L5, k5, n5⟩, -, X5, ⟨Lc5, hQ5, l5, y5, z5⟩, st5⟩ := X2.virtualBack hx (y := (⟨"java/lang/String", "coder", "()B"⟩ : MethodName)) (z := (⟨"java/lang/String", "coder", "()B"⟩ : MethodName)) hown (mvT hZ (hw _ (List.mem_of_getElem? (i := 77) rfl))) (mvT hZ (hw _ (List.mem_of_getElem? (i := 78) rfl))) (notFace_of_selects (args := #[]) (mvT hZ (hw _ (List.mem_of_getElem? (i := 80) rfl)))) (mvT hZ (hw _ (List.mem_of_getElem? (i := 80) rfl))) (mvT hZ (hw _ (List.mem_of_getElem? (i := 79) rfl))) (by decide) (backOf (W := 1) (rmK l Z a0 hw [] a h0 n0 Z0 hs Ol F_c) hZ (hw _ (List.mem_of_getElem? (i := 81) rfl)) (hw _ (List.mem_of_getElem? (i := 7) rfl)) (by decide) (by decide)) q5a q5c (g := (mkF m 6 #[.val (.ref a)] [(.ref a), (.int nn)])) rfl (by rw [hml]; rfl) (Steps.refl _) (argsL := []) (rest := [(.int nn)]) (lenOf pd_6 rfl) rfl (by show 2 * 0 + _ ≤ _; exact Nat.le_of_eq rfl) (hb hby d14_6) (fun _ _ => ⟨rfl, e2, (Nat.le_of_ble_eq_true rfl), (Nat.le_of_ble_eq_true rfl)⟩)
  dsimp only [Pt.U, Pt.locs, Pt.cells, Pt.slots] at X5 l5 y5 z5 st5 hQ5
  subst l5 y5 z5
  obtain ⟨rfl, N5q, e5⟩ := hQ5
  have N5 := Fr.app N0 N5q
  have pre5s : ∀ tg, Steps p.tables e below (T5.setTop (mkF m 9 #[.val (.ref a)] [(.int (0 : Int32)), (.int nn)])) tg → G tg := fun tg kt => pre4 tg (st5.trans kt)
  obtain ⟨fs, hr, hrun, hended, hW, hsame⟩ := X5.leave (v := some (.int (nn >>> ((0 : Int32) &&& 31)))) (fun h => by rw [Bd.returns] at h; cases h)
  subst hG
  refine ⟨_, _, pre5s _ ?_, hrun, hended, _, _, rfl, ?_, ⟨_, rfl⟩, hW, hsame.mono (by decide) (by decide)⟩
  · skip
    show Steps p.tables e below (T5.setTop (mkF m 9 #[.val (.ref a)] [(.int (0 : Int32)), (.int nn)])) _
    refine XS.ishr X5.here hx rfl (hb hby d14_9) rfl ?_
    show Steps p.tables e below (T5.setTop (mkF m 10 #[.val (.ref a)] [(.int (nn >>> ((0 : Int32) &&& 31)))])) _
    exact retI X5 hx Bd.returns (hb hby d14_10) hr
  · show Q_rmL Z a va kv nn vs h0 n0 _ T5.heap _
    rw [e5]
    exact ⟨congrArg (fun z => some (Value.int z)) (own_sh0 nn), N5, rfl⟩
theorem pn_13 : plainName "java/lang/String" = true := by first | (simp [plainName, overriddenIn]; done) | decide +kernel
theorem ef_13_R (m : MethodId) (x0 : Addr) : entryFrame m #[(.ref x0)] 1 = mkF m 0 #[.val (.ref x0)] [] := by first | (simp [entryFrame, mkF, argsToLocals, Value.category]; done) | rfl
theorem d13_0 : decode jdk_42_method_55_code 0 = .ok (.aload_n 0, 1) := by decide +kernel
theorem d13_1 : decode jdk_42_method_55_code 1 = .ok (.getfield 9, 3) := by decide +kernel
theorem d13_4 : decode jdk_42_method_55_code 4 = .ok (.arraylength, 1) := by decide +kernel
theorem d13_5 : decode jdk_42_method_55_code 5 = .ok (.ifCond .ne 7, 3) := by decide +kernel
theorem d13_12 : decode jdk_42_method_55_code 12 = .ok (.iconst 0, 1) := by decide +kernel
theorem d13_13 : decode jdk_42_method_55_code 13 = .ok (.ireturn, 1) := by decide +kernel
def Q_rmM_0 (Z : State) (a va : Addr) (kv : ClassId) (nn : Int32) (vs : List Value) (h0 : Heap) (n0 : Nat) (v : Option Value) (h : Heap) (L : List Loc) : Prop := v = some (.int (0 : Int32)) ∧ Fr n0 L ∧ h = h0
set_option maxRecDepth 65536 in
set_option maxHeartbeats 40000000 in
theorem rmM_0 (l : Launch) (Z : State) (a0 : Array Value) (hw : ∀ d ∈ tables_1, d.before a0 Z = true) (ws : List Jvm.Cond) (a va : Addr) (kv : ClassId) (nn : Int32) (vs : List Value) (h0 : Heap) (n0 : Nat) (Z0 : n0 ≤ h0.size) (F_v : Fld Z h0 a "java/lang/String" "value" "[B" (.ref va)) (V_v : Arv Z h0 va kv .byte nn vs (.int (0 : Int32))) (g : ¬ nn = (0 : Int32)) :
    MetFree l (⟨"java/lang/String", "isEmpty", "()Z"⟩ : MethodName) (head1 (Jvm.Cond.code (⟨"java/lang/String", "isEmpty", "()Z"⟩ : MethodName) jdk_42_method_55_code 1 (some .boolean) :: ws) ({ frames := 0, cells := 0, slots := 0, locals := 0 } : Room)) (fun argv U => argv = #[(.ref a)] ∧ Z.Warmed39 U.vm ∧ U.heap = h0) (fun _ _ _ _ _ => True) (fun _ U o U' => ∃ v L, o = .returned v ∧ Q_rmM_0 Z a va kv nn vs h0 n0 v U'.heap L ∧ FrameEnd U o U' L ({ frames := 0, cells := 0, slots := 0, locals := 0 } : Room).cells ({ frames := 0, cells := 0, slots := 0, locals := 0 } : Room).slots) := by
  refine MetFree.of_bodySF (plainFor_of_name pn_13) hisR ?_
  intro p e s m args below meth c s₁ Bd hml0 hP hK
  obtain ⟨rfl, hZ, hh⟩ := hP
  have hx := Bd.exec
  have hby := Bd.bytes
  have hml : c.maxLocals = 1 := hml0
  have hown : s.vm.findClass "java/lang/String" = some m.cls := findClass_of_methodNamed Bd.named
  have hnm := (name_of_methodNamed Bd.named Bd.method).1
  have X0 : Stand p l e ({ frames := 0, cells := 0, slots := 0, locals := 0 } : Room) s m #[(.ref a)] below meth c s₁ [] 0 0 := Stand.of_body Bd
  have e0 : s₁.heap = h0 := by rw [← hh, Bd.state]; rfl
  have N0 := Fr.nil n0
  obtain ⟨G, hG⟩ : ∃ G : State → Prop, G = fun tg => Steps p.tables e below (s₁.setTop (entryFrame m #[(.ref a)] 1)) tg := ⟨_, rfl⟩
  have pre0 : ∀ tg, Steps p.tables e below (s₁.setTop (mkF m 0 #[.val (.ref a)] [])) tg → G tg := fun tg kt => by rw [hG]; exact castTop (ef_13_R m a) kt
  have pre1 : ∀ tg, Steps p.tables e below (s₁.setTop (mkF m 1 #[.val (.ref a)] [(.ref a)])) tg → G tg := fun tg kt => pre0 tg (by
    show Steps p.tables e below (s₁.setTop (mkF m 0 #[.val (.ref a)] [])) _
    refine XS.aloadN X0.here hx rfl (hb hby d13_0) rfl rfl ?_
    exact kt)
  obtain ⟨T2, X2, e2, st2⟩ := getF X0 hx hZ hown (host := "") (Or.inl (hw _ (List.mem_of_getElem? (i := 25) rfl))) Via.refl e0 F_v (g := (mkF m 1 #[.val (.ref a)] [(.ref a)])) rfl rfl (hb hby d13_1)
  have pre2s : ∀ tg, Steps p.tables e below (T2.setTop (mkF m 4 #[.val (.ref a)] [(.ref va)])) tg → G tg := fun tg kt => pre1 tg (st2 tg kt)
  have op_3 := V_v
  obtain ⟨cl_3, Ar_3, q_3, S_3, Ng_3, H_3, G_3⟩ := op_3
  obtain ⟨fs, hr, hrun, hended, hW, hsame⟩ := X2.leave (v := some (.int (0 : Int32))) (fun h => by rw [Bd.returns] at h; cases h)
  subst hG
  refine ⟨_, _, pre2s _ ?_, hrun, hended, _, _, rfl, ?_, ⟨_, rfl⟩, hW, hsame.mono (by decide) (by decide)⟩
  · skip
    show Steps p.tables e below (T2.setTop (mkF m 4 #[.val (.ref a)] [(.ref va)])) _
    refine X2.arraylength hx (by rw [e2]; exact Ar_3.1) (State.isArrayOf_alike hZ.alike Ar_3.2.1) (g := (mkF m 4 #[.val (.ref a)] [(.ref va)])) rfl rfl (hb hby d13_4) _ ?_
    rw [len_of S_3 Ng_3]
    show Steps p.tables e below (T2.setTop (mkF m 5 #[.val (.ref a)] [(.int nn)])) _
    refine XS.ifYes X2.here hx rfl (pc0 := 5) (pc' := 12) rfl (hb hby d13_5) rfl ((if0 _ _).trans (feq g).2) (by decide) (by decide) ?_
    show Steps p.tables e below (T2.setTop (mkF m 12 #[.val (.ref a)] [])) _
    refine XS.iconst X2.here hx rfl (hb hby d13_12) ?_
    show Steps p.tables e below (T2.setTop (mkF m 13 #[.val (.ref a)] [(.int (0 : Int32))])) _
    exact retN X2 hx (t := .boolean) Bd.returns (by simp) (hb hby d13_13) hr
  · show Q_rmM_0 Z a va kv nn vs h0 n0 _ T2.heap _
    rw [e2]
    exact ⟨rfl, N0, rfl⟩
theorem d13_8 : decode jdk_42_method_55_code 8 = .ok (.iconst 1, 1) := by decide +kernel
theorem d13_9 : decode jdk_42_method_55_code 9 = .ok (.goto 4, 3) := by decide +kernel
def Q_rmM_1 (Z : State) (a va : Addr) (kv : ClassId) (nn : Int32) (vs : List Value) (h0 : Heap) (n0 : Nat) (v : Option Value) (h : Heap) (L : List Loc) : Prop := v = some (.int (1 : Int32)) ∧ Fr n0 L ∧ h = h0
set_option maxRecDepth 65536 in
set_option maxHeartbeats 40000000 in
theorem rmM_1 (l : Launch) (Z : State) (a0 : Array Value) (hw : ∀ d ∈ tables_1, d.before a0 Z = true) (ws : List Jvm.Cond) (a va : Addr) (kv : ClassId) (nn : Int32) (vs : List Value) (h0 : Heap) (n0 : Nat) (Z0 : n0 ≤ h0.size) (F_v : Fld Z h0 a "java/lang/String" "value" "[B" (.ref va)) (V_v : Arv Z h0 va kv .byte nn vs (.int (0 : Int32))) (g : nn = (0 : Int32)) :
    MetFree l (⟨"java/lang/String", "isEmpty", "()Z"⟩ : MethodName) (head1 (Jvm.Cond.code (⟨"java/lang/String", "isEmpty", "()Z"⟩ : MethodName) jdk_42_method_55_code 1 (some .boolean) :: ws) ({ frames := 0, cells := 0, slots := 0, locals := 0 } : Room)) (fun argv U => argv = #[(.ref a)] ∧ Z.Warmed39 U.vm ∧ U.heap = h0) (fun _ _ _ _ _ => True) (fun _ U o U' => ∃ v L, o = .returned v ∧ Q_rmM_1 Z a va kv nn vs h0 n0 v U'.heap L ∧ FrameEnd U o U' L ({ frames := 0, cells := 0, slots := 0, locals := 0 } : Room).cells ({ frames := 0, cells := 0, slots := 0, locals := 0 } : Room).slots) := by
  refine MetFree.of_bodySF (plainFor_of_name pn_13) hisR ?_
  intro p e s m args below meth c s₁ Bd hml0 hP hK
  obtain ⟨rfl, hZ, hh⟩ := hP
  have hx := Bd.exec
  have hby := Bd.bytes
  have hml : c.maxLocals = 1 := hml0
  have hown : s.vm.findClass "java/lang/String" = some m.cls := findClass_of_methodNamed Bd.named
  have hnm := (name_of_methodNamed Bd.named Bd.method).1
  have X0 : Stand p l e ({ frames := 0, cells := 0, slots := 0, locals := 0 } : Room) s m #[(.ref a)] below meth c s₁ [] 0 0 := Stand.of_body Bd
  have e0 : s₁.heap = h0 := by rw [← hh, Bd.state]; rfl
  have N0 := Fr.nil n0
  obtain ⟨G, hG⟩ : ∃ G : State → Prop, G = fun tg => Steps p.tables e below (s₁.setTop (entryFrame m #[(.ref a)] 1)) tg := ⟨_, rfl⟩
  have pre0 : ∀ tg, Steps p.tables e below (s₁.setTop (mkF m 0 #[.val (.ref a)] [])) tg → G tg := fun tg kt => by rw [hG]; exact castTop (ef_13_R m a) kt
  have pre1 : ∀ tg, Steps p.tables e below (s₁.setTop (mkF m 1 #[.val (.ref a)] [(.ref a)])) tg → G tg := fun tg kt => pre0 tg (by
    show Steps p.tables e below (s₁.setTop (mkF m 0 #[.val (.ref a)] [])) _
    refine XS.aloadN X0.here hx rfl (hb hby d13_0) rfl rfl ?_
    exact kt)
  obtain ⟨T2, X2, e2, st2⟩ := getF X0 hx hZ hown (host := "") (Or.inl (hw _ (List.mem_of_getElem? (i := 25) rfl))) Via.refl e0 F_v (g := (mkF m 1 #[.val (.ref a)] [(.ref a)])) rfl rfl (hb hby d13_1)
  have pre2s : ∀ tg, Steps p.tables e below (T2.setTop (mkF m 4 #[.val (.ref a)] [(.ref va)])) tg → G tg := fun tg kt => pre1 tg (st2 tg kt)
  have op_3 := V_v
  obtain ⟨cl_3, Ar_3, q_3, S_3, Ng_3, H_3, G_3⟩ := op_3
  obtain ⟨fs, hr, hrun, hended, hW, hsame⟩ := X2.leave (v := some (.int (1 : Int32))) (fun h => by rw [Bd.returns] at h; cases h)
  subst hG
  refine ⟨_, _, pre2s _ ?_, hrun, hended, _, _, rfl, ?_, ⟨_, rfl⟩, hW, hsame.mono (by decide) (by decide)⟩
  · skip
    show Steps p.tables e below (T2.setTop (mkF m 4 #[.val (.ref a)] [(.ref va)])) _
    refine X2.arraylength hx (by rw [e2]; exact Ar_3.1) (State.isArrayOf_alike hZ.alike Ar_3.2.1) (g := (mkF m 4 #[.val (.ref a)] [(.ref va)])) rfl rfl (hb hby d13_4) _ ?_
    rw [len_of S_3 Ng_3]
    show Steps p.tables e below (T2.setTop (mkF m 5 #[.val (.ref a)] [(.int nn)])) _
    refine XS.ifNo X2.here hx rfl (hb hby d13_5) rfl ((if0 _ _).trans (teq g).2) ?_
    show Steps p.tables e below (T2.setTop (mkF m 8 #[.val (.ref a)] [])) _
    refine XS.iconst X2.here hx rfl (hb hby d13_8) ?_
    show Steps p.tables e below (T2.setTop (mkF m 9 #[.val (.ref a)] [(.int (1 : Int32))])) _
    refine XS.goto X2.here hx rfl (pc0 := 9) (pc' := 13) rfl (hb hby d13_9) (by decide) (by decide) ?_
    show Steps p.tables e below (T2.setTop (mkF m 13 #[.val (.ref a)] [(.int (1 : Int32))])) _
    exact retN X2 hx (t := .boolean) Bd.returns (by simp) (hb hby d13_13) hr
  · show Q_rmM_1 Z a va kv nn vs h0 n0 _ T2.heap _
    rw [e2]
    exact ⟨rfl, N0, rfl⟩
theorem pn_11 : plainName "java/lang/Record" = true := by first | (simp [plainName, overriddenIn]; done) | decide +kernel
theorem ef_11_R (m : MethodId) (x0 : Addr) : entryFrame m #[(.ref x0)] 1 = mkF m 0 #[.val (.ref x0)] [] := by first | (simp [entryFrame, mkF, argsToLocals, Value.category]; done) | rfl
theorem d11_0 : decode jdk_30_method_1_code 0 = .ok (.aload_n 0, 1) := by decide +kernel
theorem d11_1 : decode jdk_30_method_1_code 1 = .ok (.invokespecial 1, 3) := by decide +kernel
theorem d11_4 : decode jdk_30_method_1_code 4 = .ok (.return_, 1) := by decide +kernel
def Q_rmR (Z : State) (a : Addr) (h0 : Heap) (n0 : Nat) (v : Option Value) (h : Heap) (L : List Loc) : Prop := v = none ∧ Fr n0 L ∧ h = h0
set_option maxRecDepth 65536 in
set_option maxHeartbeats 40000000 in
theorem rmR (l : Launch) (Z : State) (a0 : Array Value) (hw : ∀ d ∈ tables_1, d.before a0 Z = true) (ws : List Jvm.Cond) (a : Addr) (h0 : Heap) (n0 : Nat) (Z0 : n0 ≤ h0.size)  :
    MetFree l (⟨"java/lang/Record", "<init>", "()V"⟩ : MethodName) (head1 (Jvm.Cond.code (⟨"java/lang/Record", "<init>", "()V"⟩ : MethodName) jdk_30_method_1_code 1 none :: ws) ({ frames := 1, cells := 0, slots := 0, locals := 24 } : Room)) (fun argv U => argv = #[(.ref a)] ∧ Z.Warmed39 U.vm ∧ U.heap = h0) (fun _ _ _ _ _ => True) (fun _ U o U' => ∃ v L, o = .returned v ∧ Q_rmR Z a h0 n0 v U'.heap L ∧ FrameEnd U o U' L ({ frames := 1, cells := 0, slots := 0, locals := 24 } : Room).cells ({ frames := 1, cells := 0, slots := 0, locals := 24 } : Room).slots) := by
  refine MetFree.of_bodySF (plainFor_of_name pn_11) hisR ?_
  intro p e s m args below meth c s₁ Bd hml0 hP hK
  obtain ⟨rfl, hZ, hh⟩ := hP
  have hx := Bd.exec
  have hby := Bd.bytes
  have hml : c.maxLocals = 1 := hml0
  have hown : s.vm.findClass "java/lang/Record" = some m.cls := findClass_of_methodNamed Bd.named
  have hnm := (name_of_methodNamed Bd.named Bd.method).1
  have X0 : Stand p l e ({ frames := 1, cells := 0, slots := 0, locals := 24 } : Room) s m #[(.ref a)] below meth c s₁ [] 0 0 := Stand.of_body Bd
  have e0 : s₁.heap = h0 := by rw [← hh, Bd.state]; rfl
  have N0 := Fr.nil n0
  obtain ⟨G, hG⟩ : ∃ G : State → Prop, G = fun tg => Steps p.tables e below (s₁.setTop (entryFrame m #[(.ref a)] 1)) tg := ⟨_, rfl⟩
  have pre0 : ∀ tg, Steps p.tables e below (s₁.setTop (mkF m 0 #[.val (.ref a)] [])) tg → G tg := fun tg kt => by rw [hG]; exact castTop (ef_11_R m a) kt
  have pre1 : ∀ tg, Steps p.tables e below (s₁.setTop (mkF m 1 #[.val (.ref a)] [(.ref a)])) tg → G tg := fun tg kt => pre0 tg (by
    show Steps p.tables e below (s₁.setTop (mkF m 0 #[.val (.ref a)] [])) _
    refine XS.aloadN X0.here hx rfl (hb hby d11_0) rfl rfl ?_
    exact kt)
  obtain ⟨T2, X2, e2, st2⟩ := initO X0 hx hZ hown (hw _ (List.mem_of_getElem? (i := 55) rfl)) (hw _ (List.mem_of_getElem? (i := 17) rfl)) (hw _ (List.mem_of_getElem? (i := 18) rfl)) e0 (g := (mkF m 1 #[.val (.ref a)] [(.ref a)])) rfl (by rw [hml]; rfl) rfl (hb hby d11_1) (by decide) (W := 0) (by show 2 * 0 + _ ≤ _; exact Nat.le_of_eq rfl) (by decide)
  have pre2s : ∀ tg, Steps p.tables e below (T2.setTop (mkF m 4 #[.val (.ref a)] [])) tg → G tg := fun tg kt => pre1 tg (st2 tg kt)
  obtain ⟨fs, hr, hrun, hended, hW, hsame⟩ := X2.leave (v := none) (fun _ => rfl)
  subst hG
  refine ⟨_, _, pre2s _ ?_, hrun, hended, _, _, rfl, ?_, ⟨_, rfl⟩, hW, hsame.mono (by decide) (by decide)⟩
  · skip
    show Steps p.tables e below (T2.setTop (mkF m 4 #[.val (.ref a)] [])) _
    exact X2.returnOut hx Bd.returns (hb hby d11_4) hr
  · show Q_rmR Z a h0 n0 _ T2.heap _
    rw [e2]
    exact ⟨rfl, N0, rfl⟩
theorem pn_10 : plainName "com/example/ringfence/ringfence/NumberPattern" = true := by first | (simp [plainName, overriddenIn]; done) | decide +kernel
theorem ef_10_R_R_n_n (m : MethodId) (x0 : Addr) (x1 : Addr) : entryFrame m #[(.ref x0), (.ref x1), .null, .null] 4 = mkF m 0 #[.val (.ref x0), .val (.ref x1), .val .null, .val .null] [] := by first | (simp [entryFrame, mkF, argsToLocals, Value.category]; done) | rfl
theorem pd_7 : parseMethodDescriptor "()V" = some ⟨[], none⟩ := by decide +kernel
theorem d10_0 : decode prog_28_method_1_code 0 = .ok (.aload_n 0, 1) := by decide +kernel
theorem d10_1 : decode prog_28_method_1_code 1 = .ok (.invokespecial 1, 3) := by decide +kernel
theorem d10_4 : decode prog_28_method_1_code 4 = .ok (.aload_n 0, 1) := by decide +kernel
theorem d10_5 : decode prog_28_method_1_code 5 = .ok (.aload_n 1, 1) := by decide +kernel
theorem d10_6 : decode prog_28_method_1_code 6 = .ok (.putfield 7, 3) := by decide +kernel
theorem d10_9 : decode prog_28_method_1_code 9 = .ok (.aload_n 0, 1) := by decide +kernel
theorem d10_10 : decode prog_28_method_1_code 10 = .ok (.aload_n 2, 1) := by decide +kernel
theorem d10_11 : decode prog_28_method_1_code 11 = .ok (.putfield 13, 3) := by decide +kernel
theorem d10_14 : decode prog_28_method_1_code 14 = .ok (.aload_n 0, 1) := by decide +kernel
theorem d10_15 : decode prog_28_method_1_code 15 = .ok (.aload_n 3, 1) := by decide +kernel
theorem d10_16 : decode prog_28_method_1_code 16 = .ok (.putfield 16, 3) := by decide +kernel
theorem d10_19 : decode prog_28_method_1_code 19 = .ok (.return_, 1) := by decide +kernel
def Q_rmP_n (Z : State) (a dg : Addr) (h0 : Heap) (n0 : Nat) (v : Option Value) (h : Heap) (L : List Loc) : Prop := v = none ∧ Fr n0 L ∧ Keep h0 h [a] ∧ Fld Z h a "com/example/ringfence/ringfence/NumberPattern" "digits" "Ljava/lang/String;" (.ref dg) ∧ Fld Z h a "com/example/ringfence/ringfence/NumberPattern" "low" "Ljava/lang/String;" .null
set_option maxRecDepth 65536 in
set_option maxHeartbeats 40000000 in
theorem rmP_n (l : Launch) (Z : State) (a0 : Array Value) (hw : ∀ d ∈ tables_1, d.before a0 Z = true) (ws : List Jvm.Cond) (a dg : Addr) (h0 : Heap) (n0 : Nat) (Z0 : n0 ≤ h0.size) (E_a : Exa Z h0 a "com/example/ringfence/ringfence/NumberPattern") (O_a : n0 ≤ a) (F_digits : Fld Z h0 a "com/example/ringfence/ringfence/NumberPattern" "digits" "Ljava/lang/String;" .null) (F_low : Fld Z h0 a "com/example/ringfence/ringfence/NumberPattern" "low" "Ljava/lang/String;" .null) (F_high : Fld Z h0 a "com/example/ringfence/ringfence/NumberPattern" "high" "Ljava/lang/String;" .null) :
    MetFree l (⟨"com/example/ringfence/ringfence/NumberPattern", "<init>", "(Ljava/lang/String;Ljava/lang/String;Ljava/lang/String;)V"⟩ : MethodName) (head1 (Jvm.Cond.code (⟨"com/example/ringfence/ringfence/NumberPattern", "<init>", "(Ljava/lang/String;Ljava/lang/String;Ljava/lang/String;)V"⟩ : MethodName) prog_28_method_1_code 4 none :: ws) ({ frames := 2, cells := 0, slots := 0, locals := 48 } : Room)) (fun argv U => argv = #[(.ref a), (.ref dg), .null, .null] ∧ Z.Warmed39 U.vm ∧ U.heap = h0) (fun _ _ _ _ _ => True) (fun _ U o U' => ∃ v L, o = .returned v ∧ Q_rmP_n Z a dg h0 n0 v U'.heap L ∧ FrameEnd U o U' L ({ frames := 2, cells := 0, slots := 0, locals := 48 } : Room).cells ({ frames := 2, cells := 0, slots := 0, locals := 48 } : Room).slots) := by
  refine MetFree.of_bodySF (plainFor_of_name pn_10) hisR ?_
  intro p e s m args below meth c s₁ Bd hml0 hP hK
  obtain ⟨rfl, hZ, hh⟩ := hP
  have hx := Bd.exec
  have hby := Bd.bytes
  have hml : c.maxLocals = 4 := hml0
  have hown : s.vm.findClass "com/example/ringfence/ringfence/NumberPattern" = some m.cls := findClass_of_methodNamed Bd.named
  have hnm := (name_of_methodNamed Bd.named Bd.method).1
  have X0 : Stand p l e ({ frames := 2, cells := 0, slots := 0, locals := 48 } : Room) s m #[(.ref a), (.ref dg), .null, .null] below meth c s₁ [] 0 0 := Stand.of_body Bd
  have e0 : s₁.heap = h0 := by rw [← hh, Bd.state]; rfl
  have N0 := Fr.nil n0
  obtain ⟨G, hG⟩ : ∃ G : State → Prop, G = fun tg => Steps p.tables e below (s₁.setTop (entryFrame m #[(.ref a), (.ref dg), .null, .null] 4)) tg := ⟨_, rfl⟩
  have pre0 : ∀ tg, Steps p.tables e below (s₁.setTop (mkF m 0 #[.val (.ref a), .val (.ref dg), .val .null, .val .null] [])) tg → G tg := fun tg kt => by rw [hG]; exact castTop (ef_10_R_R_n_n m a dg  ) kt
  have pre1 : ∀ tg, Steps p.tables e below (s₁.setTop (mkF m 1 #[.val (.ref a), .val (.ref dg), .val .null, .val .null] [(.ref a)])) tg → G tg := fun tg kt => pre0 tg (by
    show Steps p.tables e below (s₁.setTop (mkF m 0 #[.val (.ref a), .val (.ref dg), .val .null, .val .null] [])) _
    refine XS.aloadN X0.here hx rfl (hb hby d10_0) rfl rfl ?_
    exact kt)
  obtain ⟨_, _, ⟨T2, L2, k2, n2⟩, -, X2, ⟨Lc2, hQ2, l2, y2, z2⟩, st2⟩ := X0.specialBack hx (y := (⟨"java/lang/Record", "<init>", "()V"⟩ : MethodName)) rfl hown (mvT hZ (hw _ (List.mem_of_getElem? (i := 50) rfl))) (mvT hZ (hw _ (List.mem_of_getElem? (i := 51) rfl))) (mvT hZ (hw _ (List.mem_of_getElem? (i := 54) rfl))) (by decide) (backOf (W := 0) (rmR l Z a0 hw [] a h0 n0 Z0 ) hZ (hw _ (List.mem_of_getElem? (i := 54) rfl)) (hw _ (List.mem_of_getElem? (i := 53) rfl)) (by decide) (by decide)) (g := (mkF m 1 #[.val (.ref a), .val (.ref dg), .val .null, .val .null] [(.ref a)])) rfl (by rw [hml]; rfl) (Steps.refl _) (a := a) (argsL := []) (rest := []) (lenOf pd_7 rfl) rfl (by show 2 * 0 + _ ≤ _; exact Nat.le_of_eq rfl) (hb hby d10_1) (fun _ _ => ⟨rfl, e0, (Nat.le_of_ble_eq_true rfl), (Nat.le_of_ble_eq_true rfl)⟩)
  dsimp only [Pt.U, Pt.locs, Pt.cells, Pt.slots] at X2 l2 y2 z2 st2 hQ2
  subst l2 y2 z2
  obtain ⟨rfl, N2q, e2⟩ := hQ2
  have N2 := Fr.app N0 N2q
  have pre2s : ∀ tg, Steps p.tables e below (T2.setTop (mkF m 4 #[.val (.ref a), .val (.ref dg), .val .null, .val .null] [])) tg → G tg := fun tg kt => pre1 tg (st2.trans kt)
  have pre3 : ∀ tg, Steps p.tables e below (T2.setTop (mkF m 6 #[.val (.ref a), .val (.ref dg), .val .null, .val .null] [(.ref dg), (.ref a)])) tg → G tg := fun tg kt => pre2s tg (by
    show Steps p.tables e below (T2.setTop (mkF m 4 #[.val (.ref a), .val (.ref dg), .val .null, .val .null] [])) _
    refine XS.aloadN X2.here hx rfl (hb hby d10_4) rfl rfl ?_
    show Steps p.tables e below (T2.setTop (mkF m 5 #[.val (.ref a), .val (.ref dg), .val .null, .val .null] [(.ref a)])) _
    refine XS.aloadN X2.here hx rfl (hb hby d10_5) rfl rfl ?_
    exact kt)
  obtain ⟨T4, h4, X4, e4, W4, st4⟩ := putF X2 hx hZ hown (host := "") (Or.inl (hw _ (List.mem_of_getElem? (i := 56) rfl))) Via.refl e2 F_digits E_a (Or.inr ⟨(hw _ (List.mem_of_getElem? (i := 57) rfl)), rfl, hnm⟩) (hw _ (List.mem_of_getElem? (i := 45) rfl)) (ty := (.object "java/lang/String")) (by decide) rfl rfl (g := (mkF m 6 #[.val (.ref a), .val (.ref dg), .val .null, .val .null] [(.ref dg), (.ref a)])) rfl rfl (hb hby d10_6)
  have pre4s : ∀ tg, Steps p.tables e below (T4.setTop (mkF m 9 #[.val (.ref a), .val (.ref dg), .val .null, .val .null] [])) tg → G tg := fun tg kt => pre3 tg (st4 tg kt)
  have E_a_5 := E_a.wr W4
  have F_digits_6 := F_digits.same W4
  have F_low_7 := F_low.other W4 (Or.inr (slot_ne (Or.inr (hw _ (List.mem_of_getElem? (i := 59) rfl))) (Or.inr (hw _ (List.mem_of_getElem? (i := 57) rfl))) (by decide) (t := (.object "java/lang/String")) (t' := (.object "java/lang/String")) (by decide) (by decide)))
  have F_high_8 := F_high.other W4 (Or.inr (slot_ne (Or.inr (hw _ (List.mem_of_getElem? (i := 61) rfl))) (Or.inr (hw _ (List.mem_of_getElem? (i := 57) rfl))) (by decide) (t := (.object "java/lang/String")) (t' := (.object "java/lang/String")) (by decide) (by decide)))
  have N4 := Fr.snoc X4 N2 O_a
  have Z4 : n0 ≤ h4.size := Nat.le_trans Z0 (Keep.of_wr W4).1
  have K4 : Keep h0 h4 [a] := (Keep.refl h0 [a]).wr W4 (Or.inl (List.mem_of_getElem? (i := 0) rfl))
  have pre9 : ∀ tg, Steps p.tables e below (T4.setTop (mkF m 11 #[.val (.ref a), .val (.ref dg), .val .null, .val .null] [.null, (.ref a)])) tg → G tg := fun tg kt => pre4s tg (by
    show Steps p.tables e below (T4.setTop (mkF m 9 #[.val (.ref a), .val (.ref dg), .val .null, .val .null] [])) _
    refine XS.aloadN X4.here hx rfl (hb hby d10_9) rfl rfl ?_
    show Steps p.tables e below (T4.setTop (mkF m 10 #[.val (.ref a), .val (.ref dg), .val .null, .val .null] [(.ref a)])) _
    refine XS.aloadN X4.here hx rfl (hb hby d10_10) rfl rfl ?_
    exact kt)
  obtain ⟨T10, h10, X10, e10, W10, st10⟩ := putF X4 hx hZ hown (host := "") (Or.inl (hw _ (List.mem_of_getElem? (i := 58) rfl))) Via.refl e4 F_low_7 E_a_5 (Or.inr ⟨(hw _ (List.mem_of_getElem? (i := 59) rfl)), rfl, hnm⟩) (hw _ (List.mem_of_getElem? (i := 45) rfl)) (ty := (.object "java/lang/String")) (by decide) rfl rfl (g := (mkF m 11 #[.val (.ref a), .val (.ref dg), .val .null, .val .null] [.null, (.ref a)])) rfl rfl (hb hby d10_11)
  have pre10s : ∀ tg, Steps p.tables e below (T10.setTop (mkF m 14 #[.val (.ref a), .val (.ref dg), .val .null, .val .null] [])) tg → G tg := fun tg kt => pre9 tg (st10 tg kt)
  have E_a_11 := E_a_5.wr W10
  have F_digits_12 := F_digits_6.other W10 (Or.inr (slot_ne (Or.inr (hw _ (List.mem_of_getElem? (i := 57) rfl))) (Or.inr (hw _ (List.mem_of_getElem? (i := 59) rfl))) (by decide) (t := (.object "java/lang/String")) (t' := (.object "java/lang/String")) (by decide) (by decide)))
  have F_low_13 := F_low_7.same W10
  have F_high_14 := F_high_8.other W10 (Or.inr (slot_ne (Or.inr (hw _ (List.mem_of_getElem? (i := 61) rfl))) (Or.inr (hw _ (List.mem_of_getElem? (i := 59) rfl))) (by decide) (t := (.object "java/lang/String")) (t' := (.object "java/lang/String")) (by decide) (by decide)))
  have N10 := Fr.snoc X10 N4 O_a
  have Z10 : n0 ≤ h10.size := Nat.le_trans Z4 (Keep.of_wr W10).1
  have K10 : Keep h0 h10 [a] := K4.wr W10 (Or.inl (List.mem_of_getElem? (i := 0) rfl))
  have pre15 : ∀ tg, Steps p.tables e below (T10.setTop (mkF m 16 #[.val (.ref a), .val (.ref dg), .val .null, .val .null] [.null, (.ref a)])) tg → G tg := fun tg kt => pre10s tg (by
    show Steps p.tables e below (T10.setTop (mkF m 14 #[.val (.ref a), .val (.ref dg), .val .null, .val .null] [])) _
    refine XS.aloadN X10.here hx rfl (hb hby d10_14) rfl rfl ?_
    show Steps p.tables e below (T10.setTop (mkF m 15 #[.val (.ref a), .val (.ref dg), .val .null, .val .null] [(.ref a)])) _
    refine XS.aloadN X10.here hx rfl (hb hby d10_15) rfl rfl ?_
    exact kt)
  obtain ⟨T16, h16, X16, e16, W16, st16⟩ := putF X10 hx hZ hown (host := "") (Or.inl (hw _ (List.mem_of_getElem? (i := 60) rfl))) Via.refl e10 F_high_14 E_a_11 (Or.inr ⟨(hw _ (List.mem_of_getElem? (i := 61) rfl)), rfl, hnm⟩) (hw _ (List.mem_of_getElem? (i := 45) rfl)) (ty := (.object "java/lang/String")) (by decide) rfl rfl (g := (mkF m 16 #[.val (.ref a), .val (.ref dg), .val .null, .val .null] [.null, (.ref a)])) rfl rfl (hb hby d10_16)
  have pre16s : ∀ tg, Steps p.tables e below (T16.setTop (mkF m 19 #[.val (.ref a), .val (.ref dg), .val .null, .val .null] [])) tg → G tg := fun tg kt => pre15 tg (st16 tg kt)
  have E_a_17 := E_a_11.wr W16
  have F_digits_18 := F_digits_12.other W16 (Or.inr (slot_ne (Or.inr (hw _ (List.mem_of_getElem? (i := 57) rfl))) (Or.inr (hw _ (List.mem_of_getElem? (i := 61) rfl))) (by decide) (t := (.object "java/lang/String")) (t' := (.object "java/lang/String")) (by decide) (by decide)))
  have F_low_19 := F_low_13.other W16 (Or.inr (slot_ne (Or.inr (hw _ (List.mem_of_getElem? (i := 59) rfl))) (Or.inr (hw _ (List.mem_of_getElem? (i := 61) rfl))) (by decide) (t := (.object "java/lang/String")) (t' := (.object "java/lang/String")) (by decide) (by decide)))
  have F_high_20 := F_high_14.same W16
  have N16 := Fr.snoc X16 N10 O_a
  have Z16 : n0 ≤ h16.size := Nat.le_trans Z10 (Keep.of_wr W16).1
  have K16 : Keep h0 h16 [a] := K10.wr W16 (Or.inl (List.mem_of_getElem? (i := 0) rfl))
  obtain ⟨fs, hr, hrun, hended, hW, hsame⟩ := X16.leave (v := none) (fun _ => rfl)
  subst hG
  refine ⟨_, _, pre16s _ ?_, hrun, hended, _, _, rfl, ?_, ⟨_, rfl⟩, hW, hsame.mono (by decide) (by decide)⟩
  · skip
    show Steps p.tables e below (T16.setTop (mkF m 19 #[.val (.ref a), .val (.ref dg), .val .null, .val .null] [])) _
    exact X16.returnOut hx Bd.returns (hb hby d10_19) hr
  · show Q_rmP_n Z a dg h0 n0 _ T16.heap _
    rw [e16]
    exact ⟨rfl, N16, K16, F_digits_18, F_low_19⟩
theorem ef_10_R_R_R_R (m : MethodId) (x0 : Addr) (x1 : Addr) (x2 : Addr) (x3 : Addr) : entryFrame m #[(.ref x0), (.ref x1), (.ref x2), (.ref x3)] 4 = mkF m 0 #[.val (.ref x0), .val (.ref x1), .val (.ref x2), .val (.ref x3)] [] := by first | (simp [entryFrame, mkF, argsToLocals, Value.category]; done) | rfl
def Q_rmP_r (Z : State) (a dg lo hi : Addr) (h0 : Heap) (n0 : Nat) (v : Option Value) (h : Heap) (L : List Loc) : Prop := v = none ∧ Fr n0 L ∧ Keep h0 h [a] ∧ Fld Z h a "com/example/ringfence/ringfence/NumberPattern" "digits" "Ljava/lang/String;" (.ref dg) ∧ Fld Z h a "com/example/ringfence/ringfence/NumberPattern" "low" "Ljava/lang/String;" (.ref lo)
set_option maxRecDepth 65536 in
set_option maxHeartbeats 40000000 in
theorem rmP_r (l : Launch) (Z : State) (a0 : Array Value) (hw : ∀ d ∈ tables_1, d.before a0 Z = true) (ws : List Jvm.Cond) (a dg lo hi : Addr) (h0 : Heap) (n0 : Nat) (Z0 : n0 ≤ h0.size) (E_a : Exa Z h0 a "com/example/ringfence/ringfence/NumberPattern") (O_a : n0 ≤ a) (F_digits : Fld Z h0 a "com/example/ringfence/ringfence/NumberPattern" "digits" "Ljava/lang/String;" .null) (F_low : Fld Z h0 a "com/example/ringfence/ringfence/NumberPattern" "low" "Ljava/lang/String;" .null) (F_high : Fld Z h0 a "com/example/ringfence/ringfence/NumberPattern" "high" "Ljava/lang/String;" .null) :
    MetFree l (⟨"com/example/ringfence/ringfence/NumberPattern", "<init>", "(Ljava/lang/String;Ljava/lang/String;Ljava/lang/String;)V"⟩ : MethodName) (head1 (Jvm.Cond.code (⟨"com/example/ringfence/ringfence/NumberPattern", "<init>", "(Ljava/lang/String;Ljava/lang/String;Ljava/lang/String;)V"⟩ : MethodName) prog_28_method_1_code 4 none :: ws) ({ frames := 2, cells := 0, slots := 0, locals := 48 } : Room)) (fun argv U => argv = #[(.ref a), (.ref dg), (.ref lo), (.ref hi)] ∧ Z.Warmed39 U.vm ∧ U.heap = h0) (fun _ _ _ _ _ => True) (fun _ U o U' => ∃ v L, o = .returned v ∧ Q_rmP_r Z a dg lo hi h0 n0 v U'.heap L ∧ FrameEnd U o U' L ({ frames := 2, cells := 0, slots := 0, locals := 48 } : Room).cells ({ frames := 2, cells := 0, slots := 0, locals := 48 } : Room).slots) := by
  refine MetFree.of_bodySF (plainFor_of_name pn_10) hisR ?_
  intro p e s m args below meth c s₁ Bd hml0 hP hK
  obtain ⟨rfl, hZ, hh⟩ := hP
  have hx := Bd.exec
  have hby := Bd.bytes
  have hml : c.maxLocals = 4 := hml0
  have hown : s.vm.findClass "com/example/ringfence/ringfence/NumberPattern" = some m.cls := findClass_of_methodNamed Bd.named
  have hnm := (name_of_methodNamed Bd.named Bd.method).1
  have X0 : Stand p l e ({ frames := 2, cells := 0, slots := 0, locals := 48 } : Room) s m #[(.ref a), (.ref dg), (.ref lo), (.ref hi)] below meth c s₁ [] 0 0 := Stand.of_body Bd
  have e0 : s₁.heap = h0 := by rw [← hh, Bd.state]; rfl
  have N0 := Fr.nil n0
  obtain ⟨G, hG⟩ : ∃ G : State → Prop, G = fun tg => Steps p.tables e below (s₁.setTop (entryFrame m #[(.ref a), (.ref dg), (.ref lo), (.ref hi)] 4)) tg := ⟨_, rfl⟩
  have pre0 : ∀ tg, Steps p.tables e below (s₁.setTop (mkF m 0 #[.val (.ref a), .val (.ref dg), .val (.ref lo), .val (.ref hi)] [])) tg → G tg := fun tg kt => by rw [hG]; exact castTop (ef_10_R_R_R_R m a dg lo hi) kt
  have pre1 : ∀ tg, Steps p.tables e below (s₁.setTop (mkF m 1 #[.val (.ref a), .val (.ref dg), .val (.ref lo), .val (.ref hi)] [(.ref a)])) tg → G tg := fun tg kt => pre0 tg (by
    show Steps p.tables e below (s₁.setTop (mkF m 0 #[.val (.ref a), .val (.ref dg), .val (.ref lo), .val (.ref hi)] [])) _
    refine XS.aloadN X0.here hx rfl (hb hby d10_0) rfl rfl ?_
    exact kt)
  obtain ⟨_, _, ⟨T2, L2, k2, n2⟩, -, X2, ⟨Lc2, hQ2, l2, y2, z2⟩, st2⟩ := X0.specialBack hx (y := (⟨"java/lang/Record", "<init>", "()V"⟩ : MethodName)) rfl hown (mvT hZ (hw _ (List.mem_of_getElem? (i := 50) rfl))) (mvT hZ (hw _ (List.mem_of_getElem? (i := 51) rfl))) (mvT hZ (hw _ (List.mem_of_getElem? (i := 54) rfl))) (by decide) (backOf (W := 0) (rmR l Z a0 hw [] a h0 n0 Z0 ) hZ (hw _ (List.mem_of_getElem? (i := 54) rfl)) (hw _ (List.mem_of_getElem? (i := 53) rfl)) (by decide) (by decide)) (g := (mkF m 1 #[.val (.ref a), .val (.ref dg), .val (.ref lo), .val (.ref hi)] [(.ref a)])) rfl (by rw [hml]; rfl) (Steps.refl _) (a := a) (argsL := []) (rest := []) (lenOf pd_7 rfl) rfl (by show 2 * 0 + _ ≤ _; exact Nat.le_of_eq rfl) (hb hby d10_1) (fun _ _ => ⟨rfl, e0, (Nat.le_of_ble_eq_true rfl), (Nat.le_of_ble_eq_true rfl)⟩)
  dsimp only [Pt.U, Pt.locs, Pt.cells, Pt.slots] at X2 l2 y2 z2 st2 hQ2
  subst l2 y2 z2
  obtain ⟨rfl, N2q, e2⟩ := hQ2
  have N2 := Fr.app N0 N2q
  have pre2s : ∀ tg, Steps p.tables e below (T2.setTop (mkF m 4 #[.val (.ref a), .val (.ref dg), .val (.ref lo), .val (.ref hi)] [])) tg → G tg := fun tg kt => pre1 tg (st2.trans kt)
  have pre3 : ∀ tg, Steps p.tables e below (T2.setTop (mkF m 6 #[.val (.ref a), .val (.ref dg), .val (.ref lo), .val (.ref hi)] [(.ref dg), (.ref a)])) tg → G tg := fun tg kt => pre2s tg (by
    show Steps p.tables e below (T2.setTop (mkF m 4 #[.val (.ref a), .val (.ref dg), .val (.ref lo), .val (.ref hi)] [])) _
    refine XS.aloadN X2.here hx rfl (hb hby d10_4) rfl rfl ?_
    show Steps p.tables e below (T2.setTop (mkF m 5 #[.val (.ref a), .val (.ref dg), .val (.ref lo), .val (.ref hi)] [(.ref a)])) _
    refine XS.aloadN X2.here hx rfl (hb hby d10_5) rfl rfl ?_
    exact kt)
  obtain ⟨T4, h4, X4, e4, W4, st4⟩ := putF X2 hx hZ hown (host := "") (Or.inl (hw _ (List.mem_of_getElem? (i := 56) rfl))) Via.refl e2 F_digits E_a (Or.inr ⟨(hw _ (List.mem_of_getElem? (i := 57) rfl)), rfl, hnm⟩) (hw _ (List.mem_of_getElem? (i := 45) rfl)) (ty := (.object "java/lang/String")) (by decide) rfl rfl (g := (mkF m 6 #[.val (.ref a), .val (.ref dg), .val (.ref lo), .val (.ref hi)] [(.ref dg), (.ref a)])) rfl rfl (hb hby d10_6)
  have pre4s : ∀ tg, Steps p.tables e below (T4.setTop (mkF m 9 #[.val (.ref a), .val (.ref dg), .val (.ref lo), .val (.ref hi)] [])) tg → G tg := fun tg kt => pre3 tg (st4 tg kt)
  have E_a_5 := E_a.wr W4
  have F_digits_6 := F_digits.same W4
  have F_low_7 := F_low.other W4 (Or.inr (slot_ne (Or.inr (hw _ (List.mem_of_getElem? (i := 59) rfl))) (Or.inr (hw _ (List.mem_of_getElem? (i := 57) rfl))) (by decide) (t := (.object "java/lang/String")) (t' := (.object "java/lang/String")) (by decide) (by decide)))
  have F_high_8 := F_high.other W4 (Or.inr (slot_ne (Or.inr (hw _ (List.mem_of_getElem? (i := 61) rfl))) (Or.inr (hw _ (List.mem_of_getElem? (i := 57) rfl))) (by decide) (t := (.object "java/lang/String")) (t' := (.object "java/lang/String")) (by decide) (by decide)))
  have N4 := Fr.snoc X4 N2 O_a
  have Z4 : n0 ≤ h4.size := Nat.le_trans Z0 (Keep.of_wr W4).1
  have K4 : Keep h0 h4 [a] := (Keep.refl h0 [a]).wr W4 (Or.inl (List.mem_of_getElem? (i := 0) rfl))
  have pre9 : ∀ tg, Steps p.tables e below (T4.setTop (mkF m 11 #[.val (.ref a), .val (.ref dg), .val (.ref lo), .val (.ref hi)] [(.ref lo), (.ref a)])) tg → G tg := fun tg kt => pre4s tg (by
    show Steps p.tables e below (T4.setTop (mkF m 9 #[.val (.ref a), .val (.ref dg), .val (.ref lo), .val (.ref hi)] [])) _
    refine XS.aloadN X4.here hx rfl (hb hby d10_9) rfl rfl ?_
    show Steps p.tables e below (T4.setTop (mkF m 10 #[.val (.ref a), .val (.ref dg), .val (.ref lo), .val (.ref hi)] [(.ref a)])) _
    refine XS.aloadN X4.here hx rfl (hb hby d10_10) rfl rfl ?_
    exact kt)
  obtain ⟨T10, h10, X10, e10, W10, st10⟩ := putF X4 hx hZ hown (host := "") (Or.inl (hw _ (List.mem_of_getElem? (i := 58) rfl))) Via.refl e4 F_low_7 E_a_5 (Or.inr ⟨(hw _ (List.mem_of_getElem? (i := 59) rfl)), rfl, hnm⟩) (hw _ (List.mem_of_getElem? (i := 45) rfl)) (ty := (.object "java/lang/String")) (by decide) rfl rfl (g := (mkF m 11 #[.val (.ref a), .val (.ref dg), .val (.ref lo), .val (.ref hi)] [(.ref lo), (.ref a)])) rfl rfl (hb hby d10_11)
  have pre10s : ∀ tg, Steps p.tables e below (T10.setTop (mkF m 14 #[.val (.ref a), .val (.ref dg), .val (.ref lo), .val (.ref hi)] [])) tg → G tg := fun tg kt => pre9 tg (st10 tg kt)
  have E_a_11 := E_a_5.wr W10
  have F_digits_12 := F_digits_6.other W10 (Or.inr (slot_ne (Or.inr (hw _ (List.mem_of_getElem? (i := 57) rfl))) (Or.inr (hw _ (List.mem_of_getElem? (i := 59) rfl))) (by decide) (t := (.object "java/lang/String")) (t' := (.object "java/lang/String")) (by decide) (by decide)))
  have F_low_13 := F_low_7.same W10
  have F_high_14 := F_high_8.other W10 (Or.inr (slot_ne (Or.inr (hw _ (List.mem_of_getElem? (i := 61) rfl))) (Or.inr (hw _ (List.mem_of_getElem? (i := 59) rfl))) (by decide) (t := (.object "java/lang/String")) (t' := (.object "java/lang/String")) (by decide) (by decide)))
  have N10 := Fr.snoc X10 N4 O_a
  have Z10 : n0 ≤ h10.size := Nat.le_trans Z4 (Keep.of_wr W10).1
  have K10 : Keep h0 h10 [a] := K4.wr W10 (Or.inl (List.mem_of_getElem? (i := 0) rfl))
  have pre15 : ∀ tg, Steps p.tables e below (T10.setTop (mkF m 16 #[.val (.ref a), .val (.ref dg), .val (.ref lo), .val (.ref hi)] [(.ref hi), (.ref a)])) tg → G tg := fun tg kt => pre10s tg (by
    show Steps p.tables e below (T10.setTop (mkF m 14 #[.val (.ref a), .val (.ref dg), .val (.ref lo), .val (.ref hi)] [])) _
    refine XS.aloadN X10.here hx rfl (hb hby d10_14) rfl rfl ?_
    show Steps p.tables e below (T10.setTop (mkF m 15 #[.val (.ref a), .val (.ref dg), .val (.ref lo), .val (.ref hi)] [(.ref a)])) _
    refine XS.aloadN X10.here hx rfl (hb hby d10_15) rfl rfl ?_
    exact kt)
  obtain ⟨T16, h16, X16, e16, W16, st16⟩ := putF X10 hx hZ hown (host := "") (Or.inl (hw _ (List.mem_of_getElem? (i := 60) rfl))) Via.refl e10 F_high_14 E_a_11 (Or.inr ⟨(hw _ (List.mem_of_getElem? (i := 61) rfl)), rfl, hnm⟩) (hw _ (List.mem_of_getElem? (i := 45) rfl)) (ty := (.object "java/lang/String")) (by decide) rfl rfl (g := (mkF m 16 #[.val (.ref a), .val (.ref dg), .val (.ref lo), .val (.ref hi)] [(.ref hi), (.ref a)])) rfl rfl (hb hby d10_16)
  have pre16s : ∀ tg, Steps p.tables e below (T16.setTop (mkF m 19 #[.val (.ref a), .val (.ref dg), .val (.ref lo), .val (.ref hi)] [])) tg → G tg := fun tg kt => pre15 tg (st16 tg kt)
  have E_a_17 := E_a_11.wr W16
  have F_digits_18 := F_digits_12.other W16 (Or.inr (slot_ne (Or.inr (hw _ (List.mem_of_getElem? (i := 57) rfl))) (Or.inr (hw _ (List.mem_of_getElem? (i := 61) rfl))) (by decide) (t := (.object "java/lang/String")) (t' := (.object "java/lang/String")) (by decide) (by decide)))
  have F_low_19 := F_low_13.other W16 (Or.inr (slot_ne (Or.inr (hw _ (List.mem_of_getElem? (i := 59) rfl))) (Or.inr (hw _ (List.mem_of_getElem? (i := 61) rfl))) (by decide) (t := (.object "java/lang/String")) (t' := (.object "java/lang/String")) (by decide) (by decide)))
  have F_high_20 := F_high_14.same W16
  have N16 := Fr.snoc X16 N10 O_a
  have Z16 : n0 ≤ h16.size := Nat.le_trans Z10 (Keep.of_wr W16).1
  have K16 : Keep h0 h16 [a] := K10.wr W16 (Or.inl (List.mem_of_getElem? (i := 0) rfl))
  obtain ⟨fs, hr, hrun, hended, hW, hsame⟩ := X16.leave (v := none) (fun _ => rfl)
  subst hG
  refine ⟨_, _, pre16s _ ?_, hrun, hended, _, _, rfl, ?_, ⟨_, rfl⟩, hW, hsame.mono (by decide) (by decide)⟩
  · skip
    show Steps p.tables e below (T16.setTop (mkF m 19 #[.val (.ref a), .val (.ref dg), .val (.ref lo), .val (.ref hi)] [])) _
    exact X16.returnOut hx Bd.returns (hb hby d10_19) hr
  · show Q_rmP_r Z a dg lo hi h0 n0 _ T16.heap _
    rw [e16]
    exact ⟨rfl, N16, K16, F_digits_18, F_low_19⟩
theorem pn_12 : plainName "com/example/ringfence/ringfence/NumberPattern" = true := by first | (simp [plainName, overriddenIn]; done) | decide +kernel
theorem ef_12_R (m : MethodId) (x0 : Addr) : entryFrame m #[(.ref x0)] 1 = mkF m 0 #[.val (.ref x0)] [] := by first | (simp [entryFrame, mkF, argsToLocals, Value.category]; done) | rfl
theorem pd_8 : parseMethodDescriptor "()I" = some ⟨[], some .int⟩ := by decide +kernel
theorem d12_0 : decode prog_28_method_4_code 0 = .ok (.aload_n 0, 1) := by decide +kernel
theorem d12_1 : decode prog_28_method_4_code 1 = .ok (.getfield 13, 3) := by decide +kernel
theorem d12_4 : decode prog_28_method_4_code 4 = .ok (.ifnull 18, 3) := by decide +kernel
theorem d12_22 : decode prog_28_method_4_code 22 = .ok (.aload_n 0, 1) := by decide +kernel
theorem d12_23 : decode prog_28_method_4_code 23 = .ok (.getfield 7, 3) := by decide +kernel
theorem d12_26 : decode prog_28_method_4_code 26 = .ok (.invokevirtual 21, 3) := by decide +kernel
theorem d12_29 : decode prog_28_method_4_code 29 = .ok (.ireturn, 1) := by decide +kernel
def Q_rmQ_n (Z : State) (a dg vd : Addr) (kd : ClassId) (nd : Int32) (vsd : List Value) (h0 : Heap) (n0 : Nat) (v : Option Value) (h : Heap) (L : List Loc) : Prop := v = some (.int nd) ∧ Fr n0 L ∧ h = h0
set_option maxRecDepth 65536 in
set_option maxHeartbeats 40000000 in
theorem rmQ_n (l : Launch) (Z : State) (a0 : Array Value) (hw : ∀ d ∈ tables_1, d.before a0 Z = true) (ws : List Jvm.Cond) (a dg vd : Addr) (kd : ClassId) (nd : Int32) (vsd : List Value) (h0 : Heap) (n0 : Nat) (Z0 : n0 ≤ h0.size) (hs : own_st Z) (Ol : Old Z n0 h0) (F_d : Fld Z h0 a "com/example/ringfence/ringfence/NumberPattern" "digits" "Ljava/lang/String;" (.ref dg)) (F_l : Fld Z h0 a "com/example/ringfence/ringfence/NumberPattern" "low" "Ljava/lang/String;" .null) (E_d : Exa Z h0 dg "java/lang/String") (F_dc : Fld Z h0 dg "java/lang/String" "coder" "B" (.int (0 : Int32))) (F_dv : Fld Z h0 dg "java/lang/String" "value" "[B" (.ref vd)) (V_d : Arv Z h0 vd kd .byte nd vsd (.int (0 : Int32))) :
    MetFree l (⟨"com/example/ringfence/ringfence/NumberPattern", "rank", "()I"⟩ : MethodName) (head1 (Jvm.Cond.code (⟨"com/example/ringfence/ringfence/NumberPattern", "rank", "()I"⟩ : MethodName) prog_28_method_4_code 1 (some .int) :: ws) ({ frames := 2, cells := 0, slots := 0, locals := 48 } : Room)) (fun argv U => argv = #[(.ref a)] ∧ Z.Warmed39 U.vm ∧ U.heap = h0) (fun _ _ _ _ _ => True) (fun _ U o U' => ∃ v L, o = .returned v ∧ Q_rmQ_n Z a dg vd kd nd vsd h0 n0 v U'.heap L ∧ FrameEnd U o U' L ({ frames := 2, cells := 0, slots := 0, locals := 48 } : Room).cells ({ frames := 2, cells := 0, slots := 0, locals := 48 } : Room).slots) := by
  refine MetFree.of_bodySF (plainFor_of_name pn_12) hisR ?_
  intro p e s m args below meth c s₁ Bd hml0 hP hK
  obtain ⟨rfl, hZ, hh⟩ := hP
  have hx := Bd.exec
  have hby := Bd.bytes
  have hml : c.maxLocals = 1 := hml0
  have hown : s.vm.findClass "com/example/ringfence/ringfence/NumberPattern" = some m.cls := findClass_of_methodNamed Bd.named
  have hnm := (name_of_methodNamed Bd.named Bd.method).1
  have X0 : Stand p l e ({ frames := 2, cells := 0, slots := 0, locals := 48 } : Room) s m #[(.ref a)] below meth c s₁ [] 0 0 := Stand.of_body Bd
  have e0 : s₁.heap = h0 := by rw [← hh, Bd.state]; rfl
  have N0 := Fr.nil n0
  obtain ⟨G, hG⟩ : ∃ G : State → Prop, G = fun tg => Steps p.tables e below (s₁.setTop (entryFrame m #[(.ref a)] 1)) tg := ⟨_, rfl⟩
  have pre0 : ∀ tg, Steps p.tables e below (s₁.setTop (mkF m 0 #[.val (.ref a)] [])) tg → G tg := fun tg kt => by rw [hG]; exact castTop (ef_12_R m a) kt
  have pre1 : ∀ tg, Steps p.tables e below (s₁.setTop (mkF m 1 #[.val (.ref a)] [(.ref a)])) tg → G tg := fun tg kt => pre0 tg (by
    show Steps p.tables e below (s₁.setTop (mkF m 0 #[.val (.ref a)] [])) _
    refine XS.aloadN X0.here hx rfl (hb hby d12_0) rfl rfl ?_
    exact kt)
  obtain ⟨T2, X2, e2, st2⟩ := getF X0 hx hZ hown (host := "") (Or.inl (hw _ (List.mem_of_getElem? (i := 58) rfl))) Via.refl e0 F_l (g := (mkF m 1 #[.val (.ref a)] [(.ref a)])) rfl rfl (hb hby d12_1)
  have pre2s : ∀ tg, Steps p.tables e below (T2.setTop (mkF m 4 #[.val (.ref a)] [.null])) tg → G tg := fun tg kt => pre1 tg (st2 tg kt)
  have pre3 : ∀ tg, Steps p.tables e below (T2.setTop (mkF m 23 #[.val (.ref a)] [(.ref a)])) tg → G tg := fun tg kt => pre2s tg (by
    show Steps p.tables e below (T2.setTop (mkF m 4 #[.val (.ref a)] [.null])) _
    refine XS.ifnullYes X2.here hx rfl (pc0 := 4) (pc' := 22) rfl (hb hby d12_4) rfl (by decide) (by decide) ?_
    show Steps p.tables e below (T2.setTop (mkF m 22 #[.val (.ref a)] [])) _
    refine XS.aloadN X2.here hx rfl (hb hby d12_22) rfl rfl ?_
    exact kt)
  obtain ⟨T4, X4, e4, st4⟩ := getF X2 hx hZ hown (host := "") (Or.inl (hw _ (List.mem_of_getElem? (i := 56) rfl))) Via.refl e2 F_d (g := (mkF m 23 #[.val (.ref a)] [(.ref a)])) rfl rfl (hb hby d12_23)
  have pre4s : ∀ tg, Steps p.tables e below (T4.setTop (mkF m 26 #[.val (.ref a)] [(.ref dg)])) tg → G tg := fun tg kt => pre3 tg (st4 tg kt)
  obtain ⟨cq5, kq5, q5a, q5b, q5c⟩ := isOf hZ e4 E_d
  obtain ⟨_, _, ⟨T5, L5, k5, n5⟩, -, X5, ⟨Lc5, hQ5, l5, y5, z5⟩, st5⟩ := X4.virtualBack hx (y := (⟨"java/lang/String", "length", "()I"⟩ : MethodName)) (z := (⟨"java/lang/String", "length", "()I"⟩ : MethodName)) hown (mvT hZ (hw _ (List.mem_of_getElem? (i := 72) rfl))) (mvT hZ (hw _ (List.mem_of_getElem? (i := 73) rfl))) (notFace_of_selects (args := #[]) (mvT hZ (hw _ (List.mem_of_getElem? (i := 75) rfl)))) (mvT hZ (hw _ (List.mem_of_getElem? (i := 75) rfl))) (mvT hZ (hw _ (List.mem_of_getElem? (i := 74) rfl))) (by decide) (backOf (W := 0) (rmL l Z a0 hw [] dg vd kd nd vsd h0 n0 Z0 hs Ol E_d F_dc F_dv V_d) hZ (hw _ (List.mem_of_getElem? (i := 76) rfl)) (hw _ (List.mem_of_getElem? (i := 7) rfl)) (by decide) (by decide)) q5a q5c (g := (mkF m 26 #[.val (.ref a)] [(.ref dg)])) rfl (by rw [hml]; rfl) (Steps.refl _) (argsL := []) (rest := []) (lenOf pd_8 rfl) rfl (by show 2 * 0 + _ ≤ _; exact Nat.le_of_eq rfl) (hb hby d12_26) (fun _ _ => ⟨rfl, e4, (Nat.le_of_ble_eq_true rfl), (Nat.le_of_ble_eq_true rfl)⟩)
  dsimp only [Pt.U, Pt.locs, Pt.cells, Pt.slots] at X5 l5 y5 z5 st5 hQ5
  subst l5 y5 z5
  obtain ⟨rfl, N5q, e5⟩ := hQ5
  have N5 := Fr.app N0 N5q
  have pre5s : ∀ tg, Steps p.tables e below (T5.setTop (mkF m 29 #[.val (.ref a)] [(.int nd)])) tg → G tg := fun tg kt => pre4s tg (st5.trans kt)
  obtain ⟨fs, hr, hrun, hended, hW, hsame⟩ := X5.leave (v := some (.int nd)) (fun h => by rw [Bd.returns] at h; cases h)
  subst hG
  refine ⟨_, _, pre5s _ ?_, hrun, hended, _, _, rfl, ?_, ⟨_, rfl⟩, hW, hsame.mono (by decide) (by decide)⟩
  · skip
    show Steps p.tables e below (T5.setTop (mkF m 29 #[.val (.ref a)] [(.int nd)])) _
    exact retI X5 hx Bd.returns (hb hby d12_29) hr
  · show Q_rmQ_n Z a dg vd kd nd vsd h0 n0 _ T5.heap _
    rw [e5]
    exact ⟨rfl, N5, rfl⟩
theorem pd_9 : parseMethodDescriptor "()Z" = some ⟨[], some .boolean⟩ := by decide +kernel
theorem d12_7 : decode prog_28_method_4_code 7 = .ok (.aload_n 0, 1) := by decide +kernel
theorem d12_8 : decode prog_28_method_4_code 8 = .ok (.getfield 13, 3) := by decide +kernel
theorem d12_11 : decode prog_28_method_4_code 11 = .ok (.invokevirtual 56, 3) := by decide +kernel
theorem d12_14 : decode prog_28_method_4_code 14 = .ok (.ifCond .eq 8, 3) := by decide +kernel
def Q_rmQ_s (Z : State) (a dg vd : Addr) (kd : ClassId) (nd : Int32) (vsd : List Value) (lo vl : Addr) (kl : ClassId) (nl : Int32) (vsl : List Value) (h0 : Heap) (n0 : Nat) (v : Option Value) (h : Heap) (L : List Loc) : Prop := v = some (.int nd) ∧ Fr n0 L ∧ h = h0
set_option maxRecDepth 65536 in
set_option maxHeartbeats 40000000 in
theorem rmQ_s (l : Launch) (Z : State) (a0 : Array Value) (hw : ∀ d ∈ tables_1, d.before a0 Z = true) (ws : List Jvm.Cond) (a dg vd : Addr) (kd : ClassId) (nd : Int32) (vsd : List Value) (lo vl : Addr) (kl : ClassId) (nl : Int32) (vsl : List Value) (h0 : Heap) (n0 : Nat) (Z0 : n0 ≤ h0.size) (hs : own_st Z) (Ol : Old Z n0 h0) (F_d : Fld Z h0 a "com/example/ringfence/ringfence/NumberPattern" "digits" "Ljava/lang/String;" (.ref dg)) (F_l : Fld Z h0 a "com/example/ringfence/ringfence/NumberPattern" "low" "Ljava/lang/String;" (.ref lo)) (E_d : Exa Z h0 dg "java/lang/String") (F_dc : Fld Z h0 dg "java/lang/String" "coder" "B" (.int (0 : Int32))) (F_dv : Fld Z h0 dg "java/lang/String" "value" "[B" (.ref vd)) (V_d : Arv Z h0 vd kd .byte nd vsd (.int (0 : Int32))) (E_l : Exa Z h0 lo "java/lang/String") (F_lv : Fld Z h0 lo "java/lang/String" "value" "[B" (.ref vl)) (V_l : Arv Z h0 vl kl .byte nl vsl (.int (0 : Int32))) (g : ¬ nl = (0 : Int32)) :
    MetFree l (⟨"com/example/ringfence/ringfence/NumberPattern", "rank", "()I"⟩ : MethodName) (head1 (Jvm.Cond.code (⟨"com/example/ringfence/ringfence/NumberPattern", "rank", "()I"⟩ : MethodName) prog_28_method_4_code 1 (some .int) :: ws) ({ frames := 2, cells := 0, slots := 0, locals := 48 } : Room)) (fun argv U => argv = #[(.ref a)] ∧ Z.Warmed39 U.vm ∧ U.heap = h0) (fun _ _ _ _ _ => True) (fun _ U o U' => ∃ v L, o = .returned v ∧ Q_rmQ_s Z a dg vd kd nd vsd lo vl kl nl vsl h0 n0 v U'.heap L ∧ FrameEnd U o U' L ({ frames := 2, cells := 0, slots := 0, locals := 48 } : Room).cells ({ frames := 2, cells := 0, slots := 0, locals := 48 } : Room).slots) := by
  refine MetFree.of_bodySF (plainFor_of_name pn_12) hisR ?_
  intro p e s m args below meth c s₁ Bd hml0 hP hK
  obtain ⟨rfl, hZ, hh⟩ := hP
  have hx := Bd.exec
  have hby := Bd.bytes
  have hml : c.maxLocals = 1 := hml0
  have hown : s.vm.findClass "com/example/ringfence/ringfence/NumberPattern" = some m.cls := findClass_of_methodNamed Bd.named
  have hnm := (name_of_methodNamed Bd.named Bd.method).1
  have X0 : Stand p l e ({ frames := 2, cells := 0, slots := 0, locals := 48 } : Room) s m #[(.ref a)] below meth c s₁ [] 0 0 := Stand.of_body Bd
  have e0 : s₁.heap = h0 := by rw [← hh, Bd.state]; rfl
  have N0 := Fr.nil n0
  obtain ⟨G, hG⟩ : ∃ G : State → Prop, G = fun tg => Steps p.tables e below (s₁.setTop (entryFrame m #[(.ref a)] 1)) tg := ⟨_, rfl⟩
  have pre0 : ∀ tg, Steps p.tables e below (s₁.setTop (mkF m 0 #[.val (.ref a)] [])) tg → G tg := fun tg kt => by rw [hG]; exact castTop (ef_12_R m a) kt
  have pre1 : ∀ tg, Steps p.tables e below (s₁.setTop (mkF m 1 #[.val (.ref a)] [(.ref a)])) tg → G tg := fun tg kt => pre0 tg (by
    show Steps p.tables e below (s₁.setTop (mkF m 0 #[.val (.ref a)] [])) _
    refine XS.aloadN X0.here hx rfl (hb hby d12_0) rfl rfl ?_
    exact kt)
  obtain ⟨T2, X2, e2, st2⟩ := getF X0 hx hZ hown (host := "") (Or.inl (hw _ (List.mem_of_getElem? (i := 58) rfl))) Via.refl e0 F_l (g := (mkF m 1 #[.val (.ref a)] [(.ref a)])) rfl rfl (hb hby d12_1)
  have pre2s : ∀ tg, Steps p.tables e below (T2.setTop (mkF m 4 #[.val (.ref a)] [(.ref lo)])) tg → G tg := fun tg kt => pre1 tg (st2 tg kt)
  have pre3 : ∀ tg, Steps p.tables e below (T2.setTop (mkF m 8 #[.val (.ref a)] [(.ref a)])) tg → G tg := fun tg kt => pre2s tg (by
    show Steps p.tables e below (T2.setTop (mkF m 4 #[.val (.ref a)] [(.ref lo)])) _
    refine XS.ifnullNo X2.here hx rfl (hb hby d12_4) rfl ?_
    show Steps p.tables e below (T2.setTop (mkF m 7 #[.val (.ref a)] [])) _
    refine XS.aloadN X2.here hx rfl (hb hby d12_7) rfl rfl ?_
    exact kt)
  obtain ⟨T4, X4, e4, st4⟩ := getF X2 hx hZ hown (host := "") (Or.inl (hw _ (List.mem_of_getElem? (i := 58) rfl))) Via.refl e2 F_l (g := (mkF m 8 #[.val (.ref a)] [(.ref a)])) rfl rfl (hb hby d12_8)
  have pre4s : ∀ tg, Steps p.tables e below (T4.setTop (mkF m 11 #[.val (.ref a)] [(.ref lo)])) tg → G tg := fun tg kt => pre3 tg (st4 tg kt)
  obtain ⟨cq5, kq5, q5a, q5b, q5c⟩ := isOf hZ e4 E_l
  obtain ⟨_, _, ⟨T5, L5, k5, n5⟩, -, X5, ⟨Lc5, hQ5, l5, y5, z5⟩, st5⟩ := X4.virtualBack hx (y := (⟨"java/lang/String", "isEmpty", "()Z"⟩ : MethodName)) (z := (⟨"java/lang/String", "isEmpty", "()Z"⟩ : MethodName)) hown (mvT hZ (hw _ (List.mem_of_getElem? (i := 67) rfl))) (mvT hZ (hw _ (List.mem_of_getElem? (i := 68) rfl))) (notFace_of_selects (args := #[]) (mvT hZ (hw _ (List.mem_of_getElem? (i := 70) rfl)))) (mvT hZ (hw _ (List.mem_of_getElem? (i := 70) rfl))) (mvT hZ (hw _ (List.mem_of_getElem? (i := 69) rfl))) (by decide) (backOf (W := 0) (rmM_0 l Z a0 hw [] lo vl kl nl vsl h0 n0 Z0 F_lv V_l g) hZ (hw _ (List.mem_of_getElem? (i := 71) rfl)) (hw _ (List.mem_of_getElem? (i := 7) rfl)) (by decide) (by decide)) q5a q5c (g := (mkF m 11 #[.val (.ref a)] [(.ref lo)])) rfl (by rw [hml]; rfl) (Steps.refl _) (argsL := []) (rest := []) (lenOf pd_9 rfl) rfl (by show 2 * 0 + _ ≤ _; exact Nat.le_of_eq rfl) (hb hby d12_11) (fun _ _ => ⟨rfl, e4, (Nat.le_of_ble_eq_true rfl), (Nat.le_of_ble_eq_true rfl)⟩)
  dsimp only [Pt.U, Pt.locs, Pt.cells, Pt.slots] at X5 l5 y5 z5 st5 hQ5
  subst l5 y5 z5
  obtain ⟨rfl, N5q, e5⟩ := hQ5
  have N5 := Fr.app N0 N5q
  have pre5s : ∀ tg, Steps p.tables e below (T5.setTop (mkF m 14 #[.val (.ref a)] [(.int (0 : Int32))])) tg → G tg := fun tg kt => pre4s tg (st5.trans kt)
  have pre6 : ∀ tg, Steps p.tables e below (T5.setTop (mkF m 23 #[.val (.ref a)] [(.ref a)])) tg → G tg := fun tg kt => pre5s tg (by
    show Steps p.tables e below (T5.setTop (mkF m 14 #[.val (.ref a)] [(.int (0 : Int32))])) _
    refine XS.ifYes X5.here hx rfl (pc0 := 14) (pc' := 22) rfl (hb hby d12_14) rfl ((if0 _ _).trans (teq (by decide : (0 : Int32) = (0 : Int32))).1) (by decide) (by decide) ?_
    show Steps p.tables e below (T5.setTop (mkF m 22 #[.val (.ref a)] [])) _
    refine XS.aloadN X5.here hx rfl (hb hby d12_22) rfl rfl ?_
    exact kt)
  obtain ⟨T7, X7, e7, st7⟩ := getF X5 hx hZ hown (host := "") (Or.inl (hw _ (List.mem_of_getElem? (i := 56) rfl))) Via.refl e5 F_d (g := (mkF m 23 #[.val (.ref a)] [(.ref a)])) rfl rfl (hb hby d12_23)
  have pre7s : ∀ tg, Steps p.tables e below (T7.setTop (mkF m 26 #[.val (.ref a)] [(.ref dg)])) tg → G tg := fun tg kt => pre6 tg (st7 tg kt)
  obtain ⟨cq8, kq8, q8a, q8b, q8c⟩ := isOf hZ e7 E_d
  obtain ⟨_, _, ⟨T8, L8, k8, n8⟩, -, X8, ⟨Lc8, hQ8, l8, y8, z8⟩, st8⟩ := X7.virtualBack hx (y := (⟨"java/lang/String", "length", "()I"⟩ : MethodName)) (z := (⟨"java/lang/String", "length", "()I"⟩ : MethodName)) hown (mvT hZ (hw _ (List.mem_of_getElem? (i := 72) rfl))) (mvT hZ (hw _ (List.mem_of_getElem? (i := 73) rfl))) (notFace_of_selects (args := #[]) (mvT hZ (hw _ (List.mem_of_getElem? (i := 75) rfl)))) (mvT hZ (hw _ (List.mem_of_getElem? (i := 75) rfl))) (mvT hZ (hw _ (List.mem_of_getElem? (i := 74) rfl))) (by decide) (backOf (W := 0) (rmL l Z a0 hw [] dg vd kd nd vsd h0 n0 Z0 hs Ol E_d F_dc F_dv V_d) hZ (hw _ (List.mem_of_getElem? (i := 76) rfl)) (hw _ (List.mem_of_getElem? (i := 7) rfl)) (by decide) (by decide)) q8a q8c (g := (mkF m 26 #[.val (.ref a)] [(.ref dg)])) rfl (by rw [hml]; rfl) (Steps.refl _) (argsL := []) (rest := []) (lenOf pd_8 rfl) rfl (by show 2 * 0 + _ ≤ _; exact Nat.le_of_eq rfl) (hb hby d12_26) (fun _ _ => ⟨rfl, e7, (Nat.le_of_ble_eq_true rfl), (Nat.le_of_ble_eq_true rfl)⟩)
  dsimp only [Pt.U, Pt.locs, Pt.cells, Pt.slots] at X8 l8 y8 z8 st8 hQ8
  subst l8 y8 z8
  obtain ⟨rfl, N8q, e8⟩ := hQ8
  have N8 := Fr.app N5 N8q
  have pre8s : ∀ tg, Steps p.tables e below (T8.setTop (mkF m 29 #[.val (.ref a)] [(.int nd)])) tg → G tg := fun tg kt => pre7s tg (st8.trans kt)
  obtain ⟨fs, hr, hrun, hended, hW, hsame⟩ := X8.leave (v := some (.int nd)) (fun h => by rw [Bd.returns] at h; cases h)
  subst hG
  refine ⟨_, _, pre8s _ ?_, hrun, hended, _, _, rfl, ?_, ⟨_, rfl⟩, hW, hsame.mono (by decide) (by decide)⟩
  · skip
    show Steps p.tables e below (T8.setTop (mkF m 29 #[.val (.ref a)] [(.int nd)])) _
    exact retI X8 hx Bd.returns (hb hby d12_29) hr
  · show Q_rmQ_s Z a dg vd kd nd vsd lo vl kl nl vsl h0 n0 _ T8.heap _
    rw [e8]
    exact ⟨rfl, N8, rfl⟩
theorem d12_17 : decode prog_28_method_4_code 17 = .ok (.ldc 89, 2) := by decide +kernel
theorem d12_19 : decode prog_28_method_4_code 19 = .ok (.goto 10, 3) := by decide +kernel
def Q_rmQ_e (Z : State) (a dg vd : Addr) (kd : ClassId) (nd : Int32) (vsd : List Value) (lo vl : Addr) (kl : ClassId) (nl : Int32) (vsl : List Value) (h0 : Heap) (n0 : Nat) (v : Option Value) (h : Heap) (L : List Loc) : Prop := v = some (.int (2147483647 : Int32)) ∧ Fr n0 L ∧ h = h0
set_option maxRecDepth 65536 in
set_option maxHeartbeats 40000000 in
theorem rmQ_e (l : Launch) (Z : State) (a0 : Array Value) (hw : ∀ d ∈ tables_1, d.before a0 Z = true) (ws : List Jvm.Cond) (a dg vd : Addr) (kd : ClassId) (nd : Int32) (vsd : List Value) (lo vl : Addr) (kl : ClassId) (nl : Int32) (vsl : List Value) (h0 : Heap) (n0 : Nat) (Z0 : n0 ≤ h0.size) (hs : own_st Z) (Ol : Old Z n0 h0) (F_d : Fld Z h0 a "com/example/ringfence/ringfence/NumberPattern" "digits" "Ljava/lang/String;" (.ref dg)) (F_l : Fld Z h0 a "com/example/ringfence/ringfence/NumberPattern" "low" "Ljava/lang/String;" (.ref lo)) (E_d : Exa Z h0 dg "java/lang/String") (F_dc : Fld Z h0 dg "java/lang/String" "coder" "B" (.int (0 : Int32))) (F_dv : Fld Z h0 dg "java/lang/String" "value" "[B" (.ref vd)) (V_d : Arv Z h0 vd kd .byte nd vsd (.int (0 : Int32))) (E_l : Exa Z h0 lo "java/lang/String") (F_lv : Fld Z h0 lo "java/lang/String" "value" "[B" (.ref vl)) (V_l : Arv Z h0 vl kl .byte nl vsl (.int (0 : Int32))) (g : nl = (0 : Int32)) :
    MetFree l (⟨"com/example/ringfence/ringfence/NumberPattern", "rank", "()I"⟩ : MethodName) (head1 (Jvm.Cond.code (⟨"com/example/ringfence/ringfence/NumberPattern", "rank", "()I"⟩ : MethodName) prog_28_method_4_code 1 (some .int) :: ws) ({ frames := 2, cells := 0, slots := 0, locals := 48 } : Room)) (fun argv U => argv = #[(.ref a)] ∧ Z.Warmed39 U.vm ∧ U.heap = h0) (fun _ _ _ _ _ => True) (fun _ U o U' => ∃ v L, o = .returned v ∧ Q_rmQ_e Z a dg vd kd nd vsd lo vl kl nl vsl h0 n0 v U'.heap L ∧ FrameEnd U o U' L ({ frames := 2, cells := 0, slots := 0, locals := 48 } : Room).cells ({ frames := 2, cells := 0, slots := 0, locals := 48 } : Room).slots) := by
  refine MetFree.of_bodySF (plainFor_of_name pn_12) hisR ?_
  intro p e s m args below meth c s₁ Bd hml0 hP hK
  obtain ⟨rfl, hZ, hh⟩ := hP
  have hx := Bd.exec
  have hby := Bd.bytes
  have hml : c.maxLocals = 1 := hml0
  have hown : s.vm.findClass "com/example/ringfence/ringfence/NumberPattern" = some m.cls := findClass_of_methodNamed Bd.named
  have hnm := (name_of_methodNamed Bd.named Bd.method).1
  have X0 : Stand p l e ({ frames := 2, cells := 0, slots := 0, locals := 48 } : Room) s m #[(.ref a)] below meth c s₁ [] 0 0 := Stand.of_body Bd
  have e0 : s₁.heap = h0 := by rw [← hh, Bd.state]; rfl
  have N0 := Fr.nil n0
  obtain ⟨G, hG⟩ : ∃ G : State → Prop, G = fun tg => Steps p.tables e below (s₁.setTop (entryFrame m #[(.ref a)] 1)) tg := ⟨_, rfl⟩
  have pre0 : ∀ tg, Steps p.tables e below (s₁.setTop (mkF m 0 #[.val (.ref a)] [])) tg → G tg := fun tg kt => by rw [hG]; exact castTop (ef_12_R m a) kt
  have pre1 : ∀ tg, Steps p.tables e below (s₁.setTop (mkF m 1 #[.val (.ref a)] [(.ref a)])) tg → G tg := fun tg kt => pre0 tg (by
    show Steps p.tables e below (s₁.setTop (mkF m 0 #[.val (.ref a)] [])) _
    refine XS.aloadN X0.here hx rfl (hb hby d12_0) rfl rfl ?_
    exact kt)
  obtain ⟨T2, X2, e2, st2⟩ := getF X0 hx hZ hown (host := "") (Or.inl (hw _ (List.mem_of_getElem? (i := 58) rfl))) Via.refl e0 F_l (g := (mkF m 1 #[.val (.ref a)] [(.ref a)])) rfl rfl (hb hby d12_1)
  have pre2s : ∀ tg, Steps p.tables e below (T2.setTop (mkF m 4 #[.val (.ref a)] [(.ref lo)])) tg → G tg := fun tg kt => pre1 tg (st2 tg kt)
  have pre3 : ∀ tg, Steps p.tables e below (T2.setTop (mkF m 8 #[.val (.ref a)] [(.ref a)])) tg → G tg := fun tg kt => pre2s tg (by
    show Steps p.tables e below (T2.setTop (mkF m 4 #[.val (.ref a)] [(.ref lo)])) _
    refine XS.ifnullNo X2.here hx rfl (hb hby d12_4) rfl ?_
    show Steps p.tables e below (T2.setTop (mkF m 7 #[.val (.ref a)] [])) _
    refine XS.aloadN X2.here hx rfl (hb hby d12_7) rfl rfl ?_
    exact kt)
  obtain ⟨T4, X4, e4, st4⟩ := getF X2 hx hZ hown (host := "") (Or.inl (hw _ (List.mem_of_getElem? (i := 58) rfl))) Via.refl e2 F_l (g := (mkF m 8 #[.val (.ref a)] [(.ref a)])) rfl rfl (hb hby d12_8)
  have pre4s : ∀ tg, Steps p.tables e below (T4.setTop (mkF m 11 #[.val (.ref a)] [(.ref lo)])) tg → G tg := fun tg kt => pre3 tg (st4 tg kt)
  obtain ⟨cq5, kq5, q5a, q5b, q5c⟩ := isOf hZ e4 E_l
  obtain ⟨_, _, ⟨T5, L5, k5, n5⟩, -, X5, ⟨Lc5, hQ5, l5, y5, z5⟩, st5⟩ := X4.virtualBack hx (y := (⟨"java/lang/String", "isEmpty", "()Z"⟩ : MethodName)) (z := (⟨"java/lang/String", "isEmpty", "()Z"⟩ : MethodName)) hown (mvT hZ (hw _ (List.mem_of_getElem? (i := 67) rfl))) (mvT hZ (hw _ (List.mem_of_getElem? (i := 68) rfl))) (notFace_of_selects (args := #[]) (mvT hZ (hw _ (List.mem_of_getElem? (i := 70) rfl)))) (mvT hZ (hw _ (List.mem_of_getElem? (i := 70) rfl))) (mvT hZ (hw _ (List.mem_of_getElem? (i := 69) rfl))) (by decide) (backOf (W := 0) (rmM_1 l Z a0 hw [] lo vl kl nl vsl h0 n0 Z0 F_lv V_l g) hZ (hw _ (List.mem_of_getElem? (i := 71) rfl)) (hw _ (List.mem_of_getElem? (i := 7) rfl)) (by decide) (by decide)) q5a q5c (g := (mkF m 11 #[.val (.ref a)] [(.ref lo)])) rfl (by rw [hml]; rfl) (Steps.refl _) (argsL := []) (rest := []) (lenOf pd_9 rfl) rfl (by show 2 * 0 + _ ≤ _; exact Nat.le_of_eq rfl) (hb hby d12_11) (fun _ _ => ⟨rfl, e4, (Nat.le_of_ble_eq_true rfl), (Nat.le_of_ble_eq_true rfl)⟩)
  dsimp only [Pt.U, Pt.locs, Pt.cells, Pt.slots] at X5 l5 y5 z5 st5 hQ5
  subst l5 y5 z5
  obtain ⟨rfl, N5q, e5⟩ := hQ5
  have N5 := Fr.app N0 N5q
  have pre5s : ∀ tg, Steps p.tables e below (T5.setTop (mkF m 14 #[.val (.ref a)] [(.int (1 : Int32))])) tg → G tg := fun tg kt => pre4s tg (st5.trans kt)
  obtain ⟨fs, hr, hrun, hended, hW, hsame⟩ := X5.leave (v := some (.int (2147483647 : Int32))) (fun h => by rw [Bd.returns] at h; cases h)
  subst hG
  refine ⟨_, _, pre5s _ ?_, hrun, hended, _, _, rfl, ?_, ⟨_, rfl⟩, hW, hsame.mono (by decide) (by decide)⟩
  · skip
    show Steps p.tables e below (T5.setTop (mkF m 14 #[.val (.ref a)] [(.int (1 : Int32))])) _
    refine XS.ifNo X5.here hx rfl (hb hby d12_14) rfl ((if0 _ _).trans (feq (by decide : ¬ ((1 : Int32) = (0 : Int32)))).1) ?_
    show Steps p.tables e below (T5.setTop (mkF m 17 #[.val (.ref a)] [])) _
    refine X5.ldcInt hx hown (mvT hZ (hw _ (List.mem_of_getElem? (i := 85) rfl))) (g := (mkF m 17 #[.val (.ref a)] [])) rfl (hb hby d12_17) _ ?_
    show Steps p.tables e below (T5.setTop (mkF m 19 #[.val (.ref a)] [(.int (2147483647 : Int32))])) _
    refine XS.goto X5.here hx rfl (pc0 := 19) (pc' := 29) rfl (hb hby d12_19) (by decide) (by decide) ?_
    show Steps p.tables e below (T5.setTop (mkF m 29 #[.val (.ref a)] [(.int (2147483647 : Int32))])) _
    exact retI X5 hx Bd.returns (hb hby d12_29) hr
  · show Q_rmQ_e Z a dg vd kd nd vsd lo vl kl nl vsl h0 n0 _ T5.heap _
    rw [e5]
    exact ⟨rfl, N5, rfl⟩
theorem pn_0 : plainName "com/example/ringfence/ringfence/NumberPatternRankPinLaw" = true := by first | (simp [plainName, overriddenIn]; done) | decide +kernel
theorem ef_0_I_I_I_I_I_I (m : MethodId) (x0 : Int32) (x1 : Int32) (x2 : Int32) (x3 : Int32) (x4 : Int32) (x5 : Int32) : entryFrame m #[(.int x0), (.int x1), (.int x2), (.int x3), (.int x4), (.int x5)] maxLocals = mkF m 0 #[.val (.int x0), .val (.int x1), .val (.int x2), .val (.int x3), .val (.int x4), .val (.int x5), .unset, .unset, .unset, .unset, .unset, .unset, .unset, .unset] [] := by first | (simp [entryFrame, mkF, argsToLocals, Value.category, maxLocals]; done) | rfl
theorem pd_10 : parseMethodDescriptor "(II)Ljava/lang/String;" = some ⟨[.int, .int], some (.object "java/lang/String")⟩ := by decide +kernel
theorem pd_11 : parseMethodDescriptor "(Ljava/lang/String;Ljava/lang/String;Ljava/lang/String;)V" = some ⟨[(.object "java/lang/String"), (.object "java/lang/String"), (.object "java/lang/String")], none⟩ := by decide +kernel
theorem pd_12 : parseMethodDescriptor "(I)Ljava/lang/String;" = some ⟨[.int], some (.object "java/lang/String")⟩ := by decide +kernel
def Q_rm0 (Z : State) (p0 p1 p2 p3 p4 p5 : Int32) (h0 : Heap) (n0 : Nat) (v : Option Value) (h : Heap) (L : List Loc) : Prop := v = some (.int 1) ∧ Fr n0 L
set_option maxRecDepth 65536 in
set_option maxHeartbeats 40000000 in
theorem rm0 (l : Launch) (Z : State) (a0 : Array Value) (hw : ∀ d ∈ tables_1, d.before a0 Z = true) (ws : List Jvm.Cond) (p0 p1 p2 p3 p4 p5 : Int32) (h0 : Heap) (n0 : Nat) (Z0 : n0 ≤ h0.size) (hs : own_st Z) (Ol : Old Z n0 h0) :
    MetFree l x (head1 (Jvm.Cond.code x code maxLocals ret :: ws) room_1) (fun argv U => argv = #[(.int p0), (.int p1), (.int p2), (.int p3), (.int p4), (.int p5)] ∧ Z.Warmed39 U.vm ∧ U.heap = h0 ∧ CHv Z own_EL U.vm h0) (fun _ _ _ _ _ => True) (fun _ U o U' => ∃ v L, o = .returned v ∧ Q_rm0 Z p0 p1 p2 p3 p4 p5 h0 n0 v U'.heap L ∧ CHr Z own_EL U.vm U.heap U'.vm U'.heap ∧ ReturnedEndW U o U' L 32 1216) := by
  refine MetFree.of_bodySF (plainFor_of_name pn_0) hisR ?_
  intro p e s m args below meth c s₁ Bd hml0 hP hK
  obtain ⟨rfl, hZ, hh, hCH⟩ := hP
  have hx := Bd.exec
  have hby := Bd.bytes
  have hml : c.maxLocals = 14 := hml0
  have hown : s.vm.findClass "com/example/ringfence/ringfence/NumberPatternRankPinLaw" = some m.cls := findClass_of_methodNamed Bd.named
  have hnm := (name_of_methodNamed Bd.named Bd.method).1
  have X0 : Stand p l e room_1 s m #[(.int p0), (.int p1), (.int p2), (.int p3), (.int p4), (.int p5)] below meth c s₁ [] 0 0 := Stand.of_body Bd
  have e0 : s₁.heap = h0 := by rw [← hh, Bd.state]; rfl
  have N0 := Fr.nil n0
  obtain ⟨G, hG⟩ : ∃ G : State → Prop, G = fun tg => Steps p.tables e below (s₁.setTop (entryFrame m #[(.int p0), (.int p1), (.int p2), (.int p3), (.int p4), (.int p5)] maxLocals)) tg := ⟨_, rfl⟩
  have pre0 : ∀ tg, Steps p.tables e below (s₁.setTop (mkF m 0 #[.val (.int p0), .val (.int p1), .val (.int p2), .val (.int p3), .val (.int p4), .val (.int p5), .unset, .unset, .unset, .unset, .unset, .unset, .unset, .unset] [])) tg → G tg := fun tg kt => by rw [hG]; exact castTop (ef_0_I_I_I_I_I_I m p0 p1 p2 p3 p4 p5) kt
  have hS : s.Since s.vm 0 := (State.WarmedH.refl s).since 0
  have hkz : 0 ≤ h0.size := Nat.zero_le _
  have X0 : Stand p l e room_1 (s.setVm s.vm) m #[(.int p0), (.int p1), (.int p2), (.int p3), (.int p4), (.int p5)] below meth c s₁ [] 0 0 := X0
  have hEL := own_EW hw
  have wS := own_wS hw
  have ch0 : CHr Z own_EL s.vm h0 s.vm h0 := CHr.refl hCH
  have pre1 : ∀ tg, Steps p.tables e below (s₁.setTop (mkF m 5 #[.val (.int p0), .val (.int p1), .val (.int p2), .val (.int p3), .val (.int p4), .val (.int p5), .val (.int (p2 &&& (3 : Int32))), .unset, .unset, .unset, .unset, .unset, .unset, .unset] [])) tg → G tg := fun tg kt => pre0 tg (by
    show Steps p.tables e below (s₁.setTop (mkF m 0 #[.val (.int p0), .val (.int p1), .val (.int p2), .val (.int p3), .val (.int p4), .val (.int p5), .unset, .unset, .unset, .unset, .unset, .unset, .unset, .unset] [])) _
    refine XS.iloadN X0.here hx rfl (hb hby at_0) rfl ?_
    show Steps p.tables e below (s₁.setTop (mkF m 1 #[.val (.int p0), .val (.int p1), .val (.int p2), .val (.int p3), .val (.int p4), .val (.int p5), .unset, .unset, .unset, .unset, .unset, .unset, .unset, .unset] [(.int p2)])) _
    refine XS.iconst X0.here hx rfl (hb hby at_1) ?_
    show Steps p.tables e below (s₁.setTop (mkF m 2 #[.val (.int p0), .val (.int p1), .val (.int p2), .val (.int p3), .val (.int p4), .val (.int p5), .unset, .unset, .unset, .unset, .unset, .unset, .unset, .unset] [(.int (3 : Int32)), (.int p2)])) _
    refine XS.iand X0.here hx rfl (hb hby at_2) rfl ?_
    show Steps p.tables e below (s₁.setTop (mkF m 3 #[.val (.int p0), .val (.int p1), .val (.int p2), .val (.int p3), .val (.int p4), .val (.int p5), .unset, .unset, .unset, .unset, .unset, .unset, .unset, .unset] [(.int (p2 &&& (3 : Int32)))])) _
    refine XS.istore X0.here hx rfl (hb hby at_3) rfl (l' := #[.val (.int p0), .val (.int p1), .val (.int p2), .val (.int p3), .val (.int p4), .val (.int p5), .val (.int (p2 &&& (3 : Int32))), .unset, .unset, .unset, .unset, .unset, .unset, .unset]) rfl ?_
    exact kt)
  obtain ⟨zk, zk_eq⟩ : ∃ z : Int32, z = (p2 &&& (3 : Int32)) := ⟨_, rfl⟩
  rw [← zk_eq] at pre1
  have pre2 : ∀ tg, Steps p.tables e below (s₁.setTop (mkF m 8 #[.val (.int p0), .val (.int p1), .val (.int p2), .val (.int p3), .val (.int p4), .val (.int p5), .val (.int zk), .unset, .unset, .unset, .unset, .unset, .unset, .unset] [(.int (1 : Int32)), (.int zk)])) tg → G tg := fun tg kt => pre1 tg (by
    show Steps p.tables e below (s₁.setTop (mkF m 5 #[.val (.int p0), .val (.int p1), .val (.int p2), .val (.int p3), .val (.int p4), .val (.int p5), .val (.int zk), .unset, .unset, .unset, .unset, .unset, .unset, .unset] [])) _
    refine XS.iload X0.here hx rfl (hb hby at_5) rfl ?_
    show Steps p.tables e below (s₁.setTop (mkF m 7 #[.val (.int p0), .val (.int p1), .val (.int p2), .val (.int p3), .val (.int p4), .val (.int p5), .val (.int zk), .unset, .unset, .unset, .unset, .unset, .unset, .unset] [(.int zk)])) _
    refine XS.iconst X0.here hx rfl (hb hby at_7) ?_
    exact kt)
  by_cases hk1 : zk = (1 : Int32)
  · -- hk1
    have pre3 : ∀ tg, Steps p.tables e below (s₁.setTop (mkF m 11 #[.val (.int p0), .val (.int p1), .val (.int p2), .val (.int p3), .val (.int p4), .val (.int p5), .val (.int zk), .unset, .unset, .unset, .unset, .unset, .unset, .unset] [])) tg → G tg := fun tg kt => pre2 tg (by
      show Steps p.tables e below (s₁.setTop (mkF m 8 #[.val (.int p0), .val (.int p1), .val (.int p2), .val (.int p3), .val (.int p4), .val (.int p5), .val (.int zk), .unset, .unset, .unset, .unset, .unset, .unset, .unset] [(.int (1 : Int32)), (.int zk)])) _
      refine XS.icmpNo X0.here hx rfl (hb hby at_8) rfl (teq hk1).2 ?_
      exact kt)
    have pre4 : ∀ tg, Steps p.tables e below (s₁.setTop (mkF m 11 #[.val (.int p0), .val (.int p1), .val (.int p2), .val (.int p3), .val (.int p4), .val (.int p5), .val (.int (1 : Int32)), .unset, .unset, .unset, .unset, .unset, .unset, .unset] [])) tg → G tg := fun tg kt => pre3 tg (by subst hk1; exact kt)
    have pre5 : ∀ tg, Steps p.tables e below (s₁.setTop (mkF m 31 #[.val (.int p0), .val (.int p1), .val (.int p2), .val (.int p3), .val (.int p4), .val (.int p5), .val (.int (1 : Int32)), .val (.int ((1 : Int32) + ((p0 &&& (2147483647 : Int32)) % (5 : Int32)))), .unset, .unset, .unset, .unset, .unset, .unset] [])) tg → G tg := fun tg kt => pre4 tg (by
      show Steps p.tables e below (s₁.setTop (mkF m 11 #[.val (.int p0), .val (.int p1), .val (.int p2), .val (.int p3), .val (.int p4), .val (.int p5), .val (.int (1 : Int32)), .unset, .unset, .unset, .unset, .unset, .unset, .unset] [])) _
      refine XS.iconst X0.here hx rfl (hb hby at_11) ?_
      show Steps p.tables e below (s₁.setTop (mkF m 12 #[.val (.int p0), .val (.int p1), .val (.int p2), .val (.int p3), .val (.int p4), .val (.int p5), .val (.int (1 : Int32)), .unset, .unset, .unset, .unset, .unset, .unset, .unset] [(.int (1 : Int32))])) _
      refine XS.iloadN X0.here hx rfl (hb hby at_12) rfl ?_
      show Steps p.tables e below (s₁.setTop (mkF m 13 #[.val (.int p0), .val (.int p1), .val (.int p2), .val (.int p3), .val (.int p4), .val (.int p5), .val (.int (1 : Int32)), .unset, .unset, .unset, .unset, .unset, .unset, .unset] [(.int p0), (.int (1 : Int32))])) _
      refine X0.ldcInt hx hown (mvT hZ (hw _ (List.mem_of_getElem? (i := 0) rfl))) (g := (mkF m 13 #[.val (.int p0), .val (.int p1), .val (.int p2), .val (.int p3), .val (.int p4), .val (.int p5), .val (.int (1 : Int32)), .unset, .unset, .unset, .unset, .unset, .unset, .unset] [(.int p0), (.int (1 : Int32))])) rfl (hb hby at_13) _ ?_
      show Steps p.tables e below (s₁.setTop (mkF m 15 #[.val (.int p0), .val (.int p1), .val (.int p2), .val (.int p3), .val (.int p4), .val (.int p5), .val (.int (1 : Int32)), .unset, .unset, .unset, .unset, .unset, .unset, .unset] [(.int (2147483647 : Int32)), (.int p0), (.int (1 : Int32))])) _
      refine XS.iand X0.here hx rfl (hb hby at_15) rfl ?_
      show Steps p.tables e below (s₁.setTop (mkF m 16 #[.val (.int p0), .val (.int p1), .val (.int p2), .val (.int p3), .val (.int p4), .val (.int p5), .val (.int (1 : Int32)), .unset, .unset, .unset, .unset, .unset, .unset, .unset] [(.int (p0 &&& (2147483647 : Int32))), (.int (1 : Int32))])) _
      refine XS.iconst X0.here hx rfl (hb hby at_16) ?_
      show Steps p.tables e below (s₁.setTop (mkF m 17 #[.val (.int p0), .val (.int p1), .val (.int p2), .val (.int p3), .val (.int p4), .val (.int p5), .val (.int (1 : Int32)), .unset, .unset, .unset, .unset, .unset, .unset, .unset] [(.int (5 : Int32)), (.int (p0 &&& (2147483647 : Int32))), (.int (1 : Int32))])) _
      refine iremM X0 hx rfl (hb hby at_17) rfl (by decide) ?_
      show Steps p.tables e below (s₁.setTop (mkF m 18 #[.val (.int p0), .val (.int p1), .val (.int p2), .val (.int p3), .val (.int p4), .val (.int p5), .val (.int (1 : Int32)), .unset, .unset, .unset, .unset, .unset, .unset, .unset] [(.int ((p0 &&& (2147483647 : Int32)) % (5 : Int32))), (.int (1 : Int32))])) _
      refine XS.iadd X0.here hx rfl (hb hby at_18) rfl ?_
      show Steps p.tables e below (s₁.setTop (mkF m 19 #[.val (.int p0), .val (.int p1), .val (.int p2), .val (.int p3), .val (.int p4), .val (.int p5), .val (.int (1 : Int32)), .unset, .unset, .unset, .unset, .unset, .unset, .unset] [(.int ((1 : Int32) + ((p0 &&& (2147483647 : Int32)) % (5 : Int32))))])) _
      refine XS.goto X0.here hx rfl (pc0 := 19) (pc' := 29) rfl (hb hby at_19) (by decide) (by decide) ?_
      show Steps p.tables e below (s₁.setTop (mkF m 29 #[.val (.int p0), .val (.int p1), .val (.int p2), .val (.int p3), .val (.int p4), .val (.int p5), .val (.int (1 : Int32)), .unset, .unset, .unset, .unset, .unset, .unset, .unset] [(.int ((1 : Int32) + ((p0 &&& (2147483647 : Int32)) % (5 : Int32))))])) _
      refine XS.istore X0.here hx rfl (hb hby at_29) rfl (l' := #[.val (.int p0), .val (.int p1), .val (.int p2), .val (.int p3), .val (.int p4), .val (.int p5), .val (.int (1 : Int32)), .val (.int ((1 : Int32) + ((p0 &&& (2147483647 : Int32)) % (5 : Int32)))), .unset, .unset, .unset, .unset, .unset, .unset]) rfl ?_
      exact kt)
    obtain ⟨zd, zd_eq⟩ : ∃ z : Int32, z = ((1 : Int32) + ((p0 &&& (2147483647 : Int32)) % (5 : Int32))) := ⟨_, rfl⟩
    rw [← zd_eq] at pre5
    have hd5 := own_d1 p0
    rw [← zd_eq] at hd5
    have pre6 : ∀ tg, Steps p.tables e below (s₁.setTop (mkF m 44 #[.val (.int p0), .val (.int p1), .val (.int p2), .val (.int p3), .val (.int p4), .val (.int p5), .val (.int (1 : Int32)), .val (.int zd), .val (.int ((1 : Int32) + ((p3 &&& (2147483647 : Int32)) % (3 : Int32)))), .unset, .unset, .unset, .unset, .unset] [(.int p1), (.int zd)])) tg → G tg := fun tg kt => pre5 tg (by
      show Steps p.tables e below (s₁.setTop (mkF m 31 #[.val (.int p0), .val (.int p1), .val (.int p2), .val (.int p3), .val (.int p4), .val (.int p5), .val (.int (1 : Int32)), .val (.int zd), .unset, .unset, .unset, .unset, .unset, .unset] [])) _
      refine XS.iconst X0.here hx rfl (hb hby at_31) ?_
      show Steps p.tables e below (s₁.setTop (mkF m 32 #[.val (.int p0), .val (.int p1), .val (.int p2), .val (.int p3), .val (.int p4), .val (.int p5), .val (.int (1 : Int32)), .val (.int zd), .unset, .unset, .unset, .unset, .unset, .unset] [(.int (1 : Int32))])) _
      refine XS.iloadN X0.here hx rfl (hb hby at_32) rfl ?_
      show Steps p.tables e below (s₁.setTop (mkF m 33 #[.val (.int p0), .val (.int p1), .val (.int p2), .val (.int p3), .val (.int p4), .val (.int p5), .val (.int (1 : Int32)), .val (.int zd), .unset, .unset, .unset, .unset, .unset, .unset] [(.int p3), (.int (1 : Int32))])) _
      refine X0.ldcInt hx hown (mvT hZ (hw _ (List.mem_of_getElem? (i := 0) rfl))) (g := (mkF m 33 #[.val (.int p0), .val (.int p1), .val (.int p2), .val (.int p3), .val (.int p4), .val (.int p5), .val (.int (1 : Int32)), .val (.int zd), .unset, .unset, .unset, .unset, .unset, .unset] [(.int p3), (.int (1 : Int32))])) rfl (hb hby at_33) _ ?_
      show Steps p.tables e below (s₁.setTop (mkF m 35 #[.val (.int p0), .val (.int p1), .val (.int p2), .val (.int p3), .val (.int p4), .val (.int p5), .val (.int (1 : Int32)), .val (.int zd), .unset, .unset, .unset, .unset, .unset, .unset] [(.int (2147483647 : Int32)), (.int p3), (.int (1 : Int32))])) _
      refine XS.iand X0.here hx rfl (hb hby at_35) rfl ?_
      show Steps p.tables e below (s₁.setTop (mkF m 36 #[.val (.int p0), .val (.int p1), .val (.int p2), .val (.int p3), .val (.int p4), .val (.int p5), .val (.int (1 : Int32)), .val (.int zd), .unset, .unset, .unset, .unset, .unset, .unset] [(.int (p3 &&& (2147483647 : Int32))), (.int (1 : Int32))])) _
      refine XS.iconst X0.here hx rfl (hb hby at_36) ?_
      show Steps p.tables e below (s₁.setTop (mkF m 37 #[.val (.int p0), .val (.int p1), .val (.int p2), .val (.int p3), .val (.int p4), .val (.int p5), .val (.int (1 : Int32)), .val (.int zd), .unset, .unset, .unset, .unset, .unset, .unset] [(.int (3 : Int32)), (.int (p3 &&& (2147483647 : Int32))), (.int (1 : Int32))])) _
      refine iremM X0 hx rfl (hb hby at_37) rfl (by decide) ?_
      show Steps p.tables e below (s₁.setTop (mkF m 38 #[.val (.int p0), .val (.int p1), .val (.int p2), .val (.int p3), .val (.int p4), .val (.int p5), .val (.int (1 : Int32)), .val (.int zd), .unset, .unset, .unset, .unset, .unset, .unset] [(.int ((p3 &&& (2147483647 : Int32)) % (3 : Int32))), (.int (1 : Int32))])) _
      refine XS.iadd X0.here hx rfl (hb hby at_38) rfl ?_
      show Steps p.tables e below (s₁.setTop (mkF m 39 #[.val (.int p0), .val (.int p1), .val (.int p2), .val (.int p3), .val (.int p4), .val (.int p5), .val (.int (1 : Int32)), .val (.int zd), .unset, .unset, .unset, .unset, .unset, .unset] [(.int ((1 : Int32) + ((p3 &&& (2147483647 : Int32)) % (3 : Int32))))])) _
      refine XS.istore X0.here hx rfl (hb hby at_39) rfl (l' := #[.val (.int p0), .val (.int p1), .val (.int p2), .val (.int p3), .val (.int p4), .val (.int p5), .val (.int (1 : Int32)), .val (.int zd), .val (.int ((1 : Int32) + ((p3 &&& (2147483647 : Int32)) % (3 : Int32)))), .unset, .unset, .unset, .unset, .unset]) rfl ?_
      show Steps p.tables e below (s₁.setTop (mkF m 41 #[.val (.int p0), .val (.int p1), .val (.int p2), .val (.int p3), .val (.int p4), .val (.int p5), .val (.int (1 : Int32)), .val (.int zd), .val (.int ((1 : Int32) + ((p3 &&& (2147483647 : Int32)) % (3 : Int32)))), .unset, .unset, .unset, .unset, .unset] [])) _
      refine XS.iload X0.here hx rfl (hb hby at_41) rfl ?_
      show Steps p.tables e below (s₁.setTop (mkF m 43 #[.val (.int p0), .val (.int p1), .val (.int p2), .val (.int p3), .val (.int p4), .val (.int p5), .val (.int (1 : Int32)), .val (.int zd), .val (.int ((1 : Int32) + ((p3 &&& (2147483647 : Int32)) % (3 : Int32)))), .unset, .unset, .unset, .unset, .unset] [(.int zd)])) _
      refine XS.iloadN X0.here hx rfl (hb hby at_43) rfl ?_
      exact kt)
    obtain ⟨_, _, ⟨T7, L7, k7, n7⟩, -, X7, ⟨Lc7, hQ7, l7, y7, z7⟩, st7⟩ := Jvm.LawKit.callS X0 hx (y := (⟨"com/example/ringfence/ringfence/NumberPatternRankPinLaw", "str", "(II)Ljava/lang/String;"⟩ : MethodName)) hown (mvT hZ (hw _ (List.mem_of_getElem? (i := 1) rfl))) (mvT hZ (hw _ (List.mem_of_getElem? (i := 2) rfl))) (mvT hZ (hw _ (List.mem_of_getElem? (i := 3) rfl))) (mvT hZ (hw _ (List.mem_of_getElem? (i := 4) rfl))) (by decide) (backOf (W := 0) (rmSs l Z a0 hw [] zd p1 h0 n0 Z0 hs Ol hd5) hZ (hw _ (List.mem_of_getElem? (i := 4) rfl)) (hw _ (List.mem_of_getElem? (i := 3) rfl)) (by decide) (by decide)) (g := (mkF m 44 #[.val (.int p0), .val (.int p1), .val (.int p2), .val (.int p3), .val (.int p4), .val (.int p5), .val (.int (1 : Int32)), .val (.int zd), .val (.int ((1 : Int32) + ((p3 &&& (2147483647 : Int32)) % (3 : Int32)))), .unset, .unset, .unset, .unset, .unset] [(.int p1), (.int zd)])) rfl (by rw [hml]; rfl) (argsL := [(.int zd), (.int p1)]) (rest := []) (lenOf pd_10 rfl) rfl (by show 2 * 0 + _ ≤ _; exact Nat.le_of_eq rfl) (hb hby at_44) (fun _ _ => ⟨rfl, e0, (Nat.le_of_ble_eq_true rfl), (Nat.le_of_ble_eq_true rfl)⟩)
    dsimp only [Pt.U, Pt.locs, Pt.cells, Pt.slots] at X7 l7 y7 z7 st7 hQ7
    subst l7 y7 z7
    obtain ⟨dg, rfl, N7q, K7, E_dg, Tx_dg⟩ := hQ7
    have N7 := Fr.app N0 N7q
    have pre7s : ∀ tg, Steps p.tables e below (T7.setTop (mkF m 47 #[.val (.int p0), .val (.int p1), .val (.int p2), .val (.int p3), .val (.int p4), .val (.int p5), .val (.int (1 : Int32)), .val (.int zd), .val (.int ((1 : Int32) + ((p3 &&& (2147483647 : Int32)) % (3 : Int32)))), .unset, .unset, .unset, .unset, .unset] [(.ref dg)])) tg → G tg := fun tg kt => pre6 tg (st7 tg kt)
    have Z7 : n0 ≤ T7.heap.size := Nat.le_trans Z0 K7.1
    have ch8 := ch0.trans (CHr.keep K7 sf0 ch0.1)
    have hk8 := Nat.le_trans hkz K7.1
    have Ol9 := Ol.keep K7 all0
    obtain ⟨v_dg, k_dg, b_dg, C_dg, F_dg, V_dg⟩ := Tx_dg
    have pre10 : ∀ tg, Steps p.tables e below (T7.setTop (mkF m 72 #[.val (.int p0), .val (.int p1), .val (.int p2), .val (.int p3), .val (.int p4), .val (.int p5), .val (.int (1 : Int32)), .val (.int zd), .val (.int ((1 : Int32) + ((p3 &&& (2147483647 : Int32)) % (3 : Int32)))), .val (.ref dg), .unset, .unset, .unset, .unset] [(.int p4), (.int (0 : Int32))])) tg → G tg := fun tg kt => pre7s tg (by
      show Steps p.tables e below (T7.setTop (mkF m 47 #[.val (.int p0), .val (.int p1), .val (.int p2), .val (.int p3), .val (.int p4), .val (.int p5), .val (.int (1 : Int32)), .val (.int zd), .val (.int ((1 : Int32) + ((p3 &&& (2147483647 : Int32)) % (3 : Int32)))), .unset, .unset, .unset, .unset, .unset] [(.ref dg)])) _
      refine XS.astore X7.here hx rfl (hb hby at_47) rfl rfl (l' := #[.val (.int p0), .val (.int p1), .val (.int p2), .val (.int p3), .val (.int p4), .val (.int p5), .val (.int (1 : Int32)), .val (.int zd), .val (.int ((1 : Int32) + ((p3 &&& (2147483647 : Int32)) % (3 : Int32)))), .val (.ref dg), .unset, .unset, .unset, .unset]) rfl ?_
      show Steps p.tables e below (T7.setTop (mkF m 49 #[.val (.int p0), .val (.int p1), .val (.int p2), .val (.int p3), .val (.int p4), .val (.int p5), .val (.int (1 : Int32)), .val (.int zd), .val (.int ((1 : Int32) + ((p3 &&& (2147483647 : Int32)) % (3 : Int32)))), .val (.ref dg), .unset, .unset, .unset, .unset] [])) _
      refine XS.iload X7.here hx rfl (hb hby at_49) rfl ?_
      show Steps p.tables e below (T7.setTop (mkF m 51 #[.val (.int p0), .val (.int p1), .val (.int p2), .val (.int p3), .val (.int p4), .val (.int p5), .val (.int (1 : Int32)), .val (.int zd), .val (.int ((1 : Int32) + ((p3 &&& (2147483647 : Int32)) % (3 : Int32)))), .val (.ref dg), .unset, .unset, .unset, .unset] [(.int (1 : Int32))])) _
      refine XS.ifYes X7.here hx rfl (pc0 := 51) (pc' := 63) rfl (hb hby at_51) rfl ((if0 _ _).trans (feq (by decide : ¬ ((1 : Int32) = (0 : Int32)))).2) (by decide) (by decide) ?_
      show Steps p.tables e below (T7.setTop (mkF m 63 #[.val (.int p0), .val (.int p1), .val (.int p2), .val (.int p3), .val (.int p4), .val (.int p5), .val (.int (1 : Int32)), .val (.int zd), .val (.int ((1 : Int32) + ((p3 &&& (2147483647 : Int32)) % (3 : Int32)))), .val (.ref dg), .unset, .unset, .unset, .unset] [])) _
      refine XS.iload X7.here hx rfl (hb hby at_63) rfl ?_
      show Steps p.tables e below (T7.setTop (mkF m 65 #[.val (.int p0), .val (.int p1), .val (.int p2), .val (.int p3), .val (.int p4), .val (.int p5), .val (.int (1 : Int32)), .val (.int zd), .val (.int ((1 : Int32) + ((p3 &&& (2147483647 : Int32)) % (3 : Int32)))), .val (.ref dg), .unset, .unset, .unset, .unset] [(.int (1 : Int32))])) _
      refine XS.iconst X7.here hx rfl (hb hby at_65) ?_
      show Steps p.tables e below (T7.setTop (mkF m 66 #[.val (.int p0), .val (.int p1), .val (.int p2), .val (.int p3), .val (.int p4), .val (.int p5), .val (.int (1 : Int32)), .val (.int zd), .val (.int ((1 : Int32) + ((p3 &&& (2147483647 : Int32)) % (3 : Int32)))), .val (.ref dg), .unset, .unset, .unset, .unset] [(.int (1 : Int32)), (.int (1 : Int32))])) _
      refine XS.icmpNo X7.here hx rfl (hb hby at_66) rfl (teq (by decide : (1 : Int32) = (1 : Int32))).2 ?_
      show Steps p.tables e below (T7.setTop (mkF m 69 #[.val (.int p0), .val (.int p1), .val (.int p2), .val (.int p3), .val (.int p4), .val (.int p5), .val (.int (1 : Int32)), .val (.int zd), .val (.int ((1 : Int32) + ((p3 &&& (2147483647 : Int32)) % (3 : Int32)))), .val (.ref dg), .unset, .unset, .unset, .unset] [])) _
      refine XS.iconst X7.here hx rfl (hb hby at_69) ?_
      show Steps p.tables e below (T7.setTop (mkF m 70 #[.val (.int p0), .val (.int p1), .val (.int p2), .val (.int p3), .val (.int p4), .val (.int p5), .val (.int (1 : Int32)), .val (.int zd), .val (.int ((1 : Int32) + ((p3 &&& (2147483647 : Int32)) % (3 : Int32)))), .val (.ref dg), .unset, .unset, .unset, .unset] [(.int (0 : Int32))])) _
      refine XS.iload X7.here hx rfl (hb hby at_70) rfl ?_
      exact kt)
    obtain ⟨_, _, ⟨T11, L11, k11, n11⟩, -, X11, hS11q, hg11, ⟨Lc11, hQ11, l11, y11, z11, chn11⟩, st11⟩ := callSS X7 hx (y := (⟨"com/example/ringfence/ringfence/NumberPatternRankPinLaw", "str", "(II)Ljava/lang/String;"⟩ : MethodName)) hown (mvT hZ (hw _ (List.mem_of_getElem? (i := 1) rfl))) (mvT hZ (hw _ (List.mem_of_getElem? (i := 2) rfl))) (mvT hZ (hw _ (List.mem_of_getElem? (i := 3) rfl))) (mvT hZ (hw _ (List.mem_of_getElem? (i := 4) rfl))) (by decide) (backOfSH (vm0 := s.vm) (s := s) (EL := own_EL) (W := 0) (rmS_0 l Z a0 hw [] p4 T7.heap n0 Z7 hs Ol9) hZ (hw _ (List.mem_of_getElem? (i := 4) rfl)) (hw _ (List.mem_of_getElem? (i := 3) rfl)) (by decide) (by decide) hEL ch8.1) (g := (mkF m 72 #[.val (.int p0), .val (.int p1), .val (.int p2), .val (.int p3), .val (.int p4), .val (.int p5), .val (.int (1 : Int32)), .val (.int zd), .val (.int ((1 : Int32) + ((p3 &&& (2147483647 : Int32)) % (3 : Int32)))), .val (.ref dg), .unset, .unset, .unset, .unset] [(.int p4), (.int (0 : Int32))])) rfl (by rw [hml]; rfl) (argsL := [(.int (0 : Int32)), (.int p4)]) (rest := []) (lenOf pd_10 rfl) rfl (by show 2 * 0 + _ ≤ _; exact Nat.le_of_eq rfl) (hb hby at_72) (fun _ _ => ⟨rfl, rfl, (Nat.le_of_ble_eq_true rfl), (Nat.le_of_ble_eq_true rfl)⟩)
    dsimp only [Pt.U, Pt.locs, Pt.cells, Pt.slots] at X11 l11 y11 z11 st11 hQ11 hS11q hg11 chn11
    subst l11 y11 z11
    obtain ⟨lo, rfl, N11q, K11, E_lo, Tx_lo⟩ := hQ11
    have N11 := Fr.app N7 N11q
    have X11 : Stand p l e room_1 (s.setVm T11.vm) m #[(.int p0), (.int p1), (.int p2), (.int p3), (.int p4), (.int p5)] below meth c _ _ _ _ := X11
    have hg11' : T7.heap.size ≤ T11.heap.size := by have q := hg11; exact q
    have hS11 : s.Since T11.vm T11.heap.size := hS.trans hS11q (Nat.le_trans hk8 hg11')
    have hk11 : T11.heap.size ≤ T11.heap.size := Nat.le_refl _
    have hown : (s.setVm T11.vm).vm.findClass "com/example/ringfence/ringfence/NumberPatternRankPinLaw" = some m.cls := by rw [show (s.setVm T11.vm).vm = T11.vm from rfl, hS11q.1.alike.findClass]; exact hown
    have hZ : Z.Warmed39 (s.setVm T11.vm).vm := State.Warmed39.trans (t := s.setVm s.vm) hZ hS11q.1
    have ch11 := ch8.trans chn11
    have pre11s : ∀ tg, Steps p.tables e below (T11.setTop (mkF m 75 #[.val (.int p0), .val (.int p1), .val (.int p2), .val (.int p3), .val (.int p4), .val (.int p5), .val (.int (1 : Int32)), .val (.int zd), .val (.int ((1 : Int32) + ((p3 &&& (2147483647 : Int32)) % (3 : Int32)))), .val (.ref dg), .unset, .unset, .unset, .unset] [(.ref lo)])) tg → G tg := fun tg kt => pre10 tg (st11.trans kt)
    have Z11 : n0 ≤ T11.heap.size := Nat.le_trans Z7 K11.1
    have E_dg_12 := E_dg.keep K11
    have C_dg_13 := C_dg.keep K11 nin0
    have F_dg_14 := F_dg.keep K11 nin0
    have V_dg_15 := V_dg.keep K11 nin0
    have Ol16 := Ol9.keep K11 all0
    obtain ⟨v_lo, k_lo, b_lo, C_lo, F_lo, V_lo⟩ := Tx_lo
    have pre17 : ∀ tg, Steps p.tables e below (T11.setTop (mkF m 80 #[.val (.int p0), .val (.int p1), .val (.int p2), .val (.int p3), .val (.int p4), .val (.int p5), .val (.int (1 : Int32)), .val (.int zd), .val (.int ((1 : Int32) + ((p3 &&& (2147483647 : Int32)) % (3 : Int32)))), .val (.ref dg), .val (.ref lo), .unset, .unset, .unset] [(.int p5), (.int (0 : Int32))])) tg → G tg := fun tg kt => pre11s tg (by
      show Steps p.tables e below (T11.setTop (mkF m 75 #[.val (.int p0), .val (.int p1), .val (.int p2), .val (.int p3), .val (.int p4), .val (.int p5), .val (.int (1 : Int32)), .val (.int zd), .val (.int ((1 : Int32) + ((p3 &&& (2147483647 : Int32)) % (3 : Int32)))), .val (.ref dg), .unset, .unset, .unset, .unset] [(.ref lo)])) _
      refine XS.astore X11.here hx rfl (hb hby at_75) rfl rfl (l' := #[.val (.int p0), .val (.int p1), .val (.int p2), .val (.int p3), .val (.int p4), .val (.int p5), .val (.int (1 : Int32)), .val (.int zd), .val (.int ((1 : Int32) + ((p3 &&& (2147483647 : Int32)) % (3 : Int32)))), .val (.ref dg), .val (.ref lo), .unset, .unset, .unset]) rfl ?_
      show Steps p.tables e below (T11.setTop (mkF m 77 #[.val (.int p0), .val (.int p1), .val (.int p2), .val (.int p3), .val (.int p4), .val (.int p5), .val (.int (1 : Int32)), .val (.int zd), .val (.int ((1 : Int32) + ((p3 &&& (2147483647 : Int32)) % (3 : Int32)))), .val (.ref dg), .val (.ref lo), .unset, .unset, .unset] [])) _
      refine XS.iconst X11.here hx rfl (hb hby at_77) ?_
      show Steps p.tables e below (T11.setTop (mkF m 78 #[.val (.int p0), .val (.int p1), .val (.int p2), .val (.int p3), .val (.int p4), .val (.int p5), .val (.int (1 : Int32)), .val (.int zd), .val (.int ((1 : Int32) + ((p3 &&& (2147483647 : Int32)) % (3 : Int32)))), .val (.ref dg), .val (.ref lo), .unset, .unset, .unset] [(.int (0 : Int32))])) _
      refine XS.iload X11.here hx rfl (hb hby at_78) rfl ?_
      exact kt)
    obtain ⟨_, _, ⟨T18, L18, k18, n18⟩, -, X18, hS18q, hg18, ⟨Lc18, hQ18, l18, y18, z18, chn18⟩, st18⟩ := callSS X11 hx (y := (⟨"com/example/ringfence/ringfence/NumberPatternRankPinLaw", "str", "(II)Ljava/lang/String;"⟩ : MethodName)) hown (mvT hZ (hw _ (List.mem_of_getElem? (i := 1) rfl))) (mvT hZ (hw _ (List.mem_of_getElem? (i := 2) rfl))) (mvT hZ (hw _ (List.mem_of_getElem? (i := 3) rfl))) (mvT hZ (hw _ (List.mem_of_getElem? (i := 4) rfl))) (by decide) (backOfSH (vm0 := T11.vm) (s := s) (EL := own_EL) (W := 0) (rmS_0 l Z a0 hw [] p5 T11.heap n0 Z11 hs Ol16) hZ (hw _ (List.mem_of_getElem? (i := 4) rfl)) (hw _ (List.mem_of_getElem? (i := 3) rfl)) (by decide) (by decide) hEL ch11.1) (g := (mkF m 80 #[.val (.int p0), .val (.int p1), .val (.int p2), .val (.int p3), .val (.int p4), .val (.int p5), .val (.int (1 : Int32)), .val (.int zd), .val (.int ((1 : Int32) + ((p3 &&& (2147483647 : Int32)) % (3 : Int32)))), .val (.ref dg), .val (.ref lo), .unset, .unset, .unset] [(.int p5), (.int (0 : Int32))])) rfl (by rw [hml]; rfl) (argsL := [(.int (0 : Int32)), (.int p5)]) (rest := []) (lenOf pd_10 rfl) rfl (by show 2 * 0 + _ ≤ _; exact Nat.le_of_eq rfl) (hb hby at_80) (fun _ _ => ⟨rfl, rfl, (Nat.le_of_ble_eq_true rfl), (Nat.le_of_ble_eq_true rfl)⟩)
    dsimp only [Pt.U, Pt.locs, Pt.cells, Pt.slots] at X18 l18 y18 z18 st18 hQ18 hS18q hg18 chn18
    subst l18 y18 z18
    obtain ⟨hi, rfl, N18q, K18, E_hi, Tx_hi⟩ := hQ18
    have N18 := Fr.app N11 N18q
    have X18 : Stand p l e room_1 (s.setVm T18.vm) m #[(.int p0), (.int p1), (.int p2), (.int p3), (.int p4), (.int p5)] below meth c _ _ _ _ := X18
    have hg18' : T11.heap.size ≤ T18.heap.size := by have q := hg18; exact q
    have hS18 : s.Since T18.vm T18.heap.size := hS11.trans hS18q (Nat.le_trans hk11 hg18')
    have hk18 : T18.heap.size ≤ T18.heap.size := Nat.le_refl _
    have hown : (s.setVm T18.vm).vm.findClass "com/example/ringfence/ringfence/NumberPatternRankPinLaw" = some m.cls := by rw [show (s.setVm T18.vm).vm = T18.vm from rfl, hS18q.1.alike.findClass]; exact hown
    have hZ : Z.Warmed39 (s.setVm T18.vm).vm := State.Warmed39.trans (t := s.setVm T11.vm) hZ hS18q.1
    have ch18 := ch11.trans chn18
    have pre18s : ∀ tg, Steps p.tables e below (T18.setTop (mkF m 83 #[.val (.int p0), .val (.int p1), .val (.int p2), .val (.int p3), .val (.int p4), .val (.int p5), .val (.int (1 : Int32)), .val (.int zd), .val (.int ((1 : Int32) + ((p3 &&& (2147483647 : Int32)) % (3 : Int32)))), .val (.ref dg), .val (.ref lo), .unset, .unset, .unset] [(.ref hi)])) tg → G tg := fun tg kt => pre17 tg (st18.trans kt)
    have Z18 : n0 ≤ T18.heap.size := Nat.le_trans Z11 K18.1
    have E_dg_19 := E_dg_12.keep K18
    have C_dg_20 := C_dg_13.keep K18 nin0
    have F_dg_21 := F_dg_14.keep K18 nin0
    have V_dg_22 := V_dg_15.keep K18 nin0
    have E_lo_23 := E_lo.keep K18
    have C_lo_24 := C_lo.keep K18 nin0
    have F_lo_25 := F_lo.keep K18 nin0
    have V_lo_26 := V_lo.keep K18 nin0
    have Ol27 := Ol16.keep K18 all0
    obtain ⟨v_hi, k_hi, b_hi, C_hi, F_hi, V_hi⟩ := Tx_hi
    have pre28 : ∀ tg, Steps p.tables e below (T18.setTop (mkF m 127 #[.val (.int p0), .val (.int p1), .val (.int p2), .val (.int p3), .val (.int p4), .val (.int p5), .val (.int (1 : Int32)), .val (.int zd), .val (.int ((1 : Int32) + ((p3 &&& (2147483647 : Int32)) % (3 : Int32)))), .val (.ref dg), .val (.ref lo), .val (.ref hi), .unset, .unset] [])) tg → G tg := fun tg kt => pre18s tg (by
      show Steps p.tables e below (T18.setTop (mkF m 83 #[.val (.int p0), .val (.int p1), .val (.int p2), .val (.int p3), .val (.int p4), .val (.int p5), .val (.int (1 : Int32)), .val (.int zd), .val (.int ((1 : Int32) + ((p3 &&& (2147483647 : Int32)) % (3 : Int32)))), .val (.ref dg), .val (.ref lo), .unset, .unset, .unset] [(.ref hi)])) _
      refine XS.astore X18.here hx rfl (hb hby at_83) rfl rfl (l' := #[.val (.int p0), .val (.int p1), .val (.int p2), .val (.int p3), .val (.int p4), .val (.int p5), .val (.int (1 : Int32)), .val (.int zd), .val (.int ((1 : Int32) + ((p3 &&& (2147483647 : Int32)) % (3 : Int32)))), .val (.ref dg), .val (.ref lo), .val (.ref hi), .unset, .unset]) rfl ?_
      show Steps p.tables e below (T18.setTop (mkF m 85 #[.val (.int p0), .val (.int p1), .val (.int p2), .val (.int p3), .val (.int p4), .val (.int p5), .val (.int (1 : Int32)), .val (.int zd), .val (.int ((1 : Int32) + ((p3 &&& (2147483647 : Int32)) % (3 : Int32)))), .val (.ref dg), .val (.ref lo), .val (.ref hi), .unset, .unset] [])) _
      refine XS.goto X18.here hx rfl (pc0 := 85) (pc' := 127) rfl (hb hby at_85) (by decide) (by decide) ?_
      exact kt)
    obtain ⟨T29, h29, X29, e29, E29, A29, D29, -, st29⟩ := newO X18 hx hZ hown (hw _ (List.mem_of_getElem? (i := 44) rfl)) (hw _ (List.mem_of_getElem? (i := 45) rfl)) (hw _ (List.mem_of_getElem? (i := 46) rfl)) rfl (g := (mkF m 127 #[.val (.int p0), .val (.int p1), .val (.int p2), .val (.int p3), .val (.int p4), .val (.int p5), .val (.int (1 : Int32)), .val (.int zd), .val (.int ((1 : Int32) + ((p3 &&& (2147483647 : Int32)) % (3 : Int32)))), .val (.ref dg), .val (.ref lo), .val (.ref hi), .unset, .unset] [])) rfl (hb hby at_127) (by decide) (by decide)
    obtain ⟨np, g29⟩ : ∃ z, z = T18.heap.size := ⟨_, rfl⟩
    rw [← g29] at A29 D29 st29
    have O_np : n0 ≤ np := Nat.le_trans Z18 (Nat.le_of_eq g29.symm)
    have Z29 : n0 ≤ h29.size := Nat.le_trans Z18 E29.1
    have ne_dg_np : dg ≠ np := Nat.ne_of_lt (Nat.lt_of_lt_of_le E_dg_19.lt (Nat.le_of_eq g29.symm))
    have ne_v_dg_np : v_dg ≠ np := Nat.ne_of_lt (Nat.lt_of_lt_of_le V_dg_22.lt (Nat.le_of_eq g29.symm))
    have ne_lo_np : lo ≠ np := Nat.ne_of_lt (Nat.lt_of_lt_of_le E_lo_23.lt (Nat.le_of_eq g29.symm))
    have ne_v_lo_np : v_lo ≠ np := Nat.ne_of_lt (Nat.lt_of_lt_of_le V_lo_26.lt (Nat.le_of_eq g29.symm))
    have ne_hi_np : hi ≠ np := Nat.ne_of_lt (Nat.lt_of_lt_of_le E_hi.lt (Nat.le_of_eq g29.symm))
    have ne_v_hi_np : v_hi ≠ np := Nat.ne_of_lt (Nat.lt_of_lt_of_le V_hi.lt (Nat.le_of_eq g29.symm))
    have pre29s : ∀ tg, Steps p.tables e below (T29.setTop (mkF m 130 #[.val (.int p0), .val (.int p1), .val (.int p2), .val (.int p3), .val (.int p4), .val (.int p5), .val (.int (1 : Int32)), .val (.int zd), .val (.int ((1 : Int32) + ((p3 &&& (2147483647 : Int32)) % (3 : Int32)))), .val (.ref dg), .val (.ref lo), .val (.ref hi), .unset, .unset] [(.ref np)])) tg → G tg := fun tg kt => pre28 tg (st29 tg kt)
    have ch30 := ch18.trans (CHr.ext E29 ch18.1)
    have hk30 := Nat.le_trans hk18 E29.1
    have E_dg_31 := E_dg_19.ext E29
    have C_dg_32 := C_dg_20.ext E29
    have F_dg_33 := F_dg_21.ext E29
    have V_dg_34 := V_dg_22.ext E29
    have E_lo_35 := E_lo_23.ext E29
    have C_lo_36 := C_lo_24.ext E29
    have F_lo_37 := F_lo_25.ext E29
    have V_lo_38 := V_lo_26.ext E29
    have E_hi_39 := E_hi.ext E29
    have C_hi_40 := C_hi.ext E29
    have F_hi_41 := F_hi.ext E29
    have V_hi_42 := V_hi.ext E29
    have Ol43 := Ol27.ext E29
    have Fdigits_np : Fld Z h29 np "com/example/ringfence/ringfence/NumberPattern" "digits" "Ljava/lang/String;" .null := D29 (Or.inr (hw _ (List.mem_of_getElem? (i := 57) rfl))) (ty := (.object "java/lang/String")) (by decide)
    have Flow_np : Fld Z h29 np "com/example/ringfence/ringfence/NumberPattern" "low" "Ljava/lang/String;" .null := D29 (Or.inr (hw _ (List.mem_of_getElem? (i := 59) rfl))) (ty := (.object "java/lang/String")) (by decide)
    have Fhigh_np : Fld Z h29 np "com/example/ringfence/ringfence/NumberPattern" "high" "Ljava/lang/String;" .null := D29 (Or.inr (hw _ (List.mem_of_getElem? (i := 61) rfl))) (ty := (.object "java/lang/String")) (by decide)
    have pre44 : ∀ tg, Steps p.tables e below (T29.setTop (mkF m 137 #[.val (.int p0), .val (.int p1), .val (.int p2), .val (.int p3), .val (.int p4), .val (.int p5), .val (.int (1 : Int32)), .val (.int zd), .val (.int ((1 : Int32) + ((p3 &&& (2147483647 : Int32)) % (3 : Int32)))), .val (.ref dg), .val (.ref lo), .val (.ref hi), .unset, .unset] [(.ref hi), (.ref lo), (.ref dg), (.ref np), (.ref np)])) tg → G tg := fun tg kt => pre29s tg (by
      show Steps p.tables e below (T29.setTop (mkF m 130 #[.val (.int p0), .val (.int p1), .val (.int p2), .val (.int p3), .val (.int p4), .val (.int p5), .val (.int (1 : Int32)), .val (.int zd), .val (.int ((1 : Int32) + ((p3 &&& (2147483647 : Int32)) % (3 : Int32)))), .val (.ref dg), .val (.ref lo), .val (.ref hi), .unset, .unset] [(.ref np)])) _
      refine XS.dup X29.here hx rfl (hb hby at_130) rfl rfl ?_
      show Steps p.tables e below (T29.setTop (mkF m 131 #[.val (.int p0), .val (.int p1), .val (.int p2), .val (.int p3), .val (.int p4), .val (.int p5), .val (.int (1 : Int32)), .val (.int zd), .val (.int ((1 : Int32) + ((p3 &&& (2147483647 : Int32)) % (3 : Int32)))), .val (.ref dg), .val (.ref lo), .val (.ref hi), .unset, .unset] [(.ref np), (.ref np)])) _
      refine XS.aload X29.here hx rfl (hb hby at_131) rfl rfl ?_
      show Steps p.tables e below (T29.setTop (mkF m 133 #[.val (.int p0), .val (.int p1), .val (.int p2), .val (.int p3), .val (.int p4), .val (.int p5), .val (.int (1 : Int32)), .val (.int zd), .val (.int ((1 : Int32) + ((p3 &&& (2147483647 : Int32)) % (3 : Int32)))), .val (.ref dg), .val (.ref lo), .val (.ref hi), .unset, .unset] [(.ref dg), (.ref np), (.ref np)])) _
      refine XS.aload X29.here hx rfl (hb hby at_133) rfl rfl ?_
      show Steps p.tables e below (T29.setTop (mkF m 135 #[.val (.int p0), .val (.int p1), .val (.int p2), .val (.int p3), .val (.int p4), .val (.int p5), .val (.int (1 : Int32)), .val (.int zd), .val (.int ((1 : Int32) + ((p3 &&& (2147483647 : Int32)) % (3 : Int32)))), .val (.ref dg), .val (.ref lo), .val (.ref hi), .unset, .unset] [(.ref lo), (.ref dg), (.ref np), (.ref np)])) _
      refine XS.aload X29.here hx rfl (hb hby at_135) rfl rfl ?_
      exact kt)
    obtain ⟨_, _, ⟨T45, L45, k45, n45⟩, -, X45, ⟨Lc45, hQ45, l45, y45, z45⟩, st45⟩ := X29.specialBack hx (y := (⟨"com/example/ringfence/ringfence/NumberPattern", "<init>", "(Ljava/lang/String;Ljava/lang/String;Ljava/lang/String;)V"⟩ : MethodName)) rfl hown (mvT hZ (hw _ (List.mem_of_getElem? (i := 47) rfl))) (mvT hZ (hw _ (List.mem_of_getElem? (i := 48) rfl))) (mvT hZ (hw _ (List.mem_of_getElem? (i := 49) rfl))) (by decide) (backOf (W := 1) (rmP_r l Z a0 hw [] np dg lo hi h29 n0 Z29 A29 O_np Fdigits_np Flow_np Fhigh_np) hZ (hw _ (List.mem_of_getElem? (i := 49) rfl)) (hw _ (List.mem_of_getElem? (i := 46) rfl)) (by decide) (by decide)) (g := (mkF m 137 #[.val (.int p0), .val (.int p1), .val (.int p2), .val (.int p3), .val (.int p4), .val (.int p5), .val (.int (1 : Int32)), .val (.int zd), .val (.int ((1 : Int32) + ((p3 &&& (2147483647 : Int32)) % (3 : Int32)))), .val (.ref dg), .val (.ref lo), .val (.ref hi), .unset, .unset] [(.ref hi), (.ref lo), (.ref dg), (.ref np), (.ref np)])) rfl (by rw [hml]; rfl) (Steps.refl _) (a := np) (argsL := [(.ref dg), (.ref lo), (.ref hi)]) (rest := [(.ref np)]) (lenOf pd_11 rfl) rfl (by show 2 * 0 + _ ≤ _; exact Nat.le_of_eq rfl) (hb hby at_137) (fun _ _ => ⟨rfl, e29, (Nat.le_of_ble_eq_true rfl), (Nat.le_of_ble_eq_true rfl)⟩)
    dsimp only [Pt.U, Pt.locs, Pt.cells, Pt.slots] at X45 l45 y45 z45 st45 hQ45
    subst l45 y45 z45
    obtain ⟨rfl, N45q, K45, Fd, Fl⟩ := hQ45
    have N45 := Fr.app N18 N45q
    have pre45s : ∀ tg, Steps p.tables e below (T45.setTop (mkF m 140 #[.val (.int p0), .val (.int p1), .val (.int p2), .val (.int p3), .val (.int p4), .val (.int p5), .val (.int (1 : Int32)), .val (.int zd), .val (.int ((1 : Int32) + ((p3 &&& (2147483647 : Int32)) % (3 : Int32)))), .val (.ref dg), .val (.ref lo), .val (.ref hi), .unset, .unset] [(.ref np)])) tg → G tg := fun tg kt => pre44 tg (st45.trans kt)
    have Z45 : n0 ≤ T45.heap.size := Nat.le_trans Z29 K45.1
    have ch46 := ch30.trans (CHr.keep K45 (sfS (Safe.exa hZ.alike A29 (by decide) (by decide)) sf0) ch30.1)
    have hk46 := Nat.le_trans hk30 K45.1
    have E_dg_47 := E_dg_31.keep K45
    have C_dg_48 := C_dg_32.keep K45 (ninS ne_dg_np nin0)
    have F_dg_49 := F_dg_33.keep K45 (ninS ne_dg_np nin0)
    have V_dg_50 := V_dg_34.keep K45 (ninS ne_v_dg_np nin0)
    have E_lo_51 := E_lo_35.keep K45
    have C_lo_52 := C_lo_36.keep K45 (ninS ne_lo_np nin0)
    have F_lo_53 := F_lo_37.keep K45 (ninS ne_lo_np nin0)
    have V_lo_54 := V_lo_38.keep K45 (ninS ne_v_lo_np nin0)
    have E_hi_55 := E_hi_39.keep K45
    have C_hi_56 := C_hi_40.keep K45 (ninS ne_hi_np nin0)
    have F_hi_57 := F_hi_41.keep K45 (ninS ne_hi_np nin0)
    have V_hi_58 := V_hi_42.keep K45 (ninS ne_v_hi_np nin0)
    have A29_59 := A29.keep K45
    have Ol60 := Ol43.keep K45 (allS O_np all0)
    obtain ⟨cq61, kq61, q61a, q61b, q61c⟩ := isOf hZ rfl A29_59
    obtain ⟨_, _, ⟨T61, L61, k61, n61⟩, -, X61, ⟨Lc61, hQ61, l61, y61, z61⟩, st61⟩ := X45.virtualBack hx (y := (⟨"com/example/ringfence/ringfence/NumberPattern", "rank", "()I"⟩ : MethodName)) (z := (⟨"com/example/ringfence/ringfence/NumberPattern", "rank", "()I"⟩ : MethodName)) hown (mvT hZ (hw _ (List.mem_of_getElem? (i := 62) rfl))) (mvT hZ (hw _ (List.mem_of_getElem? (i := 63) rfl))) (notFace_of_selects (args := #[]) (mvT hZ (hw _ (List.mem_of_getElem? (i := 65) rfl)))) (mvT hZ (hw _ (List.mem_of_getElem? (i := 65) rfl))) (mvT hZ (hw _ (List.mem_of_getElem? (i := 64) rfl))) (by decide) (backOf (W := 0) (rmQ_e l Z a0 hw [] np dg v_dg k_dg zd b_dg lo v_lo k_lo (0 : Int32) b_lo T45.heap n0 Z45 hs Ol60 Fd Fl E_dg_47 C_dg_48 F_dg_49 V_dg_50 E_lo_51 F_lo_53 V_lo_54 rfl) hZ (hw _ (List.mem_of_getElem? (i := 66) rfl)) (hw _ (List.mem_of_getElem? (i := 46) rfl)) (by decide) (by decide)) q61a q61c (g := (mkF m 140 #[.val (.int p0), .val (.int p1), .val (.int p2), .val (.int p3), .val (.int p4), .val (.int p5), .val (.int (1 : Int32)), .val (.int zd), .val (.int ((1 : Int32) + ((p3 &&& (2147483647 : Int32)) % (3 : Int32)))), .val (.ref dg), .val (.ref lo), .val (.ref hi), .unset, .unset] [(.ref np)])) rfl (by rw [hml]; rfl) (Steps.refl _) (argsL := []) (rest := []) (lenOf pd_8 rfl) rfl (by show 2 * 0 + _ ≤ _; exact Nat.le_of_eq rfl) (hb hby at_140) (fun _ _ => ⟨rfl, rfl, (Nat.le_of_ble_eq_true rfl), (Nat.le_of_ble_eq_true rfl)⟩)
    dsimp only [Pt.U, Pt.locs, Pt.cells, Pt.slots] at X61 l61 y61 z61 st61 hQ61
    subst l61 y61 z61
    obtain ⟨rfl, N61q, e61⟩ := hQ61
    have N61 := Fr.app N45 N61q
    have pre61s : ∀ tg, Steps p.tables e below (T61.setTop (mkF m 143 #[.val (.int p0), .val (.int p1), .val (.int p2), .val (.int p3), .val (.int p4), .val (.int p5), .val (.int (1 : Int32)), .val (.int zd), .val (.int ((1 : Int32) + ((p3 &&& (2147483647 : Int32)) % (3 : Int32)))), .val (.ref dg), .val (.ref lo), .val (.ref hi), .unset, .unset] [(.int (2147483647 : Int32))])) tg → G tg := fun tg kt => pre45s tg (st61.trans kt)
    have pre62 : ∀ tg, Steps p.tables e below (T61.setTop (mkF m 172 #[.val (.int p0), .val (.int p1), .val (.int p2), .val (.int p3), .val (.int p4), .val (.int p5), .val (.int (1 : Int32)), .val (.int zd), .val (.int ((1 : Int32) + ((p3 &&& (2147483647 : Int32)) % (3 : Int32)))), .val (.ref dg), .val (.ref lo), .val (.ref hi), .val (.int (2147483647 : Int32)), .val (.int (2147483647 : Int32))] [(.int (1 : Int32))])) tg → G tg := fun tg kt => pre61s tg (by
      show Steps p.tables e below (T61.setTop (mkF m 143 #[.val (.int p0), .val (.int p1), .val (.int p2), .val (.int p3), .val (.int p4), .val (.int p5), .val (.int (1 : Int32)), .val (.int zd), .val (.int ((1 : Int32) + ((p3 &&& (2147483647 : Int32)) % (3 : Int32)))), .val (.ref dg), .val (.ref lo), .val (.ref hi), .unset, .unset] [(.int (2147483647 : Int32))])) _
      refine XS.istore X61.here hx rfl (hb hby at_143) rfl (l' := #[.val (.int p0), .val (.int p1), .val (.int p2), .val (.int p3), .val (.int p4), .val (.int p5), .val (.int (1 : Int32)), .val (.int zd), .val (.int ((1 : Int32) + ((p3 &&& (2147483647 : Int32)) % (3 : Int32)))), .val (.ref dg), .val (.ref lo), .val (.ref hi), .val (.int (2147483647 : Int32)), .unset]) rfl ?_
      show Steps p.tables e below (T61.setTop (mkF m 145 #[.val (.int p0), .val (.int p1), .val (.int p2), .val (.int p3), .val (.int p4), .val (.int p5), .val (.int (1 : Int32)), .val (.int zd), .val (.int ((1 : Int32) + ((p3 &&& (2147483647 : Int32)) % (3 : Int32)))), .val (.ref dg), .val (.ref lo), .val (.ref hi), .val (.int (2147483647 : Int32)), .unset] [])) _
      refine XS.iload X61.here hx rfl (hb hby at_145) rfl ?_
      show Steps p.tables e below (T61.setTop (mkF m 147 #[.val (.int p0), .val (.int p1), .val (.int p2), .val (.int p3), .val (.int p4), .val (.int p5), .val (.int (1 : Int32)), .val (.int zd), .val (.int ((1 : Int32) + ((p3 &&& (2147483647 : Int32)) % (3 : Int32)))), .val (.ref dg), .val (.ref lo), .val (.ref hi), .val (.int (2147483647 : Int32)), .unset] [(.int (1 : Int32))])) _
      refine XS.iconst X61.here hx rfl (hb hby at_147) ?_
      show Steps p.tables e below (T61.setTop (mkF m 148 #[.val (.int p0), .val (.int p1), .val (.int p2), .val (.int p3), .val (.int p4), .val (.int p5), .val (.int (1 : Int32)), .val (.int zd), .val (.int ((1 : Int32) + ((p3 &&& (2147483647 : Int32)) % (3 : Int32)))), .val (.ref dg), .val (.ref lo), .val (.ref hi), .val (.int (2147483647 : Int32)), .unset] [(.int (1 : Int32)), (.int (1 : Int32))])) _
      refine XS.icmpNo X61.here hx rfl (hb hby at_148) rfl (teq (by decide : (1 : Int32) = (1 : Int32))).2 ?_
      show Steps p.tables e below (T61.setTop (mkF m 151 #[.val (.int p0), .val (.int p1), .val (.int p2), .val (.int p3), .val (.int p4), .val (.int p5), .val (.int (1 : Int32)), .val (.int zd), .val (.int ((1 : Int32) + ((p3 &&& (2147483647 : Int32)) % (3 : Int32)))), .val (.ref dg), .val (.ref lo), .val (.ref hi), .val (.int (2147483647 : Int32)), .unset] [])) _
      refine X61.ldcInt hx hown (mvT hZ (hw _ (List.mem_of_getElem? (i := 0) rfl))) (g := (mkF m 151 #[.val (.int p0), .val (.int p1), .val (.int p2), .val (.int p3), .val (.int p4), .val (.int p5), .val (.int (1 : Int32)), .val (.int zd), .val (.int ((1 : Int32) + ((p3 &&& (2147483647 : Int32)) % (3 : Int32)))), .val (.ref dg), .val (.ref lo), .val (.ref hi), .val (.int (2147483647 : Int32)), .unset] [])) rfl (hb hby at_151) _ ?_
      show Steps p.tables e below (T61.setTop (mkF m 153 #[.val (.int p0), .val (.int p1), .val (.int p2), .val (.int p3), .val (.int p4), .val (.int p5), .val (.int (1 : Int32)), .val (.int zd), .val (.int ((1 : Int32) + ((p3 &&& (2147483647 : Int32)) % (3 : Int32)))), .val (.ref dg), .val (.ref lo), .val (.ref hi), .val (.int (2147483647 : Int32)), .unset] [(.int (2147483647 : Int32))])) _
      refine XS.goto X61.here hx rfl (pc0 := 153) (pc' := 158) rfl (hb hby at_153) (by decide) (by decide) ?_
      show Steps p.tables e below (T61.setTop (mkF m 158 #[.val (.int p0), .val (.int p1), .val (.int p2), .val (.int p3), .val (.int p4), .val (.int p5), .val (.int (1 : Int32)), .val (.int zd), .val (.int ((1 : Int32) + ((p3 &&& (2147483647 : Int32)) % (3 : Int32)))), .val (.ref dg), .val (.ref lo), .val (.ref hi), .val (.int (2147483647 : Int32)), .unset] [(.int (2147483647 : Int32))])) _
      refine XS.istore X61.here hx rfl (hb hby at_158) rfl (l' := #[.val (.int p0), .val (.int p1), .val (.int p2), .val (.int p3), .val (.int p4), .val (.int p5), .val (.int (1 : Int32)), .val (.int zd), .val (.int ((1 : Int32) + ((p3 &&& (2147483647 : Int32)) % (3 : Int32)))), .val (.ref dg), .val (.ref lo), .val (.ref hi), .val (.int (2147483647 : Int32)), .val (.int (2147483647 : Int32))]) rfl ?_
      show Steps p.tables e below (T61.setTop (mkF m 160 #[.val (.int p0), .val (.int p1), .val (.int p2), .val (.int p3), .val (.int p4), .val (.int p5), .val (.int (1 : Int32)), .val (.int zd), .val (.int ((1 : Int32) + ((p3 &&& (2147483647 : Int32)) % (3 : Int32)))), .val (.ref dg), .val (.ref lo), .val (.ref hi), .val (.int (2147483647 : Int32)), .val (.int (2147483647 : Int32))] [])) _
      refine XS.iload X61.here hx rfl (hb hby at_160) rfl ?_
      show Steps p.tables e below (T61.setTop (mkF m 162 #[.val (.int p0), .val (.int p1), .val (.int p2), .val (.int p3), .val (.int p4), .val (.int p5), .val (.int (1 : Int32)), .val (.int zd), .val (.int ((1 : Int32) + ((p3 &&& (2147483647 : Int32)) % (3 : Int32)))), .val (.ref dg), .val (.ref lo), .val (.ref hi), .val (.int (2147483647 : Int32)), .val (.int (2147483647 : Int32))] [(.int (2147483647 : Int32))])) _
      refine XS.iload X61.here hx rfl (hb hby at_162) rfl ?_
      show Steps p.tables e below (T61.setTop (mkF m 164 #[.val (.int p0), .val (.int p1), .val (.int p2), .val (.int p3), .val (.int p4), .val (.int p5), .val (.int (1 : Int32)), .val (.int zd), .val (.int ((1 : Int32) + ((p3 &&& (2147483647 : Int32)) % (3 : Int32)))), .val (.ref dg), .val (.ref lo), .val (.ref hi), .val (.int (2147483647 : Int32)), .val (.int (2147483647 : Int32))] [(.int (2147483647 : Int32)), (.int (2147483647 : Int32))])) _
      refine XS.icmpNo X61.here hx rfl (hb hby at_164) rfl (teq (by decide : (2147483647 : Int32) = (2147483647 : Int32))).2 ?_
      show Steps p.tables e below (T61.setTop (mkF m 167 #[.val (.int p0), .val (.int p1), .val (.int p2), .val (.int p3), .val (.int p4), .val (.int p5), .val (.int (1 : Int32)), .val (.int zd), .val (.int ((1 : Int32) + ((p3 &&& (2147483647 : Int32)) % (3 : Int32)))), .val (.ref dg), .val (.ref lo), .val (.ref hi), .val (.int (2147483647 : Int32)), .val (.int (2147483647 : Int32))] [])) _
      refine XS.iconst X61.here hx rfl (hb hby at_167) ?_
      show Steps p.tables e below (T61.setTop (mkF m 168 #[.val (.int p0), .val (.int p1), .val (.int p2), .val (.int p3), .val (.int p4), .val (.int p5), .val (.int (1 : Int32)), .val (.int zd), .val (.int ((1 : Int32) + ((p3 &&& (2147483647 : Int32)) % (3 : Int32)))), .val (.ref dg), .val (.ref lo), .val (.ref hi), .val (.int (2147483647 : Int32)), .val (.int (2147483647 : Int32))] [(.int (1 : Int32))])) _
      refine XS.goto X61.here hx rfl (pc0 := 168) (pc' := 172) rfl (hb hby at_168) (by decide) (by decide) ?_
      exact kt)
    obtain ⟨fs, hr, hrun, hended, hRE⟩ := X61.leaveW (s := s) (vm₁ := T18.vm) (v := some (.int (1 : Int32))) hS18 (by rw [e61]; exact hk46) (fun h => by rw [Bd.returns] at h; cases h)
    have chL := ch46.trans (CHv.at (s := s) (vm0 := T18.vm) X61 hZ hEL ch46.1)
    subst hG
    refine ⟨_, _, pre62 _ ?_, hrun, hended, _, _, rfl, ?_, ?_, hRE.1, hRE.2.1, hRE.2.2.1, hRE.2.2.2.mono (by decide) (by decide)⟩
    · skip
      show Steps p.tables e below (T61.setTop (mkF m 172 #[.val (.int p0), .val (.int p1), .val (.int p2), .val (.int p3), .val (.int p4), .val (.int p5), .val (.int (1 : Int32)), .val (.int zd), .val (.int ((1 : Int32) + ((p3 &&& (2147483647 : Int32)) % (3 : Int32)))), .val (.ref dg), .val (.ref lo), .val (.ref hi), .val (.int (2147483647 : Int32)), .val (.int (2147483647 : Int32))] [(.int (1 : Int32))])) _
      exact retN X61 hx (t := .boolean) Bd.returns (by simp) (hb hby at_172) hr
    · show Q_rm0 Z p0 p1 p2 p3 p4 p5 h0 n0 _ T61.heap _
      rw [e61]
      exact ⟨rfl, N61⟩
    · show CHr Z own_EL s.vm s.heap T61.vm T61.heap
      rw [hh, e61]; exact chL
  · -- not hk1
    have pre63 : ∀ tg, Steps p.tables e below (s₁.setTop (mkF m 31 #[.val (.int p0), .val (.int p1), .val (.int p2), .val (.int p3), .val (.int p4), .val (.int p5), .val (.int zk), .val (.int ((p0 &&& (2147483647 : Int32)) % (6 : Int32))), .unset, .unset, .unset, .unset, .unset, .unset] [])) tg → G tg := fun tg kt => pre2 tg (by
      show Steps p.tables e below (s₁.setTop (mkF m 8 #[.val (.int p0), .val (.int p1), .val (.int p2), .val (.int p3), .val (.int p4), .val (.int p5), .val (.int zk), .unset, .unset, .unset, .unset, .unset, .unset, .unset] [(.int (1 : Int32)), (.int zk)])) _
      refine XS.icmpYes X0.here hx rfl (pc0 := 8) (pc' := 22) rfl (hb hby at_8) rfl (feq hk1).2 (by decide) (by decide) ?_
      show Steps p.tables e below (s₁.setTop (mkF m 22 #[.val (.int p0), .val (.int p1), .val (.int p2), .val (.int p3), .val (.int p4), .val (.int p5), .val (.int zk), .unset, .unset, .unset, .unset, .unset, .unset, .unset] [])) _
      refine XS.iloadN X0.here hx rfl (hb hby at_22) rfl ?_
      show Steps p.tables e below (s₁.setTop (mkF m 23 #[.val (.int p0), .val (.int p1), .val (.int p2), .val (.int p3), .val (.int p4), .val (.int p5), .val (.int zk), .unset, .unset, .unset, .unset, .unset, .unset, .unset] [(.int p0)])) _
      refine X0.ldcInt hx hown (mvT hZ (hw _ (List.mem_of_getElem? (i := 0) rfl))) (g := (mkF m 23 #[.val (.int p0), .val (.int p1), .val (.int p2), .val (.int p3), .val (.int p4), .val (.int p5), .val (.int zk), .unset, .unset, .unset, .unset, .unset, .unset, .unset] [(.int p0)])) rfl (hb hby at_23) _ ?_
      show Steps p.tables e below (s₁.setTop (mkF m 25 #[.val (.int p0), .val (.int p1), .val (.int p2), .val (.int p3), .val (.int p4), .val (.int p5), .val (.int zk), .unset, .unset, .unset, .unset, .unset, .unset, .unset] [(.int (2147483647 : Int32)), (.int p0)])) _
      refine XS.iand X0.here hx rfl (hb hby at_25) rfl ?_
      show Steps p.tables e below (s₁.setTop (mkF m 26 #[.val (.int p0), .val (.int p1), .val (.int p2), .val (.int p3), .val (.int p4), .val (.int p5), .val (.int zk), .unset, .unset, .unset, .unset, .unset, .unset, .unset] [(.int (p0 &&& (2147483647 : Int32)))])) _
      refine XS.bipush X0.here hx rfl (hb hby at_26) ?_
      show Steps p.tables e below (s₁.setTop (mkF m 28 #[.val (.int p0), .val (.int p1), .val (.int p2), .val (.int p3), .val (.int p4), .val (.int p5), .val (.int zk), .unset, .unset, .unset, .unset, .unset, .unset, .unset] [(.int (6 : Int32)), (.int (p0 &&& (2147483647 : Int32)))])) _
      refine iremM X0 hx rfl (hb hby at_28) rfl (by decide) ?_
      show Steps p.tables e below (s₁.setTop (mkF m 29 #[.val (.int p0), .val (.int p1), .val (.int p2), .val (.int p3), .val (.int p4), .val (.int p5), .val (.int zk), .unset, .unset, .unset, .unset, .unset, .unset, .unset] [(.int ((p0 &&& (2147483647 : Int32)) % (6 : Int32)))])) _
      refine XS.istore X0.here hx rfl (hb hby at_29) rfl (l' := #[.val (.int p0), .val (.int p1), .val (.int p2), .val (.int p3), .val (.int p4), .val (.int p5), .val (.int zk), .val (.int ((p0 &&& (2147483647 : Int32)) % (6 : Int32))), .unset, .unset, .unset, .unset, .unset, .unset]) rfl ?_
      exact kt)
    obtain ⟨zd, zd_eq⟩ : ∃ z : Int32, z = ((p0 &&& (2147483647 : Int32)) % (6 : Int32)) := ⟨_, rfl⟩
    rw [← zd_eq] at pre63
    have pre64 : ∀ tg, Steps p.tables e below (s₁.setTop (mkF m 41 #[.val (.int p0), .val (.int p1), .val (.int p2), .val (.int p3), .val (.int p4), .val (.int p5), .val (.int zk), .val (.int zd), .val (.int ((1 : Int32) + ((p3 &&& (2147483647 : Int32)) % (3 : Int32)))), .unset, .unset, .unset, .unset, .unset] [])) tg → G tg := fun tg kt => pre63 tg (by
      show Steps p.tables e below (s₁.setTop (mkF m 31 #[.val (.int p0), .val (.int p1), .val (.int p2), .val (.int p3), .val (.int p4), .val (.int p5), .val (.int zk), .val (.int zd), .unset, .unset, .unset, .unset, .unset, .unset] [])) _
      refine XS.iconst X0.here hx rfl (hb hby at_31) ?_
      show Steps p.tables e below (s₁.setTop (mkF m 32 #[.val (.int p0), .val (.int p1), .val (.int p2), .val (.int p3), .val (.int p4), .val (.int p5), .val (.int zk), .val (.int zd), .unset, .unset, .unset, .unset, .unset, .unset] [(.int (1 : Int32))])) _
      refine XS.iloadN X0.here hx rfl (hb hby at_32) rfl ?_
      show Steps p.tables e below (s₁.setTop (mkF m 33 #[.val (.int p0), .val (.int p1), .val (.int p2), .val (.int p3), .val (.int p4), .val (.int p5), .val (.int zk), .val (.int zd), .unset, .unset, .unset, .unset, .unset, .unset] [(.int p3), (.int (1 : Int32))])) _
      refine X0.ldcInt hx hown (mvT hZ (hw _ (List.mem_of_getElem? (i := 0) rfl))) (g := (mkF m 33 #[.val (.int p0), .val (.int p1), .val (.int p2), .val (.int p3), .val (.int p4), .val (.int p5), .val (.int zk), .val (.int zd), .unset, .unset, .unset, .unset, .unset, .unset] [(.int p3), (.int (1 : Int32))])) rfl (hb hby at_33) _ ?_
      show Steps p.tables e below (s₁.setTop (mkF m 35 #[.val (.int p0), .val (.int p1), .val (.int p2), .val (.int p3), .val (.int p4), .val (.int p5), .val (.int zk), .val (.int zd), .unset, .unset, .unset, .unset, .unset, .unset] [(.int (2147483647 : Int32)), (.int p3), (.int (1 : Int32))])) _
      refine XS.iand X0.here hx rfl (hb hby at_35) rfl ?_
      show Steps p.tables e below (s₁.setTop (mkF m 36 #[.val (.int p0), .val (.int p1), .val (.int p2), .val (.int p3), .val (.int p4), .val (.int p5), .val (.int zk), .val (.int zd), .unset, .unset, .unset, .unset, .unset, .unset] [(.int (p3 &&& (2147483647 : Int32))), (.int (1 : Int32))])) _
      refine XS.iconst X0.here hx rfl (hb hby at_36) ?_
      show Steps p.tables e below (s₁.setTop (mkF m 37 #[.val (.int p0), .val (.int p1), .val (.int p2), .val (.int p3), .val (.int p4), .val (.int p5), .val (.int zk), .val (.int zd), .unset, .unset, .unset, .unset, .unset, .unset] [(.int (3 : Int32)), (.int (p3 &&& (2147483647 : Int32))), (.int (1 : Int32))])) _
      refine iremM X0 hx rfl (hb hby at_37) rfl (by decide) ?_
      show Steps p.tables e below (s₁.setTop (mkF m 38 #[.val (.int p0), .val (.int p1), .val (.int p2), .val (.int p3), .val (.int p4), .val (.int p5), .val (.int zk), .val (.int zd), .unset, .unset, .unset, .unset, .unset, .unset] [(.int ((p3 &&& (2147483647 : Int32)) % (3 : Int32))), (.int (1 : Int32))])) _
      refine XS.iadd X0.here hx rfl (hb hby at_38) rfl ?_
      show Steps p.tables e below (s₁.setTop (mkF m 39 #[.val (.int p0), .val (.int p1), .val (.int p2), .val (.int p3), .val (.int p4), .val (.int p5), .val (.int zk), .val (.int zd), .unset, .unset, .unset, .unset, .unset, .unset] [(.int ((1 : Int32) + ((p3 &&& (2147483647 : Int32)) % (3 : Int32))))])) _
      refine XS.istore X0.here hx rfl (hb hby at_39) rfl (l' := #[.val (.int p0), .val (.int p1), .val (.int p2), .val (.int p3), .val (.int p4), .val (.int p5), .val (.int zk), .val (.int zd), .val (.int ((1 : Int32) + ((p3 &&& (2147483647 : Int32)) % (3 : Int32)))), .unset, .unset, .unset, .unset, .unset]) rfl ?_
      exact kt)
    obtain ⟨zw, zw_eq⟩ : ∃ z : Int32, z = ((1 : Int32) + ((p3 &&& (2147483647 : Int32)) % (3 : Int32))) := ⟨_, rfl⟩
    rw [← zw_eq] at pre64
    have hw3 := own_w3 p3
    rw [← zw_eq] at hw3
    have pre65 : ∀ tg, Steps p.tables e below (s₁.setTop (mkF m 44 #[.val (.int p0), .val (.int p1), .val (.int p2), .val (.int p3), .val (.int p4), .val (.int p5), .val (.int zk), .val (.int zd), .val (.int zw), .unset, .unset, .unset, .unset, .unset] [(.int p1), (.int zd)])) tg → G tg := fun tg kt => pre64 tg (by
      show Steps p.tables e below (s₁.setTop (mkF m 41 #[.val (.int p0), .val (.int p1), .val (.int p2), .val (.int p3), .val (.int p4), .val (.int p5), .val (.int zk), .val (.int zd), .val (.int zw), .unset, .unset, .unset, .unset, .unset] [])) _
      refine XS.iload X0.here hx rfl (hb hby at_41) rfl ?_
      show Steps p.tables e below (s₁.setTop (mkF m 43 #[.val (.int p0), .val (.int p1), .val (.int p2), .val (.int p3), .val (.int p4), .val (.int p5), .val (.int zk), .val (.int zd), .val (.int zw), .unset, .unset, .unset, .unset, .unset] [(.int zd)])) _
      refine XS.iloadN X0.here hx rfl (hb hby at_43) rfl ?_
      exact kt)
    by_cases hd0 : zd = (0 : Int32)
    · skip
      have pre66 : ∀ tg, Steps p.tables e below (s₁.setTop (mkF m 44 #[.val (.int p0), .val (.int p1), .val (.int p2), .val (.int p3), .val (.int p4), .val (.int p5), .val (.int zk), .val (.int (0 : Int32)), .val (.int zw), .unset, .unset, .unset, .unset, .unset] [(.int p1), (.int (0 : Int32))])) tg → G tg := fun tg kt => pre65 tg (by subst hd0; exact kt)
      obtain ⟨_, _, ⟨T67, L67, k67, n67⟩, -, X67, hS67q, hg67, ⟨Lc67, hQ67, l67, y67, z67, chn67⟩, st67⟩ := callSS X0 hx (y := (⟨"com/example/ringfence/ringfence/NumberPatternRankPinLaw", "str", "(II)Ljava/lang/String;"⟩ : MethodName)) hown (mvT hZ (hw _ (List.mem_of_getElem? (i := 1) rfl))) (mvT hZ (hw _ (List.mem_of_getElem? (i := 2) rfl))) (mvT hZ (hw _ (List.mem_of_getElem? (i := 3) rfl))) (mvT hZ (hw _ (List.mem_of_getElem? (i := 4) rfl))) (by decide) (backOfSH (vm0 := s.vm) (s := s) (EL := own_EL) (W := 0) (rmS_0 l Z a0 hw [] p1 h0 n0 Z0 hs Ol) hZ (hw _ (List.mem_of_getElem? (i := 4) rfl)) (hw _ (List.mem_of_getElem? (i := 3) rfl)) (by decide) (by decide) hEL ch0.1) (g := (mkF m 44 #[.val (.int p0), .val (.int p1), .val (.int p2), .val (.int p3), .val (.int p4), .val (.int p5), .val (.int zk), .val (.int (0 : Int32)), .val (.int zw), .unset, .unset, .unset, .unset, .unset] [(.int p1), (.int (0 : Int32))])) rfl (by rw [hml]; rfl) (argsL := [(.int (0 : Int32)), (.int p1)]) (rest := []) (lenOf pd_10 rfl) rfl (by show 2 * 0 + _ ≤ _; exact Nat.le_of_eq rfl) (hb hby at_44) (fun _ _ => ⟨rfl, e0, (Nat.le_of_ble_eq_true rfl), (Nat.le_of_ble_eq_true rfl)⟩)
      dsimp only [Pt.U, Pt.locs, Pt.cells, Pt.slots] at X67 l67 y67 z67 st67 hQ67 hS67q hg67 chn67
      subst l67 y67 z67
      obtain ⟨dg, rfl, N67q, K67, E_dg, Tx_dg⟩ := hQ67
      have N67 := Fr.app N0 N67q
      have X67 : Stand p l e room_1 (s.setVm T67.vm) m #[(.int p0), (.int p1), (.int p2), (.int p3), (.int p4), (.int p5)] below meth c _ _ _ _ := X67
      have hg67' : h0.size ≤ T67.heap.size := by have q := hg67; rw [e0] at q; exact q
      have hS67 : s.Since T67.vm T67.heap.size := hS.trans hS67q (Nat.le_trans hkz hg67')
      have hk67 : T67.heap.size ≤ T67.heap.size := Nat.le_refl _
      have hown : (s.setVm T67.vm).vm.findClass "com/example/ringfence/ringfence/NumberPatternRankPinLaw" = some m.cls := by rw [show (s.setVm T67.vm).vm = T67.vm from rfl, hS67q.1.alike.findClass]; exact hown
      have hZ : Z.Warmed39 (s.setVm T67.vm).vm := State.Warmed39.trans (t := s.setVm s.vm) hZ hS67q.1
      have ch67 := ch0.trans chn67
      have pre67s : ∀ tg, Steps p.tables e below (T67.setTop (mkF m 47 #[.val (.int p0), .val (.int p1), .val (.int p2), .val (.int p3), .val (.int p4), .val (.int p5), .val (.int zk), .val (.int (0 : Int32)), .val (.int zw), .unset, .unset, .unset, .unset, .unset] [(.ref dg)])) tg → G tg := fun tg kt => pre66 tg (st67.trans kt)
      have Z67 : n0 ≤ T67.heap.size := Nat.le_trans Z0 K67.1
      have Ol68 := Ol.keep K67 all0
      obtain ⟨v_dg, k_dg, b_dg, C_dg, F_dg, V_dg⟩ := Tx_dg
      have pre69 : ∀ tg, Steps p.tables e below (T67.setTop (mkF m 51 #[.val (.int p0), .val (.int p1), .val (.int p2), .val (.int p3), .val (.int p4), .val (.int p5), .val (.int zk), .val (.int (0 : Int32)), .val (.int zw), .val (.ref dg), .unset, .unset, .unset, .unset] [(.int zk)])) tg → G tg := fun tg kt => pre67s tg (by
        show Steps p.tables e below (T67.setTop (mkF m 47 #[.val (.int p0), .val (.int p1), .val (.int p2), .val (.int p3), .val (.int p4), .val (.int p5), .val (.int zk), .val (.int (0 : Int32)), .val (.int zw), .unset, .unset, .unset, .unset, .unset] [(.ref dg)])) _
        refine XS.astore X67.here hx rfl (hb hby at_47) rfl rfl (l' := #[.val (.int p0), .val (.int p1), .val (.int p2), .val (.int p3), .val (.int p4), .val (.int p5), .val (.int zk), .val (.int (0 : Int32)), .val (.int zw), .val (.ref dg), .unset, .unset, .unset, .unset]) rfl ?_
        show Steps p.tables e below (T67.setTop (mkF m 49 #[.val (.int p0), .val (.int p1), .val (.int p2), .val (.int p3), .val (.int p4), .val (.int p5), .val (.int zk), .val (.int (0 : Int32)), .val (.int zw), .val (.ref dg), .unset, .unset, .unset, .unset] [])) _
        refine XS.iload X67.here hx rfl (hb hby at_49) rfl ?_
        exact kt)
      by_cases hk0 : zk = (0 : Int32)
      · -- hk0
        have pre70 : ∀ tg, Steps p.tables e below (T67.setTop (mkF m 127 #[.val (.int p0), .val (.int p1), .val (.int p2), .val (.int p3), .val (.int p4), .val (.int p5), .val (.int zk), .val (.int (0 : Int32)), .val (.int zw), .val (.ref dg), .val .null, .val .null, .unset, .unset] [])) tg → G tg := fun tg kt => pre69 tg (by
          show Steps p.tables e below (T67.setTop (mkF m 51 #[.val (.int p0), .val (.int p1), .val (.int p2), .val (.int p3), .val (.int p4), .val (.int p5), .val (.int zk), .val (.int (0 : Int32)), .val (.int zw), .val (.ref dg), .unset, .unset, .unset, .unset] [(.int zk)])) _
          refine XS.ifNo X67.here hx rfl (hb hby at_51) rfl ((if0 _ _).trans (teq hk0).2) ?_
          show Steps p.tables e below (T67.setTop (mkF m 54 #[.val (.int p0), .val (.int p1), .val (.int p2), .val (.int p3), .val (.int p4), .val (.int p5), .val (.int zk), .val (.int (0 : Int32)), .val (.int zw), .val (.ref dg), .unset, .unset, .unset, .unset] [])) _
          refine XS.aconstNull X67.here hx rfl (hb hby at_54) ?_
          show Steps p.tables e below (T67.setTop (mkF m 55 #[.val (.int p0), .val (.int p1), .val (.int p2), .val (.int p3), .val (.int p4), .val (.int p5), .val (.int zk), .val (.int (0 : Int32)), .val (.int zw), .val (.ref dg), .unset, .unset, .unset, .unset] [.null])) _
          refine XS.astore X67.here hx rfl (hb hby at_55) rfl rfl (l' := #[.val (.int p0), .val (.int p1), .val (.int p2), .val (.int p3), .val (.int p4), .val (.int p5), .val (.int zk), .val (.int (0 : Int32)), .val (.int zw), .val (.ref dg), .val .null, .unset, .unset, .unset]) rfl ?_
          show Steps p.tables e below (T67.setTop (mkF m 57 #[.val (.int p0), .val (.int p1), .val (.int p2), .val (.int p3), .val (.int p4), .val (.int p5), .val (.int zk), .val (.int (0 : Int32)), .val (.int zw), .val (.ref dg), .val .null, .unset, .unset, .unset] [])) _
          refine XS.aconstNull X67.here hx rfl (hb hby at_57) ?_
          show Steps p.tables e below (T67.setTop (mkF m 58 #[.val (.int p0), .val (.int p1), .val (.int p2), .val (.int p3), .val (.int p4), .val (.int p5), .val (.int zk), .val (.int (0 : Int32)), .val (.int zw), .val (.ref dg), .val .null, .unset, .unset, .unset] [.null])) _
          refine XS.astore X67.here hx rfl (hb hby at_58) rfl rfl (l' := #[.val (.int p0), .val (.int p1), .val (.int p2), .val (.int p3), .val (.int p4), .val (.int p5), .val (.int zk), .val (.int (0 : Int32)), .val (.int zw), .val (.ref dg), .val .null, .val .null, .unset, .unset]) rfl ?_
          show Steps p.tables e below (T67.setTop (mkF m 60 #[.val (.int p0), .val (.int p1), .val (.int p2), .val (.int p3), .val (.int p4), .val (.int p5), .val (.int zk), .val (.int (0 : Int32)), .val (.int zw), .val (.ref dg), .val .null, .val .null, .unset, .unset] [])) _
          refine XS.goto X67.here hx rfl (pc0 := 60) (pc' := 127) rfl (hb hby at_60) (by decide) (by decide) ?_
          exact kt)
        obtain ⟨T71, h71, X71, e71, E71, A71, D71, -, st71⟩ := newO X67 hx hZ hown (hw _ (List.mem_of_getElem? (i := 44) rfl)) (hw _ (List.mem_of_getElem? (i := 45) rfl)) (hw _ (List.mem_of_getElem? (i := 46) rfl)) rfl (g := (mkF m 127 #[.val (.int p0), .val (.int p1), .val (.int p2), .val (.int p3), .val (.int p4), .val (.int p5), .val (.int zk), .val (.int (0 : Int32)), .val (.int zw), .val (.ref dg), .val .null, .val .null, .unset, .unset] [])) rfl (hb hby at_127) (by decide) (by decide)
        obtain ⟨np, g71⟩ : ∃ z, z = T67.heap.size := ⟨_, rfl⟩
        rw [← g71] at A71 D71 st71
        have O_np : n0 ≤ np := Nat.le_trans Z67 (Nat.le_of_eq g71.symm)
        have Z71 : n0 ≤ h71.size := Nat.le_trans Z67 E71.1
        have ne_dg_np : dg ≠ np := Nat.ne_of_lt (Nat.lt_of_lt_of_le E_dg.lt (Nat.le_of_eq g71.symm))
        have ne_v_dg_np : v_dg ≠ np := Nat.ne_of_lt (Nat.lt_of_lt_of_le V_dg.lt (Nat.le_of_eq g71.symm))
        have pre71s : ∀ tg, Steps p.tables e below (T71.setTop (mkF m 130 #[.val (.int p0), .val (.int p1), .val (.int p2), .val (.int p3), .val (.int p4), .val (.int p5), .val (.int zk), .val (.int (0 : Int32)), .val (.int zw), .val (.ref dg), .val .null, .val .null, .unset, .unset] [(.ref np)])) tg → G tg := fun tg kt => pre70 tg (st71 tg kt)
        have ch72 := ch67.trans (CHr.ext E71 ch67.1)
        have hk72 := Nat.le_trans hk67 E71.1
        have E_dg_73 := E_dg.ext E71
        have C_dg_74 := C_dg.ext E71
        have F_dg_75 := F_dg.ext E71
        have V_dg_76 := V_dg.ext E71
        have Ol77 := Ol68.ext E71
        have Fdigits_np : Fld Z h71 np "com/example/ringfence/ringfence/NumberPattern" "digits" "Ljava/lang/String;" .null := D71 (Or.inr (hw _ (List.mem_of_getElem? (i := 57) rfl))) (ty := (.object "java/lang/String")) (by decide)
        have Flow_np : Fld Z h71 np "com/example/ringfence/ringfence/NumberPattern" "low" "Ljava/lang/String;" .null := D71 (Or.inr (hw _ (List.mem_of_getElem? (i := 59) rfl))) (ty := (.object "java/lang/String")) (by decide)
        have Fhigh_np : Fld Z h71 np "com/example/ringfence/ringfence/NumberPattern" "high" "Ljava/lang/String;" .null := D71 (Or.inr (hw _ (List.mem_of_getElem? (i := 61) rfl))) (ty := (.object "java/lang/String")) (by decide)
        have pre78 : ∀ tg, Steps p.tables e below (T71.setTop (mkF m 137 #[.val (.int p0), .val (.int p1), .val (.int p2), .val (.int p3), .val (.int p4), .val (.int p5), .val (.int zk), .val (.int (0 : Int32)), .val (.int zw), .val (.ref dg), .val .null, .val .null, .unset, .unset] [.null, .null, (.ref dg), (.ref np), (.ref np)])) tg → G tg := fun tg kt => pre71s tg (by
          show Steps p.tables e below (T71.setTop (mkF m 130 #[.val (.int p0), .val (.int p1), .val (.int p2), .val (.int p3), .val (.int p4), .val (.int p5), .val (.int zk), .val (.int (0 : Int32)), .val (.int zw), .val (.ref dg), .val .null, .val .null, .unset, .unset] [(.ref np)])) _
          refine XS.dup X71.here hx rfl (hb hby at_130) rfl rfl ?_
          show Steps p.tables e below (T71.setTop (mkF m 131 #[.val (.int p0), .val (.int p1), .val (.int p2), .val (.int p3), .val (.int p4), .val (.int p5), .val (.int zk), .val (.int (0 : Int32)), .val (.int zw), .val (.ref dg), .val .null, .val .null, .unset, .unset] [(.ref np), (.ref np)])) _
          refine XS.aload X71.here hx rfl (hb hby at_131) rfl rfl ?_
          show Steps p.tables e below (T71.setTop (mkF m 133 #[.val (.int p0), .val (.int p1), .val (.int p2), .val (.int p3), .val (.int p4), .val (.int p5), .val (.int zk), .val (.int (0 : Int32)), .val (.int zw), .val (.ref dg), .val .null, .val .null, .unset, .unset] [(.ref dg), (.ref np), (.ref np)])) _
          refine XS.aload X71.here hx rfl (hb hby at_133) rfl rfl ?_
          show Steps p.tables e below (T71.setTop (mkF m 135 #[.val (.int p0), .val (.int p1), .val (.int p2), .val (.int p3), .val (.int p4), .val (.int p5), .val (.int zk), .val (.int (0 : Int32)), .val (.int zw), .val (.ref dg), .val .null, .val .null, .unset, .unset] [.null, (.ref dg), (.ref np), (.ref np)])) _
          refine XS.aload X71.here hx rfl (hb hby at_135) rfl rfl ?_
          exact kt)
        obtain ⟨_, _, ⟨T79, L79, k79, n79⟩, -, X79, ⟨Lc79, hQ79, l79, y79, z79⟩, st79⟩ := X71.specialBack hx (y := (⟨"com/example/ringfence/ringfence/NumberPattern", "<init>", "(Ljava/lang/String;Ljava/lang/String;Ljava/lang/String;)V"⟩ : MethodName)) rfl hown (mvT hZ (hw _ (List.mem_of_getElem? (i := 47) rfl))) (mvT hZ (hw _ (List.mem_of_getElem? (i := 48) rfl))) (mvT hZ (hw _ (List.mem_of_getElem? (i := 49) rfl))) (by decide) (backOf (W := 1) (rmP_n l Z a0 hw [] np dg h71 n0 Z71 A71 O_np Fdigits_np Flow_np Fhigh_np) hZ (hw _ (List.mem_of_getElem? (i := 49) rfl)) (hw _ (List.mem_of_getElem? (i := 46) rfl)) (by decide) (by decide)) (g := (mkF m 137 #[.val (.int p0), .val (.int p1), .val (.int p2), .val (.int p3), .val (.int p4), .val (.int p5), .val (.int zk), .val (.int (0 : Int32)), .val (.int zw), .val (.ref dg), .val .null, .val .null, .unset, .unset] [.null, .null, (.ref dg), (.ref np), (.ref np)])) rfl (by rw [hml]; rfl) (Steps.refl _) (a := np) (argsL := [(.ref dg), .null, .null]) (rest := [(.ref np)]) (lenOf pd_11 rfl) rfl (by show 2 * 0 + _ ≤ _; exact Nat.le_of_eq rfl) (hb hby at_137) (fun _ _ => ⟨rfl, e71, (Nat.le_of_ble_eq_true rfl), (Nat.le_of_ble_eq_true rfl)⟩)
        dsimp only [Pt.U, Pt.locs, Pt.cells, Pt.slots] at X79 l79 y79 z79 st79 hQ79
        subst l79 y79 z79
        obtain ⟨rfl, N79q, K79, Fd, Fl⟩ := hQ79
        have N79 := Fr.app N67 N79q
        have pre79s : ∀ tg, Steps p.tables e below (T79.setTop (mkF m 140 #[.val (.int p0), .val (.int p1), .val (.int p2), .val (.int p3), .val (.int p4), .val (.int p5), .val (.int zk), .val (.int (0 : Int32)), .val (.int zw), .val (.ref dg), .val .null, .val .null, .unset, .unset] [(.ref np)])) tg → G tg := fun tg kt => pre78 tg (st79.trans kt)
        have Z79 : n0 ≤ T79.heap.size := Nat.le_trans Z71 K79.1
        have ch80 := ch72.trans (CHr.keep K79 (sfS (Safe.exa hZ.alike A71 (by decide) (by decide)) sf0) ch72.1)
        have hk80 := Nat.le_trans hk72 K79.1
        have E_dg_81 := E_dg_73.keep K79
        have C_dg_82 := C_dg_74.keep K79 (ninS ne_dg_np nin0)
        have F_dg_83 := F_dg_75.keep K79 (ninS ne_dg_np nin0)
        have V_dg_84 := V_dg_76.keep K79 (ninS ne_v_dg_np nin0)
        have A71_85 := A71.keep K79
        have Ol86 := Ol77.keep K79 (allS O_np all0)
        obtain ⟨cq87, kq87, q87a, q87b, q87c⟩ := isOf hZ rfl A71_85
        obtain ⟨_, _, ⟨T87, L87, k87, n87⟩, -, X87, ⟨Lc87, hQ87, l87, y87, z87⟩, st87⟩ := X79.virtualBack hx (y := (⟨"com/example/ringfence/ringfence/NumberPattern", "rank", "()I"⟩ : MethodName)) (z := (⟨"com/example/ringfence/ringfence/NumberPattern", "rank", "()I"⟩ : MethodName)) hown (mvT hZ (hw _ (List.mem_of_getElem? (i := 62) rfl))) (mvT hZ (hw _ (List.mem_of_getElem? (i := 63) rfl))) (notFace_of_selects (args := #[]) (mvT hZ (hw _ (List.mem_of_getElem? (i := 65) rfl)))) (mvT hZ (hw _ (List.mem_of_getElem? (i := 65) rfl))) (mvT hZ (hw _ (List.mem_of_getElem? (i := 64) rfl))) (by decide) (backOf (W := 0) (rmQ_n l Z a0 hw [] np dg v_dg k_dg (0 : Int32) b_dg T79.heap n0 Z79 hs Ol86 Fd Fl E_dg_81 C_dg_82 F_dg_83 V_dg_84) hZ (hw _ (List.mem_of_getElem? (i := 66) rfl)) (hw _ (List.mem_of_getElem? (i := 46) rfl)) (by decide) (by decide)) q87a q87c (g := (mkF m 140 #[.val (.int p0), .val (.int p1), .val (.int p2), .val (.int p3), .val (.int p4), .val (.int p5), .val (.int zk), .val (.int (0 : Int32)), .val (.int zw), .val (.ref dg), .val .null, .val .null, .unset, .unset] [(.ref np)])) rfl (by rw [hml]; rfl) (Steps.refl _) (argsL := []) (rest := []) (lenOf pd_8 rfl) rfl (by show 2 * 0 + _ ≤ _; exact Nat.le_of_eq rfl) (hb hby at_140) (fun _ _ => ⟨rfl, rfl, (Nat.le_of_ble_eq_true rfl), (Nat.le_of_ble_eq_true rfl)⟩)
        dsimp only [Pt.U, Pt.locs, Pt.cells, Pt.slots] at X87 l87 y87 z87 st87 hQ87
        subst l87 y87 z87
        obtain ⟨rfl, N87q, e87⟩ := hQ87
        have N87 := Fr.app N79 N87q
        have pre87s : ∀ tg, Steps p.tables e below (T87.setTop (mkF m 143 #[.val (.int p0), .val (.int p1), .val (.int p2), .val (.int p3), .val (.int p4), .val (.int p5), .val (.int zk), .val (.int (0 : Int32)), .val (.int zw), .val (.ref dg), .val .null, .val .null, .unset, .unset] [(.int (0 : Int32))])) tg → G tg := fun tg kt => pre79s tg (st87.trans kt)
        have pre88 : ∀ tg, Steps p.tables e below (T87.setTop (mkF m 172 #[.val (.int p0), .val (.int p1), .val (.int p2), .val (.int p3), .val (.int p4), .val (.int p5), .val (.int zk), .val (.int (0 : Int32)), .val (.int zw), .val (.ref dg), .val .null, .val .null, .val (.int (0 : Int32)), .val (.int (0 : Int32))] [(.int (1 : Int32))])) tg → G tg := fun tg kt => pre87s tg (by
          show Steps p.tables e below (T87.setTop (mkF m 143 #[.val (.int p0), .val (.int p1), .val (.int p2), .val (.int p3), .val (.int p4), .val (.int p5), .val (.int zk), .val (.int (0 : Int32)), .val (.int zw), .val (.ref dg), .val .null, .val .null, .unset, .unset] [(.int (0 : Int32))])) _
          refine XS.istore X87.here hx rfl (hb hby at_143) rfl (l' := #[.val (.int p0), .val (.int p1), .val (.int p2), .val (.int p3), .val (.int p4), .val (.int p5), .val (.int zk), .val (.int (0 : Int32)), .val (.int zw), .val (.ref dg), .val .null, .val .null, .val (.int (0 : Int32)), .unset]) rfl ?_
          show Steps p.tables e below (T87.setTop (mkF m 145 #[.val (.int p0), .val (.int p1), .val (.int p2), .val (.int p3), .val (.int p4), .val (.int p5), .val (.int zk), .val (.int (0 : Int32)), .val (.int zw), .val (.ref dg), .val .null, .val .null, .val (.int (0 : Int32)), .unset] [])) _
          refine XS.iload X87.here hx rfl (hb hby at_145) rfl ?_
          show Steps p.tables e below (T87.setTop (mkF m 147 #[.val (.int p0), .val (.int p1), .val (.int p2), .val (.int p3), .val (.int p4), .val (.int p5), .val (.int zk), .val (.int (0 : Int32)), .val (.int zw), .val (.ref dg), .val .null, .val .null, .val (.int (0 : Int32)), .unset] [(.int zk)])) _
          refine XS.iconst X87.here hx rfl (hb hby at_147) ?_
          show Steps p.tables e below (T87.setTop (mkF m 148 #[.val (.int p0), .val (.int p1), .val (.int p2), .val (.int p3), .val (.int p4), .val (.int p5), .val (.int zk), .val (.int (0 : Int32)), .val (.int zw), .val (.ref dg), .val .null, .val .null, .val (.int (0 : Int32)), .unset] [(.int (1 : Int32)), (.int zk)])) _
          refine XS.icmpYes X87.here hx rfl (pc0 := 148) (pc' := 156) rfl (hb hby at_148) rfl (feq hk1).2 (by decide) (by decide) ?_
          show Steps p.tables e below (T87.setTop (mkF m 156 #[.val (.int p0), .val (.int p1), .val (.int p2), .val (.int p3), .val (.int p4), .val (.int p5), .val (.int zk), .val (.int (0 : Int32)), .val (.int zw), .val (.ref dg), .val .null, .val .null, .val (.int (0 : Int32)), .unset] [])) _
          refine XS.iload X87.here hx rfl (hb hby at_156) rfl ?_
          show Steps p.tables e below (T87.setTop (mkF m 158 #[.val (.int p0), .val (.int p1), .val (.int p2), .val (.int p3), .val (.int p4), .val (.int p5), .val (.int zk), .val (.int (0 : Int32)), .val (.int zw), .val (.ref dg), .val .null, .val .null, .val (.int (0 : Int32)), .unset] [(.int (0 : Int32))])) _
          refine XS.istore X87.here hx rfl (hb hby at_158) rfl (l' := #[.val (.int p0), .val (.int p1), .val (.int p2), .val (.int p3), .val (.int p4), .val (.int p5), .val (.int zk), .val (.int (0 : Int32)), .val (.int zw), .val (.ref dg), .val .null, .val .null, .val (.int (0 : Int32)), .val (.int (0 : Int32))]) rfl ?_
          show Steps p.tables e below (T87.setTop (mkF m 160 #[.val (.int p0), .val (.int p1), .val (.int p2), .val (.int p3), .val (.int p4), .val (.int p5), .val (.int zk), .val (.int (0 : Int32)), .val (.int zw), .val (.ref dg), .val .null, .val .null, .val (.int (0 : Int32)), .val (.int (0 : Int32))] [])) _
          refine XS.iload X87.here hx rfl (hb hby at_160) rfl ?_
          show Steps p.tables e below (T87.setTop (mkF m 162 #[.val (.int p0), .val (.int p1), .val (.int p2), .val (.int p3), .val (.int p4), .val (.int p5), .val (.int zk), .val (.int (0 : Int32)), .val (.int zw), .val (.ref dg), .val .null, .val .null, .val (.int (0 : Int32)), .val (.int (0 : Int32))] [(.int (0 : Int32))])) _
          refine XS.iload X87.here hx rfl (hb hby at_162) rfl ?_
          show Steps p.tables e below (T87.setTop (mkF m 164 #[.val (.int p0), .val (.int p1), .val (.int p2), .val (.int p3), .val (.int p4), .val (.int p5), .val (.int zk), .val (.int (0 : Int32)), .val (.int zw), .val (.ref dg), .val .null, .val .null, .val (.int (0 : Int32)), .val (.int (0 : Int32))] [(.int (0 : Int32)), (.int (0 : Int32))])) _
          refine XS.icmpNo X87.here hx rfl (hb hby at_164) rfl (teq (by decide : (0 : Int32) = (0 : Int32))).2 ?_
          show Steps p.tables e below (T87.setTop (mkF m 167 #[.val (.int p0), .val (.int p1), .val (.int p2), .val (.int p3), .val (.int p4), .val (.int p5), .val (.int zk), .val (.int (0 : Int32)), .val (.int zw), .val (.ref dg), .val .null, .val .null, .val (.int (0 : Int32)), .val (.int (0 : Int32))] [])) _
          refine XS.iconst X87.here hx rfl (hb hby at_167) ?_
          show Steps p.tables e below (T87.setTop (mkF m 168 #[.val (.int p0), .val (.int p1), .val (.int p2), .val (.int p3), .val (.int p4), .val (.int p5), .val (.int zk), .val (.int (0 : Int32)), .val (.int zw), .val (.ref dg), .val .null, .val .null, .val (.int (0 : Int32)), .val (.int (0 : Int32))] [(.int (1 : Int32))])) _
          refine XS.goto X87.here hx rfl (pc0 := 168) (pc' := 172) rfl (hb hby at_168) (by decide) (by decide) ?_
          exact kt)
        obtain ⟨fs, hr, hrun, hended, hRE⟩ := X87.leaveW (s := s) (vm₁ := T67.vm) (v := some (.int (1 : Int32))) hS67 (by rw [e87]; exact hk80) (fun h => by rw [Bd.returns] at h; cases h)
        have chL := ch80.trans (CHv.at (s := s) (vm0 := T67.vm) X87 hZ hEL ch80.1)
        subst hG
        refine ⟨_, _, pre88 _ ?_, hrun, hended, _, _, rfl, ?_, ?_, hRE.1, hRE.2.1, hRE.2.2.1, hRE.2.2.2.mono (by decide) (by decide)⟩
        · skip
          show Steps p.tables e below (T87.setTop (mkF m 172 #[.val (.int p0), .val (.int p1), .val (.int p2), .val (.int p3), .val (.int p4), .val (.int p5), .val (.int zk), .val (.int (0 : Int32)), .val (.int zw), .val (.ref dg), .val .null, .val .null, .val (.int (0 : Int32)), .val (.int (0 : Int32))] [(.int (1 : Int32))])) _
          exact retN X87 hx (t := .boolean) Bd.returns (by simp) (hb hby at_172) hr
        · show Q_rm0 Z p0 p1 p2 p3 p4 p5 h0 n0 _ T87.heap _
          rw [e87]
          exact ⟨rfl, N87⟩
        · show CHr Z own_EL s.vm s.heap T87.vm T87.heap
          rw [hh, e87]; exact chL
      · -- not hk0
        have pre89 : ∀ tg, Steps p.tables e below (T67.setTop (mkF m 91 #[.val (.int p0), .val (.int p1), .val (.int p2), .val (.int p3), .val (.int p4), .val (.int p5), .val (.int zk), .val (.int (0 : Int32)), .val (.int zw), .val (.ref dg), .unset, .unset, .unset, .unset] [(.int (2 : Int32)), (.int zk)])) tg → G tg := fun tg kt => pre69 tg (by
          show Steps p.tables e below (T67.setTop (mkF m 51 #[.val (.int p0), .val (.int p1), .val (.int p2), .val (.int p3), .val (.int p4), .val (.int p5), .val (.int zk), .val (.int (0 : Int32)), .val (.int zw), .val (.ref dg), .unset, .unset, .unset, .unset] [(.int zk)])) _
          refine XS.ifYes X67.here hx rfl (pc0 := 51) (pc' := 63) rfl (hb hby at_51) rfl ((if0 _ _).trans (feq hk0).2) (by decide) (by decide) ?_
          show Steps p.tables e below (T67.setTop (mkF m 63 #[.val (.int p0), .val (.int p1), .val (.int p2), .val (.int p3), .val (.int p4), .val (.int p5), .val (.int zk), .val (.int (0 : Int32)), .val (.int zw), .val (.ref dg), .unset, .unset, .unset, .unset] [])) _
          refine XS.iload X67.here hx rfl (hb hby at_63) rfl ?_
          show Steps p.tables e below (T67.setTop (mkF m 65 #[.val (.int p0), .val (.int p1), .val (.int p2), .val (.int p3), .val (.int p4), .val (.int p5), .val (.int zk), .val (.int (0 : Int32)), .val (.int zw), .val (.ref dg), .unset, .unset, .unset, .unset] [(.int zk)])) _
          refine XS.iconst X67.here hx rfl (hb hby at_65) ?_
          show Steps p.tables e below (T67.setTop (mkF m 66 #[.val (.int p0), .val (.int p1), .val (.int p2), .val (.int p3), .val (.int p4), .val (.int p5), .val (.int zk), .val (.int (0 : Int32)), .val (.int zw), .val (.ref dg), .unset, .unset, .unset, .unset] [(.int (1 : Int32)), (.int zk)])) _
          refine XS.icmpYes X67.here hx rfl (pc0 := 66) (pc' := 88) rfl (hb hby at_66) rfl (feq hk1).2 (by decide) (by decide) ?_
          show Steps p.tables e below (T67.setTop (mkF m 88 #[.val (.int p0), .val (.int p1), .val (.int p2), .val (.int p3), .val (.int p4), .val (.int p5), .val (.int zk), .val (.int (0 : Int32)), .val (.int zw), .val (.ref dg), .unset, .unset, .unset, .unset] [])) _
          refine XS.iload X67.here hx rfl (hb hby at_88) rfl ?_
          show Steps p.tables e below (T67.setTop (mkF m 90 #[.val (.int p0), .val (.int p1), .val (.int p2), .val (.int p3), .val (.int p4), .val (.int p5), .val (.int zk), .val (.int (0 : Int32)), .val (.int zw), .val (.ref dg), .unset, .unset, .unset, .unset] [(.int zk)])) _
          refine XS.iconst X67.here hx rfl (hb hby at_90) ?_
          exact kt)
        by_cases hk2 : zk = (2 : Int32)
        · -- hk2
          have pre90 : ∀ tg, Steps p.tables e below (T67.setTop (mkF m 98 #[.val (.int p0), .val (.int p1), .val (.int p2), .val (.int p3), .val (.int p4), .val (.int p5), .val (.int zk), .val (.int (0 : Int32)), .val (.int zw), .val (.ref dg), .unset, .unset, .unset, .unset] [(.int p4), (.int zw)])) tg → G tg := fun tg kt => pre89 tg (by
            show Steps p.tables e below (T67.setTop (mkF m 91 #[.val (.int p0), .val (.int p1), .val (.int p2), .val (.int p3), .val (.int p4), .val (.int p5), .val (.int zk), .val (.int (0 : Int32)), .val (.int zw), .val (.ref dg), .unset, .unset, .unset, .unset] [(.int (2 : Int32)), (.int zk)])) _
            refine XS.icmpNo X67.here hx rfl (hb hby at_91) rfl (teq hk2).2 ?_
            show Steps p.tables e below (T67.setTop (mkF m 94 #[.val (.int p0), .val (.int p1), .val (.int p2), .val (.int p3), .val (.int p4), .val (.int p5), .val (.int zk), .val (.int (0 : Int32)), .val (.int zw), .val (.ref dg), .unset, .unset, .unset, .unset] [])) _
            refine XS.iload X67.here hx rfl (hb hby at_94) rfl ?_
            show Steps p.tables e below (T67.setTop (mkF m 96 #[.val (.int p0), .val (.int p1), .val (.int p2), .val (.int p3), .val (.int p4), .val (.int p5), .val (.int zk), .val (.int (0 : Int32)), .val (.int zw), .val (.ref dg), .unset, .unset, .unset, .unset] [(.int zw)])) _
            refine XS.iload X67.here hx rfl (hb hby at_96) rfl ?_
            exact kt)
          obtain ⟨_, _, ⟨T91, L91, k91, n91⟩, -, X91, ⟨Lc91, hQ91, l91, y91, z91⟩, st91⟩ := Jvm.LawKit.callS X67 hx (y := (⟨"com/example/ringfence/ringfence/NumberPatternRankPinLaw", "str", "(II)Ljava/lang/String;"⟩ : MethodName)) hown (mvT hZ (hw _ (List.mem_of_getElem? (i := 1) rfl))) (mvT hZ (hw _ (List.mem_of_getElem? (i := 2) rfl))) (mvT hZ (hw _ (List.mem_of_getElem? (i := 3) rfl))) (mvT hZ (hw _ (List.mem_of_getElem? (i := 4) rfl))) (by decide) (backOf (W := 0) (rmSs l Z a0 hw [] zw p4 T67.heap n0 Z67 hs Ol68 (own_is3 hw3)) hZ (hw _ (List.mem_of_getElem? (i := 4) rfl)) (hw _ (List.mem_of_getElem? (i := 3) rfl)) (by decide) (by decide)) (g := (mkF m 98 #[.val (.int p0), .val (.int p1), .val (.int p2), .val (.int p3), .val (.int p4), .val (.int p5), .val (.int zk), .val (.int (0 : Int32)), .val (.int zw), .val (.ref dg), .unset, .unset, .unset, .unset] [(.int p4), (.int zw)])) rfl (by rw [hml]; rfl) (argsL := [(.int zw), (.int p4)]) (rest := []) (lenOf pd_10 rfl) rfl (by show 2 * 0 + _ ≤ _; exact Nat.le_of_eq rfl) (hb hby at_98) (fun _ _ => ⟨rfl, rfl, (Nat.le_of_ble_eq_true rfl), (Nat.le_of_ble_eq_true rfl)⟩)
          dsimp only [Pt.U, Pt.locs, Pt.cells, Pt.slots] at X91 l91 y91 z91 st91 hQ91
          subst l91 y91 z91
          obtain ⟨lo, rfl, N91q, K91, E_lo, Tx_lo⟩ := hQ91
          have N91 := Fr.app N67 N91q
          have pre91s : ∀ tg, Steps p.tables e below (T91.setTop (mkF m 101 #[.val (.int p0), .val (.int p1), .val (.int p2), .val (.int p3), .val (.int p4), .val (.int p5), .val (.int zk), .val (.int (0 : Int32)), .val (.int zw), .val (.ref dg), .unset, .unset, .unset, .unset] [(.ref lo)])) tg → G tg := fun tg kt => pre90 tg (st91 tg kt)
          have Z91 : n0 ≤ T91.heap.size := Nat.le_trans Z67 K91.1
          have ch92 := ch67.trans (CHr.keep K91 sf0 ch67.1)
          have hk92 := Nat.le_trans hk67 K91.1
          have E_dg_93 := E_dg.keep K91
          have C_dg_94 := C_dg.keep K91 nin0
          have F_dg_95 := F_dg.keep K91 nin0
          have V_dg_96 := V_dg.keep K91 nin0
          have Ol97 := Ol68.keep K91 all0
          obtain ⟨v_lo, k_lo, b_lo, C_lo, F_lo, V_lo⟩ := Tx_lo
          have pre98 : ∀ tg, Steps p.tables e below (T91.setTop (mkF m 105 #[.val (.int p0), .val (.int p1), .val (.int p2), .val (.int p3), .val (.int p4), .val (.int p5), .val (.int zk), .val (.int (0 : Int32)), .val (.int zw), .val (.ref dg), .val (.ref lo), .unset, .unset, .unset] [(.int zw)])) tg → G tg := fun tg kt => pre91s tg (by
            show Steps p.tables e below (T91.setTop (mkF m 101 #[.val (.int p0), .val (.int p1), .val (.int p2), .val (.int p3), .val (.int p4), .val (.int p5), .val (.int zk), .val (.int (0 : Int32)), .val (.int zw), .val (.ref dg), .unset, .unset, .unset, .unset] [(.ref lo)])) _
            refine XS.astore X91.here hx rfl (hb hby at_101) rfl rfl (l' := #[.val (.int p0), .val (.int p1), .val (.int p2), .val (.int p3), .val (.int p4), .val (.int p5), .val (.int zk), .val (.int (0 : Int32)), .val (.int zw), .val (.ref dg), .val (.ref lo), .unset, .unset, .unset]) rfl ?_
            show Steps p.tables e below (T91.setTop (mkF m 103 #[.val (.int p0), .val (.int p1), .val (.int p2), .val (.int p3), .val (.int p4), .val (.int p5), .val (.int zk), .val (.int (0 : Int32)), .val (.int zw), .val (.ref dg), .val (.ref lo), .unset, .unset, .unset] [])) _
            refine XS.iload X91.here hx rfl (hb hby at_103) rfl ?_
            exact kt)
          obtain ⟨_, _, ⟨T99, L99, k99, n99⟩, -, X99, ⟨Lc99, hQ99, l99, y99, z99⟩, st99⟩ := Jvm.LawKit.callS X91 hx (y := (⟨"com/example/ringfence/ringfence/NumberPatternRankPinLaw", "nines", "(I)Ljava/lang/String;"⟩ : MethodName)) hown (mvT hZ (hw _ (List.mem_of_getElem? (i := 41) rfl))) (mvT hZ (hw _ (List.mem_of_getElem? (i := 42) rfl))) (mvT hZ (hw _ (List.mem_of_getElem? (i := 3) rfl))) (mvT hZ (hw _ (List.mem_of_getElem? (i := 43) rfl))) (by decide) (backOf (W := 0) (rmNs l Z a0 hw [] zw T91.heap n0 Z91 hs Ol97 hw3) hZ (hw _ (List.mem_of_getElem? (i := 43) rfl)) (hw _ (List.mem_of_getElem? (i := 3) rfl)) (by decide) (by decide)) (g := (mkF m 105 #[.val (.int p0), .val (.int p1), .val (.int p2), .val (.int p3), .val (.int p4), .val (.int p5), .val (.int zk), .val (.int (0 : Int32)), .val (.int zw), .val (.ref dg), .val (.ref lo), .unset, .unset, .unset] [(.int zw)])) rfl (by rw [hml]; rfl) (argsL := [(.int zw)]) (rest := []) (lenOf pd_12 rfl) rfl (by show 2 * 0 + _ ≤ _; exact Nat.le_of_eq rfl) (hb hby at_105) (fun _ _ => ⟨rfl, rfl, (Nat.le_of_ble_eq_true rfl), (Nat.le_of_ble_eq_true rfl)⟩)
          dsimp only [Pt.U, Pt.locs, Pt.cells, Pt.slots] at X99 l99 y99 z99 st99 hQ99
          subst l99 y99 z99
          obtain ⟨hi, rfl, N99q, K99, E_hi, Tx_hi⟩ := hQ99
          have N99 := Fr.app N91 N99q
          have pre99s : ∀ tg, Steps p.tables e below (T99.setTop (mkF m 108 #[.val (.int p0), .val (.int p1), .val (.int p2), .val (.int p3), .val (.int p4), .val (.int p5), .val (.int zk), .val (.int (0 : Int32)), .val (.int zw), .val (.ref dg), .val (.ref lo), .unset, .unset, .unset] [(.ref hi)])) tg → G tg := fun tg kt => pre98 tg (st99 tg kt)
          have Z99 : n0 ≤ T99.heap.size := Nat.le_trans Z91 K99.1
          have ch100 := ch92.trans (CHr.keep K99 sf0 ch92.1)
          have hk100 := Nat.le_trans hk92 K99.1
          have E_dg_101 := E_dg_93.keep K99
          have C_dg_102 := C_dg_94.keep K99 nin0
          have F_dg_103 := F_dg_95.keep K99 nin0
          have V_dg_104 := V_dg_96.keep K99 nin0
          have E_lo_105 := E_lo.keep K99
          have C_lo_106 := C_lo.keep K99 nin0
          have F_lo_107 := F_lo.keep K99 nin0
          have V_lo_108 := V_lo.keep K99 nin0
          have Ol109 := Ol97.keep K99 all0
          obtain ⟨v_hi, k_hi, b_hi, C_hi, F_hi, V_hi⟩ := Tx_hi
          have pre110 : ∀ tg, Steps p.tables e below (T99.setTop (mkF m 127 #[.val (.int p0), .val (.int p1), .val (.int p2), .val (.int p3), .val (.int p4), .val (.int p5), .val (.int zk), .val (.int (0 : Int32)), .val (.int zw), .val (.ref dg), .val (.ref lo), .val (.ref hi), .unset, .unset] [])) tg → G tg := fun tg kt => pre99s tg (by
            show Steps p.tables e below (T99.setTop (mkF m 108 #[.val (.int p0), .val (.int p1), .val (.int p2), .val (.int p3), .val (.int p4), .val (.int p5), .val (.int zk), .val (.int (0 : Int32)), .val (.int zw), .val (.ref dg), .val (.ref lo), .unset, .unset, .unset] [(.ref hi)])) _
            refine XS.astore X99.here hx rfl (hb hby at_108) rfl rfl (l' := #[.val (.int p0), .val (.int p1), .val (.int p2), .val (.int p3), .val (.int p4), .val (.int p5), .val (.int zk), .val (.int (0 : Int32)), .val (.int zw), .val (.ref dg), .val (.ref lo), .val (.ref hi), .unset, .unset]) rfl ?_
            show Steps p.tables e below (T99.setTop (mkF m 110 #[.val (.int p0), .val (.int p1), .val (.int p2), .val (.int p3), .val (.int p4), .val (.int p5), .val (.int zk), .val (.int (0 : Int32)), .val (.int zw), .val (.ref dg), .val (.ref lo), .val (.ref hi), .unset, .unset] [])) _
            refine XS.goto X99.here hx rfl (pc0 := 110) (pc' := 127) rfl (hb hby at_110) (by decide) (by decide) ?_
            exact kt)
          obtain ⟨T111, h111, X111, e111, E111, A111, D111, -, st111⟩ := newO X99 hx hZ hown (hw _ (List.mem_of_getElem? (i := 44) rfl)) (hw _ (List.mem_of_getElem? (i := 45) rfl)) (hw _ (List.mem_of_getElem? (i := 46) rfl)) rfl (g := (mkF m 127 #[.val (.int p0), .val (.int p1), .val (.int p2), .val (.int p3), .val (.int p4), .val (.int p5), .val (.int zk), .val (.int (0 : Int32)), .val (.int zw), .val (.ref dg), .val (.ref lo), .val (.ref hi), .unset, .unset] [])) rfl (hb hby at_127) (by decide) (by decide)
          obtain ⟨np, g111⟩ : ∃ z, z = T99.heap.size := ⟨_, rfl⟩
          rw [← g111] at A111 D111 st111
          have O_np : n0 ≤ np := Nat.le_trans Z99 (Nat.le_of_eq g111.symm)
          have Z111 : n0 ≤ h111.size := Nat.le_trans Z99 E111.1
          have ne_dg_np : dg ≠ np := Nat.ne_of_lt (Nat.lt_of_lt_of_le E_dg_101.lt (Nat.le_of_eq g111.symm))
          have ne_v_dg_np : v_dg ≠ np := Nat.ne_of_lt (Nat.lt_of_lt_of_le V_dg_104.lt (Nat.le_of_eq g111.symm))
          have ne_lo_np : lo ≠ np := Nat.ne_of_lt (Nat.lt_of_lt_of_le E_lo_105.lt (Nat.le_of_eq g111.symm))
          have ne_v_lo_np : v_lo ≠ np := Nat.ne_of_lt (Nat.lt_of_lt_of_le V_lo_108.lt (Nat.le_of_eq g111.symm))
          have ne_hi_np : hi ≠ np := Nat.ne_of_lt (Nat.lt_of_lt_of_le E_hi.lt (Nat.le_of_eq g111.symm))
          have ne_v_hi_np : v_hi ≠ np := Nat.ne_of_lt (Nat.lt_of_lt_of_le V_hi.lt (Nat.le_of_eq g111.symm))
          have pre111s : ∀ tg, Steps p.tables e below (T111.setTop (mkF m 130 #[.val (.int p0), .val (.int p1), .val (.int p2), .val (.int p3), .val (.int p4), .val (.int p5), .val (.int zk), .val (.int (0 : Int32)), .val (.int zw), .val (.ref dg), .val (.ref lo), .val (.ref hi), .unset, .unset] [(.ref np)])) tg → G tg := fun tg kt => pre110 tg (st111 tg kt)
          have ch112 := ch100.trans (CHr.ext E111 ch100.1)
          have hk112 := Nat.le_trans hk100 E111.1
          have E_dg_113 := E_dg_101.ext E111
          have C_dg_114 := C_dg_102.ext E111
          have F_dg_115 := F_dg_103.ext E111
          have V_dg_116 := V_dg_104.ext E111
          have E_lo_117 := E_lo_105.ext E111
          have C_lo_118 := C_lo_106.ext E111
          have F_lo_119 := F_lo_107.ext E111
          have V_lo_120 := V_lo_108.ext E111
          have E_hi_121 := E_hi.ext E111
          have C_hi_122 := C_hi.ext E111
          have F_hi_123 := F_hi.ext E111
          have V_hi_124 := V_hi.ext E111
          have Ol125 := Ol109.ext E111
          have Fdigits_np : Fld Z h111 np "com/example/ringfence/ringfence/NumberPattern" "digits" "Ljava/lang/String;" .null := D111 (Or.inr (hw _ (List.mem_of_getElem? (i := 57) rfl))) (ty := (.object "java/lang/String")) (by decide)
          have Flow_np : Fld Z h111 np "com/example/ringfence/ringfence/NumberPattern" "low" "Ljava/lang/String;" .null := D111 (Or.inr (hw _ (List.mem_of_getElem? (i := 59) rfl))) (ty := (.object "java/lang/String")) (by decide)
          have Fhigh_np : Fld Z h111 np "com/example/ringfence/ringfence/NumberPattern" "high" "Ljava/lang/String;" .null := D111 (Or.inr (hw _ (List.mem_of_getElem? (i := 61) rfl))) (ty := (.object "java/lang/String")) (by decide)
          have pre126 : ∀ tg, Steps p.tables e below (T111.setTop (mkF m 137 #[.val (.int p0), .val (.int p1), .val (.int p2), .val (.int p3), .val (.int p4), .val (.int p5), .val (.int zk), .val (.int (0 : Int32)), .val (.int zw), .val (.ref dg), .val (.ref lo), .val (.ref hi), .unset, .unset] [(.ref hi), (.ref lo), (.ref dg), (.ref np), (.ref np)])) tg → G tg := fun tg kt => pre111s tg (by
            show Steps p.tables e below (T111.setTop (mkF m 130 #[.val (.int p0), .val (.int p1), .val (.int p2), .val (.int p3), .val (.int p4), .val (.int p5), .val (.int zk), .val (.int (0 : Int32)), .val (.int zw), .val (.ref dg), .val (.ref lo), .val (.ref hi), .unset, .unset] [(.ref np)])) _
            refine XS.dup X111.here hx rfl (hb hby at_130) rfl rfl ?_
            show Steps p.tables e below (T111.setTop (mkF m 131 #[.val (.int p0), .val (.int p1), .val (.int p2), .val (.int p3), .val (.int p4), .val (.int p5), .val (.int zk), .val (.int (0 : Int32)), .val (.int zw), .val (.ref dg), .val (.ref lo), .val (.ref hi), .unset, .unset] [(.ref np), (.ref np)])) _
            refine XS.aload X111.here hx rfl (hb hby at_131) rfl rfl ?_
            show Steps p.tables e below (T111.setTop (mkF m 133 #[.val (.int p0), .val (.int p1), .val (.int p2), .val (.int p3), .val (.int p4), .val (.int p5), .val (.int zk), .val (.int (0 : Int32)), .val (.int zw), .val (.ref dg), .val (.ref lo), .val (.ref hi), .unset, .unset] [(.ref dg), (.ref np), (.ref np)])) _
            refine XS.aload X111.here hx rfl (hb hby at_133) rfl rfl ?_
            show Steps p.tables e below (T111.setTop (mkF m 135 #[.val (.int p0), .val (.int p1), .val (.int p2), .val (.int p3), .val (.int p4), .val (.int p5), .val (.int zk), .val (.int (0 : Int32)), .val (.int zw), .val (.ref dg), .val (.ref lo), .val (.ref hi), .unset, .unset] [(.ref lo), (.ref dg), (.ref np), (.ref np)])) _
            refine XS.aload X111.here hx rfl (hb hby at_135) rfl rfl ?_
            exact kt)
          obtain ⟨_, _, ⟨T127, L127, k127, n127⟩, -, X127, ⟨Lc127, hQ127, l127, y127, z127⟩, st127⟩ := X111.specialBack hx (y := (⟨"com/example/ringfence/ringfence/NumberPattern", "<init>", "(Ljava/lang/String;Ljava/lang/String;Ljava/lang/String;)V"⟩ : MethodName)) rfl hown (mvT hZ (hw _ (List.mem_of_getElem? (i := 47) rfl))) (mvT hZ (hw _ (List.mem_of_getElem? (i := 48) rfl))) (mvT hZ (hw _ (List.mem_of_getElem? (i := 49) rfl))) (by decide) (backOf (W := 1) (rmP_r l Z a0 hw [] np dg lo hi h111 n0 Z111 A111 O_np Fdigits_np Flow_np Fhigh_np) hZ (hw _ (List.mem_of_getElem? (i := 49) rfl)) (hw _ (List.mem_of_getElem? (i := 46) rfl)) (by decide) (by decide)) (g := (mkF m 137 #[.val (.int p0), .val (.int p1), .val (.int p2), .val (.int p3), .val (.int p4), .val (.int p5), .val (.int zk), .val (.int (0 : Int32)), .val (.int zw), .val (.ref dg), .val (.ref lo), .val (.ref hi), .unset, .unset] [(.ref hi), (.ref lo), (.ref dg), (.ref np), (.ref np)])) rfl (by rw [hml]; rfl) (Steps.refl _) (a := np) (argsL := [(.ref dg), (.ref lo), (.ref hi)]) (rest := [(.ref np)]) (lenOf pd_11 rfl) rfl (by show 2 * 0 + _ ≤ _; exact Nat.le_of_eq rfl) (hb hby at_137) (fun _ _ => ⟨rfl, e111, (Nat.le_of_ble_eq_true rfl), (Nat.le_of_ble_eq_true rfl)⟩)
          dsimp only [Pt.U, Pt.locs, Pt.cells, Pt.slots] at X127 l127 y127 z127 st127 hQ127
          subst l127 y127 z127
          obtain ⟨rfl, N127q, K127, Fd, Fl⟩ := hQ127
          have N127 := Fr.app N99 N127q
          have pre127s : ∀ tg, Steps p.tables e below (T127.setTop (mkF m 140 #[.val (.int p0), .val (.int p1), .val (.int p2), .val (.int p3), .val (.int p4), .val (.int p5), .val (.int zk), .val (.int (0 : Int32)), .val (.int zw), .val (.ref dg), .val (.ref lo), .val (.ref hi), .unset, .unset] [(.ref np)])) tg → G tg := fun tg kt => pre126 tg (st127.trans kt)
          have Z127 : n0 ≤ T127.heap.size := Nat.le_trans Z111 K127.1
          have ch128 := ch112.trans (CHr.keep K127 (sfS (Safe.exa hZ.alike A111 (by decide) (by decide)) sf0) ch112.1)
          have hk128 := Nat.le_trans hk112 K127.1
          have E_dg_129 := E_dg_113.keep K127
          have C_dg_130 := C_dg_114.keep K127 (ninS ne_dg_np nin0)
          have F_dg_131 := F_dg_115.keep K127 (ninS ne_dg_np nin0)
          have V_dg_132 := V_dg_116.keep K127 (ninS ne_v_dg_np nin0)
          have E_lo_133 := E_lo_117.keep K127
          have C_lo_134 := C_lo_118.keep K127 (ninS ne_lo_np nin0)
          have F_lo_135 := F_lo_119.keep K127 (ninS ne_lo_np nin0)
          have V_lo_136 := V_lo_120.keep K127 (ninS ne_v_lo_np nin0)
          have E_hi_137 := E_hi_121.keep K127
          have C_hi_138 := C_hi_122.keep K127 (ninS ne_hi_np nin0)
          have F_hi_139 := F_hi_123.keep K127 (ninS ne_hi_np nin0)
          have V_hi_140 := V_hi_124.keep K127 (ninS ne_v_hi_np nin0)
          have A111_141 := A111.keep K127
          have Ol142 := Ol125.keep K127 (allS O_np all0)
          obtain ⟨cq143, kq143, q143a, q143b, q143c⟩ := isOf hZ rfl A111_141
          obtain ⟨_, _, ⟨T143, L143, k143, n143⟩, -, X143, ⟨Lc143, hQ143, l143, y143, z143⟩, st143⟩ := X127.virtualBack hx (y := (⟨"com/example/ringfence/ringfence/NumberPattern", "rank", "()I"⟩ : MethodName)) (z := (⟨"com/example/ringfence/ringfence/NumberPattern", "rank", "()I"⟩ : MethodName)) hown (mvT hZ (hw _ (List.mem_of_getElem? (i := 62) rfl))) (mvT hZ (hw _ (List.mem_of_getElem? (i := 63) rfl))) (notFace_of_selects (args := #[]) (mvT hZ (hw _ (List.mem_of_getElem? (i := 65) rfl)))) (mvT hZ (hw _ (List.mem_of_getElem? (i := 65) rfl))) (mvT hZ (hw _ (List.mem_of_getElem? (i := 64) rfl))) (by decide) (backOf (W := 0) (rmQ_s l Z a0 hw [] np dg v_dg k_dg (0 : Int32) b_dg lo v_lo k_lo zw b_lo T127.heap n0 Z127 hs Ol142 Fd Fl E_dg_129 C_dg_130 F_dg_131 V_dg_132 E_lo_133 F_lo_135 V_lo_136 (own_nz3 hw3)) hZ (hw _ (List.mem_of_getElem? (i := 66) rfl)) (hw _ (List.mem_of_getElem? (i := 46) rfl)) (by decide) (by decide)) q143a q143c (g := (mkF m 140 #[.val (.int p0), .val (.int p1), .val (.int p2), .val (.int p3), .val (.int p4), .val (.int p5), .val (.int zk), .val (.int (0 : Int32)), .val (.int zw), .val (.ref dg), .val (.ref lo), .val (.ref hi), .unset, .unset] [(.ref np)])) rfl (by rw [hml]; rfl) (Steps.refl _) (argsL := []) (rest := []) (lenOf pd_8 rfl) rfl (by show 2 * 0 + _ ≤ _; exact Nat.le_of_eq rfl) (hb hby at_140) (fun _ _ => ⟨rfl, rfl, (Nat.le_of_ble_eq_true rfl), (Nat.le_of_ble_eq_true rfl)⟩)
          dsimp only [Pt.U, Pt.locs, Pt.cells, Pt.slots] at X143 l143 y143 z143 st143 hQ143
          subst l143 y143 z143
          obtain ⟨rfl, N143q, e143⟩ := hQ143
          have N143 := Fr.app N127 N143q
          have pre143s : ∀ tg, Steps p.tables e below (T143.setTop (mkF m 143 #[.val (.int p0), .val (.int p1), .val (.int p2), .val (.int p3), .val (.int p4), .val (.int p5), .val (.int zk), .val (.int (0 : Int32)), .val (.int zw), .val (.ref dg), .val (.ref lo), .val (.ref hi), .unset, .unset] [(.int (0 : Int32))])) tg → G tg := fun tg kt => pre127s tg (st143.trans kt)
          have pre144 : ∀ tg, Steps p.tables e below (T143.setTop (mkF m 172 #[.val (.int p0), .val (.int p1), .val (.int p2), .val (.int p3), .val (.int p4), .val (.int p5), .val (.int zk), .val (.int (0 : Int32)), .val (.int zw), .val (.ref dg), .val (.ref lo), .val (.ref hi), .val (.int (0 : Int32)), .val (.int (0 : Int32))] [(.int (1 : Int32))])) tg → G tg := fun tg kt => pre143s tg (by
            show Steps p.tables e below (T143.setTop (mkF m 143 #[.val (.int p0), .val (.int p1), .val (.int p2), .val (.int p3), .val (.int p4), .val (.int p5), .val (.int zk), .val (.int (0 : Int32)), .val (.int zw), .val (.ref dg), .val (.ref lo), .val (.ref hi), .unset, .unset] [(.int (0 : Int32))])) _
            refine XS.istore X143.here hx rfl (hb hby at_143) rfl (l' := #[.val (.int p0), .val (.int p1), .val (.int p2), .val (.int p3), .val (.int p4), .val (.int p5), .val (.int zk), .val (.int (0 : Int32)), .val (.int zw), .val (.ref dg), .val (.ref lo), .val (.ref hi), .val (.int (0 : Int32)), .unset]) rfl ?_
            show Steps p.tables e below (T143.setTop (mkF m 145 #[.val (.int p0), .val (.int p1), .val (.int p2), .val (.int p3), .val (.int p4), .val (.int p5), .val (.int zk), .val (.int (0 : Int32)), .val (.int zw), .val (.ref dg), .val (.ref lo), .val (.ref hi), .val (.int (0 : Int32)), .unset] [])) _
            refine XS.iload X143.here hx rfl (hb hby at_145) rfl ?_
            show Steps p.tables e below (T143.setTop (mkF m 147 #[.val (.int p0), .val (.int p1), .val (.int p2), .val (.int p3), .val (.int p4), .val (.int p5), .val (.int zk), .val (.int (0 : Int32)), .val (.int zw), .val (.ref dg), .val (.ref lo), .val (.ref hi), .val (.int (0 : Int32)), .unset] [(.int zk)])) _
            refine XS.iconst X143.here hx rfl (hb hby at_147) ?_
            show Steps p.tables e below (T143.setTop (mkF m 148 #[.val (.int p0), .val (.int p1), .val (.int p2), .val (.int p3), .val (.int p4), .val (.int p5), .val (.int zk), .val (.int (0 : Int32)), .val (.int zw), .val (.ref dg), .val (.ref lo), .val (.ref hi), .val (.int (0 : Int32)), .unset] [(.int (1 : Int32)), (.int zk)])) _
            refine XS.icmpYes X143.here hx rfl (pc0 := 148) (pc' := 156) rfl (hb hby at_148) rfl (feq hk1).2 (by decide) (by decide) ?_
            show Steps p.tables e below (T143.setTop (mkF m 156 #[.val (.int p0), .val (.int p1), .val (.int p2), .val (.int p3), .val (.int p4), .val (.int p5), .val (.int zk), .val (.int (0 : Int32)), .val (.int zw), .val (.ref dg), .val (.ref lo), .val (.ref hi), .val (.int (0 : Int32)), .unset] [])) _
            refine XS.iload X143.here hx rfl (hb hby at_156) rfl ?_
            show Steps p.tables e below (T143.setTop (mkF m 158 #[.val (.int p0), .val (.int p1), .val (.int p2), .val (.int p3), .val (.int p4), .val (.int p5), .val (.int zk), .val (.int (0 : Int32)), .val (.int zw), .val (.ref dg), .val (.ref lo), .val (.ref hi), .val (.int (0 : Int32)), .unset] [(.int (0 : Int32))])) _
            refine XS.istore X143.here hx rfl (hb hby at_158) rfl (l' := #[.val (.int p0), .val (.int p1), .val (.int p2), .val (.int p3), .val (.int p4), .val (.int p5), .val (.int zk), .val (.int (0 : Int32)), .val (.int zw), .val (.ref dg), .val (.ref lo), .val (.ref hi), .val (.int (0 : Int32)), .val (.int (0 : Int32))]) rfl ?_
            show Steps p.tables e below (T143.setTop (mkF m 160 #[.val (.int p0), .val (.int p1), .val (.int p2), .val (.int p3), .val (.int p4), .val (.int p5), .val (.int zk), .val (.int (0 : Int32)), .val (.int zw), .val (.ref dg), .val (.ref lo), .val (.ref hi), .val (.int (0 : Int32)), .val (.int (0 : Int32))] [])) _
            refine XS.iload X143.here hx rfl (hb hby at_160) rfl ?_
            show Steps p.tables e below (T143.setTop (mkF m 162 #[.val (.int p0), .val (.int p1), .val (.int p2), .val (.int p3), .val (.int p4), .val (.int p5), .val (.int zk), .val (.int (0 : Int32)), .val (.int zw), .val (.ref dg), .val (.ref lo), .val (.ref hi), .val (.int (0 : Int32)), .val (.int (0 : Int32))] [(.int (0 : Int32))])) _
            refine XS.iload X143.here hx rfl (hb hby at_162) rfl ?_
            show Steps p.tables e below (T143.setTop (mkF m 164 #[.val (.int p0), .val (.int p1), .val (.int p2), .val (.int p3), .val (.int p4), .val (.int p5), .val (.int zk), .val (.int (0 : Int32)), .val (.int zw), .val (.ref dg), .val (.ref lo), .val (.ref hi), .val (.int (0 : Int32)), .val (.int (0 : Int32))] [(.int (0 : Int32)), (.int (0 : Int32))])) _
            refine XS.icmpNo X143.here hx rfl (hb hby at_164) rfl (teq (by decide : (0 : Int32) = (0 : Int32))).2 ?_
            show Steps p.tables e below (T143.setTop (mkF m 167 #[.val (.int p0), .val (.int p1), .val (.int p2), .val (.int p3), .val (.int p4), .val (.int p5), .val (.int zk), .val (.int (0 : Int32)), .val (.int zw), .val (.ref dg), .val (.ref lo), .val (.ref hi), .val (.int (0 : Int32)), .val (.int (0 : Int32))] [])) _
            refine XS.iconst X143.here hx rfl (hb hby at_167) ?_
            show Steps p.tables e below (T143.setTop (mkF m 168 #[.val (.int p0), .val (.int p1), .val (.int p2), .val (.int p3), .val (.int p4), .val (.int p5), .val (.int zk), .val (.int (0 : Int32)), .val (.int zw), .val (.ref dg), .val (.ref lo), .val (.ref hi), .val (.int (0 : Int32)), .val (.int (0 : Int32))] [(.int (1 : Int32))])) _
            refine XS.goto X143.here hx rfl (pc0 := 168) (pc' := 172) rfl (hb hby at_168) (by decide) (by decide) ?_
            exact kt)
          obtain ⟨fs, hr, hrun, hended, hRE⟩ := X143.leaveW (s := s) (vm₁ := T67.vm) (v := some (.int (1 : Int32))) hS67 (by rw [e143]; exact hk128) (fun h => by rw [Bd.returns] at h; cases h)
          have chL := ch128.trans (CHv.at (s := s) (vm0 := T67.vm) X143 hZ hEL ch128.1)
          subst hG
          refine ⟨_, _, pre144 _ ?_, hrun, hended, _, _, rfl, ?_, ?_, hRE.1, hRE.2.1, hRE.2.2.1, hRE.2.2.2.mono (by decide) (by decide)⟩
          · skip
            show Steps p.tables e below (T143.setTop (mkF m 172 #[.val (.int p0), .val (.int p1), .val (.int p2), .val (.int p3), .val (.int p4), .val (.int p5), .val (.int zk), .val (.int (0 : Int32)), .val (.int zw), .val (.ref dg), .val (.ref lo), .val (.ref hi), .val (.int (0 : Int32)), .val (.int (0 : Int32))] [(.int (1 : Int32))])) _
            exact retN X143 hx (t := .boolean) Bd.returns (by simp) (hb hby at_172) hr
          · show Q_rm0 Z p0 p1 p2 p3 p4 p5 h0 n0 _ T143.heap _
            rw [e143]
            exact ⟨rfl, N143⟩
          · show CHr Z own_EL s.vm s.heap T143.vm T143.heap
            rw [hh, e143]; exact chL
        · -- not hk2
          have pre145 : ∀ tg, Steps p.tables e below (T67.setTop (mkF m 115 #[.val (.int p0), .val (.int p1), .val (.int p2), .val (.int p3), .val (.int p4), .val (.int p5), .val (.int zk), .val (.int (0 : Int32)), .val (.int zw), .val (.ref dg), .unset, .unset, .unset, .unset] [(.int zw)])) tg → G tg := fun tg kt => pre89 tg (by
            show Steps p.tables e below (T67.setTop (mkF m 91 #[.val (.int p0), .val (.int p1), .val (.int p2), .val (.int p3), .val (.int p4), .val (.int p5), .val (.int zk), .val (.int (0 : Int32)), .val (.int zw), .val (.ref dg), .unset, .unset, .unset, .unset] [(.int (2 : Int32)), (.int zk)])) _
            refine XS.icmpYes X67.here hx rfl (pc0 := 91) (pc' := 113) rfl (hb hby at_91) rfl (feq hk2).2 (by decide) (by decide) ?_
            show Steps p.tables e below (T67.setTop (mkF m 113 #[.val (.int p0), .val (.int p1), .val (.int p2), .val (.int p3), .val (.int p4), .val (.int p5), .val (.int zk), .val (.int (0 : Int32)), .val (.int zw), .val (.ref dg), .unset, .unset, .unset, .unset] [])) _
            refine XS.iload X67.here hx rfl (hb hby at_113) rfl ?_
            exact kt)
          obtain ⟨_, _, ⟨T146, L146, k146, n146⟩, -, X146, ⟨Lc146, hQ146, l146, y146, z146⟩, st146⟩ := Jvm.LawKit.callS X67 hx (y := (⟨"com/example/ringfence/ringfence/NumberPatternRankPinLaw", "zeros", "(I)Ljava/lang/String;"⟩ : MethodName)) hown (mvT hZ (hw _ (List.mem_of_getElem? (i := 82) rfl))) (mvT hZ (hw _ (List.mem_of_getElem? (i := 83) rfl))) (mvT hZ (hw _ (List.mem_of_getElem? (i := 3) rfl))) (mvT hZ (hw _ (List.mem_of_getElem? (i := 84) rfl))) (by decide) (backOf (W := 0) (rmZs l Z a0 hw [] zw T67.heap n0 Z67 hs Ol68 hw3) hZ (hw _ (List.mem_of_getElem? (i := 84) rfl)) (hw _ (List.mem_of_getElem? (i := 3) rfl)) (by decide) (by decide)) (g := (mkF m 115 #[.val (.int p0), .val (.int p1), .val (.int p2), .val (.int p3), .val (.int p4), .val (.int p5), .val (.int zk), .val (.int (0 : Int32)), .val (.int zw), .val (.ref dg), .unset, .unset, .unset, .unset] [(.int zw)])) rfl (by rw [hml]; rfl) (argsL := [(.int zw)]) (rest := []) (lenOf pd_12 rfl) rfl (by show 2 * 0 + _ ≤ _; exact Nat.le_of_eq rfl) (hb hby at_115) (fun _ _ => ⟨rfl, rfl, (Nat.le_of_ble_eq_true rfl), (Nat.le_of_ble_eq_true rfl)⟩)
          dsimp only [Pt.U, Pt.locs, Pt.cells, Pt.slots] at X146 l146 y146 z146 st146 hQ146
          subst l146 y146 z146
          obtain ⟨lo, rfl, N146q, K146, E_lo, Tx_lo⟩ := hQ146
          have N146 := Fr.app N67 N146q
          have pre146s : ∀ tg, Steps p.tables e below (T146.setTop (mkF m 118 #[.val (.int p0), .val (.int p1), .val (.int p2), .val (.int p3), .val (.int p4), .val (.int p5), .val (.int zk), .val (.int (0 : Int32)), .val (.int zw), .val (.ref dg), .unset, .unset, .unset, .unset] [(.ref lo)])) tg → G tg := fun tg kt => pre145 tg (st146 tg kt)
          have Z146 : n0 ≤ T146.heap.size := Nat.le_trans Z67 K146.1
          have ch147 := ch67.trans (CHr.keep K146 sf0 ch67.1)
          have hk147 := Nat.le_trans hk67 K146.1
          have E_dg_148 := E_dg.keep K146
          have C_dg_149 := C_dg.keep K146 nin0
          have F_dg_150 := F_dg.keep K146 nin0
          have V_dg_151 := V_dg.keep K146 nin0
          have Ol152 := Ol68.keep K146 all0
          obtain ⟨v_lo, k_lo, b_lo, C_lo, F_lo, V_lo⟩ := Tx_lo
          have pre153 : ∀ tg, Steps p.tables e below (T146.setTop (mkF m 122 #[.val (.int p0), .val (.int p1), .val (.int p2), .val (.int p3), .val (.int p4), .val (.int p5), .val (.int zk), .val (.int (0 : Int32)), .val (.int zw), .val (.ref dg), .val (.ref lo), .unset, .unset, .unset] [(.int zw)])) tg → G tg := fun tg kt => pre146s tg (by
            show Steps p.tables e below (T146.setTop (mkF m 118 #[.val (.int p0), .val (.int p1), .val (.int p2), .val (.int p3), .val (.int p4), .val (.int p5), .val (.int zk), .val (.int (0 : Int32)), .val (.int zw), .val (.ref dg), .unset, .unset, .unset, .unset] [(.ref lo)])) _
            refine XS.astore X146.here hx rfl (hb hby at_118) rfl rfl (l' := #[.val (.int p0), .val (.int p1), .val (.int p2), .val (.int p3), .val (.int p4), .val (.int p5), .val (.int zk), .val (.int (0 : Int32)), .val (.int zw), .val (.ref dg), .val (.ref lo), .unset, .unset, .unset]) rfl ?_
            show Steps p.tables e below (T146.setTop (mkF m 120 #[.val (.int p0), .val (.int p1), .val (.int p2), .val (.int p3), .val (.int p4), .val (.int p5), .val (.int zk), .val (.int (0 : Int32)), .val (.int zw), .val (.ref dg), .val (.ref lo), .unset, .unset, .unset] [])) _
            refine XS.iload X146.here hx rfl (hb hby at_120) rfl ?_
            exact kt)
          obtain ⟨_, _, ⟨T154, L154, k154, n154⟩, -, X154, ⟨Lc154, hQ154, l154, y154, z154⟩, st154⟩ := Jvm.LawKit.callS X146 hx (y := (⟨"com/example/ringfence/ringfence/NumberPatternRankPinLaw", "nines", "(I)Ljava/lang/String;"⟩ : MethodName)) hown (mvT hZ (hw _ (List.mem_of_getElem? (i := 41) rfl))) (mvT hZ (hw _ (List.mem_of_getElem? (i := 42) rfl))) (mvT hZ (hw _ (List.mem_of_getElem? (i := 3) rfl))) (mvT hZ (hw _ (List.mem_of_getElem? (i := 43) rfl))) (by decide) (backOf (W := 0) (rmNs l Z a0 hw [] zw T146.heap n0 Z146 hs Ol152 hw3) hZ (hw _ (List.mem_of_getElem? (i := 43) rfl)) (hw _ (List.mem_of_getElem? (i := 3) rfl)) (by decide) (by decide)) (g := (mkF m 122 #[.val (.int p0), .val (.int p1), .val (.int p2), .val (.int p3), .val (.int p4), .val (.int p5), .val (.int zk), .val (.int (0 : Int32)), .val (.int zw), .val (.ref dg), .val (.ref lo), .unset, .unset, .unset] [(.int zw)])) rfl (by rw [hml]; rfl) (argsL := [(.int zw)]) (rest := []) (lenOf pd_12 rfl) rfl (by show 2 * 0 + _ ≤ _; exact Nat.le_of_eq rfl) (hb hby at_122) (fun _ _ => ⟨rfl, rfl, (Nat.le_of_ble_eq_true rfl), (Nat.le_of_ble_eq_true rfl)⟩)
          dsimp only [Pt.U, Pt.locs, Pt.cells, Pt.slots] at X154 l154 y154 z154 st154 hQ154
          subst l154 y154 z154
          obtain ⟨hi, rfl, N154q, K154, E_hi, Tx_hi⟩ := hQ154
          have N154 := Fr.app N146 N154q
          have pre154s : ∀ tg, Steps p.tables e below (T154.setTop (mkF m 125 #[.val (.int p0), .val (.int p1), .val (.int p2), .val (.int p3), .val (.int p4), .val (.int p5), .val (.int zk), .val (.int (0 : Int32)), .val (.int zw), .val (.ref dg), .val (.ref lo), .unset, .unset, .unset] [(.ref hi)])) tg → G tg := fun tg kt => pre153 tg (st154 tg kt)
          have Z154 : n0 ≤ T154.heap.size := Nat.le_trans Z146 K154.1
          have ch155 := ch147.trans (CHr.keep K154 sf0 ch147.1)
          have hk155 := Nat.le_trans hk147 K154.1
          have E_dg_156 := E_dg_148.keep K154
          have C_dg_157 := C_dg_149.keep K154 nin0
          have F_dg_158 := F_dg_150.keep K154 nin0
          have V_dg_159 := V_dg_151.keep K154 nin0
          have E_lo_160 := E_lo.keep K154
          have C_lo_161 := C_lo.keep K154 nin0
          have F_lo_162 := F_lo.keep K154 nin0
          have V_lo_163 := V_lo.keep K154 nin0
          have Ol164 := Ol152.keep K154 all0
          obtain ⟨v_hi, k_hi, b_hi, C_hi, F_hi, V_hi⟩ := Tx_hi
          have pre165 : ∀ tg, Steps p.tables e below (T154.setTop (mkF m 127 #[.val (.int p0), .val (.int p1), .val (.int p2), .val (.int p3), .val (.int p4), .val (.int p5), .val (.int zk), .val (.int (0 : Int32)), .val (.int zw), .val (.ref dg), .val (.ref lo), .val (.ref hi), .unset, .unset] [])) tg → G tg := fun tg kt => pre154s tg (by
            show Steps p.tables e below (T154.setTop (mkF m 125 #[.val (.int p0), .val (.int p1), .val (.int p2), .val (.int p3), .val (.int p4), .val (.int p5), .val (.int zk), .val (.int (0 : Int32)), .val (.int zw), .val (.ref dg), .val (.ref lo), .unset, .unset, .unset] [(.ref hi)])) _
            refine XS.astore X154.here hx rfl (hb hby at_125) rfl rfl (l' := #[.val (.int p0), .val (.int p1), .val (.int p2), .val (.int p3), .val (.int p4), .val (.int p5), .val (.int zk), .val (.int (0 : Int32)), .val (.int zw), .val (.ref dg), .val (.ref lo), .val (.ref hi), .unset, .unset]) rfl ?_
            exact kt)
          obtain ⟨T166, h166, X166, e166, E166, A166, D166, -, st166⟩ := newO X154 hx hZ hown (hw _ (List.mem_of_getElem? (i := 44) rfl)) (hw _ (List.mem_of_getElem? (i := 45) rfl)) (hw _ (List.mem_of_getElem? (i := 46) rfl)) rfl (g := (mkF m 127 #[.val (.int p0), .val (.int p1), .val (.int p2), .val (.int p3), .val (.int p4), .val (.int p5), .val (.int zk), .val (.int (0 : Int32)), .val (.int zw), .val (.ref dg), .val (.ref lo), .val (.ref hi), .unset, .unset] [])) rfl (hb hby at_127) (by decide) (by decide)
          obtain ⟨np, g166⟩ : ∃ z, z = T154.heap.size := ⟨_, rfl⟩
          rw [← g166] at A166 D166 st166
          have O_np : n0 ≤ np := Nat.le_trans Z154 (Nat.le_of_eq g166.symm)
          have Z166 : n0 ≤ h166.size := Nat.le_trans Z154 E166.1
          have ne_dg_np : dg ≠ np := Nat.ne_of_lt (Nat.lt_of_lt_of_le E_dg_156.lt (Nat.le_of_eq g166.symm))
          have ne_v_dg_np : v_dg ≠ np := Nat.ne_of_lt (Nat.lt_of_lt_of_le V_dg_159.lt (Nat.le_of_eq g166.symm))
          have ne_lo_np : lo ≠ np := Nat.ne_of_lt (Nat.lt_of_lt_of_le E_lo_160.lt (Nat.le_of_eq g166.symm))
          have ne_v_lo_np : v_lo ≠ np := Nat.ne_of_lt (Nat.lt_of_lt_of_le V_lo_163.lt (Nat.le_of_eq g166.symm))
          have ne_hi_np : hi ≠ np := Nat.ne_of_lt (Nat.lt_of_lt_of_le E_hi.lt (Nat.le_of_eq g166.symm))
          have ne_v_hi_np : v_hi ≠ np := Nat.ne_of_lt (Nat.lt_of_lt_of_le V_hi.lt (Nat.le_of_eq g166.symm))
          have pre166s : ∀ tg, Steps p.tables e below (T166.setTop (mkF m 130 #[.val (.int p0), .val (.int p1), .val (.int p2), .val (.int p3), .val (.int p4), .val (.int p5), .val (.int zk), .val (.int (0 : Int32)), .val (.int zw), .val (.ref dg), .val (.ref lo), .val (.ref hi), .unset, .unset] [(.ref np)])) tg → G tg := fun tg kt => pre165 tg (st166 tg kt)
          have ch167 := ch155.trans (CHr.ext E166 ch155.1)
          have hk167 := Nat.le_trans hk155 E166.1
          have E_dg_168 := E_dg_156.ext E166
          have C_dg_169 := C_dg_157.ext E166
          have F_dg_170 := F_dg_158.ext E166
          have V_dg_171 := V_dg_159.ext E166
          have E_lo_172 := E_lo_160.ext E166
          have C_lo_173 := C_lo_161.ext E166
          have F_lo_174 := F_lo_162.ext E166
          have V_lo_175 := V_lo_163.ext E166
          have E_hi_176 := E_hi.ext E166
          have C_hi_177 := C_hi.ext E166
          have F_hi_178 := F_hi.ext E166
          have V_hi_179 := V_hi.ext E166
          have Ol180 := Ol164.ext E166
          have Fdigits_np : Fld Z h166 np "com/example/ringfence/ringfence/NumberPattern" "digits" "Ljava/lang/String;" .null := D166 (Or.inr (hw _ (List.mem_of_getElem? (i := 57) rfl))) (ty := (.object "java/lang/String")) (by decide)
          have Flow_np : Fld Z h166 np "com/example/ringfence/ringfence/NumberPattern" "low" "Ljava/lang/String;" .null := D166 (Or.inr (hw _ (List.mem_of_getElem? (i := 59) rfl))) (ty := (.object "java/lang/String")) (by decide)
          have Fhigh_np : Fld Z h166 np "com/example/ringfence/ringfence/NumberPattern" "high" "Ljava/lang/String;" .null := D166 (Or.inr (hw _ (List.mem_of_getElem? (i := 61) rfl))) (ty := (.object "java/lang/String")) (by decide)
          have pre181 : ∀ tg, Steps p.tables e below (T166.setTop (mkF m 137 #[.val (.int p0), .val (.int p1), .val (.int p2), .val (.int p3), .val (.int p4), .val (.int p5), .val (.int zk), .val (.int (0 : Int32)), .val (.int zw), .val (.ref dg), .val (.ref lo), .val (.ref hi), .unset, .unset] [(.ref hi), (.ref lo), (.ref dg), (.ref np), (.ref np)])) tg → G tg := fun tg kt => pre166s tg (by
            show Steps p.tables e below (T166.setTop (mkF m 130 #[.val (.int p0), .val (.int p1), .val (.int p2), .val (.int p3), .val (.int p4), .val (.int p5), .val (.int zk), .val (.int (0 : Int32)), .val (.int zw), .val (.ref dg), .val (.ref lo), .val (.ref hi), .unset, .unset] [(.ref np)])) _
            refine XS.dup X166.here hx rfl (hb hby at_130) rfl rfl ?_
            show Steps p.tables e below (T166.setTop (mkF m 131 #[.val (.int p0), .val (.int p1), .val (.int p2), .val (.int p3), .val (.int p4), .val (.int p5), .val (.int zk), .val (.int (0 : Int32)), .val (.int zw), .val (.ref dg), .val (.ref lo), .val (.ref hi), .unset, .unset] [(.ref np), (.ref np)])) _
            refine XS.aload X166.here hx rfl (hb hby at_131) rfl rfl ?_
            show Steps p.tables e below (T166.setTop (mkF m 133 #[.val (.int p0), .val (.int p1), .val (.int p2), .val (.int p3), .val (.int p4), .val (.int p5), .val (.int zk), .val (.int (0 : Int32)), .val (.int zw), .val (.ref dg), .val (.ref lo), .val (.ref hi), .unset, .unset] [(.ref dg), (.ref np), (.ref np)])) _
            refine XS.aload X166.here hx rfl (hb hby at_133) rfl rfl ?_
            show Steps p.tables e below (T166.setTop (mkF m 135 #[.val (.int p0), .val (.int p1), .val (.int p2), .val (.int p3), .val (.int p4), .val (.int p5), .val (.int zk), .val (.int (0 : Int32)), .val (.int zw), .val (.ref dg), .val (.ref lo), .val (.ref hi), .unset, .unset] [(.ref lo), (.ref dg), (.ref np), (.ref np)])) _
            refine XS.aload X166.here hx rfl (hb hby at_135) rfl rfl ?_
            exact kt)
          obtain ⟨_, _, ⟨T182, L182, k182, n182⟩, -, X182, ⟨Lc182, hQ182, l182, y182, z182⟩, st182⟩ := X166.specialBack hx (y := (⟨"com/example/ringfence/ringfence/NumberPattern", "<init>", "(Ljava/lang/String;Ljava/lang/String;Ljava/lang/String;)V"⟩ : MethodName)) rfl hown (mvT hZ (hw _ (List.mem_of_getElem? (i := 47) rfl))) (mvT hZ (hw _ (List.mem_of_getElem? (i := 48) rfl))) (mvT hZ (hw _ (List.mem_of_getElem? (i := 49) rfl))) (by decide) (backOf (W := 1) (rmP_r l Z a0 hw [] np dg lo hi h166 n0 Z166 A166 O_np Fdigits_np Flow_np Fhigh_np) hZ (hw _ (List.mem_of_getElem? (i := 49) rfl)) (hw _ (List.mem_of_getElem? (i := 46) rfl)) (by decide) (by decide)) (g := (mkF m 137 #[.val (.int p0), .val (.int p1), .val (.int p2), .val (.int p3), .val (.int p4), .val (.int p5), .val (.int zk), .val (.int (0 : Int32)), .val (.int zw), .val (.ref dg), .val (.ref lo), .val (.ref hi), .unset, .unset] [(.ref hi), (.ref lo), (.ref dg), (.ref np), (.ref np)])) rfl (by rw [hml]; rfl) (Steps.refl _) (a := np) (argsL := [(.ref dg), (.ref lo), (.ref hi)]) (rest := [(.ref np)]) (lenOf pd_11 rfl) rfl (by show 2 * 0 + _ ≤ _; exact Nat.le_of_eq rfl) (hb hby at_137) (fun _ _ => ⟨rfl, e166, (Nat.le_of_ble_eq_true rfl), (Nat.le_of_ble_eq_true rfl)⟩)
          dsimp only [Pt.U, Pt.locs, Pt.cells, Pt.slots] at X182 l182 y182 z182 st182 hQ182
          subst l182 y182 z182
          obtain ⟨rfl, N182q, K182, Fd, Fl⟩ := hQ182
          have N182 := Fr.app N154 N182q
          have pre182s : ∀ tg, Steps p.tables e below (T182.setTop (mkF m 140 #[.val (.int p0), .val (.int p1), .val (.int p2), .val (.int p3), .val (.int p4), .val (.int p5), .val (.int zk), .val (.int (0 : Int32)), .val (.int zw), .val (.ref dg), .val (.ref lo), .val (.ref hi), .unset, .unset] [(.ref np)])) tg → G tg := fun tg kt => pre181 tg (st182.trans kt)
          have Z182 : n0 ≤ T182.heap.size := Nat.le_trans Z166 K182.1
          have ch183 := ch167.trans (CHr.keep K182 (sfS (Safe.exa hZ.alike A166 (by decide) (by decide)) sf0) ch167.1)
          have hk183 := Nat.le_trans hk167 K182.1
          have E_dg_184 := E_dg_168.keep K182
          have C_dg_185 := C_dg_169.keep K182 (ninS ne_dg_np nin0)
          have F_dg_186 := F_dg_170.keep K182 (ninS ne_dg_np nin0)
          have V_dg_187 := V_dg_171.keep K182 (ninS ne_v_dg_np nin0)
          have E_lo_188 := E_lo_172.keep K182
          have C_lo_189 := C_lo_173.keep K182 (ninS ne_lo_np nin0)
          have F_lo_190 := F_lo_174.keep K182 (ninS ne_lo_np nin0)
          have V_lo_191 := V_lo_175.keep K182 (ninS ne_v_lo_np nin0)
          have E_hi_192 := E_hi_176.keep K182
          have C_hi_193 := C_hi_177.keep K182 (ninS ne_hi_np nin0)
          have F_hi_194 := F_hi_178.keep K182 (ninS ne_hi_np nin0)
          have V_hi_195 := V_hi_179.keep K182 (ninS ne_v_hi_np nin0)
          have A166_196 := A166.keep K182
          have Ol197 := Ol180.keep K182 (allS O_np all0)
          obtain ⟨cq198, kq198, q198a, q198b, q198c⟩ := isOf hZ rfl A166_196
          obtain ⟨_, _, ⟨T198, L198, k198, n198⟩, -, X198, ⟨Lc198, hQ198, l198, y198, z198⟩, st198⟩ := X182.virtualBack hx (y := (⟨"com/example/ringfence/ringfence/NumberPattern", "rank", "()I"⟩ : MethodName)) (z := (⟨"com/example/ringfence/ringfence/NumberPattern", "rank", "()I"⟩ : MethodName)) hown (mvT hZ (hw _ (List.mem_of_getElem? (i := 62) rfl))) (mvT hZ (hw _ (List.mem_of_getElem? (i := 63) rfl))) (notFace_of_selects (args := #[]) (mvT hZ (hw _ (List.mem_of_getElem? (i := 65) rfl)))) (mvT hZ (hw _ (List.mem_of_getElem? (i := 65) rfl))) (mvT hZ (hw _ (List.mem_of_getElem? (i := 64) rfl))) (by decide) (backOf (W := 0) (rmQ_s l Z a0 hw [] np dg v_dg k_dg (0 : Int32) b_dg lo v_lo k_lo zw b_lo T182.heap n0 Z182 hs Ol197 Fd Fl E_dg_184 C_dg_185 F_dg_186 V_dg_187 E_lo_188 F_lo_190 V_lo_191 (own_nz3 hw3)) hZ (hw _ (List.mem_of_getElem? (i := 66) rfl)) (hw _ (List.mem_of_getElem? (i := 46) rfl)) (by decide) (by decide)) q198a q198c (g := (mkF m 140 #[.val (.int p0), .val (.int p1), .val (.int p2), .val (.int p3), .val (.int p4), .val (.int p5), .val (.int zk), .val (.int (0 : Int32)), .val (.int zw), .val (.ref dg), .val (.ref lo), .val (.ref hi), .unset, .unset] [(.ref np)])) rfl (by rw [hml]; rfl) (Steps.refl _) (argsL := []) (rest := []) (lenOf pd_8 rfl) rfl (by show 2 * 0 + _ ≤ _; exact Nat.le_of_eq rfl) (hb hby at_140) (fun _ _ => ⟨rfl, rfl, (Nat.le_of_ble_eq_true rfl), (Nat.le_of_ble_eq_true rfl)⟩)
          dsimp only [Pt.U, Pt.locs, Pt.cells, Pt.slots] at X198 l198 y198 z198 st198 hQ198
          subst l198 y198 z198
          obtain ⟨rfl, N198q, e198⟩ := hQ198
          have N198 := Fr.app N182 N198q
          have pre198s : ∀ tg, Steps p.tables e below (T198.setTop (mkF m 143 #[.val (.int p0), .val (.int p1), .val (.int p2), .val (.int p3), .val (.int p4), .val (.int p5), .val (.int zk), .val (.int (0 : Int32)), .val (.int zw), .val (.ref dg), .val (.ref lo), .val (.ref hi), .unset, .unset] [(.int (0 : Int32))])) tg → G tg := fun tg kt => pre182s tg (st198.trans kt)
          have pre199 : ∀ tg, Steps p.tables e below (T198.setTop (mkF m 172 #[.val (.int p0), .val (.int p1), .val (.int p2), .val (.int p3), .val (.int p4), .val (.int p5), .val (.int zk), .val (.int (0 : Int32)), .val (.int zw), .val (.ref dg), .val (.ref lo), .val (.ref hi), .val (.int (0 : Int32)), .val (.int (0 : Int32))] [(.int (1 : Int32))])) tg → G tg := fun tg kt => pre198s tg (by
            show Steps p.tables e below (T198.setTop (mkF m 143 #[.val (.int p0), .val (.int p1), .val (.int p2), .val (.int p3), .val (.int p4), .val (.int p5), .val (.int zk), .val (.int (0 : Int32)), .val (.int zw), .val (.ref dg), .val (.ref lo), .val (.ref hi), .unset, .unset] [(.int (0 : Int32))])) _
            refine XS.istore X198.here hx rfl (hb hby at_143) rfl (l' := #[.val (.int p0), .val (.int p1), .val (.int p2), .val (.int p3), .val (.int p4), .val (.int p5), .val (.int zk), .val (.int (0 : Int32)), .val (.int zw), .val (.ref dg), .val (.ref lo), .val (.ref hi), .val (.int (0 : Int32)), .unset]) rfl ?_
            show Steps p.tables e below (T198.setTop (mkF m 145 #[.val (.int p0), .val (.int p1), .val (.int p2), .val (.int p3), .val (.int p4), .val (.int p5), .val (.int zk), .val (.int (0 : Int32)), .val (.int zw), .val (.ref dg), .val (.ref lo), .val (.ref hi), .val (.int (0 : Int32)), .unset] [])) _
            refine XS.iload X198.here hx rfl (hb hby at_145) rfl ?_
            show Steps p.tables e below (T198.setTop (mkF m 147 #[.val (.int p0), .val (.int p1), .val (.int p2), .val (.int p3), .val (.int p4), .val (.int p5), .val (.int zk), .val (.int (0 : Int32)), .val (.int zw), .val (.ref dg), .val (.ref lo), .val (.ref hi), .val (.int (0 : Int32)), .unset] [(.int zk)])) _
            refine XS.iconst X198.here hx rfl (hb hby at_147) ?_
            show Steps p.tables e below (T198.setTop (mkF m 148 #[.val (.int p0), .val (.int p1), .val (.int p2), .val (.int p3), .val (.int p4), .val (.int p5), .val (.int zk), .val (.int (0 : Int32)), .val (.int zw), .val (.ref dg), .val (.ref lo), .val (.ref hi), .val (.int (0 : Int32)), .unset] [(.int (1 : Int32)), (.int zk)])) _
            refine XS.icmpYes X198.here hx rfl (pc0 := 148) (pc' := 156) rfl (hb hby at_148) rfl (feq hk1).2 (by decide) (by decide) ?_
            show Steps p.tables e below (T198.setTop (mkF m 156 #[.val (.int p0), .val (.int p1), .val (.int p2), .val (.int p3), .val (.int p4), .val (.int p5), .val (.int zk), .val (.int (0 : Int32)), .val (.int zw), .val (.ref dg), .val (.ref lo), .val (.ref hi), .val (.int (0 : Int32)), .unset] [])) _
            refine XS.iload X198.here hx rfl (hb hby at_156) rfl ?_
            show Steps p.tables e below (T198.setTop (mkF m 158 #[.val (.int p0), .val (.int p1), .val (.int p2), .val (.int p3), .val (.int p4), .val (.int p5), .val (.int zk), .val (.int (0 : Int32)), .val (.int zw), .val (.ref dg), .val (.ref lo), .val (.ref hi), .val (.int (0 : Int32)), .unset] [(.int (0 : Int32))])) _
            refine XS.istore X198.here hx rfl (hb hby at_158) rfl (l' := #[.val (.int p0), .val (.int p1), .val (.int p2), .val (.int p3), .val (.int p4), .val (.int p5), .val (.int zk), .val (.int (0 : Int32)), .val (.int zw), .val (.ref dg), .val (.ref lo), .val (.ref hi), .val (.int (0 : Int32)), .val (.int (0 : Int32))]) rfl ?_
            show Steps p.tables e below (T198.setTop (mkF m 160 #[.val (.int p0), .val (.int p1), .val (.int p2), .val (.int p3), .val (.int p4), .val (.int p5), .val (.int zk), .val (.int (0 : Int32)), .val (.int zw), .val (.ref dg), .val (.ref lo), .val (.ref hi), .val (.int (0 : Int32)), .val (.int (0 : Int32))] [])) _
            refine XS.iload X198.here hx rfl (hb hby at_160) rfl ?_
            show Steps p.tables e below (T198.setTop (mkF m 162 #[.val (.int p0), .val (.int p1), .val (.int p2), .val (.int p3), .val (.int p4), .val (.int p5), .val (.int zk), .val (.int (0 : Int32)), .val (.int zw), .val (.ref dg), .val (.ref lo), .val (.ref hi), .val (.int (0 : Int32)), .val (.int (0 : Int32))] [(.int (0 : Int32))])) _
            refine XS.iload X198.here hx rfl (hb hby at_162) rfl ?_
            show Steps p.tables e below (T198.setTop (mkF m 164 #[.val (.int p0), .val (.int p1), .val (.int p2), .val (.int p3), .val (.int p4), .val (.int p5), .val (.int zk), .val (.int (0 : Int32)), .val (.int zw), .val (.ref dg), .val (.ref lo), .val (.ref hi), .val (.int (0 : Int32)), .val (.int (0 : Int32))] [(.int (0 : Int32)), (.int (0 : Int32))])) _
            refine XS.icmpNo X198.here hx rfl (hb hby at_164) rfl (teq (by decide : (0 : Int32) = (0 : Int32))).2 ?_
            show Steps p.tables e below (T198.setTop (mkF m 167 #[.val (.int p0), .val (.int p1), .val (.int p2), .val (.int p3), .val (.int p4), .val (.int p5), .val (.int zk), .val (.int (0 : Int32)), .val (.int zw), .val (.ref dg), .val (.ref lo), .val (.ref hi), .val (.int (0 : Int32)), .val (.int (0 : Int32))] [])) _
            refine XS.iconst X198.here hx rfl (hb hby at_167) ?_
            show Steps p.tables e below (T198.setTop (mkF m 168 #[.val (.int p0), .val (.int p1), .val (.int p2), .val (.int p3), .val (.int p4), .val (.int p5), .val (.int zk), .val (.int (0 : Int32)), .val (.int zw), .val (.ref dg), .val (.ref lo), .val (.ref hi), .val (.int (0 : Int32)), .val (.int (0 : Int32))] [(.int (1 : Int32))])) _
            refine XS.goto X198.here hx rfl (pc0 := 168) (pc' := 172) rfl (hb hby at_168) (by decide) (by decide) ?_
            exact kt)
          obtain ⟨fs, hr, hrun, hended, hRE⟩ := X198.leaveW (s := s) (vm₁ := T67.vm) (v := some (.int (1 : Int32))) hS67 (by rw [e198]; exact hk183) (fun h => by rw [Bd.returns] at h; cases h)
          have chL := ch183.trans (CHv.at (s := s) (vm0 := T67.vm) X198 hZ hEL ch183.1)
          subst hG
          refine ⟨_, _, pre199 _ ?_, hrun, hended, _, _, rfl, ?_, ?_, hRE.1, hRE.2.1, hRE.2.2.1, hRE.2.2.2.mono (by decide) (by decide)⟩
          · skip
            show Steps p.tables e below (T198.setTop (mkF m 172 #[.val (.int p0), .val (.int p1), .val (.int p2), .val (.int p3), .val (.int p4), .val (.int p5), .val (.int zk), .val (.int (0 : Int32)), .val (.int zw), .val (.ref dg), .val (.ref lo), .val (.ref hi), .val (.int (0 : Int32)), .val (.int (0 : Int32))] [(.int (1 : Int32))])) _
            exact retN X198 hx (t := .boolean) Bd.returns (by simp) (hb hby at_172) hr
          · show Q_rm0 Z p0 p1 p2 p3 p4 p5 h0 n0 _ T198.heap _
            rw [e198]
            exact ⟨rfl, N198⟩
          · show CHr Z own_EL s.vm s.heap T198.vm T198.heap
            rw [hh, e198]; exact chL
    · skip
      have hd5 : zd = (1 : Int32) ∨ zd = (2 : Int32) ∨ zd = (3 : Int32) ∨ zd = (4 : Int32) ∨ zd = (5 : Int32) := by rw [zd_eq]; exact own_d0 p0 (by rw [← zd_eq]; exact hd0)
      obtain ⟨_, _, ⟨T200, L200, k200, n200⟩, -, X200, ⟨Lc200, hQ200, l200, y200, z200⟩, st200⟩ := Jvm.LawKit.callS X0 hx (y := (⟨"com/example/ringfence/ringfence/NumberPatternRankPinLaw", "str", "(II)Ljava/lang/String;"⟩ : MethodName)) hown (mvT hZ (hw _ (List.mem_of_getElem? (i := 1) rfl))) (mvT hZ (hw _ (List.mem_of_getElem? (i := 2) rfl))) (mvT hZ (hw _ (List.mem_of_getElem? (i := 3) rfl))) (mvT hZ (hw _ (List.mem_of_getElem? (i := 4) rfl))) (by decide) (backOf (W := 0) (rmSs l Z a0 hw [] zd p1 h0 n0 Z0 hs Ol hd5) hZ (hw _ (List.mem_of_getElem? (i := 4) rfl)) (hw _ (List.mem_of_getElem? (i := 3) rfl)) (by decide) (by decide)) (g := (mkF m 44 #[.val (.int p0), .val (.int p1), .val (.int p2), .val (.int p3), .val (.int p4), .val (.int p5), .val (.int zk), .val (.int zd), .val (.int zw), .unset, .unset, .unset, .unset, .unset] [(.int p1), (.int zd)])) rfl (by rw [hml]; rfl) (argsL := [(.int zd), (.int p1)]) (rest := []) (lenOf pd_10 rfl) rfl (by show 2 * 0 + _ ≤ _; exact Nat.le_of_eq rfl) (hb hby at_44) (fun _ _ => ⟨rfl, e0, (Nat.le_of_ble_eq_true rfl), (Nat.le_of_ble_eq_true rfl)⟩)
      dsimp only [Pt.U, Pt.locs, Pt.cells, Pt.slots] at X200 l200 y200 z200 st200 hQ200
      subst l200 y200 z200
      obtain ⟨dg, rfl, N200q, K200, E_dg, Tx_dg⟩ := hQ200
      have N200 := Fr.app N0 N200q
      have pre200s : ∀ tg, Steps p.tables e below (T200.setTop (mkF m 47 #[.val (.int p0), .val (.int p1), .val (.int p2), .val (.int p3), .val (.int p4), .val (.int p5), .val (.int zk), .val (.int zd), .val (.int zw), .unset, .unset, .unset, .unset, .unset] [(.ref dg)])) tg → G tg := fun tg kt => pre65 tg (st200 tg kt)
      have Z200 : n0 ≤ T200.heap.size := Nat.le_trans Z0 K200.1
      have ch201 := ch0.trans (CHr.keep K200 sf0 ch0.1)
      have hk201 := Nat.le_trans hkz K200.1
      have Ol202 := Ol.keep K200 all0
      obtain ⟨v_dg, k_dg, b_dg, C_dg, F_dg, V_dg⟩ := Tx_dg
      have pre203 : ∀ tg, Steps p.tables e below (T200.setTop (mkF m 51 #[.val (.int p0), .val (.int p1), .val (.int p2), .val (.int p3), .val (.int p4), .val (.int p5), .val (.int zk), .val (.int zd), .val (.int zw), .val (.ref dg), .unset, .unset, .unset, .unset] [(.int zk)])) tg → G tg := fun tg kt => pre200s tg (by
        show Steps p.tables e below (T200.setTop (mkF m 47 #[.val (.int p0), .val (.int p1), .val (.int p2), .val (.int p3), .val (.int p4), .val (.int p5), .val (.int zk), .val (.int zd), .val (.int zw), .unset, .unset, .unset, .unset, .unset] [(.ref dg)])) _
        refine XS.astore X200.here hx rfl (hb hby at_47) rfl rfl (l' := #[.val (.int p0), .val (.int p1), .val (.int p2), .val (.int p3), .val (.int p4), .val (.int p5), .val (.int zk), .val (.int zd), .val (.int zw), .val (.ref dg), .unset, .unset, .unset, .unset]) rfl ?_
        show Steps p.tables e below (T200.setTop (mkF m 49 #[.val (.int p0), .val (.int p1), .val (.int p2), .val (.int p3), .val (.int p4), .val (.int p5), .val (.int zk), .val (.int zd), .val (.int zw), .val (.ref dg), .unset, .unset, .unset, .unset] [])) _
        refine XS.iload X200.here hx rfl (hb hby at_49) rfl ?_
        exact kt)
      by_cases hk0 : zk = (0 : Int32)
      · -- hk0
        have pre204 : ∀ tg, Steps p.tables e below (T200.setTop (mkF m 127 #[.val (.int p0), .val (.int p1), .val (.int p2), .val (.int p3), .val (.int p4), .val (.int p5), .val (.int zk), .val (.int zd), .val (.int zw), .val (.ref dg), .val .null, .val .null, .unset, .unset] [])) tg → G tg := fun tg kt => pre203 tg (by
          show Steps p.tables e below (T200.setTop (mkF m 51 #[.val (.int p0), .val (.int p1), .val (.int p2), .val (.int p3), .val (.int p4), .val (.int p5), .val (.int zk), .val (.int zd), .val (.int zw), .val (.ref dg), .unset, .unset, .unset, .unset] [(.int zk)])) _
          refine XS.ifNo X200.here hx rfl (hb hby at_51) rfl ((if0 _ _).trans (teq hk0).2) ?_
          show Steps p.tables e below (T200.setTop (mkF m 54 #[.val (.int p0), .val (.int p1), .val (.int p2), .val (.int p3), .val (.int p4), .val (.int p5), .val (.int zk), .val (.int zd), .val (.int zw), .val (.ref dg), .unset, .unset, .unset, .unset] [])) _
          refine XS.aconstNull X200.here hx rfl (hb hby at_54) ?_
          show Steps p.tables e below (T200.setTop (mkF m 55 #[.val (.int p0), .val (.int p1), .val (.int p2), .val (.int p3), .val (.int p4), .val (.int p5), .val (.int zk), .val (.int zd), .val (.int zw), .val (.ref dg), .unset, .unset, .unset, .unset] [.null])) _
          refine XS.astore X200.here hx rfl (hb hby at_55) rfl rfl (l' := #[.val (.int p0), .val (.int p1), .val (.int p2), .val (.int p3), .val (.int p4), .val (.int p5), .val (.int zk), .val (.int zd), .val (.int zw), .val (.ref dg), .val .null, .unset, .unset, .unset]) rfl ?_
          show Steps p.tables e below (T200.setTop (mkF m 57 #[.val (.int p0), .val (.int p1), .val (.int p2), .val (.int p3), .val (.int p4), .val (.int p5), .val (.int zk), .val (.int zd), .val (.int zw), .val (.ref dg), .val .null, .unset, .unset, .unset] [])) _
          refine XS.aconstNull X200.here hx rfl (hb hby at_57) ?_
          show Steps p.tables e below (T200.setTop (mkF m 58 #[.val (.int p0), .val (.int p1), .val (.int p2), .val (.int p3), .val (.int p4), .val (.int p5), .val (.int zk), .val (.int zd), .val (.int zw), .val (.ref dg), .val .null, .unset, .unset, .unset] [.null])) _
          refine XS.astore X200.here hx rfl (hb hby at_58) rfl rfl (l' := #[.val (.int p0), .val (.int p1), .val (.int p2), .val (.int p3), .val (.int p4), .val (.int p5), .val (.int zk), .val (.int zd), .val (.int zw), .val (.ref dg), .val .null, .val .null, .unset, .unset]) rfl ?_
          show Steps p.tables e below (T200.setTop (mkF m 60 #[.val (.int p0), .val (.int p1), .val (.int p2), .val (.int p3), .val (.int p4), .val (.int p5), .val (.int zk), .val (.int zd), .val (.int zw), .val (.ref dg), .val .null, .val .null, .unset, .unset] [])) _
          refine XS.goto X200.here hx rfl (pc0 := 60) (pc' := 127) rfl (hb hby at_60) (by decide) (by decide) ?_
          exact kt)
        obtain ⟨T205, h205, X205, e205, E205, A205, D205, -, st205⟩ := newO X200 hx hZ hown (hw _ (List.mem_of_getElem? (i := 44) rfl)) (hw _ (List.mem_of_getElem? (i := 45) rfl)) (hw _ (List.mem_of_getElem? (i := 46) rfl)) rfl (g := (mkF m 127 #[.val (.int p0), .val (.int p1), .val (.int p2), .val (.int p3), .val (.int p4), .val (.int p5), .val (.int zk), .val (.int zd), .val (.int zw), .val (.ref dg), .val .null, .val .null, .unset, .unset] [])) rfl (hb hby at_127) (by decide) (by decide)
        obtain ⟨np, g205⟩ : ∃ z, z = T200.heap.size := ⟨_, rfl⟩
        rw [← g205] at A205 D205 st205
        have O_np : n0 ≤ np := Nat.le_trans Z200 (Nat.le_of_eq g205.symm)
        have Z205 : n0 ≤ h205.size := Nat.le_trans Z200 E205.1
        have ne_dg_np : dg ≠ np := Nat.ne_of_lt (Nat.lt_of_lt_of_le E_dg.lt (Nat.le_of_eq g205.symm))
        have ne_v_dg_np : v_dg ≠ np := Nat.ne_of_lt (Nat.lt_of_lt_of_le V_dg.lt (Nat.le_of_eq g205.symm))
        have pre205s : ∀ tg, Steps p.tables e below (T205.setTop (mkF m 130 #[.val (.int p0), .val (.int p1), .val (.int p2), .val (.int p3), .val (.int p4), .val (.int p5), .val (.int zk), .val (.int zd), .val (.int zw), .val (.ref dg), .val .null, .val .null, .unset, .unset] [(.ref np)])) tg → G tg := fun tg kt => pre204 tg (st205 tg kt)
        have ch206 := ch201.trans (CHr.ext E205 ch201.1)
        have hk206 := Nat.le_trans hk201 E205.1
        have E_dg_207 := E_dg.ext E205
        have C_dg_208 := C_dg.ext E205
        have F_dg_209 := F_dg.ext E205
        have V_dg_210 := V_dg.ext E205
        have Ol211 := Ol202.ext E205
        have Fdigits_np : Fld Z h205 np "com/example/ringfence/ringfence/NumberPattern" "digits" "Ljava/lang/String;" .null := D205 (Or.inr (hw _ (List.mem_of_getElem? (i := 57) rfl))) (ty := (.object "java/lang/String")) (by decide)
        have Flow_np : Fld Z h205 np "com/example/ringfence/ringfence/NumberPattern" "low" "Ljava/lang/String;" .null := D205 (Or.inr (hw _ (List.mem_of_getElem? (i := 59) rfl))) (ty := (.object "java/lang/String")) (by decide)
        have Fhigh_np : Fld Z h205 np "com/example/ringfence/ringfence/NumberPattern" "high" "Ljava/lang/String;" .null := D205 (Or.inr (hw _ (List.mem_of_getElem? (i := 61) rfl))) (ty := (.object "java/lang/String")) (by decide)
        have pre212 : ∀ tg, Steps p.tables e below (T205.setTop (mkF m 137 #[.val (.int p0), .val (.int p1), .val (.int p2), .val (.int p3), .val (.int p4), .val (.int p5), .val (.int zk), .val (.int zd), .val (.int zw), .val (.ref dg), .val .null, .val .null, .unset, .unset] [.null, .null, (.ref dg), (.ref np), (.ref np)])) tg → G tg := fun tg kt => pre205s tg (by
          show Steps p.tables e below (T205.setTop (mkF m 130 #[.val (.int p0), .val (.int p1), .val (.int p2), .val (.int p3), .val (.int p4), .val (.int p5), .val (.int zk), .val (.int zd), .val (.int zw), .val (.ref dg), .val .null, .val .null, .unset, .unset] [(.ref np)])) _
          refine XS.dup X205.here hx rfl (hb hby at_130) rfl rfl ?_
          show Steps p.tables e below (T205.setTop (mkF m 131 #[.val (.int p0), .val (.int p1), .val (.int p2), .val (.int p3), .val (.int p4), .val (.int p5), .val (.int zk), .val (.int zd), .val (.int zw), .val (.ref dg), .val .null, .val .null, .unset, .unset] [(.ref np), (.ref np)])) _
          refine XS.aload X205.here hx rfl (hb hby at_131) rfl rfl ?_
          show Steps p.tables e below (T205.setTop (mkF m 133 #[.val (.int p0), .val (.int p1), .val (.int p2), .val (.int p3), .val (.int p4), .val (.int p5), .val (.int zk), .val (.int zd), .val (.int zw), .val (.ref dg), .val .null, .val .null, .unset, .unset] [(.ref dg), (.ref np), (.ref np)])) _
          refine XS.aload X205.here hx rfl (hb hby at_133) rfl rfl ?_
          show Steps p.tables e below (T205.setTop (mkF m 135 #[.val (.int p0), .val (.int p1), .val (.int p2), .val (.int p3), .val (.int p4), .val (.int p5), .val (.int zk), .val (.int zd), .val (.int zw), .val (.ref dg), .val .null, .val .null, .unset, .unset] [.null, (.ref dg), (.ref np), (.ref np)])) _
          refine XS.aload X205.here hx rfl (hb hby at_135) rfl rfl ?_
          exact kt)
        obtain ⟨_, _, ⟨T213, L213, k213, n213⟩, -, X213, ⟨Lc213, hQ213, l213, y213, z213⟩, st213⟩ := X205.specialBack hx (y := (⟨"com/example/ringfence/ringfence/NumberPattern", "<init>", "(Ljava/lang/String;Ljava/lang/String;Ljava/lang/String;)V"⟩ : MethodName)) rfl hown (mvT hZ (hw _ (List.mem_of_getElem? (i := 47) rfl))) (mvT hZ (hw _ (List.mem_of_getElem? (i := 48) rfl))) (mvT hZ (hw _ (List.mem_of_getElem? (i := 49) rfl))) (by decide) (backOf (W := 1) (rmP_n l Z a0 hw [] np dg h205 n0 Z205 A205 O_np Fdigits_np Flow_np Fhigh_np) hZ (hw _ (List.mem_of_getElem? (i := 49) rfl)) (hw _ (List.mem_of_getElem? (i := 46) rfl)) (by decide) (by decide)) (g := (mkF m 137 #[.val (.int p0), .val (.int p1), .val (.int p2), .val (.int p3), .val (.int p4), .val (.int p5), .val (.int zk), .val (.int zd), .val (.int zw), .val (.ref dg), .val .null, .val .null, .unset, .unset] [.null, .null, (.ref dg), (.ref np), (.ref np)])) rfl (by rw [hml]; rfl) (Steps.refl _) (a := np) (argsL := [(.ref dg), .null, .null]) (rest := [(.ref np)]) (lenOf pd_11 rfl) rfl (by show 2 * 0 + _ ≤ _; exact Nat.le_of_eq rfl) (hb hby at_137) (fun _ _ => ⟨rfl, e205, (Nat.le_of_ble_eq_true rfl), (Nat.le_of_ble_eq_true rfl)⟩)
        dsimp only [Pt.U, Pt.locs, Pt.cells, Pt.slots] at X213 l213 y213 z213 st213 hQ213
        subst l213 y213 z213
        obtain ⟨rfl, N213q, K213, Fd, Fl⟩ := hQ213
        have N213 := Fr.app N200 N213q
        have pre213s : ∀ tg, Steps p.tables e below (T213.setTop (mkF m 140 #[.val (.int p0), .val (.int p1), .val (.int p2), .val (.int p3), .val (.int p4), .val (.int p5), .val (.int zk), .val (.int zd), .val (.int zw), .val (.ref dg), .val .null, .val .null, .unset, .unset] [(.ref np)])) tg → G tg := fun tg kt => pre212 tg (st213.trans kt)
        have Z213 : n0 ≤ T213.heap.size := Nat.le_trans Z205 K213.1
        have ch214 := ch206.trans (CHr.keep K213 (sfS (Safe.exa hZ.alike A205 (by decide) (by decide)) sf0) ch206.1)
        have hk214 := Nat.le_trans hk206 K213.1
        have E_dg_215 := E_dg_207.keep K213
        have C_dg_216 := C_dg_208.keep K213 (ninS ne_dg_np nin0)
        have F_dg_217 := F_dg_209.keep K213 (ninS ne_dg_np nin0)
        have V_dg_218 := V_dg_210.keep K213 (ninS ne_v_dg_np nin0)
        have A205_219 := A205.keep K213
        have Ol220 := Ol211.keep K213 (allS O_np all0)
        obtain ⟨cq221, kq221, q221a, q221b, q221c⟩ := isOf hZ rfl A205_219
        obtain ⟨_, _, ⟨T221, L221, k221, n221⟩, -, X221, ⟨Lc221, hQ221, l221, y221, z221⟩, st221⟩ := X213.virtualBack hx (y := (⟨"com/example/ringfence/ringfence/NumberPattern", "rank", "()I"⟩ : MethodName)) (z := (⟨"com/example/ringfence/ringfence/NumberPattern", "rank", "()I"⟩ : MethodName)) hown (mvT hZ (hw _ (List.mem_of_getElem? (i := 62) rfl))) (mvT hZ (hw _ (List.mem_of_getElem? (i := 63) rfl))) (notFace_of_selects (args := #[]) (mvT hZ (hw _ (List.mem_of_getElem? (i := 65) rfl)))) (mvT hZ (hw _ (List.mem_of_getElem? (i := 65) rfl))) (mvT hZ (hw _ (List.mem_of_getElem? (i := 64) rfl))) (by decide) (backOf (W := 0) (rmQ_n l Z a0 hw [] np dg v_dg k_dg zd b_dg T213.heap n0 Z213 hs Ol220 Fd Fl E_dg_215 C_dg_216 F_dg_217 V_dg_218) hZ (hw _ (List.mem_of_getElem? (i := 66) rfl)) (hw _ (List.mem_of_getElem? (i := 46) rfl)) (by decide) (by decide)) q221a q221c (g := (mkF m 140 #[.val (.int p0), .val (.int p1), .val (.int p2), .val (.int p3), .val (.int p4), .val (.int p5), .val (.int zk), .val (.int zd), .val (.int zw), .val (.ref dg), .val .null, .val .null, .unset, .unset] [(.ref np)])) rfl (by rw [hml]; rfl) (Steps.refl _) (argsL := []) (rest := []) (lenOf pd_8 rfl) rfl (by show 2 * 0 + _ ≤ _; exact Nat.le_of_eq rfl) (hb hby at_140) (fun _ _ => ⟨rfl, rfl, (Nat.le_of_ble_eq_true rfl), (Nat.le_of_ble_eq_true rfl)⟩)
        dsimp only [Pt.U, Pt.locs, Pt.cells, Pt.slots] at X221 l221 y221 z221 st221 hQ221
        subst l221 y221 z221
        obtain ⟨rfl, N221q, e221⟩ := hQ221
        have N221 := Fr.app N213 N221q
        have pre221s : ∀ tg, Steps p.tables e below (T221.setTop (mkF m 143 #[.val (.int p0), .val (.int p1), .val (.int p2), .val (.int p3), .val (.int p4), .val (.int p5), .val (.int zk), .val (.int zd), .val (.int zw), .val (.ref dg), .val .null, .val .null, .unset, .unset] [(.int zd)])) tg → G tg := fun tg kt => pre213s tg (st221.trans kt)
        have pre222 : ∀ tg, Steps p.tables e below (T221.setTop (mkF m 172 #[.val (.int p0), .val (.int p1), .val (.int p2), .val (.int p3), .val (.int p4), .val (.int p5), .val (.int zk), .val (.int zd), .val (.int zw), .val (.ref dg), .val .null, .val .null, .val (.int zd), .val (.int zd)] [(.int (1 : Int32))])) tg → G tg := fun tg kt => pre221s tg (by
          show Steps p.tables e below (T221.setTop (mkF m 143 #[.val (.int p0), .val (.int p1), .val (.int p2), .val (.int p3), .val (.int p4), .val (.int p5), .val (.int zk), .val (.int zd), .val (.int zw), .val (.ref dg), .val .null, .val .null, .unset, .unset] [(.int zd)])) _
          refine XS.istore X221.here hx rfl (hb hby at_143) rfl (l' := #[.val (.int p0), .val (.int p1), .val (.int p2), .val (.int p3), .val (.int p4), .val (.int p5), .val (.int zk), .val (.int zd), .val (.int zw), .val (.ref dg), .val .null, .val .null, .val (.int zd), .unset]) rfl ?_
          show Steps p.tables e below (T221.setTop (mkF m 145 #[.val (.int p0), .val (.int p1), .val (.int p2), .val (.int p3), .val (.int p4), .val (.int p5), .val (.int zk), .val (.int zd), .val (.int zw), .val (.ref dg), .val .null, .val .null, .val (.int zd), .unset] [])) _
          refine XS.iload X221.here hx rfl (hb hby at_145) rfl ?_
          show Steps p.tables e below (T221.setTop (mkF m 147 #[.val (.int p0), .val (.int p1), .val (.int p2), .val (.int p3), .val (.int p4), .val (.int p5), .val (.int zk), .val (.int zd), .val (.int zw), .val (.ref dg), .val .null, .val .null, .val (.int zd), .unset] [(.int zk)])) _
          refine XS.iconst X221.here hx rfl (hb hby at_147) ?_
          show Steps p.tables e below (T221.setTop (mkF m 148 #[.val (.int p0), .val (.int p1), .val (.int p2), .val (.int p3), .val (.int p4), .val (.int p5), .val (.int zk), .val (.int zd), .val (.int zw), .val (.ref dg), .val .null, .val .null, .val (.int zd), .unset] [(.int (1 : Int32)), (.int zk)])) _
          refine XS.icmpYes X221.here hx rfl (pc0 := 148) (pc' := 156) rfl (hb hby at_148) rfl (feq hk1).2 (by decide) (by decide) ?_
          show Steps p.tables e below (T221.setTop (mkF m 156 #[.val (.int p0), .val (.int p1), .val (.int p2), .val (.int p3), .val (.int p4), .val (.int p5), .val (.int zk), .val (.int zd), .val (.int zw), .val (.ref dg), .val .null, .val .null, .val (.int zd), .unset] [])) _
          refine XS.iload X221.here hx rfl (hb hby at_156) rfl ?_
          show Steps p.tables e below (T221.setTop (mkF m 158 #[.val (.int p0), .val (.int p1), .val (.int p2), .val (.int p3), .val (.int p4), .val (.int p5), .val (.int zk), .val (.int zd), .val (.int zw), .val (.ref dg), .val .null, .val .null, .val (.int zd), .unset] [(.int zd)])) _
          refine XS.istore X221.here hx rfl (hb hby at_158) rfl (l' := #[.val (.int p0), .val (.int p1), .val (.int p2), .val (.int p3), .val (.int p4), .val (.int p5), .val (.int zk), .val (.int zd), .val (.int zw), .val (.ref dg), .val .null, .val .null, .val (.int zd), .val (.int zd)]) rfl ?_
          show Steps p.tables e below (T221.setTop (mkF m 160 #[.val (.int p0), .val (.int p1), .val (.int p2), .val (.int p3), .val (.int p4), .val (.int p5), .val (.int zk), .val (.int zd), .val (.int zw), .val (.ref dg), .val .null, .val .null, .val (.int zd), .val (.int zd)] [])) _
          refine XS.iload X221.here hx rfl (hb hby at_160) rfl ?_
          show Steps p.tables e below (T221.setTop (mkF m 162 #[.val (.int p0), .val (.int p1), .val (.int p2), .val (.int p3), .val (.int p4), .val (.int p5), .val (.int zk), .val (.int zd), .val (.int zw), .val (.ref dg), .val .null, .val .null, .val (.int zd), .val (.int zd)] [(.int zd)])) _
          refine XS.iload X221.here hx rfl (hb hby at_162) rfl ?_
          show Steps p.tables e below (T221.setTop (mkF m 164 #[.val (.int p0), .val (.int p1), .val (.int p2), .val (.int p3), .val (.int p4), .val (.int p5), .val (.int zk), .val (.int zd), .val (.int zw), .val (.ref dg), .val .null, .val .null, .val (.int zd), .val (.int zd)] [(.int zd), (.int zd)])) _
          refine XS.icmpNo X221.here hx rfl (hb hby at_164) rfl (teq rfl).2 ?_
          show Steps p.tables e below (T221.setTop (mkF m 167 #[.val (.int p0), .val (.int p1), .val (.int p2), .val (.int p3), .val (.int p4), .val (.int p5), .val (.int zk), .val (.int zd), .val (.int zw), .val (.ref dg), .val .null, .val .null, .val (.int zd), .val (.int zd)] [])) _
          refine XS.iconst X221.here hx rfl (hb hby at_167) ?_
          show Steps p.tables e below (T221.setTop (mkF m 168 #[.val (.int p0), .val (.int p1), .val (.int p2), .val (.int p3), .val (.int p4), .val (.int p5), .val (.int zk), .val (.int zd), .val (.int zw), .val (.ref dg), .val .null, .val .null, .val (.int zd), .val (.int zd)] [(.int (1 : Int32))])) _
          refine XS.goto X221.here hx rfl (pc0 := 168) (pc' := 172) rfl (hb hby at_168) (by decide) (by decide) ?_
          exact kt)
        obtain ⟨fs, hr, hrun, hended, hRE⟩ := X221.leaveW (s := s) (vm₁ := s.vm) (v := some (.int (1 : Int32))) hS (by rw [e221]; exact hk214) (fun h => by rw [Bd.returns] at h; cases h)
        have chL := ch214.trans (CHv.at (s := s) (vm0 := s.vm) X221 hZ hEL ch214.1)
        subst hG
        refine ⟨_, _, pre222 _ ?_, hrun, hended, _, _, rfl, ?_, ?_, hRE.1, hRE.2.1, hRE.2.2.1, hRE.2.2.2.mono (by decide) (by decide)⟩
        · skip
          show Steps p.tables e below (T221.setTop (mkF m 172 #[.val (.int p0), .val (.int p1), .val (.int p2), .val (.int p3), .val (.int p4), .val (.int p5), .val (.int zk), .val (.int zd), .val (.int zw), .val (.ref dg), .val .null, .val .null, .val (.int zd), .val (.int zd)] [(.int (1 : Int32))])) _
          exact retN X221 hx (t := .boolean) Bd.returns (by simp) (hb hby at_172) hr
        · show Q_rm0 Z p0 p1 p2 p3 p4 p5 h0 n0 _ T221.heap _
          rw [e221]
          exact ⟨rfl, N221⟩
        · show CHr Z own_EL s.vm s.heap T221.vm T221.heap
          rw [hh, e221]; exact chL
      · -- not hk0
        have pre223 : ∀ tg, Steps p.tables e below (T200.setTop (mkF m 91 #[.val (.int p0), .val (.int p1), .val (.int p2), .val (.int p3), .val (.int p4), .val (.int p5), .val (.int zk), .val (.int zd), .val (.int zw), .val (.ref dg), .unset, .unset, .unset, .unset] [(.int (2 : Int32)), (.int zk)])) tg → G tg := fun tg kt => pre203 tg (by
          show Steps p.tables e below (T200.setTop (mkF m 51 #[.val (.int p0), .val (.int p1), .val (.int p2), .val (.int p3), .val (.int p4), .val (.int p5), .val (.int zk), .val (.int zd), .val (.int zw), .val (.ref dg), .unset, .unset, .unset, .unset] [(.int zk)])) _
          refine XS.ifYes X200.here hx rfl (pc0 := 51) (pc' := 63) rfl (hb hby at_51) rfl ((if0 _ _).trans (feq hk0).2) (by decide) (by decide) ?_
          show Steps p.tables e below (T200.setTop (mkF m 63 #[.val (.int p0), .val (.int p1), .val (.int p2), .val (.int p3), .val (.int p4), .val (.int p5), .val (.int zk), .val (.int zd), .val (.int zw), .val (.ref dg), .unset, .unset, .unset, .unset] [])) _
          refine XS.iload X200.here hx rfl (hb hby at_63) rfl ?_
          show Steps p.tables e below (T200.setTop (mkF m 65 #[.val (.int p0), .val (.int p1), .val (.int p2), .val (.int p3), .val (.int p4), .val (.int p5), .val (.int zk), .val (.int zd), .val (.int zw), .val (.ref dg), .unset, .unset, .unset, .unset] [(.int zk)])) _
          refine XS.iconst X200.here hx rfl (hb hby at_65) ?_
          show Steps p.tables e below (T200.setTop (mkF m 66 #[.val (.int p0), .val (.int p1), .val (.int p2), .val (.int p3), .val (.int p4), .val (.int p5), .val (.int zk), .val (.int zd), .val (.int zw), .val (.ref dg), .unset, .unset, .unset, .unset] [(.int (1 : Int32)), (.int zk)])) _
          refine XS.icmpYes X200.here hx rfl (pc0 := 66) (pc' := 88) rfl (hb hby at_66) rfl (feq hk1).2 (by decide) (by decide) ?_
          show Steps p.tables e below (T200.setTop (mkF m 88 #[.val (.int p0), .val (.int p1), .val (.int p2), .val (.int p3), .val (.int p4), .val (.int p5), .val (.int zk), .val (.int zd), .val (.int zw), .val (.ref dg), .unset, .unset, .unset, .unset] [])) _
          refine XS.iload X200.here hx rfl (hb hby at_88) rfl ?_
          show Steps p.tables e below (T200.setTop (mkF m 90 #[.val (.int p0), .val (.int p1), .val (.int p2), .val (.int p3), .val (.int p4), .val (.int p5), .val (.int zk), .val (.int zd), .val (.int zw), .val (.ref dg), .unset, .unset, .unset, .unset] [(.int zk)])) _
          refine XS.iconst X200.here hx rfl (hb hby at_90) ?_
          exact kt)
        by_cases hk2 : zk = (2 : Int32)
        · -- hk2
          have pre224 : ∀ tg, Steps p.tables e below (T200.setTop (mkF m 98 #[.val (.int p0), .val (.int p1), .val (.int p2), .val (.int p3), .val (.int p4), .val (.int p5), .val (.int zk), .val (.int zd), .val (.int zw), .val (.ref dg), .unset, .unset, .unset, .unset] [(.int p4), (.int zw)])) tg → G tg := fun tg kt => pre223 tg (by
            show Steps p.tables e below (T200.setTop (mkF m 91 #[.val (.int p0), .val (.int p1), .val (.int p2), .val (.int p3), .val (.int p4), .val (.int p5), .val (.int zk), .val (.int zd), .val (.int zw), .val (.ref dg), .unset, .unset, .unset, .unset] [(.int (2 : Int32)), (.int zk)])) _
            refine XS.icmpNo X200.here hx rfl (hb hby at_91) rfl (teq hk2).2 ?_
            show Steps p.tables e below (T200.setTop (mkF m 94 #[.val (.int p0), .val (.int p1), .val (.int p2), .val (.int p3), .val (.int p4), .val (.int p5), .val (.int zk), .val (.int zd), .val (.int zw), .val (.ref dg), .unset, .unset, .unset, .unset] [])) _
            refine XS.iload X200.here hx rfl (hb hby at_94) rfl ?_
            show Steps p.tables e below (T200.setTop (mkF m 96 #[.val (.int p0), .val (.int p1), .val (.int p2), .val (.int p3), .val (.int p4), .val (.int p5), .val (.int zk), .val (.int zd), .val (.int zw), .val (.ref dg), .unset, .unset, .unset, .unset] [(.int zw)])) _
            refine XS.iload X200.here hx rfl (hb hby at_96) rfl ?_
            exact kt)
          obtain ⟨_, _, ⟨T225, L225, k225, n225⟩, -, X225, ⟨Lc225, hQ225, l225, y225, z225⟩, st225⟩ := Jvm.LawKit.callS X200 hx (y := (⟨"com/example/ringfence/ringfence/NumberPatternRankPinLaw", "str", "(II)Ljava/lang/String;"⟩ : MethodName)) hown (mvT hZ (hw _ (List.mem_of_getElem? (i := 1) rfl))) (mvT hZ (hw _ (List.mem_of_getElem? (i := 2) rfl))) (mvT hZ (hw _ (List.mem_of_getElem? (i := 3) rfl))) (mvT hZ (hw _ (List.mem_of_getElem? (i := 4) rfl))) (by decide) (backOf (W := 0) (rmSs l Z a0 hw [] zw p4 T200.heap n0 Z200 hs Ol202 (own_is3 hw3)) hZ (hw _ (List.mem_of_getElem? (i := 4) rfl)) (hw _ (List.mem_of_getElem? (i := 3) rfl)) (by decide) (by decide)) (g := (mkF m 98 #[.val (.int p0), .val (.int p1), .val (.int p2), .val (.int p3), .val (.int p4), .val (.int p5), .val (.int zk), .val (.int zd), .val (.int zw), .val (.ref dg), .unset, .unset, .unset, .unset] [(.int p4), (.int zw)])) rfl (by rw [hml]; rfl) (argsL := [(.int zw), (.int p4)]) (rest := []) (lenOf pd_10 rfl) rfl (by show 2 * 0 + _ ≤ _; exact Nat.le_of_eq rfl) (hb hby at_98) (fun _ _ => ⟨rfl, rfl, (Nat.le_of_ble_eq_true rfl), (Nat.le_of_ble_eq_true rfl)⟩)
          dsimp only [Pt.U, Pt.locs, Pt.cells, Pt.slots] at X225 l225 y225 z225 st225 hQ225
          subst l225 y225 z225
          obtain ⟨lo, rfl, N225q, K225, E_lo, Tx_lo⟩ := hQ225
          have N225 := Fr.app N200 N225q
          have pre225s : ∀ tg, Steps p.tables e below (T225.setTop (mkF m 101 #[.val (.int p0), .val (.int p1), .val (.int p2), .val (.int p3), .val (.int p4), .val (.int p5), .val (.int zk), .val (.int zd), .val (.int zw), .val (.ref dg), .unset, .unset, .unset, .unset] [(.ref lo)])) tg → G tg := fun tg kt => pre224 tg (st225 tg kt)
          have Z225 : n0 ≤ T225.heap.size := Nat.le_trans Z200 K225.1
          have ch226 := ch201.trans (CHr.keep K225 sf0 ch201.1)
          have hk226 := Nat.le_trans hk201 K225.1
          have E_dg_227 := E_dg.keep K225
          have C_dg_228 := C_dg.keep K225 nin0
          have F_dg_229 := F_dg.keep K225 nin0
          have V_dg_230 := V_dg.keep K225 nin0
          have Ol231 := Ol202.keep K225 all0
          obtain ⟨v_lo, k_lo, b_lo, C_lo, F_lo, V_lo⟩ := Tx_lo
          have pre232 : ∀ tg, Steps p.tables e below (T225.setTop (mkF m 105 #[.val (.int p0), .val (.int p1), .val (.int p2), .val (.int p3), .val (.int p4), .val (.int p5), .val (.int zk), .val (.int zd), .val (.int zw), .val (.ref dg), .val (.ref lo), .unset, .unset, .unset] [(.int zw)])) tg → G tg := fun tg kt => pre225s tg (by
            show Steps p.tables e below (T225.setTop (mkF m 101 #[.val (.int p0), .val (.int p1), .val (.int p2), .val (.int p3), .val (.int p4), .val (.int p5), .val (.int zk), .val (.int zd), .val (.int zw), .val (.ref dg), .unset, .unset, .unset, .unset] [(.ref lo)])) _
            refine XS.astore X225.here hx rfl (hb hby at_101) rfl rfl (l' := #[.val (.int p0), .val (.int p1), .val (.int p2), .val (.int p3), .val (.int p4), .val (.int p5), .val (.int zk), .val (.int zd), .val (.int zw), .val (.ref dg), .val (.ref lo), .unset, .unset, .unset]) rfl ?_
            show Steps p.tables e below (T225.setTop (mkF m 103 #[.val (.int p0), .val (.int p1), .val (.int p2), .val (.int p3), .val (.int p4), .val (.int p5), .val (.int zk), .val (.int zd), .val (.int zw), .val (.ref dg), .val (.ref lo), .unset, .unset, .unset] [])) _
            refine XS.iload X225.here hx rfl (hb hby at_103) rfl ?_
            exact kt)
          obtain ⟨_, _, ⟨T233, L233, k233, n233⟩, -, X233, ⟨Lc233, hQ233, l233, y233, z233⟩, st233⟩ := Jvm.LawKit.callS X225 hx (y := (⟨"com/example/ringfence/ringfence/NumberPatternRankPinLaw", "nines", "(I)Ljava/lang/String;"⟩ : MethodName)) hown (mvT hZ (hw _ (List.mem_of_getElem? (i := 41) rfl))) (mvT hZ (hw _ (List.mem_of_getElem? (i := 42) rfl))) (mvT hZ (hw _ (List.mem_of_getElem? (i := 3) rfl))) (mvT hZ (hw _ (List.mem_of_getElem? (i := 43) rfl))) (by decide) (backOf (W := 0) (rmNs l Z a0 hw [] zw T225.heap n0 Z225 hs Ol231 hw3) hZ (hw _ (List.mem_of_getElem? (i := 43) rfl)) (hw _ (List.mem_of_getElem? (i := 3) rfl)) (by decide) (by decide)) (g := (mkF m 105 #[.val (.int p0), .val (.int p1), .val (.int p2), .val (.int p3), .val (.int p4), .val (.int p5), .val (.int zk), .val (.int zd), .val (.int zw), .val (.ref dg), .val (.ref lo), .unset, .unset, .unset] [(.int zw)])) rfl (by rw [hml]; rfl) (argsL := [(.int zw)]) (rest := []) (lenOf pd_12 rfl) rfl (by show 2 * 0 + _ ≤ _; exact Nat.le_of_eq rfl) (hb hby at_105) (fun _ _ => ⟨rfl, rfl, (Nat.le_of_ble_eq_true rfl), (Nat.le_of_ble_eq_true rfl)⟩)
          dsimp only [Pt.U, Pt.locs, Pt.cells, Pt.slots] at X233 l233 y233 z233 st233 hQ233
          subst l233 y233 z233
          obtain ⟨hi, rfl, N233q, K233, E_hi, Tx_hi⟩ := hQ233
          have N233 := Fr.app N225 N233q
          have pre233s : ∀ tg, Steps p.tables e below (T233.setTop (mkF m 108 #[.val (.int p0), .val (.int p1), .val (.int p2), .val (.int p3), .val (.int p4), .val (.int p5), .val (.int zk), .val (.int zd), .val (.int zw), .val (.ref dg), .val (.ref lo), .unset, .unset, .unset] [(.ref hi)])) tg → G tg := fun tg kt => pre232 tg (st233 tg kt)
          have Z233 : n0 ≤ T233.heap.size := Nat.le_trans Z225 K233.1
          have ch234 := ch226.trans (CHr.keep K233 sf0 ch226.1)
          have hk234 := Nat.le_trans hk226 K233.1
          have E_dg_235 := E_dg_227.keep K233
          have C_dg_236 := C_dg_228.keep K233 nin0
          have F_dg_237 := F_dg_229.keep K233 nin0
          have V_dg_238 := V_dg_230.keep K233 nin0
          have E_lo_239 := E_lo.keep K233
          have C_lo_240 := C_lo.keep K233 nin0
          have F_lo_241 := F_lo.keep K233 nin0
          have V_lo_242 := V_lo.keep K233 nin0
          have Ol243 := Ol231.keep K233 all0
          obtain ⟨v_hi, k_hi, b_hi, C_hi, F_hi, V_hi⟩ := Tx_hi
          have pre244 : ∀ tg, Steps p.tables e below (T233.setTop (mkF m 127 #[.val (.int p0), .val (.int p1), .val (.int p2), .val (.int p3), .val (.int p4), .val (.int p5), .val (.int zk), .val (.int zd), .val (.int zw), .val (.ref dg), .val (.ref lo), .val (.ref hi), .unset, .unset] [])) tg → G tg := fun tg kt => pre233s tg (by
            show Steps p.tables e below (T233.setTop (mkF m 108 #[.val (.int p0), .val (.int p1), .val (.int p2), .val (.int p3), .val (.int p4), .val (.int p5), .val (.int zk), .val (.int zd), .val (.int zw), .val (.ref dg), .val (.ref lo), .unset, .unset, .unset] [(.ref hi)])) _
            refine XS.astore X233.here hx rfl (hb hby at_108) rfl rfl (l' := #[.val (.int p0), .val (.int p1), .val (.int p2), .val (.int p3), .val (.int p4), .val (.int p5), .val (.int zk), .val (.int zd), .val (.int zw), .val (.ref dg), .val (.ref lo), .val (.ref hi), .unset, .unset]) rfl ?_
            show Steps p.tables e below (T233.setTop (mkF m 110 #[.val (.int p0), .val (.int p1), .val (.int p2), .val (.int p3), .val (.int p4), .val (.int p5), .val (.int zk), .val (.int zd), .val (.int zw), .val (.ref dg), .val (.ref lo), .val (.ref hi), .unset, .unset] [])) _
            refine XS.goto X233.here hx rfl (pc0 := 110) (pc' := 127) rfl (hb hby at_110) (by decide) (by decide) ?_
            exact kt)
          obtain ⟨T245, h245, X245, e245, E245, A245, D245, -, st245⟩ := newO X233 hx hZ hown (hw _ (List.mem_of_getElem? (i := 44) rfl)) (hw _ (List.mem_of_getElem? (i := 45) rfl)) (hw _ (List.mem_of_getElem? (i := 46) rfl)) rfl (g := (mkF m 127 #[.val (.int p0), .val (.int p1), .val (.int p2), .val (.int p3), .val (.int p4), .val (.int p5), .val (.int zk), .val (.int zd), .val (.int zw), .val (.ref dg), .val (.ref lo), .val (.ref hi), .unset, .unset] [])) rfl (hb hby at_127) (by decide) (by decide)
          obtain ⟨np, g245⟩ : ∃ z, z = T233.heap.size := ⟨_, rfl⟩
          rw [← g245] at A245 D245 st245
          have O_np : n0 ≤ np := Nat.le_trans Z233 (Nat.le_of_eq g245.symm)
          have Z245 : n0 ≤ h245.size := Nat.le_trans Z233 E245.1
          have ne_dg_np : dg ≠ np := Nat.ne_of_lt (Nat.lt_of_lt_of_le E_dg_235.lt (Nat.le_of_eq g245.symm))
          have ne_v_dg_np : v_dg ≠ np := Nat.ne_of_lt (Nat.lt_of_lt_of_le V_dg_238.lt (Nat.le_of_eq g245.symm))
          have ne_lo_np : lo ≠ np := Nat.ne_of_lt (Nat.lt_of_lt_of_le E_lo_239.lt (Nat.le_of_eq g245.symm))
          have ne_v_lo_np : v_lo ≠ np := Nat.ne_of_lt (Nat.lt_of_lt_of_le V_lo_242.lt (Nat.le_of_eq g245.symm))
          have ne_hi_np : hi ≠ np := Nat.ne_of_lt (Nat.lt_of_lt_of_le E_hi.lt (Nat.le_of_eq g245.symm))
          have ne_v_hi_np : v_hi ≠ np := Nat.ne_of_lt (Nat.lt_of_lt_of_le V_hi.lt (Nat.le_of_eq g245.symm))
          have pre245s : ∀ tg, Steps p.tables e below (T245.setTop (mkF m 130 #[.val (.int p0), .val (.int p1), .val (.int p2), .val (.int p3), .val (.int p4), .val (.int p5), .val (.int zk), .val (.int zd), .val (.int zw), .val (.ref dg), .val (.ref lo), .val (.ref hi), .unset, .unset] [(.ref np)])) tg → G tg := fun tg kt => pre244 tg (st245 tg kt)
          have ch246 := ch234.trans (CHr.ext E245 ch234.1)
          have hk246 := Nat.le_trans hk234 E245.1
          have E_dg_247 := E_dg_235.ext E245
          have C_dg_248 := C_dg_236.ext E245
          have F_dg_249 := F_dg_237.ext E245
          have V_dg_250 := V_dg_238.ext E245
          have E_lo_251 := E_lo_239.ext E245
          have C_lo_252 := C_lo_240.ext E245
          have F_lo_253 := F_lo_241.ext E245
          have V_lo_254 := V_lo_242.ext E245
          have E_hi_255 := E_hi.ext E245
          have C_hi_256 := C_hi.ext E245
          have F_hi_257 := F_hi.ext E245
          have V_hi_258 := V_hi.ext E245
          have Ol259 := Ol243.ext E245
          have Fdigits_np : Fld Z h245 np "com/example/ringfence/ringfence/NumberPattern" "digits" "Ljava/lang/String;" .null := D245 (Or.inr (hw _ (List.mem_of_getElem? (i := 57) rfl))) (ty := (.object "java/lang/String")) (by decide)
          have Flow_np : Fld Z h245 np "com/example/ringfence/ringfence/NumberPattern" "low" "Ljava/lang/String;" .null := D245 (Or.inr (hw _ (List.mem_of_getElem? (i := 59) rfl))) (ty := (.object "java/lang/String")) (by decide)
          have Fhigh_np : Fld Z h245 np "com/example/ringfence/ringfence/NumberPattern" "high" "Ljava/lang/String;" .null := D245 (Or.inr (hw _ (List.mem_of_getElem? (i := 61) rfl))) (ty := (.object "java/lang/String")) (by decide)
          have pre260 : ∀ tg, Steps p.tables e below (T245.setTop (mkF m 137 #[.val (.int p0), .val (.int p1), .val (.int p2), .val (.int p3), .val (.int p4), .val (.int p5), .val (.int zk), .val (.int zd), .val (.int zw), .val (.ref dg), .val (.ref lo), .val (.ref hi), .unset, .unset] [(.ref hi), (.ref lo), (.ref dg), (.ref np), (.ref np)])) tg → G tg := fun tg kt => pre245s tg (by
            show Steps p.tables e below (T245.setTop (mkF m 130 #[.val (.int p0), .val (.int p1), .val (.int p2), .val (.int p3), .val (.int p4), .val (.int p5), .val (.int zk), .val (.int zd), .val (.int zw), .val (.ref dg), .val (.ref lo), .val (.ref hi), .unset, .unset] [(.ref np)])) _
            refine XS.dup X245.here hx rfl (hb hby at_130) rfl rfl ?_
            show Steps p.tables e below (T245.setTop (mkF m 131 #[.val (.int p0), .val (.int p1), .val (.int p2), .val (.int p3), .val (.int p4), .val (.int p5), .val (.int zk), .val (.int zd), .val (.int zw), .val (.ref dg), .val (.ref lo), .val (.ref hi), .unset, .unset] [(.ref np), (.ref np)])) _
            refine XS.aload X245.here hx rfl (hb hby at_131) rfl rfl ?_
            show Steps p.tables e below (T245.setTop (mkF m 133 #[.val (.int p0), .val (.int p1), .val (.int p2), .val (.int p3), .val (.int p4), .val (.int p5), .val (.int zk), .val (.int zd), .val (.int zw), .val (.ref dg), .val (.ref lo), .val (.ref hi), .unset, .unset] [(.ref dg), (.ref np), (.ref np)])) _
            refine XS.aload X245.here hx rfl (hb hby at_133) rfl rfl ?_
            show Steps p.tables e below (T245.setTop (mkF m 135 #[.val (.int p0), .val (.int p1), .val (.int p2), .val (.int p3), .val (.int p4), .val (.int p5), .val (.int zk), .val (.int zd), .val (.int zw), .val (.ref dg), .val (.ref lo), .val (.ref hi), .unset, .unset] [(.ref lo), (.ref dg), (.ref np), (.ref np)])) _
            refine XS.aload X245.here hx rfl (hb hby at_135) rfl rfl ?_
            exact kt)
          obtain ⟨_, _, ⟨T261, L261, k261, n261⟩, -, X261, ⟨Lc261, hQ261, l261, y261, z261⟩, st261⟩ := X245.specialBack hx (y := (⟨"com/example/ringfence/ringfence/NumberPattern", "<init>", "(Ljava/lang/String;Ljava/lang/String;Ljava/lang/String;)V"⟩ : MethodName)) rfl hown (mvT hZ (hw _ (List.mem_of_getElem? (i := 47) rfl))) (mvT hZ (hw _ (List.mem_of_getElem? (i := 48) rfl))) (mvT hZ (hw _ (List.mem_of_getElem? (i := 49) rfl))) (by decide) (backOf (W := 1) (rmP_r l Z a0 hw [] np dg lo hi h245 n0 Z245 A245 O_np Fdigits_np Flow_np Fhigh_np) hZ (hw _ (List.mem_of_getElem? (i := 49) rfl)) (hw _ (List.mem_of_getElem? (i := 46) rfl)) (by decide) (by decide)) (g := (mkF m 137 #[.val (.int p0), .val (.int p1), .val (.int p2), .val (.int p3), .val (.int p4), .val (.int p5), .val (.int zk), .val (.int zd), .val (.int zw), .val (.ref dg), .val (.ref lo), .val (.ref hi), .unset, .unset] [(.ref hi), (.ref lo), (.ref dg), (.ref np), (.ref np)])) rfl (by rw [hml]; rfl) (Steps.refl _) (a := np) (argsL := [(.ref dg), (.ref lo), (.ref hi)]) (rest := [(.ref np)]) (lenOf pd_11 rfl) rfl (by show 2 * 0 + _ ≤ _; exact Nat.le_of_eq rfl) (hb hby at_137) (fun _ _ => ⟨rfl, e245, (Nat.le_of_ble_eq_true rfl), (Nat.le_of_ble_eq_true rfl)⟩)
          dsimp only [Pt.U, Pt.locs, Pt.cells, Pt.slots] at X261 l261 y261 z261 st261 hQ261
          subst l261 y261 z261
          obtain ⟨rfl, N261q, K261, Fd, Fl⟩ := hQ261
          have N261 := Fr.app N233 N261q
          have pre261s : ∀ tg, Steps p.tables e below (T261.setTop (mkF m 140 #[.val (.int p0), .val (.int p1), .val (.int p2), .val (.int p3), .val (.int p4), .val (.int p5), .val (.int zk), .val (.int zd), .val (.int zw), .val (.ref dg), .val (.ref lo), .val (.ref hi), .unset, .unset] [(.ref np)])) tg → G tg := fun tg kt => pre260 tg (st261.trans kt)
          have Z261 : n0 ≤ T261.heap.size := Nat.le_trans Z245 K261.1
          have ch262 := ch246.trans (CHr.keep K261 (sfS (Safe.exa hZ.alike A245 (by decide) (by decide)) sf0) ch246.1)
          have hk262 := Nat.le_trans hk246 K261.1
          have E_dg_263 := E_dg_247.keep K261
          have C_dg_264 := C_dg_248.keep K261 (ninS ne_dg_np nin0)
          have F_dg_265 := F_dg_249.keep K261 (ninS ne_dg_np nin0)
          have V_dg_266 := V_dg_250.keep K261 (ninS ne_v_dg_np nin0)
          have E_lo_267 := E_lo_251.keep K261
          have C_lo_268 := C_lo_252.keep K261 (ninS ne_lo_np nin0)
          have F_lo_269 := F_lo_253.keep K261 (ninS ne_lo_np nin0)
          have V_lo_270 := V_lo_254.keep K261 (ninS ne_v_lo_np nin0)
          have E_hi_271 := E_hi_255.keep K261
          have C_hi_272 := C_hi_256.keep K261 (ninS ne_hi_np nin0)
          have F_hi_273 := F_hi_257.keep K261 (ninS ne_hi_np nin0)
          have V_hi_274 := V_hi_258.keep K261 (ninS ne_v_hi_np nin0)
          have A245_275 := A245.keep K261
          have Ol276 := Ol259.keep K261 (allS O_np all0)
          obtain ⟨cq277, kq277, q277a, q277b, q277c⟩ := isOf hZ rfl A245_275
          obtain ⟨_, _, ⟨T277, L277, k277, n277⟩, -, X277, ⟨Lc277, hQ277, l277, y277, z277⟩, st277⟩ := X261.virtualBack hx (y := (⟨"com/example/ringfence/ringfence/NumberPattern", "rank", "()I"⟩ : MethodName)) (z := (⟨"com/example/ringfence/ringfence/NumberPattern", "rank", "()I"⟩ : MethodName)) hown (mvT hZ (hw _ (List.mem_of_getElem? (i := 62) rfl))) (mvT hZ (hw _ (List.mem_of_getElem? (i := 63) rfl))) (notFace_of_selects (args := #[]) (mvT hZ (hw _ (List.mem_of_getElem? (i := 65) rfl)))) (mvT hZ (hw _ (List.mem_of_getElem? (i := 65) rfl))) (mvT hZ (hw _ (List.mem_of_getElem? (i := 64) rfl))) (by decide) (backOf (W := 0) (rmQ_s l Z a0 hw [] np dg v_dg k_dg zd b_dg lo v_lo k_lo zw b_lo T261.heap n0 Z261 hs Ol276 Fd Fl E_dg_263 C_dg_264 F_dg_265 V_dg_266 E_lo_267 F_lo_269 V_lo_270 (own_nz3 hw3)) hZ (hw _ (List.mem_of_getElem? (i := 66) rfl)) (hw _ (List.mem_of_getElem? (i := 46) rfl)) (by decide) (by decide)) q277a q277c (g := (mkF m 140 #[.val (.int p0), .val (.int p1), .val (.int p2), .val (.int p3), .val (.int p4), .val (.int p5), .val (.int zk), .val (.int zd), .val (.int zw), .val (.ref dg), .val (.ref lo), .val (.ref hi), .unset, .unset] [(.ref np)])) rfl (by rw [hml]; rfl) (Steps.refl _) (argsL := []) (rest := []) (lenOf pd_8 rfl) rfl (by show 2 * 0 + _ ≤ _; exact Nat.le_of_eq rfl) (hb hby at_140) (fun _ _ => ⟨rfl, rfl, (Nat.le_of_ble_eq_true rfl), (Nat.le_of_ble_eq_true rfl)⟩)
          dsimp only [Pt.U, Pt.locs, Pt.cells, Pt.slots] at X277 l277 y277 z277 st277 hQ277
          subst l277 y277 z277
          obtain ⟨rfl, N277q, e277⟩ := hQ277
          have N277 := Fr.app N261 N277q
          have pre277s : ∀ tg, Steps p.tables e below (T277.setTop (mkF m 143 #[.val (.int p0), .val (.int p1), .val (.int p2), .val (.int p3), .val (.int p4), .val (.int p5), .val (.int zk), .val (.int zd), .val (.int zw), .val (.ref dg), .val (.ref lo), .val (.ref hi), .unset, .unset] [(.int zd)])) tg → G tg := fun tg kt => pre261s tg (st277.trans kt)
          have pre278 : ∀ tg, Steps p.tables e below (T277.setTop (mkF m 172 #[.val (.int p0), .val (.int p1), .val (.int p2), .val (.int p3), .val (.int p4), .val (.int p5), .val (.int zk), .val (.int zd), .val (.int zw), .val (.ref dg), .val (.ref lo), .val (.ref hi), .val (.int zd), .val (.int zd)] [(.int (1 : Int32))])) tg → G tg := fun tg kt => pre277s tg (by
            show Steps p.tables e below (T277.setTop (mkF m 143 #[.val (.int p0), .val (.int p1), .val (.int p2), .val (.int p3), .val (.int p4), .val (.int p5), .val (.int zk), .val (.int zd), .val (.int zw), .val (.ref dg), .val (.ref lo), .val (.ref hi), .unset, .unset] [(.int zd)])) _
            refine XS.istore X277.here hx rfl (hb hby at_143) rfl (l' := #[.val (.int p0), .val (.int p1), .val (.int p2), .val (.int p3), .val (.int p4), .val (.int p5), .val (.int zk), .val (.int zd), .val (.int zw), .val (.ref dg), .val (.ref lo), .val (.ref hi), .val (.int zd), .unset]) rfl ?_
            show Steps p.tables e below (T277.setTop (mkF m 145 #[.val (.int p0), .val (.int p1), .val (.int p2), .val (.int p3), .val (.int p4), .val (.int p5), .val (.int zk), .val (.int zd), .val (.int zw), .val (.ref dg), .val (.ref lo), .val (.ref hi), .val (.int zd), .unset] [])) _
            refine XS.iload X277.here hx rfl (hb hby at_145) rfl ?_
            show Steps p.tables e below (T277.setTop (mkF m 147 #[.val (.int p0), .val (.int p1), .val (.int p2), .val (.int p3), .val (.int p4), .val (.int p5), .val (.int zk), .val (.int zd), .val (.int zw), .val (.ref dg), .val (.ref lo), .val (.ref hi), .val (.int zd), .unset] [(.int zk)])) _
            refine XS.iconst X277.here hx rfl (hb hby at_147) ?_
            show Steps p.tables e below (T277.setTop (mkF m 148 #[.val (.int p0), .val (.int p1), .val (.int p2), .val (.int p3), .val (.int p4), .val (.int p5), .val (.int zk), .val (.int zd), .val (.int zw), .val (.ref dg), .val (.ref lo), .val (.ref hi), .val (.int zd), .unset] [(.int (1 : Int32)), (.int zk)])) _
            refine XS.icmpYes X277.here hx rfl (pc0 := 148) (pc' := 156) rfl (hb hby at_148) rfl (feq hk1).2 (by decide) (by decide) ?_
            show Steps p.tables e below (T277.setTop (mkF m 156 #[.val (.int p0), .val (.int p1), .val (.int p2), .val (.int p3), .val (.int p4), .val (.int p5), .val (.int zk), .val (.int zd), .val (.int zw), .val (.ref dg), .val (.ref lo), .val (.ref hi), .val (.int zd), .unset] [])) _
            refine XS.iload X277.here hx rfl (hb hby at_156) rfl ?_
            show Steps p.tables e below (T277.setTop (mkF m 158 #[.val (.int p0), .val (.int p1), .val (.int p2), .val (.int p3), .val (.int p4), .val (.int p5), .val (.int zk), .val (.int zd), .val (.int zw), .val (.ref dg), .val (.ref lo), .val (.ref hi), .val (.int zd), .unset] [(.int zd)])) _
            refine XS.istore X277.here hx rfl (hb hby at_158) rfl (l' := #[.val (.int p0), .val (.int p1), .val (.int p2), .val (.int p3), .val (.int p4), .val (.int p5), .val (.int zk), .val (.int zd), .val (.int zw), .val (.ref dg), .val (.ref lo), .val (.ref hi), .val (.int zd), .val (.int zd)]) rfl ?_
            show Steps p.tables e below (T277.setTop (mkF m 160 #[.val (.int p0), .val (.int p1), .val (.int p2), .val (.int p3), .val (.int p4), .val (.int p5), .val (.int zk), .val (.int zd), .val (.int zw), .val (.ref dg), .val (.ref lo), .val (.ref hi), .val (.int zd), .val (.int zd)] [])) _
            refine XS.iload X277.here hx rfl (hb hby at_160) rfl ?_
            show Steps p.tables e below (T277.setTop (mkF m 162 #[.val (.int p0), .val (.int p1), .val (.int p2), .val (.int p3), .val (.int p4), .val (.int p5), .val (.int zk), .val (.int zd), .val (.int zw), .val (.ref dg), .val (.ref lo), .val (.ref hi), .val (.int zd), .val (.int zd)] [(.int zd)])) _
            refine XS.iload X277.here hx rfl (hb hby at_162) rfl ?_
            show Steps p.tables e below (T277.setTop (mkF m 164 #[.val (.int p0), .val (.int p1), .val (.int p2), .val (.int p3), .val (.int p4), .val (.int p5), .val (.int zk), .val (.int zd), .val (.int zw), .val (.ref dg), .val (.ref lo), .val (.ref hi), .val (.int zd), .val (.int zd)] [(.int zd), (.int zd)])) _
            refine XS.icmpNo X277.here hx rfl (hb hby at_164) rfl (teq rfl).2 ?_
            show Steps p.tables e below (T277.setTop (mkF m 167 #[.val (.int p0), .val (.int p1), .val (.int p2), .val (.int p3), .val (.int p4), .val (.int p5), .val (.int zk), .val (.int zd), .val (.int zw), .val (.ref dg), .val (.ref lo), .val (.ref hi), .val (.int zd), .val (.int zd)] [])) _
            refine XS.iconst X277.here hx rfl (hb hby at_167) ?_
            show Steps p.tables e below (T277.setTop (mkF m 168 #[.val (.int p0), .val (.int p1), .val (.int p2), .val (.int p3), .val (.int p4), .val (.int p5), .val (.int zk), .val (.int zd), .val (.int zw), .val (.ref dg), .val (.ref lo), .val (.ref hi), .val (.int zd), .val (.int zd)] [(.int (1 : Int32))])) _
            refine XS.goto X277.here hx rfl (pc0 := 168) (pc' := 172) rfl (hb hby at_168) (by decide) (by decide) ?_
            exact kt)
          obtain ⟨fs, hr, hrun, hended, hRE⟩ := X277.leaveW (s := s) (vm₁ := s.vm) (v := some (.int (1 : Int32))) hS (by rw [e277]; exact hk262) (fun h => by rw [Bd.returns] at h; cases h)
          have chL := ch262.trans (CHv.at (s := s) (vm0 := s.vm) X277 hZ hEL ch262.1)
          subst hG
          refine ⟨_, _, pre278 _ ?_, hrun, hended, _, _, rfl, ?_, ?_, hRE.1, hRE.2.1, hRE.2.2.1, hRE.2.2.2.mono (by decide) (by decide)⟩
          · skip
            show Steps p.tables e below (T277.setTop (mkF m 172 #[.val (.int p0), .val (.int p1), .val (.int p2), .val (.int p3), .val (.int p4), .val (.int p5), .val (.int zk), .val (.int zd), .val (.int zw), .val (.ref dg), .val (.ref lo), .val (.ref hi), .val (.int zd), .val (.int zd)] [(.int (1 : Int32))])) _
            exact retN X277 hx (t := .boolean) Bd.returns (by simp) (hb hby at_172) hr
          · show Q_rm0 Z p0 p1 p2 p3 p4 p5 h0 n0 _ T277.heap _
            rw [e277]
            exact ⟨rfl, N277⟩
          · show CHr Z own_EL s.vm s.heap T277.vm T277.heap
            rw [hh, e277]; exact chL
        · -- not hk2
          have pre279 : ∀ tg, Steps p.tables e below (T200.setTop (mkF m 115 #[.val (.int p0), .val (.int p1), .val (.int p2), .val (.int p3), .val (.int p4), .val (.int p5), .val (.int zk), .val (.int zd), .val (.int zw), .val (.ref dg), .unset, .unset, .unset, .unset] [(.int zw)])) tg → G tg := fun tg kt => pre223 tg (by
            show Steps p.tables e below (T200.setTop (mkF m 91 #[.val (.int p0), .val (.int p1), .val (.int p2), .val (.int p3), .val (.int p4), .val (.int p5), .val (.int zk), .val (.int zd), .val (.int zw), .val (.ref dg), .unset, .unset, .unset, .unset] [(.int (2 : Int32)), (.int zk)])) _
            refine XS.icmpYes X200.here hx rfl (pc0 := 91) (pc' := 113) rfl (hb hby at_91) rfl (feq hk2).2 (by decide) (by decide) ?_
            show Steps p.tables e below (T200.setTop (mkF m 113 #[.val (.int p0), .val (.int p1), .val (.int p2), .val (.int p3), .val (.int p4), .val (.int p5), .val (.int zk), .val (.int zd), .val (.int zw), .val (.ref dg), .unset, .unset, .unset, .unset] [])) _
            refine XS.iload X200.here hx rfl (hb hby at_113) rfl ?_
            exact kt)
          obtain ⟨_, _, ⟨T280, L280, k280, n280⟩, -, X280, ⟨Lc280, hQ280, l280, y280, z280⟩, st280⟩ := Jvm.LawKit.callS X200 hx (y := (⟨"com/example/ringfence/ringfence/NumberPatternRankPinLaw", "zeros", "(I)Ljava/lang/String;"⟩ : MethodName)) hown (mvT hZ (hw _ (List.mem_of_getElem? (i := 82) rfl))) (mvT hZ (hw _ (List.mem_of_getElem? (i := 83) rfl))) (mvT hZ (hw _ (List.mem_of_getElem? (i := 3) rfl))) (mvT hZ (hw _ (List.mem_of_getElem? (i := 84) rfl))) (by decide) (backOf (W := 0) (rmZs l Z a0 hw [] zw T200.heap n0 Z200 hs Ol202 hw3) hZ (hw _ (List.mem_of_getElem? (i := 84) rfl)) (hw _ (List.mem_of_getElem? (i := 3) rfl)) (by decide) (by decide)) (g := (mkF m 115 #[.val (.int p0), .val (.int p1), .val (.int p2), .val (.int p3), .val (.int p4), .val (.int p5), .val (.int zk), .val (.int zd), .val (.int zw), .val (.ref dg), .unset, .unset, .unset, .unset] [(.int zw)])) rfl (by rw [hml]; rfl) (argsL := [(.int zw)]) (rest := []) (lenOf pd_12 rfl) rfl (by show 2 * 0 + _ ≤ _; exact Nat.le_of_eq rfl) (hb hby at_115) (fun _ _ => ⟨rfl, rfl, (Nat.le_of_ble_eq_true rfl), (Nat.le_of_ble_eq_true rfl)⟩)
          dsimp only [Pt.U, Pt.locs, Pt.cells, Pt.slots] at X280 l280 y280 z280 st280 hQ280
          subst l280 y280 z280
          obtain ⟨lo, rfl, N280q, K280, E_lo, Tx_lo⟩ := hQ280
          have N280 := Fr.app N200 N280q
          have pre280s : ∀ tg, Steps p.tables e below (T280.setTop (mkF m 118 #[.val (.int p0), .val (.int p1), .val (.int p2), .val (.int p3), .val (.int p4), .val (.int p5), .val (.int zk), .val (.int zd), .val (.int zw), .val (.ref dg), .unset, .unset, .unset, .unset] [(.ref lo)])) tg → G tg := fun tg kt => pre279 tg (st280 tg kt)
          have Z280 : n0 ≤ T280.heap.size := Nat.le_trans Z200 K280.1
          have ch281 := ch201.trans (CHr.keep K280 sf0 ch201.1)
          have hk281 := Nat.le_trans hk201 K280.1
          have E_dg_282 := E_dg.keep K280
          have C_dg_283 := C_dg.keep K280 nin0
          have F_dg_284 := F_dg.keep K280 nin0
          have V_dg_285 := V_dg.keep K280 nin0
          have Ol286 := Ol202.keep K280 all0
          obtain ⟨v_lo, k_lo, b_lo, C_lo, F_lo, V_lo⟩ := Tx_lo
          have pre287 : ∀ tg, Steps p.tables e below (T280.setTop (mkF m 122 #[.val (.int p0), .val (.int p1), .val (.int p2), .val (.int p3), .val (.int p4), .val (.int p5), .val (.int zk), .val (.int zd), .val (.int zw), .val (.ref dg), .val (.ref lo), .unset, .unset, .unset] [(.int zw)])) tg → G tg := fun tg kt => pre280s tg (by
            show Steps p.tables e below (T280.setTop (mkF m 118 #[.val (.int p0), .val (.int p1), .val (.int p2), .val (.int p3), .val (.int p4), .val (.int p5), .val (.int zk), .val (.int zd), .val (.int zw), .val (.ref dg), .unset, .unset, .unset, .unset] [(.ref lo)])) _
            refine XS.astore X280.here hx rfl (hb hby at_118) rfl rfl (l' := #[.val (.int p0), .val (.int p1), .val (.int p2), .val (.int p3), .val (.int p4), .val (.int p5), .val (.int zk), .val (.int zd), .val (.int zw), .val (.ref dg), .val (.ref lo), .unset, .unset, .unset]) rfl ?_
            show Steps p.tables e below (T280.setTop (mkF m 120 #[.val (.int p0), .val (.int p1), .val (.int p2), .val (.int p3), .val (.int p4), .val (.int p5), .val (.int zk), .val (.int zd), .val (.int zw), .val (.ref dg), .val (.ref lo), .unset, .unset, .unset] [])) _
            refine XS.iload X280.here hx rfl (hb hby at_120) rfl ?_
            exact kt)
          obtain ⟨_, _, ⟨T288, L288, k288, n288⟩, -, X288, ⟨Lc288, hQ288, l288, y288, z288⟩, st288⟩ := Jvm.LawKit.callS X280 hx (y := (⟨"com/example/ringfence/ringfence/NumberPatternRankPinLaw", "nines", "(I)Ljava/lang/String;"⟩ : MethodName)) hown (mvT hZ (hw _ (List.mem_of_getElem? (i := 41) rfl))) (mvT hZ (hw _ (List.mem_of_getElem? (i := 42) rfl))) (mvT hZ (hw _ (List.mem_of_getElem? (i := 3) rfl))) (mvT hZ (hw _ (List.mem_of_getElem? (i := 43) rfl))) (by decide) (backOf (W := 0) (rmNs l Z a0 hw [] zw T280.heap n0 Z280 hs Ol286 hw3) hZ (hw _ (List.mem_of_getElem? (i := 43) rfl)) (hw _ (List.mem_of_getElem? (i := 3) rfl)) (by decide) (by decide)) (g := (mkF m 122 #[.val (.int p0), .val (.int p1), .val (.int p2), .val (.int p3), .val (.int p4), .val (.int p5), .val (.int zk), .val (.int zd), .val (.int zw), .val (.ref dg), .val (.ref lo), .unset, .unset, .unset] [(.int zw)])) rfl (by rw [hml]; rfl) (argsL := [(.int zw)]) (rest := []) (lenOf pd_12 rfl) rfl (by show 2 * 0 + _ ≤ _; exact Nat.le_of_eq rfl) (hb hby at_122) (fun _ _ => ⟨rfl, rfl, (Nat.le_of_ble_eq_true rfl), (Nat.le_of_ble_eq_true rfl)⟩)
          dsimp only [Pt.U, Pt.locs, Pt.cells, Pt.slots] at X288 l288 y288 z288 st288 hQ288
          subst l288 y288 z288
          obtain ⟨hi, rfl, N288q, K288, E_hi, Tx_hi⟩ := hQ288
          have N288 := Fr.app N280 N288q
          have pre288s : ∀ tg, Steps p.tables e below (T288.setTop (mkF m 125 #[.val (.int p0), .val (.int p1), .val (.int p2), .val (.int p3), .val (.int p4), .val (.int p5), .val (.int zk), .val (.int zd), .val (.int zw), .val (.ref dg), .val (.ref lo), .unset, .unset, .unset] [(.ref hi)])) tg → G tg := fun tg kt => pre287 tg (st288 tg kt)
          have Z288 : n0 ≤ T288.heap.size := Nat.le_trans Z280 K288.1
          have ch289 := ch281.trans (CHr.keep K288 sf0 ch281.1)
          have hk289 := Nat.le_trans hk281 K288.1
          have E_dg_290 := E_dg_282.keep K288
          have C_dg_291 := C_dg_283.keep K288 nin0
          have F_dg_292 := F_dg_284.keep K288 nin0
          have V_dg_293 := V_dg_285.keep K288 nin0
          have E_lo_294 := E_lo.keep K288
          have C_lo_295 := C_lo.keep K288 nin0
          have F_lo_296 := F_lo.keep K288 nin0
          have V_lo_297 := V_lo.keep K288 nin0
          have Ol298 := Ol286.keep K288 all0
          obtain ⟨v_hi, k_hi, b_hi, C_hi, F_hi, V_hi⟩ := Tx_hi
          have pre299 : ∀ tg, Steps p.tables e below (T288.setTop (mkF m 127 #[.val (.int p0), .val (.int p1), .val (.int p2), .val (.int p3), .val (.int p4), .val (.int p5), .val (.int zk), .val (.int zd), .val (.int zw), .val (.ref dg), .val (.ref lo), .val (.ref hi), .unset, .unset] [])) tg → G tg := fun tg kt => pre288s tg (by
            show Steps p.tables e below (T288.setTop (mkF m 125 #[.val (.int p0), .val (.int p1), .val (.int p2), .val (.int p3), .val (.int p4), .val (.int p5), .val (.int zk), .val (.int zd), .val (.int zw), .val (.ref dg), .val (.ref lo), .unset, .unset, .unset] [(.ref hi)])) _
            refine XS.astore X288.here hx rfl (hb hby at_125) rfl rfl (l' := #[.val (.int p0), .val (.int p1), .val (.int p2), .val (.int p3), .val (.int p4), .val (.int p5), .val (.int zk), .val (.int zd), .val (.int zw), .val (.ref dg), .val (.ref lo), .val (.ref hi), .unset, .unset]) rfl ?_
            exact kt)
          obtain ⟨T300, h300, X300, e300, E300, A300, D300, -, st300⟩ := newO X288 hx hZ hown (hw _ (List.mem_of_getElem? (i := 44) rfl)) (hw _ (List.mem_of_getElem? (i := 45) rfl)) (hw _ (List.mem_of_getElem? (i := 46) rfl)) rfl (g := (mkF m 127 #[.val (.int p0), .val (.int p1), .val (.int p2), .val (.int p3), .val (.int p4), .val (.int p5), .val (.int zk), .val (.int zd), .val (.int zw), .val (.ref dg), .val (.ref lo), .val (.ref hi), .unset, .unset] [])) rfl (hb hby at_127) (by decide) (by decide)
          obtain ⟨np, g300⟩ : ∃ z, z = T288.heap.size := ⟨_, rfl⟩
          rw [← g300] at A300 D300 st300
          have O_np : n0 ≤ np := Nat.le_trans Z288 (Nat.le_of_eq g300.symm)
          have Z300 : n0 ≤ h300.size := Nat.le_trans Z288 E300.1
          have ne_dg_np : dg ≠ np := Nat.ne_of_lt (Nat.lt_of_lt_of_le E_dg_290.lt (Nat.le_of_eq g300.symm))
          have ne_v_dg_np : v_dg ≠ np := Nat.ne_of_lt (Nat.lt_of_lt_of_le V_dg_293.lt (Nat.le_of_eq g300.symm))
          have ne_lo_np : lo ≠ np := Nat.ne_of_lt (Nat.lt_of_lt_of_le E_lo_294.lt (Nat.le_of_eq g300.symm))
          have ne_v_lo_np : v_lo ≠ np := Nat.ne_of_lt (Nat.lt_of_lt_of_le V_lo_297.lt (Nat.le_of_eq g300.symm))
          have ne_hi_np : hi ≠ np := Nat.ne_of_lt (Nat.lt_of_lt_of_le E_hi.lt (Nat.le_of_eq g300.symm))
          have ne_v_hi_np : v_hi ≠ np := Nat.ne_of_lt (Nat.lt_of_lt_of_le V_hi.lt (Nat.le_of_eq g300.symm))
          have pre300s : ∀ tg, Steps p.tables e below (T300.setTop (mkF m 130 #[.val (.int p0), .val (.int p1), .val (.int p2), .val (.int p3), .val (.int p4), .val (.int p5), .val (.int zk), .val (.int zd), .val (.int zw), .val (.ref dg), .val (.ref lo), .val (.ref hi), .unset, .unset] [(.ref np)])) tg → G tg := fun tg kt => pre299 tg (st300 tg kt)
          have ch301 := ch289.trans (CHr.ext E300 ch289.1)
          have hk301 := Nat.le_trans hk289 E300.1
          have E_dg_302 := E_dg_290.ext E300
          have C_dg_303 := C_dg_291.ext E300
          have F_dg_304 := F_dg_292.ext E300
          have V_dg_305 := V_dg_293.ext E300
          have E_lo_306 := E_lo_294.ext E300
          have C_lo_307 := C_lo_295.ext E300
          have F_lo_308 := F_lo_296.ext E300
          have V_lo_309 := V_lo_297.ext E300
          have E_hi_310 := E_hi.ext E300
          have C_hi_311 := C_hi.ext E300
          have F_hi_312 := F_hi.ext E300
          have V_hi_313 := V_hi.ext E300
          have Ol314 := Ol298.ext E300
          have Fdigits_np : Fld Z h300 np "com/example/ringfence/ringfence/NumberPattern" "digits" "Ljava/lang/String;" .null := D300 (Or.inr (hw _ (List.mem_of_getElem? (i := 57) rfl))) (ty := (.object "java/lang/String")) (by decide)
          have Flow_np : Fld Z h300 np "com/example/ringfence/ringfence/NumberPattern" "low" "Ljava/lang/String;" .null := D300 (Or.inr (hw _ (List.mem_of_getElem? (i := 59) rfl))) (ty := (.object "java/lang/String")) (by decide)
          have Fhigh_np : Fld Z h300 np "com/example/ringfence/ringfence/NumberPattern" "high" "Ljava/lang/String;" .null := D300 (Or.inr (hw _ (List.mem_of_getElem? (i := 61) rfl))) (ty := (.object "java/lang/String")) (by decide)
          have pre315 : ∀ tg, Steps p.tables e below (T300.setTop (mkF m 137 #[.val (.int p0), .val (.int p1), .val (.int p2), .val (.int p3), .val (.int p4), .val (.int p5), .val (.int zk), .val (.int zd), .val (.int zw), .val (.ref dg), .val (.ref lo), .val (.ref hi), .unset, .unset] [(.ref hi), (.ref lo), (.ref dg), (.ref np), (.ref np)])) tg → G tg := fun tg kt => pre300s tg (by
            show Steps p.tables e below (T300.setTop (mkF m 130 #[.val (.int p0), .val (.int p1), .val (.int p2), .val (.int p3), .val (.int p4), .val (.int p5), .val (.int zk), .val (.int zd), .val (.int zw), .val (.ref dg), .val (.ref lo), .val (.ref hi), .unset, .unset] [(.ref np)])) _
            refine XS.dup X300.here hx rfl (hb hby at_130) rfl rfl ?_
            show Steps p.tables e below (T300.setTop (mkF m 131 #[.val (.int p0), .val (.int p1), .val (.int p2), .val (.int p3), .val (.int p4), .val (.int p5), .val (.int zk), .val (.int zd), .val (.int zw), .val (.ref dg), .val (.ref lo), .val (.ref hi), .unset, .unset] [(.ref np), (.ref np)])) _
            refine XS.aload X300.here hx rfl (hb hby at_131) rfl rfl ?_
            show Steps p.tables e below (T300.setTop (mkF m 133 #[.val (.int p0), .val (.int p1), .val (.int p2), .val (.int p3), .val (.int p4), .val (.int p5), .val (.int zk), .val (.int zd), .val (.int zw), .val (.ref dg), .val (.ref lo), .val (.ref hi), .unset, .unset] [(.ref dg), (.ref np), (.ref np)])) _
            refine XS.aload X300.here hx rfl (hb hby at_133) rfl rfl ?_
            show Steps p.tables e below (T300.setTop (mkF m 135 #[.val (.int p0), .val (.int p1), .val (.int p2), .val (.int p3), .val (.int p4), .val (.int p5), .val (.int zk), .val (.int zd), .val (.int zw), .val (.ref dg), .val (.ref lo), .val (.ref hi), .unset, .unset] [(.ref lo), (.ref dg), (.ref np), (.ref np)])) _
            refine XS.aload X300.here hx rfl (hb hby at_135) rfl rfl ?_
            exact kt)
          obtain ⟨_, _, ⟨T316, L316, k316, n316⟩, -, X316, ⟨Lc316, hQ316, l316, y316, z316⟩, st316⟩ := X300.specialBack hx (y := (⟨"com/example/ringfence/ringfence/NumberPattern", "<init>", "(Ljava/lang/String;Ljava/lang/String;Ljava/lang/String;)V"⟩ : MethodName)) rfl hown (mvT hZ (hw _ (List.mem_of_getElem? (i := 47) rfl))) (mvT hZ (hw _ (List.mem_of_getElem? (i := 48) rfl))) (mvT hZ (hw _ (List.mem_of_getElem? (i := 49) rfl))) (by decide) (backOf (W := 1) (rmP_r l Z a0 hw [] np dg lo hi h300 n0 Z300 A300 O_np Fdigits_np Flow_np Fhigh_np) hZ (hw _ (List.mem_of_getElem? (i := 49) rfl)) (hw _ (List.mem_of_getElem? (i := 46) rfl)) (by decide) (by decide)) (g := (mkF m 137 #[.val (.int p0), .val (.int p1), .val (.int p2), .val (.int p3), .val (.int p4), .val (.int p5), .val (.int zk), .val (.int zd), .val (.int zw), .val (.ref dg), .val (.ref lo), .val (.ref hi), .unset, .unset] [(.ref hi), (.ref lo), (.ref dg), (.ref np), (.ref np)])) rfl (by rw [hml]; rfl) (Steps.refl _) (a := np) (argsL := [(.ref dg), (.ref lo), (.ref hi)]) (rest := [(.ref np)]) (lenOf pd_11 rfl) rfl (by show 2 * 0 + _ ≤ _; exact Nat.le_of_eq rfl) (hb hby at_137) (fun _ _ => ⟨rfl, e300, (Nat.le_of_ble_eq_true rfl), (Nat.le_of_ble_eq_true rfl)⟩)
          dsimp only [Pt.U, Pt.locs, Pt.cells, Pt.slots] at X316 l316 y316 z316 st316 hQ316
          subst l316 y316 z316
          obtain ⟨rfl, N316q, K316, Fd, Fl⟩ := hQ316
          have N316 := Fr.app N288 N316q
          have pre316s : ∀ tg, Steps p.tables e below (T316.setTop (mkF m 140 #[.val (.int p0), .val (.int p1), .val (.int p2), .val (.int p3), .val (.int p4), .val (.int p5), .val (.int zk), .val (.int zd), .val (.int zw), .val (.ref dg), .val (.ref lo), .val (.ref hi), .unset, .unset] [(.ref np)])) tg → G tg := fun tg kt => pre315 tg (st316.trans kt)
          have Z316 : n0 ≤ T316.heap.size := Nat.le_trans Z300 K316.1
          have ch317 := ch301.trans (CHr.keep K316 (sfS (Safe.exa hZ.alike A300 (by decide) (by decide)) sf0) ch301.1)
          have hk317 := Nat.le_trans hk301 K316.1
          have E_dg_318 := E_dg_302.keep K316
          have C_dg_319 := C_dg_303.keep K316 (ninS ne_dg_np nin0)
          have F_dg_320 := F_dg_304.keep K316 (ninS ne_dg_np nin0)
          have V_dg_321 := V_dg_305.keep K316 (ninS ne_v_dg_np nin0)
          have E_lo_322 := E_lo_306.keep K316
          have C_lo_323 := C_lo_307.keep K316 (ninS ne_lo_np nin0)
          have F_lo_324 := F_lo_308.keep K316 (ninS ne_lo_np nin0)
          have V_lo_325 := V_lo_309.keep K316 (ninS ne_v_lo_np nin0)
          have E_hi_326 := E_hi_310.keep K316
          have C_hi_327 := C_hi_311.keep K316 (ninS ne_hi_np nin0)
          have F_hi_328 := F_hi_312.keep K316 (ninS ne_hi_np nin0)
          have V_hi_329 := V_hi_313.keep K316 (ninS ne_v_hi_np nin0)
          have A300_330 := A300.keep K316
          have Ol331 := Ol314.keep K316 (allS O_np all0)
          obtain ⟨cq332, kq332, q332a, q332b, q332c⟩ := isOf hZ rfl A300_330
          obtain ⟨_, _, ⟨T332, L332, k332, n332⟩, -, X332, ⟨Lc332, hQ332, l332, y332, z332⟩, st332⟩ := X316.virtualBack hx (y := (⟨"com/example/ringfence/ringfence/NumberPattern", "rank", "()I"⟩ : MethodName)) (z := (⟨"com/example/ringfence/ringfence/NumberPattern", "rank", "()I"⟩ : MethodName)) hown (mvT hZ (hw _ (List.mem_of_getElem? (i := 62) rfl))) (mvT hZ (hw _ (List.mem_of_getElem? (i := 63) rfl))) (notFace_of_selects (args := #[]) (mvT hZ (hw _ (List.mem_of_getElem? (i := 65) rfl)))) (mvT hZ (hw _ (List.mem_of_getElem? (i := 65) rfl))) (mvT hZ (hw _ (List.mem_of_getElem? (i := 64) rfl))) (by decide) (backOf (W := 0) (rmQ_s l Z a0 hw [] np dg v_dg k_dg zd b_dg lo v_lo k_lo zw b_lo T316.heap n0 Z316 hs Ol331 Fd Fl E_dg_318 C_dg_319 F_dg_320 V_dg_321 E_lo_322 F_lo_324 V_lo_325 (own_nz3 hw3)) hZ (hw _ (List.mem_of_getElem? (i := 66) rfl)) (hw _ (List.mem_of_getElem? (i := 46) rfl)) (by decide) (by decide)) q332a q332c (g := (mkF m 140 #[.val (.int p0), .val (.int p1), .val (.int p2), .val (.int p3), .val (.int p4), .val (.int p5), .val (.int zk), .val (.int zd), .val (.int zw), .val (.ref dg), .val (.ref lo), .val (.ref hi), .unset, .unset] [(.ref np)])) rfl (by rw [hml]; rfl) (Steps.refl _) (argsL := []) (rest := []) (lenOf pd_8 rfl) rfl (by show 2 * 0 + _ ≤ _; exact Nat.le_of_eq rfl) (hb hby at_140) (fun _ _ => ⟨rfl, rfl, (Nat.le_of_ble_eq_true rfl), (Nat.le_of_ble_eq_true rfl)⟩)
          dsimp only [Pt.U, Pt.locs, Pt.cells, Pt.slots] at X332 l332 y332 z332 st332 hQ332
          subst l332 y332 z332
          obtain ⟨rfl, N332q, e332⟩ := hQ332
          have N332 := Fr.app N316 N332q
          have pre332s : ∀ tg, Steps p.tables e below (T332.setTop (mkF m 143 #[.val (.int p0), .val (.int p1), .val (.int p2), .val (.int p3), .val (.int p4), .val (.int p5), .val (.int zk), .val (.int zd), .val (.int zw), .val (.ref dg), .val (.ref lo), .val (.ref hi), .unset, .unset] [(.int zd)])) tg → G tg := fun tg kt => pre316s tg (st332.trans kt)
          have pre333 : ∀ tg, Steps p.tables e below (T332.setTop (mkF m 172 #[.val (.int p0), .val (.int p1), .val (.int p2), .val (.int p3), .val (.int p4), .val (.int p5), .val (.int zk), .val (.int zd), .val (.int zw), .val (.ref dg), .val (.ref lo), .val (.ref hi), .val (.int zd), .val (.int zd)] [(.int (1 : Int32))])) tg → G tg := fun tg kt => pre332s tg (by
            show Steps p.tables e below (T332.setTop (mkF m 143 #[.val (.int p0), .val (.int p1), .val (.int p2), .val (.int p3), .val (.int p4), .val (.int p5), .val (.int zk), .val (.int zd), .val (.int zw), .val (.ref dg), .val (.ref lo), .val (.ref hi), .unset, .unset] [(.int zd)])) _
            refine XS.istore X332.here hx rfl (hb hby at_143) rfl (l' := #[.val (.int p0), .val (.int p1), .val (.int p2), .val (.int p3), .val (.int p4), .val (.int p5), .val (.int zk), .val (.int zd), .val (.int zw), .val (.ref dg), .val (.ref lo), .val (.ref hi), .val (.int zd), .unset]) rfl ?_
            show Steps p.tables e below (T332.setTop (mkF m 145 #[.val (.int p0), .val (.int p1), .val (.int p2), .val (.int p3), .val (.int p4), .val (.int p5), .val (.int zk), .val (.int zd), .val (.int zw), .val (.ref dg), .val (.ref lo), .val (.ref hi), .val (.int zd), .unset] [])) _
            refine XS.iload X332.here hx rfl (hb hby at_145) rfl ?_
            show Steps p.tables e below (T332.setTop (mkF m 147 #[.val (.int p0), .val (.int p1), .val (.int p2), .val (.int p3), .val (.int p4), .val (.int p5), .val (.int zk), .val (.int zd), .val (.int zw), .val (.ref dg), .val (.ref lo), .val (.ref hi), .val (.int zd), .unset] [(.int zk)])) _
            refine XS.iconst X332.here hx rfl (hb hby at_147) ?_
            show Steps p.tables e below (T332.setTop (mkF m 148 #[.val (.int p0), .val (.int p1), .val (.int p2), .val (.int p3), .val (.int p4), .val (.int p5), .val (.int zk), .val (.int zd), .val (.int zw), .val (.ref dg), .val (.ref lo), .val (.ref hi), .val (.int zd), .unset] [(.int (1 : Int32)), (.int zk)])) _
            refine XS.icmpYes X332.here hx rfl (pc0 := 148) (pc' := 156) rfl (hb hby at_148) rfl (feq hk1).2 (by decide) (by decide) ?_
            show Steps p.tables e below (T332.setTop (mkF m 156 #[.val (.int p0), .val (.int p1), .val (.int p2), .val (.int p3), .val (.int p4), .val (.int p5), .val (.int zk), .val (.int zd), .val (.int zw), .val (.ref dg), .val (.ref lo), .val (.ref hi), .val (.int zd), .unset] [])) _
            refine XS.iload X332.here hx rfl (hb hby at_156) rfl ?_
            show Steps p.tables e below (T332.setTop (mkF m 158 #[.val (.int p0), .val (.int p1), .val (.int p2), .val (.int p3), .val (.int p4), .val (.int p5), .val (.int zk), .val (.int zd), .val (.int zw), .val (.ref dg), .val (.ref lo), .val (.ref hi), .val (.int zd), .unset] [(.int zd)])) _
            refine XS.istore X332.here hx rfl (hb hby at_158) rfl (l' := #[.val (.int p0), .val (.int p1), .val (.int p2), .val (.int p3), .val (.int p4), .val (.int p5), .val (.int zk), .val (.int zd), .val (.int zw), .val (.ref dg), .val (.ref lo), .val (.ref hi), .val (.int zd), .val (.int zd)]) rfl ?_
            show Steps p.tables e below (T332.setTop (mkF m 160 #[.val (.int p0), .val (.int p1), .val (.int p2), .val (.int p3), .val (.int p4), .val (.int p5), .val (.int zk), .val (.int zd), .val (.int zw), .val (.ref dg), .val (.ref lo), .val (.ref hi), .val (.int zd), .val (.int zd)] [])) _
            refine XS.iload X332.here hx rfl (hb hby at_160) rfl ?_
            show Steps p.tables e below (T332.setTop (mkF m 162 #[.val (.int p0), .val (.int p1), .val (.int p2), .val (.int p3), .val (.int p4), .val (.int p5), .val (.int zk), .val (.int zd), .val (.int zw), .val (.ref dg), .val (.ref lo), .val (.ref hi), .val (.int zd), .val (.int zd)] [(.int zd)])) _
            refine XS.iload X332.here hx rfl (hb hby at_162) rfl ?_
            show Steps p.tables e below (T332.setTop (mkF m 164 #[.val (.int p0), .val (.int p1), .val (.int p2), .val (.int p3), .val (.int p4), .val (.int p5), .val (.int zk), .val (.int zd), .val (.int zw), .val (.ref dg), .val (.ref lo), .val (.ref hi), .val (.int zd), .val (.int zd)] [(.int zd), (.int zd)])) _
            refine XS.icmpNo X332.here hx rfl (hb hby at_164) rfl (teq rfl).2 ?_
            show Steps p.tables e below (T332.setTop (mkF m 167 #[.val (.int p0), .val (.int p1), .val (.int p2), .val (.int p3), .val (.int p4), .val (.int p5), .val (.int zk), .val (.int zd), .val (.int zw), .val (.ref dg), .val (.ref lo), .val (.ref hi), .val (.int zd), .val (.int zd)] [])) _
            refine XS.iconst X332.here hx rfl (hb hby at_167) ?_
            show Steps p.tables e below (T332.setTop (mkF m 168 #[.val (.int p0), .val (.int p1), .val (.int p2), .val (.int p3), .val (.int p4), .val (.int p5), .val (.int zk), .val (.int zd), .val (.int zw), .val (.ref dg), .val (.ref lo), .val (.ref hi), .val (.int zd), .val (.int zd)] [(.int (1 : Int32))])) _
            refine XS.goto X332.here hx rfl (pc0 := 168) (pc' := 172) rfl (hb hby at_168) (by decide) (by decide) ?_
            exact kt)
          obtain ⟨fs, hr, hrun, hended, hRE⟩ := X332.leaveW (s := s) (vm₁ := s.vm) (v := some (.int (1 : Int32))) hS (by rw [e332]; exact hk317) (fun h => by rw [Bd.returns] at h; cases h)
          have chL := ch317.trans (CHv.at (s := s) (vm0 := s.vm) X332 hZ hEL ch317.1)
          subst hG
          refine ⟨_, _, pre333 _ ?_, hrun, hended, _, _, rfl, ?_, ?_, hRE.1, hRE.2.1, hRE.2.2.1, hRE.2.2.2.mono (by decide) (by decide)⟩
          · skip
            show Steps p.tables e below (T332.setTop (mkF m 172 #[.val (.int p0), .val (.int p1), .val (.int p2), .val (.int p3), .val (.int p4), .val (.int p5), .val (.int zk), .val (.int zd), .val (.int zw), .val (.ref dg), .val (.ref lo), .val (.ref hi), .val (.int zd), .val (.int zd)] [(.int (1 : Int32))])) _
            exact retN X332 hx (t := .boolean) Bd.returns (by simp) (hb hby at_172) hr
          · show Q_rm0 Z p0 p1 p2 p3 p4 p5 h0 n0 _ T332.heap _
            rw [e332]
            exact ⟨rfl, N332⟩
          · show CHr Z own_EL s.vm s.heap T332.vm T332.heap
            rw [hh, e332]; exact chL
set_option maxRecDepth 65536 in
set_option maxHeartbeats 40000000 in
theorem comes_1 {Post : Tables → Env → Array Value → State → Outcome → State → Prop} (hpost : ∀ tb e args s v u, (limb_1_1.after args s (.returned v) u = true ∧ limb_1_2.after args s (.returned v) u = true ∧ True) → ReturnedEndW s (.returned v) u (Jvm.fieldLocs frame_1_writes args s ++ Jvm.arrayLocs frame_1_arrays args s ++ Jvm.staticLocs frame_1_statics s) 32 1216 → Post tb e args s (.returned v) u) :
    ArmFor flags0 classFile x code maxLocals ret World_1 tables_1 room_1 Calls_1 rest_1 Pre_1 Post := by
  intro l hfl _ _ p e ha hc hk s m args below hf hA hF happ hP
  obtain ⟨hcalls, hrest, hpre⟩ := hP
  obtain ⟨-, -, -, hnamed, -, -, -, hat⟩ := (Spec.applies_iff hf).mp happ
  obtain ⟨hg, hn⟩ := and_e (Cond.before_iff.mp (show (Jvm.Cond.and given_1 narrow_1).before args s = true from hpre))
  obtain ⟨ga0, gb0⟩ := and_e hg
  obtain ⟨ga1, gb1⟩ := and_e gb0
  obtain ⟨ga2, gb2⟩ := and_e gb1
  obtain ⟨ga3, gb3⟩ := and_e gb2
  obtain ⟨ga4, gb4⟩ := and_e gb3
  obtain ⟨ga5, gb5⟩ := and_e gb4
  obtain ⟨w0, w1, w2, w3, w4, w5, rfl⟩ : ∃ w0 w1 w2 w3 w4 w5 : Value, args = #[w0, w1, w2, w3, w4, w5] := by
    have hs : args.size = 6 := by simpa [Cond.value, given_1] using ga0
    obtain ⟨L⟩ := args
    match L, hs with
    | [w0, w1, w2, w3, w4, w5], _ => exact ⟨w0, w1, w2, w3, w4, w5, rfl⟩
  have hw := fun d (hd : d ∈ tables_1) => atoms_spec (ws := Jvm.Cond.code x code maxLocals ret :: tables_1) hat d (List.mem_cons_of_mem _ hd)
  have hfit : Fit s := fun {y c} hc i hi => by
    obtain ⟨ha, rfl⟩ := Array.getElem?_eq_some_iff.mp hc
    have q := List.all_eq_true.mp ((Array.all_eq_true_iff_forall_mem.mp hF) _ (Array.getElem_mem ha)) i (List.mem_range.mpr hi)
    simpa [Array.getElem?_eq_getElem hi] using q
  obtain ⟨hsets, hown0⟩ := atoms_of _ (rest_1_c_eq ▸ (show rest_1_c.before _ s = true from hrest))
  obtain ⟨i0, ei0⟩ := is_v ga1
  obtain rfl : w0 = (.int i0) := Option.some.inj ei0
  obtain ⟨i1, ei1⟩ := is_v ga2
  obtain rfl : w1 = (.int i1) := Option.some.inj ei1
  obtain ⟨i2, ei2⟩ := is_v ga3
  obtain rfl : w2 = (.int i2) := Option.some.inj ei2
  obtain ⟨i3, ei3⟩ := is_v ga4
  obtain rfl : w3 = (.int i3) := Option.some.inj ei3
  obtain ⟨i4, ei4⟩ := is_v ga5
  obtain rfl : w4 = (.int i4) := Option.some.inj ei4
  obtain ⟨i5, ei5⟩ := is_v gb5
  obtain rfl : w5 = (.int i5) := Option.some.inj ei5
  obtain ⟨cs, ecs⟩ := is_v (Cond.before_iff.mp (hsets _ (List.mem_of_getElem? (i := 1) rfl)))
  have hs : own_st s := ⟨cs, Sta.start ecs (Or.inl (hsets _ (List.mem_of_getElem? (i := 0) rfl))), gotF (Cond.eq_ints ecs (Term.int_eval _)) (not_v (Cond.before_iff.mp (hsets _ (List.mem_of_getElem? (i := 2) rfl))))⟩
  have hc7 : ∀ p ∈ own_EL, Jvm.Lit.constHeld s p.1 p.2 := fun p hp => by
    cases List.mem_singleton.mp hp; exact hcalls.1 ("java/lang/String", 7) (by simp [consts_1])
  have hCH0 : CHv s own_EL s.vm s.heap := CHv.start (own_EW hw) hc7 (hsets _ (List.mem_of_getElem? (i := 2) rfl)) (hw _ (List.mem_of_getElem? (i := 20) rfl)) (hw _ (List.mem_of_getElem? (i := 6) rfl))
  obtain ⟨n, o, h1, h2, h3, _, L, rfl, ⟨rfl, N⟩, hq⟩ := rm0 l s _ hw tables_1 i0 i1 i2 i3 i4 i5 s.heap s.heap.size (Nat.le_refl _) hs (Old.start s) p e ha hc hk s m _ below hf ((Spec.applies_iff_loose hf).mp happ).1 ⟨rfl, State.Warmed39.refl s, rfl, hCH0⟩ trivial
  refine ⟨n, _, h1, h2, h3, hpost _ _ _ _ _ _ ⟨Cond.after_iff.mpr rfl, Cond.after_iff.mpr (eq_i res_at (Term.int_eval (1)) rfl), trivial⟩ ⟨hq.2.1, hq.2.2.1, hq.2.2.2.1, (hq.2.2.2.2.sift fun y hy => Or.inr (N y hy)).mono (by decide) (by decide)⟩⟩
theorem main_1_1 : Claimed_1_1 := comes_1 fun _ _ _ _ _ _ h hF => ⟨h.1, hF⟩
theorem main_1_2 : Claimed_1_2 := comes_1 fun _ _ _ _ _ _ h hF => ⟨h.2.1, hF⟩
end Jvm.Pilot.@@N@@
namespace Jvm.Pilot.@@N@@
open Jvm Jvm.ClassFile Sem Op Lib Jvm.Free Jvm.Stand Jvm.Pilot.@@N@@.Jvm.D
/-! MADE BY PROGRAM (witnessworld.py) out of the Statement's table words and the real class files: 22 classes; the members and pool entries that the words name. The judged class is class 1, her method 1. -/
namespace start1
open Jvm.ClassFile
def u (s : String) : CpInfo := .utf8 (stringToUtf16 s)
/-- a pool by its gaps: so many unusable entries, then the entry; so many at the end -/
def gap : Nat → List CpInfo → List CpInfo
  | 0, r => r
  | n + 1, r => .unusable :: gap n r
def poolList (es : List (Nat × CpInfo)) (last : Nat) : List CpInfo := es.foldr (fun e r => gap e.1 (e.2 :: r)) (gap last [])
def pool (es : List (Nat × CpInfo)) (last : Nat) : Array CpInfo := ⟨poolList es last⟩
def fileOf (pool : Array CpInfo) (this : Nat) (attrs : Array Attribute := #[]) (ms : Array MethodInfo := #[]) (fl : Nat := 33) (sup : Nat := 0) (ifs : Array Nat := #[]) (fds : Array FieldInfo := #[]) : ClassFile where
  minorVersion := 0
  majorVersion := 65
  constantPool := pool
  accessFlags := fl
  thisClass := this
  superClass := sup
  interfaces := ifs
  fields := fds
  methods := ms
  attributes := attrs
def plain (name : String) (sup : Option ClassId) : Class where
  name := name
  kind := .ordinary
  loader := none
  accessFlags := 33
  super := sup
  interfaces := #[]
  cf := none
  fields := #[]
  methods := #[]
  instanceTypes := #[]
  staticTypes := #[]
  resolved := #[]
  callSites := []
  init := .initialized
  statics := none
  mirror := none

def pool0 : Array CpInfo := pool [(5, u "<init>"), (0, u "()V"), (1, .class_ 10), (1, u "java/lang/Object")] 113

def k0c0 : Code := { maxStack := 0, maxLocals := 1, code := object_method_1_code, exceptionTable := #[], attributes := #[] }
def k0m0 : Method := { name := "<init>", desc := "()V", sig := { parameters := [], returnType := none }, accessFlags := 1, code := some k0c0 }
/-- java/lang/Object -/
def k0 : Class := { plain "java/lang/Object" none with
  accessFlags := 33
  interfaces := #[]
  cf := some (fileOf pool0 8 #[] #[{ accessFlags := 1, nameIndex := 5, descriptorIndex := 6, attributes := #[] }] 33 0 #[] #[])
  fields := #[]
  methods := #[k0m0]
  instanceTypes := #[]
  staticTypes := #[]
  resolved := Array.replicate 124 none
  statics := none }

def pool1 : Array CpInfo := pool [(2, .class_ 4), (1, u "java/lang/Object"), (0, u "<init>"), (0, u "()V"), (0, .integer 2147483647), (0, .methodref 9 10), (0, .class_ 11), (0, .nameAndType 12 13), (0, u "com/example/ringfence/ringfence/NumberPatternRankPinLaw"), (0, u "str"), (0, u "(II)Ljava/lang/String;"), (0, .methodref 9 15), (0, .nameAndType 16 17), (0, u "nines"), (0, u "(I)Ljava/lang/String;"), (0, .methodref 9 19), (0, .nameAndType 20 17), (0, u "zeros"), (0, .class_ 22), (0, u "com/example/ringfence/ringfence/NumberPattern"), (0, .methodref 21 24), (0, .nameAndType 5 25), (0, u "(Ljava/lang/String;Ljava/lang/String;Ljava/lang/String;)V"), (0, .methodref 21 27), (0, .nameAndType 28 29), (0, u "rank"), (0, u "()I"), (2, .class_ 33), (0, u "java/lang/String"), (0, .methodref 32 35), (0, .nameAndType 5 36), (0, u "([C)V"), (0, .methodref 9 38), (0, .nameAndType 39 40), (0, u "dg"), (0, u "(II)C"), (2, u "law"), (0, u "(IIIIII)Z")] 3

def k1m0 : Method := { name := "<init>", desc := "()V", sig := { parameters := [], returnType := none }, accessFlags := 2, code := none }
def k1c1 : Code := { maxStack := 5, maxLocals := 14, code := code, exceptionTable := #[], attributes := #[] }
def k1m1 : Method := { name := "law", desc := "(IIIIII)Z", sig := { parameters := [.int, .int, .int, .int, .int, .int], returnType := some .boolean }, accessFlags := 9, code := some k1c1 }
def k1c2 : Code := { maxStack := 4, maxLocals := 2, code := method_3_code, exceptionTable := #[], attributes := #[] }
def k1m2 : Method := { name := "dg", desc := "(II)C", sig := { parameters := [.int, .int], returnType := some .char }, accessFlags := 10, code := some k1c2 }
def k1c3 : Code := { maxStack := 7, maxLocals := 2, code := method_4_code, exceptionTable := #[], attributes := #[] }
def k1m3 : Method := { name := "str", desc := "(II)Ljava/lang/String;", sig := { parameters := [.int, .int], returnType := some (.object "java/lang/String") }, accessFlags := 10, code := some k1c3 }
def k1c4 : Code := { maxStack := 6, maxLocals := 1, code := method_5_code, exceptionTable := #[], attributes := #[] }
def k1m4 : Method := { name := "nines", desc := "(I)Ljava/lang/String;", sig := { parameters := [.int], returnType := some (.object "java/lang/String") }, accessFlags := 10, code := some k1c4 }
def k1c5 : Code := { maxStack := 6, maxLocals := 1, code := method_6_code, exceptionTable := #[], attributes := #[] }
def k1m5 : Method := { name := "zeros", desc := "(I)Ljava/lang/String;", sig := { parameters := [.int], returnType := some (.object "java/lang/String") }, accessFlags := 10, code := some k1c5 }
/-- com/example/ringfence/ringfence/NumberPatternRankPinLaw -/
def k1 : Class := { plain "com/example/ringfence/ringfence/NumberPatternRankPinLaw" (some 0) with
  accessFlags := 49
  interfaces := #[]
  cf := some (fileOf pool1 9 #[] #[{ accessFlags := 2, nameIndex := 5, descriptorIndex := 6, attributes := #[] }, { accessFlags := 9, nameIndex := 43, descriptorIndex := 44, attributes := #[] }, { accessFlags := 10, nameIndex := 39, descriptorIndex := 40, attributes := #[] }, { accessFlags := 10, nameIndex := 12, descriptorIndex := 13, attributes := #[] }, { accessFlags := 10, nameIndex := 16, descriptorIndex := 17, attributes := #[] }, { accessFlags := 10, nameIndex := 20, descriptorIndex := 17, attributes := #[] }] 49 2 #[] #[])
  fields := #[]
  methods := #[k1m0, k1m1, k1m2, k1m3, k1m4, k1m5]
  instanceTypes := #[]
  staticTypes := #[]
  resolved := Array.replicate 48 none
  statics := none }

def pool2 : Array CpInfo := pool [(1, .class_ 2), (0, u "java/io/Serializable"), (0, .class_ 4), (0, u "java/lang/Object")] 2

/-- java/io/Serializable -/
def k2 : Class := { plain "java/io/Serializable" (some 0) with
  accessFlags := 1537
  interfaces := #[]
  cf := some (fileOf pool2 1 #[] #[] 1537 3 #[] #[])
  fields := #[]
  methods := #[]
  instanceTypes := #[]
  staticTypes := #[]
  resolved := Array.replicate 7 none
  statics := none }

def pool3 : Array CpInfo := pool [(1, .class_ 2), (0, u "java/lang/Comparable"), (0, .class_ 4), (0, u "java/lang/Object")] 7

/-- java/lang/Comparable -/
def k3 : Class := { plain "java/lang/Comparable" (some 0) with
  accessFlags := 1537
  interfaces := #[]
  cf := some (fileOf pool3 1 #[] #[] 1537 3 #[] #[])
  fields := #[]
  methods := #[]
  instanceTypes := #[]
  staticTypes := #[]
  resolved := Array.replicate 12 none
  statics := none }

def pool4 : Array CpInfo := pool [(2, .class_ 4), (1, u "java/lang/CharSequence"), (42, .class_ 48), (0, u "java/lang/CharSequence$1CodePointIterator"), (10, .class_ 60), (0, u "java/lang/CharSequence$1CharIterator"), (5, .class_ 67), (0, u "java/lang/Object")] 63

/-- java/lang/CharSequence -/
def k4 : Class := { plain "java/lang/CharSequence" (some 0) with
  accessFlags := 1537
  interfaces := #[]
  cf := some (fileOf pool4 2 #[.nestMembers #[47, 59]] #[] 1537 66 #[] #[])
  fields := #[]
  methods := #[]
  instanceTypes := #[]
  staticTypes := #[]
  resolved := Array.replicate 131 none
  statics := none }

def pool5 : Array CpInfo := pool [(1, .class_ 2), (0, u "java/lang/constant/Constable"), (0, .class_ 4), (0, u "java/lang/Object")] 6

/-- java/lang/constant/Constable -/
def k5 : Class := { plain "java/lang/constant/Constable" (some 0) with
  accessFlags := 1537
  interfaces := #[]
  cf := some (fileOf pool5 1 #[] #[] 1537 3 #[] #[])
  fields := #[]
  methods := #[]
  instanceTypes := #[]
  staticTypes := #[]
  resolved := Array.replicate 11 none
  statics := none }

def pool6 : Array CpInfo := pool [(1, .class_ 2), (0, u "java/lang/constant/ConstantDesc"), (0, .class_ 4), (0, u "java/lang/Object")] 32

/-- java/lang/constant/ConstantDesc -/
def k6 : Class := { plain "java/lang/constant/ConstantDesc" (some 0) with
  accessFlags := 1537
  interfaces := #[]
  cf := some (fileOf pool6 1 #[] #[] 1537 3 #[] #[])
  fields := #[]
  methods := #[]
  instanceTypes := #[]
  staticTypes := #[]
  resolved := Array.replicate 37 none
  statics := none }

def pool7 : Array CpInfo := pool [(1, .methodref 2 3), (0, .class_ 4), (0, .nameAndType 5 6), (0, u "java/lang/Object"), (0, u "<init>"), (0, u "()V"), (0, .string 8), (0, u ""), (0, .fieldref 10 11), (0, .class_ 12), (0, .nameAndType 13 14), (0, u "java/lang/String"), (0, u "value"), (0, u "[B"), (0, .fieldref 10 16), (0, .nameAndType 17 18), (0, u "coder"), (0, u "B"), (2, u "hash"), (0, u "I"), (2, u "hashIsZero"), (0, u "Z"), (0, .methodref 10 28), (0, .nameAndType 5 29), (0, u "([CIILjava/lang/Void;)V"), (8, .fieldref 10 39), (0, .nameAndType 40 26), (0, u "COMPACT_STRINGS"), (1, .class_ 44), (1, u "java/lang/StringUTF16"), (0, u "compress"), (1, .methodref 42 48), (0, .nameAndType 49 50), (0, u "coderFromArrayLen"), (0, u "([BI)B"), (91, u "()Z"), (34, .methodref 42 178), (0, .nameAndType 45 179), (0, u "([CII)[B"), (154, u "()I"), (0, .methodref 10 336), (0, .nameAndType 17 337), (0, u "()B"), (169, u "length"), (67, .class_ 576), (0, u "java/lang/CharSequence"), (22, u "CASE_INSENSITIVE_ORDER"), (0, u "Ljava/util/Comparator;"), (91, u "isEmpty"), (317, u "([C)V"), (90, u "serialPersistentFields"), (0, u "[Ljava/io/ObjectStreamField;"), (0, .class_ 1104), (0, u "java/lang/String$CaseInsensitiveComparator"), (1, .class_ 1107), (0, u "java/io/Serializable"), (0, .class_ 1109), (0, u "java/lang/Comparable"), (0, .class_ 1111), (0, u "java/lang/constant/Constable"), (0, .class_ 1113), (0, u "java/lang/constant/ConstantDesc"), (2, u "serialVersionUID"), (0, u "J"), (3, u "REPL"), (0, u "C"), (2, u "LATIN1"), (1, u "UTF16")] 323

def k7m0 : Method := { name := "<init>", desc := "()V", sig := { parameters := [], returnType := none }, accessFlags := 1, code := none }
def k7c1 : Code := { maxStack := 5, maxLocals := 2, code := jdk_42_method_3_code, exceptionTable := #[], attributes := #[] }
def k7m1 : Method := { name := "<init>", desc := "([C)V", sig := { parameters := [(.array .char)], returnType := none }, accessFlags := 1, code := some k7c1 }
def k7c2 : Code := { maxStack := 2, maxLocals := 1, code := jdk_42_method_54_code, exceptionTable := #[], attributes := #[] }
def k7m2 : Method := { name := "length", desc := "()I", sig := { parameters := [], returnType := some .int }, accessFlags := 1, code := some k7c2 }
def k7c3 : Code := { maxStack := 1, maxLocals := 1, code := jdk_42_method_55_code, exceptionTable := #[], attributes := #[] }
def k7m3 : Method := { name := "isEmpty", desc := "()Z", sig := { parameters := [], returnType := some .boolean }, accessFlags := 1, code := some k7c3 }
def k7c4 : Code := { maxStack := 4, maxLocals := 6, code := jdk_42_method_149_code, exceptionTable := #[], attributes := #[] }
def k7m4 : Method := { name := "<init>", desc := "([CIILjava/lang/Void;)V", sig := { parameters := [(.array .char), .int, .int, (.object "java/lang/Void")], returnType := none }, accessFlags := 2, code := some k7c4 }
def k7c5 : Code := { maxStack := 1, maxLocals := 1, code := jdk_42_method_152_code, exceptionTable := #[], attributes := #[] }
def k7m5 : Method := { name := "coder", desc := "()B", sig := { parameters := [], returnType := some .byte }, accessFlags := 0, code := some k7c5 }
/-- java/lang/String -/
def k7 : Class := { plain "java/lang/String" (some 0) with
  accessFlags := 49
  interfaces := #[2, 3, 4, 5, 6]
  cf := some (fileOf pool7 10 #[.nestMembers #[1103]] #[{ accessFlags := 1, nameIndex := 5, descriptorIndex := 6, attributes := #[] }, { accessFlags := 1, nameIndex := 5, descriptorIndex := 1010, attributes := #[] }, { accessFlags := 1, nameIndex := 507, descriptorIndex := 334, attributes := #[] }, { accessFlags := 1, nameIndex := 692, descriptorIndex := 142, attributes := #[] }, { accessFlags := 2, nameIndex := 5, descriptorIndex := 29, attributes := #[] }, { accessFlags := 0, nameIndex := 17, descriptorIndex := 337, attributes := #[] }] 49 2 #[1106, 1108, 575, 1110, 1112] #[{ accessFlags := 18, nameIndex := 13, descriptorIndex := 14, attributes := #[] }, { accessFlags := 18, nameIndex := 17, descriptorIndex := 18, attributes := #[] }, { accessFlags := 2, nameIndex := 21, descriptorIndex := 22, attributes := #[] }, { accessFlags := 2, nameIndex := 25, descriptorIndex := 26, attributes := #[] }, { accessFlags := 26, nameIndex := 1116, descriptorIndex := 1117, attributes := #[] }, { accessFlags := 24, nameIndex := 40, descriptorIndex := 26, attributes := #[] }, { accessFlags := 26, nameIndex := 1101, descriptorIndex := 1102, attributes := #[] }, { accessFlags := 26, nameIndex := 1121, descriptorIndex := 1122, attributes := #[] }, { accessFlags := 25, nameIndex := 599, descriptorIndex := 600, attributes := #[] }, { accessFlags := 24, nameIndex := 1125, descriptorIndex := 18, attributes := #[] }, { accessFlags := 24, nameIndex := 1127, descriptorIndex := 18, attributes := #[] }])
  fields := #[{ name := "value", type := (.array .byte), accessFlags := 18, slot := 0, constantValue := 0 }, { name := "coder", type := .byte, accessFlags := 18, slot := 1, constantValue := 0 }, { name := "hash", type := .int, accessFlags := 2, slot := 2, constantValue := 0 }, { name := "hashIsZero", type := .boolean, accessFlags := 2, slot := 3, constantValue := 0 }, { name := "serialVersionUID", type := .long, accessFlags := 26, slot := 0, constantValue := 0 }, { name := "COMPACT_STRINGS", type := .boolean, accessFlags := 24, slot := 1, constantValue := 0 }, { name := "serialPersistentFields", type := (.array (.object "java/io/ObjectStreamField")), accessFlags := 26, slot := 2, constantValue := 0 }, { name := "REPL", type := .char, accessFlags := 26, slot := 3, constantValue := 0 }, { name := "CASE_INSENSITIVE_ORDER", type := (.object "java/util/Comparator"), accessFlags := 25, slot := 4, constantValue := 0 }, { name := "LATIN1", type := .byte, accessFlags := 24, slot := 5, constantValue := 0 }, { name := "UTF16", type := .byte, accessFlags := 24, slot := 6, constantValue := 0 }]
  methods := #[k7m0, k7m1, k7m2, k7m3, k7m4, k7m5]
  instanceTypes := #[(.array .byte), .byte, .int, .boolean]
  staticTypes := #[.long, .boolean, (.array (.object "java/io/ObjectStreamField")), .char, (.object "java/util/Comparator"), .byte, .byte]
  resolved := Array.replicate 1451 none
  statics := some 0 }

def pool8 : Array CpInfo := pool [(6, .class_ 8), (1, u "java/lang/Object"), (0, u "<init>"), (0, u "()V"), (1, .class_ 14), (1, u "java/lang/StringUTF16"), (31, u "$assertionsDisabled"), (0, u "Z"), (13, u "HI_BYTE_SHIFT"), (0, u "I"), (2, u "LO_BYTE_SHIFT"), (49, .methodref 12 116), (0, .nameAndType 117 118), (0, u "compress"), (0, u "([CI[BII)I"), (3, u "([CII)[B"), (138, u "coderFromArrayLen"), (0, u "([BI)B"), (106, .class_ 371), (1, u "java/lang/StringUTF16$LinesSpliterator"), (58, u "MAX_LENGTH"), (196, .class_ 628), (0, u "java/lang/StringUTF16$CodePointsSpliterator"), (0, .class_ 630), (0, u "java/lang/StringUTF16$CharsSpliterator")] 4

def k8m0 : Method := { name := "<init>", desc := "()V", sig := { parameters := [], returnType := none }, accessFlags := 0, code := none }
def k8c1 : Code := { maxStack := 2, maxLocals := 2, code := jdk_52_method_15_code, exceptionTable := #[], attributes := #[] }
def k8m1 : Method := { name := "coderFromArrayLen", desc := "([BI)B", sig := { parameters := [(.array .byte), .int], returnType := some .byte }, accessFlags := 8, code := some k8c1 }
def k8c2 : Code := { maxStack := 5, maxLocals := 6, code := jdk_52_method_16_code, exceptionTable := #[], attributes := #[] }
def k8m2 : Method := { name := "compress", desc := "([CII)[B", sig := { parameters := [(.array .char), .int, .int], returnType := some (.array .byte) }, accessFlags := 9, code := some k8c2 }
def k8c3 : Code := { maxStack := 3, maxLocals := 7, code := jdk_52_method_21_code, exceptionTable := #[], attributes := #[] }
def k8m3 : Method := { name := "compress", desc := "([CI[BII)I", sig := { parameters := [(.array .char), .int, (.array .byte), .int, .int], returnType := some .int }, accessFlags := 9, code := some k8c3 }
/-- java/lang/StringUTF16 -/
def k8 : Class := { plain "java/lang/StringUTF16" (some 0) with
  accessFlags := 48
  interfaces := #[]
  cf := some (fileOf pool8 12 #[.nestMembers #[627, 629, 369]] #[{ accessFlags := 0, nameIndex := 9, descriptorIndex := 10, attributes := #[] }, { accessFlags := 8, nameIndex := 261, descriptorIndex := 262, attributes := #[] }, { accessFlags := 9, nameIndex := 117, descriptorIndex := 122, attributes := #[] }, { accessFlags := 9, nameIndex := 117, descriptorIndex := 118, attributes := #[] }] 48 6 #[] #[{ accessFlags := 26, nameIndex := 61, descriptorIndex := 62, attributes := #[] }, { accessFlags := 26, nameIndex := 65, descriptorIndex := 62, attributes := #[] }, { accessFlags := 24, nameIndex := 430, descriptorIndex := 62, attributes := #[] }, { accessFlags := 4120, nameIndex := 46, descriptorIndex := 47, attributes := #[] }])
  fields := #[{ name := "HI_BYTE_SHIFT", type := .int, accessFlags := 26, slot := 0, constantValue := 0 }, { name := "LO_BYTE_SHIFT", type := .int, accessFlags := 26, slot := 1, constantValue := 0 }, { name := "MAX_LENGTH", type := .int, accessFlags := 24, slot := 2, constantValue := 0 }, { name := "$assertionsDisabled", type := .boolean, accessFlags := 4120, slot := 3, constantValue := 0 }]
  methods := #[k8m0, k8m1, k8m2, k8m3]
  instanceTypes := #[]
  staticTypes := #[.int, .int, .int, .boolean]
  resolved := Array.replicate 635 none
  statics := none }

def pool9 : Array CpInfo := pool [(1, .methodref 2 3), (0, .class_ 4), (0, .nameAndType 5 6), (0, u "java/lang/Object"), (0, u "<init>"), (0, u "()V"), (0, .class_ 8), (0, u "java/lang/Record")] 13

def k9c0 : Code := { maxStack := 1, maxLocals := 1, code := jdk_30_method_1_code, exceptionTable := #[], attributes := #[] }
def k9m0 : Method := { name := "<init>", desc := "()V", sig := { parameters := [], returnType := none }, accessFlags := 4, code := some k9c0 }
/-- java/lang/Record -/
def k9 : Class := { plain "java/lang/Record" (some 0) with
  accessFlags := 1057
  interfaces := #[]
  cf := some (fileOf pool9 7 #[] #[{ accessFlags := 4, nameIndex := 5, descriptorIndex := 6, attributes := #[] }] 1057 2 #[] #[])
  fields := #[]
  methods := #[k9m0]
  instanceTypes := #[]
  staticTypes := #[]
  resolved := Array.replicate 22 none
  statics := none }

def pool10 : Array CpInfo := pool [(3, .class_ 4), (0, u "com/example/ringfence/ringfence/EntryPattern"), (0, .class_ 6), (0, u "java/lang/Object"), (0, u "EXACT"), (0, u "I")] 15

/-- com/example/ringfence/ringfence/EntryPattern -/
def k10 : Class := { plain "com/example/ringfence/ringfence/EntryPattern" (some 0) with
  accessFlags := 1536
  interfaces := #[]
  cf := some (fileOf pool10 3 #[] #[] 1536 5 #[] #[{ accessFlags := 25, nameIndex := 7, descriptorIndex := 8, attributes := #[] }])
  fields := #[{ name := "EXACT", type := .int, accessFlags := 25, slot := 0, constantValue := 0 }]
  methods := #[]
  instanceTypes := #[]
  staticTypes := #[.int]
  resolved := Array.replicate 24 none
  statics := none }

def pool11 : Array CpInfo := pool [(1, .methodref 2 3), (0, .class_ 4), (0, .nameAndType 5 6), (0, u "java/lang/Record"), (0, u "<init>"), (0, u "()V"), (0, .fieldref 8 9), (0, .class_ 10), (0, .nameAndType 11 12), (0, u "com/example/ringfence/ringfence/NumberPattern"), (0, u "digits"), (0, u "Ljava/lang/String;"), (0, .fieldref 8 14), (0, .nameAndType 15 12), (0, u "low"), (0, .fieldref 8 17), (0, .nameAndType 18 12), (0, u "high"), (2, .methodref 22 23), (0, .class_ 24), (0, .nameAndType 25 26), (0, u "java/lang/String"), (0, u "length"), (0, u "()I"), (29, .methodref 22 57), (0, .nameAndType 58 59), (0, u "isEmpty"), (0, u "()Z"), (10, u "(Ljava/lang/String;Ljava/lang/String;Ljava/lang/String;)V"), (16, .class_ 88), (0, u "com/example/ringfence/ringfence/EntryPattern"), (0, .integer 2147483647), (10, u "RANGE"), (0, u "Ljava/util/regex/Pattern;"), (51, u "rank")] 38

def k11c0 : Code := { maxStack := 2, maxLocals := 4, code := prog_28_method_1_code, exceptionTable := #[], attributes := #[] }
def k11m0 : Method := { name := "<init>", desc := "(Ljava/lang/String;Ljava/lang/String;Ljava/lang/String;)V", sig := { parameters := [(.object "java/lang/String"), (.object "java/lang/String"), (.object "java/lang/String")], returnType := none }, accessFlags := 0, code := some k11c0 }
def k11c1 : Code := { maxStack := 1, maxLocals := 1, code := prog_28_method_4_code, exceptionTable := #[], attributes := #[] }
def k11m1 : Method := { name := "rank", desc := "()I", sig := { parameters := [], returnType := some .int }, accessFlags := 1, code := some k11c1 }
/-- com/example/ringfence/ringfence/NumberPattern -/
def k11 : Class := { plain "com/example/ringfence/ringfence/NumberPattern" (some 9) with
  accessFlags := 48
  interfaces := #[10]
  cf := some (fileOf pool11 8 #[] #[{ accessFlags := 0, nameIndex := 5, descriptorIndex := 70, attributes := #[] }, { accessFlags := 1, nameIndex := 153, descriptorIndex := 26, attributes := #[] }] 48 2 #[87] #[{ accessFlags := 18, nameIndex := 11, descriptorIndex := 12, attributes := #[] }, { accessFlags := 18, nameIndex := 15, descriptorIndex := 12, attributes := #[] }, { accessFlags := 18, nameIndex := 18, descriptorIndex := 12, attributes := #[] }, { accessFlags := 26, nameIndex := 100, descriptorIndex := 101, attributes := #[] }])
  fields := #[{ name := "digits", type := (.object "java/lang/String"), accessFlags := 18, slot := 0, constantValue := 0 }, { name := "low", type := (.object "java/lang/String"), accessFlags := 18, slot := 1, constantValue := 0 }, { name := "high", type := (.object "java/lang/String"), accessFlags := 18, slot := 2, constantValue := 0 }, { name := "RANGE", type := (.object "java/util/regex/Pattern"), accessFlags := 26, slot := 0, constantValue := 0 }]
  methods := #[k11m0, k11m1]
  instanceTypes := #[(.object "java/lang/String"), (.object "java/lang/String"), (.object "java/lang/String")]
  staticTypes := #[(.object "java/util/regex/Pattern")]
  resolved := Array.replicate 192 none
  statics := none }

def pool12 : Array CpInfo := pool [(4, .class_ 6), (1, u "java/lang/Object"), (0, u "<init>"), (0, u "()V"), (5, .class_ 16), (1, u "java/lang/StringLatin1"), (104, u "$assertionsDisabled"), (0, u "Z"), (98, .class_ 223), (1, u "java/lang/StringLatin1$LinesSpliterator"), (166, .class_ 391), (0, u "java/lang/StringLatin1$CharsSpliterator")] 3

def k12m0 : Method := { name := "<init>", desc := "()V", sig := { parameters := [], returnType := none }, accessFlags := 0, code := none }
/-- java/lang/StringLatin1 -/
def k12 : Class := { plain "java/lang/StringLatin1" (some 0) with
  accessFlags := 48
  interfaces := #[]
  cf := some (fileOf pool12 14 #[.nestMembers #[390, 221]] #[{ accessFlags := 0, nameIndex := 7, descriptorIndex := 8, attributes := #[] }] 48 4 #[] #[{ accessFlags := 4120, nameIndex := 121, descriptorIndex := 122, attributes := #[] }])
  fields := #[{ name := "$assertionsDisabled", type := .boolean, accessFlags := 4120, slot := 0, constantValue := 0 }]
  methods := #[k12m0]
  instanceTypes := #[]
  staticTypes := #[.boolean]
  resolved := Array.replicate 395 none
  statics := none }

def pool13 : Array CpInfo := pool [(2, .class_ 4), (1, u "java/lang/Object"), (0, u "<init>"), (0, u "()V"), (17, .class_ 26), (1, u "jdk/internal/util/Preconditions"), (28, .class_ 56), (0, u "jdk/internal/util/Preconditions$4"), (57, .class_ 115), (0, u "jdk/internal/util/Preconditions$1"), (7, u "SIOOBE_FORMATTER"), (0, u "Ljava/util/function/BiFunction;"), (0, .class_ 126), (0, u "jdk/internal/util/Preconditions$2"), (3, u "AIOOBE_FORMATTER"), (0, .class_ 132), (0, u "jdk/internal/util/Preconditions$3"), (3, u "IOOBE_FORMATTER")] 57

def k13m0 : Method := { name := "<init>", desc := "()V", sig := { parameters := [], returnType := none }, accessFlags := 1, code := none }
/-- jdk/internal/util/Preconditions -/
def k13 : Class := { plain "jdk/internal/util/Preconditions" (some 0) with
  accessFlags := 33
  interfaces := #[]
  cf := some (fileOf pool13 24 #[.nestMembers #[55, 131, 125, 114]] #[{ accessFlags := 1, nameIndex := 5, descriptorIndex := 6, attributes := #[] }] 33 2 #[] #[{ accessFlags := 25, nameIndex := 123, descriptorIndex := 124, attributes := #[] }, { accessFlags := 25, nameIndex := 130, descriptorIndex := 124, attributes := #[] }, { accessFlags := 25, nameIndex := 136, descriptorIndex := 124, attributes := #[] }])
  fields := #[{ name := "SIOOBE_FORMATTER", type := (.object "java/util/function/BiFunction"), accessFlags := 25, slot := 0, constantValue := 0 }, { name := "AIOOBE_FORMATTER", type := (.object "java/util/function/BiFunction"), accessFlags := 25, slot := 1, constantValue := 0 }, { name := "IOOBE_FORMATTER", type := (.object "java/util/function/BiFunction"), accessFlags := 25, slot := 2, constantValue := 0 }]
  methods := #[k13m0]
  instanceTypes := #[]
  staticTypes := #[(.object "java/util/function/BiFunction"), (.object "java/util/function/BiFunction"), (.object "java/util/function/BiFunction")]
  resolved := Array.replicate 194 none
  statics := some 1 }

def pool14 : Array CpInfo := pool [(9, u "<init>"), (6, .class_ 18), (1, u "java/lang/Object"), (0, u "()V"), (1, .class_ 23), (1, u "jdk/internal/util/ArraysSupport"), (0, u "LOG2_ARRAY_LONG_INDEX_SCALE"), (0, u "I"), (2, u "U"), (0, u "Ljdk/internal/misc/Unsafe;"), (8, u "BIG_ENDIAN"), (0, u "Z"), (8, u "LOG2_BYTE_BIT_SIZE"), (4, u "LOG2_ARRAY_INT_INDEX_SCALE"), (54, u "JLA"), (0, u "Ljdk/internal/access/JavaLangAccess;"), (11, u "LOG2_ARRAY_BOOLEAN_INDEX_SCALE"), (9, u "LOG2_ARRAY_BYTE_INDEX_SCALE"), (5, u "LOG2_ARRAY_CHAR_INDEX_SCALE"), (5, u "LOG2_ARRAY_SHORT_INDEX_SCALE"), (18, u "LOG2_ARRAY_FLOAT_INDEX_SCALE"), (24, u "LOG2_ARRAY_DOUBLE_INDEX_SCALE"), (89, u "T_BOOLEAN"), (2, u "T_CHAR"), (1, u "T_FLOAT"), (1, u "T_DOUBLE"), (1, u "T_BYTE"), (1, u "T_SHORT"), (1, u "T_INT"), (1, u "T_LONG"), (1, u "SOFT_MAX_ARRAY_LENGTH")] 83

def k14m0 : Method := { name := "<init>", desc := "()V", sig := { parameters := [], returnType := none }, accessFlags := 2, code := none }
/-- jdk/internal/util/ArraysSupport -/
def k14 : Class := { plain "jdk/internal/util/ArraysSupport" (some 0) with
  accessFlags := 33
  interfaces := #[]
  cf := some (fileOf pool14 21 #[] #[{ accessFlags := 2, nameIndex := 9, descriptorIndex := 19, attributes := #[] }] 33 16 #[] #[{ accessFlags := 24, nameIndex := 28, descriptorIndex := 29, attributes := #[] }, { accessFlags := 26, nameIndex := 38, descriptorIndex := 39, attributes := #[] }, { accessFlags := 25, nameIndex := 121, descriptorIndex := 25, attributes := #[] }, { accessFlags := 25, nameIndex := 131, descriptorIndex := 25, attributes := #[] }, { accessFlags := 25, nameIndex := 137, descriptorIndex := 25, attributes := #[] }, { accessFlags := 25, nameIndex := 143, descriptorIndex := 25, attributes := #[] }, { accessFlags := 25, nameIndex := 53, descriptorIndex := 25, attributes := #[] }, { accessFlags := 25, nameIndex := 24, descriptorIndex := 25, attributes := #[] }, { accessFlags := 25, nameIndex := 162, descriptorIndex := 25, attributes := #[] }, { accessFlags := 25, nameIndex := 187, descriptorIndex := 25, attributes := #[] }, { accessFlags := 26, nameIndex := 48, descriptorIndex := 25, attributes := #[] }, { accessFlags := 25, nameIndex := 277, descriptorIndex := 25, attributes := #[] }, { accessFlags := 25, nameIndex := 280, descriptorIndex := 25, attributes := #[] }, { accessFlags := 25, nameIndex := 282, descriptorIndex := 25, attributes := #[] }, { accessFlags := 25, nameIndex := 284, descriptorIndex := 25, attributes := #[] }, { accessFlags := 25, nameIndex := 286, descriptorIndex := 25, attributes := #[] }, { accessFlags := 25, nameIndex := 288, descriptorIndex := 25, attributes := #[] }, { accessFlags := 25, nameIndex := 290, descriptorIndex := 25, attributes := #[] }, { accessFlags := 25, nameIndex := 292, descriptorIndex := 25, attributes := #[] }, { accessFlags := 26, nameIndex := 108, descriptorIndex := 109, attributes := #[] }, { accessFlags := 25, nameIndex := 294, descriptorIndex := 25, attributes := #[] }])
  fields := #[{ name := "U", type := (.object "jdk/internal/misc/Unsafe"), accessFlags := 24, slot := 0, constantValue := 0 }, { name := "BIG_ENDIAN", type := .boolean, accessFlags := 26, slot := 1, constantValue := 0 }, { name := "LOG2_ARRAY_BOOLEAN_INDEX_SCALE", type := .int, accessFlags := 25, slot := 2, constantValue := 0 }, { name := "LOG2_ARRAY_BYTE_INDEX_SCALE", type := .int, accessFlags := 25, slot := 3, constantValue := 0 }, { name := "LOG2_ARRAY_CHAR_INDEX_SCALE", type := .int, accessFlags := 25, slot := 4, constantValue := 0 }, { name := "LOG2_ARRAY_SHORT_INDEX_SCALE", type := .int, accessFlags := 25, slot := 5, constantValue := 0 }, { name := "LOG2_ARRAY_INT_INDEX_SCALE", type := .int, accessFlags := 25, slot := 6, constantValue := 0 }, { name := "LOG2_ARRAY_LONG_INDEX_SCALE", type := .int, accessFlags := 25, slot := 7, constantValue := 0 }, { name := "LOG2_ARRAY_FLOAT_INDEX_SCALE", type := .int, accessFlags := 25, slot := 8, constantValue := 0 }, { name := "LOG2_ARRAY_DOUBLE_INDEX_SCALE", type := .int, accessFlags := 25, slot := 9, constantValue := 0 }, { name := "LOG2_BYTE_BIT_SIZE", type := .int, accessFlags := 26, slot := 10, constantValue := 0 }, { name := "T_BOOLEAN", type := .int, accessFlags := 25, slot := 11, constantValue := 0 }, { name := "T_CHAR", type := .int, accessFlags := 25, slot := 12, constantValue := 0 }, { name := "T_FLOAT", type := .int, accessFlags := 25, slot := 13, constantValue := 0 }, { name := "T_DOUBLE", type := .int, accessFlags := 25, slot := 14, constantValue := 0 }, { name := "T_BYTE", type := .int, accessFlags := 25, slot := 15, constantValue := 0 }, { name := "T_SHORT", type := .int, accessFlags := 25, slot := 16, constantValue := 0 }, { name := "T_INT", type := .int, accessFlags := 25, slot := 17, constantValue := 0 }, { name := "T_LONG", type := .int, accessFlags := 25, slot := 18, constantValue := 0 }, { name := "JLA", type := (.object "jdk/internal/access/JavaLangAccess"), accessFlags := 26, slot := 19, constantValue := 0 }, { name := "SOFT_MAX_ARRAY_LENGTH", type := .int, accessFlags := 25, slot := 20, constantValue := 0 }]
  methods := #[k14m0]
  instanceTypes := #[]
  staticTypes := #[(.object "jdk/internal/misc/Unsafe"), .boolean, .int, .int, .int, .int, .int, .int, .int, .int, .int, .int, .int, .int, .int, .int, .int, .int, .int, (.object "jdk/internal/access/JavaLangAccess"), .int]
  resolved := Array.replicate 378 none
  statics := none }

def pool15 : Array CpInfo := pool [(1, u "java/lang/Cloneable"), (0, .class_ 1), (0, u "java/lang/Object"), (0, .class_ 3)] 3

/-- java/lang/Cloneable -/
def k15 : Class := { plain "java/lang/Cloneable" (some 0) with
  accessFlags := 1537
  interfaces := #[]
  cf := some (fileOf pool15 2 #[] #[] 1537 4 #[] #[])
  fields := #[]
  methods := #[]
  instanceTypes := #[]
  staticTypes := #[]
  resolved := Array.replicate 8 none
  statics := none }

/-- the primitive byte -/
def k16 : Class := { plain "byte" none with kind := .primitive 'B', accessFlags := 0x411 }
/-- [B -/
def k17 : Class := { plain "[B" (some 0) with kind := .array 16 .byte, interfaces := #[15, 2], accessFlags := 1041 }

/-- the primitive char -/
def k18 : Class := { plain "char" none with kind := .primitive 'C', accessFlags := 0x411 }
/-- [C -/
def k19 : Class := { plain "[C" (some 0) with kind := .array 18 .char, interfaces := #[15, 2], accessFlags := 1041 }

/-- the primitive int -/
def k20 : Class := { plain "int" none with kind := .primitive 'I', accessFlags := 0x411 }
/-- [I -/
def k21 : Class := { plain "[I" (some 0) with kind := .array 20 .int, interfaces := #[15, 2], accessFlags := 1041 }

def heap : Heap := #[{ cls := 7, slots := #[.long 0, .int 1, .null, .int 0, .null, .int 0, .int 0], vm := .statics 7 },
  { cls := 13, slots := #[.null, .null, .null], vm := .statics 13 }]
def classes : Array Class := #[k0, k1, k2, k3, k4, k5, k6, k7, k8, k9, k10, k11, k12, k13, k14, k15, k16, k17, k18, k19, k20, k21]
def interned : List (Array UInt16 × Addr) := []
def slotsUsed : Nat := 10
def theMethod : MethodId := ⟨1, 1⟩
def args0 : Array Value := #[.int 3, .int 4, .int 0, .int 5, .int 6, .int 7]
def aboutOver (below : List Frame) : State where
  vm := { classes := classes, interned := interned.toArray }
  heap := heap
  slotsUsed := slotsUsed
  threads := #[{ frames := .invoking theMethod args0 :: below }]
def below0 : List Frame := [.native { method := ⟨0, 0⟩, args := #[] }]
def about1 : State := aboutOver below0
def p0 : Program := .bare "" "" ""
def e0 : Env := launch0.env 0 0 0
theorem w_frames : about1.frames = Frame.invoking theMethod args0 :: below0 := rfl
set_option maxRecDepth 65536 in
theorem w_args : argsFit about1.vm theMethod args0 = true := by decide +kernel
set_option maxRecDepth 65536 in
theorem w_heap : heapFits about1 = true := by decide +kernel
set_option maxRecDepth 65536 in
theorem w_runnable : about1.curStatus? = some .runnable := by decide +kernel
set_option maxRecDepth 65536 in
theorem w_alone : about1.alone = true := by decide +kernel
set_option maxRecDepth 65536 in
theorem w_named : about1.methodNamed? x = some theMethod := by decide +kernel
set_option maxRecDepth 65536 in
theorem w_hears : about1.hears theMethod below0 = true := by decide +kernel
set_option maxRecDepth 65536 in
theorem w_ripe : about1.ripe theMethod args0 below0 = true := by decide +kernel
theorem w_running : about1.status = .running := rfl
set_option maxRecDepth 65536 in
theorem w_room : about1.hasRoom e0.platform room_1 = true :=
  launch0.hasRoom_least _ room_1 (by decide +kernel) (by decide +kernel) (by decide +kernel) (by decide +kernel) (by decide +kernel) (by decide +kernel)
theorem allAtoms_all (ts : List Jvm.Cond) (a : Array Jvm.Value) (st : Jvm.State) : (allAtoms ts).before a st = ts.all (fun c => c.before a st) := by
  induction ts with
  | nil => rfl
  | cons c t ih =>
    show (Jvm.Cond.and c (allAtoms t)).before a st = _
    rw [Jvm.Cond.before_and, ih, List.all_cons]
def words1 : List Jvm.Cond := Jvm.Cond.code x code maxLocals ret :: tables_1
/-- a 'code' word, met by the world's own term for the bytes: nothing is compared byte by byte -/
theorem code_word {y : MethodName} {bytes : ByteArray} {mx : Nat} {rt : Option FieldType} {a : Array Value} {s : State} {m : MethodId} {meth : Method} {c : Code} (h1 : s.methodNamed? y = some m) (h2 : s.vm.method? m = some meth) (h3 : meth.code = some c) (h4 : c.code = bytes)
    (h5 : (c.maxLocals == mx && c.exceptionTable.isEmpty && decide (c.maxStack ≤ mostOperands) && decide (meth.sig.returnType = rt) && !meth.locks && decide (parseMethodDescriptor y.desc = some meth.sig)) = true) : (Jvm.Cond.code y bytes mx rt).before a s = true := by
  simp only [Bool.and_eq_true, beq_iff_eq, Bool.not_eq_true', decide_eq_true_eq] at h5
  obtain ⟨⟨⟨⟨⟨g1, g2⟩, g3⟩, g4⟩, g5⟩, g6⟩ := h5
  simp [Cond.before, Cond.holds, Cond.value, h1, h2, h3, h4, g1, g2, g3, g4, g5, g6]
def isCode : Jvm.Cond → Bool
  | .code _ _ _ _ => true
  | _ => false
theorem all_split {L : List Jvm.Cond} {P : Jvm.Cond → Bool} (h1 : L.all (fun c => isCode c || P c) = true) (h2 : ∀ c ∈ L.filter isCode, P c = true) : L.all P = true := by
  refine List.all_eq_true.mpr fun c hc => ?_
  have h := List.all_eq_true.mp h1 c hc
  rcases Bool.eq_false_or_eq_true (isCode c) with hi | hi
  · exact h2 c (List.mem_filter.mpr ⟨hc, hi⟩)
  · simpa [hi] using h
set_option maxRecDepth 65536 in
theorem w_c0 : (Jvm.Cond.code x code maxLocals ret).before args0 about1 = true := code_word (m := ⟨1, 1⟩) (meth := k1m1) (c := k1c1) (by decide +kernel) rfl rfl rfl (by decide +kernel)
set_option maxRecDepth 65536 in
theorem w_c1 : (Jvm.Cond.code ({ cls := "com/example/ringfence/ringfence/NumberPatternRankPinLaw", name := "str", desc := "(II)Ljava/lang/String;" } : Jvm.MethodName) method_4_code (2 : Nat) (Option.some (Jvm.ClassFile.FieldType.object "java/lang/String"))).before args0 about1 = true := code_word (m := ⟨1, 3⟩) (meth := k1m3) (c := k1c3) (by decide +kernel) rfl rfl rfl (by decide +kernel)
set_option maxRecDepth 65536 in
theorem w_c2 : (Jvm.Cond.code ({ cls := "java/lang/String", name := "<init>", desc := "([C)V" } : Jvm.MethodName) jdk_42_method_3_code (2 : Nat) (Option.none : Option Jvm.ClassFile.FieldType)).before args0 about1 = true := code_word (m := ⟨7, 1⟩) (meth := k7m1) (c := k7c1) (by decide +kernel) rfl rfl rfl (by decide +kernel)
set_option maxRecDepth 65536 in
theorem w_c3 : (Jvm.Cond.code ({ cls := "java/lang/String", name := "<init>", desc := "([CIILjava/lang/Void;)V" } : Jvm.MethodName) jdk_42_method_149_code (6 : Nat) (Option.none : Option Jvm.ClassFile.FieldType)).before args0 about1 = true := code_word (m := ⟨7, 4⟩) (meth := k7m4) (c := k7c4) (by decide +kernel) rfl rfl rfl (by decide +kernel)
set_option maxRecDepth 65536 in
theorem w_c4 : (Jvm.Cond.code ({ cls := "java/lang/Object", name := "<init>", desc := "()V" } : Jvm.MethodName) object_method_1_code (1 : Nat) (Option.none : Option Jvm.ClassFile.FieldType)).before args0 about1 = true := code_word (m := ⟨0, 0⟩) (meth := k0m0) (c := k0c0) (by decide +kernel) rfl rfl rfl (by decide +kernel)
set_option maxRecDepth 65536 in
theorem w_c5 : (Jvm.Cond.code ({ cls := "com/example/ringfence/ringfence/NumberPatternRankPinLaw", name := "dg", desc := "(II)C" } : Jvm.MethodName) method_3_code (2 : Nat) (Option.some Jvm.ClassFile.FieldType.char)).before args0 about1 = true := code_word (m := ⟨1, 2⟩) (meth := k1m2) (c := k1c2) (by decide +kernel) rfl rfl rfl (by decide +kernel)
set_option maxRecDepth 65536 in
theorem w_c6 : (Jvm.Cond.code ({ cls := "java/lang/StringUTF16", name := "compress", desc := "([CII)[B" } : Jvm.MethodName) jdk_52_method_16_code (6 : Nat) (Option.some (Jvm.ClassFile.FieldType.array Jvm.ClassFile.FieldType.byte))).before args0 about1 = true := code_word (m := ⟨8, 2⟩) (meth := k8m2) (c := k8c2) (by decide +kernel) rfl rfl rfl (by decide +kernel)
set_option maxRecDepth 65536 in
theorem w_c7 : (Jvm.Cond.code ({ cls := "java/lang/StringUTF16", name := "compress", desc := "([CI[BII)I" } : Jvm.MethodName) jdk_52_method_21_code (7 : Nat) (Option.some Jvm.ClassFile.FieldType.int)).before args0 about1 = true := code_word (m := ⟨8, 3⟩) (meth := k8m3) (c := k8c3) (by decide +kernel) rfl rfl rfl (by decide +kernel)
set_option maxRecDepth 65536 in
theorem w_c8 : (Jvm.Cond.code ({ cls := "java/lang/StringUTF16", name := "coderFromArrayLen", desc := "([BI)B" } : Jvm.MethodName) jdk_52_method_15_code (2 : Nat) (Option.some Jvm.ClassFile.FieldType.byte)).before args0 about1 = true := code_word (m := ⟨8, 1⟩) (meth := k8m1) (c := k8c1) (by decide +kernel) rfl rfl rfl (by decide +kernel)
set_option maxRecDepth 65536 in
theorem w_c9 : (Jvm.Cond.code ({ cls := "com/example/ringfence/ringfence/NumberPatternRankPinLaw", name := "nines", desc := "(I)Ljava/lang/String;" } : Jvm.MethodName) method_5_code (1 : Nat) (Option.some (Jvm.ClassFile.FieldType.object "java/lang/String"))).before args0 about1 = true := code_word (m := ⟨1, 4⟩) (meth := k1m4) (c := k1c4) (by decide +kernel) rfl rfl rfl (by decide +kernel)
set_option maxRecDepth 65536 in
theorem w_c10 : (Jvm.Cond.code ({ cls := "com/example/ringfence/ringfence/NumberPattern", name := "<init>", desc := "(Ljava/lang/String;Ljava/lang/String;Ljava/lang/String;)V" } : Jvm.MethodName) prog_28_method_1_code (4 : Nat) (Option.none : Option Jvm.ClassFile.FieldType)).before args0 about1 = true := code_word (m := ⟨11, 0⟩) (meth := k11m0) (c := k11c0) (by decide +kernel) rfl rfl rfl (by decide +kernel)
set_option maxRecDepth 65536 in
theorem w_c11 : (Jvm.Cond.code ({ cls := "java/lang/Record", name := "<init>", desc := "()V" } : Jvm.MethodName) jdk_30_method_1_code (1 : Nat) (Option.none : Option Jvm.ClassFile.FieldType)).before args0 about1 = true := code_word (m := ⟨9, 0⟩) (meth := k9m0) (c := k9c0) (by decide +kernel) rfl rfl rfl (by decide +kernel)
set_option maxRecDepth 65536 in
theorem w_c12 : (Jvm.Cond.code ({ cls := "com/example/ringfence/ringfence/NumberPattern", name := "rank", desc := "()I" } : Jvm.MethodName) prog_28_method_4_code (1 : Nat) (Option.some Jvm.ClassFile.FieldType.int)).before args0 about1 = true := code_word (m := ⟨11, 1⟩) (meth := k11m1) (c := k11c1) (by decide +kernel) rfl rfl rfl (by decide +kernel)
set_option maxRecDepth 65536 in
theorem w_c13 : (Jvm.Cond.code ({ cls := "java/lang/String", name := "isEmpty", desc := "()Z" } : Jvm.MethodName) jdk_42_method_55_code (1 : Nat) (Option.some Jvm.ClassFile.FieldType.boolean)).before args0 about1 = true := code_word (m := ⟨7, 3⟩) (meth := k7m3) (c := k7c3) (by decide +kernel) rfl rfl rfl (by decide +kernel)
set_option maxRecDepth 65536 in
theorem w_c14 : (Jvm.Cond.code ({ cls := "java/lang/String", name := "length", desc := "()I" } : Jvm.MethodName) jdk_42_method_54_code (1 : Nat) (Option.some Jvm.ClassFile.FieldType.int)).before args0 about1 = true := code_word (m := ⟨7, 2⟩) (meth := k7m2) (c := k7c2) (by decide +kernel) rfl rfl rfl (by decide +kernel)
set_option maxRecDepth 65536 in
theorem w_c15 : (Jvm.Cond.code ({ cls := "java/lang/String", name := "coder", desc := "()B" } : Jvm.MethodName) jdk_42_method_152_code (1 : Nat) (Option.some Jvm.ClassFile.FieldType.byte)).before args0 about1 = true := code_word (m := ⟨7, 5⟩) (meth := k7m5) (c := k7c5) (by decide +kernel) rfl rfl rfl (by decide +kernel)
set_option maxRecDepth 65536 in
theorem w_c16 : (Jvm.Cond.code ({ cls := "com/example/ringfence/ringfence/NumberPatternRankPinLaw", name := "zeros", desc := "(I)Ljava/lang/String;" } : Jvm.MethodName) method_6_code (1 : Nat) (Option.some (Jvm.ClassFile.FieldType.object "java/lang/String"))).before args0 about1 = true := code_word (m := ⟨1, 5⟩) (meth := k1m5) (c := k1c5) (by decide +kernel) rfl rfl rfl (by decide +kernel)
def codes1 : List Jvm.Cond := [Jvm.Cond.code x code maxLocals ret, Jvm.Cond.code ({ cls := "com/example/ringfence/ringfence/NumberPatternRankPinLaw", name := "str", desc := "(II)Ljava/lang/String;" } : Jvm.MethodName) method_4_code (2 : Nat) (Option.some (Jvm.ClassFile.FieldType.object "java/lang/String")), Jvm.Cond.code ({ cls := "java/lang/String", name := "<init>", desc := "([C)V" } : Jvm.MethodName) jdk_42_method_3_code (2 : Nat) (Option.none : Option Jvm.ClassFile.FieldType), Jvm.Cond.code ({ cls := "java/lang/String", name := "<init>", desc := "([CIILjava/lang/Void;)V" } : Jvm.MethodName) jdk_42_method_149_code (6 : Nat) (Option.none : Option Jvm.ClassFile.FieldType), Jvm.Cond.code ({ cls := "java/lang/Object", name := "<init>", desc := "()V" } : Jvm.MethodName) object_method_1_code (1 : Nat) (Option.none : Option Jvm.ClassFile.FieldType), Jvm.Cond.code ({ cls := "com/example/ringfence/ringfence/NumberPatternRankPinLaw", name := "dg", desc := "(II)C" } : Jvm.MethodName) method_3_code (2 : Nat) (Option.some Jvm.ClassFile.FieldType.char), Jvm.Cond.code ({ cls := "java/lang/StringUTF16", name := "compress", desc := "([CII)[B" } : Jvm.MethodName) jdk_52_method_16_code (6 : Nat) (Option.some (Jvm.ClassFile.FieldType.array Jvm.ClassFile.FieldType.byte)), Jvm.Cond.code ({ cls := "java/lang/StringUTF16", name := "compress", desc := "([CI[BII)I" } : Jvm.MethodName) jdk_52_method_21_code (7 : Nat) (Option.some Jvm.ClassFile.FieldType.int), Jvm.Cond.code ({ cls := "java/lang/StringUTF16", name := "coderFromArrayLen", desc := "([BI)B" } : Jvm.MethodName) jdk_52_method_15_code (2 : Nat) (Option.some Jvm.ClassFile.FieldType.byte), Jvm.Cond.code ({ cls := "com/example/ringfence/ringfence/NumberPatternRankPinLaw", name := "nines", desc := "(I)Ljava/lang/String;" } : Jvm.MethodName) method_5_code (1 : Nat) (Option.some (Jvm.ClassFile.FieldType.object "java/lang/String")), Jvm.Cond.code ({ cls := "com/example/ringfence/ringfence/NumberPattern", name := "<init>", desc := "(Ljava/lang/String;Ljava/lang/String;Ljava/lang/String;)V" } : Jvm.MethodName) prog_28_method_1_code (4 : Nat) (Option.none : Option Jvm.ClassFile.FieldType), Jvm.Cond.code ({ cls := "java/lang/Record", name := "<init>", desc := "()V" } : Jvm.MethodName) jdk_30_method_1_code (1 : Nat) (Option.none : Option Jvm.ClassFile.FieldType), Jvm.Cond.code ({ cls := "com/example/ringfence/ringfence/NumberPattern", name := "rank", desc := "()I" } : Jvm.MethodName) prog_28_method_4_code (1 : Nat) (Option.some Jvm.ClassFile.FieldType.int), Jvm.Cond.code ({ cls := "java/lang/String", name := "isEmpty", desc := "()Z" } : Jvm.MethodName) jdk_42_method_55_code (1 : Nat) (Option.some Jvm.ClassFile.FieldType.boolean), Jvm.Cond.code ({ cls := "java/lang/String", name := "length", desc := "()I" } : Jvm.MethodName) jdk_42_method_54_code (1 : Nat) (Option.some Jvm.ClassFile.FieldType.int), Jvm.Cond.code ({ cls := "java/lang/String", name := "coder", desc := "()B" } : Jvm.MethodName) jdk_42_method_152_code (1 : Nat) (Option.some Jvm.ClassFile.FieldType.byte), Jvm.Cond.code ({ cls := "com/example/ringfence/ringfence/NumberPatternRankPinLaw", name := "zeros", desc := "(I)Ljava/lang/String;" } : Jvm.MethodName) method_6_code (1 : Nat) (Option.some (Jvm.ClassFile.FieldType.object "java/lang/String"))]
set_option maxRecDepth 65536 in
theorem codes_eq : words1.filter isCode = codes1 := rfl
theorem w_codes : ∀ c ∈ words1.filter isCode, c.before args0 about1 = true := by
  rw [codes_eq]
  intro c hc
  simp only [codes1, List.mem_cons, List.not_mem_nil, or_false] at hc
  rcases hc with rfl | rfl | rfl | rfl | rfl | rfl | rfl | rfl | rfl | rfl | rfl | rfl | rfl | rfl | rfl | rfl | rfl
  · exact w_c0
  · exact w_c1
  · exact w_c2
  · exact w_c3
  · exact w_c4
  · exact w_c5
  · exact w_c6
  · exact w_c7
  · exact w_c8
  · exact w_c9
  · exact w_c10
  · exact w_c11
  · exact w_c12
  · exact w_c13
  · exact w_c14
  · exact w_c15
  · exact w_c16
set_option maxRecDepth 65536 in
theorem w_t1 : (words1.take 24).all (fun c => isCode c || c.before args0 about1) = true := by decide +kernel
set_option maxRecDepth 65536 in
theorem w_t2 : ((words1.drop 24).take 24).all (fun c => isCode c || c.before args0 about1) = true := by decide +kernel
set_option maxRecDepth 65536 in
theorem w_t3 : (((words1.drop 24).drop 24).take 24).all (fun c => isCode c || c.before args0 about1) = true := by decide +kernel
set_option maxRecDepth 65536 in
theorem w_t4 : (((words1.drop 24).drop 24).drop 24).all (fun c => isCode c || c.before args0 about1) = true := by decide +kernel
theorem w_tables : (allAtoms (Jvm.Cond.code x code maxLocals ret :: tables_1)).before args0 about1 = true := by
  rw [allAtoms_all]
  show words1.all (fun c => c.before args0 about1) = true
  refine all_split ?_ w_codes
  rw [← List.take_append_drop 24 words1, List.all_append, w_t1, ← List.take_append_drop 24 (words1.drop 24), List.all_append, w_t2, ← List.take_append_drop 24 ((words1.drop 24).drop 24), List.all_append, w_t3, w_t4]
  rfl
set_option maxRecDepth 65536 in
theorem w_rest : rest_1_c.before args0 about1 = true := by decide +kernel
set_option maxRecDepth 65536 in
theorem w_case : (Jvm.Cond.and given_1 narrow_1).before args0 about1 = true := by decide +kernel
set_option maxRecDepth 65536 in
theorem w_consts : constsHeld consts_1 about1 := Jvm.Lit.constsHeldB_iff.mp (by decide +kernel)
theorem w_applies : (headSpec (Jvm.Cond.code x code maxLocals ret :: tables_1) room_1).applies x e0.platform about1 = true :=
  (Spec.applies_iff w_frames).mpr ⟨w_running, w_runnable, w_alone, w_named, w_hears, w_ripe, w_room, w_tables⟩
theorem atStart : AtStart classFile x code maxLocals ret World_1 tables_1 room_1 Calls_1 rest_1 Pre_1 launch0 p0 e0 about1 theMethod args0 below0 :=
  ⟨lists_1, trivial, launch0.admits_env _ _ _, launch0.least_env, fairChoices_fair.cas, fairChoices_fair.clock, w_frames, w_args, w_heap, w_applies, ⟨w_consts, trivial⟩, w_rest, w_case⟩
end start1
theorem witness_1 : WitnessClaimed_1 := ⟨start1.p0, start1.e0, start1.about1, start1.theMethod, start1.args0, start1.below0, start1.atStart⟩
end Jvm.Pilot.@@N@@
