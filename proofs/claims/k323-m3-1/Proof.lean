import JvmDerived
import JvmDerived.Pilot.@@N@@Statement
import JvmDerived.Pilot.@@N@@Code
set_option linter.unusedVariables false
set_option linter.unusedSimpArgs false
namespace Jvm.RoadKit
open Sem ClassFile Op Lib Jvm.Stand Jvm.Free Jvm.LawKit
section New
variable {p : Program} {l : Launch} {e : Env} {R : Room} {s : State} {m : MethodId} {args : Array Value} {below : List Frame} {meth : Method} {c : Code} {T : State} {locs : List Loc} {cells slots : Nat}
theorem retI (X : Stand p l e R s m args below meth c T locs cells slots) (hx : p.tables.exec = Jvm.exec) {pc : Nat} {Ls : Array Slot} {z : Int32} {rest : List Value} (hret : meth.sig.returnType = some .int) (hd : decode c.code pc = .ok (.ireturn, 1)) {fs : List Frame}
    (hl : ∀ (f : JFrame) (acts : List Action), f.method = m → f.locked = none → f.entered = [] → (doReturn e (T.setTop f) acts (some (.int z))).1 = T.setFrames fs) : Steps p.tables e below (T.setTop (mkF m pc Ls (.int z :: rest))) (T.setFrames fs) := by
  have hm' : T.vm.method? m = some meth := X.method'
  have hn : narrow .int (.int z) = .int z := rfl
  show Steps p.tables e below (T.setTop { method := m, pc := pc, locals := Ls, stack := _ :: rest, locked := none }) _
  jvm_step X.here [X.here.top, hx, hd, hm', hret, hn]
  first | (intro acts; rw [hl _ acts rfl rfl rfl]) | rw [hl _ _ rfl rfl rfl]
  exact Steps.refl _
end New
end Jvm.RoadKit
namespace Jvm.Pilot.@@N@@
open Jvm Jvm.ClassFile Sem Op Lib Jvm.Free Jvm.Stand Jvm.LawKit Jvm.RoadKit Bundle Jvm.Pilot.@@N@@.Jvm.D

theorem own_four (n : Int32) : (n &&& (3 : Int32)) = (0 : Int32) ∨ (n &&& (3 : Int32)) = (1 : Int32) ∨ (n &&& (3 : Int32)) = (2 : Int32) ∨ (n &&& (3 : Int32)) = (3 : Int32) := by
  have e := c_mask n 3 2 (by decide) (by decide)
  simp only [← Int32.toInt_inj]
  have e0 : (0 : Int32).toInt = 0 := by decide
  have e1 : (1 : Int32).toInt = 1 := by decide
  have e2 : (2 : Int32).toInt = 2 := by decide
  have e3 : (3 : Int32).toInt = 3 := by decide
  omega
theorem pn_1 : plainName "com/example/find_leader/findleader/engine/LongHeap" = true := by first | (simp [plainName, overriddenIn]; done) | decide +kernel
theorem ef_1_R (m : MethodId) (x0 : Addr) : entryFrame m #[(.ref x0)] 1 = mkF m 0 #[.val (.ref x0)] [] := by first | (simp [entryFrame, mkF, argsToLocals, Value.category]; done) | rfl
theorem d1_0 : decode prog_27_method_1_code 0 = .ok (.aload_n 0, 1) := by decide +kernel
theorem d1_1 : decode prog_27_method_1_code 1 = .ok (.invokespecial 1, 3) := by decide +kernel
theorem d1_4 : decode prog_27_method_1_code 4 = .ok (.aload_n 0, 1) := by decide +kernel
theorem d1_5 : decode prog_27_method_1_code 5 = .ok (.bipush 16, 2) := by decide +kernel
theorem d1_7 : decode prog_27_method_1_code 7 = .ok (.newarray .long, 2) := by decide +kernel
theorem d1_9 : decode prog_27_method_1_code 9 = .ok (.putfield 7, 3) := by decide +kernel
theorem d1_12 : decode prog_27_method_1_code 12 = .ok (.return_, 1) := by decide +kernel
def Q_rm1 (Z : State) (a : Addr) (h0 : Heap) (n0 : Nat) (v : Option Value) (h : Heap) (L : List Loc) : Prop := v = none ∧ Fr n0 L ∧ Keep h0 h [a] ∧ ∃ (b : Addr) (kA : ClassId), n0 ≤ b ∧ a ≠ b ∧ Fld Z h a "com/example/find_leader/findleader/engine/LongHeap" "values" "[J" (.ref b) ∧ Fld Z h a "com/example/find_leader/findleader/engine/LongHeap" "size" "I" (.int (0 : Int32)) ∧ Arv Z h b kA .long (16 : Int32) [(.long (0 : Int64)), (.long (0 : Int64)), (.long (0 : Int64)), (.long (0 : Int64)), (.long (0 : Int64)), (.long (0 : Int64)), (.long (0 : Int64)), (.long (0 : Int64)), (.long (0 : Int64)), (.long (0 : Int64)), (.long (0 : Int64)), (.long (0 : Int64)), (.long (0 : Int64)), (.long (0 : Int64)), (.long (0 : Int64)), (.long (0 : Int64))] (.long (0 : Int64))
set_option maxRecDepth 65536 in
set_option maxHeartbeats 40000000 in
theorem rm1 (l : Launch) (Z : State) (a0 : Array Value) (hw : ∀ d ∈ tables_1, d.before a0 Z = true) (ws : List Jvm.Cond) (a : Addr) (h0 : Heap) (n0 : Nat) (Z0 : n0 ≤ h0.size) (E_a : Exa Z h0 a "com/example/find_leader/findleader/engine/LongHeap") (F_values : Fld Z h0 a "com/example/find_leader/findleader/engine/LongHeap" "values" "[J" .null) (F_size : Fld Z h0 a "com/example/find_leader/findleader/engine/LongHeap" "size" "I" (.int (0 : Int32))) (O_a : n0 ≤ a) :
    MetFree l (⟨"com/example/find_leader/findleader/engine/LongHeap", "<init>", "()V"⟩ : MethodName) (head1 (Jvm.Cond.code (⟨"com/example/find_leader/findleader/engine/LongHeap", "<init>", "()V"⟩ : MethodName) prog_27_method_1_code 1 none :: ws) ({ frames := 1, cells := 1, slots := 16, locals := 12 } : Room)) (fun argv U => argv = #[(.ref a)] ∧ Z.Warmed39 U.vm ∧ U.heap = h0) (fun _ _ _ _ _ => True) (fun _ U o U' => ∃ v L, o = .returned v ∧ Q_rm1 Z a h0 n0 v U'.heap L ∧ FrameEnd U o U' L ({ frames := 1, cells := 1, slots := 16, locals := 12 } : Room).cells ({ frames := 1, cells := 1, slots := 16, locals := 12 } : Room).slots) := by
  refine MetFree.of_bodySF (plainFor_of_name pn_1) hisR ?_
  intro p e s m args below meth c s₁ Bd hml0 hP hK
  obtain ⟨rfl, hZ, hh⟩ := hP
  have hx := Bd.exec
  have hby := Bd.bytes
  have hml : c.maxLocals = 1 := hml0
  have hown : s.vm.findClass "com/example/find_leader/findleader/engine/LongHeap" = some m.cls := findClass_of_methodNamed Bd.named
  have hnm := (name_of_methodNamed Bd.named Bd.method).1
  have X0 : Stand p l e ({ frames := 1, cells := 1, slots := 16, locals := 12 } : Room) s m #[(.ref a)] below meth c s₁ [] 0 0 := Stand.of_body Bd
  have e0 : s₁.heap = h0 := by rw [← hh, Bd.state]; rfl
  have N0 := Fr.nil n0
  obtain ⟨G, hG⟩ : ∃ G : State → Prop, G = fun tg => Steps p.tables e below (s₁.setTop (entryFrame m #[(.ref a)] 1)) tg := ⟨_, rfl⟩
  have pre0 : ∀ tg, Steps p.tables e below (s₁.setTop (mkF m 0 #[.val (.ref a)] [])) tg → G tg := fun tg kt => by rw [hG]; exact castTop (ef_1_R m a) kt
  have pre1 : ∀ tg, Steps p.tables e below (s₁.setTop (mkF m 1 #[.val (.ref a)] [(.ref a)])) tg → G tg := fun tg kt => pre0 tg (by
    show Steps p.tables e below (s₁.setTop (mkF m 0 #[.val (.ref a)] [])) _
    refine XS.aloadN X0.here hx rfl (hb hby d1_0) rfl rfl ?_
    exact kt)
  obtain ⟨T2, X2, e2, st2⟩ := initO X0 hx hZ hown (hw _ (List.mem_of_getElem? (i := 6) rfl)) (hw _ (List.mem_of_getElem? (i := 7) rfl)) (hw _ (List.mem_of_getElem? (i := 8) rfl)) e0 (g := (mkF m 1 #[.val (.ref a)] [(.ref a)])) rfl (by rw [hml]; rfl) rfl (hb hby d1_1) (by decide) (W := 0) (by show 2 * 0 + _ ≤ _; exact Nat.le_of_eq rfl) (by decide)
  have pre2s : ∀ tg, Steps p.tables e below (T2.setTop (mkF m 4 #[.val (.ref a)] [])) tg → G tg := fun tg kt => pre1 tg (st2 tg kt)
  have pre3 : ∀ tg, Steps p.tables e below (T2.setTop (mkF m 7 #[.val (.ref a)] [(.int (16 : Int32)), (.ref a)])) tg → G tg := fun tg kt => pre2s tg (by
    show Steps p.tables e below (T2.setTop (mkF m 4 #[.val (.ref a)] [])) _
    refine XS.aloadN X2.here hx rfl (hb hby d1_4) rfl rfl ?_
    show Steps p.tables e below (T2.setTop (mkF m 5 #[.val (.ref a)] [(.ref a)])) _
    refine XS.bipush X2.here hx rfl (hb hby d1_5) ?_
    exact kt)
  obtain ⟨T4, h4, k4, X4, e4, E4, A4, st4⟩ := newP X2 hx hZ (hw _ (List.mem_of_getElem? (i := 9) rfl)) e2 (g := (mkF m 7 #[.val (.ref a)] [(.int (16 : Int32)), (.ref a)])) rfl (hb hby d1_7) rfl (by decide) (cap := 16) (by decide) (by decide) (by decide) (by decide)
  obtain ⟨b, g4⟩ : ∃ z, z = h0.size := ⟨_, rfl⟩
  rw [← g4] at A4 st4
  have O_b : n0 ≤ b := Nat.le_trans Z0 (Nat.le_of_eq g4.symm)
  have Z4 : n0 ≤ h4.size := Nat.le_trans Z0 E4.1
  have ne_a_b : a ≠ b := Nat.ne_of_lt (Nat.lt_of_lt_of_le E_a.lt (Nat.le_of_eq g4.symm))
  have S_b : h0.size ≤ b := Nat.le_trans (Keep.refl h0 [a]).1 (Nat.le_of_eq g4.symm)
  have pre4s : ∀ tg, Steps p.tables e below (T4.setTop (mkF m 9 #[.val (.ref a)] [(.ref b), (.ref a)])) tg → G tg := fun tg kt => pre3 tg (st4 tg kt)
  have E_a_5 := E_a.ext E4
  have F_values_6 := F_values.ext E4
  have F_size_7 := F_size.ext E4
  have V_b : Arv Z h4 b k4 .long (16 : Int32) [(.long (0 : Int64)), (.long (0 : Int64)), (.long (0 : Int64)), (.long (0 : Int64)), (.long (0 : Int64)), (.long (0 : Int64)), (.long (0 : Int64)), (.long (0 : Int64)), (.long (0 : Int64)), (.long (0 : Int64)), (.long (0 : Int64)), (.long (0 : Int64)), (.long (0 : Int64)), (.long (0 : Int64)), (.long (0 : Int64)), (.long (0 : Int64))] (.long (0 : Int64)) := (Arv.new A4 (by decide)).pad (pad_rep [] (.long (0 : Int64)) 16)
  have K4 : Keep h0 h4 [a] := (Keep.refl h0 [a]).ext E4
  obtain ⟨T8, h8, X8, e8, W8, st8⟩ := putF X4 hx hZ hown (host := "") (Or.inl (hw _ (List.mem_of_getElem? (i := 10) rfl))) Via.refl e4 F_values_6 E_a_5 (Or.inl (hw _ (List.mem_of_getElem? (i := 11) rfl))) (hw _ (List.mem_of_getElem? (i := 1) rfl)) (ty := (.array .long)) (by decide) rfl rfl (g := (mkF m 9 #[.val (.ref a)] [(.ref b), (.ref a)])) rfl rfl (hb hby d1_9)
  have pre8s : ∀ tg, Steps p.tables e below (T8.setTop (mkF m 12 #[.val (.ref a)] [])) tg → G tg := fun tg kt => pre4s tg (st8 tg kt)
  have E_a_9 := E_a_5.wr W8
  have F_values_10 := F_values_6.same W8
  have F_size_11 := F_size_7.other W8 (Or.inr (slot_ne (Or.inl (hw _ (List.mem_of_getElem? (i := 18) rfl))) (Or.inl (hw _ (List.mem_of_getElem? (i := 11) rfl))) (by decide) (t := .int) (t' := (.array .long)) (by decide) (by decide)))
  have V_b_12 := V_b.other W8 (Ne.symm ne_a_b)
  have N8 := Fr.snoc X8 N0 O_a
  have Z8 : n0 ≤ h8.size := Nat.le_trans Z4 (Keep.of_wr W8).1
  have K8 : Keep h0 h8 [a] := K4.wr W8 (Or.inl (List.mem_of_getElem? (i := 0) rfl))
  obtain ⟨fs, hr, hrun, hended, hW, hsame⟩ := X8.leave (v := none) (fun _ => rfl)
  subst hG
  refine ⟨_, _, pre8s _ ?_, hrun, hended, _, _, rfl, ?_, ⟨_, rfl⟩, hW, hsame.mono (by decide) (by decide)⟩
  · skip
    show Steps p.tables e below (T8.setTop (mkF m 12 #[.val (.ref a)] [])) _
    exact X8.returnOut hx Bd.returns (hb hby d1_12) hr
  · show Q_rm1 Z a h0 n0 _ T8.heap _
    rw [e8]
    exact ⟨rfl, N8, K8, b, _, O_b, ne_a_b, F_values_10, F_size_11, V_b_12⟩
theorem pn_3 : plainName "com/example/find_leader/findleader/engine/LongHeap" = true := by first | (simp [plainName, overriddenIn]; done) | decide +kernel
theorem ef_3_R (m : MethodId) (x0 : Addr) : entryFrame m #[(.ref x0)] 1 = mkF m 0 #[.val (.ref x0)] [] := by first | (simp [entryFrame, mkF, argsToLocals, Value.category]; done) | rfl
theorem d3_0 : decode prog_27_method_2_code 0 = .ok (.aload_n 0, 1) := by decide +kernel
theorem d3_1 : decode prog_27_method_2_code 1 = .ok (.getfield 13, 3) := by decide +kernel
theorem d3_4 : decode prog_27_method_2_code 4 = .ok (.ifCond .ne 7, 3) := by decide +kernel
theorem d3_7 : decode prog_27_method_2_code 7 = .ok (.iconst 1, 1) := by decide +kernel
theorem d3_8 : decode prog_27_method_2_code 8 = .ok (.goto 4, 3) := by decide +kernel
theorem d3_11 : decode prog_27_method_2_code 11 = .ok (.iconst 0, 1) := by decide +kernel
theorem d3_12 : decode prog_27_method_2_code 12 = .ok (.ireturn, 1) := by decide +kernel
def Q_rm3 (Z : State) (a : Addr) (k : Int32) (h0 : Heap) (n0 : Nat) (v : Option Value) (h : Heap) (L : List Loc) : Prop := v = some (.int (if k = (0 : Int32) then (1 : Int32) else (0 : Int32))) ∧ Fr n0 L ∧ h = h0
set_option maxRecDepth 65536 in
set_option maxHeartbeats 40000000 in
theorem rm3 (l : Launch) (Z : State) (a0 : Array Value) (hw : ∀ d ∈ tables_1, d.before a0 Z = true) (ws : List Jvm.Cond) (a : Addr) (k : Int32) (h0 : Heap) (n0 : Nat) (Z0 : n0 ≤ h0.size) (F_s : Fld Z h0 a "com/example/find_leader/findleader/engine/LongHeap" "size" "I" (.int k)) :
    MetFree l (⟨"com/example/find_leader/findleader/engine/LongHeap", "isEmpty", "()Z"⟩ : MethodName) (head1 (Jvm.Cond.code (⟨"com/example/find_leader/findleader/engine/LongHeap", "isEmpty", "()Z"⟩ : MethodName) prog_27_method_2_code 1 (some .boolean) :: ws) ({ frames := 0, cells := 0, slots := 0, locals := 0 } : Room)) (fun argv U => argv = #[(.ref a)] ∧ Z.Warmed39 U.vm ∧ U.heap = h0) (fun _ _ _ _ _ => True) (fun _ U o U' => ∃ v L, o = .returned v ∧ Q_rm3 Z a k h0 n0 v U'.heap L ∧ FrameEnd U o U' L ({ frames := 0, cells := 0, slots := 0, locals := 0 } : Room).cells ({ frames := 0, cells := 0, slots := 0, locals := 0 } : Room).slots) := by
  refine MetFree.of_bodySF (plainFor_of_name pn_3) hisR ?_
  intro p e s m args below meth c s₁ Bd hml0 hP hK
  obtain ⟨rfl, hZ, hh⟩ := hP
  have hx := Bd.exec
  have hby := Bd.bytes
  have hml : c.maxLocals = 1 := hml0
  have hown : s.vm.findClass "com/example/find_leader/findleader/engine/LongHeap" = some m.cls := findClass_of_methodNamed Bd.named
  have hnm := (name_of_methodNamed Bd.named Bd.method).1
  have X0 : Stand p l e ({ frames := 0, cells := 0, slots := 0, locals := 0 } : Room) s m #[(.ref a)] below meth c s₁ [] 0 0 := Stand.of_body Bd
  have e0 : s₁.heap = h0 := by rw [← hh, Bd.state]; rfl
  have N0 := Fr.nil n0
  obtain ⟨G, hG⟩ : ∃ G : State → Prop, G = fun tg => Steps p.tables e below (s₁.setTop (entryFrame m #[(.ref a)] 1)) tg := ⟨_, rfl⟩
  have pre0 : ∀ tg, Steps p.tables e below (s₁.setTop (mkF m 0 #[.val (.ref a)] [])) tg → G tg := fun tg kt => by rw [hG]; exact castTop (ef_3_R m a) kt
  have pre1 : ∀ tg, Steps p.tables e below (s₁.setTop (mkF m 1 #[.val (.ref a)] [(.ref a)])) tg → G tg := fun tg kt => pre0 tg (by
    show Steps p.tables e below (s₁.setTop (mkF m 0 #[.val (.ref a)] [])) _
    refine XS.aloadN X0.here hx rfl (hb hby d3_0) rfl rfl ?_
    exact kt)
  obtain ⟨T2, X2, e2, st2⟩ := getF X0 hx hZ hown (host := "") (Or.inl (hw _ (List.mem_of_getElem? (i := 17) rfl))) Via.refl e0 F_s (g := (mkF m 1 #[.val (.ref a)] [(.ref a)])) rfl rfl (hb hby d3_1)
  have pre2s : ∀ tg, Steps p.tables e below (T2.setTop (mkF m 4 #[.val (.ref a)] [(.int k)])) tg → G tg := fun tg kt => pre1 tg (st2 tg kt)
  by_cases c4 : k = (0 : Int32)
  · -- c4
    obtain ⟨fs, hr, hrun, hended, hW, hsame⟩ := X2.leave (v := some (.int (1 : Int32))) (fun h => by rw [Bd.returns] at h; cases h)
    subst hG
    refine ⟨_, _, pre2s _ ?_, hrun, hended, _, _, rfl, ?_, ⟨_, rfl⟩, hW, hsame.mono (by decide) (by decide)⟩
    · skip
      show Steps p.tables e below (T2.setTop (mkF m 4 #[.val (.ref a)] [(.int k)])) _
      refine XS.ifNo X2.here hx rfl (hb hby d3_4) rfl ((if0 _ _).trans (teq c4).2) ?_
      show Steps p.tables e below (T2.setTop (mkF m 7 #[.val (.ref a)] [])) _
      refine XS.iconst X2.here hx rfl (hb hby d3_7) ?_
      show Steps p.tables e below (T2.setTop (mkF m 8 #[.val (.ref a)] [(.int (1 : Int32))])) _
      refine XS.goto X2.here hx rfl (pc0 := 8) (pc' := 12) rfl (hb hby d3_8) (by decide) (by decide) ?_
      show Steps p.tables e below (T2.setTop (mkF m 12 #[.val (.ref a)] [(.int (1 : Int32))])) _
      exact retN X2 hx (t := .boolean) Bd.returns (by simp) (hb hby d3_12) hr
    · show Q_rm3 Z a k h0 n0 _ T2.heap _
      rw [e2]
      exact ⟨by rw [if_pos c4], N0, rfl⟩
  · -- not c4
    obtain ⟨fs, hr, hrun, hended, hW, hsame⟩ := X2.leave (v := some (.int (0 : Int32))) (fun h => by rw [Bd.returns] at h; cases h)
    subst hG
    refine ⟨_, _, pre2s _ ?_, hrun, hended, _, _, rfl, ?_, ⟨_, rfl⟩, hW, hsame.mono (by decide) (by decide)⟩
    · skip
      show Steps p.tables e below (T2.setTop (mkF m 4 #[.val (.ref a)] [(.int k)])) _
      refine XS.ifYes X2.here hx rfl (pc0 := 4) (pc' := 11) rfl (hb hby d3_4) rfl ((if0 _ _).trans (feq c4).2) (by decide) (by decide) ?_
      show Steps p.tables e below (T2.setTop (mkF m 11 #[.val (.ref a)] [])) _
      refine XS.iconst X2.here hx rfl (hb hby d3_11) ?_
      show Steps p.tables e below (T2.setTop (mkF m 12 #[.val (.ref a)] [(.int (0 : Int32))])) _
      exact retN X2 hx (t := .boolean) Bd.returns (by simp) (hb hby d3_12) hr
    · show Q_rm3 Z a k h0 n0 _ T2.heap _
      rw [e2]
      exact ⟨by rw [if_neg c4], N0, rfl⟩
theorem pn_4 : plainName "com/example/find_leader/findleader/engine/LongHeap" = true := by first | (simp [plainName, overriddenIn]; done) | decide +kernel
theorem ef_4_R_J (m : MethodId) (x0 : Addr) (x1 : Int64) : entryFrame m #[(.ref x0), (.long x1)] 4 = mkF m 0 #[.val (.ref x0), .val (.long x1), .second, .unset] [] := by first | (simp [entryFrame, mkF, argsToLocals, Value.category]; done) | rfl
theorem d4_0 : decode prog_27_method_4_code 0 = .ok (.aload_n 0, 1) := by decide +kernel
theorem d4_1 : decode prog_27_method_4_code 1 = .ok (.getfield 13, 3) := by decide +kernel
theorem d4_4 : decode prog_27_method_4_code 4 = .ok (.aload_n 0, 1) := by decide +kernel
theorem d4_5 : decode prog_27_method_4_code 5 = .ok (.getfield 7, 3) := by decide +kernel
theorem d4_8 : decode prog_27_method_4_code 8 = .ok (.arraylength, 1) := by decide +kernel
theorem d4_9 : decode prog_27_method_4_code 9 = .ok (.if_icmp .ne 20, 3) := by decide +kernel
theorem d4_29 : decode prog_27_method_4_code 29 = .ok (.aload_n 0, 1) := by decide +kernel
theorem d4_30 : decode prog_27_method_4_code 30 = .ok (.getfield 13, 3) := by decide +kernel
theorem d4_33 : decode prog_27_method_4_code 33 = .ok (.istore_n 3, 1) := by decide +kernel
theorem d4_34 : decode prog_27_method_4_code 34 = .ok (.aload_n 0, 1) := by decide +kernel
theorem d4_35 : decode prog_27_method_4_code 35 = .ok (.dup, 1) := by decide +kernel
theorem d4_36 : decode prog_27_method_4_code 36 = .ok (.getfield 13, 3) := by decide +kernel
theorem d4_39 : decode prog_27_method_4_code 39 = .ok (.iconst 1, 1) := by decide +kernel
theorem d4_40 : decode prog_27_method_4_code 40 = .ok (.iadd, 1) := by decide +kernel
theorem d4_41 : decode prog_27_method_4_code 41 = .ok (.putfield 13, 3) := by decide +kernel
theorem d4_44 : decode prog_27_method_4_code 44 = .ok (.iload_n 3, 1) := by decide +kernel
theorem d4_45 : decode prog_27_method_4_code 45 = .ok (.ifCond .le 43, 3) := by decide +kernel
theorem d4_88 : decode prog_27_method_4_code 88 = .ok (.aload_n 0, 1) := by decide +kernel
theorem d4_89 : decode prog_27_method_4_code 89 = .ok (.getfield 7, 3) := by decide +kernel
theorem d4_92 : decode prog_27_method_4_code 92 = .ok (.iload_n 3, 1) := by decide +kernel
theorem d4_93 : decode prog_27_method_4_code 93 = .ok (.lload_n 1, 1) := by decide +kernel
theorem d4_94 : decode prog_27_method_4_code 94 = .ok (.lastore, 1) := by decide +kernel
theorem d4_95 : decode prog_27_method_4_code 95 = .ok (.return_, 1) := by decide +kernel
def Q_rm4_0 (Z : State) (a : Addr) (x0 : Int64) (b : Addr) (kA : ClassId) (v0 v1 v2 : Int64) (h0 : Heap) (n0 : Nat) (v : Option Value) (h : Heap) (L : List Loc) : Prop := v = none ∧ Fr n0 L ∧ Keep h0 h [a, b] ∧ ∃ (w0 w1 w2 : Int64), Fld Z h a "com/example/find_leader/findleader/engine/LongHeap" "values" "[J" (.ref b) ∧ Fld Z h a "com/example/find_leader/findleader/engine/LongHeap" "size" "I" (.int (1 : Int32)) ∧ Arv Z h b kA .long (16 : Int32) [(.long w0), (.long w1), (.long w2), (.long (0 : Int64)), (.long (0 : Int64)), (.long (0 : Int64)), (.long (0 : Int64)), (.long (0 : Int64)), (.long (0 : Int64)), (.long (0 : Int64)), (.long (0 : Int64)), (.long (0 : Int64)), (.long (0 : Int64)), (.long (0 : Int64)), (.long (0 : Int64)), (.long (0 : Int64))] (.long (0 : Int64))
set_option maxRecDepth 65536 in
set_option maxHeartbeats 40000000 in
theorem rm4_0 (l : Launch) (Z : State) (a0 : Array Value) (hw : ∀ d ∈ tables_1, d.before a0 Z = true) (ws : List Jvm.Cond) (a : Addr) (x0 : Int64) (b : Addr) (kA : ClassId) (v0 v1 v2 : Int64) (h0 : Heap) (n0 : Nat) (Z0 : n0 ≤ h0.size) (E_a : Exa Z h0 a "com/example/find_leader/findleader/engine/LongHeap") (F_v : Fld Z h0 a "com/example/find_leader/findleader/engine/LongHeap" "values" "[J" (.ref b)) (F_s : Fld Z h0 a "com/example/find_leader/findleader/engine/LongHeap" "size" "I" (.int (0 : Int32))) (V_b : Arv Z h0 b kA .long (16 : Int32) [(.long v0), (.long v1), (.long v2), (.long (0 : Int64)), (.long (0 : Int64)), (.long (0 : Int64)), (.long (0 : Int64)), (.long (0 : Int64)), (.long (0 : Int64)), (.long (0 : Int64)), (.long (0 : Int64)), (.long (0 : Int64)), (.long (0 : Int64)), (.long (0 : Int64)), (.long (0 : Int64)), (.long (0 : Int64))] (.long (0 : Int64))) (O_a : n0 ≤ a) (O_b : n0 ≤ b) (ne_a_b : a ≠ b) :
    MetFree l (⟨"com/example/find_leader/findleader/engine/LongHeap", "add", "(J)V"⟩ : MethodName) (head1 (Jvm.Cond.code (⟨"com/example/find_leader/findleader/engine/LongHeap", "add", "(J)V"⟩ : MethodName) prog_27_method_4_code 4 none :: ws) ({ frames := 0, cells := 0, slots := 0, locals := 0 } : Room)) (fun argv U => argv = #[(.ref a), (.long x0)] ∧ Z.Warmed39 U.vm ∧ U.heap = h0) (fun _ _ _ _ _ => True) (fun _ U o U' => ∃ v L, o = .returned v ∧ Q_rm4_0 Z a x0 b kA v0 v1 v2 h0 n0 v U'.heap L ∧ FrameEnd U o U' L ({ frames := 0, cells := 0, slots := 0, locals := 0 } : Room).cells ({ frames := 0, cells := 0, slots := 0, locals := 0 } : Room).slots) := by
  refine MetFree.of_bodySF (plainFor_of_name pn_4) hisR ?_
  intro p e s m args below meth c s₁ Bd hml0 hP hK
  obtain ⟨rfl, hZ, hh⟩ := hP
  have hx := Bd.exec
  have hby := Bd.bytes
  have hml : c.maxLocals = 4 := hml0
  have hown : s.vm.findClass "com/example/find_leader/findleader/engine/LongHeap" = some m.cls := findClass_of_methodNamed Bd.named
  have hnm := (name_of_methodNamed Bd.named Bd.method).1
  have X0 : Stand p l e ({ frames := 0, cells := 0, slots := 0, locals := 0 } : Room) s m #[(.ref a), (.long x0)] below meth c s₁ [] 0 0 := Stand.of_body Bd
  have e0 : s₁.heap = h0 := by rw [← hh, Bd.state]; rfl
  have N0 := Fr.nil n0
  obtain ⟨G, hG⟩ : ∃ G : State → Prop, G = fun tg => Steps p.tables e below (s₁.setTop (entryFrame m #[(.ref a), (.long x0)] 4)) tg := ⟨_, rfl⟩
  have pre0 : ∀ tg, Steps p.tables e below (s₁.setTop (mkF m 0 #[.val (.ref a), .val (.long x0), .second, .unset] [])) tg → G tg := fun tg kt => by rw [hG]; exact castTop (ef_4_R_J m a x0) kt
  have pre1 : ∀ tg, Steps p.tables e below (s₁.setTop (mkF m 1 #[.val (.ref a), .val (.long x0), .second, .unset] [(.ref a)])) tg → G tg := fun tg kt => pre0 tg (by
    show Steps p.tables e below (s₁.setTop (mkF m 0 #[.val (.ref a), .val (.long x0), .second, .unset] [])) _
    refine XS.aloadN X0.here hx rfl (hb hby d4_0) rfl rfl ?_
    exact kt)
  obtain ⟨T2, X2, e2, st2⟩ := getF X0 hx hZ hown (host := "") (Or.inl (hw _ (List.mem_of_getElem? (i := 17) rfl))) Via.refl e0 F_s (g := (mkF m 1 #[.val (.ref a), .val (.long x0), .second, .unset] [(.ref a)])) rfl rfl (hb hby d4_1)
  have pre2s : ∀ tg, Steps p.tables e below (T2.setTop (mkF m 4 #[.val (.ref a), .val (.long x0), .second, .unset] [(.int (0 : Int32))])) tg → G tg := fun tg kt => pre1 tg (st2 tg kt)
  have pre3 : ∀ tg, Steps p.tables e below (T2.setTop (mkF m 5 #[.val (.ref a), .val (.long x0), .second, .unset] [(.ref a), (.int (0 : Int32))])) tg → G tg := fun tg kt => pre2s tg (by
    show Steps p.tables e below (T2.setTop (mkF m 4 #[.val (.ref a), .val (.long x0), .second, .unset] [(.int (0 : Int32))])) _
    refine XS.aloadN X2.here hx rfl (hb hby d4_4) rfl rfl ?_
    exact kt)
  obtain ⟨T4, X4, e4, st4⟩ := getF X2 hx hZ hown (host := "") (Or.inl (hw _ (List.mem_of_getElem? (i := 10) rfl))) Via.refl e2 F_v (g := (mkF m 5 #[.val (.ref a), .val (.long x0), .second, .unset] [(.ref a), (.int (0 : Int32))])) rfl rfl (hb hby d4_5)
  have pre4s : ∀ tg, Steps p.tables e below (T4.setTop (mkF m 8 #[.val (.ref a), .val (.long x0), .second, .unset] [(.ref b), (.int (0 : Int32))])) tg → G tg := fun tg kt => pre3 tg (st4 tg kt)
  have op_5 := V_b
  obtain ⟨cl_5, Ar_5, q_5, S_5, Ng_5, H_5, G_5⟩ := op_5
  have pre6 : ∀ tg, Steps p.tables e below (T4.setTop (mkF m 30 #[.val (.ref a), .val (.long x0), .second, .unset] [(.ref a)])) tg → G tg := fun tg kt => pre4s tg (by
    show Steps p.tables e below (T4.setTop (mkF m 8 #[.val (.ref a), .val (.long x0), .second, .unset] [(.ref b), (.int (0 : Int32))])) _
    refine X4.arraylength hx (by rw [e4]; exact Ar_5.1) (State.isArrayOf_alike hZ.alike Ar_5.2.1) (g := (mkF m 8 #[.val (.ref a), .val (.long x0), .second, .unset] [(.ref b), (.int (0 : Int32))])) rfl rfl (hb hby d4_8) _ ?_
    rw [len_of S_5 Ng_5]
    show Steps p.tables e below (T4.setTop (mkF m 9 #[.val (.ref a), .val (.long x0), .second, .unset] [(.int (16 : Int32)), (.int (0 : Int32))])) _
    refine XS.icmpYes X4.here hx rfl (pc0 := 9) (pc' := 29) rfl (hb hby d4_9) rfl (feq (by decide : ¬ ((0 : Int32) = (16 : Int32)))).2 (by decide) (by decide) ?_
    show Steps p.tables e below (T4.setTop (mkF m 29 #[.val (.ref a), .val (.long x0), .second, .unset] [])) _
    refine XS.aloadN X4.here hx rfl (hb hby d4_29) rfl rfl ?_
    exact kt)
  obtain ⟨T7, X7, e7, st7⟩ := getF X4 hx hZ hown (host := "") (Or.inl (hw _ (List.mem_of_getElem? (i := 17) rfl))) Via.refl e4 F_s (g := (mkF m 30 #[.val (.ref a), .val (.long x0), .second, .unset] [(.ref a)])) rfl rfl (hb hby d4_30)
  have pre7s : ∀ tg, Steps p.tables e below (T7.setTop (mkF m 33 #[.val (.ref a), .val (.long x0), .second, .unset] [(.int (0 : Int32))])) tg → G tg := fun tg kt => pre6 tg (st7 tg kt)
  have pre8 : ∀ tg, Steps p.tables e below (T7.setTop (mkF m 36 #[.val (.ref a), .val (.long x0), .second, .val (.int (0 : Int32))] [(.ref a), (.ref a)])) tg → G tg := fun tg kt => pre7s tg (by
    show Steps p.tables e below (T7.setTop (mkF m 33 #[.val (.ref a), .val (.long x0), .second, .unset] [(.int (0 : Int32))])) _
    refine XS.istoreN X7.here hx rfl (hb hby d4_33) rfl (l' := #[.val (.ref a), .val (.long x0), .second, .val (.int (0 : Int32))]) rfl ?_
    show Steps p.tables e below (T7.setTop (mkF m 34 #[.val (.ref a), .val (.long x0), .second, .val (.int (0 : Int32))] [])) _
    refine XS.aloadN X7.here hx rfl (hb hby d4_34) rfl rfl ?_
    show Steps p.tables e below (T7.setTop (mkF m 35 #[.val (.ref a), .val (.long x0), .second, .val (.int (0 : Int32))] [(.ref a)])) _
    refine XS.dup X7.here hx rfl (hb hby d4_35) rfl rfl ?_
    exact kt)
  obtain ⟨T9, X9, e9, st9⟩ := getF X7 hx hZ hown (host := "") (Or.inl (hw _ (List.mem_of_getElem? (i := 17) rfl))) Via.refl e7 F_s (g := (mkF m 36 #[.val (.ref a), .val (.long x0), .second, .val (.int (0 : Int32))] [(.ref a), (.ref a)])) rfl rfl (hb hby d4_36)
  have pre9s : ∀ tg, Steps p.tables e below (T9.setTop (mkF m 39 #[.val (.ref a), .val (.long x0), .second, .val (.int (0 : Int32))] [(.int (0 : Int32)), (.ref a)])) tg → G tg := fun tg kt => pre8 tg (st9 tg kt)
  have pre10 : ∀ tg, Steps p.tables e below (T9.setTop (mkF m 41 #[.val (.ref a), .val (.long x0), .second, .val (.int (0 : Int32))] [(.int (1 : Int32)), (.ref a)])) tg → G tg := fun tg kt => pre9s tg (by
    show Steps p.tables e below (T9.setTop (mkF m 39 #[.val (.ref a), .val (.long x0), .second, .val (.int (0 : Int32))] [(.int (0 : Int32)), (.ref a)])) _
    refine XS.iconst X9.here hx rfl (hb hby d4_39) ?_
    show Steps p.tables e below (T9.setTop (mkF m 40 #[.val (.ref a), .val (.long x0), .second, .val (.int (0 : Int32))] [(.int (1 : Int32)), (.int (0 : Int32)), (.ref a)])) _
    refine XS.iadd X9.here hx rfl (hb hby d4_40) rfl ?_
    exact kt)
  obtain ⟨T11, h11, X11, e11, W11, st11⟩ := putF X9 hx hZ hown (host := "") (Or.inl (hw _ (List.mem_of_getElem? (i := 17) rfl))) Via.refl e9 F_s E_a (Or.inl (hw _ (List.mem_of_getElem? (i := 18) rfl))) (hw _ (List.mem_of_getElem? (i := 1) rfl)) (ty := .int) (by decide) rfl rfl (g := (mkF m 41 #[.val (.ref a), .val (.long x0), .second, .val (.int (0 : Int32))] [(.int (1 : Int32)), (.ref a)])) rfl rfl (hb hby d4_41)
  have pre11s : ∀ tg, Steps p.tables e below (T11.setTop (mkF m 44 #[.val (.ref a), .val (.long x0), .second, .val (.int (0 : Int32))] [])) tg → G tg := fun tg kt => pre10 tg (st11 tg kt)
  have E_a_12 := E_a.wr W11
  have F_v_13 := F_v.other W11 (Or.inr (slot_ne (Or.inl (hw _ (List.mem_of_getElem? (i := 11) rfl))) (Or.inl (hw _ (List.mem_of_getElem? (i := 18) rfl))) (by decide) (t := (.array .long)) (t' := .int) (by decide) (by decide)))
  have F_s_14 := F_s.same W11
  have V_b_15 := V_b.other W11 (Ne.symm ne_a_b)
  have N11 := Fr.snoc X11 N0 O_a
  have Z11 : n0 ≤ h11.size := Nat.le_trans Z0 (Keep.of_wr W11).1
  have K11 : Keep h0 h11 [a, b] := (Keep.refl h0 [a, b]).wr W11 (Or.inl (List.mem_of_getElem? (i := 0) rfl))
  have pre16 : ∀ tg, Steps p.tables e below (T11.setTop (mkF m 89 #[.val (.ref a), .val (.long x0), .second, .val (.int (0 : Int32))] [(.ref a)])) tg → G tg := fun tg kt => pre11s tg (by
    show Steps p.tables e below (T11.setTop (mkF m 44 #[.val (.ref a), .val (.long x0), .second, .val (.int (0 : Int32))] [])) _
    refine XS.iloadN X11.here hx rfl (hb hby d4_44) rfl ?_
    show Steps p.tables e below (T11.setTop (mkF m 45 #[.val (.ref a), .val (.long x0), .second, .val (.int (0 : Int32))] [(.int (0 : Int32))])) _
    refine XS.ifYes X11.here hx rfl (pc0 := 45) (pc' := 88) rfl (hb hby d4_45) rfl ((if0 _ _).trans (flt (by decide : ¬ ((0 : Int32) < (0 : Int32)))).2.2.2) (by decide) (by decide) ?_
    show Steps p.tables e below (T11.setTop (mkF m 88 #[.val (.ref a), .val (.long x0), .second, .val (.int (0 : Int32))] [])) _
    refine XS.aloadN X11.here hx rfl (hb hby d4_88) rfl rfl ?_
    exact kt)
  obtain ⟨T17, X17, e17, st17⟩ := getF X11 hx hZ hown (host := "") (Or.inl (hw _ (List.mem_of_getElem? (i := 10) rfl))) Via.refl e11 F_v_13 (g := (mkF m 89 #[.val (.ref a), .val (.long x0), .second, .val (.int (0 : Int32))] [(.ref a)])) rfl rfl (hb hby d4_89)
  have pre17s : ∀ tg, Steps p.tables e below (T17.setTop (mkF m 92 #[.val (.ref a), .val (.long x0), .second, .val (.int (0 : Int32))] [(.ref b)])) tg → G tg := fun tg kt => pre16 tg (st17 tg kt)
  have pre18 : ∀ tg, Steps p.tables e below (T17.setTop (mkF m 94 #[.val (.ref a), .val (.long x0), .second, .val (.int (0 : Int32))] [(.long x0), (.int (0 : Int32)), (.ref b)])) tg → G tg := fun tg kt => pre17s tg (by
    show Steps p.tables e below (T17.setTop (mkF m 92 #[.val (.ref a), .val (.long x0), .second, .val (.int (0 : Int32))] [(.ref b)])) _
    refine XS.iloadN X17.here hx rfl (hb hby d4_92) rfl ?_
    show Steps p.tables e below (T17.setTop (mkF m 93 #[.val (.ref a), .val (.long x0), .second, .val (.int (0 : Int32))] [(.int (0 : Int32)), (.ref b)])) _
    refine XS.lloadN X17.here hx rfl (hb hby d4_93) rfl ?_
    exact kt)
  have op_19 := V_b_15
  obtain ⟨cl_19, Ar_19, q_19, S_19, Ng_19, H_19, G_19⟩ := op_19
  have hin_19 : ¬ ((0 : Int32) < 0 ∨ cl_19.slots.size ≤ ((0 : Int32)).toNatClampNeg) := inb_of S_19 ⟨by decide, by decide⟩
  obtain ⟨T19, h19, X19, e19, W19, st19⟩ := stJ X17 hx hZ e17 Ar_19 (j := (0 : Int32)) hin_19 (g := (mkF m 94 #[.val (.ref a), .val (.long x0), .second, .val (.int (0 : Int32))] [(.long x0), (.int (0 : Int32)), (.ref b)])) rfl rfl (hb hby d4_94)
  have pre19s : ∀ tg, Steps p.tables e below (T19.setTop (mkF m 95 #[.val (.ref a), .val (.long x0), .second, .val (.int (0 : Int32))] [])) tg → G tg := fun tg kt => pre18 tg (st19 tg kt)
  have E_a_20 := E_a_12.wr W19
  have F_v_21 := F_v_13.other W19 (Or.inl ne_a_b)
  have F_s_22 := F_s_14.other W19 (Or.inl ne_a_b)
  have V19_b : Arv Z h19 b kA .long (16 : Int32) [(.long x0), (.long v1), (.long v2), (.long (0 : Int64)), (.long (0 : Int64)), (.long (0 : Int64)), (.long (0 : Int64)), (.long (0 : Int64)), (.long (0 : Int64)), (.long (0 : Int64)), (.long (0 : Int64)), (.long (0 : Int64)), (.long (0 : Int64)), (.long (0 : Int64)), (.long (0 : Int64)), (.long (0 : Int64))] (.long (0 : Int64)) := Arv.set Ar_19 q_19 S_19 Ng_19 H_19 G_19 rfl W19 0 rfl (Nat.le_of_ble_eq_true rfl)
  have N19 := Fr.snoc X19 N11 O_b
  have Z19 : n0 ≤ h19.size := Nat.le_trans Z11 (Keep.of_wr W19).1
  have K19 : Keep h0 h19 [a, b] := K11.wr W19 (Or.inl (List.mem_of_getElem? (i := 1) rfl))
  obtain ⟨fs, hr, hrun, hended, hW, hsame⟩ := X19.leave (v := none) (fun _ => rfl)
  subst hG
  refine ⟨_, _, pre19s _ ?_, hrun, hended, _, _, rfl, ?_, ⟨_, rfl⟩, hW, hsame.mono (by decide) (by decide)⟩
  · skip
    show Steps p.tables e below (T19.setTop (mkF m 95 #[.val (.ref a), .val (.long x0), .second, .val (.int (0 : Int32))] [])) _
    exact X19.returnOut hx Bd.returns (hb hby d4_95) hr
  · show Q_rm4_0 Z a x0 b kA v0 v1 v2 h0 n0 _ T19.heap _
    rw [e19]
    exact ⟨rfl, N19, K19, _, _, _, F_v_21, F_s_22, V19_b⟩
theorem d4_48 : decode prog_27_method_4_code 48 = .ok (.aload_n 0, 1) := by decide +kernel
theorem d4_49 : decode prog_27_method_4_code 49 = .ok (.getfield 7, 3) := by decide +kernel
theorem d4_52 : decode prog_27_method_4_code 52 = .ok (.iload_n 3, 1) := by decide +kernel
theorem d4_53 : decode prog_27_method_4_code 53 = .ok (.iconst 1, 1) := by decide +kernel
theorem d4_54 : decode prog_27_method_4_code 54 = .ok (.isub, 1) := by decide +kernel
theorem d4_55 : decode prog_27_method_4_code 55 = .ok (.iconst 2, 1) := by decide +kernel
theorem d4_56 : decode prog_27_method_4_code 56 = .ok (.idiv, 1) := by decide +kernel
theorem d4_57 : decode prog_27_method_4_code 57 = .ok (.laload, 1) := by decide +kernel
theorem d4_58 : decode prog_27_method_4_code 58 = .ok (.lload_n 1, 1) := by decide +kernel
theorem d4_59 : decode prog_27_method_4_code 59 = .ok (.lcmp, 1) := by decide +kernel
theorem d4_60 : decode prog_27_method_4_code 60 = .ok (.ifCond .le 28, 3) := by decide +kernel
theorem d4_63 : decode prog_27_method_4_code 63 = .ok (.aload_n 0, 1) := by decide +kernel
theorem d4_64 : decode prog_27_method_4_code 64 = .ok (.getfield 7, 3) := by decide +kernel
theorem d4_67 : decode prog_27_method_4_code 67 = .ok (.iload_n 3, 1) := by decide +kernel
theorem d4_68 : decode prog_27_method_4_code 68 = .ok (.aload_n 0, 1) := by decide +kernel
theorem d4_69 : decode prog_27_method_4_code 69 = .ok (.getfield 7, 3) := by decide +kernel
theorem d4_72 : decode prog_27_method_4_code 72 = .ok (.iload_n 3, 1) := by decide +kernel
theorem d4_73 : decode prog_27_method_4_code 73 = .ok (.iconst 1, 1) := by decide +kernel
theorem d4_74 : decode prog_27_method_4_code 74 = .ok (.isub, 1) := by decide +kernel
theorem d4_75 : decode prog_27_method_4_code 75 = .ok (.iconst 2, 1) := by decide +kernel
theorem d4_76 : decode prog_27_method_4_code 76 = .ok (.idiv, 1) := by decide +kernel
theorem d4_77 : decode prog_27_method_4_code 77 = .ok (.laload, 1) := by decide +kernel
theorem d4_78 : decode prog_27_method_4_code 78 = .ok (.lastore, 1) := by decide +kernel
theorem d4_79 : decode prog_27_method_4_code 79 = .ok (.iload_n 3, 1) := by decide +kernel
theorem d4_80 : decode prog_27_method_4_code 80 = .ok (.iconst 1, 1) := by decide +kernel
theorem d4_81 : decode prog_27_method_4_code 81 = .ok (.isub, 1) := by decide +kernel
theorem d4_82 : decode prog_27_method_4_code 82 = .ok (.iconst 2, 1) := by decide +kernel
theorem d4_83 : decode prog_27_method_4_code 83 = .ok (.idiv, 1) := by decide +kernel
theorem d4_84 : decode prog_27_method_4_code 84 = .ok (.istore_n 3, 1) := by decide +kernel
theorem d4_85 : decode prog_27_method_4_code 85 = .ok (.goto (-41), 3) := by decide +kernel
def Q_rm4_1 (Z : State) (a : Addr) (x0 : Int64) (b : Addr) (kA : ClassId) (v0 v1 v2 : Int64) (h0 : Heap) (n0 : Nat) (v : Option Value) (h : Heap) (L : List Loc) : Prop := v = none ∧ Fr n0 L ∧ Keep h0 h [a, b] ∧ ∃ (w0 w1 w2 : Int64), Fld Z h a "com/example/find_leader/findleader/engine/LongHeap" "values" "[J" (.ref b) ∧ Fld Z h a "com/example/find_leader/findleader/engine/LongHeap" "size" "I" (.int (2 : Int32)) ∧ Arv Z h b kA .long (16 : Int32) [(.long w0), (.long w1), (.long w2), (.long (0 : Int64)), (.long (0 : Int64)), (.long (0 : Int64)), (.long (0 : Int64)), (.long (0 : Int64)), (.long (0 : Int64)), (.long (0 : Int64)), (.long (0 : Int64)), (.long (0 : Int64)), (.long (0 : Int64)), (.long (0 : Int64)), (.long (0 : Int64)), (.long (0 : Int64))] (.long (0 : Int64))
set_option maxRecDepth 65536 in
set_option maxHeartbeats 40000000 in
theorem rm4_1 (l : Launch) (Z : State) (a0 : Array Value) (hw : ∀ d ∈ tables_1, d.before a0 Z = true) (ws : List Jvm.Cond) (a : Addr) (x0 : Int64) (b : Addr) (kA : ClassId) (v0 v1 v2 : Int64) (h0 : Heap) (n0 : Nat) (Z0 : n0 ≤ h0.size) (E_a : Exa Z h0 a "com/example/find_leader/findleader/engine/LongHeap") (F_v : Fld Z h0 a "com/example/find_leader/findleader/engine/LongHeap" "values" "[J" (.ref b)) (F_s : Fld Z h0 a "com/example/find_leader/findleader/engine/LongHeap" "size" "I" (.int (1 : Int32))) (V_b : Arv Z h0 b kA .long (16 : Int32) [(.long v0), (.long v1), (.long v2), (.long (0 : Int64)), (.long (0 : Int64)), (.long (0 : Int64)), (.long (0 : Int64)), (.long (0 : Int64)), (.long (0 : Int64)), (.long (0 : Int64)), (.long (0 : Int64)), (.long (0 : Int64)), (.long (0 : Int64)), (.long (0 : Int64)), (.long (0 : Int64)), (.long (0 : Int64))] (.long (0 : Int64))) (O_a : n0 ≤ a) (O_b : n0 ≤ b) (ne_a_b : a ≠ b) :
    MetFree l (⟨"com/example/find_leader/findleader/engine/LongHeap", "add", "(J)V"⟩ : MethodName) (head1 (Jvm.Cond.code (⟨"com/example/find_leader/findleader/engine/LongHeap", "add", "(J)V"⟩ : MethodName) prog_27_method_4_code 4 none :: ws) ({ frames := 0, cells := 0, slots := 0, locals := 0 } : Room)) (fun argv U => argv = #[(.ref a), (.long x0)] ∧ Z.Warmed39 U.vm ∧ U.heap = h0) (fun _ _ _ _ _ => True) (fun _ U o U' => ∃ v L, o = .returned v ∧ Q_rm4_1 Z a x0 b kA v0 v1 v2 h0 n0 v U'.heap L ∧ FrameEnd U o U' L ({ frames := 0, cells := 0, slots := 0, locals := 0 } : Room).cells ({ frames := 0, cells := 0, slots := 0, locals := 0 } : Room).slots) := by
  refine MetFree.of_bodySF (plainFor_of_name pn_4) hisR ?_
  intro p e s m args below meth c s₁ Bd hml0 hP hK
  obtain ⟨rfl, hZ, hh⟩ := hP
  have hx := Bd.exec
  have hby := Bd.bytes
  have hml : c.maxLocals = 4 := hml0
  have hown : s.vm.findClass "com/example/find_leader/findleader/engine/LongHeap" = some m.cls := findClass_of_methodNamed Bd.named
  have hnm := (name_of_methodNamed Bd.named Bd.method).1
  have X0 : Stand p l e ({ frames := 0, cells := 0, slots := 0, locals := 0 } : Room) s m #[(.ref a), (.long x0)] below meth c s₁ [] 0 0 := Stand.of_body Bd
  have e0 : s₁.heap = h0 := by rw [← hh, Bd.state]; rfl
  have N0 := Fr.nil n0
  obtain ⟨G, hG⟩ : ∃ G : State → Prop, G = fun tg => Steps p.tables e below (s₁.setTop (entryFrame m #[(.ref a), (.long x0)] 4)) tg := ⟨_, rfl⟩
  have pre0 : ∀ tg, Steps p.tables e below (s₁.setTop (mkF m 0 #[.val (.ref a), .val (.long x0), .second, .unset] [])) tg → G tg := fun tg kt => by rw [hG]; exact castTop (ef_4_R_J m a x0) kt
  have pre1 : ∀ tg, Steps p.tables e below (s₁.setTop (mkF m 1 #[.val (.ref a), .val (.long x0), .second, .unset] [(.ref a)])) tg → G tg := fun tg kt => pre0 tg (by
    show Steps p.tables e below (s₁.setTop (mkF m 0 #[.val (.ref a), .val (.long x0), .second, .unset] [])) _
    refine XS.aloadN X0.here hx rfl (hb hby d4_0) rfl rfl ?_
    exact kt)
  obtain ⟨T2, X2, e2, st2⟩ := getF X0 hx hZ hown (host := "") (Or.inl (hw _ (List.mem_of_getElem? (i := 17) rfl))) Via.refl e0 F_s (g := (mkF m 1 #[.val (.ref a), .val (.long x0), .second, .unset] [(.ref a)])) rfl rfl (hb hby d4_1)
  have pre2s : ∀ tg, Steps p.tables e below (T2.setTop (mkF m 4 #[.val (.ref a), .val (.long x0), .second, .unset] [(.int (1 : Int32))])) tg → G tg := fun tg kt => pre1 tg (st2 tg kt)
  have pre3 : ∀ tg, Steps p.tables e below (T2.setTop (mkF m 5 #[.val (.ref a), .val (.long x0), .second, .unset] [(.ref a), (.int (1 : Int32))])) tg → G tg := fun tg kt => pre2s tg (by
    show Steps p.tables e below (T2.setTop (mkF m 4 #[.val (.ref a), .val (.long x0), .second, .unset] [(.int (1 : Int32))])) _
    refine XS.aloadN X2.here hx rfl (hb hby d4_4) rfl rfl ?_
    exact kt)
  obtain ⟨T4, X4, e4, st4⟩ := getF X2 hx hZ hown (host := "") (Or.inl (hw _ (List.mem_of_getElem? (i := 10) rfl))) Via.refl e2 F_v (g := (mkF m 5 #[.val (.ref a), .val (.long x0), .second, .unset] [(.ref a), (.int (1 : Int32))])) rfl rfl (hb hby d4_5)
  have pre4s : ∀ tg, Steps p.tables e below (T4.setTop (mkF m 8 #[.val (.ref a), .val (.long x0), .second, .unset] [(.ref b), (.int (1 : Int32))])) tg → G tg := fun tg kt => pre3 tg (st4 tg kt)
  have op_5 := V_b
  obtain ⟨cl_5, Ar_5, q_5, S_5, Ng_5, H_5, G_5⟩ := op_5
  have pre6 : ∀ tg, Steps p.tables e below (T4.setTop (mkF m 30 #[.val (.ref a), .val (.long x0), .second, .unset] [(.ref a)])) tg → G tg := fun tg kt => pre4s tg (by
    show Steps p.tables e below (T4.setTop (mkF m 8 #[.val (.ref a), .val (.long x0), .second, .unset] [(.ref b), (.int (1 : Int32))])) _
    refine X4.arraylength hx (by rw [e4]; exact Ar_5.1) (State.isArrayOf_alike hZ.alike Ar_5.2.1) (g := (mkF m 8 #[.val (.ref a), .val (.long x0), .second, .unset] [(.ref b), (.int (1 : Int32))])) rfl rfl (hb hby d4_8) _ ?_
    rw [len_of S_5 Ng_5]
    show Steps p.tables e below (T4.setTop (mkF m 9 #[.val (.ref a), .val (.long x0), .second, .unset] [(.int (16 : Int32)), (.int (1 : Int32))])) _
    refine XS.icmpYes X4.here hx rfl (pc0 := 9) (pc' := 29) rfl (hb hby d4_9) rfl (feq (by decide : ¬ ((1 : Int32) = (16 : Int32)))).2 (by decide) (by decide) ?_
    show Steps p.tables e below (T4.setTop (mkF m 29 #[.val (.ref a), .val (.long x0), .second, .unset] [])) _
    refine XS.aloadN X4.here hx rfl (hb hby d4_29) rfl rfl ?_
    exact kt)
  obtain ⟨T7, X7, e7, st7⟩ := getF X4 hx hZ hown (host := "") (Or.inl (hw _ (List.mem_of_getElem? (i := 17) rfl))) Via.refl e4 F_s (g := (mkF m 30 #[.val (.ref a), .val (.long x0), .second, .unset] [(.ref a)])) rfl rfl (hb hby d4_30)
  have pre7s : ∀ tg, Steps p.tables e below (T7.setTop (mkF m 33 #[.val (.ref a), .val (.long x0), .second, .unset] [(.int (1 : Int32))])) tg → G tg := fun tg kt => pre6 tg (st7 tg kt)
  have pre8 : ∀ tg, Steps p.tables e below (T7.setTop (mkF m 36 #[.val (.ref a), .val (.long x0), .second, .val (.int (1 : Int32))] [(.ref a), (.ref a)])) tg → G tg := fun tg kt => pre7s tg (by
    show Steps p.tables e below (T7.setTop (mkF m 33 #[.val (.ref a), .val (.long x0), .second, .unset] [(.int (1 : Int32))])) _
    refine XS.istoreN X7.here hx rfl (hb hby d4_33) rfl (l' := #[.val (.ref a), .val (.long x0), .second, .val (.int (1 : Int32))]) rfl ?_
    show Steps p.tables e below (T7.setTop (mkF m 34 #[.val (.ref a), .val (.long x0), .second, .val (.int (1 : Int32))] [])) _
    refine XS.aloadN X7.here hx rfl (hb hby d4_34) rfl rfl ?_
    show Steps p.tables e below (T7.setTop (mkF m 35 #[.val (.ref a), .val (.long x0), .second, .val (.int (1 : Int32))] [(.ref a)])) _
    refine XS.dup X7.here hx rfl (hb hby d4_35) rfl rfl ?_
    exact kt)
  obtain ⟨T9, X9, e9, st9⟩ := getF X7 hx hZ hown (host := "") (Or.inl (hw _ (List.mem_of_getElem? (i := 17) rfl))) Via.refl e7 F_s (g := (mkF m 36 #[.val (.ref a), .val (.long x0), .second, .val (.int (1 : Int32))] [(.ref a), (.ref a)])) rfl rfl (hb hby d4_36)
  have pre9s : ∀ tg, Steps p.tables e below (T9.setTop (mkF m 39 #[.val (.ref a), .val (.long x0), .second, .val (.int (1 : Int32))] [(.int (1 : Int32)), (.ref a)])) tg → G tg := fun tg kt => pre8 tg (st9 tg kt)
  have pre10 : ∀ tg, Steps p.tables e below (T9.setTop (mkF m 41 #[.val (.ref a), .val (.long x0), .second, .val (.int (1 : Int32))] [(.int (2 : Int32)), (.ref a)])) tg → G tg := fun tg kt => pre9s tg (by
    show Steps p.tables e below (T9.setTop (mkF m 39 #[.val (.ref a), .val (.long x0), .second, .val (.int (1 : Int32))] [(.int (1 : Int32)), (.ref a)])) _
    refine XS.iconst X9.here hx rfl (hb hby d4_39) ?_
    show Steps p.tables e below (T9.setTop (mkF m 40 #[.val (.ref a), .val (.long x0), .second, .val (.int (1 : Int32))] [(.int (1 : Int32)), (.int (1 : Int32)), (.ref a)])) _
    refine XS.iadd X9.here hx rfl (hb hby d4_40) rfl ?_
    exact kt)
  obtain ⟨T11, h11, X11, e11, W11, st11⟩ := putF X9 hx hZ hown (host := "") (Or.inl (hw _ (List.mem_of_getElem? (i := 17) rfl))) Via.refl e9 F_s E_a (Or.inl (hw _ (List.mem_of_getElem? (i := 18) rfl))) (hw _ (List.mem_of_getElem? (i := 1) rfl)) (ty := .int) (by decide) rfl rfl (g := (mkF m 41 #[.val (.ref a), .val (.long x0), .second, .val (.int (1 : Int32))] [(.int (2 : Int32)), (.ref a)])) rfl rfl (hb hby d4_41)
  have pre11s : ∀ tg, Steps p.tables e below (T11.setTop (mkF m 44 #[.val (.ref a), .val (.long x0), .second, .val (.int (1 : Int32))] [])) tg → G tg := fun tg kt => pre10 tg (st11 tg kt)
  have E_a_12 := E_a.wr W11
  have F_v_13 := F_v.other W11 (Or.inr (slot_ne (Or.inl (hw _ (List.mem_of_getElem? (i := 11) rfl))) (Or.inl (hw _ (List.mem_of_getElem? (i := 18) rfl))) (by decide) (t := (.array .long)) (t' := .int) (by decide) (by decide)))
  have F_s_14 := F_s.same W11
  have V_b_15 := V_b.other W11 (Ne.symm ne_a_b)
  have N11 := Fr.snoc X11 N0 O_a
  have Z11 : n0 ≤ h11.size := Nat.le_trans Z0 (Keep.of_wr W11).1
  have K11 : Keep h0 h11 [a, b] := (Keep.refl h0 [a, b]).wr W11 (Or.inl (List.mem_of_getElem? (i := 0) rfl))
  have pre16 : ∀ tg, Steps p.tables e below (T11.setTop (mkF m 49 #[.val (.ref a), .val (.long x0), .second, .val (.int (1 : Int32))] [(.ref a)])) tg → G tg := fun tg kt => pre11s tg (by
    show Steps p.tables e below (T11.setTop (mkF m 44 #[.val (.ref a), .val (.long x0), .second, .val (.int (1 : Int32))] [])) _
    refine XS.iloadN X11.here hx rfl (hb hby d4_44) rfl ?_
    show Steps p.tables e below (T11.setTop (mkF m 45 #[.val (.ref a), .val (.long x0), .second, .val (.int (1 : Int32))] [(.int (1 : Int32))])) _
    refine XS.ifNo X11.here hx rfl (hb hby d4_45) rfl ((if0 _ _).trans (tlt (by decide : (0 : Int32) < (1 : Int32))).2.2.2) ?_
    show Steps p.tables e below (T11.setTop (mkF m 48 #[.val (.ref a), .val (.long x0), .second, .val (.int (1 : Int32))] [])) _
    refine XS.aloadN X11.here hx rfl (hb hby d4_48) rfl rfl ?_
    exact kt)
  obtain ⟨T17, X17, e17, st17⟩ := getF X11 hx hZ hown (host := "") (Or.inl (hw _ (List.mem_of_getElem? (i := 10) rfl))) Via.refl e11 F_v_13 (g := (mkF m 49 #[.val (.ref a), .val (.long x0), .second, .val (.int (1 : Int32))] [(.ref a)])) rfl rfl (hb hby d4_49)
  have pre17s : ∀ tg, Steps p.tables e below (T17.setTop (mkF m 52 #[.val (.ref a), .val (.long x0), .second, .val (.int (1 : Int32))] [(.ref b)])) tg → G tg := fun tg kt => pre16 tg (st17 tg kt)
  have pre18 : ∀ tg, Steps p.tables e below (T17.setTop (mkF m 57 #[.val (.ref a), .val (.long x0), .second, .val (.int (1 : Int32))] [(.int (0 : Int32)), (.ref b)])) tg → G tg := fun tg kt => pre17s tg (by
    show Steps p.tables e below (T17.setTop (mkF m 52 #[.val (.ref a), .val (.long x0), .second, .val (.int (1 : Int32))] [(.ref b)])) _
    refine XS.iloadN X17.here hx rfl (hb hby d4_52) rfl ?_
    show Steps p.tables e below (T17.setTop (mkF m 53 #[.val (.ref a), .val (.long x0), .second, .val (.int (1 : Int32))] [(.int (1 : Int32)), (.ref b)])) _
    refine XS.iconst X17.here hx rfl (hb hby d4_53) ?_
    show Steps p.tables e below (T17.setTop (mkF m 54 #[.val (.ref a), .val (.long x0), .second, .val (.int (1 : Int32))] [(.int (1 : Int32)), (.int (1 : Int32)), (.ref b)])) _
    refine XS.isub X17.here hx rfl (hb hby d4_54) rfl ?_
    show Steps p.tables e below (T17.setTop (mkF m 55 #[.val (.ref a), .val (.long x0), .second, .val (.int (1 : Int32))] [(.int (0 : Int32)), (.ref b)])) _
    refine XS.iconst X17.here hx rfl (hb hby d4_55) ?_
    show Steps p.tables e below (T17.setTop (mkF m 56 #[.val (.ref a), .val (.long x0), .second, .val (.int (1 : Int32))] [(.int (2 : Int32)), (.int (0 : Int32)), (.ref b)])) _
    refine XS.idiv X17.here hx rfl (hb hby d4_56) rfl (by decide) ?_
    exact kt)
  have op_19 := V_b_15
  obtain ⟨cl_19, Ar_19, q_19, S_19, Ng_19, H_19, G_19⟩ := op_19
  have hin_19 : ¬ ((0 : Int32) < 0 ∨ cl_19.slots.size ≤ ((0 : Int32)).toNatClampNeg) := inb_of S_19 ⟨by decide, by decide⟩
  have pre20 : ∀ tg, Steps p.tables e below (T17.setTop (mkF m 60 #[.val (.ref a), .val (.long x0), .second, .val (.int (1 : Int32))] [(.int (lcmpW v0 x0))])) tg → G tg := fun tg kt => pre18 tg (by
    show Steps p.tables e below (T17.setTop (mkF m 57 #[.val (.ref a), .val (.long x0), .second, .val (.int (1 : Int32))] [(.int (0 : Int32)), (.ref b)])) _
    refine X17.laload hx (j := (0 : Int32)) (v := (.long v0)) (by rw [e17]; exact Ar_19.1) (State.isArrayOf_alike hZ.alike Ar_19.2.1) Ar_19.2.2 hin_19 (H_19.at hin_19 rfl) (g := (mkF m 57 #[.val (.ref a), .val (.long x0), .second, .val (.int (1 : Int32))] [(.int (0 : Int32)), (.ref b)])) rfl rfl (hb hby d4_57) _ ?_
    show Steps p.tables e below (T17.setTop (mkF m 58 #[.val (.ref a), .val (.long x0), .second, .val (.int (1 : Int32))] [(.long v0)])) _
    refine XS.lloadN X17.here hx rfl (hb hby d4_58) rfl ?_
    show Steps p.tables e below (T17.setTop (mkF m 59 #[.val (.ref a), .val (.long x0), .second, .val (.int (1 : Int32))] [(.long x0), (.long v0)])) _
    refine XS.lcmp X17.here hx rfl (hb hby d4_59) rfl ?_
    exact kt)
  by_cases d1 : x0 < v0
  · -- d1
    have pre21 : ∀ tg, Steps p.tables e below (T17.setTop (mkF m 64 #[.val (.ref a), .val (.long x0), .second, .val (.int (1 : Int32))] [(.ref a)])) tg → G tg := fun tg kt => pre20 tg (by
      show Steps p.tables e below (T17.setTop (mkF m 60 #[.val (.ref a), .val (.long x0), .second, .val (.int (1 : Int32))] [(.int (lcmpW v0 x0))])) _
      refine XS.ifNo X17.here hx rfl (hb hby d4_60) rfl ((if0 _ _).trans (tlt ((lw_gt v0 x0).mpr d1)).2.2.2) ?_
      show Steps p.tables e below (T17.setTop (mkF m 63 #[.val (.ref a), .val (.long x0), .second, .val (.int (1 : Int32))] [])) _
      refine XS.aloadN X17.here hx rfl (hb hby d4_63) rfl rfl ?_
      exact kt)
    obtain ⟨T22, X22, e22, st22⟩ := getF X17 hx hZ hown (host := "") (Or.inl (hw _ (List.mem_of_getElem? (i := 10) rfl))) Via.refl e17 F_v_13 (g := (mkF m 64 #[.val (.ref a), .val (.long x0), .second, .val (.int (1 : Int32))] [(.ref a)])) rfl rfl (hb hby d4_64)
    have pre22s : ∀ tg, Steps p.tables e below (T22.setTop (mkF m 67 #[.val (.ref a), .val (.long x0), .second, .val (.int (1 : Int32))] [(.ref b)])) tg → G tg := fun tg kt => pre21 tg (st22 tg kt)
    have pre23 : ∀ tg, Steps p.tables e below (T22.setTop (mkF m 69 #[.val (.ref a), .val (.long x0), .second, .val (.int (1 : Int32))] [(.ref a), (.int (1 : Int32)), (.ref b)])) tg → G tg := fun tg kt => pre22s tg (by
      show Steps p.tables e below (T22.setTop (mkF m 67 #[.val (.ref a), .val (.long x0), .second, .val (.int (1 : Int32))] [(.ref b)])) _
      refine XS.iloadN X22.here hx rfl (hb hby d4_67) rfl ?_
      show Steps p.tables e below (T22.setTop (mkF m 68 #[.val (.ref a), .val (.long x0), .second, .val (.int (1 : Int32))] [(.int (1 : Int32)), (.ref b)])) _
      refine XS.aloadN X22.here hx rfl (hb hby d4_68) rfl rfl ?_
      exact kt)
    obtain ⟨T24, X24, e24, st24⟩ := getF X22 hx hZ hown (host := "") (Or.inl (hw _ (List.mem_of_getElem? (i := 10) rfl))) Via.refl e22 F_v_13 (g := (mkF m 69 #[.val (.ref a), .val (.long x0), .second, .val (.int (1 : Int32))] [(.ref a), (.int (1 : Int32)), (.ref b)])) rfl rfl (hb hby d4_69)
    have pre24s : ∀ tg, Steps p.tables e below (T24.setTop (mkF m 72 #[.val (.ref a), .val (.long x0), .second, .val (.int (1 : Int32))] [(.ref b), (.int (1 : Int32)), (.ref b)])) tg → G tg := fun tg kt => pre23 tg (st24 tg kt)
    have pre25 : ∀ tg, Steps p.tables e below (T24.setTop (mkF m 77 #[.val (.ref a), .val (.long x0), .second, .val (.int (1 : Int32))] [(.int (0 : Int32)), (.ref b), (.int (1 : Int32)), (.ref b)])) tg → G tg := fun tg kt => pre24s tg (by
      show Steps p.tables e below (T24.setTop (mkF m 72 #[.val (.ref a), .val (.long x0), .second, .val (.int (1 : Int32))] [(.ref b), (.int (1 : Int32)), (.ref b)])) _
      refine XS.iloadN X24.here hx rfl (hb hby d4_72) rfl ?_
      show Steps p.tables e below (T24.setTop (mkF m 73 #[.val (.ref a), .val (.long x0), .second, .val (.int (1 : Int32))] [(.int (1 : Int32)), (.ref b), (.int (1 : Int32)), (.ref b)])) _
      refine XS.iconst X24.here hx rfl (hb hby d4_73) ?_
      show Steps p.tables e below (T24.setTop (mkF m 74 #[.val (.ref a), .val (.long x0), .second, .val (.int (1 : Int32))] [(.int (1 : Int32)), (.int (1 : Int32)), (.ref b), (.int (1 : Int32)), (.ref b)])) _
      refine XS.isub X24.here hx rfl (hb hby d4_74) rfl ?_
      show Steps p.tables e below (T24.setTop (mkF m 75 #[.val (.ref a), .val (.long x0), .second, .val (.int (1 : Int32))] [(.int (0 : Int32)), (.ref b), (.int (1 : Int32)), (.ref b)])) _
      refine XS.iconst X24.here hx rfl (hb hby d4_75) ?_
      show Steps p.tables e below (T24.setTop (mkF m 76 #[.val (.ref a), .val (.long x0), .second, .val (.int (1 : Int32))] [(.int (2 : Int32)), (.int (0 : Int32)), (.ref b), (.int (1 : Int32)), (.ref b)])) _
      refine XS.idiv X24.here hx rfl (hb hby d4_76) rfl (by decide) ?_
      exact kt)
    have op_26 := V_b_15
    obtain ⟨cl_26, Ar_26, q_26, S_26, Ng_26, H_26, G_26⟩ := op_26
    have hin_26 : ¬ ((0 : Int32) < 0 ∨ cl_26.slots.size ≤ ((0 : Int32)).toNatClampNeg) := inb_of S_26 ⟨by decide, by decide⟩
    have pre27 : ∀ tg, Steps p.tables e below (T24.setTop (mkF m 78 #[.val (.ref a), .val (.long x0), .second, .val (.int (1 : Int32))] [(.long v0), (.int (1 : Int32)), (.ref b)])) tg → G tg := fun tg kt => pre25 tg (by
      show Steps p.tables e below (T24.setTop (mkF m 77 #[.val (.ref a), .val (.long x0), .second, .val (.int (1 : Int32))] [(.int (0 : Int32)), (.ref b), (.int (1 : Int32)), (.ref b)])) _
      refine X24.laload hx (j := (0 : Int32)) (v := (.long v0)) (by rw [e24]; exact Ar_26.1) (State.isArrayOf_alike hZ.alike Ar_26.2.1) Ar_26.2.2 hin_26 (H_26.at hin_26 rfl) (g := (mkF m 77 #[.val (.ref a), .val (.long x0), .second, .val (.int (1 : Int32))] [(.int (0 : Int32)), (.ref b), (.int (1 : Int32)), (.ref b)])) rfl rfl (hb hby d4_77) _ ?_
      exact kt)
    have op_28 := V_b_15
    obtain ⟨cl_28, Ar_28, q_28, S_28, Ng_28, H_28, G_28⟩ := op_28
    have hin_28 : ¬ ((1 : Int32) < 0 ∨ cl_28.slots.size ≤ ((1 : Int32)).toNatClampNeg) := inb_of S_28 ⟨by decide, by decide⟩
    obtain ⟨T28, h28, X28, e28, W28, st28⟩ := stJ X24 hx hZ e24 Ar_28 (j := (1 : Int32)) hin_28 (g := (mkF m 78 #[.val (.ref a), .val (.long x0), .second, .val (.int (1 : Int32))] [(.long v0), (.int (1 : Int32)), (.ref b)])) rfl rfl (hb hby d4_78)
    have pre28s : ∀ tg, Steps p.tables e below (T28.setTop (mkF m 79 #[.val (.ref a), .val (.long x0), .second, .val (.int (1 : Int32))] [])) tg → G tg := fun tg kt => pre27 tg (st28 tg kt)
    have E_a_29 := E_a_12.wr W28
    have F_v_30 := F_v_13.other W28 (Or.inl ne_a_b)
    have F_s_31 := F_s_14.other W28 (Or.inl ne_a_b)
    have V28_b : Arv Z h28 b kA .long (16 : Int32) [(.long v0), (.long v0), (.long v2), (.long (0 : Int64)), (.long (0 : Int64)), (.long (0 : Int64)), (.long (0 : Int64)), (.long (0 : Int64)), (.long (0 : Int64)), (.long (0 : Int64)), (.long (0 : Int64)), (.long (0 : Int64)), (.long (0 : Int64)), (.long (0 : Int64)), (.long (0 : Int64)), (.long (0 : Int64))] (.long (0 : Int64)) := Arv.set Ar_28 q_28 S_28 Ng_28 H_28 G_28 rfl W28 1 rfl (Nat.le_of_ble_eq_true rfl)
    have N28 := Fr.snoc X28 N11 O_b
    have Z28 : n0 ≤ h28.size := Nat.le_trans Z11 (Keep.of_wr W28).1
    have K28 : Keep h0 h28 [a, b] := K11.wr W28 (Or.inl (List.mem_of_getElem? (i := 1) rfl))
    have pre32 : ∀ tg, Steps p.tables e below (T28.setTop (mkF m 89 #[.val (.ref a), .val (.long x0), .second, .val (.int (0 : Int32))] [(.ref a)])) tg → G tg := fun tg kt => pre28s tg (by
      show Steps p.tables e below (T28.setTop (mkF m 79 #[.val (.ref a), .val (.long x0), .second, .val (.int (1 : Int32))] [])) _
      refine XS.iloadN X28.here hx rfl (hb hby d4_79) rfl ?_
      show Steps p.tables e below (T28.setTop (mkF m 80 #[.val (.ref a), .val (.long x0), .second, .val (.int (1 : Int32))] [(.int (1 : Int32))])) _
      refine XS.iconst X28.here hx rfl (hb hby d4_80) ?_
      show Steps p.tables e below (T28.setTop (mkF m 81 #[.val (.ref a), .val (.long x0), .second, .val (.int (1 : Int32))] [(.int (1 : Int32)), (.int (1 : Int32))])) _
      refine XS.isub X28.here hx rfl (hb hby d4_81) rfl ?_
      show Steps p.tables e below (T28.setTop (mkF m 82 #[.val (.ref a), .val (.long x0), .second, .val (.int (1 : Int32))] [(.int (0 : Int32))])) _
      refine XS.iconst X28.here hx rfl (hb hby d4_82) ?_
      show Steps p.tables e below (T28.setTop (mkF m 83 #[.val (.ref a), .val (.long x0), .second, .val (.int (1 : Int32))] [(.int (2 : Int32)), (.int (0 : Int32))])) _
      refine XS.idiv X28.here hx rfl (hb hby d4_83) rfl (by decide) ?_
      show Steps p.tables e below (T28.setTop (mkF m 84 #[.val (.ref a), .val (.long x0), .second, .val (.int (1 : Int32))] [(.int (0 : Int32))])) _
      refine XS.istoreN X28.here hx rfl (hb hby d4_84) rfl (l' := #[.val (.ref a), .val (.long x0), .second, .val (.int (0 : Int32))]) rfl ?_
      show Steps p.tables e below (T28.setTop (mkF m 85 #[.val (.ref a), .val (.long x0), .second, .val (.int (0 : Int32))] [])) _
      refine XS.goto X28.here hx rfl (pc0 := 85) (pc' := 44) rfl (hb hby d4_85) (by decide) (by decide) ?_
      show Steps p.tables e below (T28.setTop (mkF m 44 #[.val (.ref a), .val (.long x0), .second, .val (.int (0 : Int32))] [])) _
      refine XS.iloadN X28.here hx rfl (hb hby d4_44) rfl ?_
      show Steps p.tables e below (T28.setTop (mkF m 45 #[.val (.ref a), .val (.long x0), .second, .val (.int (0 : Int32))] [(.int (0 : Int32))])) _
      refine XS.ifYes X28.here hx rfl (pc0 := 45) (pc' := 88) rfl (hb hby d4_45) rfl ((if0 _ _).trans (flt (by decide : ¬ ((0 : Int32) < (0 : Int32)))).2.2.2) (by decide) (by decide) ?_
      show Steps p.tables e below (T28.setTop (mkF m 88 #[.val (.ref a), .val (.long x0), .second, .val (.int (0 : Int32))] [])) _
      refine XS.aloadN X28.here hx rfl (hb hby d4_88) rfl rfl ?_
      exact kt)
    obtain ⟨T33, X33, e33, st33⟩ := getF X28 hx hZ hown (host := "") (Or.inl (hw _ (List.mem_of_getElem? (i := 10) rfl))) Via.refl e28 F_v_30 (g := (mkF m 89 #[.val (.ref a), .val (.long x0), .second, .val (.int (0 : Int32))] [(.ref a)])) rfl rfl (hb hby d4_89)
    have pre33s : ∀ tg, Steps p.tables e below (T33.setTop (mkF m 92 #[.val (.ref a), .val (.long x0), .second, .val (.int (0 : Int32))] [(.ref b)])) tg → G tg := fun tg kt => pre32 tg (st33 tg kt)
    have pre34 : ∀ tg, Steps p.tables e below (T33.setTop (mkF m 94 #[.val (.ref a), .val (.long x0), .second, .val (.int (0 : Int32))] [(.long x0), (.int (0 : Int32)), (.ref b)])) tg → G tg := fun tg kt => pre33s tg (by
      show Steps p.tables e below (T33.setTop (mkF m 92 #[.val (.ref a), .val (.long x0), .second, .val (.int (0 : Int32))] [(.ref b)])) _
      refine XS.iloadN X33.here hx rfl (hb hby d4_92) rfl ?_
      show Steps p.tables e below (T33.setTop (mkF m 93 #[.val (.ref a), .val (.long x0), .second, .val (.int (0 : Int32))] [(.int (0 : Int32)), (.ref b)])) _
      refine XS.lloadN X33.here hx rfl (hb hby d4_93) rfl ?_
      exact kt)
    have op_35 := V28_b
    obtain ⟨cl_35, Ar_35, q_35, S_35, Ng_35, H_35, G_35⟩ := op_35
    have hin_35 : ¬ ((0 : Int32) < 0 ∨ cl_35.slots.size ≤ ((0 : Int32)).toNatClampNeg) := inb_of S_35 ⟨by decide, by decide⟩
    obtain ⟨T35, h35, X35, e35, W35, st35⟩ := stJ X33 hx hZ e33 Ar_35 (j := (0 : Int32)) hin_35 (g := (mkF m 94 #[.val (.ref a), .val (.long x0), .second, .val (.int (0 : Int32))] [(.long x0), (.int (0 : Int32)), (.ref b)])) rfl rfl (hb hby d4_94)
    have pre35s : ∀ tg, Steps p.tables e below (T35.setTop (mkF m 95 #[.val (.ref a), .val (.long x0), .second, .val (.int (0 : Int32))] [])) tg → G tg := fun tg kt => pre34 tg (st35 tg kt)
    have E_a_36 := E_a_29.wr W35
    have F_v_37 := F_v_30.other W35 (Or.inl ne_a_b)
    have F_s_38 := F_s_31.other W35 (Or.inl ne_a_b)
    have V35_b : Arv Z h35 b kA .long (16 : Int32) [(.long x0), (.long v0), (.long v2), (.long (0 : Int64)), (.long (0 : Int64)), (.long (0 : Int64)), (.long (0 : Int64)), (.long (0 : Int64)), (.long (0 : Int64)), (.long (0 : Int64)), (.long (0 : Int64)), (.long (0 : Int64)), (.long (0 : Int64)), (.long (0 : Int64)), (.long (0 : Int64)), (.long (0 : Int64))] (.long (0 : Int64)) := Arv.set Ar_35 q_35 S_35 Ng_35 H_35 G_35 rfl W35 0 rfl (Nat.le_of_ble_eq_true rfl)
    have N35 := Fr.snoc X35 N28 O_b
    have Z35 : n0 ≤ h35.size := Nat.le_trans Z28 (Keep.of_wr W35).1
    have K35 : Keep h0 h35 [a, b] := K28.wr W35 (Or.inl (List.mem_of_getElem? (i := 1) rfl))
    obtain ⟨fs, hr, hrun, hended, hW, hsame⟩ := X35.leave (v := none) (fun _ => rfl)
    subst hG
    refine ⟨_, _, pre35s _ ?_, hrun, hended, _, _, rfl, ?_, ⟨_, rfl⟩, hW, hsame.mono (by decide) (by decide)⟩
    · skip
      show Steps p.tables e below (T35.setTop (mkF m 95 #[.val (.ref a), .val (.long x0), .second, .val (.int (0 : Int32))] [])) _
      exact X35.returnOut hx Bd.returns (hb hby d4_95) hr
    · show Q_rm4_1 Z a x0 b kA v0 v1 v2 h0 n0 _ T35.heap _
      rw [e35]
      exact ⟨rfl, N35, K35, _, _, _, F_v_37, F_s_38, V35_b⟩
  · -- not d1
    have pre39 : ∀ tg, Steps p.tables e below (T17.setTop (mkF m 89 #[.val (.ref a), .val (.long x0), .second, .val (.int (1 : Int32))] [(.ref a)])) tg → G tg := fun tg kt => pre20 tg (by
      show Steps p.tables e below (T17.setTop (mkF m 60 #[.val (.ref a), .val (.long x0), .second, .val (.int (1 : Int32))] [(.int (lcmpW v0 x0))])) _
      refine XS.ifYes X17.here hx rfl (pc0 := 60) (pc' := 88) rfl (hb hby d4_60) rfl ((if0 _ _).trans (flt (mt (lw_gt v0 x0).mp d1)).2.2.2) (by decide) (by decide) ?_
      show Steps p.tables e below (T17.setTop (mkF m 88 #[.val (.ref a), .val (.long x0), .second, .val (.int (1 : Int32))] [])) _
      refine XS.aloadN X17.here hx rfl (hb hby d4_88) rfl rfl ?_
      exact kt)
    obtain ⟨T40, X40, e40, st40⟩ := getF X17 hx hZ hown (host := "") (Or.inl (hw _ (List.mem_of_getElem? (i := 10) rfl))) Via.refl e17 F_v_13 (g := (mkF m 89 #[.val (.ref a), .val (.long x0), .second, .val (.int (1 : Int32))] [(.ref a)])) rfl rfl (hb hby d4_89)
    have pre40s : ∀ tg, Steps p.tables e below (T40.setTop (mkF m 92 #[.val (.ref a), .val (.long x0), .second, .val (.int (1 : Int32))] [(.ref b)])) tg → G tg := fun tg kt => pre39 tg (st40 tg kt)
    have pre41 : ∀ tg, Steps p.tables e below (T40.setTop (mkF m 94 #[.val (.ref a), .val (.long x0), .second, .val (.int (1 : Int32))] [(.long x0), (.int (1 : Int32)), (.ref b)])) tg → G tg := fun tg kt => pre40s tg (by
      show Steps p.tables e below (T40.setTop (mkF m 92 #[.val (.ref a), .val (.long x0), .second, .val (.int (1 : Int32))] [(.ref b)])) _
      refine XS.iloadN X40.here hx rfl (hb hby d4_92) rfl ?_
      show Steps p.tables e below (T40.setTop (mkF m 93 #[.val (.ref a), .val (.long x0), .second, .val (.int (1 : Int32))] [(.int (1 : Int32)), (.ref b)])) _
      refine XS.lloadN X40.here hx rfl (hb hby d4_93) rfl ?_
      exact kt)
    have op_42 := V_b_15
    obtain ⟨cl_42, Ar_42, q_42, S_42, Ng_42, H_42, G_42⟩ := op_42
    have hin_42 : ¬ ((1 : Int32) < 0 ∨ cl_42.slots.size ≤ ((1 : Int32)).toNatClampNeg) := inb_of S_42 ⟨by decide, by decide⟩
    obtain ⟨T42, h42, X42, e42, W42, st42⟩ := stJ X40 hx hZ e40 Ar_42 (j := (1 : Int32)) hin_42 (g := (mkF m 94 #[.val (.ref a), .val (.long x0), .second, .val (.int (1 : Int32))] [(.long x0), (.int (1 : Int32)), (.ref b)])) rfl rfl (hb hby d4_94)
    have pre42s : ∀ tg, Steps p.tables e below (T42.setTop (mkF m 95 #[.val (.ref a), .val (.long x0), .second, .val (.int (1 : Int32))] [])) tg → G tg := fun tg kt => pre41 tg (st42 tg kt)
    have E_a_43 := E_a_12.wr W42
    have F_v_44 := F_v_13.other W42 (Or.inl ne_a_b)
    have F_s_45 := F_s_14.other W42 (Or.inl ne_a_b)
    have V42_b : Arv Z h42 b kA .long (16 : Int32) [(.long v0), (.long x0), (.long v2), (.long (0 : Int64)), (.long (0 : Int64)), (.long (0 : Int64)), (.long (0 : Int64)), (.long (0 : Int64)), (.long (0 : Int64)), (.long (0 : Int64)), (.long (0 : Int64)), (.long (0 : Int64)), (.long (0 : Int64)), (.long (0 : Int64)), (.long (0 : Int64)), (.long (0 : Int64))] (.long (0 : Int64)) := Arv.set Ar_42 q_42 S_42 Ng_42 H_42 G_42 rfl W42 1 rfl (Nat.le_of_ble_eq_true rfl)
    have N42 := Fr.snoc X42 N11 O_b
    have Z42 : n0 ≤ h42.size := Nat.le_trans Z11 (Keep.of_wr W42).1
    have K42 : Keep h0 h42 [a, b] := K11.wr W42 (Or.inl (List.mem_of_getElem? (i := 1) rfl))
    obtain ⟨fs, hr, hrun, hended, hW, hsame⟩ := X42.leave (v := none) (fun _ => rfl)
    subst hG
    refine ⟨_, _, pre42s _ ?_, hrun, hended, _, _, rfl, ?_, ⟨_, rfl⟩, hW, hsame.mono (by decide) (by decide)⟩
    · skip
      show Steps p.tables e below (T42.setTop (mkF m 95 #[.val (.ref a), .val (.long x0), .second, .val (.int (1 : Int32))] [])) _
      exact X42.returnOut hx Bd.returns (hb hby d4_95) hr
    · show Q_rm4_1 Z a x0 b kA v0 v1 v2 h0 n0 _ T42.heap _
      rw [e42]
      exact ⟨rfl, N42, K42, _, _, _, F_v_44, F_s_45, V42_b⟩
def Q_rm4_2 (Z : State) (a : Addr) (x0 : Int64) (b : Addr) (kA : ClassId) (v0 v1 v2 : Int64) (h0 : Heap) (n0 : Nat) (v : Option Value) (h : Heap) (L : List Loc) : Prop := v = none ∧ Fr n0 L ∧ Keep h0 h [a, b] ∧ ∃ (w0 w1 w2 : Int64), Fld Z h a "com/example/find_leader/findleader/engine/LongHeap" "values" "[J" (.ref b) ∧ Fld Z h a "com/example/find_leader/findleader/engine/LongHeap" "size" "I" (.int (3 : Int32)) ∧ Arv Z h b kA .long (16 : Int32) [(.long w0), (.long w1), (.long w2), (.long (0 : Int64)), (.long (0 : Int64)), (.long (0 : Int64)), (.long (0 : Int64)), (.long (0 : Int64)), (.long (0 : Int64)), (.long (0 : Int64)), (.long (0 : Int64)), (.long (0 : Int64)), (.long (0 : Int64)), (.long (0 : Int64)), (.long (0 : Int64)), (.long (0 : Int64))] (.long (0 : Int64))
set_option maxRecDepth 65536 in
set_option maxHeartbeats 40000000 in
theorem rm4_2 (l : Launch) (Z : State) (a0 : Array Value) (hw : ∀ d ∈ tables_1, d.before a0 Z = true) (ws : List Jvm.Cond) (a : Addr) (x0 : Int64) (b : Addr) (kA : ClassId) (v0 v1 v2 : Int64) (h0 : Heap) (n0 : Nat) (Z0 : n0 ≤ h0.size) (E_a : Exa Z h0 a "com/example/find_leader/findleader/engine/LongHeap") (F_v : Fld Z h0 a "com/example/find_leader/findleader/engine/LongHeap" "values" "[J" (.ref b)) (F_s : Fld Z h0 a "com/example/find_leader/findleader/engine/LongHeap" "size" "I" (.int (2 : Int32))) (V_b : Arv Z h0 b kA .long (16 : Int32) [(.long v0), (.long v1), (.long v2), (.long (0 : Int64)), (.long (0 : Int64)), (.long (0 : Int64)), (.long (0 : Int64)), (.long (0 : Int64)), (.long (0 : Int64)), (.long (0 : Int64)), (.long (0 : Int64)), (.long (0 : Int64)), (.long (0 : Int64)), (.long (0 : Int64)), (.long (0 : Int64)), (.long (0 : Int64))] (.long (0 : Int64))) (O_a : n0 ≤ a) (O_b : n0 ≤ b) (ne_a_b : a ≠ b) :
    MetFree l (⟨"com/example/find_leader/findleader/engine/LongHeap", "add", "(J)V"⟩ : MethodName) (head1 (Jvm.Cond.code (⟨"com/example/find_leader/findleader/engine/LongHeap", "add", "(J)V"⟩ : MethodName) prog_27_method_4_code 4 none :: ws) ({ frames := 0, cells := 0, slots := 0, locals := 0 } : Room)) (fun argv U => argv = #[(.ref a), (.long x0)] ∧ Z.Warmed39 U.vm ∧ U.heap = h0) (fun _ _ _ _ _ => True) (fun _ U o U' => ∃ v L, o = .returned v ∧ Q_rm4_2 Z a x0 b kA v0 v1 v2 h0 n0 v U'.heap L ∧ FrameEnd U o U' L ({ frames := 0, cells := 0, slots := 0, locals := 0 } : Room).cells ({ frames := 0, cells := 0, slots := 0, locals := 0 } : Room).slots) := by
  refine MetFree.of_bodySF (plainFor_of_name pn_4) hisR ?_
  intro p e s m args below meth c s₁ Bd hml0 hP hK
  obtain ⟨rfl, hZ, hh⟩ := hP
  have hx := Bd.exec
  have hby := Bd.bytes
  have hml : c.maxLocals = 4 := hml0
  have hown : s.vm.findClass "com/example/find_leader/findleader/engine/LongHeap" = some m.cls := findClass_of_methodNamed Bd.named
  have hnm := (name_of_methodNamed Bd.named Bd.method).1
  have X0 : Stand p l e ({ frames := 0, cells := 0, slots := 0, locals := 0 } : Room) s m #[(.ref a), (.long x0)] below meth c s₁ [] 0 0 := Stand.of_body Bd
  have e0 : s₁.heap = h0 := by rw [← hh, Bd.state]; rfl
  have N0 := Fr.nil n0
  obtain ⟨G, hG⟩ : ∃ G : State → Prop, G = fun tg => Steps p.tables e below (s₁.setTop (entryFrame m #[(.ref a), (.long x0)] 4)) tg := ⟨_, rfl⟩
  have pre0 : ∀ tg, Steps p.tables e below (s₁.setTop (mkF m 0 #[.val (.ref a), .val (.long x0), .second, .unset] [])) tg → G tg := fun tg kt => by rw [hG]; exact castTop (ef_4_R_J m a x0) kt
  have pre1 : ∀ tg, Steps p.tables e below (s₁.setTop (mkF m 1 #[.val (.ref a), .val (.long x0), .second, .unset] [(.ref a)])) tg → G tg := fun tg kt => pre0 tg (by
    show Steps p.tables e below (s₁.setTop (mkF m 0 #[.val (.ref a), .val (.long x0), .second, .unset] [])) _
    refine XS.aloadN X0.here hx rfl (hb hby d4_0) rfl rfl ?_
    exact kt)
  obtain ⟨T2, X2, e2, st2⟩ := getF X0 hx hZ hown (host := "") (Or.inl (hw _ (List.mem_of_getElem? (i := 17) rfl))) Via.refl e0 F_s (g := (mkF m 1 #[.val (.ref a), .val (.long x0), .second, .unset] [(.ref a)])) rfl rfl (hb hby d4_1)
  have pre2s : ∀ tg, Steps p.tables e below (T2.setTop (mkF m 4 #[.val (.ref a), .val (.long x0), .second, .unset] [(.int (2 : Int32))])) tg → G tg := fun tg kt => pre1 tg (st2 tg kt)
  have pre3 : ∀ tg, Steps p.tables e below (T2.setTop (mkF m 5 #[.val (.ref a), .val (.long x0), .second, .unset] [(.ref a), (.int (2 : Int32))])) tg → G tg := fun tg kt => pre2s tg (by
    show Steps p.tables e below (T2.setTop (mkF m 4 #[.val (.ref a), .val (.long x0), .second, .unset] [(.int (2 : Int32))])) _
    refine XS.aloadN X2.here hx rfl (hb hby d4_4) rfl rfl ?_
    exact kt)
  obtain ⟨T4, X4, e4, st4⟩ := getF X2 hx hZ hown (host := "") (Or.inl (hw _ (List.mem_of_getElem? (i := 10) rfl))) Via.refl e2 F_v (g := (mkF m 5 #[.val (.ref a), .val (.long x0), .second, .unset] [(.ref a), (.int (2 : Int32))])) rfl rfl (hb hby d4_5)
  have pre4s : ∀ tg, Steps p.tables e below (T4.setTop (mkF m 8 #[.val (.ref a), .val (.long x0), .second, .unset] [(.ref b), (.int (2 : Int32))])) tg → G tg := fun tg kt => pre3 tg (st4 tg kt)
  have op_5 := V_b
  obtain ⟨cl_5, Ar_5, q_5, S_5, Ng_5, H_5, G_5⟩ := op_5
  have pre6 : ∀ tg, Steps p.tables e below (T4.setTop (mkF m 30 #[.val (.ref a), .val (.long x0), .second, .unset] [(.ref a)])) tg → G tg := fun tg kt => pre4s tg (by
    show Steps p.tables e below (T4.setTop (mkF m 8 #[.val (.ref a), .val (.long x0), .second, .unset] [(.ref b), (.int (2 : Int32))])) _
    refine X4.arraylength hx (by rw [e4]; exact Ar_5.1) (State.isArrayOf_alike hZ.alike Ar_5.2.1) (g := (mkF m 8 #[.val (.ref a), .val (.long x0), .second, .unset] [(.ref b), (.int (2 : Int32))])) rfl rfl (hb hby d4_8) _ ?_
    rw [len_of S_5 Ng_5]
    show Steps p.tables e below (T4.setTop (mkF m 9 #[.val (.ref a), .val (.long x0), .second, .unset] [(.int (16 : Int32)), (.int (2 : Int32))])) _
    refine XS.icmpYes X4.here hx rfl (pc0 := 9) (pc' := 29) rfl (hb hby d4_9) rfl (feq (by decide : ¬ ((2 : Int32) = (16 : Int32)))).2 (by decide) (by decide) ?_
    show Steps p.tables e below (T4.setTop (mkF m 29 #[.val (.ref a), .val (.long x0), .second, .unset] [])) _
    refine XS.aloadN X4.here hx rfl (hb hby d4_29) rfl rfl ?_
    exact kt)
  obtain ⟨T7, X7, e7, st7⟩ := getF X4 hx hZ hown (host := "") (Or.inl (hw _ (List.mem_of_getElem? (i := 17) rfl))) Via.refl e4 F_s (g := (mkF m 30 #[.val (.ref a), .val (.long x0), .second, .unset] [(.ref a)])) rfl rfl (hb hby d4_30)
  have pre7s : ∀ tg, Steps p.tables e below (T7.setTop (mkF m 33 #[.val (.ref a), .val (.long x0), .second, .unset] [(.int (2 : Int32))])) tg → G tg := fun tg kt => pre6 tg (st7 tg kt)
  have pre8 : ∀ tg, Steps p.tables e below (T7.setTop (mkF m 36 #[.val (.ref a), .val (.long x0), .second, .val (.int (2 : Int32))] [(.ref a), (.ref a)])) tg → G tg := fun tg kt => pre7s tg (by
    show Steps p.tables e below (T7.setTop (mkF m 33 #[.val (.ref a), .val (.long x0), .second, .unset] [(.int (2 : Int32))])) _
    refine XS.istoreN X7.here hx rfl (hb hby d4_33) rfl (l' := #[.val (.ref a), .val (.long x0), .second, .val (.int (2 : Int32))]) rfl ?_
    show Steps p.tables e below (T7.setTop (mkF m 34 #[.val (.ref a), .val (.long x0), .second, .val (.int (2 : Int32))] [])) _
    refine XS.aloadN X7.here hx rfl (hb hby d4_34) rfl rfl ?_
    show Steps p.tables e below (T7.setTop (mkF m 35 #[.val (.ref a), .val (.long x0), .second, .val (.int (2 : Int32))] [(.ref a)])) _
    refine XS.dup X7.here hx rfl (hb hby d4_35) rfl rfl ?_
    exact kt)
  obtain ⟨T9, X9, e9, st9⟩ := getF X7 hx hZ hown (host := "") (Or.inl (hw _ (List.mem_of_getElem? (i := 17) rfl))) Via.refl e7 F_s (g := (mkF m 36 #[.val (.ref a), .val (.long x0), .second, .val (.int (2 : Int32))] [(.ref a), (.ref a)])) rfl rfl (hb hby d4_36)
  have pre9s : ∀ tg, Steps p.tables e below (T9.setTop (mkF m 39 #[.val (.ref a), .val (.long x0), .second, .val (.int (2 : Int32))] [(.int (2 : Int32)), (.ref a)])) tg → G tg := fun tg kt => pre8 tg (st9 tg kt)
  have pre10 : ∀ tg, Steps p.tables e below (T9.setTop (mkF m 41 #[.val (.ref a), .val (.long x0), .second, .val (.int (2 : Int32))] [(.int (3 : Int32)), (.ref a)])) tg → G tg := fun tg kt => pre9s tg (by
    show Steps p.tables e below (T9.setTop (mkF m 39 #[.val (.ref a), .val (.long x0), .second, .val (.int (2 : Int32))] [(.int (2 : Int32)), (.ref a)])) _
    refine XS.iconst X9.here hx rfl (hb hby d4_39) ?_
    show Steps p.tables e below (T9.setTop (mkF m 40 #[.val (.ref a), .val (.long x0), .second, .val (.int (2 : Int32))] [(.int (1 : Int32)), (.int (2 : Int32)), (.ref a)])) _
    refine XS.iadd X9.here hx rfl (hb hby d4_40) rfl ?_
    exact kt)
  obtain ⟨T11, h11, X11, e11, W11, st11⟩ := putF X9 hx hZ hown (host := "") (Or.inl (hw _ (List.mem_of_getElem? (i := 17) rfl))) Via.refl e9 F_s E_a (Or.inl (hw _ (List.mem_of_getElem? (i := 18) rfl))) (hw _ (List.mem_of_getElem? (i := 1) rfl)) (ty := .int) (by decide) rfl rfl (g := (mkF m 41 #[.val (.ref a), .val (.long x0), .second, .val (.int (2 : Int32))] [(.int (3 : Int32)), (.ref a)])) rfl rfl (hb hby d4_41)
  have pre11s : ∀ tg, Steps p.tables e below (T11.setTop (mkF m 44 #[.val (.ref a), .val (.long x0), .second, .val (.int (2 : Int32))] [])) tg → G tg := fun tg kt => pre10 tg (st11 tg kt)
  have E_a_12 := E_a.wr W11
  have F_v_13 := F_v.other W11 (Or.inr (slot_ne (Or.inl (hw _ (List.mem_of_getElem? (i := 11) rfl))) (Or.inl (hw _ (List.mem_of_getElem? (i := 18) rfl))) (by decide) (t := (.array .long)) (t' := .int) (by decide) (by decide)))
  have F_s_14 := F_s.same W11
  have V_b_15 := V_b.other W11 (Ne.symm ne_a_b)
  have N11 := Fr.snoc X11 N0 O_a
  have Z11 : n0 ≤ h11.size := Nat.le_trans Z0 (Keep.of_wr W11).1
  have K11 : Keep h0 h11 [a, b] := (Keep.refl h0 [a, b]).wr W11 (Or.inl (List.mem_of_getElem? (i := 0) rfl))
  have pre16 : ∀ tg, Steps p.tables e below (T11.setTop (mkF m 49 #[.val (.ref a), .val (.long x0), .second, .val (.int (2 : Int32))] [(.ref a)])) tg → G tg := fun tg kt => pre11s tg (by
    show Steps p.tables e below (T11.setTop (mkF m 44 #[.val (.ref a), .val (.long x0), .second, .val (.int (2 : Int32))] [])) _
    refine XS.iloadN X11.here hx rfl (hb hby d4_44) rfl ?_
    show Steps p.tables e below (T11.setTop (mkF m 45 #[.val (.ref a), .val (.long x0), .second, .val (.int (2 : Int32))] [(.int (2 : Int32))])) _
    refine XS.ifNo X11.here hx rfl (hb hby d4_45) rfl ((if0 _ _).trans (tlt (by decide : (0 : Int32) < (2 : Int32))).2.2.2) ?_
    show Steps p.tables e below (T11.setTop (mkF m 48 #[.val (.ref a), .val (.long x0), .second, .val (.int (2 : Int32))] [])) _
    refine XS.aloadN X11.here hx rfl (hb hby d4_48) rfl rfl ?_
    exact kt)
  obtain ⟨T17, X17, e17, st17⟩ := getF X11 hx hZ hown (host := "") (Or.inl (hw _ (List.mem_of_getElem? (i := 10) rfl))) Via.refl e11 F_v_13 (g := (mkF m 49 #[.val (.ref a), .val (.long x0), .second, .val (.int (2 : Int32))] [(.ref a)])) rfl rfl (hb hby d4_49)
  have pre17s : ∀ tg, Steps p.tables e below (T17.setTop (mkF m 52 #[.val (.ref a), .val (.long x0), .second, .val (.int (2 : Int32))] [(.ref b)])) tg → G tg := fun tg kt => pre16 tg (st17 tg kt)
  have pre18 : ∀ tg, Steps p.tables e below (T17.setTop (mkF m 57 #[.val (.ref a), .val (.long x0), .second, .val (.int (2 : Int32))] [(.int (0 : Int32)), (.ref b)])) tg → G tg := fun tg kt => pre17s tg (by
    show Steps p.tables e below (T17.setTop (mkF m 52 #[.val (.ref a), .val (.long x0), .second, .val (.int (2 : Int32))] [(.ref b)])) _
    refine XS.iloadN X17.here hx rfl (hb hby d4_52) rfl ?_
    show Steps p.tables e below (T17.setTop (mkF m 53 #[.val (.ref a), .val (.long x0), .second, .val (.int (2 : Int32))] [(.int (2 : Int32)), (.ref b)])) _
    refine XS.iconst X17.here hx rfl (hb hby d4_53) ?_
    show Steps p.tables e below (T17.setTop (mkF m 54 #[.val (.ref a), .val (.long x0), .second, .val (.int (2 : Int32))] [(.int (1 : Int32)), (.int (2 : Int32)), (.ref b)])) _
    refine XS.isub X17.here hx rfl (hb hby d4_54) rfl ?_
    show Steps p.tables e below (T17.setTop (mkF m 55 #[.val (.ref a), .val (.long x0), .second, .val (.int (2 : Int32))] [(.int (1 : Int32)), (.ref b)])) _
    refine XS.iconst X17.here hx rfl (hb hby d4_55) ?_
    show Steps p.tables e below (T17.setTop (mkF m 56 #[.val (.ref a), .val (.long x0), .second, .val (.int (2 : Int32))] [(.int (2 : Int32)), (.int (1 : Int32)), (.ref b)])) _
    refine XS.idiv X17.here hx rfl (hb hby d4_56) rfl (by decide) ?_
    exact kt)
  have op_19 := V_b_15
  obtain ⟨cl_19, Ar_19, q_19, S_19, Ng_19, H_19, G_19⟩ := op_19
  have hin_19 : ¬ ((0 : Int32) < 0 ∨ cl_19.slots.size ≤ ((0 : Int32)).toNatClampNeg) := inb_of S_19 ⟨by decide, by decide⟩
  have pre20 : ∀ tg, Steps p.tables e below (T17.setTop (mkF m 60 #[.val (.ref a), .val (.long x0), .second, .val (.int (2 : Int32))] [(.int (lcmpW v0 x0))])) tg → G tg := fun tg kt => pre18 tg (by
    show Steps p.tables e below (T17.setTop (mkF m 57 #[.val (.ref a), .val (.long x0), .second, .val (.int (2 : Int32))] [(.int (0 : Int32)), (.ref b)])) _
    refine X17.laload hx (j := (0 : Int32)) (v := (.long v0)) (by rw [e17]; exact Ar_19.1) (State.isArrayOf_alike hZ.alike Ar_19.2.1) Ar_19.2.2 hin_19 (H_19.at hin_19 rfl) (g := (mkF m 57 #[.val (.ref a), .val (.long x0), .second, .val (.int (2 : Int32))] [(.int (0 : Int32)), (.ref b)])) rfl rfl (hb hby d4_57) _ ?_
    show Steps p.tables e below (T17.setTop (mkF m 58 #[.val (.ref a), .val (.long x0), .second, .val (.int (2 : Int32))] [(.long v0)])) _
    refine XS.lloadN X17.here hx rfl (hb hby d4_58) rfl ?_
    show Steps p.tables e below (T17.setTop (mkF m 59 #[.val (.ref a), .val (.long x0), .second, .val (.int (2 : Int32))] [(.long x0), (.long v0)])) _
    refine XS.lcmp X17.here hx rfl (hb hby d4_59) rfl ?_
    exact kt)
  by_cases d1 : x0 < v0
  · -- d1
    have pre21 : ∀ tg, Steps p.tables e below (T17.setTop (mkF m 64 #[.val (.ref a), .val (.long x0), .second, .val (.int (2 : Int32))] [(.ref a)])) tg → G tg := fun tg kt => pre20 tg (by
      show Steps p.tables e below (T17.setTop (mkF m 60 #[.val (.ref a), .val (.long x0), .second, .val (.int (2 : Int32))] [(.int (lcmpW v0 x0))])) _
      refine XS.ifNo X17.here hx rfl (hb hby d4_60) rfl ((if0 _ _).trans (tlt ((lw_gt v0 x0).mpr d1)).2.2.2) ?_
      show Steps p.tables e below (T17.setTop (mkF m 63 #[.val (.ref a), .val (.long x0), .second, .val (.int (2 : Int32))] [])) _
      refine XS.aloadN X17.here hx rfl (hb hby d4_63) rfl rfl ?_
      exact kt)
    obtain ⟨T22, X22, e22, st22⟩ := getF X17 hx hZ hown (host := "") (Or.inl (hw _ (List.mem_of_getElem? (i := 10) rfl))) Via.refl e17 F_v_13 (g := (mkF m 64 #[.val (.ref a), .val (.long x0), .second, .val (.int (2 : Int32))] [(.ref a)])) rfl rfl (hb hby d4_64)
    have pre22s : ∀ tg, Steps p.tables e below (T22.setTop (mkF m 67 #[.val (.ref a), .val (.long x0), .second, .val (.int (2 : Int32))] [(.ref b)])) tg → G tg := fun tg kt => pre21 tg (st22 tg kt)
    have pre23 : ∀ tg, Steps p.tables e below (T22.setTop (mkF m 69 #[.val (.ref a), .val (.long x0), .second, .val (.int (2 : Int32))] [(.ref a), (.int (2 : Int32)), (.ref b)])) tg → G tg := fun tg kt => pre22s tg (by
      show Steps p.tables e below (T22.setTop (mkF m 67 #[.val (.ref a), .val (.long x0), .second, .val (.int (2 : Int32))] [(.ref b)])) _
      refine XS.iloadN X22.here hx rfl (hb hby d4_67) rfl ?_
      show Steps p.tables e below (T22.setTop (mkF m 68 #[.val (.ref a), .val (.long x0), .second, .val (.int (2 : Int32))] [(.int (2 : Int32)), (.ref b)])) _
      refine XS.aloadN X22.here hx rfl (hb hby d4_68) rfl rfl ?_
      exact kt)
    obtain ⟨T24, X24, e24, st24⟩ := getF X22 hx hZ hown (host := "") (Or.inl (hw _ (List.mem_of_getElem? (i := 10) rfl))) Via.refl e22 F_v_13 (g := (mkF m 69 #[.val (.ref a), .val (.long x0), .second, .val (.int (2 : Int32))] [(.ref a), (.int (2 : Int32)), (.ref b)])) rfl rfl (hb hby d4_69)
    have pre24s : ∀ tg, Steps p.tables e below (T24.setTop (mkF m 72 #[.val (.ref a), .val (.long x0), .second, .val (.int (2 : Int32))] [(.ref b), (.int (2 : Int32)), (.ref b)])) tg → G tg := fun tg kt => pre23 tg (st24 tg kt)
    have pre25 : ∀ tg, Steps p.tables e below (T24.setTop (mkF m 77 #[.val (.ref a), .val (.long x0), .second, .val (.int (2 : Int32))] [(.int (0 : Int32)), (.ref b), (.int (2 : Int32)), (.ref b)])) tg → G tg := fun tg kt => pre24s tg (by
      show Steps p.tables e below (T24.setTop (mkF m 72 #[.val (.ref a), .val (.long x0), .second, .val (.int (2 : Int32))] [(.ref b), (.int (2 : Int32)), (.ref b)])) _
      refine XS.iloadN X24.here hx rfl (hb hby d4_72) rfl ?_
      show Steps p.tables e below (T24.setTop (mkF m 73 #[.val (.ref a), .val (.long x0), .second, .val (.int (2 : Int32))] [(.int (2 : Int32)), (.ref b), (.int (2 : Int32)), (.ref b)])) _
      refine XS.iconst X24.here hx rfl (hb hby d4_73) ?_
      show Steps p.tables e below (T24.setTop (mkF m 74 #[.val (.ref a), .val (.long x0), .second, .val (.int (2 : Int32))] [(.int (1 : Int32)), (.int (2 : Int32)), (.ref b), (.int (2 : Int32)), (.ref b)])) _
      refine XS.isub X24.here hx rfl (hb hby d4_74) rfl ?_
      show Steps p.tables e below (T24.setTop (mkF m 75 #[.val (.ref a), .val (.long x0), .second, .val (.int (2 : Int32))] [(.int (1 : Int32)), (.ref b), (.int (2 : Int32)), (.ref b)])) _
      refine XS.iconst X24.here hx rfl (hb hby d4_75) ?_
      show Steps p.tables e below (T24.setTop (mkF m 76 #[.val (.ref a), .val (.long x0), .second, .val (.int (2 : Int32))] [(.int (2 : Int32)), (.int (1 : Int32)), (.ref b), (.int (2 : Int32)), (.ref b)])) _
      refine XS.idiv X24.here hx rfl (hb hby d4_76) rfl (by decide) ?_
      exact kt)
    have op_26 := V_b_15
    obtain ⟨cl_26, Ar_26, q_26, S_26, Ng_26, H_26, G_26⟩ := op_26
    have hin_26 : ¬ ((0 : Int32) < 0 ∨ cl_26.slots.size ≤ ((0 : Int32)).toNatClampNeg) := inb_of S_26 ⟨by decide, by decide⟩
    have pre27 : ∀ tg, Steps p.tables e below (T24.setTop (mkF m 78 #[.val (.ref a), .val (.long x0), .second, .val (.int (2 : Int32))] [(.long v0), (.int (2 : Int32)), (.ref b)])) tg → G tg := fun tg kt => pre25 tg (by
      show Steps p.tables e below (T24.setTop (mkF m 77 #[.val (.ref a), .val (.long x0), .second, .val (.int (2 : Int32))] [(.int (0 : Int32)), (.ref b), (.int (2 : Int32)), (.ref b)])) _
      refine X24.laload hx (j := (0 : Int32)) (v := (.long v0)) (by rw [e24]; exact Ar_26.1) (State.isArrayOf_alike hZ.alike Ar_26.2.1) Ar_26.2.2 hin_26 (H_26.at hin_26 rfl) (g := (mkF m 77 #[.val (.ref a), .val (.long x0), .second, .val (.int (2 : Int32))] [(.int (0 : Int32)), (.ref b), (.int (2 : Int32)), (.ref b)])) rfl rfl (hb hby d4_77) _ ?_
      exact kt)
    have op_28 := V_b_15
    obtain ⟨cl_28, Ar_28, q_28, S_28, Ng_28, H_28, G_28⟩ := op_28
    have hin_28 : ¬ ((2 : Int32) < 0 ∨ cl_28.slots.size ≤ ((2 : Int32)).toNatClampNeg) := inb_of S_28 ⟨by decide, by decide⟩
    obtain ⟨T28, h28, X28, e28, W28, st28⟩ := stJ X24 hx hZ e24 Ar_28 (j := (2 : Int32)) hin_28 (g := (mkF m 78 #[.val (.ref a), .val (.long x0), .second, .val (.int (2 : Int32))] [(.long v0), (.int (2 : Int32)), (.ref b)])) rfl rfl (hb hby d4_78)
    have pre28s : ∀ tg, Steps p.tables e below (T28.setTop (mkF m 79 #[.val (.ref a), .val (.long x0), .second, .val (.int (2 : Int32))] [])) tg → G tg := fun tg kt => pre27 tg (st28 tg kt)
    have E_a_29 := E_a_12.wr W28
    have F_v_30 := F_v_13.other W28 (Or.inl ne_a_b)
    have F_s_31 := F_s_14.other W28 (Or.inl ne_a_b)
    have V28_b : Arv Z h28 b kA .long (16 : Int32) [(.long v0), (.long v1), (.long v0), (.long (0 : Int64)), (.long (0 : Int64)), (.long (0 : Int64)), (.long (0 : Int64)), (.long (0 : Int64)), (.long (0 : Int64)), (.long (0 : Int64)), (.long (0 : Int64)), (.long (0 : Int64)), (.long (0 : Int64)), (.long (0 : Int64)), (.long (0 : Int64)), (.long (0 : Int64))] (.long (0 : Int64)) := Arv.set Ar_28 q_28 S_28 Ng_28 H_28 G_28 rfl W28 2 rfl (Nat.le_of_ble_eq_true rfl)
    have N28 := Fr.snoc X28 N11 O_b
    have Z28 : n0 ≤ h28.size := Nat.le_trans Z11 (Keep.of_wr W28).1
    have K28 : Keep h0 h28 [a, b] := K11.wr W28 (Or.inl (List.mem_of_getElem? (i := 1) rfl))
    have pre32 : ∀ tg, Steps p.tables e below (T28.setTop (mkF m 89 #[.val (.ref a), .val (.long x0), .second, .val (.int (0 : Int32))] [(.ref a)])) tg → G tg := fun tg kt => pre28s tg (by
      show Steps p.tables e below (T28.setTop (mkF m 79 #[.val (.ref a), .val (.long x0), .second, .val (.int (2 : Int32))] [])) _
      refine XS.iloadN X28.here hx rfl (hb hby d4_79) rfl ?_
      show Steps p.tables e below (T28.setTop (mkF m 80 #[.val (.ref a), .val (.long x0), .second, .val (.int (2 : Int32))] [(.int (2 : Int32))])) _
      refine XS.iconst X28.here hx rfl (hb hby d4_80) ?_
      show Steps p.tables e below (T28.setTop (mkF m 81 #[.val (.ref a), .val (.long x0), .second, .val (.int (2 : Int32))] [(.int (1 : Int32)), (.int (2 : Int32))])) _
      refine XS.isub X28.here hx rfl (hb hby d4_81) rfl ?_
      show Steps p.tables e below (T28.setTop (mkF m 82 #[.val (.ref a), .val (.long x0), .second, .val (.int (2 : Int32))] [(.int (1 : Int32))])) _
      refine XS.iconst X28.here hx rfl (hb hby d4_82) ?_
      show Steps p.tables e below (T28.setTop (mkF m 83 #[.val (.ref a), .val (.long x0), .second, .val (.int (2 : Int32))] [(.int (2 : Int32)), (.int (1 : Int32))])) _
      refine XS.idiv X28.here hx rfl (hb hby d4_83) rfl (by decide) ?_
      show Steps p.tables e below (T28.setTop (mkF m 84 #[.val (.ref a), .val (.long x0), .second, .val (.int (2 : Int32))] [(.int (0 : Int32))])) _
      refine XS.istoreN X28.here hx rfl (hb hby d4_84) rfl (l' := #[.val (.ref a), .val (.long x0), .second, .val (.int (0 : Int32))]) rfl ?_
      show Steps p.tables e below (T28.setTop (mkF m 85 #[.val (.ref a), .val (.long x0), .second, .val (.int (0 : Int32))] [])) _
      refine XS.goto X28.here hx rfl (pc0 := 85) (pc' := 44) rfl (hb hby d4_85) (by decide) (by decide) ?_
      show Steps p.tables e below (T28.setTop (mkF m 44 #[.val (.ref a), .val (.long x0), .second, .val (.int (0 : Int32))] [])) _
      refine XS.iloadN X28.here hx rfl (hb hby d4_44) rfl ?_
      show Steps p.tables e below (T28.setTop (mkF m 45 #[.val (.ref a), .val (.long x0), .second, .val (.int (0 : Int32))] [(.int (0 : Int32))])) _
      refine XS.ifYes X28.here hx rfl (pc0 := 45) (pc' := 88) rfl (hb hby d4_45) rfl ((if0 _ _).trans (flt (by decide : ¬ ((0 : Int32) < (0 : Int32)))).2.2.2) (by decide) (by decide) ?_
      show Steps p.tables e below (T28.setTop (mkF m 88 #[.val (.ref a), .val (.long x0), .second, .val (.int (0 : Int32))] [])) _
      refine XS.aloadN X28.here hx rfl (hb hby d4_88) rfl rfl ?_
      exact kt)
    obtain ⟨T33, X33, e33, st33⟩ := getF X28 hx hZ hown (host := "") (Or.inl (hw _ (List.mem_of_getElem? (i := 10) rfl))) Via.refl e28 F_v_30 (g := (mkF m 89 #[.val (.ref a), .val (.long x0), .second, .val (.int (0 : Int32))] [(.ref a)])) rfl rfl (hb hby d4_89)
    have pre33s : ∀ tg, Steps p.tables e below (T33.setTop (mkF m 92 #[.val (.ref a), .val (.long x0), .second, .val (.int (0 : Int32))] [(.ref b)])) tg → G tg := fun tg kt => pre32 tg (st33 tg kt)
    have pre34 : ∀ tg, Steps p.tables e below (T33.setTop (mkF m 94 #[.val (.ref a), .val (.long x0), .second, .val (.int (0 : Int32))] [(.long x0), (.int (0 : Int32)), (.ref b)])) tg → G tg := fun tg kt => pre33s tg (by
      show Steps p.tables e below (T33.setTop (mkF m 92 #[.val (.ref a), .val (.long x0), .second, .val (.int (0 : Int32))] [(.ref b)])) _
      refine XS.iloadN X33.here hx rfl (hb hby d4_92) rfl ?_
      show Steps p.tables e below (T33.setTop (mkF m 93 #[.val (.ref a), .val (.long x0), .second, .val (.int (0 : Int32))] [(.int (0 : Int32)), (.ref b)])) _
      refine XS.lloadN X33.here hx rfl (hb hby d4_93) rfl ?_
      exact kt)
    have op_35 := V28_b
    obtain ⟨cl_35, Ar_35, q_35, S_35, Ng_35, H_35, G_35⟩ := op_35
    have hin_35 : ¬ ((0 : Int32) < 0 ∨ cl_35.slots.size ≤ ((0 : Int32)).toNatClampNeg) := inb_of S_35 ⟨by decide, by decide⟩
    obtain ⟨T35, h35, X35, e35, W35, st35⟩ := stJ X33 hx hZ e33 Ar_35 (j := (0 : Int32)) hin_35 (g := (mkF m 94 #[.val (.ref a), .val (.long x0), .second, .val (.int (0 : Int32))] [(.long x0), (.int (0 : Int32)), (.ref b)])) rfl rfl (hb hby d4_94)
    have pre35s : ∀ tg, Steps p.tables e below (T35.setTop (mkF m 95 #[.val (.ref a), .val (.long x0), .second, .val (.int (0 : Int32))] [])) tg → G tg := fun tg kt => pre34 tg (st35 tg kt)
    have E_a_36 := E_a_29.wr W35
    have F_v_37 := F_v_30.other W35 (Or.inl ne_a_b)
    have F_s_38 := F_s_31.other W35 (Or.inl ne_a_b)
    have V35_b : Arv Z h35 b kA .long (16 : Int32) [(.long x0), (.long v1), (.long v0), (.long (0 : Int64)), (.long (0 : Int64)), (.long (0 : Int64)), (.long (0 : Int64)), (.long (0 : Int64)), (.long (0 : Int64)), (.long (0 : Int64)), (.long (0 : Int64)), (.long (0 : Int64)), (.long (0 : Int64)), (.long (0 : Int64)), (.long (0 : Int64)), (.long (0 : Int64))] (.long (0 : Int64)) := Arv.set Ar_35 q_35 S_35 Ng_35 H_35 G_35 rfl W35 0 rfl (Nat.le_of_ble_eq_true rfl)
    have N35 := Fr.snoc X35 N28 O_b
    have Z35 : n0 ≤ h35.size := Nat.le_trans Z28 (Keep.of_wr W35).1
    have K35 : Keep h0 h35 [a, b] := K28.wr W35 (Or.inl (List.mem_of_getElem? (i := 1) rfl))
    obtain ⟨fs, hr, hrun, hended, hW, hsame⟩ := X35.leave (v := none) (fun _ => rfl)
    subst hG
    refine ⟨_, _, pre35s _ ?_, hrun, hended, _, _, rfl, ?_, ⟨_, rfl⟩, hW, hsame.mono (by decide) (by decide)⟩
    · skip
      show Steps p.tables e below (T35.setTop (mkF m 95 #[.val (.ref a), .val (.long x0), .second, .val (.int (0 : Int32))] [])) _
      exact X35.returnOut hx Bd.returns (hb hby d4_95) hr
    · show Q_rm4_2 Z a x0 b kA v0 v1 v2 h0 n0 _ T35.heap _
      rw [e35]
      exact ⟨rfl, N35, K35, _, _, _, F_v_37, F_s_38, V35_b⟩
  · -- not d1
    have pre39 : ∀ tg, Steps p.tables e below (T17.setTop (mkF m 89 #[.val (.ref a), .val (.long x0), .second, .val (.int (2 : Int32))] [(.ref a)])) tg → G tg := fun tg kt => pre20 tg (by
      show Steps p.tables e below (T17.setTop (mkF m 60 #[.val (.ref a), .val (.long x0), .second, .val (.int (2 : Int32))] [(.int (lcmpW v0 x0))])) _
      refine XS.ifYes X17.here hx rfl (pc0 := 60) (pc' := 88) rfl (hb hby d4_60) rfl ((if0 _ _).trans (flt (mt (lw_gt v0 x0).mp d1)).2.2.2) (by decide) (by decide) ?_
      show Steps p.tables e below (T17.setTop (mkF m 88 #[.val (.ref a), .val (.long x0), .second, .val (.int (2 : Int32))] [])) _
      refine XS.aloadN X17.here hx rfl (hb hby d4_88) rfl rfl ?_
      exact kt)
    obtain ⟨T40, X40, e40, st40⟩ := getF X17 hx hZ hown (host := "") (Or.inl (hw _ (List.mem_of_getElem? (i := 10) rfl))) Via.refl e17 F_v_13 (g := (mkF m 89 #[.val (.ref a), .val (.long x0), .second, .val (.int (2 : Int32))] [(.ref a)])) rfl rfl (hb hby d4_89)
    have pre40s : ∀ tg, Steps p.tables e below (T40.setTop (mkF m 92 #[.val (.ref a), .val (.long x0), .second, .val (.int (2 : Int32))] [(.ref b)])) tg → G tg := fun tg kt => pre39 tg (st40 tg kt)
    have pre41 : ∀ tg, Steps p.tables e below (T40.setTop (mkF m 94 #[.val (.ref a), .val (.long x0), .second, .val (.int (2 : Int32))] [(.long x0), (.int (2 : Int32)), (.ref b)])) tg → G tg := fun tg kt => pre40s tg (by
      show Steps p.tables e below (T40.setTop (mkF m 92 #[.val (.ref a), .val (.long x0), .second, .val (.int (2 : Int32))] [(.ref b)])) _
      refine XS.iloadN X40.here hx rfl (hb hby d4_92) rfl ?_
      show Steps p.tables e below (T40.setTop (mkF m 93 #[.val (.ref a), .val (.long x0), .second, .val (.int (2 : Int32))] [(.int (2 : Int32)), (.ref b)])) _
      refine XS.lloadN X40.here hx rfl (hb hby d4_93) rfl ?_
      exact kt)
    have op_42 := V_b_15
    obtain ⟨cl_42, Ar_42, q_42, S_42, Ng_42, H_42, G_42⟩ := op_42
    have hin_42 : ¬ ((2 : Int32) < 0 ∨ cl_42.slots.size ≤ ((2 : Int32)).toNatClampNeg) := inb_of S_42 ⟨by decide, by decide⟩
    obtain ⟨T42, h42, X42, e42, W42, st42⟩ := stJ X40 hx hZ e40 Ar_42 (j := (2 : Int32)) hin_42 (g := (mkF m 94 #[.val (.ref a), .val (.long x0), .second, .val (.int (2 : Int32))] [(.long x0), (.int (2 : Int32)), (.ref b)])) rfl rfl (hb hby d4_94)
    have pre42s : ∀ tg, Steps p.tables e below (T42.setTop (mkF m 95 #[.val (.ref a), .val (.long x0), .second, .val (.int (2 : Int32))] [])) tg → G tg := fun tg kt => pre41 tg (st42 tg kt)
    have E_a_43 := E_a_12.wr W42
    have F_v_44 := F_v_13.other W42 (Or.inl ne_a_b)
    have F_s_45 := F_s_14.other W42 (Or.inl ne_a_b)
    have V42_b : Arv Z h42 b kA .long (16 : Int32) [(.long v0), (.long v1), (.long x0), (.long (0 : Int64)), (.long (0 : Int64)), (.long (0 : Int64)), (.long (0 : Int64)), (.long (0 : Int64)), (.long (0 : Int64)), (.long (0 : Int64)), (.long (0 : Int64)), (.long (0 : Int64)), (.long (0 : Int64)), (.long (0 : Int64)), (.long (0 : Int64)), (.long (0 : Int64))] (.long (0 : Int64)) := Arv.set Ar_42 q_42 S_42 Ng_42 H_42 G_42 rfl W42 2 rfl (Nat.le_of_ble_eq_true rfl)
    have N42 := Fr.snoc X42 N11 O_b
    have Z42 : n0 ≤ h42.size := Nat.le_trans Z11 (Keep.of_wr W42).1
    have K42 : Keep h0 h42 [a, b] := K11.wr W42 (Or.inl (List.mem_of_getElem? (i := 1) rfl))
    obtain ⟨fs, hr, hrun, hended, hW, hsame⟩ := X42.leave (v := none) (fun _ => rfl)
    subst hG
    refine ⟨_, _, pre42s _ ?_, hrun, hended, _, _, rfl, ?_, ⟨_, rfl⟩, hW, hsame.mono (by decide) (by decide)⟩
    · skip
      show Steps p.tables e below (T42.setTop (mkF m 95 #[.val (.ref a), .val (.long x0), .second, .val (.int (2 : Int32))] [])) _
      exact X42.returnOut hx Bd.returns (hb hby d4_95) hr
    · show Q_rm4_2 Z a x0 b kA v0 v1 v2 h0 n0 _ T42.heap _
      rw [e42]
      exact ⟨rfl, N42, K42, _, _, _, F_v_44, F_s_45, V42_b⟩
theorem pn_6 : plainName "com/example/find_leader/findleader/engine/LongHeap" = true := by first | (simp [plainName, overriddenIn]; done) | decide +kernel
theorem ef_6_R (m : MethodId) (x0 : Addr) : entryFrame m #[(.ref x0)] 1 = mkF m 0 #[.val (.ref x0)] [] := by first | (simp [entryFrame, mkF, argsToLocals, Value.category]; done) | rfl
theorem d6_0 : decode prog_27_method_3_code 0 = .ok (.aload_n 0, 1) := by decide +kernel
theorem d6_1 : decode prog_27_method_3_code 1 = .ok (.getfield 13, 3) := by decide +kernel
theorem d6_4 : decode prog_27_method_3_code 4 = .ok (.ifCond .ne 13, 3) := by decide +kernel
theorem d6_17 : decode prog_27_method_3_code 17 = .ok (.aload_n 0, 1) := by decide +kernel
theorem d6_18 : decode prog_27_method_3_code 18 = .ok (.getfield 7, 3) := by decide +kernel
theorem d6_21 : decode prog_27_method_3_code 21 = .ok (.iconst 0, 1) := by decide +kernel
theorem d6_22 : decode prog_27_method_3_code 22 = .ok (.laload, 1) := by decide +kernel
theorem d6_23 : decode prog_27_method_3_code 23 = .ok (.lreturn, 1) := by decide +kernel
def Q_rm6 (Z : State) (a b : Addr) (kA : ClassId) (v0 v1 v2 : Int64) (k : Int32) (h0 : Heap) (n0 : Nat) (v : Option Value) (h : Heap) (L : List Loc) : Prop := v = some (.long v0) ∧ Fr n0 L ∧ h = h0
set_option maxRecDepth 65536 in
set_option maxHeartbeats 40000000 in
theorem rm6 (l : Launch) (Z : State) (a0 : Array Value) (hw : ∀ d ∈ tables_1, d.before a0 Z = true) (ws : List Jvm.Cond) (a b : Addr) (kA : ClassId) (v0 v1 v2 : Int64) (k : Int32) (h0 : Heap) (n0 : Nat) (Z0 : n0 ≤ h0.size) (E_a : Exa Z h0 a "com/example/find_leader/findleader/engine/LongHeap") (F_v : Fld Z h0 a "com/example/find_leader/findleader/engine/LongHeap" "values" "[J" (.ref b)) (F_s : Fld Z h0 a "com/example/find_leader/findleader/engine/LongHeap" "size" "I" (.int k)) (V_b : Arv Z h0 b kA .long (16 : Int32) [(.long v0), (.long v1), (.long v2), (.long (0 : Int64)), (.long (0 : Int64)), (.long (0 : Int64)), (.long (0 : Int64)), (.long (0 : Int64)), (.long (0 : Int64)), (.long (0 : Int64)), (.long (0 : Int64)), (.long (0 : Int64)), (.long (0 : Int64)), (.long (0 : Int64)), (.long (0 : Int64)), (.long (0 : Int64))] (.long (0 : Int64))) (O_a : n0 ≤ a) (O_b : n0 ≤ b) (ne_a_b : a ≠ b) (hk : ¬ k = (0 : Int32)) :
    MetFree l (⟨"com/example/find_leader/findleader/engine/LongHeap", "first", "()J"⟩ : MethodName) (head1 (Jvm.Cond.code (⟨"com/example/find_leader/findleader/engine/LongHeap", "first", "()J"⟩ : MethodName) prog_27_method_3_code 1 (some .long) :: ws) ({ frames := 0, cells := 0, slots := 0, locals := 0 } : Room)) (fun argv U => argv = #[(.ref a)] ∧ Z.Warmed39 U.vm ∧ U.heap = h0) (fun _ _ _ _ _ => True) (fun _ U o U' => ∃ v L, o = .returned v ∧ Q_rm6 Z a b kA v0 v1 v2 k h0 n0 v U'.heap L ∧ FrameEnd U o U' L ({ frames := 0, cells := 0, slots := 0, locals := 0 } : Room).cells ({ frames := 0, cells := 0, slots := 0, locals := 0 } : Room).slots) := by
  refine MetFree.of_bodySF (plainFor_of_name pn_6) hisR ?_
  intro p e s m args below meth c s₁ Bd hml0 hP hK
  obtain ⟨rfl, hZ, hh⟩ := hP
  have hx := Bd.exec
  have hby := Bd.bytes
  have hml : c.maxLocals = 1 := hml0
  have hown : s.vm.findClass "com/example/find_leader/findleader/engine/LongHeap" = some m.cls := findClass_of_methodNamed Bd.named
  have hnm := (name_of_methodNamed Bd.named Bd.method).1
  have X0 : Stand p l e ({ frames := 0, cells := 0, slots := 0, locals := 0 } : Room) s m #[(.ref a)] below meth c s₁ [] 0 0 := Stand.of_body Bd
  have e0 : s₁.heap = h0 := by rw [← hh, Bd.state]; rfl
  have N0 := Fr.nil n0
  obtain ⟨G, hG⟩ : ∃ G : State → Prop, G = fun tg => Steps p.tables e below (s₁.setTop (entryFrame m #[(.ref a)] 1)) tg := ⟨_, rfl⟩
  have pre0 : ∀ tg, Steps p.tables e below (s₁.setTop (mkF m 0 #[.val (.ref a)] [])) tg → G tg := fun tg kt => by rw [hG]; exact castTop (ef_6_R m a) kt
  have pre1 : ∀ tg, Steps p.tables e below (s₁.setTop (mkF m 1 #[.val (.ref a)] [(.ref a)])) tg → G tg := fun tg kt => pre0 tg (by
    show Steps p.tables e below (s₁.setTop (mkF m 0 #[.val (.ref a)] [])) _
    refine XS.aloadN X0.here hx rfl (hb hby d6_0) rfl rfl ?_
    exact kt)
  obtain ⟨T2, X2, e2, st2⟩ := getF X0 hx hZ hown (host := "") (Or.inl (hw _ (List.mem_of_getElem? (i := 17) rfl))) Via.refl e0 F_s (g := (mkF m 1 #[.val (.ref a)] [(.ref a)])) rfl rfl (hb hby d6_1)
  have pre2s : ∀ tg, Steps p.tables e below (T2.setTop (mkF m 4 #[.val (.ref a)] [(.int k)])) tg → G tg := fun tg kt => pre1 tg (st2 tg kt)
  have pre3 : ∀ tg, Steps p.tables e below (T2.setTop (mkF m 18 #[.val (.ref a)] [(.ref a)])) tg → G tg := fun tg kt => pre2s tg (by
    show Steps p.tables e below (T2.setTop (mkF m 4 #[.val (.ref a)] [(.int k)])) _
    refine XS.ifYes X2.here hx rfl (pc0 := 4) (pc' := 17) rfl (hb hby d6_4) rfl ((if0 _ _).trans (feq hk).2) (by decide) (by decide) ?_
    show Steps p.tables e below (T2.setTop (mkF m 17 #[.val (.ref a)] [])) _
    refine XS.aloadN X2.here hx rfl (hb hby d6_17) rfl rfl ?_
    exact kt)
  obtain ⟨T4, X4, e4, st4⟩ := getF X2 hx hZ hown (host := "") (Or.inl (hw _ (List.mem_of_getElem? (i := 10) rfl))) Via.refl e2 F_v (g := (mkF m 18 #[.val (.ref a)] [(.ref a)])) rfl rfl (hb hby d6_18)
  have pre4s : ∀ tg, Steps p.tables e below (T4.setTop (mkF m 21 #[.val (.ref a)] [(.ref b)])) tg → G tg := fun tg kt => pre3 tg (st4 tg kt)
  have pre5 : ∀ tg, Steps p.tables e below (T4.setTop (mkF m 22 #[.val (.ref a)] [(.int (0 : Int32)), (.ref b)])) tg → G tg := fun tg kt => pre4s tg (by
    show Steps p.tables e below (T4.setTop (mkF m 21 #[.val (.ref a)] [(.ref b)])) _
    refine XS.iconst X4.here hx rfl (hb hby d6_21) ?_
    exact kt)
  have op_6 := V_b
  obtain ⟨cl_6, Ar_6, q_6, S_6, Ng_6, H_6, G_6⟩ := op_6
  have hin_6 : ¬ ((0 : Int32) < 0 ∨ cl_6.slots.size ≤ ((0 : Int32)).toNatClampNeg) := inb_of S_6 ⟨by decide, by decide⟩
  obtain ⟨fs, hr, hrun, hended, hW, hsame⟩ := X4.leave (v := some (.long v0)) (fun h => by rw [Bd.returns] at h; cases h)
  subst hG
  refine ⟨_, _, pre5 _ ?_, hrun, hended, _, _, rfl, ?_, ⟨_, rfl⟩, hW, hsame.mono (by decide) (by decide)⟩
  · skip
    show Steps p.tables e below (T4.setTop (mkF m 22 #[.val (.ref a)] [(.int (0 : Int32)), (.ref b)])) _
    refine X4.laload hx (j := (0 : Int32)) (v := (.long v0)) (by rw [e4]; exact Ar_6.1) (State.isArrayOf_alike hZ.alike Ar_6.2.1) Ar_6.2.2 hin_6 (H_6.at hin_6 rfl) (g := (mkF m 22 #[.val (.ref a)] [(.int (0 : Int32)), (.ref b)])) rfl rfl (hb hby d6_22) _ ?_
    show Steps p.tables e below (T4.setTop (mkF m 23 #[.val (.ref a)] [(.long v0)])) _
    exact X4.lreturnOut hx Bd.returns (hb hby d6_23) hr
  · show Q_rm6 Z a b kA v0 v1 v2 k h0 n0 _ T4.heap _
    rw [e4]
    exact ⟨rfl, N0, rfl⟩
theorem pn_5 : plainName "com/example/find_leader/findleader/engine/LongHeap" = true := by first | (simp [plainName, overriddenIn]; done) | decide +kernel
theorem ef_5_R (m : MethodId) (x0 : Addr) : entryFrame m #[(.ref x0)] 7 = mkF m 0 #[.val (.ref x0), .unset, .unset, .unset, .unset, .unset, .unset] [] := by first | (simp [entryFrame, mkF, argsToLocals, Value.category]; done) | rfl
theorem pd_0 : parseMethodDescriptor "()J" = some ⟨[], some .long⟩ := by decide +kernel
theorem d5_0 : decode prog_27_method_5_code 0 = .ok (.aload_n 0, 1) := by decide +kernel
theorem d5_1 : decode prog_27_method_5_code 1 = .ok (.invokevirtual 30, 3) := by decide +kernel
theorem d5_4 : decode prog_27_method_5_code 4 = .ok (.lstore_n 1, 1) := by decide +kernel
theorem d5_5 : decode prog_27_method_5_code 5 = .ok (.aload_n 0, 1) := by decide +kernel
theorem d5_6 : decode prog_27_method_5_code 6 = .ok (.dup, 1) := by decide +kernel
theorem d5_7 : decode prog_27_method_5_code 7 = .ok (.getfield 13, 3) := by decide +kernel
theorem d5_10 : decode prog_27_method_5_code 10 = .ok (.iconst 1, 1) := by decide +kernel
theorem d5_11 : decode prog_27_method_5_code 11 = .ok (.isub, 1) := by decide +kernel
theorem d5_12 : decode prog_27_method_5_code 12 = .ok (.putfield 13, 3) := by decide +kernel
theorem d5_15 : decode prog_27_method_5_code 15 = .ok (.aload_n 0, 1) := by decide +kernel
theorem d5_16 : decode prog_27_method_5_code 16 = .ok (.getfield 7, 3) := by decide +kernel
theorem d5_19 : decode prog_27_method_5_code 19 = .ok (.aload_n 0, 1) := by decide +kernel
theorem d5_20 : decode prog_27_method_5_code 20 = .ok (.getfield 13, 3) := by decide +kernel
theorem d5_23 : decode prog_27_method_5_code 23 = .ok (.laload, 1) := by decide +kernel
theorem d5_24 : decode prog_27_method_5_code 24 = .ok (.lstore_n 3, 1) := by decide +kernel
theorem d5_25 : decode prog_27_method_5_code 25 = .ok (.iconst 0, 1) := by decide +kernel
theorem d5_26 : decode prog_27_method_5_code 26 = .ok (.istore 5, 2) := by decide +kernel
theorem d5_28 : decode prog_27_method_5_code 28 = .ok (.iconst 1, 1) := by decide +kernel
theorem d5_29 : decode prog_27_method_5_code 29 = .ok (.istore 6, 2) := by decide +kernel
theorem d5_31 : decode prog_27_method_5_code 31 = .ok (.iload 6, 2) := by decide +kernel
theorem d5_33 : decode prog_27_method_5_code 33 = .ok (.aload_n 0, 1) := by decide +kernel
theorem d5_34 : decode prog_27_method_5_code 34 = .ok (.getfield 13, 3) := by decide +kernel
theorem d5_37 : decode prog_27_method_5_code 37 = .ok (.if_icmp .ge 81, 3) := by decide +kernel
theorem d5_118 : decode prog_27_method_5_code 118 = .ok (.aload_n 0, 1) := by decide +kernel
theorem d5_119 : decode prog_27_method_5_code 119 = .ok (.getfield 7, 3) := by decide +kernel
theorem d5_122 : decode prog_27_method_5_code 122 = .ok (.iload 5, 2) := by decide +kernel
theorem d5_124 : decode prog_27_method_5_code 124 = .ok (.lload_n 3, 1) := by decide +kernel
theorem d5_125 : decode prog_27_method_5_code 125 = .ok (.lastore, 1) := by decide +kernel
theorem d5_126 : decode prog_27_method_5_code 126 = .ok (.lload_n 1, 1) := by decide +kernel
theorem d5_127 : decode prog_27_method_5_code 127 = .ok (.lreturn, 1) := by decide +kernel
def Q_rm5_1 (Z : State) (a b : Addr) (kA : ClassId) (v0 v1 v2 : Int64) (h0 : Heap) (n0 : Nat) (v : Option Value) (h : Heap) (L : List Loc) : Prop := ∃ x0 : Int64, v = some (.long x0) ∧ Fr n0 L ∧ Keep h0 h [a, b] ∧ ∃ (w0 w1 w2 : Int64), Fld Z h a "com/example/find_leader/findleader/engine/LongHeap" "values" "[J" (.ref b) ∧ Fld Z h a "com/example/find_leader/findleader/engine/LongHeap" "size" "I" (.int (0 : Int32)) ∧ Arv Z h b kA .long (16 : Int32) [(.long w0), (.long w1), (.long w2), (.long (0 : Int64)), (.long (0 : Int64)), (.long (0 : Int64)), (.long (0 : Int64)), (.long (0 : Int64)), (.long (0 : Int64)), (.long (0 : Int64)), (.long (0 : Int64)), (.long (0 : Int64)), (.long (0 : Int64)), (.long (0 : Int64)), (.long (0 : Int64)), (.long (0 : Int64))] (.long (0 : Int64))
set_option maxRecDepth 65536 in
set_option maxHeartbeats 40000000 in
theorem rm5_1 (l : Launch) (Z : State) (a0 : Array Value) (hw : ∀ d ∈ tables_1, d.before a0 Z = true) (ws : List Jvm.Cond) (a b : Addr) (kA : ClassId) (v0 v1 v2 : Int64) (h0 : Heap) (n0 : Nat) (Z0 : n0 ≤ h0.size) (E_a : Exa Z h0 a "com/example/find_leader/findleader/engine/LongHeap") (F_v : Fld Z h0 a "com/example/find_leader/findleader/engine/LongHeap" "values" "[J" (.ref b)) (F_s : Fld Z h0 a "com/example/find_leader/findleader/engine/LongHeap" "size" "I" (.int (1 : Int32))) (V_b : Arv Z h0 b kA .long (16 : Int32) [(.long v0), (.long v1), (.long v2), (.long (0 : Int64)), (.long (0 : Int64)), (.long (0 : Int64)), (.long (0 : Int64)), (.long (0 : Int64)), (.long (0 : Int64)), (.long (0 : Int64)), (.long (0 : Int64)), (.long (0 : Int64)), (.long (0 : Int64)), (.long (0 : Int64)), (.long (0 : Int64)), (.long (0 : Int64))] (.long (0 : Int64))) (O_a : n0 ≤ a) (O_b : n0 ≤ b) (ne_a_b : a ≠ b) :
    MetFree l (⟨"com/example/find_leader/findleader/engine/LongHeap", "pollFirst", "()J"⟩ : MethodName) (head1 (Jvm.Cond.code (⟨"com/example/find_leader/findleader/engine/LongHeap", "pollFirst", "()J"⟩ : MethodName) prog_27_method_5_code 7 (some .long) :: ws) ({ frames := 1, cells := 0, slots := 0, locals := 30 } : Room)) (fun argv U => argv = #[(.ref a)] ∧ Z.Warmed39 U.vm ∧ U.heap = h0) (fun _ _ _ _ _ => True) (fun _ U o U' => ∃ v L, o = .returned v ∧ Q_rm5_1 Z a b kA v0 v1 v2 h0 n0 v U'.heap L ∧ FrameEnd U o U' L ({ frames := 1, cells := 0, slots := 0, locals := 30 } : Room).cells ({ frames := 1, cells := 0, slots := 0, locals := 30 } : Room).slots) := by
  refine MetFree.of_bodySF (plainFor_of_name pn_5) hisR ?_
  intro p e s m args below meth c s₁ Bd hml0 hP hK
  obtain ⟨rfl, hZ, hh⟩ := hP
  have hx := Bd.exec
  have hby := Bd.bytes
  have hml : c.maxLocals = 7 := hml0
  have hown : s.vm.findClass "com/example/find_leader/findleader/engine/LongHeap" = some m.cls := findClass_of_methodNamed Bd.named
  have hnm := (name_of_methodNamed Bd.named Bd.method).1
  have X0 : Stand p l e ({ frames := 1, cells := 0, slots := 0, locals := 30 } : Room) s m #[(.ref a)] below meth c s₁ [] 0 0 := Stand.of_body Bd
  have e0 : s₁.heap = h0 := by rw [← hh, Bd.state]; rfl
  have N0 := Fr.nil n0
  obtain ⟨G, hG⟩ : ∃ G : State → Prop, G = fun tg => Steps p.tables e below (s₁.setTop (entryFrame m #[(.ref a)] 7)) tg := ⟨_, rfl⟩
  have pre0 : ∀ tg, Steps p.tables e below (s₁.setTop (mkF m 0 #[.val (.ref a), .unset, .unset, .unset, .unset, .unset, .unset] [])) tg → G tg := fun tg kt => by rw [hG]; exact castTop (ef_5_R m a) kt
  have pre1 : ∀ tg, Steps p.tables e below (s₁.setTop (mkF m 1 #[.val (.ref a), .unset, .unset, .unset, .unset, .unset, .unset] [(.ref a)])) tg → G tg := fun tg kt => pre0 tg (by
    show Steps p.tables e below (s₁.setTop (mkF m 0 #[.val (.ref a), .unset, .unset, .unset, .unset, .unset, .unset] [])) _
    refine XS.aloadN X0.here hx rfl (hb hby d5_0) rfl rfl ?_
    exact kt)
  obtain ⟨cq2, kq2, q2a, q2b, q2c⟩ := isOf hZ e0 E_a
  obtain ⟨_, _, ⟨T2, L2, k2, n2⟩, -, X2, ⟨Lc2, hQ2, l2, y2, z2⟩, st2⟩ := X0.virtualBack hx (y := (⟨"com/example/find_leader/findleader/engine/LongHeap", "first", "()J"⟩ : MethodName)) (z := (⟨"com/example/find_leader/findleader/engine/LongHeap", "first", "()J"⟩ : MethodName)) hown (mvT hZ (hw _ (List.mem_of_getElem? (i := 29) rfl))) (mvT hZ (hw _ (List.mem_of_getElem? (i := 30) rfl))) (notFace_of_selects (args := #[]) (mvT hZ (hw _ (List.mem_of_getElem? (i := 32) rfl)))) (mvT hZ (hw _ (List.mem_of_getElem? (i := 32) rfl))) (mvT hZ (hw _ (List.mem_of_getElem? (i := 31) rfl))) (by decide) (backOf (W := 0) (rm6 l Z a0 hw [] a b kA v0 v1 v2 (1 : Int32) h0 n0 Z0 E_a F_v F_s V_b O_a O_b ne_a_b (by decide)) hZ (hw _ (List.mem_of_getElem? (i := 33) rfl)) (hw _ (List.mem_of_getElem? (i := 2) rfl)) (by decide) (by decide)) q2a q2c (g := (mkF m 1 #[.val (.ref a), .unset, .unset, .unset, .unset, .unset, .unset] [(.ref a)])) rfl (by rw [hml]; rfl) (Steps.refl _) (argsL := []) (rest := []) (lenOf pd_0 rfl) rfl (by show 2 * 0 + _ ≤ _; exact Nat.le_of_eq rfl) (hb hby d5_1) (fun _ _ => ⟨rfl, e0, (Nat.le_of_ble_eq_true rfl), (Nat.le_of_ble_eq_true rfl)⟩)
  dsimp only [Pt.U, Pt.locs, Pt.cells, Pt.slots] at X2 l2 y2 z2 st2 hQ2
  subst l2 y2 z2
  obtain ⟨rfl, N2q, e2⟩ := hQ2
  have N2 := Fr.app N0 N2q
  have pre2s : ∀ tg, Steps p.tables e below (T2.setTop (mkF m 4 #[.val (.ref a), .unset, .unset, .unset, .unset, .unset, .unset] [(.long v0)])) tg → G tg := fun tg kt => pre1 tg (st2.trans kt)
  have pre3 : ∀ tg, Steps p.tables e below (T2.setTop (mkF m 7 #[.val (.ref a), .val (.long v0), .second, .unset, .unset, .unset, .unset] [(.ref a), (.ref a)])) tg → G tg := fun tg kt => pre2s tg (by
    show Steps p.tables e below (T2.setTop (mkF m 4 #[.val (.ref a), .unset, .unset, .unset, .unset, .unset, .unset] [(.long v0)])) _
    refine XS.lstoreN X2.here hx rfl (hb hby d5_4) rfl (l' := #[.val (.ref a), .val (.long v0), .second, .unset, .unset, .unset, .unset]) rfl ?_
    show Steps p.tables e below (T2.setTop (mkF m 5 #[.val (.ref a), .val (.long v0), .second, .unset, .unset, .unset, .unset] [])) _
    refine XS.aloadN X2.here hx rfl (hb hby d5_5) rfl rfl ?_
    show Steps p.tables e below (T2.setTop (mkF m 6 #[.val (.ref a), .val (.long v0), .second, .unset, .unset, .unset, .unset] [(.ref a)])) _
    refine XS.dup X2.here hx rfl (hb hby d5_6) rfl rfl ?_
    exact kt)
  obtain ⟨T4, X4, e4, st4⟩ := getF X2 hx hZ hown (host := "") (Or.inl (hw _ (List.mem_of_getElem? (i := 17) rfl))) Via.refl e2 F_s (g := (mkF m 7 #[.val (.ref a), .val (.long v0), .second, .unset, .unset, .unset, .unset] [(.ref a), (.ref a)])) rfl rfl (hb hby d5_7)
  have pre4s : ∀ tg, Steps p.tables e below (T4.setTop (mkF m 10 #[.val (.ref a), .val (.long v0), .second, .unset, .unset, .unset, .unset] [(.int (1 : Int32)), (.ref a)])) tg → G tg := fun tg kt => pre3 tg (st4 tg kt)
  have pre5 : ∀ tg, Steps p.tables e below (T4.setTop (mkF m 12 #[.val (.ref a), .val (.long v0), .second, .unset, .unset, .unset, .unset] [(.int (0 : Int32)), (.ref a)])) tg → G tg := fun tg kt => pre4s tg (by
    show Steps p.tables e below (T4.setTop (mkF m 10 #[.val (.ref a), .val (.long v0), .second, .unset, .unset, .unset, .unset] [(.int (1 : Int32)), (.ref a)])) _
    refine XS.iconst X4.here hx rfl (hb hby d5_10) ?_
    show Steps p.tables e below (T4.setTop (mkF m 11 #[.val (.ref a), .val (.long v0), .second, .unset, .unset, .unset, .unset] [(.int (1 : Int32)), (.int (1 : Int32)), (.ref a)])) _
    refine XS.isub X4.here hx rfl (hb hby d5_11) rfl ?_
    exact kt)
  obtain ⟨T6, h6, X6, e6, W6, st6⟩ := putF X4 hx hZ hown (host := "") (Or.inl (hw _ (List.mem_of_getElem? (i := 17) rfl))) Via.refl e4 F_s E_a (Or.inl (hw _ (List.mem_of_getElem? (i := 18) rfl))) (hw _ (List.mem_of_getElem? (i := 1) rfl)) (ty := .int) (by decide) rfl rfl (g := (mkF m 12 #[.val (.ref a), .val (.long v0), .second, .unset, .unset, .unset, .unset] [(.int (0 : Int32)), (.ref a)])) rfl rfl (hb hby d5_12)
  have pre6s : ∀ tg, Steps p.tables e below (T6.setTop (mkF m 15 #[.val (.ref a), .val (.long v0), .second, .unset, .unset, .unset, .unset] [])) tg → G tg := fun tg kt => pre5 tg (st6 tg kt)
  have E_a_7 := E_a.wr W6
  have F_v_8 := F_v.other W6 (Or.inr (slot_ne (Or.inl (hw _ (List.mem_of_getElem? (i := 11) rfl))) (Or.inl (hw _ (List.mem_of_getElem? (i := 18) rfl))) (by decide) (t := (.array .long)) (t' := .int) (by decide) (by decide)))
  have F_s_9 := F_s.same W6
  have V_b_10 := V_b.other W6 (Ne.symm ne_a_b)
  have N6 := Fr.snoc X6 N2 O_a
  have Z6 : n0 ≤ h6.size := Nat.le_trans Z0 (Keep.of_wr W6).1
  have K6 : Keep h0 h6 [a, b] := (Keep.refl h0 [a, b]).wr W6 (Or.inl (List.mem_of_getElem? (i := 0) rfl))
  have pre11 : ∀ tg, Steps p.tables e below (T6.setTop (mkF m 16 #[.val (.ref a), .val (.long v0), .second, .unset, .unset, .unset, .unset] [(.ref a)])) tg → G tg := fun tg kt => pre6s tg (by
    show Steps p.tables e below (T6.setTop (mkF m 15 #[.val (.ref a), .val (.long v0), .second, .unset, .unset, .unset, .unset] [])) _
    refine XS.aloadN X6.here hx rfl (hb hby d5_15) rfl rfl ?_
    exact kt)
  obtain ⟨T12, X12, e12, st12⟩ := getF X6 hx hZ hown (host := "") (Or.inl (hw _ (List.mem_of_getElem? (i := 10) rfl))) Via.refl e6 F_v_8 (g := (mkF m 16 #[.val (.ref a), .val (.long v0), .second, .unset, .unset, .unset, .unset] [(.ref a)])) rfl rfl (hb hby d5_16)
  have pre12s : ∀ tg, Steps p.tables e below (T12.setTop (mkF m 19 #[.val (.ref a), .val (.long v0), .second, .unset, .unset, .unset, .unset] [(.ref b)])) tg → G tg := fun tg kt => pre11 tg (st12 tg kt)
  have pre13 : ∀ tg, Steps p.tables e below (T12.setTop (mkF m 20 #[.val (.ref a), .val (.long v0), .second, .unset, .unset, .unset, .unset] [(.ref a), (.ref b)])) tg → G tg := fun tg kt => pre12s tg (by
    show Steps p.tables e below (T12.setTop (mkF m 19 #[.val (.ref a), .val (.long v0), .second, .unset, .unset, .unset, .unset] [(.ref b)])) _
    refine XS.aloadN X12.here hx rfl (hb hby d5_19) rfl rfl ?_
    exact kt)
  obtain ⟨T14, X14, e14, st14⟩ := getF X12 hx hZ hown (host := "") (Or.inl (hw _ (List.mem_of_getElem? (i := 17) rfl))) Via.refl e12 F_s_9 (g := (mkF m 20 #[.val (.ref a), .val (.long v0), .second, .unset, .unset, .unset, .unset] [(.ref a), (.ref b)])) rfl rfl (hb hby d5_20)
  have pre14s : ∀ tg, Steps p.tables e below (T14.setTop (mkF m 23 #[.val (.ref a), .val (.long v0), .second, .unset, .unset, .unset, .unset] [(.int (0 : Int32)), (.ref b)])) tg → G tg := fun tg kt => pre13 tg (st14 tg kt)
  have op_15 := V_b_10
  obtain ⟨cl_15, Ar_15, q_15, S_15, Ng_15, H_15, G_15⟩ := op_15
  have hin_15 : ¬ ((0 : Int32) < 0 ∨ cl_15.slots.size ≤ ((0 : Int32)).toNatClampNeg) := inb_of S_15 ⟨by decide, by decide⟩
  have pre16 : ∀ tg, Steps p.tables e below (T14.setTop (mkF m 34 #[.val (.ref a), .val (.long v0), .second, .val (.long v0), .second, .val (.int (0 : Int32)), .val (.int (1 : Int32))] [(.ref a), (.int (1 : Int32))])) tg → G tg := fun tg kt => pre14s tg (by
    show Steps p.tables e below (T14.setTop (mkF m 23 #[.val (.ref a), .val (.long v0), .second, .unset, .unset, .unset, .unset] [(.int (0 : Int32)), (.ref b)])) _
    refine X14.laload hx (j := (0 : Int32)) (v := (.long v0)) (by rw [e14]; exact Ar_15.1) (State.isArrayOf_alike hZ.alike Ar_15.2.1) Ar_15.2.2 hin_15 (H_15.at hin_15 rfl) (g := (mkF m 23 #[.val (.ref a), .val (.long v0), .second, .unset, .unset, .unset, .unset] [(.int (0 : Int32)), (.ref b)])) rfl rfl (hb hby d5_23) _ ?_
    show Steps p.tables e below (T14.setTop (mkF m 24 #[.val (.ref a), .val (.long v0), .second, .unset, .unset, .unset, .unset] [(.long v0)])) _
    refine XS.lstoreN X14.here hx rfl (hb hby d5_24) rfl (l' := #[.val (.ref a), .val (.long v0), .second, .val (.long v0), .second, .unset, .unset]) rfl ?_
    show Steps p.tables e below (T14.setTop (mkF m 25 #[.val (.ref a), .val (.long v0), .second, .val (.long v0), .second, .unset, .unset] [])) _
    refine XS.iconst X14.here hx rfl (hb hby d5_25) ?_
    show Steps p.tables e below (T14.setTop (mkF m 26 #[.val (.ref a), .val (.long v0), .second, .val (.long v0), .second, .unset, .unset] [(.int (0 : Int32))])) _
    refine XS.istore X14.here hx rfl (hb hby d5_26) rfl (l' := #[.val (.ref a), .val (.long v0), .second, .val (.long v0), .second, .val (.int (0 : Int32)), .unset]) rfl ?_
    show Steps p.tables e below (T14.setTop (mkF m 28 #[.val (.ref a), .val (.long v0), .second, .val (.long v0), .second, .val (.int (0 : Int32)), .unset] [])) _
    refine XS.iconst X14.here hx rfl (hb hby d5_28) ?_
    show Steps p.tables e below (T14.setTop (mkF m 29 #[.val (.ref a), .val (.long v0), .second, .val (.long v0), .second, .val (.int (0 : Int32)), .unset] [(.int (1 : Int32))])) _
    refine XS.istore X14.here hx rfl (hb hby d5_29) rfl (l' := #[.val (.ref a), .val (.long v0), .second, .val (.long v0), .second, .val (.int (0 : Int32)), .val (.int (1 : Int32))]) rfl ?_
    show Steps p.tables e below (T14.setTop (mkF m 31 #[.val (.ref a), .val (.long v0), .second, .val (.long v0), .second, .val (.int (0 : Int32)), .val (.int (1 : Int32))] [])) _
    refine XS.iload X14.here hx rfl (hb hby d5_31) rfl ?_
    show Steps p.tables e below (T14.setTop (mkF m 33 #[.val (.ref a), .val (.long v0), .second, .val (.long v0), .second, .val (.int (0 : Int32)), .val (.int (1 : Int32))] [(.int (1 : Int32))])) _
    refine XS.aloadN X14.here hx rfl (hb hby d5_33) rfl rfl ?_
    exact kt)
  obtain ⟨T17, X17, e17, st17⟩ := getF X14 hx hZ hown (host := "") (Or.inl (hw _ (List.mem_of_getElem? (i := 17) rfl))) Via.refl e14 F_s_9 (g := (mkF m 34 #[.val (.ref a), .val (.long v0), .second, .val (.long v0), .second, .val (.int (0 : Int32)), .val (.int (1 : Int32))] [(.ref a), (.int (1 : Int32))])) rfl rfl (hb hby d5_34)
  have pre17s : ∀ tg, Steps p.tables e below (T17.setTop (mkF m 37 #[.val (.ref a), .val (.long v0), .second, .val (.long v0), .second, .val (.int (0 : Int32)), .val (.int (1 : Int32))] [(.int (0 : Int32)), (.int (1 : Int32))])) tg → G tg := fun tg kt => pre16 tg (st17 tg kt)
  have pre18 : ∀ tg, Steps p.tables e below (T17.setTop (mkF m 119 #[.val (.ref a), .val (.long v0), .second, .val (.long v0), .second, .val (.int (0 : Int32)), .val (.int (1 : Int32))] [(.ref a)])) tg → G tg := fun tg kt => pre17s tg (by
    show Steps p.tables e below (T17.setTop (mkF m 37 #[.val (.ref a), .val (.long v0), .second, .val (.long v0), .second, .val (.int (0 : Int32)), .val (.int (1 : Int32))] [(.int (0 : Int32)), (.int (1 : Int32))])) _
    refine XS.icmpYes X17.here hx rfl (pc0 := 37) (pc' := 118) rfl (hb hby d5_37) rfl (flt (by decide : ¬ ((1 : Int32) < (0 : Int32)))).2.1 (by decide) (by decide) ?_
    show Steps p.tables e below (T17.setTop (mkF m 118 #[.val (.ref a), .val (.long v0), .second, .val (.long v0), .second, .val (.int (0 : Int32)), .val (.int (1 : Int32))] [])) _
    refine XS.aloadN X17.here hx rfl (hb hby d5_118) rfl rfl ?_
    exact kt)
  obtain ⟨T19, X19, e19, st19⟩ := getF X17 hx hZ hown (host := "") (Or.inl (hw _ (List.mem_of_getElem? (i := 10) rfl))) Via.refl e17 F_v_8 (g := (mkF m 119 #[.val (.ref a), .val (.long v0), .second, .val (.long v0), .second, .val (.int (0 : Int32)), .val (.int (1 : Int32))] [(.ref a)])) rfl rfl (hb hby d5_119)
  have pre19s : ∀ tg, Steps p.tables e below (T19.setTop (mkF m 122 #[.val (.ref a), .val (.long v0), .second, .val (.long v0), .second, .val (.int (0 : Int32)), .val (.int (1 : Int32))] [(.ref b)])) tg → G tg := fun tg kt => pre18 tg (st19 tg kt)
  have pre20 : ∀ tg, Steps p.tables e below (T19.setTop (mkF m 125 #[.val (.ref a), .val (.long v0), .second, .val (.long v0), .second, .val (.int (0 : Int32)), .val (.int (1 : Int32))] [(.long v0), (.int (0 : Int32)), (.ref b)])) tg → G tg := fun tg kt => pre19s tg (by
    show Steps p.tables e below (T19.setTop (mkF m 122 #[.val (.ref a), .val (.long v0), .second, .val (.long v0), .second, .val (.int (0 : Int32)), .val (.int (1 : Int32))] [(.ref b)])) _
    refine XS.iload X19.here hx rfl (hb hby d5_122) rfl ?_
    show Steps p.tables e below (T19.setTop (mkF m 124 #[.val (.ref a), .val (.long v0), .second, .val (.long v0), .second, .val (.int (0 : Int32)), .val (.int (1 : Int32))] [(.int (0 : Int32)), (.ref b)])) _
    refine XS.lloadN X19.here hx rfl (hb hby d5_124) rfl ?_
    exact kt)
  have op_21 := V_b_10
  obtain ⟨cl_21, Ar_21, q_21, S_21, Ng_21, H_21, G_21⟩ := op_21
  have hin_21 : ¬ ((0 : Int32) < 0 ∨ cl_21.slots.size ≤ ((0 : Int32)).toNatClampNeg) := inb_of S_21 ⟨by decide, by decide⟩
  obtain ⟨T21, h21, X21, e21, W21, st21⟩ := stJ X19 hx hZ e19 Ar_21 (j := (0 : Int32)) hin_21 (g := (mkF m 125 #[.val (.ref a), .val (.long v0), .second, .val (.long v0), .second, .val (.int (0 : Int32)), .val (.int (1 : Int32))] [(.long v0), (.int (0 : Int32)), (.ref b)])) rfl rfl (hb hby d5_125)
  have pre21s : ∀ tg, Steps p.tables e below (T21.setTop (mkF m 126 #[.val (.ref a), .val (.long v0), .second, .val (.long v0), .second, .val (.int (0 : Int32)), .val (.int (1 : Int32))] [])) tg → G tg := fun tg kt => pre20 tg (st21 tg kt)
  have E_a_22 := E_a_7.wr W21
  have F_v_23 := F_v_8.other W21 (Or.inl ne_a_b)
  have F_s_24 := F_s_9.other W21 (Or.inl ne_a_b)
  have V21_b : Arv Z h21 b kA .long (16 : Int32) [(.long v0), (.long v1), (.long v2), (.long (0 : Int64)), (.long (0 : Int64)), (.long (0 : Int64)), (.long (0 : Int64)), (.long (0 : Int64)), (.long (0 : Int64)), (.long (0 : Int64)), (.long (0 : Int64)), (.long (0 : Int64)), (.long (0 : Int64)), (.long (0 : Int64)), (.long (0 : Int64)), (.long (0 : Int64))] (.long (0 : Int64)) := Arv.set Ar_21 q_21 S_21 Ng_21 H_21 G_21 rfl W21 0 rfl (Nat.le_of_ble_eq_true rfl)
  have N21 := Fr.snoc X21 N6 O_b
  have Z21 : n0 ≤ h21.size := Nat.le_trans Z6 (Keep.of_wr W21).1
  have K21 : Keep h0 h21 [a, b] := K6.wr W21 (Or.inl (List.mem_of_getElem? (i := 1) rfl))
  obtain ⟨fs, hr, hrun, hended, hW, hsame⟩ := X21.leave (v := some (.long v0)) (fun h => by rw [Bd.returns] at h; cases h)
  subst hG
  refine ⟨_, _, pre21s _ ?_, hrun, hended, _, _, rfl, ?_, ⟨_, rfl⟩, hW, hsame.mono (by decide) (by decide)⟩
  · skip
    show Steps p.tables e below (T21.setTop (mkF m 126 #[.val (.ref a), .val (.long v0), .second, .val (.long v0), .second, .val (.int (0 : Int32)), .val (.int (1 : Int32))] [])) _
    refine XS.lloadN X21.here hx rfl (hb hby d5_126) rfl ?_
    show Steps p.tables e below (T21.setTop (mkF m 127 #[.val (.ref a), .val (.long v0), .second, .val (.long v0), .second, .val (.int (0 : Int32)), .val (.int (1 : Int32))] [(.long v0)])) _
    exact X21.lreturnOut hx Bd.returns (hb hby d5_127) hr
  · show Q_rm5_1 Z a b kA v0 v1 v2 h0 n0 _ T21.heap _
    rw [e21]
    exact ⟨_, rfl, N21, K21, _, _, _, F_v_23, F_s_24, V21_b⟩
def Q_rm5_2 (Z : State) (a b : Addr) (kA : ClassId) (v0 v1 v2 : Int64) (h0 : Heap) (n0 : Nat) (v : Option Value) (h : Heap) (L : List Loc) : Prop := ∃ x0 : Int64, v = some (.long x0) ∧ Fr n0 L ∧ Keep h0 h [a, b] ∧ ∃ (w0 w1 w2 : Int64), Fld Z h a "com/example/find_leader/findleader/engine/LongHeap" "values" "[J" (.ref b) ∧ Fld Z h a "com/example/find_leader/findleader/engine/LongHeap" "size" "I" (.int (1 : Int32)) ∧ Arv Z h b kA .long (16 : Int32) [(.long w0), (.long w1), (.long w2), (.long (0 : Int64)), (.long (0 : Int64)), (.long (0 : Int64)), (.long (0 : Int64)), (.long (0 : Int64)), (.long (0 : Int64)), (.long (0 : Int64)), (.long (0 : Int64)), (.long (0 : Int64)), (.long (0 : Int64)), (.long (0 : Int64)), (.long (0 : Int64)), (.long (0 : Int64))] (.long (0 : Int64))
set_option maxRecDepth 65536 in
set_option maxHeartbeats 40000000 in
theorem rm5_2 (l : Launch) (Z : State) (a0 : Array Value) (hw : ∀ d ∈ tables_1, d.before a0 Z = true) (ws : List Jvm.Cond) (a b : Addr) (kA : ClassId) (v0 v1 v2 : Int64) (h0 : Heap) (n0 : Nat) (Z0 : n0 ≤ h0.size) (E_a : Exa Z h0 a "com/example/find_leader/findleader/engine/LongHeap") (F_v : Fld Z h0 a "com/example/find_leader/findleader/engine/LongHeap" "values" "[J" (.ref b)) (F_s : Fld Z h0 a "com/example/find_leader/findleader/engine/LongHeap" "size" "I" (.int (2 : Int32))) (V_b : Arv Z h0 b kA .long (16 : Int32) [(.long v0), (.long v1), (.long v2), (.long (0 : Int64)), (.long (0 : Int64)), (.long (0 : Int64)), (.long (0 : Int64)), (.long (0 : Int64)), (.long (0 : Int64)), (.long (0 : Int64)), (.long (0 : Int64)), (.long (0 : Int64)), (.long (0 : Int64)), (.long (0 : Int64)), (.long (0 : Int64)), (.long (0 : Int64))] (.long (0 : Int64))) (O_a : n0 ≤ a) (O_b : n0 ≤ b) (ne_a_b : a ≠ b) :
    MetFree l (⟨"com/example/find_leader/findleader/engine/LongHeap", "pollFirst", "()J"⟩ : MethodName) (head1 (Jvm.Cond.code (⟨"com/example/find_leader/findleader/engine/LongHeap", "pollFirst", "()J"⟩ : MethodName) prog_27_method_5_code 7 (some .long) :: ws) ({ frames := 1, cells := 0, slots := 0, locals := 30 } : Room)) (fun argv U => argv = #[(.ref a)] ∧ Z.Warmed39 U.vm ∧ U.heap = h0) (fun _ _ _ _ _ => True) (fun _ U o U' => ∃ v L, o = .returned v ∧ Q_rm5_2 Z a b kA v0 v1 v2 h0 n0 v U'.heap L ∧ FrameEnd U o U' L ({ frames := 1, cells := 0, slots := 0, locals := 30 } : Room).cells ({ frames := 1, cells := 0, slots := 0, locals := 30 } : Room).slots) := by
  refine MetFree.of_bodySF (plainFor_of_name pn_5) hisR ?_
  intro p e s m args below meth c s₁ Bd hml0 hP hK
  obtain ⟨rfl, hZ, hh⟩ := hP
  have hx := Bd.exec
  have hby := Bd.bytes
  have hml : c.maxLocals = 7 := hml0
  have hown : s.vm.findClass "com/example/find_leader/findleader/engine/LongHeap" = some m.cls := findClass_of_methodNamed Bd.named
  have hnm := (name_of_methodNamed Bd.named Bd.method).1
  have X0 : Stand p l e ({ frames := 1, cells := 0, slots := 0, locals := 30 } : Room) s m #[(.ref a)] below meth c s₁ [] 0 0 := Stand.of_body Bd
  have e0 : s₁.heap = h0 := by rw [← hh, Bd.state]; rfl
  have N0 := Fr.nil n0
  obtain ⟨G, hG⟩ : ∃ G : State → Prop, G = fun tg => Steps p.tables e below (s₁.setTop (entryFrame m #[(.ref a)] 7)) tg := ⟨_, rfl⟩
  have pre0 : ∀ tg, Steps p.tables e below (s₁.setTop (mkF m 0 #[.val (.ref a), .unset, .unset, .unset, .unset, .unset, .unset] [])) tg → G tg := fun tg kt => by rw [hG]; exact castTop (ef_5_R m a) kt
  have pre1 : ∀ tg, Steps p.tables e below (s₁.setTop (mkF m 1 #[.val (.ref a), .unset, .unset, .unset, .unset, .unset, .unset] [(.ref a)])) tg → G tg := fun tg kt => pre0 tg (by
    show Steps p.tables e below (s₁.setTop (mkF m 0 #[.val (.ref a), .unset, .unset, .unset, .unset, .unset, .unset] [])) _
    refine XS.aloadN X0.here hx rfl (hb hby d5_0) rfl rfl ?_
    exact kt)
  obtain ⟨cq2, kq2, q2a, q2b, q2c⟩ := isOf hZ e0 E_a
  obtain ⟨_, _, ⟨T2, L2, k2, n2⟩, -, X2, ⟨Lc2, hQ2, l2, y2, z2⟩, st2⟩ := X0.virtualBack hx (y := (⟨"com/example/find_leader/findleader/engine/LongHeap", "first", "()J"⟩ : MethodName)) (z := (⟨"com/example/find_leader/findleader/engine/LongHeap", "first", "()J"⟩ : MethodName)) hown (mvT hZ (hw _ (List.mem_of_getElem? (i := 29) rfl))) (mvT hZ (hw _ (List.mem_of_getElem? (i := 30) rfl))) (notFace_of_selects (args := #[]) (mvT hZ (hw _ (List.mem_of_getElem? (i := 32) rfl)))) (mvT hZ (hw _ (List.mem_of_getElem? (i := 32) rfl))) (mvT hZ (hw _ (List.mem_of_getElem? (i := 31) rfl))) (by decide) (backOf (W := 0) (rm6 l Z a0 hw [] a b kA v0 v1 v2 (2 : Int32) h0 n0 Z0 E_a F_v F_s V_b O_a O_b ne_a_b (by decide)) hZ (hw _ (List.mem_of_getElem? (i := 33) rfl)) (hw _ (List.mem_of_getElem? (i := 2) rfl)) (by decide) (by decide)) q2a q2c (g := (mkF m 1 #[.val (.ref a), .unset, .unset, .unset, .unset, .unset, .unset] [(.ref a)])) rfl (by rw [hml]; rfl) (Steps.refl _) (argsL := []) (rest := []) (lenOf pd_0 rfl) rfl (by show 2 * 0 + _ ≤ _; exact Nat.le_of_eq rfl) (hb hby d5_1) (fun _ _ => ⟨rfl, e0, (Nat.le_of_ble_eq_true rfl), (Nat.le_of_ble_eq_true rfl)⟩)
  dsimp only [Pt.U, Pt.locs, Pt.cells, Pt.slots] at X2 l2 y2 z2 st2 hQ2
  subst l2 y2 z2
  obtain ⟨rfl, N2q, e2⟩ := hQ2
  have N2 := Fr.app N0 N2q
  have pre2s : ∀ tg, Steps p.tables e below (T2.setTop (mkF m 4 #[.val (.ref a), .unset, .unset, .unset, .unset, .unset, .unset] [(.long v0)])) tg → G tg := fun tg kt => pre1 tg (st2.trans kt)
  have pre3 : ∀ tg, Steps p.tables e below (T2.setTop (mkF m 7 #[.val (.ref a), .val (.long v0), .second, .unset, .unset, .unset, .unset] [(.ref a), (.ref a)])) tg → G tg := fun tg kt => pre2s tg (by
    show Steps p.tables e below (T2.setTop (mkF m 4 #[.val (.ref a), .unset, .unset, .unset, .unset, .unset, .unset] [(.long v0)])) _
    refine XS.lstoreN X2.here hx rfl (hb hby d5_4) rfl (l' := #[.val (.ref a), .val (.long v0), .second, .unset, .unset, .unset, .unset]) rfl ?_
    show Steps p.tables e below (T2.setTop (mkF m 5 #[.val (.ref a), .val (.long v0), .second, .unset, .unset, .unset, .unset] [])) _
    refine XS.aloadN X2.here hx rfl (hb hby d5_5) rfl rfl ?_
    show Steps p.tables e below (T2.setTop (mkF m 6 #[.val (.ref a), .val (.long v0), .second, .unset, .unset, .unset, .unset] [(.ref a)])) _
    refine XS.dup X2.here hx rfl (hb hby d5_6) rfl rfl ?_
    exact kt)
  obtain ⟨T4, X4, e4, st4⟩ := getF X2 hx hZ hown (host := "") (Or.inl (hw _ (List.mem_of_getElem? (i := 17) rfl))) Via.refl e2 F_s (g := (mkF m 7 #[.val (.ref a), .val (.long v0), .second, .unset, .unset, .unset, .unset] [(.ref a), (.ref a)])) rfl rfl (hb hby d5_7)
  have pre4s : ∀ tg, Steps p.tables e below (T4.setTop (mkF m 10 #[.val (.ref a), .val (.long v0), .second, .unset, .unset, .unset, .unset] [(.int (2 : Int32)), (.ref a)])) tg → G tg := fun tg kt => pre3 tg (st4 tg kt)
  have pre5 : ∀ tg, Steps p.tables e below (T4.setTop (mkF m 12 #[.val (.ref a), .val (.long v0), .second, .unset, .unset, .unset, .unset] [(.int (1 : Int32)), (.ref a)])) tg → G tg := fun tg kt => pre4s tg (by
    show Steps p.tables e below (T4.setTop (mkF m 10 #[.val (.ref a), .val (.long v0), .second, .unset, .unset, .unset, .unset] [(.int (2 : Int32)), (.ref a)])) _
    refine XS.iconst X4.here hx rfl (hb hby d5_10) ?_
    show Steps p.tables e below (T4.setTop (mkF m 11 #[.val (.ref a), .val (.long v0), .second, .unset, .unset, .unset, .unset] [(.int (1 : Int32)), (.int (2 : Int32)), (.ref a)])) _
    refine XS.isub X4.here hx rfl (hb hby d5_11) rfl ?_
    exact kt)
  obtain ⟨T6, h6, X6, e6, W6, st6⟩ := putF X4 hx hZ hown (host := "") (Or.inl (hw _ (List.mem_of_getElem? (i := 17) rfl))) Via.refl e4 F_s E_a (Or.inl (hw _ (List.mem_of_getElem? (i := 18) rfl))) (hw _ (List.mem_of_getElem? (i := 1) rfl)) (ty := .int) (by decide) rfl rfl (g := (mkF m 12 #[.val (.ref a), .val (.long v0), .second, .unset, .unset, .unset, .unset] [(.int (1 : Int32)), (.ref a)])) rfl rfl (hb hby d5_12)
  have pre6s : ∀ tg, Steps p.tables e below (T6.setTop (mkF m 15 #[.val (.ref a), .val (.long v0), .second, .unset, .unset, .unset, .unset] [])) tg → G tg := fun tg kt => pre5 tg (st6 tg kt)
  have E_a_7 := E_a.wr W6
  have F_v_8 := F_v.other W6 (Or.inr (slot_ne (Or.inl (hw _ (List.mem_of_getElem? (i := 11) rfl))) (Or.inl (hw _ (List.mem_of_getElem? (i := 18) rfl))) (by decide) (t := (.array .long)) (t' := .int) (by decide) (by decide)))
  have F_s_9 := F_s.same W6
  have V_b_10 := V_b.other W6 (Ne.symm ne_a_b)
  have N6 := Fr.snoc X6 N2 O_a
  have Z6 : n0 ≤ h6.size := Nat.le_trans Z0 (Keep.of_wr W6).1
  have K6 : Keep h0 h6 [a, b] := (Keep.refl h0 [a, b]).wr W6 (Or.inl (List.mem_of_getElem? (i := 0) rfl))
  have pre11 : ∀ tg, Steps p.tables e below (T6.setTop (mkF m 16 #[.val (.ref a), .val (.long v0), .second, .unset, .unset, .unset, .unset] [(.ref a)])) tg → G tg := fun tg kt => pre6s tg (by
    show Steps p.tables e below (T6.setTop (mkF m 15 #[.val (.ref a), .val (.long v0), .second, .unset, .unset, .unset, .unset] [])) _
    refine XS.aloadN X6.here hx rfl (hb hby d5_15) rfl rfl ?_
    exact kt)
  obtain ⟨T12, X12, e12, st12⟩ := getF X6 hx hZ hown (host := "") (Or.inl (hw _ (List.mem_of_getElem? (i := 10) rfl))) Via.refl e6 F_v_8 (g := (mkF m 16 #[.val (.ref a), .val (.long v0), .second, .unset, .unset, .unset, .unset] [(.ref a)])) rfl rfl (hb hby d5_16)
  have pre12s : ∀ tg, Steps p.tables e below (T12.setTop (mkF m 19 #[.val (.ref a), .val (.long v0), .second, .unset, .unset, .unset, .unset] [(.ref b)])) tg → G tg := fun tg kt => pre11 tg (st12 tg kt)
  have pre13 : ∀ tg, Steps p.tables e below (T12.setTop (mkF m 20 #[.val (.ref a), .val (.long v0), .second, .unset, .unset, .unset, .unset] [(.ref a), (.ref b)])) tg → G tg := fun tg kt => pre12s tg (by
    show Steps p.tables e below (T12.setTop (mkF m 19 #[.val (.ref a), .val (.long v0), .second, .unset, .unset, .unset, .unset] [(.ref b)])) _
    refine XS.aloadN X12.here hx rfl (hb hby d5_19) rfl rfl ?_
    exact kt)
  obtain ⟨T14, X14, e14, st14⟩ := getF X12 hx hZ hown (host := "") (Or.inl (hw _ (List.mem_of_getElem? (i := 17) rfl))) Via.refl e12 F_s_9 (g := (mkF m 20 #[.val (.ref a), .val (.long v0), .second, .unset, .unset, .unset, .unset] [(.ref a), (.ref b)])) rfl rfl (hb hby d5_20)
  have pre14s : ∀ tg, Steps p.tables e below (T14.setTop (mkF m 23 #[.val (.ref a), .val (.long v0), .second, .unset, .unset, .unset, .unset] [(.int (1 : Int32)), (.ref b)])) tg → G tg := fun tg kt => pre13 tg (st14 tg kt)
  have op_15 := V_b_10
  obtain ⟨cl_15, Ar_15, q_15, S_15, Ng_15, H_15, G_15⟩ := op_15
  have hin_15 : ¬ ((1 : Int32) < 0 ∨ cl_15.slots.size ≤ ((1 : Int32)).toNatClampNeg) := inb_of S_15 ⟨by decide, by decide⟩
  have pre16 : ∀ tg, Steps p.tables e below (T14.setTop (mkF m 34 #[.val (.ref a), .val (.long v0), .second, .val (.long v1), .second, .val (.int (0 : Int32)), .val (.int (1 : Int32))] [(.ref a), (.int (1 : Int32))])) tg → G tg := fun tg kt => pre14s tg (by
    show Steps p.tables e below (T14.setTop (mkF m 23 #[.val (.ref a), .val (.long v0), .second, .unset, .unset, .unset, .unset] [(.int (1 : Int32)), (.ref b)])) _
    refine X14.laload hx (j := (1 : Int32)) (v := (.long v1)) (by rw [e14]; exact Ar_15.1) (State.isArrayOf_alike hZ.alike Ar_15.2.1) Ar_15.2.2 hin_15 (H_15.at hin_15 rfl) (g := (mkF m 23 #[.val (.ref a), .val (.long v0), .second, .unset, .unset, .unset, .unset] [(.int (1 : Int32)), (.ref b)])) rfl rfl (hb hby d5_23) _ ?_
    show Steps p.tables e below (T14.setTop (mkF m 24 #[.val (.ref a), .val (.long v0), .second, .unset, .unset, .unset, .unset] [(.long v1)])) _
    refine XS.lstoreN X14.here hx rfl (hb hby d5_24) rfl (l' := #[.val (.ref a), .val (.long v0), .second, .val (.long v1), .second, .unset, .unset]) rfl ?_
    show Steps p.tables e below (T14.setTop (mkF m 25 #[.val (.ref a), .val (.long v0), .second, .val (.long v1), .second, .unset, .unset] [])) _
    refine XS.iconst X14.here hx rfl (hb hby d5_25) ?_
    show Steps p.tables e below (T14.setTop (mkF m 26 #[.val (.ref a), .val (.long v0), .second, .val (.long v1), .second, .unset, .unset] [(.int (0 : Int32))])) _
    refine XS.istore X14.here hx rfl (hb hby d5_26) rfl (l' := #[.val (.ref a), .val (.long v0), .second, .val (.long v1), .second, .val (.int (0 : Int32)), .unset]) rfl ?_
    show Steps p.tables e below (T14.setTop (mkF m 28 #[.val (.ref a), .val (.long v0), .second, .val (.long v1), .second, .val (.int (0 : Int32)), .unset] [])) _
    refine XS.iconst X14.here hx rfl (hb hby d5_28) ?_
    show Steps p.tables e below (T14.setTop (mkF m 29 #[.val (.ref a), .val (.long v0), .second, .val (.long v1), .second, .val (.int (0 : Int32)), .unset] [(.int (1 : Int32))])) _
    refine XS.istore X14.here hx rfl (hb hby d5_29) rfl (l' := #[.val (.ref a), .val (.long v0), .second, .val (.long v1), .second, .val (.int (0 : Int32)), .val (.int (1 : Int32))]) rfl ?_
    show Steps p.tables e below (T14.setTop (mkF m 31 #[.val (.ref a), .val (.long v0), .second, .val (.long v1), .second, .val (.int (0 : Int32)), .val (.int (1 : Int32))] [])) _
    refine XS.iload X14.here hx rfl (hb hby d5_31) rfl ?_
    show Steps p.tables e below (T14.setTop (mkF m 33 #[.val (.ref a), .val (.long v0), .second, .val (.long v1), .second, .val (.int (0 : Int32)), .val (.int (1 : Int32))] [(.int (1 : Int32))])) _
    refine XS.aloadN X14.here hx rfl (hb hby d5_33) rfl rfl ?_
    exact kt)
  obtain ⟨T17, X17, e17, st17⟩ := getF X14 hx hZ hown (host := "") (Or.inl (hw _ (List.mem_of_getElem? (i := 17) rfl))) Via.refl e14 F_s_9 (g := (mkF m 34 #[.val (.ref a), .val (.long v0), .second, .val (.long v1), .second, .val (.int (0 : Int32)), .val (.int (1 : Int32))] [(.ref a), (.int (1 : Int32))])) rfl rfl (hb hby d5_34)
  have pre17s : ∀ tg, Steps p.tables e below (T17.setTop (mkF m 37 #[.val (.ref a), .val (.long v0), .second, .val (.long v1), .second, .val (.int (0 : Int32)), .val (.int (1 : Int32))] [(.int (1 : Int32)), (.int (1 : Int32))])) tg → G tg := fun tg kt => pre16 tg (st17 tg kt)
  have pre18 : ∀ tg, Steps p.tables e below (T17.setTop (mkF m 119 #[.val (.ref a), .val (.long v0), .second, .val (.long v1), .second, .val (.int (0 : Int32)), .val (.int (1 : Int32))] [(.ref a)])) tg → G tg := fun tg kt => pre17s tg (by
    show Steps p.tables e below (T17.setTop (mkF m 37 #[.val (.ref a), .val (.long v0), .second, .val (.long v1), .second, .val (.int (0 : Int32)), .val (.int (1 : Int32))] [(.int (1 : Int32)), (.int (1 : Int32))])) _
    refine XS.icmpYes X17.here hx rfl (pc0 := 37) (pc' := 118) rfl (hb hby d5_37) rfl (flt (by decide : ¬ ((1 : Int32) < (1 : Int32)))).2.1 (by decide) (by decide) ?_
    show Steps p.tables e below (T17.setTop (mkF m 118 #[.val (.ref a), .val (.long v0), .second, .val (.long v1), .second, .val (.int (0 : Int32)), .val (.int (1 : Int32))] [])) _
    refine XS.aloadN X17.here hx rfl (hb hby d5_118) rfl rfl ?_
    exact kt)
  obtain ⟨T19, X19, e19, st19⟩ := getF X17 hx hZ hown (host := "") (Or.inl (hw _ (List.mem_of_getElem? (i := 10) rfl))) Via.refl e17 F_v_8 (g := (mkF m 119 #[.val (.ref a), .val (.long v0), .second, .val (.long v1), .second, .val (.int (0 : Int32)), .val (.int (1 : Int32))] [(.ref a)])) rfl rfl (hb hby d5_119)
  have pre19s : ∀ tg, Steps p.tables e below (T19.setTop (mkF m 122 #[.val (.ref a), .val (.long v0), .second, .val (.long v1), .second, .val (.int (0 : Int32)), .val (.int (1 : Int32))] [(.ref b)])) tg → G tg := fun tg kt => pre18 tg (st19 tg kt)
  have pre20 : ∀ tg, Steps p.tables e below (T19.setTop (mkF m 125 #[.val (.ref a), .val (.long v0), .second, .val (.long v1), .second, .val (.int (0 : Int32)), .val (.int (1 : Int32))] [(.long v1), (.int (0 : Int32)), (.ref b)])) tg → G tg := fun tg kt => pre19s tg (by
    show Steps p.tables e below (T19.setTop (mkF m 122 #[.val (.ref a), .val (.long v0), .second, .val (.long v1), .second, .val (.int (0 : Int32)), .val (.int (1 : Int32))] [(.ref b)])) _
    refine XS.iload X19.here hx rfl (hb hby d5_122) rfl ?_
    show Steps p.tables e below (T19.setTop (mkF m 124 #[.val (.ref a), .val (.long v0), .second, .val (.long v1), .second, .val (.int (0 : Int32)), .val (.int (1 : Int32))] [(.int (0 : Int32)), (.ref b)])) _
    refine XS.lloadN X19.here hx rfl (hb hby d5_124) rfl ?_
    exact kt)
  have op_21 := V_b_10
  obtain ⟨cl_21, Ar_21, q_21, S_21, Ng_21, H_21, G_21⟩ := op_21
  have hin_21 : ¬ ((0 : Int32) < 0 ∨ cl_21.slots.size ≤ ((0 : Int32)).toNatClampNeg) := inb_of S_21 ⟨by decide, by decide⟩
  obtain ⟨T21, h21, X21, e21, W21, st21⟩ := stJ X19 hx hZ e19 Ar_21 (j := (0 : Int32)) hin_21 (g := (mkF m 125 #[.val (.ref a), .val (.long v0), .second, .val (.long v1), .second, .val (.int (0 : Int32)), .val (.int (1 : Int32))] [(.long v1), (.int (0 : Int32)), (.ref b)])) rfl rfl (hb hby d5_125)
  have pre21s : ∀ tg, Steps p.tables e below (T21.setTop (mkF m 126 #[.val (.ref a), .val (.long v0), .second, .val (.long v1), .second, .val (.int (0 : Int32)), .val (.int (1 : Int32))] [])) tg → G tg := fun tg kt => pre20 tg (st21 tg kt)
  have E_a_22 := E_a_7.wr W21
  have F_v_23 := F_v_8.other W21 (Or.inl ne_a_b)
  have F_s_24 := F_s_9.other W21 (Or.inl ne_a_b)
  have V21_b : Arv Z h21 b kA .long (16 : Int32) [(.long v1), (.long v1), (.long v2), (.long (0 : Int64)), (.long (0 : Int64)), (.long (0 : Int64)), (.long (0 : Int64)), (.long (0 : Int64)), (.long (0 : Int64)), (.long (0 : Int64)), (.long (0 : Int64)), (.long (0 : Int64)), (.long (0 : Int64)), (.long (0 : Int64)), (.long (0 : Int64)), (.long (0 : Int64))] (.long (0 : Int64)) := Arv.set Ar_21 q_21 S_21 Ng_21 H_21 G_21 rfl W21 0 rfl (Nat.le_of_ble_eq_true rfl)
  have N21 := Fr.snoc X21 N6 O_b
  have Z21 : n0 ≤ h21.size := Nat.le_trans Z6 (Keep.of_wr W21).1
  have K21 : Keep h0 h21 [a, b] := K6.wr W21 (Or.inl (List.mem_of_getElem? (i := 1) rfl))
  obtain ⟨fs, hr, hrun, hended, hW, hsame⟩ := X21.leave (v := some (.long v0)) (fun h => by rw [Bd.returns] at h; cases h)
  subst hG
  refine ⟨_, _, pre21s _ ?_, hrun, hended, _, _, rfl, ?_, ⟨_, rfl⟩, hW, hsame.mono (by decide) (by decide)⟩
  · skip
    show Steps p.tables e below (T21.setTop (mkF m 126 #[.val (.ref a), .val (.long v0), .second, .val (.long v1), .second, .val (.int (0 : Int32)), .val (.int (1 : Int32))] [])) _
    refine XS.lloadN X21.here hx rfl (hb hby d5_126) rfl ?_
    show Steps p.tables e below (T21.setTop (mkF m 127 #[.val (.ref a), .val (.long v0), .second, .val (.long v1), .second, .val (.int (0 : Int32)), .val (.int (1 : Int32))] [(.long v0)])) _
    exact X21.lreturnOut hx Bd.returns (hb hby d5_127) hr
  · show Q_rm5_2 Z a b kA v0 v1 v2 h0 n0 _ T21.heap _
    rw [e21]
    exact ⟨_, rfl, N21, K21, _, _, _, F_v_23, F_s_24, V21_b⟩
theorem d5_40 : decode prog_27_method_5_code 40 = .ok (.iload 6, 2) := by decide +kernel
theorem d5_42 : decode prog_27_method_5_code 42 = .ok (.iconst 1, 1) := by decide +kernel
theorem d5_43 : decode prog_27_method_5_code 43 = .ok (.iadd, 1) := by decide +kernel
theorem d5_44 : decode prog_27_method_5_code 44 = .ok (.aload_n 0, 1) := by decide +kernel
theorem d5_45 : decode prog_27_method_5_code 45 = .ok (.getfield 13, 3) := by decide +kernel
theorem d5_48 : decode prog_27_method_5_code 48 = .ok (.if_icmp .ge 26, 3) := by decide +kernel
theorem d5_74 : decode prog_27_method_5_code 74 = .ok (.aload_n 0, 1) := by decide +kernel
theorem d5_75 : decode prog_27_method_5_code 75 = .ok (.getfield 7, 3) := by decide +kernel
theorem d5_78 : decode prog_27_method_5_code 78 = .ok (.iload 6, 2) := by decide +kernel
theorem d5_80 : decode prog_27_method_5_code 80 = .ok (.laload, 1) := by decide +kernel
theorem d5_81 : decode prog_27_method_5_code 81 = .ok (.lload_n 3, 1) := by decide +kernel
theorem d5_82 : decode prog_27_method_5_code 82 = .ok (.lcmp, 1) := by decide +kernel
theorem d5_83 : decode prog_27_method_5_code 83 = .ok (.ifCond .lt 6, 3) := by decide +kernel
theorem d5_86 : decode prog_27_method_5_code 86 = .ok (.goto 32, 3) := by decide +kernel
theorem d5_89 : decode prog_27_method_5_code 89 = .ok (.aload_n 0, 1) := by decide +kernel
theorem d5_90 : decode prog_27_method_5_code 90 = .ok (.getfield 7, 3) := by decide +kernel
theorem d5_93 : decode prog_27_method_5_code 93 = .ok (.iload 5, 2) := by decide +kernel
theorem d5_95 : decode prog_27_method_5_code 95 = .ok (.aload_n 0, 1) := by decide +kernel
theorem d5_96 : decode prog_27_method_5_code 96 = .ok (.getfield 7, 3) := by decide +kernel
theorem d5_99 : decode prog_27_method_5_code 99 = .ok (.iload 6, 2) := by decide +kernel
theorem d5_101 : decode prog_27_method_5_code 101 = .ok (.laload, 1) := by decide +kernel
theorem d5_102 : decode prog_27_method_5_code 102 = .ok (.lastore, 1) := by decide +kernel
theorem d5_103 : decode prog_27_method_5_code 103 = .ok (.iload 6, 2) := by decide +kernel
theorem d5_105 : decode prog_27_method_5_code 105 = .ok (.istore 5, 2) := by decide +kernel
theorem d5_107 : decode prog_27_method_5_code 107 = .ok (.iconst 2, 1) := by decide +kernel
theorem d5_108 : decode prog_27_method_5_code 108 = .ok (.iload 5, 2) := by decide +kernel
theorem d5_110 : decode prog_27_method_5_code 110 = .ok (.imul, 1) := by decide +kernel
theorem d5_111 : decode prog_27_method_5_code 111 = .ok (.iconst 1, 1) := by decide +kernel
theorem d5_112 : decode prog_27_method_5_code 112 = .ok (.iadd, 1) := by decide +kernel
theorem d5_113 : decode prog_27_method_5_code 113 = .ok (.istore 6, 2) := by decide +kernel
theorem d5_115 : decode prog_27_method_5_code 115 = .ok (.goto (-84), 3) := by decide +kernel
def Q_rm5_3 (Z : State) (a b : Addr) (kA : ClassId) (v0 v1 v2 : Int64) (h0 : Heap) (n0 : Nat) (v : Option Value) (h : Heap) (L : List Loc) : Prop := ∃ x0 : Int64, v = some (.long x0) ∧ Fr n0 L ∧ Keep h0 h [a, b] ∧ ∃ (w0 w1 w2 : Int64), Fld Z h a "com/example/find_leader/findleader/engine/LongHeap" "values" "[J" (.ref b) ∧ Fld Z h a "com/example/find_leader/findleader/engine/LongHeap" "size" "I" (.int (2 : Int32)) ∧ Arv Z h b kA .long (16 : Int32) [(.long w0), (.long w1), (.long w2), (.long (0 : Int64)), (.long (0 : Int64)), (.long (0 : Int64)), (.long (0 : Int64)), (.long (0 : Int64)), (.long (0 : Int64)), (.long (0 : Int64)), (.long (0 : Int64)), (.long (0 : Int64)), (.long (0 : Int64)), (.long (0 : Int64)), (.long (0 : Int64)), (.long (0 : Int64))] (.long (0 : Int64))
set_option maxRecDepth 65536 in
set_option maxHeartbeats 40000000 in
theorem rm5_3 (l : Launch) (Z : State) (a0 : Array Value) (hw : ∀ d ∈ tables_1, d.before a0 Z = true) (ws : List Jvm.Cond) (a b : Addr) (kA : ClassId) (v0 v1 v2 : Int64) (h0 : Heap) (n0 : Nat) (Z0 : n0 ≤ h0.size) (E_a : Exa Z h0 a "com/example/find_leader/findleader/engine/LongHeap") (F_v : Fld Z h0 a "com/example/find_leader/findleader/engine/LongHeap" "values" "[J" (.ref b)) (F_s : Fld Z h0 a "com/example/find_leader/findleader/engine/LongHeap" "size" "I" (.int (3 : Int32))) (V_b : Arv Z h0 b kA .long (16 : Int32) [(.long v0), (.long v1), (.long v2), (.long (0 : Int64)), (.long (0 : Int64)), (.long (0 : Int64)), (.long (0 : Int64)), (.long (0 : Int64)), (.long (0 : Int64)), (.long (0 : Int64)), (.long (0 : Int64)), (.long (0 : Int64)), (.long (0 : Int64)), (.long (0 : Int64)), (.long (0 : Int64)), (.long (0 : Int64))] (.long (0 : Int64))) (O_a : n0 ≤ a) (O_b : n0 ≤ b) (ne_a_b : a ≠ b) :
    MetFree l (⟨"com/example/find_leader/findleader/engine/LongHeap", "pollFirst", "()J"⟩ : MethodName) (head1 (Jvm.Cond.code (⟨"com/example/find_leader/findleader/engine/LongHeap", "pollFirst", "()J"⟩ : MethodName) prog_27_method_5_code 7 (some .long) :: ws) ({ frames := 1, cells := 0, slots := 0, locals := 30 } : Room)) (fun argv U => argv = #[(.ref a)] ∧ Z.Warmed39 U.vm ∧ U.heap = h0) (fun _ _ _ _ _ => True) (fun _ U o U' => ∃ v L, o = .returned v ∧ Q_rm5_3 Z a b kA v0 v1 v2 h0 n0 v U'.heap L ∧ FrameEnd U o U' L ({ frames := 1, cells := 0, slots := 0, locals := 30 } : Room).cells ({ frames := 1, cells := 0, slots := 0, locals := 30 } : Room).slots) := by
  refine MetFree.of_bodySF (plainFor_of_name pn_5) hisR ?_
  intro p e s m args below meth c s₁ Bd hml0 hP hK
  obtain ⟨rfl, hZ, hh⟩ := hP
  have hx := Bd.exec
  have hby := Bd.bytes
  have hml : c.maxLocals = 7 := hml0
  have hown : s.vm.findClass "com/example/find_leader/findleader/engine/LongHeap" = some m.cls := findClass_of_methodNamed Bd.named
  have hnm := (name_of_methodNamed Bd.named Bd.method).1
  have X0 : Stand p l e ({ frames := 1, cells := 0, slots := 0, locals := 30 } : Room) s m #[(.ref a)] below meth c s₁ [] 0 0 := Stand.of_body Bd
  have e0 : s₁.heap = h0 := by rw [← hh, Bd.state]; rfl
  have N0 := Fr.nil n0
  obtain ⟨G, hG⟩ : ∃ G : State → Prop, G = fun tg => Steps p.tables e below (s₁.setTop (entryFrame m #[(.ref a)] 7)) tg := ⟨_, rfl⟩
  have pre0 : ∀ tg, Steps p.tables e below (s₁.setTop (mkF m 0 #[.val (.ref a), .unset, .unset, .unset, .unset, .unset, .unset] [])) tg → G tg := fun tg kt => by rw [hG]; exact castTop (ef_5_R m a) kt
  have pre1 : ∀ tg, Steps p.tables e below (s₁.setTop (mkF m 1 #[.val (.ref a), .unset, .unset, .unset, .unset, .unset, .unset] [(.ref a)])) tg → G tg := fun tg kt => pre0 tg (by
    show Steps p.tables e below (s₁.setTop (mkF m 0 #[.val (.ref a), .unset, .unset, .unset, .unset, .unset, .unset] [])) _
    refine XS.aloadN X0.here hx rfl (hb hby d5_0) rfl rfl ?_
    exact kt)
  obtain ⟨cq2, kq2, q2a, q2b, q2c⟩ := isOf hZ e0 E_a
  obtain ⟨_, _, ⟨T2, L2, k2, n2⟩, -, X2, ⟨Lc2, hQ2, l2, y2, z2⟩, st2⟩ := X0.virtualBack hx (y := (⟨"com/example/find_leader/findleader/engine/LongHeap", "first", "()J"⟩ : MethodName)) (z := (⟨"com/example/find_leader/findleader/engine/LongHeap", "first", "()J"⟩ : MethodName)) hown (mvT hZ (hw _ (List.mem_of_getElem? (i := 29) rfl))) (mvT hZ (hw _ (List.mem_of_getElem? (i := 30) rfl))) (notFace_of_selects (args := #[]) (mvT hZ (hw _ (List.mem_of_getElem? (i := 32) rfl)))) (mvT hZ (hw _ (List.mem_of_getElem? (i := 32) rfl))) (mvT hZ (hw _ (List.mem_of_getElem? (i := 31) rfl))) (by decide) (backOf (W := 0) (rm6 l Z a0 hw [] a b kA v0 v1 v2 (3 : Int32) h0 n0 Z0 E_a F_v F_s V_b O_a O_b ne_a_b (by decide)) hZ (hw _ (List.mem_of_getElem? (i := 33) rfl)) (hw _ (List.mem_of_getElem? (i := 2) rfl)) (by decide) (by decide)) q2a q2c (g := (mkF m 1 #[.val (.ref a), .unset, .unset, .unset, .unset, .unset, .unset] [(.ref a)])) rfl (by rw [hml]; rfl) (Steps.refl _) (argsL := []) (rest := []) (lenOf pd_0 rfl) rfl (by show 2 * 0 + _ ≤ _; exact Nat.le_of_eq rfl) (hb hby d5_1) (fun _ _ => ⟨rfl, e0, (Nat.le_of_ble_eq_true rfl), (Nat.le_of_ble_eq_true rfl)⟩)
  dsimp only [Pt.U, Pt.locs, Pt.cells, Pt.slots] at X2 l2 y2 z2 st2 hQ2
  subst l2 y2 z2
  obtain ⟨rfl, N2q, e2⟩ := hQ2
  have N2 := Fr.app N0 N2q
  have pre2s : ∀ tg, Steps p.tables e below (T2.setTop (mkF m 4 #[.val (.ref a), .unset, .unset, .unset, .unset, .unset, .unset] [(.long v0)])) tg → G tg := fun tg kt => pre1 tg (st2.trans kt)
  have pre3 : ∀ tg, Steps p.tables e below (T2.setTop (mkF m 7 #[.val (.ref a), .val (.long v0), .second, .unset, .unset, .unset, .unset] [(.ref a), (.ref a)])) tg → G tg := fun tg kt => pre2s tg (by
    show Steps p.tables e below (T2.setTop (mkF m 4 #[.val (.ref a), .unset, .unset, .unset, .unset, .unset, .unset] [(.long v0)])) _
    refine XS.lstoreN X2.here hx rfl (hb hby d5_4) rfl (l' := #[.val (.ref a), .val (.long v0), .second, .unset, .unset, .unset, .unset]) rfl ?_
    show Steps p.tables e below (T2.setTop (mkF m 5 #[.val (.ref a), .val (.long v0), .second, .unset, .unset, .unset, .unset] [])) _
    refine XS.aloadN X2.here hx rfl (hb hby d5_5) rfl rfl ?_
    show Steps p.tables e below (T2.setTop (mkF m 6 #[.val (.ref a), .val (.long v0), .second, .unset, .unset, .unset, .unset] [(.ref a)])) _
    refine XS.dup X2.here hx rfl (hb hby d5_6) rfl rfl ?_
    exact kt)
  obtain ⟨T4, X4, e4, st4⟩ := getF X2 hx hZ hown (host := "") (Or.inl (hw _ (List.mem_of_getElem? (i := 17) rfl))) Via.refl e2 F_s (g := (mkF m 7 #[.val (.ref a), .val (.long v0), .second, .unset, .unset, .unset, .unset] [(.ref a), (.ref a)])) rfl rfl (hb hby d5_7)
  have pre4s : ∀ tg, Steps p.tables e below (T4.setTop (mkF m 10 #[.val (.ref a), .val (.long v0), .second, .unset, .unset, .unset, .unset] [(.int (3 : Int32)), (.ref a)])) tg → G tg := fun tg kt => pre3 tg (st4 tg kt)
  have pre5 : ∀ tg, Steps p.tables e below (T4.setTop (mkF m 12 #[.val (.ref a), .val (.long v0), .second, .unset, .unset, .unset, .unset] [(.int (2 : Int32)), (.ref a)])) tg → G tg := fun tg kt => pre4s tg (by
    show Steps p.tables e below (T4.setTop (mkF m 10 #[.val (.ref a), .val (.long v0), .second, .unset, .unset, .unset, .unset] [(.int (3 : Int32)), (.ref a)])) _
    refine XS.iconst X4.here hx rfl (hb hby d5_10) ?_
    show Steps p.tables e below (T4.setTop (mkF m 11 #[.val (.ref a), .val (.long v0), .second, .unset, .unset, .unset, .unset] [(.int (1 : Int32)), (.int (3 : Int32)), (.ref a)])) _
    refine XS.isub X4.here hx rfl (hb hby d5_11) rfl ?_
    exact kt)
  obtain ⟨T6, h6, X6, e6, W6, st6⟩ := putF X4 hx hZ hown (host := "") (Or.inl (hw _ (List.mem_of_getElem? (i := 17) rfl))) Via.refl e4 F_s E_a (Or.inl (hw _ (List.mem_of_getElem? (i := 18) rfl))) (hw _ (List.mem_of_getElem? (i := 1) rfl)) (ty := .int) (by decide) rfl rfl (g := (mkF m 12 #[.val (.ref a), .val (.long v0), .second, .unset, .unset, .unset, .unset] [(.int (2 : Int32)), (.ref a)])) rfl rfl (hb hby d5_12)
  have pre6s : ∀ tg, Steps p.tables e below (T6.setTop (mkF m 15 #[.val (.ref a), .val (.long v0), .second, .unset, .unset, .unset, .unset] [])) tg → G tg := fun tg kt => pre5 tg (st6 tg kt)
  have E_a_7 := E_a.wr W6
  have F_v_8 := F_v.other W6 (Or.inr (slot_ne (Or.inl (hw _ (List.mem_of_getElem? (i := 11) rfl))) (Or.inl (hw _ (List.mem_of_getElem? (i := 18) rfl))) (by decide) (t := (.array .long)) (t' := .int) (by decide) (by decide)))
  have F_s_9 := F_s.same W6
  have V_b_10 := V_b.other W6 (Ne.symm ne_a_b)
  have N6 := Fr.snoc X6 N2 O_a
  have Z6 : n0 ≤ h6.size := Nat.le_trans Z0 (Keep.of_wr W6).1
  have K6 : Keep h0 h6 [a, b] := (Keep.refl h0 [a, b]).wr W6 (Or.inl (List.mem_of_getElem? (i := 0) rfl))
  have pre11 : ∀ tg, Steps p.tables e below (T6.setTop (mkF m 16 #[.val (.ref a), .val (.long v0), .second, .unset, .unset, .unset, .unset] [(.ref a)])) tg → G tg := fun tg kt => pre6s tg (by
    show Steps p.tables e below (T6.setTop (mkF m 15 #[.val (.ref a), .val (.long v0), .second, .unset, .unset, .unset, .unset] [])) _
    refine XS.aloadN X6.here hx rfl (hb hby d5_15) rfl rfl ?_
    exact kt)
  obtain ⟨T12, X12, e12, st12⟩ := getF X6 hx hZ hown (host := "") (Or.inl (hw _ (List.mem_of_getElem? (i := 10) rfl))) Via.refl e6 F_v_8 (g := (mkF m 16 #[.val (.ref a), .val (.long v0), .second, .unset, .unset, .unset, .unset] [(.ref a)])) rfl rfl (hb hby d5_16)
  have pre12s : ∀ tg, Steps p.tables e below (T12.setTop (mkF m 19 #[.val (.ref a), .val (.long v0), .second, .unset, .unset, .unset, .unset] [(.ref b)])) tg → G tg := fun tg kt => pre11 tg (st12 tg kt)
  have pre13 : ∀ tg, Steps p.tables e below (T12.setTop (mkF m 20 #[.val (.ref a), .val (.long v0), .second, .unset, .unset, .unset, .unset] [(.ref a), (.ref b)])) tg → G tg := fun tg kt => pre12s tg (by
    show Steps p.tables e below (T12.setTop (mkF m 19 #[.val (.ref a), .val (.long v0), .second, .unset, .unset, .unset, .unset] [(.ref b)])) _
    refine XS.aloadN X12.here hx rfl (hb hby d5_19) rfl rfl ?_
    exact kt)
  obtain ⟨T14, X14, e14, st14⟩ := getF X12 hx hZ hown (host := "") (Or.inl (hw _ (List.mem_of_getElem? (i := 17) rfl))) Via.refl e12 F_s_9 (g := (mkF m 20 #[.val (.ref a), .val (.long v0), .second, .unset, .unset, .unset, .unset] [(.ref a), (.ref b)])) rfl rfl (hb hby d5_20)
  have pre14s : ∀ tg, Steps p.tables e below (T14.setTop (mkF m 23 #[.val (.ref a), .val (.long v0), .second, .unset, .unset, .unset, .unset] [(.int (2 : Int32)), (.ref b)])) tg → G tg := fun tg kt => pre13 tg (st14 tg kt)
  have op_15 := V_b_10
  obtain ⟨cl_15, Ar_15, q_15, S_15, Ng_15, H_15, G_15⟩ := op_15
  have hin_15 : ¬ ((2 : Int32) < 0 ∨ cl_15.slots.size ≤ ((2 : Int32)).toNatClampNeg) := inb_of S_15 ⟨by decide, by decide⟩
  have pre16 : ∀ tg, Steps p.tables e below (T14.setTop (mkF m 34 #[.val (.ref a), .val (.long v0), .second, .val (.long v2), .second, .val (.int (0 : Int32)), .val (.int (1 : Int32))] [(.ref a), (.int (1 : Int32))])) tg → G tg := fun tg kt => pre14s tg (by
    show Steps p.tables e below (T14.setTop (mkF m 23 #[.val (.ref a), .val (.long v0), .second, .unset, .unset, .unset, .unset] [(.int (2 : Int32)), (.ref b)])) _
    refine X14.laload hx (j := (2 : Int32)) (v := (.long v2)) (by rw [e14]; exact Ar_15.1) (State.isArrayOf_alike hZ.alike Ar_15.2.1) Ar_15.2.2 hin_15 (H_15.at hin_15 rfl) (g := (mkF m 23 #[.val (.ref a), .val (.long v0), .second, .unset, .unset, .unset, .unset] [(.int (2 : Int32)), (.ref b)])) rfl rfl (hb hby d5_23) _ ?_
    show Steps p.tables e below (T14.setTop (mkF m 24 #[.val (.ref a), .val (.long v0), .second, .unset, .unset, .unset, .unset] [(.long v2)])) _
    refine XS.lstoreN X14.here hx rfl (hb hby d5_24) rfl (l' := #[.val (.ref a), .val (.long v0), .second, .val (.long v2), .second, .unset, .unset]) rfl ?_
    show Steps p.tables e below (T14.setTop (mkF m 25 #[.val (.ref a), .val (.long v0), .second, .val (.long v2), .second, .unset, .unset] [])) _
    refine XS.iconst X14.here hx rfl (hb hby d5_25) ?_
    show Steps p.tables e below (T14.setTop (mkF m 26 #[.val (.ref a), .val (.long v0), .second, .val (.long v2), .second, .unset, .unset] [(.int (0 : Int32))])) _
    refine XS.istore X14.here hx rfl (hb hby d5_26) rfl (l' := #[.val (.ref a), .val (.long v0), .second, .val (.long v2), .second, .val (.int (0 : Int32)), .unset]) rfl ?_
    show Steps p.tables e below (T14.setTop (mkF m 28 #[.val (.ref a), .val (.long v0), .second, .val (.long v2), .second, .val (.int (0 : Int32)), .unset] [])) _
    refine XS.iconst X14.here hx rfl (hb hby d5_28) ?_
    show Steps p.tables e below (T14.setTop (mkF m 29 #[.val (.ref a), .val (.long v0), .second, .val (.long v2), .second, .val (.int (0 : Int32)), .unset] [(.int (1 : Int32))])) _
    refine XS.istore X14.here hx rfl (hb hby d5_29) rfl (l' := #[.val (.ref a), .val (.long v0), .second, .val (.long v2), .second, .val (.int (0 : Int32)), .val (.int (1 : Int32))]) rfl ?_
    show Steps p.tables e below (T14.setTop (mkF m 31 #[.val (.ref a), .val (.long v0), .second, .val (.long v2), .second, .val (.int (0 : Int32)), .val (.int (1 : Int32))] [])) _
    refine XS.iload X14.here hx rfl (hb hby d5_31) rfl ?_
    show Steps p.tables e below (T14.setTop (mkF m 33 #[.val (.ref a), .val (.long v0), .second, .val (.long v2), .second, .val (.int (0 : Int32)), .val (.int (1 : Int32))] [(.int (1 : Int32))])) _
    refine XS.aloadN X14.here hx rfl (hb hby d5_33) rfl rfl ?_
    exact kt)
  obtain ⟨T17, X17, e17, st17⟩ := getF X14 hx hZ hown (host := "") (Or.inl (hw _ (List.mem_of_getElem? (i := 17) rfl))) Via.refl e14 F_s_9 (g := (mkF m 34 #[.val (.ref a), .val (.long v0), .second, .val (.long v2), .second, .val (.int (0 : Int32)), .val (.int (1 : Int32))] [(.ref a), (.int (1 : Int32))])) rfl rfl (hb hby d5_34)
  have pre17s : ∀ tg, Steps p.tables e below (T17.setTop (mkF m 37 #[.val (.ref a), .val (.long v0), .second, .val (.long v2), .second, .val (.int (0 : Int32)), .val (.int (1 : Int32))] [(.int (2 : Int32)), (.int (1 : Int32))])) tg → G tg := fun tg kt => pre16 tg (st17 tg kt)
  have pre18 : ∀ tg, Steps p.tables e below (T17.setTop (mkF m 45 #[.val (.ref a), .val (.long v0), .second, .val (.long v2), .second, .val (.int (0 : Int32)), .val (.int (1 : Int32))] [(.ref a), (.int (2 : Int32))])) tg → G tg := fun tg kt => pre17s tg (by
    show Steps p.tables e below (T17.setTop (mkF m 37 #[.val (.ref a), .val (.long v0), .second, .val (.long v2), .second, .val (.int (0 : Int32)), .val (.int (1 : Int32))] [(.int (2 : Int32)), (.int (1 : Int32))])) _
    refine XS.icmpNo X17.here hx rfl (hb hby d5_37) rfl (tlt (by decide : (1 : Int32) < (2 : Int32))).2.1 ?_
    show Steps p.tables e below (T17.setTop (mkF m 40 #[.val (.ref a), .val (.long v0), .second, .val (.long v2), .second, .val (.int (0 : Int32)), .val (.int (1 : Int32))] [])) _
    refine XS.iload X17.here hx rfl (hb hby d5_40) rfl ?_
    show Steps p.tables e below (T17.setTop (mkF m 42 #[.val (.ref a), .val (.long v0), .second, .val (.long v2), .second, .val (.int (0 : Int32)), .val (.int (1 : Int32))] [(.int (1 : Int32))])) _
    refine XS.iconst X17.here hx rfl (hb hby d5_42) ?_
    show Steps p.tables e below (T17.setTop (mkF m 43 #[.val (.ref a), .val (.long v0), .second, .val (.long v2), .second, .val (.int (0 : Int32)), .val (.int (1 : Int32))] [(.int (1 : Int32)), (.int (1 : Int32))])) _
    refine XS.iadd X17.here hx rfl (hb hby d5_43) rfl ?_
    show Steps p.tables e below (T17.setTop (mkF m 44 #[.val (.ref a), .val (.long v0), .second, .val (.long v2), .second, .val (.int (0 : Int32)), .val (.int (1 : Int32))] [(.int (2 : Int32))])) _
    refine XS.aloadN X17.here hx rfl (hb hby d5_44) rfl rfl ?_
    exact kt)
  obtain ⟨T19, X19, e19, st19⟩ := getF X17 hx hZ hown (host := "") (Or.inl (hw _ (List.mem_of_getElem? (i := 17) rfl))) Via.refl e17 F_s_9 (g := (mkF m 45 #[.val (.ref a), .val (.long v0), .second, .val (.long v2), .second, .val (.int (0 : Int32)), .val (.int (1 : Int32))] [(.ref a), (.int (2 : Int32))])) rfl rfl (hb hby d5_45)
  have pre19s : ∀ tg, Steps p.tables e below (T19.setTop (mkF m 48 #[.val (.ref a), .val (.long v0), .second, .val (.long v2), .second, .val (.int (0 : Int32)), .val (.int (1 : Int32))] [(.int (2 : Int32)), (.int (2 : Int32))])) tg → G tg := fun tg kt => pre18 tg (st19 tg kt)
  have pre20 : ∀ tg, Steps p.tables e below (T19.setTop (mkF m 75 #[.val (.ref a), .val (.long v0), .second, .val (.long v2), .second, .val (.int (0 : Int32)), .val (.int (1 : Int32))] [(.ref a)])) tg → G tg := fun tg kt => pre19s tg (by
    show Steps p.tables e below (T19.setTop (mkF m 48 #[.val (.ref a), .val (.long v0), .second, .val (.long v2), .second, .val (.int (0 : Int32)), .val (.int (1 : Int32))] [(.int (2 : Int32)), (.int (2 : Int32))])) _
    refine XS.icmpYes X19.here hx rfl (pc0 := 48) (pc' := 74) rfl (hb hby d5_48) rfl (flt (by decide : ¬ ((2 : Int32) < (2 : Int32)))).2.1 (by decide) (by decide) ?_
    show Steps p.tables e below (T19.setTop (mkF m 74 #[.val (.ref a), .val (.long v0), .second, .val (.long v2), .second, .val (.int (0 : Int32)), .val (.int (1 : Int32))] [])) _
    refine XS.aloadN X19.here hx rfl (hb hby d5_74) rfl rfl ?_
    exact kt)
  obtain ⟨T21, X21, e21, st21⟩ := getF X19 hx hZ hown (host := "") (Or.inl (hw _ (List.mem_of_getElem? (i := 10) rfl))) Via.refl e19 F_v_8 (g := (mkF m 75 #[.val (.ref a), .val (.long v0), .second, .val (.long v2), .second, .val (.int (0 : Int32)), .val (.int (1 : Int32))] [(.ref a)])) rfl rfl (hb hby d5_75)
  have pre21s : ∀ tg, Steps p.tables e below (T21.setTop (mkF m 78 #[.val (.ref a), .val (.long v0), .second, .val (.long v2), .second, .val (.int (0 : Int32)), .val (.int (1 : Int32))] [(.ref b)])) tg → G tg := fun tg kt => pre20 tg (st21 tg kt)
  have pre22 : ∀ tg, Steps p.tables e below (T21.setTop (mkF m 80 #[.val (.ref a), .val (.long v0), .second, .val (.long v2), .second, .val (.int (0 : Int32)), .val (.int (1 : Int32))] [(.int (1 : Int32)), (.ref b)])) tg → G tg := fun tg kt => pre21s tg (by
    show Steps p.tables e below (T21.setTop (mkF m 78 #[.val (.ref a), .val (.long v0), .second, .val (.long v2), .second, .val (.int (0 : Int32)), .val (.int (1 : Int32))] [(.ref b)])) _
    refine XS.iload X21.here hx rfl (hb hby d5_78) rfl ?_
    exact kt)
  have op_23 := V_b_10
  obtain ⟨cl_23, Ar_23, q_23, S_23, Ng_23, H_23, G_23⟩ := op_23
  have hin_23 : ¬ ((1 : Int32) < 0 ∨ cl_23.slots.size ≤ ((1 : Int32)).toNatClampNeg) := inb_of S_23 ⟨by decide, by decide⟩
  have pre24 : ∀ tg, Steps p.tables e below (T21.setTop (mkF m 83 #[.val (.ref a), .val (.long v0), .second, .val (.long v2), .second, .val (.int (0 : Int32)), .val (.int (1 : Int32))] [(.int (lcmpW v1 v2))])) tg → G tg := fun tg kt => pre22 tg (by
    show Steps p.tables e below (T21.setTop (mkF m 80 #[.val (.ref a), .val (.long v0), .second, .val (.long v2), .second, .val (.int (0 : Int32)), .val (.int (1 : Int32))] [(.int (1 : Int32)), (.ref b)])) _
    refine X21.laload hx (j := (1 : Int32)) (v := (.long v1)) (by rw [e21]; exact Ar_23.1) (State.isArrayOf_alike hZ.alike Ar_23.2.1) Ar_23.2.2 hin_23 (H_23.at hin_23 rfl) (g := (mkF m 80 #[.val (.ref a), .val (.long v0), .second, .val (.long v2), .second, .val (.int (0 : Int32)), .val (.int (1 : Int32))] [(.int (1 : Int32)), (.ref b)])) rfl rfl (hb hby d5_80) _ ?_
    show Steps p.tables e below (T21.setTop (mkF m 81 #[.val (.ref a), .val (.long v0), .second, .val (.long v2), .second, .val (.int (0 : Int32)), .val (.int (1 : Int32))] [(.long v1)])) _
    refine XS.lloadN X21.here hx rfl (hb hby d5_81) rfl ?_
    show Steps p.tables e below (T21.setTop (mkF m 82 #[.val (.ref a), .val (.long v0), .second, .val (.long v2), .second, .val (.int (0 : Int32)), .val (.int (1 : Int32))] [(.long v2), (.long v1)])) _
    refine XS.lcmp X21.here hx rfl (hb hby d5_82) rfl ?_
    exact kt)
  by_cases d1 : v1 < v2
  · -- d1
    have pre25 : ∀ tg, Steps p.tables e below (T21.setTop (mkF m 90 #[.val (.ref a), .val (.long v0), .second, .val (.long v2), .second, .val (.int (0 : Int32)), .val (.int (1 : Int32))] [(.ref a)])) tg → G tg := fun tg kt => pre24 tg (by
      show Steps p.tables e below (T21.setTop (mkF m 83 #[.val (.ref a), .val (.long v0), .second, .val (.long v2), .second, .val (.int (0 : Int32)), .val (.int (1 : Int32))] [(.int (lcmpW v1 v2))])) _
      refine XS.ifYes X21.here hx rfl (pc0 := 83) (pc' := 89) rfl (hb hby d5_83) rfl ((if0 _ _).trans (tlt ((lw_lt v1 v2).mpr d1)).1) (by decide) (by decide) ?_
      show Steps p.tables e below (T21.setTop (mkF m 89 #[.val (.ref a), .val (.long v0), .second, .val (.long v2), .second, .val (.int (0 : Int32)), .val (.int (1 : Int32))] [])) _
      refine XS.aloadN X21.here hx rfl (hb hby d5_89) rfl rfl ?_
      exact kt)
    obtain ⟨T26, X26, e26, st26⟩ := getF X21 hx hZ hown (host := "") (Or.inl (hw _ (List.mem_of_getElem? (i := 10) rfl))) Via.refl e21 F_v_8 (g := (mkF m 90 #[.val (.ref a), .val (.long v0), .second, .val (.long v2), .second, .val (.int (0 : Int32)), .val (.int (1 : Int32))] [(.ref a)])) rfl rfl (hb hby d5_90)
    have pre26s : ∀ tg, Steps p.tables e below (T26.setTop (mkF m 93 #[.val (.ref a), .val (.long v0), .second, .val (.long v2), .second, .val (.int (0 : Int32)), .val (.int (1 : Int32))] [(.ref b)])) tg → G tg := fun tg kt => pre25 tg (st26 tg kt)
    have pre27 : ∀ tg, Steps p.tables e below (T26.setTop (mkF m 96 #[.val (.ref a), .val (.long v0), .second, .val (.long v2), .second, .val (.int (0 : Int32)), .val (.int (1 : Int32))] [(.ref a), (.int (0 : Int32)), (.ref b)])) tg → G tg := fun tg kt => pre26s tg (by
      show Steps p.tables e below (T26.setTop (mkF m 93 #[.val (.ref a), .val (.long v0), .second, .val (.long v2), .second, .val (.int (0 : Int32)), .val (.int (1 : Int32))] [(.ref b)])) _
      refine XS.iload X26.here hx rfl (hb hby d5_93) rfl ?_
      show Steps p.tables e below (T26.setTop (mkF m 95 #[.val (.ref a), .val (.long v0), .second, .val (.long v2), .second, .val (.int (0 : Int32)), .val (.int (1 : Int32))] [(.int (0 : Int32)), (.ref b)])) _
      refine XS.aloadN X26.here hx rfl (hb hby d5_95) rfl rfl ?_
      exact kt)
    obtain ⟨T28, X28, e28, st28⟩ := getF X26 hx hZ hown (host := "") (Or.inl (hw _ (List.mem_of_getElem? (i := 10) rfl))) Via.refl e26 F_v_8 (g := (mkF m 96 #[.val (.ref a), .val (.long v0), .second, .val (.long v2), .second, .val (.int (0 : Int32)), .val (.int (1 : Int32))] [(.ref a), (.int (0 : Int32)), (.ref b)])) rfl rfl (hb hby d5_96)
    have pre28s : ∀ tg, Steps p.tables e below (T28.setTop (mkF m 99 #[.val (.ref a), .val (.long v0), .second, .val (.long v2), .second, .val (.int (0 : Int32)), .val (.int (1 : Int32))] [(.ref b), (.int (0 : Int32)), (.ref b)])) tg → G tg := fun tg kt => pre27 tg (st28 tg kt)
    have pre29 : ∀ tg, Steps p.tables e below (T28.setTop (mkF m 101 #[.val (.ref a), .val (.long v0), .second, .val (.long v2), .second, .val (.int (0 : Int32)), .val (.int (1 : Int32))] [(.int (1 : Int32)), (.ref b), (.int (0 : Int32)), (.ref b)])) tg → G tg := fun tg kt => pre28s tg (by
      show Steps p.tables e below (T28.setTop (mkF m 99 #[.val (.ref a), .val (.long v0), .second, .val (.long v2), .second, .val (.int (0 : Int32)), .val (.int (1 : Int32))] [(.ref b), (.int (0 : Int32)), (.ref b)])) _
      refine XS.iload X28.here hx rfl (hb hby d5_99) rfl ?_
      exact kt)
    have op_30 := V_b_10
    obtain ⟨cl_30, Ar_30, q_30, S_30, Ng_30, H_30, G_30⟩ := op_30
    have hin_30 : ¬ ((1 : Int32) < 0 ∨ cl_30.slots.size ≤ ((1 : Int32)).toNatClampNeg) := inb_of S_30 ⟨by decide, by decide⟩
    have pre31 : ∀ tg, Steps p.tables e below (T28.setTop (mkF m 102 #[.val (.ref a), .val (.long v0), .second, .val (.long v2), .second, .val (.int (0 : Int32)), .val (.int (1 : Int32))] [(.long v1), (.int (0 : Int32)), (.ref b)])) tg → G tg := fun tg kt => pre29 tg (by
      show Steps p.tables e below (T28.setTop (mkF m 101 #[.val (.ref a), .val (.long v0), .second, .val (.long v2), .second, .val (.int (0 : Int32)), .val (.int (1 : Int32))] [(.int (1 : Int32)), (.ref b), (.int (0 : Int32)), (.ref b)])) _
      refine X28.laload hx (j := (1 : Int32)) (v := (.long v1)) (by rw [e28]; exact Ar_30.1) (State.isArrayOf_alike hZ.alike Ar_30.2.1) Ar_30.2.2 hin_30 (H_30.at hin_30 rfl) (g := (mkF m 101 #[.val (.ref a), .val (.long v0), .second, .val (.long v2), .second, .val (.int (0 : Int32)), .val (.int (1 : Int32))] [(.int (1 : Int32)), (.ref b), (.int (0 : Int32)), (.ref b)])) rfl rfl (hb hby d5_101) _ ?_
      exact kt)
    have op_32 := V_b_10
    obtain ⟨cl_32, Ar_32, q_32, S_32, Ng_32, H_32, G_32⟩ := op_32
    have hin_32 : ¬ ((0 : Int32) < 0 ∨ cl_32.slots.size ≤ ((0 : Int32)).toNatClampNeg) := inb_of S_32 ⟨by decide, by decide⟩
    obtain ⟨T32, h32, X32, e32, W32, st32⟩ := stJ X28 hx hZ e28 Ar_32 (j := (0 : Int32)) hin_32 (g := (mkF m 102 #[.val (.ref a), .val (.long v0), .second, .val (.long v2), .second, .val (.int (0 : Int32)), .val (.int (1 : Int32))] [(.long v1), (.int (0 : Int32)), (.ref b)])) rfl rfl (hb hby d5_102)
    have pre32s : ∀ tg, Steps p.tables e below (T32.setTop (mkF m 103 #[.val (.ref a), .val (.long v0), .second, .val (.long v2), .second, .val (.int (0 : Int32)), .val (.int (1 : Int32))] [])) tg → G tg := fun tg kt => pre31 tg (st32 tg kt)
    have E_a_33 := E_a_7.wr W32
    have F_v_34 := F_v_8.other W32 (Or.inl ne_a_b)
    have F_s_35 := F_s_9.other W32 (Or.inl ne_a_b)
    have V32_b : Arv Z h32 b kA .long (16 : Int32) [(.long v1), (.long v1), (.long v2), (.long (0 : Int64)), (.long (0 : Int64)), (.long (0 : Int64)), (.long (0 : Int64)), (.long (0 : Int64)), (.long (0 : Int64)), (.long (0 : Int64)), (.long (0 : Int64)), (.long (0 : Int64)), (.long (0 : Int64)), (.long (0 : Int64)), (.long (0 : Int64)), (.long (0 : Int64))] (.long (0 : Int64)) := Arv.set Ar_32 q_32 S_32 Ng_32 H_32 G_32 rfl W32 0 rfl (Nat.le_of_ble_eq_true rfl)
    have N32 := Fr.snoc X32 N6 O_b
    have Z32 : n0 ≤ h32.size := Nat.le_trans Z6 (Keep.of_wr W32).1
    have K32 : Keep h0 h32 [a, b] := K6.wr W32 (Or.inl (List.mem_of_getElem? (i := 1) rfl))
    have pre36 : ∀ tg, Steps p.tables e below (T32.setTop (mkF m 34 #[.val (.ref a), .val (.long v0), .second, .val (.long v2), .second, .val (.int (1 : Int32)), .val (.int (3 : Int32))] [(.ref a), (.int (3 : Int32))])) tg → G tg := fun tg kt => pre32s tg (by
      show Steps p.tables e below (T32.setTop (mkF m 103 #[.val (.ref a), .val (.long v0), .second, .val (.long v2), .second, .val (.int (0 : Int32)), .val (.int (1 : Int32))] [])) _
      refine XS.iload X32.here hx rfl (hb hby d5_103) rfl ?_
      show Steps p.tables e below (T32.setTop (mkF m 105 #[.val (.ref a), .val (.long v0), .second, .val (.long v2), .second, .val (.int (0 : Int32)), .val (.int (1 : Int32))] [(.int (1 : Int32))])) _
      refine XS.istore X32.here hx rfl (hb hby d5_105) rfl (l' := #[.val (.ref a), .val (.long v0), .second, .val (.long v2), .second, .val (.int (1 : Int32)), .val (.int (1 : Int32))]) rfl ?_
      show Steps p.tables e below (T32.setTop (mkF m 107 #[.val (.ref a), .val (.long v0), .second, .val (.long v2), .second, .val (.int (1 : Int32)), .val (.int (1 : Int32))] [])) _
      refine XS.iconst X32.here hx rfl (hb hby d5_107) ?_
      show Steps p.tables e below (T32.setTop (mkF m 108 #[.val (.ref a), .val (.long v0), .second, .val (.long v2), .second, .val (.int (1 : Int32)), .val (.int (1 : Int32))] [(.int (2 : Int32))])) _
      refine XS.iload X32.here hx rfl (hb hby d5_108) rfl ?_
      show Steps p.tables e below (T32.setTop (mkF m 110 #[.val (.ref a), .val (.long v0), .second, .val (.long v2), .second, .val (.int (1 : Int32)), .val (.int (1 : Int32))] [(.int (1 : Int32)), (.int (2 : Int32))])) _
      refine XS.imul X32.here hx rfl (hb hby d5_110) rfl ?_
      show Steps p.tables e below (T32.setTop (mkF m 111 #[.val (.ref a), .val (.long v0), .second, .val (.long v2), .second, .val (.int (1 : Int32)), .val (.int (1 : Int32))] [(.int (2 : Int32))])) _
      refine XS.iconst X32.here hx rfl (hb hby d5_111) ?_
      show Steps p.tables e below (T32.setTop (mkF m 112 #[.val (.ref a), .val (.long v0), .second, .val (.long v2), .second, .val (.int (1 : Int32)), .val (.int (1 : Int32))] [(.int (1 : Int32)), (.int (2 : Int32))])) _
      refine XS.iadd X32.here hx rfl (hb hby d5_112) rfl ?_
      show Steps p.tables e below (T32.setTop (mkF m 113 #[.val (.ref a), .val (.long v0), .second, .val (.long v2), .second, .val (.int (1 : Int32)), .val (.int (1 : Int32))] [(.int (3 : Int32))])) _
      refine XS.istore X32.here hx rfl (hb hby d5_113) rfl (l' := #[.val (.ref a), .val (.long v0), .second, .val (.long v2), .second, .val (.int (1 : Int32)), .val (.int (3 : Int32))]) rfl ?_
      show Steps p.tables e below (T32.setTop (mkF m 115 #[.val (.ref a), .val (.long v0), .second, .val (.long v2), .second, .val (.int (1 : Int32)), .val (.int (3 : Int32))] [])) _
      refine XS.goto X32.here hx rfl (pc0 := 115) (pc' := 31) rfl (hb hby d5_115) (by decide) (by decide) ?_
      show Steps p.tables e below (T32.setTop (mkF m 31 #[.val (.ref a), .val (.long v0), .second, .val (.long v2), .second, .val (.int (1 : Int32)), .val (.int (3 : Int32))] [])) _
      refine XS.iload X32.here hx rfl (hb hby d5_31) rfl ?_
      show Steps p.tables e below (T32.setTop (mkF m 33 #[.val (.ref a), .val (.long v0), .second, .val (.long v2), .second, .val (.int (1 : Int32)), .val (.int (3 : Int32))] [(.int (3 : Int32))])) _
      refine XS.aloadN X32.here hx rfl (hb hby d5_33) rfl rfl ?_
      exact kt)
    obtain ⟨T37, X37, e37, st37⟩ := getF X32 hx hZ hown (host := "") (Or.inl (hw _ (List.mem_of_getElem? (i := 17) rfl))) Via.refl e32 F_s_35 (g := (mkF m 34 #[.val (.ref a), .val (.long v0), .second, .val (.long v2), .second, .val (.int (1 : Int32)), .val (.int (3 : Int32))] [(.ref a), (.int (3 : Int32))])) rfl rfl (hb hby d5_34)
    have pre37s : ∀ tg, Steps p.tables e below (T37.setTop (mkF m 37 #[.val (.ref a), .val (.long v0), .second, .val (.long v2), .second, .val (.int (1 : Int32)), .val (.int (3 : Int32))] [(.int (2 : Int32)), (.int (3 : Int32))])) tg → G tg := fun tg kt => pre36 tg (st37 tg kt)
    have pre38 : ∀ tg, Steps p.tables e below (T37.setTop (mkF m 119 #[.val (.ref a), .val (.long v0), .second, .val (.long v2), .second, .val (.int (1 : Int32)), .val (.int (3 : Int32))] [(.ref a)])) tg → G tg := fun tg kt => pre37s tg (by
      show Steps p.tables e below (T37.setTop (mkF m 37 #[.val (.ref a), .val (.long v0), .second, .val (.long v2), .second, .val (.int (1 : Int32)), .val (.int (3 : Int32))] [(.int (2 : Int32)), (.int (3 : Int32))])) _
      refine XS.icmpYes X37.here hx rfl (pc0 := 37) (pc' := 118) rfl (hb hby d5_37) rfl (flt (by decide : ¬ ((3 : Int32) < (2 : Int32)))).2.1 (by decide) (by decide) ?_
      show Steps p.tables e below (T37.setTop (mkF m 118 #[.val (.ref a), .val (.long v0), .second, .val (.long v2), .second, .val (.int (1 : Int32)), .val (.int (3 : Int32))] [])) _
      refine XS.aloadN X37.here hx rfl (hb hby d5_118) rfl rfl ?_
      exact kt)
    obtain ⟨T39, X39, e39, st39⟩ := getF X37 hx hZ hown (host := "") (Or.inl (hw _ (List.mem_of_getElem? (i := 10) rfl))) Via.refl e37 F_v_34 (g := (mkF m 119 #[.val (.ref a), .val (.long v0), .second, .val (.long v2), .second, .val (.int (1 : Int32)), .val (.int (3 : Int32))] [(.ref a)])) rfl rfl (hb hby d5_119)
    have pre39s : ∀ tg, Steps p.tables e below (T39.setTop (mkF m 122 #[.val (.ref a), .val (.long v0), .second, .val (.long v2), .second, .val (.int (1 : Int32)), .val (.int (3 : Int32))] [(.ref b)])) tg → G tg := fun tg kt => pre38 tg (st39 tg kt)
    have pre40 : ∀ tg, Steps p.tables e below (T39.setTop (mkF m 125 #[.val (.ref a), .val (.long v0), .second, .val (.long v2), .second, .val (.int (1 : Int32)), .val (.int (3 : Int32))] [(.long v2), (.int (1 : Int32)), (.ref b)])) tg → G tg := fun tg kt => pre39s tg (by
      show Steps p.tables e below (T39.setTop (mkF m 122 #[.val (.ref a), .val (.long v0), .second, .val (.long v2), .second, .val (.int (1 : Int32)), .val (.int (3 : Int32))] [(.ref b)])) _
      refine XS.iload X39.here hx rfl (hb hby d5_122) rfl ?_
      show Steps p.tables e below (T39.setTop (mkF m 124 #[.val (.ref a), .val (.long v0), .second, .val (.long v2), .second, .val (.int (1 : Int32)), .val (.int (3 : Int32))] [(.int (1 : Int32)), (.ref b)])) _
      refine XS.lloadN X39.here hx rfl (hb hby d5_124) rfl ?_
      exact kt)
    have op_41 := V32_b
    obtain ⟨cl_41, Ar_41, q_41, S_41, Ng_41, H_41, G_41⟩ := op_41
    have hin_41 : ¬ ((1 : Int32) < 0 ∨ cl_41.slots.size ≤ ((1 : Int32)).toNatClampNeg) := inb_of S_41 ⟨by decide, by decide⟩
    obtain ⟨T41, h41, X41, e41, W41, st41⟩ := stJ X39 hx hZ e39 Ar_41 (j := (1 : Int32)) hin_41 (g := (mkF m 125 #[.val (.ref a), .val (.long v0), .second, .val (.long v2), .second, .val (.int (1 : Int32)), .val (.int (3 : Int32))] [(.long v2), (.int (1 : Int32)), (.ref b)])) rfl rfl (hb hby d5_125)
    have pre41s : ∀ tg, Steps p.tables e below (T41.setTop (mkF m 126 #[.val (.ref a), .val (.long v0), .second, .val (.long v2), .second, .val (.int (1 : Int32)), .val (.int (3 : Int32))] [])) tg → G tg := fun tg kt => pre40 tg (st41 tg kt)
    have E_a_42 := E_a_33.wr W41
    have F_v_43 := F_v_34.other W41 (Or.inl ne_a_b)
    have F_s_44 := F_s_35.other W41 (Or.inl ne_a_b)
    have V41_b : Arv Z h41 b kA .long (16 : Int32) [(.long v1), (.long v2), (.long v2), (.long (0 : Int64)), (.long (0 : Int64)), (.long (0 : Int64)), (.long (0 : Int64)), (.long (0 : Int64)), (.long (0 : Int64)), (.long (0 : Int64)), (.long (0 : Int64)), (.long (0 : Int64)), (.long (0 : Int64)), (.long (0 : Int64)), (.long (0 : Int64)), (.long (0 : Int64))] (.long (0 : Int64)) := Arv.set Ar_41 q_41 S_41 Ng_41 H_41 G_41 rfl W41 1 rfl (Nat.le_of_ble_eq_true rfl)
    have N41 := Fr.snoc X41 N32 O_b
    have Z41 : n0 ≤ h41.size := Nat.le_trans Z32 (Keep.of_wr W41).1
    have K41 : Keep h0 h41 [a, b] := K32.wr W41 (Or.inl (List.mem_of_getElem? (i := 1) rfl))
    obtain ⟨fs, hr, hrun, hended, hW, hsame⟩ := X41.leave (v := some (.long v0)) (fun h => by rw [Bd.returns] at h; cases h)
    subst hG
    refine ⟨_, _, pre41s _ ?_, hrun, hended, _, _, rfl, ?_, ⟨_, rfl⟩, hW, hsame.mono (by decide) (by decide)⟩
    · skip
      show Steps p.tables e below (T41.setTop (mkF m 126 #[.val (.ref a), .val (.long v0), .second, .val (.long v2), .second, .val (.int (1 : Int32)), .val (.int (3 : Int32))] [])) _
      refine XS.lloadN X41.here hx rfl (hb hby d5_126) rfl ?_
      show Steps p.tables e below (T41.setTop (mkF m 127 #[.val (.ref a), .val (.long v0), .second, .val (.long v2), .second, .val (.int (1 : Int32)), .val (.int (3 : Int32))] [(.long v0)])) _
      exact X41.lreturnOut hx Bd.returns (hb hby d5_127) hr
    · show Q_rm5_3 Z a b kA v0 v1 v2 h0 n0 _ T41.heap _
      rw [e41]
      exact ⟨_, rfl, N41, K41, _, _, _, F_v_43, F_s_44, V41_b⟩
  · -- not d1
    have pre45 : ∀ tg, Steps p.tables e below (T21.setTop (mkF m 119 #[.val (.ref a), .val (.long v0), .second, .val (.long v2), .second, .val (.int (0 : Int32)), .val (.int (1 : Int32))] [(.ref a)])) tg → G tg := fun tg kt => pre24 tg (by
      show Steps p.tables e below (T21.setTop (mkF m 83 #[.val (.ref a), .val (.long v0), .second, .val (.long v2), .second, .val (.int (0 : Int32)), .val (.int (1 : Int32))] [(.int (lcmpW v1 v2))])) _
      refine XS.ifNo X21.here hx rfl (hb hby d5_83) rfl ((if0 _ _).trans (flt (mt (lw_lt v1 v2).mp d1)).1) ?_
      show Steps p.tables e below (T21.setTop (mkF m 86 #[.val (.ref a), .val (.long v0), .second, .val (.long v2), .second, .val (.int (0 : Int32)), .val (.int (1 : Int32))] [])) _
      refine XS.goto X21.here hx rfl (pc0 := 86) (pc' := 118) rfl (hb hby d5_86) (by decide) (by decide) ?_
      show Steps p.tables e below (T21.setTop (mkF m 118 #[.val (.ref a), .val (.long v0), .second, .val (.long v2), .second, .val (.int (0 : Int32)), .val (.int (1 : Int32))] [])) _
      refine XS.aloadN X21.here hx rfl (hb hby d5_118) rfl rfl ?_
      exact kt)
    obtain ⟨T46, X46, e46, st46⟩ := getF X21 hx hZ hown (host := "") (Or.inl (hw _ (List.mem_of_getElem? (i := 10) rfl))) Via.refl e21 F_v_8 (g := (mkF m 119 #[.val (.ref a), .val (.long v0), .second, .val (.long v2), .second, .val (.int (0 : Int32)), .val (.int (1 : Int32))] [(.ref a)])) rfl rfl (hb hby d5_119)
    have pre46s : ∀ tg, Steps p.tables e below (T46.setTop (mkF m 122 #[.val (.ref a), .val (.long v0), .second, .val (.long v2), .second, .val (.int (0 : Int32)), .val (.int (1 : Int32))] [(.ref b)])) tg → G tg := fun tg kt => pre45 tg (st46 tg kt)
    have pre47 : ∀ tg, Steps p.tables e below (T46.setTop (mkF m 125 #[.val (.ref a), .val (.long v0), .second, .val (.long v2), .second, .val (.int (0 : Int32)), .val (.int (1 : Int32))] [(.long v2), (.int (0 : Int32)), (.ref b)])) tg → G tg := fun tg kt => pre46s tg (by
      show Steps p.tables e below (T46.setTop (mkF m 122 #[.val (.ref a), .val (.long v0), .second, .val (.long v2), .second, .val (.int (0 : Int32)), .val (.int (1 : Int32))] [(.ref b)])) _
      refine XS.iload X46.here hx rfl (hb hby d5_122) rfl ?_
      show Steps p.tables e below (T46.setTop (mkF m 124 #[.val (.ref a), .val (.long v0), .second, .val (.long v2), .second, .val (.int (0 : Int32)), .val (.int (1 : Int32))] [(.int (0 : Int32)), (.ref b)])) _
      refine XS.lloadN X46.here hx rfl (hb hby d5_124) rfl ?_
      exact kt)
    have op_48 := V_b_10
    obtain ⟨cl_48, Ar_48, q_48, S_48, Ng_48, H_48, G_48⟩ := op_48
    have hin_48 : ¬ ((0 : Int32) < 0 ∨ cl_48.slots.size ≤ ((0 : Int32)).toNatClampNeg) := inb_of S_48 ⟨by decide, by decide⟩
    obtain ⟨T48, h48, X48, e48, W48, st48⟩ := stJ X46 hx hZ e46 Ar_48 (j := (0 : Int32)) hin_48 (g := (mkF m 125 #[.val (.ref a), .val (.long v0), .second, .val (.long v2), .second, .val (.int (0 : Int32)), .val (.int (1 : Int32))] [(.long v2), (.int (0 : Int32)), (.ref b)])) rfl rfl (hb hby d5_125)
    have pre48s : ∀ tg, Steps p.tables e below (T48.setTop (mkF m 126 #[.val (.ref a), .val (.long v0), .second, .val (.long v2), .second, .val (.int (0 : Int32)), .val (.int (1 : Int32))] [])) tg → G tg := fun tg kt => pre47 tg (st48 tg kt)
    have E_a_49 := E_a_7.wr W48
    have F_v_50 := F_v_8.other W48 (Or.inl ne_a_b)
    have F_s_51 := F_s_9.other W48 (Or.inl ne_a_b)
    have V48_b : Arv Z h48 b kA .long (16 : Int32) [(.long v2), (.long v1), (.long v2), (.long (0 : Int64)), (.long (0 : Int64)), (.long (0 : Int64)), (.long (0 : Int64)), (.long (0 : Int64)), (.long (0 : Int64)), (.long (0 : Int64)), (.long (0 : Int64)), (.long (0 : Int64)), (.long (0 : Int64)), (.long (0 : Int64)), (.long (0 : Int64)), (.long (0 : Int64))] (.long (0 : Int64)) := Arv.set Ar_48 q_48 S_48 Ng_48 H_48 G_48 rfl W48 0 rfl (Nat.le_of_ble_eq_true rfl)
    have N48 := Fr.snoc X48 N6 O_b
    have Z48 : n0 ≤ h48.size := Nat.le_trans Z6 (Keep.of_wr W48).1
    have K48 : Keep h0 h48 [a, b] := K6.wr W48 (Or.inl (List.mem_of_getElem? (i := 1) rfl))
    obtain ⟨fs, hr, hrun, hended, hW, hsame⟩ := X48.leave (v := some (.long v0)) (fun h => by rw [Bd.returns] at h; cases h)
    subst hG
    refine ⟨_, _, pre48s _ ?_, hrun, hended, _, _, rfl, ?_, ⟨_, rfl⟩, hW, hsame.mono (by decide) (by decide)⟩
    · skip
      show Steps p.tables e below (T48.setTop (mkF m 126 #[.val (.ref a), .val (.long v0), .second, .val (.long v2), .second, .val (.int (0 : Int32)), .val (.int (1 : Int32))] [])) _
      refine XS.lloadN X48.here hx rfl (hb hby d5_126) rfl ?_
      show Steps p.tables e below (T48.setTop (mkF m 127 #[.val (.ref a), .val (.long v0), .second, .val (.long v2), .second, .val (.int (0 : Int32)), .val (.int (1 : Int32))] [(.long v0)])) _
      exact X48.lreturnOut hx Bd.returns (hb hby d5_127) hr
    · show Q_rm5_3 Z a b kA v0 v1 v2 h0 n0 _ T48.heap _
      rw [e48]
      exact ⟨_, rfl, N48, K48, _, _, _, F_v_50, F_s_51, V48_b⟩
theorem pn_0 : plainName "com/example/find_leader/findleader/engine/LongHeapIsEmptyPinLaw" = true := by first | (simp [plainName, overriddenIn]; done) | decide +kernel
theorem ef_0_I_I_J_J_J (m : MethodId) (x0 : Int32) (x1 : Int32) (x2 : Int64) (x3 : Int64) (x4 : Int64) : entryFrame m #[(.int x0), (.int x1), (.long x2), (.long x3), (.long x4)] maxLocals = mkF m 0 #[.val (.int x0), .val (.int x1), .val (.long x2), .second, .val (.long x3), .second, .val (.long x4), .second, .unset, .unset, .unset, .unset] [] := by first | (simp [entryFrame, mkF, argsToLocals, Value.category, maxLocals]; done) | rfl
theorem pd_1 : parseMethodDescriptor "()V" = some ⟨[], none⟩ := by decide +kernel
theorem pd_2 : parseMethodDescriptor "()Z" = some ⟨[], some .boolean⟩ := by decide +kernel
theorem pd_3 : parseMethodDescriptor "(J)V" = some ⟨[.long], none⟩ := by decide +kernel
def Q_rm0 (Z : State) (p0 p1 : Int32) (p2 p3 p4 : Int64) (h0 : Heap) (n0 : Nat) (v : Option Value) (h : Heap) (L : List Loc) : Prop := v = some (.int 1) ∧ Fr n0 L
set_option maxRecDepth 65536 in
set_option maxHeartbeats 40000000 in
theorem rm0 (l : Launch) (Z : State) (a0 : Array Value) (hw : ∀ d ∈ tables_1, d.before a0 Z = true) (ws : List Jvm.Cond) (p0 p1 : Int32) (p2 p3 p4 : Int64) (h0 : Heap) (n0 : Nat) (Z0 : n0 ≤ h0.size)  :
    MetFree l x (head1 (Jvm.Cond.code x code maxLocals ret :: ws) room_1) (fun argv U => argv = #[(.int p0), (.int p1), (.long p2), (.long p3), (.long p4)] ∧ Z.Warmed39 U.vm ∧ U.heap = h0) (fun _ _ _ _ _ => True) (fun _ U o U' => ∃ v L, o = .returned v ∧ Q_rm0 Z p0 p1 p2 p3 p4 h0 n0 v U'.heap L ∧ FrameEnd U o U' L 16 128) := by
  refine MetFree.of_bodySF (plainFor_of_name pn_0) hisR ?_
  intro p e s m args below meth c s₁ Bd hml0 hP hK
  obtain ⟨rfl, hZ, hh⟩ := hP
  have hx := Bd.exec
  have hby := Bd.bytes
  have hml : c.maxLocals = 12 := hml0
  have hown : s.vm.findClass "com/example/find_leader/findleader/engine/LongHeapIsEmptyPinLaw" = some m.cls := findClass_of_methodNamed Bd.named
  have hnm := (name_of_methodNamed Bd.named Bd.method).1
  have X0 : Stand p l e room_1 s m #[(.int p0), (.int p1), (.long p2), (.long p3), (.long p4)] below meth c s₁ [] 0 0 := Stand.of_body Bd
  have e0 : s₁.heap = h0 := by rw [← hh, Bd.state]; rfl
  have N0 := Fr.nil n0
  obtain ⟨G, hG⟩ : ∃ G : State → Prop, G = fun tg => Steps p.tables e below (s₁.setTop (entryFrame m #[(.int p0), (.int p1), (.long p2), (.long p3), (.long p4)] maxLocals)) tg := ⟨_, rfl⟩
  have pre0 : ∀ tg, Steps p.tables e below (s₁.setTop (mkF m 0 #[.val (.int p0), .val (.int p1), .val (.long p2), .second, .val (.long p3), .second, .val (.long p4), .second, .unset, .unset, .unset, .unset] [])) tg → G tg := fun tg kt => by rw [hG]; exact castTop (ef_0_I_I_J_J_J m p0 p1 p2 p3 p4) kt
  obtain ⟨T1, h1, X1, e1, E1, A1, D1, -, st1⟩ := newO X0 hx hZ hown (hw _ (List.mem_of_getElem? (i := 0) rfl)) (hw _ (List.mem_of_getElem? (i := 1) rfl)) (hw _ (List.mem_of_getElem? (i := 2) rfl)) e0 (g := (mkF m 0 #[.val (.int p0), .val (.int p1), .val (.long p2), .second, .val (.long p3), .second, .val (.long p4), .second, .unset, .unset, .unset, .unset] [])) rfl (hb hby at_0) (by decide) (by decide)
  obtain ⟨a, g1⟩ : ∃ z, z = h0.size := ⟨_, rfl⟩
  rw [← g1] at A1 D1 st1
  have O_a : n0 ≤ a := Nat.le_trans Z0 (Nat.le_of_eq g1.symm)
  have Z1 : n0 ≤ h1.size := Nat.le_trans Z0 E1.1
  have pre1s : ∀ tg, Steps p.tables e below (T1.setTop (mkF m 3 #[.val (.int p0), .val (.int p1), .val (.long p2), .second, .val (.long p3), .second, .val (.long p4), .second, .unset, .unset, .unset, .unset] [(.ref a)])) tg → G tg := fun tg kt => pre0 tg (st1 tg kt)
  have Fvalues_a : Fld Z h1 a "com/example/find_leader/findleader/engine/LongHeap" "values" "[J" .null := D1 (Or.inl (hw _ (List.mem_of_getElem? (i := 11) rfl))) (ty := (.array .long)) (by decide)
  have Fsize_a : Fld Z h1 a "com/example/find_leader/findleader/engine/LongHeap" "size" "I" (.int (0 : Int32)) := D1 (Or.inl (hw _ (List.mem_of_getElem? (i := 18) rfl))) (ty := .int) (by decide)
  have pre2 : ∀ tg, Steps p.tables e below (T1.setTop (mkF m 4 #[.val (.int p0), .val (.int p1), .val (.long p2), .second, .val (.long p3), .second, .val (.long p4), .second, .unset, .unset, .unset, .unset] [(.ref a), (.ref a)])) tg → G tg := fun tg kt => pre1s tg (by
    show Steps p.tables e below (T1.setTop (mkF m 3 #[.val (.int p0), .val (.int p1), .val (.long p2), .second, .val (.long p3), .second, .val (.long p4), .second, .unset, .unset, .unset, .unset] [(.ref a)])) _
    refine XS.dup X1.here hx rfl (hb hby at_3) rfl rfl ?_
    exact kt)
  obtain ⟨_, _, ⟨T3, L3, k3, n3⟩, -, X3, ⟨Lc3, hQ3, l3, y3, z3⟩, st3⟩ := X1.specialBack hx (y := (⟨"com/example/find_leader/findleader/engine/LongHeap", "<init>", "()V"⟩ : MethodName)) rfl hown (mvT hZ (hw _ (List.mem_of_getElem? (i := 3) rfl))) (mvT hZ (hw _ (List.mem_of_getElem? (i := 4) rfl))) (mvT hZ (hw _ (List.mem_of_getElem? (i := 5) rfl))) (by decide) (backOf (W := 1) (rm1 l Z a0 hw [] a h1 n0 Z1 A1 Fvalues_a Fsize_a O_a) hZ (hw _ (List.mem_of_getElem? (i := 5) rfl)) (hw _ (List.mem_of_getElem? (i := 2) rfl)) (by decide) (by decide)) (g := (mkF m 4 #[.val (.int p0), .val (.int p1), .val (.long p2), .second, .val (.long p3), .second, .val (.long p4), .second, .unset, .unset, .unset, .unset] [(.ref a), (.ref a)])) rfl (by rw [hml]; rfl) (Steps.refl _) (a := a) (argsL := []) (rest := [(.ref a)]) (lenOf pd_1 rfl) rfl (by show 2 * 0 + _ ≤ _; exact Nat.le_of_eq rfl) (hb hby at_4) (fun _ _ => ⟨rfl, e1, (Nat.le_of_ble_eq_true rfl), (Nat.le_of_ble_eq_true rfl)⟩)
  dsimp only [Pt.U, Pt.locs, Pt.cells, Pt.slots] at X3 l3 y3 z3 st3 hQ3
  subst l3 y3 z3
  obtain ⟨rfl, N3q, K3, b, kA, O_b, ne_a_b, Fv3, Fs3, Vb3⟩ := hQ3
  have N3 := Fr.app N0 N3q
  have pre3s : ∀ tg, Steps p.tables e below (T3.setTop (mkF m 7 #[.val (.int p0), .val (.int p1), .val (.long p2), .second, .val (.long p3), .second, .val (.long p4), .second, .unset, .unset, .unset, .unset] [(.ref a)])) tg → G tg := fun tg kt => pre2 tg (st3.trans kt)
  have Z3 : n0 ≤ T3.heap.size := Nat.le_trans Z1 K3.1
  have A1_4 := A1.keep K3
  have pre5 : ∀ tg, Steps p.tables e below (T3.setTop (mkF m 11 #[.val (.int p0), .val (.int p1), .val (.long p2), .second, .val (.long p3), .second, .val (.long p4), .second, .val (.ref a), .unset, .unset, .unset] [(.ref a)])) tg → G tg := fun tg kt => pre3s tg (by
    show Steps p.tables e below (T3.setTop (mkF m 7 #[.val (.int p0), .val (.int p1), .val (.long p2), .second, .val (.long p3), .second, .val (.long p4), .second, .unset, .unset, .unset, .unset] [(.ref a)])) _
    refine XS.astore X3.here hx rfl (hb hby at_7) rfl rfl (l' := #[.val (.int p0), .val (.int p1), .val (.long p2), .second, .val (.long p3), .second, .val (.long p4), .second, .val (.ref a), .unset, .unset, .unset]) rfl ?_
    show Steps p.tables e below (T3.setTop (mkF m 9 #[.val (.int p0), .val (.int p1), .val (.long p2), .second, .val (.long p3), .second, .val (.long p4), .second, .val (.ref a), .unset, .unset, .unset] [])) _
    refine XS.aload X3.here hx rfl (hb hby at_9) rfl rfl ?_
    exact kt)
  obtain ⟨cq6, kq6, q6a, q6b, q6c⟩ := isOf hZ rfl A1_4
  obtain ⟨_, _, ⟨T6, L6, k6, n6⟩, -, X6, ⟨Lc6, hQ6, l6, y6, z6⟩, st6⟩ := X3.virtualBack hx (y := (⟨"com/example/find_leader/findleader/engine/LongHeap", "isEmpty", "()Z"⟩ : MethodName)) (z := (⟨"com/example/find_leader/findleader/engine/LongHeap", "isEmpty", "()Z"⟩ : MethodName)) hown (mvT hZ (hw _ (List.mem_of_getElem? (i := 12) rfl))) (mvT hZ (hw _ (List.mem_of_getElem? (i := 13) rfl))) (notFace_of_selects (args := #[]) (mvT hZ (hw _ (List.mem_of_getElem? (i := 15) rfl)))) (mvT hZ (hw _ (List.mem_of_getElem? (i := 15) rfl))) (mvT hZ (hw _ (List.mem_of_getElem? (i := 14) rfl))) (by decide) (backOf (W := 0) (rm3 l Z a0 hw [] a (0 : Int32) T3.heap n0 Z3 Fs3) hZ (hw _ (List.mem_of_getElem? (i := 16) rfl)) (hw _ (List.mem_of_getElem? (i := 2) rfl)) (by decide) (by decide)) q6a q6c (g := (mkF m 11 #[.val (.int p0), .val (.int p1), .val (.long p2), .second, .val (.long p3), .second, .val (.long p4), .second, .val (.ref a), .unset, .unset, .unset] [(.ref a)])) rfl (by rw [hml]; rfl) (Steps.refl _) (argsL := []) (rest := []) (lenOf pd_2 rfl) rfl (by show 2 * 0 + _ ≤ _; exact Nat.le_of_eq rfl) (hb hby at_11) (fun _ _ => ⟨rfl, rfl, (Nat.le_of_ble_eq_true rfl), (Nat.le_of_ble_eq_true rfl)⟩)
  dsimp only [Pt.U, Pt.locs, Pt.cells, Pt.slots] at X6 l6 y6 z6 st6 hQ6
  subst l6 y6 z6
  obtain ⟨hv6, N6q, e6⟩ := hQ6
  rw [if_pos rfl] at hv6
  subst hv6
  have N6 := Fr.app N3 N6q
  have pre6s : ∀ tg, Steps p.tables e below (T6.setTop (mkF m 14 #[.val (.int p0), .val (.int p1), .val (.long p2), .second, .val (.long p3), .second, .val (.long p4), .second, .val (.ref a), .unset, .unset, .unset] [(.int (1 : Int32))])) tg → G tg := fun tg kt => pre5 tg (st6.trans kt)
  have pre7 : ∀ tg, Steps p.tables e below (T6.setTop (mkF m 24 #[.val (.int p0), .val (.int p1), .val (.long p2), .second, .val (.long p3), .second, .val (.long p4), .second, .val (.ref a), .val (.int (1 : Int32)), .val (.int (p0 &&& (3 : Int32))), .unset] [(.int (1 : Int32)), (.int (p0 &&& (3 : Int32)))])) tg → G tg := fun tg kt => pre6s tg (by
    show Steps p.tables e below (T6.setTop (mkF m 14 #[.val (.int p0), .val (.int p1), .val (.long p2), .second, .val (.long p3), .second, .val (.long p4), .second, .val (.ref a), .unset, .unset, .unset] [(.int (1 : Int32))])) _
    refine XS.istore X6.here hx rfl (hb hby at_14) rfl (l' := #[.val (.int p0), .val (.int p1), .val (.long p2), .second, .val (.long p3), .second, .val (.long p4), .second, .val (.ref a), .val (.int (1 : Int32)), .unset, .unset]) rfl ?_
    show Steps p.tables e below (T6.setTop (mkF m 16 #[.val (.int p0), .val (.int p1), .val (.long p2), .second, .val (.long p3), .second, .val (.long p4), .second, .val (.ref a), .val (.int (1 : Int32)), .unset, .unset] [])) _
    refine XS.iloadN X6.here hx rfl (hb hby at_16) rfl ?_
    show Steps p.tables e below (T6.setTop (mkF m 17 #[.val (.int p0), .val (.int p1), .val (.long p2), .second, .val (.long p3), .second, .val (.long p4), .second, .val (.ref a), .val (.int (1 : Int32)), .unset, .unset] [(.int p0)])) _
    refine XS.iconst X6.here hx rfl (hb hby at_17) ?_
    show Steps p.tables e below (T6.setTop (mkF m 18 #[.val (.int p0), .val (.int p1), .val (.long p2), .second, .val (.long p3), .second, .val (.long p4), .second, .val (.ref a), .val (.int (1 : Int32)), .unset, .unset] [(.int (3 : Int32)), (.int p0)])) _
    refine XS.iand X6.here hx rfl (hb hby at_18) rfl ?_
    show Steps p.tables e below (T6.setTop (mkF m 19 #[.val (.int p0), .val (.int p1), .val (.long p2), .second, .val (.long p3), .second, .val (.long p4), .second, .val (.ref a), .val (.int (1 : Int32)), .unset, .unset] [(.int (p0 &&& (3 : Int32)))])) _
    refine XS.istore X6.here hx rfl (hb hby at_19) rfl (l' := #[.val (.int p0), .val (.int p1), .val (.long p2), .second, .val (.long p3), .second, .val (.long p4), .second, .val (.ref a), .val (.int (1 : Int32)), .val (.int (p0 &&& (3 : Int32))), .unset]) rfl ?_
    show Steps p.tables e below (T6.setTop (mkF m 21 #[.val (.int p0), .val (.int p1), .val (.long p2), .second, .val (.long p3), .second, .val (.long p4), .second, .val (.ref a), .val (.int (1 : Int32)), .val (.int (p0 &&& (3 : Int32))), .unset] [])) _
    refine XS.iload X6.here hx rfl (hb hby at_21) rfl ?_
    show Steps p.tables e below (T6.setTop (mkF m 23 #[.val (.int p0), .val (.int p1), .val (.long p2), .second, .val (.long p3), .second, .val (.long p4), .second, .val (.ref a), .val (.int (1 : Int32)), .val (.int (p0 &&& (3 : Int32))), .unset] [(.int (p0 &&& (3 : Int32)))])) _
    refine XS.iconst X6.here hx rfl (hb hby at_23) ?_
    exact kt)
  rcases own_four p0 with hn | hn | hn | hn
  · skip
    have pre8 : ∀ tg, Steps p.tables e below (T6.setTop (mkF m 24 #[.val (.int p0), .val (.int p1), .val (.long p2), .second, .val (.long p3), .second, .val (.long p4), .second, .val (.ref a), .val (.int (1 : Int32)), .val (.int (0 : Int32)), .unset] [(.int (1 : Int32)), (.int (0 : Int32))])) tg → G tg := fun tg kt => pre7 tg (by rw [hn]; exact kt)
    have pre9 : ∀ tg, Steps p.tables e below (T6.setTop (mkF m 66 #[.val (.int p0), .val (.int p1), .val (.long p2), .second, .val (.long p3), .second, .val (.long p4), .second, .val (.ref a), .val (.int (1 : Int32)), .val (.int (0 : Int32)), .unset] [(.ref a)])) tg → G tg := fun tg kt => pre8 tg (by
      show Steps p.tables e below (T6.setTop (mkF m 24 #[.val (.int p0), .val (.int p1), .val (.long p2), .second, .val (.long p3), .second, .val (.long p4), .second, .val (.ref a), .val (.int (1 : Int32)), .val (.int (0 : Int32)), .unset] [(.int (1 : Int32)), (.int (0 : Int32))])) _
      refine XS.icmpYes X6.here hx rfl (pc0 := 24) (pc' := 33) rfl (hb hby at_24) rfl (tlt (by decide : (0 : Int32) < (1 : Int32))).1 (by decide) (by decide) ?_
      show Steps p.tables e below (T6.setTop (mkF m 33 #[.val (.int p0), .val (.int p1), .val (.long p2), .second, .val (.long p3), .second, .val (.long p4), .second, .val (.ref a), .val (.int (1 : Int32)), .val (.int (0 : Int32)), .unset] [])) _
      refine XS.iload X6.here hx rfl (hb hby at_33) rfl ?_
      show Steps p.tables e below (T6.setTop (mkF m 35 #[.val (.int p0), .val (.int p1), .val (.long p2), .second, .val (.long p3), .second, .val (.long p4), .second, .val (.ref a), .val (.int (1 : Int32)), .val (.int (0 : Int32)), .unset] [(.int (0 : Int32))])) _
      refine XS.iconst X6.here hx rfl (hb hby at_35) ?_
      show Steps p.tables e below (T6.setTop (mkF m 36 #[.val (.int p0), .val (.int p1), .val (.long p2), .second, .val (.long p3), .second, .val (.long p4), .second, .val (.ref a), .val (.int (1 : Int32)), .val (.int (0 : Int32)), .unset] [(.int (2 : Int32)), (.int (0 : Int32))])) _
      refine XS.icmpYes X6.here hx rfl (pc0 := 36) (pc' := 46) rfl (hb hby at_36) rfl (tlt (by decide : (0 : Int32) < (2 : Int32))).1 (by decide) (by decide) ?_
      show Steps p.tables e below (T6.setTop (mkF m 46 #[.val (.int p0), .val (.int p1), .val (.long p2), .second, .val (.long p3), .second, .val (.long p4), .second, .val (.ref a), .val (.int (1 : Int32)), .val (.int (0 : Int32)), .unset] [])) _
      refine XS.iload X6.here hx rfl (hb hby at_46) rfl ?_
      show Steps p.tables e below (T6.setTop (mkF m 48 #[.val (.int p0), .val (.int p1), .val (.long p2), .second, .val (.long p3), .second, .val (.long p4), .second, .val (.ref a), .val (.int (1 : Int32)), .val (.int (0 : Int32)), .unset] [(.int (0 : Int32))])) _
      refine XS.iconst X6.here hx rfl (hb hby at_48) ?_
      show Steps p.tables e below (T6.setTop (mkF m 49 #[.val (.int p0), .val (.int p1), .val (.long p2), .second, .val (.long p3), .second, .val (.long p4), .second, .val (.ref a), .val (.int (1 : Int32)), .val (.int (0 : Int32)), .unset] [(.int (3 : Int32)), (.int (0 : Int32))])) _
      refine XS.icmpYes X6.here hx rfl (pc0 := 49) (pc' := 59) rfl (hb hby at_49) rfl (tlt (by decide : (0 : Int32) < (3 : Int32))).1 (by decide) (by decide) ?_
      show Steps p.tables e below (T6.setTop (mkF m 59 #[.val (.int p0), .val (.int p1), .val (.long p2), .second, .val (.long p3), .second, .val (.long p4), .second, .val (.ref a), .val (.int (1 : Int32)), .val (.int (0 : Int32)), .unset] [])) _
      refine XS.iload X6.here hx rfl (hb hby at_59) rfl ?_
      show Steps p.tables e below (T6.setTop (mkF m 61 #[.val (.int p0), .val (.int p1), .val (.long p2), .second, .val (.long p3), .second, .val (.long p4), .second, .val (.ref a), .val (.int (1 : Int32)), .val (.int (0 : Int32)), .unset] [(.int (1 : Int32))])) _
      refine XS.ifNo X6.here hx rfl (hb hby at_61) rfl ((if0 _ _).trans (feq (by decide : ¬ ((1 : Int32) = (0 : Int32)))).1) ?_
      show Steps p.tables e below (T6.setTop (mkF m 64 #[.val (.int p0), .val (.int p1), .val (.long p2), .second, .val (.long p3), .second, .val (.long p4), .second, .val (.ref a), .val (.int (1 : Int32)), .val (.int (0 : Int32)), .unset] [])) _
      refine XS.aload X6.here hx rfl (hb hby at_64) rfl rfl ?_
      exact kt)
    obtain ⟨cq10, kq10, q10a, q10b, q10c⟩ := isOf hZ e6 A1_4
    obtain ⟨_, _, ⟨T10, L10, k10, n10⟩, -, X10, ⟨Lc10, hQ10, l10, y10, z10⟩, st10⟩ := X6.virtualBack hx (y := (⟨"com/example/find_leader/findleader/engine/LongHeap", "isEmpty", "()Z"⟩ : MethodName)) (z := (⟨"com/example/find_leader/findleader/engine/LongHeap", "isEmpty", "()Z"⟩ : MethodName)) hown (mvT hZ (hw _ (List.mem_of_getElem? (i := 12) rfl))) (mvT hZ (hw _ (List.mem_of_getElem? (i := 13) rfl))) (notFace_of_selects (args := #[]) (mvT hZ (hw _ (List.mem_of_getElem? (i := 15) rfl)))) (mvT hZ (hw _ (List.mem_of_getElem? (i := 15) rfl))) (mvT hZ (hw _ (List.mem_of_getElem? (i := 14) rfl))) (by decide) (backOf (W := 0) (rm3 l Z a0 hw [] a (0 : Int32) T3.heap n0 Z3 Fs3) hZ (hw _ (List.mem_of_getElem? (i := 16) rfl)) (hw _ (List.mem_of_getElem? (i := 2) rfl)) (by decide) (by decide)) q10a q10c (g := (mkF m 66 #[.val (.int p0), .val (.int p1), .val (.long p2), .second, .val (.long p3), .second, .val (.long p4), .second, .val (.ref a), .val (.int (1 : Int32)), .val (.int (0 : Int32)), .unset] [(.ref a)])) rfl (by rw [hml]; rfl) (Steps.refl _) (argsL := []) (rest := []) (lenOf pd_2 rfl) rfl (by show 2 * 0 + _ ≤ _; exact Nat.le_of_eq rfl) (hb hby at_66) (fun _ _ => ⟨rfl, e6, (Nat.le_of_ble_eq_true rfl), (Nat.le_of_ble_eq_true rfl)⟩)
    dsimp only [Pt.U, Pt.locs, Pt.cells, Pt.slots] at X10 l10 y10 z10 st10 hQ10
    subst l10 y10 z10
    obtain ⟨hv10, N10q, e10⟩ := hQ10
    rw [if_pos rfl] at hv10
    subst hv10
    have N10 := Fr.app N6 N10q
    have pre10s : ∀ tg, Steps p.tables e below (T10.setTop (mkF m 69 #[.val (.int p0), .val (.int p1), .val (.long p2), .second, .val (.long p3), .second, .val (.long p4), .second, .val (.ref a), .val (.int (1 : Int32)), .val (.int (0 : Int32)), .unset] [(.int (1 : Int32))])) tg → G tg := fun tg kt => pre9 tg (st10.trans kt)
    have pre11 : ∀ tg, Steps p.tables e below (T10.setTop (mkF m 94 #[.val (.int p0), .val (.int p1), .val (.long p2), .second, .val (.long p3), .second, .val (.long p4), .second, .val (.ref a), .val (.int (1 : Int32)), .val (.int (0 : Int32)), .val (.int (p1 &&& (3 : Int32)))] [])) tg → G tg := fun tg kt => pre10s tg (by
      show Steps p.tables e below (T10.setTop (mkF m 69 #[.val (.int p0), .val (.int p1), .val (.long p2), .second, .val (.long p3), .second, .val (.long p4), .second, .val (.ref a), .val (.int (1 : Int32)), .val (.int (0 : Int32)), .unset] [(.int (1 : Int32))])) _
      refine XS.iload X10.here hx rfl (hb hby at_69) rfl ?_
      show Steps p.tables e below (T10.setTop (mkF m 71 #[.val (.int p0), .val (.int p1), .val (.long p2), .second, .val (.long p3), .second, .val (.long p4), .second, .val (.ref a), .val (.int (1 : Int32)), .val (.int (0 : Int32)), .unset] [(.int (0 : Int32)), (.int (1 : Int32))])) _
      refine XS.ifNo X10.here hx rfl (hb hby at_71) rfl ((if0 _ _).trans (teq (by decide : (0 : Int32) = (0 : Int32))).2) ?_
      show Steps p.tables e below (T10.setTop (mkF m 74 #[.val (.int p0), .val (.int p1), .val (.long p2), .second, .val (.long p3), .second, .val (.long p4), .second, .val (.ref a), .val (.int (1 : Int32)), .val (.int (0 : Int32)), .unset] [(.int (1 : Int32))])) _
      refine XS.iconst X10.here hx rfl (hb hby at_74) ?_
      show Steps p.tables e below (T10.setTop (mkF m 75 #[.val (.int p0), .val (.int p1), .val (.long p2), .second, .val (.long p3), .second, .val (.long p4), .second, .val (.ref a), .val (.int (1 : Int32)), .val (.int (0 : Int32)), .unset] [(.int (1 : Int32)), (.int (1 : Int32))])) _
      refine XS.goto X10.here hx rfl (pc0 := 75) (pc' := 79) rfl (hb hby at_75) (by decide) (by decide) ?_
      show Steps p.tables e below (T10.setTop (mkF m 79 #[.val (.int p0), .val (.int p1), .val (.long p2), .second, .val (.long p3), .second, .val (.long p4), .second, .val (.ref a), .val (.int (1 : Int32)), .val (.int (0 : Int32)), .unset] [(.int (1 : Int32)), (.int (1 : Int32))])) _
      refine XS.icmpNo X10.here hx rfl (hb hby at_79) rfl (teq (by decide : (1 : Int32) = (1 : Int32))).2 ?_
      show Steps p.tables e below (T10.setTop (mkF m 82 #[.val (.int p0), .val (.int p1), .val (.long p2), .second, .val (.long p3), .second, .val (.long p4), .second, .val (.ref a), .val (.int (1 : Int32)), .val (.int (0 : Int32)), .unset] [])) _
      refine XS.iconst X10.here hx rfl (hb hby at_82) ?_
      show Steps p.tables e below (T10.setTop (mkF m 83 #[.val (.int p0), .val (.int p1), .val (.long p2), .second, .val (.long p3), .second, .val (.long p4), .second, .val (.ref a), .val (.int (1 : Int32)), .val (.int (0 : Int32)), .unset] [(.int (1 : Int32))])) _
      refine XS.goto X10.here hx rfl (pc0 := 83) (pc' := 87) rfl (hb hby at_83) (by decide) (by decide) ?_
      show Steps p.tables e below (T10.setTop (mkF m 87 #[.val (.int p0), .val (.int p1), .val (.long p2), .second, .val (.long p3), .second, .val (.long p4), .second, .val (.ref a), .val (.int (1 : Int32)), .val (.int (0 : Int32)), .unset] [(.int (1 : Int32))])) _
      refine XS.istore X10.here hx rfl (hb hby at_87) rfl (l' := #[.val (.int p0), .val (.int p1), .val (.long p2), .second, .val (.long p3), .second, .val (.long p4), .second, .val (.ref a), .val (.int (1 : Int32)), .val (.int (0 : Int32)), .unset]) rfl ?_
      show Steps p.tables e below (T10.setTop (mkF m 89 #[.val (.int p0), .val (.int p1), .val (.long p2), .second, .val (.long p3), .second, .val (.long p4), .second, .val (.ref a), .val (.int (1 : Int32)), .val (.int (0 : Int32)), .unset] [])) _
      refine XS.iloadN X10.here hx rfl (hb hby at_89) rfl ?_
      show Steps p.tables e below (T10.setTop (mkF m 90 #[.val (.int p0), .val (.int p1), .val (.long p2), .second, .val (.long p3), .second, .val (.long p4), .second, .val (.ref a), .val (.int (1 : Int32)), .val (.int (0 : Int32)), .unset] [(.int p1)])) _
      refine XS.iconst X10.here hx rfl (hb hby at_90) ?_
      show Steps p.tables e below (T10.setTop (mkF m 91 #[.val (.int p0), .val (.int p1), .val (.long p2), .second, .val (.long p3), .second, .val (.long p4), .second, .val (.ref a), .val (.int (1 : Int32)), .val (.int (0 : Int32)), .unset] [(.int (3 : Int32)), (.int p1)])) _
      refine XS.iand X10.here hx rfl (hb hby at_91) rfl ?_
      show Steps p.tables e below (T10.setTop (mkF m 92 #[.val (.int p0), .val (.int p1), .val (.long p2), .second, .val (.long p3), .second, .val (.long p4), .second, .val (.ref a), .val (.int (1 : Int32)), .val (.int (0 : Int32)), .unset] [(.int (p1 &&& (3 : Int32)))])) _
      refine XS.istore X10.here hx rfl (hb hby at_92) rfl (l' := #[.val (.int p0), .val (.int p1), .val (.long p2), .second, .val (.long p3), .second, .val (.long p4), .second, .val (.ref a), .val (.int (1 : Int32)), .val (.int (0 : Int32)), .val (.int (p1 &&& (3 : Int32)))]) rfl ?_
      exact kt)
    rcases own_four p1 with hm | hm | hm | hm
    · skip
      have pre12 : ∀ tg, Steps p.tables e below (T10.setTop (mkF m 94 #[.val (.int p0), .val (.int p1), .val (.long p2), .second, .val (.long p3), .second, .val (.long p4), .second, .val (.ref a), .val (.int (1 : Int32)), .val (.int (0 : Int32)), .val (.int (0 : Int32))] [])) tg → G tg := fun tg kt => pre11 tg (by rw [hm]; exact kt)
      have pre13 : ∀ tg, Steps p.tables e below (T10.setTop (mkF m 148 #[.val (.int p0), .val (.int p1), .val (.long p2), .second, .val (.long p3), .second, .val (.long p4), .second, .val (.ref a), .val (.int (1 : Int32)), .val (.int (0 : Int32)), .val (.int (0 : Int32))] [(.ref a)])) tg → G tg := fun tg kt => pre12 tg (by
        show Steps p.tables e below (T10.setTop (mkF m 94 #[.val (.int p0), .val (.int p1), .val (.long p2), .second, .val (.long p3), .second, .val (.long p4), .second, .val (.ref a), .val (.int (1 : Int32)), .val (.int (0 : Int32)), .val (.int (0 : Int32))] [])) _
        refine XS.iload X10.here hx rfl (hb hby at_94) rfl ?_
        show Steps p.tables e below (T10.setTop (mkF m 96 #[.val (.int p0), .val (.int p1), .val (.long p2), .second, .val (.long p3), .second, .val (.long p4), .second, .val (.ref a), .val (.int (1 : Int32)), .val (.int (0 : Int32)), .val (.int (0 : Int32))] [(.int (0 : Int32))])) _
        refine XS.iload X10.here hx rfl (hb hby at_96) rfl ?_
        show Steps p.tables e below (T10.setTop (mkF m 98 #[.val (.int p0), .val (.int p1), .val (.long p2), .second, .val (.long p3), .second, .val (.long p4), .second, .val (.ref a), .val (.int (1 : Int32)), .val (.int (0 : Int32)), .val (.int (0 : Int32))] [(.int (0 : Int32)), (.int (0 : Int32))])) _
        refine XS.icmpYes X10.here hx rfl (pc0 := 98) (pc' := 105) rfl (hb hby at_98) rfl (flt (by decide : ¬ ((0 : Int32) < (0 : Int32)))).2.2.2 (by decide) (by decide) ?_
        show Steps p.tables e below (T10.setTop (mkF m 105 #[.val (.int p0), .val (.int p1), .val (.long p2), .second, .val (.long p3), .second, .val (.long p4), .second, .val (.ref a), .val (.int (1 : Int32)), .val (.int (0 : Int32)), .val (.int (0 : Int32))] [])) _
        refine XS.iload X10.here hx rfl (hb hby at_105) rfl ?_
        show Steps p.tables e below (T10.setTop (mkF m 107 #[.val (.int p0), .val (.int p1), .val (.long p2), .second, .val (.long p3), .second, .val (.long p4), .second, .val (.ref a), .val (.int (1 : Int32)), .val (.int (0 : Int32)), .val (.int (0 : Int32))] [(.int (0 : Int32))])) _
        refine XS.iconst X10.here hx rfl (hb hby at_107) ?_
        show Steps p.tables e below (T10.setTop (mkF m 108 #[.val (.int p0), .val (.int p1), .val (.long p2), .second, .val (.long p3), .second, .val (.long p4), .second, .val (.ref a), .val (.int (1 : Int32)), .val (.int (0 : Int32)), .val (.int (0 : Int32))] [(.int (1 : Int32)), (.int (0 : Int32))])) _
        refine XS.icmpYes X10.here hx rfl (pc0 := 108) (pc' := 117) rfl (hb hby at_108) rfl (tlt (by decide : (0 : Int32) < (1 : Int32))).1 (by decide) (by decide) ?_
        show Steps p.tables e below (T10.setTop (mkF m 117 #[.val (.int p0), .val (.int p1), .val (.long p2), .second, .val (.long p3), .second, .val (.long p4), .second, .val (.ref a), .val (.int (1 : Int32)), .val (.int (0 : Int32)), .val (.int (0 : Int32))] [])) _
        refine XS.iload X10.here hx rfl (hb hby at_117) rfl ?_
        show Steps p.tables e below (T10.setTop (mkF m 119 #[.val (.int p0), .val (.int p1), .val (.long p2), .second, .val (.long p3), .second, .val (.long p4), .second, .val (.ref a), .val (.int (1 : Int32)), .val (.int (0 : Int32)), .val (.int (0 : Int32))] [(.int (0 : Int32))])) _
        refine XS.iconst X10.here hx rfl (hb hby at_119) ?_
        show Steps p.tables e below (T10.setTop (mkF m 120 #[.val (.int p0), .val (.int p1), .val (.long p2), .second, .val (.long p3), .second, .val (.long p4), .second, .val (.ref a), .val (.int (1 : Int32)), .val (.int (0 : Int32)), .val (.int (0 : Int32))] [(.int (2 : Int32)), (.int (0 : Int32))])) _
        refine XS.icmpYes X10.here hx rfl (pc0 := 120) (pc' := 129) rfl (hb hby at_120) rfl (tlt (by decide : (0 : Int32) < (2 : Int32))).1 (by decide) (by decide) ?_
        show Steps p.tables e below (T10.setTop (mkF m 129 #[.val (.int p0), .val (.int p1), .val (.long p2), .second, .val (.long p3), .second, .val (.long p4), .second, .val (.ref a), .val (.int (1 : Int32)), .val (.int (0 : Int32)), .val (.int (0 : Int32))] [])) _
        refine XS.iload X10.here hx rfl (hb hby at_129) rfl ?_
        show Steps p.tables e below (T10.setTop (mkF m 131 #[.val (.int p0), .val (.int p1), .val (.long p2), .second, .val (.long p3), .second, .val (.long p4), .second, .val (.ref a), .val (.int (1 : Int32)), .val (.int (0 : Int32)), .val (.int (0 : Int32))] [(.int (0 : Int32))])) _
        refine XS.iconst X10.here hx rfl (hb hby at_131) ?_
        show Steps p.tables e below (T10.setTop (mkF m 132 #[.val (.int p0), .val (.int p1), .val (.long p2), .second, .val (.long p3), .second, .val (.long p4), .second, .val (.ref a), .val (.int (1 : Int32)), .val (.int (0 : Int32)), .val (.int (0 : Int32))] [(.int (3 : Int32)), (.int (0 : Int32))])) _
        refine XS.icmpYes X10.here hx rfl (pc0 := 132) (pc' := 141) rfl (hb hby at_132) rfl (tlt (by decide : (0 : Int32) < (3 : Int32))).1 (by decide) (by decide) ?_
        show Steps p.tables e below (T10.setTop (mkF m 141 #[.val (.int p0), .val (.int p1), .val (.long p2), .second, .val (.long p3), .second, .val (.long p4), .second, .val (.ref a), .val (.int (1 : Int32)), .val (.int (0 : Int32)), .val (.int (0 : Int32))] [])) _
        refine XS.iload X10.here hx rfl (hb hby at_141) rfl ?_
        show Steps p.tables e below (T10.setTop (mkF m 143 #[.val (.int p0), .val (.int p1), .val (.long p2), .second, .val (.long p3), .second, .val (.long p4), .second, .val (.ref a), .val (.int (1 : Int32)), .val (.int (0 : Int32)), .val (.int (0 : Int32))] [(.int (1 : Int32))])) _
        refine XS.ifNo X10.here hx rfl (hb hby at_143) rfl ((if0 _ _).trans (feq (by decide : ¬ ((1 : Int32) = (0 : Int32)))).1) ?_
        show Steps p.tables e below (T10.setTop (mkF m 146 #[.val (.int p0), .val (.int p1), .val (.long p2), .second, .val (.long p3), .second, .val (.long p4), .second, .val (.ref a), .val (.int (1 : Int32)), .val (.int (0 : Int32)), .val (.int (0 : Int32))] [])) _
        refine XS.aload X10.here hx rfl (hb hby at_146) rfl rfl ?_
        exact kt)
      obtain ⟨cq14, kq14, q14a, q14b, q14c⟩ := isOf hZ e10 A1_4
      obtain ⟨_, _, ⟨T14, L14, k14, n14⟩, -, X14, ⟨Lc14, hQ14, l14, y14, z14⟩, st14⟩ := X10.virtualBack hx (y := (⟨"com/example/find_leader/findleader/engine/LongHeap", "isEmpty", "()Z"⟩ : MethodName)) (z := (⟨"com/example/find_leader/findleader/engine/LongHeap", "isEmpty", "()Z"⟩ : MethodName)) hown (mvT hZ (hw _ (List.mem_of_getElem? (i := 12) rfl))) (mvT hZ (hw _ (List.mem_of_getElem? (i := 13) rfl))) (notFace_of_selects (args := #[]) (mvT hZ (hw _ (List.mem_of_getElem? (i := 15) rfl)))) (mvT hZ (hw _ (List.mem_of_getElem? (i := 15) rfl))) (mvT hZ (hw _ (List.mem_of_getElem? (i := 14) rfl))) (by decide) (backOf (W := 0) (rm3 l Z a0 hw [] a (0 : Int32) T3.heap n0 Z3 Fs3) hZ (hw _ (List.mem_of_getElem? (i := 16) rfl)) (hw _ (List.mem_of_getElem? (i := 2) rfl)) (by decide) (by decide)) q14a q14c (g := (mkF m 148 #[.val (.int p0), .val (.int p1), .val (.long p2), .second, .val (.long p3), .second, .val (.long p4), .second, .val (.ref a), .val (.int (1 : Int32)), .val (.int (0 : Int32)), .val (.int (0 : Int32))] [(.ref a)])) rfl (by rw [hml]; rfl) (Steps.refl _) (argsL := []) (rest := []) (lenOf pd_2 rfl) rfl (by show 2 * 0 + _ ≤ _; exact Nat.le_of_eq rfl) (hb hby at_148) (fun _ _ => ⟨rfl, e10, (Nat.le_of_ble_eq_true rfl), (Nat.le_of_ble_eq_true rfl)⟩)
      dsimp only [Pt.U, Pt.locs, Pt.cells, Pt.slots] at X14 l14 y14 z14 st14 hQ14
      subst l14 y14 z14
      obtain ⟨hv14, N14q, e14⟩ := hQ14
      rw [if_pos rfl] at hv14
      subst hv14
      have N14 := Fr.app N10 N14q
      have pre14s : ∀ tg, Steps p.tables e below (T14.setTop (mkF m 151 #[.val (.int p0), .val (.int p1), .val (.long p2), .second, .val (.long p3), .second, .val (.long p4), .second, .val (.ref a), .val (.int (1 : Int32)), .val (.int (0 : Int32)), .val (.int (0 : Int32))] [(.int (1 : Int32))])) tg → G tg := fun tg kt => pre13 tg (st14.trans kt)
      obtain ⟨fs, hr, hrun, hended, hW, hsame⟩ := X14.leave (v := some (.int (1 : Int32))) (fun h => by rw [Bd.returns] at h; cases h)
      subst hG
      refine ⟨_, _, pre14s _ ?_, hrun, hended, _, _, rfl, ?_, ⟨_, rfl⟩, hW, hsame.mono (by decide) (by decide)⟩
      · skip
        show Steps p.tables e below (T14.setTop (mkF m 151 #[.val (.int p0), .val (.int p1), .val (.long p2), .second, .val (.long p3), .second, .val (.long p4), .second, .val (.ref a), .val (.int (1 : Int32)), .val (.int (0 : Int32)), .val (.int (0 : Int32))] [(.int (1 : Int32))])) _
        refine XS.iload X14.here hx rfl (hb hby at_151) rfl ?_
        show Steps p.tables e below (T14.setTop (mkF m 153 #[.val (.int p0), .val (.int p1), .val (.long p2), .second, .val (.long p3), .second, .val (.long p4), .second, .val (.ref a), .val (.int (1 : Int32)), .val (.int (0 : Int32)), .val (.int (0 : Int32))] [(.int (0 : Int32)), (.int (1 : Int32))])) _
        refine XS.iload X14.here hx rfl (hb hby at_153) rfl ?_
        show Steps p.tables e below (T14.setTop (mkF m 155 #[.val (.int p0), .val (.int p1), .val (.long p2), .second, .val (.long p3), .second, .val (.long p4), .second, .val (.ref a), .val (.int (1 : Int32)), .val (.int (0 : Int32)), .val (.int (0 : Int32))] [(.int (0 : Int32)), (.int (0 : Int32)), (.int (1 : Int32))])) _
        refine XS.icmpNo X14.here hx rfl (hb hby at_155) rfl (teq (by decide : (0 : Int32) = (0 : Int32))).2 ?_
        show Steps p.tables e below (T14.setTop (mkF m 158 #[.val (.int p0), .val (.int p1), .val (.long p2), .second, .val (.long p3), .second, .val (.long p4), .second, .val (.ref a), .val (.int (1 : Int32)), .val (.int (0 : Int32)), .val (.int (0 : Int32))] [(.int (1 : Int32))])) _
        refine XS.iconst X14.here hx rfl (hb hby at_158) ?_
        show Steps p.tables e below (T14.setTop (mkF m 159 #[.val (.int p0), .val (.int p1), .val (.long p2), .second, .val (.long p3), .second, .val (.long p4), .second, .val (.ref a), .val (.int (1 : Int32)), .val (.int (0 : Int32)), .val (.int (0 : Int32))] [(.int (1 : Int32)), (.int (1 : Int32))])) _
        refine XS.goto X14.here hx rfl (pc0 := 159) (pc' := 163) rfl (hb hby at_159) (by decide) (by decide) ?_
        show Steps p.tables e below (T14.setTop (mkF m 163 #[.val (.int p0), .val (.int p1), .val (.long p2), .second, .val (.long p3), .second, .val (.long p4), .second, .val (.ref a), .val (.int (1 : Int32)), .val (.int (0 : Int32)), .val (.int (0 : Int32))] [(.int (1 : Int32)), (.int (1 : Int32))])) _
        refine XS.icmpNo X14.here hx rfl (hb hby at_163) rfl (teq (by decide : (1 : Int32) = (1 : Int32))).2 ?_
        show Steps p.tables e below (T14.setTop (mkF m 166 #[.val (.int p0), .val (.int p1), .val (.long p2), .second, .val (.long p3), .second, .val (.long p4), .second, .val (.ref a), .val (.int (1 : Int32)), .val (.int (0 : Int32)), .val (.int (0 : Int32))] [])) _
        refine XS.iconst X14.here hx rfl (hb hby at_166) ?_
        show Steps p.tables e below (T14.setTop (mkF m 167 #[.val (.int p0), .val (.int p1), .val (.long p2), .second, .val (.long p3), .second, .val (.long p4), .second, .val (.ref a), .val (.int (1 : Int32)), .val (.int (0 : Int32)), .val (.int (0 : Int32))] [(.int (1 : Int32))])) _
        refine XS.goto X14.here hx rfl (pc0 := 167) (pc' := 171) rfl (hb hby at_167) (by decide) (by decide) ?_
        show Steps p.tables e below (T14.setTop (mkF m 171 #[.val (.int p0), .val (.int p1), .val (.long p2), .second, .val (.long p3), .second, .val (.long p4), .second, .val (.ref a), .val (.int (1 : Int32)), .val (.int (0 : Int32)), .val (.int (0 : Int32))] [(.int (1 : Int32))])) _
        refine XS.istore X14.here hx rfl (hb hby at_171) rfl (l' := #[.val (.int p0), .val (.int p1), .val (.long p2), .second, .val (.long p3), .second, .val (.long p4), .second, .val (.ref a), .val (.int (1 : Int32)), .val (.int (0 : Int32)), .val (.int (0 : Int32))]) rfl ?_
        show Steps p.tables e below (T14.setTop (mkF m 173 #[.val (.int p0), .val (.int p1), .val (.long p2), .second, .val (.long p3), .second, .val (.long p4), .second, .val (.ref a), .val (.int (1 : Int32)), .val (.int (0 : Int32)), .val (.int (0 : Int32))] [])) _
        refine XS.iload X14.here hx rfl (hb hby at_173) rfl ?_
        show Steps p.tables e below (T14.setTop (mkF m 175 #[.val (.int p0), .val (.int p1), .val (.long p2), .second, .val (.long p3), .second, .val (.long p4), .second, .val (.ref a), .val (.int (1 : Int32)), .val (.int (0 : Int32)), .val (.int (0 : Int32))] [(.int (1 : Int32))])) _
        exact retN X14 hx (t := .boolean) Bd.returns (by simp) (hb hby at_175) hr
      · show Q_rm0 Z p0 p1 p2 p3 p4 h0 n0 _ T14.heap _
        rw [e14]
        exact ⟨rfl, N14⟩
    · skip
      have pre15 : ∀ tg, Steps p.tables e below (T10.setTop (mkF m 94 #[.val (.int p0), .val (.int p1), .val (.long p2), .second, .val (.long p3), .second, .val (.long p4), .second, .val (.ref a), .val (.int (1 : Int32)), .val (.int (0 : Int32)), .val (.int (1 : Int32))] [])) tg → G tg := fun tg kt => pre11 tg (by rw [hm]; exact kt)
      have pre16 : ∀ tg, Steps p.tables e below (T10.setTop (mkF m 148 #[.val (.int p0), .val (.int p1), .val (.long p2), .second, .val (.long p3), .second, .val (.long p4), .second, .val (.ref a), .val (.int (1 : Int32)), .val (.int (0 : Int32)), .val (.int (0 : Int32))] [(.ref a)])) tg → G tg := fun tg kt => pre15 tg (by
        show Steps p.tables e below (T10.setTop (mkF m 94 #[.val (.int p0), .val (.int p1), .val (.long p2), .second, .val (.long p3), .second, .val (.long p4), .second, .val (.ref a), .val (.int (1 : Int32)), .val (.int (0 : Int32)), .val (.int (1 : Int32))] [])) _
        refine XS.iload X10.here hx rfl (hb hby at_94) rfl ?_
        show Steps p.tables e below (T10.setTop (mkF m 96 #[.val (.int p0), .val (.int p1), .val (.long p2), .second, .val (.long p3), .second, .val (.long p4), .second, .val (.ref a), .val (.int (1 : Int32)), .val (.int (0 : Int32)), .val (.int (1 : Int32))] [(.int (1 : Int32))])) _
        refine XS.iload X10.here hx rfl (hb hby at_96) rfl ?_
        show Steps p.tables e below (T10.setTop (mkF m 98 #[.val (.int p0), .val (.int p1), .val (.long p2), .second, .val (.long p3), .second, .val (.long p4), .second, .val (.ref a), .val (.int (1 : Int32)), .val (.int (0 : Int32)), .val (.int (1 : Int32))] [(.int (0 : Int32)), (.int (1 : Int32))])) _
        refine XS.icmpNo X10.here hx rfl (hb hby at_98) rfl (tlt (by decide : (0 : Int32) < (1 : Int32))).2.2.2 ?_
        show Steps p.tables e below (T10.setTop (mkF m 101 #[.val (.int p0), .val (.int p1), .val (.long p2), .second, .val (.long p3), .second, .val (.long p4), .second, .val (.ref a), .val (.int (1 : Int32)), .val (.int (0 : Int32)), .val (.int (1 : Int32))] [])) _
        refine XS.iload X10.here hx rfl (hb hby at_101) rfl ?_
        show Steps p.tables e below (T10.setTop (mkF m 103 #[.val (.int p0), .val (.int p1), .val (.long p2), .second, .val (.long p3), .second, .val (.long p4), .second, .val (.ref a), .val (.int (1 : Int32)), .val (.int (0 : Int32)), .val (.int (1 : Int32))] [(.int (0 : Int32))])) _
        refine XS.istore X10.here hx rfl (hb hby at_103) rfl (l' := #[.val (.int p0), .val (.int p1), .val (.long p2), .second, .val (.long p3), .second, .val (.long p4), .second, .val (.ref a), .val (.int (1 : Int32)), .val (.int (0 : Int32)), .val (.int (0 : Int32))]) rfl ?_
        show Steps p.tables e below (T10.setTop (mkF m 105 #[.val (.int p0), .val (.int p1), .val (.long p2), .second, .val (.long p3), .second, .val (.long p4), .second, .val (.ref a), .val (.int (1 : Int32)), .val (.int (0 : Int32)), .val (.int (0 : Int32))] [])) _
        refine XS.iload X10.here hx rfl (hb hby at_105) rfl ?_
        show Steps p.tables e below (T10.setTop (mkF m 107 #[.val (.int p0), .val (.int p1), .val (.long p2), .second, .val (.long p3), .second, .val (.long p4), .second, .val (.ref a), .val (.int (1 : Int32)), .val (.int (0 : Int32)), .val (.int (0 : Int32))] [(.int (0 : Int32))])) _
        refine XS.iconst X10.here hx rfl (hb hby at_107) ?_
        show Steps p.tables e below (T10.setTop (mkF m 108 #[.val (.int p0), .val (.int p1), .val (.long p2), .second, .val (.long p3), .second, .val (.long p4), .second, .val (.ref a), .val (.int (1 : Int32)), .val (.int (0 : Int32)), .val (.int (0 : Int32))] [(.int (1 : Int32)), (.int (0 : Int32))])) _
        refine XS.icmpYes X10.here hx rfl (pc0 := 108) (pc' := 117) rfl (hb hby at_108) rfl (tlt (by decide : (0 : Int32) < (1 : Int32))).1 (by decide) (by decide) ?_
        show Steps p.tables e below (T10.setTop (mkF m 117 #[.val (.int p0), .val (.int p1), .val (.long p2), .second, .val (.long p3), .second, .val (.long p4), .second, .val (.ref a), .val (.int (1 : Int32)), .val (.int (0 : Int32)), .val (.int (0 : Int32))] [])) _
        refine XS.iload X10.here hx rfl (hb hby at_117) rfl ?_
        show Steps p.tables e below (T10.setTop (mkF m 119 #[.val (.int p0), .val (.int p1), .val (.long p2), .second, .val (.long p3), .second, .val (.long p4), .second, .val (.ref a), .val (.int (1 : Int32)), .val (.int (0 : Int32)), .val (.int (0 : Int32))] [(.int (0 : Int32))])) _
        refine XS.iconst X10.here hx rfl (hb hby at_119) ?_
        show Steps p.tables e below (T10.setTop (mkF m 120 #[.val (.int p0), .val (.int p1), .val (.long p2), .second, .val (.long p3), .second, .val (.long p4), .second, .val (.ref a), .val (.int (1 : Int32)), .val (.int (0 : Int32)), .val (.int (0 : Int32))] [(.int (2 : Int32)), (.int (0 : Int32))])) _
        refine XS.icmpYes X10.here hx rfl (pc0 := 120) (pc' := 129) rfl (hb hby at_120) rfl (tlt (by decide : (0 : Int32) < (2 : Int32))).1 (by decide) (by decide) ?_
        show Steps p.tables e below (T10.setTop (mkF m 129 #[.val (.int p0), .val (.int p1), .val (.long p2), .second, .val (.long p3), .second, .val (.long p4), .second, .val (.ref a), .val (.int (1 : Int32)), .val (.int (0 : Int32)), .val (.int (0 : Int32))] [])) _
        refine XS.iload X10.here hx rfl (hb hby at_129) rfl ?_
        show Steps p.tables e below (T10.setTop (mkF m 131 #[.val (.int p0), .val (.int p1), .val (.long p2), .second, .val (.long p3), .second, .val (.long p4), .second, .val (.ref a), .val (.int (1 : Int32)), .val (.int (0 : Int32)), .val (.int (0 : Int32))] [(.int (0 : Int32))])) _
        refine XS.iconst X10.here hx rfl (hb hby at_131) ?_
        show Steps p.tables e below (T10.setTop (mkF m 132 #[.val (.int p0), .val (.int p1), .val (.long p2), .second, .val (.long p3), .second, .val (.long p4), .second, .val (.ref a), .val (.int (1 : Int32)), .val (.int (0 : Int32)), .val (.int (0 : Int32))] [(.int (3 : Int32)), (.int (0 : Int32))])) _
        refine XS.icmpYes X10.here hx rfl (pc0 := 132) (pc' := 141) rfl (hb hby at_132) rfl (tlt (by decide : (0 : Int32) < (3 : Int32))).1 (by decide) (by decide) ?_
        show Steps p.tables e below (T10.setTop (mkF m 141 #[.val (.int p0), .val (.int p1), .val (.long p2), .second, .val (.long p3), .second, .val (.long p4), .second, .val (.ref a), .val (.int (1 : Int32)), .val (.int (0 : Int32)), .val (.int (0 : Int32))] [])) _
        refine XS.iload X10.here hx rfl (hb hby at_141) rfl ?_
        show Steps p.tables e below (T10.setTop (mkF m 143 #[.val (.int p0), .val (.int p1), .val (.long p2), .second, .val (.long p3), .second, .val (.long p4), .second, .val (.ref a), .val (.int (1 : Int32)), .val (.int (0 : Int32)), .val (.int (0 : Int32))] [(.int (1 : Int32))])) _
        refine XS.ifNo X10.here hx rfl (hb hby at_143) rfl ((if0 _ _).trans (feq (by decide : ¬ ((1 : Int32) = (0 : Int32)))).1) ?_
        show Steps p.tables e below (T10.setTop (mkF m 146 #[.val (.int p0), .val (.int p1), .val (.long p2), .second, .val (.long p3), .second, .val (.long p4), .second, .val (.ref a), .val (.int (1 : Int32)), .val (.int (0 : Int32)), .val (.int (0 : Int32))] [])) _
        refine XS.aload X10.here hx rfl (hb hby at_146) rfl rfl ?_
        exact kt)
      obtain ⟨cq17, kq17, q17a, q17b, q17c⟩ := isOf hZ e10 A1_4
      obtain ⟨_, _, ⟨T17, L17, k17, n17⟩, -, X17, ⟨Lc17, hQ17, l17, y17, z17⟩, st17⟩ := X10.virtualBack hx (y := (⟨"com/example/find_leader/findleader/engine/LongHeap", "isEmpty", "()Z"⟩ : MethodName)) (z := (⟨"com/example/find_leader/findleader/engine/LongHeap", "isEmpty", "()Z"⟩ : MethodName)) hown (mvT hZ (hw _ (List.mem_of_getElem? (i := 12) rfl))) (mvT hZ (hw _ (List.mem_of_getElem? (i := 13) rfl))) (notFace_of_selects (args := #[]) (mvT hZ (hw _ (List.mem_of_getElem? (i := 15) rfl)))) (mvT hZ (hw _ (List.mem_of_getElem? (i := 15) rfl))) (mvT hZ (hw _ (List.mem_of_getElem? (i := 14) rfl))) (by decide) (backOf (W := 0) (rm3 l Z a0 hw [] a (0 : Int32) T3.heap n0 Z3 Fs3) hZ (hw _ (List.mem_of_getElem? (i := 16) rfl)) (hw _ (List.mem_of_getElem? (i := 2) rfl)) (by decide) (by decide)) q17a q17c (g := (mkF m 148 #[.val (.int p0), .val (.int p1), .val (.long p2), .second, .val (.long p3), .second, .val (.long p4), .second, .val (.ref a), .val (.int (1 : Int32)), .val (.int (0 : Int32)), .val (.int (0 : Int32))] [(.ref a)])) rfl (by rw [hml]; rfl) (Steps.refl _) (argsL := []) (rest := []) (lenOf pd_2 rfl) rfl (by show 2 * 0 + _ ≤ _; exact Nat.le_of_eq rfl) (hb hby at_148) (fun _ _ => ⟨rfl, e10, (Nat.le_of_ble_eq_true rfl), (Nat.le_of_ble_eq_true rfl)⟩)
      dsimp only [Pt.U, Pt.locs, Pt.cells, Pt.slots] at X17 l17 y17 z17 st17 hQ17
      subst l17 y17 z17
      obtain ⟨hv17, N17q, e17⟩ := hQ17
      rw [if_pos rfl] at hv17
      subst hv17
      have N17 := Fr.app N10 N17q
      have pre17s : ∀ tg, Steps p.tables e below (T17.setTop (mkF m 151 #[.val (.int p0), .val (.int p1), .val (.long p2), .second, .val (.long p3), .second, .val (.long p4), .second, .val (.ref a), .val (.int (1 : Int32)), .val (.int (0 : Int32)), .val (.int (0 : Int32))] [(.int (1 : Int32))])) tg → G tg := fun tg kt => pre16 tg (st17.trans kt)
      obtain ⟨fs, hr, hrun, hended, hW, hsame⟩ := X17.leave (v := some (.int (1 : Int32))) (fun h => by rw [Bd.returns] at h; cases h)
      subst hG
      refine ⟨_, _, pre17s _ ?_, hrun, hended, _, _, rfl, ?_, ⟨_, rfl⟩, hW, hsame.mono (by decide) (by decide)⟩
      · skip
        show Steps p.tables e below (T17.setTop (mkF m 151 #[.val (.int p0), .val (.int p1), .val (.long p2), .second, .val (.long p3), .second, .val (.long p4), .second, .val (.ref a), .val (.int (1 : Int32)), .val (.int (0 : Int32)), .val (.int (0 : Int32))] [(.int (1 : Int32))])) _
        refine XS.iload X17.here hx rfl (hb hby at_151) rfl ?_
        show Steps p.tables e below (T17.setTop (mkF m 153 #[.val (.int p0), .val (.int p1), .val (.long p2), .second, .val (.long p3), .second, .val (.long p4), .second, .val (.ref a), .val (.int (1 : Int32)), .val (.int (0 : Int32)), .val (.int (0 : Int32))] [(.int (0 : Int32)), (.int (1 : Int32))])) _
        refine XS.iload X17.here hx rfl (hb hby at_153) rfl ?_
        show Steps p.tables e below (T17.setTop (mkF m 155 #[.val (.int p0), .val (.int p1), .val (.long p2), .second, .val (.long p3), .second, .val (.long p4), .second, .val (.ref a), .val (.int (1 : Int32)), .val (.int (0 : Int32)), .val (.int (0 : Int32))] [(.int (0 : Int32)), (.int (0 : Int32)), (.int (1 : Int32))])) _
        refine XS.icmpNo X17.here hx rfl (hb hby at_155) rfl (teq (by decide : (0 : Int32) = (0 : Int32))).2 ?_
        show Steps p.tables e below (T17.setTop (mkF m 158 #[.val (.int p0), .val (.int p1), .val (.long p2), .second, .val (.long p3), .second, .val (.long p4), .second, .val (.ref a), .val (.int (1 : Int32)), .val (.int (0 : Int32)), .val (.int (0 : Int32))] [(.int (1 : Int32))])) _
        refine XS.iconst X17.here hx rfl (hb hby at_158) ?_
        show Steps p.tables e below (T17.setTop (mkF m 159 #[.val (.int p0), .val (.int p1), .val (.long p2), .second, .val (.long p3), .second, .val (.long p4), .second, .val (.ref a), .val (.int (1 : Int32)), .val (.int (0 : Int32)), .val (.int (0 : Int32))] [(.int (1 : Int32)), (.int (1 : Int32))])) _
        refine XS.goto X17.here hx rfl (pc0 := 159) (pc' := 163) rfl (hb hby at_159) (by decide) (by decide) ?_
        show Steps p.tables e below (T17.setTop (mkF m 163 #[.val (.int p0), .val (.int p1), .val (.long p2), .second, .val (.long p3), .second, .val (.long p4), .second, .val (.ref a), .val (.int (1 : Int32)), .val (.int (0 : Int32)), .val (.int (0 : Int32))] [(.int (1 : Int32)), (.int (1 : Int32))])) _
        refine XS.icmpNo X17.here hx rfl (hb hby at_163) rfl (teq (by decide : (1 : Int32) = (1 : Int32))).2 ?_
        show Steps p.tables e below (T17.setTop (mkF m 166 #[.val (.int p0), .val (.int p1), .val (.long p2), .second, .val (.long p3), .second, .val (.long p4), .second, .val (.ref a), .val (.int (1 : Int32)), .val (.int (0 : Int32)), .val (.int (0 : Int32))] [])) _
        refine XS.iconst X17.here hx rfl (hb hby at_166) ?_
        show Steps p.tables e below (T17.setTop (mkF m 167 #[.val (.int p0), .val (.int p1), .val (.long p2), .second, .val (.long p3), .second, .val (.long p4), .second, .val (.ref a), .val (.int (1 : Int32)), .val (.int (0 : Int32)), .val (.int (0 : Int32))] [(.int (1 : Int32))])) _
        refine XS.goto X17.here hx rfl (pc0 := 167) (pc' := 171) rfl (hb hby at_167) (by decide) (by decide) ?_
        show Steps p.tables e below (T17.setTop (mkF m 171 #[.val (.int p0), .val (.int p1), .val (.long p2), .second, .val (.long p3), .second, .val (.long p4), .second, .val (.ref a), .val (.int (1 : Int32)), .val (.int (0 : Int32)), .val (.int (0 : Int32))] [(.int (1 : Int32))])) _
        refine XS.istore X17.here hx rfl (hb hby at_171) rfl (l' := #[.val (.int p0), .val (.int p1), .val (.long p2), .second, .val (.long p3), .second, .val (.long p4), .second, .val (.ref a), .val (.int (1 : Int32)), .val (.int (0 : Int32)), .val (.int (0 : Int32))]) rfl ?_
        show Steps p.tables e below (T17.setTop (mkF m 173 #[.val (.int p0), .val (.int p1), .val (.long p2), .second, .val (.long p3), .second, .val (.long p4), .second, .val (.ref a), .val (.int (1 : Int32)), .val (.int (0 : Int32)), .val (.int (0 : Int32))] [])) _
        refine XS.iload X17.here hx rfl (hb hby at_173) rfl ?_
        show Steps p.tables e below (T17.setTop (mkF m 175 #[.val (.int p0), .val (.int p1), .val (.long p2), .second, .val (.long p3), .second, .val (.long p4), .second, .val (.ref a), .val (.int (1 : Int32)), .val (.int (0 : Int32)), .val (.int (0 : Int32))] [(.int (1 : Int32))])) _
        exact retN X17 hx (t := .boolean) Bd.returns (by simp) (hb hby at_175) hr
      · show Q_rm0 Z p0 p1 p2 p3 p4 h0 n0 _ T17.heap _
        rw [e17]
        exact ⟨rfl, N17⟩
    · skip
      have pre18 : ∀ tg, Steps p.tables e below (T10.setTop (mkF m 94 #[.val (.int p0), .val (.int p1), .val (.long p2), .second, .val (.long p3), .second, .val (.long p4), .second, .val (.ref a), .val (.int (1 : Int32)), .val (.int (0 : Int32)), .val (.int (2 : Int32))] [])) tg → G tg := fun tg kt => pre11 tg (by rw [hm]; exact kt)
      have pre19 : ∀ tg, Steps p.tables e below (T10.setTop (mkF m 148 #[.val (.int p0), .val (.int p1), .val (.long p2), .second, .val (.long p3), .second, .val (.long p4), .second, .val (.ref a), .val (.int (1 : Int32)), .val (.int (0 : Int32)), .val (.int (0 : Int32))] [(.ref a)])) tg → G tg := fun tg kt => pre18 tg (by
        show Steps p.tables e below (T10.setTop (mkF m 94 #[.val (.int p0), .val (.int p1), .val (.long p2), .second, .val (.long p3), .second, .val (.long p4), .second, .val (.ref a), .val (.int (1 : Int32)), .val (.int (0 : Int32)), .val (.int (2 : Int32))] [])) _
        refine XS.iload X10.here hx rfl (hb hby at_94) rfl ?_
        show Steps p.tables e below (T10.setTop (mkF m 96 #[.val (.int p0), .val (.int p1), .val (.long p2), .second, .val (.long p3), .second, .val (.long p4), .second, .val (.ref a), .val (.int (1 : Int32)), .val (.int (0 : Int32)), .val (.int (2 : Int32))] [(.int (2 : Int32))])) _
        refine XS.iload X10.here hx rfl (hb hby at_96) rfl ?_
        show Steps p.tables e below (T10.setTop (mkF m 98 #[.val (.int p0), .val (.int p1), .val (.long p2), .second, .val (.long p3), .second, .val (.long p4), .second, .val (.ref a), .val (.int (1 : Int32)), .val (.int (0 : Int32)), .val (.int (2 : Int32))] [(.int (0 : Int32)), (.int (2 : Int32))])) _
        refine XS.icmpNo X10.here hx rfl (hb hby at_98) rfl (tlt (by decide : (0 : Int32) < (2 : Int32))).2.2.2 ?_
        show Steps p.tables e below (T10.setTop (mkF m 101 #[.val (.int p0), .val (.int p1), .val (.long p2), .second, .val (.long p3), .second, .val (.long p4), .second, .val (.ref a), .val (.int (1 : Int32)), .val (.int (0 : Int32)), .val (.int (2 : Int32))] [])) _
        refine XS.iload X10.here hx rfl (hb hby at_101) rfl ?_
        show Steps p.tables e below (T10.setTop (mkF m 103 #[.val (.int p0), .val (.int p1), .val (.long p2), .second, .val (.long p3), .second, .val (.long p4), .second, .val (.ref a), .val (.int (1 : Int32)), .val (.int (0 : Int32)), .val (.int (2 : Int32))] [(.int (0 : Int32))])) _
        refine XS.istore X10.here hx rfl (hb hby at_103) rfl (l' := #[.val (.int p0), .val (.int p1), .val (.long p2), .second, .val (.long p3), .second, .val (.long p4), .second, .val (.ref a), .val (.int (1 : Int32)), .val (.int (0 : Int32)), .val (.int (0 : Int32))]) rfl ?_
        show Steps p.tables e below (T10.setTop (mkF m 105 #[.val (.int p0), .val (.int p1), .val (.long p2), .second, .val (.long p3), .second, .val (.long p4), .second, .val (.ref a), .val (.int (1 : Int32)), .val (.int (0 : Int32)), .val (.int (0 : Int32))] [])) _
        refine XS.iload X10.here hx rfl (hb hby at_105) rfl ?_
        show Steps p.tables e below (T10.setTop (mkF m 107 #[.val (.int p0), .val (.int p1), .val (.long p2), .second, .val (.long p3), .second, .val (.long p4), .second, .val (.ref a), .val (.int (1 : Int32)), .val (.int (0 : Int32)), .val (.int (0 : Int32))] [(.int (0 : Int32))])) _
        refine XS.iconst X10.here hx rfl (hb hby at_107) ?_
        show Steps p.tables e below (T10.setTop (mkF m 108 #[.val (.int p0), .val (.int p1), .val (.long p2), .second, .val (.long p3), .second, .val (.long p4), .second, .val (.ref a), .val (.int (1 : Int32)), .val (.int (0 : Int32)), .val (.int (0 : Int32))] [(.int (1 : Int32)), (.int (0 : Int32))])) _
        refine XS.icmpYes X10.here hx rfl (pc0 := 108) (pc' := 117) rfl (hb hby at_108) rfl (tlt (by decide : (0 : Int32) < (1 : Int32))).1 (by decide) (by decide) ?_
        show Steps p.tables e below (T10.setTop (mkF m 117 #[.val (.int p0), .val (.int p1), .val (.long p2), .second, .val (.long p3), .second, .val (.long p4), .second, .val (.ref a), .val (.int (1 : Int32)), .val (.int (0 : Int32)), .val (.int (0 : Int32))] [])) _
        refine XS.iload X10.here hx rfl (hb hby at_117) rfl ?_
        show Steps p.tables e below (T10.setTop (mkF m 119 #[.val (.int p0), .val (.int p1), .val (.long p2), .second, .val (.long p3), .second, .val (.long p4), .second, .val (.ref a), .val (.int (1 : Int32)), .val (.int (0 : Int32)), .val (.int (0 : Int32))] [(.int (0 : Int32))])) _
        refine XS.iconst X10.here hx rfl (hb hby at_119) ?_
        show Steps p.tables e below (T10.setTop (mkF m 120 #[.val (.int p0), .val (.int p1), .val (.long p2), .second, .val (.long p3), .second, .val (.long p4), .second, .val (.ref a), .val (.int (1 : Int32)), .val (.int (0 : Int32)), .val (.int (0 : Int32))] [(.int (2 : Int32)), (.int (0 : Int32))])) _
        refine XS.icmpYes X10.here hx rfl (pc0 := 120) (pc' := 129) rfl (hb hby at_120) rfl (tlt (by decide : (0 : Int32) < (2 : Int32))).1 (by decide) (by decide) ?_
        show Steps p.tables e below (T10.setTop (mkF m 129 #[.val (.int p0), .val (.int p1), .val (.long p2), .second, .val (.long p3), .second, .val (.long p4), .second, .val (.ref a), .val (.int (1 : Int32)), .val (.int (0 : Int32)), .val (.int (0 : Int32))] [])) _
        refine XS.iload X10.here hx rfl (hb hby at_129) rfl ?_
        show Steps p.tables e below (T10.setTop (mkF m 131 #[.val (.int p0), .val (.int p1), .val (.long p2), .second, .val (.long p3), .second, .val (.long p4), .second, .val (.ref a), .val (.int (1 : Int32)), .val (.int (0 : Int32)), .val (.int (0 : Int32))] [(.int (0 : Int32))])) _
        refine XS.iconst X10.here hx rfl (hb hby at_131) ?_
        show Steps p.tables e below (T10.setTop (mkF m 132 #[.val (.int p0), .val (.int p1), .val (.long p2), .second, .val (.long p3), .second, .val (.long p4), .second, .val (.ref a), .val (.int (1 : Int32)), .val (.int (0 : Int32)), .val (.int (0 : Int32))] [(.int (3 : Int32)), (.int (0 : Int32))])) _
        refine XS.icmpYes X10.here hx rfl (pc0 := 132) (pc' := 141) rfl (hb hby at_132) rfl (tlt (by decide : (0 : Int32) < (3 : Int32))).1 (by decide) (by decide) ?_
        show Steps p.tables e below (T10.setTop (mkF m 141 #[.val (.int p0), .val (.int p1), .val (.long p2), .second, .val (.long p3), .second, .val (.long p4), .second, .val (.ref a), .val (.int (1 : Int32)), .val (.int (0 : Int32)), .val (.int (0 : Int32))] [])) _
        refine XS.iload X10.here hx rfl (hb hby at_141) rfl ?_
        show Steps p.tables e below (T10.setTop (mkF m 143 #[.val (.int p0), .val (.int p1), .val (.long p2), .second, .val (.long p3), .second, .val (.long p4), .second, .val (.ref a), .val (.int (1 : Int32)), .val (.int (0 : Int32)), .val (.int (0 : Int32))] [(.int (1 : Int32))])) _
        refine XS.ifNo X10.here hx rfl (hb hby at_143) rfl ((if0 _ _).trans (feq (by decide : ¬ ((1 : Int32) = (0 : Int32)))).1) ?_
        show Steps p.tables e below (T10.setTop (mkF m 146 #[.val (.int p0), .val (.int p1), .val (.long p2), .second, .val (.long p3), .second, .val (.long p4), .second, .val (.ref a), .val (.int (1 : Int32)), .val (.int (0 : Int32)), .val (.int (0 : Int32))] [])) _
        refine XS.aload X10.here hx rfl (hb hby at_146) rfl rfl ?_
        exact kt)
      obtain ⟨cq20, kq20, q20a, q20b, q20c⟩ := isOf hZ e10 A1_4
      obtain ⟨_, _, ⟨T20, L20, k20, n20⟩, -, X20, ⟨Lc20, hQ20, l20, y20, z20⟩, st20⟩ := X10.virtualBack hx (y := (⟨"com/example/find_leader/findleader/engine/LongHeap", "isEmpty", "()Z"⟩ : MethodName)) (z := (⟨"com/example/find_leader/findleader/engine/LongHeap", "isEmpty", "()Z"⟩ : MethodName)) hown (mvT hZ (hw _ (List.mem_of_getElem? (i := 12) rfl))) (mvT hZ (hw _ (List.mem_of_getElem? (i := 13) rfl))) (notFace_of_selects (args := #[]) (mvT hZ (hw _ (List.mem_of_getElem? (i := 15) rfl)))) (mvT hZ (hw _ (List.mem_of_getElem? (i := 15) rfl))) (mvT hZ (hw _ (List.mem_of_getElem? (i := 14) rfl))) (by decide) (backOf (W := 0) (rm3 l Z a0 hw [] a (0 : Int32) T3.heap n0 Z3 Fs3) hZ (hw _ (List.mem_of_getElem? (i := 16) rfl)) (hw _ (List.mem_of_getElem? (i := 2) rfl)) (by decide) (by decide)) q20a q20c (g := (mkF m 148 #[.val (.int p0), .val (.int p1), .val (.long p2), .second, .val (.long p3), .second, .val (.long p4), .second, .val (.ref a), .val (.int (1 : Int32)), .val (.int (0 : Int32)), .val (.int (0 : Int32))] [(.ref a)])) rfl (by rw [hml]; rfl) (Steps.refl _) (argsL := []) (rest := []) (lenOf pd_2 rfl) rfl (by show 2 * 0 + _ ≤ _; exact Nat.le_of_eq rfl) (hb hby at_148) (fun _ _ => ⟨rfl, e10, (Nat.le_of_ble_eq_true rfl), (Nat.le_of_ble_eq_true rfl)⟩)
      dsimp only [Pt.U, Pt.locs, Pt.cells, Pt.slots] at X20 l20 y20 z20 st20 hQ20
      subst l20 y20 z20
      obtain ⟨hv20, N20q, e20⟩ := hQ20
      rw [if_pos rfl] at hv20
      subst hv20
      have N20 := Fr.app N10 N20q
      have pre20s : ∀ tg, Steps p.tables e below (T20.setTop (mkF m 151 #[.val (.int p0), .val (.int p1), .val (.long p2), .second, .val (.long p3), .second, .val (.long p4), .second, .val (.ref a), .val (.int (1 : Int32)), .val (.int (0 : Int32)), .val (.int (0 : Int32))] [(.int (1 : Int32))])) tg → G tg := fun tg kt => pre19 tg (st20.trans kt)
      obtain ⟨fs, hr, hrun, hended, hW, hsame⟩ := X20.leave (v := some (.int (1 : Int32))) (fun h => by rw [Bd.returns] at h; cases h)
      subst hG
      refine ⟨_, _, pre20s _ ?_, hrun, hended, _, _, rfl, ?_, ⟨_, rfl⟩, hW, hsame.mono (by decide) (by decide)⟩
      · skip
        show Steps p.tables e below (T20.setTop (mkF m 151 #[.val (.int p0), .val (.int p1), .val (.long p2), .second, .val (.long p3), .second, .val (.long p4), .second, .val (.ref a), .val (.int (1 : Int32)), .val (.int (0 : Int32)), .val (.int (0 : Int32))] [(.int (1 : Int32))])) _
        refine XS.iload X20.here hx rfl (hb hby at_151) rfl ?_
        show Steps p.tables e below (T20.setTop (mkF m 153 #[.val (.int p0), .val (.int p1), .val (.long p2), .second, .val (.long p3), .second, .val (.long p4), .second, .val (.ref a), .val (.int (1 : Int32)), .val (.int (0 : Int32)), .val (.int (0 : Int32))] [(.int (0 : Int32)), (.int (1 : Int32))])) _
        refine XS.iload X20.here hx rfl (hb hby at_153) rfl ?_
        show Steps p.tables e below (T20.setTop (mkF m 155 #[.val (.int p0), .val (.int p1), .val (.long p2), .second, .val (.long p3), .second, .val (.long p4), .second, .val (.ref a), .val (.int (1 : Int32)), .val (.int (0 : Int32)), .val (.int (0 : Int32))] [(.int (0 : Int32)), (.int (0 : Int32)), (.int (1 : Int32))])) _
        refine XS.icmpNo X20.here hx rfl (hb hby at_155) rfl (teq (by decide : (0 : Int32) = (0 : Int32))).2 ?_
        show Steps p.tables e below (T20.setTop (mkF m 158 #[.val (.int p0), .val (.int p1), .val (.long p2), .second, .val (.long p3), .second, .val (.long p4), .second, .val (.ref a), .val (.int (1 : Int32)), .val (.int (0 : Int32)), .val (.int (0 : Int32))] [(.int (1 : Int32))])) _
        refine XS.iconst X20.here hx rfl (hb hby at_158) ?_
        show Steps p.tables e below (T20.setTop (mkF m 159 #[.val (.int p0), .val (.int p1), .val (.long p2), .second, .val (.long p3), .second, .val (.long p4), .second, .val (.ref a), .val (.int (1 : Int32)), .val (.int (0 : Int32)), .val (.int (0 : Int32))] [(.int (1 : Int32)), (.int (1 : Int32))])) _
        refine XS.goto X20.here hx rfl (pc0 := 159) (pc' := 163) rfl (hb hby at_159) (by decide) (by decide) ?_
        show Steps p.tables e below (T20.setTop (mkF m 163 #[.val (.int p0), .val (.int p1), .val (.long p2), .second, .val (.long p3), .second, .val (.long p4), .second, .val (.ref a), .val (.int (1 : Int32)), .val (.int (0 : Int32)), .val (.int (0 : Int32))] [(.int (1 : Int32)), (.int (1 : Int32))])) _
        refine XS.icmpNo X20.here hx rfl (hb hby at_163) rfl (teq (by decide : (1 : Int32) = (1 : Int32))).2 ?_
        show Steps p.tables e below (T20.setTop (mkF m 166 #[.val (.int p0), .val (.int p1), .val (.long p2), .second, .val (.long p3), .second, .val (.long p4), .second, .val (.ref a), .val (.int (1 : Int32)), .val (.int (0 : Int32)), .val (.int (0 : Int32))] [])) _
        refine XS.iconst X20.here hx rfl (hb hby at_166) ?_
        show Steps p.tables e below (T20.setTop (mkF m 167 #[.val (.int p0), .val (.int p1), .val (.long p2), .second, .val (.long p3), .second, .val (.long p4), .second, .val (.ref a), .val (.int (1 : Int32)), .val (.int (0 : Int32)), .val (.int (0 : Int32))] [(.int (1 : Int32))])) _
        refine XS.goto X20.here hx rfl (pc0 := 167) (pc' := 171) rfl (hb hby at_167) (by decide) (by decide) ?_
        show Steps p.tables e below (T20.setTop (mkF m 171 #[.val (.int p0), .val (.int p1), .val (.long p2), .second, .val (.long p3), .second, .val (.long p4), .second, .val (.ref a), .val (.int (1 : Int32)), .val (.int (0 : Int32)), .val (.int (0 : Int32))] [(.int (1 : Int32))])) _
        refine XS.istore X20.here hx rfl (hb hby at_171) rfl (l' := #[.val (.int p0), .val (.int p1), .val (.long p2), .second, .val (.long p3), .second, .val (.long p4), .second, .val (.ref a), .val (.int (1 : Int32)), .val (.int (0 : Int32)), .val (.int (0 : Int32))]) rfl ?_
        show Steps p.tables e below (T20.setTop (mkF m 173 #[.val (.int p0), .val (.int p1), .val (.long p2), .second, .val (.long p3), .second, .val (.long p4), .second, .val (.ref a), .val (.int (1 : Int32)), .val (.int (0 : Int32)), .val (.int (0 : Int32))] [])) _
        refine XS.iload X20.here hx rfl (hb hby at_173) rfl ?_
        show Steps p.tables e below (T20.setTop (mkF m 175 #[.val (.int p0), .val (.int p1), .val (.long p2), .second, .val (.long p3), .second, .val (.long p4), .second, .val (.ref a), .val (.int (1 : Int32)), .val (.int (0 : Int32)), .val (.int (0 : Int32))] [(.int (1 : Int32))])) _
        exact retN X20 hx (t := .boolean) Bd.returns (by simp) (hb hby at_175) hr
      · show Q_rm0 Z p0 p1 p2 p3 p4 h0 n0 _ T20.heap _
        rw [e20]
        exact ⟨rfl, N20⟩
    · skip
      have pre21 : ∀ tg, Steps p.tables e below (T10.setTop (mkF m 94 #[.val (.int p0), .val (.int p1), .val (.long p2), .second, .val (.long p3), .second, .val (.long p4), .second, .val (.ref a), .val (.int (1 : Int32)), .val (.int (0 : Int32)), .val (.int (3 : Int32))] [])) tg → G tg := fun tg kt => pre11 tg (by rw [hm]; exact kt)
      have pre22 : ∀ tg, Steps p.tables e below (T10.setTop (mkF m 148 #[.val (.int p0), .val (.int p1), .val (.long p2), .second, .val (.long p3), .second, .val (.long p4), .second, .val (.ref a), .val (.int (1 : Int32)), .val (.int (0 : Int32)), .val (.int (0 : Int32))] [(.ref a)])) tg → G tg := fun tg kt => pre21 tg (by
        show Steps p.tables e below (T10.setTop (mkF m 94 #[.val (.int p0), .val (.int p1), .val (.long p2), .second, .val (.long p3), .second, .val (.long p4), .second, .val (.ref a), .val (.int (1 : Int32)), .val (.int (0 : Int32)), .val (.int (3 : Int32))] [])) _
        refine XS.iload X10.here hx rfl (hb hby at_94) rfl ?_
        show Steps p.tables e below (T10.setTop (mkF m 96 #[.val (.int p0), .val (.int p1), .val (.long p2), .second, .val (.long p3), .second, .val (.long p4), .second, .val (.ref a), .val (.int (1 : Int32)), .val (.int (0 : Int32)), .val (.int (3 : Int32))] [(.int (3 : Int32))])) _
        refine XS.iload X10.here hx rfl (hb hby at_96) rfl ?_
        show Steps p.tables e below (T10.setTop (mkF m 98 #[.val (.int p0), .val (.int p1), .val (.long p2), .second, .val (.long p3), .second, .val (.long p4), .second, .val (.ref a), .val (.int (1 : Int32)), .val (.int (0 : Int32)), .val (.int (3 : Int32))] [(.int (0 : Int32)), (.int (3 : Int32))])) _
        refine XS.icmpNo X10.here hx rfl (hb hby at_98) rfl (tlt (by decide : (0 : Int32) < (3 : Int32))).2.2.2 ?_
        show Steps p.tables e below (T10.setTop (mkF m 101 #[.val (.int p0), .val (.int p1), .val (.long p2), .second, .val (.long p3), .second, .val (.long p4), .second, .val (.ref a), .val (.int (1 : Int32)), .val (.int (0 : Int32)), .val (.int (3 : Int32))] [])) _
        refine XS.iload X10.here hx rfl (hb hby at_101) rfl ?_
        show Steps p.tables e below (T10.setTop (mkF m 103 #[.val (.int p0), .val (.int p1), .val (.long p2), .second, .val (.long p3), .second, .val (.long p4), .second, .val (.ref a), .val (.int (1 : Int32)), .val (.int (0 : Int32)), .val (.int (3 : Int32))] [(.int (0 : Int32))])) _
        refine XS.istore X10.here hx rfl (hb hby at_103) rfl (l' := #[.val (.int p0), .val (.int p1), .val (.long p2), .second, .val (.long p3), .second, .val (.long p4), .second, .val (.ref a), .val (.int (1 : Int32)), .val (.int (0 : Int32)), .val (.int (0 : Int32))]) rfl ?_
        show Steps p.tables e below (T10.setTop (mkF m 105 #[.val (.int p0), .val (.int p1), .val (.long p2), .second, .val (.long p3), .second, .val (.long p4), .second, .val (.ref a), .val (.int (1 : Int32)), .val (.int (0 : Int32)), .val (.int (0 : Int32))] [])) _
        refine XS.iload X10.here hx rfl (hb hby at_105) rfl ?_
        show Steps p.tables e below (T10.setTop (mkF m 107 #[.val (.int p0), .val (.int p1), .val (.long p2), .second, .val (.long p3), .second, .val (.long p4), .second, .val (.ref a), .val (.int (1 : Int32)), .val (.int (0 : Int32)), .val (.int (0 : Int32))] [(.int (0 : Int32))])) _
        refine XS.iconst X10.here hx rfl (hb hby at_107) ?_
        show Steps p.tables e below (T10.setTop (mkF m 108 #[.val (.int p0), .val (.int p1), .val (.long p2), .second, .val (.long p3), .second, .val (.long p4), .second, .val (.ref a), .val (.int (1 : Int32)), .val (.int (0 : Int32)), .val (.int (0 : Int32))] [(.int (1 : Int32)), (.int (0 : Int32))])) _
        refine XS.icmpYes X10.here hx rfl (pc0 := 108) (pc' := 117) rfl (hb hby at_108) rfl (tlt (by decide : (0 : Int32) < (1 : Int32))).1 (by decide) (by decide) ?_
        show Steps p.tables e below (T10.setTop (mkF m 117 #[.val (.int p0), .val (.int p1), .val (.long p2), .second, .val (.long p3), .second, .val (.long p4), .second, .val (.ref a), .val (.int (1 : Int32)), .val (.int (0 : Int32)), .val (.int (0 : Int32))] [])) _
        refine XS.iload X10.here hx rfl (hb hby at_117) rfl ?_
        show Steps p.tables e below (T10.setTop (mkF m 119 #[.val (.int p0), .val (.int p1), .val (.long p2), .second, .val (.long p3), .second, .val (.long p4), .second, .val (.ref a), .val (.int (1 : Int32)), .val (.int (0 : Int32)), .val (.int (0 : Int32))] [(.int (0 : Int32))])) _
        refine XS.iconst X10.here hx rfl (hb hby at_119) ?_
        show Steps p.tables e below (T10.setTop (mkF m 120 #[.val (.int p0), .val (.int p1), .val (.long p2), .second, .val (.long p3), .second, .val (.long p4), .second, .val (.ref a), .val (.int (1 : Int32)), .val (.int (0 : Int32)), .val (.int (0 : Int32))] [(.int (2 : Int32)), (.int (0 : Int32))])) _
        refine XS.icmpYes X10.here hx rfl (pc0 := 120) (pc' := 129) rfl (hb hby at_120) rfl (tlt (by decide : (0 : Int32) < (2 : Int32))).1 (by decide) (by decide) ?_
        show Steps p.tables e below (T10.setTop (mkF m 129 #[.val (.int p0), .val (.int p1), .val (.long p2), .second, .val (.long p3), .second, .val (.long p4), .second, .val (.ref a), .val (.int (1 : Int32)), .val (.int (0 : Int32)), .val (.int (0 : Int32))] [])) _
        refine XS.iload X10.here hx rfl (hb hby at_129) rfl ?_
        show Steps p.tables e below (T10.setTop (mkF m 131 #[.val (.int p0), .val (.int p1), .val (.long p2), .second, .val (.long p3), .second, .val (.long p4), .second, .val (.ref a), .val (.int (1 : Int32)), .val (.int (0 : Int32)), .val (.int (0 : Int32))] [(.int (0 : Int32))])) _
        refine XS.iconst X10.here hx rfl (hb hby at_131) ?_
        show Steps p.tables e below (T10.setTop (mkF m 132 #[.val (.int p0), .val (.int p1), .val (.long p2), .second, .val (.long p3), .second, .val (.long p4), .second, .val (.ref a), .val (.int (1 : Int32)), .val (.int (0 : Int32)), .val (.int (0 : Int32))] [(.int (3 : Int32)), (.int (0 : Int32))])) _
        refine XS.icmpYes X10.here hx rfl (pc0 := 132) (pc' := 141) rfl (hb hby at_132) rfl (tlt (by decide : (0 : Int32) < (3 : Int32))).1 (by decide) (by decide) ?_
        show Steps p.tables e below (T10.setTop (mkF m 141 #[.val (.int p0), .val (.int p1), .val (.long p2), .second, .val (.long p3), .second, .val (.long p4), .second, .val (.ref a), .val (.int (1 : Int32)), .val (.int (0 : Int32)), .val (.int (0 : Int32))] [])) _
        refine XS.iload X10.here hx rfl (hb hby at_141) rfl ?_
        show Steps p.tables e below (T10.setTop (mkF m 143 #[.val (.int p0), .val (.int p1), .val (.long p2), .second, .val (.long p3), .second, .val (.long p4), .second, .val (.ref a), .val (.int (1 : Int32)), .val (.int (0 : Int32)), .val (.int (0 : Int32))] [(.int (1 : Int32))])) _
        refine XS.ifNo X10.here hx rfl (hb hby at_143) rfl ((if0 _ _).trans (feq (by decide : ¬ ((1 : Int32) = (0 : Int32)))).1) ?_
        show Steps p.tables e below (T10.setTop (mkF m 146 #[.val (.int p0), .val (.int p1), .val (.long p2), .second, .val (.long p3), .second, .val (.long p4), .second, .val (.ref a), .val (.int (1 : Int32)), .val (.int (0 : Int32)), .val (.int (0 : Int32))] [])) _
        refine XS.aload X10.here hx rfl (hb hby at_146) rfl rfl ?_
        exact kt)
      obtain ⟨cq23, kq23, q23a, q23b, q23c⟩ := isOf hZ e10 A1_4
      obtain ⟨_, _, ⟨T23, L23, k23, n23⟩, -, X23, ⟨Lc23, hQ23, l23, y23, z23⟩, st23⟩ := X10.virtualBack hx (y := (⟨"com/example/find_leader/findleader/engine/LongHeap", "isEmpty", "()Z"⟩ : MethodName)) (z := (⟨"com/example/find_leader/findleader/engine/LongHeap", "isEmpty", "()Z"⟩ : MethodName)) hown (mvT hZ (hw _ (List.mem_of_getElem? (i := 12) rfl))) (mvT hZ (hw _ (List.mem_of_getElem? (i := 13) rfl))) (notFace_of_selects (args := #[]) (mvT hZ (hw _ (List.mem_of_getElem? (i := 15) rfl)))) (mvT hZ (hw _ (List.mem_of_getElem? (i := 15) rfl))) (mvT hZ (hw _ (List.mem_of_getElem? (i := 14) rfl))) (by decide) (backOf (W := 0) (rm3 l Z a0 hw [] a (0 : Int32) T3.heap n0 Z3 Fs3) hZ (hw _ (List.mem_of_getElem? (i := 16) rfl)) (hw _ (List.mem_of_getElem? (i := 2) rfl)) (by decide) (by decide)) q23a q23c (g := (mkF m 148 #[.val (.int p0), .val (.int p1), .val (.long p2), .second, .val (.long p3), .second, .val (.long p4), .second, .val (.ref a), .val (.int (1 : Int32)), .val (.int (0 : Int32)), .val (.int (0 : Int32))] [(.ref a)])) rfl (by rw [hml]; rfl) (Steps.refl _) (argsL := []) (rest := []) (lenOf pd_2 rfl) rfl (by show 2 * 0 + _ ≤ _; exact Nat.le_of_eq rfl) (hb hby at_148) (fun _ _ => ⟨rfl, e10, (Nat.le_of_ble_eq_true rfl), (Nat.le_of_ble_eq_true rfl)⟩)
      dsimp only [Pt.U, Pt.locs, Pt.cells, Pt.slots] at X23 l23 y23 z23 st23 hQ23
      subst l23 y23 z23
      obtain ⟨hv23, N23q, e23⟩ := hQ23
      rw [if_pos rfl] at hv23
      subst hv23
      have N23 := Fr.app N10 N23q
      have pre23s : ∀ tg, Steps p.tables e below (T23.setTop (mkF m 151 #[.val (.int p0), .val (.int p1), .val (.long p2), .second, .val (.long p3), .second, .val (.long p4), .second, .val (.ref a), .val (.int (1 : Int32)), .val (.int (0 : Int32)), .val (.int (0 : Int32))] [(.int (1 : Int32))])) tg → G tg := fun tg kt => pre22 tg (st23.trans kt)
      obtain ⟨fs, hr, hrun, hended, hW, hsame⟩ := X23.leave (v := some (.int (1 : Int32))) (fun h => by rw [Bd.returns] at h; cases h)
      subst hG
      refine ⟨_, _, pre23s _ ?_, hrun, hended, _, _, rfl, ?_, ⟨_, rfl⟩, hW, hsame.mono (by decide) (by decide)⟩
      · skip
        show Steps p.tables e below (T23.setTop (mkF m 151 #[.val (.int p0), .val (.int p1), .val (.long p2), .second, .val (.long p3), .second, .val (.long p4), .second, .val (.ref a), .val (.int (1 : Int32)), .val (.int (0 : Int32)), .val (.int (0 : Int32))] [(.int (1 : Int32))])) _
        refine XS.iload X23.here hx rfl (hb hby at_151) rfl ?_
        show Steps p.tables e below (T23.setTop (mkF m 153 #[.val (.int p0), .val (.int p1), .val (.long p2), .second, .val (.long p3), .second, .val (.long p4), .second, .val (.ref a), .val (.int (1 : Int32)), .val (.int (0 : Int32)), .val (.int (0 : Int32))] [(.int (0 : Int32)), (.int (1 : Int32))])) _
        refine XS.iload X23.here hx rfl (hb hby at_153) rfl ?_
        show Steps p.tables e below (T23.setTop (mkF m 155 #[.val (.int p0), .val (.int p1), .val (.long p2), .second, .val (.long p3), .second, .val (.long p4), .second, .val (.ref a), .val (.int (1 : Int32)), .val (.int (0 : Int32)), .val (.int (0 : Int32))] [(.int (0 : Int32)), (.int (0 : Int32)), (.int (1 : Int32))])) _
        refine XS.icmpNo X23.here hx rfl (hb hby at_155) rfl (teq (by decide : (0 : Int32) = (0 : Int32))).2 ?_
        show Steps p.tables e below (T23.setTop (mkF m 158 #[.val (.int p0), .val (.int p1), .val (.long p2), .second, .val (.long p3), .second, .val (.long p4), .second, .val (.ref a), .val (.int (1 : Int32)), .val (.int (0 : Int32)), .val (.int (0 : Int32))] [(.int (1 : Int32))])) _
        refine XS.iconst X23.here hx rfl (hb hby at_158) ?_
        show Steps p.tables e below (T23.setTop (mkF m 159 #[.val (.int p0), .val (.int p1), .val (.long p2), .second, .val (.long p3), .second, .val (.long p4), .second, .val (.ref a), .val (.int (1 : Int32)), .val (.int (0 : Int32)), .val (.int (0 : Int32))] [(.int (1 : Int32)), (.int (1 : Int32))])) _
        refine XS.goto X23.here hx rfl (pc0 := 159) (pc' := 163) rfl (hb hby at_159) (by decide) (by decide) ?_
        show Steps p.tables e below (T23.setTop (mkF m 163 #[.val (.int p0), .val (.int p1), .val (.long p2), .second, .val (.long p3), .second, .val (.long p4), .second, .val (.ref a), .val (.int (1 : Int32)), .val (.int (0 : Int32)), .val (.int (0 : Int32))] [(.int (1 : Int32)), (.int (1 : Int32))])) _
        refine XS.icmpNo X23.here hx rfl (hb hby at_163) rfl (teq (by decide : (1 : Int32) = (1 : Int32))).2 ?_
        show Steps p.tables e below (T23.setTop (mkF m 166 #[.val (.int p0), .val (.int p1), .val (.long p2), .second, .val (.long p3), .second, .val (.long p4), .second, .val (.ref a), .val (.int (1 : Int32)), .val (.int (0 : Int32)), .val (.int (0 : Int32))] [])) _
        refine XS.iconst X23.here hx rfl (hb hby at_166) ?_
        show Steps p.tables e below (T23.setTop (mkF m 167 #[.val (.int p0), .val (.int p1), .val (.long p2), .second, .val (.long p3), .second, .val (.long p4), .second, .val (.ref a), .val (.int (1 : Int32)), .val (.int (0 : Int32)), .val (.int (0 : Int32))] [(.int (1 : Int32))])) _
        refine XS.goto X23.here hx rfl (pc0 := 167) (pc' := 171) rfl (hb hby at_167) (by decide) (by decide) ?_
        show Steps p.tables e below (T23.setTop (mkF m 171 #[.val (.int p0), .val (.int p1), .val (.long p2), .second, .val (.long p3), .second, .val (.long p4), .second, .val (.ref a), .val (.int (1 : Int32)), .val (.int (0 : Int32)), .val (.int (0 : Int32))] [(.int (1 : Int32))])) _
        refine XS.istore X23.here hx rfl (hb hby at_171) rfl (l' := #[.val (.int p0), .val (.int p1), .val (.long p2), .second, .val (.long p3), .second, .val (.long p4), .second, .val (.ref a), .val (.int (1 : Int32)), .val (.int (0 : Int32)), .val (.int (0 : Int32))]) rfl ?_
        show Steps p.tables e below (T23.setTop (mkF m 173 #[.val (.int p0), .val (.int p1), .val (.long p2), .second, .val (.long p3), .second, .val (.long p4), .second, .val (.ref a), .val (.int (1 : Int32)), .val (.int (0 : Int32)), .val (.int (0 : Int32))] [])) _
        refine XS.iload X23.here hx rfl (hb hby at_173) rfl ?_
        show Steps p.tables e below (T23.setTop (mkF m 175 #[.val (.int p0), .val (.int p1), .val (.long p2), .second, .val (.long p3), .second, .val (.long p4), .second, .val (.ref a), .val (.int (1 : Int32)), .val (.int (0 : Int32)), .val (.int (0 : Int32))] [(.int (1 : Int32))])) _
        exact retN X23 hx (t := .boolean) Bd.returns (by simp) (hb hby at_175) hr
      · show Q_rm0 Z p0 p1 p2 p3 p4 h0 n0 _ T23.heap _
        rw [e23]
        exact ⟨rfl, N23⟩
  · skip
    have pre24 : ∀ tg, Steps p.tables e below (T6.setTop (mkF m 24 #[.val (.int p0), .val (.int p1), .val (.long p2), .second, .val (.long p3), .second, .val (.long p4), .second, .val (.ref a), .val (.int (1 : Int32)), .val (.int (1 : Int32)), .unset] [(.int (1 : Int32)), (.int (1 : Int32))])) tg → G tg := fun tg kt => pre7 tg (by rw [hn]; exact kt)
    have pre25 : ∀ tg, Steps p.tables e below (T6.setTop (mkF m 30 #[.val (.int p0), .val (.int p1), .val (.long p2), .second, .val (.long p3), .second, .val (.long p4), .second, .val (.ref a), .val (.int (1 : Int32)), .val (.int (1 : Int32)), .unset] [(.long p2), (.ref a)])) tg → G tg := fun tg kt => pre24 tg (by
      show Steps p.tables e below (T6.setTop (mkF m 24 #[.val (.int p0), .val (.int p1), .val (.long p2), .second, .val (.long p3), .second, .val (.long p4), .second, .val (.ref a), .val (.int (1 : Int32)), .val (.int (1 : Int32)), .unset] [(.int (1 : Int32)), (.int (1 : Int32))])) _
      refine XS.icmpNo X6.here hx rfl (hb hby at_24) rfl (flt (by decide : ¬ ((1 : Int32) < (1 : Int32)))).1 ?_
      show Steps p.tables e below (T6.setTop (mkF m 27 #[.val (.int p0), .val (.int p1), .val (.long p2), .second, .val (.long p3), .second, .val (.long p4), .second, .val (.ref a), .val (.int (1 : Int32)), .val (.int (1 : Int32)), .unset] [])) _
      refine XS.aload X6.here hx rfl (hb hby at_27) rfl rfl ?_
      show Steps p.tables e below (T6.setTop (mkF m 29 #[.val (.int p0), .val (.int p1), .val (.long p2), .second, .val (.long p3), .second, .val (.long p4), .second, .val (.ref a), .val (.int (1 : Int32)), .val (.int (1 : Int32)), .unset] [(.ref a)])) _
      refine XS.lloadN X6.here hx rfl (hb hby at_29) rfl ?_
      exact kt)
    obtain ⟨cq26, kq26, q26a, q26b, q26c⟩ := isOf hZ e6 A1_4
    obtain ⟨_, _, ⟨T26, L26, k26, n26⟩, -, X26, ⟨Lc26, hQ26, l26, y26, z26⟩, st26⟩ := X6.virtualBack hx (y := (⟨"com/example/find_leader/findleader/engine/LongHeap", "add", "(J)V"⟩ : MethodName)) (z := (⟨"com/example/find_leader/findleader/engine/LongHeap", "add", "(J)V"⟩ : MethodName)) hown (mvT hZ (hw _ (List.mem_of_getElem? (i := 19) rfl))) (mvT hZ (hw _ (List.mem_of_getElem? (i := 20) rfl))) (notFace_of_selects (args := #[]) (mvT hZ (hw _ (List.mem_of_getElem? (i := 22) rfl)))) (mvT hZ (hw _ (List.mem_of_getElem? (i := 22) rfl))) (mvT hZ (hw _ (List.mem_of_getElem? (i := 21) rfl))) (by decide) (backOf (W := 0) (rm4_0 l Z a0 hw [] a p2 b kA (0 : Int64) (0 : Int64) (0 : Int64) T3.heap n0 Z3 A1_4 Fv3 Fs3 Vb3 O_a O_b ne_a_b) hZ (hw _ (List.mem_of_getElem? (i := 23) rfl)) (hw _ (List.mem_of_getElem? (i := 2) rfl)) (by decide) (by decide)) q26a q26c (g := (mkF m 30 #[.val (.int p0), .val (.int p1), .val (.long p2), .second, .val (.long p3), .second, .val (.long p4), .second, .val (.ref a), .val (.int (1 : Int32)), .val (.int (1 : Int32)), .unset] [(.long p2), (.ref a)])) rfl (by rw [hml]; rfl) (Steps.refl _) (argsL := [(.long p2)]) (rest := []) (lenOf pd_3 rfl) rfl (by show 2 * 0 + _ ≤ _; exact Nat.le_of_eq rfl) (hb hby at_30) (fun _ _ => ⟨rfl, e6, (Nat.le_of_ble_eq_true rfl), (Nat.le_of_ble_eq_true rfl)⟩)
    dsimp only [Pt.U, Pt.locs, Pt.cells, Pt.slots] at X26 l26 y26 z26 st26 hQ26
    subst l26 y26 z26
    obtain ⟨rfl, N26q, K26, wa26, wb26, wc26, Fv26, Fs26, Vb26⟩ := hQ26
    have N26 := Fr.app N6 N26q
    have pre26s : ∀ tg, Steps p.tables e below (T26.setTop (mkF m 33 #[.val (.int p0), .val (.int p1), .val (.long p2), .second, .val (.long p3), .second, .val (.long p4), .second, .val (.ref a), .val (.int (1 : Int32)), .val (.int (1 : Int32)), .unset] [])) tg → G tg := fun tg kt => pre25 tg (st26.trans kt)
    have Z26 : n0 ≤ T26.heap.size := Nat.le_trans Z3 K26.1
    have A1_27 := A1_4.keep K26
    have pre28 : ∀ tg, Steps p.tables e below (T26.setTop (mkF m 66 #[.val (.int p0), .val (.int p1), .val (.long p2), .second, .val (.long p3), .second, .val (.long p4), .second, .val (.ref a), .val (.int (1 : Int32)), .val (.int (1 : Int32)), .unset] [(.ref a)])) tg → G tg := fun tg kt => pre26s tg (by
      show Steps p.tables e below (T26.setTop (mkF m 33 #[.val (.int p0), .val (.int p1), .val (.long p2), .second, .val (.long p3), .second, .val (.long p4), .second, .val (.ref a), .val (.int (1 : Int32)), .val (.int (1 : Int32)), .unset] [])) _
      refine XS.iload X26.here hx rfl (hb hby at_33) rfl ?_
      show Steps p.tables e below (T26.setTop (mkF m 35 #[.val (.int p0), .val (.int p1), .val (.long p2), .second, .val (.long p3), .second, .val (.long p4), .second, .val (.ref a), .val (.int (1 : Int32)), .val (.int (1 : Int32)), .unset] [(.int (1 : Int32))])) _
      refine XS.iconst X26.here hx rfl (hb hby at_35) ?_
      show Steps p.tables e below (T26.setTop (mkF m 36 #[.val (.int p0), .val (.int p1), .val (.long p2), .second, .val (.long p3), .second, .val (.long p4), .second, .val (.ref a), .val (.int (1 : Int32)), .val (.int (1 : Int32)), .unset] [(.int (2 : Int32)), (.int (1 : Int32))])) _
      refine XS.icmpYes X26.here hx rfl (pc0 := 36) (pc' := 46) rfl (hb hby at_36) rfl (tlt (by decide : (1 : Int32) < (2 : Int32))).1 (by decide) (by decide) ?_
      show Steps p.tables e below (T26.setTop (mkF m 46 #[.val (.int p0), .val (.int p1), .val (.long p2), .second, .val (.long p3), .second, .val (.long p4), .second, .val (.ref a), .val (.int (1 : Int32)), .val (.int (1 : Int32)), .unset] [])) _
      refine XS.iload X26.here hx rfl (hb hby at_46) rfl ?_
      show Steps p.tables e below (T26.setTop (mkF m 48 #[.val (.int p0), .val (.int p1), .val (.long p2), .second, .val (.long p3), .second, .val (.long p4), .second, .val (.ref a), .val (.int (1 : Int32)), .val (.int (1 : Int32)), .unset] [(.int (1 : Int32))])) _
      refine XS.iconst X26.here hx rfl (hb hby at_48) ?_
      show Steps p.tables e below (T26.setTop (mkF m 49 #[.val (.int p0), .val (.int p1), .val (.long p2), .second, .val (.long p3), .second, .val (.long p4), .second, .val (.ref a), .val (.int (1 : Int32)), .val (.int (1 : Int32)), .unset] [(.int (3 : Int32)), (.int (1 : Int32))])) _
      refine XS.icmpYes X26.here hx rfl (pc0 := 49) (pc' := 59) rfl (hb hby at_49) rfl (tlt (by decide : (1 : Int32) < (3 : Int32))).1 (by decide) (by decide) ?_
      show Steps p.tables e below (T26.setTop (mkF m 59 #[.val (.int p0), .val (.int p1), .val (.long p2), .second, .val (.long p3), .second, .val (.long p4), .second, .val (.ref a), .val (.int (1 : Int32)), .val (.int (1 : Int32)), .unset] [])) _
      refine XS.iload X26.here hx rfl (hb hby at_59) rfl ?_
      show Steps p.tables e below (T26.setTop (mkF m 61 #[.val (.int p0), .val (.int p1), .val (.long p2), .second, .val (.long p3), .second, .val (.long p4), .second, .val (.ref a), .val (.int (1 : Int32)), .val (.int (1 : Int32)), .unset] [(.int (1 : Int32))])) _
      refine XS.ifNo X26.here hx rfl (hb hby at_61) rfl ((if0 _ _).trans (feq (by decide : ¬ ((1 : Int32) = (0 : Int32)))).1) ?_
      show Steps p.tables e below (T26.setTop (mkF m 64 #[.val (.int p0), .val (.int p1), .val (.long p2), .second, .val (.long p3), .second, .val (.long p4), .second, .val (.ref a), .val (.int (1 : Int32)), .val (.int (1 : Int32)), .unset] [])) _
      refine XS.aload X26.here hx rfl (hb hby at_64) rfl rfl ?_
      exact kt)
    obtain ⟨cq29, kq29, q29a, q29b, q29c⟩ := isOf hZ rfl A1_27
    obtain ⟨_, _, ⟨T29, L29, k29, n29⟩, -, X29, ⟨Lc29, hQ29, l29, y29, z29⟩, st29⟩ := X26.virtualBack hx (y := (⟨"com/example/find_leader/findleader/engine/LongHeap", "isEmpty", "()Z"⟩ : MethodName)) (z := (⟨"com/example/find_leader/findleader/engine/LongHeap", "isEmpty", "()Z"⟩ : MethodName)) hown (mvT hZ (hw _ (List.mem_of_getElem? (i := 12) rfl))) (mvT hZ (hw _ (List.mem_of_getElem? (i := 13) rfl))) (notFace_of_selects (args := #[]) (mvT hZ (hw _ (List.mem_of_getElem? (i := 15) rfl)))) (mvT hZ (hw _ (List.mem_of_getElem? (i := 15) rfl))) (mvT hZ (hw _ (List.mem_of_getElem? (i := 14) rfl))) (by decide) (backOf (W := 0) (rm3 l Z a0 hw [] a (1 : Int32) T26.heap n0 Z26 Fs26) hZ (hw _ (List.mem_of_getElem? (i := 16) rfl)) (hw _ (List.mem_of_getElem? (i := 2) rfl)) (by decide) (by decide)) q29a q29c (g := (mkF m 66 #[.val (.int p0), .val (.int p1), .val (.long p2), .second, .val (.long p3), .second, .val (.long p4), .second, .val (.ref a), .val (.int (1 : Int32)), .val (.int (1 : Int32)), .unset] [(.ref a)])) rfl (by rw [hml]; rfl) (Steps.refl _) (argsL := []) (rest := []) (lenOf pd_2 rfl) rfl (by show 2 * 0 + _ ≤ _; exact Nat.le_of_eq rfl) (hb hby at_66) (fun _ _ => ⟨rfl, rfl, (Nat.le_of_ble_eq_true rfl), (Nat.le_of_ble_eq_true rfl)⟩)
    dsimp only [Pt.U, Pt.locs, Pt.cells, Pt.slots] at X29 l29 y29 z29 st29 hQ29
    subst l29 y29 z29
    obtain ⟨hv29, N29q, e29⟩ := hQ29
    rw [if_neg (by decide)] at hv29
    subst hv29
    have N29 := Fr.app N26 N29q
    have pre29s : ∀ tg, Steps p.tables e below (T29.setTop (mkF m 69 #[.val (.int p0), .val (.int p1), .val (.long p2), .second, .val (.long p3), .second, .val (.long p4), .second, .val (.ref a), .val (.int (1 : Int32)), .val (.int (1 : Int32)), .unset] [(.int (0 : Int32))])) tg → G tg := fun tg kt => pre28 tg (st29.trans kt)
    have pre30 : ∀ tg, Steps p.tables e below (T29.setTop (mkF m 94 #[.val (.int p0), .val (.int p1), .val (.long p2), .second, .val (.long p3), .second, .val (.long p4), .second, .val (.ref a), .val (.int (1 : Int32)), .val (.int (1 : Int32)), .val (.int (p1 &&& (3 : Int32)))] [])) tg → G tg := fun tg kt => pre29s tg (by
      show Steps p.tables e below (T29.setTop (mkF m 69 #[.val (.int p0), .val (.int p1), .val (.long p2), .second, .val (.long p3), .second, .val (.long p4), .second, .val (.ref a), .val (.int (1 : Int32)), .val (.int (1 : Int32)), .unset] [(.int (0 : Int32))])) _
      refine XS.iload X29.here hx rfl (hb hby at_69) rfl ?_
      show Steps p.tables e below (T29.setTop (mkF m 71 #[.val (.int p0), .val (.int p1), .val (.long p2), .second, .val (.long p3), .second, .val (.long p4), .second, .val (.ref a), .val (.int (1 : Int32)), .val (.int (1 : Int32)), .unset] [(.int (1 : Int32)), (.int (0 : Int32))])) _
      refine XS.ifYes X29.here hx rfl (pc0 := 71) (pc' := 78) rfl (hb hby at_71) rfl ((if0 _ _).trans (feq (by decide : ¬ ((1 : Int32) = (0 : Int32)))).2) (by decide) (by decide) ?_
      show Steps p.tables e below (T29.setTop (mkF m 78 #[.val (.int p0), .val (.int p1), .val (.long p2), .second, .val (.long p3), .second, .val (.long p4), .second, .val (.ref a), .val (.int (1 : Int32)), .val (.int (1 : Int32)), .unset] [(.int (0 : Int32))])) _
      refine XS.iconst X29.here hx rfl (hb hby at_78) ?_
      show Steps p.tables e below (T29.setTop (mkF m 79 #[.val (.int p0), .val (.int p1), .val (.long p2), .second, .val (.long p3), .second, .val (.long p4), .second, .val (.ref a), .val (.int (1 : Int32)), .val (.int (1 : Int32)), .unset] [(.int (0 : Int32)), (.int (0 : Int32))])) _
      refine XS.icmpNo X29.here hx rfl (hb hby at_79) rfl (teq (by decide : (0 : Int32) = (0 : Int32))).2 ?_
      show Steps p.tables e below (T29.setTop (mkF m 82 #[.val (.int p0), .val (.int p1), .val (.long p2), .second, .val (.long p3), .second, .val (.long p4), .second, .val (.ref a), .val (.int (1 : Int32)), .val (.int (1 : Int32)), .unset] [])) _
      refine XS.iconst X29.here hx rfl (hb hby at_82) ?_
      show Steps p.tables e below (T29.setTop (mkF m 83 #[.val (.int p0), .val (.int p1), .val (.long p2), .second, .val (.long p3), .second, .val (.long p4), .second, .val (.ref a), .val (.int (1 : Int32)), .val (.int (1 : Int32)), .unset] [(.int (1 : Int32))])) _
      refine XS.goto X29.here hx rfl (pc0 := 83) (pc' := 87) rfl (hb hby at_83) (by decide) (by decide) ?_
      show Steps p.tables e below (T29.setTop (mkF m 87 #[.val (.int p0), .val (.int p1), .val (.long p2), .second, .val (.long p3), .second, .val (.long p4), .second, .val (.ref a), .val (.int (1 : Int32)), .val (.int (1 : Int32)), .unset] [(.int (1 : Int32))])) _
      refine XS.istore X29.here hx rfl (hb hby at_87) rfl (l' := #[.val (.int p0), .val (.int p1), .val (.long p2), .second, .val (.long p3), .second, .val (.long p4), .second, .val (.ref a), .val (.int (1 : Int32)), .val (.int (1 : Int32)), .unset]) rfl ?_
      show Steps p.tables e below (T29.setTop (mkF m 89 #[.val (.int p0), .val (.int p1), .val (.long p2), .second, .val (.long p3), .second, .val (.long p4), .second, .val (.ref a), .val (.int (1 : Int32)), .val (.int (1 : Int32)), .unset] [])) _
      refine XS.iloadN X29.here hx rfl (hb hby at_89) rfl ?_
      show Steps p.tables e below (T29.setTop (mkF m 90 #[.val (.int p0), .val (.int p1), .val (.long p2), .second, .val (.long p3), .second, .val (.long p4), .second, .val (.ref a), .val (.int (1 : Int32)), .val (.int (1 : Int32)), .unset] [(.int p1)])) _
      refine XS.iconst X29.here hx rfl (hb hby at_90) ?_
      show Steps p.tables e below (T29.setTop (mkF m 91 #[.val (.int p0), .val (.int p1), .val (.long p2), .second, .val (.long p3), .second, .val (.long p4), .second, .val (.ref a), .val (.int (1 : Int32)), .val (.int (1 : Int32)), .unset] [(.int (3 : Int32)), (.int p1)])) _
      refine XS.iand X29.here hx rfl (hb hby at_91) rfl ?_
      show Steps p.tables e below (T29.setTop (mkF m 92 #[.val (.int p0), .val (.int p1), .val (.long p2), .second, .val (.long p3), .second, .val (.long p4), .second, .val (.ref a), .val (.int (1 : Int32)), .val (.int (1 : Int32)), .unset] [(.int (p1 &&& (3 : Int32)))])) _
      refine XS.istore X29.here hx rfl (hb hby at_92) rfl (l' := #[.val (.int p0), .val (.int p1), .val (.long p2), .second, .val (.long p3), .second, .val (.long p4), .second, .val (.ref a), .val (.int (1 : Int32)), .val (.int (1 : Int32)), .val (.int (p1 &&& (3 : Int32)))]) rfl ?_
      exact kt)
    rcases own_four p1 with hm | hm | hm | hm
    · skip
      have pre31 : ∀ tg, Steps p.tables e below (T29.setTop (mkF m 94 #[.val (.int p0), .val (.int p1), .val (.long p2), .second, .val (.long p3), .second, .val (.long p4), .second, .val (.ref a), .val (.int (1 : Int32)), .val (.int (1 : Int32)), .val (.int (0 : Int32))] [])) tg → G tg := fun tg kt => pre30 tg (by rw [hm]; exact kt)
      have pre32 : ∀ tg, Steps p.tables e below (T29.setTop (mkF m 148 #[.val (.int p0), .val (.int p1), .val (.long p2), .second, .val (.long p3), .second, .val (.long p4), .second, .val (.ref a), .val (.int (1 : Int32)), .val (.int (1 : Int32)), .val (.int (0 : Int32))] [(.ref a)])) tg → G tg := fun tg kt => pre31 tg (by
        show Steps p.tables e below (T29.setTop (mkF m 94 #[.val (.int p0), .val (.int p1), .val (.long p2), .second, .val (.long p3), .second, .val (.long p4), .second, .val (.ref a), .val (.int (1 : Int32)), .val (.int (1 : Int32)), .val (.int (0 : Int32))] [])) _
        refine XS.iload X29.here hx rfl (hb hby at_94) rfl ?_
        show Steps p.tables e below (T29.setTop (mkF m 96 #[.val (.int p0), .val (.int p1), .val (.long p2), .second, .val (.long p3), .second, .val (.long p4), .second, .val (.ref a), .val (.int (1 : Int32)), .val (.int (1 : Int32)), .val (.int (0 : Int32))] [(.int (0 : Int32))])) _
        refine XS.iload X29.here hx rfl (hb hby at_96) rfl ?_
        show Steps p.tables e below (T29.setTop (mkF m 98 #[.val (.int p0), .val (.int p1), .val (.long p2), .second, .val (.long p3), .second, .val (.long p4), .second, .val (.ref a), .val (.int (1 : Int32)), .val (.int (1 : Int32)), .val (.int (0 : Int32))] [(.int (1 : Int32)), (.int (0 : Int32))])) _
        refine XS.icmpYes X29.here hx rfl (pc0 := 98) (pc' := 105) rfl (hb hby at_98) rfl (flt (by decide : ¬ ((1 : Int32) < (0 : Int32)))).2.2.2 (by decide) (by decide) ?_
        show Steps p.tables e below (T29.setTop (mkF m 105 #[.val (.int p0), .val (.int p1), .val (.long p2), .second, .val (.long p3), .second, .val (.long p4), .second, .val (.ref a), .val (.int (1 : Int32)), .val (.int (1 : Int32)), .val (.int (0 : Int32))] [])) _
        refine XS.iload X29.here hx rfl (hb hby at_105) rfl ?_
        show Steps p.tables e below (T29.setTop (mkF m 107 #[.val (.int p0), .val (.int p1), .val (.long p2), .second, .val (.long p3), .second, .val (.long p4), .second, .val (.ref a), .val (.int (1 : Int32)), .val (.int (1 : Int32)), .val (.int (0 : Int32))] [(.int (0 : Int32))])) _
        refine XS.iconst X29.here hx rfl (hb hby at_107) ?_
        show Steps p.tables e below (T29.setTop (mkF m 108 #[.val (.int p0), .val (.int p1), .val (.long p2), .second, .val (.long p3), .second, .val (.long p4), .second, .val (.ref a), .val (.int (1 : Int32)), .val (.int (1 : Int32)), .val (.int (0 : Int32))] [(.int (1 : Int32)), (.int (0 : Int32))])) _
        refine XS.icmpYes X29.here hx rfl (pc0 := 108) (pc' := 117) rfl (hb hby at_108) rfl (tlt (by decide : (0 : Int32) < (1 : Int32))).1 (by decide) (by decide) ?_
        show Steps p.tables e below (T29.setTop (mkF m 117 #[.val (.int p0), .val (.int p1), .val (.long p2), .second, .val (.long p3), .second, .val (.long p4), .second, .val (.ref a), .val (.int (1 : Int32)), .val (.int (1 : Int32)), .val (.int (0 : Int32))] [])) _
        refine XS.iload X29.here hx rfl (hb hby at_117) rfl ?_
        show Steps p.tables e below (T29.setTop (mkF m 119 #[.val (.int p0), .val (.int p1), .val (.long p2), .second, .val (.long p3), .second, .val (.long p4), .second, .val (.ref a), .val (.int (1 : Int32)), .val (.int (1 : Int32)), .val (.int (0 : Int32))] [(.int (0 : Int32))])) _
        refine XS.iconst X29.here hx rfl (hb hby at_119) ?_
        show Steps p.tables e below (T29.setTop (mkF m 120 #[.val (.int p0), .val (.int p1), .val (.long p2), .second, .val (.long p3), .second, .val (.long p4), .second, .val (.ref a), .val (.int (1 : Int32)), .val (.int (1 : Int32)), .val (.int (0 : Int32))] [(.int (2 : Int32)), (.int (0 : Int32))])) _
        refine XS.icmpYes X29.here hx rfl (pc0 := 120) (pc' := 129) rfl (hb hby at_120) rfl (tlt (by decide : (0 : Int32) < (2 : Int32))).1 (by decide) (by decide) ?_
        show Steps p.tables e below (T29.setTop (mkF m 129 #[.val (.int p0), .val (.int p1), .val (.long p2), .second, .val (.long p3), .second, .val (.long p4), .second, .val (.ref a), .val (.int (1 : Int32)), .val (.int (1 : Int32)), .val (.int (0 : Int32))] [])) _
        refine XS.iload X29.here hx rfl (hb hby at_129) rfl ?_
        show Steps p.tables e below (T29.setTop (mkF m 131 #[.val (.int p0), .val (.int p1), .val (.long p2), .second, .val (.long p3), .second, .val (.long p4), .second, .val (.ref a), .val (.int (1 : Int32)), .val (.int (1 : Int32)), .val (.int (0 : Int32))] [(.int (0 : Int32))])) _
        refine XS.iconst X29.here hx rfl (hb hby at_131) ?_
        show Steps p.tables e below (T29.setTop (mkF m 132 #[.val (.int p0), .val (.int p1), .val (.long p2), .second, .val (.long p3), .second, .val (.long p4), .second, .val (.ref a), .val (.int (1 : Int32)), .val (.int (1 : Int32)), .val (.int (0 : Int32))] [(.int (3 : Int32)), (.int (0 : Int32))])) _
        refine XS.icmpYes X29.here hx rfl (pc0 := 132) (pc' := 141) rfl (hb hby at_132) rfl (tlt (by decide : (0 : Int32) < (3 : Int32))).1 (by decide) (by decide) ?_
        show Steps p.tables e below (T29.setTop (mkF m 141 #[.val (.int p0), .val (.int p1), .val (.long p2), .second, .val (.long p3), .second, .val (.long p4), .second, .val (.ref a), .val (.int (1 : Int32)), .val (.int (1 : Int32)), .val (.int (0 : Int32))] [])) _
        refine XS.iload X29.here hx rfl (hb hby at_141) rfl ?_
        show Steps p.tables e below (T29.setTop (mkF m 143 #[.val (.int p0), .val (.int p1), .val (.long p2), .second, .val (.long p3), .second, .val (.long p4), .second, .val (.ref a), .val (.int (1 : Int32)), .val (.int (1 : Int32)), .val (.int (0 : Int32))] [(.int (1 : Int32))])) _
        refine XS.ifNo X29.here hx rfl (hb hby at_143) rfl ((if0 _ _).trans (feq (by decide : ¬ ((1 : Int32) = (0 : Int32)))).1) ?_
        show Steps p.tables e below (T29.setTop (mkF m 146 #[.val (.int p0), .val (.int p1), .val (.long p2), .second, .val (.long p3), .second, .val (.long p4), .second, .val (.ref a), .val (.int (1 : Int32)), .val (.int (1 : Int32)), .val (.int (0 : Int32))] [])) _
        refine XS.aload X29.here hx rfl (hb hby at_146) rfl rfl ?_
        exact kt)
      obtain ⟨cq33, kq33, q33a, q33b, q33c⟩ := isOf hZ e29 A1_27
      obtain ⟨_, _, ⟨T33, L33, k33, n33⟩, -, X33, ⟨Lc33, hQ33, l33, y33, z33⟩, st33⟩ := X29.virtualBack hx (y := (⟨"com/example/find_leader/findleader/engine/LongHeap", "isEmpty", "()Z"⟩ : MethodName)) (z := (⟨"com/example/find_leader/findleader/engine/LongHeap", "isEmpty", "()Z"⟩ : MethodName)) hown (mvT hZ (hw _ (List.mem_of_getElem? (i := 12) rfl))) (mvT hZ (hw _ (List.mem_of_getElem? (i := 13) rfl))) (notFace_of_selects (args := #[]) (mvT hZ (hw _ (List.mem_of_getElem? (i := 15) rfl)))) (mvT hZ (hw _ (List.mem_of_getElem? (i := 15) rfl))) (mvT hZ (hw _ (List.mem_of_getElem? (i := 14) rfl))) (by decide) (backOf (W := 0) (rm3 l Z a0 hw [] a (1 : Int32) T26.heap n0 Z26 Fs26) hZ (hw _ (List.mem_of_getElem? (i := 16) rfl)) (hw _ (List.mem_of_getElem? (i := 2) rfl)) (by decide) (by decide)) q33a q33c (g := (mkF m 148 #[.val (.int p0), .val (.int p1), .val (.long p2), .second, .val (.long p3), .second, .val (.long p4), .second, .val (.ref a), .val (.int (1 : Int32)), .val (.int (1 : Int32)), .val (.int (0 : Int32))] [(.ref a)])) rfl (by rw [hml]; rfl) (Steps.refl _) (argsL := []) (rest := []) (lenOf pd_2 rfl) rfl (by show 2 * 0 + _ ≤ _; exact Nat.le_of_eq rfl) (hb hby at_148) (fun _ _ => ⟨rfl, e29, (Nat.le_of_ble_eq_true rfl), (Nat.le_of_ble_eq_true rfl)⟩)
      dsimp only [Pt.U, Pt.locs, Pt.cells, Pt.slots] at X33 l33 y33 z33 st33 hQ33
      subst l33 y33 z33
      obtain ⟨hv33, N33q, e33⟩ := hQ33
      rw [if_neg (by decide)] at hv33
      subst hv33
      have N33 := Fr.app N29 N33q
      have pre33s : ∀ tg, Steps p.tables e below (T33.setTop (mkF m 151 #[.val (.int p0), .val (.int p1), .val (.long p2), .second, .val (.long p3), .second, .val (.long p4), .second, .val (.ref a), .val (.int (1 : Int32)), .val (.int (1 : Int32)), .val (.int (0 : Int32))] [(.int (0 : Int32))])) tg → G tg := fun tg kt => pre32 tg (st33.trans kt)
      obtain ⟨fs, hr, hrun, hended, hW, hsame⟩ := X33.leave (v := some (.int (1 : Int32))) (fun h => by rw [Bd.returns] at h; cases h)
      subst hG
      refine ⟨_, _, pre33s _ ?_, hrun, hended, _, _, rfl, ?_, ⟨_, rfl⟩, hW, hsame.mono (by decide) (by decide)⟩
      · skip
        show Steps p.tables e below (T33.setTop (mkF m 151 #[.val (.int p0), .val (.int p1), .val (.long p2), .second, .val (.long p3), .second, .val (.long p4), .second, .val (.ref a), .val (.int (1 : Int32)), .val (.int (1 : Int32)), .val (.int (0 : Int32))] [(.int (0 : Int32))])) _
        refine XS.iload X33.here hx rfl (hb hby at_151) rfl ?_
        show Steps p.tables e below (T33.setTop (mkF m 153 #[.val (.int p0), .val (.int p1), .val (.long p2), .second, .val (.long p3), .second, .val (.long p4), .second, .val (.ref a), .val (.int (1 : Int32)), .val (.int (1 : Int32)), .val (.int (0 : Int32))] [(.int (0 : Int32)), (.int (0 : Int32))])) _
        refine XS.iload X33.here hx rfl (hb hby at_153) rfl ?_
        show Steps p.tables e below (T33.setTop (mkF m 155 #[.val (.int p0), .val (.int p1), .val (.long p2), .second, .val (.long p3), .second, .val (.long p4), .second, .val (.ref a), .val (.int (1 : Int32)), .val (.int (1 : Int32)), .val (.int (0 : Int32))] [(.int (1 : Int32)), (.int (0 : Int32)), (.int (0 : Int32))])) _
        refine XS.icmpYes X33.here hx rfl (pc0 := 155) (pc' := 162) rfl (hb hby at_155) rfl (feq (by decide : ¬ ((0 : Int32) = (1 : Int32)))).2 (by decide) (by decide) ?_
        show Steps p.tables e below (T33.setTop (mkF m 162 #[.val (.int p0), .val (.int p1), .val (.long p2), .second, .val (.long p3), .second, .val (.long p4), .second, .val (.ref a), .val (.int (1 : Int32)), .val (.int (1 : Int32)), .val (.int (0 : Int32))] [(.int (0 : Int32))])) _
        refine XS.iconst X33.here hx rfl (hb hby at_162) ?_
        show Steps p.tables e below (T33.setTop (mkF m 163 #[.val (.int p0), .val (.int p1), .val (.long p2), .second, .val (.long p3), .second, .val (.long p4), .second, .val (.ref a), .val (.int (1 : Int32)), .val (.int (1 : Int32)), .val (.int (0 : Int32))] [(.int (0 : Int32)), (.int (0 : Int32))])) _
        refine XS.icmpNo X33.here hx rfl (hb hby at_163) rfl (teq (by decide : (0 : Int32) = (0 : Int32))).2 ?_
        show Steps p.tables e below (T33.setTop (mkF m 166 #[.val (.int p0), .val (.int p1), .val (.long p2), .second, .val (.long p3), .second, .val (.long p4), .second, .val (.ref a), .val (.int (1 : Int32)), .val (.int (1 : Int32)), .val (.int (0 : Int32))] [])) _
        refine XS.iconst X33.here hx rfl (hb hby at_166) ?_
        show Steps p.tables e below (T33.setTop (mkF m 167 #[.val (.int p0), .val (.int p1), .val (.long p2), .second, .val (.long p3), .second, .val (.long p4), .second, .val (.ref a), .val (.int (1 : Int32)), .val (.int (1 : Int32)), .val (.int (0 : Int32))] [(.int (1 : Int32))])) _
        refine XS.goto X33.here hx rfl (pc0 := 167) (pc' := 171) rfl (hb hby at_167) (by decide) (by decide) ?_
        show Steps p.tables e below (T33.setTop (mkF m 171 #[.val (.int p0), .val (.int p1), .val (.long p2), .second, .val (.long p3), .second, .val (.long p4), .second, .val (.ref a), .val (.int (1 : Int32)), .val (.int (1 : Int32)), .val (.int (0 : Int32))] [(.int (1 : Int32))])) _
        refine XS.istore X33.here hx rfl (hb hby at_171) rfl (l' := #[.val (.int p0), .val (.int p1), .val (.long p2), .second, .val (.long p3), .second, .val (.long p4), .second, .val (.ref a), .val (.int (1 : Int32)), .val (.int (1 : Int32)), .val (.int (0 : Int32))]) rfl ?_
        show Steps p.tables e below (T33.setTop (mkF m 173 #[.val (.int p0), .val (.int p1), .val (.long p2), .second, .val (.long p3), .second, .val (.long p4), .second, .val (.ref a), .val (.int (1 : Int32)), .val (.int (1 : Int32)), .val (.int (0 : Int32))] [])) _
        refine XS.iload X33.here hx rfl (hb hby at_173) rfl ?_
        show Steps p.tables e below (T33.setTop (mkF m 175 #[.val (.int p0), .val (.int p1), .val (.long p2), .second, .val (.long p3), .second, .val (.long p4), .second, .val (.ref a), .val (.int (1 : Int32)), .val (.int (1 : Int32)), .val (.int (0 : Int32))] [(.int (1 : Int32))])) _
        exact retN X33 hx (t := .boolean) Bd.returns (by simp) (hb hby at_175) hr
      · show Q_rm0 Z p0 p1 p2 p3 p4 h0 n0 _ T33.heap _
        rw [e33]
        exact ⟨rfl, N33⟩
    · skip
      have pre34 : ∀ tg, Steps p.tables e below (T29.setTop (mkF m 94 #[.val (.int p0), .val (.int p1), .val (.long p2), .second, .val (.long p3), .second, .val (.long p4), .second, .val (.ref a), .val (.int (1 : Int32)), .val (.int (1 : Int32)), .val (.int (1 : Int32))] [])) tg → G tg := fun tg kt => pre30 tg (by rw [hm]; exact kt)
      have pre35 : ∀ tg, Steps p.tables e below (T29.setTop (mkF m 113 #[.val (.int p0), .val (.int p1), .val (.long p2), .second, .val (.long p3), .second, .val (.long p4), .second, .val (.ref a), .val (.int (1 : Int32)), .val (.int (1 : Int32)), .val (.int (1 : Int32))] [(.ref a)])) tg → G tg := fun tg kt => pre34 tg (by
        show Steps p.tables e below (T29.setTop (mkF m 94 #[.val (.int p0), .val (.int p1), .val (.long p2), .second, .val (.long p3), .second, .val (.long p4), .second, .val (.ref a), .val (.int (1 : Int32)), .val (.int (1 : Int32)), .val (.int (1 : Int32))] [])) _
        refine XS.iload X29.here hx rfl (hb hby at_94) rfl ?_
        show Steps p.tables e below (T29.setTop (mkF m 96 #[.val (.int p0), .val (.int p1), .val (.long p2), .second, .val (.long p3), .second, .val (.long p4), .second, .val (.ref a), .val (.int (1 : Int32)), .val (.int (1 : Int32)), .val (.int (1 : Int32))] [(.int (1 : Int32))])) _
        refine XS.iload X29.here hx rfl (hb hby at_96) rfl ?_
        show Steps p.tables e below (T29.setTop (mkF m 98 #[.val (.int p0), .val (.int p1), .val (.long p2), .second, .val (.long p3), .second, .val (.long p4), .second, .val (.ref a), .val (.int (1 : Int32)), .val (.int (1 : Int32)), .val (.int (1 : Int32))] [(.int (1 : Int32)), (.int (1 : Int32))])) _
        refine XS.icmpYes X29.here hx rfl (pc0 := 98) (pc' := 105) rfl (hb hby at_98) rfl (flt (by decide : ¬ ((1 : Int32) < (1 : Int32)))).2.2.2 (by decide) (by decide) ?_
        show Steps p.tables e below (T29.setTop (mkF m 105 #[.val (.int p0), .val (.int p1), .val (.long p2), .second, .val (.long p3), .second, .val (.long p4), .second, .val (.ref a), .val (.int (1 : Int32)), .val (.int (1 : Int32)), .val (.int (1 : Int32))] [])) _
        refine XS.iload X29.here hx rfl (hb hby at_105) rfl ?_
        show Steps p.tables e below (T29.setTop (mkF m 107 #[.val (.int p0), .val (.int p1), .val (.long p2), .second, .val (.long p3), .second, .val (.long p4), .second, .val (.ref a), .val (.int (1 : Int32)), .val (.int (1 : Int32)), .val (.int (1 : Int32))] [(.int (1 : Int32))])) _
        refine XS.iconst X29.here hx rfl (hb hby at_107) ?_
        show Steps p.tables e below (T29.setTop (mkF m 108 #[.val (.int p0), .val (.int p1), .val (.long p2), .second, .val (.long p3), .second, .val (.long p4), .second, .val (.ref a), .val (.int (1 : Int32)), .val (.int (1 : Int32)), .val (.int (1 : Int32))] [(.int (1 : Int32)), (.int (1 : Int32))])) _
        refine XS.icmpNo X29.here hx rfl (hb hby at_108) rfl (flt (by decide : ¬ ((1 : Int32) < (1 : Int32)))).1 ?_
        show Steps p.tables e below (T29.setTop (mkF m 111 #[.val (.int p0), .val (.int p1), .val (.long p2), .second, .val (.long p3), .second, .val (.long p4), .second, .val (.ref a), .val (.int (1 : Int32)), .val (.int (1 : Int32)), .val (.int (1 : Int32))] [])) _
        refine XS.aload X29.here hx rfl (hb hby at_111) rfl rfl ?_
        exact kt)
      obtain ⟨cq36, kq36, q36a, q36b, q36c⟩ := isOf hZ e29 A1_27
      obtain ⟨_, _, ⟨T36, L36, k36, n36⟩, -, X36, ⟨Lc36, hQ36, l36, y36, z36⟩, st36⟩ := X29.virtualBack hx (y := (⟨"com/example/find_leader/findleader/engine/LongHeap", "pollFirst", "()J"⟩ : MethodName)) (z := (⟨"com/example/find_leader/findleader/engine/LongHeap", "pollFirst", "()J"⟩ : MethodName)) hown (mvT hZ (hw _ (List.mem_of_getElem? (i := 24) rfl))) (mvT hZ (hw _ (List.mem_of_getElem? (i := 25) rfl))) (notFace_of_selects (args := #[]) (mvT hZ (hw _ (List.mem_of_getElem? (i := 27) rfl)))) (mvT hZ (hw _ (List.mem_of_getElem? (i := 27) rfl))) (mvT hZ (hw _ (List.mem_of_getElem? (i := 26) rfl))) (by decide) (backOf (W := 0) (rm5_1 l Z a0 hw [] a b kA wa26 wb26 wc26 T26.heap n0 Z26 A1_27 Fv26 Fs26 Vb26 O_a O_b ne_a_b) hZ (hw _ (List.mem_of_getElem? (i := 28) rfl)) (hw _ (List.mem_of_getElem? (i := 2) rfl)) (by decide) (by decide)) q36a q36c (g := (mkF m 113 #[.val (.int p0), .val (.int p1), .val (.long p2), .second, .val (.long p3), .second, .val (.long p4), .second, .val (.ref a), .val (.int (1 : Int32)), .val (.int (1 : Int32)), .val (.int (1 : Int32))] [(.ref a)])) rfl (by rw [hml]; rfl) (Steps.refl _) (argsL := []) (rest := []) (lenOf pd_0 rfl) rfl (by show 2 * 0 + _ ≤ _; exact Nat.le_of_eq rfl) (hb hby at_113) (fun _ _ => ⟨rfl, e29, (Nat.le_of_ble_eq_true rfl), (Nat.le_of_ble_eq_true rfl)⟩)
      dsimp only [Pt.U, Pt.locs, Pt.cells, Pt.slots] at X36 l36 y36 z36 st36 hQ36
      subst l36 y36 z36
      obtain ⟨x36, rfl, N36q, K36, wa36, wb36, wc36, Fv36, Fs36, Vb36⟩ := hQ36
      have N36 := Fr.app N29 N36q
      have pre36s : ∀ tg, Steps p.tables e below (T36.setTop (mkF m 116 #[.val (.int p0), .val (.int p1), .val (.long p2), .second, .val (.long p3), .second, .val (.long p4), .second, .val (.ref a), .val (.int (1 : Int32)), .val (.int (1 : Int32)), .val (.int (1 : Int32))] [(.long x36)])) tg → G tg := fun tg kt => pre35 tg (st36.trans kt)
      have Z36 : n0 ≤ T36.heap.size := Nat.le_trans Z26 K36.1
      have A1_37 := A1_27.keep K36
      have pre38 : ∀ tg, Steps p.tables e below (T36.setTop (mkF m 148 #[.val (.int p0), .val (.int p1), .val (.long p2), .second, .val (.long p3), .second, .val (.long p4), .second, .val (.ref a), .val (.int (1 : Int32)), .val (.int (1 : Int32)), .val (.int (1 : Int32))] [(.ref a)])) tg → G tg := fun tg kt => pre36s tg (by
        show Steps p.tables e below (T36.setTop (mkF m 116 #[.val (.int p0), .val (.int p1), .val (.long p2), .second, .val (.long p3), .second, .val (.long p4), .second, .val (.ref a), .val (.int (1 : Int32)), .val (.int (1 : Int32)), .val (.int (1 : Int32))] [(.long x36)])) _
        jvm_step X36.here [X36.here.top, hx, (hb hby at_116), Value.category]
        show Steps p.tables e below (T36.setTop (mkF m 117 #[.val (.int p0), .val (.int p1), .val (.long p2), .second, .val (.long p3), .second, .val (.long p4), .second, .val (.ref a), .val (.int (1 : Int32)), .val (.int (1 : Int32)), .val (.int (1 : Int32))] [])) _
        refine XS.iload X36.here hx rfl (hb hby at_117) rfl ?_
        show Steps p.tables e below (T36.setTop (mkF m 119 #[.val (.int p0), .val (.int p1), .val (.long p2), .second, .val (.long p3), .second, .val (.long p4), .second, .val (.ref a), .val (.int (1 : Int32)), .val (.int (1 : Int32)), .val (.int (1 : Int32))] [(.int (1 : Int32))])) _
        refine XS.iconst X36.here hx rfl (hb hby at_119) ?_
        show Steps p.tables e below (T36.setTop (mkF m 120 #[.val (.int p0), .val (.int p1), .val (.long p2), .second, .val (.long p3), .second, .val (.long p4), .second, .val (.ref a), .val (.int (1 : Int32)), .val (.int (1 : Int32)), .val (.int (1 : Int32))] [(.int (2 : Int32)), (.int (1 : Int32))])) _
        refine XS.icmpYes X36.here hx rfl (pc0 := 120) (pc' := 129) rfl (hb hby at_120) rfl (tlt (by decide : (1 : Int32) < (2 : Int32))).1 (by decide) (by decide) ?_
        show Steps p.tables e below (T36.setTop (mkF m 129 #[.val (.int p0), .val (.int p1), .val (.long p2), .second, .val (.long p3), .second, .val (.long p4), .second, .val (.ref a), .val (.int (1 : Int32)), .val (.int (1 : Int32)), .val (.int (1 : Int32))] [])) _
        refine XS.iload X36.here hx rfl (hb hby at_129) rfl ?_
        show Steps p.tables e below (T36.setTop (mkF m 131 #[.val (.int p0), .val (.int p1), .val (.long p2), .second, .val (.long p3), .second, .val (.long p4), .second, .val (.ref a), .val (.int (1 : Int32)), .val (.int (1 : Int32)), .val (.int (1 : Int32))] [(.int (1 : Int32))])) _
        refine XS.iconst X36.here hx rfl (hb hby at_131) ?_
        show Steps p.tables e below (T36.setTop (mkF m 132 #[.val (.int p0), .val (.int p1), .val (.long p2), .second, .val (.long p3), .second, .val (.long p4), .second, .val (.ref a), .val (.int (1 : Int32)), .val (.int (1 : Int32)), .val (.int (1 : Int32))] [(.int (3 : Int32)), (.int (1 : Int32))])) _
        refine XS.icmpYes X36.here hx rfl (pc0 := 132) (pc' := 141) rfl (hb hby at_132) rfl (tlt (by decide : (1 : Int32) < (3 : Int32))).1 (by decide) (by decide) ?_
        show Steps p.tables e below (T36.setTop (mkF m 141 #[.val (.int p0), .val (.int p1), .val (.long p2), .second, .val (.long p3), .second, .val (.long p4), .second, .val (.ref a), .val (.int (1 : Int32)), .val (.int (1 : Int32)), .val (.int (1 : Int32))] [])) _
        refine XS.iload X36.here hx rfl (hb hby at_141) rfl ?_
        show Steps p.tables e below (T36.setTop (mkF m 143 #[.val (.int p0), .val (.int p1), .val (.long p2), .second, .val (.long p3), .second, .val (.long p4), .second, .val (.ref a), .val (.int (1 : Int32)), .val (.int (1 : Int32)), .val (.int (1 : Int32))] [(.int (1 : Int32))])) _
        refine XS.ifNo X36.here hx rfl (hb hby at_143) rfl ((if0 _ _).trans (feq (by decide : ¬ ((1 : Int32) = (0 : Int32)))).1) ?_
        show Steps p.tables e below (T36.setTop (mkF m 146 #[.val (.int p0), .val (.int p1), .val (.long p2), .second, .val (.long p3), .second, .val (.long p4), .second, .val (.ref a), .val (.int (1 : Int32)), .val (.int (1 : Int32)), .val (.int (1 : Int32))] [])) _
        refine XS.aload X36.here hx rfl (hb hby at_146) rfl rfl ?_
        exact kt)
      obtain ⟨cq39, kq39, q39a, q39b, q39c⟩ := isOf hZ rfl A1_37
      obtain ⟨_, _, ⟨T39, L39, k39, n39⟩, -, X39, ⟨Lc39, hQ39, l39, y39, z39⟩, st39⟩ := X36.virtualBack hx (y := (⟨"com/example/find_leader/findleader/engine/LongHeap", "isEmpty", "()Z"⟩ : MethodName)) (z := (⟨"com/example/find_leader/findleader/engine/LongHeap", "isEmpty", "()Z"⟩ : MethodName)) hown (mvT hZ (hw _ (List.mem_of_getElem? (i := 12) rfl))) (mvT hZ (hw _ (List.mem_of_getElem? (i := 13) rfl))) (notFace_of_selects (args := #[]) (mvT hZ (hw _ (List.mem_of_getElem? (i := 15) rfl)))) (mvT hZ (hw _ (List.mem_of_getElem? (i := 15) rfl))) (mvT hZ (hw _ (List.mem_of_getElem? (i := 14) rfl))) (by decide) (backOf (W := 0) (rm3 l Z a0 hw [] a (0 : Int32) T36.heap n0 Z36 Fs36) hZ (hw _ (List.mem_of_getElem? (i := 16) rfl)) (hw _ (List.mem_of_getElem? (i := 2) rfl)) (by decide) (by decide)) q39a q39c (g := (mkF m 148 #[.val (.int p0), .val (.int p1), .val (.long p2), .second, .val (.long p3), .second, .val (.long p4), .second, .val (.ref a), .val (.int (1 : Int32)), .val (.int (1 : Int32)), .val (.int (1 : Int32))] [(.ref a)])) rfl (by rw [hml]; rfl) (Steps.refl _) (argsL := []) (rest := []) (lenOf pd_2 rfl) rfl (by show 2 * 0 + _ ≤ _; exact Nat.le_of_eq rfl) (hb hby at_148) (fun _ _ => ⟨rfl, rfl, (Nat.le_of_ble_eq_true rfl), (Nat.le_of_ble_eq_true rfl)⟩)
      dsimp only [Pt.U, Pt.locs, Pt.cells, Pt.slots] at X39 l39 y39 z39 st39 hQ39
      subst l39 y39 z39
      obtain ⟨hv39, N39q, e39⟩ := hQ39
      rw [if_pos rfl] at hv39
      subst hv39
      have N39 := Fr.app N36 N39q
      have pre39s : ∀ tg, Steps p.tables e below (T39.setTop (mkF m 151 #[.val (.int p0), .val (.int p1), .val (.long p2), .second, .val (.long p3), .second, .val (.long p4), .second, .val (.ref a), .val (.int (1 : Int32)), .val (.int (1 : Int32)), .val (.int (1 : Int32))] [(.int (1 : Int32))])) tg → G tg := fun tg kt => pre38 tg (st39.trans kt)
      obtain ⟨fs, hr, hrun, hended, hW, hsame⟩ := X39.leave (v := some (.int (1 : Int32))) (fun h => by rw [Bd.returns] at h; cases h)
      subst hG
      refine ⟨_, _, pre39s _ ?_, hrun, hended, _, _, rfl, ?_, ⟨_, rfl⟩, hW, hsame.mono (by decide) (by decide)⟩
      · skip
        show Steps p.tables e below (T39.setTop (mkF m 151 #[.val (.int p0), .val (.int p1), .val (.long p2), .second, .val (.long p3), .second, .val (.long p4), .second, .val (.ref a), .val (.int (1 : Int32)), .val (.int (1 : Int32)), .val (.int (1 : Int32))] [(.int (1 : Int32))])) _
        refine XS.iload X39.here hx rfl (hb hby at_151) rfl ?_
        show Steps p.tables e below (T39.setTop (mkF m 153 #[.val (.int p0), .val (.int p1), .val (.long p2), .second, .val (.long p3), .second, .val (.long p4), .second, .val (.ref a), .val (.int (1 : Int32)), .val (.int (1 : Int32)), .val (.int (1 : Int32))] [(.int (1 : Int32)), (.int (1 : Int32))])) _
        refine XS.iload X39.here hx rfl (hb hby at_153) rfl ?_
        show Steps p.tables e below (T39.setTop (mkF m 155 #[.val (.int p0), .val (.int p1), .val (.long p2), .second, .val (.long p3), .second, .val (.long p4), .second, .val (.ref a), .val (.int (1 : Int32)), .val (.int (1 : Int32)), .val (.int (1 : Int32))] [(.int (1 : Int32)), (.int (1 : Int32)), (.int (1 : Int32))])) _
        refine XS.icmpNo X39.here hx rfl (hb hby at_155) rfl (teq (by decide : (1 : Int32) = (1 : Int32))).2 ?_
        show Steps p.tables e below (T39.setTop (mkF m 158 #[.val (.int p0), .val (.int p1), .val (.long p2), .second, .val (.long p3), .second, .val (.long p4), .second, .val (.ref a), .val (.int (1 : Int32)), .val (.int (1 : Int32)), .val (.int (1 : Int32))] [(.int (1 : Int32))])) _
        refine XS.iconst X39.here hx rfl (hb hby at_158) ?_
        show Steps p.tables e below (T39.setTop (mkF m 159 #[.val (.int p0), .val (.int p1), .val (.long p2), .second, .val (.long p3), .second, .val (.long p4), .second, .val (.ref a), .val (.int (1 : Int32)), .val (.int (1 : Int32)), .val (.int (1 : Int32))] [(.int (1 : Int32)), (.int (1 : Int32))])) _
        refine XS.goto X39.here hx rfl (pc0 := 159) (pc' := 163) rfl (hb hby at_159) (by decide) (by decide) ?_
        show Steps p.tables e below (T39.setTop (mkF m 163 #[.val (.int p0), .val (.int p1), .val (.long p2), .second, .val (.long p3), .second, .val (.long p4), .second, .val (.ref a), .val (.int (1 : Int32)), .val (.int (1 : Int32)), .val (.int (1 : Int32))] [(.int (1 : Int32)), (.int (1 : Int32))])) _
        refine XS.icmpNo X39.here hx rfl (hb hby at_163) rfl (teq (by decide : (1 : Int32) = (1 : Int32))).2 ?_
        show Steps p.tables e below (T39.setTop (mkF m 166 #[.val (.int p0), .val (.int p1), .val (.long p2), .second, .val (.long p3), .second, .val (.long p4), .second, .val (.ref a), .val (.int (1 : Int32)), .val (.int (1 : Int32)), .val (.int (1 : Int32))] [])) _
        refine XS.iconst X39.here hx rfl (hb hby at_166) ?_
        show Steps p.tables e below (T39.setTop (mkF m 167 #[.val (.int p0), .val (.int p1), .val (.long p2), .second, .val (.long p3), .second, .val (.long p4), .second, .val (.ref a), .val (.int (1 : Int32)), .val (.int (1 : Int32)), .val (.int (1 : Int32))] [(.int (1 : Int32))])) _
        refine XS.goto X39.here hx rfl (pc0 := 167) (pc' := 171) rfl (hb hby at_167) (by decide) (by decide) ?_
        show Steps p.tables e below (T39.setTop (mkF m 171 #[.val (.int p0), .val (.int p1), .val (.long p2), .second, .val (.long p3), .second, .val (.long p4), .second, .val (.ref a), .val (.int (1 : Int32)), .val (.int (1 : Int32)), .val (.int (1 : Int32))] [(.int (1 : Int32))])) _
        refine XS.istore X39.here hx rfl (hb hby at_171) rfl (l' := #[.val (.int p0), .val (.int p1), .val (.long p2), .second, .val (.long p3), .second, .val (.long p4), .second, .val (.ref a), .val (.int (1 : Int32)), .val (.int (1 : Int32)), .val (.int (1 : Int32))]) rfl ?_
        show Steps p.tables e below (T39.setTop (mkF m 173 #[.val (.int p0), .val (.int p1), .val (.long p2), .second, .val (.long p3), .second, .val (.long p4), .second, .val (.ref a), .val (.int (1 : Int32)), .val (.int (1 : Int32)), .val (.int (1 : Int32))] [])) _
        refine XS.iload X39.here hx rfl (hb hby at_173) rfl ?_
        show Steps p.tables e below (T39.setTop (mkF m 175 #[.val (.int p0), .val (.int p1), .val (.long p2), .second, .val (.long p3), .second, .val (.long p4), .second, .val (.ref a), .val (.int (1 : Int32)), .val (.int (1 : Int32)), .val (.int (1 : Int32))] [(.int (1 : Int32))])) _
        exact retN X39 hx (t := .boolean) Bd.returns (by simp) (hb hby at_175) hr
      · show Q_rm0 Z p0 p1 p2 p3 p4 h0 n0 _ T39.heap _
        rw [e39]
        exact ⟨rfl, N39⟩
    · skip
      have pre40 : ∀ tg, Steps p.tables e below (T29.setTop (mkF m 94 #[.val (.int p0), .val (.int p1), .val (.long p2), .second, .val (.long p3), .second, .val (.long p4), .second, .val (.ref a), .val (.int (1 : Int32)), .val (.int (1 : Int32)), .val (.int (2 : Int32))] [])) tg → G tg := fun tg kt => pre30 tg (by rw [hm]; exact kt)
      have pre41 : ∀ tg, Steps p.tables e below (T29.setTop (mkF m 113 #[.val (.int p0), .val (.int p1), .val (.long p2), .second, .val (.long p3), .second, .val (.long p4), .second, .val (.ref a), .val (.int (1 : Int32)), .val (.int (1 : Int32)), .val (.int (1 : Int32))] [(.ref a)])) tg → G tg := fun tg kt => pre40 tg (by
        show Steps p.tables e below (T29.setTop (mkF m 94 #[.val (.int p0), .val (.int p1), .val (.long p2), .second, .val (.long p3), .second, .val (.long p4), .second, .val (.ref a), .val (.int (1 : Int32)), .val (.int (1 : Int32)), .val (.int (2 : Int32))] [])) _
        refine XS.iload X29.here hx rfl (hb hby at_94) rfl ?_
        show Steps p.tables e below (T29.setTop (mkF m 96 #[.val (.int p0), .val (.int p1), .val (.long p2), .second, .val (.long p3), .second, .val (.long p4), .second, .val (.ref a), .val (.int (1 : Int32)), .val (.int (1 : Int32)), .val (.int (2 : Int32))] [(.int (2 : Int32))])) _
        refine XS.iload X29.here hx rfl (hb hby at_96) rfl ?_
        show Steps p.tables e below (T29.setTop (mkF m 98 #[.val (.int p0), .val (.int p1), .val (.long p2), .second, .val (.long p3), .second, .val (.long p4), .second, .val (.ref a), .val (.int (1 : Int32)), .val (.int (1 : Int32)), .val (.int (2 : Int32))] [(.int (1 : Int32)), (.int (2 : Int32))])) _
        refine XS.icmpNo X29.here hx rfl (hb hby at_98) rfl (tlt (by decide : (1 : Int32) < (2 : Int32))).2.2.2 ?_
        show Steps p.tables e below (T29.setTop (mkF m 101 #[.val (.int p0), .val (.int p1), .val (.long p2), .second, .val (.long p3), .second, .val (.long p4), .second, .val (.ref a), .val (.int (1 : Int32)), .val (.int (1 : Int32)), .val (.int (2 : Int32))] [])) _
        refine XS.iload X29.here hx rfl (hb hby at_101) rfl ?_
        show Steps p.tables e below (T29.setTop (mkF m 103 #[.val (.int p0), .val (.int p1), .val (.long p2), .second, .val (.long p3), .second, .val (.long p4), .second, .val (.ref a), .val (.int (1 : Int32)), .val (.int (1 : Int32)), .val (.int (2 : Int32))] [(.int (1 : Int32))])) _
        refine XS.istore X29.here hx rfl (hb hby at_103) rfl (l' := #[.val (.int p0), .val (.int p1), .val (.long p2), .second, .val (.long p3), .second, .val (.long p4), .second, .val (.ref a), .val (.int (1 : Int32)), .val (.int (1 : Int32)), .val (.int (1 : Int32))]) rfl ?_
        show Steps p.tables e below (T29.setTop (mkF m 105 #[.val (.int p0), .val (.int p1), .val (.long p2), .second, .val (.long p3), .second, .val (.long p4), .second, .val (.ref a), .val (.int (1 : Int32)), .val (.int (1 : Int32)), .val (.int (1 : Int32))] [])) _
        refine XS.iload X29.here hx rfl (hb hby at_105) rfl ?_
        show Steps p.tables e below (T29.setTop (mkF m 107 #[.val (.int p0), .val (.int p1), .val (.long p2), .second, .val (.long p3), .second, .val (.long p4), .second, .val (.ref a), .val (.int (1 : Int32)), .val (.int (1 : Int32)), .val (.int (1 : Int32))] [(.int (1 : Int32))])) _
        refine XS.iconst X29.here hx rfl (hb hby at_107) ?_
        show Steps p.tables e below (T29.setTop (mkF m 108 #[.val (.int p0), .val (.int p1), .val (.long p2), .second, .val (.long p3), .second, .val (.long p4), .second, .val (.ref a), .val (.int (1 : Int32)), .val (.int (1 : Int32)), .val (.int (1 : Int32))] [(.int (1 : Int32)), (.int (1 : Int32))])) _
        refine XS.icmpNo X29.here hx rfl (hb hby at_108) rfl (flt (by decide : ¬ ((1 : Int32) < (1 : Int32)))).1 ?_
        show Steps p.tables e below (T29.setTop (mkF m 111 #[.val (.int p0), .val (.int p1), .val (.long p2), .second, .val (.long p3), .second, .val (.long p4), .second, .val (.ref a), .val (.int (1 : Int32)), .val (.int (1 : Int32)), .val (.int (1 : Int32))] [])) _
        refine XS.aload X29.here hx rfl (hb hby at_111) rfl rfl ?_
        exact kt)
      obtain ⟨cq42, kq42, q42a, q42b, q42c⟩ := isOf hZ e29 A1_27
      obtain ⟨_, _, ⟨T42, L42, k42, n42⟩, -, X42, ⟨Lc42, hQ42, l42, y42, z42⟩, st42⟩ := X29.virtualBack hx (y := (⟨"com/example/find_leader/findleader/engine/LongHeap", "pollFirst", "()J"⟩ : MethodName)) (z := (⟨"com/example/find_leader/findleader/engine/LongHeap", "pollFirst", "()J"⟩ : MethodName)) hown (mvT hZ (hw _ (List.mem_of_getElem? (i := 24) rfl))) (mvT hZ (hw _ (List.mem_of_getElem? (i := 25) rfl))) (notFace_of_selects (args := #[]) (mvT hZ (hw _ (List.mem_of_getElem? (i := 27) rfl)))) (mvT hZ (hw _ (List.mem_of_getElem? (i := 27) rfl))) (mvT hZ (hw _ (List.mem_of_getElem? (i := 26) rfl))) (by decide) (backOf (W := 0) (rm5_1 l Z a0 hw [] a b kA wa26 wb26 wc26 T26.heap n0 Z26 A1_27 Fv26 Fs26 Vb26 O_a O_b ne_a_b) hZ (hw _ (List.mem_of_getElem? (i := 28) rfl)) (hw _ (List.mem_of_getElem? (i := 2) rfl)) (by decide) (by decide)) q42a q42c (g := (mkF m 113 #[.val (.int p0), .val (.int p1), .val (.long p2), .second, .val (.long p3), .second, .val (.long p4), .second, .val (.ref a), .val (.int (1 : Int32)), .val (.int (1 : Int32)), .val (.int (1 : Int32))] [(.ref a)])) rfl (by rw [hml]; rfl) (Steps.refl _) (argsL := []) (rest := []) (lenOf pd_0 rfl) rfl (by show 2 * 0 + _ ≤ _; exact Nat.le_of_eq rfl) (hb hby at_113) (fun _ _ => ⟨rfl, e29, (Nat.le_of_ble_eq_true rfl), (Nat.le_of_ble_eq_true rfl)⟩)
      dsimp only [Pt.U, Pt.locs, Pt.cells, Pt.slots] at X42 l42 y42 z42 st42 hQ42
      subst l42 y42 z42
      obtain ⟨x42, rfl, N42q, K42, wa42, wb42, wc42, Fv42, Fs42, Vb42⟩ := hQ42
      have N42 := Fr.app N29 N42q
      have pre42s : ∀ tg, Steps p.tables e below (T42.setTop (mkF m 116 #[.val (.int p0), .val (.int p1), .val (.long p2), .second, .val (.long p3), .second, .val (.long p4), .second, .val (.ref a), .val (.int (1 : Int32)), .val (.int (1 : Int32)), .val (.int (1 : Int32))] [(.long x42)])) tg → G tg := fun tg kt => pre41 tg (st42.trans kt)
      have Z42 : n0 ≤ T42.heap.size := Nat.le_trans Z26 K42.1
      have A1_43 := A1_27.keep K42
      have pre44 : ∀ tg, Steps p.tables e below (T42.setTop (mkF m 148 #[.val (.int p0), .val (.int p1), .val (.long p2), .second, .val (.long p3), .second, .val (.long p4), .second, .val (.ref a), .val (.int (1 : Int32)), .val (.int (1 : Int32)), .val (.int (1 : Int32))] [(.ref a)])) tg → G tg := fun tg kt => pre42s tg (by
        show Steps p.tables e below (T42.setTop (mkF m 116 #[.val (.int p0), .val (.int p1), .val (.long p2), .second, .val (.long p3), .second, .val (.long p4), .second, .val (.ref a), .val (.int (1 : Int32)), .val (.int (1 : Int32)), .val (.int (1 : Int32))] [(.long x42)])) _
        jvm_step X42.here [X42.here.top, hx, (hb hby at_116), Value.category]
        show Steps p.tables e below (T42.setTop (mkF m 117 #[.val (.int p0), .val (.int p1), .val (.long p2), .second, .val (.long p3), .second, .val (.long p4), .second, .val (.ref a), .val (.int (1 : Int32)), .val (.int (1 : Int32)), .val (.int (1 : Int32))] [])) _
        refine XS.iload X42.here hx rfl (hb hby at_117) rfl ?_
        show Steps p.tables e below (T42.setTop (mkF m 119 #[.val (.int p0), .val (.int p1), .val (.long p2), .second, .val (.long p3), .second, .val (.long p4), .second, .val (.ref a), .val (.int (1 : Int32)), .val (.int (1 : Int32)), .val (.int (1 : Int32))] [(.int (1 : Int32))])) _
        refine XS.iconst X42.here hx rfl (hb hby at_119) ?_
        show Steps p.tables e below (T42.setTop (mkF m 120 #[.val (.int p0), .val (.int p1), .val (.long p2), .second, .val (.long p3), .second, .val (.long p4), .second, .val (.ref a), .val (.int (1 : Int32)), .val (.int (1 : Int32)), .val (.int (1 : Int32))] [(.int (2 : Int32)), (.int (1 : Int32))])) _
        refine XS.icmpYes X42.here hx rfl (pc0 := 120) (pc' := 129) rfl (hb hby at_120) rfl (tlt (by decide : (1 : Int32) < (2 : Int32))).1 (by decide) (by decide) ?_
        show Steps p.tables e below (T42.setTop (mkF m 129 #[.val (.int p0), .val (.int p1), .val (.long p2), .second, .val (.long p3), .second, .val (.long p4), .second, .val (.ref a), .val (.int (1 : Int32)), .val (.int (1 : Int32)), .val (.int (1 : Int32))] [])) _
        refine XS.iload X42.here hx rfl (hb hby at_129) rfl ?_
        show Steps p.tables e below (T42.setTop (mkF m 131 #[.val (.int p0), .val (.int p1), .val (.long p2), .second, .val (.long p3), .second, .val (.long p4), .second, .val (.ref a), .val (.int (1 : Int32)), .val (.int (1 : Int32)), .val (.int (1 : Int32))] [(.int (1 : Int32))])) _
        refine XS.iconst X42.here hx rfl (hb hby at_131) ?_
        show Steps p.tables e below (T42.setTop (mkF m 132 #[.val (.int p0), .val (.int p1), .val (.long p2), .second, .val (.long p3), .second, .val (.long p4), .second, .val (.ref a), .val (.int (1 : Int32)), .val (.int (1 : Int32)), .val (.int (1 : Int32))] [(.int (3 : Int32)), (.int (1 : Int32))])) _
        refine XS.icmpYes X42.here hx rfl (pc0 := 132) (pc' := 141) rfl (hb hby at_132) rfl (tlt (by decide : (1 : Int32) < (3 : Int32))).1 (by decide) (by decide) ?_
        show Steps p.tables e below (T42.setTop (mkF m 141 #[.val (.int p0), .val (.int p1), .val (.long p2), .second, .val (.long p3), .second, .val (.long p4), .second, .val (.ref a), .val (.int (1 : Int32)), .val (.int (1 : Int32)), .val (.int (1 : Int32))] [])) _
        refine XS.iload X42.here hx rfl (hb hby at_141) rfl ?_
        show Steps p.tables e below (T42.setTop (mkF m 143 #[.val (.int p0), .val (.int p1), .val (.long p2), .second, .val (.long p3), .second, .val (.long p4), .second, .val (.ref a), .val (.int (1 : Int32)), .val (.int (1 : Int32)), .val (.int (1 : Int32))] [(.int (1 : Int32))])) _
        refine XS.ifNo X42.here hx rfl (hb hby at_143) rfl ((if0 _ _).trans (feq (by decide : ¬ ((1 : Int32) = (0 : Int32)))).1) ?_
        show Steps p.tables e below (T42.setTop (mkF m 146 #[.val (.int p0), .val (.int p1), .val (.long p2), .second, .val (.long p3), .second, .val (.long p4), .second, .val (.ref a), .val (.int (1 : Int32)), .val (.int (1 : Int32)), .val (.int (1 : Int32))] [])) _
        refine XS.aload X42.here hx rfl (hb hby at_146) rfl rfl ?_
        exact kt)
      obtain ⟨cq45, kq45, q45a, q45b, q45c⟩ := isOf hZ rfl A1_43
      obtain ⟨_, _, ⟨T45, L45, k45, n45⟩, -, X45, ⟨Lc45, hQ45, l45, y45, z45⟩, st45⟩ := X42.virtualBack hx (y := (⟨"com/example/find_leader/findleader/engine/LongHeap", "isEmpty", "()Z"⟩ : MethodName)) (z := (⟨"com/example/find_leader/findleader/engine/LongHeap", "isEmpty", "()Z"⟩ : MethodName)) hown (mvT hZ (hw _ (List.mem_of_getElem? (i := 12) rfl))) (mvT hZ (hw _ (List.mem_of_getElem? (i := 13) rfl))) (notFace_of_selects (args := #[]) (mvT hZ (hw _ (List.mem_of_getElem? (i := 15) rfl)))) (mvT hZ (hw _ (List.mem_of_getElem? (i := 15) rfl))) (mvT hZ (hw _ (List.mem_of_getElem? (i := 14) rfl))) (by decide) (backOf (W := 0) (rm3 l Z a0 hw [] a (0 : Int32) T42.heap n0 Z42 Fs42) hZ (hw _ (List.mem_of_getElem? (i := 16) rfl)) (hw _ (List.mem_of_getElem? (i := 2) rfl)) (by decide) (by decide)) q45a q45c (g := (mkF m 148 #[.val (.int p0), .val (.int p1), .val (.long p2), .second, .val (.long p3), .second, .val (.long p4), .second, .val (.ref a), .val (.int (1 : Int32)), .val (.int (1 : Int32)), .val (.int (1 : Int32))] [(.ref a)])) rfl (by rw [hml]; rfl) (Steps.refl _) (argsL := []) (rest := []) (lenOf pd_2 rfl) rfl (by show 2 * 0 + _ ≤ _; exact Nat.le_of_eq rfl) (hb hby at_148) (fun _ _ => ⟨rfl, rfl, (Nat.le_of_ble_eq_true rfl), (Nat.le_of_ble_eq_true rfl)⟩)
      dsimp only [Pt.U, Pt.locs, Pt.cells, Pt.slots] at X45 l45 y45 z45 st45 hQ45
      subst l45 y45 z45
      obtain ⟨hv45, N45q, e45⟩ := hQ45
      rw [if_pos rfl] at hv45
      subst hv45
      have N45 := Fr.app N42 N45q
      have pre45s : ∀ tg, Steps p.tables e below (T45.setTop (mkF m 151 #[.val (.int p0), .val (.int p1), .val (.long p2), .second, .val (.long p3), .second, .val (.long p4), .second, .val (.ref a), .val (.int (1 : Int32)), .val (.int (1 : Int32)), .val (.int (1 : Int32))] [(.int (1 : Int32))])) tg → G tg := fun tg kt => pre44 tg (st45.trans kt)
      obtain ⟨fs, hr, hrun, hended, hW, hsame⟩ := X45.leave (v := some (.int (1 : Int32))) (fun h => by rw [Bd.returns] at h; cases h)
      subst hG
      refine ⟨_, _, pre45s _ ?_, hrun, hended, _, _, rfl, ?_, ⟨_, rfl⟩, hW, hsame.mono (by decide) (by decide)⟩
      · skip
        show Steps p.tables e below (T45.setTop (mkF m 151 #[.val (.int p0), .val (.int p1), .val (.long p2), .second, .val (.long p3), .second, .val (.long p4), .second, .val (.ref a), .val (.int (1 : Int32)), .val (.int (1 : Int32)), .val (.int (1 : Int32))] [(.int (1 : Int32))])) _
        refine XS.iload X45.here hx rfl (hb hby at_151) rfl ?_
        show Steps p.tables e below (T45.setTop (mkF m 153 #[.val (.int p0), .val (.int p1), .val (.long p2), .second, .val (.long p3), .second, .val (.long p4), .second, .val (.ref a), .val (.int (1 : Int32)), .val (.int (1 : Int32)), .val (.int (1 : Int32))] [(.int (1 : Int32)), (.int (1 : Int32))])) _
        refine XS.iload X45.here hx rfl (hb hby at_153) rfl ?_
        show Steps p.tables e below (T45.setTop (mkF m 155 #[.val (.int p0), .val (.int p1), .val (.long p2), .second, .val (.long p3), .second, .val (.long p4), .second, .val (.ref a), .val (.int (1 : Int32)), .val (.int (1 : Int32)), .val (.int (1 : Int32))] [(.int (1 : Int32)), (.int (1 : Int32)), (.int (1 : Int32))])) _
        refine XS.icmpNo X45.here hx rfl (hb hby at_155) rfl (teq (by decide : (1 : Int32) = (1 : Int32))).2 ?_
        show Steps p.tables e below (T45.setTop (mkF m 158 #[.val (.int p0), .val (.int p1), .val (.long p2), .second, .val (.long p3), .second, .val (.long p4), .second, .val (.ref a), .val (.int (1 : Int32)), .val (.int (1 : Int32)), .val (.int (1 : Int32))] [(.int (1 : Int32))])) _
        refine XS.iconst X45.here hx rfl (hb hby at_158) ?_
        show Steps p.tables e below (T45.setTop (mkF m 159 #[.val (.int p0), .val (.int p1), .val (.long p2), .second, .val (.long p3), .second, .val (.long p4), .second, .val (.ref a), .val (.int (1 : Int32)), .val (.int (1 : Int32)), .val (.int (1 : Int32))] [(.int (1 : Int32)), (.int (1 : Int32))])) _
        refine XS.goto X45.here hx rfl (pc0 := 159) (pc' := 163) rfl (hb hby at_159) (by decide) (by decide) ?_
        show Steps p.tables e below (T45.setTop (mkF m 163 #[.val (.int p0), .val (.int p1), .val (.long p2), .second, .val (.long p3), .second, .val (.long p4), .second, .val (.ref a), .val (.int (1 : Int32)), .val (.int (1 : Int32)), .val (.int (1 : Int32))] [(.int (1 : Int32)), (.int (1 : Int32))])) _
        refine XS.icmpNo X45.here hx rfl (hb hby at_163) rfl (teq (by decide : (1 : Int32) = (1 : Int32))).2 ?_
        show Steps p.tables e below (T45.setTop (mkF m 166 #[.val (.int p0), .val (.int p1), .val (.long p2), .second, .val (.long p3), .second, .val (.long p4), .second, .val (.ref a), .val (.int (1 : Int32)), .val (.int (1 : Int32)), .val (.int (1 : Int32))] [])) _
        refine XS.iconst X45.here hx rfl (hb hby at_166) ?_
        show Steps p.tables e below (T45.setTop (mkF m 167 #[.val (.int p0), .val (.int p1), .val (.long p2), .second, .val (.long p3), .second, .val (.long p4), .second, .val (.ref a), .val (.int (1 : Int32)), .val (.int (1 : Int32)), .val (.int (1 : Int32))] [(.int (1 : Int32))])) _
        refine XS.goto X45.here hx rfl (pc0 := 167) (pc' := 171) rfl (hb hby at_167) (by decide) (by decide) ?_
        show Steps p.tables e below (T45.setTop (mkF m 171 #[.val (.int p0), .val (.int p1), .val (.long p2), .second, .val (.long p3), .second, .val (.long p4), .second, .val (.ref a), .val (.int (1 : Int32)), .val (.int (1 : Int32)), .val (.int (1 : Int32))] [(.int (1 : Int32))])) _
        refine XS.istore X45.here hx rfl (hb hby at_171) rfl (l' := #[.val (.int p0), .val (.int p1), .val (.long p2), .second, .val (.long p3), .second, .val (.long p4), .second, .val (.ref a), .val (.int (1 : Int32)), .val (.int (1 : Int32)), .val (.int (1 : Int32))]) rfl ?_
        show Steps p.tables e below (T45.setTop (mkF m 173 #[.val (.int p0), .val (.int p1), .val (.long p2), .second, .val (.long p3), .second, .val (.long p4), .second, .val (.ref a), .val (.int (1 : Int32)), .val (.int (1 : Int32)), .val (.int (1 : Int32))] [])) _
        refine XS.iload X45.here hx rfl (hb hby at_173) rfl ?_
        show Steps p.tables e below (T45.setTop (mkF m 175 #[.val (.int p0), .val (.int p1), .val (.long p2), .second, .val (.long p3), .second, .val (.long p4), .second, .val (.ref a), .val (.int (1 : Int32)), .val (.int (1 : Int32)), .val (.int (1 : Int32))] [(.int (1 : Int32))])) _
        exact retN X45 hx (t := .boolean) Bd.returns (by simp) (hb hby at_175) hr
      · show Q_rm0 Z p0 p1 p2 p3 p4 h0 n0 _ T45.heap _
        rw [e45]
        exact ⟨rfl, N45⟩
    · skip
      have pre46 : ∀ tg, Steps p.tables e below (T29.setTop (mkF m 94 #[.val (.int p0), .val (.int p1), .val (.long p2), .second, .val (.long p3), .second, .val (.long p4), .second, .val (.ref a), .val (.int (1 : Int32)), .val (.int (1 : Int32)), .val (.int (3 : Int32))] [])) tg → G tg := fun tg kt => pre30 tg (by rw [hm]; exact kt)
      have pre47 : ∀ tg, Steps p.tables e below (T29.setTop (mkF m 113 #[.val (.int p0), .val (.int p1), .val (.long p2), .second, .val (.long p3), .second, .val (.long p4), .second, .val (.ref a), .val (.int (1 : Int32)), .val (.int (1 : Int32)), .val (.int (1 : Int32))] [(.ref a)])) tg → G tg := fun tg kt => pre46 tg (by
        show Steps p.tables e below (T29.setTop (mkF m 94 #[.val (.int p0), .val (.int p1), .val (.long p2), .second, .val (.long p3), .second, .val (.long p4), .second, .val (.ref a), .val (.int (1 : Int32)), .val (.int (1 : Int32)), .val (.int (3 : Int32))] [])) _
        refine XS.iload X29.here hx rfl (hb hby at_94) rfl ?_
        show Steps p.tables e below (T29.setTop (mkF m 96 #[.val (.int p0), .val (.int p1), .val (.long p2), .second, .val (.long p3), .second, .val (.long p4), .second, .val (.ref a), .val (.int (1 : Int32)), .val (.int (1 : Int32)), .val (.int (3 : Int32))] [(.int (3 : Int32))])) _
        refine XS.iload X29.here hx rfl (hb hby at_96) rfl ?_
        show Steps p.tables e below (T29.setTop (mkF m 98 #[.val (.int p0), .val (.int p1), .val (.long p2), .second, .val (.long p3), .second, .val (.long p4), .second, .val (.ref a), .val (.int (1 : Int32)), .val (.int (1 : Int32)), .val (.int (3 : Int32))] [(.int (1 : Int32)), (.int (3 : Int32))])) _
        refine XS.icmpNo X29.here hx rfl (hb hby at_98) rfl (tlt (by decide : (1 : Int32) < (3 : Int32))).2.2.2 ?_
        show Steps p.tables e below (T29.setTop (mkF m 101 #[.val (.int p0), .val (.int p1), .val (.long p2), .second, .val (.long p3), .second, .val (.long p4), .second, .val (.ref a), .val (.int (1 : Int32)), .val (.int (1 : Int32)), .val (.int (3 : Int32))] [])) _
        refine XS.iload X29.here hx rfl (hb hby at_101) rfl ?_
        show Steps p.tables e below (T29.setTop (mkF m 103 #[.val (.int p0), .val (.int p1), .val (.long p2), .second, .val (.long p3), .second, .val (.long p4), .second, .val (.ref a), .val (.int (1 : Int32)), .val (.int (1 : Int32)), .val (.int (3 : Int32))] [(.int (1 : Int32))])) _
        refine XS.istore X29.here hx rfl (hb hby at_103) rfl (l' := #[.val (.int p0), .val (.int p1), .val (.long p2), .second, .val (.long p3), .second, .val (.long p4), .second, .val (.ref a), .val (.int (1 : Int32)), .val (.int (1 : Int32)), .val (.int (1 : Int32))]) rfl ?_
        show Steps p.tables e below (T29.setTop (mkF m 105 #[.val (.int p0), .val (.int p1), .val (.long p2), .second, .val (.long p3), .second, .val (.long p4), .second, .val (.ref a), .val (.int (1 : Int32)), .val (.int (1 : Int32)), .val (.int (1 : Int32))] [])) _
        refine XS.iload X29.here hx rfl (hb hby at_105) rfl ?_
        show Steps p.tables e below (T29.setTop (mkF m 107 #[.val (.int p0), .val (.int p1), .val (.long p2), .second, .val (.long p3), .second, .val (.long p4), .second, .val (.ref a), .val (.int (1 : Int32)), .val (.int (1 : Int32)), .val (.int (1 : Int32))] [(.int (1 : Int32))])) _
        refine XS.iconst X29.here hx rfl (hb hby at_107) ?_
        show Steps p.tables e below (T29.setTop (mkF m 108 #[.val (.int p0), .val (.int p1), .val (.long p2), .second, .val (.long p3), .second, .val (.long p4), .second, .val (.ref a), .val (.int (1 : Int32)), .val (.int (1 : Int32)), .val (.int (1 : Int32))] [(.int (1 : Int32)), (.int (1 : Int32))])) _
        refine XS.icmpNo X29.here hx rfl (hb hby at_108) rfl (flt (by decide : ¬ ((1 : Int32) < (1 : Int32)))).1 ?_
        show Steps p.tables e below (T29.setTop (mkF m 111 #[.val (.int p0), .val (.int p1), .val (.long p2), .second, .val (.long p3), .second, .val (.long p4), .second, .val (.ref a), .val (.int (1 : Int32)), .val (.int (1 : Int32)), .val (.int (1 : Int32))] [])) _
        refine XS.aload X29.here hx rfl (hb hby at_111) rfl rfl ?_
        exact kt)
      obtain ⟨cq48, kq48, q48a, q48b, q48c⟩ := isOf hZ e29 A1_27
      obtain ⟨_, _, ⟨T48, L48, k48, n48⟩, -, X48, ⟨Lc48, hQ48, l48, y48, z48⟩, st48⟩ := X29.virtualBack hx (y := (⟨"com/example/find_leader/findleader/engine/LongHeap", "pollFirst", "()J"⟩ : MethodName)) (z := (⟨"com/example/find_leader/findleader/engine/LongHeap", "pollFirst", "()J"⟩ : MethodName)) hown (mvT hZ (hw _ (List.mem_of_getElem? (i := 24) rfl))) (mvT hZ (hw _ (List.mem_of_getElem? (i := 25) rfl))) (notFace_of_selects (args := #[]) (mvT hZ (hw _ (List.mem_of_getElem? (i := 27) rfl)))) (mvT hZ (hw _ (List.mem_of_getElem? (i := 27) rfl))) (mvT hZ (hw _ (List.mem_of_getElem? (i := 26) rfl))) (by decide) (backOf (W := 0) (rm5_1 l Z a0 hw [] a b kA wa26 wb26 wc26 T26.heap n0 Z26 A1_27 Fv26 Fs26 Vb26 O_a O_b ne_a_b) hZ (hw _ (List.mem_of_getElem? (i := 28) rfl)) (hw _ (List.mem_of_getElem? (i := 2) rfl)) (by decide) (by decide)) q48a q48c (g := (mkF m 113 #[.val (.int p0), .val (.int p1), .val (.long p2), .second, .val (.long p3), .second, .val (.long p4), .second, .val (.ref a), .val (.int (1 : Int32)), .val (.int (1 : Int32)), .val (.int (1 : Int32))] [(.ref a)])) rfl (by rw [hml]; rfl) (Steps.refl _) (argsL := []) (rest := []) (lenOf pd_0 rfl) rfl (by show 2 * 0 + _ ≤ _; exact Nat.le_of_eq rfl) (hb hby at_113) (fun _ _ => ⟨rfl, e29, (Nat.le_of_ble_eq_true rfl), (Nat.le_of_ble_eq_true rfl)⟩)
      dsimp only [Pt.U, Pt.locs, Pt.cells, Pt.slots] at X48 l48 y48 z48 st48 hQ48
      subst l48 y48 z48
      obtain ⟨x48, rfl, N48q, K48, wa48, wb48, wc48, Fv48, Fs48, Vb48⟩ := hQ48
      have N48 := Fr.app N29 N48q
      have pre48s : ∀ tg, Steps p.tables e below (T48.setTop (mkF m 116 #[.val (.int p0), .val (.int p1), .val (.long p2), .second, .val (.long p3), .second, .val (.long p4), .second, .val (.ref a), .val (.int (1 : Int32)), .val (.int (1 : Int32)), .val (.int (1 : Int32))] [(.long x48)])) tg → G tg := fun tg kt => pre47 tg (st48.trans kt)
      have Z48 : n0 ≤ T48.heap.size := Nat.le_trans Z26 K48.1
      have A1_49 := A1_27.keep K48
      have pre50 : ∀ tg, Steps p.tables e below (T48.setTop (mkF m 148 #[.val (.int p0), .val (.int p1), .val (.long p2), .second, .val (.long p3), .second, .val (.long p4), .second, .val (.ref a), .val (.int (1 : Int32)), .val (.int (1 : Int32)), .val (.int (1 : Int32))] [(.ref a)])) tg → G tg := fun tg kt => pre48s tg (by
        show Steps p.tables e below (T48.setTop (mkF m 116 #[.val (.int p0), .val (.int p1), .val (.long p2), .second, .val (.long p3), .second, .val (.long p4), .second, .val (.ref a), .val (.int (1 : Int32)), .val (.int (1 : Int32)), .val (.int (1 : Int32))] [(.long x48)])) _
        jvm_step X48.here [X48.here.top, hx, (hb hby at_116), Value.category]
        show Steps p.tables e below (T48.setTop (mkF m 117 #[.val (.int p0), .val (.int p1), .val (.long p2), .second, .val (.long p3), .second, .val (.long p4), .second, .val (.ref a), .val (.int (1 : Int32)), .val (.int (1 : Int32)), .val (.int (1 : Int32))] [])) _
        refine XS.iload X48.here hx rfl (hb hby at_117) rfl ?_
        show Steps p.tables e below (T48.setTop (mkF m 119 #[.val (.int p0), .val (.int p1), .val (.long p2), .second, .val (.long p3), .second, .val (.long p4), .second, .val (.ref a), .val (.int (1 : Int32)), .val (.int (1 : Int32)), .val (.int (1 : Int32))] [(.int (1 : Int32))])) _
        refine XS.iconst X48.here hx rfl (hb hby at_119) ?_
        show Steps p.tables e below (T48.setTop (mkF m 120 #[.val (.int p0), .val (.int p1), .val (.long p2), .second, .val (.long p3), .second, .val (.long p4), .second, .val (.ref a), .val (.int (1 : Int32)), .val (.int (1 : Int32)), .val (.int (1 : Int32))] [(.int (2 : Int32)), (.int (1 : Int32))])) _
        refine XS.icmpYes X48.here hx rfl (pc0 := 120) (pc' := 129) rfl (hb hby at_120) rfl (tlt (by decide : (1 : Int32) < (2 : Int32))).1 (by decide) (by decide) ?_
        show Steps p.tables e below (T48.setTop (mkF m 129 #[.val (.int p0), .val (.int p1), .val (.long p2), .second, .val (.long p3), .second, .val (.long p4), .second, .val (.ref a), .val (.int (1 : Int32)), .val (.int (1 : Int32)), .val (.int (1 : Int32))] [])) _
        refine XS.iload X48.here hx rfl (hb hby at_129) rfl ?_
        show Steps p.tables e below (T48.setTop (mkF m 131 #[.val (.int p0), .val (.int p1), .val (.long p2), .second, .val (.long p3), .second, .val (.long p4), .second, .val (.ref a), .val (.int (1 : Int32)), .val (.int (1 : Int32)), .val (.int (1 : Int32))] [(.int (1 : Int32))])) _
        refine XS.iconst X48.here hx rfl (hb hby at_131) ?_
        show Steps p.tables e below (T48.setTop (mkF m 132 #[.val (.int p0), .val (.int p1), .val (.long p2), .second, .val (.long p3), .second, .val (.long p4), .second, .val (.ref a), .val (.int (1 : Int32)), .val (.int (1 : Int32)), .val (.int (1 : Int32))] [(.int (3 : Int32)), (.int (1 : Int32))])) _
        refine XS.icmpYes X48.here hx rfl (pc0 := 132) (pc' := 141) rfl (hb hby at_132) rfl (tlt (by decide : (1 : Int32) < (3 : Int32))).1 (by decide) (by decide) ?_
        show Steps p.tables e below (T48.setTop (mkF m 141 #[.val (.int p0), .val (.int p1), .val (.long p2), .second, .val (.long p3), .second, .val (.long p4), .second, .val (.ref a), .val (.int (1 : Int32)), .val (.int (1 : Int32)), .val (.int (1 : Int32))] [])) _
        refine XS.iload X48.here hx rfl (hb hby at_141) rfl ?_
        show Steps p.tables e below (T48.setTop (mkF m 143 #[.val (.int p0), .val (.int p1), .val (.long p2), .second, .val (.long p3), .second, .val (.long p4), .second, .val (.ref a), .val (.int (1 : Int32)), .val (.int (1 : Int32)), .val (.int (1 : Int32))] [(.int (1 : Int32))])) _
        refine XS.ifNo X48.here hx rfl (hb hby at_143) rfl ((if0 _ _).trans (feq (by decide : ¬ ((1 : Int32) = (0 : Int32)))).1) ?_
        show Steps p.tables e below (T48.setTop (mkF m 146 #[.val (.int p0), .val (.int p1), .val (.long p2), .second, .val (.long p3), .second, .val (.long p4), .second, .val (.ref a), .val (.int (1 : Int32)), .val (.int (1 : Int32)), .val (.int (1 : Int32))] [])) _
        refine XS.aload X48.here hx rfl (hb hby at_146) rfl rfl ?_
        exact kt)
      obtain ⟨cq51, kq51, q51a, q51b, q51c⟩ := isOf hZ rfl A1_49
      obtain ⟨_, _, ⟨T51, L51, k51, n51⟩, -, X51, ⟨Lc51, hQ51, l51, y51, z51⟩, st51⟩ := X48.virtualBack hx (y := (⟨"com/example/find_leader/findleader/engine/LongHeap", "isEmpty", "()Z"⟩ : MethodName)) (z := (⟨"com/example/find_leader/findleader/engine/LongHeap", "isEmpty", "()Z"⟩ : MethodName)) hown (mvT hZ (hw _ (List.mem_of_getElem? (i := 12) rfl))) (mvT hZ (hw _ (List.mem_of_getElem? (i := 13) rfl))) (notFace_of_selects (args := #[]) (mvT hZ (hw _ (List.mem_of_getElem? (i := 15) rfl)))) (mvT hZ (hw _ (List.mem_of_getElem? (i := 15) rfl))) (mvT hZ (hw _ (List.mem_of_getElem? (i := 14) rfl))) (by decide) (backOf (W := 0) (rm3 l Z a0 hw [] a (0 : Int32) T48.heap n0 Z48 Fs48) hZ (hw _ (List.mem_of_getElem? (i := 16) rfl)) (hw _ (List.mem_of_getElem? (i := 2) rfl)) (by decide) (by decide)) q51a q51c (g := (mkF m 148 #[.val (.int p0), .val (.int p1), .val (.long p2), .second, .val (.long p3), .second, .val (.long p4), .second, .val (.ref a), .val (.int (1 : Int32)), .val (.int (1 : Int32)), .val (.int (1 : Int32))] [(.ref a)])) rfl (by rw [hml]; rfl) (Steps.refl _) (argsL := []) (rest := []) (lenOf pd_2 rfl) rfl (by show 2 * 0 + _ ≤ _; exact Nat.le_of_eq rfl) (hb hby at_148) (fun _ _ => ⟨rfl, rfl, (Nat.le_of_ble_eq_true rfl), (Nat.le_of_ble_eq_true rfl)⟩)
      dsimp only [Pt.U, Pt.locs, Pt.cells, Pt.slots] at X51 l51 y51 z51 st51 hQ51
      subst l51 y51 z51
      obtain ⟨hv51, N51q, e51⟩ := hQ51
      rw [if_pos rfl] at hv51
      subst hv51
      have N51 := Fr.app N48 N51q
      have pre51s : ∀ tg, Steps p.tables e below (T51.setTop (mkF m 151 #[.val (.int p0), .val (.int p1), .val (.long p2), .second, .val (.long p3), .second, .val (.long p4), .second, .val (.ref a), .val (.int (1 : Int32)), .val (.int (1 : Int32)), .val (.int (1 : Int32))] [(.int (1 : Int32))])) tg → G tg := fun tg kt => pre50 tg (st51.trans kt)
      obtain ⟨fs, hr, hrun, hended, hW, hsame⟩ := X51.leave (v := some (.int (1 : Int32))) (fun h => by rw [Bd.returns] at h; cases h)
      subst hG
      refine ⟨_, _, pre51s _ ?_, hrun, hended, _, _, rfl, ?_, ⟨_, rfl⟩, hW, hsame.mono (by decide) (by decide)⟩
      · skip
        show Steps p.tables e below (T51.setTop (mkF m 151 #[.val (.int p0), .val (.int p1), .val (.long p2), .second, .val (.long p3), .second, .val (.long p4), .second, .val (.ref a), .val (.int (1 : Int32)), .val (.int (1 : Int32)), .val (.int (1 : Int32))] [(.int (1 : Int32))])) _
        refine XS.iload X51.here hx rfl (hb hby at_151) rfl ?_
        show Steps p.tables e below (T51.setTop (mkF m 153 #[.val (.int p0), .val (.int p1), .val (.long p2), .second, .val (.long p3), .second, .val (.long p4), .second, .val (.ref a), .val (.int (1 : Int32)), .val (.int (1 : Int32)), .val (.int (1 : Int32))] [(.int (1 : Int32)), (.int (1 : Int32))])) _
        refine XS.iload X51.here hx rfl (hb hby at_153) rfl ?_
        show Steps p.tables e below (T51.setTop (mkF m 155 #[.val (.int p0), .val (.int p1), .val (.long p2), .second, .val (.long p3), .second, .val (.long p4), .second, .val (.ref a), .val (.int (1 : Int32)), .val (.int (1 : Int32)), .val (.int (1 : Int32))] [(.int (1 : Int32)), (.int (1 : Int32)), (.int (1 : Int32))])) _
        refine XS.icmpNo X51.here hx rfl (hb hby at_155) rfl (teq (by decide : (1 : Int32) = (1 : Int32))).2 ?_
        show Steps p.tables e below (T51.setTop (mkF m 158 #[.val (.int p0), .val (.int p1), .val (.long p2), .second, .val (.long p3), .second, .val (.long p4), .second, .val (.ref a), .val (.int (1 : Int32)), .val (.int (1 : Int32)), .val (.int (1 : Int32))] [(.int (1 : Int32))])) _
        refine XS.iconst X51.here hx rfl (hb hby at_158) ?_
        show Steps p.tables e below (T51.setTop (mkF m 159 #[.val (.int p0), .val (.int p1), .val (.long p2), .second, .val (.long p3), .second, .val (.long p4), .second, .val (.ref a), .val (.int (1 : Int32)), .val (.int (1 : Int32)), .val (.int (1 : Int32))] [(.int (1 : Int32)), (.int (1 : Int32))])) _
        refine XS.goto X51.here hx rfl (pc0 := 159) (pc' := 163) rfl (hb hby at_159) (by decide) (by decide) ?_
        show Steps p.tables e below (T51.setTop (mkF m 163 #[.val (.int p0), .val (.int p1), .val (.long p2), .second, .val (.long p3), .second, .val (.long p4), .second, .val (.ref a), .val (.int (1 : Int32)), .val (.int (1 : Int32)), .val (.int (1 : Int32))] [(.int (1 : Int32)), (.int (1 : Int32))])) _
        refine XS.icmpNo X51.here hx rfl (hb hby at_163) rfl (teq (by decide : (1 : Int32) = (1 : Int32))).2 ?_
        show Steps p.tables e below (T51.setTop (mkF m 166 #[.val (.int p0), .val (.int p1), .val (.long p2), .second, .val (.long p3), .second, .val (.long p4), .second, .val (.ref a), .val (.int (1 : Int32)), .val (.int (1 : Int32)), .val (.int (1 : Int32))] [])) _
        refine XS.iconst X51.here hx rfl (hb hby at_166) ?_
        show Steps p.tables e below (T51.setTop (mkF m 167 #[.val (.int p0), .val (.int p1), .val (.long p2), .second, .val (.long p3), .second, .val (.long p4), .second, .val (.ref a), .val (.int (1 : Int32)), .val (.int (1 : Int32)), .val (.int (1 : Int32))] [(.int (1 : Int32))])) _
        refine XS.goto X51.here hx rfl (pc0 := 167) (pc' := 171) rfl (hb hby at_167) (by decide) (by decide) ?_
        show Steps p.tables e below (T51.setTop (mkF m 171 #[.val (.int p0), .val (.int p1), .val (.long p2), .second, .val (.long p3), .second, .val (.long p4), .second, .val (.ref a), .val (.int (1 : Int32)), .val (.int (1 : Int32)), .val (.int (1 : Int32))] [(.int (1 : Int32))])) _
        refine XS.istore X51.here hx rfl (hb hby at_171) rfl (l' := #[.val (.int p0), .val (.int p1), .val (.long p2), .second, .val (.long p3), .second, .val (.long p4), .second, .val (.ref a), .val (.int (1 : Int32)), .val (.int (1 : Int32)), .val (.int (1 : Int32))]) rfl ?_
        show Steps p.tables e below (T51.setTop (mkF m 173 #[.val (.int p0), .val (.int p1), .val (.long p2), .second, .val (.long p3), .second, .val (.long p4), .second, .val (.ref a), .val (.int (1 : Int32)), .val (.int (1 : Int32)), .val (.int (1 : Int32))] [])) _
        refine XS.iload X51.here hx rfl (hb hby at_173) rfl ?_
        show Steps p.tables e below (T51.setTop (mkF m 175 #[.val (.int p0), .val (.int p1), .val (.long p2), .second, .val (.long p3), .second, .val (.long p4), .second, .val (.ref a), .val (.int (1 : Int32)), .val (.int (1 : Int32)), .val (.int (1 : Int32))] [(.int (1 : Int32))])) _
        exact retN X51 hx (t := .boolean) Bd.returns (by simp) (hb hby at_175) hr
      · show Q_rm0 Z p0 p1 p2 p3 p4 h0 n0 _ T51.heap _
        rw [e51]
        exact ⟨rfl, N51⟩
  · skip
    have pre52 : ∀ tg, Steps p.tables e below (T6.setTop (mkF m 24 #[.val (.int p0), .val (.int p1), .val (.long p2), .second, .val (.long p3), .second, .val (.long p4), .second, .val (.ref a), .val (.int (1 : Int32)), .val (.int (2 : Int32)), .unset] [(.int (1 : Int32)), (.int (2 : Int32))])) tg → G tg := fun tg kt => pre7 tg (by rw [hn]; exact kt)
    have pre53 : ∀ tg, Steps p.tables e below (T6.setTop (mkF m 30 #[.val (.int p0), .val (.int p1), .val (.long p2), .second, .val (.long p3), .second, .val (.long p4), .second, .val (.ref a), .val (.int (1 : Int32)), .val (.int (2 : Int32)), .unset] [(.long p2), (.ref a)])) tg → G tg := fun tg kt => pre52 tg (by
      show Steps p.tables e below (T6.setTop (mkF m 24 #[.val (.int p0), .val (.int p1), .val (.long p2), .second, .val (.long p3), .second, .val (.long p4), .second, .val (.ref a), .val (.int (1 : Int32)), .val (.int (2 : Int32)), .unset] [(.int (1 : Int32)), (.int (2 : Int32))])) _
      refine XS.icmpNo X6.here hx rfl (hb hby at_24) rfl (flt (by decide : ¬ ((2 : Int32) < (1 : Int32)))).1 ?_
      show Steps p.tables e below (T6.setTop (mkF m 27 #[.val (.int p0), .val (.int p1), .val (.long p2), .second, .val (.long p3), .second, .val (.long p4), .second, .val (.ref a), .val (.int (1 : Int32)), .val (.int (2 : Int32)), .unset] [])) _
      refine XS.aload X6.here hx rfl (hb hby at_27) rfl rfl ?_
      show Steps p.tables e below (T6.setTop (mkF m 29 #[.val (.int p0), .val (.int p1), .val (.long p2), .second, .val (.long p3), .second, .val (.long p4), .second, .val (.ref a), .val (.int (1 : Int32)), .val (.int (2 : Int32)), .unset] [(.ref a)])) _
      refine XS.lloadN X6.here hx rfl (hb hby at_29) rfl ?_
      exact kt)
    obtain ⟨cq54, kq54, q54a, q54b, q54c⟩ := isOf hZ e6 A1_4
    obtain ⟨_, _, ⟨T54, L54, k54, n54⟩, -, X54, ⟨Lc54, hQ54, l54, y54, z54⟩, st54⟩ := X6.virtualBack hx (y := (⟨"com/example/find_leader/findleader/engine/LongHeap", "add", "(J)V"⟩ : MethodName)) (z := (⟨"com/example/find_leader/findleader/engine/LongHeap", "add", "(J)V"⟩ : MethodName)) hown (mvT hZ (hw _ (List.mem_of_getElem? (i := 19) rfl))) (mvT hZ (hw _ (List.mem_of_getElem? (i := 20) rfl))) (notFace_of_selects (args := #[]) (mvT hZ (hw _ (List.mem_of_getElem? (i := 22) rfl)))) (mvT hZ (hw _ (List.mem_of_getElem? (i := 22) rfl))) (mvT hZ (hw _ (List.mem_of_getElem? (i := 21) rfl))) (by decide) (backOf (W := 0) (rm4_0 l Z a0 hw [] a p2 b kA (0 : Int64) (0 : Int64) (0 : Int64) T3.heap n0 Z3 A1_4 Fv3 Fs3 Vb3 O_a O_b ne_a_b) hZ (hw _ (List.mem_of_getElem? (i := 23) rfl)) (hw _ (List.mem_of_getElem? (i := 2) rfl)) (by decide) (by decide)) q54a q54c (g := (mkF m 30 #[.val (.int p0), .val (.int p1), .val (.long p2), .second, .val (.long p3), .second, .val (.long p4), .second, .val (.ref a), .val (.int (1 : Int32)), .val (.int (2 : Int32)), .unset] [(.long p2), (.ref a)])) rfl (by rw [hml]; rfl) (Steps.refl _) (argsL := [(.long p2)]) (rest := []) (lenOf pd_3 rfl) rfl (by show 2 * 0 + _ ≤ _; exact Nat.le_of_eq rfl) (hb hby at_30) (fun _ _ => ⟨rfl, e6, (Nat.le_of_ble_eq_true rfl), (Nat.le_of_ble_eq_true rfl)⟩)
    dsimp only [Pt.U, Pt.locs, Pt.cells, Pt.slots] at X54 l54 y54 z54 st54 hQ54
    subst l54 y54 z54
    obtain ⟨rfl, N54q, K54, wa54, wb54, wc54, Fv54, Fs54, Vb54⟩ := hQ54
    have N54 := Fr.app N6 N54q
    have pre54s : ∀ tg, Steps p.tables e below (T54.setTop (mkF m 33 #[.val (.int p0), .val (.int p1), .val (.long p2), .second, .val (.long p3), .second, .val (.long p4), .second, .val (.ref a), .val (.int (1 : Int32)), .val (.int (2 : Int32)), .unset] [])) tg → G tg := fun tg kt => pre53 tg (st54.trans kt)
    have Z54 : n0 ≤ T54.heap.size := Nat.le_trans Z3 K54.1
    have A1_55 := A1_4.keep K54
    have pre56 : ∀ tg, Steps p.tables e below (T54.setTop (mkF m 43 #[.val (.int p0), .val (.int p1), .val (.long p2), .second, .val (.long p3), .second, .val (.long p4), .second, .val (.ref a), .val (.int (1 : Int32)), .val (.int (2 : Int32)), .unset] [(.long p3), (.ref a)])) tg → G tg := fun tg kt => pre54s tg (by
      show Steps p.tables e below (T54.setTop (mkF m 33 #[.val (.int p0), .val (.int p1), .val (.long p2), .second, .val (.long p3), .second, .val (.long p4), .second, .val (.ref a), .val (.int (1 : Int32)), .val (.int (2 : Int32)), .unset] [])) _
      refine XS.iload X54.here hx rfl (hb hby at_33) rfl ?_
      show Steps p.tables e below (T54.setTop (mkF m 35 #[.val (.int p0), .val (.int p1), .val (.long p2), .second, .val (.long p3), .second, .val (.long p4), .second, .val (.ref a), .val (.int (1 : Int32)), .val (.int (2 : Int32)), .unset] [(.int (2 : Int32))])) _
      refine XS.iconst X54.here hx rfl (hb hby at_35) ?_
      show Steps p.tables e below (T54.setTop (mkF m 36 #[.val (.int p0), .val (.int p1), .val (.long p2), .second, .val (.long p3), .second, .val (.long p4), .second, .val (.ref a), .val (.int (1 : Int32)), .val (.int (2 : Int32)), .unset] [(.int (2 : Int32)), (.int (2 : Int32))])) _
      refine XS.icmpNo X54.here hx rfl (hb hby at_36) rfl (flt (by decide : ¬ ((2 : Int32) < (2 : Int32)))).1 ?_
      show Steps p.tables e below (T54.setTop (mkF m 39 #[.val (.int p0), .val (.int p1), .val (.long p2), .second, .val (.long p3), .second, .val (.long p4), .second, .val (.ref a), .val (.int (1 : Int32)), .val (.int (2 : Int32)), .unset] [])) _
      refine XS.aload X54.here hx rfl (hb hby at_39) rfl rfl ?_
      show Steps p.tables e below (T54.setTop (mkF m 41 #[.val (.int p0), .val (.int p1), .val (.long p2), .second, .val (.long p3), .second, .val (.long p4), .second, .val (.ref a), .val (.int (1 : Int32)), .val (.int (2 : Int32)), .unset] [(.ref a)])) _
      refine XS.lload X54.here hx rfl (hb hby at_41) rfl ?_
      exact kt)
    obtain ⟨cq57, kq57, q57a, q57b, q57c⟩ := isOf hZ rfl A1_55
    obtain ⟨_, _, ⟨T57, L57, k57, n57⟩, -, X57, ⟨Lc57, hQ57, l57, y57, z57⟩, st57⟩ := X54.virtualBack hx (y := (⟨"com/example/find_leader/findleader/engine/LongHeap", "add", "(J)V"⟩ : MethodName)) (z := (⟨"com/example/find_leader/findleader/engine/LongHeap", "add", "(J)V"⟩ : MethodName)) hown (mvT hZ (hw _ (List.mem_of_getElem? (i := 19) rfl))) (mvT hZ (hw _ (List.mem_of_getElem? (i := 20) rfl))) (notFace_of_selects (args := #[]) (mvT hZ (hw _ (List.mem_of_getElem? (i := 22) rfl)))) (mvT hZ (hw _ (List.mem_of_getElem? (i := 22) rfl))) (mvT hZ (hw _ (List.mem_of_getElem? (i := 21) rfl))) (by decide) (backOf (W := 0) (rm4_1 l Z a0 hw [] a p3 b kA wa54 wb54 wc54 T54.heap n0 Z54 A1_55 Fv54 Fs54 Vb54 O_a O_b ne_a_b) hZ (hw _ (List.mem_of_getElem? (i := 23) rfl)) (hw _ (List.mem_of_getElem? (i := 2) rfl)) (by decide) (by decide)) q57a q57c (g := (mkF m 43 #[.val (.int p0), .val (.int p1), .val (.long p2), .second, .val (.long p3), .second, .val (.long p4), .second, .val (.ref a), .val (.int (1 : Int32)), .val (.int (2 : Int32)), .unset] [(.long p3), (.ref a)])) rfl (by rw [hml]; rfl) (Steps.refl _) (argsL := [(.long p3)]) (rest := []) (lenOf pd_3 rfl) rfl (by show 2 * 0 + _ ≤ _; exact Nat.le_of_eq rfl) (hb hby at_43) (fun _ _ => ⟨rfl, rfl, (Nat.le_of_ble_eq_true rfl), (Nat.le_of_ble_eq_true rfl)⟩)
    dsimp only [Pt.U, Pt.locs, Pt.cells, Pt.slots] at X57 l57 y57 z57 st57 hQ57
    subst l57 y57 z57
    obtain ⟨rfl, N57q, K57, wa57, wb57, wc57, Fv57, Fs57, Vb57⟩ := hQ57
    have N57 := Fr.app N54 N57q
    have pre57s : ∀ tg, Steps p.tables e below (T57.setTop (mkF m 46 #[.val (.int p0), .val (.int p1), .val (.long p2), .second, .val (.long p3), .second, .val (.long p4), .second, .val (.ref a), .val (.int (1 : Int32)), .val (.int (2 : Int32)), .unset] [])) tg → G tg := fun tg kt => pre56 tg (st57.trans kt)
    have Z57 : n0 ≤ T57.heap.size := Nat.le_trans Z54 K57.1
    have A1_58 := A1_55.keep K57
    have pre59 : ∀ tg, Steps p.tables e below (T57.setTop (mkF m 66 #[.val (.int p0), .val (.int p1), .val (.long p2), .second, .val (.long p3), .second, .val (.long p4), .second, .val (.ref a), .val (.int (1 : Int32)), .val (.int (2 : Int32)), .unset] [(.ref a)])) tg → G tg := fun tg kt => pre57s tg (by
      show Steps p.tables e below (T57.setTop (mkF m 46 #[.val (.int p0), .val (.int p1), .val (.long p2), .second, .val (.long p3), .second, .val (.long p4), .second, .val (.ref a), .val (.int (1 : Int32)), .val (.int (2 : Int32)), .unset] [])) _
      refine XS.iload X57.here hx rfl (hb hby at_46) rfl ?_
      show Steps p.tables e below (T57.setTop (mkF m 48 #[.val (.int p0), .val (.int p1), .val (.long p2), .second, .val (.long p3), .second, .val (.long p4), .second, .val (.ref a), .val (.int (1 : Int32)), .val (.int (2 : Int32)), .unset] [(.int (2 : Int32))])) _
      refine XS.iconst X57.here hx rfl (hb hby at_48) ?_
      show Steps p.tables e below (T57.setTop (mkF m 49 #[.val (.int p0), .val (.int p1), .val (.long p2), .second, .val (.long p3), .second, .val (.long p4), .second, .val (.ref a), .val (.int (1 : Int32)), .val (.int (2 : Int32)), .unset] [(.int (3 : Int32)), (.int (2 : Int32))])) _
      refine XS.icmpYes X57.here hx rfl (pc0 := 49) (pc' := 59) rfl (hb hby at_49) rfl (tlt (by decide : (2 : Int32) < (3 : Int32))).1 (by decide) (by decide) ?_
      show Steps p.tables e below (T57.setTop (mkF m 59 #[.val (.int p0), .val (.int p1), .val (.long p2), .second, .val (.long p3), .second, .val (.long p4), .second, .val (.ref a), .val (.int (1 : Int32)), .val (.int (2 : Int32)), .unset] [])) _
      refine XS.iload X57.here hx rfl (hb hby at_59) rfl ?_
      show Steps p.tables e below (T57.setTop (mkF m 61 #[.val (.int p0), .val (.int p1), .val (.long p2), .second, .val (.long p3), .second, .val (.long p4), .second, .val (.ref a), .val (.int (1 : Int32)), .val (.int (2 : Int32)), .unset] [(.int (1 : Int32))])) _
      refine XS.ifNo X57.here hx rfl (hb hby at_61) rfl ((if0 _ _).trans (feq (by decide : ¬ ((1 : Int32) = (0 : Int32)))).1) ?_
      show Steps p.tables e below (T57.setTop (mkF m 64 #[.val (.int p0), .val (.int p1), .val (.long p2), .second, .val (.long p3), .second, .val (.long p4), .second, .val (.ref a), .val (.int (1 : Int32)), .val (.int (2 : Int32)), .unset] [])) _
      refine XS.aload X57.here hx rfl (hb hby at_64) rfl rfl ?_
      exact kt)
    obtain ⟨cq60, kq60, q60a, q60b, q60c⟩ := isOf hZ rfl A1_58
    obtain ⟨_, _, ⟨T60, L60, k60, n60⟩, -, X60, ⟨Lc60, hQ60, l60, y60, z60⟩, st60⟩ := X57.virtualBack hx (y := (⟨"com/example/find_leader/findleader/engine/LongHeap", "isEmpty", "()Z"⟩ : MethodName)) (z := (⟨"com/example/find_leader/findleader/engine/LongHeap", "isEmpty", "()Z"⟩ : MethodName)) hown (mvT hZ (hw _ (List.mem_of_getElem? (i := 12) rfl))) (mvT hZ (hw _ (List.mem_of_getElem? (i := 13) rfl))) (notFace_of_selects (args := #[]) (mvT hZ (hw _ (List.mem_of_getElem? (i := 15) rfl)))) (mvT hZ (hw _ (List.mem_of_getElem? (i := 15) rfl))) (mvT hZ (hw _ (List.mem_of_getElem? (i := 14) rfl))) (by decide) (backOf (W := 0) (rm3 l Z a0 hw [] a (2 : Int32) T57.heap n0 Z57 Fs57) hZ (hw _ (List.mem_of_getElem? (i := 16) rfl)) (hw _ (List.mem_of_getElem? (i := 2) rfl)) (by decide) (by decide)) q60a q60c (g := (mkF m 66 #[.val (.int p0), .val (.int p1), .val (.long p2), .second, .val (.long p3), .second, .val (.long p4), .second, .val (.ref a), .val (.int (1 : Int32)), .val (.int (2 : Int32)), .unset] [(.ref a)])) rfl (by rw [hml]; rfl) (Steps.refl _) (argsL := []) (rest := []) (lenOf pd_2 rfl) rfl (by show 2 * 0 + _ ≤ _; exact Nat.le_of_eq rfl) (hb hby at_66) (fun _ _ => ⟨rfl, rfl, (Nat.le_of_ble_eq_true rfl), (Nat.le_of_ble_eq_true rfl)⟩)
    dsimp only [Pt.U, Pt.locs, Pt.cells, Pt.slots] at X60 l60 y60 z60 st60 hQ60
    subst l60 y60 z60
    obtain ⟨hv60, N60q, e60⟩ := hQ60
    rw [if_neg (by decide)] at hv60
    subst hv60
    have N60 := Fr.app N57 N60q
    have pre60s : ∀ tg, Steps p.tables e below (T60.setTop (mkF m 69 #[.val (.int p0), .val (.int p1), .val (.long p2), .second, .val (.long p3), .second, .val (.long p4), .second, .val (.ref a), .val (.int (1 : Int32)), .val (.int (2 : Int32)), .unset] [(.int (0 : Int32))])) tg → G tg := fun tg kt => pre59 tg (st60.trans kt)
    have pre61 : ∀ tg, Steps p.tables e below (T60.setTop (mkF m 94 #[.val (.int p0), .val (.int p1), .val (.long p2), .second, .val (.long p3), .second, .val (.long p4), .second, .val (.ref a), .val (.int (1 : Int32)), .val (.int (2 : Int32)), .val (.int (p1 &&& (3 : Int32)))] [])) tg → G tg := fun tg kt => pre60s tg (by
      show Steps p.tables e below (T60.setTop (mkF m 69 #[.val (.int p0), .val (.int p1), .val (.long p2), .second, .val (.long p3), .second, .val (.long p4), .second, .val (.ref a), .val (.int (1 : Int32)), .val (.int (2 : Int32)), .unset] [(.int (0 : Int32))])) _
      refine XS.iload X60.here hx rfl (hb hby at_69) rfl ?_
      show Steps p.tables e below (T60.setTop (mkF m 71 #[.val (.int p0), .val (.int p1), .val (.long p2), .second, .val (.long p3), .second, .val (.long p4), .second, .val (.ref a), .val (.int (1 : Int32)), .val (.int (2 : Int32)), .unset] [(.int (2 : Int32)), (.int (0 : Int32))])) _
      refine XS.ifYes X60.here hx rfl (pc0 := 71) (pc' := 78) rfl (hb hby at_71) rfl ((if0 _ _).trans (feq (by decide : ¬ ((2 : Int32) = (0 : Int32)))).2) (by decide) (by decide) ?_
      show Steps p.tables e below (T60.setTop (mkF m 78 #[.val (.int p0), .val (.int p1), .val (.long p2), .second, .val (.long p3), .second, .val (.long p4), .second, .val (.ref a), .val (.int (1 : Int32)), .val (.int (2 : Int32)), .unset] [(.int (0 : Int32))])) _
      refine XS.iconst X60.here hx rfl (hb hby at_78) ?_
      show Steps p.tables e below (T60.setTop (mkF m 79 #[.val (.int p0), .val (.int p1), .val (.long p2), .second, .val (.long p3), .second, .val (.long p4), .second, .val (.ref a), .val (.int (1 : Int32)), .val (.int (2 : Int32)), .unset] [(.int (0 : Int32)), (.int (0 : Int32))])) _
      refine XS.icmpNo X60.here hx rfl (hb hby at_79) rfl (teq (by decide : (0 : Int32) = (0 : Int32))).2 ?_
      show Steps p.tables e below (T60.setTop (mkF m 82 #[.val (.int p0), .val (.int p1), .val (.long p2), .second, .val (.long p3), .second, .val (.long p4), .second, .val (.ref a), .val (.int (1 : Int32)), .val (.int (2 : Int32)), .unset] [])) _
      refine XS.iconst X60.here hx rfl (hb hby at_82) ?_
      show Steps p.tables e below (T60.setTop (mkF m 83 #[.val (.int p0), .val (.int p1), .val (.long p2), .second, .val (.long p3), .second, .val (.long p4), .second, .val (.ref a), .val (.int (1 : Int32)), .val (.int (2 : Int32)), .unset] [(.int (1 : Int32))])) _
      refine XS.goto X60.here hx rfl (pc0 := 83) (pc' := 87) rfl (hb hby at_83) (by decide) (by decide) ?_
      show Steps p.tables e below (T60.setTop (mkF m 87 #[.val (.int p0), .val (.int p1), .val (.long p2), .second, .val (.long p3), .second, .val (.long p4), .second, .val (.ref a), .val (.int (1 : Int32)), .val (.int (2 : Int32)), .unset] [(.int (1 : Int32))])) _
      refine XS.istore X60.here hx rfl (hb hby at_87) rfl (l' := #[.val (.int p0), .val (.int p1), .val (.long p2), .second, .val (.long p3), .second, .val (.long p4), .second, .val (.ref a), .val (.int (1 : Int32)), .val (.int (2 : Int32)), .unset]) rfl ?_
      show Steps p.tables e below (T60.setTop (mkF m 89 #[.val (.int p0), .val (.int p1), .val (.long p2), .second, .val (.long p3), .second, .val (.long p4), .second, .val (.ref a), .val (.int (1 : Int32)), .val (.int (2 : Int32)), .unset] [])) _
      refine XS.iloadN X60.here hx rfl (hb hby at_89) rfl ?_
      show Steps p.tables e below (T60.setTop (mkF m 90 #[.val (.int p0), .val (.int p1), .val (.long p2), .second, .val (.long p3), .second, .val (.long p4), .second, .val (.ref a), .val (.int (1 : Int32)), .val (.int (2 : Int32)), .unset] [(.int p1)])) _
      refine XS.iconst X60.here hx rfl (hb hby at_90) ?_
      show Steps p.tables e below (T60.setTop (mkF m 91 #[.val (.int p0), .val (.int p1), .val (.long p2), .second, .val (.long p3), .second, .val (.long p4), .second, .val (.ref a), .val (.int (1 : Int32)), .val (.int (2 : Int32)), .unset] [(.int (3 : Int32)), (.int p1)])) _
      refine XS.iand X60.here hx rfl (hb hby at_91) rfl ?_
      show Steps p.tables e below (T60.setTop (mkF m 92 #[.val (.int p0), .val (.int p1), .val (.long p2), .second, .val (.long p3), .second, .val (.long p4), .second, .val (.ref a), .val (.int (1 : Int32)), .val (.int (2 : Int32)), .unset] [(.int (p1 &&& (3 : Int32)))])) _
      refine XS.istore X60.here hx rfl (hb hby at_92) rfl (l' := #[.val (.int p0), .val (.int p1), .val (.long p2), .second, .val (.long p3), .second, .val (.long p4), .second, .val (.ref a), .val (.int (1 : Int32)), .val (.int (2 : Int32)), .val (.int (p1 &&& (3 : Int32)))]) rfl ?_
      exact kt)
    rcases own_four p1 with hm | hm | hm | hm
    · skip
      have pre62 : ∀ tg, Steps p.tables e below (T60.setTop (mkF m 94 #[.val (.int p0), .val (.int p1), .val (.long p2), .second, .val (.long p3), .second, .val (.long p4), .second, .val (.ref a), .val (.int (1 : Int32)), .val (.int (2 : Int32)), .val (.int (0 : Int32))] [])) tg → G tg := fun tg kt => pre61 tg (by rw [hm]; exact kt)
      have pre63 : ∀ tg, Steps p.tables e below (T60.setTop (mkF m 148 #[.val (.int p0), .val (.int p1), .val (.long p2), .second, .val (.long p3), .second, .val (.long p4), .second, .val (.ref a), .val (.int (1 : Int32)), .val (.int (2 : Int32)), .val (.int (0 : Int32))] [(.ref a)])) tg → G tg := fun tg kt => pre62 tg (by
        show Steps p.tables e below (T60.setTop (mkF m 94 #[.val (.int p0), .val (.int p1), .val (.long p2), .second, .val (.long p3), .second, .val (.long p4), .second, .val (.ref a), .val (.int (1 : Int32)), .val (.int (2 : Int32)), .val (.int (0 : Int32))] [])) _
        refine XS.iload X60.here hx rfl (hb hby at_94) rfl ?_
        show Steps p.tables e below (T60.setTop (mkF m 96 #[.val (.int p0), .val (.int p1), .val (.long p2), .second, .val (.long p3), .second, .val (.long p4), .second, .val (.ref a), .val (.int (1 : Int32)), .val (.int (2 : Int32)), .val (.int (0 : Int32))] [(.int (0 : Int32))])) _
        refine XS.iload X60.here hx rfl (hb hby at_96) rfl ?_
        show Steps p.tables e below (T60.setTop (mkF m 98 #[.val (.int p0), .val (.int p1), .val (.long p2), .second, .val (.long p3), .second, .val (.long p4), .second, .val (.ref a), .val (.int (1 : Int32)), .val (.int (2 : Int32)), .val (.int (0 : Int32))] [(.int (2 : Int32)), (.int (0 : Int32))])) _
        refine XS.icmpYes X60.here hx rfl (pc0 := 98) (pc' := 105) rfl (hb hby at_98) rfl (flt (by decide : ¬ ((2 : Int32) < (0 : Int32)))).2.2.2 (by decide) (by decide) ?_
        show Steps p.tables e below (T60.setTop (mkF m 105 #[.val (.int p0), .val (.int p1), .val (.long p2), .second, .val (.long p3), .second, .val (.long p4), .second, .val (.ref a), .val (.int (1 : Int32)), .val (.int (2 : Int32)), .val (.int (0 : Int32))] [])) _
        refine XS.iload X60.here hx rfl (hb hby at_105) rfl ?_
        show Steps p.tables e below (T60.setTop (mkF m 107 #[.val (.int p0), .val (.int p1), .val (.long p2), .second, .val (.long p3), .second, .val (.long p4), .second, .val (.ref a), .val (.int (1 : Int32)), .val (.int (2 : Int32)), .val (.int (0 : Int32))] [(.int (0 : Int32))])) _
        refine XS.iconst X60.here hx rfl (hb hby at_107) ?_
        show Steps p.tables e below (T60.setTop (mkF m 108 #[.val (.int p0), .val (.int p1), .val (.long p2), .second, .val (.long p3), .second, .val (.long p4), .second, .val (.ref a), .val (.int (1 : Int32)), .val (.int (2 : Int32)), .val (.int (0 : Int32))] [(.int (1 : Int32)), (.int (0 : Int32))])) _
        refine XS.icmpYes X60.here hx rfl (pc0 := 108) (pc' := 117) rfl (hb hby at_108) rfl (tlt (by decide : (0 : Int32) < (1 : Int32))).1 (by decide) (by decide) ?_
        show Steps p.tables e below (T60.setTop (mkF m 117 #[.val (.int p0), .val (.int p1), .val (.long p2), .second, .val (.long p3), .second, .val (.long p4), .second, .val (.ref a), .val (.int (1 : Int32)), .val (.int (2 : Int32)), .val (.int (0 : Int32))] [])) _
        refine XS.iload X60.here hx rfl (hb hby at_117) rfl ?_
        show Steps p.tables e below (T60.setTop (mkF m 119 #[.val (.int p0), .val (.int p1), .val (.long p2), .second, .val (.long p3), .second, .val (.long p4), .second, .val (.ref a), .val (.int (1 : Int32)), .val (.int (2 : Int32)), .val (.int (0 : Int32))] [(.int (0 : Int32))])) _
        refine XS.iconst X60.here hx rfl (hb hby at_119) ?_
        show Steps p.tables e below (T60.setTop (mkF m 120 #[.val (.int p0), .val (.int p1), .val (.long p2), .second, .val (.long p3), .second, .val (.long p4), .second, .val (.ref a), .val (.int (1 : Int32)), .val (.int (2 : Int32)), .val (.int (0 : Int32))] [(.int (2 : Int32)), (.int (0 : Int32))])) _
        refine XS.icmpYes X60.here hx rfl (pc0 := 120) (pc' := 129) rfl (hb hby at_120) rfl (tlt (by decide : (0 : Int32) < (2 : Int32))).1 (by decide) (by decide) ?_
        show Steps p.tables e below (T60.setTop (mkF m 129 #[.val (.int p0), .val (.int p1), .val (.long p2), .second, .val (.long p3), .second, .val (.long p4), .second, .val (.ref a), .val (.int (1 : Int32)), .val (.int (2 : Int32)), .val (.int (0 : Int32))] [])) _
        refine XS.iload X60.here hx rfl (hb hby at_129) rfl ?_
        show Steps p.tables e below (T60.setTop (mkF m 131 #[.val (.int p0), .val (.int p1), .val (.long p2), .second, .val (.long p3), .second, .val (.long p4), .second, .val (.ref a), .val (.int (1 : Int32)), .val (.int (2 : Int32)), .val (.int (0 : Int32))] [(.int (0 : Int32))])) _
        refine XS.iconst X60.here hx rfl (hb hby at_131) ?_
        show Steps p.tables e below (T60.setTop (mkF m 132 #[.val (.int p0), .val (.int p1), .val (.long p2), .second, .val (.long p3), .second, .val (.long p4), .second, .val (.ref a), .val (.int (1 : Int32)), .val (.int (2 : Int32)), .val (.int (0 : Int32))] [(.int (3 : Int32)), (.int (0 : Int32))])) _
        refine XS.icmpYes X60.here hx rfl (pc0 := 132) (pc' := 141) rfl (hb hby at_132) rfl (tlt (by decide : (0 : Int32) < (3 : Int32))).1 (by decide) (by decide) ?_
        show Steps p.tables e below (T60.setTop (mkF m 141 #[.val (.int p0), .val (.int p1), .val (.long p2), .second, .val (.long p3), .second, .val (.long p4), .second, .val (.ref a), .val (.int (1 : Int32)), .val (.int (2 : Int32)), .val (.int (0 : Int32))] [])) _
        refine XS.iload X60.here hx rfl (hb hby at_141) rfl ?_
        show Steps p.tables e below (T60.setTop (mkF m 143 #[.val (.int p0), .val (.int p1), .val (.long p2), .second, .val (.long p3), .second, .val (.long p4), .second, .val (.ref a), .val (.int (1 : Int32)), .val (.int (2 : Int32)), .val (.int (0 : Int32))] [(.int (1 : Int32))])) _
        refine XS.ifNo X60.here hx rfl (hb hby at_143) rfl ((if0 _ _).trans (feq (by decide : ¬ ((1 : Int32) = (0 : Int32)))).1) ?_
        show Steps p.tables e below (T60.setTop (mkF m 146 #[.val (.int p0), .val (.int p1), .val (.long p2), .second, .val (.long p3), .second, .val (.long p4), .second, .val (.ref a), .val (.int (1 : Int32)), .val (.int (2 : Int32)), .val (.int (0 : Int32))] [])) _
        refine XS.aload X60.here hx rfl (hb hby at_146) rfl rfl ?_
        exact kt)
      obtain ⟨cq64, kq64, q64a, q64b, q64c⟩ := isOf hZ e60 A1_58
      obtain ⟨_, _, ⟨T64, L64, k64, n64⟩, -, X64, ⟨Lc64, hQ64, l64, y64, z64⟩, st64⟩ := X60.virtualBack hx (y := (⟨"com/example/find_leader/findleader/engine/LongHeap", "isEmpty", "()Z"⟩ : MethodName)) (z := (⟨"com/example/find_leader/findleader/engine/LongHeap", "isEmpty", "()Z"⟩ : MethodName)) hown (mvT hZ (hw _ (List.mem_of_getElem? (i := 12) rfl))) (mvT hZ (hw _ (List.mem_of_getElem? (i := 13) rfl))) (notFace_of_selects (args := #[]) (mvT hZ (hw _ (List.mem_of_getElem? (i := 15) rfl)))) (mvT hZ (hw _ (List.mem_of_getElem? (i := 15) rfl))) (mvT hZ (hw _ (List.mem_of_getElem? (i := 14) rfl))) (by decide) (backOf (W := 0) (rm3 l Z a0 hw [] a (2 : Int32) T57.heap n0 Z57 Fs57) hZ (hw _ (List.mem_of_getElem? (i := 16) rfl)) (hw _ (List.mem_of_getElem? (i := 2) rfl)) (by decide) (by decide)) q64a q64c (g := (mkF m 148 #[.val (.int p0), .val (.int p1), .val (.long p2), .second, .val (.long p3), .second, .val (.long p4), .second, .val (.ref a), .val (.int (1 : Int32)), .val (.int (2 : Int32)), .val (.int (0 : Int32))] [(.ref a)])) rfl (by rw [hml]; rfl) (Steps.refl _) (argsL := []) (rest := []) (lenOf pd_2 rfl) rfl (by show 2 * 0 + _ ≤ _; exact Nat.le_of_eq rfl) (hb hby at_148) (fun _ _ => ⟨rfl, e60, (Nat.le_of_ble_eq_true rfl), (Nat.le_of_ble_eq_true rfl)⟩)
      dsimp only [Pt.U, Pt.locs, Pt.cells, Pt.slots] at X64 l64 y64 z64 st64 hQ64
      subst l64 y64 z64
      obtain ⟨hv64, N64q, e64⟩ := hQ64
      rw [if_neg (by decide)] at hv64
      subst hv64
      have N64 := Fr.app N60 N64q
      have pre64s : ∀ tg, Steps p.tables e below (T64.setTop (mkF m 151 #[.val (.int p0), .val (.int p1), .val (.long p2), .second, .val (.long p3), .second, .val (.long p4), .second, .val (.ref a), .val (.int (1 : Int32)), .val (.int (2 : Int32)), .val (.int (0 : Int32))] [(.int (0 : Int32))])) tg → G tg := fun tg kt => pre63 tg (st64.trans kt)
      obtain ⟨fs, hr, hrun, hended, hW, hsame⟩ := X64.leave (v := some (.int (1 : Int32))) (fun h => by rw [Bd.returns] at h; cases h)
      subst hG
      refine ⟨_, _, pre64s _ ?_, hrun, hended, _, _, rfl, ?_, ⟨_, rfl⟩, hW, hsame.mono (by decide) (by decide)⟩
      · skip
        show Steps p.tables e below (T64.setTop (mkF m 151 #[.val (.int p0), .val (.int p1), .val (.long p2), .second, .val (.long p3), .second, .val (.long p4), .second, .val (.ref a), .val (.int (1 : Int32)), .val (.int (2 : Int32)), .val (.int (0 : Int32))] [(.int (0 : Int32))])) _
        refine XS.iload X64.here hx rfl (hb hby at_151) rfl ?_
        show Steps p.tables e below (T64.setTop (mkF m 153 #[.val (.int p0), .val (.int p1), .val (.long p2), .second, .val (.long p3), .second, .val (.long p4), .second, .val (.ref a), .val (.int (1 : Int32)), .val (.int (2 : Int32)), .val (.int (0 : Int32))] [(.int (0 : Int32)), (.int (0 : Int32))])) _
        refine XS.iload X64.here hx rfl (hb hby at_153) rfl ?_
        show Steps p.tables e below (T64.setTop (mkF m 155 #[.val (.int p0), .val (.int p1), .val (.long p2), .second, .val (.long p3), .second, .val (.long p4), .second, .val (.ref a), .val (.int (1 : Int32)), .val (.int (2 : Int32)), .val (.int (0 : Int32))] [(.int (2 : Int32)), (.int (0 : Int32)), (.int (0 : Int32))])) _
        refine XS.icmpYes X64.here hx rfl (pc0 := 155) (pc' := 162) rfl (hb hby at_155) rfl (feq (by decide : ¬ ((0 : Int32) = (2 : Int32)))).2 (by decide) (by decide) ?_
        show Steps p.tables e below (T64.setTop (mkF m 162 #[.val (.int p0), .val (.int p1), .val (.long p2), .second, .val (.long p3), .second, .val (.long p4), .second, .val (.ref a), .val (.int (1 : Int32)), .val (.int (2 : Int32)), .val (.int (0 : Int32))] [(.int (0 : Int32))])) _
        refine XS.iconst X64.here hx rfl (hb hby at_162) ?_
        show Steps p.tables e below (T64.setTop (mkF m 163 #[.val (.int p0), .val (.int p1), .val (.long p2), .second, .val (.long p3), .second, .val (.long p4), .second, .val (.ref a), .val (.int (1 : Int32)), .val (.int (2 : Int32)), .val (.int (0 : Int32))] [(.int (0 : Int32)), (.int (0 : Int32))])) _
        refine XS.icmpNo X64.here hx rfl (hb hby at_163) rfl (teq (by decide : (0 : Int32) = (0 : Int32))).2 ?_
        show Steps p.tables e below (T64.setTop (mkF m 166 #[.val (.int p0), .val (.int p1), .val (.long p2), .second, .val (.long p3), .second, .val (.long p4), .second, .val (.ref a), .val (.int (1 : Int32)), .val (.int (2 : Int32)), .val (.int (0 : Int32))] [])) _
        refine XS.iconst X64.here hx rfl (hb hby at_166) ?_
        show Steps p.tables e below (T64.setTop (mkF m 167 #[.val (.int p0), .val (.int p1), .val (.long p2), .second, .val (.long p3), .second, .val (.long p4), .second, .val (.ref a), .val (.int (1 : Int32)), .val (.int (2 : Int32)), .val (.int (0 : Int32))] [(.int (1 : Int32))])) _
        refine XS.goto X64.here hx rfl (pc0 := 167) (pc' := 171) rfl (hb hby at_167) (by decide) (by decide) ?_
        show Steps p.tables e below (T64.setTop (mkF m 171 #[.val (.int p0), .val (.int p1), .val (.long p2), .second, .val (.long p3), .second, .val (.long p4), .second, .val (.ref a), .val (.int (1 : Int32)), .val (.int (2 : Int32)), .val (.int (0 : Int32))] [(.int (1 : Int32))])) _
        refine XS.istore X64.here hx rfl (hb hby at_171) rfl (l' := #[.val (.int p0), .val (.int p1), .val (.long p2), .second, .val (.long p3), .second, .val (.long p4), .second, .val (.ref a), .val (.int (1 : Int32)), .val (.int (2 : Int32)), .val (.int (0 : Int32))]) rfl ?_
        show Steps p.tables e below (T64.setTop (mkF m 173 #[.val (.int p0), .val (.int p1), .val (.long p2), .second, .val (.long p3), .second, .val (.long p4), .second, .val (.ref a), .val (.int (1 : Int32)), .val (.int (2 : Int32)), .val (.int (0 : Int32))] [])) _
        refine XS.iload X64.here hx rfl (hb hby at_173) rfl ?_
        show Steps p.tables e below (T64.setTop (mkF m 175 #[.val (.int p0), .val (.int p1), .val (.long p2), .second, .val (.long p3), .second, .val (.long p4), .second, .val (.ref a), .val (.int (1 : Int32)), .val (.int (2 : Int32)), .val (.int (0 : Int32))] [(.int (1 : Int32))])) _
        exact retN X64 hx (t := .boolean) Bd.returns (by simp) (hb hby at_175) hr
      · show Q_rm0 Z p0 p1 p2 p3 p4 h0 n0 _ T64.heap _
        rw [e64]
        exact ⟨rfl, N64⟩
    · skip
      have pre65 : ∀ tg, Steps p.tables e below (T60.setTop (mkF m 94 #[.val (.int p0), .val (.int p1), .val (.long p2), .second, .val (.long p3), .second, .val (.long p4), .second, .val (.ref a), .val (.int (1 : Int32)), .val (.int (2 : Int32)), .val (.int (1 : Int32))] [])) tg → G tg := fun tg kt => pre61 tg (by rw [hm]; exact kt)
      have pre66 : ∀ tg, Steps p.tables e below (T60.setTop (mkF m 113 #[.val (.int p0), .val (.int p1), .val (.long p2), .second, .val (.long p3), .second, .val (.long p4), .second, .val (.ref a), .val (.int (1 : Int32)), .val (.int (2 : Int32)), .val (.int (1 : Int32))] [(.ref a)])) tg → G tg := fun tg kt => pre65 tg (by
        show Steps p.tables e below (T60.setTop (mkF m 94 #[.val (.int p0), .val (.int p1), .val (.long p2), .second, .val (.long p3), .second, .val (.long p4), .second, .val (.ref a), .val (.int (1 : Int32)), .val (.int (2 : Int32)), .val (.int (1 : Int32))] [])) _
        refine XS.iload X60.here hx rfl (hb hby at_94) rfl ?_
        show Steps p.tables e below (T60.setTop (mkF m 96 #[.val (.int p0), .val (.int p1), .val (.long p2), .second, .val (.long p3), .second, .val (.long p4), .second, .val (.ref a), .val (.int (1 : Int32)), .val (.int (2 : Int32)), .val (.int (1 : Int32))] [(.int (1 : Int32))])) _
        refine XS.iload X60.here hx rfl (hb hby at_96) rfl ?_
        show Steps p.tables e below (T60.setTop (mkF m 98 #[.val (.int p0), .val (.int p1), .val (.long p2), .second, .val (.long p3), .second, .val (.long p4), .second, .val (.ref a), .val (.int (1 : Int32)), .val (.int (2 : Int32)), .val (.int (1 : Int32))] [(.int (2 : Int32)), (.int (1 : Int32))])) _
        refine XS.icmpYes X60.here hx rfl (pc0 := 98) (pc' := 105) rfl (hb hby at_98) rfl (flt (by decide : ¬ ((2 : Int32) < (1 : Int32)))).2.2.2 (by decide) (by decide) ?_
        show Steps p.tables e below (T60.setTop (mkF m 105 #[.val (.int p0), .val (.int p1), .val (.long p2), .second, .val (.long p3), .second, .val (.long p4), .second, .val (.ref a), .val (.int (1 : Int32)), .val (.int (2 : Int32)), .val (.int (1 : Int32))] [])) _
        refine XS.iload X60.here hx rfl (hb hby at_105) rfl ?_
        show Steps p.tables e below (T60.setTop (mkF m 107 #[.val (.int p0), .val (.int p1), .val (.long p2), .second, .val (.long p3), .second, .val (.long p4), .second, .val (.ref a), .val (.int (1 : Int32)), .val (.int (2 : Int32)), .val (.int (1 : Int32))] [(.int (1 : Int32))])) _
        refine XS.iconst X60.here hx rfl (hb hby at_107) ?_
        show Steps p.tables e below (T60.setTop (mkF m 108 #[.val (.int p0), .val (.int p1), .val (.long p2), .second, .val (.long p3), .second, .val (.long p4), .second, .val (.ref a), .val (.int (1 : Int32)), .val (.int (2 : Int32)), .val (.int (1 : Int32))] [(.int (1 : Int32)), (.int (1 : Int32))])) _
        refine XS.icmpNo X60.here hx rfl (hb hby at_108) rfl (flt (by decide : ¬ ((1 : Int32) < (1 : Int32)))).1 ?_
        show Steps p.tables e below (T60.setTop (mkF m 111 #[.val (.int p0), .val (.int p1), .val (.long p2), .second, .val (.long p3), .second, .val (.long p4), .second, .val (.ref a), .val (.int (1 : Int32)), .val (.int (2 : Int32)), .val (.int (1 : Int32))] [])) _
        refine XS.aload X60.here hx rfl (hb hby at_111) rfl rfl ?_
        exact kt)
      obtain ⟨cq67, kq67, q67a, q67b, q67c⟩ := isOf hZ e60 A1_58
      obtain ⟨_, _, ⟨T67, L67, k67, n67⟩, -, X67, ⟨Lc67, hQ67, l67, y67, z67⟩, st67⟩ := X60.virtualBack hx (y := (⟨"com/example/find_leader/findleader/engine/LongHeap", "pollFirst", "()J"⟩ : MethodName)) (z := (⟨"com/example/find_leader/findleader/engine/LongHeap", "pollFirst", "()J"⟩ : MethodName)) hown (mvT hZ (hw _ (List.mem_of_getElem? (i := 24) rfl))) (mvT hZ (hw _ (List.mem_of_getElem? (i := 25) rfl))) (notFace_of_selects (args := #[]) (mvT hZ (hw _ (List.mem_of_getElem? (i := 27) rfl)))) (mvT hZ (hw _ (List.mem_of_getElem? (i := 27) rfl))) (mvT hZ (hw _ (List.mem_of_getElem? (i := 26) rfl))) (by decide) (backOf (W := 0) (rm5_2 l Z a0 hw [] a b kA wa57 wb57 wc57 T57.heap n0 Z57 A1_58 Fv57 Fs57 Vb57 O_a O_b ne_a_b) hZ (hw _ (List.mem_of_getElem? (i := 28) rfl)) (hw _ (List.mem_of_getElem? (i := 2) rfl)) (by decide) (by decide)) q67a q67c (g := (mkF m 113 #[.val (.int p0), .val (.int p1), .val (.long p2), .second, .val (.long p3), .second, .val (.long p4), .second, .val (.ref a), .val (.int (1 : Int32)), .val (.int (2 : Int32)), .val (.int (1 : Int32))] [(.ref a)])) rfl (by rw [hml]; rfl) (Steps.refl _) (argsL := []) (rest := []) (lenOf pd_0 rfl) rfl (by show 2 * 0 + _ ≤ _; exact Nat.le_of_eq rfl) (hb hby at_113) (fun _ _ => ⟨rfl, e60, (Nat.le_of_ble_eq_true rfl), (Nat.le_of_ble_eq_true rfl)⟩)
      dsimp only [Pt.U, Pt.locs, Pt.cells, Pt.slots] at X67 l67 y67 z67 st67 hQ67
      subst l67 y67 z67
      obtain ⟨x67, rfl, N67q, K67, wa67, wb67, wc67, Fv67, Fs67, Vb67⟩ := hQ67
      have N67 := Fr.app N60 N67q
      have pre67s : ∀ tg, Steps p.tables e below (T67.setTop (mkF m 116 #[.val (.int p0), .val (.int p1), .val (.long p2), .second, .val (.long p3), .second, .val (.long p4), .second, .val (.ref a), .val (.int (1 : Int32)), .val (.int (2 : Int32)), .val (.int (1 : Int32))] [(.long x67)])) tg → G tg := fun tg kt => pre66 tg (st67.trans kt)
      have Z67 : n0 ≤ T67.heap.size := Nat.le_trans Z57 K67.1
      have A1_68 := A1_58.keep K67
      have pre69 : ∀ tg, Steps p.tables e below (T67.setTop (mkF m 148 #[.val (.int p0), .val (.int p1), .val (.long p2), .second, .val (.long p3), .second, .val (.long p4), .second, .val (.ref a), .val (.int (1 : Int32)), .val (.int (2 : Int32)), .val (.int (1 : Int32))] [(.ref a)])) tg → G tg := fun tg kt => pre67s tg (by
        show Steps p.tables e below (T67.setTop (mkF m 116 #[.val (.int p0), .val (.int p1), .val (.long p2), .second, .val (.long p3), .second, .val (.long p4), .second, .val (.ref a), .val (.int (1 : Int32)), .val (.int (2 : Int32)), .val (.int (1 : Int32))] [(.long x67)])) _
        jvm_step X67.here [X67.here.top, hx, (hb hby at_116), Value.category]
        show Steps p.tables e below (T67.setTop (mkF m 117 #[.val (.int p0), .val (.int p1), .val (.long p2), .second, .val (.long p3), .second, .val (.long p4), .second, .val (.ref a), .val (.int (1 : Int32)), .val (.int (2 : Int32)), .val (.int (1 : Int32))] [])) _
        refine XS.iload X67.here hx rfl (hb hby at_117) rfl ?_
        show Steps p.tables e below (T67.setTop (mkF m 119 #[.val (.int p0), .val (.int p1), .val (.long p2), .second, .val (.long p3), .second, .val (.long p4), .second, .val (.ref a), .val (.int (1 : Int32)), .val (.int (2 : Int32)), .val (.int (1 : Int32))] [(.int (1 : Int32))])) _
        refine XS.iconst X67.here hx rfl (hb hby at_119) ?_
        show Steps p.tables e below (T67.setTop (mkF m 120 #[.val (.int p0), .val (.int p1), .val (.long p2), .second, .val (.long p3), .second, .val (.long p4), .second, .val (.ref a), .val (.int (1 : Int32)), .val (.int (2 : Int32)), .val (.int (1 : Int32))] [(.int (2 : Int32)), (.int (1 : Int32))])) _
        refine XS.icmpYes X67.here hx rfl (pc0 := 120) (pc' := 129) rfl (hb hby at_120) rfl (tlt (by decide : (1 : Int32) < (2 : Int32))).1 (by decide) (by decide) ?_
        show Steps p.tables e below (T67.setTop (mkF m 129 #[.val (.int p0), .val (.int p1), .val (.long p2), .second, .val (.long p3), .second, .val (.long p4), .second, .val (.ref a), .val (.int (1 : Int32)), .val (.int (2 : Int32)), .val (.int (1 : Int32))] [])) _
        refine XS.iload X67.here hx rfl (hb hby at_129) rfl ?_
        show Steps p.tables e below (T67.setTop (mkF m 131 #[.val (.int p0), .val (.int p1), .val (.long p2), .second, .val (.long p3), .second, .val (.long p4), .second, .val (.ref a), .val (.int (1 : Int32)), .val (.int (2 : Int32)), .val (.int (1 : Int32))] [(.int (1 : Int32))])) _
        refine XS.iconst X67.here hx rfl (hb hby at_131) ?_
        show Steps p.tables e below (T67.setTop (mkF m 132 #[.val (.int p0), .val (.int p1), .val (.long p2), .second, .val (.long p3), .second, .val (.long p4), .second, .val (.ref a), .val (.int (1 : Int32)), .val (.int (2 : Int32)), .val (.int (1 : Int32))] [(.int (3 : Int32)), (.int (1 : Int32))])) _
        refine XS.icmpYes X67.here hx rfl (pc0 := 132) (pc' := 141) rfl (hb hby at_132) rfl (tlt (by decide : (1 : Int32) < (3 : Int32))).1 (by decide) (by decide) ?_
        show Steps p.tables e below (T67.setTop (mkF m 141 #[.val (.int p0), .val (.int p1), .val (.long p2), .second, .val (.long p3), .second, .val (.long p4), .second, .val (.ref a), .val (.int (1 : Int32)), .val (.int (2 : Int32)), .val (.int (1 : Int32))] [])) _
        refine XS.iload X67.here hx rfl (hb hby at_141) rfl ?_
        show Steps p.tables e below (T67.setTop (mkF m 143 #[.val (.int p0), .val (.int p1), .val (.long p2), .second, .val (.long p3), .second, .val (.long p4), .second, .val (.ref a), .val (.int (1 : Int32)), .val (.int (2 : Int32)), .val (.int (1 : Int32))] [(.int (1 : Int32))])) _
        refine XS.ifNo X67.here hx rfl (hb hby at_143) rfl ((if0 _ _).trans (feq (by decide : ¬ ((1 : Int32) = (0 : Int32)))).1) ?_
        show Steps p.tables e below (T67.setTop (mkF m 146 #[.val (.int p0), .val (.int p1), .val (.long p2), .second, .val (.long p3), .second, .val (.long p4), .second, .val (.ref a), .val (.int (1 : Int32)), .val (.int (2 : Int32)), .val (.int (1 : Int32))] [])) _
        refine XS.aload X67.here hx rfl (hb hby at_146) rfl rfl ?_
        exact kt)
      obtain ⟨cq70, kq70, q70a, q70b, q70c⟩ := isOf hZ rfl A1_68
      obtain ⟨_, _, ⟨T70, L70, k70, n70⟩, -, X70, ⟨Lc70, hQ70, l70, y70, z70⟩, st70⟩ := X67.virtualBack hx (y := (⟨"com/example/find_leader/findleader/engine/LongHeap", "isEmpty", "()Z"⟩ : MethodName)) (z := (⟨"com/example/find_leader/findleader/engine/LongHeap", "isEmpty", "()Z"⟩ : MethodName)) hown (mvT hZ (hw _ (List.mem_of_getElem? (i := 12) rfl))) (mvT hZ (hw _ (List.mem_of_getElem? (i := 13) rfl))) (notFace_of_selects (args := #[]) (mvT hZ (hw _ (List.mem_of_getElem? (i := 15) rfl)))) (mvT hZ (hw _ (List.mem_of_getElem? (i := 15) rfl))) (mvT hZ (hw _ (List.mem_of_getElem? (i := 14) rfl))) (by decide) (backOf (W := 0) (rm3 l Z a0 hw [] a (1 : Int32) T67.heap n0 Z67 Fs67) hZ (hw _ (List.mem_of_getElem? (i := 16) rfl)) (hw _ (List.mem_of_getElem? (i := 2) rfl)) (by decide) (by decide)) q70a q70c (g := (mkF m 148 #[.val (.int p0), .val (.int p1), .val (.long p2), .second, .val (.long p3), .second, .val (.long p4), .second, .val (.ref a), .val (.int (1 : Int32)), .val (.int (2 : Int32)), .val (.int (1 : Int32))] [(.ref a)])) rfl (by rw [hml]; rfl) (Steps.refl _) (argsL := []) (rest := []) (lenOf pd_2 rfl) rfl (by show 2 * 0 + _ ≤ _; exact Nat.le_of_eq rfl) (hb hby at_148) (fun _ _ => ⟨rfl, rfl, (Nat.le_of_ble_eq_true rfl), (Nat.le_of_ble_eq_true rfl)⟩)
      dsimp only [Pt.U, Pt.locs, Pt.cells, Pt.slots] at X70 l70 y70 z70 st70 hQ70
      subst l70 y70 z70
      obtain ⟨hv70, N70q, e70⟩ := hQ70
      rw [if_neg (by decide)] at hv70
      subst hv70
      have N70 := Fr.app N67 N70q
      have pre70s : ∀ tg, Steps p.tables e below (T70.setTop (mkF m 151 #[.val (.int p0), .val (.int p1), .val (.long p2), .second, .val (.long p3), .second, .val (.long p4), .second, .val (.ref a), .val (.int (1 : Int32)), .val (.int (2 : Int32)), .val (.int (1 : Int32))] [(.int (0 : Int32))])) tg → G tg := fun tg kt => pre69 tg (st70.trans kt)
      obtain ⟨fs, hr, hrun, hended, hW, hsame⟩ := X70.leave (v := some (.int (1 : Int32))) (fun h => by rw [Bd.returns] at h; cases h)
      subst hG
      refine ⟨_, _, pre70s _ ?_, hrun, hended, _, _, rfl, ?_, ⟨_, rfl⟩, hW, hsame.mono (by decide) (by decide)⟩
      · skip
        show Steps p.tables e below (T70.setTop (mkF m 151 #[.val (.int p0), .val (.int p1), .val (.long p2), .second, .val (.long p3), .second, .val (.long p4), .second, .val (.ref a), .val (.int (1 : Int32)), .val (.int (2 : Int32)), .val (.int (1 : Int32))] [(.int (0 : Int32))])) _
        refine XS.iload X70.here hx rfl (hb hby at_151) rfl ?_
        show Steps p.tables e below (T70.setTop (mkF m 153 #[.val (.int p0), .val (.int p1), .val (.long p2), .second, .val (.long p3), .second, .val (.long p4), .second, .val (.ref a), .val (.int (1 : Int32)), .val (.int (2 : Int32)), .val (.int (1 : Int32))] [(.int (1 : Int32)), (.int (0 : Int32))])) _
        refine XS.iload X70.here hx rfl (hb hby at_153) rfl ?_
        show Steps p.tables e below (T70.setTop (mkF m 155 #[.val (.int p0), .val (.int p1), .val (.long p2), .second, .val (.long p3), .second, .val (.long p4), .second, .val (.ref a), .val (.int (1 : Int32)), .val (.int (2 : Int32)), .val (.int (1 : Int32))] [(.int (2 : Int32)), (.int (1 : Int32)), (.int (0 : Int32))])) _
        refine XS.icmpYes X70.here hx rfl (pc0 := 155) (pc' := 162) rfl (hb hby at_155) rfl (feq (by decide : ¬ ((1 : Int32) = (2 : Int32)))).2 (by decide) (by decide) ?_
        show Steps p.tables e below (T70.setTop (mkF m 162 #[.val (.int p0), .val (.int p1), .val (.long p2), .second, .val (.long p3), .second, .val (.long p4), .second, .val (.ref a), .val (.int (1 : Int32)), .val (.int (2 : Int32)), .val (.int (1 : Int32))] [(.int (0 : Int32))])) _
        refine XS.iconst X70.here hx rfl (hb hby at_162) ?_
        show Steps p.tables e below (T70.setTop (mkF m 163 #[.val (.int p0), .val (.int p1), .val (.long p2), .second, .val (.long p3), .second, .val (.long p4), .second, .val (.ref a), .val (.int (1 : Int32)), .val (.int (2 : Int32)), .val (.int (1 : Int32))] [(.int (0 : Int32)), (.int (0 : Int32))])) _
        refine XS.icmpNo X70.here hx rfl (hb hby at_163) rfl (teq (by decide : (0 : Int32) = (0 : Int32))).2 ?_
        show Steps p.tables e below (T70.setTop (mkF m 166 #[.val (.int p0), .val (.int p1), .val (.long p2), .second, .val (.long p3), .second, .val (.long p4), .second, .val (.ref a), .val (.int (1 : Int32)), .val (.int (2 : Int32)), .val (.int (1 : Int32))] [])) _
        refine XS.iconst X70.here hx rfl (hb hby at_166) ?_
        show Steps p.tables e below (T70.setTop (mkF m 167 #[.val (.int p0), .val (.int p1), .val (.long p2), .second, .val (.long p3), .second, .val (.long p4), .second, .val (.ref a), .val (.int (1 : Int32)), .val (.int (2 : Int32)), .val (.int (1 : Int32))] [(.int (1 : Int32))])) _
        refine XS.goto X70.here hx rfl (pc0 := 167) (pc' := 171) rfl (hb hby at_167) (by decide) (by decide) ?_
        show Steps p.tables e below (T70.setTop (mkF m 171 #[.val (.int p0), .val (.int p1), .val (.long p2), .second, .val (.long p3), .second, .val (.long p4), .second, .val (.ref a), .val (.int (1 : Int32)), .val (.int (2 : Int32)), .val (.int (1 : Int32))] [(.int (1 : Int32))])) _
        refine XS.istore X70.here hx rfl (hb hby at_171) rfl (l' := #[.val (.int p0), .val (.int p1), .val (.long p2), .second, .val (.long p3), .second, .val (.long p4), .second, .val (.ref a), .val (.int (1 : Int32)), .val (.int (2 : Int32)), .val (.int (1 : Int32))]) rfl ?_
        show Steps p.tables e below (T70.setTop (mkF m 173 #[.val (.int p0), .val (.int p1), .val (.long p2), .second, .val (.long p3), .second, .val (.long p4), .second, .val (.ref a), .val (.int (1 : Int32)), .val (.int (2 : Int32)), .val (.int (1 : Int32))] [])) _
        refine XS.iload X70.here hx rfl (hb hby at_173) rfl ?_
        show Steps p.tables e below (T70.setTop (mkF m 175 #[.val (.int p0), .val (.int p1), .val (.long p2), .second, .val (.long p3), .second, .val (.long p4), .second, .val (.ref a), .val (.int (1 : Int32)), .val (.int (2 : Int32)), .val (.int (1 : Int32))] [(.int (1 : Int32))])) _
        exact retN X70 hx (t := .boolean) Bd.returns (by simp) (hb hby at_175) hr
      · show Q_rm0 Z p0 p1 p2 p3 p4 h0 n0 _ T70.heap _
        rw [e70]
        exact ⟨rfl, N70⟩
    · skip
      have pre71 : ∀ tg, Steps p.tables e below (T60.setTop (mkF m 94 #[.val (.int p0), .val (.int p1), .val (.long p2), .second, .val (.long p3), .second, .val (.long p4), .second, .val (.ref a), .val (.int (1 : Int32)), .val (.int (2 : Int32)), .val (.int (2 : Int32))] [])) tg → G tg := fun tg kt => pre61 tg (by rw [hm]; exact kt)
      have pre72 : ∀ tg, Steps p.tables e below (T60.setTop (mkF m 113 #[.val (.int p0), .val (.int p1), .val (.long p2), .second, .val (.long p3), .second, .val (.long p4), .second, .val (.ref a), .val (.int (1 : Int32)), .val (.int (2 : Int32)), .val (.int (2 : Int32))] [(.ref a)])) tg → G tg := fun tg kt => pre71 tg (by
        show Steps p.tables e below (T60.setTop (mkF m 94 #[.val (.int p0), .val (.int p1), .val (.long p2), .second, .val (.long p3), .second, .val (.long p4), .second, .val (.ref a), .val (.int (1 : Int32)), .val (.int (2 : Int32)), .val (.int (2 : Int32))] [])) _
        refine XS.iload X60.here hx rfl (hb hby at_94) rfl ?_
        show Steps p.tables e below (T60.setTop (mkF m 96 #[.val (.int p0), .val (.int p1), .val (.long p2), .second, .val (.long p3), .second, .val (.long p4), .second, .val (.ref a), .val (.int (1 : Int32)), .val (.int (2 : Int32)), .val (.int (2 : Int32))] [(.int (2 : Int32))])) _
        refine XS.iload X60.here hx rfl (hb hby at_96) rfl ?_
        show Steps p.tables e below (T60.setTop (mkF m 98 #[.val (.int p0), .val (.int p1), .val (.long p2), .second, .val (.long p3), .second, .val (.long p4), .second, .val (.ref a), .val (.int (1 : Int32)), .val (.int (2 : Int32)), .val (.int (2 : Int32))] [(.int (2 : Int32)), (.int (2 : Int32))])) _
        refine XS.icmpYes X60.here hx rfl (pc0 := 98) (pc' := 105) rfl (hb hby at_98) rfl (flt (by decide : ¬ ((2 : Int32) < (2 : Int32)))).2.2.2 (by decide) (by decide) ?_
        show Steps p.tables e below (T60.setTop (mkF m 105 #[.val (.int p0), .val (.int p1), .val (.long p2), .second, .val (.long p3), .second, .val (.long p4), .second, .val (.ref a), .val (.int (1 : Int32)), .val (.int (2 : Int32)), .val (.int (2 : Int32))] [])) _
        refine XS.iload X60.here hx rfl (hb hby at_105) rfl ?_
        show Steps p.tables e below (T60.setTop (mkF m 107 #[.val (.int p0), .val (.int p1), .val (.long p2), .second, .val (.long p3), .second, .val (.long p4), .second, .val (.ref a), .val (.int (1 : Int32)), .val (.int (2 : Int32)), .val (.int (2 : Int32))] [(.int (2 : Int32))])) _
        refine XS.iconst X60.here hx rfl (hb hby at_107) ?_
        show Steps p.tables e below (T60.setTop (mkF m 108 #[.val (.int p0), .val (.int p1), .val (.long p2), .second, .val (.long p3), .second, .val (.long p4), .second, .val (.ref a), .val (.int (1 : Int32)), .val (.int (2 : Int32)), .val (.int (2 : Int32))] [(.int (1 : Int32)), (.int (2 : Int32))])) _
        refine XS.icmpNo X60.here hx rfl (hb hby at_108) rfl (flt (by decide : ¬ ((2 : Int32) < (1 : Int32)))).1 ?_
        show Steps p.tables e below (T60.setTop (mkF m 111 #[.val (.int p0), .val (.int p1), .val (.long p2), .second, .val (.long p3), .second, .val (.long p4), .second, .val (.ref a), .val (.int (1 : Int32)), .val (.int (2 : Int32)), .val (.int (2 : Int32))] [])) _
        refine XS.aload X60.here hx rfl (hb hby at_111) rfl rfl ?_
        exact kt)
      obtain ⟨cq73, kq73, q73a, q73b, q73c⟩ := isOf hZ e60 A1_58
      obtain ⟨_, _, ⟨T73, L73, k73, n73⟩, -, X73, ⟨Lc73, hQ73, l73, y73, z73⟩, st73⟩ := X60.virtualBack hx (y := (⟨"com/example/find_leader/findleader/engine/LongHeap", "pollFirst", "()J"⟩ : MethodName)) (z := (⟨"com/example/find_leader/findleader/engine/LongHeap", "pollFirst", "()J"⟩ : MethodName)) hown (mvT hZ (hw _ (List.mem_of_getElem? (i := 24) rfl))) (mvT hZ (hw _ (List.mem_of_getElem? (i := 25) rfl))) (notFace_of_selects (args := #[]) (mvT hZ (hw _ (List.mem_of_getElem? (i := 27) rfl)))) (mvT hZ (hw _ (List.mem_of_getElem? (i := 27) rfl))) (mvT hZ (hw _ (List.mem_of_getElem? (i := 26) rfl))) (by decide) (backOf (W := 0) (rm5_2 l Z a0 hw [] a b kA wa57 wb57 wc57 T57.heap n0 Z57 A1_58 Fv57 Fs57 Vb57 O_a O_b ne_a_b) hZ (hw _ (List.mem_of_getElem? (i := 28) rfl)) (hw _ (List.mem_of_getElem? (i := 2) rfl)) (by decide) (by decide)) q73a q73c (g := (mkF m 113 #[.val (.int p0), .val (.int p1), .val (.long p2), .second, .val (.long p3), .second, .val (.long p4), .second, .val (.ref a), .val (.int (1 : Int32)), .val (.int (2 : Int32)), .val (.int (2 : Int32))] [(.ref a)])) rfl (by rw [hml]; rfl) (Steps.refl _) (argsL := []) (rest := []) (lenOf pd_0 rfl) rfl (by show 2 * 0 + _ ≤ _; exact Nat.le_of_eq rfl) (hb hby at_113) (fun _ _ => ⟨rfl, e60, (Nat.le_of_ble_eq_true rfl), (Nat.le_of_ble_eq_true rfl)⟩)
      dsimp only [Pt.U, Pt.locs, Pt.cells, Pt.slots] at X73 l73 y73 z73 st73 hQ73
      subst l73 y73 z73
      obtain ⟨x73, rfl, N73q, K73, wa73, wb73, wc73, Fv73, Fs73, Vb73⟩ := hQ73
      have N73 := Fr.app N60 N73q
      have pre73s : ∀ tg, Steps p.tables e below (T73.setTop (mkF m 116 #[.val (.int p0), .val (.int p1), .val (.long p2), .second, .val (.long p3), .second, .val (.long p4), .second, .val (.ref a), .val (.int (1 : Int32)), .val (.int (2 : Int32)), .val (.int (2 : Int32))] [(.long x73)])) tg → G tg := fun tg kt => pre72 tg (st73.trans kt)
      have Z73 : n0 ≤ T73.heap.size := Nat.le_trans Z57 K73.1
      have A1_74 := A1_58.keep K73
      have pre75 : ∀ tg, Steps p.tables e below (T73.setTop (mkF m 125 #[.val (.int p0), .val (.int p1), .val (.long p2), .second, .val (.long p3), .second, .val (.long p4), .second, .val (.ref a), .val (.int (1 : Int32)), .val (.int (2 : Int32)), .val (.int (2 : Int32))] [(.ref a)])) tg → G tg := fun tg kt => pre73s tg (by
        show Steps p.tables e below (T73.setTop (mkF m 116 #[.val (.int p0), .val (.int p1), .val (.long p2), .second, .val (.long p3), .second, .val (.long p4), .second, .val (.ref a), .val (.int (1 : Int32)), .val (.int (2 : Int32)), .val (.int (2 : Int32))] [(.long x73)])) _
        jvm_step X73.here [X73.here.top, hx, (hb hby at_116), Value.category]
        show Steps p.tables e below (T73.setTop (mkF m 117 #[.val (.int p0), .val (.int p1), .val (.long p2), .second, .val (.long p3), .second, .val (.long p4), .second, .val (.ref a), .val (.int (1 : Int32)), .val (.int (2 : Int32)), .val (.int (2 : Int32))] [])) _
        refine XS.iload X73.here hx rfl (hb hby at_117) rfl ?_
        show Steps p.tables e below (T73.setTop (mkF m 119 #[.val (.int p0), .val (.int p1), .val (.long p2), .second, .val (.long p3), .second, .val (.long p4), .second, .val (.ref a), .val (.int (1 : Int32)), .val (.int (2 : Int32)), .val (.int (2 : Int32))] [(.int (2 : Int32))])) _
        refine XS.iconst X73.here hx rfl (hb hby at_119) ?_
        show Steps p.tables e below (T73.setTop (mkF m 120 #[.val (.int p0), .val (.int p1), .val (.long p2), .second, .val (.long p3), .second, .val (.long p4), .second, .val (.ref a), .val (.int (1 : Int32)), .val (.int (2 : Int32)), .val (.int (2 : Int32))] [(.int (2 : Int32)), (.int (2 : Int32))])) _
        refine XS.icmpNo X73.here hx rfl (hb hby at_120) rfl (flt (by decide : ¬ ((2 : Int32) < (2 : Int32)))).1 ?_
        show Steps p.tables e below (T73.setTop (mkF m 123 #[.val (.int p0), .val (.int p1), .val (.long p2), .second, .val (.long p3), .second, .val (.long p4), .second, .val (.ref a), .val (.int (1 : Int32)), .val (.int (2 : Int32)), .val (.int (2 : Int32))] [])) _
        refine XS.aload X73.here hx rfl (hb hby at_123) rfl rfl ?_
        exact kt)
      obtain ⟨cq76, kq76, q76a, q76b, q76c⟩ := isOf hZ rfl A1_74
      obtain ⟨_, _, ⟨T76, L76, k76, n76⟩, -, X76, ⟨Lc76, hQ76, l76, y76, z76⟩, st76⟩ := X73.virtualBack hx (y := (⟨"com/example/find_leader/findleader/engine/LongHeap", "pollFirst", "()J"⟩ : MethodName)) (z := (⟨"com/example/find_leader/findleader/engine/LongHeap", "pollFirst", "()J"⟩ : MethodName)) hown (mvT hZ (hw _ (List.mem_of_getElem? (i := 24) rfl))) (mvT hZ (hw _ (List.mem_of_getElem? (i := 25) rfl))) (notFace_of_selects (args := #[]) (mvT hZ (hw _ (List.mem_of_getElem? (i := 27) rfl)))) (mvT hZ (hw _ (List.mem_of_getElem? (i := 27) rfl))) (mvT hZ (hw _ (List.mem_of_getElem? (i := 26) rfl))) (by decide) (backOf (W := 0) (rm5_1 l Z a0 hw [] a b kA wa73 wb73 wc73 T73.heap n0 Z73 A1_74 Fv73 Fs73 Vb73 O_a O_b ne_a_b) hZ (hw _ (List.mem_of_getElem? (i := 28) rfl)) (hw _ (List.mem_of_getElem? (i := 2) rfl)) (by decide) (by decide)) q76a q76c (g := (mkF m 125 #[.val (.int p0), .val (.int p1), .val (.long p2), .second, .val (.long p3), .second, .val (.long p4), .second, .val (.ref a), .val (.int (1 : Int32)), .val (.int (2 : Int32)), .val (.int (2 : Int32))] [(.ref a)])) rfl (by rw [hml]; rfl) (Steps.refl _) (argsL := []) (rest := []) (lenOf pd_0 rfl) rfl (by show 2 * 0 + _ ≤ _; exact Nat.le_of_eq rfl) (hb hby at_125) (fun _ _ => ⟨rfl, rfl, (Nat.le_of_ble_eq_true rfl), (Nat.le_of_ble_eq_true rfl)⟩)
      dsimp only [Pt.U, Pt.locs, Pt.cells, Pt.slots] at X76 l76 y76 z76 st76 hQ76
      subst l76 y76 z76
      obtain ⟨x76, rfl, N76q, K76, wa76, wb76, wc76, Fv76, Fs76, Vb76⟩ := hQ76
      have N76 := Fr.app N73 N76q
      have pre76s : ∀ tg, Steps p.tables e below (T76.setTop (mkF m 128 #[.val (.int p0), .val (.int p1), .val (.long p2), .second, .val (.long p3), .second, .val (.long p4), .second, .val (.ref a), .val (.int (1 : Int32)), .val (.int (2 : Int32)), .val (.int (2 : Int32))] [(.long x76)])) tg → G tg := fun tg kt => pre75 tg (st76.trans kt)
      have Z76 : n0 ≤ T76.heap.size := Nat.le_trans Z73 K76.1
      have A1_77 := A1_74.keep K76
      have pre78 : ∀ tg, Steps p.tables e below (T76.setTop (mkF m 148 #[.val (.int p0), .val (.int p1), .val (.long p2), .second, .val (.long p3), .second, .val (.long p4), .second, .val (.ref a), .val (.int (1 : Int32)), .val (.int (2 : Int32)), .val (.int (2 : Int32))] [(.ref a)])) tg → G tg := fun tg kt => pre76s tg (by
        show Steps p.tables e below (T76.setTop (mkF m 128 #[.val (.int p0), .val (.int p1), .val (.long p2), .second, .val (.long p3), .second, .val (.long p4), .second, .val (.ref a), .val (.int (1 : Int32)), .val (.int (2 : Int32)), .val (.int (2 : Int32))] [(.long x76)])) _
        jvm_step X76.here [X76.here.top, hx, (hb hby at_128), Value.category]
        show Steps p.tables e below (T76.setTop (mkF m 129 #[.val (.int p0), .val (.int p1), .val (.long p2), .second, .val (.long p3), .second, .val (.long p4), .second, .val (.ref a), .val (.int (1 : Int32)), .val (.int (2 : Int32)), .val (.int (2 : Int32))] [])) _
        refine XS.iload X76.here hx rfl (hb hby at_129) rfl ?_
        show Steps p.tables e below (T76.setTop (mkF m 131 #[.val (.int p0), .val (.int p1), .val (.long p2), .second, .val (.long p3), .second, .val (.long p4), .second, .val (.ref a), .val (.int (1 : Int32)), .val (.int (2 : Int32)), .val (.int (2 : Int32))] [(.int (2 : Int32))])) _
        refine XS.iconst X76.here hx rfl (hb hby at_131) ?_
        show Steps p.tables e below (T76.setTop (mkF m 132 #[.val (.int p0), .val (.int p1), .val (.long p2), .second, .val (.long p3), .second, .val (.long p4), .second, .val (.ref a), .val (.int (1 : Int32)), .val (.int (2 : Int32)), .val (.int (2 : Int32))] [(.int (3 : Int32)), (.int (2 : Int32))])) _
        refine XS.icmpYes X76.here hx rfl (pc0 := 132) (pc' := 141) rfl (hb hby at_132) rfl (tlt (by decide : (2 : Int32) < (3 : Int32))).1 (by decide) (by decide) ?_
        show Steps p.tables e below (T76.setTop (mkF m 141 #[.val (.int p0), .val (.int p1), .val (.long p2), .second, .val (.long p3), .second, .val (.long p4), .second, .val (.ref a), .val (.int (1 : Int32)), .val (.int (2 : Int32)), .val (.int (2 : Int32))] [])) _
        refine XS.iload X76.here hx rfl (hb hby at_141) rfl ?_
        show Steps p.tables e below (T76.setTop (mkF m 143 #[.val (.int p0), .val (.int p1), .val (.long p2), .second, .val (.long p3), .second, .val (.long p4), .second, .val (.ref a), .val (.int (1 : Int32)), .val (.int (2 : Int32)), .val (.int (2 : Int32))] [(.int (1 : Int32))])) _
        refine XS.ifNo X76.here hx rfl (hb hby at_143) rfl ((if0 _ _).trans (feq (by decide : ¬ ((1 : Int32) = (0 : Int32)))).1) ?_
        show Steps p.tables e below (T76.setTop (mkF m 146 #[.val (.int p0), .val (.int p1), .val (.long p2), .second, .val (.long p3), .second, .val (.long p4), .second, .val (.ref a), .val (.int (1 : Int32)), .val (.int (2 : Int32)), .val (.int (2 : Int32))] [])) _
        refine XS.aload X76.here hx rfl (hb hby at_146) rfl rfl ?_
        exact kt)
      obtain ⟨cq79, kq79, q79a, q79b, q79c⟩ := isOf hZ rfl A1_77
      obtain ⟨_, _, ⟨T79, L79, k79, n79⟩, -, X79, ⟨Lc79, hQ79, l79, y79, z79⟩, st79⟩ := X76.virtualBack hx (y := (⟨"com/example/find_leader/findleader/engine/LongHeap", "isEmpty", "()Z"⟩ : MethodName)) (z := (⟨"com/example/find_leader/findleader/engine/LongHeap", "isEmpty", "()Z"⟩ : MethodName)) hown (mvT hZ (hw _ (List.mem_of_getElem? (i := 12) rfl))) (mvT hZ (hw _ (List.mem_of_getElem? (i := 13) rfl))) (notFace_of_selects (args := #[]) (mvT hZ (hw _ (List.mem_of_getElem? (i := 15) rfl)))) (mvT hZ (hw _ (List.mem_of_getElem? (i := 15) rfl))) (mvT hZ (hw _ (List.mem_of_getElem? (i := 14) rfl))) (by decide) (backOf (W := 0) (rm3 l Z a0 hw [] a (0 : Int32) T76.heap n0 Z76 Fs76) hZ (hw _ (List.mem_of_getElem? (i := 16) rfl)) (hw _ (List.mem_of_getElem? (i := 2) rfl)) (by decide) (by decide)) q79a q79c (g := (mkF m 148 #[.val (.int p0), .val (.int p1), .val (.long p2), .second, .val (.long p3), .second, .val (.long p4), .second, .val (.ref a), .val (.int (1 : Int32)), .val (.int (2 : Int32)), .val (.int (2 : Int32))] [(.ref a)])) rfl (by rw [hml]; rfl) (Steps.refl _) (argsL := []) (rest := []) (lenOf pd_2 rfl) rfl (by show 2 * 0 + _ ≤ _; exact Nat.le_of_eq rfl) (hb hby at_148) (fun _ _ => ⟨rfl, rfl, (Nat.le_of_ble_eq_true rfl), (Nat.le_of_ble_eq_true rfl)⟩)
      dsimp only [Pt.U, Pt.locs, Pt.cells, Pt.slots] at X79 l79 y79 z79 st79 hQ79
      subst l79 y79 z79
      obtain ⟨hv79, N79q, e79⟩ := hQ79
      rw [if_pos rfl] at hv79
      subst hv79
      have N79 := Fr.app N76 N79q
      have pre79s : ∀ tg, Steps p.tables e below (T79.setTop (mkF m 151 #[.val (.int p0), .val (.int p1), .val (.long p2), .second, .val (.long p3), .second, .val (.long p4), .second, .val (.ref a), .val (.int (1 : Int32)), .val (.int (2 : Int32)), .val (.int (2 : Int32))] [(.int (1 : Int32))])) tg → G tg := fun tg kt => pre78 tg (st79.trans kt)
      obtain ⟨fs, hr, hrun, hended, hW, hsame⟩ := X79.leave (v := some (.int (1 : Int32))) (fun h => by rw [Bd.returns] at h; cases h)
      subst hG
      refine ⟨_, _, pre79s _ ?_, hrun, hended, _, _, rfl, ?_, ⟨_, rfl⟩, hW, hsame.mono (by decide) (by decide)⟩
      · skip
        show Steps p.tables e below (T79.setTop (mkF m 151 #[.val (.int p0), .val (.int p1), .val (.long p2), .second, .val (.long p3), .second, .val (.long p4), .second, .val (.ref a), .val (.int (1 : Int32)), .val (.int (2 : Int32)), .val (.int (2 : Int32))] [(.int (1 : Int32))])) _
        refine XS.iload X79.here hx rfl (hb hby at_151) rfl ?_
        show Steps p.tables e below (T79.setTop (mkF m 153 #[.val (.int p0), .val (.int p1), .val (.long p2), .second, .val (.long p3), .second, .val (.long p4), .second, .val (.ref a), .val (.int (1 : Int32)), .val (.int (2 : Int32)), .val (.int (2 : Int32))] [(.int (2 : Int32)), (.int (1 : Int32))])) _
        refine XS.iload X79.here hx rfl (hb hby at_153) rfl ?_
        show Steps p.tables e below (T79.setTop (mkF m 155 #[.val (.int p0), .val (.int p1), .val (.long p2), .second, .val (.long p3), .second, .val (.long p4), .second, .val (.ref a), .val (.int (1 : Int32)), .val (.int (2 : Int32)), .val (.int (2 : Int32))] [(.int (2 : Int32)), (.int (2 : Int32)), (.int (1 : Int32))])) _
        refine XS.icmpNo X79.here hx rfl (hb hby at_155) rfl (teq (by decide : (2 : Int32) = (2 : Int32))).2 ?_
        show Steps p.tables e below (T79.setTop (mkF m 158 #[.val (.int p0), .val (.int p1), .val (.long p2), .second, .val (.long p3), .second, .val (.long p4), .second, .val (.ref a), .val (.int (1 : Int32)), .val (.int (2 : Int32)), .val (.int (2 : Int32))] [(.int (1 : Int32))])) _
        refine XS.iconst X79.here hx rfl (hb hby at_158) ?_
        show Steps p.tables e below (T79.setTop (mkF m 159 #[.val (.int p0), .val (.int p1), .val (.long p2), .second, .val (.long p3), .second, .val (.long p4), .second, .val (.ref a), .val (.int (1 : Int32)), .val (.int (2 : Int32)), .val (.int (2 : Int32))] [(.int (1 : Int32)), (.int (1 : Int32))])) _
        refine XS.goto X79.here hx rfl (pc0 := 159) (pc' := 163) rfl (hb hby at_159) (by decide) (by decide) ?_
        show Steps p.tables e below (T79.setTop (mkF m 163 #[.val (.int p0), .val (.int p1), .val (.long p2), .second, .val (.long p3), .second, .val (.long p4), .second, .val (.ref a), .val (.int (1 : Int32)), .val (.int (2 : Int32)), .val (.int (2 : Int32))] [(.int (1 : Int32)), (.int (1 : Int32))])) _
        refine XS.icmpNo X79.here hx rfl (hb hby at_163) rfl (teq (by decide : (1 : Int32) = (1 : Int32))).2 ?_
        show Steps p.tables e below (T79.setTop (mkF m 166 #[.val (.int p0), .val (.int p1), .val (.long p2), .second, .val (.long p3), .second, .val (.long p4), .second, .val (.ref a), .val (.int (1 : Int32)), .val (.int (2 : Int32)), .val (.int (2 : Int32))] [])) _
        refine XS.iconst X79.here hx rfl (hb hby at_166) ?_
        show Steps p.tables e below (T79.setTop (mkF m 167 #[.val (.int p0), .val (.int p1), .val (.long p2), .second, .val (.long p3), .second, .val (.long p4), .second, .val (.ref a), .val (.int (1 : Int32)), .val (.int (2 : Int32)), .val (.int (2 : Int32))] [(.int (1 : Int32))])) _
        refine XS.goto X79.here hx rfl (pc0 := 167) (pc' := 171) rfl (hb hby at_167) (by decide) (by decide) ?_
        show Steps p.tables e below (T79.setTop (mkF m 171 #[.val (.int p0), .val (.int p1), .val (.long p2), .second, .val (.long p3), .second, .val (.long p4), .second, .val (.ref a), .val (.int (1 : Int32)), .val (.int (2 : Int32)), .val (.int (2 : Int32))] [(.int (1 : Int32))])) _
        refine XS.istore X79.here hx rfl (hb hby at_171) rfl (l' := #[.val (.int p0), .val (.int p1), .val (.long p2), .second, .val (.long p3), .second, .val (.long p4), .second, .val (.ref a), .val (.int (1 : Int32)), .val (.int (2 : Int32)), .val (.int (2 : Int32))]) rfl ?_
        show Steps p.tables e below (T79.setTop (mkF m 173 #[.val (.int p0), .val (.int p1), .val (.long p2), .second, .val (.long p3), .second, .val (.long p4), .second, .val (.ref a), .val (.int (1 : Int32)), .val (.int (2 : Int32)), .val (.int (2 : Int32))] [])) _
        refine XS.iload X79.here hx rfl (hb hby at_173) rfl ?_
        show Steps p.tables e below (T79.setTop (mkF m 175 #[.val (.int p0), .val (.int p1), .val (.long p2), .second, .val (.long p3), .second, .val (.long p4), .second, .val (.ref a), .val (.int (1 : Int32)), .val (.int (2 : Int32)), .val (.int (2 : Int32))] [(.int (1 : Int32))])) _
        exact retN X79 hx (t := .boolean) Bd.returns (by simp) (hb hby at_175) hr
      · show Q_rm0 Z p0 p1 p2 p3 p4 h0 n0 _ T79.heap _
        rw [e79]
        exact ⟨rfl, N79⟩
    · skip
      have pre80 : ∀ tg, Steps p.tables e below (T60.setTop (mkF m 94 #[.val (.int p0), .val (.int p1), .val (.long p2), .second, .val (.long p3), .second, .val (.long p4), .second, .val (.ref a), .val (.int (1 : Int32)), .val (.int (2 : Int32)), .val (.int (3 : Int32))] [])) tg → G tg := fun tg kt => pre61 tg (by rw [hm]; exact kt)
      have pre81 : ∀ tg, Steps p.tables e below (T60.setTop (mkF m 113 #[.val (.int p0), .val (.int p1), .val (.long p2), .second, .val (.long p3), .second, .val (.long p4), .second, .val (.ref a), .val (.int (1 : Int32)), .val (.int (2 : Int32)), .val (.int (2 : Int32))] [(.ref a)])) tg → G tg := fun tg kt => pre80 tg (by
        show Steps p.tables e below (T60.setTop (mkF m 94 #[.val (.int p0), .val (.int p1), .val (.long p2), .second, .val (.long p3), .second, .val (.long p4), .second, .val (.ref a), .val (.int (1 : Int32)), .val (.int (2 : Int32)), .val (.int (3 : Int32))] [])) _
        refine XS.iload X60.here hx rfl (hb hby at_94) rfl ?_
        show Steps p.tables e below (T60.setTop (mkF m 96 #[.val (.int p0), .val (.int p1), .val (.long p2), .second, .val (.long p3), .second, .val (.long p4), .second, .val (.ref a), .val (.int (1 : Int32)), .val (.int (2 : Int32)), .val (.int (3 : Int32))] [(.int (3 : Int32))])) _
        refine XS.iload X60.here hx rfl (hb hby at_96) rfl ?_
        show Steps p.tables e below (T60.setTop (mkF m 98 #[.val (.int p0), .val (.int p1), .val (.long p2), .second, .val (.long p3), .second, .val (.long p4), .second, .val (.ref a), .val (.int (1 : Int32)), .val (.int (2 : Int32)), .val (.int (3 : Int32))] [(.int (2 : Int32)), (.int (3 : Int32))])) _
        refine XS.icmpNo X60.here hx rfl (hb hby at_98) rfl (tlt (by decide : (2 : Int32) < (3 : Int32))).2.2.2 ?_
        show Steps p.tables e below (T60.setTop (mkF m 101 #[.val (.int p0), .val (.int p1), .val (.long p2), .second, .val (.long p3), .second, .val (.long p4), .second, .val (.ref a), .val (.int (1 : Int32)), .val (.int (2 : Int32)), .val (.int (3 : Int32))] [])) _
        refine XS.iload X60.here hx rfl (hb hby at_101) rfl ?_
        show Steps p.tables e below (T60.setTop (mkF m 103 #[.val (.int p0), .val (.int p1), .val (.long p2), .second, .val (.long p3), .second, .val (.long p4), .second, .val (.ref a), .val (.int (1 : Int32)), .val (.int (2 : Int32)), .val (.int (3 : Int32))] [(.int (2 : Int32))])) _
        refine XS.istore X60.here hx rfl (hb hby at_103) rfl (l' := #[.val (.int p0), .val (.int p1), .val (.long p2), .second, .val (.long p3), .second, .val (.long p4), .second, .val (.ref a), .val (.int (1 : Int32)), .val (.int (2 : Int32)), .val (.int (2 : Int32))]) rfl ?_
        show Steps p.tables e below (T60.setTop (mkF m 105 #[.val (.int p0), .val (.int p1), .val (.long p2), .second, .val (.long p3), .second, .val (.long p4), .second, .val (.ref a), .val (.int (1 : Int32)), .val (.int (2 : Int32)), .val (.int (2 : Int32))] [])) _
        refine XS.iload X60.here hx rfl (hb hby at_105) rfl ?_
        show Steps p.tables e below (T60.setTop (mkF m 107 #[.val (.int p0), .val (.int p1), .val (.long p2), .second, .val (.long p3), .second, .val (.long p4), .second, .val (.ref a), .val (.int (1 : Int32)), .val (.int (2 : Int32)), .val (.int (2 : Int32))] [(.int (2 : Int32))])) _
        refine XS.iconst X60.here hx rfl (hb hby at_107) ?_
        show Steps p.tables e below (T60.setTop (mkF m 108 #[.val (.int p0), .val (.int p1), .val (.long p2), .second, .val (.long p3), .second, .val (.long p4), .second, .val (.ref a), .val (.int (1 : Int32)), .val (.int (2 : Int32)), .val (.int (2 : Int32))] [(.int (1 : Int32)), (.int (2 : Int32))])) _
        refine XS.icmpNo X60.here hx rfl (hb hby at_108) rfl (flt (by decide : ¬ ((2 : Int32) < (1 : Int32)))).1 ?_
        show Steps p.tables e below (T60.setTop (mkF m 111 #[.val (.int p0), .val (.int p1), .val (.long p2), .second, .val (.long p3), .second, .val (.long p4), .second, .val (.ref a), .val (.int (1 : Int32)), .val (.int (2 : Int32)), .val (.int (2 : Int32))] [])) _
        refine XS.aload X60.here hx rfl (hb hby at_111) rfl rfl ?_
        exact kt)
      obtain ⟨cq82, kq82, q82a, q82b, q82c⟩ := isOf hZ e60 A1_58
      obtain ⟨_, _, ⟨T82, L82, k82, n82⟩, -, X82, ⟨Lc82, hQ82, l82, y82, z82⟩, st82⟩ := X60.virtualBack hx (y := (⟨"com/example/find_leader/findleader/engine/LongHeap", "pollFirst", "()J"⟩ : MethodName)) (z := (⟨"com/example/find_leader/findleader/engine/LongHeap", "pollFirst", "()J"⟩ : MethodName)) hown (mvT hZ (hw _ (List.mem_of_getElem? (i := 24) rfl))) (mvT hZ (hw _ (List.mem_of_getElem? (i := 25) rfl))) (notFace_of_selects (args := #[]) (mvT hZ (hw _ (List.mem_of_getElem? (i := 27) rfl)))) (mvT hZ (hw _ (List.mem_of_getElem? (i := 27) rfl))) (mvT hZ (hw _ (List.mem_of_getElem? (i := 26) rfl))) (by decide) (backOf (W := 0) (rm5_2 l Z a0 hw [] a b kA wa57 wb57 wc57 T57.heap n0 Z57 A1_58 Fv57 Fs57 Vb57 O_a O_b ne_a_b) hZ (hw _ (List.mem_of_getElem? (i := 28) rfl)) (hw _ (List.mem_of_getElem? (i := 2) rfl)) (by decide) (by decide)) q82a q82c (g := (mkF m 113 #[.val (.int p0), .val (.int p1), .val (.long p2), .second, .val (.long p3), .second, .val (.long p4), .second, .val (.ref a), .val (.int (1 : Int32)), .val (.int (2 : Int32)), .val (.int (2 : Int32))] [(.ref a)])) rfl (by rw [hml]; rfl) (Steps.refl _) (argsL := []) (rest := []) (lenOf pd_0 rfl) rfl (by show 2 * 0 + _ ≤ _; exact Nat.le_of_eq rfl) (hb hby at_113) (fun _ _ => ⟨rfl, e60, (Nat.le_of_ble_eq_true rfl), (Nat.le_of_ble_eq_true rfl)⟩)
      dsimp only [Pt.U, Pt.locs, Pt.cells, Pt.slots] at X82 l82 y82 z82 st82 hQ82
      subst l82 y82 z82
      obtain ⟨x82, rfl, N82q, K82, wa82, wb82, wc82, Fv82, Fs82, Vb82⟩ := hQ82
      have N82 := Fr.app N60 N82q
      have pre82s : ∀ tg, Steps p.tables e below (T82.setTop (mkF m 116 #[.val (.int p0), .val (.int p1), .val (.long p2), .second, .val (.long p3), .second, .val (.long p4), .second, .val (.ref a), .val (.int (1 : Int32)), .val (.int (2 : Int32)), .val (.int (2 : Int32))] [(.long x82)])) tg → G tg := fun tg kt => pre81 tg (st82.trans kt)
      have Z82 : n0 ≤ T82.heap.size := Nat.le_trans Z57 K82.1
      have A1_83 := A1_58.keep K82
      have pre84 : ∀ tg, Steps p.tables e below (T82.setTop (mkF m 125 #[.val (.int p0), .val (.int p1), .val (.long p2), .second, .val (.long p3), .second, .val (.long p4), .second, .val (.ref a), .val (.int (1 : Int32)), .val (.int (2 : Int32)), .val (.int (2 : Int32))] [(.ref a)])) tg → G tg := fun tg kt => pre82s tg (by
        show Steps p.tables e below (T82.setTop (mkF m 116 #[.val (.int p0), .val (.int p1), .val (.long p2), .second, .val (.long p3), .second, .val (.long p4), .second, .val (.ref a), .val (.int (1 : Int32)), .val (.int (2 : Int32)), .val (.int (2 : Int32))] [(.long x82)])) _
        jvm_step X82.here [X82.here.top, hx, (hb hby at_116), Value.category]
        show Steps p.tables e below (T82.setTop (mkF m 117 #[.val (.int p0), .val (.int p1), .val (.long p2), .second, .val (.long p3), .second, .val (.long p4), .second, .val (.ref a), .val (.int (1 : Int32)), .val (.int (2 : Int32)), .val (.int (2 : Int32))] [])) _
        refine XS.iload X82.here hx rfl (hb hby at_117) rfl ?_
        show Steps p.tables e below (T82.setTop (mkF m 119 #[.val (.int p0), .val (.int p1), .val (.long p2), .second, .val (.long p3), .second, .val (.long p4), .second, .val (.ref a), .val (.int (1 : Int32)), .val (.int (2 : Int32)), .val (.int (2 : Int32))] [(.int (2 : Int32))])) _
        refine XS.iconst X82.here hx rfl (hb hby at_119) ?_
        show Steps p.tables e below (T82.setTop (mkF m 120 #[.val (.int p0), .val (.int p1), .val (.long p2), .second, .val (.long p3), .second, .val (.long p4), .second, .val (.ref a), .val (.int (1 : Int32)), .val (.int (2 : Int32)), .val (.int (2 : Int32))] [(.int (2 : Int32)), (.int (2 : Int32))])) _
        refine XS.icmpNo X82.here hx rfl (hb hby at_120) rfl (flt (by decide : ¬ ((2 : Int32) < (2 : Int32)))).1 ?_
        show Steps p.tables e below (T82.setTop (mkF m 123 #[.val (.int p0), .val (.int p1), .val (.long p2), .second, .val (.long p3), .second, .val (.long p4), .second, .val (.ref a), .val (.int (1 : Int32)), .val (.int (2 : Int32)), .val (.int (2 : Int32))] [])) _
        refine XS.aload X82.here hx rfl (hb hby at_123) rfl rfl ?_
        exact kt)
      obtain ⟨cq85, kq85, q85a, q85b, q85c⟩ := isOf hZ rfl A1_83
      obtain ⟨_, _, ⟨T85, L85, k85, n85⟩, -, X85, ⟨Lc85, hQ85, l85, y85, z85⟩, st85⟩ := X82.virtualBack hx (y := (⟨"com/example/find_leader/findleader/engine/LongHeap", "pollFirst", "()J"⟩ : MethodName)) (z := (⟨"com/example/find_leader/findleader/engine/LongHeap", "pollFirst", "()J"⟩ : MethodName)) hown (mvT hZ (hw _ (List.mem_of_getElem? (i := 24) rfl))) (mvT hZ (hw _ (List.mem_of_getElem? (i := 25) rfl))) (notFace_of_selects (args := #[]) (mvT hZ (hw _ (List.mem_of_getElem? (i := 27) rfl)))) (mvT hZ (hw _ (List.mem_of_getElem? (i := 27) rfl))) (mvT hZ (hw _ (List.mem_of_getElem? (i := 26) rfl))) (by decide) (backOf (W := 0) (rm5_1 l Z a0 hw [] a b kA wa82 wb82 wc82 T82.heap n0 Z82 A1_83 Fv82 Fs82 Vb82 O_a O_b ne_a_b) hZ (hw _ (List.mem_of_getElem? (i := 28) rfl)) (hw _ (List.mem_of_getElem? (i := 2) rfl)) (by decide) (by decide)) q85a q85c (g := (mkF m 125 #[.val (.int p0), .val (.int p1), .val (.long p2), .second, .val (.long p3), .second, .val (.long p4), .second, .val (.ref a), .val (.int (1 : Int32)), .val (.int (2 : Int32)), .val (.int (2 : Int32))] [(.ref a)])) rfl (by rw [hml]; rfl) (Steps.refl _) (argsL := []) (rest := []) (lenOf pd_0 rfl) rfl (by show 2 * 0 + _ ≤ _; exact Nat.le_of_eq rfl) (hb hby at_125) (fun _ _ => ⟨rfl, rfl, (Nat.le_of_ble_eq_true rfl), (Nat.le_of_ble_eq_true rfl)⟩)
      dsimp only [Pt.U, Pt.locs, Pt.cells, Pt.slots] at X85 l85 y85 z85 st85 hQ85
      subst l85 y85 z85
      obtain ⟨x85, rfl, N85q, K85, wa85, wb85, wc85, Fv85, Fs85, Vb85⟩ := hQ85
      have N85 := Fr.app N82 N85q
      have pre85s : ∀ tg, Steps p.tables e below (T85.setTop (mkF m 128 #[.val (.int p0), .val (.int p1), .val (.long p2), .second, .val (.long p3), .second, .val (.long p4), .second, .val (.ref a), .val (.int (1 : Int32)), .val (.int (2 : Int32)), .val (.int (2 : Int32))] [(.long x85)])) tg → G tg := fun tg kt => pre84 tg (st85.trans kt)
      have Z85 : n0 ≤ T85.heap.size := Nat.le_trans Z82 K85.1
      have A1_86 := A1_83.keep K85
      have pre87 : ∀ tg, Steps p.tables e below (T85.setTop (mkF m 148 #[.val (.int p0), .val (.int p1), .val (.long p2), .second, .val (.long p3), .second, .val (.long p4), .second, .val (.ref a), .val (.int (1 : Int32)), .val (.int (2 : Int32)), .val (.int (2 : Int32))] [(.ref a)])) tg → G tg := fun tg kt => pre85s tg (by
        show Steps p.tables e below (T85.setTop (mkF m 128 #[.val (.int p0), .val (.int p1), .val (.long p2), .second, .val (.long p3), .second, .val (.long p4), .second, .val (.ref a), .val (.int (1 : Int32)), .val (.int (2 : Int32)), .val (.int (2 : Int32))] [(.long x85)])) _
        jvm_step X85.here [X85.here.top, hx, (hb hby at_128), Value.category]
        show Steps p.tables e below (T85.setTop (mkF m 129 #[.val (.int p0), .val (.int p1), .val (.long p2), .second, .val (.long p3), .second, .val (.long p4), .second, .val (.ref a), .val (.int (1 : Int32)), .val (.int (2 : Int32)), .val (.int (2 : Int32))] [])) _
        refine XS.iload X85.here hx rfl (hb hby at_129) rfl ?_
        show Steps p.tables e below (T85.setTop (mkF m 131 #[.val (.int p0), .val (.int p1), .val (.long p2), .second, .val (.long p3), .second, .val (.long p4), .second, .val (.ref a), .val (.int (1 : Int32)), .val (.int (2 : Int32)), .val (.int (2 : Int32))] [(.int (2 : Int32))])) _
        refine XS.iconst X85.here hx rfl (hb hby at_131) ?_
        show Steps p.tables e below (T85.setTop (mkF m 132 #[.val (.int p0), .val (.int p1), .val (.long p2), .second, .val (.long p3), .second, .val (.long p4), .second, .val (.ref a), .val (.int (1 : Int32)), .val (.int (2 : Int32)), .val (.int (2 : Int32))] [(.int (3 : Int32)), (.int (2 : Int32))])) _
        refine XS.icmpYes X85.here hx rfl (pc0 := 132) (pc' := 141) rfl (hb hby at_132) rfl (tlt (by decide : (2 : Int32) < (3 : Int32))).1 (by decide) (by decide) ?_
        show Steps p.tables e below (T85.setTop (mkF m 141 #[.val (.int p0), .val (.int p1), .val (.long p2), .second, .val (.long p3), .second, .val (.long p4), .second, .val (.ref a), .val (.int (1 : Int32)), .val (.int (2 : Int32)), .val (.int (2 : Int32))] [])) _
        refine XS.iload X85.here hx rfl (hb hby at_141) rfl ?_
        show Steps p.tables e below (T85.setTop (mkF m 143 #[.val (.int p0), .val (.int p1), .val (.long p2), .second, .val (.long p3), .second, .val (.long p4), .second, .val (.ref a), .val (.int (1 : Int32)), .val (.int (2 : Int32)), .val (.int (2 : Int32))] [(.int (1 : Int32))])) _
        refine XS.ifNo X85.here hx rfl (hb hby at_143) rfl ((if0 _ _).trans (feq (by decide : ¬ ((1 : Int32) = (0 : Int32)))).1) ?_
        show Steps p.tables e below (T85.setTop (mkF m 146 #[.val (.int p0), .val (.int p1), .val (.long p2), .second, .val (.long p3), .second, .val (.long p4), .second, .val (.ref a), .val (.int (1 : Int32)), .val (.int (2 : Int32)), .val (.int (2 : Int32))] [])) _
        refine XS.aload X85.here hx rfl (hb hby at_146) rfl rfl ?_
        exact kt)
      obtain ⟨cq88, kq88, q88a, q88b, q88c⟩ := isOf hZ rfl A1_86
      obtain ⟨_, _, ⟨T88, L88, k88, n88⟩, -, X88, ⟨Lc88, hQ88, l88, y88, z88⟩, st88⟩ := X85.virtualBack hx (y := (⟨"com/example/find_leader/findleader/engine/LongHeap", "isEmpty", "()Z"⟩ : MethodName)) (z := (⟨"com/example/find_leader/findleader/engine/LongHeap", "isEmpty", "()Z"⟩ : MethodName)) hown (mvT hZ (hw _ (List.mem_of_getElem? (i := 12) rfl))) (mvT hZ (hw _ (List.mem_of_getElem? (i := 13) rfl))) (notFace_of_selects (args := #[]) (mvT hZ (hw _ (List.mem_of_getElem? (i := 15) rfl)))) (mvT hZ (hw _ (List.mem_of_getElem? (i := 15) rfl))) (mvT hZ (hw _ (List.mem_of_getElem? (i := 14) rfl))) (by decide) (backOf (W := 0) (rm3 l Z a0 hw [] a (0 : Int32) T85.heap n0 Z85 Fs85) hZ (hw _ (List.mem_of_getElem? (i := 16) rfl)) (hw _ (List.mem_of_getElem? (i := 2) rfl)) (by decide) (by decide)) q88a q88c (g := (mkF m 148 #[.val (.int p0), .val (.int p1), .val (.long p2), .second, .val (.long p3), .second, .val (.long p4), .second, .val (.ref a), .val (.int (1 : Int32)), .val (.int (2 : Int32)), .val (.int (2 : Int32))] [(.ref a)])) rfl (by rw [hml]; rfl) (Steps.refl _) (argsL := []) (rest := []) (lenOf pd_2 rfl) rfl (by show 2 * 0 + _ ≤ _; exact Nat.le_of_eq rfl) (hb hby at_148) (fun _ _ => ⟨rfl, rfl, (Nat.le_of_ble_eq_true rfl), (Nat.le_of_ble_eq_true rfl)⟩)
      dsimp only [Pt.U, Pt.locs, Pt.cells, Pt.slots] at X88 l88 y88 z88 st88 hQ88
      subst l88 y88 z88
      obtain ⟨hv88, N88q, e88⟩ := hQ88
      rw [if_pos rfl] at hv88
      subst hv88
      have N88 := Fr.app N85 N88q
      have pre88s : ∀ tg, Steps p.tables e below (T88.setTop (mkF m 151 #[.val (.int p0), .val (.int p1), .val (.long p2), .second, .val (.long p3), .second, .val (.long p4), .second, .val (.ref a), .val (.int (1 : Int32)), .val (.int (2 : Int32)), .val (.int (2 : Int32))] [(.int (1 : Int32))])) tg → G tg := fun tg kt => pre87 tg (st88.trans kt)
      obtain ⟨fs, hr, hrun, hended, hW, hsame⟩ := X88.leave (v := some (.int (1 : Int32))) (fun h => by rw [Bd.returns] at h; cases h)
      subst hG
      refine ⟨_, _, pre88s _ ?_, hrun, hended, _, _, rfl, ?_, ⟨_, rfl⟩, hW, hsame.mono (by decide) (by decide)⟩
      · skip
        show Steps p.tables e below (T88.setTop (mkF m 151 #[.val (.int p0), .val (.int p1), .val (.long p2), .second, .val (.long p3), .second, .val (.long p4), .second, .val (.ref a), .val (.int (1 : Int32)), .val (.int (2 : Int32)), .val (.int (2 : Int32))] [(.int (1 : Int32))])) _
        refine XS.iload X88.here hx rfl (hb hby at_151) rfl ?_
        show Steps p.tables e below (T88.setTop (mkF m 153 #[.val (.int p0), .val (.int p1), .val (.long p2), .second, .val (.long p3), .second, .val (.long p4), .second, .val (.ref a), .val (.int (1 : Int32)), .val (.int (2 : Int32)), .val (.int (2 : Int32))] [(.int (2 : Int32)), (.int (1 : Int32))])) _
        refine XS.iload X88.here hx rfl (hb hby at_153) rfl ?_
        show Steps p.tables e below (T88.setTop (mkF m 155 #[.val (.int p0), .val (.int p1), .val (.long p2), .second, .val (.long p3), .second, .val (.long p4), .second, .val (.ref a), .val (.int (1 : Int32)), .val (.int (2 : Int32)), .val (.int (2 : Int32))] [(.int (2 : Int32)), (.int (2 : Int32)), (.int (1 : Int32))])) _
        refine XS.icmpNo X88.here hx rfl (hb hby at_155) rfl (teq (by decide : (2 : Int32) = (2 : Int32))).2 ?_
        show Steps p.tables e below (T88.setTop (mkF m 158 #[.val (.int p0), .val (.int p1), .val (.long p2), .second, .val (.long p3), .second, .val (.long p4), .second, .val (.ref a), .val (.int (1 : Int32)), .val (.int (2 : Int32)), .val (.int (2 : Int32))] [(.int (1 : Int32))])) _
        refine XS.iconst X88.here hx rfl (hb hby at_158) ?_
        show Steps p.tables e below (T88.setTop (mkF m 159 #[.val (.int p0), .val (.int p1), .val (.long p2), .second, .val (.long p3), .second, .val (.long p4), .second, .val (.ref a), .val (.int (1 : Int32)), .val (.int (2 : Int32)), .val (.int (2 : Int32))] [(.int (1 : Int32)), (.int (1 : Int32))])) _
        refine XS.goto X88.here hx rfl (pc0 := 159) (pc' := 163) rfl (hb hby at_159) (by decide) (by decide) ?_
        show Steps p.tables e below (T88.setTop (mkF m 163 #[.val (.int p0), .val (.int p1), .val (.long p2), .second, .val (.long p3), .second, .val (.long p4), .second, .val (.ref a), .val (.int (1 : Int32)), .val (.int (2 : Int32)), .val (.int (2 : Int32))] [(.int (1 : Int32)), (.int (1 : Int32))])) _
        refine XS.icmpNo X88.here hx rfl (hb hby at_163) rfl (teq (by decide : (1 : Int32) = (1 : Int32))).2 ?_
        show Steps p.tables e below (T88.setTop (mkF m 166 #[.val (.int p0), .val (.int p1), .val (.long p2), .second, .val (.long p3), .second, .val (.long p4), .second, .val (.ref a), .val (.int (1 : Int32)), .val (.int (2 : Int32)), .val (.int (2 : Int32))] [])) _
        refine XS.iconst X88.here hx rfl (hb hby at_166) ?_
        show Steps p.tables e below (T88.setTop (mkF m 167 #[.val (.int p0), .val (.int p1), .val (.long p2), .second, .val (.long p3), .second, .val (.long p4), .second, .val (.ref a), .val (.int (1 : Int32)), .val (.int (2 : Int32)), .val (.int (2 : Int32))] [(.int (1 : Int32))])) _
        refine XS.goto X88.here hx rfl (pc0 := 167) (pc' := 171) rfl (hb hby at_167) (by decide) (by decide) ?_
        show Steps p.tables e below (T88.setTop (mkF m 171 #[.val (.int p0), .val (.int p1), .val (.long p2), .second, .val (.long p3), .second, .val (.long p4), .second, .val (.ref a), .val (.int (1 : Int32)), .val (.int (2 : Int32)), .val (.int (2 : Int32))] [(.int (1 : Int32))])) _
        refine XS.istore X88.here hx rfl (hb hby at_171) rfl (l' := #[.val (.int p0), .val (.int p1), .val (.long p2), .second, .val (.long p3), .second, .val (.long p4), .second, .val (.ref a), .val (.int (1 : Int32)), .val (.int (2 : Int32)), .val (.int (2 : Int32))]) rfl ?_
        show Steps p.tables e below (T88.setTop (mkF m 173 #[.val (.int p0), .val (.int p1), .val (.long p2), .second, .val (.long p3), .second, .val (.long p4), .second, .val (.ref a), .val (.int (1 : Int32)), .val (.int (2 : Int32)), .val (.int (2 : Int32))] [])) _
        refine XS.iload X88.here hx rfl (hb hby at_173) rfl ?_
        show Steps p.tables e below (T88.setTop (mkF m 175 #[.val (.int p0), .val (.int p1), .val (.long p2), .second, .val (.long p3), .second, .val (.long p4), .second, .val (.ref a), .val (.int (1 : Int32)), .val (.int (2 : Int32)), .val (.int (2 : Int32))] [(.int (1 : Int32))])) _
        exact retN X88 hx (t := .boolean) Bd.returns (by simp) (hb hby at_175) hr
      · show Q_rm0 Z p0 p1 p2 p3 p4 h0 n0 _ T88.heap _
        rw [e88]
        exact ⟨rfl, N88⟩
  · skip
    have pre89 : ∀ tg, Steps p.tables e below (T6.setTop (mkF m 24 #[.val (.int p0), .val (.int p1), .val (.long p2), .second, .val (.long p3), .second, .val (.long p4), .second, .val (.ref a), .val (.int (1 : Int32)), .val (.int (3 : Int32)), .unset] [(.int (1 : Int32)), (.int (3 : Int32))])) tg → G tg := fun tg kt => pre7 tg (by rw [hn]; exact kt)
    have pre90 : ∀ tg, Steps p.tables e below (T6.setTop (mkF m 30 #[.val (.int p0), .val (.int p1), .val (.long p2), .second, .val (.long p3), .second, .val (.long p4), .second, .val (.ref a), .val (.int (1 : Int32)), .val (.int (3 : Int32)), .unset] [(.long p2), (.ref a)])) tg → G tg := fun tg kt => pre89 tg (by
      show Steps p.tables e below (T6.setTop (mkF m 24 #[.val (.int p0), .val (.int p1), .val (.long p2), .second, .val (.long p3), .second, .val (.long p4), .second, .val (.ref a), .val (.int (1 : Int32)), .val (.int (3 : Int32)), .unset] [(.int (1 : Int32)), (.int (3 : Int32))])) _
      refine XS.icmpNo X6.here hx rfl (hb hby at_24) rfl (flt (by decide : ¬ ((3 : Int32) < (1 : Int32)))).1 ?_
      show Steps p.tables e below (T6.setTop (mkF m 27 #[.val (.int p0), .val (.int p1), .val (.long p2), .second, .val (.long p3), .second, .val (.long p4), .second, .val (.ref a), .val (.int (1 : Int32)), .val (.int (3 : Int32)), .unset] [])) _
      refine XS.aload X6.here hx rfl (hb hby at_27) rfl rfl ?_
      show Steps p.tables e below (T6.setTop (mkF m 29 #[.val (.int p0), .val (.int p1), .val (.long p2), .second, .val (.long p3), .second, .val (.long p4), .second, .val (.ref a), .val (.int (1 : Int32)), .val (.int (3 : Int32)), .unset] [(.ref a)])) _
      refine XS.lloadN X6.here hx rfl (hb hby at_29) rfl ?_
      exact kt)
    obtain ⟨cq91, kq91, q91a, q91b, q91c⟩ := isOf hZ e6 A1_4
    obtain ⟨_, _, ⟨T91, L91, k91, n91⟩, -, X91, ⟨Lc91, hQ91, l91, y91, z91⟩, st91⟩ := X6.virtualBack hx (y := (⟨"com/example/find_leader/findleader/engine/LongHeap", "add", "(J)V"⟩ : MethodName)) (z := (⟨"com/example/find_leader/findleader/engine/LongHeap", "add", "(J)V"⟩ : MethodName)) hown (mvT hZ (hw _ (List.mem_of_getElem? (i := 19) rfl))) (mvT hZ (hw _ (List.mem_of_getElem? (i := 20) rfl))) (notFace_of_selects (args := #[]) (mvT hZ (hw _ (List.mem_of_getElem? (i := 22) rfl)))) (mvT hZ (hw _ (List.mem_of_getElem? (i := 22) rfl))) (mvT hZ (hw _ (List.mem_of_getElem? (i := 21) rfl))) (by decide) (backOf (W := 0) (rm4_0 l Z a0 hw [] a p2 b kA (0 : Int64) (0 : Int64) (0 : Int64) T3.heap n0 Z3 A1_4 Fv3 Fs3 Vb3 O_a O_b ne_a_b) hZ (hw _ (List.mem_of_getElem? (i := 23) rfl)) (hw _ (List.mem_of_getElem? (i := 2) rfl)) (by decide) (by decide)) q91a q91c (g := (mkF m 30 #[.val (.int p0), .val (.int p1), .val (.long p2), .second, .val (.long p3), .second, .val (.long p4), .second, .val (.ref a), .val (.int (1 : Int32)), .val (.int (3 : Int32)), .unset] [(.long p2), (.ref a)])) rfl (by rw [hml]; rfl) (Steps.refl _) (argsL := [(.long p2)]) (rest := []) (lenOf pd_3 rfl) rfl (by show 2 * 0 + _ ≤ _; exact Nat.le_of_eq rfl) (hb hby at_30) (fun _ _ => ⟨rfl, e6, (Nat.le_of_ble_eq_true rfl), (Nat.le_of_ble_eq_true rfl)⟩)
    dsimp only [Pt.U, Pt.locs, Pt.cells, Pt.slots] at X91 l91 y91 z91 st91 hQ91
    subst l91 y91 z91
    obtain ⟨rfl, N91q, K91, wa91, wb91, wc91, Fv91, Fs91, Vb91⟩ := hQ91
    have N91 := Fr.app N6 N91q
    have pre91s : ∀ tg, Steps p.tables e below (T91.setTop (mkF m 33 #[.val (.int p0), .val (.int p1), .val (.long p2), .second, .val (.long p3), .second, .val (.long p4), .second, .val (.ref a), .val (.int (1 : Int32)), .val (.int (3 : Int32)), .unset] [])) tg → G tg := fun tg kt => pre90 tg (st91.trans kt)
    have Z91 : n0 ≤ T91.heap.size := Nat.le_trans Z3 K91.1
    have A1_92 := A1_4.keep K91
    have pre93 : ∀ tg, Steps p.tables e below (T91.setTop (mkF m 43 #[.val (.int p0), .val (.int p1), .val (.long p2), .second, .val (.long p3), .second, .val (.long p4), .second, .val (.ref a), .val (.int (1 : Int32)), .val (.int (3 : Int32)), .unset] [(.long p3), (.ref a)])) tg → G tg := fun tg kt => pre91s tg (by
      show Steps p.tables e below (T91.setTop (mkF m 33 #[.val (.int p0), .val (.int p1), .val (.long p2), .second, .val (.long p3), .second, .val (.long p4), .second, .val (.ref a), .val (.int (1 : Int32)), .val (.int (3 : Int32)), .unset] [])) _
      refine XS.iload X91.here hx rfl (hb hby at_33) rfl ?_
      show Steps p.tables e below (T91.setTop (mkF m 35 #[.val (.int p0), .val (.int p1), .val (.long p2), .second, .val (.long p3), .second, .val (.long p4), .second, .val (.ref a), .val (.int (1 : Int32)), .val (.int (3 : Int32)), .unset] [(.int (3 : Int32))])) _
      refine XS.iconst X91.here hx rfl (hb hby at_35) ?_
      show Steps p.tables e below (T91.setTop (mkF m 36 #[.val (.int p0), .val (.int p1), .val (.long p2), .second, .val (.long p3), .second, .val (.long p4), .second, .val (.ref a), .val (.int (1 : Int32)), .val (.int (3 : Int32)), .unset] [(.int (2 : Int32)), (.int (3 : Int32))])) _
      refine XS.icmpNo X91.here hx rfl (hb hby at_36) rfl (flt (by decide : ¬ ((3 : Int32) < (2 : Int32)))).1 ?_
      show Steps p.tables e below (T91.setTop (mkF m 39 #[.val (.int p0), .val (.int p1), .val (.long p2), .second, .val (.long p3), .second, .val (.long p4), .second, .val (.ref a), .val (.int (1 : Int32)), .val (.int (3 : Int32)), .unset] [])) _
      refine XS.aload X91.here hx rfl (hb hby at_39) rfl rfl ?_
      show Steps p.tables e below (T91.setTop (mkF m 41 #[.val (.int p0), .val (.int p1), .val (.long p2), .second, .val (.long p3), .second, .val (.long p4), .second, .val (.ref a), .val (.int (1 : Int32)), .val (.int (3 : Int32)), .unset] [(.ref a)])) _
      refine XS.lload X91.here hx rfl (hb hby at_41) rfl ?_
      exact kt)
    obtain ⟨cq94, kq94, q94a, q94b, q94c⟩ := isOf hZ rfl A1_92
    obtain ⟨_, _, ⟨T94, L94, k94, n94⟩, -, X94, ⟨Lc94, hQ94, l94, y94, z94⟩, st94⟩ := X91.virtualBack hx (y := (⟨"com/example/find_leader/findleader/engine/LongHeap", "add", "(J)V"⟩ : MethodName)) (z := (⟨"com/example/find_leader/findleader/engine/LongHeap", "add", "(J)V"⟩ : MethodName)) hown (mvT hZ (hw _ (List.mem_of_getElem? (i := 19) rfl))) (mvT hZ (hw _ (List.mem_of_getElem? (i := 20) rfl))) (notFace_of_selects (args := #[]) (mvT hZ (hw _ (List.mem_of_getElem? (i := 22) rfl)))) (mvT hZ (hw _ (List.mem_of_getElem? (i := 22) rfl))) (mvT hZ (hw _ (List.mem_of_getElem? (i := 21) rfl))) (by decide) (backOf (W := 0) (rm4_1 l Z a0 hw [] a p3 b kA wa91 wb91 wc91 T91.heap n0 Z91 A1_92 Fv91 Fs91 Vb91 O_a O_b ne_a_b) hZ (hw _ (List.mem_of_getElem? (i := 23) rfl)) (hw _ (List.mem_of_getElem? (i := 2) rfl)) (by decide) (by decide)) q94a q94c (g := (mkF m 43 #[.val (.int p0), .val (.int p1), .val (.long p2), .second, .val (.long p3), .second, .val (.long p4), .second, .val (.ref a), .val (.int (1 : Int32)), .val (.int (3 : Int32)), .unset] [(.long p3), (.ref a)])) rfl (by rw [hml]; rfl) (Steps.refl _) (argsL := [(.long p3)]) (rest := []) (lenOf pd_3 rfl) rfl (by show 2 * 0 + _ ≤ _; exact Nat.le_of_eq rfl) (hb hby at_43) (fun _ _ => ⟨rfl, rfl, (Nat.le_of_ble_eq_true rfl), (Nat.le_of_ble_eq_true rfl)⟩)
    dsimp only [Pt.U, Pt.locs, Pt.cells, Pt.slots] at X94 l94 y94 z94 st94 hQ94
    subst l94 y94 z94
    obtain ⟨rfl, N94q, K94, wa94, wb94, wc94, Fv94, Fs94, Vb94⟩ := hQ94
    have N94 := Fr.app N91 N94q
    have pre94s : ∀ tg, Steps p.tables e below (T94.setTop (mkF m 46 #[.val (.int p0), .val (.int p1), .val (.long p2), .second, .val (.long p3), .second, .val (.long p4), .second, .val (.ref a), .val (.int (1 : Int32)), .val (.int (3 : Int32)), .unset] [])) tg → G tg := fun tg kt => pre93 tg (st94.trans kt)
    have Z94 : n0 ≤ T94.heap.size := Nat.le_trans Z91 K94.1
    have A1_95 := A1_92.keep K94
    have pre96 : ∀ tg, Steps p.tables e below (T94.setTop (mkF m 56 #[.val (.int p0), .val (.int p1), .val (.long p2), .second, .val (.long p3), .second, .val (.long p4), .second, .val (.ref a), .val (.int (1 : Int32)), .val (.int (3 : Int32)), .unset] [(.long p4), (.ref a)])) tg → G tg := fun tg kt => pre94s tg (by
      show Steps p.tables e below (T94.setTop (mkF m 46 #[.val (.int p0), .val (.int p1), .val (.long p2), .second, .val (.long p3), .second, .val (.long p4), .second, .val (.ref a), .val (.int (1 : Int32)), .val (.int (3 : Int32)), .unset] [])) _
      refine XS.iload X94.here hx rfl (hb hby at_46) rfl ?_
      show Steps p.tables e below (T94.setTop (mkF m 48 #[.val (.int p0), .val (.int p1), .val (.long p2), .second, .val (.long p3), .second, .val (.long p4), .second, .val (.ref a), .val (.int (1 : Int32)), .val (.int (3 : Int32)), .unset] [(.int (3 : Int32))])) _
      refine XS.iconst X94.here hx rfl (hb hby at_48) ?_
      show Steps p.tables e below (T94.setTop (mkF m 49 #[.val (.int p0), .val (.int p1), .val (.long p2), .second, .val (.long p3), .second, .val (.long p4), .second, .val (.ref a), .val (.int (1 : Int32)), .val (.int (3 : Int32)), .unset] [(.int (3 : Int32)), (.int (3 : Int32))])) _
      refine XS.icmpNo X94.here hx rfl (hb hby at_49) rfl (flt (by decide : ¬ ((3 : Int32) < (3 : Int32)))).1 ?_
      show Steps p.tables e below (T94.setTop (mkF m 52 #[.val (.int p0), .val (.int p1), .val (.long p2), .second, .val (.long p3), .second, .val (.long p4), .second, .val (.ref a), .val (.int (1 : Int32)), .val (.int (3 : Int32)), .unset] [])) _
      refine XS.aload X94.here hx rfl (hb hby at_52) rfl rfl ?_
      show Steps p.tables e below (T94.setTop (mkF m 54 #[.val (.int p0), .val (.int p1), .val (.long p2), .second, .val (.long p3), .second, .val (.long p4), .second, .val (.ref a), .val (.int (1 : Int32)), .val (.int (3 : Int32)), .unset] [(.ref a)])) _
      refine XS.lload X94.here hx rfl (hb hby at_54) rfl ?_
      exact kt)
    obtain ⟨cq97, kq97, q97a, q97b, q97c⟩ := isOf hZ rfl A1_95
    obtain ⟨_, _, ⟨T97, L97, k97, n97⟩, -, X97, ⟨Lc97, hQ97, l97, y97, z97⟩, st97⟩ := X94.virtualBack hx (y := (⟨"com/example/find_leader/findleader/engine/LongHeap", "add", "(J)V"⟩ : MethodName)) (z := (⟨"com/example/find_leader/findleader/engine/LongHeap", "add", "(J)V"⟩ : MethodName)) hown (mvT hZ (hw _ (List.mem_of_getElem? (i := 19) rfl))) (mvT hZ (hw _ (List.mem_of_getElem? (i := 20) rfl))) (notFace_of_selects (args := #[]) (mvT hZ (hw _ (List.mem_of_getElem? (i := 22) rfl)))) (mvT hZ (hw _ (List.mem_of_getElem? (i := 22) rfl))) (mvT hZ (hw _ (List.mem_of_getElem? (i := 21) rfl))) (by decide) (backOf (W := 0) (rm4_2 l Z a0 hw [] a p4 b kA wa94 wb94 wc94 T94.heap n0 Z94 A1_95 Fv94 Fs94 Vb94 O_a O_b ne_a_b) hZ (hw _ (List.mem_of_getElem? (i := 23) rfl)) (hw _ (List.mem_of_getElem? (i := 2) rfl)) (by decide) (by decide)) q97a q97c (g := (mkF m 56 #[.val (.int p0), .val (.int p1), .val (.long p2), .second, .val (.long p3), .second, .val (.long p4), .second, .val (.ref a), .val (.int (1 : Int32)), .val (.int (3 : Int32)), .unset] [(.long p4), (.ref a)])) rfl (by rw [hml]; rfl) (Steps.refl _) (argsL := [(.long p4)]) (rest := []) (lenOf pd_3 rfl) rfl (by show 2 * 0 + _ ≤ _; exact Nat.le_of_eq rfl) (hb hby at_56) (fun _ _ => ⟨rfl, rfl, (Nat.le_of_ble_eq_true rfl), (Nat.le_of_ble_eq_true rfl)⟩)
    dsimp only [Pt.U, Pt.locs, Pt.cells, Pt.slots] at X97 l97 y97 z97 st97 hQ97
    subst l97 y97 z97
    obtain ⟨rfl, N97q, K97, wa97, wb97, wc97, Fv97, Fs97, Vb97⟩ := hQ97
    have N97 := Fr.app N94 N97q
    have pre97s : ∀ tg, Steps p.tables e below (T97.setTop (mkF m 59 #[.val (.int p0), .val (.int p1), .val (.long p2), .second, .val (.long p3), .second, .val (.long p4), .second, .val (.ref a), .val (.int (1 : Int32)), .val (.int (3 : Int32)), .unset] [])) tg → G tg := fun tg kt => pre96 tg (st97.trans kt)
    have Z97 : n0 ≤ T97.heap.size := Nat.le_trans Z94 K97.1
    have A1_98 := A1_95.keep K97
    have pre99 : ∀ tg, Steps p.tables e below (T97.setTop (mkF m 66 #[.val (.int p0), .val (.int p1), .val (.long p2), .second, .val (.long p3), .second, .val (.long p4), .second, .val (.ref a), .val (.int (1 : Int32)), .val (.int (3 : Int32)), .unset] [(.ref a)])) tg → G tg := fun tg kt => pre97s tg (by
      show Steps p.tables e below (T97.setTop (mkF m 59 #[.val (.int p0), .val (.int p1), .val (.long p2), .second, .val (.long p3), .second, .val (.long p4), .second, .val (.ref a), .val (.int (1 : Int32)), .val (.int (3 : Int32)), .unset] [])) _
      refine XS.iload X97.here hx rfl (hb hby at_59) rfl ?_
      show Steps p.tables e below (T97.setTop (mkF m 61 #[.val (.int p0), .val (.int p1), .val (.long p2), .second, .val (.long p3), .second, .val (.long p4), .second, .val (.ref a), .val (.int (1 : Int32)), .val (.int (3 : Int32)), .unset] [(.int (1 : Int32))])) _
      refine XS.ifNo X97.here hx rfl (hb hby at_61) rfl ((if0 _ _).trans (feq (by decide : ¬ ((1 : Int32) = (0 : Int32)))).1) ?_
      show Steps p.tables e below (T97.setTop (mkF m 64 #[.val (.int p0), .val (.int p1), .val (.long p2), .second, .val (.long p3), .second, .val (.long p4), .second, .val (.ref a), .val (.int (1 : Int32)), .val (.int (3 : Int32)), .unset] [])) _
      refine XS.aload X97.here hx rfl (hb hby at_64) rfl rfl ?_
      exact kt)
    obtain ⟨cq100, kq100, q100a, q100b, q100c⟩ := isOf hZ rfl A1_98
    obtain ⟨_, _, ⟨T100, L100, k100, n100⟩, -, X100, ⟨Lc100, hQ100, l100, y100, z100⟩, st100⟩ := X97.virtualBack hx (y := (⟨"com/example/find_leader/findleader/engine/LongHeap", "isEmpty", "()Z"⟩ : MethodName)) (z := (⟨"com/example/find_leader/findleader/engine/LongHeap", "isEmpty", "()Z"⟩ : MethodName)) hown (mvT hZ (hw _ (List.mem_of_getElem? (i := 12) rfl))) (mvT hZ (hw _ (List.mem_of_getElem? (i := 13) rfl))) (notFace_of_selects (args := #[]) (mvT hZ (hw _ (List.mem_of_getElem? (i := 15) rfl)))) (mvT hZ (hw _ (List.mem_of_getElem? (i := 15) rfl))) (mvT hZ (hw _ (List.mem_of_getElem? (i := 14) rfl))) (by decide) (backOf (W := 0) (rm3 l Z a0 hw [] a (3 : Int32) T97.heap n0 Z97 Fs97) hZ (hw _ (List.mem_of_getElem? (i := 16) rfl)) (hw _ (List.mem_of_getElem? (i := 2) rfl)) (by decide) (by decide)) q100a q100c (g := (mkF m 66 #[.val (.int p0), .val (.int p1), .val (.long p2), .second, .val (.long p3), .second, .val (.long p4), .second, .val (.ref a), .val (.int (1 : Int32)), .val (.int (3 : Int32)), .unset] [(.ref a)])) rfl (by rw [hml]; rfl) (Steps.refl _) (argsL := []) (rest := []) (lenOf pd_2 rfl) rfl (by show 2 * 0 + _ ≤ _; exact Nat.le_of_eq rfl) (hb hby at_66) (fun _ _ => ⟨rfl, rfl, (Nat.le_of_ble_eq_true rfl), (Nat.le_of_ble_eq_true rfl)⟩)
    dsimp only [Pt.U, Pt.locs, Pt.cells, Pt.slots] at X100 l100 y100 z100 st100 hQ100
    subst l100 y100 z100
    obtain ⟨hv100, N100q, e100⟩ := hQ100
    rw [if_neg (by decide)] at hv100
    subst hv100
    have N100 := Fr.app N97 N100q
    have pre100s : ∀ tg, Steps p.tables e below (T100.setTop (mkF m 69 #[.val (.int p0), .val (.int p1), .val (.long p2), .second, .val (.long p3), .second, .val (.long p4), .second, .val (.ref a), .val (.int (1 : Int32)), .val (.int (3 : Int32)), .unset] [(.int (0 : Int32))])) tg → G tg := fun tg kt => pre99 tg (st100.trans kt)
    have pre101 : ∀ tg, Steps p.tables e below (T100.setTop (mkF m 94 #[.val (.int p0), .val (.int p1), .val (.long p2), .second, .val (.long p3), .second, .val (.long p4), .second, .val (.ref a), .val (.int (1 : Int32)), .val (.int (3 : Int32)), .val (.int (p1 &&& (3 : Int32)))] [])) tg → G tg := fun tg kt => pre100s tg (by
      show Steps p.tables e below (T100.setTop (mkF m 69 #[.val (.int p0), .val (.int p1), .val (.long p2), .second, .val (.long p3), .second, .val (.long p4), .second, .val (.ref a), .val (.int (1 : Int32)), .val (.int (3 : Int32)), .unset] [(.int (0 : Int32))])) _
      refine XS.iload X100.here hx rfl (hb hby at_69) rfl ?_
      show Steps p.tables e below (T100.setTop (mkF m 71 #[.val (.int p0), .val (.int p1), .val (.long p2), .second, .val (.long p3), .second, .val (.long p4), .second, .val (.ref a), .val (.int (1 : Int32)), .val (.int (3 : Int32)), .unset] [(.int (3 : Int32)), (.int (0 : Int32))])) _
      refine XS.ifYes X100.here hx rfl (pc0 := 71) (pc' := 78) rfl (hb hby at_71) rfl ((if0 _ _).trans (feq (by decide : ¬ ((3 : Int32) = (0 : Int32)))).2) (by decide) (by decide) ?_
      show Steps p.tables e below (T100.setTop (mkF m 78 #[.val (.int p0), .val (.int p1), .val (.long p2), .second, .val (.long p3), .second, .val (.long p4), .second, .val (.ref a), .val (.int (1 : Int32)), .val (.int (3 : Int32)), .unset] [(.int (0 : Int32))])) _
      refine XS.iconst X100.here hx rfl (hb hby at_78) ?_
      show Steps p.tables e below (T100.setTop (mkF m 79 #[.val (.int p0), .val (.int p1), .val (.long p2), .second, .val (.long p3), .second, .val (.long p4), .second, .val (.ref a), .val (.int (1 : Int32)), .val (.int (3 : Int32)), .unset] [(.int (0 : Int32)), (.int (0 : Int32))])) _
      refine XS.icmpNo X100.here hx rfl (hb hby at_79) rfl (teq (by decide : (0 : Int32) = (0 : Int32))).2 ?_
      show Steps p.tables e below (T100.setTop (mkF m 82 #[.val (.int p0), .val (.int p1), .val (.long p2), .second, .val (.long p3), .second, .val (.long p4), .second, .val (.ref a), .val (.int (1 : Int32)), .val (.int (3 : Int32)), .unset] [])) _
      refine XS.iconst X100.here hx rfl (hb hby at_82) ?_
      show Steps p.tables e below (T100.setTop (mkF m 83 #[.val (.int p0), .val (.int p1), .val (.long p2), .second, .val (.long p3), .second, .val (.long p4), .second, .val (.ref a), .val (.int (1 : Int32)), .val (.int (3 : Int32)), .unset] [(.int (1 : Int32))])) _
      refine XS.goto X100.here hx rfl (pc0 := 83) (pc' := 87) rfl (hb hby at_83) (by decide) (by decide) ?_
      show Steps p.tables e below (T100.setTop (mkF m 87 #[.val (.int p0), .val (.int p1), .val (.long p2), .second, .val (.long p3), .second, .val (.long p4), .second, .val (.ref a), .val (.int (1 : Int32)), .val (.int (3 : Int32)), .unset] [(.int (1 : Int32))])) _
      refine XS.istore X100.here hx rfl (hb hby at_87) rfl (l' := #[.val (.int p0), .val (.int p1), .val (.long p2), .second, .val (.long p3), .second, .val (.long p4), .second, .val (.ref a), .val (.int (1 : Int32)), .val (.int (3 : Int32)), .unset]) rfl ?_
      show Steps p.tables e below (T100.setTop (mkF m 89 #[.val (.int p0), .val (.int p1), .val (.long p2), .second, .val (.long p3), .second, .val (.long p4), .second, .val (.ref a), .val (.int (1 : Int32)), .val (.int (3 : Int32)), .unset] [])) _
      refine XS.iloadN X100.here hx rfl (hb hby at_89) rfl ?_
      show Steps p.tables e below (T100.setTop (mkF m 90 #[.val (.int p0), .val (.int p1), .val (.long p2), .second, .val (.long p3), .second, .val (.long p4), .second, .val (.ref a), .val (.int (1 : Int32)), .val (.int (3 : Int32)), .unset] [(.int p1)])) _
      refine XS.iconst X100.here hx rfl (hb hby at_90) ?_
      show Steps p.tables e below (T100.setTop (mkF m 91 #[.val (.int p0), .val (.int p1), .val (.long p2), .second, .val (.long p3), .second, .val (.long p4), .second, .val (.ref a), .val (.int (1 : Int32)), .val (.int (3 : Int32)), .unset] [(.int (3 : Int32)), (.int p1)])) _
      refine XS.iand X100.here hx rfl (hb hby at_91) rfl ?_
      show Steps p.tables e below (T100.setTop (mkF m 92 #[.val (.int p0), .val (.int p1), .val (.long p2), .second, .val (.long p3), .second, .val (.long p4), .second, .val (.ref a), .val (.int (1 : Int32)), .val (.int (3 : Int32)), .unset] [(.int (p1 &&& (3 : Int32)))])) _
      refine XS.istore X100.here hx rfl (hb hby at_92) rfl (l' := #[.val (.int p0), .val (.int p1), .val (.long p2), .second, .val (.long p3), .second, .val (.long p4), .second, .val (.ref a), .val (.int (1 : Int32)), .val (.int (3 : Int32)), .val (.int (p1 &&& (3 : Int32)))]) rfl ?_
      exact kt)
    rcases own_four p1 with hm | hm | hm | hm
    · skip
      have pre102 : ∀ tg, Steps p.tables e below (T100.setTop (mkF m 94 #[.val (.int p0), .val (.int p1), .val (.long p2), .second, .val (.long p3), .second, .val (.long p4), .second, .val (.ref a), .val (.int (1 : Int32)), .val (.int (3 : Int32)), .val (.int (0 : Int32))] [])) tg → G tg := fun tg kt => pre101 tg (by rw [hm]; exact kt)
      have pre103 : ∀ tg, Steps p.tables e below (T100.setTop (mkF m 148 #[.val (.int p0), .val (.int p1), .val (.long p2), .second, .val (.long p3), .second, .val (.long p4), .second, .val (.ref a), .val (.int (1 : Int32)), .val (.int (3 : Int32)), .val (.int (0 : Int32))] [(.ref a)])) tg → G tg := fun tg kt => pre102 tg (by
        show Steps p.tables e below (T100.setTop (mkF m 94 #[.val (.int p0), .val (.int p1), .val (.long p2), .second, .val (.long p3), .second, .val (.long p4), .second, .val (.ref a), .val (.int (1 : Int32)), .val (.int (3 : Int32)), .val (.int (0 : Int32))] [])) _
        refine XS.iload X100.here hx rfl (hb hby at_94) rfl ?_
        show Steps p.tables e below (T100.setTop (mkF m 96 #[.val (.int p0), .val (.int p1), .val (.long p2), .second, .val (.long p3), .second, .val (.long p4), .second, .val (.ref a), .val (.int (1 : Int32)), .val (.int (3 : Int32)), .val (.int (0 : Int32))] [(.int (0 : Int32))])) _
        refine XS.iload X100.here hx rfl (hb hby at_96) rfl ?_
        show Steps p.tables e below (T100.setTop (mkF m 98 #[.val (.int p0), .val (.int p1), .val (.long p2), .second, .val (.long p3), .second, .val (.long p4), .second, .val (.ref a), .val (.int (1 : Int32)), .val (.int (3 : Int32)), .val (.int (0 : Int32))] [(.int (3 : Int32)), (.int (0 : Int32))])) _
        refine XS.icmpYes X100.here hx rfl (pc0 := 98) (pc' := 105) rfl (hb hby at_98) rfl (flt (by decide : ¬ ((3 : Int32) < (0 : Int32)))).2.2.2 (by decide) (by decide) ?_
        show Steps p.tables e below (T100.setTop (mkF m 105 #[.val (.int p0), .val (.int p1), .val (.long p2), .second, .val (.long p3), .second, .val (.long p4), .second, .val (.ref a), .val (.int (1 : Int32)), .val (.int (3 : Int32)), .val (.int (0 : Int32))] [])) _
        refine XS.iload X100.here hx rfl (hb hby at_105) rfl ?_
        show Steps p.tables e below (T100.setTop (mkF m 107 #[.val (.int p0), .val (.int p1), .val (.long p2), .second, .val (.long p3), .second, .val (.long p4), .second, .val (.ref a), .val (.int (1 : Int32)), .val (.int (3 : Int32)), .val (.int (0 : Int32))] [(.int (0 : Int32))])) _
        refine XS.iconst X100.here hx rfl (hb hby at_107) ?_
        show Steps p.tables e below (T100.setTop (mkF m 108 #[.val (.int p0), .val (.int p1), .val (.long p2), .second, .val (.long p3), .second, .val (.long p4), .second, .val (.ref a), .val (.int (1 : Int32)), .val (.int (3 : Int32)), .val (.int (0 : Int32))] [(.int (1 : Int32)), (.int (0 : Int32))])) _
        refine XS.icmpYes X100.here hx rfl (pc0 := 108) (pc' := 117) rfl (hb hby at_108) rfl (tlt (by decide : (0 : Int32) < (1 : Int32))).1 (by decide) (by decide) ?_
        show Steps p.tables e below (T100.setTop (mkF m 117 #[.val (.int p0), .val (.int p1), .val (.long p2), .second, .val (.long p3), .second, .val (.long p4), .second, .val (.ref a), .val (.int (1 : Int32)), .val (.int (3 : Int32)), .val (.int (0 : Int32))] [])) _
        refine XS.iload X100.here hx rfl (hb hby at_117) rfl ?_
        show Steps p.tables e below (T100.setTop (mkF m 119 #[.val (.int p0), .val (.int p1), .val (.long p2), .second, .val (.long p3), .second, .val (.long p4), .second, .val (.ref a), .val (.int (1 : Int32)), .val (.int (3 : Int32)), .val (.int (0 : Int32))] [(.int (0 : Int32))])) _
        refine XS.iconst X100.here hx rfl (hb hby at_119) ?_
        show Steps p.tables e below (T100.setTop (mkF m 120 #[.val (.int p0), .val (.int p1), .val (.long p2), .second, .val (.long p3), .second, .val (.long p4), .second, .val (.ref a), .val (.int (1 : Int32)), .val (.int (3 : Int32)), .val (.int (0 : Int32))] [(.int (2 : Int32)), (.int (0 : Int32))])) _
        refine XS.icmpYes X100.here hx rfl (pc0 := 120) (pc' := 129) rfl (hb hby at_120) rfl (tlt (by decide : (0 : Int32) < (2 : Int32))).1 (by decide) (by decide) ?_
        show Steps p.tables e below (T100.setTop (mkF m 129 #[.val (.int p0), .val (.int p1), .val (.long p2), .second, .val (.long p3), .second, .val (.long p4), .second, .val (.ref a), .val (.int (1 : Int32)), .val (.int (3 : Int32)), .val (.int (0 : Int32))] [])) _
        refine XS.iload X100.here hx rfl (hb hby at_129) rfl ?_
        show Steps p.tables e below (T100.setTop (mkF m 131 #[.val (.int p0), .val (.int p1), .val (.long p2), .second, .val (.long p3), .second, .val (.long p4), .second, .val (.ref a), .val (.int (1 : Int32)), .val (.int (3 : Int32)), .val (.int (0 : Int32))] [(.int (0 : Int32))])) _
        refine XS.iconst X100.here hx rfl (hb hby at_131) ?_
        show Steps p.tables e below (T100.setTop (mkF m 132 #[.val (.int p0), .val (.int p1), .val (.long p2), .second, .val (.long p3), .second, .val (.long p4), .second, .val (.ref a), .val (.int (1 : Int32)), .val (.int (3 : Int32)), .val (.int (0 : Int32))] [(.int (3 : Int32)), (.int (0 : Int32))])) _
        refine XS.icmpYes X100.here hx rfl (pc0 := 132) (pc' := 141) rfl (hb hby at_132) rfl (tlt (by decide : (0 : Int32) < (3 : Int32))).1 (by decide) (by decide) ?_
        show Steps p.tables e below (T100.setTop (mkF m 141 #[.val (.int p0), .val (.int p1), .val (.long p2), .second, .val (.long p3), .second, .val (.long p4), .second, .val (.ref a), .val (.int (1 : Int32)), .val (.int (3 : Int32)), .val (.int (0 : Int32))] [])) _
        refine XS.iload X100.here hx rfl (hb hby at_141) rfl ?_
        show Steps p.tables e below (T100.setTop (mkF m 143 #[.val (.int p0), .val (.int p1), .val (.long p2), .second, .val (.long p3), .second, .val (.long p4), .second, .val (.ref a), .val (.int (1 : Int32)), .val (.int (3 : Int32)), .val (.int (0 : Int32))] [(.int (1 : Int32))])) _
        refine XS.ifNo X100.here hx rfl (hb hby at_143) rfl ((if0 _ _).trans (feq (by decide : ¬ ((1 : Int32) = (0 : Int32)))).1) ?_
        show Steps p.tables e below (T100.setTop (mkF m 146 #[.val (.int p0), .val (.int p1), .val (.long p2), .second, .val (.long p3), .second, .val (.long p4), .second, .val (.ref a), .val (.int (1 : Int32)), .val (.int (3 : Int32)), .val (.int (0 : Int32))] [])) _
        refine XS.aload X100.here hx rfl (hb hby at_146) rfl rfl ?_
        exact kt)
      obtain ⟨cq104, kq104, q104a, q104b, q104c⟩ := isOf hZ e100 A1_98
      obtain ⟨_, _, ⟨T104, L104, k104, n104⟩, -, X104, ⟨Lc104, hQ104, l104, y104, z104⟩, st104⟩ := X100.virtualBack hx (y := (⟨"com/example/find_leader/findleader/engine/LongHeap", "isEmpty", "()Z"⟩ : MethodName)) (z := (⟨"com/example/find_leader/findleader/engine/LongHeap", "isEmpty", "()Z"⟩ : MethodName)) hown (mvT hZ (hw _ (List.mem_of_getElem? (i := 12) rfl))) (mvT hZ (hw _ (List.mem_of_getElem? (i := 13) rfl))) (notFace_of_selects (args := #[]) (mvT hZ (hw _ (List.mem_of_getElem? (i := 15) rfl)))) (mvT hZ (hw _ (List.mem_of_getElem? (i := 15) rfl))) (mvT hZ (hw _ (List.mem_of_getElem? (i := 14) rfl))) (by decide) (backOf (W := 0) (rm3 l Z a0 hw [] a (3 : Int32) T97.heap n0 Z97 Fs97) hZ (hw _ (List.mem_of_getElem? (i := 16) rfl)) (hw _ (List.mem_of_getElem? (i := 2) rfl)) (by decide) (by decide)) q104a q104c (g := (mkF m 148 #[.val (.int p0), .val (.int p1), .val (.long p2), .second, .val (.long p3), .second, .val (.long p4), .second, .val (.ref a), .val (.int (1 : Int32)), .val (.int (3 : Int32)), .val (.int (0 : Int32))] [(.ref a)])) rfl (by rw [hml]; rfl) (Steps.refl _) (argsL := []) (rest := []) (lenOf pd_2 rfl) rfl (by show 2 * 0 + _ ≤ _; exact Nat.le_of_eq rfl) (hb hby at_148) (fun _ _ => ⟨rfl, e100, (Nat.le_of_ble_eq_true rfl), (Nat.le_of_ble_eq_true rfl)⟩)
      dsimp only [Pt.U, Pt.locs, Pt.cells, Pt.slots] at X104 l104 y104 z104 st104 hQ104
      subst l104 y104 z104
      obtain ⟨hv104, N104q, e104⟩ := hQ104
      rw [if_neg (by decide)] at hv104
      subst hv104
      have N104 := Fr.app N100 N104q
      have pre104s : ∀ tg, Steps p.tables e below (T104.setTop (mkF m 151 #[.val (.int p0), .val (.int p1), .val (.long p2), .second, .val (.long p3), .second, .val (.long p4), .second, .val (.ref a), .val (.int (1 : Int32)), .val (.int (3 : Int32)), .val (.int (0 : Int32))] [(.int (0 : Int32))])) tg → G tg := fun tg kt => pre103 tg (st104.trans kt)
      obtain ⟨fs, hr, hrun, hended, hW, hsame⟩ := X104.leave (v := some (.int (1 : Int32))) (fun h => by rw [Bd.returns] at h; cases h)
      subst hG
      refine ⟨_, _, pre104s _ ?_, hrun, hended, _, _, rfl, ?_, ⟨_, rfl⟩, hW, hsame.mono (by decide) (by decide)⟩
      · skip
        show Steps p.tables e below (T104.setTop (mkF m 151 #[.val (.int p0), .val (.int p1), .val (.long p2), .second, .val (.long p3), .second, .val (.long p4), .second, .val (.ref a), .val (.int (1 : Int32)), .val (.int (3 : Int32)), .val (.int (0 : Int32))] [(.int (0 : Int32))])) _
        refine XS.iload X104.here hx rfl (hb hby at_151) rfl ?_
        show Steps p.tables e below (T104.setTop (mkF m 153 #[.val (.int p0), .val (.int p1), .val (.long p2), .second, .val (.long p3), .second, .val (.long p4), .second, .val (.ref a), .val (.int (1 : Int32)), .val (.int (3 : Int32)), .val (.int (0 : Int32))] [(.int (0 : Int32)), (.int (0 : Int32))])) _
        refine XS.iload X104.here hx rfl (hb hby at_153) rfl ?_
        show Steps p.tables e below (T104.setTop (mkF m 155 #[.val (.int p0), .val (.int p1), .val (.long p2), .second, .val (.long p3), .second, .val (.long p4), .second, .val (.ref a), .val (.int (1 : Int32)), .val (.int (3 : Int32)), .val (.int (0 : Int32))] [(.int (3 : Int32)), (.int (0 : Int32)), (.int (0 : Int32))])) _
        refine XS.icmpYes X104.here hx rfl (pc0 := 155) (pc' := 162) rfl (hb hby at_155) rfl (feq (by decide : ¬ ((0 : Int32) = (3 : Int32)))).2 (by decide) (by decide) ?_
        show Steps p.tables e below (T104.setTop (mkF m 162 #[.val (.int p0), .val (.int p1), .val (.long p2), .second, .val (.long p3), .second, .val (.long p4), .second, .val (.ref a), .val (.int (1 : Int32)), .val (.int (3 : Int32)), .val (.int (0 : Int32))] [(.int (0 : Int32))])) _
        refine XS.iconst X104.here hx rfl (hb hby at_162) ?_
        show Steps p.tables e below (T104.setTop (mkF m 163 #[.val (.int p0), .val (.int p1), .val (.long p2), .second, .val (.long p3), .second, .val (.long p4), .second, .val (.ref a), .val (.int (1 : Int32)), .val (.int (3 : Int32)), .val (.int (0 : Int32))] [(.int (0 : Int32)), (.int (0 : Int32))])) _
        refine XS.icmpNo X104.here hx rfl (hb hby at_163) rfl (teq (by decide : (0 : Int32) = (0 : Int32))).2 ?_
        show Steps p.tables e below (T104.setTop (mkF m 166 #[.val (.int p0), .val (.int p1), .val (.long p2), .second, .val (.long p3), .second, .val (.long p4), .second, .val (.ref a), .val (.int (1 : Int32)), .val (.int (3 : Int32)), .val (.int (0 : Int32))] [])) _
        refine XS.iconst X104.here hx rfl (hb hby at_166) ?_
        show Steps p.tables e below (T104.setTop (mkF m 167 #[.val (.int p0), .val (.int p1), .val (.long p2), .second, .val (.long p3), .second, .val (.long p4), .second, .val (.ref a), .val (.int (1 : Int32)), .val (.int (3 : Int32)), .val (.int (0 : Int32))] [(.int (1 : Int32))])) _
        refine XS.goto X104.here hx rfl (pc0 := 167) (pc' := 171) rfl (hb hby at_167) (by decide) (by decide) ?_
        show Steps p.tables e below (T104.setTop (mkF m 171 #[.val (.int p0), .val (.int p1), .val (.long p2), .second, .val (.long p3), .second, .val (.long p4), .second, .val (.ref a), .val (.int (1 : Int32)), .val (.int (3 : Int32)), .val (.int (0 : Int32))] [(.int (1 : Int32))])) _
        refine XS.istore X104.here hx rfl (hb hby at_171) rfl (l' := #[.val (.int p0), .val (.int p1), .val (.long p2), .second, .val (.long p3), .second, .val (.long p4), .second, .val (.ref a), .val (.int (1 : Int32)), .val (.int (3 : Int32)), .val (.int (0 : Int32))]) rfl ?_
        show Steps p.tables e below (T104.setTop (mkF m 173 #[.val (.int p0), .val (.int p1), .val (.long p2), .second, .val (.long p3), .second, .val (.long p4), .second, .val (.ref a), .val (.int (1 : Int32)), .val (.int (3 : Int32)), .val (.int (0 : Int32))] [])) _
        refine XS.iload X104.here hx rfl (hb hby at_173) rfl ?_
        show Steps p.tables e below (T104.setTop (mkF m 175 #[.val (.int p0), .val (.int p1), .val (.long p2), .second, .val (.long p3), .second, .val (.long p4), .second, .val (.ref a), .val (.int (1 : Int32)), .val (.int (3 : Int32)), .val (.int (0 : Int32))] [(.int (1 : Int32))])) _
        exact retN X104 hx (t := .boolean) Bd.returns (by simp) (hb hby at_175) hr
      · show Q_rm0 Z p0 p1 p2 p3 p4 h0 n0 _ T104.heap _
        rw [e104]
        exact ⟨rfl, N104⟩
    · skip
      have pre105 : ∀ tg, Steps p.tables e below (T100.setTop (mkF m 94 #[.val (.int p0), .val (.int p1), .val (.long p2), .second, .val (.long p3), .second, .val (.long p4), .second, .val (.ref a), .val (.int (1 : Int32)), .val (.int (3 : Int32)), .val (.int (1 : Int32))] [])) tg → G tg := fun tg kt => pre101 tg (by rw [hm]; exact kt)
      have pre106 : ∀ tg, Steps p.tables e below (T100.setTop (mkF m 113 #[.val (.int p0), .val (.int p1), .val (.long p2), .second, .val (.long p3), .second, .val (.long p4), .second, .val (.ref a), .val (.int (1 : Int32)), .val (.int (3 : Int32)), .val (.int (1 : Int32))] [(.ref a)])) tg → G tg := fun tg kt => pre105 tg (by
        show Steps p.tables e below (T100.setTop (mkF m 94 #[.val (.int p0), .val (.int p1), .val (.long p2), .second, .val (.long p3), .second, .val (.long p4), .second, .val (.ref a), .val (.int (1 : Int32)), .val (.int (3 : Int32)), .val (.int (1 : Int32))] [])) _
        refine XS.iload X100.here hx rfl (hb hby at_94) rfl ?_
        show Steps p.tables e below (T100.setTop (mkF m 96 #[.val (.int p0), .val (.int p1), .val (.long p2), .second, .val (.long p3), .second, .val (.long p4), .second, .val (.ref a), .val (.int (1 : Int32)), .val (.int (3 : Int32)), .val (.int (1 : Int32))] [(.int (1 : Int32))])) _
        refine XS.iload X100.here hx rfl (hb hby at_96) rfl ?_
        show Steps p.tables e below (T100.setTop (mkF m 98 #[.val (.int p0), .val (.int p1), .val (.long p2), .second, .val (.long p3), .second, .val (.long p4), .second, .val (.ref a), .val (.int (1 : Int32)), .val (.int (3 : Int32)), .val (.int (1 : Int32))] [(.int (3 : Int32)), (.int (1 : Int32))])) _
        refine XS.icmpYes X100.here hx rfl (pc0 := 98) (pc' := 105) rfl (hb hby at_98) rfl (flt (by decide : ¬ ((3 : Int32) < (1 : Int32)))).2.2.2 (by decide) (by decide) ?_
        show Steps p.tables e below (T100.setTop (mkF m 105 #[.val (.int p0), .val (.int p1), .val (.long p2), .second, .val (.long p3), .second, .val (.long p4), .second, .val (.ref a), .val (.int (1 : Int32)), .val (.int (3 : Int32)), .val (.int (1 : Int32))] [])) _
        refine XS.iload X100.here hx rfl (hb hby at_105) rfl ?_
        show Steps p.tables e below (T100.setTop (mkF m 107 #[.val (.int p0), .val (.int p1), .val (.long p2), .second, .val (.long p3), .second, .val (.long p4), .second, .val (.ref a), .val (.int (1 : Int32)), .val (.int (3 : Int32)), .val (.int (1 : Int32))] [(.int (1 : Int32))])) _
        refine XS.iconst X100.here hx rfl (hb hby at_107) ?_
        show Steps p.tables e below (T100.setTop (mkF m 108 #[.val (.int p0), .val (.int p1), .val (.long p2), .second, .val (.long p3), .second, .val (.long p4), .second, .val (.ref a), .val (.int (1 : Int32)), .val (.int (3 : Int32)), .val (.int (1 : Int32))] [(.int (1 : Int32)), (.int (1 : Int32))])) _
        refine XS.icmpNo X100.here hx rfl (hb hby at_108) rfl (flt (by decide : ¬ ((1 : Int32) < (1 : Int32)))).1 ?_
        show Steps p.tables e below (T100.setTop (mkF m 111 #[.val (.int p0), .val (.int p1), .val (.long p2), .second, .val (.long p3), .second, .val (.long p4), .second, .val (.ref a), .val (.int (1 : Int32)), .val (.int (3 : Int32)), .val (.int (1 : Int32))] [])) _
        refine XS.aload X100.here hx rfl (hb hby at_111) rfl rfl ?_
        exact kt)
      obtain ⟨cq107, kq107, q107a, q107b, q107c⟩ := isOf hZ e100 A1_98
      obtain ⟨_, _, ⟨T107, L107, k107, n107⟩, -, X107, ⟨Lc107, hQ107, l107, y107, z107⟩, st107⟩ := X100.virtualBack hx (y := (⟨"com/example/find_leader/findleader/engine/LongHeap", "pollFirst", "()J"⟩ : MethodName)) (z := (⟨"com/example/find_leader/findleader/engine/LongHeap", "pollFirst", "()J"⟩ : MethodName)) hown (mvT hZ (hw _ (List.mem_of_getElem? (i := 24) rfl))) (mvT hZ (hw _ (List.mem_of_getElem? (i := 25) rfl))) (notFace_of_selects (args := #[]) (mvT hZ (hw _ (List.mem_of_getElem? (i := 27) rfl)))) (mvT hZ (hw _ (List.mem_of_getElem? (i := 27) rfl))) (mvT hZ (hw _ (List.mem_of_getElem? (i := 26) rfl))) (by decide) (backOf (W := 0) (rm5_3 l Z a0 hw [] a b kA wa97 wb97 wc97 T97.heap n0 Z97 A1_98 Fv97 Fs97 Vb97 O_a O_b ne_a_b) hZ (hw _ (List.mem_of_getElem? (i := 28) rfl)) (hw _ (List.mem_of_getElem? (i := 2) rfl)) (by decide) (by decide)) q107a q107c (g := (mkF m 113 #[.val (.int p0), .val (.int p1), .val (.long p2), .second, .val (.long p3), .second, .val (.long p4), .second, .val (.ref a), .val (.int (1 : Int32)), .val (.int (3 : Int32)), .val (.int (1 : Int32))] [(.ref a)])) rfl (by rw [hml]; rfl) (Steps.refl _) (argsL := []) (rest := []) (lenOf pd_0 rfl) rfl (by show 2 * 0 + _ ≤ _; exact Nat.le_of_eq rfl) (hb hby at_113) (fun _ _ => ⟨rfl, e100, (Nat.le_of_ble_eq_true rfl), (Nat.le_of_ble_eq_true rfl)⟩)
      dsimp only [Pt.U, Pt.locs, Pt.cells, Pt.slots] at X107 l107 y107 z107 st107 hQ107
      subst l107 y107 z107
      obtain ⟨x107, rfl, N107q, K107, wa107, wb107, wc107, Fv107, Fs107, Vb107⟩ := hQ107
      have N107 := Fr.app N100 N107q
      have pre107s : ∀ tg, Steps p.tables e below (T107.setTop (mkF m 116 #[.val (.int p0), .val (.int p1), .val (.long p2), .second, .val (.long p3), .second, .val (.long p4), .second, .val (.ref a), .val (.int (1 : Int32)), .val (.int (3 : Int32)), .val (.int (1 : Int32))] [(.long x107)])) tg → G tg := fun tg kt => pre106 tg (st107.trans kt)
      have Z107 : n0 ≤ T107.heap.size := Nat.le_trans Z97 K107.1
      have A1_108 := A1_98.keep K107
      have pre109 : ∀ tg, Steps p.tables e below (T107.setTop (mkF m 148 #[.val (.int p0), .val (.int p1), .val (.long p2), .second, .val (.long p3), .second, .val (.long p4), .second, .val (.ref a), .val (.int (1 : Int32)), .val (.int (3 : Int32)), .val (.int (1 : Int32))] [(.ref a)])) tg → G tg := fun tg kt => pre107s tg (by
        show Steps p.tables e below (T107.setTop (mkF m 116 #[.val (.int p0), .val (.int p1), .val (.long p2), .second, .val (.long p3), .second, .val (.long p4), .second, .val (.ref a), .val (.int (1 : Int32)), .val (.int (3 : Int32)), .val (.int (1 : Int32))] [(.long x107)])) _
        jvm_step X107.here [X107.here.top, hx, (hb hby at_116), Value.category]
        show Steps p.tables e below (T107.setTop (mkF m 117 #[.val (.int p0), .val (.int p1), .val (.long p2), .second, .val (.long p3), .second, .val (.long p4), .second, .val (.ref a), .val (.int (1 : Int32)), .val (.int (3 : Int32)), .val (.int (1 : Int32))] [])) _
        refine XS.iload X107.here hx rfl (hb hby at_117) rfl ?_
        show Steps p.tables e below (T107.setTop (mkF m 119 #[.val (.int p0), .val (.int p1), .val (.long p2), .second, .val (.long p3), .second, .val (.long p4), .second, .val (.ref a), .val (.int (1 : Int32)), .val (.int (3 : Int32)), .val (.int (1 : Int32))] [(.int (1 : Int32))])) _
        refine XS.iconst X107.here hx rfl (hb hby at_119) ?_
        show Steps p.tables e below (T107.setTop (mkF m 120 #[.val (.int p0), .val (.int p1), .val (.long p2), .second, .val (.long p3), .second, .val (.long p4), .second, .val (.ref a), .val (.int (1 : Int32)), .val (.int (3 : Int32)), .val (.int (1 : Int32))] [(.int (2 : Int32)), (.int (1 : Int32))])) _
        refine XS.icmpYes X107.here hx rfl (pc0 := 120) (pc' := 129) rfl (hb hby at_120) rfl (tlt (by decide : (1 : Int32) < (2 : Int32))).1 (by decide) (by decide) ?_
        show Steps p.tables e below (T107.setTop (mkF m 129 #[.val (.int p0), .val (.int p1), .val (.long p2), .second, .val (.long p3), .second, .val (.long p4), .second, .val (.ref a), .val (.int (1 : Int32)), .val (.int (3 : Int32)), .val (.int (1 : Int32))] [])) _
        refine XS.iload X107.here hx rfl (hb hby at_129) rfl ?_
        show Steps p.tables e below (T107.setTop (mkF m 131 #[.val (.int p0), .val (.int p1), .val (.long p2), .second, .val (.long p3), .second, .val (.long p4), .second, .val (.ref a), .val (.int (1 : Int32)), .val (.int (3 : Int32)), .val (.int (1 : Int32))] [(.int (1 : Int32))])) _
        refine XS.iconst X107.here hx rfl (hb hby at_131) ?_
        show Steps p.tables e below (T107.setTop (mkF m 132 #[.val (.int p0), .val (.int p1), .val (.long p2), .second, .val (.long p3), .second, .val (.long p4), .second, .val (.ref a), .val (.int (1 : Int32)), .val (.int (3 : Int32)), .val (.int (1 : Int32))] [(.int (3 : Int32)), (.int (1 : Int32))])) _
        refine XS.icmpYes X107.here hx rfl (pc0 := 132) (pc' := 141) rfl (hb hby at_132) rfl (tlt (by decide : (1 : Int32) < (3 : Int32))).1 (by decide) (by decide) ?_
        show Steps p.tables e below (T107.setTop (mkF m 141 #[.val (.int p0), .val (.int p1), .val (.long p2), .second, .val (.long p3), .second, .val (.long p4), .second, .val (.ref a), .val (.int (1 : Int32)), .val (.int (3 : Int32)), .val (.int (1 : Int32))] [])) _
        refine XS.iload X107.here hx rfl (hb hby at_141) rfl ?_
        show Steps p.tables e below (T107.setTop (mkF m 143 #[.val (.int p0), .val (.int p1), .val (.long p2), .second, .val (.long p3), .second, .val (.long p4), .second, .val (.ref a), .val (.int (1 : Int32)), .val (.int (3 : Int32)), .val (.int (1 : Int32))] [(.int (1 : Int32))])) _
        refine XS.ifNo X107.here hx rfl (hb hby at_143) rfl ((if0 _ _).trans (feq (by decide : ¬ ((1 : Int32) = (0 : Int32)))).1) ?_
        show Steps p.tables e below (T107.setTop (mkF m 146 #[.val (.int p0), .val (.int p1), .val (.long p2), .second, .val (.long p3), .second, .val (.long p4), .second, .val (.ref a), .val (.int (1 : Int32)), .val (.int (3 : Int32)), .val (.int (1 : Int32))] [])) _
        refine XS.aload X107.here hx rfl (hb hby at_146) rfl rfl ?_
        exact kt)
      obtain ⟨cq110, kq110, q110a, q110b, q110c⟩ := isOf hZ rfl A1_108
      obtain ⟨_, _, ⟨T110, L110, k110, n110⟩, -, X110, ⟨Lc110, hQ110, l110, y110, z110⟩, st110⟩ := X107.virtualBack hx (y := (⟨"com/example/find_leader/findleader/engine/LongHeap", "isEmpty", "()Z"⟩ : MethodName)) (z := (⟨"com/example/find_leader/findleader/engine/LongHeap", "isEmpty", "()Z"⟩ : MethodName)) hown (mvT hZ (hw _ (List.mem_of_getElem? (i := 12) rfl))) (mvT hZ (hw _ (List.mem_of_getElem? (i := 13) rfl))) (notFace_of_selects (args := #[]) (mvT hZ (hw _ (List.mem_of_getElem? (i := 15) rfl)))) (mvT hZ (hw _ (List.mem_of_getElem? (i := 15) rfl))) (mvT hZ (hw _ (List.mem_of_getElem? (i := 14) rfl))) (by decide) (backOf (W := 0) (rm3 l Z a0 hw [] a (2 : Int32) T107.heap n0 Z107 Fs107) hZ (hw _ (List.mem_of_getElem? (i := 16) rfl)) (hw _ (List.mem_of_getElem? (i := 2) rfl)) (by decide) (by decide)) q110a q110c (g := (mkF m 148 #[.val (.int p0), .val (.int p1), .val (.long p2), .second, .val (.long p3), .second, .val (.long p4), .second, .val (.ref a), .val (.int (1 : Int32)), .val (.int (3 : Int32)), .val (.int (1 : Int32))] [(.ref a)])) rfl (by rw [hml]; rfl) (Steps.refl _) (argsL := []) (rest := []) (lenOf pd_2 rfl) rfl (by show 2 * 0 + _ ≤ _; exact Nat.le_of_eq rfl) (hb hby at_148) (fun _ _ => ⟨rfl, rfl, (Nat.le_of_ble_eq_true rfl), (Nat.le_of_ble_eq_true rfl)⟩)
      dsimp only [Pt.U, Pt.locs, Pt.cells, Pt.slots] at X110 l110 y110 z110 st110 hQ110
      subst l110 y110 z110
      obtain ⟨hv110, N110q, e110⟩ := hQ110
      rw [if_neg (by decide)] at hv110
      subst hv110
      have N110 := Fr.app N107 N110q
      have pre110s : ∀ tg, Steps p.tables e below (T110.setTop (mkF m 151 #[.val (.int p0), .val (.int p1), .val (.long p2), .second, .val (.long p3), .second, .val (.long p4), .second, .val (.ref a), .val (.int (1 : Int32)), .val (.int (3 : Int32)), .val (.int (1 : Int32))] [(.int (0 : Int32))])) tg → G tg := fun tg kt => pre109 tg (st110.trans kt)
      obtain ⟨fs, hr, hrun, hended, hW, hsame⟩ := X110.leave (v := some (.int (1 : Int32))) (fun h => by rw [Bd.returns] at h; cases h)
      subst hG
      refine ⟨_, _, pre110s _ ?_, hrun, hended, _, _, rfl, ?_, ⟨_, rfl⟩, hW, hsame.mono (by decide) (by decide)⟩
      · skip
        show Steps p.tables e below (T110.setTop (mkF m 151 #[.val (.int p0), .val (.int p1), .val (.long p2), .second, .val (.long p3), .second, .val (.long p4), .second, .val (.ref a), .val (.int (1 : Int32)), .val (.int (3 : Int32)), .val (.int (1 : Int32))] [(.int (0 : Int32))])) _
        refine XS.iload X110.here hx rfl (hb hby at_151) rfl ?_
        show Steps p.tables e below (T110.setTop (mkF m 153 #[.val (.int p0), .val (.int p1), .val (.long p2), .second, .val (.long p3), .second, .val (.long p4), .second, .val (.ref a), .val (.int (1 : Int32)), .val (.int (3 : Int32)), .val (.int (1 : Int32))] [(.int (1 : Int32)), (.int (0 : Int32))])) _
        refine XS.iload X110.here hx rfl (hb hby at_153) rfl ?_
        show Steps p.tables e below (T110.setTop (mkF m 155 #[.val (.int p0), .val (.int p1), .val (.long p2), .second, .val (.long p3), .second, .val (.long p4), .second, .val (.ref a), .val (.int (1 : Int32)), .val (.int (3 : Int32)), .val (.int (1 : Int32))] [(.int (3 : Int32)), (.int (1 : Int32)), (.int (0 : Int32))])) _
        refine XS.icmpYes X110.here hx rfl (pc0 := 155) (pc' := 162) rfl (hb hby at_155) rfl (feq (by decide : ¬ ((1 : Int32) = (3 : Int32)))).2 (by decide) (by decide) ?_
        show Steps p.tables e below (T110.setTop (mkF m 162 #[.val (.int p0), .val (.int p1), .val (.long p2), .second, .val (.long p3), .second, .val (.long p4), .second, .val (.ref a), .val (.int (1 : Int32)), .val (.int (3 : Int32)), .val (.int (1 : Int32))] [(.int (0 : Int32))])) _
        refine XS.iconst X110.here hx rfl (hb hby at_162) ?_
        show Steps p.tables e below (T110.setTop (mkF m 163 #[.val (.int p0), .val (.int p1), .val (.long p2), .second, .val (.long p3), .second, .val (.long p4), .second, .val (.ref a), .val (.int (1 : Int32)), .val (.int (3 : Int32)), .val (.int (1 : Int32))] [(.int (0 : Int32)), (.int (0 : Int32))])) _
        refine XS.icmpNo X110.here hx rfl (hb hby at_163) rfl (teq (by decide : (0 : Int32) = (0 : Int32))).2 ?_
        show Steps p.tables e below (T110.setTop (mkF m 166 #[.val (.int p0), .val (.int p1), .val (.long p2), .second, .val (.long p3), .second, .val (.long p4), .second, .val (.ref a), .val (.int (1 : Int32)), .val (.int (3 : Int32)), .val (.int (1 : Int32))] [])) _
        refine XS.iconst X110.here hx rfl (hb hby at_166) ?_
        show Steps p.tables e below (T110.setTop (mkF m 167 #[.val (.int p0), .val (.int p1), .val (.long p2), .second, .val (.long p3), .second, .val (.long p4), .second, .val (.ref a), .val (.int (1 : Int32)), .val (.int (3 : Int32)), .val (.int (1 : Int32))] [(.int (1 : Int32))])) _
        refine XS.goto X110.here hx rfl (pc0 := 167) (pc' := 171) rfl (hb hby at_167) (by decide) (by decide) ?_
        show Steps p.tables e below (T110.setTop (mkF m 171 #[.val (.int p0), .val (.int p1), .val (.long p2), .second, .val (.long p3), .second, .val (.long p4), .second, .val (.ref a), .val (.int (1 : Int32)), .val (.int (3 : Int32)), .val (.int (1 : Int32))] [(.int (1 : Int32))])) _
        refine XS.istore X110.here hx rfl (hb hby at_171) rfl (l' := #[.val (.int p0), .val (.int p1), .val (.long p2), .second, .val (.long p3), .second, .val (.long p4), .second, .val (.ref a), .val (.int (1 : Int32)), .val (.int (3 : Int32)), .val (.int (1 : Int32))]) rfl ?_
        show Steps p.tables e below (T110.setTop (mkF m 173 #[.val (.int p0), .val (.int p1), .val (.long p2), .second, .val (.long p3), .second, .val (.long p4), .second, .val (.ref a), .val (.int (1 : Int32)), .val (.int (3 : Int32)), .val (.int (1 : Int32))] [])) _
        refine XS.iload X110.here hx rfl (hb hby at_173) rfl ?_
        show Steps p.tables e below (T110.setTop (mkF m 175 #[.val (.int p0), .val (.int p1), .val (.long p2), .second, .val (.long p3), .second, .val (.long p4), .second, .val (.ref a), .val (.int (1 : Int32)), .val (.int (3 : Int32)), .val (.int (1 : Int32))] [(.int (1 : Int32))])) _
        exact retN X110 hx (t := .boolean) Bd.returns (by simp) (hb hby at_175) hr
      · show Q_rm0 Z p0 p1 p2 p3 p4 h0 n0 _ T110.heap _
        rw [e110]
        exact ⟨rfl, N110⟩
    · skip
      have pre111 : ∀ tg, Steps p.tables e below (T100.setTop (mkF m 94 #[.val (.int p0), .val (.int p1), .val (.long p2), .second, .val (.long p3), .second, .val (.long p4), .second, .val (.ref a), .val (.int (1 : Int32)), .val (.int (3 : Int32)), .val (.int (2 : Int32))] [])) tg → G tg := fun tg kt => pre101 tg (by rw [hm]; exact kt)
      have pre112 : ∀ tg, Steps p.tables e below (T100.setTop (mkF m 113 #[.val (.int p0), .val (.int p1), .val (.long p2), .second, .val (.long p3), .second, .val (.long p4), .second, .val (.ref a), .val (.int (1 : Int32)), .val (.int (3 : Int32)), .val (.int (2 : Int32))] [(.ref a)])) tg → G tg := fun tg kt => pre111 tg (by
        show Steps p.tables e below (T100.setTop (mkF m 94 #[.val (.int p0), .val (.int p1), .val (.long p2), .second, .val (.long p3), .second, .val (.long p4), .second, .val (.ref a), .val (.int (1 : Int32)), .val (.int (3 : Int32)), .val (.int (2 : Int32))] [])) _
        refine XS.iload X100.here hx rfl (hb hby at_94) rfl ?_
        show Steps p.tables e below (T100.setTop (mkF m 96 #[.val (.int p0), .val (.int p1), .val (.long p2), .second, .val (.long p3), .second, .val (.long p4), .second, .val (.ref a), .val (.int (1 : Int32)), .val (.int (3 : Int32)), .val (.int (2 : Int32))] [(.int (2 : Int32))])) _
        refine XS.iload X100.here hx rfl (hb hby at_96) rfl ?_
        show Steps p.tables e below (T100.setTop (mkF m 98 #[.val (.int p0), .val (.int p1), .val (.long p2), .second, .val (.long p3), .second, .val (.long p4), .second, .val (.ref a), .val (.int (1 : Int32)), .val (.int (3 : Int32)), .val (.int (2 : Int32))] [(.int (3 : Int32)), (.int (2 : Int32))])) _
        refine XS.icmpYes X100.here hx rfl (pc0 := 98) (pc' := 105) rfl (hb hby at_98) rfl (flt (by decide : ¬ ((3 : Int32) < (2 : Int32)))).2.2.2 (by decide) (by decide) ?_
        show Steps p.tables e below (T100.setTop (mkF m 105 #[.val (.int p0), .val (.int p1), .val (.long p2), .second, .val (.long p3), .second, .val (.long p4), .second, .val (.ref a), .val (.int (1 : Int32)), .val (.int (3 : Int32)), .val (.int (2 : Int32))] [])) _
        refine XS.iload X100.here hx rfl (hb hby at_105) rfl ?_
        show Steps p.tables e below (T100.setTop (mkF m 107 #[.val (.int p0), .val (.int p1), .val (.long p2), .second, .val (.long p3), .second, .val (.long p4), .second, .val (.ref a), .val (.int (1 : Int32)), .val (.int (3 : Int32)), .val (.int (2 : Int32))] [(.int (2 : Int32))])) _
        refine XS.iconst X100.here hx rfl (hb hby at_107) ?_
        show Steps p.tables e below (T100.setTop (mkF m 108 #[.val (.int p0), .val (.int p1), .val (.long p2), .second, .val (.long p3), .second, .val (.long p4), .second, .val (.ref a), .val (.int (1 : Int32)), .val (.int (3 : Int32)), .val (.int (2 : Int32))] [(.int (1 : Int32)), (.int (2 : Int32))])) _
        refine XS.icmpNo X100.here hx rfl (hb hby at_108) rfl (flt (by decide : ¬ ((2 : Int32) < (1 : Int32)))).1 ?_
        show Steps p.tables e below (T100.setTop (mkF m 111 #[.val (.int p0), .val (.int p1), .val (.long p2), .second, .val (.long p3), .second, .val (.long p4), .second, .val (.ref a), .val (.int (1 : Int32)), .val (.int (3 : Int32)), .val (.int (2 : Int32))] [])) _
        refine XS.aload X100.here hx rfl (hb hby at_111) rfl rfl ?_
        exact kt)
      obtain ⟨cq113, kq113, q113a, q113b, q113c⟩ := isOf hZ e100 A1_98
      obtain ⟨_, _, ⟨T113, L113, k113, n113⟩, -, X113, ⟨Lc113, hQ113, l113, y113, z113⟩, st113⟩ := X100.virtualBack hx (y := (⟨"com/example/find_leader/findleader/engine/LongHeap", "pollFirst", "()J"⟩ : MethodName)) (z := (⟨"com/example/find_leader/findleader/engine/LongHeap", "pollFirst", "()J"⟩ : MethodName)) hown (mvT hZ (hw _ (List.mem_of_getElem? (i := 24) rfl))) (mvT hZ (hw _ (List.mem_of_getElem? (i := 25) rfl))) (notFace_of_selects (args := #[]) (mvT hZ (hw _ (List.mem_of_getElem? (i := 27) rfl)))) (mvT hZ (hw _ (List.mem_of_getElem? (i := 27) rfl))) (mvT hZ (hw _ (List.mem_of_getElem? (i := 26) rfl))) (by decide) (backOf (W := 0) (rm5_3 l Z a0 hw [] a b kA wa97 wb97 wc97 T97.heap n0 Z97 A1_98 Fv97 Fs97 Vb97 O_a O_b ne_a_b) hZ (hw _ (List.mem_of_getElem? (i := 28) rfl)) (hw _ (List.mem_of_getElem? (i := 2) rfl)) (by decide) (by decide)) q113a q113c (g := (mkF m 113 #[.val (.int p0), .val (.int p1), .val (.long p2), .second, .val (.long p3), .second, .val (.long p4), .second, .val (.ref a), .val (.int (1 : Int32)), .val (.int (3 : Int32)), .val (.int (2 : Int32))] [(.ref a)])) rfl (by rw [hml]; rfl) (Steps.refl _) (argsL := []) (rest := []) (lenOf pd_0 rfl) rfl (by show 2 * 0 + _ ≤ _; exact Nat.le_of_eq rfl) (hb hby at_113) (fun _ _ => ⟨rfl, e100, (Nat.le_of_ble_eq_true rfl), (Nat.le_of_ble_eq_true rfl)⟩)
      dsimp only [Pt.U, Pt.locs, Pt.cells, Pt.slots] at X113 l113 y113 z113 st113 hQ113
      subst l113 y113 z113
      obtain ⟨x113, rfl, N113q, K113, wa113, wb113, wc113, Fv113, Fs113, Vb113⟩ := hQ113
      have N113 := Fr.app N100 N113q
      have pre113s : ∀ tg, Steps p.tables e below (T113.setTop (mkF m 116 #[.val (.int p0), .val (.int p1), .val (.long p2), .second, .val (.long p3), .second, .val (.long p4), .second, .val (.ref a), .val (.int (1 : Int32)), .val (.int (3 : Int32)), .val (.int (2 : Int32))] [(.long x113)])) tg → G tg := fun tg kt => pre112 tg (st113.trans kt)
      have Z113 : n0 ≤ T113.heap.size := Nat.le_trans Z97 K113.1
      have A1_114 := A1_98.keep K113
      have pre115 : ∀ tg, Steps p.tables e below (T113.setTop (mkF m 125 #[.val (.int p0), .val (.int p1), .val (.long p2), .second, .val (.long p3), .second, .val (.long p4), .second, .val (.ref a), .val (.int (1 : Int32)), .val (.int (3 : Int32)), .val (.int (2 : Int32))] [(.ref a)])) tg → G tg := fun tg kt => pre113s tg (by
        show Steps p.tables e below (T113.setTop (mkF m 116 #[.val (.int p0), .val (.int p1), .val (.long p2), .second, .val (.long p3), .second, .val (.long p4), .second, .val (.ref a), .val (.int (1 : Int32)), .val (.int (3 : Int32)), .val (.int (2 : Int32))] [(.long x113)])) _
        jvm_step X113.here [X113.here.top, hx, (hb hby at_116), Value.category]
        show Steps p.tables e below (T113.setTop (mkF m 117 #[.val (.int p0), .val (.int p1), .val (.long p2), .second, .val (.long p3), .second, .val (.long p4), .second, .val (.ref a), .val (.int (1 : Int32)), .val (.int (3 : Int32)), .val (.int (2 : Int32))] [])) _
        refine XS.iload X113.here hx rfl (hb hby at_117) rfl ?_
        show Steps p.tables e below (T113.setTop (mkF m 119 #[.val (.int p0), .val (.int p1), .val (.long p2), .second, .val (.long p3), .second, .val (.long p4), .second, .val (.ref a), .val (.int (1 : Int32)), .val (.int (3 : Int32)), .val (.int (2 : Int32))] [(.int (2 : Int32))])) _
        refine XS.iconst X113.here hx rfl (hb hby at_119) ?_
        show Steps p.tables e below (T113.setTop (mkF m 120 #[.val (.int p0), .val (.int p1), .val (.long p2), .second, .val (.long p3), .second, .val (.long p4), .second, .val (.ref a), .val (.int (1 : Int32)), .val (.int (3 : Int32)), .val (.int (2 : Int32))] [(.int (2 : Int32)), (.int (2 : Int32))])) _
        refine XS.icmpNo X113.here hx rfl (hb hby at_120) rfl (flt (by decide : ¬ ((2 : Int32) < (2 : Int32)))).1 ?_
        show Steps p.tables e below (T113.setTop (mkF m 123 #[.val (.int p0), .val (.int p1), .val (.long p2), .second, .val (.long p3), .second, .val (.long p4), .second, .val (.ref a), .val (.int (1 : Int32)), .val (.int (3 : Int32)), .val (.int (2 : Int32))] [])) _
        refine XS.aload X113.here hx rfl (hb hby at_123) rfl rfl ?_
        exact kt)
      obtain ⟨cq116, kq116, q116a, q116b, q116c⟩ := isOf hZ rfl A1_114
      obtain ⟨_, _, ⟨T116, L116, k116, n116⟩, -, X116, ⟨Lc116, hQ116, l116, y116, z116⟩, st116⟩ := X113.virtualBack hx (y := (⟨"com/example/find_leader/findleader/engine/LongHeap", "pollFirst", "()J"⟩ : MethodName)) (z := (⟨"com/example/find_leader/findleader/engine/LongHeap", "pollFirst", "()J"⟩ : MethodName)) hown (mvT hZ (hw _ (List.mem_of_getElem? (i := 24) rfl))) (mvT hZ (hw _ (List.mem_of_getElem? (i := 25) rfl))) (notFace_of_selects (args := #[]) (mvT hZ (hw _ (List.mem_of_getElem? (i := 27) rfl)))) (mvT hZ (hw _ (List.mem_of_getElem? (i := 27) rfl))) (mvT hZ (hw _ (List.mem_of_getElem? (i := 26) rfl))) (by decide) (backOf (W := 0) (rm5_2 l Z a0 hw [] a b kA wa113 wb113 wc113 T113.heap n0 Z113 A1_114 Fv113 Fs113 Vb113 O_a O_b ne_a_b) hZ (hw _ (List.mem_of_getElem? (i := 28) rfl)) (hw _ (List.mem_of_getElem? (i := 2) rfl)) (by decide) (by decide)) q116a q116c (g := (mkF m 125 #[.val (.int p0), .val (.int p1), .val (.long p2), .second, .val (.long p3), .second, .val (.long p4), .second, .val (.ref a), .val (.int (1 : Int32)), .val (.int (3 : Int32)), .val (.int (2 : Int32))] [(.ref a)])) rfl (by rw [hml]; rfl) (Steps.refl _) (argsL := []) (rest := []) (lenOf pd_0 rfl) rfl (by show 2 * 0 + _ ≤ _; exact Nat.le_of_eq rfl) (hb hby at_125) (fun _ _ => ⟨rfl, rfl, (Nat.le_of_ble_eq_true rfl), (Nat.le_of_ble_eq_true rfl)⟩)
      dsimp only [Pt.U, Pt.locs, Pt.cells, Pt.slots] at X116 l116 y116 z116 st116 hQ116
      subst l116 y116 z116
      obtain ⟨x116, rfl, N116q, K116, wa116, wb116, wc116, Fv116, Fs116, Vb116⟩ := hQ116
      have N116 := Fr.app N113 N116q
      have pre116s : ∀ tg, Steps p.tables e below (T116.setTop (mkF m 128 #[.val (.int p0), .val (.int p1), .val (.long p2), .second, .val (.long p3), .second, .val (.long p4), .second, .val (.ref a), .val (.int (1 : Int32)), .val (.int (3 : Int32)), .val (.int (2 : Int32))] [(.long x116)])) tg → G tg := fun tg kt => pre115 tg (st116.trans kt)
      have Z116 : n0 ≤ T116.heap.size := Nat.le_trans Z113 K116.1
      have A1_117 := A1_114.keep K116
      have pre118 : ∀ tg, Steps p.tables e below (T116.setTop (mkF m 148 #[.val (.int p0), .val (.int p1), .val (.long p2), .second, .val (.long p3), .second, .val (.long p4), .second, .val (.ref a), .val (.int (1 : Int32)), .val (.int (3 : Int32)), .val (.int (2 : Int32))] [(.ref a)])) tg → G tg := fun tg kt => pre116s tg (by
        show Steps p.tables e below (T116.setTop (mkF m 128 #[.val (.int p0), .val (.int p1), .val (.long p2), .second, .val (.long p3), .second, .val (.long p4), .second, .val (.ref a), .val (.int (1 : Int32)), .val (.int (3 : Int32)), .val (.int (2 : Int32))] [(.long x116)])) _
        jvm_step X116.here [X116.here.top, hx, (hb hby at_128), Value.category]
        show Steps p.tables e below (T116.setTop (mkF m 129 #[.val (.int p0), .val (.int p1), .val (.long p2), .second, .val (.long p3), .second, .val (.long p4), .second, .val (.ref a), .val (.int (1 : Int32)), .val (.int (3 : Int32)), .val (.int (2 : Int32))] [])) _
        refine XS.iload X116.here hx rfl (hb hby at_129) rfl ?_
        show Steps p.tables e below (T116.setTop (mkF m 131 #[.val (.int p0), .val (.int p1), .val (.long p2), .second, .val (.long p3), .second, .val (.long p4), .second, .val (.ref a), .val (.int (1 : Int32)), .val (.int (3 : Int32)), .val (.int (2 : Int32))] [(.int (2 : Int32))])) _
        refine XS.iconst X116.here hx rfl (hb hby at_131) ?_
        show Steps p.tables e below (T116.setTop (mkF m 132 #[.val (.int p0), .val (.int p1), .val (.long p2), .second, .val (.long p3), .second, .val (.long p4), .second, .val (.ref a), .val (.int (1 : Int32)), .val (.int (3 : Int32)), .val (.int (2 : Int32))] [(.int (3 : Int32)), (.int (2 : Int32))])) _
        refine XS.icmpYes X116.here hx rfl (pc0 := 132) (pc' := 141) rfl (hb hby at_132) rfl (tlt (by decide : (2 : Int32) < (3 : Int32))).1 (by decide) (by decide) ?_
        show Steps p.tables e below (T116.setTop (mkF m 141 #[.val (.int p0), .val (.int p1), .val (.long p2), .second, .val (.long p3), .second, .val (.long p4), .second, .val (.ref a), .val (.int (1 : Int32)), .val (.int (3 : Int32)), .val (.int (2 : Int32))] [])) _
        refine XS.iload X116.here hx rfl (hb hby at_141) rfl ?_
        show Steps p.tables e below (T116.setTop (mkF m 143 #[.val (.int p0), .val (.int p1), .val (.long p2), .second, .val (.long p3), .second, .val (.long p4), .second, .val (.ref a), .val (.int (1 : Int32)), .val (.int (3 : Int32)), .val (.int (2 : Int32))] [(.int (1 : Int32))])) _
        refine XS.ifNo X116.here hx rfl (hb hby at_143) rfl ((if0 _ _).trans (feq (by decide : ¬ ((1 : Int32) = (0 : Int32)))).1) ?_
        show Steps p.tables e below (T116.setTop (mkF m 146 #[.val (.int p0), .val (.int p1), .val (.long p2), .second, .val (.long p3), .second, .val (.long p4), .second, .val (.ref a), .val (.int (1 : Int32)), .val (.int (3 : Int32)), .val (.int (2 : Int32))] [])) _
        refine XS.aload X116.here hx rfl (hb hby at_146) rfl rfl ?_
        exact kt)
      obtain ⟨cq119, kq119, q119a, q119b, q119c⟩ := isOf hZ rfl A1_117
      obtain ⟨_, _, ⟨T119, L119, k119, n119⟩, -, X119, ⟨Lc119, hQ119, l119, y119, z119⟩, st119⟩ := X116.virtualBack hx (y := (⟨"com/example/find_leader/findleader/engine/LongHeap", "isEmpty", "()Z"⟩ : MethodName)) (z := (⟨"com/example/find_leader/findleader/engine/LongHeap", "isEmpty", "()Z"⟩ : MethodName)) hown (mvT hZ (hw _ (List.mem_of_getElem? (i := 12) rfl))) (mvT hZ (hw _ (List.mem_of_getElem? (i := 13) rfl))) (notFace_of_selects (args := #[]) (mvT hZ (hw _ (List.mem_of_getElem? (i := 15) rfl)))) (mvT hZ (hw _ (List.mem_of_getElem? (i := 15) rfl))) (mvT hZ (hw _ (List.mem_of_getElem? (i := 14) rfl))) (by decide) (backOf (W := 0) (rm3 l Z a0 hw [] a (1 : Int32) T116.heap n0 Z116 Fs116) hZ (hw _ (List.mem_of_getElem? (i := 16) rfl)) (hw _ (List.mem_of_getElem? (i := 2) rfl)) (by decide) (by decide)) q119a q119c (g := (mkF m 148 #[.val (.int p0), .val (.int p1), .val (.long p2), .second, .val (.long p3), .second, .val (.long p4), .second, .val (.ref a), .val (.int (1 : Int32)), .val (.int (3 : Int32)), .val (.int (2 : Int32))] [(.ref a)])) rfl (by rw [hml]; rfl) (Steps.refl _) (argsL := []) (rest := []) (lenOf pd_2 rfl) rfl (by show 2 * 0 + _ ≤ _; exact Nat.le_of_eq rfl) (hb hby at_148) (fun _ _ => ⟨rfl, rfl, (Nat.le_of_ble_eq_true rfl), (Nat.le_of_ble_eq_true rfl)⟩)
      dsimp only [Pt.U, Pt.locs, Pt.cells, Pt.slots] at X119 l119 y119 z119 st119 hQ119
      subst l119 y119 z119
      obtain ⟨hv119, N119q, e119⟩ := hQ119
      rw [if_neg (by decide)] at hv119
      subst hv119
      have N119 := Fr.app N116 N119q
      have pre119s : ∀ tg, Steps p.tables e below (T119.setTop (mkF m 151 #[.val (.int p0), .val (.int p1), .val (.long p2), .second, .val (.long p3), .second, .val (.long p4), .second, .val (.ref a), .val (.int (1 : Int32)), .val (.int (3 : Int32)), .val (.int (2 : Int32))] [(.int (0 : Int32))])) tg → G tg := fun tg kt => pre118 tg (st119.trans kt)
      obtain ⟨fs, hr, hrun, hended, hW, hsame⟩ := X119.leave (v := some (.int (1 : Int32))) (fun h => by rw [Bd.returns] at h; cases h)
      subst hG
      refine ⟨_, _, pre119s _ ?_, hrun, hended, _, _, rfl, ?_, ⟨_, rfl⟩, hW, hsame.mono (by decide) (by decide)⟩
      · skip
        show Steps p.tables e below (T119.setTop (mkF m 151 #[.val (.int p0), .val (.int p1), .val (.long p2), .second, .val (.long p3), .second, .val (.long p4), .second, .val (.ref a), .val (.int (1 : Int32)), .val (.int (3 : Int32)), .val (.int (2 : Int32))] [(.int (0 : Int32))])) _
        refine XS.iload X119.here hx rfl (hb hby at_151) rfl ?_
        show Steps p.tables e below (T119.setTop (mkF m 153 #[.val (.int p0), .val (.int p1), .val (.long p2), .second, .val (.long p3), .second, .val (.long p4), .second, .val (.ref a), .val (.int (1 : Int32)), .val (.int (3 : Int32)), .val (.int (2 : Int32))] [(.int (2 : Int32)), (.int (0 : Int32))])) _
        refine XS.iload X119.here hx rfl (hb hby at_153) rfl ?_
        show Steps p.tables e below (T119.setTop (mkF m 155 #[.val (.int p0), .val (.int p1), .val (.long p2), .second, .val (.long p3), .second, .val (.long p4), .second, .val (.ref a), .val (.int (1 : Int32)), .val (.int (3 : Int32)), .val (.int (2 : Int32))] [(.int (3 : Int32)), (.int (2 : Int32)), (.int (0 : Int32))])) _
        refine XS.icmpYes X119.here hx rfl (pc0 := 155) (pc' := 162) rfl (hb hby at_155) rfl (feq (by decide : ¬ ((2 : Int32) = (3 : Int32)))).2 (by decide) (by decide) ?_
        show Steps p.tables e below (T119.setTop (mkF m 162 #[.val (.int p0), .val (.int p1), .val (.long p2), .second, .val (.long p3), .second, .val (.long p4), .second, .val (.ref a), .val (.int (1 : Int32)), .val (.int (3 : Int32)), .val (.int (2 : Int32))] [(.int (0 : Int32))])) _
        refine XS.iconst X119.here hx rfl (hb hby at_162) ?_
        show Steps p.tables e below (T119.setTop (mkF m 163 #[.val (.int p0), .val (.int p1), .val (.long p2), .second, .val (.long p3), .second, .val (.long p4), .second, .val (.ref a), .val (.int (1 : Int32)), .val (.int (3 : Int32)), .val (.int (2 : Int32))] [(.int (0 : Int32)), (.int (0 : Int32))])) _
        refine XS.icmpNo X119.here hx rfl (hb hby at_163) rfl (teq (by decide : (0 : Int32) = (0 : Int32))).2 ?_
        show Steps p.tables e below (T119.setTop (mkF m 166 #[.val (.int p0), .val (.int p1), .val (.long p2), .second, .val (.long p3), .second, .val (.long p4), .second, .val (.ref a), .val (.int (1 : Int32)), .val (.int (3 : Int32)), .val (.int (2 : Int32))] [])) _
        refine XS.iconst X119.here hx rfl (hb hby at_166) ?_
        show Steps p.tables e below (T119.setTop (mkF m 167 #[.val (.int p0), .val (.int p1), .val (.long p2), .second, .val (.long p3), .second, .val (.long p4), .second, .val (.ref a), .val (.int (1 : Int32)), .val (.int (3 : Int32)), .val (.int (2 : Int32))] [(.int (1 : Int32))])) _
        refine XS.goto X119.here hx rfl (pc0 := 167) (pc' := 171) rfl (hb hby at_167) (by decide) (by decide) ?_
        show Steps p.tables e below (T119.setTop (mkF m 171 #[.val (.int p0), .val (.int p1), .val (.long p2), .second, .val (.long p3), .second, .val (.long p4), .second, .val (.ref a), .val (.int (1 : Int32)), .val (.int (3 : Int32)), .val (.int (2 : Int32))] [(.int (1 : Int32))])) _
        refine XS.istore X119.here hx rfl (hb hby at_171) rfl (l' := #[.val (.int p0), .val (.int p1), .val (.long p2), .second, .val (.long p3), .second, .val (.long p4), .second, .val (.ref a), .val (.int (1 : Int32)), .val (.int (3 : Int32)), .val (.int (2 : Int32))]) rfl ?_
        show Steps p.tables e below (T119.setTop (mkF m 173 #[.val (.int p0), .val (.int p1), .val (.long p2), .second, .val (.long p3), .second, .val (.long p4), .second, .val (.ref a), .val (.int (1 : Int32)), .val (.int (3 : Int32)), .val (.int (2 : Int32))] [])) _
        refine XS.iload X119.here hx rfl (hb hby at_173) rfl ?_
        show Steps p.tables e below (T119.setTop (mkF m 175 #[.val (.int p0), .val (.int p1), .val (.long p2), .second, .val (.long p3), .second, .val (.long p4), .second, .val (.ref a), .val (.int (1 : Int32)), .val (.int (3 : Int32)), .val (.int (2 : Int32))] [(.int (1 : Int32))])) _
        exact retN X119 hx (t := .boolean) Bd.returns (by simp) (hb hby at_175) hr
      · show Q_rm0 Z p0 p1 p2 p3 p4 h0 n0 _ T119.heap _
        rw [e119]
        exact ⟨rfl, N119⟩
    · skip
      have pre120 : ∀ tg, Steps p.tables e below (T100.setTop (mkF m 94 #[.val (.int p0), .val (.int p1), .val (.long p2), .second, .val (.long p3), .second, .val (.long p4), .second, .val (.ref a), .val (.int (1 : Int32)), .val (.int (3 : Int32)), .val (.int (3 : Int32))] [])) tg → G tg := fun tg kt => pre101 tg (by rw [hm]; exact kt)
      have pre121 : ∀ tg, Steps p.tables e below (T100.setTop (mkF m 113 #[.val (.int p0), .val (.int p1), .val (.long p2), .second, .val (.long p3), .second, .val (.long p4), .second, .val (.ref a), .val (.int (1 : Int32)), .val (.int (3 : Int32)), .val (.int (3 : Int32))] [(.ref a)])) tg → G tg := fun tg kt => pre120 tg (by
        show Steps p.tables e below (T100.setTop (mkF m 94 #[.val (.int p0), .val (.int p1), .val (.long p2), .second, .val (.long p3), .second, .val (.long p4), .second, .val (.ref a), .val (.int (1 : Int32)), .val (.int (3 : Int32)), .val (.int (3 : Int32))] [])) _
        refine XS.iload X100.here hx rfl (hb hby at_94) rfl ?_
        show Steps p.tables e below (T100.setTop (mkF m 96 #[.val (.int p0), .val (.int p1), .val (.long p2), .second, .val (.long p3), .second, .val (.long p4), .second, .val (.ref a), .val (.int (1 : Int32)), .val (.int (3 : Int32)), .val (.int (3 : Int32))] [(.int (3 : Int32))])) _
        refine XS.iload X100.here hx rfl (hb hby at_96) rfl ?_
        show Steps p.tables e below (T100.setTop (mkF m 98 #[.val (.int p0), .val (.int p1), .val (.long p2), .second, .val (.long p3), .second, .val (.long p4), .second, .val (.ref a), .val (.int (1 : Int32)), .val (.int (3 : Int32)), .val (.int (3 : Int32))] [(.int (3 : Int32)), (.int (3 : Int32))])) _
        refine XS.icmpYes X100.here hx rfl (pc0 := 98) (pc' := 105) rfl (hb hby at_98) rfl (flt (by decide : ¬ ((3 : Int32) < (3 : Int32)))).2.2.2 (by decide) (by decide) ?_
        show Steps p.tables e below (T100.setTop (mkF m 105 #[.val (.int p0), .val (.int p1), .val (.long p2), .second, .val (.long p3), .second, .val (.long p4), .second, .val (.ref a), .val (.int (1 : Int32)), .val (.int (3 : Int32)), .val (.int (3 : Int32))] [])) _
        refine XS.iload X100.here hx rfl (hb hby at_105) rfl ?_
        show Steps p.tables e below (T100.setTop (mkF m 107 #[.val (.int p0), .val (.int p1), .val (.long p2), .second, .val (.long p3), .second, .val (.long p4), .second, .val (.ref a), .val (.int (1 : Int32)), .val (.int (3 : Int32)), .val (.int (3 : Int32))] [(.int (3 : Int32))])) _
        refine XS.iconst X100.here hx rfl (hb hby at_107) ?_
        show Steps p.tables e below (T100.setTop (mkF m 108 #[.val (.int p0), .val (.int p1), .val (.long p2), .second, .val (.long p3), .second, .val (.long p4), .second, .val (.ref a), .val (.int (1 : Int32)), .val (.int (3 : Int32)), .val (.int (3 : Int32))] [(.int (1 : Int32)), (.int (3 : Int32))])) _
        refine XS.icmpNo X100.here hx rfl (hb hby at_108) rfl (flt (by decide : ¬ ((3 : Int32) < (1 : Int32)))).1 ?_
        show Steps p.tables e below (T100.setTop (mkF m 111 #[.val (.int p0), .val (.int p1), .val (.long p2), .second, .val (.long p3), .second, .val (.long p4), .second, .val (.ref a), .val (.int (1 : Int32)), .val (.int (3 : Int32)), .val (.int (3 : Int32))] [])) _
        refine XS.aload X100.here hx rfl (hb hby at_111) rfl rfl ?_
        exact kt)
      obtain ⟨cq122, kq122, q122a, q122b, q122c⟩ := isOf hZ e100 A1_98
      obtain ⟨_, _, ⟨T122, L122, k122, n122⟩, -, X122, ⟨Lc122, hQ122, l122, y122, z122⟩, st122⟩ := X100.virtualBack hx (y := (⟨"com/example/find_leader/findleader/engine/LongHeap", "pollFirst", "()J"⟩ : MethodName)) (z := (⟨"com/example/find_leader/findleader/engine/LongHeap", "pollFirst", "()J"⟩ : MethodName)) hown (mvT hZ (hw _ (List.mem_of_getElem? (i := 24) rfl))) (mvT hZ (hw _ (List.mem_of_getElem? (i := 25) rfl))) (notFace_of_selects (args := #[]) (mvT hZ (hw _ (List.mem_of_getElem? (i := 27) rfl)))) (mvT hZ (hw _ (List.mem_of_getElem? (i := 27) rfl))) (mvT hZ (hw _ (List.mem_of_getElem? (i := 26) rfl))) (by decide) (backOf (W := 0) (rm5_3 l Z a0 hw [] a b kA wa97 wb97 wc97 T97.heap n0 Z97 A1_98 Fv97 Fs97 Vb97 O_a O_b ne_a_b) hZ (hw _ (List.mem_of_getElem? (i := 28) rfl)) (hw _ (List.mem_of_getElem? (i := 2) rfl)) (by decide) (by decide)) q122a q122c (g := (mkF m 113 #[.val (.int p0), .val (.int p1), .val (.long p2), .second, .val (.long p3), .second, .val (.long p4), .second, .val (.ref a), .val (.int (1 : Int32)), .val (.int (3 : Int32)), .val (.int (3 : Int32))] [(.ref a)])) rfl (by rw [hml]; rfl) (Steps.refl _) (argsL := []) (rest := []) (lenOf pd_0 rfl) rfl (by show 2 * 0 + _ ≤ _; exact Nat.le_of_eq rfl) (hb hby at_113) (fun _ _ => ⟨rfl, e100, (Nat.le_of_ble_eq_true rfl), (Nat.le_of_ble_eq_true rfl)⟩)
      dsimp only [Pt.U, Pt.locs, Pt.cells, Pt.slots] at X122 l122 y122 z122 st122 hQ122
      subst l122 y122 z122
      obtain ⟨x122, rfl, N122q, K122, wa122, wb122, wc122, Fv122, Fs122, Vb122⟩ := hQ122
      have N122 := Fr.app N100 N122q
      have pre122s : ∀ tg, Steps p.tables e below (T122.setTop (mkF m 116 #[.val (.int p0), .val (.int p1), .val (.long p2), .second, .val (.long p3), .second, .val (.long p4), .second, .val (.ref a), .val (.int (1 : Int32)), .val (.int (3 : Int32)), .val (.int (3 : Int32))] [(.long x122)])) tg → G tg := fun tg kt => pre121 tg (st122.trans kt)
      have Z122 : n0 ≤ T122.heap.size := Nat.le_trans Z97 K122.1
      have A1_123 := A1_98.keep K122
      have pre124 : ∀ tg, Steps p.tables e below (T122.setTop (mkF m 125 #[.val (.int p0), .val (.int p1), .val (.long p2), .second, .val (.long p3), .second, .val (.long p4), .second, .val (.ref a), .val (.int (1 : Int32)), .val (.int (3 : Int32)), .val (.int (3 : Int32))] [(.ref a)])) tg → G tg := fun tg kt => pre122s tg (by
        show Steps p.tables e below (T122.setTop (mkF m 116 #[.val (.int p0), .val (.int p1), .val (.long p2), .second, .val (.long p3), .second, .val (.long p4), .second, .val (.ref a), .val (.int (1 : Int32)), .val (.int (3 : Int32)), .val (.int (3 : Int32))] [(.long x122)])) _
        jvm_step X122.here [X122.here.top, hx, (hb hby at_116), Value.category]
        show Steps p.tables e below (T122.setTop (mkF m 117 #[.val (.int p0), .val (.int p1), .val (.long p2), .second, .val (.long p3), .second, .val (.long p4), .second, .val (.ref a), .val (.int (1 : Int32)), .val (.int (3 : Int32)), .val (.int (3 : Int32))] [])) _
        refine XS.iload X122.here hx rfl (hb hby at_117) rfl ?_
        show Steps p.tables e below (T122.setTop (mkF m 119 #[.val (.int p0), .val (.int p1), .val (.long p2), .second, .val (.long p3), .second, .val (.long p4), .second, .val (.ref a), .val (.int (1 : Int32)), .val (.int (3 : Int32)), .val (.int (3 : Int32))] [(.int (3 : Int32))])) _
        refine XS.iconst X122.here hx rfl (hb hby at_119) ?_
        show Steps p.tables e below (T122.setTop (mkF m 120 #[.val (.int p0), .val (.int p1), .val (.long p2), .second, .val (.long p3), .second, .val (.long p4), .second, .val (.ref a), .val (.int (1 : Int32)), .val (.int (3 : Int32)), .val (.int (3 : Int32))] [(.int (2 : Int32)), (.int (3 : Int32))])) _
        refine XS.icmpNo X122.here hx rfl (hb hby at_120) rfl (flt (by decide : ¬ ((3 : Int32) < (2 : Int32)))).1 ?_
        show Steps p.tables e below (T122.setTop (mkF m 123 #[.val (.int p0), .val (.int p1), .val (.long p2), .second, .val (.long p3), .second, .val (.long p4), .second, .val (.ref a), .val (.int (1 : Int32)), .val (.int (3 : Int32)), .val (.int (3 : Int32))] [])) _
        refine XS.aload X122.here hx rfl (hb hby at_123) rfl rfl ?_
        exact kt)
      obtain ⟨cq125, kq125, q125a, q125b, q125c⟩ := isOf hZ rfl A1_123
      obtain ⟨_, _, ⟨T125, L125, k125, n125⟩, -, X125, ⟨Lc125, hQ125, l125, y125, z125⟩, st125⟩ := X122.virtualBack hx (y := (⟨"com/example/find_leader/findleader/engine/LongHeap", "pollFirst", "()J"⟩ : MethodName)) (z := (⟨"com/example/find_leader/findleader/engine/LongHeap", "pollFirst", "()J"⟩ : MethodName)) hown (mvT hZ (hw _ (List.mem_of_getElem? (i := 24) rfl))) (mvT hZ (hw _ (List.mem_of_getElem? (i := 25) rfl))) (notFace_of_selects (args := #[]) (mvT hZ (hw _ (List.mem_of_getElem? (i := 27) rfl)))) (mvT hZ (hw _ (List.mem_of_getElem? (i := 27) rfl))) (mvT hZ (hw _ (List.mem_of_getElem? (i := 26) rfl))) (by decide) (backOf (W := 0) (rm5_2 l Z a0 hw [] a b kA wa122 wb122 wc122 T122.heap n0 Z122 A1_123 Fv122 Fs122 Vb122 O_a O_b ne_a_b) hZ (hw _ (List.mem_of_getElem? (i := 28) rfl)) (hw _ (List.mem_of_getElem? (i := 2) rfl)) (by decide) (by decide)) q125a q125c (g := (mkF m 125 #[.val (.int p0), .val (.int p1), .val (.long p2), .second, .val (.long p3), .second, .val (.long p4), .second, .val (.ref a), .val (.int (1 : Int32)), .val (.int (3 : Int32)), .val (.int (3 : Int32))] [(.ref a)])) rfl (by rw [hml]; rfl) (Steps.refl _) (argsL := []) (rest := []) (lenOf pd_0 rfl) rfl (by show 2 * 0 + _ ≤ _; exact Nat.le_of_eq rfl) (hb hby at_125) (fun _ _ => ⟨rfl, rfl, (Nat.le_of_ble_eq_true rfl), (Nat.le_of_ble_eq_true rfl)⟩)
      dsimp only [Pt.U, Pt.locs, Pt.cells, Pt.slots] at X125 l125 y125 z125 st125 hQ125
      subst l125 y125 z125
      obtain ⟨x125, rfl, N125q, K125, wa125, wb125, wc125, Fv125, Fs125, Vb125⟩ := hQ125
      have N125 := Fr.app N122 N125q
      have pre125s : ∀ tg, Steps p.tables e below (T125.setTop (mkF m 128 #[.val (.int p0), .val (.int p1), .val (.long p2), .second, .val (.long p3), .second, .val (.long p4), .second, .val (.ref a), .val (.int (1 : Int32)), .val (.int (3 : Int32)), .val (.int (3 : Int32))] [(.long x125)])) tg → G tg := fun tg kt => pre124 tg (st125.trans kt)
      have Z125 : n0 ≤ T125.heap.size := Nat.le_trans Z122 K125.1
      have A1_126 := A1_123.keep K125
      have pre127 : ∀ tg, Steps p.tables e below (T125.setTop (mkF m 137 #[.val (.int p0), .val (.int p1), .val (.long p2), .second, .val (.long p3), .second, .val (.long p4), .second, .val (.ref a), .val (.int (1 : Int32)), .val (.int (3 : Int32)), .val (.int (3 : Int32))] [(.ref a)])) tg → G tg := fun tg kt => pre125s tg (by
        show Steps p.tables e below (T125.setTop (mkF m 128 #[.val (.int p0), .val (.int p1), .val (.long p2), .second, .val (.long p3), .second, .val (.long p4), .second, .val (.ref a), .val (.int (1 : Int32)), .val (.int (3 : Int32)), .val (.int (3 : Int32))] [(.long x125)])) _
        jvm_step X125.here [X125.here.top, hx, (hb hby at_128), Value.category]
        show Steps p.tables e below (T125.setTop (mkF m 129 #[.val (.int p0), .val (.int p1), .val (.long p2), .second, .val (.long p3), .second, .val (.long p4), .second, .val (.ref a), .val (.int (1 : Int32)), .val (.int (3 : Int32)), .val (.int (3 : Int32))] [])) _
        refine XS.iload X125.here hx rfl (hb hby at_129) rfl ?_
        show Steps p.tables e below (T125.setTop (mkF m 131 #[.val (.int p0), .val (.int p1), .val (.long p2), .second, .val (.long p3), .second, .val (.long p4), .second, .val (.ref a), .val (.int (1 : Int32)), .val (.int (3 : Int32)), .val (.int (3 : Int32))] [(.int (3 : Int32))])) _
        refine XS.iconst X125.here hx rfl (hb hby at_131) ?_
        show Steps p.tables e below (T125.setTop (mkF m 132 #[.val (.int p0), .val (.int p1), .val (.long p2), .second, .val (.long p3), .second, .val (.long p4), .second, .val (.ref a), .val (.int (1 : Int32)), .val (.int (3 : Int32)), .val (.int (3 : Int32))] [(.int (3 : Int32)), (.int (3 : Int32))])) _
        refine XS.icmpNo X125.here hx rfl (hb hby at_132) rfl (flt (by decide : ¬ ((3 : Int32) < (3 : Int32)))).1 ?_
        show Steps p.tables e below (T125.setTop (mkF m 135 #[.val (.int p0), .val (.int p1), .val (.long p2), .second, .val (.long p3), .second, .val (.long p4), .second, .val (.ref a), .val (.int (1 : Int32)), .val (.int (3 : Int32)), .val (.int (3 : Int32))] [])) _
        refine XS.aload X125.here hx rfl (hb hby at_135) rfl rfl ?_
        exact kt)
      obtain ⟨cq128, kq128, q128a, q128b, q128c⟩ := isOf hZ rfl A1_126
      obtain ⟨_, _, ⟨T128, L128, k128, n128⟩, -, X128, ⟨Lc128, hQ128, l128, y128, z128⟩, st128⟩ := X125.virtualBack hx (y := (⟨"com/example/find_leader/findleader/engine/LongHeap", "pollFirst", "()J"⟩ : MethodName)) (z := (⟨"com/example/find_leader/findleader/engine/LongHeap", "pollFirst", "()J"⟩ : MethodName)) hown (mvT hZ (hw _ (List.mem_of_getElem? (i := 24) rfl))) (mvT hZ (hw _ (List.mem_of_getElem? (i := 25) rfl))) (notFace_of_selects (args := #[]) (mvT hZ (hw _ (List.mem_of_getElem? (i := 27) rfl)))) (mvT hZ (hw _ (List.mem_of_getElem? (i := 27) rfl))) (mvT hZ (hw _ (List.mem_of_getElem? (i := 26) rfl))) (by decide) (backOf (W := 0) (rm5_1 l Z a0 hw [] a b kA wa125 wb125 wc125 T125.heap n0 Z125 A1_126 Fv125 Fs125 Vb125 O_a O_b ne_a_b) hZ (hw _ (List.mem_of_getElem? (i := 28) rfl)) (hw _ (List.mem_of_getElem? (i := 2) rfl)) (by decide) (by decide)) q128a q128c (g := (mkF m 137 #[.val (.int p0), .val (.int p1), .val (.long p2), .second, .val (.long p3), .second, .val (.long p4), .second, .val (.ref a), .val (.int (1 : Int32)), .val (.int (3 : Int32)), .val (.int (3 : Int32))] [(.ref a)])) rfl (by rw [hml]; rfl) (Steps.refl _) (argsL := []) (rest := []) (lenOf pd_0 rfl) rfl (by show 2 * 0 + _ ≤ _; exact Nat.le_of_eq rfl) (hb hby at_137) (fun _ _ => ⟨rfl, rfl, (Nat.le_of_ble_eq_true rfl), (Nat.le_of_ble_eq_true rfl)⟩)
      dsimp only [Pt.U, Pt.locs, Pt.cells, Pt.slots] at X128 l128 y128 z128 st128 hQ128
      subst l128 y128 z128
      obtain ⟨x128, rfl, N128q, K128, wa128, wb128, wc128, Fv128, Fs128, Vb128⟩ := hQ128
      have N128 := Fr.app N125 N128q
      have pre128s : ∀ tg, Steps p.tables e below (T128.setTop (mkF m 140 #[.val (.int p0), .val (.int p1), .val (.long p2), .second, .val (.long p3), .second, .val (.long p4), .second, .val (.ref a), .val (.int (1 : Int32)), .val (.int (3 : Int32)), .val (.int (3 : Int32))] [(.long x128)])) tg → G tg := fun tg kt => pre127 tg (st128.trans kt)
      have Z128 : n0 ≤ T128.heap.size := Nat.le_trans Z125 K128.1
      have A1_129 := A1_126.keep K128
      have pre130 : ∀ tg, Steps p.tables e below (T128.setTop (mkF m 148 #[.val (.int p0), .val (.int p1), .val (.long p2), .second, .val (.long p3), .second, .val (.long p4), .second, .val (.ref a), .val (.int (1 : Int32)), .val (.int (3 : Int32)), .val (.int (3 : Int32))] [(.ref a)])) tg → G tg := fun tg kt => pre128s tg (by
        show Steps p.tables e below (T128.setTop (mkF m 140 #[.val (.int p0), .val (.int p1), .val (.long p2), .second, .val (.long p3), .second, .val (.long p4), .second, .val (.ref a), .val (.int (1 : Int32)), .val (.int (3 : Int32)), .val (.int (3 : Int32))] [(.long x128)])) _
        jvm_step X128.here [X128.here.top, hx, (hb hby at_140), Value.category]
        show Steps p.tables e below (T128.setTop (mkF m 141 #[.val (.int p0), .val (.int p1), .val (.long p2), .second, .val (.long p3), .second, .val (.long p4), .second, .val (.ref a), .val (.int (1 : Int32)), .val (.int (3 : Int32)), .val (.int (3 : Int32))] [])) _
        refine XS.iload X128.here hx rfl (hb hby at_141) rfl ?_
        show Steps p.tables e below (T128.setTop (mkF m 143 #[.val (.int p0), .val (.int p1), .val (.long p2), .second, .val (.long p3), .second, .val (.long p4), .second, .val (.ref a), .val (.int (1 : Int32)), .val (.int (3 : Int32)), .val (.int (3 : Int32))] [(.int (1 : Int32))])) _
        refine XS.ifNo X128.here hx rfl (hb hby at_143) rfl ((if0 _ _).trans (feq (by decide : ¬ ((1 : Int32) = (0 : Int32)))).1) ?_
        show Steps p.tables e below (T128.setTop (mkF m 146 #[.val (.int p0), .val (.int p1), .val (.long p2), .second, .val (.long p3), .second, .val (.long p4), .second, .val (.ref a), .val (.int (1 : Int32)), .val (.int (3 : Int32)), .val (.int (3 : Int32))] [])) _
        refine XS.aload X128.here hx rfl (hb hby at_146) rfl rfl ?_
        exact kt)
      obtain ⟨cq131, kq131, q131a, q131b, q131c⟩ := isOf hZ rfl A1_129
      obtain ⟨_, _, ⟨T131, L131, k131, n131⟩, -, X131, ⟨Lc131, hQ131, l131, y131, z131⟩, st131⟩ := X128.virtualBack hx (y := (⟨"com/example/find_leader/findleader/engine/LongHeap", "isEmpty", "()Z"⟩ : MethodName)) (z := (⟨"com/example/find_leader/findleader/engine/LongHeap", "isEmpty", "()Z"⟩ : MethodName)) hown (mvT hZ (hw _ (List.mem_of_getElem? (i := 12) rfl))) (mvT hZ (hw _ (List.mem_of_getElem? (i := 13) rfl))) (notFace_of_selects (args := #[]) (mvT hZ (hw _ (List.mem_of_getElem? (i := 15) rfl)))) (mvT hZ (hw _ (List.mem_of_getElem? (i := 15) rfl))) (mvT hZ (hw _ (List.mem_of_getElem? (i := 14) rfl))) (by decide) (backOf (W := 0) (rm3 l Z a0 hw [] a (0 : Int32) T128.heap n0 Z128 Fs128) hZ (hw _ (List.mem_of_getElem? (i := 16) rfl)) (hw _ (List.mem_of_getElem? (i := 2) rfl)) (by decide) (by decide)) q131a q131c (g := (mkF m 148 #[.val (.int p0), .val (.int p1), .val (.long p2), .second, .val (.long p3), .second, .val (.long p4), .second, .val (.ref a), .val (.int (1 : Int32)), .val (.int (3 : Int32)), .val (.int (3 : Int32))] [(.ref a)])) rfl (by rw [hml]; rfl) (Steps.refl _) (argsL := []) (rest := []) (lenOf pd_2 rfl) rfl (by show 2 * 0 + _ ≤ _; exact Nat.le_of_eq rfl) (hb hby at_148) (fun _ _ => ⟨rfl, rfl, (Nat.le_of_ble_eq_true rfl), (Nat.le_of_ble_eq_true rfl)⟩)
      dsimp only [Pt.U, Pt.locs, Pt.cells, Pt.slots] at X131 l131 y131 z131 st131 hQ131
      subst l131 y131 z131
      obtain ⟨hv131, N131q, e131⟩ := hQ131
      rw [if_pos rfl] at hv131
      subst hv131
      have N131 := Fr.app N128 N131q
      have pre131s : ∀ tg, Steps p.tables e below (T131.setTop (mkF m 151 #[.val (.int p0), .val (.int p1), .val (.long p2), .second, .val (.long p3), .second, .val (.long p4), .second, .val (.ref a), .val (.int (1 : Int32)), .val (.int (3 : Int32)), .val (.int (3 : Int32))] [(.int (1 : Int32))])) tg → G tg := fun tg kt => pre130 tg (st131.trans kt)
      obtain ⟨fs, hr, hrun, hended, hW, hsame⟩ := X131.leave (v := some (.int (1 : Int32))) (fun h => by rw [Bd.returns] at h; cases h)
      subst hG
      refine ⟨_, _, pre131s _ ?_, hrun, hended, _, _, rfl, ?_, ⟨_, rfl⟩, hW, hsame.mono (by decide) (by decide)⟩
      · skip
        show Steps p.tables e below (T131.setTop (mkF m 151 #[.val (.int p0), .val (.int p1), .val (.long p2), .second, .val (.long p3), .second, .val (.long p4), .second, .val (.ref a), .val (.int (1 : Int32)), .val (.int (3 : Int32)), .val (.int (3 : Int32))] [(.int (1 : Int32))])) _
        refine XS.iload X131.here hx rfl (hb hby at_151) rfl ?_
        show Steps p.tables e below (T131.setTop (mkF m 153 #[.val (.int p0), .val (.int p1), .val (.long p2), .second, .val (.long p3), .second, .val (.long p4), .second, .val (.ref a), .val (.int (1 : Int32)), .val (.int (3 : Int32)), .val (.int (3 : Int32))] [(.int (3 : Int32)), (.int (1 : Int32))])) _
        refine XS.iload X131.here hx rfl (hb hby at_153) rfl ?_
        show Steps p.tables e below (T131.setTop (mkF m 155 #[.val (.int p0), .val (.int p1), .val (.long p2), .second, .val (.long p3), .second, .val (.long p4), .second, .val (.ref a), .val (.int (1 : Int32)), .val (.int (3 : Int32)), .val (.int (3 : Int32))] [(.int (3 : Int32)), (.int (3 : Int32)), (.int (1 : Int32))])) _
        refine XS.icmpNo X131.here hx rfl (hb hby at_155) rfl (teq (by decide : (3 : Int32) = (3 : Int32))).2 ?_
        show Steps p.tables e below (T131.setTop (mkF m 158 #[.val (.int p0), .val (.int p1), .val (.long p2), .second, .val (.long p3), .second, .val (.long p4), .second, .val (.ref a), .val (.int (1 : Int32)), .val (.int (3 : Int32)), .val (.int (3 : Int32))] [(.int (1 : Int32))])) _
        refine XS.iconst X131.here hx rfl (hb hby at_158) ?_
        show Steps p.tables e below (T131.setTop (mkF m 159 #[.val (.int p0), .val (.int p1), .val (.long p2), .second, .val (.long p3), .second, .val (.long p4), .second, .val (.ref a), .val (.int (1 : Int32)), .val (.int (3 : Int32)), .val (.int (3 : Int32))] [(.int (1 : Int32)), (.int (1 : Int32))])) _
        refine XS.goto X131.here hx rfl (pc0 := 159) (pc' := 163) rfl (hb hby at_159) (by decide) (by decide) ?_
        show Steps p.tables e below (T131.setTop (mkF m 163 #[.val (.int p0), .val (.int p1), .val (.long p2), .second, .val (.long p3), .second, .val (.long p4), .second, .val (.ref a), .val (.int (1 : Int32)), .val (.int (3 : Int32)), .val (.int (3 : Int32))] [(.int (1 : Int32)), (.int (1 : Int32))])) _
        refine XS.icmpNo X131.here hx rfl (hb hby at_163) rfl (teq (by decide : (1 : Int32) = (1 : Int32))).2 ?_
        show Steps p.tables e below (T131.setTop (mkF m 166 #[.val (.int p0), .val (.int p1), .val (.long p2), .second, .val (.long p3), .second, .val (.long p4), .second, .val (.ref a), .val (.int (1 : Int32)), .val (.int (3 : Int32)), .val (.int (3 : Int32))] [])) _
        refine XS.iconst X131.here hx rfl (hb hby at_166) ?_
        show Steps p.tables e below (T131.setTop (mkF m 167 #[.val (.int p0), .val (.int p1), .val (.long p2), .second, .val (.long p3), .second, .val (.long p4), .second, .val (.ref a), .val (.int (1 : Int32)), .val (.int (3 : Int32)), .val (.int (3 : Int32))] [(.int (1 : Int32))])) _
        refine XS.goto X131.here hx rfl (pc0 := 167) (pc' := 171) rfl (hb hby at_167) (by decide) (by decide) ?_
        show Steps p.tables e below (T131.setTop (mkF m 171 #[.val (.int p0), .val (.int p1), .val (.long p2), .second, .val (.long p3), .second, .val (.long p4), .second, .val (.ref a), .val (.int (1 : Int32)), .val (.int (3 : Int32)), .val (.int (3 : Int32))] [(.int (1 : Int32))])) _
        refine XS.istore X131.here hx rfl (hb hby at_171) rfl (l' := #[.val (.int p0), .val (.int p1), .val (.long p2), .second, .val (.long p3), .second, .val (.long p4), .second, .val (.ref a), .val (.int (1 : Int32)), .val (.int (3 : Int32)), .val (.int (3 : Int32))]) rfl ?_
        show Steps p.tables e below (T131.setTop (mkF m 173 #[.val (.int p0), .val (.int p1), .val (.long p2), .second, .val (.long p3), .second, .val (.long p4), .second, .val (.ref a), .val (.int (1 : Int32)), .val (.int (3 : Int32)), .val (.int (3 : Int32))] [])) _
        refine XS.iload X131.here hx rfl (hb hby at_173) rfl ?_
        show Steps p.tables e below (T131.setTop (mkF m 175 #[.val (.int p0), .val (.int p1), .val (.long p2), .second, .val (.long p3), .second, .val (.long p4), .second, .val (.ref a), .val (.int (1 : Int32)), .val (.int (3 : Int32)), .val (.int (3 : Int32))] [(.int (1 : Int32))])) _
        exact retN X131 hx (t := .boolean) Bd.returns (by simp) (hb hby at_175) hr
      · show Q_rm0 Z p0 p1 p2 p3 p4 h0 n0 _ T131.heap _
        rw [e131]
        exact ⟨rfl, N131⟩
set_option maxRecDepth 65536 in
set_option maxHeartbeats 40000000 in
theorem comes_1 {Post : Tables → Env → Array Value → State → Outcome → State → Prop} (hpost : ∀ tb e args s v u, (limb_1_1.after args s (.returned v) u = true ∧ limb_1_2.after args s (.returned v) u = true ∧ True) → FrameEnd s (.returned v) u (Jvm.fieldLocs frame_1_writes args s ++ Jvm.arrayLocs frame_1_arrays args s ++ Jvm.staticLocs frame_1_statics s) 16 128 → Post tb e args s (.returned v) u) :
    ArmFor flags0 classFile x code maxLocals ret World_1 tables_1 room_1 Calls_1 rest_1 Pre_1 Post := by
  intro l hfl _ _ p e ha hc hk s m args below hf hA hF happ hP
  obtain ⟨hcalls, hrest, hpre⟩ := hP
  obtain ⟨-, -, -, hnamed, -, -, -, hat⟩ := (Spec.applies_iff hf).mp happ
  obtain ⟨hg, hn⟩ := and_e (Cond.before_iff.mp (show (Jvm.Cond.and given_1 narrow_1).before args s = true from hpre))
  obtain ⟨ga0, gb0⟩ := and_e hg
  obtain ⟨ga1, gb1⟩ := and_e gb0
  obtain ⟨ga2, gb2⟩ := and_e gb1
  obtain ⟨ga3, gb3⟩ := and_e gb2
  obtain ⟨ga4, gb4⟩ := and_e gb3
  obtain ⟨w0, w1, w2, w3, w4, rfl⟩ : ∃ w0 w1 w2 w3 w4 : Value, args = #[w0, w1, w2, w3, w4] := by
    have hs : args.size = 5 := by simpa [Cond.value, given_1] using ga0
    obtain ⟨L⟩ := args
    match L, hs with
    | [w0, w1, w2, w3, w4], _ => exact ⟨w0, w1, w2, w3, w4, rfl⟩
  have hw := fun d (hd : d ∈ tables_1) => atoms_spec (ws := Jvm.Cond.code x code maxLocals ret :: tables_1) hat d (List.mem_cons_of_mem _ hd)
  have hfit : Fit s := fun {y c} hc i hi => by
    obtain ⟨ha, rfl⟩ := Array.getElem?_eq_some_iff.mp hc
    have q := List.all_eq_true.mp ((Array.all_eq_true_iff_forall_mem.mp hF) _ (Array.getElem_mem ha)) i (List.mem_range.mpr hi)
    simpa [Array.getElem?_eq_getElem hi] using q
  obtain ⟨i0, ei0⟩ := is_v ga1
  obtain rfl : w0 = (.int i0) := Option.some.inj ei0
  obtain ⟨i1, ei1⟩ := is_v ga2
  obtain rfl : w1 = (.int i1) := Option.some.inj ei1
  obtain ⟨i2, ei2⟩ := isL_v ga3
  obtain rfl : w2 = (.long i2) := Option.some.inj ei2
  obtain ⟨i3, ei3⟩ := isL_v ga4
  obtain rfl : w3 = (.long i3) := Option.some.inj ei3
  obtain ⟨i4, ei4⟩ := isL_v gb4
  obtain rfl : w4 = (.long i4) := Option.some.inj ei4
  obtain ⟨n, o, h1, h2, h3, _, L, rfl, ⟨rfl, N⟩, hq⟩ := rm0 l s _ hw tables_1 i0 i1 i2 i3 i4 s.heap s.heap.size (Nat.le_refl _) p e ha hc hk s m _ below hf ((Spec.applies_iff_loose hf).mp happ).1 ⟨rfl, State.Warmed39.refl s, rfl⟩ trivial
  refine ⟨n, _, h1, h2, h3, hpost _ _ _ _ _ _ ⟨Cond.after_iff.mpr rfl, Cond.after_iff.mpr (eq_i res_at (Term.int_eval (1)) rfl), trivial⟩ ⟨hq.1, hq.2.1, (hq.2.2.sift fun y hy => Or.inr (N y hy)).mono (by decide) (by decide)⟩⟩
theorem main_1_1 : Claimed_1_1 := comes_1 fun _ _ _ _ _ _ h hF => ⟨h.1, hF⟩
theorem main_1_2 : Claimed_1_2 := comes_1 fun _ _ _ _ _ _ h hF => ⟨h.2.1, hF⟩
end Jvm.Pilot.@@N@@
namespace Jvm.Pilot.@@N@@
open Jvm Jvm.ClassFile Sem Op Lib Jvm.Free Jvm.Stand Jvm.Pilot.@@N@@.Jvm.D
/-! MADE BY PROGRAM (witnessworld.py) out of the Statement's table words and the real class files: 11 classes; the members and pool entries that the words name. The judged class is class 1, her method 1. -/
namespace start1
open Jvm.ClassFile
def u (s : String) : CpInfo := .utf8 (stringToUtf16 s)
/-- a pool by its gaps: so many unusable entries, then the entry; so many at the end -/
def gap : Nat → List CpInfo → List CpInfo
  | 0, r => r
  | n + 1, r => .unusable :: gap n r
def poolList (es : List (Nat × CpInfo)) (last : Nat) : List CpInfo := es.foldr (fun e r => gap e.1 (e.2 :: r)) (gap last [])
def pool (es : List (Nat × CpInfo)) (last : Nat) : Array CpInfo := ⟨poolList es last⟩
def fileOf (pool : Array CpInfo) (this : Nat) (attrs : Array Attribute := #[]) (ms : Array MethodInfo := #[]) (fl : Nat := 33) (sup : Nat := 0) (ifs : Array Nat := #[]) (fds : Array FieldInfo := #[]) : ClassFile where
  minorVersion := 0
  majorVersion := 65
  constantPool := pool
  accessFlags := fl
  thisClass := this
  superClass := sup
  interfaces := ifs
  fields := fds
  methods := ms
  attributes := attrs
def plain (name : String) (sup : Option ClassId) : Class where
  name := name
  kind := .ordinary
  loader := none
  accessFlags := 33
  super := sup
  interfaces := #[]
  cf := none
  fields := #[]
  methods := #[]
  instanceTypes := #[]
  staticTypes := #[]
  resolved := #[]
  callSites := []
  init := .initialized
  statics := none
  mirror := none

def pool0 : Array CpInfo := pool [(5, u "<init>"), (0, u "()V"), (1, .class_ 10), (1, u "java/lang/Object")] 113

def k0c0 : Code := { maxStack := 0, maxLocals := 1, code := object_method_1_code, exceptionTable := #[], attributes := #[] }
def k0m0 : Method := { name := "<init>", desc := "()V", sig := { parameters := [], returnType := none }, accessFlags := 1, code := some k0c0 }
/-- java/lang/Object -/
def k0 : Class := { plain "java/lang/Object" none with
  accessFlags := 33
  interfaces := #[]
  cf := some (fileOf pool0 8 #[] #[{ accessFlags := 1, nameIndex := 5, descriptorIndex := 6, attributes := #[] }] 33 0 #[] #[])
  fields := #[]
  methods := #[k0m0]
  instanceTypes := #[]
  staticTypes := #[]
  resolved := Array.replicate 124 none
  statics := none }

def pool1 : Array CpInfo := pool [(2, .class_ 4), (0, .nameAndType 5 6), (0, u "java/lang/Object"), (0, u "<init>"), (0, u "()V"), (0, .class_ 8), (0, u "com/example/find_leader/findleader/engine/LongHeap"), (0, .methodref 7 3), (0, .methodref 7 11), (0, .nameAndType 12 13), (0, u "isEmpty"), (0, u "()Z"), (0, .methodref 7 15), (0, .nameAndType 16 17), (0, u "add"), (0, u "(J)V"), (0, .methodref 7 19), (0, .nameAndType 20 21), (0, u "pollFirst"), (0, u "()J"), (0, .class_ 23), (0, u "com/example/find_leader/findleader/engine/LongHeapIsEmptyPinLaw"), (2, u "law"), (0, u "(IIJJJ)Z")] 3

def k1m0 : Method := { name := "<init>", desc := "()V", sig := { parameters := [], returnType := none }, accessFlags := 2, code := none }
def k1c1 : Code := { maxStack := 3, maxLocals := 12, code := code, exceptionTable := #[], attributes := #[] }
def k1m1 : Method := { name := "law", desc := "(IIJJJ)Z", sig := { parameters := [.int, .int, .long, .long, .long], returnType := some .boolean }, accessFlags := 9, code := some k1c1 }
/-- com/example/find_leader/findleader/engine/LongHeapIsEmptyPinLaw -/
def k1 : Class := { plain "com/example/find_leader/findleader/engine/LongHeapIsEmptyPinLaw" (some 0) with
  accessFlags := 49
  interfaces := #[]
  cf := some (fileOf pool1 22 #[] #[{ accessFlags := 2, nameIndex := 5, descriptorIndex := 6, attributes := #[] }, { accessFlags := 9, nameIndex := 26, descriptorIndex := 27, attributes := #[] }] 49 2 #[] #[])
  fields := #[]
  methods := #[k1m0, k1m1]
  instanceTypes := #[]
  staticTypes := #[]
  resolved := Array.replicate 31 none
  statics := none }

def pool2 : Array CpInfo := pool [(1, .methodref 2 3), (0, .class_ 4), (0, .nameAndType 5 6), (0, u "java/lang/Object"), (0, u "<init>"), (0, u "()V"), (0, .fieldref 8 9), (0, .class_ 10), (0, .nameAndType 11 12), (0, u "com/example/find_leader/findleader/engine/LongHeap"), (0, u "values"), (0, u "[J"), (0, .fieldref 8 14), (0, .nameAndType 15 16), (0, u "size"), (0, u "I"), (13, .methodref 8 31), (0, .nameAndType 32 33), (0, u "first"), (0, u "()J"), (2, u "isEmpty"), (0, u "()Z"), (1, u "add"), (0, u "(J)V"), (0, u "pollFirst")] 2

def k2c0 : Code := { maxStack := 2, maxLocals := 1, code := prog_27_method_1_code, exceptionTable := #[], attributes := #[] }
def k2m0 : Method := { name := "<init>", desc := "()V", sig := { parameters := [], returnType := none }, accessFlags := 0, code := some k2c0 }
def k2c1 : Code := { maxStack := 1, maxLocals := 1, code := prog_27_method_2_code, exceptionTable := #[], attributes := #[] }
def k2m1 : Method := { name := "isEmpty", desc := "()Z", sig := { parameters := [], returnType := some .boolean }, accessFlags := 0, code := some k2c1 }
def k2c2 : Code := { maxStack := 3, maxLocals := 1, code := prog_27_method_3_code, exceptionTable := #[], attributes := #[] }
def k2m2 : Method := { name := "first", desc := "()J", sig := { parameters := [], returnType := some .long }, accessFlags := 0, code := some k2c2 }
def k2c3 : Code := { maxStack := 5, maxLocals := 4, code := prog_27_method_4_code, exceptionTable := #[], attributes := #[] }
def k2m3 : Method := { name := "add", desc := "(J)V", sig := { parameters := [.long], returnType := none }, accessFlags := 0, code := some k2c3 }
def k2c4 : Code := { maxStack := 4, maxLocals := 7, code := prog_27_method_5_code, exceptionTable := #[], attributes := #[] }
def k2m4 : Method := { name := "pollFirst", desc := "()J", sig := { parameters := [], returnType := some .long }, accessFlags := 0, code := some k2c4 }
/-- com/example/find_leader/findleader/engine/LongHeap -/
def k2 : Class := { plain "com/example/find_leader/findleader/engine/LongHeap" (some 0) with
  accessFlags := 48
  interfaces := #[]
  cf := some (fileOf pool2 8 #[] #[{ accessFlags := 0, nameIndex := 5, descriptorIndex := 6, attributes := #[] }, { accessFlags := 0, nameIndex := 36, descriptorIndex := 37, attributes := #[] }, { accessFlags := 0, nameIndex := 32, descriptorIndex := 33, attributes := #[] }, { accessFlags := 0, nameIndex := 39, descriptorIndex := 40, attributes := #[] }, { accessFlags := 0, nameIndex := 41, descriptorIndex := 33, attributes := #[] }] 48 2 #[] #[{ accessFlags := 2, nameIndex := 11, descriptorIndex := 12, attributes := #[] }, { accessFlags := 2, nameIndex := 15, descriptorIndex := 16, attributes := #[] }])
  fields := #[{ name := "values", type := (.array .long), accessFlags := 2, slot := 0, constantValue := 0 }, { name := "size", type := .int, accessFlags := 2, slot := 1, constantValue := 0 }]
  methods := #[k2m0, k2m1, k2m2, k2m3, k2m4]
  instanceTypes := #[(.array .long), .int]
  staticTypes := #[]
  resolved := Array.replicate 44 none
  statics := none }

def pool3 : Array CpInfo := pool [(1, u "java/lang/Cloneable"), (0, .class_ 1), (0, u "java/lang/Object"), (0, .class_ 3)] 3

/-- java/lang/Cloneable -/
def k3 : Class := { plain "java/lang/Cloneable" (some 0) with
  accessFlags := 1537
  interfaces := #[]
  cf := some (fileOf pool3 2 #[] #[] 1537 4 #[] #[])
  fields := #[]
  methods := #[]
  instanceTypes := #[]
  staticTypes := #[]
  resolved := Array.replicate 8 none
  statics := none }

def pool4 : Array CpInfo := pool [(1, u "java/io/Serializable"), (0, .class_ 1), (0, u "java/lang/Object"), (0, .class_ 3)] 3

/-- java/io/Serializable -/
def k4 : Class := { plain "java/io/Serializable" (some 0) with
  accessFlags := 1537
  interfaces := #[]
  cf := some (fileOf pool4 2 #[] #[] 1537 4 #[] #[])
  fields := #[]
  methods := #[]
  instanceTypes := #[]
  staticTypes := #[]
  resolved := Array.replicate 8 none
  statics := none }

/-- the primitive byte -/
def k5 : Class := { plain "byte" none with kind := .primitive 'B', accessFlags := 0x411 }
/-- [B -/
def k6 : Class := { plain "[B" (some 0) with kind := .array 5 .byte, interfaces := #[3, 4], accessFlags := 1041 }

/-- the primitive int -/
def k7 : Class := { plain "int" none with kind := .primitive 'I', accessFlags := 0x411 }
/-- [I -/
def k8 : Class := { plain "[I" (some 0) with kind := .array 7 .int, interfaces := #[3, 4], accessFlags := 1041 }

/-- the primitive long -/
def k9 : Class := { plain "long" none with kind := .primitive 'J', accessFlags := 0x411 }
/-- [J -/
def k10 : Class := { plain "[J" (some 0) with kind := .array 9 .long, interfaces := #[3, 4], accessFlags := 1041 }

def heap : Heap := #[]
def classes : Array Class := #[k0, k1, k2, k3, k4, k5, k6, k7, k8, k9, k10]
def interned : List (Array UInt16 × Addr) := []
def slotsUsed : Nat := 0
def theMethod : MethodId := ⟨1, 1⟩
def args0 : Array Value := #[.int 3, .int 1, .long 5, .long 6, .long 7]
def aboutOver (below : List Frame) : State where
  vm := { classes := classes, interned := interned.toArray }
  heap := heap
  slotsUsed := slotsUsed
  threads := #[{ frames := .invoking theMethod args0 :: below }]
def below0 : List Frame := [.native { method := ⟨0, 0⟩, args := #[] }]
def about1 : State := aboutOver below0
def p0 : Program := .bare "" "" ""
def e0 : Env := launch0.env 0 0 0
theorem w_frames : about1.frames = Frame.invoking theMethod args0 :: below0 := rfl
set_option maxRecDepth 65536 in
theorem w_args : argsFit about1.vm theMethod args0 = true := by decide +kernel
set_option maxRecDepth 65536 in
theorem w_heap : heapFits about1 = true := by decide +kernel
set_option maxRecDepth 65536 in
theorem w_runnable : about1.curStatus? = some .runnable := by decide +kernel
set_option maxRecDepth 65536 in
theorem w_alone : about1.alone = true := by decide +kernel
set_option maxRecDepth 65536 in
theorem w_named : about1.methodNamed? x = some theMethod := by decide +kernel
set_option maxRecDepth 65536 in
theorem w_hears : about1.hears theMethod below0 = true := by decide +kernel
set_option maxRecDepth 65536 in
theorem w_ripe : about1.ripe theMethod args0 below0 = true := by decide +kernel
theorem w_running : about1.status = .running := rfl
set_option maxRecDepth 65536 in
theorem w_room : about1.hasRoom e0.platform room_1 = true :=
  launch0.hasRoom_least _ room_1 (by decide +kernel) (by decide +kernel) (by decide +kernel) (by decide +kernel) (by decide +kernel) (by decide +kernel)
theorem allAtoms_all (ts : List Jvm.Cond) (a : Array Jvm.Value) (st : Jvm.State) : (allAtoms ts).before a st = ts.all (fun c => c.before a st) := by
  induction ts with
  | nil => rfl
  | cons c t ih =>
    show (Jvm.Cond.and c (allAtoms t)).before a st = _
    rw [Jvm.Cond.before_and, ih, List.all_cons]
def words1 : List Jvm.Cond := Jvm.Cond.code x code maxLocals ret :: tables_1
/-- a 'code' word, met by the world's own term for the bytes: nothing is compared byte by byte -/
theorem code_word {y : MethodName} {bytes : ByteArray} {mx : Nat} {rt : Option FieldType} {a : Array Value} {s : State} {m : MethodId} {meth : Method} {c : Code} (h1 : s.methodNamed? y = some m) (h2 : s.vm.method? m = some meth) (h3 : meth.code = some c) (h4 : c.code = bytes)
    (h5 : (c.maxLocals == mx && c.exceptionTable.isEmpty && decide (c.maxStack ≤ mostOperands) && decide (meth.sig.returnType = rt) && !meth.locks && decide (parseMethodDescriptor y.desc = some meth.sig)) = true) : (Jvm.Cond.code y bytes mx rt).before a s = true := by
  simp only [Bool.and_eq_true, beq_iff_eq, Bool.not_eq_true', decide_eq_true_eq] at h5
  obtain ⟨⟨⟨⟨⟨g1, g2⟩, g3⟩, g4⟩, g5⟩, g6⟩ := h5
  simp [Cond.before, Cond.holds, Cond.value, h1, h2, h3, h4, g1, g2, g3, g4, g5, g6]
def isCode : Jvm.Cond → Bool
  | .code _ _ _ _ => true
  | _ => false
theorem all_split {L : List Jvm.Cond} {P : Jvm.Cond → Bool} (h1 : L.all (fun c => isCode c || P c) = true) (h2 : ∀ c ∈ L.filter isCode, P c = true) : L.all P = true := by
  refine List.all_eq_true.mpr fun c hc => ?_
  have h := List.all_eq_true.mp h1 c hc
  rcases Bool.eq_false_or_eq_true (isCode c) with hi | hi
  · exact h2 c (List.mem_filter.mpr ⟨hc, hi⟩)
  · simpa [hi] using h
set_option maxRecDepth 65536 in
theorem w_c0 : (Jvm.Cond.code x code maxLocals ret).before args0 about1 = true := code_word (m := ⟨1, 1⟩) (meth := k1m1) (c := k1c1) (by decide +kernel) rfl rfl rfl (by decide +kernel)
set_option maxRecDepth 65536 in
theorem w_c1 : (Jvm.Cond.code ({ cls := "com/example/find_leader/findleader/engine/LongHeap", name := "<init>", desc := "()V" } : Jvm.MethodName) prog_27_method_1_code (1 : Nat) (Option.none : Option Jvm.ClassFile.FieldType)).before args0 about1 = true := code_word (m := ⟨2, 0⟩) (meth := k2m0) (c := k2c0) (by decide +kernel) rfl rfl rfl (by decide +kernel)
set_option maxRecDepth 65536 in
theorem w_c2 : (Jvm.Cond.code ({ cls := "java/lang/Object", name := "<init>", desc := "()V" } : Jvm.MethodName) object_method_1_code (1 : Nat) (Option.none : Option Jvm.ClassFile.FieldType)).before args0 about1 = true := code_word (m := ⟨0, 0⟩) (meth := k0m0) (c := k0c0) (by decide +kernel) rfl rfl rfl (by decide +kernel)
set_option maxRecDepth 65536 in
theorem w_c3 : (Jvm.Cond.code ({ cls := "com/example/find_leader/findleader/engine/LongHeap", name := "isEmpty", desc := "()Z" } : Jvm.MethodName) prog_27_method_2_code (1 : Nat) (Option.some Jvm.ClassFile.FieldType.boolean)).before args0 about1 = true := code_word (m := ⟨2, 1⟩) (meth := k2m1) (c := k2c1) (by decide +kernel) rfl rfl rfl (by decide +kernel)
set_option maxRecDepth 65536 in
theorem w_c4 : (Jvm.Cond.code ({ cls := "com/example/find_leader/findleader/engine/LongHeap", name := "add", desc := "(J)V" } : Jvm.MethodName) prog_27_method_4_code (4 : Nat) (Option.none : Option Jvm.ClassFile.FieldType)).before args0 about1 = true := code_word (m := ⟨2, 3⟩) (meth := k2m3) (c := k2c3) (by decide +kernel) rfl rfl rfl (by decide +kernel)
set_option maxRecDepth 65536 in
theorem w_c5 : (Jvm.Cond.code ({ cls := "com/example/find_leader/findleader/engine/LongHeap", name := "pollFirst", desc := "()J" } : Jvm.MethodName) prog_27_method_5_code (7 : Nat) (Option.some Jvm.ClassFile.FieldType.long)).before args0 about1 = true := code_word (m := ⟨2, 4⟩) (meth := k2m4) (c := k2c4) (by decide +kernel) rfl rfl rfl (by decide +kernel)
set_option maxRecDepth 65536 in
theorem w_c6 : (Jvm.Cond.code ({ cls := "com/example/find_leader/findleader/engine/LongHeap", name := "first", desc := "()J" } : Jvm.MethodName) prog_27_method_3_code (1 : Nat) (Option.some Jvm.ClassFile.FieldType.long)).before args0 about1 = true := code_word (m := ⟨2, 2⟩) (meth := k2m2) (c := k2c2) (by decide +kernel) rfl rfl rfl (by decide +kernel)
def codes1 : List Jvm.Cond := [Jvm.Cond.code x code maxLocals ret, Jvm.Cond.code ({ cls := "com/example/find_leader/findleader/engine/LongHeap", name := "<init>", desc := "()V" } : Jvm.MethodName) prog_27_method_1_code (1 : Nat) (Option.none : Option Jvm.ClassFile.FieldType), Jvm.Cond.code ({ cls := "java/lang/Object", name := "<init>", desc := "()V" } : Jvm.MethodName) object_method_1_code (1 : Nat) (Option.none : Option Jvm.ClassFile.FieldType), Jvm.Cond.code ({ cls := "com/example/find_leader/findleader/engine/LongHeap", name := "isEmpty", desc := "()Z" } : Jvm.MethodName) prog_27_method_2_code (1 : Nat) (Option.some Jvm.ClassFile.FieldType.boolean), Jvm.Cond.code ({ cls := "com/example/find_leader/findleader/engine/LongHeap", name := "add", desc := "(J)V" } : Jvm.MethodName) prog_27_method_4_code (4 : Nat) (Option.none : Option Jvm.ClassFile.FieldType), Jvm.Cond.code ({ cls := "com/example/find_leader/findleader/engine/LongHeap", name := "pollFirst", desc := "()J" } : Jvm.MethodName) prog_27_method_5_code (7 : Nat) (Option.some Jvm.ClassFile.FieldType.long), Jvm.Cond.code ({ cls := "com/example/find_leader/findleader/engine/LongHeap", name := "first", desc := "()J" } : Jvm.MethodName) prog_27_method_3_code (1 : Nat) (Option.some Jvm.ClassFile.FieldType.long)]
set_option maxRecDepth 65536 in
theorem codes_eq : words1.filter isCode = codes1 := rfl
theorem w_codes : ∀ c ∈ words1.filter isCode, c.before args0 about1 = true := by
  rw [codes_eq]
  intro c hc
  simp only [codes1, List.mem_cons, List.not_mem_nil, or_false] at hc
  rcases hc with rfl | rfl | rfl | rfl | rfl | rfl | rfl
  · exact w_c0
  · exact w_c1
  · exact w_c2
  · exact w_c3
  · exact w_c4
  · exact w_c5
  · exact w_c6
set_option maxRecDepth 65536 in
theorem w_t1 : (words1.take 24).all (fun c => isCode c || c.before args0 about1) = true := by decide +kernel
set_option maxRecDepth 65536 in
theorem w_t2 : (words1.drop 24).all (fun c => isCode c || c.before args0 about1) = true := by decide +kernel
theorem w_tables : (allAtoms (Jvm.Cond.code x code maxLocals ret :: tables_1)).before args0 about1 = true := by
  rw [allAtoms_all]
  show words1.all (fun c => c.before args0 about1) = true
  refine all_split ?_ w_codes
  rw [← List.take_append_drop 24 words1, List.all_append, w_t1, w_t2]
  rfl
set_option maxRecDepth 65536 in
theorem w_case : (Jvm.Cond.and given_1 narrow_1).before args0 about1 = true := by decide +kernel
theorem w_applies : (headSpec (Jvm.Cond.code x code maxLocals ret :: tables_1) room_1).applies x e0.platform about1 = true :=
  (Spec.applies_iff w_frames).mpr ⟨w_running, w_runnable, w_alone, w_named, w_hears, w_ripe, w_room, w_tables⟩
theorem atStart : AtStart classFile x code maxLocals ret World_1 tables_1 room_1 Calls_1 rest_1 Pre_1 launch0 p0 e0 about1 theMethod args0 below0 :=
  ⟨lists_1, trivial, launch0.admits_env _ _ _, launch0.least_env, fairChoices_fair.cas, fairChoices_fair.clock, w_frames, w_args, w_heap, w_applies, trivial, trivial, w_case⟩
end start1
theorem witness_1 : WitnessClaimed_1 := ⟨start1.p0, start1.e0, start1.about1, start1.theMethod, start1.args0, start1.below0, start1.atStart⟩
end Jvm.Pilot.@@N@@
