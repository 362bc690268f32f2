import JvmDerived
import JvmDerived.Pilot.@@N@@Statement
import JvmDerived.Pilot.@@N@@Code
set_option linter.unusedVariables false
set_option linter.unusedSimpArgs false
namespace Jvm.RoadKit
open Sem ClassFile Op Lib Jvm.Stand Jvm.Free Jvm.LawKit
section New
variable {p : Program} {l : Launch} {e : Env} {R : Room} {s : State} {m : MethodId} {args : Array Value} {below : List Frame} {meth : Method} {c : Code} {T : State} {locs : List Loc} {cells slots : Nat}
theorem retI (X : Stand p l e R s m args below meth c T locs cells slots) (hx : p.tables.exec = Jvm.exec) {pc : Nat} {Ls : Array Slot} {z : Int32} {rest : List Value} (hret : meth.sig.returnType = some .int) (hd : decode c.code pc = .ok (.ireturn, 1)) {fs : List Frame}
    (hl : ∀ (f : JFrame) (acts : List Action), f.method = m → f.locked = none → f.entered = [] → (doReturn e (T.setTop f) acts (some (.int z))).1 = T.setFrames fs) : Steps p.tables e below (T.setTop (mkF m pc Ls (.int z :: rest))) (T.setFrames fs) := by
  have hm' : T.vm.method? m = some meth := X.method'
  have hn : narrow .int (.int z) = .int z := rfl
  show Steps p.tables e below (T.setTop { method := m, pc := pc, locals := Ls, stack := _ :: rest, locked := none }) _
  jvm_step X.here [X.here.top, hx, hd, hm', hret, hn]
  first | (intro acts; rw [hl _ acts rfl rfl rfl]) | rw [hl _ _ rfl rfl rfl]
  exact Steps.refl _
end New
end Jvm.RoadKit
namespace Jvm.Pilot.@@N@@
open Jvm Jvm.ClassFile Sem Op Lib Jvm.Free Jvm.Stand Jvm.LawKit Jvm.RoadKit Bundle Jvm.Pilot.@@N@@.Jvm.D

theorem pn_1 : plainName "com/example/restate/restate/Phrasings$Subject" = true := by first | (simp [plainName, overriddenIn]; done) | decide +kernel
theorem ef_1_R (m : MethodId) (x0 : Addr) : entryFrame m #[(.ref x0)] 1 = mkF m 0 #[.val (.ref x0)] [] := by first | (simp [entryFrame, mkF, argsToLocals, Value.category]; done) | rfl
theorem d1_0 : decode prog_108_method_4_code 0 = .ok (.aload_n 0, 1) := by decide +kernel
theorem d1_1 : decode prog_108_method_4_code 1 = .ok (.getstatic 3, 3) := by decide +kernel
theorem d1_4 : decode prog_108_method_4_code 4 = .ok (.if_acmp .eq 10, 3) := by decide +kernel
theorem d1_7 : decode prog_108_method_4_code 7 = .ok (.aload_n 0, 1) := by decide +kernel
theorem d1_8 : decode prog_108_method_4_code 8 = .ok (.getstatic 10, 3) := by decide +kernel
theorem d1_11 : decode prog_108_method_4_code 11 = .ok (.if_acmp .ne 7, 3) := by decide +kernel
theorem d1_14 : decode prog_108_method_4_code 14 = .ok (.iconst 1, 1) := by decide +kernel
theorem d1_15 : decode prog_108_method_4_code 15 = .ok (.goto 4, 3) := by decide +kernel
theorem d1_18 : decode prog_108_method_4_code 18 = .ok (.iconst 0, 1) := by decide +kernel
theorem d1_19 : decode prog_108_method_4_code 19 = .ok (.ireturn, 1) := by decide +kernel
def Q_rm1 (Z : State) (a s_AGREEMENT s_NEW_DEFINITIONS : Addr) (h0 : Heap) (n0 : Nat) (v : Option Value) (h : Heap) (L : List Loc) : Prop := v = some (.int (if a = s_AGREEMENT then 1 else if a = s_NEW_DEFINITIONS then 1 else 0)) ∧ Fr n0 L ∧ h = h0
set_option maxRecDepth 65536 in
set_option maxHeartbeats 40000000 in
theorem rm1 (l : Launch) (Z : State) (a0 : Array Value) (hw : ∀ d ∈ tables_1, d.before a0 Z = true) (ws : List Jvm.Cond) (a s_AGREEMENT s_NEW_DEFINITIONS : Addr) (h0 : Heap) (n0 : Nat) (Z0 : n0 ≤ h0.size) (S_AGREEMENT : Sta Z h0 "com/example/restate/restate/Phrasings$Subject" "AGREEMENT" "Lcom/example/restate/restate/Phrasings$Subject;" (.ref s_AGREEMENT)) (S_NEW_DEFINITIONS : Sta Z h0 "com/example/restate/restate/Phrasings$Subject" "NEW_DEFINITIONS" "Lcom/example/restate/restate/Phrasings$Subject;" (.ref s_NEW_DEFINITIONS)) :
    MetFree l (⟨"com/example/restate/restate/Phrasings$Subject", "leavesPlace", "()Z"⟩ : MethodName) (head1 (Jvm.Cond.code (⟨"com/example/restate/restate/Phrasings$Subject", "leavesPlace", "()Z"⟩ : MethodName) prog_108_method_4_code 1 (some .boolean) :: ws) ({ frames := 0, cells := 0, slots := 0, locals := 0 } : Room)) (fun argv U => argv = #[(.ref a)] ∧ Z.Warmed39 U.vm ∧ U.heap = h0) (fun _ _ _ _ _ => True) (fun _ U o U' => ∃ v L, o = .returned v ∧ Q_rm1 Z a s_AGREEMENT s_NEW_DEFINITIONS h0 n0 v U'.heap L ∧ FrameEnd U o U' L ({ frames := 0, cells := 0, slots := 0, locals := 0 } : Room).cells ({ frames := 0, cells := 0, slots := 0, locals := 0 } : Room).slots) := by
  refine MetFree.of_bodySF (plainFor_of_name pn_1) hisR ?_
  intro p e s m args below meth c s₁ Bd hml0 hP hK
  obtain ⟨rfl, hZ, hh⟩ := hP
  have hx := Bd.exec
  have hby := Bd.bytes
  have hml : c.maxLocals = 1 := hml0
  have hown : s.vm.findClass "com/example/restate/restate/Phrasings$Subject" = some m.cls := findClass_of_methodNamed Bd.named
  have hnm := (name_of_methodNamed Bd.named Bd.method).1
  have X0 : Stand p l e ({ frames := 0, cells := 0, slots := 0, locals := 0 } : Room) s m #[(.ref a)] below meth c s₁ [] 0 0 := Stand.of_body Bd
  have e0 : s₁.heap = h0 := by rw [← hh, Bd.state]; rfl
  have N0 := Fr.nil n0
  obtain ⟨G, hG⟩ : ∃ G : State → Prop, G = fun t => Steps p.tables e below (s₁.setTop (entryFrame m #[(.ref a)] 1)) t := ⟨_, rfl⟩
  have pre0 : ∀ t, Steps p.tables e below (s₁.setTop (mkF m 0 #[.val (.ref a)] [])) t → G t := fun t k => by rw [hG]; exact castTop (ef_1_R m a) k
  have pre1 : ∀ t, Steps p.tables e below (s₁.setTop (mkF m 1 #[.val (.ref a)] [(.ref a)])) t → G t := fun t k => pre0 t (by
    show Steps p.tables e below (s₁.setTop (mkF m 0 #[.val (.ref a)] [])) _
    refine XS.aloadN X0.here hx rfl (hb hby d1_0) rfl rfl ?_
    exact k)
  obtain ⟨T2, X2, e2, st2⟩ := getS2 X0 hx hZ hown (host := "") (Or.inl (hw _ (List.mem_of_getElem? (i := 9) rfl))) Via.refl e0 S_AGREEMENT (g := (mkF m 1 #[.val (.ref a)] [(.ref a)])) rfl (hb hby d1_1)
  have pre2s : ∀ t, Steps p.tables e below (T2.setTop (mkF m 4 #[.val (.ref a)] [(.ref s_AGREEMENT), (.ref a)])) t → G t := fun t k => pre1 t (st2 t k)
  by_cases c4 : a = s_AGREEMENT
  · skip
    obtain ⟨fs, hr, hrun, hended, hW, hsame⟩ := X2.leave (v := some (.int (1 : Int32))) (fun h => by rw [Bd.returns] at h; cases h)
    subst hG
    refine ⟨_, _, pre2s _ ?_, hrun, hended, _, _, rfl, ?_, ⟨_, rfl⟩, hW, hsame.mono (by decide) (by decide)⟩
    · skip
      show Steps p.tables e below (T2.setTop (mkF m 4 #[.val (.ref a)] [(.ref s_AGREEMENT), (.ref a)])) _
      refine Jvm.RoadKit.acmp (g := (mkF m 4 #[.val (.ref a)] [(.ref s_AGREEMENT), (.ref a)])) X2 hx rfl rfl rfl (pc0 := 4) (pc' := 14) (same := true) rfl (hb hby d1_4) rfl (decide_eq_true (congrArg Value.ref c4)) (by decide) (by decide) ?_
      show Steps p.tables e below (T2.setTop (mkF m 14 #[.val (.ref a)] [])) _
      refine XS.iconst X2.here hx rfl (hb hby d1_14) ?_
      show Steps p.tables e below (T2.setTop (mkF m 15 #[.val (.ref a)] [(.int (1 : Int32))])) _
      refine XS.goto X2.here hx rfl (pc0 := 15) (pc' := 19) rfl (hb hby d1_15) (by decide) (by decide) ?_
      show Steps p.tables e below (T2.setTop (mkF m 19 #[.val (.ref a)] [(.int (1 : Int32))])) _
      exact retN X2 hx (t := .boolean) Bd.returns (by simp) (hb hby d1_19) hr
    · show Q_rm1 Z a s_AGREEMENT s_NEW_DEFINITIONS h0 n0 _ T2.heap _
      rw [e2]
      exact ⟨by rw [if_pos c4], N0, rfl⟩
  · skip
    have pre3 : ∀ t, Steps p.tables e below (T2.setTop (mkF m 8 #[.val (.ref a)] [(.ref a)])) t → G t := fun t k => pre2s t (by
      show Steps p.tables e below (T2.setTop (mkF m 4 #[.val (.ref a)] [(.ref s_AGREEMENT), (.ref a)])) _
      refine Jvm.RoadKit.acmp (g := (mkF m 4 #[.val (.ref a)] [(.ref s_AGREEMENT), (.ref a)])) X2 hx rfl rfl rfl (pc0 := 4) (pc' := 7) (same := false) rfl (hb hby d1_4) rfl (decide_eq_false (fun q => c4 (Value.ref.inj q))) (by decide) (by decide) ?_
      show Steps p.tables e below (T2.setTop (mkF m 7 #[.val (.ref a)] [])) _
      refine XS.aloadN X2.here hx rfl (hb hby d1_7) rfl rfl ?_
      exact k)
    obtain ⟨T4, X4, e4, st4⟩ := getS2 X2 hx hZ hown (host := "") (Or.inl (hw _ (List.mem_of_getElem? (i := 12) rfl))) Via.refl e2 S_NEW_DEFINITIONS (g := (mkF m 8 #[.val (.ref a)] [(.ref a)])) rfl (hb hby d1_8)
    have pre4s : ∀ t, Steps p.tables e below (T4.setTop (mkF m 11 #[.val (.ref a)] [(.ref s_NEW_DEFINITIONS), (.ref a)])) t → G t := fun t k => pre3 t (st4 t k)
    by_cases c11 : a = s_NEW_DEFINITIONS
    · skip
      obtain ⟨fs, hr, hrun, hended, hW, hsame⟩ := X4.leave (v := some (.int (1 : Int32))) (fun h => by rw [Bd.returns] at h; cases h)
      subst hG
      refine ⟨_, _, pre4s _ ?_, hrun, hended, _, _, rfl, ?_, ⟨_, rfl⟩, hW, hsame.mono (by decide) (by decide)⟩
      · skip
        show Steps p.tables e below (T4.setTop (mkF m 11 #[.val (.ref a)] [(.ref s_NEW_DEFINITIONS), (.ref a)])) _
        refine Jvm.RoadKit.acmp (g := (mkF m 11 #[.val (.ref a)] [(.ref s_NEW_DEFINITIONS), (.ref a)])) X4 hx rfl rfl rfl (pc0 := 11) (pc' := 14) (same := true) rfl (hb hby d1_11) rfl (decide_eq_true (congrArg Value.ref c11)) (by decide) (by decide) ?_
        show Steps p.tables e below (T4.setTop (mkF m 14 #[.val (.ref a)] [])) _
        refine XS.iconst X4.here hx rfl (hb hby d1_14) ?_
        show Steps p.tables e below (T4.setTop (mkF m 15 #[.val (.ref a)] [(.int (1 : Int32))])) _
        refine XS.goto X4.here hx rfl (pc0 := 15) (pc' := 19) rfl (hb hby d1_15) (by decide) (by decide) ?_
        show Steps p.tables e below (T4.setTop (mkF m 19 #[.val (.ref a)] [(.int (1 : Int32))])) _
        exact retN X4 hx (t := .boolean) Bd.returns (by simp) (hb hby d1_19) hr
      · show Q_rm1 Z a s_AGREEMENT s_NEW_DEFINITIONS h0 n0 _ T4.heap _
        rw [e4]
        exact ⟨by rw [if_neg c4, if_pos c11], N0, rfl⟩
    · skip
      obtain ⟨fs, hr, hrun, hended, hW, hsame⟩ := X4.leave (v := some (.int (0 : Int32))) (fun h => by rw [Bd.returns] at h; cases h)
      subst hG
      refine ⟨_, _, pre4s _ ?_, hrun, hended, _, _, rfl, ?_, ⟨_, rfl⟩, hW, hsame.mono (by decide) (by decide)⟩
      · skip
        show Steps p.tables e below (T4.setTop (mkF m 11 #[.val (.ref a)] [(.ref s_NEW_DEFINITIONS), (.ref a)])) _
        refine Jvm.RoadKit.acmp (g := (mkF m 11 #[.val (.ref a)] [(.ref s_NEW_DEFINITIONS), (.ref a)])) X4 hx rfl rfl rfl (pc0 := 11) (pc' := 18) (same := false) rfl (hb hby d1_11) rfl (decide_eq_false (fun q => c11 (Value.ref.inj q))) (by decide) (by decide) ?_
        show Steps p.tables e below (T4.setTop (mkF m 18 #[.val (.ref a)] [])) _
        refine XS.iconst X4.here hx rfl (hb hby d1_18) ?_
        show Steps p.tables e below (T4.setTop (mkF m 19 #[.val (.ref a)] [(.int (0 : Int32))])) _
        exact retN X4 hx (t := .boolean) Bd.returns (by simp) (hb hby d1_19) hr
      · show Q_rm1 Z a s_AGREEMENT s_NEW_DEFINITIONS h0 n0 _ T4.heap _
        rw [e4]
        exact ⟨by rw [if_neg c4, if_neg c11], N0, rfl⟩
theorem pn_0 : plainName "com/example/restate/restate/SubjectLeavesPlacePinLaw" = true := by first | (simp [plainName, overriddenIn]; done) | decide +kernel
theorem ef_0_I (m : MethodId) (x0 : Int32) : entryFrame m #[(.int x0)] maxLocals = mkF m 0 #[.val (.int x0), .unset, .unset, .unset] [] := by first | (simp [entryFrame, mkF, argsToLocals, Value.category, maxLocals]; done) | rfl
theorem pd_0 : parseMethodDescriptor "()Z" = some ⟨[], some .boolean⟩ := by decide +kernel
def Q_rm0 (Z : State) (p0 : Int32) (s_AGREEMENT s_NEW_UNIT s_NEW_DEFINITIONS s_WORDS_AHEAD s_PLACE : Addr) (h0 : Heap) (n0 : Nat) (v : Option Value) (h : Heap) (L : List Loc) : Prop := v = some (.int 1) ∧ Fr n0 L
set_option maxRecDepth 65536 in
set_option maxHeartbeats 40000000 in
theorem rm0 (l : Launch) (Z : State) (a0 : Array Value) (hw : ∀ d ∈ tables_1, d.before a0 Z = true) (ws : List Jvm.Cond) (p0 : Int32) (s_AGREEMENT s_NEW_UNIT s_NEW_DEFINITIONS s_WORDS_AHEAD s_PLACE : Addr) (h0 : Heap) (n0 : Nat) (Z0 : n0 ≤ h0.size) (S_AGREEMENT : Sta Z h0 "com/example/restate/restate/Phrasings$Subject" "AGREEMENT" "Lcom/example/restate/restate/Phrasings$Subject;" (.ref s_AGREEMENT)) (S_NEW_UNIT : Sta Z h0 "com/example/restate/restate/Phrasings$Subject" "NEW_UNIT" "Lcom/example/restate/restate/Phrasings$Subject;" (.ref s_NEW_UNIT)) (S_NEW_DEFINITIONS : Sta Z h0 "com/example/restate/restate/Phrasings$Subject" "NEW_DEFINITIONS" "Lcom/example/restate/restate/Phrasings$Subject;" (.ref s_NEW_DEFINITIONS)) (S_WORDS_AHEAD : Sta Z h0 "com/example/restate/restate/Phrasings$Subject" "WORDS_AHEAD" "Lcom/example/restate/restate/Phrasings$Subject;" (.ref s_WORDS_AHEAD)) (S_PLACE : Sta Z h0 "com/example/restate/restate/Phrasings$Subject" "PLACE" "Lcom/example/restate/restate/Phrasings$Subject;" (.ref s_PLACE)) (E_AGREEMENT : Exa Z h0 s_AGREEMENT "com/example/restate/restate/Phrasings$Subject") (E_NEW_UNIT : Exa Z h0 s_NEW_UNIT "com/example/restate/restate/Phrasings$Subject") (E_NEW_DEFINITIONS : Exa Z h0 s_NEW_DEFINITIONS "com/example/restate/restate/Phrasings$Subject") (E_WORDS_AHEAD : Exa Z h0 s_WORDS_AHEAD "com/example/restate/restate/Phrasings$Subject") (E_PLACE : Exa Z h0 s_PLACE "com/example/restate/restate/Phrasings$Subject") (ne_NEW_UNIT_AGREEMENT : s_NEW_UNIT ≠ s_AGREEMENT) (ne_NEW_UNIT_NEW_DEFINITIONS : s_NEW_UNIT ≠ s_NEW_DEFINITIONS) (ne_WORDS_AHEAD_AGREEMENT : s_WORDS_AHEAD ≠ s_AGREEMENT) (ne_WORDS_AHEAD_NEW_DEFINITIONS : s_WORDS_AHEAD ≠ s_NEW_DEFINITIONS) (ne_PLACE_AGREEMENT : s_PLACE ≠ s_AGREEMENT) (ne_PLACE_NEW_DEFINITIONS : s_PLACE ≠ s_NEW_DEFINITIONS) (ne_NEW_DEFINITIONS_AGREEMENT : s_NEW_DEFINITIONS ≠ s_AGREEMENT) :
    MetFree l x (head1 (Jvm.Cond.code x code maxLocals ret :: ws) room_1) (fun argv U => argv = #[(.int p0)] ∧ Z.Warmed39 U.vm ∧ U.heap = h0) (fun _ _ _ _ _ => True) (fun _ U o U' => ∃ v L, o = .returned v ∧ Q_rm0 Z p0 s_AGREEMENT s_NEW_UNIT s_NEW_DEFINITIONS s_WORDS_AHEAD s_PLACE h0 n0 v U'.heap L ∧ FrameEnd U o U' L 0 0) := by
  refine MetFree.of_bodySF (plainFor_of_name pn_0) hisR ?_
  intro p e s m args below meth c s₁ Bd hml0 hP hK
  obtain ⟨rfl, hZ, hh⟩ := hP
  have hx := Bd.exec
  have hby := Bd.bytes
  have hml : c.maxLocals = 4 := hml0
  have hown : s.vm.findClass "com/example/restate/restate/SubjectLeavesPlacePinLaw" = some m.cls := findClass_of_methodNamed Bd.named
  have hnm := (name_of_methodNamed Bd.named Bd.method).1
  have X0 : Stand p l e room_1 s m #[(.int p0)] below meth c s₁ [] 0 0 := Stand.of_body Bd
  have e0 : s₁.heap = h0 := by rw [← hh, Bd.state]; rfl
  have N0 := Fr.nil n0
  obtain ⟨G, hG⟩ : ∃ G : State → Prop, G = fun t => Steps p.tables e below (s₁.setTop (entryFrame m #[(.int p0)] maxLocals)) t := ⟨_, rfl⟩
  have pre0 : ∀ t, Steps p.tables e below (s₁.setTop (mkF m 0 #[.val (.int p0), .unset, .unset, .unset] [])) t → G t := fun t k => by rw [hG]; exact castTop (ef_0_I m p0) k
  have pre1 : ∀ t, Steps p.tables e below (s₁.setTop (mkF m 8 #[.val (.int p0), .val (.int ((p0 &&& (2147483647 : Int32)) % (5 : Int32))), .unset, .unset] [(.int ((p0 &&& (2147483647 : Int32)) % (5 : Int32)))])) t → G t := fun t k => pre0 t (by
    show Steps p.tables e below (s₁.setTop (mkF m 0 #[.val (.int p0), .unset, .unset, .unset] [])) _
    refine XS.iloadN X0.here hx rfl (hb hby at_0) rfl ?_
    show Steps p.tables e below (s₁.setTop (mkF m 1 #[.val (.int p0), .unset, .unset, .unset] [(.int p0)])) _
    refine X0.ldcInt hx hown (mvT hZ (hw _ (List.mem_of_getElem? (i := 0) rfl))) (g := (mkF m 1 #[.val (.int p0), .unset, .unset, .unset] [(.int p0)])) rfl (hb hby at_1) _ ?_
    show Steps p.tables e below (s₁.setTop (mkF m 3 #[.val (.int p0), .unset, .unset, .unset] [(.int (2147483647 : Int32)), (.int p0)])) _
    refine XS.iand X0.here hx rfl (hb hby at_3) rfl ?_
    show Steps p.tables e below (s₁.setTop (mkF m 4 #[.val (.int p0), .unset, .unset, .unset] [(.int (p0 &&& (2147483647 : Int32)))])) _
    refine XS.iconst X0.here hx rfl (hb hby at_4) ?_
    show Steps p.tables e below (s₁.setTop (mkF m 5 #[.val (.int p0), .unset, .unset, .unset] [(.int (5 : Int32)), (.int (p0 &&& (2147483647 : Int32)))])) _
    refine iremM X0 hx rfl (hb hby at_5) rfl (by decide) ?_
    show Steps p.tables e below (s₁.setTop (mkF m 6 #[.val (.int p0), .unset, .unset, .unset] [(.int ((p0 &&& (2147483647 : Int32)) % (5 : Int32)))])) _
    refine XS.istoreN X0.here hx rfl (hb hby at_6) rfl (l' := #[.val (.int p0), .val (.int ((p0 &&& (2147483647 : Int32)) % (5 : Int32))), .unset, .unset]) rfl ?_
    show Steps p.tables e below (s₁.setTop (mkF m 7 #[.val (.int p0), .val (.int ((p0 &&& (2147483647 : Int32)) % (5 : Int32))), .unset, .unset] [])) _
    refine XS.iloadN X0.here hx rfl (hb hby at_7) rfl ?_
    exact k)
  by_cases hk0 : ((p0 &&& (2147483647 : Int32)) % (5 : Int32)) = (0 : Int32)
  · -- hk0
    have pre2 : ∀ t, Steps p.tables e below (s₁.setTop (mkF m 11 #[.val (.int p0), .val (.int ((p0 &&& (2147483647 : Int32)) % (5 : Int32))), .unset, .unset] [])) t → G t := fun t k => pre1 t (by
      show Steps p.tables e below (s₁.setTop (mkF m 8 #[.val (.int p0), .val (.int ((p0 &&& (2147483647 : Int32)) % (5 : Int32))), .unset, .unset] [(.int ((p0 &&& (2147483647 : Int32)) % (5 : Int32)))])) _
      refine XS.ifNo X0.here hx rfl (hb hby at_8) rfl ((if0 _ _).trans (teq hk0).2) ?_
      exact k)
    obtain ⟨T3, X3, e3, st3⟩ := getS2 X0 hx hZ hown (host := "") (Or.inl (hw _ (List.mem_of_getElem? (i := 1) rfl))) Via.refl e0 S_AGREEMENT (g := (mkF m 11 #[.val (.int p0), .val (.int ((p0 &&& (2147483647 : Int32)) % (5 : Int32))), .unset, .unset] [])) rfl (hb hby at_11)
    have pre3s : ∀ t, Steps p.tables e below (T3.setTop (mkF m 14 #[.val (.int p0), .val (.int ((p0 &&& (2147483647 : Int32)) % (5 : Int32))), .unset, .unset] [(.ref s_AGREEMENT)])) t → G t := fun t k => pre2 t (st3 t k)
    have pre4 : ∀ t, Steps p.tables e below (T3.setTop (mkF m 69 #[.val (.int p0), .val (.int ((p0 &&& (2147483647 : Int32)) % (5 : Int32))), .val (.ref s_AGREEMENT), .val (.int (1 : Int32))] [(.ref s_AGREEMENT)])) t → G t := fun t k => pre3s t (by
      show Steps p.tables e below (T3.setTop (mkF m 14 #[.val (.int p0), .val (.int ((p0 &&& (2147483647 : Int32)) % (5 : Int32))), .unset, .unset] [(.ref s_AGREEMENT)])) _
      refine XS.astoreN X3.here hx rfl (hb hby at_14) rfl rfl (l' := #[.val (.int p0), .val (.int ((p0 &&& (2147483647 : Int32)) % (5 : Int32))), .val (.ref s_AGREEMENT), .unset]) rfl ?_
      show Steps p.tables e below (T3.setTop (mkF m 15 #[.val (.int p0), .val (.int ((p0 &&& (2147483647 : Int32)) % (5 : Int32))), .val (.ref s_AGREEMENT), .unset] [])) _
      refine XS.iconst X3.here hx rfl (hb hby at_15) ?_
      show Steps p.tables e below (T3.setTop (mkF m 16 #[.val (.int p0), .val (.int ((p0 &&& (2147483647 : Int32)) % (5 : Int32))), .val (.ref s_AGREEMENT), .unset] [(.int (1 : Int32))])) _
      refine XS.istoreN X3.here hx rfl (hb hby at_16) rfl (l' := #[.val (.int p0), .val (.int ((p0 &&& (2147483647 : Int32)) % (5 : Int32))), .val (.ref s_AGREEMENT), .val (.int (1 : Int32))]) rfl ?_
      show Steps p.tables e below (T3.setTop (mkF m 17 #[.val (.int p0), .val (.int ((p0 &&& (2147483647 : Int32)) % (5 : Int32))), .val (.ref s_AGREEMENT), .val (.int (1 : Int32))] [])) _
      refine XS.goto X3.here hx rfl (pc0 := 17) (pc' := 68) rfl (hb hby at_17) (by decide) (by decide) ?_
      show Steps p.tables e below (T3.setTop (mkF m 68 #[.val (.int p0), .val (.int ((p0 &&& (2147483647 : Int32)) % (5 : Int32))), .val (.ref s_AGREEMENT), .val (.int (1 : Int32))] [])) _
      refine XS.aloadN X3.here hx rfl (hb hby at_68) rfl rfl ?_
      exact k)
    obtain ⟨cq5, kq5, q5a, q5b, q5c⟩ := isOf hZ e3 E_AGREEMENT
    obtain ⟨_, _, ⟨T5, L5, k5, n5⟩, -, X5, ⟨Lc5, hQ5, l5, y5, z5⟩, st5⟩ := X3.virtualBack hx (y := (⟨"com/example/restate/restate/Phrasings$Subject", "leavesPlace", "()Z"⟩ : MethodName)) (z := (⟨"com/example/restate/restate/Phrasings$Subject", "leavesPlace", "()Z"⟩ : MethodName)) hown (mvT hZ (hw _ (List.mem_of_getElem? (i := 4) rfl))) (mvT hZ (hw _ (List.mem_of_getElem? (i := 5) rfl))) (notFace_of_selects (args := #[]) (mvT hZ (hw _ (List.mem_of_getElem? (i := 7) rfl)))) (mvT hZ (hw _ (List.mem_of_getElem? (i := 7) rfl))) (mvT hZ (hw _ (List.mem_of_getElem? (i := 6) rfl))) (by decide) (backOf (W := 0) (rm1 l Z a0 hw [] s_AGREEMENT s_AGREEMENT s_NEW_DEFINITIONS h0 n0 Z0 S_AGREEMENT S_NEW_DEFINITIONS) hZ (hw _ (List.mem_of_getElem? (i := 8) rfl)) (hw _ (List.mem_of_getElem? (i := 2) rfl)) (by decide) (by decide)) q5a q5c (g := (mkF m 69 #[.val (.int p0), .val (.int ((p0 &&& (2147483647 : Int32)) % (5 : Int32))), .val (.ref s_AGREEMENT), .val (.int (1 : Int32))] [(.ref s_AGREEMENT)])) rfl (by rw [hml]; rfl) (Steps.refl _) (argsL := []) (rest := []) (lenOf pd_0 rfl) rfl (by show 2 * 0 + _ ≤ _; exact Nat.le_of_eq rfl) (hb hby at_69) (fun _ _ => ⟨rfl, e3, (Nat.le_of_ble_eq_true rfl), (Nat.le_of_ble_eq_true rfl)⟩)
    dsimp only [Pt.U, Pt.locs, Pt.cells, Pt.slots] at X5 l5 y5 z5 st5 hQ5
    subst l5 y5 z5
    obtain ⟨hv5, N5q, e5⟩ := hQ5
    rw [if_pos rfl] at hv5
    subst hv5
    have N5 := Fr.app N0 N5q
    have pre5s : ∀ t, Steps p.tables e below (T5.setTop (mkF m 72 #[.val (.int p0), .val (.int ((p0 &&& (2147483647 : Int32)) % (5 : Int32))), .val (.ref s_AGREEMENT), .val (.int (1 : Int32))] [(.int (1 : Int32))])) t → G t := fun t k => pre4 t (st5.trans k)
    obtain ⟨fs, hr, hrun, hended, hW, hsame⟩ := X5.leave (v := some (.int (1 : Int32))) (fun h => by rw [Bd.returns] at h; cases h)
    subst hG
    refine ⟨_, _, pre5s _ ?_, hrun, hended, _, _, rfl, ?_, ⟨_, rfl⟩, hW, hsame.mono (by decide) (by decide)⟩
    · skip
      show Steps p.tables e below (T5.setTop (mkF m 72 #[.val (.int p0), .val (.int ((p0 &&& (2147483647 : Int32)) % (5 : Int32))), .val (.ref s_AGREEMENT), .val (.int (1 : Int32))] [(.int (1 : Int32))])) _
      refine XS.iloadN X5.here hx rfl (hb hby at_72) rfl ?_
      show Steps p.tables e below (T5.setTop (mkF m 73 #[.val (.int p0), .val (.int ((p0 &&& (2147483647 : Int32)) % (5 : Int32))), .val (.ref s_AGREEMENT), .val (.int (1 : Int32))] [(.int (1 : Int32)), (.int (1 : Int32))])) _
      refine XS.icmpNo X5.here hx rfl (hb hby at_73) rfl (teq (by decide : (1 : Int32) = (1 : Int32))).2 ?_
      show Steps p.tables e below (T5.setTop (mkF m 76 #[.val (.int p0), .val (.int ((p0 &&& (2147483647 : Int32)) % (5 : Int32))), .val (.ref s_AGREEMENT), .val (.int (1 : Int32))] [])) _
      refine XS.iconst X5.here hx rfl (hb hby at_76) ?_
      show Steps p.tables e below (T5.setTop (mkF m 77 #[.val (.int p0), .val (.int ((p0 &&& (2147483647 : Int32)) % (5 : Int32))), .val (.ref s_AGREEMENT), .val (.int (1 : Int32))] [(.int (1 : Int32))])) _
      refine XS.goto X5.here hx rfl (pc0 := 77) (pc' := 81) rfl (hb hby at_77) (by decide) (by decide) ?_
      show Steps p.tables e below (T5.setTop (mkF m 81 #[.val (.int p0), .val (.int ((p0 &&& (2147483647 : Int32)) % (5 : Int32))), .val (.ref s_AGREEMENT), .val (.int (1 : Int32))] [(.int (1 : Int32))])) _
      exact retN X5 hx (t := .boolean) Bd.returns (by simp) (hb hby at_81) hr
    · show Q_rm0 Z p0 s_AGREEMENT s_NEW_UNIT s_NEW_DEFINITIONS s_WORDS_AHEAD s_PLACE h0 n0 _ T5.heap _
      rw [e5]
      exact ⟨rfl, N5⟩
  · -- not hk0
    have pre6 : ∀ t, Steps p.tables e below (s₁.setTop (mkF m 22 #[.val (.int p0), .val (.int ((p0 &&& (2147483647 : Int32)) % (5 : Int32))), .unset, .unset] [(.int (1 : Int32)), (.int ((p0 &&& (2147483647 : Int32)) % (5 : Int32)))])) t → G t := fun t k => pre1 t (by
      show Steps p.tables e below (s₁.setTop (mkF m 8 #[.val (.int p0), .val (.int ((p0 &&& (2147483647 : Int32)) % (5 : Int32))), .unset, .unset] [(.int ((p0 &&& (2147483647 : Int32)) % (5 : Int32)))])) _
      refine XS.ifYes X0.here hx rfl (pc0 := 8) (pc' := 20) rfl (hb hby at_8) rfl ((if0 _ _).trans (feq hk0).2) (by decide) (by decide) ?_
      show Steps p.tables e below (s₁.setTop (mkF m 20 #[.val (.int p0), .val (.int ((p0 &&& (2147483647 : Int32)) % (5 : Int32))), .unset, .unset] [])) _
      refine XS.iloadN X0.here hx rfl (hb hby at_20) rfl ?_
      show Steps p.tables e below (s₁.setTop (mkF m 21 #[.val (.int p0), .val (.int ((p0 &&& (2147483647 : Int32)) % (5 : Int32))), .unset, .unset] [(.int ((p0 &&& (2147483647 : Int32)) % (5 : Int32)))])) _
      refine XS.iconst X0.here hx rfl (hb hby at_21) ?_
      exact k)
    by_cases hk1 : ((p0 &&& (2147483647 : Int32)) % (5 : Int32)) = (1 : Int32)
    · -- hk1
      have pre7 : ∀ t, Steps p.tables e below (s₁.setTop (mkF m 25 #[.val (.int p0), .val (.int ((p0 &&& (2147483647 : Int32)) % (5 : Int32))), .unset, .unset] [])) t → G t := fun t k => pre6 t (by
        show Steps p.tables e below (s₁.setTop (mkF m 22 #[.val (.int p0), .val (.int ((p0 &&& (2147483647 : Int32)) % (5 : Int32))), .unset, .unset] [(.int (1 : Int32)), (.int ((p0 &&& (2147483647 : Int32)) % (5 : Int32)))])) _
        refine XS.icmpNo X0.here hx rfl (hb hby at_22) rfl (teq hk1).2 ?_
        exact k)
      obtain ⟨T8, X8, e8, st8⟩ := getS2 X0 hx hZ hown (host := "") (Or.inl (hw _ (List.mem_of_getElem? (i := 14) rfl))) Via.refl e0 S_NEW_UNIT (g := (mkF m 25 #[.val (.int p0), .val (.int ((p0 &&& (2147483647 : Int32)) % (5 : Int32))), .unset, .unset] [])) rfl (hb hby at_25)
      have pre8s : ∀ t, Steps p.tables e below (T8.setTop (mkF m 28 #[.val (.int p0), .val (.int ((p0 &&& (2147483647 : Int32)) % (5 : Int32))), .unset, .unset] [(.ref s_NEW_UNIT)])) t → G t := fun t k => pre7 t (st8 t k)
      have pre9 : ∀ t, Steps p.tables e below (T8.setTop (mkF m 69 #[.val (.int p0), .val (.int ((p0 &&& (2147483647 : Int32)) % (5 : Int32))), .val (.ref s_NEW_UNIT), .val (.int (0 : Int32))] [(.ref s_NEW_UNIT)])) t → G t := fun t k => pre8s t (by
        show Steps p.tables e below (T8.setTop (mkF m 28 #[.val (.int p0), .val (.int ((p0 &&& (2147483647 : Int32)) % (5 : Int32))), .unset, .unset] [(.ref s_NEW_UNIT)])) _
        refine XS.astoreN X8.here hx rfl (hb hby at_28) rfl rfl (l' := #[.val (.int p0), .val (.int ((p0 &&& (2147483647 : Int32)) % (5 : Int32))), .val (.ref s_NEW_UNIT), .unset]) rfl ?_
        show Steps p.tables e below (T8.setTop (mkF m 29 #[.val (.int p0), .val (.int ((p0 &&& (2147483647 : Int32)) % (5 : Int32))), .val (.ref s_NEW_UNIT), .unset] [])) _
        refine XS.iconst X8.here hx rfl (hb hby at_29) ?_
        show Steps p.tables e below (T8.setTop (mkF m 30 #[.val (.int p0), .val (.int ((p0 &&& (2147483647 : Int32)) % (5 : Int32))), .val (.ref s_NEW_UNIT), .unset] [(.int (0 : Int32))])) _
        refine XS.istoreN X8.here hx rfl (hb hby at_30) rfl (l' := #[.val (.int p0), .val (.int ((p0 &&& (2147483647 : Int32)) % (5 : Int32))), .val (.ref s_NEW_UNIT), .val (.int (0 : Int32))]) rfl ?_
        show Steps p.tables e below (T8.setTop (mkF m 31 #[.val (.int p0), .val (.int ((p0 &&& (2147483647 : Int32)) % (5 : Int32))), .val (.ref s_NEW_UNIT), .val (.int (0 : Int32))] [])) _
        refine XS.goto X8.here hx rfl (pc0 := 31) (pc' := 68) rfl (hb hby at_31) (by decide) (by decide) ?_
        show Steps p.tables e below (T8.setTop (mkF m 68 #[.val (.int p0), .val (.int ((p0 &&& (2147483647 : Int32)) % (5 : Int32))), .val (.ref s_NEW_UNIT), .val (.int (0 : Int32))] [])) _
        refine XS.aloadN X8.here hx rfl (hb hby at_68) rfl rfl ?_
        exact k)
      obtain ⟨cq10, kq10, q10a, q10b, q10c⟩ := isOf hZ e8 E_NEW_UNIT
      obtain ⟨_, _, ⟨T10, L10, k10, n10⟩, -, X10, ⟨Lc10, hQ10, l10, y10, z10⟩, st10⟩ := X8.virtualBack hx (y := (⟨"com/example/restate/restate/Phrasings$Subject", "leavesPlace", "()Z"⟩ : MethodName)) (z := (⟨"com/example/restate/restate/Phrasings$Subject", "leavesPlace", "()Z"⟩ : MethodName)) hown (mvT hZ (hw _ (List.mem_of_getElem? (i := 4) rfl))) (mvT hZ (hw _ (List.mem_of_getElem? (i := 5) rfl))) (notFace_of_selects (args := #[]) (mvT hZ (hw _ (List.mem_of_getElem? (i := 7) rfl)))) (mvT hZ (hw _ (List.mem_of_getElem? (i := 7) rfl))) (mvT hZ (hw _ (List.mem_of_getElem? (i := 6) rfl))) (by decide) (backOf (W := 0) (rm1 l Z a0 hw [] s_NEW_UNIT s_AGREEMENT s_NEW_DEFINITIONS h0 n0 Z0 S_AGREEMENT S_NEW_DEFINITIONS) hZ (hw _ (List.mem_of_getElem? (i := 8) rfl)) (hw _ (List.mem_of_getElem? (i := 2) rfl)) (by decide) (by decide)) q10a q10c (g := (mkF m 69 #[.val (.int p0), .val (.int ((p0 &&& (2147483647 : Int32)) % (5 : Int32))), .val (.ref s_NEW_UNIT), .val (.int (0 : Int32))] [(.ref s_NEW_UNIT)])) rfl (by rw [hml]; rfl) (Steps.refl _) (argsL := []) (rest := []) (lenOf pd_0 rfl) rfl (by show 2 * 0 + _ ≤ _; exact Nat.le_of_eq rfl) (hb hby at_69) (fun _ _ => ⟨rfl, e8, (Nat.le_of_ble_eq_true rfl), (Nat.le_of_ble_eq_true rfl)⟩)
      dsimp only [Pt.U, Pt.locs, Pt.cells, Pt.slots] at X10 l10 y10 z10 st10 hQ10
      subst l10 y10 z10
      obtain ⟨hv10, N10q, e10⟩ := hQ10
      rw [if_neg ne_NEW_UNIT_AGREEMENT, if_neg ne_NEW_UNIT_NEW_DEFINITIONS] at hv10
      subst hv10
      have N10 := Fr.app N0 N10q
      have pre10s : ∀ t, Steps p.tables e below (T10.setTop (mkF m 72 #[.val (.int p0), .val (.int ((p0 &&& (2147483647 : Int32)) % (5 : Int32))), .val (.ref s_NEW_UNIT), .val (.int (0 : Int32))] [(.int (0 : Int32))])) t → G t := fun t k => pre9 t (st10.trans k)
      obtain ⟨fs, hr, hrun, hended, hW, hsame⟩ := X10.leave (v := some (.int (1 : Int32))) (fun h => by rw [Bd.returns] at h; cases h)
      subst hG
      refine ⟨_, _, pre10s _ ?_, hrun, hended, _, _, rfl, ?_, ⟨_, rfl⟩, hW, hsame.mono (by decide) (by decide)⟩
      · skip
        show Steps p.tables e below (T10.setTop (mkF m 72 #[.val (.int p0), .val (.int ((p0 &&& (2147483647 : Int32)) % (5 : Int32))), .val (.ref s_NEW_UNIT), .val (.int (0 : Int32))] [(.int (0 : Int32))])) _
        refine XS.iloadN X10.here hx rfl (hb hby at_72) rfl ?_
        show Steps p.tables e below (T10.setTop (mkF m 73 #[.val (.int p0), .val (.int ((p0 &&& (2147483647 : Int32)) % (5 : Int32))), .val (.ref s_NEW_UNIT), .val (.int (0 : Int32))] [(.int (0 : Int32)), (.int (0 : Int32))])) _
        refine XS.icmpNo X10.here hx rfl (hb hby at_73) rfl (teq (by decide : (0 : Int32) = (0 : Int32))).2 ?_
        show Steps p.tables e below (T10.setTop (mkF m 76 #[.val (.int p0), .val (.int ((p0 &&& (2147483647 : Int32)) % (5 : Int32))), .val (.ref s_NEW_UNIT), .val (.int (0 : Int32))] [])) _
        refine XS.iconst X10.here hx rfl (hb hby at_76) ?_
        show Steps p.tables e below (T10.setTop (mkF m 77 #[.val (.int p0), .val (.int ((p0 &&& (2147483647 : Int32)) % (5 : Int32))), .val (.ref s_NEW_UNIT), .val (.int (0 : Int32))] [(.int (1 : Int32))])) _
        refine XS.goto X10.here hx rfl (pc0 := 77) (pc' := 81) rfl (hb hby at_77) (by decide) (by decide) ?_
        show Steps p.tables e below (T10.setTop (mkF m 81 #[.val (.int p0), .val (.int ((p0 &&& (2147483647 : Int32)) % (5 : Int32))), .val (.ref s_NEW_UNIT), .val (.int (0 : Int32))] [(.int (1 : Int32))])) _
        exact retN X10 hx (t := .boolean) Bd.returns (by simp) (hb hby at_81) hr
      · show Q_rm0 Z p0 s_AGREEMENT s_NEW_UNIT s_NEW_DEFINITIONS s_WORDS_AHEAD s_PLACE h0 n0 _ T10.heap _
        rw [e10]
        exact ⟨rfl, N10⟩
    · -- not hk1
      have pre11 : ∀ t, Steps p.tables e below (s₁.setTop (mkF m 36 #[.val (.int p0), .val (.int ((p0 &&& (2147483647 : Int32)) % (5 : Int32))), .unset, .unset] [(.int (2 : Int32)), (.int ((p0 &&& (2147483647 : Int32)) % (5 : Int32)))])) t → G t := fun t k => pre6 t (by
        show Steps p.tables e below (s₁.setTop (mkF m 22 #[.val (.int p0), .val (.int ((p0 &&& (2147483647 : Int32)) % (5 : Int32))), .unset, .unset] [(.int (1 : Int32)), (.int ((p0 &&& (2147483647 : Int32)) % (5 : Int32)))])) _
        refine XS.icmpYes X0.here hx rfl (pc0 := 22) (pc' := 34) rfl (hb hby at_22) rfl (feq hk1).2 (by decide) (by decide) ?_
        show Steps p.tables e below (s₁.setTop (mkF m 34 #[.val (.int p0), .val (.int ((p0 &&& (2147483647 : Int32)) % (5 : Int32))), .unset, .unset] [])) _
        refine XS.iloadN X0.here hx rfl (hb hby at_34) rfl ?_
        show Steps p.tables e below (s₁.setTop (mkF m 35 #[.val (.int p0), .val (.int ((p0 &&& (2147483647 : Int32)) % (5 : Int32))), .unset, .unset] [(.int ((p0 &&& (2147483647 : Int32)) % (5 : Int32)))])) _
        refine XS.iconst X0.here hx rfl (hb hby at_35) ?_
        exact k)
      by_cases hk2 : ((p0 &&& (2147483647 : Int32)) % (5 : Int32)) = (2 : Int32)
      · -- hk2
        have pre12 : ∀ t, Steps p.tables e below (s₁.setTop (mkF m 39 #[.val (.int p0), .val (.int ((p0 &&& (2147483647 : Int32)) % (5 : Int32))), .unset, .unset] [])) t → G t := fun t k => pre11 t (by
          show Steps p.tables e below (s₁.setTop (mkF m 36 #[.val (.int p0), .val (.int ((p0 &&& (2147483647 : Int32)) % (5 : Int32))), .unset, .unset] [(.int (2 : Int32)), (.int ((p0 &&& (2147483647 : Int32)) % (5 : Int32)))])) _
          refine XS.icmpNo X0.here hx rfl (hb hby at_36) rfl (teq hk2).2 ?_
          exact k)
        obtain ⟨T13, X13, e13, st13⟩ := getS2 X0 hx hZ hown (host := "") (Or.inl (hw _ (List.mem_of_getElem? (i := 18) rfl))) Via.refl e0 S_NEW_DEFINITIONS (g := (mkF m 39 #[.val (.int p0), .val (.int ((p0 &&& (2147483647 : Int32)) % (5 : Int32))), .unset, .unset] [])) rfl (hb hby at_39)
        have pre13s : ∀ t, Steps p.tables e below (T13.setTop (mkF m 42 #[.val (.int p0), .val (.int ((p0 &&& (2147483647 : Int32)) % (5 : Int32))), .unset, .unset] [(.ref s_NEW_DEFINITIONS)])) t → G t := fun t k => pre12 t (st13 t k)
        have pre14 : ∀ t, Steps p.tables e below (T13.setTop (mkF m 69 #[.val (.int p0), .val (.int ((p0 &&& (2147483647 : Int32)) % (5 : Int32))), .val (.ref s_NEW_DEFINITIONS), .val (.int (1 : Int32))] [(.ref s_NEW_DEFINITIONS)])) t → G t := fun t k => pre13s t (by
          show Steps p.tables e below (T13.setTop (mkF m 42 #[.val (.int p0), .val (.int ((p0 &&& (2147483647 : Int32)) % (5 : Int32))), .unset, .unset] [(.ref s_NEW_DEFINITIONS)])) _
          refine XS.astoreN X13.here hx rfl (hb hby at_42) rfl rfl (l' := #[.val (.int p0), .val (.int ((p0 &&& (2147483647 : Int32)) % (5 : Int32))), .val (.ref s_NEW_DEFINITIONS), .unset]) rfl ?_
          show Steps p.tables e below (T13.setTop (mkF m 43 #[.val (.int p0), .val (.int ((p0 &&& (2147483647 : Int32)) % (5 : Int32))), .val (.ref s_NEW_DEFINITIONS), .unset] [])) _
          refine XS.iconst X13.here hx rfl (hb hby at_43) ?_
          show Steps p.tables e below (T13.setTop (mkF m 44 #[.val (.int p0), .val (.int ((p0 &&& (2147483647 : Int32)) % (5 : Int32))), .val (.ref s_NEW_DEFINITIONS), .unset] [(.int (1 : Int32))])) _
          refine XS.istoreN X13.here hx rfl (hb hby at_44) rfl (l' := #[.val (.int p0), .val (.int ((p0 &&& (2147483647 : Int32)) % (5 : Int32))), .val (.ref s_NEW_DEFINITIONS), .val (.int (1 : Int32))]) rfl ?_
          show Steps p.tables e below (T13.setTop (mkF m 45 #[.val (.int p0), .val (.int ((p0 &&& (2147483647 : Int32)) % (5 : Int32))), .val (.ref s_NEW_DEFINITIONS), .val (.int (1 : Int32))] [])) _
          refine XS.goto X13.here hx rfl (pc0 := 45) (pc' := 68) rfl (hb hby at_45) (by decide) (by decide) ?_
          show Steps p.tables e below (T13.setTop (mkF m 68 #[.val (.int p0), .val (.int ((p0 &&& (2147483647 : Int32)) % (5 : Int32))), .val (.ref s_NEW_DEFINITIONS), .val (.int (1 : Int32))] [])) _
          refine XS.aloadN X13.here hx rfl (hb hby at_68) rfl rfl ?_
          exact k)
        obtain ⟨cq15, kq15, q15a, q15b, q15c⟩ := isOf hZ e13 E_NEW_DEFINITIONS
        obtain ⟨_, _, ⟨T15, L15, k15, n15⟩, -, X15, ⟨Lc15, hQ15, l15, y15, z15⟩, st15⟩ := X13.virtualBack hx (y := (⟨"com/example/restate/restate/Phrasings$Subject", "leavesPlace", "()Z"⟩ : MethodName)) (z := (⟨"com/example/restate/restate/Phrasings$Subject", "leavesPlace", "()Z"⟩ : MethodName)) hown (mvT hZ (hw _ (List.mem_of_getElem? (i := 4) rfl))) (mvT hZ (hw _ (List.mem_of_getElem? (i := 5) rfl))) (notFace_of_selects (args := #[]) (mvT hZ (hw _ (List.mem_of_getElem? (i := 7) rfl)))) (mvT hZ (hw _ (List.mem_of_getElem? (i := 7) rfl))) (mvT hZ (hw _ (List.mem_of_getElem? (i := 6) rfl))) (by decide) (backOf (W := 0) (rm1 l Z a0 hw [] s_NEW_DEFINITIONS s_AGREEMENT s_NEW_DEFINITIONS h0 n0 Z0 S_AGREEMENT S_NEW_DEFINITIONS) hZ (hw _ (List.mem_of_getElem? (i := 8) rfl)) (hw _ (List.mem_of_getElem? (i := 2) rfl)) (by decide) (by decide)) q15a q15c (g := (mkF m 69 #[.val (.int p0), .val (.int ((p0 &&& (2147483647 : Int32)) % (5 : Int32))), .val (.ref s_NEW_DEFINITIONS), .val (.int (1 : Int32))] [(.ref s_NEW_DEFINITIONS)])) rfl (by rw [hml]; rfl) (Steps.refl _) (argsL := []) (rest := []) (lenOf pd_0 rfl) rfl (by show 2 * 0 + _ ≤ _; exact Nat.le_of_eq rfl) (hb hby at_69) (fun _ _ => ⟨rfl, e13, (Nat.le_of_ble_eq_true rfl), (Nat.le_of_ble_eq_true rfl)⟩)
        dsimp only [Pt.U, Pt.locs, Pt.cells, Pt.slots] at X15 l15 y15 z15 st15 hQ15
        subst l15 y15 z15
        obtain ⟨hv15, N15q, e15⟩ := hQ15
        rw [if_neg ne_NEW_DEFINITIONS_AGREEMENT, if_pos rfl] at hv15
        subst hv15
        have N15 := Fr.app N0 N15q
        have pre15s : ∀ t, Steps p.tables e below (T15.setTop (mkF m 72 #[.val (.int p0), .val (.int ((p0 &&& (2147483647 : Int32)) % (5 : Int32))), .val (.ref s_NEW_DEFINITIONS), .val (.int (1 : Int32))] [(.int (1 : Int32))])) t → G t := fun t k => pre14 t (st15.trans k)
        obtain ⟨fs, hr, hrun, hended, hW, hsame⟩ := X15.leave (v := some (.int (1 : Int32))) (fun h => by rw [Bd.returns] at h; cases h)
        subst hG
        refine ⟨_, _, pre15s _ ?_, hrun, hended, _, _, rfl, ?_, ⟨_, rfl⟩, hW, hsame.mono (by decide) (by decide)⟩
        · skip
          show Steps p.tables e below (T15.setTop (mkF m 72 #[.val (.int p0), .val (.int ((p0 &&& (2147483647 : Int32)) % (5 : Int32))), .val (.ref s_NEW_DEFINITIONS), .val (.int (1 : Int32))] [(.int (1 : Int32))])) _
          refine XS.iloadN X15.here hx rfl (hb hby at_72) rfl ?_
          show Steps p.tables e below (T15.setTop (mkF m 73 #[.val (.int p0), .val (.int ((p0 &&& (2147483647 : Int32)) % (5 : Int32))), .val (.ref s_NEW_DEFINITIONS), .val (.int (1 : Int32))] [(.int (1 : Int32)), (.int (1 : Int32))])) _
          refine XS.icmpNo X15.here hx rfl (hb hby at_73) rfl (teq (by decide : (1 : Int32) = (1 : Int32))).2 ?_
          show Steps p.tables e below (T15.setTop (mkF m 76 #[.val (.int p0), .val (.int ((p0 &&& (2147483647 : Int32)) % (5 : Int32))), .val (.ref s_NEW_DEFINITIONS), .val (.int (1 : Int32))] [])) _
          refine XS.iconst X15.here hx rfl (hb hby at_76) ?_
          show Steps p.tables e below (T15.setTop (mkF m 77 #[.val (.int p0), .val (.int ((p0 &&& (2147483647 : Int32)) % (5 : Int32))), .val (.ref s_NEW_DEFINITIONS), .val (.int (1 : Int32))] [(.int (1 : Int32))])) _
          refine XS.goto X15.here hx rfl (pc0 := 77) (pc' := 81) rfl (hb hby at_77) (by decide) (by decide) ?_
          show Steps p.tables e below (T15.setTop (mkF m 81 #[.val (.int p0), .val (.int ((p0 &&& (2147483647 : Int32)) % (5 : Int32))), .val (.ref s_NEW_DEFINITIONS), .val (.int (1 : Int32))] [(.int (1 : Int32))])) _
          exact retN X15 hx (t := .boolean) Bd.returns (by simp) (hb hby at_81) hr
        · show Q_rm0 Z p0 s_AGREEMENT s_NEW_UNIT s_NEW_DEFINITIONS s_WORDS_AHEAD s_PLACE h0 n0 _ T15.heap _
          rw [e15]
          exact ⟨rfl, N15⟩
      · -- not hk2
        have pre16 : ∀ t, Steps p.tables e below (s₁.setTop (mkF m 50 #[.val (.int p0), .val (.int ((p0 &&& (2147483647 : Int32)) % (5 : Int32))), .unset, .unset] [(.int (3 : Int32)), (.int ((p0 &&& (2147483647 : Int32)) % (5 : Int32)))])) t → G t := fun t k => pre11 t (by
          show Steps p.tables e below (s₁.setTop (mkF m 36 #[.val (.int p0), .val (.int ((p0 &&& (2147483647 : Int32)) % (5 : Int32))), .unset, .unset] [(.int (2 : Int32)), (.int ((p0 &&& (2147483647 : Int32)) % (5 : Int32)))])) _
          refine XS.icmpYes X0.here hx rfl (pc0 := 36) (pc' := 48) rfl (hb hby at_36) rfl (feq hk2).2 (by decide) (by decide) ?_
          show Steps p.tables e below (s₁.setTop (mkF m 48 #[.val (.int p0), .val (.int ((p0 &&& (2147483647 : Int32)) % (5 : Int32))), .unset, .unset] [])) _
          refine XS.iloadN X0.here hx rfl (hb hby at_48) rfl ?_
          show Steps p.tables e below (s₁.setTop (mkF m 49 #[.val (.int p0), .val (.int ((p0 &&& (2147483647 : Int32)) % (5 : Int32))), .unset, .unset] [(.int ((p0 &&& (2147483647 : Int32)) % (5 : Int32)))])) _
          refine XS.iconst X0.here hx rfl (hb hby at_49) ?_
          exact k)
        by_cases hk3 : ((p0 &&& (2147483647 : Int32)) % (5 : Int32)) = (3 : Int32)
        · -- hk3
          have pre17 : ∀ t, Steps p.tables e below (s₁.setTop (mkF m 53 #[.val (.int p0), .val (.int ((p0 &&& (2147483647 : Int32)) % (5 : Int32))), .unset, .unset] [])) t → G t := fun t k => pre16 t (by
            show Steps p.tables e below (s₁.setTop (mkF m 50 #[.val (.int p0), .val (.int ((p0 &&& (2147483647 : Int32)) % (5 : Int32))), .unset, .unset] [(.int (3 : Int32)), (.int ((p0 &&& (2147483647 : Int32)) % (5 : Int32)))])) _
            refine XS.icmpNo X0.here hx rfl (hb hby at_50) rfl (teq hk3).2 ?_
            exact k)
          obtain ⟨T18, X18, e18, st18⟩ := getS2 X0 hx hZ hown (host := "") (Or.inl (hw _ (List.mem_of_getElem? (i := 10) rfl))) Via.refl e0 S_WORDS_AHEAD (g := (mkF m 53 #[.val (.int p0), .val (.int ((p0 &&& (2147483647 : Int32)) % (5 : Int32))), .unset, .unset] [])) rfl (hb hby at_53)
          have pre18s : ∀ t, Steps p.tables e below (T18.setTop (mkF m 56 #[.val (.int p0), .val (.int ((p0 &&& (2147483647 : Int32)) % (5 : Int32))), .unset, .unset] [(.ref s_WORDS_AHEAD)])) t → G t := fun t k => pre17 t (st18 t k)
          have pre19 : ∀ t, Steps p.tables e below (T18.setTop (mkF m 69 #[.val (.int p0), .val (.int ((p0 &&& (2147483647 : Int32)) % (5 : Int32))), .val (.ref s_WORDS_AHEAD), .val (.int (0 : Int32))] [(.ref s_WORDS_AHEAD)])) t → G t := fun t k => pre18s t (by
            show Steps p.tables e below (T18.setTop (mkF m 56 #[.val (.int p0), .val (.int ((p0 &&& (2147483647 : Int32)) % (5 : Int32))), .unset, .unset] [(.ref s_WORDS_AHEAD)])) _
            refine XS.astoreN X18.here hx rfl (hb hby at_56) rfl rfl (l' := #[.val (.int p0), .val (.int ((p0 &&& (2147483647 : Int32)) % (5 : Int32))), .val (.ref s_WORDS_AHEAD), .unset]) rfl ?_
            show Steps p.tables e below (T18.setTop (mkF m 57 #[.val (.int p0), .val (.int ((p0 &&& (2147483647 : Int32)) % (5 : Int32))), .val (.ref s_WORDS_AHEAD), .unset] [])) _
            refine XS.iconst X18.here hx rfl (hb hby at_57) ?_
            show Steps p.tables e below (T18.setTop (mkF m 58 #[.val (.int p0), .val (.int ((p0 &&& (2147483647 : Int32)) % (5 : Int32))), .val (.ref s_WORDS_AHEAD), .unset] [(.int (0 : Int32))])) _
            refine XS.istoreN X18.here hx rfl (hb hby at_58) rfl (l' := #[.val (.int p0), .val (.int ((p0 &&& (2147483647 : Int32)) % (5 : Int32))), .val (.ref s_WORDS_AHEAD), .val (.int (0 : Int32))]) rfl ?_
            show Steps p.tables e below (T18.setTop (mkF m 59 #[.val (.int p0), .val (.int ((p0 &&& (2147483647 : Int32)) % (5 : Int32))), .val (.ref s_WORDS_AHEAD), .val (.int (0 : Int32))] [])) _
            refine XS.goto X18.here hx rfl (pc0 := 59) (pc' := 68) rfl (hb hby at_59) (by decide) (by decide) ?_
            show Steps p.tables e below (T18.setTop (mkF m 68 #[.val (.int p0), .val (.int ((p0 &&& (2147483647 : Int32)) % (5 : Int32))), .val (.ref s_WORDS_AHEAD), .val (.int (0 : Int32))] [])) _
            refine XS.aloadN X18.here hx rfl (hb hby at_68) rfl rfl ?_
            exact k)
          obtain ⟨cq20, kq20, q20a, q20b, q20c⟩ := isOf hZ e18 E_WORDS_AHEAD
          obtain ⟨_, _, ⟨T20, L20, k20, n20⟩, -, X20, ⟨Lc20, hQ20, l20, y20, z20⟩, st20⟩ := X18.virtualBack hx (y := (⟨"com/example/restate/restate/Phrasings$Subject", "leavesPlace", "()Z"⟩ : MethodName)) (z := (⟨"com/example/restate/restate/Phrasings$Subject", "leavesPlace", "()Z"⟩ : MethodName)) hown (mvT hZ (hw _ (List.mem_of_getElem? (i := 4) rfl))) (mvT hZ (hw _ (List.mem_of_getElem? (i := 5) rfl))) (notFace_of_selects (args := #[]) (mvT hZ (hw _ (List.mem_of_getElem? (i := 7) rfl)))) (mvT hZ (hw _ (List.mem_of_getElem? (i := 7) rfl))) (mvT hZ (hw _ (List.mem_of_getElem? (i := 6) rfl))) (by decide) (backOf (W := 0) (rm1 l Z a0 hw [] s_WORDS_AHEAD s_AGREEMENT s_NEW_DEFINITIONS h0 n0 Z0 S_AGREEMENT S_NEW_DEFINITIONS) hZ (hw _ (List.mem_of_getElem? (i := 8) rfl)) (hw _ (List.mem_of_getElem? (i := 2) rfl)) (by decide) (by decide)) q20a q20c (g := (mkF m 69 #[.val (.int p0), .val (.int ((p0 &&& (2147483647 : Int32)) % (5 : Int32))), .val (.ref s_WORDS_AHEAD), .val (.int (0 : Int32))] [(.ref s_WORDS_AHEAD)])) rfl (by rw [hml]; rfl) (Steps.refl _) (argsL := []) (rest := []) (lenOf pd_0 rfl) rfl (by show 2 * 0 + _ ≤ _; exact Nat.le_of_eq rfl) (hb hby at_69) (fun _ _ => ⟨rfl, e18, (Nat.le_of_ble_eq_true rfl), (Nat.le_of_ble_eq_true rfl)⟩)
          dsimp only [Pt.U, Pt.locs, Pt.cells, Pt.slots] at X20 l20 y20 z20 st20 hQ20
          subst l20 y20 z20
          obtain ⟨hv20, N20q, e20⟩ := hQ20
          rw [if_neg ne_WORDS_AHEAD_AGREEMENT, if_neg ne_WORDS_AHEAD_NEW_DEFINITIONS] at hv20
          subst hv20
          have N20 := Fr.app N0 N20q
          have pre20s : ∀ t, Steps p.tables e below (T20.setTop (mkF m 72 #[.val (.int p0), .val (.int ((p0 &&& (2147483647 : Int32)) % (5 : Int32))), .val (.ref s_WORDS_AHEAD), .val (.int (0 : Int32))] [(.int (0 : Int32))])) t → G t := fun t k => pre19 t (st20.trans k)
          obtain ⟨fs, hr, hrun, hended, hW, hsame⟩ := X20.leave (v := some (.int (1 : Int32))) (fun h => by rw [Bd.returns] at h; cases h)
          subst hG
          refine ⟨_, _, pre20s _ ?_, hrun, hended, _, _, rfl, ?_, ⟨_, rfl⟩, hW, hsame.mono (by decide) (by decide)⟩
          · skip
            show Steps p.tables e below (T20.setTop (mkF m 72 #[.val (.int p0), .val (.int ((p0 &&& (2147483647 : Int32)) % (5 : Int32))), .val (.ref s_WORDS_AHEAD), .val (.int (0 : Int32))] [(.int (0 : Int32))])) _
            refine XS.iloadN X20.here hx rfl (hb hby at_72) rfl ?_
            show Steps p.tables e below (T20.setTop (mkF m 73 #[.val (.int p0), .val (.int ((p0 &&& (2147483647 : Int32)) % (5 : Int32))), .val (.ref s_WORDS_AHEAD), .val (.int (0 : Int32))] [(.int (0 : Int32)), (.int (0 : Int32))])) _
            refine XS.icmpNo X20.here hx rfl (hb hby at_73) rfl (teq (by decide : (0 : Int32) = (0 : Int32))).2 ?_
            show Steps p.tables e below (T20.setTop (mkF m 76 #[.val (.int p0), .val (.int ((p0 &&& (2147483647 : Int32)) % (5 : Int32))), .val (.ref s_WORDS_AHEAD), .val (.int (0 : Int32))] [])) _
            refine XS.iconst X20.here hx rfl (hb hby at_76) ?_
            show Steps p.tables e below (T20.setTop (mkF m 77 #[.val (.int p0), .val (.int ((p0 &&& (2147483647 : Int32)) % (5 : Int32))), .val (.ref s_WORDS_AHEAD), .val (.int (0 : Int32))] [(.int (1 : Int32))])) _
            refine XS.goto X20.here hx rfl (pc0 := 77) (pc' := 81) rfl (hb hby at_77) (by decide) (by decide) ?_
            show Steps p.tables e below (T20.setTop (mkF m 81 #[.val (.int p0), .val (.int ((p0 &&& (2147483647 : Int32)) % (5 : Int32))), .val (.ref s_WORDS_AHEAD), .val (.int (0 : Int32))] [(.int (1 : Int32))])) _
            exact retN X20 hx (t := .boolean) Bd.returns (by simp) (hb hby at_81) hr
          · show Q_rm0 Z p0 s_AGREEMENT s_NEW_UNIT s_NEW_DEFINITIONS s_WORDS_AHEAD s_PLACE h0 n0 _ T20.heap _
            rw [e20]
            exact ⟨rfl, N20⟩
        · -- not hk3
          have pre21 : ∀ t, Steps p.tables e below (s₁.setTop (mkF m 62 #[.val (.int p0), .val (.int ((p0 &&& (2147483647 : Int32)) % (5 : Int32))), .unset, .unset] [])) t → G t := fun t k => pre16 t (by
            show Steps p.tables e below (s₁.setTop (mkF m 50 #[.val (.int p0), .val (.int ((p0 &&& (2147483647 : Int32)) % (5 : Int32))), .unset, .unset] [(.int (3 : Int32)), (.int ((p0 &&& (2147483647 : Int32)) % (5 : Int32)))])) _
            refine XS.icmpYes X0.here hx rfl (pc0 := 50) (pc' := 62) rfl (hb hby at_50) rfl (feq hk3).2 (by decide) (by decide) ?_
            exact k)
          obtain ⟨T22, X22, e22, st22⟩ := getS2 X0 hx hZ hown (host := "") (Or.inl (hw _ (List.mem_of_getElem? (i := 16) rfl))) Via.refl e0 S_PLACE (g := (mkF m 62 #[.val (.int p0), .val (.int ((p0 &&& (2147483647 : Int32)) % (5 : Int32))), .unset, .unset] [])) rfl (hb hby at_62)
          have pre22s : ∀ t, Steps p.tables e below (T22.setTop (mkF m 65 #[.val (.int p0), .val (.int ((p0 &&& (2147483647 : Int32)) % (5 : Int32))), .unset, .unset] [(.ref s_PLACE)])) t → G t := fun t k => pre21 t (st22 t k)
          have pre23 : ∀ t, Steps p.tables e below (T22.setTop (mkF m 69 #[.val (.int p0), .val (.int ((p0 &&& (2147483647 : Int32)) % (5 : Int32))), .val (.ref s_PLACE), .val (.int (0 : Int32))] [(.ref s_PLACE)])) t → G t := fun t k => pre22s t (by
            show Steps p.tables e below (T22.setTop (mkF m 65 #[.val (.int p0), .val (.int ((p0 &&& (2147483647 : Int32)) % (5 : Int32))), .unset, .unset] [(.ref s_PLACE)])) _
            refine XS.astoreN X22.here hx rfl (hb hby at_65) rfl rfl (l' := #[.val (.int p0), .val (.int ((p0 &&& (2147483647 : Int32)) % (5 : Int32))), .val (.ref s_PLACE), .unset]) rfl ?_
            show Steps p.tables e below (T22.setTop (mkF m 66 #[.val (.int p0), .val (.int ((p0 &&& (2147483647 : Int32)) % (5 : Int32))), .val (.ref s_PLACE), .unset] [])) _
            refine XS.iconst X22.here hx rfl (hb hby at_66) ?_
            show Steps p.tables e below (T22.setTop (mkF m 67 #[.val (.int p0), .val (.int ((p0 &&& (2147483647 : Int32)) % (5 : Int32))), .val (.ref s_PLACE), .unset] [(.int (0 : Int32))])) _
            refine XS.istoreN X22.here hx rfl (hb hby at_67) rfl (l' := #[.val (.int p0), .val (.int ((p0 &&& (2147483647 : Int32)) % (5 : Int32))), .val (.ref s_PLACE), .val (.int (0 : Int32))]) rfl ?_
            show Steps p.tables e below (T22.setTop (mkF m 68 #[.val (.int p0), .val (.int ((p0 &&& (2147483647 : Int32)) % (5 : Int32))), .val (.ref s_PLACE), .val (.int (0 : Int32))] [])) _
            refine XS.aloadN X22.here hx rfl (hb hby at_68) rfl rfl ?_
            exact k)
          obtain ⟨cq24, kq24, q24a, q24b, q24c⟩ := isOf hZ e22 E_PLACE
          obtain ⟨_, _, ⟨T24, L24, k24, n24⟩, -, X24, ⟨Lc24, hQ24, l24, y24, z24⟩, st24⟩ := X22.virtualBack hx (y := (⟨"com/example/restate/restate/Phrasings$Subject", "leavesPlace", "()Z"⟩ : MethodName)) (z := (⟨"com/example/restate/restate/Phrasings$Subject", "leavesPlace", "()Z"⟩ : MethodName)) hown (mvT hZ (hw _ (List.mem_of_getElem? (i := 4) rfl))) (mvT hZ (hw _ (List.mem_of_getElem? (i := 5) rfl))) (notFace_of_selects (args := #[]) (mvT hZ (hw _ (List.mem_of_getElem? (i := 7) rfl)))) (mvT hZ (hw _ (List.mem_of_getElem? (i := 7) rfl))) (mvT hZ (hw _ (List.mem_of_getElem? (i := 6) rfl))) (by decide) (backOf (W := 0) (rm1 l Z a0 hw [] s_PLACE s_AGREEMENT s_NEW_DEFINITIONS h0 n0 Z0 S_AGREEMENT S_NEW_DEFINITIONS) hZ (hw _ (List.mem_of_getElem? (i := 8) rfl)) (hw _ (List.mem_of_getElem? (i := 2) rfl)) (by decide) (by decide)) q24a q24c (g := (mkF m 69 #[.val (.int p0), .val (.int ((p0 &&& (2147483647 : Int32)) % (5 : Int32))), .val (.ref s_PLACE), .val (.int (0 : Int32))] [(.ref s_PLACE)])) rfl (by rw [hml]; rfl) (Steps.refl _) (argsL := []) (rest := []) (lenOf pd_0 rfl) rfl (by show 2 * 0 + _ ≤ _; exact Nat.le_of_eq rfl) (hb hby at_69) (fun _ _ => ⟨rfl, e22, (Nat.le_of_ble_eq_true rfl), (Nat.le_of_ble_eq_true rfl)⟩)
          dsimp only [Pt.U, Pt.locs, Pt.cells, Pt.slots] at X24 l24 y24 z24 st24 hQ24
          subst l24 y24 z24
          obtain ⟨hv24, N24q, e24⟩ := hQ24
          rw [if_neg ne_PLACE_AGREEMENT, if_neg ne_PLACE_NEW_DEFINITIONS] at hv24
          subst hv24
          have N24 := Fr.app N0 N24q
          have pre24s : ∀ t, Steps p.tables e below (T24.setTop (mkF m 72 #[.val (.int p0), .val (.int ((p0 &&& (2147483647 : Int32)) % (5 : Int32))), .val (.ref s_PLACE), .val (.int (0 : Int32))] [(.int (0 : Int32))])) t → G t := fun t k => pre23 t (st24.trans k)
          obtain ⟨fs, hr, hrun, hended, hW, hsame⟩ := X24.leave (v := some (.int (1 : Int32))) (fun h => by rw [Bd.returns] at h; cases h)
          subst hG
          refine ⟨_, _, pre24s _ ?_, hrun, hended, _, _, rfl, ?_, ⟨_, rfl⟩, hW, hsame.mono (by decide) (by decide)⟩
          · skip
            show Steps p.tables e below (T24.setTop (mkF m 72 #[.val (.int p0), .val (.int ((p0 &&& (2147483647 : Int32)) % (5 : Int32))), .val (.ref s_PLACE), .val (.int (0 : Int32))] [(.int (0 : Int32))])) _
            refine XS.iloadN X24.here hx rfl (hb hby at_72) rfl ?_
            show Steps p.tables e below (T24.setTop (mkF m 73 #[.val (.int p0), .val (.int ((p0 &&& (2147483647 : Int32)) % (5 : Int32))), .val (.ref s_PLACE), .val (.int (0 : Int32))] [(.int (0 : Int32)), (.int (0 : Int32))])) _
            refine XS.icmpNo X24.here hx rfl (hb hby at_73) rfl (teq (by decide : (0 : Int32) = (0 : Int32))).2 ?_
            show Steps p.tables e below (T24.setTop (mkF m 76 #[.val (.int p0), .val (.int ((p0 &&& (2147483647 : Int32)) % (5 : Int32))), .val (.ref s_PLACE), .val (.int (0 : Int32))] [])) _
            refine XS.iconst X24.here hx rfl (hb hby at_76) ?_
            show Steps p.tables e below (T24.setTop (mkF m 77 #[.val (.int p0), .val (.int ((p0 &&& (2147483647 : Int32)) % (5 : Int32))), .val (.ref s_PLACE), .val (.int (0 : Int32))] [(.int (1 : Int32))])) _
            refine XS.goto X24.here hx rfl (pc0 := 77) (pc' := 81) rfl (hb hby at_77) (by decide) (by decide) ?_
            show Steps p.tables e below (T24.setTop (mkF m 81 #[.val (.int p0), .val (.int ((p0 &&& (2147483647 : Int32)) % (5 : Int32))), .val (.ref s_PLACE), .val (.int (0 : Int32))] [(.int (1 : Int32))])) _
            exact retN X24 hx (t := .boolean) Bd.returns (by simp) (hb hby at_81) hr
          · show Q_rm0 Z p0 s_AGREEMENT s_NEW_UNIT s_NEW_DEFINITIONS s_WORDS_AHEAD s_PLACE h0 n0 _ T24.heap _
            rw [e24]
            exact ⟨rfl, N24⟩
set_option maxRecDepth 65536 in
set_option maxHeartbeats 40000000 in
theorem comes_1 {Post : Tables → Env → Array Value → State → Outcome → State → Prop} (hpost : ∀ tb e args s v u, (limb_1_1.after args s (.returned v) u = true ∧ limb_1_2.after args s (.returned v) u = true ∧ True) → FrameEnd s (.returned v) u (Jvm.fieldLocs frame_1_writes args s ++ Jvm.arrayLocs frame_1_arrays args s ++ Jvm.staticLocs frame_1_statics s) 0 0 → Post tb e args s (.returned v) u) :
    ArmFor flags0 classFile x code maxLocals ret World_1 tables_1 room_1 Calls_1 rest_1 Pre_1 Post := by
  intro l hfl _ _ p e ha hc hk s m args below hf hA hF happ hP
  obtain ⟨hcalls, hrest, hpre⟩ := hP
  obtain ⟨-, -, -, hnamed, -, -, -, hat⟩ := (Spec.applies_iff hf).mp happ
  obtain ⟨hg, hn⟩ := and_e (Cond.before_iff.mp (show (Jvm.Cond.and given_1 narrow_1).before args s = true from hpre))
  obtain ⟨ga0, gb0⟩ := and_e hg
  obtain ⟨w0, rfl⟩ : ∃ w0 : Value, args = #[w0] := by
    have hs : args.size = 1 := by simpa [Cond.value, given_1] using ga0
    obtain ⟨L⟩ := args
    match L, hs with
    | [w0], _ => exact ⟨w0, rfl⟩
  have hw := fun d (hd : d ∈ tables_1) => atoms_spec (ws := Jvm.Cond.code x code maxLocals ret :: tables_1) hat d (List.mem_cons_of_mem _ hd)
  have hfit : Fit s := fun {y c} hc i hi => by
    obtain ⟨ha, rfl⟩ := Array.getElem?_eq_some_iff.mp hc
    have q := List.all_eq_true.mp ((Array.all_eq_true_iff_forall_mem.mp hF) _ (Array.getElem_mem ha)) i (List.mem_range.mpr hi)
    simpa [Array.getElem?_eq_getElem hi] using q
  obtain ⟨i0, ei0⟩ := is_v gb0
  obtain rfl : w0 = (.int i0) := Option.some.inj ei0
  obtain ⟨na1, nb1⟩ := and_e hn
  obtain ⟨na2, nb2⟩ := and_e nb1
  obtain ⟨na3, nb3⟩ := and_e nb2
  obtain ⟨na4, nb4⟩ := and_e nb3
  obtain ⟨na5, nb5⟩ := and_e nb4
  obtain ⟨na6, nb6⟩ := and_e nb5
  obtain ⟨na7, nb7⟩ := and_e nb6
  obtain ⟨na8, nb8⟩ := and_e nb7
  obtain ⟨na9, nb9⟩ := and_e nb8
  obtain ⟨s_AGREEMENT, ev_AGREEMENT⟩ := exa_v na1
  have E_AGREEMENT : Exa s s.heap s_AGREEMENT "com/example/restate/restate/Phrasings$Subject" := Exa.start ev_AGREEMENT na1
  have S_AGREEMENT : Sta s s.heap "com/example/restate/restate/Phrasings$Subject" "AGREEMENT" "Lcom/example/restate/restate/Phrasings$Subject;" (.ref s_AGREEMENT) := Sta.start ev_AGREEMENT (Or.inr ⟨(hw _ (List.mem_of_getElem? (i := 2) rfl)), (hw _ (List.mem_of_getElem? (i := 3) rfl))⟩)
  obtain ⟨s_WORDS_AHEAD, ev_WORDS_AHEAD⟩ := exa_v na2
  have E_WORDS_AHEAD : Exa s s.heap s_WORDS_AHEAD "com/example/restate/restate/Phrasings$Subject" := Exa.start ev_WORDS_AHEAD na2
  have S_WORDS_AHEAD : Sta s s.heap "com/example/restate/restate/Phrasings$Subject" "WORDS_AHEAD" "Lcom/example/restate/restate/Phrasings$Subject;" (.ref s_WORDS_AHEAD) := Sta.start ev_WORDS_AHEAD (Or.inr ⟨(hw _ (List.mem_of_getElem? (i := 2) rfl)), (hw _ (List.mem_of_getElem? (i := 11) rfl))⟩)
  obtain ⟨s_NEW_DEFINITIONS, ev_NEW_DEFINITIONS⟩ := exa_v na5
  have E_NEW_DEFINITIONS : Exa s s.heap s_NEW_DEFINITIONS "com/example/restate/restate/Phrasings$Subject" := Exa.start ev_NEW_DEFINITIONS na5
  have S_NEW_DEFINITIONS : Sta s s.heap "com/example/restate/restate/Phrasings$Subject" "NEW_DEFINITIONS" "Lcom/example/restate/restate/Phrasings$Subject;" (.ref s_NEW_DEFINITIONS) := Sta.start ev_NEW_DEFINITIONS (Or.inr ⟨(hw _ (List.mem_of_getElem? (i := 2) rfl)), (hw _ (List.mem_of_getElem? (i := 13) rfl))⟩)
  obtain ⟨s_NEW_UNIT, ev_NEW_UNIT⟩ := exa_v na7
  have E_NEW_UNIT : Exa s s.heap s_NEW_UNIT "com/example/restate/restate/Phrasings$Subject" := Exa.start ev_NEW_UNIT na7
  have S_NEW_UNIT : Sta s s.heap "com/example/restate/restate/Phrasings$Subject" "NEW_UNIT" "Lcom/example/restate/restate/Phrasings$Subject;" (.ref s_NEW_UNIT) := Sta.start ev_NEW_UNIT (Or.inr ⟨(hw _ (List.mem_of_getElem? (i := 2) rfl)), (hw _ (List.mem_of_getElem? (i := 15) rfl))⟩)
  obtain ⟨s_PLACE, ev_PLACE⟩ := exa_v na9
  have E_PLACE : Exa s s.heap s_PLACE "com/example/restate/restate/Phrasings$Subject" := Exa.start ev_PLACE na9
  have S_PLACE : Sta s s.heap "com/example/restate/restate/Phrasings$Subject" "PLACE" "Lcom/example/restate/restate/Phrasings$Subject;" (.ref s_PLACE) := Sta.start ev_PLACE (Or.inr ⟨(hw _ (List.mem_of_getElem? (i := 2) rfl)), (hw _ (List.mem_of_getElem? (i := 17) rfl))⟩)
  have O_WORDS_AHEAD_ordinal : Fld s s.heap s_WORDS_AHEAD "java/lang/Enum" "ordinal" "I" (.int 3) := Fld.start ((fld_at ev_WORDS_AHEAD).symm.trans (eqv_i (Term.int_eval _) na3))
  have O_AGREEMENT_ordinal : Fld s s.heap s_AGREEMENT "java/lang/Enum" "ordinal" "I" (.int 0) := Fld.start ((fld_at ev_AGREEMENT).symm.trans (eqv_i (Term.int_eval _) na4))
  have O_NEW_DEFINITIONS_ordinal : Fld s s.heap s_NEW_DEFINITIONS "java/lang/Enum" "ordinal" "I" (.int 2) := Fld.start ((fld_at ev_NEW_DEFINITIONS).symm.trans (eqv_i (Term.int_eval _) na6))
  have O_NEW_UNIT_ordinal : Fld s s.heap s_NEW_UNIT "java/lang/Enum" "ordinal" "I" (.int 1) := Fld.start ((fld_at ev_NEW_UNIT).symm.trans (eqv_i (Term.int_eval _) na8))
  have O_PLACE_ordinal : Fld s s.heap s_PLACE "java/lang/Enum" "ordinal" "I" (.int 4) := Fld.start ((fld_at ev_PLACE).symm.trans (eqv_i (Term.int_eval _) nb9))
  have ne_NEW_UNIT_AGREEMENT : s_NEW_UNIT ≠ s_AGREEMENT := Fld.ne O_NEW_UNIT_ordinal O_AGREEMENT_ordinal (by decide)
  have ne_NEW_UNIT_NEW_DEFINITIONS : s_NEW_UNIT ≠ s_NEW_DEFINITIONS := Fld.ne O_NEW_UNIT_ordinal O_NEW_DEFINITIONS_ordinal (by decide)
  have ne_WORDS_AHEAD_AGREEMENT : s_WORDS_AHEAD ≠ s_AGREEMENT := Fld.ne O_WORDS_AHEAD_ordinal O_AGREEMENT_ordinal (by decide)
  have ne_WORDS_AHEAD_NEW_DEFINITIONS : s_WORDS_AHEAD ≠ s_NEW_DEFINITIONS := Fld.ne O_WORDS_AHEAD_ordinal O_NEW_DEFINITIONS_ordinal (by decide)
  have ne_PLACE_AGREEMENT : s_PLACE ≠ s_AGREEMENT := Fld.ne O_PLACE_ordinal O_AGREEMENT_ordinal (by decide)
  have ne_PLACE_NEW_DEFINITIONS : s_PLACE ≠ s_NEW_DEFINITIONS := Fld.ne O_PLACE_ordinal O_NEW_DEFINITIONS_ordinal (by decide)
  have ne_NEW_DEFINITIONS_AGREEMENT : s_NEW_DEFINITIONS ≠ s_AGREEMENT := Fld.ne O_NEW_DEFINITIONS_ordinal O_AGREEMENT_ordinal (by decide)
  obtain ⟨n, o, h1, h2, h3, _, L, rfl, ⟨rfl, N⟩, hq⟩ := rm0 l s _ hw tables_1 i0 s_AGREEMENT s_NEW_UNIT s_NEW_DEFINITIONS s_WORDS_AHEAD s_PLACE s.heap s.heap.size (Nat.le_refl _) S_AGREEMENT S_NEW_UNIT S_NEW_DEFINITIONS S_WORDS_AHEAD S_PLACE E_AGREEMENT E_NEW_UNIT E_NEW_DEFINITIONS E_WORDS_AHEAD E_PLACE ne_NEW_UNIT_AGREEMENT ne_NEW_UNIT_NEW_DEFINITIONS ne_WORDS_AHEAD_AGREEMENT ne_WORDS_AHEAD_NEW_DEFINITIONS ne_PLACE_AGREEMENT ne_PLACE_NEW_DEFINITIONS ne_NEW_DEFINITIONS_AGREEMENT p e ha hc hk s m _ below hf ((Spec.applies_iff_loose hf).mp happ).1 ⟨rfl, State.Warmed39.refl s, rfl⟩ trivial
  refine ⟨n, _, h1, h2, h3, hpost _ _ _ _ _ _ ⟨Cond.after_iff.mpr rfl, Cond.after_iff.mpr (eq_i res_at (Term.int_eval (1)) rfl), trivial⟩ ⟨hq.1, hq.2.1, (hq.2.2.sift fun y hy => Or.inr (N y hy)).mono (by decide) (by decide)⟩⟩
theorem main_1_1 : Claimed_1_1 := comes_1 fun _ _ _ _ _ _ h hF => ⟨h.1, hF⟩
theorem main_1_2 : Claimed_1_2 := comes_1 fun _ _ _ _ _ _ h hF => ⟨h.2.1, hF⟩
end Jvm.Pilot.@@N@@
namespace Jvm.Pilot.@@N@@
open Jvm Jvm.ClassFile Sem Op Lib Jvm.Free Jvm.Stand Jvm.Pilot.@@N@@.Jvm.D
/-! MADE BY PROGRAM (witnessworld.py) out of the Statement's table words and the real class files: 12 classes; the members and pool entries that the words name. The judged class is class 1, her method 1. -/
namespace start1
open Jvm.ClassFile
def u (s : String) : CpInfo := .utf8 (stringToUtf16 s)
/-- a pool by its gaps: so many unusable entries, then the entry; so many at the end -/
def gap : Nat → List CpInfo → List CpInfo
  | 0, r => r
  | n + 1, r => .unusable :: gap n r
def poolList (es : List (Nat × CpInfo)) (last : Nat) : List CpInfo := es.foldr (fun e r => gap e.1 (e.2 :: r)) (gap last [])
def pool (es : List (Nat × CpInfo)) (last : Nat) : Array CpInfo := ⟨poolList es last⟩
def fileOf (pool : Array CpInfo) (this : Nat) (attrs : Array Attribute := #[]) (ms : Array MethodInfo := #[]) (fl : Nat := 33) (sup : Nat := 0) (ifs : Array Nat := #[]) (fds : Array FieldInfo := #[]) : ClassFile where
  minorVersion := 0
  majorVersion := 65
  constantPool := pool
  accessFlags := fl
  thisClass := this
  superClass := sup
  interfaces := ifs
  fields := fds
  methods := ms
  attributes := attrs
def plain (name : String) (sup : Option ClassId) : Class where
  name := name
  kind := .ordinary
  loader := none
  accessFlags := 33
  super := sup
  interfaces := #[]
  cf := none
  fields := #[]
  methods := #[]
  instanceTypes := #[]
  staticTypes := #[]
  resolved := #[]
  callSites := []
  init := .initialized
  statics := none
  mirror := none

def pool0 : Array CpInfo := pool [(5, u "<init>"), (0, u "()V"), (1, .class_ 10), (1, u "java/lang/Object")] 113

def k0m0 : Method := { name := "<init>", desc := "()V", sig := { parameters := [], returnType := none }, accessFlags := 1, code := none }
/-- java/lang/Object -/
def k0 : Class := { plain "java/lang/Object" none with
  accessFlags := 33
  interfaces := #[]
  cf := some (fileOf pool0 8 #[] #[{ accessFlags := 1, nameIndex := 5, descriptorIndex := 6, attributes := #[] }] 33 0 #[] #[])
  fields := #[]
  methods := #[k0m0]
  instanceTypes := #[]
  staticTypes := #[]
  resolved := Array.replicate 124 none
  statics := none }

def pool1 : Array CpInfo := pool [(2, .class_ 4), (1, u "java/lang/Object"), (0, u "<init>"), (0, u "()V"), (0, .integer 2147483647), (0, .fieldref 9 10), (0, .class_ 11), (0, .nameAndType 12 13), (0, u "com/example/restate/restate/Phrasings$Subject"), (0, u "AGREEMENT"), (0, u "Lcom/example/restate/restate/Phrasings$Subject;"), (0, .fieldref 9 15), (0, .nameAndType 16 13), (0, u "NEW_UNIT"), (0, .fieldref 9 18), (0, .nameAndType 19 13), (0, u "NEW_DEFINITIONS"), (0, .fieldref 9 21), (0, .nameAndType 22 13), (0, u "WORDS_AHEAD"), (0, .fieldref 9 24), (0, .nameAndType 25 13), (0, u "PLACE"), (0, .methodref 9 27), (0, .nameAndType 28 29), (0, u "leavesPlace"), (0, u "()Z"), (0, .class_ 31), (0, u "com/example/restate/restate/SubjectLeavesPlacePinLaw"), (2, u "law"), (0, u "(I)Z")] 7

def k1m0 : Method := { name := "<init>", desc := "()V", sig := { parameters := [], returnType := none }, accessFlags := 2, code := none }
def k1c1 : Code := { maxStack := 2, maxLocals := 4, code := code, exceptionTable := #[], attributes := #[] }
def k1m1 : Method := { name := "law", desc := "(I)Z", sig := { parameters := [.int], returnType := some .boolean }, accessFlags := 9, code := some k1c1 }
/-- com/example/restate/restate/SubjectLeavesPlacePinLaw -/
def k1 : Class := { plain "com/example/restate/restate/SubjectLeavesPlacePinLaw" (some 0) with
  accessFlags := 49
  interfaces := #[]
  cf := some (fileOf pool1 30 #[] #[{ accessFlags := 2, nameIndex := 5, descriptorIndex := 6, attributes := #[] }, { accessFlags := 9, nameIndex := 34, descriptorIndex := 35, attributes := #[] }] 49 2 #[] #[])
  fields := #[]
  methods := #[k1m0, k1m1]
  instanceTypes := #[]
  staticTypes := #[]
  resolved := Array.replicate 43 none
  statics := none }

def pool2 : Array CpInfo := pool [(1, .class_ 2), (0, u "java/lang/constant/Constable"), (0, .class_ 4), (0, u "java/lang/Object")] 6

/-- java/lang/constant/Constable -/
def k2 : Class := { plain "java/lang/constant/Constable" (some 0) with
  accessFlags := 1537
  interfaces := #[]
  cf := some (fileOf pool2 1 #[] #[] 1537 3 #[] #[])
  fields := #[]
  methods := #[]
  instanceTypes := #[]
  staticTypes := #[]
  resolved := Array.replicate 11 none
  statics := none }

def pool3 : Array CpInfo := pool [(1, .class_ 2), (0, u "java/lang/Comparable"), (0, .class_ 4), (0, u "java/lang/Object")] 7

/-- java/lang/Comparable -/
def k3 : Class := { plain "java/lang/Comparable" (some 0) with
  accessFlags := 1537
  interfaces := #[]
  cf := some (fileOf pool3 1 #[] #[] 1537 3 #[] #[])
  fields := #[]
  methods := #[]
  instanceTypes := #[]
  staticTypes := #[]
  resolved := Array.replicate 12 none
  statics := none }

def pool4 : Array CpInfo := pool [(1, .class_ 2), (0, u "java/io/Serializable"), (0, .class_ 4), (0, u "java/lang/Object")] 2

/-- java/io/Serializable -/
def k4 : Class := { plain "java/io/Serializable" (some 0) with
  accessFlags := 1537
  interfaces := #[]
  cf := some (fileOf pool4 1 #[] #[] 1537 3 #[] #[])
  fields := #[]
  methods := #[]
  instanceTypes := #[]
  staticTypes := #[]
  resolved := Array.replicate 7 none
  statics := none }

def pool5 : Array CpInfo := pool [(2, .class_ 4), (1, u "java/lang/Enum"), (0, u "name"), (0, u "Ljava/lang/String;"), (2, u "ordinal"), (0, u "I"), (1, .class_ 14), (1, u "java/lang/Object"), (4, u "hash"), (86, .class_ 108), (1, u "java/lang/Enum$EnumDesc"), (2, .class_ 112), (0, u "java/lang/constant/Constable"), (0, .class_ 114), (0, u "java/lang/Comparable"), (0, .class_ 116), (0, u "java/io/Serializable")] 87

/-- java/lang/Enum -/
def k5 : Class := { plain "java/lang/Enum" (some 0) with
  accessFlags := 1057
  interfaces := #[2, 3, 4]
  cf := some (fileOf pool5 2 #[.nestMembers #[106]] #[] 1057 12 #[111, 113, 115] #[{ accessFlags := 18, nameIndex := 5, descriptorIndex := 6, attributes := #[] }, { accessFlags := 18, nameIndex := 9, descriptorIndex := 10, attributes := #[] }, { accessFlags := 2, nameIndex := 19, descriptorIndex := 10, attributes := #[] }])
  fields := #[{ name := "name", type := (.object "java/lang/String"), accessFlags := 18, slot := 0, constantValue := 0 }, { name := "ordinal", type := .int, accessFlags := 18, slot := 1, constantValue := 0 }, { name := "hash", type := .int, accessFlags := 2, slot := 2, constantValue := 0 }]
  methods := #[]
  instanceTypes := #[(.object "java/lang/String"), .int, .int]
  staticTypes := #[]
  resolved := Array.replicate 204 none
  statics := none }

def pool6 : Array CpInfo := pool [(1, .class_ 2), (0, u "com/example/restate/restate/Phrasings$Subject"), (0, .fieldref 1 4), (0, .nameAndType 5 6), (0, u "AGREEMENT"), (0, u "Lcom/example/restate/restate/Phrasings$Subject;"), (2, u "NEW_UNIT"), (0, .fieldref 1 11), (0, .nameAndType 12 6), (0, u "NEW_DEFINITIONS"), (2, u "WORDS_AHEAD"), (2, u "PLACE"), (2, u "$VALUES"), (0, u "[Lcom/example/restate/restate/Phrasings$Subject;"), (6, .class_ 31), (1, u "java/lang/Enum"), (23, u "leavesPlace"), (0, u "()Z"), (6, .class_ 64), (0, u "com/example/restate/restate/Phrasings")] 2

def k6c0 : Code := { maxStack := 2, maxLocals := 1, code := prog_108_method_4_code, exceptionTable := #[], attributes := #[] }
def k6m0 : Method := { name := "leavesPlace", desc := "()Z", sig := { parameters := [], returnType := some .boolean }, accessFlags := 0, code := some k6c0 }
/-- com/example/restate/restate/Phrasings$Subject -/
def k6 : Class := { plain "com/example/restate/restate/Phrasings$Subject" (some 5) with
  accessFlags := 16432
  interfaces := #[]
  cf := some (fileOf pool6 1 #[.nestHost 63] #[{ accessFlags := 0, nameIndex := 55, descriptorIndex := 56, attributes := #[] }] 16432 29 #[] #[{ accessFlags := 16409, nameIndex := 5, descriptorIndex := 6, attributes := #[] }, { accessFlags := 16409, nameIndex := 9, descriptorIndex := 6, attributes := #[] }, { accessFlags := 16409, nameIndex := 12, descriptorIndex := 6, attributes := #[] }, { accessFlags := 16409, nameIndex := 15, descriptorIndex := 6, attributes := #[] }, { accessFlags := 16409, nameIndex := 18, descriptorIndex := 6, attributes := #[] }, { accessFlags := 4122, nameIndex := 21, descriptorIndex := 22, attributes := #[] }])
  fields := #[{ name := "AGREEMENT", type := (.object "com/example/restate/restate/Phrasings$Subject"), accessFlags := 16409, slot := 0, constantValue := 0 }, { name := "NEW_UNIT", type := (.object "com/example/restate/restate/Phrasings$Subject"), accessFlags := 16409, slot := 1, constantValue := 0 }, { name := "NEW_DEFINITIONS", type := (.object "com/example/restate/restate/Phrasings$Subject"), accessFlags := 16409, slot := 2, constantValue := 0 }, { name := "WORDS_AHEAD", type := (.object "com/example/restate/restate/Phrasings$Subject"), accessFlags := 16409, slot := 3, constantValue := 0 }, { name := "PLACE", type := (.object "com/example/restate/restate/Phrasings$Subject"), accessFlags := 16409, slot := 4, constantValue := 0 }, { name := "$VALUES", type := (.array (.object "com/example/restate/restate/Phrasings$Subject")), accessFlags := 4122, slot := 5, constantValue := 0 }]
  methods := #[k6m0]
  instanceTypes := #[(.object "java/lang/String"), .int, .int]
  staticTypes := #[(.object "com/example/restate/restate/Phrasings$Subject"), (.object "com/example/restate/restate/Phrasings$Subject"), (.object "com/example/restate/restate/Phrasings$Subject"), (.object "com/example/restate/restate/Phrasings$Subject"), (.object "com/example/restate/restate/Phrasings$Subject"), (.array (.object "com/example/restate/restate/Phrasings$Subject"))]
  resolved := Array.replicate 67 none
  statics := some 0 }

def pool7 : Array CpInfo := pool [(1, u "java/lang/Cloneable"), (0, .class_ 1), (0, u "java/lang/Object"), (0, .class_ 3)] 3

/-- java/lang/Cloneable -/
def k7 : Class := { plain "java/lang/Cloneable" (some 0) with
  accessFlags := 1537
  interfaces := #[]
  cf := some (fileOf pool7 2 #[] #[] 1537 4 #[] #[])
  fields := #[]
  methods := #[]
  instanceTypes := #[]
  staticTypes := #[]
  resolved := Array.replicate 8 none
  statics := none }

/-- the primitive byte -/
def k8 : Class := { plain "byte" none with kind := .primitive 'B', accessFlags := 0x411 }
/-- [B -/
def k9 : Class := { plain "[B" (some 0) with kind := .array 8 .byte, interfaces := #[7, 4], accessFlags := 1041 }

/-- the primitive int -/
def k10 : Class := { plain "int" none with kind := .primitive 'I', accessFlags := 0x411 }
/-- [I -/
def k11 : Class := { plain "[I" (some 0) with kind := .array 10 .int, interfaces := #[7, 4], accessFlags := 1041 }

def heap : Heap := #[{ cls := 6, slots := #[.ref 1, .ref 2, .ref 3, .ref 4, .ref 5, .null], vm := .statics 6 },
  { cls := 6, slots := #[.null, .int 0, .int 0], vm := .none },
  { cls := 6, slots := #[.null, .int 1, .int 0], vm := .none },
  { cls := 6, slots := #[.null, .int 2, .int 0], vm := .none },
  { cls := 6, slots := #[.null, .int 3, .int 0], vm := .none },
  { cls := 6, slots := #[.null, .int 4, .int 0], vm := .none }]
def classes : Array Class := #[k0, k1, k2, k3, k4, k5, k6, k7, k8, k9, k10, k11]
def interned : List (Array UInt16 × Addr) := []
def slotsUsed : Nat := 21
def theMethod : MethodId := ⟨1, 1⟩
def args0 : Array Value := #[.int 5]
def aboutOver (below : List Frame) : State where
  vm := { classes := classes, interned := interned.toArray }
  heap := heap
  slotsUsed := slotsUsed
  threads := #[{ frames := .invoking theMethod args0 :: below }]
def below0 : List Frame := [.native { method := ⟨0, 0⟩, args := #[] }]
def about1 : State := aboutOver below0
def p0 : Program := .bare "" "" ""
def e0 : Env := launch0.env 0 0 0
theorem w_frames : about1.frames = Frame.invoking theMethod args0 :: below0 := rfl
set_option maxRecDepth 65536 in
theorem w_args : argsFit about1.vm theMethod args0 = true := by decide +kernel
set_option maxRecDepth 65536 in
theorem w_heap : heapFits about1 = true := by decide +kernel
set_option maxRecDepth 65536 in
theorem w_runnable : about1.curStatus? = some .runnable := by decide +kernel
set_option maxRecDepth 65536 in
theorem w_alone : about1.alone = true := by decide +kernel
set_option maxRecDepth 65536 in
theorem w_named : about1.methodNamed? x = some theMethod := by decide +kernel
set_option maxRecDepth 65536 in
theorem w_hears : about1.hears theMethod below0 = true := by decide +kernel
set_option maxRecDepth 65536 in
theorem w_ripe : about1.ripe theMethod args0 below0 = true := by decide +kernel
theorem w_running : about1.status = .running := rfl
set_option maxRecDepth 65536 in
theorem w_room : about1.hasRoom e0.platform room_1 = true :=
  launch0.hasRoom_least _ room_1 (by decide +kernel) (by decide +kernel) (by decide +kernel) (by decide +kernel) (by decide +kernel) (by decide +kernel)
theorem allAtoms_all (ts : List Jvm.Cond) (a : Array Jvm.Value) (st : Jvm.State) : (allAtoms ts).before a st = ts.all (fun c => c.before a st) := by
  induction ts with
  | nil => rfl
  | cons c t ih =>
    show (Jvm.Cond.and c (allAtoms t)).before a st = _
    rw [Jvm.Cond.before_and, ih, List.all_cons]
def words1 : List Jvm.Cond := Jvm.Cond.code x code maxLocals ret :: tables_1
/-- a 'code' word, met by the world's own term for the bytes: nothing is compared byte by byte -/
theorem code_word {y : MethodName} {bytes : ByteArray} {mx : Nat} {rt : Option FieldType} {a : Array Value} {s : State} {m : MethodId} {meth : Method} {c : Code} (h1 : s.methodNamed? y = some m) (h2 : s.vm.method? m = some meth) (h3 : meth.code = some c) (h4 : c.code = bytes)
    (h5 : (c.maxLocals == mx && c.exceptionTable.isEmpty && decide (c.maxStack ≤ mostOperands) && decide (meth.sig.returnType = rt) && !meth.locks && decide (parseMethodDescriptor y.desc = some meth.sig)) = true) : (Jvm.Cond.code y bytes mx rt).before a s = true := by
  simp only [Bool.and_eq_true, beq_iff_eq, Bool.not_eq_true', decide_eq_true_eq] at h5
  obtain ⟨⟨⟨⟨⟨g1, g2⟩, g3⟩, g4⟩, g5⟩, g6⟩ := h5
  simp [Cond.before, Cond.holds, Cond.value, h1, h2, h3, h4, g1, g2, g3, g4, g5, g6]
def isCode : Jvm.Cond → Bool
  | .code _ _ _ _ => true
  | _ => false
theorem all_split {L : List Jvm.Cond} {P : Jvm.Cond → Bool} (h1 : L.all (fun c => isCode c || P c) = true) (h2 : ∀ c ∈ L.filter isCode, P c = true) : L.all P = true := by
  refine List.all_eq_true.mpr fun c hc => ?_
  have h := List.all_eq_true.mp h1 c hc
  rcases Bool.eq_false_or_eq_true (isCode c) with hi | hi
  · exact h2 c (List.mem_filter.mpr ⟨hc, hi⟩)
  · simpa [hi] using h
set_option maxRecDepth 65536 in
theorem w_c0 : (Jvm.Cond.code x code maxLocals ret).before args0 about1 = true := code_word (m := ⟨1, 1⟩) (meth := k1m1) (c := k1c1) (by decide +kernel) rfl rfl rfl (by decide +kernel)
set_option maxRecDepth 65536 in
theorem w_c1 : (Jvm.Cond.code ({ cls := "com/example/restate/restate/Phrasings$Subject", name := "leavesPlace", desc := "()Z" } : Jvm.MethodName) prog_108_method_4_code (1 : Nat) (Option.some Jvm.ClassFile.FieldType.boolean)).before args0 about1 = true := code_word (m := ⟨6, 0⟩) (meth := k6m0) (c := k6c0) (by decide +kernel) rfl rfl rfl (by decide +kernel)
def codes1 : List Jvm.Cond := [Jvm.Cond.code x code maxLocals ret, Jvm.Cond.code ({ cls := "com/example/restate/restate/Phrasings$Subject", name := "leavesPlace", desc := "()Z" } : Jvm.MethodName) prog_108_method_4_code (1 : Nat) (Option.some Jvm.ClassFile.FieldType.boolean)]
set_option maxRecDepth 65536 in
theorem codes_eq : words1.filter isCode = codes1 := rfl
theorem w_codes : ∀ c ∈ words1.filter isCode, c.before args0 about1 = true := by
  rw [codes_eq]
  intro c hc
  simp only [codes1, List.mem_cons, List.not_mem_nil, or_false] at hc
  rcases hc with rfl | rfl
  · exact w_c0
  · exact w_c1
set_option maxRecDepth 65536 in
theorem w_t1 : words1.all (fun c => isCode c || c.before args0 about1) = true := by decide +kernel
theorem w_tables : (allAtoms (Jvm.Cond.code x code maxLocals ret :: tables_1)).before args0 about1 = true := by
  rw [allAtoms_all]
  show words1.all (fun c => c.before args0 about1) = true
  refine all_split ?_ w_codes
  rw [w_t1]
set_option maxRecDepth 65536 in
theorem w_case : (Jvm.Cond.and given_1 narrow_1).before args0 about1 = true := by decide +kernel
theorem w_applies : (headSpec (Jvm.Cond.code x code maxLocals ret :: tables_1) room_1).applies x e0.platform about1 = true :=
  (Spec.applies_iff w_frames).mpr ⟨w_running, w_runnable, w_alone, w_named, w_hears, w_ripe, w_room, w_tables⟩
theorem atStart : AtStart classFile x code maxLocals ret World_1 tables_1 room_1 Calls_1 rest_1 Pre_1 launch0 p0 e0 about1 theMethod args0 below0 :=
  ⟨lists_1, trivial, launch0.admits_env _ _ _, launch0.least_env, fairChoices_fair.cas, fairChoices_fair.clock, w_frames, w_args, w_heap, w_applies, trivial, trivial, w_case⟩
end start1
theorem witness_1 : WitnessClaimed_1 := ⟨start1.p0, start1.e0, start1.about1, start1.theMethod, start1.args0, start1.below0, start1.atStart⟩
end Jvm.Pilot.@@N@@
