import JvmDerived
import JvmDerived.Pilot.@@N@@Statement
import JvmDerived.Pilot.@@N@@Code
set_option linter.unusedVariables false
set_option linter.unusedSimpArgs false
namespace Jvm.RoadKit
open Sem ClassFile Op Lib Jvm.Stand Jvm.Free Jvm.LawKit
section New
variable {p : Program} {l : Launch} {e : Env} {R : Room} {s : State} {m : MethodId} {args : Array Value} {below : List Frame} {meth : Method} {c : Code} {T : State} {locs : List Loc} {cells slots : Nat}
theorem retI (X : Stand p l e R s m args below meth c T locs cells slots) (hx : p.tables.exec = Jvm.exec) {pc : Nat} {Ls : Array Slot} {z : Int32} {rest : List Value} (hret : meth.sig.returnType = some .int) (hd : decode c.code pc = .ok (.ireturn, 1)) {fs : List Frame}
    (hl : ∀ (f : JFrame) (acts : List Action), f.method = m → f.locked = none → f.entered = [] → (doReturn e (T.setTop f) acts (some (.int z))).1 = T.setFrames fs) : Steps p.tables e below (T.setTop (mkF m pc Ls (.int z :: rest))) (T.setFrames fs) := by
  have hm' : T.vm.method? m = some meth := X.method'
  have hn : narrow .int (.int z) = .int z := rfl
  show Steps p.tables e below (T.setTop { method := m, pc := pc, locals := Ls, stack := _ :: rest, locked := none }) _
  jvm_step X.here [X.here.top, hx, hd, hm', hret, hn]
  first | (intro acts; rw [hl _ acts rfl rfl rfl]) | rw [hl _ _ rfl rfl rfl]
  exact Steps.refl _
end New
end Jvm.RoadKit
namespace Jvm.Pilot.@@N@@
open Jvm Jvm.ClassFile Sem Op Lib Jvm.Free Jvm.Stand Jvm.LawKit Jvm.RoadKit Bundle Jvm.Pilot.@@N@@.Jvm.D

def own_max (x y : Int32) : Int32 := if x < y then y else x
theorem own_years (y : Int32) : 1 ≤ (own_max 1 (y &&& 2147483647)).toInt := by
  have e1 := c_mask y 2147483647 31 (by decide) (by decide)
  have e2 : (1 : Int32).toInt = 1 := by decide
  unfold own_max
  split
  · rename_i h; rw [Int32.lt_iff_toInt_lt] at h; omega
  · omega
theorem own_years' (y : Int32) : ¬ (own_max 1 (y &&& 2147483647)) < 1 := by
  have h := own_years y
  have e2 : (1 : Int32).toInt = 1 := by decide
  rw [Int32.lt_iff_toInt_lt]; omega

theorem ef_1_I_I (m : MethodId) (x0 : Int32) (x1 : Int32) : entryFrame m #[(.int x0), (.int x1)] 2 = mkF m 0 #[.val (.int x0), .val (.int x1)] [] := by first | (simp [entryFrame, mkF, argsToLocals, Value.category]; done) | rfl
theorem d1_0 : decode jdk_29_method_65_code 0 = .ok (.iload_n 0, 1) := by decide +kernel
theorem d1_1 : decode jdk_29_method_65_code 1 = .ok (.iload_n 1, 1) := by decide +kernel
theorem d1_2 : decode jdk_29_method_65_code 2 = .ok (.if_icmp .lt 7, 3) := by decide +kernel
theorem d1_5 : decode jdk_29_method_65_code 5 = .ok (.iload_n 0, 1) := by decide +kernel
theorem d1_6 : decode jdk_29_method_65_code 6 = .ok (.goto 4, 3) := by decide +kernel
theorem d1_9 : decode jdk_29_method_65_code 9 = .ok (.iload_n 1, 1) := by decide +kernel
theorem d1_10 : decode jdk_29_method_65_code 10 = .ok (.ireturn, 1) := by decide +kernel
def Q_rm1 (Z : State) (a b : Int32) (h0 : Heap) (n0 : Nat) (v : Option Value) (h : Heap) (L : List Loc) : Prop := v = some (.int (own_max a b)) ∧ Fr n0 L ∧ h = h0
set_option maxRecDepth 65536 in
set_option maxHeartbeats 40000000 in
theorem rm1 (l : Launch) (Z : State) (a0 : Array Value) (hw : ∀ d ∈ tables_1, d.before a0 Z = true) (ws : List Jvm.Cond) (a b : Int32) (h0 : Heap) (n0 : Nat) (Z0 : n0 ≤ h0.size)  :
    MetFree l (⟨"java/lang/Math", "max", "(II)I"⟩ : MethodName) (head1 (Jvm.Cond.code (⟨"java/lang/Math", "max", "(II)I"⟩ : MethodName) jdk_29_method_65_code 2 (some .int) :: ws) ({ frames := 0, cells := 0, slots := 0, locals := 0 } : Room)) (fun argv U => argv = #[(.int a), (.int b)] ∧ Z.Warmed39 U.vm ∧ U.heap = h0) (fun _ _ _ _ _ => True) (fun _ U o U' => ∃ v L, o = .returned v ∧ Q_rm1 Z a b h0 n0 v U'.heap L ∧ FrameEnd U o U' L ({ frames := 0, cells := 0, slots := 0, locals := 0 } : Room).cells ({ frames := 0, cells := 0, slots := 0, locals := 0 } : Room).slots) := by
  refine MetFree.of_bodySF (Jvm.Free.JP.mathPlain rfl (by decide +kernel)) hisR ?_
  intro p e s m args below meth c s₁ Bd hml0 hP hK
  obtain ⟨rfl, hZ, hh⟩ := hP
  have hx := Bd.exec
  have hby := Bd.bytes
  have hml : c.maxLocals = 2 := hml0
  have hown : s.vm.findClass "java/lang/Math" = some m.cls := findClass_of_methodNamed Bd.named
  have hnm := (name_of_methodNamed Bd.named Bd.method).1
  have X0 : Stand p l e ({ frames := 0, cells := 0, slots := 0, locals := 0 } : Room) s m #[(.int a), (.int b)] below meth c s₁ [] 0 0 := Stand.of_body Bd
  have e0 : s₁.heap = h0 := by rw [← hh, Bd.state]; rfl
  have N0 := Fr.nil n0
  obtain ⟨G, hG⟩ : ∃ G : State → Prop, G = fun t => Steps p.tables e below (s₁.setTop (entryFrame m #[(.int a), (.int b)] 2)) t := ⟨_, rfl⟩
  have pre0 : ∀ t, Steps p.tables e below (s₁.setTop (mkF m 0 #[.val (.int a), .val (.int b)] [])) t → G t := fun t k => by rw [hG]; exact castTop (ef_1_I_I m a b) k
  have pre1 : ∀ t, Steps p.tables e below (s₁.setTop (mkF m 2 #[.val (.int a), .val (.int b)] [(.int b), (.int a)])) t → G t := fun t k => pre0 t (by
    show Steps p.tables e below (s₁.setTop (mkF m 0 #[.val (.int a), .val (.int b)] [])) _
    refine XS.iloadN X0.here hx rfl (hb hby d1_0) rfl ?_
    show Steps p.tables e below (s₁.setTop (mkF m 1 #[.val (.int a), .val (.int b)] [(.int a)])) _
    refine XS.iloadN X0.here hx rfl (hb hby d1_1) rfl ?_
    exact k)
  have pre2 : ∀ t, Steps p.tables e below (s₁.setTop (mkF m 10 #[.val (.int a), .val (.int b)] [(.int (if a < b then b else a))])) t → G t := by
    intro t k
    refine pre1 t ?_
    by_cases hm2_0 : a < b
    · try simp only [if_pos hm2_0] at k
      show Steps p.tables e below (s₁.setTop (mkF m 2 #[.val (.int a), .val (.int b)] [(.int b), (.int a)])) _
      refine XS.icmpYes X0.here hx rfl (pc0 := 2) (pc' := 9) rfl (hb hby d1_2) rfl (tlt hm2_0).1 (by decide) (by decide) ?_
      show Steps p.tables e below (s₁.setTop (mkF m 9 #[.val (.int a), .val (.int b)] [])) _
      refine XS.iloadN X0.here hx rfl (hb hby d1_9) rfl ?_
      exact k
    · try simp only [if_neg hm2_0] at k
      show Steps p.tables e below (s₁.setTop (mkF m 2 #[.val (.int a), .val (.int b)] [(.int b), (.int a)])) _
      refine XS.icmpNo X0.here hx rfl (hb hby d1_2) rfl (flt hm2_0).1 ?_
      show Steps p.tables e below (s₁.setTop (mkF m 5 #[.val (.int a), .val (.int b)] [])) _
      refine XS.iloadN X0.here hx rfl (hb hby d1_5) rfl ?_
      show Steps p.tables e below (s₁.setTop (mkF m 6 #[.val (.int a), .val (.int b)] [(.int a)])) _
      refine XS.goto X0.here hx rfl (pc0 := 6) (pc' := 10) rfl (hb hby d1_6) (by decide) (by decide) ?_
      exact k
  obtain ⟨fs, hr, hrun, hended, hW, hsame⟩ := X0.leave (v := some (.int (if a < b then b else a))) (fun h => by rw [Bd.returns] at h; cases h)
  subst hG
  refine ⟨_, _, pre2 _ ?_, hrun, hended, _, _, rfl, ?_, ⟨_, rfl⟩, hW, hsame.mono (by decide) (by decide)⟩
  · skip
    show Steps p.tables e below (s₁.setTop (mkF m 10 #[.val (.int a), .val (.int b)] [(.int (if a < b then b else a))])) _
    exact retI X0 hx Bd.returns (hb hby d1_10) hr
  · show Q_rm1 Z a b h0 n0 _ s₁.heap _
    rw [e0]
    exact ⟨rfl, N0, rfl⟩
theorem ef_6_J_J (m : MethodId) (x0 : Int64) (x1 : Int64) : entryFrame m #[(.long x0), (.long x1)] 4 = mkF m 0 #[.val (.long x0), .second, .val (.long x1), .second] [] := by first | (simp [entryFrame, mkF, argsToLocals, Value.category]; done) | rfl
theorem d6_0 : decode jdk_29_method_66_code 0 = .ok (.lload_n 0, 1) := by decide +kernel
theorem d6_1 : decode jdk_29_method_66_code 1 = .ok (.lload_n 2, 1) := by decide +kernel
theorem d6_2 : decode jdk_29_method_66_code 2 = .ok (.lcmp, 1) := by decide +kernel
theorem d6_3 : decode jdk_29_method_66_code 3 = .ok (.ifCond .lt 7, 3) := by decide +kernel
theorem d6_6 : decode jdk_29_method_66_code 6 = .ok (.lload_n 0, 1) := by decide +kernel
theorem d6_7 : decode jdk_29_method_66_code 7 = .ok (.goto 4, 3) := by decide +kernel
theorem d6_10 : decode jdk_29_method_66_code 10 = .ok (.lload_n 2, 1) := by decide +kernel
theorem d6_11 : decode jdk_29_method_66_code 11 = .ok (.lreturn, 1) := by decide +kernel
def Q_rm6 (Z : State) (a b : Int64) (h0 : Heap) (n0 : Nat) (v : Option Value) (h : Heap) (L : List Loc) : Prop := ∃ z : Int64, v = some (.long z) ∧ Fr n0 L ∧ h = h0
set_option maxRecDepth 65536 in
set_option maxHeartbeats 40000000 in
theorem rm6 (l : Launch) (Z : State) (a0 : Array Value) (hw : ∀ d ∈ tables_1, d.before a0 Z = true) (ws : List Jvm.Cond) (a b : Int64) (h0 : Heap) (n0 : Nat) (Z0 : n0 ≤ h0.size)  :
    MetFree l (⟨"java/lang/Math", "max", "(JJ)J"⟩ : MethodName) (head1 (Jvm.Cond.code (⟨"java/lang/Math", "max", "(JJ)J"⟩ : MethodName) jdk_29_method_66_code 4 (some .long) :: ws) ({ frames := 0, cells := 0, slots := 0, locals := 0 } : Room)) (fun argv U => argv = #[(.long a), (.long b)] ∧ Z.Warmed39 U.vm ∧ U.heap = h0) (fun _ _ _ _ _ => True) (fun _ U o U' => ∃ v L, o = .returned v ∧ Q_rm6 Z a b h0 n0 v U'.heap L ∧ FrameEnd U o U' L ({ frames := 0, cells := 0, slots := 0, locals := 0 } : Room).cells ({ frames := 0, cells := 0, slots := 0, locals := 0 } : Room).slots) := by
  refine MetFree.of_bodySF (Jvm.Free.JP.mathPlain rfl (by decide +kernel)) hisR ?_
  intro p e s m args below meth c s₁ Bd hml0 hP hK
  obtain ⟨rfl, hZ, hh⟩ := hP
  have hx := Bd.exec
  have hby := Bd.bytes
  have hml : c.maxLocals = 4 := hml0
  have hown : s.vm.findClass "java/lang/Math" = some m.cls := findClass_of_methodNamed Bd.named
  have hnm := (name_of_methodNamed Bd.named Bd.method).1
  have X0 : Stand p l e ({ frames := 0, cells := 0, slots := 0, locals := 0 } : Room) s m #[(.long a), (.long b)] below meth c s₁ [] 0 0 := Stand.of_body Bd
  have e0 : s₁.heap = h0 := by rw [← hh, Bd.state]; rfl
  have N0 := Fr.nil n0
  obtain ⟨G, hG⟩ : ∃ G : State → Prop, G = fun t => Steps p.tables e below (s₁.setTop (entryFrame m #[(.long a), (.long b)] 4)) t := ⟨_, rfl⟩
  have pre0 : ∀ t, Steps p.tables e below (s₁.setTop (mkF m 0 #[.val (.long a), .second, .val (.long b), .second] [])) t → G t := fun t k => by rw [hG]; exact castTop (ef_6_J_J m a b) k
  have pre1 : ∀ t, Steps p.tables e below (s₁.setTop (mkF m 3 #[.val (.long a), .second, .val (.long b), .second] [(.int (lcmpW a b))])) t → G t := fun t k => pre0 t (by
    show Steps p.tables e below (s₁.setTop (mkF m 0 #[.val (.long a), .second, .val (.long b), .second] [])) _
    refine XS.lloadN X0.here hx rfl (hb hby d6_0) rfl ?_
    show Steps p.tables e below (s₁.setTop (mkF m 1 #[.val (.long a), .second, .val (.long b), .second] [(.long a)])) _
    refine XS.lloadN X0.here hx rfl (hb hby d6_1) rfl ?_
    show Steps p.tables e below (s₁.setTop (mkF m 2 #[.val (.long a), .second, .val (.long b), .second] [(.long b), (.long a)])) _
    refine XS.lcmp X0.here hx rfl (hb hby d6_2) rfl ?_
    exact k)
  have pre2 : ∀ t, Steps p.tables e below (s₁.setTop (mkF m 11 #[.val (.long a), .second, .val (.long b), .second] [(.long (if a < b then b else a))])) t → G t := by
    intro t k
    refine pre1 t ?_
    by_cases hm3_0 : a < b
    · try simp only [if_pos hm3_0] at k
      show Steps p.tables e below (s₁.setTop (mkF m 3 #[.val (.long a), .second, .val (.long b), .second] [(.int (lcmpW a b))])) _
      refine XS.ifYes X0.here hx rfl (pc0 := 3) (pc' := 10) rfl (hb hby d6_3) rfl ((if0 _ _).trans (tlt ((lw_lt a b).mpr hm3_0)).1) (by decide) (by decide) ?_
      show Steps p.tables e below (s₁.setTop (mkF m 10 #[.val (.long a), .second, .val (.long b), .second] [])) _
      refine XS.lloadN X0.here hx rfl (hb hby d6_10) rfl ?_
      exact k
    · try simp only [if_neg hm3_0] at k
      show Steps p.tables e below (s₁.setTop (mkF m 3 #[.val (.long a), .second, .val (.long b), .second] [(.int (lcmpW a b))])) _
      refine XS.ifNo X0.here hx rfl (hb hby d6_3) rfl ((if0 _ _).trans (flt (mt (lw_lt a b).mp hm3_0)).1) ?_
      show Steps p.tables e below (s₁.setTop (mkF m 6 #[.val (.long a), .second, .val (.long b), .second] [])) _
      refine XS.lloadN X0.here hx rfl (hb hby d6_6) rfl ?_
      show Steps p.tables e below (s₁.setTop (mkF m 7 #[.val (.long a), .second, .val (.long b), .second] [(.long a)])) _
      refine XS.goto X0.here hx rfl (pc0 := 7) (pc' := 11) rfl (hb hby d6_7) (by decide) (by decide) ?_
      exact k
  obtain ⟨fs, hr, hrun, hended, hW, hsame⟩ := X0.leave (v := some (.long (if a < b then b else a))) (fun h => by rw [Bd.returns] at h; cases h)
  subst hG
  refine ⟨_, _, pre2 _ ?_, hrun, hended, _, _, rfl, ?_, ⟨_, rfl⟩, hW, hsame.mono (by decide) (by decide)⟩
  · skip
    show Steps p.tables e below (s₁.setTop (mkF m 11 #[.val (.long a), .second, .val (.long b), .second] [(.long (if a < b then b else a))])) _
    exact X0.lreturnOut hx Bd.returns (hb hby d6_11) hr
  · show Q_rm6 Z a b h0 n0 _ s₁.heap _
    rw [e0]
    exact ⟨_, rfl, N0, rfl⟩
theorem ef_7_J_J (m : MethodId) (x0 : Int64) (x1 : Int64) : entryFrame m #[(.long x0), (.long x1)] 4 = mkF m 0 #[.val (.long x0), .second, .val (.long x1), .second] [] := by first | (simp [entryFrame, mkF, argsToLocals, Value.category]; done) | rfl
theorem d7_0 : decode jdk_29_method_70_code 0 = .ok (.lload_n 0, 1) := by decide +kernel
theorem d7_1 : decode jdk_29_method_70_code 1 = .ok (.lload_n 2, 1) := by decide +kernel
theorem d7_2 : decode jdk_29_method_70_code 2 = .ok (.lcmp, 1) := by decide +kernel
theorem d7_3 : decode jdk_29_method_70_code 3 = .ok (.ifCond .gt 7, 3) := by decide +kernel
theorem d7_6 : decode jdk_29_method_70_code 6 = .ok (.lload_n 0, 1) := by decide +kernel
theorem d7_7 : decode jdk_29_method_70_code 7 = .ok (.goto 4, 3) := by decide +kernel
theorem d7_10 : decode jdk_29_method_70_code 10 = .ok (.lload_n 2, 1) := by decide +kernel
theorem d7_11 : decode jdk_29_method_70_code 11 = .ok (.lreturn, 1) := by decide +kernel
def Q_rm7 (Z : State) (a b : Int64) (h0 : Heap) (n0 : Nat) (v : Option Value) (h : Heap) (L : List Loc) : Prop := ∃ z : Int64, v = some (.long z) ∧ Fr n0 L ∧ h = h0
set_option maxRecDepth 65536 in
set_option maxHeartbeats 40000000 in
theorem rm7 (l : Launch) (Z : State) (a0 : Array Value) (hw : ∀ d ∈ tables_1, d.before a0 Z = true) (ws : List Jvm.Cond) (a b : Int64) (h0 : Heap) (n0 : Nat) (Z0 : n0 ≤ h0.size)  :
    MetFree l (⟨"java/lang/Math", "min", "(JJ)J"⟩ : MethodName) (head1 (Jvm.Cond.code (⟨"java/lang/Math", "min", "(JJ)J"⟩ : MethodName) jdk_29_method_70_code 4 (some .long) :: ws) ({ frames := 0, cells := 0, slots := 0, locals := 0 } : Room)) (fun argv U => argv = #[(.long a), (.long b)] ∧ Z.Warmed39 U.vm ∧ U.heap = h0) (fun _ _ _ _ _ => True) (fun _ U o U' => ∃ v L, o = .returned v ∧ Q_rm7 Z a b h0 n0 v U'.heap L ∧ FrameEnd U o U' L ({ frames := 0, cells := 0, slots := 0, locals := 0 } : Room).cells ({ frames := 0, cells := 0, slots := 0, locals := 0 } : Room).slots) := by
  refine MetFree.of_bodySF (Jvm.Free.JP.mathPlain rfl (by decide +kernel)) hisR ?_
  intro p e s m args below meth c s₁ Bd hml0 hP hK
  obtain ⟨rfl, hZ, hh⟩ := hP
  have hx := Bd.exec
  have hby := Bd.bytes
  have hml : c.maxLocals = 4 := hml0
  have hown : s.vm.findClass "java/lang/Math" = some m.cls := findClass_of_methodNamed Bd.named
  have hnm := (name_of_methodNamed Bd.named Bd.method).1
  have X0 : Stand p l e ({ frames := 0, cells := 0, slots := 0, locals := 0 } : Room) s m #[(.long a), (.long b)] below meth c s₁ [] 0 0 := Stand.of_body Bd
  have e0 : s₁.heap = h0 := by rw [← hh, Bd.state]; rfl
  have N0 := Fr.nil n0
  obtain ⟨G, hG⟩ : ∃ G : State → Prop, G = fun t => Steps p.tables e below (s₁.setTop (entryFrame m #[(.long a), (.long b)] 4)) t := ⟨_, rfl⟩
  have pre0 : ∀ t, Steps p.tables e below (s₁.setTop (mkF m 0 #[.val (.long a), .second, .val (.long b), .second] [])) t → G t := fun t k => by rw [hG]; exact castTop (ef_7_J_J m a b) k
  have pre1 : ∀ t, Steps p.tables e below (s₁.setTop (mkF m 3 #[.val (.long a), .second, .val (.long b), .second] [(.int (lcmpW a b))])) t → G t := fun t k => pre0 t (by
    show Steps p.tables e below (s₁.setTop (mkF m 0 #[.val (.long a), .second, .val (.long b), .second] [])) _
    refine XS.lloadN X0.here hx rfl (hb hby d7_0) rfl ?_
    show Steps p.tables e below (s₁.setTop (mkF m 1 #[.val (.long a), .second, .val (.long b), .second] [(.long a)])) _
    refine XS.lloadN X0.here hx rfl (hb hby d7_1) rfl ?_
    show Steps p.tables e below (s₁.setTop (mkF m 2 #[.val (.long a), .second, .val (.long b), .second] [(.long b), (.long a)])) _
    refine XS.lcmp X0.here hx rfl (hb hby d7_2) rfl ?_
    exact k)
  have pre2 : ∀ t, Steps p.tables e below (s₁.setTop (mkF m 11 #[.val (.long a), .second, .val (.long b), .second] [(.long (if b < a then b else a))])) t → G t := by
    intro t k
    refine pre1 t ?_
    by_cases hm3_0 : b < a
    · try simp only [if_pos hm3_0] at k
      show Steps p.tables e below (s₁.setTop (mkF m 3 #[.val (.long a), .second, .val (.long b), .second] [(.int (lcmpW a b))])) _
      refine XS.ifYes X0.here hx rfl (pc0 := 3) (pc' := 10) rfl (hb hby d7_3) rfl ((if0 _ _).trans (tlt ((lw_gt a b).mpr hm3_0)).2.2.1) (by decide) (by decide) ?_
      show Steps p.tables e below (s₁.setTop (mkF m 10 #[.val (.long a), .second, .val (.long b), .second] [])) _
      refine XS.lloadN X0.here hx rfl (hb hby d7_10) rfl ?_
      exact k
    · try simp only [if_neg hm3_0] at k
      show Steps p.tables e below (s₁.setTop (mkF m 3 #[.val (.long a), .second, .val (.long b), .second] [(.int (lcmpW a b))])) _
      refine XS.ifNo X0.here hx rfl (hb hby d7_3) rfl ((if0 _ _).trans (flt (mt (lw_gt a b).mp hm3_0)).2.2.1) ?_
      show Steps p.tables e below (s₁.setTop (mkF m 6 #[.val (.long a), .second, .val (.long b), .second] [])) _
      refine XS.lloadN X0.here hx rfl (hb hby d7_6) rfl ?_
      show Steps p.tables e below (s₁.setTop (mkF m 7 #[.val (.long a), .second, .val (.long b), .second] [(.long a)])) _
      refine XS.goto X0.here hx rfl (pc0 := 7) (pc' := 11) rfl (hb hby d7_7) (by decide) (by decide) ?_
      exact k
  obtain ⟨fs, hr, hrun, hended, hW, hsame⟩ := X0.leave (v := some (.long (if b < a then b else a))) (fun h => by rw [Bd.returns] at h; cases h)
  subst hG
  refine ⟨_, _, pre2 _ ?_, hrun, hended, _, _, rfl, ?_, ⟨_, rfl⟩, hW, hsame.mono (by decide) (by decide)⟩
  · skip
    show Steps p.tables e below (s₁.setTop (mkF m 11 #[.val (.long a), .second, .val (.long b), .second] [(.long (if b < a then b else a))])) _
    exact X0.lreturnOut hx Bd.returns (hb hby d7_11) hr
  · show Q_rm7 Z a b h0 n0 _ s₁.heap _
    rw [e0]
    exact ⟨_, rfl, N0, rfl⟩
theorem pn_3 : plainName "java/lang/Record" = true := by first | (simp [plainName, overriddenIn]; done) | decide +kernel
theorem ef_3_R (m : MethodId) (x0 : Addr) : entryFrame m #[(.ref x0)] 1 = mkF m 0 #[.val (.ref x0)] [] := by first | (simp [entryFrame, mkF, argsToLocals, Value.category]; done) | rfl
theorem d3_0 : decode jdk_30_method_1_code 0 = .ok (.aload_n 0, 1) := by decide +kernel
theorem d3_1 : decode jdk_30_method_1_code 1 = .ok (.invokespecial 1, 3) := by decide +kernel
theorem d3_4 : decode jdk_30_method_1_code 4 = .ok (.return_, 1) := by decide +kernel
def Q_rm3 (Z : State) (a : Addr) (h0 : Heap) (n0 : Nat) (v : Option Value) (h : Heap) (L : List Loc) : Prop := v = none ∧ Fr n0 L ∧ h = h0
set_option maxRecDepth 65536 in
set_option maxHeartbeats 40000000 in
theorem rm3 (l : Launch) (Z : State) (a0 : Array Value) (hw : ∀ d ∈ tables_1, d.before a0 Z = true) (ws : List Jvm.Cond) (a : Addr) (h0 : Heap) (n0 : Nat) (Z0 : n0 ≤ h0.size)  :
    MetFree l (⟨"java/lang/Record", "<init>", "()V"⟩ : MethodName) (head1 (Jvm.Cond.code (⟨"java/lang/Record", "<init>", "()V"⟩ : MethodName) jdk_30_method_1_code 1 none :: ws) ({ frames := 1, cells := 0, slots := 0, locals := 12 } : Room)) (fun argv U => argv = #[(.ref a)] ∧ Z.Warmed39 U.vm ∧ U.heap = h0) (fun _ _ _ _ _ => True) (fun _ U o U' => ∃ v L, o = .returned v ∧ Q_rm3 Z a h0 n0 v U'.heap L ∧ FrameEnd U o U' L ({ frames := 1, cells := 0, slots := 0, locals := 12 } : Room).cells ({ frames := 1, cells := 0, slots := 0, locals := 12 } : Room).slots) := by
  refine MetFree.of_bodySF (plainFor_of_name pn_3) hisR ?_
  intro p e s m args below meth c s₁ Bd hml0 hP hK
  obtain ⟨rfl, hZ, hh⟩ := hP
  have hx := Bd.exec
  have hby := Bd.bytes
  have hml : c.maxLocals = 1 := hml0
  have hown : s.vm.findClass "java/lang/Record" = some m.cls := findClass_of_methodNamed Bd.named
  have hnm := (name_of_methodNamed Bd.named Bd.method).1
  have X0 : Stand p l e ({ frames := 1, cells := 0, slots := 0, locals := 12 } : Room) s m #[(.ref a)] below meth c s₁ [] 0 0 := Stand.of_body Bd
  have e0 : s₁.heap = h0 := by rw [← hh, Bd.state]; rfl
  have N0 := Fr.nil n0
  obtain ⟨G, hG⟩ : ∃ G : State → Prop, G = fun t => Steps p.tables e below (s₁.setTop (entryFrame m #[(.ref a)] 1)) t := ⟨_, rfl⟩
  have pre0 : ∀ t, Steps p.tables e below (s₁.setTop (mkF m 0 #[.val (.ref a)] [])) t → G t := fun t k => by rw [hG]; exact castTop (ef_3_R m a) k
  have pre1 : ∀ t, Steps p.tables e below (s₁.setTop (mkF m 1 #[.val (.ref a)] [(.ref a)])) t → G t := fun t k => pre0 t (by
    show Steps p.tables e below (s₁.setTop (mkF m 0 #[.val (.ref a)] [])) _
    refine XS.aloadN X0.here hx rfl (hb hby d3_0) rfl rfl ?_
    exact k)
  obtain ⟨T2, X2, e2, st2⟩ := initO X0 hx hZ hown (hw _ (List.mem_of_getElem? (i := 17) rfl)) (hw _ (List.mem_of_getElem? (i := 18) rfl)) (hw _ (List.mem_of_getElem? (i := 19) rfl)) e0 (g := (mkF m 1 #[.val (.ref a)] [(.ref a)])) rfl (by rw [hml]; rfl) rfl (hb hby d3_1) (by decide) (W := 0) (by show 2 * 0 + _ ≤ _; exact Nat.le_of_eq rfl) (by decide)
  have pre2s : ∀ t, Steps p.tables e below (T2.setTop (mkF m 4 #[.val (.ref a)] [])) t → G t := fun t k => pre1 t (st2 t k)
  obtain ⟨fs, hr, hrun, hended, hW, hsame⟩ := X2.leave (v := none) (fun _ => rfl)
  subst hG
  refine ⟨_, _, pre2s _ ?_, hrun, hended, _, _, rfl, ?_, ⟨_, rfl⟩, hW, hsame.mono (by decide) (by decide)⟩
  · skip
    show Steps p.tables e below (T2.setTop (mkF m 4 #[.val (.ref a)] [])) _
    exact X2.returnOut hx Bd.returns (hb hby d3_4) hr
  · show Q_rm3 Z a h0 n0 _ T2.heap _
    rw [e2]
    exact ⟨rfl, N0, rfl⟩
theorem pn_2 : plainName "com/example/deferline/deferline/plan/InService$YearsAfterDeferralYear" = true := by first | (simp [plainName, overriddenIn]; done) | decide +kernel
theorem ef_2_R_I (m : MethodId) (x0 : Addr) (x1 : Int32) : entryFrame m #[(.ref x0), (.int x1)] 2 = mkF m 0 #[.val (.ref x0), .val (.int x1)] [] := by first | (simp [entryFrame, mkF, argsToLocals, Value.category]; done) | rfl
theorem pd_0 : parseMethodDescriptor "()V" = some ⟨[], none⟩ := by decide +kernel
theorem d2_0 : decode prog_43_method_1_code 0 = .ok (.aload_n 0, 1) := by decide +kernel
theorem d2_1 : decode prog_43_method_1_code 1 = .ok (.invokespecial 1, 3) := by decide +kernel
theorem d2_4 : decode prog_43_method_1_code 4 = .ok (.iload_n 1, 1) := by decide +kernel
theorem d2_5 : decode prog_43_method_1_code 5 = .ok (.iconst 1, 1) := by decide +kernel
theorem d2_6 : decode prog_43_method_1_code 6 = .ok (.if_icmp .ge 17, 3) := by decide +kernel
theorem d2_23 : decode prog_43_method_1_code 23 = .ok (.aload_n 0, 1) := by decide +kernel
theorem d2_24 : decode prog_43_method_1_code 24 = .ok (.iload_n 1, 1) := by decide +kernel
theorem d2_25 : decode prog_43_method_1_code 25 = .ok (.putfield 16, 3) := by decide +kernel
theorem d2_28 : decode prog_43_method_1_code 28 = .ok (.return_, 1) := by decide +kernel
def Q_rm2 (Z : State) (a : Addr) (y : Int32) (h0 : Heap) (n0 : Nat) (v : Option Value) (h : Heap) (L : List Loc) : Prop := v = none ∧ Fr n0 L ∧ Keep h0 h [a] ∧ Fld Z h a "com/example/deferline/deferline/plan/InService$YearsAfterDeferralYear" "years" "I" (.int y)
set_option maxRecDepth 65536 in
set_option maxHeartbeats 40000000 in
theorem rm2 (l : Launch) (Z : State) (a0 : Array Value) (hw : ∀ d ∈ tables_1, d.before a0 Z = true) (ws : List Jvm.Cond) (a : Addr) (y : Int32) (h0 : Heap) (n0 : Nat) (Z0 : n0 ≤ h0.size) (F_y : Fld Z h0 a "com/example/deferline/deferline/plan/InService$YearsAfterDeferralYear" "years" "I" (.int (0 : Int32))) (E_a : Exa Z h0 a "com/example/deferline/deferline/plan/InService$YearsAfterDeferralYear") (O_a : n0 ≤ a) (hy : ¬ y < (1 : Int32)) :
    MetFree l (⟨"com/example/deferline/deferline/plan/InService$YearsAfterDeferralYear", "<init>", "(I)V"⟩ : MethodName) (head1 (Jvm.Cond.code (⟨"com/example/deferline/deferline/plan/InService$YearsAfterDeferralYear", "<init>", "(I)V"⟩ : MethodName) prog_43_method_1_code 2 none :: ws) ({ frames := 2, cells := 0, slots := 0, locals := 40 } : Room)) (fun argv U => argv = #[(.ref a), (.int y)] ∧ Z.Warmed39 U.vm ∧ U.heap = h0) (fun _ _ _ _ _ => True) (fun _ U o U' => ∃ v L, o = .returned v ∧ Q_rm2 Z a y h0 n0 v U'.heap L ∧ FrameEnd U o U' L ({ frames := 2, cells := 0, slots := 0, locals := 40 } : Room).cells ({ frames := 2, cells := 0, slots := 0, locals := 40 } : Room).slots) := by
  refine MetFree.of_bodySF (plainFor_of_name pn_2) hisR ?_
  intro p e s m args below meth c s₁ Bd hml0 hP hK
  obtain ⟨rfl, hZ, hh⟩ := hP
  have hx := Bd.exec
  have hby := Bd.bytes
  have hml : c.maxLocals = 2 := hml0
  have hown : s.vm.findClass "com/example/deferline/deferline/plan/InService$YearsAfterDeferralYear" = some m.cls := findClass_of_methodNamed Bd.named
  have hnm := (name_of_methodNamed Bd.named Bd.method).1
  have X0 : Stand p l e ({ frames := 2, cells := 0, slots := 0, locals := 40 } : Room) s m #[(.ref a), (.int y)] below meth c s₁ [] 0 0 := Stand.of_body Bd
  have e0 : s₁.heap = h0 := by rw [← hh, Bd.state]; rfl
  have N0 := Fr.nil n0
  obtain ⟨G, hG⟩ : ∃ G : State → Prop, G = fun t => Steps p.tables e below (s₁.setTop (entryFrame m #[(.ref a), (.int y)] 2)) t := ⟨_, rfl⟩
  have pre0 : ∀ t, Steps p.tables e below (s₁.setTop (mkF m 0 #[.val (.ref a), .val (.int y)] [])) t → G t := fun t k => by rw [hG]; exact castTop (ef_2_R_I m a y) k
  have pre1 : ∀ t, Steps p.tables e below (s₁.setTop (mkF m 1 #[.val (.ref a), .val (.int y)] [(.ref a)])) t → G t := fun t k => pre0 t (by
    show Steps p.tables e below (s₁.setTop (mkF m 0 #[.val (.ref a), .val (.int y)] [])) _
    refine XS.aloadN X0.here hx rfl (hb hby d2_0) rfl rfl ?_
    exact k)
  obtain ⟨_, _, ⟨T2, L2, k2, n2⟩, -, X2, ⟨Lc2, hQ2, l2, y2, z2⟩, st2⟩ := X0.specialBack hx (y := (⟨"java/lang/Record", "<init>", "()V"⟩ : MethodName)) rfl hown (mvT hZ (hw _ (List.mem_of_getElem? (i := 12) rfl))) (mvT hZ (hw _ (List.mem_of_getElem? (i := 13) rfl))) (mvT hZ (hw _ (List.mem_of_getElem? (i := 16) rfl))) (by decide) (backOf (W := 0) (rm3 l Z a0 hw [] a h0 n0 Z0 ) hZ (hw _ (List.mem_of_getElem? (i := 16) rfl)) (hw _ (List.mem_of_getElem? (i := 15) rfl)) (by decide) (by decide)) (g := (mkF m 1 #[.val (.ref a), .val (.int y)] [(.ref a)])) rfl (by rw [hml]; rfl) (Steps.refl _) (a := a) (argsL := []) (rest := []) (lenOf pd_0 rfl) rfl (by show 2 * 0 + _ ≤ _; exact Nat.le_of_eq rfl) (hb hby d2_1) (fun _ _ => ⟨rfl, e0, (Nat.le_of_ble_eq_true rfl), (Nat.le_of_ble_eq_true rfl)⟩)
  dsimp only [Pt.U, Pt.locs, Pt.cells, Pt.slots] at X2 l2 y2 z2 st2 hQ2
  subst l2 y2 z2
  obtain ⟨rfl, N2q, e2⟩ := hQ2
  have N2 := Fr.app N0 N2q
  have pre2s : ∀ t, Steps p.tables e below (T2.setTop (mkF m 4 #[.val (.ref a), .val (.int y)] [])) t → G t := fun t k => pre1 t (st2.trans k)
  have pre3 : ∀ t, Steps p.tables e below (T2.setTop (mkF m 25 #[.val (.ref a), .val (.int y)] [(.int y), (.ref a)])) t → G t := fun t k => pre2s t (by
    show Steps p.tables e below (T2.setTop (mkF m 4 #[.val (.ref a), .val (.int y)] [])) _
    refine XS.iloadN X2.here hx rfl (hb hby d2_4) rfl ?_
    show Steps p.tables e below (T2.setTop (mkF m 5 #[.val (.ref a), .val (.int y)] [(.int y)])) _
    refine XS.iconst X2.here hx rfl (hb hby d2_5) ?_
    show Steps p.tables e below (T2.setTop (mkF m 6 #[.val (.ref a), .val (.int y)] [(.int (1 : Int32)), (.int y)])) _
    refine XS.icmpYes X2.here hx rfl (pc0 := 6) (pc' := 23) rfl (hb hby d2_6) rfl (flt hy).2.1 (by decide) (by decide) ?_
    show Steps p.tables e below (T2.setTop (mkF m 23 #[.val (.ref a), .val (.int y)] [])) _
    refine XS.aloadN X2.here hx rfl (hb hby d2_23) rfl rfl ?_
    show Steps p.tables e below (T2.setTop (mkF m 24 #[.val (.ref a), .val (.int y)] [(.ref a)])) _
    refine XS.iloadN X2.here hx rfl (hb hby d2_24) rfl ?_
    exact k)
  obtain ⟨T4, h4, X4, e4, W4, st4⟩ := putF X2 hx hZ hown (host := "") (Or.inl (hw _ (List.mem_of_getElem? (i := 20) rfl))) Via.refl e2 F_y E_a (Or.inr ⟨(hw _ (List.mem_of_getElem? (i := 21) rfl)), rfl, hnm⟩) (hw _ (List.mem_of_getElem? (i := 7) rfl)) (ty := .int) (by decide) rfl rfl (g := (mkF m 25 #[.val (.ref a), .val (.int y)] [(.int y), (.ref a)])) rfl rfl (hb hby d2_25)
  have pre4s : ∀ t, Steps p.tables e below (T4.setTop (mkF m 28 #[.val (.ref a), .val (.int y)] [])) t → G t := fun t k => pre3 t (st4 t k)
  have F_y_5 := F_y.same W4
  have E_a_6 := E_a.wr W4
  have N4 := Fr.snoc X4 N2 O_a
  have Z4 : n0 ≤ h4.size := Nat.le_trans Z0 (Keep.of_wr W4).1
  have K4 : Keep h0 h4 [a] := (Keep.refl h0 [a]).wr W4 (Or.inl (List.mem_of_getElem? (i := 0) rfl))
  obtain ⟨fs, hr, hrun, hended, hW, hsame⟩ := X4.leave (v := none) (fun _ => rfl)
  subst hG
  refine ⟨_, _, pre4s _ ?_, hrun, hended, _, _, rfl, ?_, ⟨_, rfl⟩, hW, hsame.mono (by decide) (by decide)⟩
  · skip
    show Steps p.tables e below (T4.setTop (mkF m 28 #[.val (.ref a), .val (.int y)] [])) _
    exact X4.returnOut hx Bd.returns (hb hby d2_28) hr
  · show Q_rm2 Z a y h0 n0 _ T4.heap _
    rw [e4]
    exact ⟨rfl, N4, K4, F_y_5⟩
theorem pn_5 : plainName "com/example/deferline/deferline/plan/InService$YearsAfterDeferralYear" = true := by first | (simp [plainName, overriddenIn]; done) | decide +kernel
theorem ef_5_R_I_I (m : MethodId) (x0 : Addr) (x1 : Int32) (x2 : Int32) : entryFrame m #[(.ref x0), (.int x1), (.int x2)] 3 = mkF m 0 #[.val (.ref x0), .val (.int x1), .val (.int x2)] [] := by first | (simp [entryFrame, mkF, argsToLocals, Value.category]; done) | rfl
theorem d5_0 : decode prog_43_method_2_code 0 = .ok (.iload_n 2, 1) := by decide +kernel
theorem d5_1 : decode prog_43_method_2_code 1 = .ok (.iload_n 1, 1) := by decide +kernel
theorem d5_2 : decode prog_43_method_2_code 2 = .ok (.aload_n 0, 1) := by decide +kernel
theorem d5_3 : decode prog_43_method_2_code 3 = .ok (.getfield 16, 3) := by decide +kernel
theorem d5_6 : decode prog_43_method_2_code 6 = .ok (.iadd, 1) := by decide +kernel
theorem d5_7 : decode prog_43_method_2_code 7 = .ok (.if_icmp .le 7, 3) := by decide +kernel
theorem d5_10 : decode prog_43_method_2_code 10 = .ok (.iconst 1, 1) := by decide +kernel
theorem d5_11 : decode prog_43_method_2_code 11 = .ok (.goto 4, 3) := by decide +kernel
theorem d5_14 : decode prog_43_method_2_code 14 = .ok (.iconst 0, 1) := by decide +kernel
theorem d5_15 : decode prog_43_method_2_code 15 = .ok (.ireturn, 1) := by decide +kernel
def Q_rm5 (Z : State) (a : Addr) (c0 py y : Int32) (h0 : Heap) (n0 : Nat) (v : Option Value) (h : Heap) (L : List Loc) : Prop := v = some (.int (if (c0 + y) < py then 1 else 0)) ∧ Fr n0 L ∧ h = h0
set_option maxRecDepth 65536 in
set_option maxHeartbeats 40000000 in
theorem rm5 (l : Launch) (Z : State) (a0 : Array Value) (hw : ∀ d ∈ tables_1, d.before a0 Z = true) (ws : List Jvm.Cond) (a : Addr) (c0 py y : Int32) (h0 : Heap) (n0 : Nat) (Z0 : n0 ≤ h0.size) (F_y : Fld Z h0 a "com/example/deferline/deferline/plan/InService$YearsAfterDeferralYear" "years" "I" (.int y)) :
    MetFree l (⟨"com/example/deferline/deferline/plan/InService$YearsAfterDeferralYear", "allows", "(II)Z"⟩ : MethodName) (head1 (Jvm.Cond.code (⟨"com/example/deferline/deferline/plan/InService$YearsAfterDeferralYear", "allows", "(II)Z"⟩ : MethodName) prog_43_method_2_code 3 (some .boolean) :: ws) ({ frames := 0, cells := 0, slots := 0, locals := 0 } : Room)) (fun argv U => argv = #[(.ref a), (.int c0), (.int py)] ∧ Z.Warmed39 U.vm ∧ U.heap = h0) (fun _ _ _ _ _ => True) (fun _ U o U' => ∃ v L, o = .returned v ∧ Q_rm5 Z a c0 py y h0 n0 v U'.heap L ∧ FrameEnd U o U' L ({ frames := 0, cells := 0, slots := 0, locals := 0 } : Room).cells ({ frames := 0, cells := 0, slots := 0, locals := 0 } : Room).slots) := by
  refine MetFree.of_bodySF (plainFor_of_name pn_5) hisR ?_
  intro p e s m args below meth c s₁ Bd hml0 hP hK
  obtain ⟨rfl, hZ, hh⟩ := hP
  have hx := Bd.exec
  have hby := Bd.bytes
  have hml : c.maxLocals = 3 := hml0
  have hown : s.vm.findClass "com/example/deferline/deferline/plan/InService$YearsAfterDeferralYear" = some m.cls := findClass_of_methodNamed Bd.named
  have hnm := (name_of_methodNamed Bd.named Bd.method).1
  have X0 : Stand p l e ({ frames := 0, cells := 0, slots := 0, locals := 0 } : Room) s m #[(.ref a), (.int c0), (.int py)] below meth c s₁ [] 0 0 := Stand.of_body Bd
  have e0 : s₁.heap = h0 := by rw [← hh, Bd.state]; rfl
  have N0 := Fr.nil n0
  obtain ⟨G, hG⟩ : ∃ G : State → Prop, G = fun t => Steps p.tables e below (s₁.setTop (entryFrame m #[(.ref a), (.int c0), (.int py)] 3)) t := ⟨_, rfl⟩
  have pre0 : ∀ t, Steps p.tables e below (s₁.setTop (mkF m 0 #[.val (.ref a), .val (.int c0), .val (.int py)] [])) t → G t := fun t k => by rw [hG]; exact castTop (ef_5_R_I_I m a c0 py) k
  have pre1 : ∀ t, Steps p.tables e below (s₁.setTop (mkF m 3 #[.val (.ref a), .val (.int c0), .val (.int py)] [(.ref a), (.int c0), (.int py)])) t → G t := fun t k => pre0 t (by
    show Steps p.tables e below (s₁.setTop (mkF m 0 #[.val (.ref a), .val (.int c0), .val (.int py)] [])) _
    refine XS.iloadN X0.here hx rfl (hb hby d5_0) rfl ?_
    show Steps p.tables e below (s₁.setTop (mkF m 1 #[.val (.ref a), .val (.int c0), .val (.int py)] [(.int py)])) _
    refine XS.iloadN X0.here hx rfl (hb hby d5_1) rfl ?_
    show Steps p.tables e below (s₁.setTop (mkF m 2 #[.val (.ref a), .val (.int c0), .val (.int py)] [(.int c0), (.int py)])) _
    refine XS.aloadN X0.here hx rfl (hb hby d5_2) rfl rfl ?_
    exact k)
  obtain ⟨T2, X2, e2, st2⟩ := getF X0 hx hZ hown (host := "") (Or.inl (hw _ (List.mem_of_getElem? (i := 20) rfl))) Via.refl e0 F_y (g := (mkF m 3 #[.val (.ref a), .val (.int c0), .val (.int py)] [(.ref a), (.int c0), (.int py)])) rfl rfl (hb hby d5_3)
  have pre2s : ∀ t, Steps p.tables e below (T2.setTop (mkF m 6 #[.val (.ref a), .val (.int c0), .val (.int py)] [(.int y), (.int c0), (.int py)])) t → G t := fun t k => pre1 t (st2 t k)
  have pre3 : ∀ t, Steps p.tables e below (T2.setTop (mkF m 7 #[.val (.ref a), .val (.int c0), .val (.int py)] [(.int (c0 + y)), (.int py)])) t → G t := fun t k => pre2s t (by
    show Steps p.tables e below (T2.setTop (mkF m 6 #[.val (.ref a), .val (.int c0), .val (.int py)] [(.int y), (.int c0), (.int py)])) _
    refine XS.iadd X2.here hx rfl (hb hby d5_6) rfl ?_
    exact k)
  by_cases c7 : (c0 + y) < py
  · -- c7
    obtain ⟨fs, hr, hrun, hended, hW, hsame⟩ := X2.leave (v := some (.int (1 : Int32))) (fun h => by rw [Bd.returns] at h; cases h)
    subst hG
    refine ⟨_, _, pre3 _ ?_, hrun, hended, _, _, rfl, ?_, ⟨_, rfl⟩, hW, hsame.mono (by decide) (by decide)⟩
    · skip
      show Steps p.tables e below (T2.setTop (mkF m 7 #[.val (.ref a), .val (.int c0), .val (.int py)] [(.int (c0 + y)), (.int py)])) _
      refine XS.icmpNo X2.here hx rfl (hb hby d5_7) rfl (tlt c7).2.2.2 ?_
      show Steps p.tables e below (T2.setTop (mkF m 10 #[.val (.ref a), .val (.int c0), .val (.int py)] [])) _
      refine XS.iconst X2.here hx rfl (hb hby d5_10) ?_
      show Steps p.tables e below (T2.setTop (mkF m 11 #[.val (.ref a), .val (.int c0), .val (.int py)] [(.int (1 : Int32))])) _
      refine XS.goto X2.here hx rfl (pc0 := 11) (pc' := 15) rfl (hb hby d5_11) (by decide) (by decide) ?_
      show Steps p.tables e below (T2.setTop (mkF m 15 #[.val (.ref a), .val (.int c0), .val (.int py)] [(.int (1 : Int32))])) _
      exact retN X2 hx (t := .boolean) Bd.returns (by simp) (hb hby d5_15) hr
    · show Q_rm5 Z a c0 py y h0 n0 _ T2.heap _
      rw [e2]
      exact ⟨by rw [if_pos c7], N0, rfl⟩
  · -- not c7
    obtain ⟨fs, hr, hrun, hended, hW, hsame⟩ := X2.leave (v := some (.int (0 : Int32))) (fun h => by rw [Bd.returns] at h; cases h)
    subst hG
    refine ⟨_, _, pre3 _ ?_, hrun, hended, _, _, rfl, ?_, ⟨_, rfl⟩, hW, hsame.mono (by decide) (by decide)⟩
    · skip
      show Steps p.tables e below (T2.setTop (mkF m 7 #[.val (.ref a), .val (.int c0), .val (.int py)] [(.int (c0 + y)), (.int py)])) _
      refine XS.icmpYes X2.here hx rfl (pc0 := 7) (pc' := 14) rfl (hb hby d5_7) rfl (flt c7).2.2.2 (by decide) (by decide) ?_
      show Steps p.tables e below (T2.setTop (mkF m 14 #[.val (.ref a), .val (.int c0), .val (.int py)] [])) _
      refine XS.iconst X2.here hx rfl (hb hby d5_14) ?_
      show Steps p.tables e below (T2.setTop (mkF m 15 #[.val (.ref a), .val (.int c0), .val (.int py)] [(.int (0 : Int32))])) _
      exact retN X2 hx (t := .boolean) Bd.returns (by simp) (hb hby d5_15) hr
    · show Q_rm5 Z a c0 py y h0 n0 _ T2.heap _
      rw [e2]
      exact ⟨by rw [if_neg c7], N0, rfl⟩
theorem pn_0 : plainName "com/example/deferline/deferline/plan/YearsAfterDeferralYearAllowsPinLaw" = true := by first | (simp [plainName, overriddenIn]; done) | decide +kernel
theorem ef_0_I_I_I_I (m : MethodId) (x0 : Int32) (x1 : Int32) (x2 : Int32) (x3 : Int32) : entryFrame m #[(.int x0), (.int x1), (.int x2), (.int x3)] maxLocals = mkF m 0 #[.val (.int x0), .val (.int x1), .val (.int x2), .val (.int x3), .unset, .unset, .unset, .unset, .unset, .unset] [] := by first | (simp [entryFrame, mkF, argsToLocals, Value.category, maxLocals]; done) | rfl
theorem pd_1 : parseMethodDescriptor "(II)I" = some ⟨[.int, .int], some .int⟩ := by decide +kernel
theorem pd_2 : parseMethodDescriptor "(JJ)J" = some ⟨[.long, .long], some .long⟩ := by decide +kernel
theorem pd_3 : parseMethodDescriptor "(I)V" = some ⟨[.int], none⟩ := by decide +kernel
theorem own_law (p0 p1 py : Int32) (hs : ¬ (2147483647 : Int64) < (p0.toInt64 + (own_max (1 : Int32) (p1 &&& (2147483647 : Int32))).toInt64)) : (p0 + (own_max (1 : Int32) (p1 &&& (2147483647 : Int32))) < py) ↔ ¬ ((((py.toInt64) - (p0.toInt64)) - (1 : Int64)) < ((own_max (1 : Int32) (p1 &&& (2147483647 : Int32))).toInt64)) := by
  have h1 := own_years p1
  generalize (own_max (1 : Int32) (p1 &&& (2147483647 : Int32))) = Y at *
  have r0 := rng32 p0
  have rY := rng32 Y
  have rp := rng32 py
  have a1 := c_ladd p0.toInt64 Y.toInt64
  have a2 := rng64 (p0.toInt64 + Y.toInt64)
  have a3 := c_iadd p0 Y
  have a4 := rng32 (p0 + Y)
  have a5 := c_lsub py.toInt64 p0.toInt64
  have a6 := rng64 (py.toInt64 - p0.toInt64)
  have a7 := c_lsub (py.toInt64 - p0.toInt64) 1
  have a8 := rng64 (py.toInt64 - p0.toInt64 - 1)
  have e1 : (1 : Int64).toInt = 1 := by decide
  have e2 : (2147483647 : Int64).toInt = 2147483647 := by decide
  rw [Int64.lt_iff_toInt_lt] at hs ⊢
  rw [Int32.lt_iff_toInt_lt]
  simp only [c_i2l] at *
  omega
theorem pd_4 : parseMethodDescriptor "(II)Z" = some ⟨[.int, .int], some .boolean⟩ := by decide +kernel
def Q_rm0 (Z : State) (p0 p1 p2 p3 : Int32) (h0 : Heap) (n0 : Nat) (v : Option Value) (h : Heap) (L : List Loc) : Prop := v = some (.int 1) ∧ Fr n0 L
set_option maxRecDepth 65536 in
set_option maxHeartbeats 40000000 in
theorem rm0 (l : Launch) (Z : State) (a0 : Array Value) (hw : ∀ d ∈ tables_1, d.before a0 Z = true) (ws : List Jvm.Cond) (p0 p1 p2 p3 : Int32) (h0 : Heap) (n0 : Nat) (Z0 : n0 ≤ h0.size)  :
    MetFree l x (head1 (Jvm.Cond.code x code maxLocals ret :: ws) room_1) (fun argv U => argv = #[(.int p0), (.int p1), (.int p2), (.int p3)] ∧ Z.Warmed39 U.vm ∧ U.heap = h0) (fun _ _ _ _ _ => True) (fun _ U o U' => ∃ v L, o = .returned v ∧ Q_rm0 Z p0 p1 p2 p3 h0 n0 v U'.heap L ∧ FrameEnd U o U' L 16 128) := by
  refine MetFree.of_bodySF (plainFor_of_name pn_0) hisR ?_
  intro p e s m args below meth c s₁ Bd hml0 hP hK
  obtain ⟨rfl, hZ, hh⟩ := hP
  have hx := Bd.exec
  have hby := Bd.bytes
  have hml : c.maxLocals = 10 := hml0
  have hown : s.vm.findClass "com/example/deferline/deferline/plan/YearsAfterDeferralYearAllowsPinLaw" = some m.cls := findClass_of_methodNamed Bd.named
  have hnm := (name_of_methodNamed Bd.named Bd.method).1
  have X0 : Stand p l e room_1 s m #[(.int p0), (.int p1), (.int p2), (.int p3)] below meth c s₁ [] 0 0 := Stand.of_body Bd
  have e0 : s₁.heap = h0 := by rw [← hh, Bd.state]; rfl
  have N0 := Fr.nil n0
  obtain ⟨G, hG⟩ : ∃ G : State → Prop, G = fun t => Steps p.tables e below (s₁.setTop (entryFrame m #[(.int p0), (.int p1), (.int p2), (.int p3)] maxLocals)) t := ⟨_, rfl⟩
  have pre0 : ∀ t, Steps p.tables e below (s₁.setTop (mkF m 0 #[.val (.int p0), .val (.int p1), .val (.int p2), .val (.int p3), .unset, .unset, .unset, .unset, .unset, .unset] [])) t → G t := fun t k => by rw [hG]; exact castTop (ef_0_I_I_I_I m p0 p1 p2 p3) k
  have pre1 : ∀ t, Steps p.tables e below (s₁.setTop (mkF m 5 #[.val (.int p0), .val (.int p1), .val (.int p2), .val (.int p3), .unset, .unset, .unset, .unset, .unset, .unset] [(.int (p1 &&& (2147483647 : Int32))), (.int (1 : Int32))])) t → G t := fun t k => pre0 t (by
    show Steps p.tables e below (s₁.setTop (mkF m 0 #[.val (.int p0), .val (.int p1), .val (.int p2), .val (.int p3), .unset, .unset, .unset, .unset, .unset, .unset] [])) _
    refine XS.iconst X0.here hx rfl (hb hby at_0) ?_
    show Steps p.tables e below (s₁.setTop (mkF m 1 #[.val (.int p0), .val (.int p1), .val (.int p2), .val (.int p3), .unset, .unset, .unset, .unset, .unset, .unset] [(.int (1 : Int32))])) _
    refine XS.iloadN X0.here hx rfl (hb hby at_1) rfl ?_
    show Steps p.tables e below (s₁.setTop (mkF m 2 #[.val (.int p0), .val (.int p1), .val (.int p2), .val (.int p3), .unset, .unset, .unset, .unset, .unset, .unset] [(.int p1), (.int (1 : Int32))])) _
    refine X0.ldcInt hx hown (mvT hZ (hw _ (List.mem_of_getElem? (i := 0) rfl))) (g := (mkF m 2 #[.val (.int p0), .val (.int p1), .val (.int p2), .val (.int p3), .unset, .unset, .unset, .unset, .unset, .unset] [(.int p1), (.int (1 : Int32))])) rfl (hb hby at_2) _ ?_
    show Steps p.tables e below (s₁.setTop (mkF m 4 #[.val (.int p0), .val (.int p1), .val (.int p2), .val (.int p3), .unset, .unset, .unset, .unset, .unset, .unset] [(.int (2147483647 : Int32)), (.int p1), (.int (1 : Int32))])) _
    refine XS.iand X0.here hx rfl (hb hby at_4) rfl ?_
    exact k)
  obtain ⟨_, _, ⟨T2, L2, k2, n2⟩, -, X2, ⟨Lc2, hQ2, l2, y2, z2⟩, st2⟩ := Jvm.LawKit.callS X0 hx (y := (⟨"java/lang/Math", "max", "(II)I"⟩ : MethodName)) hown (mvT hZ (hw _ (List.mem_of_getElem? (i := 1) rfl))) (mvT hZ (hw _ (List.mem_of_getElem? (i := 2) rfl))) (mvT hZ (hw _ (List.mem_of_getElem? (i := 3) rfl))) (mvT hZ (hw _ (List.mem_of_getElem? (i := 4) rfl))) (by decide) (backOf (W := 0) (rm1 l Z a0 hw [] (1 : Int32) (p1 &&& (2147483647 : Int32)) h0 n0 Z0 ) hZ (hw _ (List.mem_of_getElem? (i := 4) rfl)) (hw _ (List.mem_of_getElem? (i := 3) rfl)) (by decide) (by decide)) (g := (mkF m 5 #[.val (.int p0), .val (.int p1), .val (.int p2), .val (.int p3), .unset, .unset, .unset, .unset, .unset, .unset] [(.int (p1 &&& (2147483647 : Int32))), (.int (1 : Int32))])) rfl (by rw [hml]; rfl) (argsL := [(.int (1 : Int32)), (.int (p1 &&& (2147483647 : Int32)))]) (rest := []) (lenOf pd_1 rfl) rfl (by show 2 * 0 + _ ≤ _; exact Nat.le_of_eq rfl) (hb hby at_5) (fun _ _ => ⟨rfl, e0, (Nat.le_of_ble_eq_true rfl), (Nat.le_of_ble_eq_true rfl)⟩)
  dsimp only [Pt.U, Pt.locs, Pt.cells, Pt.slots] at X2 l2 y2 z2 st2 hQ2
  subst l2 y2 z2
  obtain ⟨rfl, N2q, e2⟩ := hQ2
  have N2 := Fr.app N0 N2q
  have pre2s : ∀ t, Steps p.tables e below (T2.setTop (mkF m 8 #[.val (.int p0), .val (.int p1), .val (.int p2), .val (.int p3), .unset, .unset, .unset, .unset, .unset, .unset] [(.int (own_max (1 : Int32) (p1 &&& (2147483647 : Int32))))])) t → G t := fun t k => pre1 t (st2 t k)
  have pre3 : ∀ t, Steps p.tables e below (T2.setTop (mkF m 24 #[.val (.int p0), .val (.int p1), .val (.int p2), .val (.int p3), .val (.int (own_max (1 : Int32) (p1 &&& (2147483647 : Int32)))), .val (.long ((p0.toInt64) + ((own_max (1 : Int32) (p1 &&& (2147483647 : Int32))).toInt64))), .second, .unset, .unset, .unset] [(.int (lcmpW ((p0.toInt64) + ((own_max (1 : Int32) (p1 &&& (2147483647 : Int32))).toInt64)) (2147483647 : Int64)))])) t → G t := fun t k => pre2s t (by
    show Steps p.tables e below (T2.setTop (mkF m 8 #[.val (.int p0), .val (.int p1), .val (.int p2), .val (.int p3), .unset, .unset, .unset, .unset, .unset, .unset] [(.int (own_max (1 : Int32) (p1 &&& (2147483647 : Int32))))])) _
    refine XS.istore X2.here hx rfl (hb hby at_8) rfl (l' := #[.val (.int p0), .val (.int p1), .val (.int p2), .val (.int p3), .val (.int (own_max (1 : Int32) (p1 &&& (2147483647 : Int32)))), .unset, .unset, .unset, .unset, .unset]) rfl ?_
    show Steps p.tables e below (T2.setTop (mkF m 10 #[.val (.int p0), .val (.int p1), .val (.int p2), .val (.int p3), .val (.int (own_max (1 : Int32) (p1 &&& (2147483647 : Int32)))), .unset, .unset, .unset, .unset, .unset] [])) _
    refine XS.iloadN X2.here hx rfl (hb hby at_10) rfl ?_
    show Steps p.tables e below (T2.setTop (mkF m 11 #[.val (.int p0), .val (.int p1), .val (.int p2), .val (.int p3), .val (.int (own_max (1 : Int32) (p1 &&& (2147483647 : Int32)))), .unset, .unset, .unset, .unset, .unset] [(.int p0)])) _
    refine XS.i2l X2.here hx rfl (hb hby at_11) rfl ?_
    show Steps p.tables e below (T2.setTop (mkF m 12 #[.val (.int p0), .val (.int p1), .val (.int p2), .val (.int p3), .val (.int (own_max (1 : Int32) (p1 &&& (2147483647 : Int32)))), .unset, .unset, .unset, .unset, .unset] [(.long (p0.toInt64))])) _
    refine XS.iload X2.here hx rfl (hb hby at_12) rfl ?_
    show Steps p.tables e below (T2.setTop (mkF m 14 #[.val (.int p0), .val (.int p1), .val (.int p2), .val (.int p3), .val (.int (own_max (1 : Int32) (p1 &&& (2147483647 : Int32)))), .unset, .unset, .unset, .unset, .unset] [(.int (own_max (1 : Int32) (p1 &&& (2147483647 : Int32)))), (.long (p0.toInt64))])) _
    refine XS.i2l X2.here hx rfl (hb hby at_14) rfl ?_
    show Steps p.tables e below (T2.setTop (mkF m 15 #[.val (.int p0), .val (.int p1), .val (.int p2), .val (.int p3), .val (.int (own_max (1 : Int32) (p1 &&& (2147483647 : Int32)))), .unset, .unset, .unset, .unset, .unset] [(.long ((own_max (1 : Int32) (p1 &&& (2147483647 : Int32))).toInt64)), (.long (p0.toInt64))])) _
    refine XS.ladd X2.here hx rfl (hb hby at_15) rfl ?_
    show Steps p.tables e below (T2.setTop (mkF m 16 #[.val (.int p0), .val (.int p1), .val (.int p2), .val (.int p3), .val (.int (own_max (1 : Int32) (p1 &&& (2147483647 : Int32)))), .unset, .unset, .unset, .unset, .unset] [(.long ((p0.toInt64) + ((own_max (1 : Int32) (p1 &&& (2147483647 : Int32))).toInt64)))])) _
    refine XS.lstore X2.here hx rfl (hb hby at_16) rfl (l' := #[.val (.int p0), .val (.int p1), .val (.int p2), .val (.int p3), .val (.int (own_max (1 : Int32) (p1 &&& (2147483647 : Int32)))), .val (.long ((p0.toInt64) + ((own_max (1 : Int32) (p1 &&& (2147483647 : Int32))).toInt64))), .second, .unset, .unset, .unset]) rfl ?_
    show Steps p.tables e below (T2.setTop (mkF m 18 #[.val (.int p0), .val (.int p1), .val (.int p2), .val (.int p3), .val (.int (own_max (1 : Int32) (p1 &&& (2147483647 : Int32)))), .val (.long ((p0.toInt64) + ((own_max (1 : Int32) (p1 &&& (2147483647 : Int32))).toInt64))), .second, .unset, .unset, .unset] [])) _
    refine XS.lload X2.here hx rfl (hb hby at_18) rfl ?_
    show Steps p.tables e below (T2.setTop (mkF m 20 #[.val (.int p0), .val (.int p1), .val (.int p2), .val (.int p3), .val (.int (own_max (1 : Int32) (p1 &&& (2147483647 : Int32)))), .val (.long ((p0.toInt64) + ((own_max (1 : Int32) (p1 &&& (2147483647 : Int32))).toInt64))), .second, .unset, .unset, .unset] [(.long ((p0.toInt64) + ((own_max (1 : Int32) (p1 &&& (2147483647 : Int32))).toInt64)))])) _
    refine X2.ldc2Long hx hown (mvT hZ (hw _ (List.mem_of_getElem? (i := 5) rfl))) (g := (mkF m 20 #[.val (.int p0), .val (.int p1), .val (.int p2), .val (.int p3), .val (.int (own_max (1 : Int32) (p1 &&& (2147483647 : Int32)))), .val (.long ((p0.toInt64) + ((own_max (1 : Int32) (p1 &&& (2147483647 : Int32))).toInt64))), .second, .unset, .unset, .unset] [(.long ((p0.toInt64) + ((own_max (1 : Int32) (p1 &&& (2147483647 : Int32))).toInt64)))])) rfl (hb hby at_20) _ ?_
    show Steps p.tables e below (T2.setTop (mkF m 23 #[.val (.int p0), .val (.int p1), .val (.int p2), .val (.int p3), .val (.int (own_max (1 : Int32) (p1 &&& (2147483647 : Int32)))), .val (.long ((p0.toInt64) + ((own_max (1 : Int32) (p1 &&& (2147483647 : Int32))).toInt64))), .second, .unset, .unset, .unset] [(.long (2147483647 : Int64)), (.long ((p0.toInt64) + ((own_max (1 : Int32) (p1 &&& (2147483647 : Int32))).toInt64)))])) _
    refine XS.lcmp X2.here hx rfl (hb hby at_23) rfl ?_
    exact k)
  by_cases hs : (2147483647 : Int64) < ((p0.toInt64) + ((own_max (1 : Int32) (p1 &&& (2147483647 : Int32))).toInt64))
  · -- hs
    obtain ⟨fs, hr, hrun, hended, hW, hsame⟩ := X2.leave (v := some (.int (1 : Int32))) (fun h => by rw [Bd.returns] at h; cases h)
    subst hG
    refine ⟨_, _, pre3 _ ?_, hrun, hended, _, _, rfl, ?_, ⟨_, rfl⟩, hW, hsame.mono (by decide) (by decide)⟩
    · skip
      show Steps p.tables e below (T2.setTop (mkF m 24 #[.val (.int p0), .val (.int p1), .val (.int p2), .val (.int p3), .val (.int (own_max (1 : Int32) (p1 &&& (2147483647 : Int32)))), .val (.long ((p0.toInt64) + ((own_max (1 : Int32) (p1 &&& (2147483647 : Int32))).toInt64))), .second, .unset, .unset, .unset] [(.int (lcmpW ((p0.toInt64) + ((own_max (1 : Int32) (p1 &&& (2147483647 : Int32))).toInt64)) (2147483647 : Int64)))])) _
      refine XS.ifNo X2.here hx rfl (hb hby at_24) rfl ((if0 _ _).trans (tlt ((lw_gt ((p0.toInt64) + ((own_max (1 : Int32) (p1 &&& (2147483647 : Int32))).toInt64)) (2147483647 : Int64)).mpr hs)).2.2.2) ?_
      show Steps p.tables e below (T2.setTop (mkF m 27 #[.val (.int p0), .val (.int p1), .val (.int p2), .val (.int p3), .val (.int (own_max (1 : Int32) (p1 &&& (2147483647 : Int32)))), .val (.long ((p0.toInt64) + ((own_max (1 : Int32) (p1 &&& (2147483647 : Int32))).toInt64))), .second, .unset, .unset, .unset] [])) _
      refine XS.iconst X2.here hx rfl (hb hby at_27) ?_
      show Steps p.tables e below (T2.setTop (mkF m 28 #[.val (.int p0), .val (.int p1), .val (.int p2), .val (.int p3), .val (.int (own_max (1 : Int32) (p1 &&& (2147483647 : Int32)))), .val (.long ((p0.toInt64) + ((own_max (1 : Int32) (p1 &&& (2147483647 : Int32))).toInt64))), .second, .unset, .unset, .unset] [(.int (1 : Int32))])) _
      exact retN X2 hx (t := .boolean) Bd.returns (by simp) (hb hby at_28) hr
    · show Q_rm0 Z p0 p1 p2 p3 h0 n0 _ T2.heap _
      rw [e2]
      exact ⟨rfl, N2⟩
  · -- not hs
    have pre4 : ∀ t, Steps p.tables e below (T2.setTop (mkF m 32 #[.val (.int p0), .val (.int p1), .val (.int p2), .val (.int p3), .val (.int (own_max (1 : Int32) (p1 &&& (2147483647 : Int32)))), .val (.long ((p0.toInt64) + ((own_max (1 : Int32) (p1 &&& (2147483647 : Int32))).toInt64))), .second, .unset, .unset, .unset] [(.int (p3 &&& (1 : Int32)))])) t → G t := fun t k => pre3 t (by
      show Steps p.tables e below (T2.setTop (mkF m 24 #[.val (.int p0), .val (.int p1), .val (.int p2), .val (.int p3), .val (.int (own_max (1 : Int32) (p1 &&& (2147483647 : Int32)))), .val (.long ((p0.toInt64) + ((own_max (1 : Int32) (p1 &&& (2147483647 : Int32))).toInt64))), .second, .unset, .unset, .unset] [(.int (lcmpW ((p0.toInt64) + ((own_max (1 : Int32) (p1 &&& (2147483647 : Int32))).toInt64)) (2147483647 : Int64)))])) _
      refine XS.ifYes X2.here hx rfl (pc0 := 24) (pc' := 29) rfl (hb hby at_24) rfl ((if0 _ _).trans (flt (mt (lw_gt ((p0.toInt64) + ((own_max (1 : Int32) (p1 &&& (2147483647 : Int32))).toInt64)) (2147483647 : Int64)).mp hs)).2.2.2) (by decide) (by decide) ?_
      show Steps p.tables e below (T2.setTop (mkF m 29 #[.val (.int p0), .val (.int p1), .val (.int p2), .val (.int p3), .val (.int (own_max (1 : Int32) (p1 &&& (2147483647 : Int32)))), .val (.long ((p0.toInt64) + ((own_max (1 : Int32) (p1 &&& (2147483647 : Int32))).toInt64))), .second, .unset, .unset, .unset] [])) _
      refine XS.iloadN X2.here hx rfl (hb hby at_29) rfl ?_
      show Steps p.tables e below (T2.setTop (mkF m 30 #[.val (.int p0), .val (.int p1), .val (.int p2), .val (.int p3), .val (.int (own_max (1 : Int32) (p1 &&& (2147483647 : Int32)))), .val (.long ((p0.toInt64) + ((own_max (1 : Int32) (p1 &&& (2147483647 : Int32))).toInt64))), .second, .unset, .unset, .unset] [(.int p3)])) _
      refine XS.iconst X2.here hx rfl (hb hby at_30) ?_
      show Steps p.tables e below (T2.setTop (mkF m 31 #[.val (.int p0), .val (.int p1), .val (.int p2), .val (.int p3), .val (.int (own_max (1 : Int32) (p1 &&& (2147483647 : Int32)))), .val (.long ((p0.toInt64) + ((own_max (1 : Int32) (p1 &&& (2147483647 : Int32))).toInt64))), .second, .unset, .unset, .unset] [(.int (1 : Int32)), (.int p3)])) _
      refine XS.iand X2.here hx rfl (hb hby at_31) rfl ?_
      exact k)
    by_cases cf : (p3 &&& (1 : Int32)) = (0 : Int32)
    · -- cf
      have pre5 : ∀ t, Steps p.tables e below (T2.setTop (mkF m 58 #[.val (.int p0), .val (.int p1), .val (.int p2), .val (.int p3), .val (.int (own_max (1 : Int32) (p1 &&& (2147483647 : Int32)))), .val (.long ((p0.toInt64) + ((own_max (1 : Int32) (p1 &&& (2147483647 : Int32))).toInt64))), .second, .unset, .val (.long (((p0.toInt64) + ((own_max (1 : Int32) (p1 &&& (2147483647 : Int32))).toInt64)) + ((p2 % (5 : Int32)).toInt64))), .second] [(.long (((p0.toInt64) + ((own_max (1 : Int32) (p1 &&& (2147483647 : Int32))).toInt64)) + ((p2 % (5 : Int32)).toInt64))), (.long (-2147483648 : Int64)), (.long (2147483647 : Int64))])) t → G t := fun t k => pre4 t (by
        show Steps p.tables e below (T2.setTop (mkF m 32 #[.val (.int p0), .val (.int p1), .val (.int p2), .val (.int p3), .val (.int (own_max (1 : Int32) (p1 &&& (2147483647 : Int32)))), .val (.long ((p0.toInt64) + ((own_max (1 : Int32) (p1 &&& (2147483647 : Int32))).toInt64))), .second, .unset, .unset, .unset] [(.int (p3 &&& (1 : Int32)))])) _
        refine XS.ifYes X2.here hx rfl (pc0 := 32) (pc' := 41) rfl (hb hby at_32) rfl ((if0 _ _).trans (teq cf).1) (by decide) (by decide) ?_
        show Steps p.tables e below (T2.setTop (mkF m 41 #[.val (.int p0), .val (.int p1), .val (.int p2), .val (.int p3), .val (.int (own_max (1 : Int32) (p1 &&& (2147483647 : Int32)))), .val (.long ((p0.toInt64) + ((own_max (1 : Int32) (p1 &&& (2147483647 : Int32))).toInt64))), .second, .unset, .unset, .unset] [])) _
        refine XS.lload X2.here hx rfl (hb hby at_41) rfl ?_
        show Steps p.tables e below (T2.setTop (mkF m 43 #[.val (.int p0), .val (.int p1), .val (.int p2), .val (.int p3), .val (.int (own_max (1 : Int32) (p1 &&& (2147483647 : Int32)))), .val (.long ((p0.toInt64) + ((own_max (1 : Int32) (p1 &&& (2147483647 : Int32))).toInt64))), .second, .unset, .unset, .unset] [(.long ((p0.toInt64) + ((own_max (1 : Int32) (p1 &&& (2147483647 : Int32))).toInt64)))])) _
        refine XS.iloadN X2.here hx rfl (hb hby at_43) rfl ?_
        show Steps p.tables e below (T2.setTop (mkF m 44 #[.val (.int p0), .val (.int p1), .val (.int p2), .val (.int p3), .val (.int (own_max (1 : Int32) (p1 &&& (2147483647 : Int32)))), .val (.long ((p0.toInt64) + ((own_max (1 : Int32) (p1 &&& (2147483647 : Int32))).toInt64))), .second, .unset, .unset, .unset] [(.int p2), (.long ((p0.toInt64) + ((own_max (1 : Int32) (p1 &&& (2147483647 : Int32))).toInt64)))])) _
        refine XS.iconst X2.here hx rfl (hb hby at_44) ?_
        show Steps p.tables e below (T2.setTop (mkF m 45 #[.val (.int p0), .val (.int p1), .val (.int p2), .val (.int p3), .val (.int (own_max (1 : Int32) (p1 &&& (2147483647 : Int32)))), .val (.long ((p0.toInt64) + ((own_max (1 : Int32) (p1 &&& (2147483647 : Int32))).toInt64))), .second, .unset, .unset, .unset] [(.int (5 : Int32)), (.int p2), (.long ((p0.toInt64) + ((own_max (1 : Int32) (p1 &&& (2147483647 : Int32))).toInt64)))])) _
        refine iremM X2 hx rfl (hb hby at_45) rfl (by decide) ?_
        show Steps p.tables e below (T2.setTop (mkF m 46 #[.val (.int p0), .val (.int p1), .val (.int p2), .val (.int p3), .val (.int (own_max (1 : Int32) (p1 &&& (2147483647 : Int32)))), .val (.long ((p0.toInt64) + ((own_max (1 : Int32) (p1 &&& (2147483647 : Int32))).toInt64))), .second, .unset, .unset, .unset] [(.int (p2 % (5 : Int32))), (.long ((p0.toInt64) + ((own_max (1 : Int32) (p1 &&& (2147483647 : Int32))).toInt64)))])) _
        refine XS.i2l X2.here hx rfl (hb hby at_46) rfl ?_
        show Steps p.tables e below (T2.setTop (mkF m 47 #[.val (.int p0), .val (.int p1), .val (.int p2), .val (.int p3), .val (.int (own_max (1 : Int32) (p1 &&& (2147483647 : Int32)))), .val (.long ((p0.toInt64) + ((own_max (1 : Int32) (p1 &&& (2147483647 : Int32))).toInt64))), .second, .unset, .unset, .unset] [(.long ((p2 % (5 : Int32)).toInt64)), (.long ((p0.toInt64) + ((own_max (1 : Int32) (p1 &&& (2147483647 : Int32))).toInt64)))])) _
        refine XS.ladd X2.here hx rfl (hb hby at_47) rfl ?_
        show Steps p.tables e below (T2.setTop (mkF m 48 #[.val (.int p0), .val (.int p1), .val (.int p2), .val (.int p3), .val (.int (own_max (1 : Int32) (p1 &&& (2147483647 : Int32)))), .val (.long ((p0.toInt64) + ((own_max (1 : Int32) (p1 &&& (2147483647 : Int32))).toInt64))), .second, .unset, .unset, .unset] [(.long (((p0.toInt64) + ((own_max (1 : Int32) (p1 &&& (2147483647 : Int32))).toInt64)) + ((p2 % (5 : Int32)).toInt64)))])) _
        refine XS.lstore X2.here hx rfl (hb hby at_48) rfl (l' := #[.val (.int p0), .val (.int p1), .val (.int p2), .val (.int p3), .val (.int (own_max (1 : Int32) (p1 &&& (2147483647 : Int32)))), .val (.long ((p0.toInt64) + ((own_max (1 : Int32) (p1 &&& (2147483647 : Int32))).toInt64))), .second, .unset, .val (.long (((p0.toInt64) + ((own_max (1 : Int32) (p1 &&& (2147483647 : Int32))).toInt64)) + ((p2 % (5 : Int32)).toInt64))), .second]) rfl ?_
        show Steps p.tables e below (T2.setTop (mkF m 50 #[.val (.int p0), .val (.int p1), .val (.int p2), .val (.int p3), .val (.int (own_max (1 : Int32) (p1 &&& (2147483647 : Int32)))), .val (.long ((p0.toInt64) + ((own_max (1 : Int32) (p1 &&& (2147483647 : Int32))).toInt64))), .second, .unset, .val (.long (((p0.toInt64) + ((own_max (1 : Int32) (p1 &&& (2147483647 : Int32))).toInt64)) + ((p2 % (5 : Int32)).toInt64))), .second] [])) _
        refine X2.ldc2Long hx hown (mvT hZ (hw _ (List.mem_of_getElem? (i := 5) rfl))) (g := (mkF m 50 #[.val (.int p0), .val (.int p1), .val (.int p2), .val (.int p3), .val (.int (own_max (1 : Int32) (p1 &&& (2147483647 : Int32)))), .val (.long ((p0.toInt64) + ((own_max (1 : Int32) (p1 &&& (2147483647 : Int32))).toInt64))), .second, .unset, .val (.long (((p0.toInt64) + ((own_max (1 : Int32) (p1 &&& (2147483647 : Int32))).toInt64)) + ((p2 % (5 : Int32)).toInt64))), .second] [])) rfl (hb hby at_50) _ ?_
        show Steps p.tables e below (T2.setTop (mkF m 53 #[.val (.int p0), .val (.int p1), .val (.int p2), .val (.int p3), .val (.int (own_max (1 : Int32) (p1 &&& (2147483647 : Int32)))), .val (.long ((p0.toInt64) + ((own_max (1 : Int32) (p1 &&& (2147483647 : Int32))).toInt64))), .second, .unset, .val (.long (((p0.toInt64) + ((own_max (1 : Int32) (p1 &&& (2147483647 : Int32))).toInt64)) + ((p2 % (5 : Int32)).toInt64))), .second] [(.long (2147483647 : Int64))])) _
        refine X2.ldc2Long hx hown (mvT hZ (hw _ (List.mem_of_getElem? (i := 27) rfl))) (g := (mkF m 53 #[.val (.int p0), .val (.int p1), .val (.int p2), .val (.int p3), .val (.int (own_max (1 : Int32) (p1 &&& (2147483647 : Int32)))), .val (.long ((p0.toInt64) + ((own_max (1 : Int32) (p1 &&& (2147483647 : Int32))).toInt64))), .second, .unset, .val (.long (((p0.toInt64) + ((own_max (1 : Int32) (p1 &&& (2147483647 : Int32))).toInt64)) + ((p2 % (5 : Int32)).toInt64))), .second] [(.long (2147483647 : Int64))])) rfl (hb hby at_53) _ ?_
        show Steps p.tables e below (T2.setTop (mkF m 56 #[.val (.int p0), .val (.int p1), .val (.int p2), .val (.int p3), .val (.int (own_max (1 : Int32) (p1 &&& (2147483647 : Int32)))), .val (.long ((p0.toInt64) + ((own_max (1 : Int32) (p1 &&& (2147483647 : Int32))).toInt64))), .second, .unset, .val (.long (((p0.toInt64) + ((own_max (1 : Int32) (p1 &&& (2147483647 : Int32))).toInt64)) + ((p2 % (5 : Int32)).toInt64))), .second] [(.long (-2147483648 : Int64)), (.long (2147483647 : Int64))])) _
        refine XS.lload X2.here hx rfl (hb hby at_56) rfl ?_
        exact k)
      obtain ⟨_, _, ⟨T6, L6, k6, n6⟩, -, X6, ⟨Lc6, hQ6, l6, y6, z6⟩, st6⟩ := Jvm.LawKit.callS X2 hx (y := (⟨"java/lang/Math", "max", "(JJ)J"⟩ : MethodName)) hown (mvT hZ (hw _ (List.mem_of_getElem? (i := 28) rfl))) (mvT hZ (hw _ (List.mem_of_getElem? (i := 29) rfl))) (mvT hZ (hw _ (List.mem_of_getElem? (i := 3) rfl))) (mvT hZ (hw _ (List.mem_of_getElem? (i := 30) rfl))) (by decide) (backOf (W := 2) (rm6 l Z a0 hw [] (-2147483648 : Int64) (((p0.toInt64) + ((own_max (1 : Int32) (p1 &&& (2147483647 : Int32))).toInt64)) + ((p2 % (5 : Int32)).toInt64)) h0 n0 Z0 ) hZ (hw _ (List.mem_of_getElem? (i := 30) rfl)) (hw _ (List.mem_of_getElem? (i := 3) rfl)) (by decide) (by decide)) (g := (mkF m 58 #[.val (.int p0), .val (.int p1), .val (.int p2), .val (.int p3), .val (.int (own_max (1 : Int32) (p1 &&& (2147483647 : Int32)))), .val (.long ((p0.toInt64) + ((own_max (1 : Int32) (p1 &&& (2147483647 : Int32))).toInt64))), .second, .unset, .val (.long (((p0.toInt64) + ((own_max (1 : Int32) (p1 &&& (2147483647 : Int32))).toInt64)) + ((p2 % (5 : Int32)).toInt64))), .second] [(.long (((p0.toInt64) + ((own_max (1 : Int32) (p1 &&& (2147483647 : Int32))).toInt64)) + ((p2 % (5 : Int32)).toInt64))), (.long (-2147483648 : Int64)), (.long (2147483647 : Int64))])) rfl (by rw [hml]; rfl) (argsL := [(.long (-2147483648 : Int64)), (.long (((p0.toInt64) + ((own_max (1 : Int32) (p1 &&& (2147483647 : Int32))).toInt64)) + ((p2 % (5 : Int32)).toInt64)))]) (rest := [(.long (2147483647 : Int64))]) (lenOf pd_2 rfl) rfl (by show 2 * 0 + _ ≤ _; exact Nat.le_of_eq rfl) (hb hby at_58) (fun _ _ => ⟨rfl, e2, (Nat.le_of_ble_eq_true rfl), (Nat.le_of_ble_eq_true rfl)⟩)
      dsimp only [Pt.U, Pt.locs, Pt.cells, Pt.slots] at X6 l6 y6 z6 st6 hQ6
      subst l6 y6 z6
      obtain ⟨z1, rfl, N6q, e6⟩ := hQ6
      have N6 := Fr.app N2 N6q
      have pre6s : ∀ t, Steps p.tables e below (T6.setTop (mkF m 61 #[.val (.int p0), .val (.int p1), .val (.int p2), .val (.int p3), .val (.int (own_max (1 : Int32) (p1 &&& (2147483647 : Int32)))), .val (.long ((p0.toInt64) + ((own_max (1 : Int32) (p1 &&& (2147483647 : Int32))).toInt64))), .second, .unset, .val (.long (((p0.toInt64) + ((own_max (1 : Int32) (p1 &&& (2147483647 : Int32))).toInt64)) + ((p2 % (5 : Int32)).toInt64))), .second] [(.long z1), (.long (2147483647 : Int64))])) t → G t := fun t k => pre5 t (st6 t k)
      obtain ⟨_, _, ⟨T7, L7, k7, n7⟩, -, X7, ⟨Lc7, hQ7, l7, y7, z7⟩, st7⟩ := Jvm.LawKit.callS X6 hx (y := (⟨"java/lang/Math", "min", "(JJ)J"⟩ : MethodName)) hown (mvT hZ (hw _ (List.mem_of_getElem? (i := 31) rfl))) (mvT hZ (hw _ (List.mem_of_getElem? (i := 32) rfl))) (mvT hZ (hw _ (List.mem_of_getElem? (i := 3) rfl))) (mvT hZ (hw _ (List.mem_of_getElem? (i := 33) rfl))) (by decide) (backOf (W := 0) (rm7 l Z a0 hw [] (2147483647 : Int64) z1 h0 n0 Z0 ) hZ (hw _ (List.mem_of_getElem? (i := 33) rfl)) (hw _ (List.mem_of_getElem? (i := 3) rfl)) (by decide) (by decide)) (g := (mkF m 61 #[.val (.int p0), .val (.int p1), .val (.int p2), .val (.int p3), .val (.int (own_max (1 : Int32) (p1 &&& (2147483647 : Int32)))), .val (.long ((p0.toInt64) + ((own_max (1 : Int32) (p1 &&& (2147483647 : Int32))).toInt64))), .second, .unset, .val (.long (((p0.toInt64) + ((own_max (1 : Int32) (p1 &&& (2147483647 : Int32))).toInt64)) + ((p2 % (5 : Int32)).toInt64))), .second] [(.long z1), (.long (2147483647 : Int64))])) rfl (by rw [hml]; rfl) (argsL := [(.long (2147483647 : Int64)), (.long z1)]) (rest := []) (lenOf pd_2 rfl) rfl (by show 2 * 0 + _ ≤ _; exact Nat.le_of_eq rfl) (hb hby at_61) (fun _ _ => ⟨rfl, e6, (Nat.le_of_ble_eq_true rfl), (Nat.le_of_ble_eq_true rfl)⟩)
      dsimp only [Pt.U, Pt.locs, Pt.cells, Pt.slots] at X7 l7 y7 z7 st7 hQ7
      subst l7 y7 z7
      obtain ⟨z2, rfl, N7q, e7⟩ := hQ7
      have N7 := Fr.app N6 N7q
      have pre7s : ∀ t, Steps p.tables e below (T7.setTop (mkF m 64 #[.val (.int p0), .val (.int p1), .val (.int p2), .val (.int p3), .val (.int (own_max (1 : Int32) (p1 &&& (2147483647 : Int32)))), .val (.long ((p0.toInt64) + ((own_max (1 : Int32) (p1 &&& (2147483647 : Int32))).toInt64))), .second, .unset, .val (.long (((p0.toInt64) + ((own_max (1 : Int32) (p1 &&& (2147483647 : Int32))).toInt64)) + ((p2 % (5 : Int32)).toInt64))), .second] [(.long z2)])) t → G t := fun t k => pre6s t (st7 t k)
      have pre8 : ∀ t, Steps p.tables e below (T7.setTop (mkF m 67 #[.val (.int p0), .val (.int p1), .val (.int p2), .val (.int p3), .val (.int (own_max (1 : Int32) (p1 &&& (2147483647 : Int32)))), .val (.long ((p0.toInt64) + ((own_max (1 : Int32) (p1 &&& (2147483647 : Int32))).toInt64))), .second, .val (.int (z2.toInt32)), .val (.long (((p0.toInt64) + ((own_max (1 : Int32) (p1 &&& (2147483647 : Int32))).toInt64)) + ((p2 % (5 : Int32)).toInt64))), .second] [])) t → G t := fun t k => pre7s t (by
        show Steps p.tables e below (T7.setTop (mkF m 64 #[.val (.int p0), .val (.int p1), .val (.int p2), .val (.int p3), .val (.int (own_max (1 : Int32) (p1 &&& (2147483647 : Int32)))), .val (.long ((p0.toInt64) + ((own_max (1 : Int32) (p1 &&& (2147483647 : Int32))).toInt64))), .second, .unset, .val (.long (((p0.toInt64) + ((own_max (1 : Int32) (p1 &&& (2147483647 : Int32))).toInt64)) + ((p2 % (5 : Int32)).toInt64))), .second] [(.long z2)])) _
        refine XS.l2i X7.here hx rfl (hb hby at_64) rfl ?_
        show Steps p.tables e below (T7.setTop (mkF m 65 #[.val (.int p0), .val (.int p1), .val (.int p2), .val (.int p3), .val (.int (own_max (1 : Int32) (p1 &&& (2147483647 : Int32)))), .val (.long ((p0.toInt64) + ((own_max (1 : Int32) (p1 &&& (2147483647 : Int32))).toInt64))), .second, .unset, .val (.long (((p0.toInt64) + ((own_max (1 : Int32) (p1 &&& (2147483647 : Int32))).toInt64)) + ((p2 % (5 : Int32)).toInt64))), .second] [(.int (z2.toInt32))])) _
        refine XS.istore X7.here hx rfl (hb hby at_65) rfl (l' := #[.val (.int p0), .val (.int p1), .val (.int p2), .val (.int p3), .val (.int (own_max (1 : Int32) (p1 &&& (2147483647 : Int32)))), .val (.long ((p0.toInt64) + ((own_max (1 : Int32) (p1 &&& (2147483647 : Int32))).toInt64))), .second, .val (.int (z2.toInt32)), .val (.long (((p0.toInt64) + ((own_max (1 : Int32) (p1 &&& (2147483647 : Int32))).toInt64)) + ((p2 % (5 : Int32)).toInt64))), .second]) rfl ?_
        exact k)
      obtain ⟨T9, h9, X9, e9, E9, A9, D9, -, st9⟩ := newO X7 hx hZ hown (hw _ (List.mem_of_getElem? (i := 6) rfl)) (hw _ (List.mem_of_getElem? (i := 7) rfl)) (hw _ (List.mem_of_getElem? (i := 8) rfl)) e7 (g := (mkF m 67 #[.val (.int p0), .val (.int p1), .val (.int p2), .val (.int p3), .val (.int (own_max (1 : Int32) (p1 &&& (2147483647 : Int32)))), .val (.long ((p0.toInt64) + ((own_max (1 : Int32) (p1 &&& (2147483647 : Int32))).toInt64))), .second, .val (.int (z2.toInt32)), .val (.long (((p0.toInt64) + ((own_max (1 : Int32) (p1 &&& (2147483647 : Int32))).toInt64)) + ((p2 % (5 : Int32)).toInt64))), .second] [])) rfl (hb hby at_67) (by decide) (by decide)
      obtain ⟨b, g9⟩ : ∃ z, z = h0.size := ⟨_, rfl⟩
      rw [← g9] at A9 D9 st9
      have O_b : n0 ≤ b := Nat.le_trans Z0 (Nat.le_of_eq g9.symm)
      have Z9 : n0 ≤ h9.size := Nat.le_trans Z0 E9.1
      have pre9s : ∀ t, Steps p.tables e below (T9.setTop (mkF m 70 #[.val (.int p0), .val (.int p1), .val (.int p2), .val (.int p3), .val (.int (own_max (1 : Int32) (p1 &&& (2147483647 : Int32)))), .val (.long ((p0.toInt64) + ((own_max (1 : Int32) (p1 &&& (2147483647 : Int32))).toInt64))), .second, .val (.int (z2.toInt32)), .val (.long (((p0.toInt64) + ((own_max (1 : Int32) (p1 &&& (2147483647 : Int32))).toInt64)) + ((p2 % (5 : Int32)).toInt64))), .second] [(.ref b)])) t → G t := fun t k => pre8 t (st9 t k)
      have Fyears_b : Fld Z h9 b "com/example/deferline/deferline/plan/InService$YearsAfterDeferralYear" "years" "I" (.int (0 : Int32)) := D9 (Or.inr (hw _ (List.mem_of_getElem? (i := 21) rfl))) (ty := .int) (by decide)
      have pre10 : ∀ t, Steps p.tables e below (T9.setTop (mkF m 73 #[.val (.int p0), .val (.int p1), .val (.int p2), .val (.int p3), .val (.int (own_max (1 : Int32) (p1 &&& (2147483647 : Int32)))), .val (.long ((p0.toInt64) + ((own_max (1 : Int32) (p1 &&& (2147483647 : Int32))).toInt64))), .second, .val (.int (z2.toInt32)), .val (.long (((p0.toInt64) + ((own_max (1 : Int32) (p1 &&& (2147483647 : Int32))).toInt64)) + ((p2 % (5 : Int32)).toInt64))), .second] [(.int (own_max (1 : Int32) (p1 &&& (2147483647 : Int32)))), (.ref b), (.ref b)])) t → G t := fun t k => pre9s t (by
        show Steps p.tables e below (T9.setTop (mkF m 70 #[.val (.int p0), .val (.int p1), .val (.int p2), .val (.int p3), .val (.int (own_max (1 : Int32) (p1 &&& (2147483647 : Int32)))), .val (.long ((p0.toInt64) + ((own_max (1 : Int32) (p1 &&& (2147483647 : Int32))).toInt64))), .second, .val (.int (z2.toInt32)), .val (.long (((p0.toInt64) + ((own_max (1 : Int32) (p1 &&& (2147483647 : Int32))).toInt64)) + ((p2 % (5 : Int32)).toInt64))), .second] [(.ref b)])) _
        refine XS.dup X9.here hx rfl (hb hby at_70) rfl rfl ?_
        show Steps p.tables e below (T9.setTop (mkF m 71 #[.val (.int p0), .val (.int p1), .val (.int p2), .val (.int p3), .val (.int (own_max (1 : Int32) (p1 &&& (2147483647 : Int32)))), .val (.long ((p0.toInt64) + ((own_max (1 : Int32) (p1 &&& (2147483647 : Int32))).toInt64))), .second, .val (.int (z2.toInt32)), .val (.long (((p0.toInt64) + ((own_max (1 : Int32) (p1 &&& (2147483647 : Int32))).toInt64)) + ((p2 % (5 : Int32)).toInt64))), .second] [(.ref b), (.ref b)])) _
        refine XS.iload X9.here hx rfl (hb hby at_71) rfl ?_
        exact k)
      obtain ⟨_, _, ⟨T11, L11, k11, n11⟩, -, X11, ⟨Lc11, hQ11, l11, y11, z11⟩, st11⟩ := X9.specialBack hx (y := (⟨"com/example/deferline/deferline/plan/InService$YearsAfterDeferralYear", "<init>", "(I)V"⟩ : MethodName)) rfl hown (mvT hZ (hw _ (List.mem_of_getElem? (i := 9) rfl))) (mvT hZ (hw _ (List.mem_of_getElem? (i := 10) rfl))) (mvT hZ (hw _ (List.mem_of_getElem? (i := 11) rfl))) (by decide) (backOf (W := 1) (rm2 l Z a0 hw [] b (own_max (1 : Int32) (p1 &&& (2147483647 : Int32))) h9 n0 Z9 Fyears_b A9 O_b (own_years' p1)) hZ (hw _ (List.mem_of_getElem? (i := 11) rfl)) (hw _ (List.mem_of_getElem? (i := 8) rfl)) (by decide) (by decide)) (g := (mkF m 73 #[.val (.int p0), .val (.int p1), .val (.int p2), .val (.int p3), .val (.int (own_max (1 : Int32) (p1 &&& (2147483647 : Int32)))), .val (.long ((p0.toInt64) + ((own_max (1 : Int32) (p1 &&& (2147483647 : Int32))).toInt64))), .second, .val (.int (z2.toInt32)), .val (.long (((p0.toInt64) + ((own_max (1 : Int32) (p1 &&& (2147483647 : Int32))).toInt64)) + ((p2 % (5 : Int32)).toInt64))), .second] [(.int (own_max (1 : Int32) (p1 &&& (2147483647 : Int32)))), (.ref b), (.ref b)])) rfl (by rw [hml]; rfl) (Steps.refl _) (a := b) (argsL := [(.int (own_max (1 : Int32) (p1 &&& (2147483647 : Int32))))]) (rest := [(.ref b)]) (lenOf pd_3 rfl) rfl (by show 2 * 0 + _ ≤ _; exact Nat.le_of_eq rfl) (hb hby at_73) (fun _ _ => ⟨rfl, e9, (Nat.le_of_ble_eq_true rfl), (Nat.le_of_ble_eq_true rfl)⟩)
      dsimp only [Pt.U, Pt.locs, Pt.cells, Pt.slots] at X11 l11 y11 z11 st11 hQ11
      subst l11 y11 z11
      obtain ⟨rfl, N11q, K11, Fy11⟩ := hQ11
      have N11 := Fr.app N7 N11q
      have pre11s : ∀ t, Steps p.tables e below (T11.setTop (mkF m 76 #[.val (.int p0), .val (.int p1), .val (.int p2), .val (.int p3), .val (.int (own_max (1 : Int32) (p1 &&& (2147483647 : Int32)))), .val (.long ((p0.toInt64) + ((own_max (1 : Int32) (p1 &&& (2147483647 : Int32))).toInt64))), .second, .val (.int (z2.toInt32)), .val (.long (((p0.toInt64) + ((own_max (1 : Int32) (p1 &&& (2147483647 : Int32))).toInt64)) + ((p2 % (5 : Int32)).toInt64))), .second] [(.ref b)])) t → G t := fun t k => pre10 t (st11.trans k)
      have Z11 : n0 ≤ T11.heap.size := Nat.le_trans Z9 K11.1
      have A9_12 := A9.keep K11
      have pre13 : ∀ t, Steps p.tables e below (T11.setTop (mkF m 90 #[.val (.int p0), .val (.int p1), .val (.int p2), .val (.int p3), .val (.int (own_max (1 : Int32) (p1 &&& (2147483647 : Int32)))), .val (.long ((p0.toInt64) + ((own_max (1 : Int32) (p1 &&& (2147483647 : Int32))).toInt64))), .second, .val (.int (z2.toInt32)), .val (.ref b), .unset] [(.int (lcmpW ((((z2.toInt32).toInt64) - (p0.toInt64)) - (1 : Int64)) ((own_max (1 : Int32) (p1 &&& (2147483647 : Int32))).toInt64)))])) t → G t := fun t k => pre11s t (by
        show Steps p.tables e below (T11.setTop (mkF m 76 #[.val (.int p0), .val (.int p1), .val (.int p2), .val (.int p3), .val (.int (own_max (1 : Int32) (p1 &&& (2147483647 : Int32)))), .val (.long ((p0.toInt64) + ((own_max (1 : Int32) (p1 &&& (2147483647 : Int32))).toInt64))), .second, .val (.int (z2.toInt32)), .val (.long (((p0.toInt64) + ((own_max (1 : Int32) (p1 &&& (2147483647 : Int32))).toInt64)) + ((p2 % (5 : Int32)).toInt64))), .second] [(.ref b)])) _
        refine XS.astore X11.here hx rfl (hb hby at_76) rfl rfl (l' := #[.val (.int p0), .val (.int p1), .val (.int p2), .val (.int p3), .val (.int (own_max (1 : Int32) (p1 &&& (2147483647 : Int32)))), .val (.long ((p0.toInt64) + ((own_max (1 : Int32) (p1 &&& (2147483647 : Int32))).toInt64))), .second, .val (.int (z2.toInt32)), .val (.ref b), .unset]) rfl ?_
        show Steps p.tables e below (T11.setTop (mkF m 78 #[.val (.int p0), .val (.int p1), .val (.int p2), .val (.int p3), .val (.int (own_max (1 : Int32) (p1 &&& (2147483647 : Int32)))), .val (.long ((p0.toInt64) + ((own_max (1 : Int32) (p1 &&& (2147483647 : Int32))).toInt64))), .second, .val (.int (z2.toInt32)), .val (.ref b), .unset] [])) _
        refine XS.iload X11.here hx rfl (hb hby at_78) rfl ?_
        show Steps p.tables e below (T11.setTop (mkF m 80 #[.val (.int p0), .val (.int p1), .val (.int p2), .val (.int p3), .val (.int (own_max (1 : Int32) (p1 &&& (2147483647 : Int32)))), .val (.long ((p0.toInt64) + ((own_max (1 : Int32) (p1 &&& (2147483647 : Int32))).toInt64))), .second, .val (.int (z2.toInt32)), .val (.ref b), .unset] [(.int (z2.toInt32))])) _
        refine XS.i2l X11.here hx rfl (hb hby at_80) rfl ?_
        show Steps p.tables e below (T11.setTop (mkF m 81 #[.val (.int p0), .val (.int p1), .val (.int p2), .val (.int p3), .val (.int (own_max (1 : Int32) (p1 &&& (2147483647 : Int32)))), .val (.long ((p0.toInt64) + ((own_max (1 : Int32) (p1 &&& (2147483647 : Int32))).toInt64))), .second, .val (.int (z2.toInt32)), .val (.ref b), .unset] [(.long ((z2.toInt32).toInt64))])) _
        refine XS.iloadN X11.here hx rfl (hb hby at_81) rfl ?_
        show Steps p.tables e below (T11.setTop (mkF m 82 #[.val (.int p0), .val (.int p1), .val (.int p2), .val (.int p3), .val (.int (own_max (1 : Int32) (p1 &&& (2147483647 : Int32)))), .val (.long ((p0.toInt64) + ((own_max (1 : Int32) (p1 &&& (2147483647 : Int32))).toInt64))), .second, .val (.int (z2.toInt32)), .val (.ref b), .unset] [(.int p0), (.long ((z2.toInt32).toInt64))])) _
        refine XS.i2l X11.here hx rfl (hb hby at_82) rfl ?_
        show Steps p.tables e below (T11.setTop (mkF m 83 #[.val (.int p0), .val (.int p1), .val (.int p2), .val (.int p3), .val (.int (own_max (1 : Int32) (p1 &&& (2147483647 : Int32)))), .val (.long ((p0.toInt64) + ((own_max (1 : Int32) (p1 &&& (2147483647 : Int32))).toInt64))), .second, .val (.int (z2.toInt32)), .val (.ref b), .unset] [(.long (p0.toInt64)), (.long ((z2.toInt32).toInt64))])) _
        refine XS.lsub X11.here hx rfl (hb hby at_83) rfl ?_
        show Steps p.tables e below (T11.setTop (mkF m 84 #[.val (.int p0), .val (.int p1), .val (.int p2), .val (.int p3), .val (.int (own_max (1 : Int32) (p1 &&& (2147483647 : Int32)))), .val (.long ((p0.toInt64) + ((own_max (1 : Int32) (p1 &&& (2147483647 : Int32))).toInt64))), .second, .val (.int (z2.toInt32)), .val (.ref b), .unset] [(.long (((z2.toInt32).toInt64) - (p0.toInt64)))])) _
        refine XS.lconst X11.here hx rfl (hb hby at_84) ?_
        show Steps p.tables e below (T11.setTop (mkF m 85 #[.val (.int p0), .val (.int p1), .val (.int p2), .val (.int p3), .val (.int (own_max (1 : Int32) (p1 &&& (2147483647 : Int32)))), .val (.long ((p0.toInt64) + ((own_max (1 : Int32) (p1 &&& (2147483647 : Int32))).toInt64))), .second, .val (.int (z2.toInt32)), .val (.ref b), .unset] [(.long (1 : Int64)), (.long (((z2.toInt32).toInt64) - (p0.toInt64)))])) _
        refine XS.lsub X11.here hx rfl (hb hby at_85) rfl ?_
        show Steps p.tables e below (T11.setTop (mkF m 86 #[.val (.int p0), .val (.int p1), .val (.int p2), .val (.int p3), .val (.int (own_max (1 : Int32) (p1 &&& (2147483647 : Int32)))), .val (.long ((p0.toInt64) + ((own_max (1 : Int32) (p1 &&& (2147483647 : Int32))).toInt64))), .second, .val (.int (z2.toInt32)), .val (.ref b), .unset] [(.long ((((z2.toInt32).toInt64) - (p0.toInt64)) - (1 : Int64)))])) _
        refine XS.iload X11.here hx rfl (hb hby at_86) rfl ?_
        show Steps p.tables e below (T11.setTop (mkF m 88 #[.val (.int p0), .val (.int p1), .val (.int p2), .val (.int p3), .val (.int (own_max (1 : Int32) (p1 &&& (2147483647 : Int32)))), .val (.long ((p0.toInt64) + ((own_max (1 : Int32) (p1 &&& (2147483647 : Int32))).toInt64))), .second, .val (.int (z2.toInt32)), .val (.ref b), .unset] [(.int (own_max (1 : Int32) (p1 &&& (2147483647 : Int32)))), (.long ((((z2.toInt32).toInt64) - (p0.toInt64)) - (1 : Int64)))])) _
        refine XS.i2l X11.here hx rfl (hb hby at_88) rfl ?_
        show Steps p.tables e below (T11.setTop (mkF m 89 #[.val (.int p0), .val (.int p1), .val (.int p2), .val (.int p3), .val (.int (own_max (1 : Int32) (p1 &&& (2147483647 : Int32)))), .val (.long ((p0.toInt64) + ((own_max (1 : Int32) (p1 &&& (2147483647 : Int32))).toInt64))), .second, .val (.int (z2.toInt32)), .val (.ref b), .unset] [(.long ((own_max (1 : Int32) (p1 &&& (2147483647 : Int32))).toInt64)), (.long ((((z2.toInt32).toInt64) - (p0.toInt64)) - (1 : Int64)))])) _
        refine XS.lcmp X11.here hx rfl (hb hby at_89) rfl ?_
        exact k)
      by_cases ce : ((((z2.toInt32).toInt64) - (p0.toInt64)) - (1 : Int64)) < ((own_max (1 : Int32) (p1 &&& (2147483647 : Int32))).toInt64)
      · skip
        have pre14 : ∀ t, Steps p.tables e below (T11.setTop (mkF m 105 #[.val (.int p0), .val (.int p1), .val (.int p2), .val (.int p3), .val (.int (own_max (1 : Int32) (p1 &&& (2147483647 : Int32)))), .val (.long ((p0.toInt64) + ((own_max (1 : Int32) (p1 &&& (2147483647 : Int32))).toInt64))), .second, .val (.int (z2.toInt32)), .val (.ref b), .val (.int (0 : Int32))] [(.int (z2.toInt32)), (.int p0), (.ref b)])) t → G t := fun t k => pre13 t (by
          show Steps p.tables e below (T11.setTop (mkF m 90 #[.val (.int p0), .val (.int p1), .val (.int p2), .val (.int p3), .val (.int (own_max (1 : Int32) (p1 &&& (2147483647 : Int32)))), .val (.long ((p0.toInt64) + ((own_max (1 : Int32) (p1 &&& (2147483647 : Int32))).toInt64))), .second, .val (.int (z2.toInt32)), .val (.ref b), .unset] [(.int (lcmpW ((((z2.toInt32).toInt64) - (p0.toInt64)) - (1 : Int64)) ((own_max (1 : Int32) (p1 &&& (2147483647 : Int32))).toInt64)))])) _
          refine XS.ifYes X11.here hx rfl (pc0 := 90) (pc' := 97) rfl (hb hby at_90) rfl ((if0 _ _).trans (tlt ((lw_lt ((((z2.toInt32).toInt64) - (p0.toInt64)) - (1 : Int64)) ((own_max (1 : Int32) (p1 &&& (2147483647 : Int32))).toInt64)).mpr ce)).1) (by decide) (by decide) ?_
          show Steps p.tables e below (T11.setTop (mkF m 97 #[.val (.int p0), .val (.int p1), .val (.int p2), .val (.int p3), .val (.int (own_max (1 : Int32) (p1 &&& (2147483647 : Int32)))), .val (.long ((p0.toInt64) + ((own_max (1 : Int32) (p1 &&& (2147483647 : Int32))).toInt64))), .second, .val (.int (z2.toInt32)), .val (.ref b), .unset] [])) _
          refine XS.iconst X11.here hx rfl (hb hby at_97) ?_
          show Steps p.tables e below (T11.setTop (mkF m 98 #[.val (.int p0), .val (.int p1), .val (.int p2), .val (.int p3), .val (.int (own_max (1 : Int32) (p1 &&& (2147483647 : Int32)))), .val (.long ((p0.toInt64) + ((own_max (1 : Int32) (p1 &&& (2147483647 : Int32))).toInt64))), .second, .val (.int (z2.toInt32)), .val (.ref b), .unset] [(.int (0 : Int32))])) _
          refine XS.istore X11.here hx rfl (hb hby at_98) rfl (l' := #[.val (.int p0), .val (.int p1), .val (.int p2), .val (.int p3), .val (.int (own_max (1 : Int32) (p1 &&& (2147483647 : Int32)))), .val (.long ((p0.toInt64) + ((own_max (1 : Int32) (p1 &&& (2147483647 : Int32))).toInt64))), .second, .val (.int (z2.toInt32)), .val (.ref b), .val (.int (0 : Int32))]) rfl ?_
          show Steps p.tables e below (T11.setTop (mkF m 100 #[.val (.int p0), .val (.int p1), .val (.int p2), .val (.int p3), .val (.int (own_max (1 : Int32) (p1 &&& (2147483647 : Int32)))), .val (.long ((p0.toInt64) + ((own_max (1 : Int32) (p1 &&& (2147483647 : Int32))).toInt64))), .second, .val (.int (z2.toInt32)), .val (.ref b), .val (.int (0 : Int32))] [])) _
          refine XS.aload X11.here hx rfl (hb hby at_100) rfl rfl ?_
          show Steps p.tables e below (T11.setTop (mkF m 102 #[.val (.int p0), .val (.int p1), .val (.int p2), .val (.int p3), .val (.int (own_max (1 : Int32) (p1 &&& (2147483647 : Int32)))), .val (.long ((p0.toInt64) + ((own_max (1 : Int32) (p1 &&& (2147483647 : Int32))).toInt64))), .second, .val (.int (z2.toInt32)), .val (.ref b), .val (.int (0 : Int32))] [(.ref b)])) _
          refine XS.iloadN X11.here hx rfl (hb hby at_102) rfl ?_
          show Steps p.tables e below (T11.setTop (mkF m 103 #[.val (.int p0), .val (.int p1), .val (.int p2), .val (.int p3), .val (.int (own_max (1 : Int32) (p1 &&& (2147483647 : Int32)))), .val (.long ((p0.toInt64) + ((own_max (1 : Int32) (p1 &&& (2147483647 : Int32))).toInt64))), .second, .val (.int (z2.toInt32)), .val (.ref b), .val (.int (0 : Int32))] [(.int p0), (.ref b)])) _
          refine XS.iload X11.here hx rfl (hb hby at_103) rfl ?_
          exact k)
        obtain ⟨cq15, kq15, q15a, q15b, q15c⟩ := isOf hZ rfl A9_12
        obtain ⟨_, _, ⟨T15, L15, k15, n15⟩, -, X15, ⟨Lc15, hQ15, l15, y15, z15⟩, st15⟩ := X11.virtualBack hx (y := (⟨"com/example/deferline/deferline/plan/InService$YearsAfterDeferralYear", "allows", "(II)Z"⟩ : MethodName)) (z := (⟨"com/example/deferline/deferline/plan/InService$YearsAfterDeferralYear", "allows", "(II)Z"⟩ : MethodName)) hown (mvT hZ (hw _ (List.mem_of_getElem? (i := 22) rfl))) (mvT hZ (hw _ (List.mem_of_getElem? (i := 23) rfl))) (notFace_of_selects (args := #[]) (mvT hZ (hw _ (List.mem_of_getElem? (i := 25) rfl)))) (mvT hZ (hw _ (List.mem_of_getElem? (i := 25) rfl))) (mvT hZ (hw _ (List.mem_of_getElem? (i := 24) rfl))) (by decide) (backOf (W := 0) (rm5 l Z a0 hw [] b p0 (z2.toInt32) (own_max (1 : Int32) (p1 &&& (2147483647 : Int32))) T11.heap n0 Z11 Fy11) hZ (hw _ (List.mem_of_getElem? (i := 26) rfl)) (hw _ (List.mem_of_getElem? (i := 8) rfl)) (by decide) (by decide)) q15a q15c (g := (mkF m 105 #[.val (.int p0), .val (.int p1), .val (.int p2), .val (.int p3), .val (.int (own_max (1 : Int32) (p1 &&& (2147483647 : Int32)))), .val (.long ((p0.toInt64) + ((own_max (1 : Int32) (p1 &&& (2147483647 : Int32))).toInt64))), .second, .val (.int (z2.toInt32)), .val (.ref b), .val (.int (0 : Int32))] [(.int (z2.toInt32)), (.int p0), (.ref b)])) rfl (by rw [hml]; rfl) (Steps.refl _) (argsL := [(.int p0), (.int (z2.toInt32))]) (rest := []) (lenOf pd_4 rfl) rfl (by show 2 * 0 + _ ≤ _; exact Nat.le_of_eq rfl) (hb hby at_105) (fun _ _ => ⟨rfl, rfl, (Nat.le_of_ble_eq_true rfl), (Nat.le_of_ble_eq_true rfl)⟩)
        dsimp only [Pt.U, Pt.locs, Pt.cells, Pt.slots] at X15 l15 y15 z15 st15 hQ15
        subst l15 y15 z15
        obtain ⟨hv15, N15q, e15⟩ := hQ15
        rw [if_neg (fun q => (own_law p0 p1 (z2.toInt32) hs).mp q ce)] at hv15
        subst hv15
        have N15 := Fr.app N11 N15q
        have pre15s : ∀ t, Steps p.tables e below (T15.setTop (mkF m 108 #[.val (.int p0), .val (.int p1), .val (.int p2), .val (.int p3), .val (.int (own_max (1 : Int32) (p1 &&& (2147483647 : Int32)))), .val (.long ((p0.toInt64) + ((own_max (1 : Int32) (p1 &&& (2147483647 : Int32))).toInt64))), .second, .val (.int (z2.toInt32)), .val (.ref b), .val (.int (0 : Int32))] [(.int (0 : Int32))])) t → G t := fun t k => pre14 t (st15.trans k)
        obtain ⟨fs, hr, hrun, hended, hW, hsame⟩ := X15.leave (v := some (.int (1 : Int32))) (fun h => by rw [Bd.returns] at h; cases h)
        subst hG
        refine ⟨_, _, pre15s _ ?_, hrun, hended, _, _, rfl, ?_, ⟨_, rfl⟩, hW, hsame.mono (by decide) (by decide)⟩
        · skip
          show Steps p.tables e below (T15.setTop (mkF m 108 #[.val (.int p0), .val (.int p1), .val (.int p2), .val (.int p3), .val (.int (own_max (1 : Int32) (p1 &&& (2147483647 : Int32)))), .val (.long ((p0.toInt64) + ((own_max (1 : Int32) (p1 &&& (2147483647 : Int32))).toInt64))), .second, .val (.int (z2.toInt32)), .val (.ref b), .val (.int (0 : Int32))] [(.int (0 : Int32))])) _
          refine XS.iload X15.here hx rfl (hb hby at_108) rfl ?_
          show Steps p.tables e below (T15.setTop (mkF m 110 #[.val (.int p0), .val (.int p1), .val (.int p2), .val (.int p3), .val (.int (own_max (1 : Int32) (p1 &&& (2147483647 : Int32)))), .val (.long ((p0.toInt64) + ((own_max (1 : Int32) (p1 &&& (2147483647 : Int32))).toInt64))), .second, .val (.int (z2.toInt32)), .val (.ref b), .val (.int (0 : Int32))] [(.int (0 : Int32)), (.int (0 : Int32))])) _
          refine XS.icmpNo X15.here hx rfl (hb hby at_110) rfl (teq (by decide : (0 : Int32) = (0 : Int32))).2 ?_
          show Steps p.tables e below (T15.setTop (mkF m 113 #[.val (.int p0), .val (.int p1), .val (.int p2), .val (.int p3), .val (.int (own_max (1 : Int32) (p1 &&& (2147483647 : Int32)))), .val (.long ((p0.toInt64) + ((own_max (1 : Int32) (p1 &&& (2147483647 : Int32))).toInt64))), .second, .val (.int (z2.toInt32)), .val (.ref b), .val (.int (0 : Int32))] [])) _
          refine XS.iconst X15.here hx rfl (hb hby at_113) ?_
          show Steps p.tables e below (T15.setTop (mkF m 114 #[.val (.int p0), .val (.int p1), .val (.int p2), .val (.int p3), .val (.int (own_max (1 : Int32) (p1 &&& (2147483647 : Int32)))), .val (.long ((p0.toInt64) + ((own_max (1 : Int32) (p1 &&& (2147483647 : Int32))).toInt64))), .second, .val (.int (z2.toInt32)), .val (.ref b), .val (.int (0 : Int32))] [(.int (1 : Int32))])) _
          refine XS.goto X15.here hx rfl (pc0 := 114) (pc' := 118) rfl (hb hby at_114) (by decide) (by decide) ?_
          show Steps p.tables e below (T15.setTop (mkF m 118 #[.val (.int p0), .val (.int p1), .val (.int p2), .val (.int p3), .val (.int (own_max (1 : Int32) (p1 &&& (2147483647 : Int32)))), .val (.long ((p0.toInt64) + ((own_max (1 : Int32) (p1 &&& (2147483647 : Int32))).toInt64))), .second, .val (.int (z2.toInt32)), .val (.ref b), .val (.int (0 : Int32))] [(.int (1 : Int32))])) _
          exact retN X15 hx (t := .boolean) Bd.returns (by simp) (hb hby at_118) hr
        · show Q_rm0 Z p0 p1 p2 p3 h0 n0 _ T15.heap _
          rw [e15]
          exact ⟨rfl, N15⟩
      · skip
        have pre16 : ∀ t, Steps p.tables e below (T11.setTop (mkF m 105 #[.val (.int p0), .val (.int p1), .val (.int p2), .val (.int p3), .val (.int (own_max (1 : Int32) (p1 &&& (2147483647 : Int32)))), .val (.long ((p0.toInt64) + ((own_max (1 : Int32) (p1 &&& (2147483647 : Int32))).toInt64))), .second, .val (.int (z2.toInt32)), .val (.ref b), .val (.int (1 : Int32))] [(.int (z2.toInt32)), (.int p0), (.ref b)])) t → G t := fun t k => pre13 t (by
          show Steps p.tables e below (T11.setTop (mkF m 90 #[.val (.int p0), .val (.int p1), .val (.int p2), .val (.int p3), .val (.int (own_max (1 : Int32) (p1 &&& (2147483647 : Int32)))), .val (.long ((p0.toInt64) + ((own_max (1 : Int32) (p1 &&& (2147483647 : Int32))).toInt64))), .second, .val (.int (z2.toInt32)), .val (.ref b), .unset] [(.int (lcmpW ((((z2.toInt32).toInt64) - (p0.toInt64)) - (1 : Int64)) ((own_max (1 : Int32) (p1 &&& (2147483647 : Int32))).toInt64)))])) _
          refine XS.ifNo X11.here hx rfl (hb hby at_90) rfl ((if0 _ _).trans (flt (mt (lw_lt ((((z2.toInt32).toInt64) - (p0.toInt64)) - (1 : Int64)) ((own_max (1 : Int32) (p1 &&& (2147483647 : Int32))).toInt64)).mp ce)).1) ?_
          show Steps p.tables e below (T11.setTop (mkF m 93 #[.val (.int p0), .val (.int p1), .val (.int p2), .val (.int p3), .val (.int (own_max (1 : Int32) (p1 &&& (2147483647 : Int32)))), .val (.long ((p0.toInt64) + ((own_max (1 : Int32) (p1 &&& (2147483647 : Int32))).toInt64))), .second, .val (.int (z2.toInt32)), .val (.ref b), .unset] [])) _
          refine XS.iconst X11.here hx rfl (hb hby at_93) ?_
          show Steps p.tables e below (T11.setTop (mkF m 94 #[.val (.int p0), .val (.int p1), .val (.int p2), .val (.int p3), .val (.int (own_max (1 : Int32) (p1 &&& (2147483647 : Int32)))), .val (.long ((p0.toInt64) + ((own_max (1 : Int32) (p1 &&& (2147483647 : Int32))).toInt64))), .second, .val (.int (z2.toInt32)), .val (.ref b), .unset] [(.int (1 : Int32))])) _
          refine XS.goto X11.here hx rfl (pc0 := 94) (pc' := 98) rfl (hb hby at_94) (by decide) (by decide) ?_
          show Steps p.tables e below (T11.setTop (mkF m 98 #[.val (.int p0), .val (.int p1), .val (.int p2), .val (.int p3), .val (.int (own_max (1 : Int32) (p1 &&& (2147483647 : Int32)))), .val (.long ((p0.toInt64) + ((own_max (1 : Int32) (p1 &&& (2147483647 : Int32))).toInt64))), .second, .val (.int (z2.toInt32)), .val (.ref b), .unset] [(.int (1 : Int32))])) _
          refine XS.istore X11.here hx rfl (hb hby at_98) rfl (l' := #[.val (.int p0), .val (.int p1), .val (.int p2), .val (.int p3), .val (.int (own_max (1 : Int32) (p1 &&& (2147483647 : Int32)))), .val (.long ((p0.toInt64) + ((own_max (1 : Int32) (p1 &&& (2147483647 : Int32))).toInt64))), .second, .val (.int (z2.toInt32)), .val (.ref b), .val (.int (1 : Int32))]) rfl ?_
          show Steps p.tables e below (T11.setTop (mkF m 100 #[.val (.int p0), .val (.int p1), .val (.int p2), .val (.int p3), .val (.int (own_max (1 : Int32) (p1 &&& (2147483647 : Int32)))), .val (.long ((p0.toInt64) + ((own_max (1 : Int32) (p1 &&& (2147483647 : Int32))).toInt64))), .second, .val (.int (z2.toInt32)), .val (.ref b), .val (.int (1 : Int32))] [])) _
          refine XS.aload X11.here hx rfl (hb hby at_100) rfl rfl ?_
          show Steps p.tables e below (T11.setTop (mkF m 102 #[.val (.int p0), .val (.int p1), .val (.int p2), .val (.int p3), .val (.int (own_max (1 : Int32) (p1 &&& (2147483647 : Int32)))), .val (.long ((p0.toInt64) + ((own_max (1 : Int32) (p1 &&& (2147483647 : Int32))).toInt64))), .second, .val (.int (z2.toInt32)), .val (.ref b), .val (.int (1 : Int32))] [(.ref b)])) _
          refine XS.iloadN X11.here hx rfl (hb hby at_102) rfl ?_
          show Steps p.tables e below (T11.setTop (mkF m 103 #[.val (.int p0), .val (.int p1), .val (.int p2), .val (.int p3), .val (.int (own_max (1 : Int32) (p1 &&& (2147483647 : Int32)))), .val (.long ((p0.toInt64) + ((own_max (1 : Int32) (p1 &&& (2147483647 : Int32))).toInt64))), .second, .val (.int (z2.toInt32)), .val (.ref b), .val (.int (1 : Int32))] [(.int p0), (.ref b)])) _
          refine XS.iload X11.here hx rfl (hb hby at_103) rfl ?_
          exact k)
        obtain ⟨cq17, kq17, q17a, q17b, q17c⟩ := isOf hZ rfl A9_12
        obtain ⟨_, _, ⟨T17, L17, k17, n17⟩, -, X17, ⟨Lc17, hQ17, l17, y17, z17⟩, st17⟩ := X11.virtualBack hx (y := (⟨"com/example/deferline/deferline/plan/InService$YearsAfterDeferralYear", "allows", "(II)Z"⟩ : MethodName)) (z := (⟨"com/example/deferline/deferline/plan/InService$YearsAfterDeferralYear", "allows", "(II)Z"⟩ : MethodName)) hown (mvT hZ (hw _ (List.mem_of_getElem? (i := 22) rfl))) (mvT hZ (hw _ (List.mem_of_getElem? (i := 23) rfl))) (notFace_of_selects (args := #[]) (mvT hZ (hw _ (List.mem_of_getElem? (i := 25) rfl)))) (mvT hZ (hw _ (List.mem_of_getElem? (i := 25) rfl))) (mvT hZ (hw _ (List.mem_of_getElem? (i := 24) rfl))) (by decide) (backOf (W := 0) (rm5 l Z a0 hw [] b p0 (z2.toInt32) (own_max (1 : Int32) (p1 &&& (2147483647 : Int32))) T11.heap n0 Z11 Fy11) hZ (hw _ (List.mem_of_getElem? (i := 26) rfl)) (hw _ (List.mem_of_getElem? (i := 8) rfl)) (by decide) (by decide)) q17a q17c (g := (mkF m 105 #[.val (.int p0), .val (.int p1), .val (.int p2), .val (.int p3), .val (.int (own_max (1 : Int32) (p1 &&& (2147483647 : Int32)))), .val (.long ((p0.toInt64) + ((own_max (1 : Int32) (p1 &&& (2147483647 : Int32))).toInt64))), .second, .val (.int (z2.toInt32)), .val (.ref b), .val (.int (1 : Int32))] [(.int (z2.toInt32)), (.int p0), (.ref b)])) rfl (by rw [hml]; rfl) (Steps.refl _) (argsL := [(.int p0), (.int (z2.toInt32))]) (rest := []) (lenOf pd_4 rfl) rfl (by show 2 * 0 + _ ≤ _; exact Nat.le_of_eq rfl) (hb hby at_105) (fun _ _ => ⟨rfl, rfl, (Nat.le_of_ble_eq_true rfl), (Nat.le_of_ble_eq_true rfl)⟩)
        dsimp only [Pt.U, Pt.locs, Pt.cells, Pt.slots] at X17 l17 y17 z17 st17 hQ17
        subst l17 y17 z17
        obtain ⟨hv17, N17q, e17⟩ := hQ17
        rw [if_pos ((own_law p0 p1 (z2.toInt32) hs).mpr ce)] at hv17
        subst hv17
        have N17 := Fr.app N11 N17q
        have pre17s : ∀ t, Steps p.tables e below (T17.setTop (mkF m 108 #[.val (.int p0), .val (.int p1), .val (.int p2), .val (.int p3), .val (.int (own_max (1 : Int32) (p1 &&& (2147483647 : Int32)))), .val (.long ((p0.toInt64) + ((own_max (1 : Int32) (p1 &&& (2147483647 : Int32))).toInt64))), .second, .val (.int (z2.toInt32)), .val (.ref b), .val (.int (1 : Int32))] [(.int (1 : Int32))])) t → G t := fun t k => pre16 t (st17.trans k)
        obtain ⟨fs, hr, hrun, hended, hW, hsame⟩ := X17.leave (v := some (.int (1 : Int32))) (fun h => by rw [Bd.returns] at h; cases h)
        subst hG
        refine ⟨_, _, pre17s _ ?_, hrun, hended, _, _, rfl, ?_, ⟨_, rfl⟩, hW, hsame.mono (by decide) (by decide)⟩
        · skip
          show Steps p.tables e below (T17.setTop (mkF m 108 #[.val (.int p0), .val (.int p1), .val (.int p2), .val (.int p3), .val (.int (own_max (1 : Int32) (p1 &&& (2147483647 : Int32)))), .val (.long ((p0.toInt64) + ((own_max (1 : Int32) (p1 &&& (2147483647 : Int32))).toInt64))), .second, .val (.int (z2.toInt32)), .val (.ref b), .val (.int (1 : Int32))] [(.int (1 : Int32))])) _
          refine XS.iload X17.here hx rfl (hb hby at_108) rfl ?_
          show Steps p.tables e below (T17.setTop (mkF m 110 #[.val (.int p0), .val (.int p1), .val (.int p2), .val (.int p3), .val (.int (own_max (1 : Int32) (p1 &&& (2147483647 : Int32)))), .val (.long ((p0.toInt64) + ((own_max (1 : Int32) (p1 &&& (2147483647 : Int32))).toInt64))), .second, .val (.int (z2.toInt32)), .val (.ref b), .val (.int (1 : Int32))] [(.int (1 : Int32)), (.int (1 : Int32))])) _
          refine XS.icmpNo X17.here hx rfl (hb hby at_110) rfl (teq (by decide : (1 : Int32) = (1 : Int32))).2 ?_
          show Steps p.tables e below (T17.setTop (mkF m 113 #[.val (.int p0), .val (.int p1), .val (.int p2), .val (.int p3), .val (.int (own_max (1 : Int32) (p1 &&& (2147483647 : Int32)))), .val (.long ((p0.toInt64) + ((own_max (1 : Int32) (p1 &&& (2147483647 : Int32))).toInt64))), .second, .val (.int (z2.toInt32)), .val (.ref b), .val (.int (1 : Int32))] [])) _
          refine XS.iconst X17.here hx rfl (hb hby at_113) ?_
          show Steps p.tables e below (T17.setTop (mkF m 114 #[.val (.int p0), .val (.int p1), .val (.int p2), .val (.int p3), .val (.int (own_max (1 : Int32) (p1 &&& (2147483647 : Int32)))), .val (.long ((p0.toInt64) + ((own_max (1 : Int32) (p1 &&& (2147483647 : Int32))).toInt64))), .second, .val (.int (z2.toInt32)), .val (.ref b), .val (.int (1 : Int32))] [(.int (1 : Int32))])) _
          refine XS.goto X17.here hx rfl (pc0 := 114) (pc' := 118) rfl (hb hby at_114) (by decide) (by decide) ?_
          show Steps p.tables e below (T17.setTop (mkF m 118 #[.val (.int p0), .val (.int p1), .val (.int p2), .val (.int p3), .val (.int (own_max (1 : Int32) (p1 &&& (2147483647 : Int32)))), .val (.long ((p0.toInt64) + ((own_max (1 : Int32) (p1 &&& (2147483647 : Int32))).toInt64))), .second, .val (.int (z2.toInt32)), .val (.ref b), .val (.int (1 : Int32))] [(.int (1 : Int32))])) _
          exact retN X17 hx (t := .boolean) Bd.returns (by simp) (hb hby at_118) hr
        · show Q_rm0 Z p0 p1 p2 p3 h0 n0 _ T17.heap _
          rw [e17]
          exact ⟨rfl, N17⟩
    · -- not cf
      have pre18 : ∀ t, Steps p.tables e below (T2.setTop (mkF m 67 #[.val (.int p0), .val (.int p1), .val (.int p2), .val (.int p3), .val (.int (own_max (1 : Int32) (p1 &&& (2147483647 : Int32)))), .val (.long ((p0.toInt64) + ((own_max (1 : Int32) (p1 &&& (2147483647 : Int32))).toInt64))), .second, .val (.int p2), .unset, .unset] [])) t → G t := fun t k => pre4 t (by
        show Steps p.tables e below (T2.setTop (mkF m 32 #[.val (.int p0), .val (.int p1), .val (.int p2), .val (.int p3), .val (.int (own_max (1 : Int32) (p1 &&& (2147483647 : Int32)))), .val (.long ((p0.toInt64) + ((own_max (1 : Int32) (p1 &&& (2147483647 : Int32))).toInt64))), .second, .unset, .unset, .unset] [(.int (p3 &&& (1 : Int32)))])) _
        refine XS.ifNo X2.here hx rfl (hb hby at_32) rfl ((if0 _ _).trans (feq cf).1) ?_
        show Steps p.tables e below (T2.setTop (mkF m 35 #[.val (.int p0), .val (.int p1), .val (.int p2), .val (.int p3), .val (.int (own_max (1 : Int32) (p1 &&& (2147483647 : Int32)))), .val (.long ((p0.toInt64) + ((own_max (1 : Int32) (p1 &&& (2147483647 : Int32))).toInt64))), .second, .unset, .unset, .unset] [])) _
        refine XS.iloadN X2.here hx rfl (hb hby at_35) rfl ?_
        show Steps p.tables e below (T2.setTop (mkF m 36 #[.val (.int p0), .val (.int p1), .val (.int p2), .val (.int p3), .val (.int (own_max (1 : Int32) (p1 &&& (2147483647 : Int32)))), .val (.long ((p0.toInt64) + ((own_max (1 : Int32) (p1 &&& (2147483647 : Int32))).toInt64))), .second, .unset, .unset, .unset] [(.int p2)])) _
        refine XS.istore X2.here hx rfl (hb hby at_36) rfl (l' := #[.val (.int p0), .val (.int p1), .val (.int p2), .val (.int p3), .val (.int (own_max (1 : Int32) (p1 &&& (2147483647 : Int32)))), .val (.long ((p0.toInt64) + ((own_max (1 : Int32) (p1 &&& (2147483647 : Int32))).toInt64))), .second, .val (.int p2), .unset, .unset]) rfl ?_
        show Steps p.tables e below (T2.setTop (mkF m 38 #[.val (.int p0), .val (.int p1), .val (.int p2), .val (.int p3), .val (.int (own_max (1 : Int32) (p1 &&& (2147483647 : Int32)))), .val (.long ((p0.toInt64) + ((own_max (1 : Int32) (p1 &&& (2147483647 : Int32))).toInt64))), .second, .val (.int p2), .unset, .unset] [])) _
        refine XS.goto X2.here hx rfl (pc0 := 38) (pc' := 67) rfl (hb hby at_38) (by decide) (by decide) ?_
        exact k)
      obtain ⟨T19, h19, X19, e19, E19, A19, D19, -, st19⟩ := newO X2 hx hZ hown (hw _ (List.mem_of_getElem? (i := 6) rfl)) (hw _ (List.mem_of_getElem? (i := 7) rfl)) (hw _ (List.mem_of_getElem? (i := 8) rfl)) e2 (g := (mkF m 67 #[.val (.int p0), .val (.int p1), .val (.int p2), .val (.int p3), .val (.int (own_max (1 : Int32) (p1 &&& (2147483647 : Int32)))), .val (.long ((p0.toInt64) + ((own_max (1 : Int32) (p1 &&& (2147483647 : Int32))).toInt64))), .second, .val (.int p2), .unset, .unset] [])) rfl (hb hby at_67) (by decide) (by decide)
      obtain ⟨b, g19⟩ : ∃ z, z = h0.size := ⟨_, rfl⟩
      rw [← g19] at A19 D19 st19
      have O_b : n0 ≤ b := Nat.le_trans Z0 (Nat.le_of_eq g19.symm)
      have Z19 : n0 ≤ h19.size := Nat.le_trans Z0 E19.1
      have pre19s : ∀ t, Steps p.tables e below (T19.setTop (mkF m 70 #[.val (.int p0), .val (.int p1), .val (.int p2), .val (.int p3), .val (.int (own_max (1 : Int32) (p1 &&& (2147483647 : Int32)))), .val (.long ((p0.toInt64) + ((own_max (1 : Int32) (p1 &&& (2147483647 : Int32))).toInt64))), .second, .val (.int p2), .unset, .unset] [(.ref b)])) t → G t := fun t k => pre18 t (st19 t k)
      have Fyears_b : Fld Z h19 b "com/example/deferline/deferline/plan/InService$YearsAfterDeferralYear" "years" "I" (.int (0 : Int32)) := D19 (Or.inr (hw _ (List.mem_of_getElem? (i := 21) rfl))) (ty := .int) (by decide)
      have pre20 : ∀ t, Steps p.tables e below (T19.setTop (mkF m 73 #[.val (.int p0), .val (.int p1), .val (.int p2), .val (.int p3), .val (.int (own_max (1 : Int32) (p1 &&& (2147483647 : Int32)))), .val (.long ((p0.toInt64) + ((own_max (1 : Int32) (p1 &&& (2147483647 : Int32))).toInt64))), .second, .val (.int p2), .unset, .unset] [(.int (own_max (1 : Int32) (p1 &&& (2147483647 : Int32)))), (.ref b), (.ref b)])) t → G t := fun t k => pre19s t (by
        show Steps p.tables e below (T19.setTop (mkF m 70 #[.val (.int p0), .val (.int p1), .val (.int p2), .val (.int p3), .val (.int (own_max (1 : Int32) (p1 &&& (2147483647 : Int32)))), .val (.long ((p0.toInt64) + ((own_max (1 : Int32) (p1 &&& (2147483647 : Int32))).toInt64))), .second, .val (.int p2), .unset, .unset] [(.ref b)])) _
        refine XS.dup X19.here hx rfl (hb hby at_70) rfl rfl ?_
        show Steps p.tables e below (T19.setTop (mkF m 71 #[.val (.int p0), .val (.int p1), .val (.int p2), .val (.int p3), .val (.int (own_max (1 : Int32) (p1 &&& (2147483647 : Int32)))), .val (.long ((p0.toInt64) + ((own_max (1 : Int32) (p1 &&& (2147483647 : Int32))).toInt64))), .second, .val (.int p2), .unset, .unset] [(.ref b), (.ref b)])) _
        refine XS.iload X19.here hx rfl (hb hby at_71) rfl ?_
        exact k)
      obtain ⟨_, _, ⟨T21, L21, k21, n21⟩, -, X21, ⟨Lc21, hQ21, l21, y21, z21⟩, st21⟩ := X19.specialBack hx (y := (⟨"com/example/deferline/deferline/plan/InService$YearsAfterDeferralYear", "<init>", "(I)V"⟩ : MethodName)) rfl hown (mvT hZ (hw _ (List.mem_of_getElem? (i := 9) rfl))) (mvT hZ (hw _ (List.mem_of_getElem? (i := 10) rfl))) (mvT hZ (hw _ (List.mem_of_getElem? (i := 11) rfl))) (by decide) (backOf (W := 1) (rm2 l Z a0 hw [] b (own_max (1 : Int32) (p1 &&& (2147483647 : Int32))) h19 n0 Z19 Fyears_b A19 O_b (own_years' p1)) hZ (hw _ (List.mem_of_getElem? (i := 11) rfl)) (hw _ (List.mem_of_getElem? (i := 8) rfl)) (by decide) (by decide)) (g := (mkF m 73 #[.val (.int p0), .val (.int p1), .val (.int p2), .val (.int p3), .val (.int (own_max (1 : Int32) (p1 &&& (2147483647 : Int32)))), .val (.long ((p0.toInt64) + ((own_max (1 : Int32) (p1 &&& (2147483647 : Int32))).toInt64))), .second, .val (.int p2), .unset, .unset] [(.int (own_max (1 : Int32) (p1 &&& (2147483647 : Int32)))), (.ref b), (.ref b)])) rfl (by rw [hml]; rfl) (Steps.refl _) (a := b) (argsL := [(.int (own_max (1 : Int32) (p1 &&& (2147483647 : Int32))))]) (rest := [(.ref b)]) (lenOf pd_3 rfl) rfl (by show 2 * 0 + _ ≤ _; exact Nat.le_of_eq rfl) (hb hby at_73) (fun _ _ => ⟨rfl, e19, (Nat.le_of_ble_eq_true rfl), (Nat.le_of_ble_eq_true rfl)⟩)
      dsimp only [Pt.U, Pt.locs, Pt.cells, Pt.slots] at X21 l21 y21 z21 st21 hQ21
      subst l21 y21 z21
      obtain ⟨rfl, N21q, K21, Fy21⟩ := hQ21
      have N21 := Fr.app N2 N21q
      have pre21s : ∀ t, Steps p.tables e below (T21.setTop (mkF m 76 #[.val (.int p0), .val (.int p1), .val (.int p2), .val (.int p3), .val (.int (own_max (1 : Int32) (p1 &&& (2147483647 : Int32)))), .val (.long ((p0.toInt64) + ((own_max (1 : Int32) (p1 &&& (2147483647 : Int32))).toInt64))), .second, .val (.int p2), .unset, .unset] [(.ref b)])) t → G t := fun t k => pre20 t (st21.trans k)
      have Z21 : n0 ≤ T21.heap.size := Nat.le_trans Z19 K21.1
      have A19_22 := A19.keep K21
      have pre23 : ∀ t, Steps p.tables e below (T21.setTop (mkF m 90 #[.val (.int p0), .val (.int p1), .val (.int p2), .val (.int p3), .val (.int (own_max (1 : Int32) (p1 &&& (2147483647 : Int32)))), .val (.long ((p0.toInt64) + ((own_max (1 : Int32) (p1 &&& (2147483647 : Int32))).toInt64))), .second, .val (.int p2), .val (.ref b), .unset] [(.int (lcmpW (((p2.toInt64) - (p0.toInt64)) - (1 : Int64)) ((own_max (1 : Int32) (p1 &&& (2147483647 : Int32))).toInt64)))])) t → G t := fun t k => pre21s t (by
        show Steps p.tables e below (T21.setTop (mkF m 76 #[.val (.int p0), .val (.int p1), .val (.int p2), .val (.int p3), .val (.int (own_max (1 : Int32) (p1 &&& (2147483647 : Int32)))), .val (.long ((p0.toInt64) + ((own_max (1 : Int32) (p1 &&& (2147483647 : Int32))).toInt64))), .second, .val (.int p2), .unset, .unset] [(.ref b)])) _
        refine XS.astore X21.here hx rfl (hb hby at_76) rfl rfl (l' := #[.val (.int p0), .val (.int p1), .val (.int p2), .val (.int p3), .val (.int (own_max (1 : Int32) (p1 &&& (2147483647 : Int32)))), .val (.long ((p0.toInt64) + ((own_max (1 : Int32) (p1 &&& (2147483647 : Int32))).toInt64))), .second, .val (.int p2), .val (.ref b), .unset]) rfl ?_
        show Steps p.tables e below (T21.setTop (mkF m 78 #[.val (.int p0), .val (.int p1), .val (.int p2), .val (.int p3), .val (.int (own_max (1 : Int32) (p1 &&& (2147483647 : Int32)))), .val (.long ((p0.toInt64) + ((own_max (1 : Int32) (p1 &&& (2147483647 : Int32))).toInt64))), .second, .val (.int p2), .val (.ref b), .unset] [])) _
        refine XS.iload X21.here hx rfl (hb hby at_78) rfl ?_
        show Steps p.tables e below (T21.setTop (mkF m 80 #[.val (.int p0), .val (.int p1), .val (.int p2), .val (.int p3), .val (.int (own_max (1 : Int32) (p1 &&& (2147483647 : Int32)))), .val (.long ((p0.toInt64) + ((own_max (1 : Int32) (p1 &&& (2147483647 : Int32))).toInt64))), .second, .val (.int p2), .val (.ref b), .unset] [(.int p2)])) _
        refine XS.i2l X21.here hx rfl (hb hby at_80) rfl ?_
        show Steps p.tables e below (T21.setTop (mkF m 81 #[.val (.int p0), .val (.int p1), .val (.int p2), .val (.int p3), .val (.int (own_max (1 : Int32) (p1 &&& (2147483647 : Int32)))), .val (.long ((p0.toInt64) + ((own_max (1 : Int32) (p1 &&& (2147483647 : Int32))).toInt64))), .second, .val (.int p2), .val (.ref b), .unset] [(.long (p2.toInt64))])) _
        refine XS.iloadN X21.here hx rfl (hb hby at_81) rfl ?_
        show Steps p.tables e below (T21.setTop (mkF m 82 #[.val (.int p0), .val (.int p1), .val (.int p2), .val (.int p3), .val (.int (own_max (1 : Int32) (p1 &&& (2147483647 : Int32)))), .val (.long ((p0.toInt64) + ((own_max (1 : Int32) (p1 &&& (2147483647 : Int32))).toInt64))), .second, .val (.int p2), .val (.ref b), .unset] [(.int p0), (.long (p2.toInt64))])) _
        refine XS.i2l X21.here hx rfl (hb hby at_82) rfl ?_
        show Steps p.tables e below (T21.setTop (mkF m 83 #[.val (.int p0), .val (.int p1), .val (.int p2), .val (.int p3), .val (.int (own_max (1 : Int32) (p1 &&& (2147483647 : Int32)))), .val (.long ((p0.toInt64) + ((own_max (1 : Int32) (p1 &&& (2147483647 : Int32))).toInt64))), .second, .val (.int p2), .val (.ref b), .unset] [(.long (p0.toInt64)), (.long (p2.toInt64))])) _
        refine XS.lsub X21.here hx rfl (hb hby at_83) rfl ?_
        show Steps p.tables e below (T21.setTop (mkF m 84 #[.val (.int p0), .val (.int p1), .val (.int p2), .val (.int p3), .val (.int (own_max (1 : Int32) (p1 &&& (2147483647 : Int32)))), .val (.long ((p0.toInt64) + ((own_max (1 : Int32) (p1 &&& (2147483647 : Int32))).toInt64))), .second, .val (.int p2), .val (.ref b), .unset] [(.long ((p2.toInt64) - (p0.toInt64)))])) _
        refine XS.lconst X21.here hx rfl (hb hby at_84) ?_
        show Steps p.tables e below (T21.setTop (mkF m 85 #[.val (.int p0), .val (.int p1), .val (.int p2), .val (.int p3), .val (.int (own_max (1 : Int32) (p1 &&& (2147483647 : Int32)))), .val (.long ((p0.toInt64) + ((own_max (1 : Int32) (p1 &&& (2147483647 : Int32))).toInt64))), .second, .val (.int p2), .val (.ref b), .unset] [(.long (1 : Int64)), (.long ((p2.toInt64) - (p0.toInt64)))])) _
        refine XS.lsub X21.here hx rfl (hb hby at_85) rfl ?_
        show Steps p.tables e below (T21.setTop (mkF m 86 #[.val (.int p0), .val (.int p1), .val (.int p2), .val (.int p3), .val (.int (own_max (1 : Int32) (p1 &&& (2147483647 : Int32)))), .val (.long ((p0.toInt64) + ((own_max (1 : Int32) (p1 &&& (2147483647 : Int32))).toInt64))), .second, .val (.int p2), .val (.ref b), .unset] [(.long (((p2.toInt64) - (p0.toInt64)) - (1 : Int64)))])) _
        refine XS.iload X21.here hx rfl (hb hby at_86) rfl ?_
        show Steps p.tables e below (T21.setTop (mkF m 88 #[.val (.int p0), .val (.int p1), .val (.int p2), .val (.int p3), .val (.int (own_max (1 : Int32) (p1 &&& (2147483647 : Int32)))), .val (.long ((p0.toInt64) + ((own_max (1 : Int32) (p1 &&& (2147483647 : Int32))).toInt64))), .second, .val (.int p2), .val (.ref b), .unset] [(.int (own_max (1 : Int32) (p1 &&& (2147483647 : Int32)))), (.long (((p2.toInt64) - (p0.toInt64)) - (1 : Int64)))])) _
        refine XS.i2l X21.here hx rfl (hb hby at_88) rfl ?_
        show Steps p.tables e below (T21.setTop (mkF m 89 #[.val (.int p0), .val (.int p1), .val (.int p2), .val (.int p3), .val (.int (own_max (1 : Int32) (p1 &&& (2147483647 : Int32)))), .val (.long ((p0.toInt64) + ((own_max (1 : Int32) (p1 &&& (2147483647 : Int32))).toInt64))), .second, .val (.int p2), .val (.ref b), .unset] [(.long ((own_max (1 : Int32) (p1 &&& (2147483647 : Int32))).toInt64)), (.long (((p2.toInt64) - (p0.toInt64)) - (1 : Int64)))])) _
        refine XS.lcmp X21.here hx rfl (hb hby at_89) rfl ?_
        exact k)
      by_cases ce : (((p2.toInt64) - (p0.toInt64)) - (1 : Int64)) < ((own_max (1 : Int32) (p1 &&& (2147483647 : Int32))).toInt64)
      · skip
        have pre24 : ∀ t, Steps p.tables e below (T21.setTop (mkF m 105 #[.val (.int p0), .val (.int p1), .val (.int p2), .val (.int p3), .val (.int (own_max (1 : Int32) (p1 &&& (2147483647 : Int32)))), .val (.long ((p0.toInt64) + ((own_max (1 : Int32) (p1 &&& (2147483647 : Int32))).toInt64))), .second, .val (.int p2), .val (.ref b), .val (.int (0 : Int32))] [(.int p2), (.int p0), (.ref b)])) t → G t := fun t k => pre23 t (by
          show Steps p.tables e below (T21.setTop (mkF m 90 #[.val (.int p0), .val (.int p1), .val (.int p2), .val (.int p3), .val (.int (own_max (1 : Int32) (p1 &&& (2147483647 : Int32)))), .val (.long ((p0.toInt64) + ((own_max (1 : Int32) (p1 &&& (2147483647 : Int32))).toInt64))), .second, .val (.int p2), .val (.ref b), .unset] [(.int (lcmpW (((p2.toInt64) - (p0.toInt64)) - (1 : Int64)) ((own_max (1 : Int32) (p1 &&& (2147483647 : Int32))).toInt64)))])) _
          refine XS.ifYes X21.here hx rfl (pc0 := 90) (pc' := 97) rfl (hb hby at_90) rfl ((if0 _ _).trans (tlt ((lw_lt (((p2.toInt64) - (p0.toInt64)) - (1 : Int64)) ((own_max (1 : Int32) (p1 &&& (2147483647 : Int32))).toInt64)).mpr ce)).1) (by decide) (by decide) ?_
          show Steps p.tables e below (T21.setTop (mkF m 97 #[.val (.int p0), .val (.int p1), .val (.int p2), .val (.int p3), .val (.int (own_max (1 : Int32) (p1 &&& (2147483647 : Int32)))), .val (.long ((p0.toInt64) + ((own_max (1 : Int32) (p1 &&& (2147483647 : Int32))).toInt64))), .second, .val (.int p2), .val (.ref b), .unset] [])) _
          refine XS.iconst X21.here hx rfl (hb hby at_97) ?_
          show Steps p.tables e below (T21.setTop (mkF m 98 #[.val (.int p0), .val (.int p1), .val (.int p2), .val (.int p3), .val (.int (own_max (1 : Int32) (p1 &&& (2147483647 : Int32)))), .val (.long ((p0.toInt64) + ((own_max (1 : Int32) (p1 &&& (2147483647 : Int32))).toInt64))), .second, .val (.int p2), .val (.ref b), .unset] [(.int (0 : Int32))])) _
          refine XS.istore X21.here hx rfl (hb hby at_98) rfl (l' := #[.val (.int p0), .val (.int p1), .val (.int p2), .val (.int p3), .val (.int (own_max (1 : Int32) (p1 &&& (2147483647 : Int32)))), .val (.long ((p0.toInt64) + ((own_max (1 : Int32) (p1 &&& (2147483647 : Int32))).toInt64))), .second, .val (.int p2), .val (.ref b), .val (.int (0 : Int32))]) rfl ?_
          show Steps p.tables e below (T21.setTop (mkF m 100 #[.val (.int p0), .val (.int p1), .val (.int p2), .val (.int p3), .val (.int (own_max (1 : Int32) (p1 &&& (2147483647 : Int32)))), .val (.long ((p0.toInt64) + ((own_max (1 : Int32) (p1 &&& (2147483647 : Int32))).toInt64))), .second, .val (.int p2), .val (.ref b), .val (.int (0 : Int32))] [])) _
          refine XS.aload X21.here hx rfl (hb hby at_100) rfl rfl ?_
          show Steps p.tables e below (T21.setTop (mkF m 102 #[.val (.int p0), .val (.int p1), .val (.int p2), .val (.int p3), .val (.int (own_max (1 : Int32) (p1 &&& (2147483647 : Int32)))), .val (.long ((p0.toInt64) + ((own_max (1 : Int32) (p1 &&& (2147483647 : Int32))).toInt64))), .second, .val (.int p2), .val (.ref b), .val (.int (0 : Int32))] [(.ref b)])) _
          refine XS.iloadN X21.here hx rfl (hb hby at_102) rfl ?_
          show Steps p.tables e below (T21.setTop (mkF m 103 #[.val (.int p0), .val (.int p1), .val (.int p2), .val (.int p3), .val (.int (own_max (1 : Int32) (p1 &&& (2147483647 : Int32)))), .val (.long ((p0.toInt64) + ((own_max (1 : Int32) (p1 &&& (2147483647 : Int32))).toInt64))), .second, .val (.int p2), .val (.ref b), .val (.int (0 : Int32))] [(.int p0), (.ref b)])) _
          refine XS.iload X21.here hx rfl (hb hby at_103) rfl ?_
          exact k)
        obtain ⟨cq25, kq25, q25a, q25b, q25c⟩ := isOf hZ rfl A19_22
        obtain ⟨_, _, ⟨T25, L25, k25, n25⟩, -, X25, ⟨Lc25, hQ25, l25, y25, z25⟩, st25⟩ := X21.virtualBack hx (y := (⟨"com/example/deferline/deferline/plan/InService$YearsAfterDeferralYear", "allows", "(II)Z"⟩ : MethodName)) (z := (⟨"com/example/deferline/deferline/plan/InService$YearsAfterDeferralYear", "allows", "(II)Z"⟩ : MethodName)) hown (mvT hZ (hw _ (List.mem_of_getElem? (i := 22) rfl))) (mvT hZ (hw _ (List.mem_of_getElem? (i := 23) rfl))) (notFace_of_selects (args := #[]) (mvT hZ (hw _ (List.mem_of_getElem? (i := 25) rfl)))) (mvT hZ (hw _ (List.mem_of_getElem? (i := 25) rfl))) (mvT hZ (hw _ (List.mem_of_getElem? (i := 24) rfl))) (by decide) (backOf (W := 0) (rm5 l Z a0 hw [] b p0 p2 (own_max (1 : Int32) (p1 &&& (2147483647 : Int32))) T21.heap n0 Z21 Fy21) hZ (hw _ (List.mem_of_getElem? (i := 26) rfl)) (hw _ (List.mem_of_getElem? (i := 8) rfl)) (by decide) (by decide)) q25a q25c (g := (mkF m 105 #[.val (.int p0), .val (.int p1), .val (.int p2), .val (.int p3), .val (.int (own_max (1 : Int32) (p1 &&& (2147483647 : Int32)))), .val (.long ((p0.toInt64) + ((own_max (1 : Int32) (p1 &&& (2147483647 : Int32))).toInt64))), .second, .val (.int p2), .val (.ref b), .val (.int (0 : Int32))] [(.int p2), (.int p0), (.ref b)])) rfl (by rw [hml]; rfl) (Steps.refl _) (argsL := [(.int p0), (.int p2)]) (rest := []) (lenOf pd_4 rfl) rfl (by show 2 * 0 + _ ≤ _; exact Nat.le_of_eq rfl) (hb hby at_105) (fun _ _ => ⟨rfl, rfl, (Nat.le_of_ble_eq_true rfl), (Nat.le_of_ble_eq_true rfl)⟩)
        dsimp only [Pt.U, Pt.locs, Pt.cells, Pt.slots] at X25 l25 y25 z25 st25 hQ25
        subst l25 y25 z25
        obtain ⟨hv25, N25q, e25⟩ := hQ25
        rw [if_neg (fun q => (own_law p0 p1 p2 hs).mp q ce)] at hv25
        subst hv25
        have N25 := Fr.app N21 N25q
        have pre25s : ∀ t, Steps p.tables e below (T25.setTop (mkF m 108 #[.val (.int p0), .val (.int p1), .val (.int p2), .val (.int p3), .val (.int (own_max (1 : Int32) (p1 &&& (2147483647 : Int32)))), .val (.long ((p0.toInt64) + ((own_max (1 : Int32) (p1 &&& (2147483647 : Int32))).toInt64))), .second, .val (.int p2), .val (.ref b), .val (.int (0 : Int32))] [(.int (0 : Int32))])) t → G t := fun t k => pre24 t (st25.trans k)
        obtain ⟨fs, hr, hrun, hended, hW, hsame⟩ := X25.leave (v := some (.int (1 : Int32))) (fun h => by rw [Bd.returns] at h; cases h)
        subst hG
        refine ⟨_, _, pre25s _ ?_, hrun, hended, _, _, rfl, ?_, ⟨_, rfl⟩, hW, hsame.mono (by decide) (by decide)⟩
        · skip
          show Steps p.tables e below (T25.setTop (mkF m 108 #[.val (.int p0), .val (.int p1), .val (.int p2), .val (.int p3), .val (.int (own_max (1 : Int32) (p1 &&& (2147483647 : Int32)))), .val (.long ((p0.toInt64) + ((own_max (1 : Int32) (p1 &&& (2147483647 : Int32))).toInt64))), .second, .val (.int p2), .val (.ref b), .val (.int (0 : Int32))] [(.int (0 : Int32))])) _
          refine XS.iload X25.here hx rfl (hb hby at_108) rfl ?_
          show Steps p.tables e below (T25.setTop (mkF m 110 #[.val (.int p0), .val (.int p1), .val (.int p2), .val (.int p3), .val (.int (own_max (1 : Int32) (p1 &&& (2147483647 : Int32)))), .val (.long ((p0.toInt64) + ((own_max (1 : Int32) (p1 &&& (2147483647 : Int32))).toInt64))), .second, .val (.int p2), .val (.ref b), .val (.int (0 : Int32))] [(.int (0 : Int32)), (.int (0 : Int32))])) _
          refine XS.icmpNo X25.here hx rfl (hb hby at_110) rfl (teq (by decide : (0 : Int32) = (0 : Int32))).2 ?_
          show Steps p.tables e below (T25.setTop (mkF m 113 #[.val (.int p0), .val (.int p1), .val (.int p2), .val (.int p3), .val (.int (own_max (1 : Int32) (p1 &&& (2147483647 : Int32)))), .val (.long ((p0.toInt64) + ((own_max (1 : Int32) (p1 &&& (2147483647 : Int32))).toInt64))), .second, .val (.int p2), .val (.ref b), .val (.int (0 : Int32))] [])) _
          refine XS.iconst X25.here hx rfl (hb hby at_113) ?_
          show Steps p.tables e below (T25.setTop (mkF m 114 #[.val (.int p0), .val (.int p1), .val (.int p2), .val (.int p3), .val (.int (own_max (1 : Int32) (p1 &&& (2147483647 : Int32)))), .val (.long ((p0.toInt64) + ((own_max (1 : Int32) (p1 &&& (2147483647 : Int32))).toInt64))), .second, .val (.int p2), .val (.ref b), .val (.int (0 : Int32))] [(.int (1 : Int32))])) _
          refine XS.goto X25.here hx rfl (pc0 := 114) (pc' := 118) rfl (hb hby at_114) (by decide) (by decide) ?_
          show Steps p.tables e below (T25.setTop (mkF m 118 #[.val (.int p0), .val (.int p1), .val (.int p2), .val (.int p3), .val (.int (own_max (1 : Int32) (p1 &&& (2147483647 : Int32)))), .val (.long ((p0.toInt64) + ((own_max (1 : Int32) (p1 &&& (2147483647 : Int32))).toInt64))), .second, .val (.int p2), .val (.ref b), .val (.int (0 : Int32))] [(.int (1 : Int32))])) _
          exact retN X25 hx (t := .boolean) Bd.returns (by simp) (hb hby at_118) hr
        · show Q_rm0 Z p0 p1 p2 p3 h0 n0 _ T25.heap _
          rw [e25]
          exact ⟨rfl, N25⟩
      · skip
        have pre26 : ∀ t, Steps p.tables e below (T21.setTop (mkF m 105 #[.val (.int p0), .val (.int p1), .val (.int p2), .val (.int p3), .val (.int (own_max (1 : Int32) (p1 &&& (2147483647 : Int32)))), .val (.long ((p0.toInt64) + ((own_max (1 : Int32) (p1 &&& (2147483647 : Int32))).toInt64))), .second, .val (.int p2), .val (.ref b), .val (.int (1 : Int32))] [(.int p2), (.int p0), (.ref b)])) t → G t := fun t k => pre23 t (by
          show Steps p.tables e below (T21.setTop (mkF m 90 #[.val (.int p0), .val (.int p1), .val (.int p2), .val (.int p3), .val (.int (own_max (1 : Int32) (p1 &&& (2147483647 : Int32)))), .val (.long ((p0.toInt64) + ((own_max (1 : Int32) (p1 &&& (2147483647 : Int32))).toInt64))), .second, .val (.int p2), .val (.ref b), .unset] [(.int (lcmpW (((p2.toInt64) - (p0.toInt64)) - (1 : Int64)) ((own_max (1 : Int32) (p1 &&& (2147483647 : Int32))).toInt64)))])) _
          refine XS.ifNo X21.here hx rfl (hb hby at_90) rfl ((if0 _ _).trans (flt (mt (lw_lt (((p2.toInt64) - (p0.toInt64)) - (1 : Int64)) ((own_max (1 : Int32) (p1 &&& (2147483647 : Int32))).toInt64)).mp ce)).1) ?_
          show Steps p.tables e below (T21.setTop (mkF m 93 #[.val (.int p0), .val (.int p1), .val (.int p2), .val (.int p3), .val (.int (own_max (1 : Int32) (p1 &&& (2147483647 : Int32)))), .val (.long ((p0.toInt64) + ((own_max (1 : Int32) (p1 &&& (2147483647 : Int32))).toInt64))), .second, .val (.int p2), .val (.ref b), .unset] [])) _
          refine XS.iconst X21.here hx rfl (hb hby at_93) ?_
          show Steps p.tables e below (T21.setTop (mkF m 94 #[.val (.int p0), .val (.int p1), .val (.int p2), .val (.int p3), .val (.int (own_max (1 : Int32) (p1 &&& (2147483647 : Int32)))), .val (.long ((p0.toInt64) + ((own_max (1 : Int32) (p1 &&& (2147483647 : Int32))).toInt64))), .second, .val (.int p2), .val (.ref b), .unset] [(.int (1 : Int32))])) _
          refine XS.goto X21.here hx rfl (pc0 := 94) (pc' := 98) rfl (hb hby at_94) (by decide) (by decide) ?_
          show Steps p.tables e below (T21.setTop (mkF m 98 #[.val (.int p0), .val (.int p1), .val (.int p2), .val (.int p3), .val (.int (own_max (1 : Int32) (p1 &&& (2147483647 : Int32)))), .val (.long ((p0.toInt64) + ((own_max (1 : Int32) (p1 &&& (2147483647 : Int32))).toInt64))), .second, .val (.int p2), .val (.ref b), .unset] [(.int (1 : Int32))])) _
          refine XS.istore X21.here hx rfl (hb hby at_98) rfl (l' := #[.val (.int p0), .val (.int p1), .val (.int p2), .val (.int p3), .val (.int (own_max (1 : Int32) (p1 &&& (2147483647 : Int32)))), .val (.long ((p0.toInt64) + ((own_max (1 : Int32) (p1 &&& (2147483647 : Int32))).toInt64))), .second, .val (.int p2), .val (.ref b), .val (.int (1 : Int32))]) rfl ?_
          show Steps p.tables e below (T21.setTop (mkF m 100 #[.val (.int p0), .val (.int p1), .val (.int p2), .val (.int p3), .val (.int (own_max (1 : Int32) (p1 &&& (2147483647 : Int32)))), .val (.long ((p0.toInt64) + ((own_max (1 : Int32) (p1 &&& (2147483647 : Int32))).toInt64))), .second, .val (.int p2), .val (.ref b), .val (.int (1 : Int32))] [])) _
          refine XS.aload X21.here hx rfl (hb hby at_100) rfl rfl ?_
          show Steps p.tables e below (T21.setTop (mkF m 102 #[.val (.int p0), .val (.int p1), .val (.int p2), .val (.int p3), .val (.int (own_max (1 : Int32) (p1 &&& (2147483647 : Int32)))), .val (.long ((p0.toInt64) + ((own_max (1 : Int32) (p1 &&& (2147483647 : Int32))).toInt64))), .second, .val (.int p2), .val (.ref b), .val (.int (1 : Int32))] [(.ref b)])) _
          refine XS.iloadN X21.here hx rfl (hb hby at_102) rfl ?_
          show Steps p.tables e below (T21.setTop (mkF m 103 #[.val (.int p0), .val (.int p1), .val (.int p2), .val (.int p3), .val (.int (own_max (1 : Int32) (p1 &&& (2147483647 : Int32)))), .val (.long ((p0.toInt64) + ((own_max (1 : Int32) (p1 &&& (2147483647 : Int32))).toInt64))), .second, .val (.int p2), .val (.ref b), .val (.int (1 : Int32))] [(.int p0), (.ref b)])) _
          refine XS.iload X21.here hx rfl (hb hby at_103) rfl ?_
          exact k)
        obtain ⟨cq27, kq27, q27a, q27b, q27c⟩ := isOf hZ rfl A19_22
        obtain ⟨_, _, ⟨T27, L27, k27, n27⟩, -, X27, ⟨Lc27, hQ27, l27, y27, z27⟩, st27⟩ := X21.virtualBack hx (y := (⟨"com/example/deferline/deferline/plan/InService$YearsAfterDeferralYear", "allows", "(II)Z"⟩ : MethodName)) (z := (⟨"com/example/deferline/deferline/plan/InService$YearsAfterDeferralYear", "allows", "(II)Z"⟩ : MethodName)) hown (mvT hZ (hw _ (List.mem_of_getElem? (i := 22) rfl))) (mvT hZ (hw _ (List.mem_of_getElem? (i := 23) rfl))) (notFace_of_selects (args := #[]) (mvT hZ (hw _ (List.mem_of_getElem? (i := 25) rfl)))) (mvT hZ (hw _ (List.mem_of_getElem? (i := 25) rfl))) (mvT hZ (hw _ (List.mem_of_getElem? (i := 24) rfl))) (by decide) (backOf (W := 0) (rm5 l Z a0 hw [] b p0 p2 (own_max (1 : Int32) (p1 &&& (2147483647 : Int32))) T21.heap n0 Z21 Fy21) hZ (hw _ (List.mem_of_getElem? (i := 26) rfl)) (hw _ (List.mem_of_getElem? (i := 8) rfl)) (by decide) (by decide)) q27a q27c (g := (mkF m 105 #[.val (.int p0), .val (.int p1), .val (.int p2), .val (.int p3), .val (.int (own_max (1 : Int32) (p1 &&& (2147483647 : Int32)))), .val (.long ((p0.toInt64) + ((own_max (1 : Int32) (p1 &&& (2147483647 : Int32))).toInt64))), .second, .val (.int p2), .val (.ref b), .val (.int (1 : Int32))] [(.int p2), (.int p0), (.ref b)])) rfl (by rw [hml]; rfl) (Steps.refl _) (argsL := [(.int p0), (.int p2)]) (rest := []) (lenOf pd_4 rfl) rfl (by show 2 * 0 + _ ≤ _; exact Nat.le_of_eq rfl) (hb hby at_105) (fun _ _ => ⟨rfl, rfl, (Nat.le_of_ble_eq_true rfl), (Nat.le_of_ble_eq_true rfl)⟩)
        dsimp only [Pt.U, Pt.locs, Pt.cells, Pt.slots] at X27 l27 y27 z27 st27 hQ27
        subst l27 y27 z27
        obtain ⟨hv27, N27q, e27⟩ := hQ27
        rw [if_pos ((own_law p0 p1 p2 hs).mpr ce)] at hv27
        subst hv27
        have N27 := Fr.app N21 N27q
        have pre27s : ∀ t, Steps p.tables e below (T27.setTop (mkF m 108 #[.val (.int p0), .val (.int p1), .val (.int p2), .val (.int p3), .val (.int (own_max (1 : Int32) (p1 &&& (2147483647 : Int32)))), .val (.long ((p0.toInt64) + ((own_max (1 : Int32) (p1 &&& (2147483647 : Int32))).toInt64))), .second, .val (.int p2), .val (.ref b), .val (.int (1 : Int32))] [(.int (1 : Int32))])) t → G t := fun t k => pre26 t (st27.trans k)
        obtain ⟨fs, hr, hrun, hended, hW, hsame⟩ := X27.leave (v := some (.int (1 : Int32))) (fun h => by rw [Bd.returns] at h; cases h)
        subst hG
        refine ⟨_, _, pre27s _ ?_, hrun, hended, _, _, rfl, ?_, ⟨_, rfl⟩, hW, hsame.mono (by decide) (by decide)⟩
        · skip
          show Steps p.tables e below (T27.setTop (mkF m 108 #[.val (.int p0), .val (.int p1), .val (.int p2), .val (.int p3), .val (.int (own_max (1 : Int32) (p1 &&& (2147483647 : Int32)))), .val (.long ((p0.toInt64) + ((own_max (1 : Int32) (p1 &&& (2147483647 : Int32))).toInt64))), .second, .val (.int p2), .val (.ref b), .val (.int (1 : Int32))] [(.int (1 : Int32))])) _
          refine XS.iload X27.here hx rfl (hb hby at_108) rfl ?_
          show Steps p.tables e below (T27.setTop (mkF m 110 #[.val (.int p0), .val (.int p1), .val (.int p2), .val (.int p3), .val (.int (own_max (1 : Int32) (p1 &&& (2147483647 : Int32)))), .val (.long ((p0.toInt64) + ((own_max (1 : Int32) (p1 &&& (2147483647 : Int32))).toInt64))), .second, .val (.int p2), .val (.ref b), .val (.int (1 : Int32))] [(.int (1 : Int32)), (.int (1 : Int32))])) _
          refine XS.icmpNo X27.here hx rfl (hb hby at_110) rfl (teq (by decide : (1 : Int32) = (1 : Int32))).2 ?_
          show Steps p.tables e below (T27.setTop (mkF m 113 #[.val (.int p0), .val (.int p1), .val (.int p2), .val (.int p3), .val (.int (own_max (1 : Int32) (p1 &&& (2147483647 : Int32)))), .val (.long ((p0.toInt64) + ((own_max (1 : Int32) (p1 &&& (2147483647 : Int32))).toInt64))), .second, .val (.int p2), .val (.ref b), .val (.int (1 : Int32))] [])) _
          refine XS.iconst X27.here hx rfl (hb hby at_113) ?_
          show Steps p.tables e below (T27.setTop (mkF m 114 #[.val (.int p0), .val (.int p1), .val (.int p2), .val (.int p3), .val (.int (own_max (1 : Int32) (p1 &&& (2147483647 : Int32)))), .val (.long ((p0.toInt64) + ((own_max (1 : Int32) (p1 &&& (2147483647 : Int32))).toInt64))), .second, .val (.int p2), .val (.ref b), .val (.int (1 : Int32))] [(.int (1 : Int32))])) _
          refine XS.goto X27.here hx rfl (pc0 := 114) (pc' := 118) rfl (hb hby at_114) (by decide) (by decide) ?_
          show Steps p.tables e below (T27.setTop (mkF m 118 #[.val (.int p0), .val (.int p1), .val (.int p2), .val (.int p3), .val (.int (own_max (1 : Int32) (p1 &&& (2147483647 : Int32)))), .val (.long ((p0.toInt64) + ((own_max (1 : Int32) (p1 &&& (2147483647 : Int32))).toInt64))), .second, .val (.int p2), .val (.ref b), .val (.int (1 : Int32))] [(.int (1 : Int32))])) _
          exact retN X27 hx (t := .boolean) Bd.returns (by simp) (hb hby at_118) hr
        · show Q_rm0 Z p0 p1 p2 p3 h0 n0 _ T27.heap _
          rw [e27]
          exact ⟨rfl, N27⟩
set_option maxRecDepth 65536 in
set_option maxHeartbeats 40000000 in
theorem comes_1 {Post : Tables → Env → Array Value → State → Outcome → State → Prop} (hpost : ∀ tb e args s v u, (limb_1_1.after args s (.returned v) u = true ∧ limb_1_2.after args s (.returned v) u = true ∧ True) → FrameEnd s (.returned v) u (Jvm.fieldLocs frame_1_writes args s ++ Jvm.arrayLocs frame_1_arrays args s ++ Jvm.staticLocs frame_1_statics s) 16 128 → Post tb e args s (.returned v) u) :
    ArmFor flags0 classFile x code maxLocals ret World_1 tables_1 room_1 Calls_1 rest_1 Pre_1 Post := by
  intro l hfl _ _ p e ha hc hk s m args below hf hA hF happ hP
  obtain ⟨hcalls, hrest, hpre⟩ := hP
  obtain ⟨-, -, -, hnamed, -, -, -, hat⟩ := (Spec.applies_iff hf).mp happ
  obtain ⟨hg, hn⟩ := and_e (Cond.before_iff.mp (show (Jvm.Cond.and given_1 narrow_1).before args s = true from hpre))
  obtain ⟨ga0, gb0⟩ := and_e hg
  obtain ⟨ga1, gb1⟩ := and_e gb0
  obtain ⟨ga2, gb2⟩ := and_e gb1
  obtain ⟨ga3, gb3⟩ := and_e gb2
  obtain ⟨w0, w1, w2, w3, rfl⟩ : ∃ w0 w1 w2 w3 : Value, args = #[w0, w1, w2, w3] := by
    have hs : args.size = 4 := by simpa [Cond.value, given_1] using ga0
    obtain ⟨L⟩ := args
    match L, hs with
    | [w0, w1, w2, w3], _ => exact ⟨w0, w1, w2, w3, rfl⟩
  have hw := fun d (hd : d ∈ tables_1) => atoms_spec (ws := Jvm.Cond.code x code maxLocals ret :: tables_1) hat d (List.mem_cons_of_mem _ hd)
  have hfit : Fit s := fun {y c} hc i hi => by
    obtain ⟨ha, rfl⟩ := Array.getElem?_eq_some_iff.mp hc
    have q := List.all_eq_true.mp ((Array.all_eq_true_iff_forall_mem.mp hF) _ (Array.getElem_mem ha)) i (List.mem_range.mpr hi)
    simpa [Array.getElem?_eq_getElem hi] using q
  obtain ⟨i0, ei0⟩ := is_v ga1
  obtain rfl : w0 = (.int i0) := Option.some.inj ei0
  obtain ⟨i1, ei1⟩ := is_v ga2
  obtain rfl : w1 = (.int i1) := Option.some.inj ei1
  obtain ⟨i2, ei2⟩ := is_v ga3
  obtain rfl : w2 = (.int i2) := Option.some.inj ei2
  obtain ⟨i3, ei3⟩ := is_v gb3
  obtain rfl : w3 = (.int i3) := Option.some.inj ei3
  obtain ⟨n, o, h1, h2, h3, _, L, rfl, ⟨rfl, N⟩, hq⟩ := rm0 l s _ hw tables_1 i0 i1 i2 i3 s.heap s.heap.size (Nat.le_refl _) p e ha hc hk s m _ below hf ((Spec.applies_iff_loose hf).mp happ).1 ⟨rfl, State.Warmed39.refl s, rfl⟩ trivial
  refine ⟨n, _, h1, h2, h3, hpost _ _ _ _ _ _ ⟨Cond.after_iff.mpr rfl, Cond.after_iff.mpr (eq_i res_at (Term.int_eval (1)) rfl), trivial⟩ ⟨hq.1, hq.2.1, (hq.2.2.sift fun y hy => Or.inr (N y hy)).mono (by decide) (by decide)⟩⟩
theorem main_1_1 : Claimed_1_1 := comes_1 fun _ _ _ _ _ _ h hF => ⟨h.1, hF⟩
theorem main_1_2 : Claimed_1_2 := comes_1 fun _ _ _ _ _ _ h hF => ⟨h.2.1, hF⟩
end Jvm.Pilot.@@N@@
namespace Jvm.Pilot.@@N@@
open Jvm Jvm.ClassFile Sem Op Lib Jvm.Free Jvm.Stand Jvm.Pilot.@@N@@.Jvm.D
/-! MADE BY PROGRAM (witnessworld.py) out of the Statement's table words and the real class files: 12 classes; the members and pool entries that the words name. The judged class is class 1, her method 1. -/
namespace start1
open Jvm.ClassFile
def u (s : String) : CpInfo := .utf8 (stringToUtf16 s)
/-- a pool by its gaps: so many unusable entries, then the entry; so many at the end -/
def gap : Nat → List CpInfo → List CpInfo
  | 0, r => r
  | n + 1, r => .unusable :: gap n r
def poolList (es : List (Nat × CpInfo)) (last : Nat) : List CpInfo := es.foldr (fun e r => gap e.1 (e.2 :: r)) (gap last [])
def pool (es : List (Nat × CpInfo)) (last : Nat) : Array CpInfo := ⟨poolList es last⟩
def fileOf (pool : Array CpInfo) (this : Nat) (attrs : Array Attribute := #[]) (ms : Array MethodInfo := #[]) (fl : Nat := 33) (sup : Nat := 0) (ifs : Array Nat := #[]) (fds : Array FieldInfo := #[]) : ClassFile where
  minorVersion := 0
  majorVersion := 65
  constantPool := pool
  accessFlags := fl
  thisClass := this
  superClass := sup
  interfaces := ifs
  fields := fds
  methods := ms
  attributes := attrs
def plain (name : String) (sup : Option ClassId) : Class where
  name := name
  kind := .ordinary
  loader := none
  accessFlags := 33
  super := sup
  interfaces := #[]
  cf := none
  fields := #[]
  methods := #[]
  instanceTypes := #[]
  staticTypes := #[]
  resolved := #[]
  callSites := []
  init := .initialized
  statics := none
  mirror := none

def pool0 : Array CpInfo := pool [(5, u "<init>"), (0, u "()V"), (1, .class_ 10), (1, u "java/lang/Object")] 113

def k0c0 : Code := { maxStack := 0, maxLocals := 1, code := object_method_1_code, exceptionTable := #[], attributes := #[] }
def k0m0 : Method := { name := "<init>", desc := "()V", sig := { parameters := [], returnType := none }, accessFlags := 1, code := some k0c0 }
/-- java/lang/Object -/
def k0 : Class := { plain "java/lang/Object" none with
  accessFlags := 33
  interfaces := #[]
  cf := some (fileOf pool0 8 #[] #[{ accessFlags := 1, nameIndex := 5, descriptorIndex := 6, attributes := #[] }] 33 0 #[] #[])
  fields := #[]
  methods := #[k0m0]
  instanceTypes := #[]
  staticTypes := #[]
  resolved := Array.replicate 124 none
  statics := none }

def pool1 : Array CpInfo := pool [(2, .class_ 4), (1, u "java/lang/Object"), (0, u "<init>"), (0, u "()V"), (0, .integer 2147483647), (0, .methodref 9 10), (0, .class_ 11), (0, .nameAndType 12 13), (0, u "java/lang/Math"), (0, u "max"), (0, u "(II)I"), (2, .long 2147483647), (1, .long 18446744071562067968), (1, .methodref 9 21), (0, .nameAndType 12 22), (0, u "(JJ)J"), (0, .methodref 9 24), (0, .nameAndType 25 22), (0, u "min"), (0, .class_ 27), (0, u "com/example/deferline/deferline/plan/InService$YearsAfterDeferralYear"), (0, .methodref 26 29), (0, .nameAndType 5 30), (0, u "(I)V"), (0, .methodref 26 32), (0, .nameAndType 33 34), (0, u "allows"), (0, u "(II)Z"), (0, .class_ 36), (0, u "com/example/deferline/deferline/plan/YearsAfterDeferralYearAllowsPinLaw"), (2, u "law"), (0, u "(IIII)Z")] 7

def k1m0 : Method := { name := "<init>", desc := "()V", sig := { parameters := [], returnType := none }, accessFlags := 1, code := none }
def k1c1 : Code := { maxStack := 6, maxLocals := 10, code := code, exceptionTable := #[], attributes := #[] }
def k1m1 : Method := { name := "law", desc := "(IIII)Z", sig := { parameters := [.int, .int, .int, .int], returnType := some .boolean }, accessFlags := 9, code := some k1c1 }
/-- com/example/deferline/deferline/plan/YearsAfterDeferralYearAllowsPinLaw -/
def k1 : Class := { plain "com/example/deferline/deferline/plan/YearsAfterDeferralYearAllowsPinLaw" (some 0) with
  accessFlags := 49
  interfaces := #[]
  cf := some (fileOf pool1 35 #[] #[{ accessFlags := 1, nameIndex := 5, descriptorIndex := 6, attributes := #[] }, { accessFlags := 9, nameIndex := 39, descriptorIndex := 40, attributes := #[] }] 49 2 #[] #[])
  fields := #[]
  methods := #[k1m0, k1m1]
  instanceTypes := #[]
  staticTypes := #[]
  resolved := Array.replicate 48 none
  statics := none }

def pool2 : Array CpInfo := pool [(1, .class_ 2), (0, u "java/lang/Math"), (1, .class_ 6), (1, u "java/lang/Object"), (0, u "<init>"), (0, u "()V"), (89, .class_ 100), (1, u "java/lang/Math$RandomNumberGeneratorHolder"), (20, u "(JJ)J"), (50, u "negativeZeroFloatBits"), (0, u "J"), (2, u "negativeZeroDoubleBits"), (21, u "max"), (2, u "min"), (43, u "$assertionsDisabled"), (0, u "Z"), (88, u "(II)I"), (2, u "twoToTheDoubleScaleDown"), (0, u "D"), (4, u "twoToTheDoubleScaleUp"), (9, u "E"), (3, u "PI"), (2, u "TAU"), (2, u "DEGREES_TO_RADIANS"), (0, u "RADIANS_TO_DEGREES")] 94

def k2m0 : Method := { name := "<init>", desc := "()V", sig := { parameters := [], returnType := none }, accessFlags := 2, code := none }
def k2c1 : Code := { maxStack := 2, maxLocals := 2, code := jdk_29_method_65_code, exceptionTable := #[], attributes := #[] }
def k2m1 : Method := { name := "max", desc := "(II)I", sig := { parameters := [.int, .int], returnType := some .int }, accessFlags := 9, code := some k2c1 }
def k2c2 : Code := { maxStack := 4, maxLocals := 4, code := jdk_29_method_66_code, exceptionTable := #[], attributes := #[] }
def k2m2 : Method := { name := "max", desc := "(JJ)J", sig := { parameters := [.long, .long], returnType := some .long }, accessFlags := 9, code := some k2c2 }
def k2c3 : Code := { maxStack := 4, maxLocals := 4, code := jdk_29_method_70_code, exceptionTable := #[], attributes := #[] }
def k2m3 : Method := { name := "min", desc := "(JJ)J", sig := { parameters := [.long, .long], returnType := some .long }, accessFlags := 9, code := some k2c3 }
/-- java/lang/Math -/
def k2 : Class := { plain "java/lang/Math" (some 0) with
  accessFlags := 49
  interfaces := #[]
  cf := some (fileOf pool2 1 #[.nestMembers #[98]] #[{ accessFlags := 2, nameIndex := 7, descriptorIndex := 8, attributes := #[] }, { accessFlags := 9, nameIndex := 198, descriptorIndex := 335, attributes := #[] }, { accessFlags := 9, nameIndex := 198, descriptorIndex := 121, attributes := #[] }, { accessFlags := 9, nameIndex := 201, descriptorIndex := 121, attributes := #[] }] 49 4 #[] #[{ accessFlags := 25, nameIndex := 354, descriptorIndex := 339, attributes := #[] }, { accessFlags := 25, nameIndex := 358, descriptorIndex := 339, attributes := #[] }, { accessFlags := 25, nameIndex := 361, descriptorIndex := 339, attributes := #[] }, { accessFlags := 26, nameIndex := 364, descriptorIndex := 339, attributes := #[] }, { accessFlags := 26, nameIndex := 365, descriptorIndex := 339, attributes := #[] }, { accessFlags := 26, nameIndex := 172, descriptorIndex := 173, attributes := #[] }, { accessFlags := 26, nameIndex := 176, descriptorIndex := 173, attributes := #[] }, { accessFlags := 8, nameIndex := 344, descriptorIndex := 339, attributes := #[] }, { accessFlags := 8, nameIndex := 338, descriptorIndex := 339, attributes := #[] }, { accessFlags := 4120, nameIndex := 245, descriptorIndex := 246, attributes := #[] }])
  fields := #[{ name := "E", type := .double, accessFlags := 25, slot := 0, constantValue := 0 }, { name := "PI", type := .double, accessFlags := 25, slot := 1, constantValue := 0 }, { name := "TAU", type := .double, accessFlags := 25, slot := 2, constantValue := 0 }, { name := "DEGREES_TO_RADIANS", type := .double, accessFlags := 26, slot := 3, constantValue := 0 }, { name := "RADIANS_TO_DEGREES", type := .double, accessFlags := 26, slot := 4, constantValue := 0 }, { name := "negativeZeroFloatBits", type := .long, accessFlags := 26, slot := 5, constantValue := 0 }, { name := "negativeZeroDoubleBits", type := .long, accessFlags := 26, slot := 6, constantValue := 0 }, { name := "twoToTheDoubleScaleUp", type := .double, accessFlags := 8, slot := 7, constantValue := 0 }, { name := "twoToTheDoubleScaleDown", type := .double, accessFlags := 8, slot := 8, constantValue := 0 }, { name := "$assertionsDisabled", type := .boolean, accessFlags := 4120, slot := 9, constantValue := 0 }]
  methods := #[k2m0, k2m1, k2m2, k2m3]
  instanceTypes := #[]
  staticTypes := #[.double, .double, .double, .double, .double, .long, .long, .double, .double, .boolean]
  resolved := Array.replicate 460 none
  statics := none }

def pool3 : Array CpInfo := pool [(1, .methodref 2 3), (0, .class_ 4), (0, .nameAndType 5 6), (0, u "java/lang/Object"), (0, u "<init>"), (0, u "()V"), (0, .class_ 8), (0, u "java/lang/Record")] 13

def k3c0 : Code := { maxStack := 1, maxLocals := 1, code := jdk_30_method_1_code, exceptionTable := #[], attributes := #[] }
def k3m0 : Method := { name := "<init>", desc := "()V", sig := { parameters := [], returnType := none }, accessFlags := 4, code := some k3c0 }
/-- java/lang/Record -/
def k3 : Class := { plain "java/lang/Record" (some 0) with
  accessFlags := 1057
  interfaces := #[]
  cf := some (fileOf pool3 7 #[] #[{ accessFlags := 4, nameIndex := 5, descriptorIndex := 6, attributes := #[] }] 1057 2 #[] #[])
  fields := #[]
  methods := #[k3m0]
  instanceTypes := #[]
  staticTypes := #[]
  resolved := Array.replicate 22 none
  statics := none }

def pool4 : Array CpInfo := pool [(1, .class_ 2), (0, u "com/example/deferline/deferline/plan/InService$PayYears"), (0, .class_ 4), (0, u "java/lang/Object"), (7, .class_ 13), (0, u "com/example/deferline/deferline/plan/InService")] 9

/-- com/example/deferline/deferline/plan/InService$PayYears -/
def k4 : Class := { plain "com/example/deferline/deferline/plan/InService$PayYears" (some 0) with
  accessFlags := 1537
  interfaces := #[]
  cf := some (fileOf pool4 1 #[.nestHost 12] #[] 1537 3 #[] #[])
  fields := #[]
  methods := #[]
  instanceTypes := #[]
  staticTypes := #[]
  resolved := Array.replicate 23 none
  statics := none }

def pool5 : Array CpInfo := pool [(1, .methodref 2 3), (0, .class_ 4), (0, .nameAndType 5 6), (0, u "java/lang/Record"), (0, u "<init>"), (0, u "()V"), (9, .fieldref 17 18), (0, .class_ 19), (0, .nameAndType 20 21), (0, u "com/example/deferline/deferline/plan/InService$YearsAfterDeferralYear"), (0, u "years"), (0, u "I"), (13, .class_ 36), (0, u "com/example/deferline/deferline/plan/InService$PayYears"), (0, u "(I)V"), (4, u "allows"), (0, u "(II)Z"), (7, .class_ 52), (0, u "com/example/deferline/deferline/plan/InService")] 29

def k5c0 : Code := { maxStack := 3, maxLocals := 2, code := prog_43_method_1_code, exceptionTable := #[], attributes := #[] }
def k5m0 : Method := { name := "<init>", desc := "(I)V", sig := { parameters := [.int], returnType := none }, accessFlags := 1, code := some k5c0 }
def k5c1 : Code := { maxStack := 3, maxLocals := 3, code := prog_43_method_2_code, exceptionTable := #[], attributes := #[] }
def k5m1 : Method := { name := "allows", desc := "(II)Z", sig := { parameters := [.int, .int], returnType := some .boolean }, accessFlags := 1, code := some k5c1 }
/-- com/example/deferline/deferline/plan/InService$YearsAfterDeferralYear -/
def k5 : Class := { plain "com/example/deferline/deferline/plan/InService$YearsAfterDeferralYear" (some 3) with
  accessFlags := 49
  interfaces := #[4]
  cf := some (fileOf pool5 17 #[.nestHost 51] #[{ accessFlags := 1, nameIndex := 5, descriptorIndex := 37, attributes := #[] }, { accessFlags := 1, nameIndex := 42, descriptorIndex := 43, attributes := #[] }] 49 2 #[35] #[{ accessFlags := 18, nameIndex := 20, descriptorIndex := 21, attributes := #[] }])
  fields := #[{ name := "years", type := .int, accessFlags := 18, slot := 0, constantValue := 0 }]
  methods := #[k5m0, k5m1]
  instanceTypes := #[.int]
  staticTypes := #[]
  resolved := Array.replicate 82 none
  statics := none }

def pool6 : Array CpInfo := pool [(1, u "java/lang/Cloneable"), (0, .class_ 1), (0, u "java/lang/Object"), (0, .class_ 3)] 3

/-- java/lang/Cloneable -/
def k6 : Class := { plain "java/lang/Cloneable" (some 0) with
  accessFlags := 1537
  interfaces := #[]
  cf := some (fileOf pool6 2 #[] #[] 1537 4 #[] #[])
  fields := #[]
  methods := #[]
  instanceTypes := #[]
  staticTypes := #[]
  resolved := Array.replicate 8 none
  statics := none }

def pool7 : Array CpInfo := pool [(1, u "java/io/Serializable"), (0, .class_ 1), (0, u "java/lang/Object"), (0, .class_ 3)] 3

/-- java/io/Serializable -/
def k7 : Class := { plain "java/io/Serializable" (some 0) with
  accessFlags := 1537
  interfaces := #[]
  cf := some (fileOf pool7 2 #[] #[] 1537 4 #[] #[])
  fields := #[]
  methods := #[]
  instanceTypes := #[]
  staticTypes := #[]
  resolved := Array.replicate 8 none
  statics := none }

/-- the primitive byte -/
def k8 : Class := { plain "byte" none with kind := .primitive 'B', accessFlags := 0x411 }
/-- [B -/
def k9 : Class := { plain "[B" (some 0) with kind := .array 8 .byte, interfaces := #[6, 7], accessFlags := 1041 }

/-- the primitive int -/
def k10 : Class := { plain "int" none with kind := .primitive 'I', accessFlags := 0x411 }
/-- [I -/
def k11 : Class := { plain "[I" (some 0) with kind := .array 10 .int, interfaces := #[6, 7], accessFlags := 1041 }

def heap : Heap := #[]
def classes : Array Class := #[k0, k1, k2, k3, k4, k5, k6, k7, k8, k9, k10, k11]
def interned : List (Array UInt16 × Addr) := []
def slotsUsed : Nat := 0
def theMethod : MethodId := ⟨1, 1⟩
def args0 : Array Value := #[.int 5, .int 3, .int 9, .int 1]
def aboutOver (below : List Frame) : State where
  vm := { classes := classes, interned := interned.toArray }
  heap := heap
  slotsUsed := slotsUsed
  threads := #[{ frames := .invoking theMethod args0 :: below }]
def below0 : List Frame := [.native { method := ⟨0, 0⟩, args := #[] }]
def about1 : State := aboutOver below0
def p0 : Program := .bare "" "" ""
def e0 : Env := launch0.env 0 0 0
theorem w_frames : about1.frames = Frame.invoking theMethod args0 :: below0 := rfl
set_option maxRecDepth 65536 in
theorem w_args : argsFit about1.vm theMethod args0 = true := by decide +kernel
set_option maxRecDepth 65536 in
theorem w_heap : heapFits about1 = true := by decide +kernel
set_option maxRecDepth 65536 in
theorem w_runnable : about1.curStatus? = some .runnable := by decide +kernel
set_option maxRecDepth 65536 in
theorem w_alone : about1.alone = true := by decide +kernel
set_option maxRecDepth 65536 in
theorem w_named : about1.methodNamed? x = some theMethod := by decide +kernel
set_option maxRecDepth 65536 in
theorem w_hears : about1.hears theMethod below0 = true := by decide +kernel
set_option maxRecDepth 65536 in
theorem w_ripe : about1.ripe theMethod args0 below0 = true := by decide +kernel
theorem w_running : about1.status = .running := rfl
set_option maxRecDepth 65536 in
theorem w_room : about1.hasRoom e0.platform room_1 = true :=
  launch0.hasRoom_least _ room_1 (by decide +kernel) (by decide +kernel) (by decide +kernel) (by decide +kernel) (by decide +kernel) (by decide +kernel)
theorem allAtoms_all (ts : List Jvm.Cond) (a : Array Jvm.Value) (st : Jvm.State) : (allAtoms ts).before a st = ts.all (fun c => c.before a st) := by
  induction ts with
  | nil => rfl
  | cons c t ih =>
    show (Jvm.Cond.and c (allAtoms t)).before a st = _
    rw [Jvm.Cond.before_and, ih, List.all_cons]
def words1 : List Jvm.Cond := Jvm.Cond.code x code maxLocals ret :: tables_1
/-- a 'code' word, met by the world's own term for the bytes: nothing is compared byte by byte -/
theorem code_word {y : MethodName} {bytes : ByteArray} {mx : Nat} {rt : Option FieldType} {a : Array Value} {s : State} {m : MethodId} {meth : Method} {c : Code} (h1 : s.methodNamed? y = some m) (h2 : s.vm.method? m = some meth) (h3 : meth.code = some c) (h4 : c.code = bytes)
    (h5 : (c.maxLocals == mx && c.exceptionTable.isEmpty && decide (c.maxStack ≤ mostOperands) && decide (meth.sig.returnType = rt) && !meth.locks && decide (parseMethodDescriptor y.desc = some meth.sig)) = true) : (Jvm.Cond.code y bytes mx rt).before a s = true := by
  simp only [Bool.and_eq_true, beq_iff_eq, Bool.not_eq_true', decide_eq_true_eq] at h5
  obtain ⟨⟨⟨⟨⟨g1, g2⟩, g3⟩, g4⟩, g5⟩, g6⟩ := h5
  simp [Cond.before, Cond.holds, Cond.value, h1, h2, h3, h4, g1, g2, g3, g4, g5, g6]
def isCode : Jvm.Cond → Bool
  | .code _ _ _ _ => true
  | _ => false
theorem all_split {L : List Jvm.Cond} {P : Jvm.Cond → Bool} (h1 : L.all (fun c => isCode c || P c) = true) (h2 : ∀ c ∈ L.filter isCode, P c = true) : L.all P = true := by
  refine List.all_eq_true.mpr fun c hc => ?_
  have h := List.all_eq_true.mp h1 c hc
  rcases Bool.eq_false_or_eq_true (isCode c) with hi | hi
  · exact h2 c (List.mem_filter.mpr ⟨hc, hi⟩)
  · simpa [hi] using h
set_option maxRecDepth 65536 in
theorem w_c0 : (Jvm.Cond.code x code maxLocals ret).before args0 about1 = true := code_word (m := ⟨1, 1⟩) (meth := k1m1) (c := k1c1) (by decide +kernel) rfl rfl rfl (by decide +kernel)
set_option maxRecDepth 65536 in
theorem w_c1 : (Jvm.Cond.code ({ cls := "java/lang/Math", name := "max", desc := "(II)I" } : Jvm.MethodName) jdk_29_method_65_code (2 : Nat) (Option.some Jvm.ClassFile.FieldType.int)).before args0 about1 = true := code_word (m := ⟨2, 1⟩) (meth := k2m1) (c := k2c1) (by decide +kernel) rfl rfl rfl (by decide +kernel)
set_option maxRecDepth 65536 in
theorem w_c2 : (Jvm.Cond.code ({ cls := "com/example/deferline/deferline/plan/InService$YearsAfterDeferralYear", name := "<init>", desc := "(I)V" } : Jvm.MethodName) prog_43_method_1_code (2 : Nat) (Option.none : Option Jvm.ClassFile.FieldType)).before args0 about1 = true := code_word (m := ⟨5, 0⟩) (meth := k5m0) (c := k5c0) (by decide +kernel) rfl rfl rfl (by decide +kernel)
set_option maxRecDepth 65536 in
theorem w_c3 : (Jvm.Cond.code ({ cls := "java/lang/Record", name := "<init>", desc := "()V" } : Jvm.MethodName) jdk_30_method_1_code (1 : Nat) (Option.none : Option Jvm.ClassFile.FieldType)).before args0 about1 = true := code_word (m := ⟨3, 0⟩) (meth := k3m0) (c := k3c0) (by decide +kernel) rfl rfl rfl (by decide +kernel)
set_option maxRecDepth 65536 in
theorem w_c4 : (Jvm.Cond.code ({ cls := "java/lang/Object", name := "<init>", desc := "()V" } : Jvm.MethodName) object_method_1_code (1 : Nat) (Option.none : Option Jvm.ClassFile.FieldType)).before args0 about1 = true := code_word (m := ⟨0, 0⟩) (meth := k0m0) (c := k0c0) (by decide +kernel) rfl rfl rfl (by decide +kernel)
set_option maxRecDepth 65536 in
theorem w_c5 : (Jvm.Cond.code ({ cls := "com/example/deferline/deferline/plan/InService$YearsAfterDeferralYear", name := "allows", desc := "(II)Z" } : Jvm.MethodName) prog_43_method_2_code (3 : Nat) (Option.some Jvm.ClassFile.FieldType.boolean)).before args0 about1 = true := code_word (m := ⟨5, 1⟩) (meth := k5m1) (c := k5c1) (by decide +kernel) rfl rfl rfl (by decide +kernel)
set_option maxRecDepth 65536 in
theorem w_c6 : (Jvm.Cond.code ({ cls := "java/lang/Math", name := "max", desc := "(JJ)J" } : Jvm.MethodName) jdk_29_method_66_code (4 : Nat) (Option.some Jvm.ClassFile.FieldType.long)).before args0 about1 = true := code_word (m := ⟨2, 2⟩) (meth := k2m2) (c := k2c2) (by decide +kernel) rfl rfl rfl (by decide +kernel)
set_option maxRecDepth 65536 in
theorem w_c7 : (Jvm.Cond.code ({ cls := "java/lang/Math", name := "min", desc := "(JJ)J" } : Jvm.MethodName) jdk_29_method_70_code (4 : Nat) (Option.some Jvm.ClassFile.FieldType.long)).before args0 about1 = true := code_word (m := ⟨2, 3⟩) (meth := k2m3) (c := k2c3) (by decide +kernel) rfl rfl rfl (by decide +kernel)
def codes1 : List Jvm.Cond := [Jvm.Cond.code x code maxLocals ret, Jvm.Cond.code ({ cls := "java/lang/Math", name := "max", desc := "(II)I" } : Jvm.MethodName) jdk_29_method_65_code (2 : Nat) (Option.some Jvm.ClassFile.FieldType.int), Jvm.Cond.code ({ cls := "com/example/deferline/deferline/plan/InService$YearsAfterDeferralYear", name := "<init>", desc := "(I)V" } : Jvm.MethodName) prog_43_method_1_code (2 : Nat) (Option.none : Option Jvm.ClassFile.FieldType), Jvm.Cond.code ({ cls := "java/lang/Record", name := "<init>", desc := "()V" } : Jvm.MethodName) jdk_30_method_1_code (1 : Nat) (Option.none : Option Jvm.ClassFile.FieldType), Jvm.Cond.code ({ cls := "java/lang/Object", name := "<init>", desc := "()V" } : Jvm.MethodName) object_method_1_code (1 : Nat) (Option.none : Option Jvm.ClassFile.FieldType), Jvm.Cond.code ({ cls := "com/example/deferline/deferline/plan/InService$YearsAfterDeferralYear", name := "allows", desc := "(II)Z" } : Jvm.MethodName) prog_43_method_2_code (3 : Nat) (Option.some Jvm.ClassFile.FieldType.boolean), Jvm.Cond.code ({ cls := "java/lang/Math", name := "max", desc := "(JJ)J" } : Jvm.MethodName) jdk_29_method_66_code (4 : Nat) (Option.some Jvm.ClassFile.FieldType.long), Jvm.Cond.code ({ cls := "java/lang/Math", name := "min", desc := "(JJ)J" } : Jvm.MethodName) jdk_29_method_70_code (4 : Nat) (Option.some Jvm.ClassFile.FieldType.long)]
set_option maxRecDepth 65536 in
theorem codes_eq : words1.filter isCode = codes1 := rfl
theorem w_codes : ∀ c ∈ words1.filter isCode, c.before args0 about1 = true := by
  rw [codes_eq]
  intro c hc
  simp only [codes1, List.mem_cons, List.not_mem_nil, or_false] at hc
  rcases hc with rfl | rfl | rfl | rfl | rfl | rfl | rfl | rfl
  · exact w_c0
  · exact w_c1
  · exact w_c2
  · exact w_c3
  · exact w_c4
  · exact w_c5
  · exact w_c6
  · exact w_c7
set_option maxRecDepth 65536 in
theorem w_t1 : (words1.take 24).all (fun c => isCode c || c.before args0 about1) = true := by decide +kernel
set_option maxRecDepth 65536 in
theorem w_t2 : (words1.drop 24).all (fun c => isCode c || c.before args0 about1) = true := by decide +kernel
theorem w_tables : (allAtoms (Jvm.Cond.code x code maxLocals ret :: tables_1)).before args0 about1 = true := by
  rw [allAtoms_all]
  show words1.all (fun c => c.before args0 about1) = true
  refine all_split ?_ w_codes
  rw [← List.take_append_drop 24 words1, List.all_append, w_t1, w_t2]
  rfl
set_option maxRecDepth 65536 in
theorem w_case : (Jvm.Cond.and given_1 narrow_1).before args0 about1 = true := by decide +kernel
theorem w_applies : (headSpec (Jvm.Cond.code x code maxLocals ret :: tables_1) room_1).applies x e0.platform about1 = true :=
  (Spec.applies_iff w_frames).mpr ⟨w_running, w_runnable, w_alone, w_named, w_hears, w_ripe, w_room, w_tables⟩
theorem atStart : AtStart classFile x code maxLocals ret World_1 tables_1 room_1 Calls_1 rest_1 Pre_1 launch0 p0 e0 about1 theMethod args0 below0 :=
  ⟨lists_1, trivial, launch0.admits_env _ _ _, launch0.least_env, fairChoices_fair.cas, fairChoices_fair.clock, w_frames, w_args, w_heap, w_applies, trivial, trivial, w_case⟩
end start1
theorem witness_1 : WitnessClaimed_1 := ⟨start1.p0, start1.e0, start1.about1, start1.theMethod, start1.args0, start1.below0, start1.atStart⟩
end Jvm.Pilot.@@N@@
