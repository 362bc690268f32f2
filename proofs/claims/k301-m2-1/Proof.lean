import JvmDerived
import JvmDerived.Pilot.@@N@@Statement
import JvmDerived.Pilot.@@N@@Code
set_option linter.unusedVariables false
set_option linter.unusedSimpArgs false
namespace Jvm.RoadKit
open Sem ClassFile Op Lib Jvm.Stand Jvm.Free Jvm.LawKit
section New
variable {p : Program} {l : Launch} {e : Env} {R : Room} {s : State} {m : MethodId} {args : Array Value} {below : List Frame} {meth : Method} {c : Code} {T : State} {locs : List Loc} {cells slots : Nat}
theorem retI (X : Stand p l e R s m args below meth c T locs cells slots) (hx : p.tables.exec = Jvm.exec) {pc : Nat} {Ls : Array Slot} {z : Int32} {rest : List Value} (hret : meth.sig.returnType = some .int) (hd : decode c.code pc = .ok (.ireturn, 1)) {fs : List Frame}
    (hl : ∀ (f : JFrame) (acts : List Action), f.method = m → f.locked = none → f.entered = [] → (doReturn e (T.setTop f) acts (some (.int z))).1 = T.setFrames fs) : Steps p.tables e below (T.setTop (mkF m pc Ls (.int z :: rest))) (T.setFrames fs) := by
  have hm' : T.vm.method? m = some meth := X.method'
  have hn : narrow .int (.int z) = .int z := rfl
  show Steps p.tables e below (T.setTop { method := m, pc := pc, locals := Ls, stack := _ :: rest, locked := none }) _
  jvm_step X.here [X.here.top, hx, hd, hm', hret, hn]
  first | (intro acts; rw [hl _ acts rfl rfl rfl]) | rw [hl _ _ rfl rfl rfl]
  exact Steps.refl _
end New
end Jvm.RoadKit
namespace Jvm.Pilot.@@N@@
open Jvm Jvm.ClassFile Sem Op Lib Jvm.Free Jvm.Stand Jvm.LawKit Jvm.RoadKit Bundle Jvm.Pilot.@@N@@.Jvm.D

def own_max (x y : Int64) : Int64 := if x < y then y else x
theorem own_max_ne (x : Int64) : own_max x 1 ≠ 0 := by
  unfold own_max
  split
  · decide
  · rename_i h
    intro e
    rw [e] at h
    exact h (by decide)
def own_wait (lm rem now : Int64) : Bool := decide (now < lm) || (decide (lm = now) && decide ((0 : Int64) < rem))
def own_dep (lm rem now : Int64) : Int32 := if (0 : Int64) < rem then (if lm = (9223372036854775807 : Int64) then 1 else if now < lm + (1 : Int64) then 1 else 0) else (if now < lm then 1 else 0)
theorem own_eq (lm rem now : Int64) : own_dep lm rem now = if own_wait lm rem now = true then 1 else 0 := by
  unfold own_dep own_wait
  by_cases h1 : (0 : Int64) < rem
  · rw [if_pos h1]
    have hr := rng64 lm
    have hn := rng64 now
    by_cases h2 : lm = (9223372036854775807 : Int64)
    · rw [if_pos h2]
      by_cases h3 : now < lm
      · simp [h3]
      · have h4 : lm = now := by
          rw [Int64.lt_iff_toInt_lt] at h3
          apply Int64.toInt_inj.mp
          rw [h2] at h3 ⊢
          have e : (9223372036854775807 : Int64).toInt = 9223372036854775807 := by decide
          omega
        simp [h3, h4, h1]
    · rw [if_neg h2]
      have e : (9223372036854775807 : Int64).toInt = 9223372036854775807 := by decide
      have e1 : (1 : Int64).toInt = 1 := by decide
      have h5 : lm.toInt ≠ 9223372036854775807 := fun k => h2 (Int64.toInt_inj.mp (by rw [k, e]))
      have h6 := c_ladd lm 1
      have h7 := rng64 (lm + 1)
      have h8 : (lm + 1).toInt = lm.toInt + 1 := by omega
      have h9 : (now < lm + 1) ↔ (now < lm ∨ lm = now) := by
        rw [Int64.lt_iff_toInt_lt, Int64.lt_iff_toInt_lt, h8, ← Int64.toInt_inj]; omega
      simp [h9, h1]
  · rw [if_neg h1]; simp [h1]
theorem ef_1_J_J (m : MethodId) (x0 : Int64) (x1 : Int64) : entryFrame m #[(.long x0), (.long x1)] 4 = mkF m 0 #[.val (.long x0), .second, .val (.long x1), .second] [] := by first | (simp [entryFrame, mkF, argsToLocals, Value.category]; done) | rfl
theorem d1_0 : decode jdk_29_method_66_code 0 = .ok (.lload_n 0, 1) := by decide +kernel
theorem d1_1 : decode jdk_29_method_66_code 1 = .ok (.lload_n 2, 1) := by decide +kernel
theorem d1_2 : decode jdk_29_method_66_code 2 = .ok (.lcmp, 1) := by decide +kernel
theorem d1_3 : decode jdk_29_method_66_code 3 = .ok (.ifCond .lt 7, 3) := by decide +kernel
theorem d1_6 : decode jdk_29_method_66_code 6 = .ok (.lload_n 0, 1) := by decide +kernel
theorem d1_7 : decode jdk_29_method_66_code 7 = .ok (.goto 4, 3) := by decide +kernel
theorem d1_10 : decode jdk_29_method_66_code 10 = .ok (.lload_n 2, 1) := by decide +kernel
theorem d1_11 : decode jdk_29_method_66_code 11 = .ok (.lreturn, 1) := by decide +kernel
def Q_rm1 (Z : State) (a b : Int64) (h0 : Heap) (n0 : Nat) (v : Option Value) (h : Heap) (L : List Loc) : Prop := v = some (.long (own_max a b)) ∧ Fr n0 L ∧ h = h0
set_option maxRecDepth 65536 in
set_option maxHeartbeats 40000000 in
theorem rm1 (l : Launch) (Z : State) (a0 : Array Value) (hw : ∀ d ∈ tables_1, d.before a0 Z = true) (ws : List Jvm.Cond) (a b : Int64) (h0 : Heap) (n0 : Nat) (Z0 : n0 ≤ h0.size)  :
    MetFree l (⟨"java/lang/Math", "max", "(JJ)J"⟩ : MethodName) (head1 (Jvm.Cond.code (⟨"java/lang/Math", "max", "(JJ)J"⟩ : MethodName) jdk_29_method_66_code 4 (some .long) :: ws) ({ frames := 0, cells := 0, slots := 0, locals := 0 } : Room)) (fun argv U => argv = #[(.long a), (.long b)] ∧ Z.Warmed39 U.vm ∧ U.heap = h0) (fun _ _ _ _ _ => True) (fun _ U o U' => ∃ v L, o = .returned v ∧ Q_rm1 Z a b h0 n0 v U'.heap L ∧ FrameEnd U o U' L ({ frames := 0, cells := 0, slots := 0, locals := 0 } : Room).cells ({ frames := 0, cells := 0, slots := 0, locals := 0 } : Room).slots) := by
  refine MetFree.of_bodySF (Jvm.Free.JP.mathPlain rfl (by decide +kernel)) hisR ?_
  intro p e s m args below meth c s₁ Bd hml0 hP hK
  obtain ⟨rfl, hZ, hh⟩ := hP
  have hx := Bd.exec
  have hby := Bd.bytes
  have hml : c.maxLocals = 4 := hml0
  have hown : s.vm.findClass "java/lang/Math" = some m.cls := findClass_of_methodNamed Bd.named
  have hnm := (name_of_methodNamed Bd.named Bd.method).1
  have X0 : Stand p l e ({ frames := 0, cells := 0, slots := 0, locals := 0 } : Room) s m #[(.long a), (.long b)] below meth c s₁ [] 0 0 := Stand.of_body Bd
  have e0 : s₁.heap = h0 := by rw [← hh, Bd.state]; rfl
  have N0 := Fr.nil n0
  obtain ⟨G, hG⟩ : ∃ G : State → Prop, G = fun tg => Steps p.tables e below (s₁.setTop (entryFrame m #[(.long a), (.long b)] 4)) tg := ⟨_, rfl⟩
  have pre0 : ∀ tg, Steps p.tables e below (s₁.setTop (mkF m 0 #[.val (.long a), .second, .val (.long b), .second] [])) tg → G tg := fun tg kt => by rw [hG]; exact castTop (ef_1_J_J m a b) kt
  have pre1 : ∀ tg, Steps p.tables e below (s₁.setTop (mkF m 3 #[.val (.long a), .second, .val (.long b), .second] [(.int (lcmpW a b))])) tg → G tg := fun tg kt => pre0 tg (by
    show Steps p.tables e below (s₁.setTop (mkF m 0 #[.val (.long a), .second, .val (.long b), .second] [])) _
    refine XS.lloadN X0.here hx rfl (hb hby d1_0) rfl ?_
    show Steps p.tables e below (s₁.setTop (mkF m 1 #[.val (.long a), .second, .val (.long b), .second] [(.long a)])) _
    refine XS.lloadN X0.here hx rfl (hb hby d1_1) rfl ?_
    show Steps p.tables e below (s₁.setTop (mkF m 2 #[.val (.long a), .second, .val (.long b), .second] [(.long b), (.long a)])) _
    refine XS.lcmp X0.here hx rfl (hb hby d1_2) rfl ?_
    exact kt)
  have pre2 : ∀ tg, Steps p.tables e below (s₁.setTop (mkF m 11 #[.val (.long a), .second, .val (.long b), .second] [(.long (if a < b then b else a))])) tg → G tg := by
    intro tg kt
    refine pre1 tg ?_
    by_cases hm3_0 : a < b
    · try simp only [if_pos hm3_0] at kt
      show Steps p.tables e below (s₁.setTop (mkF m 3 #[.val (.long a), .second, .val (.long b), .second] [(.int (lcmpW a b))])) _
      refine XS.ifYes X0.here hx rfl (pc0 := 3) (pc' := 10) rfl (hb hby d1_3) rfl ((if0 _ _).trans (tlt ((lw_lt a b).mpr hm3_0)).1) (by decide) (by decide) ?_
      show Steps p.tables e below (s₁.setTop (mkF m 10 #[.val (.long a), .second, .val (.long b), .second] [])) _
      refine XS.lloadN X0.here hx rfl (hb hby d1_10) rfl ?_
      exact kt
    · try simp only [if_neg hm3_0] at kt
      show Steps p.tables e below (s₁.setTop (mkF m 3 #[.val (.long a), .second, .val (.long b), .second] [(.int (lcmpW a b))])) _
      refine XS.ifNo X0.here hx rfl (hb hby d1_3) rfl ((if0 _ _).trans (flt (mt (lw_lt a b).mp hm3_0)).1) ?_
      show Steps p.tables e below (s₁.setTop (mkF m 6 #[.val (.long a), .second, .val (.long b), .second] [])) _
      refine XS.lloadN X0.here hx rfl (hb hby d1_6) rfl ?_
      show Steps p.tables e below (s₁.setTop (mkF m 7 #[.val (.long a), .second, .val (.long b), .second] [(.long a)])) _
      refine XS.goto X0.here hx rfl (pc0 := 7) (pc' := 11) rfl (hb hby d1_7) (by decide) (by decide) ?_
      exact kt
  obtain ⟨fs, hr, hrun, hended, hW, hsame⟩ := X0.leave (v := some (.long (if a < b then b else a))) (fun h => by rw [Bd.returns] at h; cases h)
  subst hG
  refine ⟨_, _, pre2 _ ?_, hrun, hended, _, _, rfl, ?_, ⟨_, rfl⟩, hW, hsame.mono (by decide) (by decide)⟩
  · skip
    show Steps p.tables e below (s₁.setTop (mkF m 11 #[.val (.long a), .second, .val (.long b), .second] [(.long (if a < b then b else a))])) _
    exact X0.lreturnOut hx Bd.returns (hb hby d1_11) hr
  · show Q_rm1 Z a b h0 n0 _ s₁.heap _
    rw [e0]
    exact ⟨rfl, N0, rfl⟩
theorem pn_2 : plainName "com/example/floodgate/floodgate/store/QueueTailStillWaitingPinLaw" = true := by first | (simp [plainName, overriddenIn]; done) | decide +kernel
theorem ef_2_J_J_I (m : MethodId) (x0 : Int64) (x1 : Int64) (x2 : Int32) : entryFrame m #[(.long x0), (.long x1), (.int x2)] 5 = mkF m 0 #[.val (.long x0), .second, .val (.long x1), .second, .val (.int x2)] [] := by first | (simp [entryFrame, mkF, argsToLocals, Value.category]; done) | rfl
theorem d2_0 : decode method_3_code 0 = .ok (.iload 4, 2) := by decide +kernel
theorem d2_2 : decode method_3_code 2 = .ok (.ifCond .ne 5, 3) := by decide +kernel
theorem d2_5 : decode method_3_code 5 = .ok (.lload_n 2, 1) := by decide +kernel
theorem d2_6 : decode method_3_code 6 = .ok (.lreturn, 1) := by decide +kernel
theorem d2_7 : decode method_3_code 7 = .ok (.iload 4, 2) := by decide +kernel
theorem d2_9 : decode method_3_code 9 = .ok (.iconst 1, 1) := by decide +kernel
theorem d2_10 : decode method_3_code 10 = .ok (.if_icmp .ne 5, 3) := by decide +kernel
theorem d2_13 : decode method_3_code 13 = .ok (.lload_n 0, 1) := by decide +kernel
theorem d2_14 : decode method_3_code 14 = .ok (.lreturn, 1) := by decide +kernel
theorem d2_15 : decode method_3_code 15 = .ok (.iload 4, 2) := by decide +kernel
theorem d2_17 : decode method_3_code 17 = .ok (.iconst 2, 1) := by decide +kernel
theorem d2_18 : decode method_3_code 18 = .ok (.if_icmp .ne 7, 3) := by decide +kernel
theorem d2_21 : decode method_3_code 21 = .ok (.lload_n 0, 1) := by decide +kernel
theorem d2_22 : decode method_3_code 22 = .ok (.lconst 1, 1) := by decide +kernel
theorem d2_23 : decode method_3_code 23 = .ok (.lsub, 1) := by decide +kernel
theorem d2_24 : decode method_3_code 24 = .ok (.lreturn, 1) := by decide +kernel
theorem d2_25 : decode method_3_code 25 = .ok (.lload_n 0, 1) := by decide +kernel
theorem d2_26 : decode method_3_code 26 = .ok (.lconst 1, 1) := by decide +kernel
theorem d2_27 : decode method_3_code 27 = .ok (.ladd, 1) := by decide +kernel
theorem d2_28 : decode method_3_code 28 = .ok (.lreturn, 1) := by decide +kernel
def Q_rm2 (Z : State) (a b : Int64) (k : Int32) (h0 : Heap) (n0 : Nat) (v : Option Value) (h : Heap) (L : List Loc) : Prop := ∃ z : Int64, v = some (.long z) ∧ Fr n0 L ∧ h = h0
set_option maxRecDepth 65536 in
set_option maxHeartbeats 40000000 in
theorem rm2 (l : Launch) (Z : State) (a0 : Array Value) (hw : ∀ d ∈ tables_1, d.before a0 Z = true) (ws : List Jvm.Cond) (a b : Int64) (k : Int32) (h0 : Heap) (n0 : Nat) (Z0 : n0 ≤ h0.size)  :
    MetFree l (⟨"com/example/floodgate/floodgate/store/QueueTailStillWaitingPinLaw", "pickNow", "(JJI)J"⟩ : MethodName) (head1 (Jvm.Cond.code (⟨"com/example/floodgate/floodgate/store/QueueTailStillWaitingPinLaw", "pickNow", "(JJI)J"⟩ : MethodName) method_3_code 5 (some .long) :: ws) ({ frames := 0, cells := 0, slots := 0, locals := 0 } : Room)) (fun argv U => argv = #[(.long a), (.long b), (.int k)] ∧ Z.Warmed39 U.vm ∧ U.heap = h0) (fun _ _ _ _ _ => True) (fun _ U o U' => ∃ v L, o = .returned v ∧ Q_rm2 Z a b k h0 n0 v U'.heap L ∧ FrameEnd U o U' L ({ frames := 0, cells := 0, slots := 0, locals := 0 } : Room).cells ({ frames := 0, cells := 0, slots := 0, locals := 0 } : Room).slots) := by
  refine MetFree.of_bodySF (plainFor_of_name pn_2) hisR ?_
  intro p e s m args below meth c s₁ Bd hml0 hP hK
  obtain ⟨rfl, hZ, hh⟩ := hP
  have hx := Bd.exec
  have hby := Bd.bytes
  have hml : c.maxLocals = 5 := hml0
  have hown : s.vm.findClass "com/example/floodgate/floodgate/store/QueueTailStillWaitingPinLaw" = some m.cls := findClass_of_methodNamed Bd.named
  have hnm := (name_of_methodNamed Bd.named Bd.method).1
  have X0 : Stand p l e ({ frames := 0, cells := 0, slots := 0, locals := 0 } : Room) s m #[(.long a), (.long b), (.int k)] below meth c s₁ [] 0 0 := Stand.of_body Bd
  have e0 : s₁.heap = h0 := by rw [← hh, Bd.state]; rfl
  have N0 := Fr.nil n0
  obtain ⟨G, hG⟩ : ∃ G : State → Prop, G = fun tg => Steps p.tables e below (s₁.setTop (entryFrame m #[(.long a), (.long b), (.int k)] 5)) tg := ⟨_, rfl⟩
  have pre0 : ∀ tg, Steps p.tables e below (s₁.setTop (mkF m 0 #[.val (.long a), .second, .val (.long b), .second, .val (.int k)] [])) tg → G tg := fun tg kt => by rw [hG]; exact castTop (ef_2_J_J_I m a b k) kt
  have pre1 : ∀ tg, Steps p.tables e below (s₁.setTop (mkF m 2 #[.val (.long a), .second, .val (.long b), .second, .val (.int k)] [(.int k)])) tg → G tg := fun tg kt => pre0 tg (by
    show Steps p.tables e below (s₁.setTop (mkF m 0 #[.val (.long a), .second, .val (.long b), .second, .val (.int k)] [])) _
    refine XS.iload X0.here hx rfl (hb hby d2_0) rfl ?_
    exact kt)
  by_cases c2 : k = (0 : Int32)
  · -- c2
    obtain ⟨fs, hr, hrun, hended, hW, hsame⟩ := X0.leave (v := some (.long b)) (fun h => by rw [Bd.returns] at h; cases h)
    subst hG
    refine ⟨_, _, pre1 _ ?_, hrun, hended, _, _, rfl, ?_, ⟨_, rfl⟩, hW, hsame.mono (by decide) (by decide)⟩
    · skip
      show Steps p.tables e below (s₁.setTop (mkF m 2 #[.val (.long a), .second, .val (.long b), .second, .val (.int k)] [(.int k)])) _
      refine XS.ifNo X0.here hx rfl (hb hby d2_2) rfl ((if0 _ _).trans (teq c2).2) ?_
      show Steps p.tables e below (s₁.setTop (mkF m 5 #[.val (.long a), .second, .val (.long b), .second, .val (.int k)] [])) _
      refine XS.lloadN X0.here hx rfl (hb hby d2_5) rfl ?_
      show Steps p.tables e below (s₁.setTop (mkF m 6 #[.val (.long a), .second, .val (.long b), .second, .val (.int k)] [(.long b)])) _
      exact X0.lreturnOut hx Bd.returns (hb hby d2_6) hr
    · show Q_rm2 Z a b k h0 n0 _ s₁.heap _
      rw [e0]
      exact ⟨_, rfl, N0, rfl⟩
  · -- not c2
    have pre2 : ∀ tg, Steps p.tables e below (s₁.setTop (mkF m 10 #[.val (.long a), .second, .val (.long b), .second, .val (.int k)] [(.int (1 : Int32)), (.int k)])) tg → G tg := fun tg kt => pre1 tg (by
      show Steps p.tables e below (s₁.setTop (mkF m 2 #[.val (.long a), .second, .val (.long b), .second, .val (.int k)] [(.int k)])) _
      refine XS.ifYes X0.here hx rfl (pc0 := 2) (pc' := 7) rfl (hb hby d2_2) rfl ((if0 _ _).trans (feq c2).2) (by decide) (by decide) ?_
      show Steps p.tables e below (s₁.setTop (mkF m 7 #[.val (.long a), .second, .val (.long b), .second, .val (.int k)] [])) _
      refine XS.iload X0.here hx rfl (hb hby d2_7) rfl ?_
      show Steps p.tables e below (s₁.setTop (mkF m 9 #[.val (.long a), .second, .val (.long b), .second, .val (.int k)] [(.int k)])) _
      refine XS.iconst X0.here hx rfl (hb hby d2_9) ?_
      exact kt)
    by_cases c10 : k = (1 : Int32)
    · -- c10
      obtain ⟨fs, hr, hrun, hended, hW, hsame⟩ := X0.leave (v := some (.long a)) (fun h => by rw [Bd.returns] at h; cases h)
      subst hG
      refine ⟨_, _, pre2 _ ?_, hrun, hended, _, _, rfl, ?_, ⟨_, rfl⟩, hW, hsame.mono (by decide) (by decide)⟩
      · skip
        show Steps p.tables e below (s₁.setTop (mkF m 10 #[.val (.long a), .second, .val (.long b), .second, .val (.int k)] [(.int (1 : Int32)), (.int k)])) _
        refine XS.icmpNo X0.here hx rfl (hb hby d2_10) rfl (teq c10).2 ?_
        show Steps p.tables e below (s₁.setTop (mkF m 13 #[.val (.long a), .second, .val (.long b), .second, .val (.int k)] [])) _
        refine XS.lloadN X0.here hx rfl (hb hby d2_13) rfl ?_
        show Steps p.tables e below (s₁.setTop (mkF m 14 #[.val (.long a), .second, .val (.long b), .second, .val (.int k)] [(.long a)])) _
        exact X0.lreturnOut hx Bd.returns (hb hby d2_14) hr
      · show Q_rm2 Z a b k h0 n0 _ s₁.heap _
        rw [e0]
        exact ⟨_, rfl, N0, rfl⟩
    · -- not c10
      have pre3 : ∀ tg, Steps p.tables e below (s₁.setTop (mkF m 18 #[.val (.long a), .second, .val (.long b), .second, .val (.int k)] [(.int (2 : Int32)), (.int k)])) tg → G tg := fun tg kt => pre2 tg (by
        show Steps p.tables e below (s₁.setTop (mkF m 10 #[.val (.long a), .second, .val (.long b), .second, .val (.int k)] [(.int (1 : Int32)), (.int k)])) _
        refine XS.icmpYes X0.here hx rfl (pc0 := 10) (pc' := 15) rfl (hb hby d2_10) rfl (feq c10).2 (by decide) (by decide) ?_
        show Steps p.tables e below (s₁.setTop (mkF m 15 #[.val (.long a), .second, .val (.long b), .second, .val (.int k)] [])) _
        refine XS.iload X0.here hx rfl (hb hby d2_15) rfl ?_
        show Steps p.tables e below (s₁.setTop (mkF m 17 #[.val (.long a), .second, .val (.long b), .second, .val (.int k)] [(.int k)])) _
        refine XS.iconst X0.here hx rfl (hb hby d2_17) ?_
        exact kt)
      by_cases c18 : k = (2 : Int32)
      · -- c18
        obtain ⟨fs, hr, hrun, hended, hW, hsame⟩ := X0.leave (v := some (.long (a - (1 : Int64)))) (fun h => by rw [Bd.returns] at h; cases h)
        subst hG
        refine ⟨_, _, pre3 _ ?_, hrun, hended, _, _, rfl, ?_, ⟨_, rfl⟩, hW, hsame.mono (by decide) (by decide)⟩
        · skip
          show Steps p.tables e below (s₁.setTop (mkF m 18 #[.val (.long a), .second, .val (.long b), .second, .val (.int k)] [(.int (2 : Int32)), (.int k)])) _
          refine XS.icmpNo X0.here hx rfl (hb hby d2_18) rfl (teq c18).2 ?_
          show Steps p.tables e below (s₁.setTop (mkF m 21 #[.val (.long a), .second, .val (.long b), .second, .val (.int k)] [])) _
          refine XS.lloadN X0.here hx rfl (hb hby d2_21) rfl ?_
          show Steps p.tables e below (s₁.setTop (mkF m 22 #[.val (.long a), .second, .val (.long b), .second, .val (.int k)] [(.long a)])) _
          refine XS.lconst X0.here hx rfl (hb hby d2_22) ?_
          show Steps p.tables e below (s₁.setTop (mkF m 23 #[.val (.long a), .second, .val (.long b), .second, .val (.int k)] [(.long (1 : Int64)), (.long a)])) _
          refine XS.lsub X0.here hx rfl (hb hby d2_23) rfl ?_
          show Steps p.tables e below (s₁.setTop (mkF m 24 #[.val (.long a), .second, .val (.long b), .second, .val (.int k)] [(.long (a - (1 : Int64)))])) _
          exact X0.lreturnOut hx Bd.returns (hb hby d2_24) hr
        · show Q_rm2 Z a b k h0 n0 _ s₁.heap _
          rw [e0]
          exact ⟨_, rfl, N0, rfl⟩
      · -- not c18
        obtain ⟨fs, hr, hrun, hended, hW, hsame⟩ := X0.leave (v := some (.long (a + (1 : Int64)))) (fun h => by rw [Bd.returns] at h; cases h)
        subst hG
        refine ⟨_, _, pre3 _ ?_, hrun, hended, _, _, rfl, ?_, ⟨_, rfl⟩, hW, hsame.mono (by decide) (by decide)⟩
        · skip
          show Steps p.tables e below (s₁.setTop (mkF m 18 #[.val (.long a), .second, .val (.long b), .second, .val (.int k)] [(.int (2 : Int32)), (.int k)])) _
          refine XS.icmpYes X0.here hx rfl (pc0 := 18) (pc' := 25) rfl (hb hby d2_18) rfl (feq c18).2 (by decide) (by decide) ?_
          show Steps p.tables e below (s₁.setTop (mkF m 25 #[.val (.long a), .second, .val (.long b), .second, .val (.int k)] [])) _
          refine XS.lloadN X0.here hx rfl (hb hby d2_25) rfl ?_
          show Steps p.tables e below (s₁.setTop (mkF m 26 #[.val (.long a), .second, .val (.long b), .second, .val (.int k)] [(.long a)])) _
          refine XS.lconst X0.here hx rfl (hb hby d2_26) ?_
          show Steps p.tables e below (s₁.setTop (mkF m 27 #[.val (.long a), .second, .val (.long b), .second, .val (.int k)] [(.long (1 : Int64)), (.long a)])) _
          refine XS.ladd X0.here hx rfl (hb hby d2_27) rfl ?_
          show Steps p.tables e below (s₁.setTop (mkF m 28 #[.val (.long a), .second, .val (.long b), .second, .val (.int k)] [(.long (a + (1 : Int64)))])) _
          exact X0.lreturnOut hx Bd.returns (hb hby d2_28) hr
        · show Q_rm2 Z a b k h0 n0 _ s₁.heap _
          rw [e0]
          exact ⟨_, rfl, N0, rfl⟩
theorem pn_3 : plainName "com/example/floodgate/floodgate/store/QueueTail" = true := by first | (simp [plainName, overriddenIn]; done) | decide +kernel
theorem ef_3_R_J_J_J_J_J (m : MethodId) (x0 : Addr) (x1 : Int64) (x2 : Int64) (x3 : Int64) (x4 : Int64) (x5 : Int64) : entryFrame m #[(.ref x0), (.long x1), (.long x2), (.long x3), (.long x4), (.long x5)] 11 = mkF m 0 #[.val (.ref x0), .val (.long x1), .second, .val (.long x2), .second, .val (.long x3), .second, .val (.long x4), .second, .val (.long x5), .second] [] := by first | (simp [entryFrame, mkF, argsToLocals, Value.category]; done) | rfl
theorem d3_0 : decode prog_47_method_1_code 0 = .ok (.aload_n 0, 1) := by decide +kernel
theorem d3_1 : decode prog_47_method_1_code 1 = .ok (.invokespecial 1, 3) := by decide +kernel
theorem d3_4 : decode prog_47_method_1_code 4 = .ok (.aload_n 0, 1) := by decide +kernel
theorem d3_5 : decode prog_47_method_1_code 5 = .ok (.lload_n 1, 1) := by decide +kernel
theorem d3_6 : decode prog_47_method_1_code 6 = .ok (.putfield 7, 3) := by decide +kernel
theorem d3_9 : decode prog_47_method_1_code 9 = .ok (.aload_n 0, 1) := by decide +kernel
theorem d3_10 : decode prog_47_method_1_code 10 = .ok (.lload_n 3, 1) := by decide +kernel
theorem d3_11 : decode prog_47_method_1_code 11 = .ok (.putfield 13, 3) := by decide +kernel
theorem d3_14 : decode prog_47_method_1_code 14 = .ok (.aload_n 0, 1) := by decide +kernel
theorem d3_15 : decode prog_47_method_1_code 15 = .ok (.lload 5, 2) := by decide +kernel
theorem d3_17 : decode prog_47_method_1_code 17 = .ok (.putfield 16, 3) := by decide +kernel
theorem d3_20 : decode prog_47_method_1_code 20 = .ok (.aload_n 0, 1) := by decide +kernel
theorem d3_21 : decode prog_47_method_1_code 21 = .ok (.lload 7, 2) := by decide +kernel
theorem d3_23 : decode prog_47_method_1_code 23 = .ok (.putfield 19, 3) := by decide +kernel
theorem d3_26 : decode prog_47_method_1_code 26 = .ok (.aload_n 0, 1) := by decide +kernel
theorem d3_27 : decode prog_47_method_1_code 27 = .ok (.lload 9, 2) := by decide +kernel
theorem d3_29 : decode prog_47_method_1_code 29 = .ok (.putfield 22, 3) := by decide +kernel
theorem d3_32 : decode prog_47_method_1_code 32 = .ok (.return_, 1) := by decide +kernel
def Q_rm3 (Z : State) (a : Addr) (q1 q2 q3 q4 q5 : Int64) (h0 : Heap) (n0 : Nat) (v : Option Value) (h : Heap) (L : List Loc) : Prop := v = none ∧ Fr n0 L ∧ Keep h0 h [a] ∧ Fld Z h a "com/example/floodgate/floodgate/store/QueueTail" "lastMillis" "J" (.long q2) ∧ Fld Z h a "com/example/floodgate/floodgate/store/QueueTail" "lastRemainder" "J" (.long q3)
set_option maxRecDepth 65536 in
set_option maxHeartbeats 40000000 in
theorem rm3 (l : Launch) (Z : State) (a0 : Array Value) (hw : ∀ d ∈ tables_1, d.before a0 Z = true) (ws : List Jvm.Cond) (a : Addr) (q1 q2 q3 q4 q5 : Int64) (h0 : Heap) (n0 : Nat) (Z0 : n0 ≤ h0.size) (F_queuedAfter : Fld Z h0 a "com/example/floodgate/floodgate/store/QueueTail" "queuedAfter" "J" (.long (0 : Int64))) (F_lastMillis : Fld Z h0 a "com/example/floodgate/floodgate/store/QueueTail" "lastMillis" "J" (.long (0 : Int64))) (F_lastRemainder : Fld Z h0 a "com/example/floodgate/floodgate/store/QueueTail" "lastRemainder" "J" (.long (0 : Int64))) (F_rate : Fld Z h0 a "com/example/floodgate/floodgate/store/QueueTail" "rate" "J" (.long (0 : Int64))) (F_periodMillis : Fld Z h0 a "com/example/floodgate/floodgate/store/QueueTail" "periodMillis" "J" (.long (0 : Int64))) (E_a : Exa Z h0 a "com/example/floodgate/floodgate/store/QueueTail") (O_a : n0 ≤ a) :
    MetFree l (⟨"com/example/floodgate/floodgate/store/QueueTail", "<init>", "(JJJJJ)V"⟩ : MethodName) (head1 (Jvm.Cond.code (⟨"com/example/floodgate/floodgate/store/QueueTail", "<init>", "(JJJJJ)V"⟩ : MethodName) prog_47_method_1_code 11 none :: ws) ({ frames := 1, cells := 0, slots := 0, locals := 12 } : Room)) (fun argv U => argv = #[(.ref a), (.long q1), (.long q2), (.long q3), (.long q4), (.long q5)] ∧ Z.Warmed39 U.vm ∧ U.heap = h0) (fun _ _ _ _ _ => True) (fun _ U o U' => ∃ v L, o = .returned v ∧ Q_rm3 Z a q1 q2 q3 q4 q5 h0 n0 v U'.heap L ∧ FrameEnd U o U' L ({ frames := 1, cells := 0, slots := 0, locals := 12 } : Room).cells ({ frames := 1, cells := 0, slots := 0, locals := 12 } : Room).slots) := by
  refine MetFree.of_bodySF (plainFor_of_name pn_3) hisR ?_
  intro p e s m args below meth c s₁ Bd hml0 hP hK
  obtain ⟨rfl, hZ, hh⟩ := hP
  have hx := Bd.exec
  have hby := Bd.bytes
  have hml : c.maxLocals = 11 := hml0
  have hown : s.vm.findClass "com/example/floodgate/floodgate/store/QueueTail" = some m.cls := findClass_of_methodNamed Bd.named
  have hnm := (name_of_methodNamed Bd.named Bd.method).1
  have X0 : Stand p l e ({ frames := 1, cells := 0, slots := 0, locals := 12 } : Room) s m #[(.ref a), (.long q1), (.long q2), (.long q3), (.long q4), (.long q5)] below meth c s₁ [] 0 0 := Stand.of_body Bd
  have e0 : s₁.heap = h0 := by rw [← hh, Bd.state]; rfl
  have N0 := Fr.nil n0
  obtain ⟨G, hG⟩ : ∃ G : State → Prop, G = fun tg => Steps p.tables e below (s₁.setTop (entryFrame m #[(.ref a), (.long q1), (.long q2), (.long q3), (.long q4), (.long q5)] 11)) tg := ⟨_, rfl⟩
  have pre0 : ∀ tg, Steps p.tables e below (s₁.setTop (mkF m 0 #[.val (.ref a), .val (.long q1), .second, .val (.long q2), .second, .val (.long q3), .second, .val (.long q4), .second, .val (.long q5), .second] [])) tg → G tg := fun tg kt => by rw [hG]; exact castTop (ef_3_R_J_J_J_J_J m a q1 q2 q3 q4 q5) kt
  have pre1 : ∀ tg, Steps p.tables e below (s₁.setTop (mkF m 1 #[.val (.ref a), .val (.long q1), .second, .val (.long q2), .second, .val (.long q3), .second, .val (.long q4), .second, .val (.long q5), .second] [(.ref a)])) tg → G tg := fun tg kt => pre0 tg (by
    show Steps p.tables e below (s₁.setTop (mkF m 0 #[.val (.ref a), .val (.long q1), .second, .val (.long q2), .second, .val (.long q3), .second, .val (.long q4), .second, .val (.long q5), .second] [])) _
    refine XS.aloadN X0.here hx rfl (hb hby d3_0) rfl rfl ?_
    exact kt)
  obtain ⟨T2, X2, e2, st2⟩ := initO X0 hx hZ hown (hw _ (List.mem_of_getElem? (i := 15) rfl)) (hw _ (List.mem_of_getElem? (i := 16) rfl)) (hw _ (List.mem_of_getElem? (i := 17) rfl)) e0 (g := (mkF m 1 #[.val (.ref a), .val (.long q1), .second, .val (.long q2), .second, .val (.long q3), .second, .val (.long q4), .second, .val (.long q5), .second] [(.ref a)])) rfl (by rw [hml]; rfl) rfl (hb hby d3_1) (by decide) (W := 0) (by show 2 * 0 + _ ≤ _; exact Nat.le_of_eq rfl) (by decide)
  have pre2s : ∀ tg, Steps p.tables e below (T2.setTop (mkF m 4 #[.val (.ref a), .val (.long q1), .second, .val (.long q2), .second, .val (.long q3), .second, .val (.long q4), .second, .val (.long q5), .second] [])) tg → G tg := fun tg kt => pre1 tg (st2 tg kt)
  have pre3 : ∀ tg, Steps p.tables e below (T2.setTop (mkF m 6 #[.val (.ref a), .val (.long q1), .second, .val (.long q2), .second, .val (.long q3), .second, .val (.long q4), .second, .val (.long q5), .second] [(.long q1), (.ref a)])) tg → G tg := fun tg kt => pre2s tg (by
    show Steps p.tables e below (T2.setTop (mkF m 4 #[.val (.ref a), .val (.long q1), .second, .val (.long q2), .second, .val (.long q3), .second, .val (.long q4), .second, .val (.long q5), .second] [])) _
    refine XS.aloadN X2.here hx rfl (hb hby d3_4) rfl rfl ?_
    show Steps p.tables e below (T2.setTop (mkF m 5 #[.val (.ref a), .val (.long q1), .second, .val (.long q2), .second, .val (.long q3), .second, .val (.long q4), .second, .val (.long q5), .second] [(.ref a)])) _
    refine XS.lloadN X2.here hx rfl (hb hby d3_5) rfl ?_
    exact kt)
  obtain ⟨T4, h4, X4, e4, W4, st4⟩ := putF X2 hx hZ hown (host := "") (Or.inl (hw _ (List.mem_of_getElem? (i := 18) rfl))) Via.refl e2 F_queuedAfter E_a (Or.inr ⟨(hw _ (List.mem_of_getElem? (i := 19) rfl)), rfl, hnm⟩) (hw _ (List.mem_of_getElem? (i := 10) rfl)) (ty := .long) (by decide) rfl rfl (g := (mkF m 6 #[.val (.ref a), .val (.long q1), .second, .val (.long q2), .second, .val (.long q3), .second, .val (.long q4), .second, .val (.long q5), .second] [(.long q1), (.ref a)])) rfl rfl (hb hby d3_6)
  have pre4s : ∀ tg, Steps p.tables e below (T4.setTop (mkF m 9 #[.val (.ref a), .val (.long q1), .second, .val (.long q2), .second, .val (.long q3), .second, .val (.long q4), .second, .val (.long q5), .second] [])) tg → G tg := fun tg kt => pre3 tg (st4 tg kt)
  have F_queuedAfter_5 := F_queuedAfter.same W4
  have F_lastMillis_6 := F_lastMillis.other W4 (Or.inr (slot_ne (Or.inr (hw _ (List.mem_of_getElem? (i := 21) rfl))) (Or.inr (hw _ (List.mem_of_getElem? (i := 19) rfl))) (by decide) (t := .long) (t' := .long) (by decide) (by decide)))
  have F_lastRemainder_7 := F_lastRemainder.other W4 (Or.inr (slot_ne (Or.inr (hw _ (List.mem_of_getElem? (i := 23) rfl))) (Or.inr (hw _ (List.mem_of_getElem? (i := 19) rfl))) (by decide) (t := .long) (t' := .long) (by decide) (by decide)))
  have F_rate_8 := F_rate.other W4 (Or.inr (slot_ne (Or.inr (hw _ (List.mem_of_getElem? (i := 25) rfl))) (Or.inr (hw _ (List.mem_of_getElem? (i := 19) rfl))) (by decide) (t := .long) (t' := .long) (by decide) (by decide)))
  have F_periodMillis_9 := F_periodMillis.other W4 (Or.inr (slot_ne (Or.inr (hw _ (List.mem_of_getElem? (i := 27) rfl))) (Or.inr (hw _ (List.mem_of_getElem? (i := 19) rfl))) (by decide) (t := .long) (t' := .long) (by decide) (by decide)))
  have E_a_10 := E_a.wr W4
  have N4 := Fr.snoc X4 N0 O_a
  have Z4 : n0 ≤ h4.size := Nat.le_trans Z0 (Keep.of_wr W4).1
  have K4 : Keep h0 h4 [a] := (Keep.refl h0 [a]).wr W4 (Or.inl (List.mem_of_getElem? (i := 0) rfl))
  have pre11 : ∀ tg, Steps p.tables e below (T4.setTop (mkF m 11 #[.val (.ref a), .val (.long q1), .second, .val (.long q2), .second, .val (.long q3), .second, .val (.long q4), .second, .val (.long q5), .second] [(.long q2), (.ref a)])) tg → G tg := fun tg kt => pre4s tg (by
    show Steps p.tables e below (T4.setTop (mkF m 9 #[.val (.ref a), .val (.long q1), .second, .val (.long q2), .second, .val (.long q3), .second, .val (.long q4), .second, .val (.long q5), .second] [])) _
    refine XS.aloadN X4.here hx rfl (hb hby d3_9) rfl rfl ?_
    show Steps p.tables e below (T4.setTop (mkF m 10 #[.val (.ref a), .val (.long q1), .second, .val (.long q2), .second, .val (.long q3), .second, .val (.long q4), .second, .val (.long q5), .second] [(.ref a)])) _
    refine XS.lloadN X4.here hx rfl (hb hby d3_10) rfl ?_
    exact kt)
  obtain ⟨T12, h12, X12, e12, W12, st12⟩ := putF X4 hx hZ hown (host := "") (Or.inl (hw _ (List.mem_of_getElem? (i := 20) rfl))) Via.refl e4 F_lastMillis_6 E_a_10 (Or.inr ⟨(hw _ (List.mem_of_getElem? (i := 21) rfl)), rfl, hnm⟩) (hw _ (List.mem_of_getElem? (i := 10) rfl)) (ty := .long) (by decide) rfl rfl (g := (mkF m 11 #[.val (.ref a), .val (.long q1), .second, .val (.long q2), .second, .val (.long q3), .second, .val (.long q4), .second, .val (.long q5), .second] [(.long q2), (.ref a)])) rfl rfl (hb hby d3_11)
  have pre12s : ∀ tg, Steps p.tables e below (T12.setTop (mkF m 14 #[.val (.ref a), .val (.long q1), .second, .val (.long q2), .second, .val (.long q3), .second, .val (.long q4), .second, .val (.long q5), .second] [])) tg → G tg := fun tg kt => pre11 tg (st12 tg kt)
  have F_queuedAfter_13 := F_queuedAfter_5.other W12 (Or.inr (slot_ne (Or.inr (hw _ (List.mem_of_getElem? (i := 19) rfl))) (Or.inr (hw _ (List.mem_of_getElem? (i := 21) rfl))) (by decide) (t := .long) (t' := .long) (by decide) (by decide)))
  have F_lastMillis_14 := F_lastMillis_6.same W12
  have F_lastRemainder_15 := F_lastRemainder_7.other W12 (Or.inr (slot_ne (Or.inr (hw _ (List.mem_of_getElem? (i := 23) rfl))) (Or.inr (hw _ (List.mem_of_getElem? (i := 21) rfl))) (by decide) (t := .long) (t' := .long) (by decide) (by decide)))
  have F_rate_16 := F_rate_8.other W12 (Or.inr (slot_ne (Or.inr (hw _ (List.mem_of_getElem? (i := 25) rfl))) (Or.inr (hw _ (List.mem_of_getElem? (i := 21) rfl))) (by decide) (t := .long) (t' := .long) (by decide) (by decide)))
  have F_periodMillis_17 := F_periodMillis_9.other W12 (Or.inr (slot_ne (Or.inr (hw _ (List.mem_of_getElem? (i := 27) rfl))) (Or.inr (hw _ (List.mem_of_getElem? (i := 21) rfl))) (by decide) (t := .long) (t' := .long) (by decide) (by decide)))
  have E_a_18 := E_a_10.wr W12
  have N12 := Fr.snoc X12 N4 O_a
  have Z12 : n0 ≤ h12.size := Nat.le_trans Z4 (Keep.of_wr W12).1
  have K12 : Keep h0 h12 [a] := K4.wr W12 (Or.inl (List.mem_of_getElem? (i := 0) rfl))
  have pre19 : ∀ tg, Steps p.tables e below (T12.setTop (mkF m 17 #[.val (.ref a), .val (.long q1), .second, .val (.long q2), .second, .val (.long q3), .second, .val (.long q4), .second, .val (.long q5), .second] [(.long q3), (.ref a)])) tg → G tg := fun tg kt => pre12s tg (by
    show Steps p.tables e below (T12.setTop (mkF m 14 #[.val (.ref a), .val (.long q1), .second, .val (.long q2), .second, .val (.long q3), .second, .val (.long q4), .second, .val (.long q5), .second] [])) _
    refine XS.aloadN X12.here hx rfl (hb hby d3_14) rfl rfl ?_
    show Steps p.tables e below (T12.setTop (mkF m 15 #[.val (.ref a), .val (.long q1), .second, .val (.long q2), .second, .val (.long q3), .second, .val (.long q4), .second, .val (.long q5), .second] [(.ref a)])) _
    refine XS.lload X12.here hx rfl (hb hby d3_15) rfl ?_
    exact kt)
  obtain ⟨T20, h20, X20, e20, W20, st20⟩ := putF X12 hx hZ hown (host := "") (Or.inl (hw _ (List.mem_of_getElem? (i := 22) rfl))) Via.refl e12 F_lastRemainder_15 E_a_18 (Or.inr ⟨(hw _ (List.mem_of_getElem? (i := 23) rfl)), rfl, hnm⟩) (hw _ (List.mem_of_getElem? (i := 10) rfl)) (ty := .long) (by decide) rfl rfl (g := (mkF m 17 #[.val (.ref a), .val (.long q1), .second, .val (.long q2), .second, .val (.long q3), .second, .val (.long q4), .second, .val (.long q5), .second] [(.long q3), (.ref a)])) rfl rfl (hb hby d3_17)
  have pre20s : ∀ tg, Steps p.tables e below (T20.setTop (mkF m 20 #[.val (.ref a), .val (.long q1), .second, .val (.long q2), .second, .val (.long q3), .second, .val (.long q4), .second, .val (.long q5), .second] [])) tg → G tg := fun tg kt => pre19 tg (st20 tg kt)
  have F_queuedAfter_21 := F_queuedAfter_13.other W20 (Or.inr (slot_ne (Or.inr (hw _ (List.mem_of_getElem? (i := 19) rfl))) (Or.inr (hw _ (List.mem_of_getElem? (i := 23) rfl))) (by decide) (t := .long) (t' := .long) (by decide) (by decide)))
  have F_lastMillis_22 := F_lastMillis_14.other W20 (Or.inr (slot_ne (Or.inr (hw _ (List.mem_of_getElem? (i := 21) rfl))) (Or.inr (hw _ (List.mem_of_getElem? (i := 23) rfl))) (by decide) (t := .long) (t' := .long) (by decide) (by decide)))
  have F_lastRemainder_23 := F_lastRemainder_15.same W20
  have F_rate_24 := F_rate_16.other W20 (Or.inr (slot_ne (Or.inr (hw _ (List.mem_of_getElem? (i := 25) rfl))) (Or.inr (hw _ (List.mem_of_getElem? (i := 23) rfl))) (by decide) (t := .long) (t' := .long) (by decide) (by decide)))
  have F_periodMillis_25 := F_periodMillis_17.other W20 (Or.inr (slot_ne (Or.inr (hw _ (List.mem_of_getElem? (i := 27) rfl))) (Or.inr (hw _ (List.mem_of_getElem? (i := 23) rfl))) (by decide) (t := .long) (t' := .long) (by decide) (by decide)))
  have E_a_26 := E_a_18.wr W20
  have N20 := Fr.snoc X20 N12 O_a
  have Z20 : n0 ≤ h20.size := Nat.le_trans Z12 (Keep.of_wr W20).1
  have K20 : Keep h0 h20 [a] := K12.wr W20 (Or.inl (List.mem_of_getElem? (i := 0) rfl))
  have pre27 : ∀ tg, Steps p.tables e below (T20.setTop (mkF m 23 #[.val (.ref a), .val (.long q1), .second, .val (.long q2), .second, .val (.long q3), .second, .val (.long q4), .second, .val (.long q5), .second] [(.long q4), (.ref a)])) tg → G tg := fun tg kt => pre20s tg (by
    show Steps p.tables e below (T20.setTop (mkF m 20 #[.val (.ref a), .val (.long q1), .second, .val (.long q2), .second, .val (.long q3), .second, .val (.long q4), .second, .val (.long q5), .second] [])) _
    refine XS.aloadN X20.here hx rfl (hb hby d3_20) rfl rfl ?_
    show Steps p.tables e below (T20.setTop (mkF m 21 #[.val (.ref a), .val (.long q1), .second, .val (.long q2), .second, .val (.long q3), .second, .val (.long q4), .second, .val (.long q5), .second] [(.ref a)])) _
    refine XS.lload X20.here hx rfl (hb hby d3_21) rfl ?_
    exact kt)
  obtain ⟨T28, h28, X28, e28, W28, st28⟩ := putF X20 hx hZ hown (host := "") (Or.inl (hw _ (List.mem_of_getElem? (i := 24) rfl))) Via.refl e20 F_rate_24 E_a_26 (Or.inr ⟨(hw _ (List.mem_of_getElem? (i := 25) rfl)), rfl, hnm⟩) (hw _ (List.mem_of_getElem? (i := 10) rfl)) (ty := .long) (by decide) rfl rfl (g := (mkF m 23 #[.val (.ref a), .val (.long q1), .second, .val (.long q2), .second, .val (.long q3), .second, .val (.long q4), .second, .val (.long q5), .second] [(.long q4), (.ref a)])) rfl rfl (hb hby d3_23)
  have pre28s : ∀ tg, Steps p.tables e below (T28.setTop (mkF m 26 #[.val (.ref a), .val (.long q1), .second, .val (.long q2), .second, .val (.long q3), .second, .val (.long q4), .second, .val (.long q5), .second] [])) tg → G tg := fun tg kt => pre27 tg (st28 tg kt)
  have F_queuedAfter_29 := F_queuedAfter_21.other W28 (Or.inr (slot_ne (Or.inr (hw _ (List.mem_of_getElem? (i := 19) rfl))) (Or.inr (hw _ (List.mem_of_getElem? (i := 25) rfl))) (by decide) (t := .long) (t' := .long) (by decide) (by decide)))
  have F_lastMillis_30 := F_lastMillis_22.other W28 (Or.inr (slot_ne (Or.inr (hw _ (List.mem_of_getElem? (i := 21) rfl))) (Or.inr (hw _ (List.mem_of_getElem? (i := 25) rfl))) (by decide) (t := .long) (t' := .long) (by decide) (by decide)))
  have F_lastRemainder_31 := F_lastRemainder_23.other W28 (Or.inr (slot_ne (Or.inr (hw _ (List.mem_of_getElem? (i := 23) rfl))) (Or.inr (hw _ (List.mem_of_getElem? (i := 25) rfl))) (by decide) (t := .long) (t' := .long) (by decide) (by decide)))
  have F_rate_32 := F_rate_24.same W28
  have F_periodMillis_33 := F_periodMillis_25.other W28 (Or.inr (slot_ne (Or.inr (hw _ (List.mem_of_getElem? (i := 27) rfl))) (Or.inr (hw _ (List.mem_of_getElem? (i := 25) rfl))) (by decide) (t := .long) (t' := .long) (by decide) (by decide)))
  have E_a_34 := E_a_26.wr W28
  have N28 := Fr.snoc X28 N20 O_a
  have Z28 : n0 ≤ h28.size := Nat.le_trans Z20 (Keep.of_wr W28).1
  have K28 : Keep h0 h28 [a] := K20.wr W28 (Or.inl (List.mem_of_getElem? (i := 0) rfl))
  have pre35 : ∀ tg, Steps p.tables e below (T28.setTop (mkF m 29 #[.val (.ref a), .val (.long q1), .second, .val (.long q2), .second, .val (.long q3), .second, .val (.long q4), .second, .val (.long q5), .second] [(.long q5), (.ref a)])) tg → G tg := fun tg kt => pre28s tg (by
    show Steps p.tables e below (T28.setTop (mkF m 26 #[.val (.ref a), .val (.long q1), .second, .val (.long q2), .second, .val (.long q3), .second, .val (.long q4), .second, .val (.long q5), .second] [])) _
    refine XS.aloadN X28.here hx rfl (hb hby d3_26) rfl rfl ?_
    show Steps p.tables e below (T28.setTop (mkF m 27 #[.val (.ref a), .val (.long q1), .second, .val (.long q2), .second, .val (.long q3), .second, .val (.long q4), .second, .val (.long q5), .second] [(.ref a)])) _
    refine XS.lload X28.here hx rfl (hb hby d3_27) rfl ?_
    exact kt)
  obtain ⟨T36, h36, X36, e36, W36, st36⟩ := putF X28 hx hZ hown (host := "") (Or.inl (hw _ (List.mem_of_getElem? (i := 26) rfl))) Via.refl e28 F_periodMillis_33 E_a_34 (Or.inr ⟨(hw _ (List.mem_of_getElem? (i := 27) rfl)), rfl, hnm⟩) (hw _ (List.mem_of_getElem? (i := 10) rfl)) (ty := .long) (by decide) rfl rfl (g := (mkF m 29 #[.val (.ref a), .val (.long q1), .second, .val (.long q2), .second, .val (.long q3), .second, .val (.long q4), .second, .val (.long q5), .second] [(.long q5), (.ref a)])) rfl rfl (hb hby d3_29)
  have pre36s : ∀ tg, Steps p.tables e below (T36.setTop (mkF m 32 #[.val (.ref a), .val (.long q1), .second, .val (.long q2), .second, .val (.long q3), .second, .val (.long q4), .second, .val (.long q5), .second] [])) tg → G tg := fun tg kt => pre35 tg (st36 tg kt)
  have F_queuedAfter_37 := F_queuedAfter_29.other W36 (Or.inr (slot_ne (Or.inr (hw _ (List.mem_of_getElem? (i := 19) rfl))) (Or.inr (hw _ (List.mem_of_getElem? (i := 27) rfl))) (by decide) (t := .long) (t' := .long) (by decide) (by decide)))
  have F_lastMillis_38 := F_lastMillis_30.other W36 (Or.inr (slot_ne (Or.inr (hw _ (List.mem_of_getElem? (i := 21) rfl))) (Or.inr (hw _ (List.mem_of_getElem? (i := 27) rfl))) (by decide) (t := .long) (t' := .long) (by decide) (by decide)))
  have F_lastRemainder_39 := F_lastRemainder_31.other W36 (Or.inr (slot_ne (Or.inr (hw _ (List.mem_of_getElem? (i := 23) rfl))) (Or.inr (hw _ (List.mem_of_getElem? (i := 27) rfl))) (by decide) (t := .long) (t' := .long) (by decide) (by decide)))
  have F_rate_40 := F_rate_32.other W36 (Or.inr (slot_ne (Or.inr (hw _ (List.mem_of_getElem? (i := 25) rfl))) (Or.inr (hw _ (List.mem_of_getElem? (i := 27) rfl))) (by decide) (t := .long) (t' := .long) (by decide) (by decide)))
  have F_periodMillis_41 := F_periodMillis_33.same W36
  have E_a_42 := E_a_34.wr W36
  have N36 := Fr.snoc X36 N28 O_a
  have Z36 : n0 ≤ h36.size := Nat.le_trans Z28 (Keep.of_wr W36).1
  have K36 : Keep h0 h36 [a] := K28.wr W36 (Or.inl (List.mem_of_getElem? (i := 0) rfl))
  obtain ⟨fs, hr, hrun, hended, hW, hsame⟩ := X36.leave (v := none) (fun _ => rfl)
  subst hG
  refine ⟨_, _, pre36s _ ?_, hrun, hended, _, _, rfl, ?_, ⟨_, rfl⟩, hW, hsame.mono (by decide) (by decide)⟩
  · skip
    show Steps p.tables e below (T36.setTop (mkF m 32 #[.val (.ref a), .val (.long q1), .second, .val (.long q2), .second, .val (.long q3), .second, .val (.long q4), .second, .val (.long q5), .second] [])) _
    exact X36.returnOut hx Bd.returns (hb hby d3_32) hr
  · show Q_rm3 Z a q1 q2 q3 q4 q5 h0 n0 _ T36.heap _
    rw [e36]
    exact ⟨rfl, N36, K36, F_lastMillis_38, F_lastRemainder_39⟩
theorem pn_5 : plainName "com/example/floodgate/floodgate/store/QueueTail" = true := by first | (simp [plainName, overriddenIn]; done) | decide +kernel
theorem ef_5_n_J (m : MethodId) (x1 : Int64) : entryFrame m #[.null, (.long x1)] 4 = mkF m 0 #[.val .null, .val (.long x1), .second, .unset] [] := by first | (simp [entryFrame, mkF, argsToLocals, Value.category]; done) | rfl
theorem d5_0 : decode prog_47_method_3_code 0 = .ok (.aload_n 0, 1) := by decide +kernel
theorem d5_1 : decode prog_47_method_3_code 1 = .ok (.ifnull 34, 3) := by decide +kernel
theorem d5_35 : decode prog_47_method_3_code 35 = .ok (.iconst 0, 1) := by decide +kernel
theorem d5_36 : decode prog_47_method_3_code 36 = .ok (.istore_n 3, 1) := by decide +kernel
theorem d5_37 : decode prog_47_method_3_code 37 = .ok (.iload_n 3, 1) := by decide +kernel
theorem d5_38 : decode prog_47_method_3_code 38 = .ok (.ifCond .eq 7, 3) := by decide +kernel
theorem d5_45 : decode prog_47_method_3_code 45 = .ok (.aconst_null, 1) := by decide +kernel
theorem d5_46 : decode prog_47_method_3_code 46 = .ok (.areturn, 1) := by decide +kernel
def Q_rm5n (Z : State) (now : Int64) (h0 : Heap) (n0 : Nat) (v : Option Value) (h : Heap) (L : List Loc) : Prop := v = some .null ∧ Fr n0 L ∧ h = h0
set_option maxRecDepth 65536 in
set_option maxHeartbeats 40000000 in
theorem rm5n (l : Launch) (Z : State) (a0 : Array Value) (hw : ∀ d ∈ tables_1, d.before a0 Z = true) (ws : List Jvm.Cond) (now : Int64) (h0 : Heap) (n0 : Nat) (Z0 : n0 ≤ h0.size)  :
    MetFree l (⟨"com/example/floodgate/floodgate/store/QueueTail", "stillWaiting", "(Lcom/example/floodgate/floodgate/store/QueueTail;J)Lcom/example/floodgate/floodgate/store/QueueTail;"⟩ : MethodName) (head1 (Jvm.Cond.code (⟨"com/example/floodgate/floodgate/store/QueueTail", "stillWaiting", "(Lcom/example/floodgate/floodgate/store/QueueTail;J)Lcom/example/floodgate/floodgate/store/QueueTail;"⟩ : MethodName) prog_47_method_3_code 4 (some (.object "com/example/floodgate/floodgate/store/QueueTail")) :: ws) ({ frames := 0, cells := 0, slots := 0, locals := 0 } : Room)) (fun argv U => argv = #[.null, (.long now)] ∧ Z.Warmed39 U.vm ∧ U.heap = h0) (fun _ _ _ _ _ => True) (fun _ U o U' => ∃ v L, o = .returned v ∧ Q_rm5n Z now h0 n0 v U'.heap L ∧ FrameEnd U o U' L ({ frames := 0, cells := 0, slots := 0, locals := 0 } : Room).cells ({ frames := 0, cells := 0, slots := 0, locals := 0 } : Room).slots) := by
  refine MetFree.of_bodySF (plainFor_of_name pn_5) hisR ?_
  intro p e s m args below meth c s₁ Bd hml0 hP hK
  obtain ⟨rfl, hZ, hh⟩ := hP
  have hx := Bd.exec
  have hby := Bd.bytes
  have hml : c.maxLocals = 4 := hml0
  have hown : s.vm.findClass "com/example/floodgate/floodgate/store/QueueTail" = some m.cls := findClass_of_methodNamed Bd.named
  have hnm := (name_of_methodNamed Bd.named Bd.method).1
  have X0 : Stand p l e ({ frames := 0, cells := 0, slots := 0, locals := 0 } : Room) s m #[.null, (.long now)] below meth c s₁ [] 0 0 := Stand.of_body Bd
  have e0 : s₁.heap = h0 := by rw [← hh, Bd.state]; rfl
  have N0 := Fr.nil n0
  obtain ⟨G, hG⟩ : ∃ G : State → Prop, G = fun tg => Steps p.tables e below (s₁.setTop (entryFrame m #[.null, (.long now)] 4)) tg := ⟨_, rfl⟩
  have pre0 : ∀ tg, Steps p.tables e below (s₁.setTop (mkF m 0 #[.val .null, .val (.long now), .second, .unset] [])) tg → G tg := fun tg kt => by rw [hG]; exact castTop (ef_5_n_J m  now) kt
  obtain ⟨fs, hr, hrun, hended, hW, hsame⟩ := X0.leave (v := some .null) (fun h => by rw [Bd.returns] at h; cases h)
  subst hG
  refine ⟨_, _, pre0 _ ?_, hrun, hended, _, _, rfl, ?_, ⟨_, rfl⟩, hW, hsame.mono (by decide) (by decide)⟩
  · skip
    show Steps p.tables e below (s₁.setTop (mkF m 0 #[.val .null, .val (.long now), .second, .unset] [])) _
    refine XS.aloadN X0.here hx rfl (hb hby d5_0) rfl rfl ?_
    show Steps p.tables e below (s₁.setTop (mkF m 1 #[.val .null, .val (.long now), .second, .unset] [.null])) _
    refine XS.ifnullYes X0.here hx rfl (pc0 := 1) (pc' := 35) rfl (hb hby d5_1) rfl (by decide) (by decide) ?_
    show Steps p.tables e below (s₁.setTop (mkF m 35 #[.val .null, .val (.long now), .second, .unset] [])) _
    refine XS.iconst X0.here hx rfl (hb hby d5_35) ?_
    show Steps p.tables e below (s₁.setTop (mkF m 36 #[.val .null, .val (.long now), .second, .unset] [(.int (0 : Int32))])) _
    refine XS.istoreN X0.here hx rfl (hb hby d5_36) rfl (l' := #[.val .null, .val (.long now), .second, .val (.int (0 : Int32))]) rfl ?_
    show Steps p.tables e below (s₁.setTop (mkF m 37 #[.val .null, .val (.long now), .second, .val (.int (0 : Int32))] [])) _
    refine XS.iloadN X0.here hx rfl (hb hby d5_37) rfl ?_
    show Steps p.tables e below (s₁.setTop (mkF m 38 #[.val .null, .val (.long now), .second, .val (.int (0 : Int32))] [(.int (0 : Int32))])) _
    refine XS.ifYes X0.here hx rfl (pc0 := 38) (pc' := 45) rfl (hb hby d5_38) rfl ((if0 _ _).trans (teq (by decide : (0 : Int32) = (0 : Int32))).1) (by decide) (by decide) ?_
    show Steps p.tables e below (s₁.setTop (mkF m 45 #[.val .null, .val (.long now), .second, .val (.int (0 : Int32))] [])) _
    refine XS.aconstNull X0.here hx rfl (hb hby d5_45) ?_
    show Steps p.tables e below (s₁.setTop (mkF m 46 #[.val .null, .val (.long now), .second, .val (.int (0 : Int32))] [.null])) _
    jvm_step X0.here [X0.here.top, hx, (hb hby d5_46), X0.method', Bd.returns, Value.isRef, FieldType.isReference]
    first | (intro acts; rw [hr _ acts rfl rfl rfl]) | rw [hr _ _ rfl rfl rfl]
    exact Steps.refl _
  · show Q_rm5n Z now h0 n0 _ s₁.heap _
    rw [e0]
    exact ⟨rfl, N0, rfl⟩
theorem ef_5_R_J (m : MethodId) (x0 : Addr) (x1 : Int64) : entryFrame m #[(.ref x0), (.long x1)] 4 = mkF m 0 #[.val (.ref x0), .val (.long x1), .second, .unset] [] := by first | (simp [entryFrame, mkF, argsToLocals, Value.category]; done) | rfl
theorem d5_4 : decode prog_47_method_3_code 4 = .ok (.aload_n 0, 1) := by decide +kernel
theorem d5_5 : decode prog_47_method_3_code 5 = .ok (.getfield 13, 3) := by decide +kernel
theorem d5_8 : decode prog_47_method_3_code 8 = .ok (.lload_n 1, 1) := by decide +kernel
theorem d5_9 : decode prog_47_method_3_code 9 = .ok (.lcmp, 1) := by decide +kernel
theorem d5_10 : decode prog_47_method_3_code 10 = .ok (.ifCond .gt 21, 3) := by decide +kernel
theorem d5_13 : decode prog_47_method_3_code 13 = .ok (.aload_n 0, 1) := by decide +kernel
theorem d5_14 : decode prog_47_method_3_code 14 = .ok (.getfield 13, 3) := by decide +kernel
theorem d5_17 : decode prog_47_method_3_code 17 = .ok (.lload_n 1, 1) := by decide +kernel
theorem d5_18 : decode prog_47_method_3_code 18 = .ok (.lcmp, 1) := by decide +kernel
theorem d5_19 : decode prog_47_method_3_code 19 = .ok (.ifCond .ne 16, 3) := by decide +kernel
theorem d5_22 : decode prog_47_method_3_code 22 = .ok (.aload_n 0, 1) := by decide +kernel
theorem d5_23 : decode prog_47_method_3_code 23 = .ok (.getfield 16, 3) := by decide +kernel
theorem d5_26 : decode prog_47_method_3_code 26 = .ok (.lconst 0, 1) := by decide +kernel
theorem d5_27 : decode prog_47_method_3_code 27 = .ok (.lcmp, 1) := by decide +kernel
theorem d5_28 : decode prog_47_method_3_code 28 = .ok (.ifCond .le 7, 3) := by decide +kernel
theorem d5_31 : decode prog_47_method_3_code 31 = .ok (.iconst 1, 1) := by decide +kernel
theorem d5_32 : decode prog_47_method_3_code 32 = .ok (.goto 4, 3) := by decide +kernel
theorem d5_41 : decode prog_47_method_3_code 41 = .ok (.aload_n 0, 1) := by decide +kernel
theorem d5_42 : decode prog_47_method_3_code 42 = .ok (.goto 4, 3) := by decide +kernel
def Q_rm5 (Z : State) (a : Addr) (now lm rem : Int64) (h0 : Heap) (n0 : Nat) (v : Option Value) (h : Heap) (L : List Loc) : Prop := v = some (if own_wait lm rem now = true then .ref a else .null) ∧ Fr n0 L ∧ h = h0
set_option maxRecDepth 65536 in
set_option maxHeartbeats 40000000 in
theorem rm5 (l : Launch) (Z : State) (a0 : Array Value) (hw : ∀ d ∈ tables_1, d.before a0 Z = true) (ws : List Jvm.Cond) (a : Addr) (now lm rem : Int64) (h0 : Heap) (n0 : Nat) (Z0 : n0 ≤ h0.size) (F1 : Fld Z h0 a "com/example/floodgate/floodgate/store/QueueTail" "lastMillis" "J" (.long lm)) (F2 : Fld Z h0 a "com/example/floodgate/floodgate/store/QueueTail" "lastRemainder" "J" (.long rem)) :
    MetFree l (⟨"com/example/floodgate/floodgate/store/QueueTail", "stillWaiting", "(Lcom/example/floodgate/floodgate/store/QueueTail;J)Lcom/example/floodgate/floodgate/store/QueueTail;"⟩ : MethodName) (head1 (Jvm.Cond.code (⟨"com/example/floodgate/floodgate/store/QueueTail", "stillWaiting", "(Lcom/example/floodgate/floodgate/store/QueueTail;J)Lcom/example/floodgate/floodgate/store/QueueTail;"⟩ : MethodName) prog_47_method_3_code 4 (some (.object "com/example/floodgate/floodgate/store/QueueTail")) :: ws) ({ frames := 0, cells := 0, slots := 0, locals := 0 } : Room)) (fun argv U => argv = #[(.ref a), (.long now)] ∧ Z.Warmed39 U.vm ∧ U.heap = h0) (fun _ _ _ _ _ => True) (fun _ U o U' => ∃ v L, o = .returned v ∧ Q_rm5 Z a now lm rem h0 n0 v U'.heap L ∧ FrameEnd U o U' L ({ frames := 0, cells := 0, slots := 0, locals := 0 } : Room).cells ({ frames := 0, cells := 0, slots := 0, locals := 0 } : Room).slots) := by
  refine MetFree.of_bodySF (plainFor_of_name pn_5) hisR ?_
  intro p e s m args below meth c s₁ Bd hml0 hP hK
  obtain ⟨rfl, hZ, hh⟩ := hP
  have hx := Bd.exec
  have hby := Bd.bytes
  have hml : c.maxLocals = 4 := hml0
  have hown : s.vm.findClass "com/example/floodgate/floodgate/store/QueueTail" = some m.cls := findClass_of_methodNamed Bd.named
  have hnm := (name_of_methodNamed Bd.named Bd.method).1
  have X0 : Stand p l e ({ frames := 0, cells := 0, slots := 0, locals := 0 } : Room) s m #[(.ref a), (.long now)] below meth c s₁ [] 0 0 := Stand.of_body Bd
  have e0 : s₁.heap = h0 := by rw [← hh, Bd.state]; rfl
  have N0 := Fr.nil n0
  obtain ⟨G, hG⟩ : ∃ G : State → Prop, G = fun tg => Steps p.tables e below (s₁.setTop (entryFrame m #[(.ref a), (.long now)] 4)) tg := ⟨_, rfl⟩
  have pre0 : ∀ tg, Steps p.tables e below (s₁.setTop (mkF m 0 #[.val (.ref a), .val (.long now), .second, .unset] [])) tg → G tg := fun tg kt => by rw [hG]; exact castTop (ef_5_R_J m a now) kt
  have pre1 : ∀ tg, Steps p.tables e below (s₁.setTop (mkF m 5 #[.val (.ref a), .val (.long now), .second, .unset] [(.ref a)])) tg → G tg := fun tg kt => pre0 tg (by
    show Steps p.tables e below (s₁.setTop (mkF m 0 #[.val (.ref a), .val (.long now), .second, .unset] [])) _
    refine XS.aloadN X0.here hx rfl (hb hby d5_0) rfl rfl ?_
    show Steps p.tables e below (s₁.setTop (mkF m 1 #[.val (.ref a), .val (.long now), .second, .unset] [(.ref a)])) _
    refine XS.ifnullNo X0.here hx rfl (hb hby d5_1) rfl ?_
    show Steps p.tables e below (s₁.setTop (mkF m 4 #[.val (.ref a), .val (.long now), .second, .unset] [])) _
    refine XS.aloadN X0.here hx rfl (hb hby d5_4) rfl rfl ?_
    exact kt)
  obtain ⟨T2, X2, e2, st2⟩ := getF X0 hx hZ hown (host := "") (Or.inl (hw _ (List.mem_of_getElem? (i := 20) rfl))) Via.refl e0 F1 (g := (mkF m 5 #[.val (.ref a), .val (.long now), .second, .unset] [(.ref a)])) rfl rfl (hb hby d5_5)
  have pre2s : ∀ tg, Steps p.tables e below (T2.setTop (mkF m 8 #[.val (.ref a), .val (.long now), .second, .unset] [(.long lm)])) tg → G tg := fun tg kt => pre1 tg (st2 tg kt)
  have pre3 : ∀ tg, Steps p.tables e below (T2.setTop (mkF m 10 #[.val (.ref a), .val (.long now), .second, .unset] [(.int (lcmpW lm now))])) tg → G tg := fun tg kt => pre2s tg (by
    show Steps p.tables e below (T2.setTop (mkF m 8 #[.val (.ref a), .val (.long now), .second, .unset] [(.long lm)])) _
    refine XS.lloadN X2.here hx rfl (hb hby d5_8) rfl ?_
    show Steps p.tables e below (T2.setTop (mkF m 9 #[.val (.ref a), .val (.long now), .second, .unset] [(.long now), (.long lm)])) _
    refine XS.lcmp X2.here hx rfl (hb hby d5_9) rfl ?_
    exact kt)
  by_cases c10 : now < lm
  · -- c10
    obtain ⟨fs, hr, hrun, hended, hW, hsame⟩ := X2.leave (v := some (.ref a)) (fun h => by rw [Bd.returns] at h; cases h)
    subst hG
    refine ⟨_, _, pre3 _ ?_, hrun, hended, _, _, rfl, ?_, ⟨_, rfl⟩, hW, hsame.mono (by decide) (by decide)⟩
    · skip
      show Steps p.tables e below (T2.setTop (mkF m 10 #[.val (.ref a), .val (.long now), .second, .unset] [(.int (lcmpW lm now))])) _
      refine XS.ifYes X2.here hx rfl (pc0 := 10) (pc' := 31) rfl (hb hby d5_10) rfl ((if0 _ _).trans (tlt ((lw_gt lm now).mpr c10)).2.2.1) (by decide) (by decide) ?_
      show Steps p.tables e below (T2.setTop (mkF m 31 #[.val (.ref a), .val (.long now), .second, .unset] [])) _
      refine XS.iconst X2.here hx rfl (hb hby d5_31) ?_
      show Steps p.tables e below (T2.setTop (mkF m 32 #[.val (.ref a), .val (.long now), .second, .unset] [(.int (1 : Int32))])) _
      refine XS.goto X2.here hx rfl (pc0 := 32) (pc' := 36) rfl (hb hby d5_32) (by decide) (by decide) ?_
      show Steps p.tables e below (T2.setTop (mkF m 36 #[.val (.ref a), .val (.long now), .second, .unset] [(.int (1 : Int32))])) _
      refine XS.istoreN X2.here hx rfl (hb hby d5_36) rfl (l' := #[.val (.ref a), .val (.long now), .second, .val (.int (1 : Int32))]) rfl ?_
      show Steps p.tables e below (T2.setTop (mkF m 37 #[.val (.ref a), .val (.long now), .second, .val (.int (1 : Int32))] [])) _
      refine XS.iloadN X2.here hx rfl (hb hby d5_37) rfl ?_
      show Steps p.tables e below (T2.setTop (mkF m 38 #[.val (.ref a), .val (.long now), .second, .val (.int (1 : Int32))] [(.int (1 : Int32))])) _
      refine XS.ifNo X2.here hx rfl (hb hby d5_38) rfl ((if0 _ _).trans (feq (by decide : ¬ ((1 : Int32) = (0 : Int32)))).1) ?_
      show Steps p.tables e below (T2.setTop (mkF m 41 #[.val (.ref a), .val (.long now), .second, .val (.int (1 : Int32))] [])) _
      refine XS.aloadN X2.here hx rfl (hb hby d5_41) rfl rfl ?_
      show Steps p.tables e below (T2.setTop (mkF m 42 #[.val (.ref a), .val (.long now), .second, .val (.int (1 : Int32))] [(.ref a)])) _
      refine XS.goto X2.here hx rfl (pc0 := 42) (pc' := 46) rfl (hb hby d5_42) (by decide) (by decide) ?_
      show Steps p.tables e below (T2.setTop (mkF m 46 #[.val (.ref a), .val (.long now), .second, .val (.int (1 : Int32))] [(.ref a)])) _
      jvm_step X2.here [X2.here.top, hx, (hb hby d5_46), X2.method', Bd.returns, Value.isRef, FieldType.isReference]
      first | (intro acts; rw [hr _ acts rfl rfl rfl]) | rw [hr _ _ rfl rfl rfl]
      exact Steps.refl _
    · show Q_rm5 Z a now lm rem h0 n0 _ T2.heap _
      rw [e2]
      exact ⟨by rw [own_wait]; simp [c10], N0, rfl⟩
  · -- not c10
    have pre4 : ∀ tg, Steps p.tables e below (T2.setTop (mkF m 14 #[.val (.ref a), .val (.long now), .second, .unset] [(.ref a)])) tg → G tg := fun tg kt => pre3 tg (by
      show Steps p.tables e below (T2.setTop (mkF m 10 #[.val (.ref a), .val (.long now), .second, .unset] [(.int (lcmpW lm now))])) _
      refine XS.ifNo X2.here hx rfl (hb hby d5_10) rfl ((if0 _ _).trans (flt (mt (lw_gt lm now).mp c10)).2.2.1) ?_
      show Steps p.tables e below (T2.setTop (mkF m 13 #[.val (.ref a), .val (.long now), .second, .unset] [])) _
      refine XS.aloadN X2.here hx rfl (hb hby d5_13) rfl rfl ?_
      exact kt)
    obtain ⟨T5, X5, e5, st5⟩ := getF X2 hx hZ hown (host := "") (Or.inl (hw _ (List.mem_of_getElem? (i := 20) rfl))) Via.refl e2 F1 (g := (mkF m 14 #[.val (.ref a), .val (.long now), .second, .unset] [(.ref a)])) rfl rfl (hb hby d5_14)
    have pre5s : ∀ tg, Steps p.tables e below (T5.setTop (mkF m 17 #[.val (.ref a), .val (.long now), .second, .unset] [(.long lm)])) tg → G tg := fun tg kt => pre4 tg (st5 tg kt)
    have pre6 : ∀ tg, Steps p.tables e below (T5.setTop (mkF m 19 #[.val (.ref a), .val (.long now), .second, .unset] [(.int (lcmpW lm now))])) tg → G tg := fun tg kt => pre5s tg (by
      show Steps p.tables e below (T5.setTop (mkF m 17 #[.val (.ref a), .val (.long now), .second, .unset] [(.long lm)])) _
      refine XS.lloadN X5.here hx rfl (hb hby d5_17) rfl ?_
      show Steps p.tables e below (T5.setTop (mkF m 18 #[.val (.ref a), .val (.long now), .second, .unset] [(.long now), (.long lm)])) _
      refine XS.lcmp X5.here hx rfl (hb hby d5_18) rfl ?_
      exact kt)
    by_cases c19 : lm = now
    · -- c19
      have pre7 : ∀ tg, Steps p.tables e below (T5.setTop (mkF m 23 #[.val (.ref a), .val (.long now), .second, .unset] [(.ref a)])) tg → G tg := fun tg kt => pre6 tg (by
        show Steps p.tables e below (T5.setTop (mkF m 19 #[.val (.ref a), .val (.long now), .second, .unset] [(.int (lcmpW lm now))])) _
        refine XS.ifNo X5.here hx rfl (hb hby d5_19) rfl ((if0 _ _).trans (teq ((lw_eq lm now).mpr c19)).2) ?_
        show Steps p.tables e below (T5.setTop (mkF m 22 #[.val (.ref a), .val (.long now), .second, .unset] [])) _
        refine XS.aloadN X5.here hx rfl (hb hby d5_22) rfl rfl ?_
        exact kt)
      obtain ⟨T8, X8, e8, st8⟩ := getF X5 hx hZ hown (host := "") (Or.inl (hw _ (List.mem_of_getElem? (i := 22) rfl))) Via.refl e5 F2 (g := (mkF m 23 #[.val (.ref a), .val (.long now), .second, .unset] [(.ref a)])) rfl rfl (hb hby d5_23)
      have pre8s : ∀ tg, Steps p.tables e below (T8.setTop (mkF m 26 #[.val (.ref a), .val (.long now), .second, .unset] [(.long rem)])) tg → G tg := fun tg kt => pre7 tg (st8 tg kt)
      have pre9 : ∀ tg, Steps p.tables e below (T8.setTop (mkF m 28 #[.val (.ref a), .val (.long now), .second, .unset] [(.int (lcmpW rem (0 : Int64)))])) tg → G tg := fun tg kt => pre8s tg (by
        show Steps p.tables e below (T8.setTop (mkF m 26 #[.val (.ref a), .val (.long now), .second, .unset] [(.long rem)])) _
        refine XS.lconst X8.here hx rfl (hb hby d5_26) ?_
        show Steps p.tables e below (T8.setTop (mkF m 27 #[.val (.ref a), .val (.long now), .second, .unset] [(.long (0 : Int64)), (.long rem)])) _
        refine XS.lcmp X8.here hx rfl (hb hby d5_27) rfl ?_
        exact kt)
      by_cases c28 : (0 : Int64) < rem
      · -- c28
        obtain ⟨fs, hr, hrun, hended, hW, hsame⟩ := X8.leave (v := some (.ref a)) (fun h => by rw [Bd.returns] at h; cases h)
        subst hG
        refine ⟨_, _, pre9 _ ?_, hrun, hended, _, _, rfl, ?_, ⟨_, rfl⟩, hW, hsame.mono (by decide) (by decide)⟩
        · skip
          show Steps p.tables e below (T8.setTop (mkF m 28 #[.val (.ref a), .val (.long now), .second, .unset] [(.int (lcmpW rem (0 : Int64)))])) _
          refine XS.ifNo X8.here hx rfl (hb hby d5_28) rfl ((if0 _ _).trans (tlt ((lw_gt rem (0 : Int64)).mpr c28)).2.2.2) ?_
          show Steps p.tables e below (T8.setTop (mkF m 31 #[.val (.ref a), .val (.long now), .second, .unset] [])) _
          refine XS.iconst X8.here hx rfl (hb hby d5_31) ?_
          show Steps p.tables e below (T8.setTop (mkF m 32 #[.val (.ref a), .val (.long now), .second, .unset] [(.int (1 : Int32))])) _
          refine XS.goto X8.here hx rfl (pc0 := 32) (pc' := 36) rfl (hb hby d5_32) (by decide) (by decide) ?_
          show Steps p.tables e below (T8.setTop (mkF m 36 #[.val (.ref a), .val (.long now), .second, .unset] [(.int (1 : Int32))])) _
          refine XS.istoreN X8.here hx rfl (hb hby d5_36) rfl (l' := #[.val (.ref a), .val (.long now), .second, .val (.int (1 : Int32))]) rfl ?_
          show Steps p.tables e below (T8.setTop (mkF m 37 #[.val (.ref a), .val (.long now), .second, .val (.int (1 : Int32))] [])) _
          refine XS.iloadN X8.here hx rfl (hb hby d5_37) rfl ?_
          show Steps p.tables e below (T8.setTop (mkF m 38 #[.val (.ref a), .val (.long now), .second, .val (.int (1 : Int32))] [(.int (1 : Int32))])) _
          refine XS.ifNo X8.here hx rfl (hb hby d5_38) rfl ((if0 _ _).trans (feq (by decide : ¬ ((1 : Int32) = (0 : Int32)))).1) ?_
          show Steps p.tables e below (T8.setTop (mkF m 41 #[.val (.ref a), .val (.long now), .second, .val (.int (1 : Int32))] [])) _
          refine XS.aloadN X8.here hx rfl (hb hby d5_41) rfl rfl ?_
          show Steps p.tables e below (T8.setTop (mkF m 42 #[.val (.ref a), .val (.long now), .second, .val (.int (1 : Int32))] [(.ref a)])) _
          refine XS.goto X8.here hx rfl (pc0 := 42) (pc' := 46) rfl (hb hby d5_42) (by decide) (by decide) ?_
          show Steps p.tables e below (T8.setTop (mkF m 46 #[.val (.ref a), .val (.long now), .second, .val (.int (1 : Int32))] [(.ref a)])) _
          jvm_step X8.here [X8.here.top, hx, (hb hby d5_46), X8.method', Bd.returns, Value.isRef, FieldType.isReference]
          first | (intro acts; rw [hr _ acts rfl rfl rfl]) | rw [hr _ _ rfl rfl rfl]
          exact Steps.refl _
        · show Q_rm5 Z a now lm rem h0 n0 _ T8.heap _
          rw [e8]
          exact ⟨by rw [own_wait]; simp [c10, c19, c28], N0, rfl⟩
      · -- not c28
        obtain ⟨fs, hr, hrun, hended, hW, hsame⟩ := X8.leave (v := some .null) (fun h => by rw [Bd.returns] at h; cases h)
        subst hG
        refine ⟨_, _, pre9 _ ?_, hrun, hended, _, _, rfl, ?_, ⟨_, rfl⟩, hW, hsame.mono (by decide) (by decide)⟩
        · skip
          show Steps p.tables e below (T8.setTop (mkF m 28 #[.val (.ref a), .val (.long now), .second, .unset] [(.int (lcmpW rem (0 : Int64)))])) _
          refine XS.ifYes X8.here hx rfl (pc0 := 28) (pc' := 35) rfl (hb hby d5_28) rfl ((if0 _ _).trans (flt (mt (lw_gt rem (0 : Int64)).mp c28)).2.2.2) (by decide) (by decide) ?_
          show Steps p.tables e below (T8.setTop (mkF m 35 #[.val (.ref a), .val (.long now), .second, .unset] [])) _
          refine XS.iconst X8.here hx rfl (hb hby d5_35) ?_
          show Steps p.tables e below (T8.setTop (mkF m 36 #[.val (.ref a), .val (.long now), .second, .unset] [(.int (0 : Int32))])) _
          refine XS.istoreN X8.here hx rfl (hb hby d5_36) rfl (l' := #[.val (.ref a), .val (.long now), .second, .val (.int (0 : Int32))]) rfl ?_
          show Steps p.tables e below (T8.setTop (mkF m 37 #[.val (.ref a), .val (.long now), .second, .val (.int (0 : Int32))] [])) _
          refine XS.iloadN X8.here hx rfl (hb hby d5_37) rfl ?_
          show Steps p.tables e below (T8.setTop (mkF m 38 #[.val (.ref a), .val (.long now), .second, .val (.int (0 : Int32))] [(.int (0 : Int32))])) _
          refine XS.ifYes X8.here hx rfl (pc0 := 38) (pc' := 45) rfl (hb hby d5_38) rfl ((if0 _ _).trans (teq (by decide : (0 : Int32) = (0 : Int32))).1) (by decide) (by decide) ?_
          show Steps p.tables e below (T8.setTop (mkF m 45 #[.val (.ref a), .val (.long now), .second, .val (.int (0 : Int32))] [])) _
          refine XS.aconstNull X8.here hx rfl (hb hby d5_45) ?_
          show Steps p.tables e below (T8.setTop (mkF m 46 #[.val (.ref a), .val (.long now), .second, .val (.int (0 : Int32))] [.null])) _
          jvm_step X8.here [X8.here.top, hx, (hb hby d5_46), X8.method', Bd.returns, Value.isRef, FieldType.isReference]
          first | (intro acts; rw [hr _ acts rfl rfl rfl]) | rw [hr _ _ rfl rfl rfl]
          exact Steps.refl _
        · show Q_rm5 Z a now lm rem h0 n0 _ T8.heap _
          rw [e8]
          exact ⟨by rw [own_wait]; simp [c10, c19, c28], N0, rfl⟩
    · -- not c19
      obtain ⟨fs, hr, hrun, hended, hW, hsame⟩ := X5.leave (v := some .null) (fun h => by rw [Bd.returns] at h; cases h)
      subst hG
      refine ⟨_, _, pre6 _ ?_, hrun, hended, _, _, rfl, ?_, ⟨_, rfl⟩, hW, hsame.mono (by decide) (by decide)⟩
      · skip
        show Steps p.tables e below (T5.setTop (mkF m 19 #[.val (.ref a), .val (.long now), .second, .unset] [(.int (lcmpW lm now))])) _
        refine XS.ifYes X5.here hx rfl (pc0 := 19) (pc' := 35) rfl (hb hby d5_19) rfl ((if0 _ _).trans (feq (mt (lw_eq lm now).mp c19)).2) (by decide) (by decide) ?_
        show Steps p.tables e below (T5.setTop (mkF m 35 #[.val (.ref a), .val (.long now), .second, .unset] [])) _
        refine XS.iconst X5.here hx rfl (hb hby d5_35) ?_
        show Steps p.tables e below (T5.setTop (mkF m 36 #[.val (.ref a), .val (.long now), .second, .unset] [(.int (0 : Int32))])) _
        refine XS.istoreN X5.here hx rfl (hb hby d5_36) rfl (l' := #[.val (.ref a), .val (.long now), .second, .val (.int (0 : Int32))]) rfl ?_
        show Steps p.tables e below (T5.setTop (mkF m 37 #[.val (.ref a), .val (.long now), .second, .val (.int (0 : Int32))] [])) _
        refine XS.iloadN X5.here hx rfl (hb hby d5_37) rfl ?_
        show Steps p.tables e below (T5.setTop (mkF m 38 #[.val (.ref a), .val (.long now), .second, .val (.int (0 : Int32))] [(.int (0 : Int32))])) _
        refine XS.ifYes X5.here hx rfl (pc0 := 38) (pc' := 45) rfl (hb hby d5_38) rfl ((if0 _ _).trans (teq (by decide : (0 : Int32) = (0 : Int32))).1) (by decide) (by decide) ?_
        show Steps p.tables e below (T5.setTop (mkF m 45 #[.val (.ref a), .val (.long now), .second, .val (.int (0 : Int32))] [])) _
        refine XS.aconstNull X5.here hx rfl (hb hby d5_45) ?_
        show Steps p.tables e below (T5.setTop (mkF m 46 #[.val (.ref a), .val (.long now), .second, .val (.int (0 : Int32))] [.null])) _
        jvm_step X5.here [X5.here.top, hx, (hb hby d5_46), X5.method', Bd.returns, Value.isRef, FieldType.isReference]
        first | (intro acts; rw [hr _ acts rfl rfl rfl]) | rw [hr _ _ rfl rfl rfl]
        exact Steps.refl _
      · show Q_rm5 Z a now lm rem h0 n0 _ T5.heap _
        rw [e5]
        exact ⟨by rw [own_wait]; simp [c10, c19], N0, rfl⟩
theorem pn_6 : plainName "com/example/floodgate/floodgate/store/QueueTailStillWaitingPinLaw" = true := by first | (simp [plainName, overriddenIn]; done) | decide +kernel
theorem ef_6_J_J_J (m : MethodId) (x0 : Int64) (x1 : Int64) (x2 : Int64) : entryFrame m #[(.long x0), (.long x1), (.long x2)] 8 = mkF m 0 #[.val (.long x0), .second, .val (.long x1), .second, .val (.long x2), .second, .unset, .unset] [] := by first | (simp [entryFrame, mkF, argsToLocals, Value.category]; done) | rfl
theorem d6_0 : decode method_4_code 0 = .ok (.lload_n 2, 1) := by decide +kernel
theorem d6_1 : decode method_4_code 1 = .ok (.lconst 0, 1) := by decide +kernel
theorem d6_2 : decode method_4_code 2 = .ok (.lcmp, 1) := by decide +kernel
theorem d6_3 : decode method_4_code 3 = .ok (.ifCond .le 13, 3) := by decide +kernel
theorem d6_6 : decode method_4_code 6 = .ok (.lload_n 0, 1) := by decide +kernel
theorem d6_7 : decode method_4_code 7 = .ok (.ldc2_w 9, 3) := by decide +kernel
theorem d6_10 : decode method_4_code 10 = .ok (.lcmp, 1) := by decide +kernel
theorem d6_11 : decode method_4_code 11 = .ok (.ifCond .ne 5, 3) := by decide +kernel
theorem d6_14 : decode method_4_code 14 = .ok (.iconst 1, 1) := by decide +kernel
theorem d6_15 : decode method_4_code 15 = .ok (.ireturn, 1) := by decide +kernel
theorem d6_16 : decode method_4_code 16 = .ok (.lload_n 2, 1) := by decide +kernel
theorem d6_17 : decode method_4_code 17 = .ok (.lconst 0, 1) := by decide +kernel
theorem d6_18 : decode method_4_code 18 = .ok (.lcmp, 1) := by decide +kernel
theorem d6_19 : decode method_4_code 19 = .ok (.ifCond .le 9, 3) := by decide +kernel
theorem d6_22 : decode method_4_code 22 = .ok (.lload_n 0, 1) := by decide +kernel
theorem d6_23 : decode method_4_code 23 = .ok (.lconst 1, 1) := by decide +kernel
theorem d6_24 : decode method_4_code 24 = .ok (.ladd, 1) := by decide +kernel
theorem d6_25 : decode method_4_code 25 = .ok (.goto 4, 3) := by decide +kernel
theorem d6_28 : decode method_4_code 28 = .ok (.lload_n 0, 1) := by decide +kernel
theorem d6_29 : decode method_4_code 29 = .ok (.lstore 6, 2) := by decide +kernel
theorem d6_31 : decode method_4_code 31 = .ok (.lload 4, 2) := by decide +kernel
theorem d6_33 : decode method_4_code 33 = .ok (.lload 6, 2) := by decide +kernel
theorem d6_35 : decode method_4_code 35 = .ok (.lcmp, 1) := by decide +kernel
theorem d6_36 : decode method_4_code 36 = .ok (.ifCond .ge 7, 3) := by decide +kernel
theorem d6_39 : decode method_4_code 39 = .ok (.iconst 1, 1) := by decide +kernel
theorem d6_40 : decode method_4_code 40 = .ok (.goto 4, 3) := by decide +kernel
theorem d6_43 : decode method_4_code 43 = .ok (.iconst 0, 1) := by decide +kernel
theorem d6_44 : decode method_4_code 44 = .ok (.ireturn, 1) := by decide +kernel
def Q_rm6 (Z : State) (lm rem now : Int64) (h0 : Heap) (n0 : Nat) (v : Option Value) (h : Heap) (L : List Loc) : Prop := v = some (.int (own_dep lm rem now)) ∧ Fr n0 L ∧ h = h0
set_option maxRecDepth 65536 in
set_option maxHeartbeats 40000000 in
theorem rm6 (l : Launch) (Z : State) (a0 : Array Value) (hw : ∀ d ∈ tables_1, d.before a0 Z = true) (ws : List Jvm.Cond) (lm rem now : Int64) (h0 : Heap) (n0 : Nat) (Z0 : n0 ≤ h0.size)  :
    MetFree l (⟨"com/example/floodgate/floodgate/store/QueueTailStillWaitingPinLaw", "waitsByDeparture", "(JJJ)Z"⟩ : MethodName) (head1 (Jvm.Cond.code (⟨"com/example/floodgate/floodgate/store/QueueTailStillWaitingPinLaw", "waitsByDeparture", "(JJJ)Z"⟩ : MethodName) method_4_code 8 (some .boolean) :: ws) ({ frames := 0, cells := 0, slots := 0, locals := 0 } : Room)) (fun argv U => argv = #[(.long lm), (.long rem), (.long now)] ∧ Z.Warmed39 U.vm ∧ U.heap = h0) (fun _ _ _ _ _ => True) (fun _ U o U' => ∃ v L, o = .returned v ∧ Q_rm6 Z lm rem now h0 n0 v U'.heap L ∧ FrameEnd U o U' L ({ frames := 0, cells := 0, slots := 0, locals := 0 } : Room).cells ({ frames := 0, cells := 0, slots := 0, locals := 0 } : Room).slots) := by
  refine MetFree.of_bodySF (plainFor_of_name pn_6) hisR ?_
  intro p e s m args below meth c s₁ Bd hml0 hP hK
  obtain ⟨rfl, hZ, hh⟩ := hP
  have hx := Bd.exec
  have hby := Bd.bytes
  have hml : c.maxLocals = 8 := hml0
  have hown : s.vm.findClass "com/example/floodgate/floodgate/store/QueueTailStillWaitingPinLaw" = some m.cls := findClass_of_methodNamed Bd.named
  have hnm := (name_of_methodNamed Bd.named Bd.method).1
  have X0 : Stand p l e ({ frames := 0, cells := 0, slots := 0, locals := 0 } : Room) s m #[(.long lm), (.long rem), (.long now)] below meth c s₁ [] 0 0 := Stand.of_body Bd
  have e0 : s₁.heap = h0 := by rw [← hh, Bd.state]; rfl
  have N0 := Fr.nil n0
  obtain ⟨G, hG⟩ : ∃ G : State → Prop, G = fun tg => Steps p.tables e below (s₁.setTop (entryFrame m #[(.long lm), (.long rem), (.long now)] 8)) tg := ⟨_, rfl⟩
  have pre0 : ∀ tg, Steps p.tables e below (s₁.setTop (mkF m 0 #[.val (.long lm), .second, .val (.long rem), .second, .val (.long now), .second, .unset, .unset] [])) tg → G tg := fun tg kt => by rw [hG]; exact castTop (ef_6_J_J_J m lm rem now) kt
  have pre1 : ∀ tg, Steps p.tables e below (s₁.setTop (mkF m 3 #[.val (.long lm), .second, .val (.long rem), .second, .val (.long now), .second, .unset, .unset] [(.int (lcmpW rem (0 : Int64)))])) tg → G tg := fun tg kt => pre0 tg (by
    show Steps p.tables e below (s₁.setTop (mkF m 0 #[.val (.long lm), .second, .val (.long rem), .second, .val (.long now), .second, .unset, .unset] [])) _
    refine XS.lloadN X0.here hx rfl (hb hby d6_0) rfl ?_
    show Steps p.tables e below (s₁.setTop (mkF m 1 #[.val (.long lm), .second, .val (.long rem), .second, .val (.long now), .second, .unset, .unset] [(.long rem)])) _
    refine XS.lconst X0.here hx rfl (hb hby d6_1) ?_
    show Steps p.tables e below (s₁.setTop (mkF m 2 #[.val (.long lm), .second, .val (.long rem), .second, .val (.long now), .second, .unset, .unset] [(.long (0 : Int64)), (.long rem)])) _
    refine XS.lcmp X0.here hx rfl (hb hby d6_2) rfl ?_
    exact kt)
  by_cases c3 : (0 : Int64) < rem
  · -- c3
    have pre2 : ∀ tg, Steps p.tables e below (s₁.setTop (mkF m 11 #[.val (.long lm), .second, .val (.long rem), .second, .val (.long now), .second, .unset, .unset] [(.int (lcmpW lm (9223372036854775807 : Int64)))])) tg → G tg := fun tg kt => pre1 tg (by
      show Steps p.tables e below (s₁.setTop (mkF m 3 #[.val (.long lm), .second, .val (.long rem), .second, .val (.long now), .second, .unset, .unset] [(.int (lcmpW rem (0 : Int64)))])) _
      refine XS.ifNo X0.here hx rfl (hb hby d6_3) rfl ((if0 _ _).trans (tlt ((lw_gt rem (0 : Int64)).mpr c3)).2.2.2) ?_
      show Steps p.tables e below (s₁.setTop (mkF m 6 #[.val (.long lm), .second, .val (.long rem), .second, .val (.long now), .second, .unset, .unset] [])) _
      refine XS.lloadN X0.here hx rfl (hb hby d6_6) rfl ?_
      show Steps p.tables e below (s₁.setTop (mkF m 7 #[.val (.long lm), .second, .val (.long rem), .second, .val (.long now), .second, .unset, .unset] [(.long lm)])) _
      refine X0.ldc2Long hx hown (mvT hZ (hw _ (List.mem_of_getElem? (i := 0) rfl))) (g := (mkF m 7 #[.val (.long lm), .second, .val (.long rem), .second, .val (.long now), .second, .unset, .unset] [(.long lm)])) rfl (hb hby d6_7) _ ?_
      show Steps p.tables e below (s₁.setTop (mkF m 10 #[.val (.long lm), .second, .val (.long rem), .second, .val (.long now), .second, .unset, .unset] [(.long (9223372036854775807 : Int64)), (.long lm)])) _
      refine XS.lcmp X0.here hx rfl (hb hby d6_10) rfl ?_
      exact kt)
    by_cases c11 : lm = (9223372036854775807 : Int64)
    · -- c11
      obtain ⟨fs, hr, hrun, hended, hW, hsame⟩ := X0.leave (v := some (.int (1 : Int32))) (fun h => by rw [Bd.returns] at h; cases h)
      subst hG
      refine ⟨_, _, pre2 _ ?_, hrun, hended, _, _, rfl, ?_, ⟨_, rfl⟩, hW, hsame.mono (by decide) (by decide)⟩
      · skip
        show Steps p.tables e below (s₁.setTop (mkF m 11 #[.val (.long lm), .second, .val (.long rem), .second, .val (.long now), .second, .unset, .unset] [(.int (lcmpW lm (9223372036854775807 : Int64)))])) _
        refine XS.ifNo X0.here hx rfl (hb hby d6_11) rfl ((if0 _ _).trans (teq ((lw_eq lm (9223372036854775807 : Int64)).mpr c11)).2) ?_
        show Steps p.tables e below (s₁.setTop (mkF m 14 #[.val (.long lm), .second, .val (.long rem), .second, .val (.long now), .second, .unset, .unset] [])) _
        refine XS.iconst X0.here hx rfl (hb hby d6_14) ?_
        show Steps p.tables e below (s₁.setTop (mkF m 15 #[.val (.long lm), .second, .val (.long rem), .second, .val (.long now), .second, .unset, .unset] [(.int (1 : Int32))])) _
        exact retN X0 hx (t := .boolean) Bd.returns (by simp) (hb hby d6_15) hr
      · show Q_rm6 Z lm rem now h0 n0 _ s₁.heap _
        rw [e0]
        exact ⟨by simp only [own_dep, if_pos c3, if_pos c11], N0, rfl⟩
    · -- not c11
      have pre3 : ∀ tg, Steps p.tables e below (s₁.setTop (mkF m 36 #[.val (.long lm), .second, .val (.long rem), .second, .val (.long now), .second, .val (.long (lm + (1 : Int64))), .second] [(.int (lcmpW now (lm + (1 : Int64))))])) tg → G tg := fun tg kt => pre2 tg (by
        show Steps p.tables e below (s₁.setTop (mkF m 11 #[.val (.long lm), .second, .val (.long rem), .second, .val (.long now), .second, .unset, .unset] [(.int (lcmpW lm (9223372036854775807 : Int64)))])) _
        refine XS.ifYes X0.here hx rfl (pc0 := 11) (pc' := 16) rfl (hb hby d6_11) rfl ((if0 _ _).trans (feq (mt (lw_eq lm (9223372036854775807 : Int64)).mp c11)).2) (by decide) (by decide) ?_
        show Steps p.tables e below (s₁.setTop (mkF m 16 #[.val (.long lm), .second, .val (.long rem), .second, .val (.long now), .second, .unset, .unset] [])) _
        refine XS.lloadN X0.here hx rfl (hb hby d6_16) rfl ?_
        show Steps p.tables e below (s₁.setTop (mkF m 17 #[.val (.long lm), .second, .val (.long rem), .second, .val (.long now), .second, .unset, .unset] [(.long rem)])) _
        refine XS.lconst X0.here hx rfl (hb hby d6_17) ?_
        show Steps p.tables e below (s₁.setTop (mkF m 18 #[.val (.long lm), .second, .val (.long rem), .second, .val (.long now), .second, .unset, .unset] [(.long (0 : Int64)), (.long rem)])) _
        refine XS.lcmp X0.here hx rfl (hb hby d6_18) rfl ?_
        show Steps p.tables e below (s₁.setTop (mkF m 19 #[.val (.long lm), .second, .val (.long rem), .second, .val (.long now), .second, .unset, .unset] [(.int (lcmpW rem (0 : Int64)))])) _
        refine XS.ifNo X0.here hx rfl (hb hby d6_19) rfl ((if0 _ _).trans (tlt ((lw_gt rem (0 : Int64)).mpr c3)).2.2.2) ?_
        show Steps p.tables e below (s₁.setTop (mkF m 22 #[.val (.long lm), .second, .val (.long rem), .second, .val (.long now), .second, .unset, .unset] [])) _
        refine XS.lloadN X0.here hx rfl (hb hby d6_22) rfl ?_
        show Steps p.tables e below (s₁.setTop (mkF m 23 #[.val (.long lm), .second, .val (.long rem), .second, .val (.long now), .second, .unset, .unset] [(.long lm)])) _
        refine XS.lconst X0.here hx rfl (hb hby d6_23) ?_
        show Steps p.tables e below (s₁.setTop (mkF m 24 #[.val (.long lm), .second, .val (.long rem), .second, .val (.long now), .second, .unset, .unset] [(.long (1 : Int64)), (.long lm)])) _
        refine XS.ladd X0.here hx rfl (hb hby d6_24) rfl ?_
        show Steps p.tables e below (s₁.setTop (mkF m 25 #[.val (.long lm), .second, .val (.long rem), .second, .val (.long now), .second, .unset, .unset] [(.long (lm + (1 : Int64)))])) _
        refine XS.goto X0.here hx rfl (pc0 := 25) (pc' := 29) rfl (hb hby d6_25) (by decide) (by decide) ?_
        show Steps p.tables e below (s₁.setTop (mkF m 29 #[.val (.long lm), .second, .val (.long rem), .second, .val (.long now), .second, .unset, .unset] [(.long (lm + (1 : Int64)))])) _
        refine XS.lstore X0.here hx rfl (hb hby d6_29) rfl (l' := #[.val (.long lm), .second, .val (.long rem), .second, .val (.long now), .second, .val (.long (lm + (1 : Int64))), .second]) rfl ?_
        show Steps p.tables e below (s₁.setTop (mkF m 31 #[.val (.long lm), .second, .val (.long rem), .second, .val (.long now), .second, .val (.long (lm + (1 : Int64))), .second] [])) _
        refine XS.lload X0.here hx rfl (hb hby d6_31) rfl ?_
        show Steps p.tables e below (s₁.setTop (mkF m 33 #[.val (.long lm), .second, .val (.long rem), .second, .val (.long now), .second, .val (.long (lm + (1 : Int64))), .second] [(.long now)])) _
        refine XS.lload X0.here hx rfl (hb hby d6_33) rfl ?_
        show Steps p.tables e below (s₁.setTop (mkF m 35 #[.val (.long lm), .second, .val (.long rem), .second, .val (.long now), .second, .val (.long (lm + (1 : Int64))), .second] [(.long (lm + (1 : Int64))), (.long now)])) _
        refine XS.lcmp X0.here hx rfl (hb hby d6_35) rfl ?_
        exact kt)
      by_cases c36 : now < (lm + (1 : Int64))
      · -- c36
        obtain ⟨fs, hr, hrun, hended, hW, hsame⟩ := X0.leave (v := some (.int (1 : Int32))) (fun h => by rw [Bd.returns] at h; cases h)
        subst hG
        refine ⟨_, _, pre3 _ ?_, hrun, hended, _, _, rfl, ?_, ⟨_, rfl⟩, hW, hsame.mono (by decide) (by decide)⟩
        · skip
          show Steps p.tables e below (s₁.setTop (mkF m 36 #[.val (.long lm), .second, .val (.long rem), .second, .val (.long now), .second, .val (.long (lm + (1 : Int64))), .second] [(.int (lcmpW now (lm + (1 : Int64))))])) _
          refine XS.ifNo X0.here hx rfl (hb hby d6_36) rfl ((if0 _ _).trans (tlt ((lw_lt now (lm + (1 : Int64))).mpr c36)).2.1) ?_
          show Steps p.tables e below (s₁.setTop (mkF m 39 #[.val (.long lm), .second, .val (.long rem), .second, .val (.long now), .second, .val (.long (lm + (1 : Int64))), .second] [])) _
          refine XS.iconst X0.here hx rfl (hb hby d6_39) ?_
          show Steps p.tables e below (s₁.setTop (mkF m 40 #[.val (.long lm), .second, .val (.long rem), .second, .val (.long now), .second, .val (.long (lm + (1 : Int64))), .second] [(.int (1 : Int32))])) _
          refine XS.goto X0.here hx rfl (pc0 := 40) (pc' := 44) rfl (hb hby d6_40) (by decide) (by decide) ?_
          show Steps p.tables e below (s₁.setTop (mkF m 44 #[.val (.long lm), .second, .val (.long rem), .second, .val (.long now), .second, .val (.long (lm + (1 : Int64))), .second] [(.int (1 : Int32))])) _
          exact retN X0 hx (t := .boolean) Bd.returns (by simp) (hb hby d6_44) hr
        · show Q_rm6 Z lm rem now h0 n0 _ s₁.heap _
          rw [e0]
          exact ⟨by simp only [own_dep, if_pos c3, if_neg c11, if_pos c36], N0, rfl⟩
      · -- not c36
        obtain ⟨fs, hr, hrun, hended, hW, hsame⟩ := X0.leave (v := some (.int (0 : Int32))) (fun h => by rw [Bd.returns] at h; cases h)
        subst hG
        refine ⟨_, _, pre3 _ ?_, hrun, hended, _, _, rfl, ?_, ⟨_, rfl⟩, hW, hsame.mono (by decide) (by decide)⟩
        · skip
          show Steps p.tables e below (s₁.setTop (mkF m 36 #[.val (.long lm), .second, .val (.long rem), .second, .val (.long now), .second, .val (.long (lm + (1 : Int64))), .second] [(.int (lcmpW now (lm + (1 : Int64))))])) _
          refine XS.ifYes X0.here hx rfl (pc0 := 36) (pc' := 43) rfl (hb hby d6_36) rfl ((if0 _ _).trans (flt (mt (lw_lt now (lm + (1 : Int64))).mp c36)).2.1) (by decide) (by decide) ?_
          show Steps p.tables e below (s₁.setTop (mkF m 43 #[.val (.long lm), .second, .val (.long rem), .second, .val (.long now), .second, .val (.long (lm + (1 : Int64))), .second] [])) _
          refine XS.iconst X0.here hx rfl (hb hby d6_43) ?_
          show Steps p.tables e below (s₁.setTop (mkF m 44 #[.val (.long lm), .second, .val (.long rem), .second, .val (.long now), .second, .val (.long (lm + (1 : Int64))), .second] [(.int (0 : Int32))])) _
          exact retN X0 hx (t := .boolean) Bd.returns (by simp) (hb hby d6_44) hr
        · show Q_rm6 Z lm rem now h0 n0 _ s₁.heap _
          rw [e0]
          exact ⟨by simp only [own_dep, if_pos c3, if_neg c11, if_neg c36], N0, rfl⟩
  · -- not c3
    have pre4 : ∀ tg, Steps p.tables e below (s₁.setTop (mkF m 36 #[.val (.long lm), .second, .val (.long rem), .second, .val (.long now), .second, .val (.long lm), .second] [(.int (lcmpW now lm))])) tg → G tg := fun tg kt => pre1 tg (by
      show Steps p.tables e below (s₁.setTop (mkF m 3 #[.val (.long lm), .second, .val (.long rem), .second, .val (.long now), .second, .unset, .unset] [(.int (lcmpW rem (0 : Int64)))])) _
      refine XS.ifYes X0.here hx rfl (pc0 := 3) (pc' := 16) rfl (hb hby d6_3) rfl ((if0 _ _).trans (flt (mt (lw_gt rem (0 : Int64)).mp c3)).2.2.2) (by decide) (by decide) ?_
      show Steps p.tables e below (s₁.setTop (mkF m 16 #[.val (.long lm), .second, .val (.long rem), .second, .val (.long now), .second, .unset, .unset] [])) _
      refine XS.lloadN X0.here hx rfl (hb hby d6_16) rfl ?_
      show Steps p.tables e below (s₁.setTop (mkF m 17 #[.val (.long lm), .second, .val (.long rem), .second, .val (.long now), .second, .unset, .unset] [(.long rem)])) _
      refine XS.lconst X0.here hx rfl (hb hby d6_17) ?_
      show Steps p.tables e below (s₁.setTop (mkF m 18 #[.val (.long lm), .second, .val (.long rem), .second, .val (.long now), .second, .unset, .unset] [(.long (0 : Int64)), (.long rem)])) _
      refine XS.lcmp X0.here hx rfl (hb hby d6_18) rfl ?_
      show Steps p.tables e below (s₁.setTop (mkF m 19 #[.val (.long lm), .second, .val (.long rem), .second, .val (.long now), .second, .unset, .unset] [(.int (lcmpW rem (0 : Int64)))])) _
      refine XS.ifYes X0.here hx rfl (pc0 := 19) (pc' := 28) rfl (hb hby d6_19) rfl ((if0 _ _).trans (flt (mt (lw_gt rem (0 : Int64)).mp c3)).2.2.2) (by decide) (by decide) ?_
      show Steps p.tables e below (s₁.setTop (mkF m 28 #[.val (.long lm), .second, .val (.long rem), .second, .val (.long now), .second, .unset, .unset] [])) _
      refine XS.lloadN X0.here hx rfl (hb hby d6_28) rfl ?_
      show Steps p.tables e below (s₁.setTop (mkF m 29 #[.val (.long lm), .second, .val (.long rem), .second, .val (.long now), .second, .unset, .unset] [(.long lm)])) _
      refine XS.lstore X0.here hx rfl (hb hby d6_29) rfl (l' := #[.val (.long lm), .second, .val (.long rem), .second, .val (.long now), .second, .val (.long lm), .second]) rfl ?_
      show Steps p.tables e below (s₁.setTop (mkF m 31 #[.val (.long lm), .second, .val (.long rem), .second, .val (.long now), .second, .val (.long lm), .second] [])) _
      refine XS.lload X0.here hx rfl (hb hby d6_31) rfl ?_
      show Steps p.tables e below (s₁.setTop (mkF m 33 #[.val (.long lm), .second, .val (.long rem), .second, .val (.long now), .second, .val (.long lm), .second] [(.long now)])) _
      refine XS.lload X0.here hx rfl (hb hby d6_33) rfl ?_
      show Steps p.tables e below (s₁.setTop (mkF m 35 #[.val (.long lm), .second, .val (.long rem), .second, .val (.long now), .second, .val (.long lm), .second] [(.long lm), (.long now)])) _
      refine XS.lcmp X0.here hx rfl (hb hby d6_35) rfl ?_
      exact kt)
    by_cases c36 : now < lm
    · -- c36
      obtain ⟨fs, hr, hrun, hended, hW, hsame⟩ := X0.leave (v := some (.int (1 : Int32))) (fun h => by rw [Bd.returns] at h; cases h)
      subst hG
      refine ⟨_, _, pre4 _ ?_, hrun, hended, _, _, rfl, ?_, ⟨_, rfl⟩, hW, hsame.mono (by decide) (by decide)⟩
      · skip
        show Steps p.tables e below (s₁.setTop (mkF m 36 #[.val (.long lm), .second, .val (.long rem), .second, .val (.long now), .second, .val (.long lm), .second] [(.int (lcmpW now lm))])) _
        refine XS.ifNo X0.here hx rfl (hb hby d6_36) rfl ((if0 _ _).trans (tlt ((lw_lt now lm).mpr c36)).2.1) ?_
        show Steps p.tables e below (s₁.setTop (mkF m 39 #[.val (.long lm), .second, .val (.long rem), .second, .val (.long now), .second, .val (.long lm), .second] [])) _
        refine XS.iconst X0.here hx rfl (hb hby d6_39) ?_
        show Steps p.tables e below (s₁.setTop (mkF m 40 #[.val (.long lm), .second, .val (.long rem), .second, .val (.long now), .second, .val (.long lm), .second] [(.int (1 : Int32))])) _
        refine XS.goto X0.here hx rfl (pc0 := 40) (pc' := 44) rfl (hb hby d6_40) (by decide) (by decide) ?_
        show Steps p.tables e below (s₁.setTop (mkF m 44 #[.val (.long lm), .second, .val (.long rem), .second, .val (.long now), .second, .val (.long lm), .second] [(.int (1 : Int32))])) _
        exact retN X0 hx (t := .boolean) Bd.returns (by simp) (hb hby d6_44) hr
      · show Q_rm6 Z lm rem now h0 n0 _ s₁.heap _
        rw [e0]
        exact ⟨by simp only [own_dep, if_neg c3, if_pos c36], N0, rfl⟩
    · -- not c36
      obtain ⟨fs, hr, hrun, hended, hW, hsame⟩ := X0.leave (v := some (.int (0 : Int32))) (fun h => by rw [Bd.returns] at h; cases h)
      subst hG
      refine ⟨_, _, pre4 _ ?_, hrun, hended, _, _, rfl, ?_, ⟨_, rfl⟩, hW, hsame.mono (by decide) (by decide)⟩
      · skip
        show Steps p.tables e below (s₁.setTop (mkF m 36 #[.val (.long lm), .second, .val (.long rem), .second, .val (.long now), .second, .val (.long lm), .second] [(.int (lcmpW now lm))])) _
        refine XS.ifYes X0.here hx rfl (pc0 := 36) (pc' := 43) rfl (hb hby d6_36) rfl ((if0 _ _).trans (flt (mt (lw_lt now lm).mp c36)).2.1) (by decide) (by decide) ?_
        show Steps p.tables e below (s₁.setTop (mkF m 43 #[.val (.long lm), .second, .val (.long rem), .second, .val (.long now), .second, .val (.long lm), .second] [])) _
        refine XS.iconst X0.here hx rfl (hb hby d6_43) ?_
        show Steps p.tables e below (s₁.setTop (mkF m 44 #[.val (.long lm), .second, .val (.long rem), .second, .val (.long now), .second, .val (.long lm), .second] [(.int (0 : Int32))])) _
        exact retN X0 hx (t := .boolean) Bd.returns (by simp) (hb hby d6_44) hr
      · show Q_rm6 Z lm rem now h0 n0 _ s₁.heap _
        rw [e0]
        exact ⟨by simp only [own_dep, if_neg c3, if_neg c36], N0, rfl⟩
theorem pn_0 : plainName "com/example/floodgate/floodgate/store/QueueTailStillWaitingPinLaw" = true := by first | (simp [plainName, overriddenIn]; done) | decide +kernel
theorem ef_0_J_J_J_J_J_I (m : MethodId) (x0 : Int64) (x1 : Int64) (x2 : Int64) (x3 : Int64) (x4 : Int64) (x5 : Int32) : entryFrame m #[(.long x0), (.long x1), (.long x2), (.long x3), (.long x4), (.int x5)] maxLocals = mkF m 0 #[.val (.long x0), .second, .val (.long x1), .second, .val (.long x2), .second, .val (.long x3), .second, .val (.long x4), .second, .val (.int x5), .unset, .unset, .unset, .unset, .unset, .unset, .unset, .unset, .unset, .unset, .unset, .unset] [] := by first | (simp [entryFrame, mkF, argsToLocals, Value.category, maxLocals]; done) | rfl
theorem pd_0 : parseMethodDescriptor "(JJ)J" = some ⟨[.long, .long], some .long⟩ := by decide +kernel
theorem pd_1 : parseMethodDescriptor "(JJI)J" = some ⟨[.long, .long, .int], some .long⟩ := by decide +kernel
theorem pd_2 : parseMethodDescriptor "(JJJJJ)V" = some ⟨[.long, .long, .long, .long, .long], none⟩ := by decide +kernel
theorem pd_3 : parseMethodDescriptor "(Lcom/example/floodgate/floodgate/store/QueueTail;J)Lcom/example/floodgate/floodgate/store/QueueTail;" = some ⟨[(.object "com/example/floodgate/floodgate/store/QueueTail"), .long], some (.object "com/example/floodgate/floodgate/store/QueueTail")⟩ := by decide +kernel
theorem pd_4 : parseMethodDescriptor "(JJJ)Z" = some ⟨[.long, .long, .long], some .boolean⟩ := by decide +kernel
def Q_rm0 (Z : State) (p0 p1 p2 p3 p4 : Int64) (p5 : Int32) (h0 : Heap) (n0 : Nat) (v : Option Value) (h : Heap) (L : List Loc) : Prop := v = some (.int 1) ∧ Fr n0 L
set_option maxRecDepth 65536 in
set_option maxHeartbeats 40000000 in
theorem rm0 (l : Launch) (Z : State) (a0 : Array Value) (hw : ∀ d ∈ tables_1, d.before a0 Z = true) (ws : List Jvm.Cond) (p0 p1 p2 p3 p4 : Int64) (p5 : Int32) (h0 : Heap) (n0 : Nat) (Z0 : n0 ≤ h0.size)  :
    MetFree l x (head1 (Jvm.Cond.code x code maxLocals ret :: ws) room_1) (fun argv U => argv = #[(.long p0), (.long p1), (.long p2), (.long p3), (.long p4), (.int p5)] ∧ Z.Warmed39 U.vm ∧ U.heap = h0) (fun _ _ _ _ _ => True) (fun _ U o U' => ∃ v L, o = .returned v ∧ Q_rm0 Z p0 p1 p2 p3 p4 p5 h0 n0 v U'.heap L ∧ FrameEnd U o U' L 16 128) := by
  refine MetFree.of_bodySF (plainFor_of_name pn_0) hisR ?_
  intro p e s m args below meth c s₁ Bd hml0 hP hK
  obtain ⟨rfl, hZ, hh⟩ := hP
  have hx := Bd.exec
  have hby := Bd.bytes
  have hml : c.maxLocals = 23 := hml0
  have hown : s.vm.findClass "com/example/floodgate/floodgate/store/QueueTailStillWaitingPinLaw" = some m.cls := findClass_of_methodNamed Bd.named
  have hnm := (name_of_methodNamed Bd.named Bd.method).1
  have X0 : Stand p l e room_1 s m #[(.long p0), (.long p1), (.long p2), (.long p3), (.long p4), (.int p5)] below meth c s₁ [] 0 0 := Stand.of_body Bd
  have e0 : s₁.heap = h0 := by rw [← hh, Bd.state]; rfl
  have N0 := Fr.nil n0
  obtain ⟨G, hG⟩ : ∃ G : State → Prop, G = fun tg => Steps p.tables e below (s₁.setTop (entryFrame m #[(.long p0), (.long p1), (.long p2), (.long p3), (.long p4), (.int p5)] maxLocals)) tg := ⟨_, rfl⟩
  have pre0 : ∀ tg, Steps p.tables e below (s₁.setTop (mkF m 0 #[.val (.long p0), .second, .val (.long p1), .second, .val (.long p2), .second, .val (.long p3), .second, .val (.long p4), .second, .val (.int p5), .unset, .unset, .unset, .unset, .unset, .unset, .unset, .unset, .unset, .unset, .unset, .unset] [])) tg → G tg := fun tg kt => by rw [hG]; exact castTop (ef_0_J_J_J_J_J_I m p0 p1 p2 p3 p4 p5) kt
  have pre1 : ∀ tg, Steps p.tables e below (s₁.setTop (mkF m 7 #[.val (.long p0), .second, .val (.long p1), .second, .val (.long p2), .second, .val (.long p3), .second, .val (.long p4), .second, .val (.int p5), .unset, .unset, .unset, .unset, .unset, .unset, .unset, .unset, .unset, .unset, .unset, .unset] [(.long (1 : Int64)), (.long (p2 &&& (9223372036854775807 : Int64)))])) tg → G tg := fun tg kt => pre0 tg (by
    show Steps p.tables e below (s₁.setTop (mkF m 0 #[.val (.long p0), .second, .val (.long p1), .second, .val (.long p2), .second, .val (.long p3), .second, .val (.long p4), .second, .val (.int p5), .unset, .unset, .unset, .unset, .unset, .unset, .unset, .unset, .unset, .unset, .unset, .unset] [])) _
    refine XS.lload X0.here hx rfl (hb hby at_0) rfl ?_
    show Steps p.tables e below (s₁.setTop (mkF m 2 #[.val (.long p0), .second, .val (.long p1), .second, .val (.long p2), .second, .val (.long p3), .second, .val (.long p4), .second, .val (.int p5), .unset, .unset, .unset, .unset, .unset, .unset, .unset, .unset, .unset, .unset, .unset, .unset] [(.long p2)])) _
    refine X0.ldc2Long hx hown (mvT hZ (hw _ (List.mem_of_getElem? (i := 0) rfl))) (g := (mkF m 2 #[.val (.long p0), .second, .val (.long p1), .second, .val (.long p2), .second, .val (.long p3), .second, .val (.long p4), .second, .val (.int p5), .unset, .unset, .unset, .unset, .unset, .unset, .unset, .unset, .unset, .unset, .unset, .unset] [(.long p2)])) rfl (hb hby at_2) _ ?_
    show Steps p.tables e below (s₁.setTop (mkF m 5 #[.val (.long p0), .second, .val (.long p1), .second, .val (.long p2), .second, .val (.long p3), .second, .val (.long p4), .second, .val (.int p5), .unset, .unset, .unset, .unset, .unset, .unset, .unset, .unset, .unset, .unset, .unset, .unset] [(.long (9223372036854775807 : Int64)), (.long p2)])) _
    refine XS.land X0.here hx rfl (hb hby at_5) rfl ?_
    show Steps p.tables e below (s₁.setTop (mkF m 6 #[.val (.long p0), .second, .val (.long p1), .second, .val (.long p2), .second, .val (.long p3), .second, .val (.long p4), .second, .val (.int p5), .unset, .unset, .unset, .unset, .unset, .unset, .unset, .unset, .unset, .unset, .unset, .unset] [(.long (p2 &&& (9223372036854775807 : Int64)))])) _
    refine XS.lconst X0.here hx rfl (hb hby at_6) ?_
    exact kt)
  obtain ⟨_, _, ⟨T2, L2, k2, n2⟩, -, X2, ⟨Lc2, hQ2, l2, y2, z2⟩, st2⟩ := Jvm.LawKit.callS X0 hx (y := (⟨"java/lang/Math", "max", "(JJ)J"⟩ : MethodName)) hown (mvT hZ (hw _ (List.mem_of_getElem? (i := 1) rfl))) (mvT hZ (hw _ (List.mem_of_getElem? (i := 2) rfl))) (mvT hZ (hw _ (List.mem_of_getElem? (i := 3) rfl))) (mvT hZ (hw _ (List.mem_of_getElem? (i := 4) rfl))) (by decide) (backOf (W := 0) (rm1 l Z a0 hw [] (p2 &&& (9223372036854775807 : Int64)) (1 : Int64) h0 n0 Z0 ) hZ (hw _ (List.mem_of_getElem? (i := 4) rfl)) (hw _ (List.mem_of_getElem? (i := 3) rfl)) (by decide) (by decide)) (g := (mkF m 7 #[.val (.long p0), .second, .val (.long p1), .second, .val (.long p2), .second, .val (.long p3), .second, .val (.long p4), .second, .val (.int p5), .unset, .unset, .unset, .unset, .unset, .unset, .unset, .unset, .unset, .unset, .unset, .unset] [(.long (1 : Int64)), (.long (p2 &&& (9223372036854775807 : Int64)))])) rfl (by rw [hml]; rfl) (argsL := [(.long (p2 &&& (9223372036854775807 : Int64))), (.long (1 : Int64))]) (rest := []) (lenOf pd_0 rfl) rfl (by show 2 * 0 + _ ≤ _; exact Nat.le_of_eq rfl) (hb hby at_7) (fun _ _ => ⟨rfl, e0, (Nat.le_of_ble_eq_true rfl), (Nat.le_of_ble_eq_true rfl)⟩)
  dsimp only [Pt.U, Pt.locs, Pt.cells, Pt.slots] at X2 l2 y2 z2 st2 hQ2
  subst l2 y2 z2
  obtain ⟨rfl, N2q, e2⟩ := hQ2
  have N2 := Fr.app N0 N2q
  have pre2s : ∀ tg, Steps p.tables e below (T2.setTop (mkF m 10 #[.val (.long p0), .second, .val (.long p1), .second, .val (.long p2), .second, .val (.long p3), .second, .val (.long p4), .second, .val (.int p5), .unset, .unset, .unset, .unset, .unset, .unset, .unset, .unset, .unset, .unset, .unset, .unset] [(.long (own_max (p2 &&& (9223372036854775807 : Int64)) (1 : Int64)))])) tg → G tg := fun tg kt => pre1 tg (st2 tg kt)
  have pre3 : ∀ tg, Steps p.tables e below (T2.setTop (mkF m 27 #[.val (.long p0), .second, .val (.long p1), .second, .val (.long p2), .second, .val (.long p3), .second, .val (.long p4), .second, .val (.int p5), .val (.long (own_max (p2 &&& (9223372036854775807 : Int64)) (1 : Int64))), .second, .val (.long ((p3 &&& (9223372036854775807 : Int64)) - ((p3 &&& (9223372036854775807 : Int64)) / (own_max (p2 &&& (9223372036854775807 : Int64)) (1 : Int64))) * (own_max (p2 &&& (9223372036854775807 : Int64)) (1 : Int64)))), .second, .unset, .unset, .unset, .unset, .unset, .unset, .unset, .unset] [(.int (p5 &&& (2 : Int32)))])) tg → G tg := fun tg kt => pre2s tg (by
    show Steps p.tables e below (T2.setTop (mkF m 10 #[.val (.long p0), .second, .val (.long p1), .second, .val (.long p2), .second, .val (.long p3), .second, .val (.long p4), .second, .val (.int p5), .unset, .unset, .unset, .unset, .unset, .unset, .unset, .unset, .unset, .unset, .unset, .unset] [(.long (own_max (p2 &&& (9223372036854775807 : Int64)) (1 : Int64)))])) _
    refine XS.lstore X2.here hx rfl (hb hby at_10) rfl (l' := #[.val (.long p0), .second, .val (.long p1), .second, .val (.long p2), .second, .val (.long p3), .second, .val (.long p4), .second, .val (.int p5), .val (.long (own_max (p2 &&& (9223372036854775807 : Int64)) (1 : Int64))), .second, .unset, .unset, .unset, .unset, .unset, .unset, .unset, .unset, .unset, .unset]) rfl ?_
    show Steps p.tables e below (T2.setTop (mkF m 12 #[.val (.long p0), .second, .val (.long p1), .second, .val (.long p2), .second, .val (.long p3), .second, .val (.long p4), .second, .val (.int p5), .val (.long (own_max (p2 &&& (9223372036854775807 : Int64)) (1 : Int64))), .second, .unset, .unset, .unset, .unset, .unset, .unset, .unset, .unset, .unset, .unset] [])) _
    refine XS.lload X2.here hx rfl (hb hby at_12) rfl ?_
    show Steps p.tables e below (T2.setTop (mkF m 14 #[.val (.long p0), .second, .val (.long p1), .second, .val (.long p2), .second, .val (.long p3), .second, .val (.long p4), .second, .val (.int p5), .val (.long (own_max (p2 &&& (9223372036854775807 : Int64)) (1 : Int64))), .second, .unset, .unset, .unset, .unset, .unset, .unset, .unset, .unset, .unset, .unset] [(.long p3)])) _
    refine X2.ldc2Long hx hown (mvT hZ (hw _ (List.mem_of_getElem? (i := 0) rfl))) (g := (mkF m 14 #[.val (.long p0), .second, .val (.long p1), .second, .val (.long p2), .second, .val (.long p3), .second, .val (.long p4), .second, .val (.int p5), .val (.long (own_max (p2 &&& (9223372036854775807 : Int64)) (1 : Int64))), .second, .unset, .unset, .unset, .unset, .unset, .unset, .unset, .unset, .unset, .unset] [(.long p3)])) rfl (hb hby at_14) _ ?_
    show Steps p.tables e below (T2.setTop (mkF m 17 #[.val (.long p0), .second, .val (.long p1), .second, .val (.long p2), .second, .val (.long p3), .second, .val (.long p4), .second, .val (.int p5), .val (.long (own_max (p2 &&& (9223372036854775807 : Int64)) (1 : Int64))), .second, .unset, .unset, .unset, .unset, .unset, .unset, .unset, .unset, .unset, .unset] [(.long (9223372036854775807 : Int64)), (.long p3)])) _
    refine XS.land X2.here hx rfl (hb hby at_17) rfl ?_
    show Steps p.tables e below (T2.setTop (mkF m 18 #[.val (.long p0), .second, .val (.long p1), .second, .val (.long p2), .second, .val (.long p3), .second, .val (.long p4), .second, .val (.int p5), .val (.long (own_max (p2 &&& (9223372036854775807 : Int64)) (1 : Int64))), .second, .unset, .unset, .unset, .unset, .unset, .unset, .unset, .unset, .unset, .unset] [(.long (p3 &&& (9223372036854775807 : Int64)))])) _
    refine XS.lload X2.here hx rfl (hb hby at_18) rfl ?_
    show Steps p.tables e below (T2.setTop (mkF m 20 #[.val (.long p0), .second, .val (.long p1), .second, .val (.long p2), .second, .val (.long p3), .second, .val (.long p4), .second, .val (.int p5), .val (.long (own_max (p2 &&& (9223372036854775807 : Int64)) (1 : Int64))), .second, .unset, .unset, .unset, .unset, .unset, .unset, .unset, .unset, .unset, .unset] [(.long (own_max (p2 &&& (9223372036854775807 : Int64)) (1 : Int64))), (.long (p3 &&& (9223372036854775807 : Int64)))])) _
    refine XS.lrem X2.here hx rfl (hb hby at_20) rfl (own_max_ne _) ?_
    show Steps p.tables e below (T2.setTop (mkF m 21 #[.val (.long p0), .second, .val (.long p1), .second, .val (.long p2), .second, .val (.long p3), .second, .val (.long p4), .second, .val (.int p5), .val (.long (own_max (p2 &&& (9223372036854775807 : Int64)) (1 : Int64))), .second, .unset, .unset, .unset, .unset, .unset, .unset, .unset, .unset, .unset, .unset] [(.long ((p3 &&& (9223372036854775807 : Int64)) - ((p3 &&& (9223372036854775807 : Int64)) / (own_max (p2 &&& (9223372036854775807 : Int64)) (1 : Int64))) * (own_max (p2 &&& (9223372036854775807 : Int64)) (1 : Int64))))])) _
    refine XS.lstore X2.here hx rfl (hb hby at_21) rfl (l' := #[.val (.long p0), .second, .val (.long p1), .second, .val (.long p2), .second, .val (.long p3), .second, .val (.long p4), .second, .val (.int p5), .val (.long (own_max (p2 &&& (9223372036854775807 : Int64)) (1 : Int64))), .second, .val (.long ((p3 &&& (9223372036854775807 : Int64)) - ((p3 &&& (9223372036854775807 : Int64)) / (own_max (p2 &&& (9223372036854775807 : Int64)) (1 : Int64))) * (own_max (p2 &&& (9223372036854775807 : Int64)) (1 : Int64)))), .second, .unset, .unset, .unset, .unset, .unset, .unset, .unset, .unset]) rfl ?_
    show Steps p.tables e below (T2.setTop (mkF m 23 #[.val (.long p0), .second, .val (.long p1), .second, .val (.long p2), .second, .val (.long p3), .second, .val (.long p4), .second, .val (.int p5), .val (.long (own_max (p2 &&& (9223372036854775807 : Int64)) (1 : Int64))), .second, .val (.long ((p3 &&& (9223372036854775807 : Int64)) - ((p3 &&& (9223372036854775807 : Int64)) / (own_max (p2 &&& (9223372036854775807 : Int64)) (1 : Int64))) * (own_max (p2 &&& (9223372036854775807 : Int64)) (1 : Int64)))), .second, .unset, .unset, .unset, .unset, .unset, .unset, .unset, .unset] [])) _
    refine XS.iload X2.here hx rfl (hb hby at_23) rfl ?_
    show Steps p.tables e below (T2.setTop (mkF m 25 #[.val (.long p0), .second, .val (.long p1), .second, .val (.long p2), .second, .val (.long p3), .second, .val (.long p4), .second, .val (.int p5), .val (.long (own_max (p2 &&& (9223372036854775807 : Int64)) (1 : Int64))), .second, .val (.long ((p3 &&& (9223372036854775807 : Int64)) - ((p3 &&& (9223372036854775807 : Int64)) / (own_max (p2 &&& (9223372036854775807 : Int64)) (1 : Int64))) * (own_max (p2 &&& (9223372036854775807 : Int64)) (1 : Int64)))), .second, .unset, .unset, .unset, .unset, .unset, .unset, .unset, .unset] [(.int p5)])) _
    refine XS.iconst X2.here hx rfl (hb hby at_25) ?_
    show Steps p.tables e below (T2.setTop (mkF m 26 #[.val (.long p0), .second, .val (.long p1), .second, .val (.long p2), .second, .val (.long p3), .second, .val (.long p4), .second, .val (.int p5), .val (.long (own_max (p2 &&& (9223372036854775807 : Int64)) (1 : Int64))), .second, .val (.long ((p3 &&& (9223372036854775807 : Int64)) - ((p3 &&& (9223372036854775807 : Int64)) / (own_max (p2 &&& (9223372036854775807 : Int64)) (1 : Int64))) * (own_max (p2 &&& (9223372036854775807 : Int64)) (1 : Int64)))), .second, .unset, .unset, .unset, .unset, .unset, .unset, .unset, .unset] [(.int (2 : Int32)), (.int p5)])) _
    refine XS.iand X2.here hx rfl (hb hby at_26) rfl ?_
    exact kt)
  have pre4 : ∀ tg, Steps p.tables e below (T2.setTop (mkF m 33 #[.val (.long p0), .second, .val (.long p1), .second, .val (.long p2), .second, .val (.long p3), .second, .val (.long p4), .second, .val (.int p5), .val (.long (own_max (p2 &&& (9223372036854775807 : Int64)) (1 : Int64))), .second, .val (.long (if (p5 &&& (2 : Int32)) = (0 : Int32) then ((p3 &&& (9223372036854775807 : Int64)) - ((p3 &&& (9223372036854775807 : Int64)) / (own_max (p2 &&& (9223372036854775807 : Int64)) (1 : Int64))) * (own_max (p2 &&& (9223372036854775807 : Int64)) (1 : Int64))) else (0 : Int64))), .second, .unset, .unset, .unset, .unset, .unset, .unset, .unset, .unset] [])) tg → G tg := by
    intro tg kt
    refine pre3 tg ?_
    by_cases hm27_0 : (p5 &&& (2 : Int32)) = (0 : Int32)
    · try simp only [if_pos hm27_0] at kt
      show Steps p.tables e below (T2.setTop (mkF m 27 #[.val (.long p0), .second, .val (.long p1), .second, .val (.long p2), .second, .val (.long p3), .second, .val (.long p4), .second, .val (.int p5), .val (.long (own_max (p2 &&& (9223372036854775807 : Int64)) (1 : Int64))), .second, .val (.long ((p3 &&& (9223372036854775807 : Int64)) - ((p3 &&& (9223372036854775807 : Int64)) / (own_max (p2 &&& (9223372036854775807 : Int64)) (1 : Int64))) * (own_max (p2 &&& (9223372036854775807 : Int64)) (1 : Int64)))), .second, .unset, .unset, .unset, .unset, .unset, .unset, .unset, .unset] [(.int (p5 &&& (2 : Int32)))])) _
      refine XS.ifYes X2.here hx rfl (pc0 := 27) (pc' := 33) rfl (hb hby at_27) rfl ((if0 _ _).trans (teq hm27_0).1) (by decide) (by decide) ?_
      exact kt
    · try simp only [if_neg hm27_0] at kt
      show Steps p.tables e below (T2.setTop (mkF m 27 #[.val (.long p0), .second, .val (.long p1), .second, .val (.long p2), .second, .val (.long p3), .second, .val (.long p4), .second, .val (.int p5), .val (.long (own_max (p2 &&& (9223372036854775807 : Int64)) (1 : Int64))), .second, .val (.long ((p3 &&& (9223372036854775807 : Int64)) - ((p3 &&& (9223372036854775807 : Int64)) / (own_max (p2 &&& (9223372036854775807 : Int64)) (1 : Int64))) * (own_max (p2 &&& (9223372036854775807 : Int64)) (1 : Int64)))), .second, .unset, .unset, .unset, .unset, .unset, .unset, .unset, .unset] [(.int (p5 &&& (2 : Int32)))])) _
      refine XS.ifNo X2.here hx rfl (hb hby at_27) rfl ((if0 _ _).trans (feq hm27_0).1) ?_
      show Steps p.tables e below (T2.setTop (mkF m 30 #[.val (.long p0), .second, .val (.long p1), .second, .val (.long p2), .second, .val (.long p3), .second, .val (.long p4), .second, .val (.int p5), .val (.long (own_max (p2 &&& (9223372036854775807 : Int64)) (1 : Int64))), .second, .val (.long ((p3 &&& (9223372036854775807 : Int64)) - ((p3 &&& (9223372036854775807 : Int64)) / (own_max (p2 &&& (9223372036854775807 : Int64)) (1 : Int64))) * (own_max (p2 &&& (9223372036854775807 : Int64)) (1 : Int64)))), .second, .unset, .unset, .unset, .unset, .unset, .unset, .unset, .unset] [])) _
      refine XS.lconst X2.here hx rfl (hb hby at_30) ?_
      show Steps p.tables e below (T2.setTop (mkF m 31 #[.val (.long p0), .second, .val (.long p1), .second, .val (.long p2), .second, .val (.long p3), .second, .val (.long p4), .second, .val (.int p5), .val (.long (own_max (p2 &&& (9223372036854775807 : Int64)) (1 : Int64))), .second, .val (.long ((p3 &&& (9223372036854775807 : Int64)) - ((p3 &&& (9223372036854775807 : Int64)) / (own_max (p2 &&& (9223372036854775807 : Int64)) (1 : Int64))) * (own_max (p2 &&& (9223372036854775807 : Int64)) (1 : Int64)))), .second, .unset, .unset, .unset, .unset, .unset, .unset, .unset, .unset] [(.long (0 : Int64))])) _
      refine XS.lstore X2.here hx rfl (hb hby at_31) rfl (l' := #[.val (.long p0), .second, .val (.long p1), .second, .val (.long p2), .second, .val (.long p3), .second, .val (.long p4), .second, .val (.int p5), .val (.long (own_max (p2 &&& (9223372036854775807 : Int64)) (1 : Int64))), .second, .val (.long (0 : Int64)), .second, .unset, .unset, .unset, .unset, .unset, .unset, .unset, .unset]) rfl ?_
      exact kt
  obtain ⟨rem, rem_eq⟩ : ∃ z : Int64, z = (if (p5 &&& (2 : Int32)) = (0 : Int32) then ((p3 &&& (9223372036854775807 : Int64)) - ((p3 &&& (9223372036854775807 : Int64)) / (own_max (p2 &&& (9223372036854775807 : Int64)) (1 : Int64))) * (own_max (p2 &&& (9223372036854775807 : Int64)) (1 : Int64))) else (0 : Int64)) := ⟨_, rfl⟩
  rw [← rem_eq] at pre4
  have pre5 : ∀ tg, Steps p.tables e below (T2.setTop (mkF m 40 #[.val (.long p0), .second, .val (.long p1), .second, .val (.long p2), .second, .val (.long p3), .second, .val (.long p4), .second, .val (.int p5), .val (.long (own_max (p2 &&& (9223372036854775807 : Int64)) (1 : Int64))), .second, .val (.long rem), .second, .unset, .unset, .unset, .unset, .unset, .unset, .unset, .unset] [(.long (1 : Int64)), (.long (p4 &&& (9223372036854775807 : Int64)))])) tg → G tg := fun tg kt => pre4 tg (by
    show Steps p.tables e below (T2.setTop (mkF m 33 #[.val (.long p0), .second, .val (.long p1), .second, .val (.long p2), .second, .val (.long p3), .second, .val (.long p4), .second, .val (.int p5), .val (.long (own_max (p2 &&& (9223372036854775807 : Int64)) (1 : Int64))), .second, .val (.long rem), .second, .unset, .unset, .unset, .unset, .unset, .unset, .unset, .unset] [])) _
    refine XS.lload X2.here hx rfl (hb hby at_33) rfl ?_
    show Steps p.tables e below (T2.setTop (mkF m 35 #[.val (.long p0), .second, .val (.long p1), .second, .val (.long p2), .second, .val (.long p3), .second, .val (.long p4), .second, .val (.int p5), .val (.long (own_max (p2 &&& (9223372036854775807 : Int64)) (1 : Int64))), .second, .val (.long rem), .second, .unset, .unset, .unset, .unset, .unset, .unset, .unset, .unset] [(.long p4)])) _
    refine X2.ldc2Long hx hown (mvT hZ (hw _ (List.mem_of_getElem? (i := 0) rfl))) (g := (mkF m 35 #[.val (.long p0), .second, .val (.long p1), .second, .val (.long p2), .second, .val (.long p3), .second, .val (.long p4), .second, .val (.int p5), .val (.long (own_max (p2 &&& (9223372036854775807 : Int64)) (1 : Int64))), .second, .val (.long rem), .second, .unset, .unset, .unset, .unset, .unset, .unset, .unset, .unset] [(.long p4)])) rfl (hb hby at_35) _ ?_
    show Steps p.tables e below (T2.setTop (mkF m 38 #[.val (.long p0), .second, .val (.long p1), .second, .val (.long p2), .second, .val (.long p3), .second, .val (.long p4), .second, .val (.int p5), .val (.long (own_max (p2 &&& (9223372036854775807 : Int64)) (1 : Int64))), .second, .val (.long rem), .second, .unset, .unset, .unset, .unset, .unset, .unset, .unset, .unset] [(.long (9223372036854775807 : Int64)), (.long p4)])) _
    refine XS.land X2.here hx rfl (hb hby at_38) rfl ?_
    show Steps p.tables e below (T2.setTop (mkF m 39 #[.val (.long p0), .second, .val (.long p1), .second, .val (.long p2), .second, .val (.long p3), .second, .val (.long p4), .second, .val (.int p5), .val (.long (own_max (p2 &&& (9223372036854775807 : Int64)) (1 : Int64))), .second, .val (.long rem), .second, .unset, .unset, .unset, .unset, .unset, .unset, .unset, .unset] [(.long (p4 &&& (9223372036854775807 : Int64)))])) _
    refine XS.lconst X2.here hx rfl (hb hby at_39) ?_
    exact kt)
  obtain ⟨_, _, ⟨T6, L6, k6, n6⟩, -, X6, ⟨Lc6, hQ6, l6, y6, z6⟩, st6⟩ := Jvm.LawKit.callS X2 hx (y := (⟨"java/lang/Math", "max", "(JJ)J"⟩ : MethodName)) hown (mvT hZ (hw _ (List.mem_of_getElem? (i := 1) rfl))) (mvT hZ (hw _ (List.mem_of_getElem? (i := 2) rfl))) (mvT hZ (hw _ (List.mem_of_getElem? (i := 3) rfl))) (mvT hZ (hw _ (List.mem_of_getElem? (i := 4) rfl))) (by decide) (backOf (W := 0) (rm1 l Z a0 hw [] (p4 &&& (9223372036854775807 : Int64)) (1 : Int64) h0 n0 Z0 ) hZ (hw _ (List.mem_of_getElem? (i := 4) rfl)) (hw _ (List.mem_of_getElem? (i := 3) rfl)) (by decide) (by decide)) (g := (mkF m 40 #[.val (.long p0), .second, .val (.long p1), .second, .val (.long p2), .second, .val (.long p3), .second, .val (.long p4), .second, .val (.int p5), .val (.long (own_max (p2 &&& (9223372036854775807 : Int64)) (1 : Int64))), .second, .val (.long rem), .second, .unset, .unset, .unset, .unset, .unset, .unset, .unset, .unset] [(.long (1 : Int64)), (.long (p4 &&& (9223372036854775807 : Int64)))])) rfl (by rw [hml]; rfl) (argsL := [(.long (p4 &&& (9223372036854775807 : Int64))), (.long (1 : Int64))]) (rest := []) (lenOf pd_0 rfl) rfl (by show 2 * 0 + _ ≤ _; exact Nat.le_of_eq rfl) (hb hby at_40) (fun _ _ => ⟨rfl, e2, (Nat.le_of_ble_eq_true rfl), (Nat.le_of_ble_eq_true rfl)⟩)
  dsimp only [Pt.U, Pt.locs, Pt.cells, Pt.slots] at X6 l6 y6 z6 st6 hQ6
  subst l6 y6 z6
  obtain ⟨rfl, N6q, e6⟩ := hQ6
  have N6 := Fr.app N2 N6q
  have pre6s : ∀ tg, Steps p.tables e below (T6.setTop (mkF m 43 #[.val (.long p0), .second, .val (.long p1), .second, .val (.long p2), .second, .val (.long p3), .second, .val (.long p4), .second, .val (.int p5), .val (.long (own_max (p2 &&& (9223372036854775807 : Int64)) (1 : Int64))), .second, .val (.long rem), .second, .unset, .unset, .unset, .unset, .unset, .unset, .unset, .unset] [(.long (own_max (p4 &&& (9223372036854775807 : Int64)) (1 : Int64)))])) tg → G tg := fun tg kt => pre5 tg (st6 tg kt)
  have pre7 : ∀ tg, Steps p.tables e below (T6.setTop (mkF m 53 #[.val (.long p0), .second, .val (.long p1), .second, .val (.long p2), .second, .val (.long p3), .second, .val (.long p4), .second, .val (.int p5), .val (.long (own_max (p2 &&& (9223372036854775807 : Int64)) (1 : Int64))), .second, .val (.long rem), .second, .val (.long (own_max (p4 &&& (9223372036854775807 : Int64)) (1 : Int64))), .second, .unset, .unset, .unset, .unset, .unset, .unset] [(.int ((p5 >>> ((2 : Int32) &&& 31)) &&& (3 : Int32))), (.long p1), (.long p0)])) tg → G tg := fun tg kt => pre6s tg (by
    show Steps p.tables e below (T6.setTop (mkF m 43 #[.val (.long p0), .second, .val (.long p1), .second, .val (.long p2), .second, .val (.long p3), .second, .val (.long p4), .second, .val (.int p5), .val (.long (own_max (p2 &&& (9223372036854775807 : Int64)) (1 : Int64))), .second, .val (.long rem), .second, .unset, .unset, .unset, .unset, .unset, .unset, .unset, .unset] [(.long (own_max (p4 &&& (9223372036854775807 : Int64)) (1 : Int64)))])) _
    refine XS.lstore X6.here hx rfl (hb hby at_43) rfl (l' := #[.val (.long p0), .second, .val (.long p1), .second, .val (.long p2), .second, .val (.long p3), .second, .val (.long p4), .second, .val (.int p5), .val (.long (own_max (p2 &&& (9223372036854775807 : Int64)) (1 : Int64))), .second, .val (.long rem), .second, .val (.long (own_max (p4 &&& (9223372036854775807 : Int64)) (1 : Int64))), .second, .unset, .unset, .unset, .unset, .unset, .unset]) rfl ?_
    show Steps p.tables e below (T6.setTop (mkF m 45 #[.val (.long p0), .second, .val (.long p1), .second, .val (.long p2), .second, .val (.long p3), .second, .val (.long p4), .second, .val (.int p5), .val (.long (own_max (p2 &&& (9223372036854775807 : Int64)) (1 : Int64))), .second, .val (.long rem), .second, .val (.long (own_max (p4 &&& (9223372036854775807 : Int64)) (1 : Int64))), .second, .unset, .unset, .unset, .unset, .unset, .unset] [])) _
    refine XS.lloadN X6.here hx rfl (hb hby at_45) rfl ?_
    show Steps p.tables e below (T6.setTop (mkF m 46 #[.val (.long p0), .second, .val (.long p1), .second, .val (.long p2), .second, .val (.long p3), .second, .val (.long p4), .second, .val (.int p5), .val (.long (own_max (p2 &&& (9223372036854775807 : Int64)) (1 : Int64))), .second, .val (.long rem), .second, .val (.long (own_max (p4 &&& (9223372036854775807 : Int64)) (1 : Int64))), .second, .unset, .unset, .unset, .unset, .unset, .unset] [(.long p0)])) _
    refine XS.lloadN X6.here hx rfl (hb hby at_46) rfl ?_
    show Steps p.tables e below (T6.setTop (mkF m 47 #[.val (.long p0), .second, .val (.long p1), .second, .val (.long p2), .second, .val (.long p3), .second, .val (.long p4), .second, .val (.int p5), .val (.long (own_max (p2 &&& (9223372036854775807 : Int64)) (1 : Int64))), .second, .val (.long rem), .second, .val (.long (own_max (p4 &&& (9223372036854775807 : Int64)) (1 : Int64))), .second, .unset, .unset, .unset, .unset, .unset, .unset] [(.long p1), (.long p0)])) _
    refine XS.iload X6.here hx rfl (hb hby at_47) rfl ?_
    show Steps p.tables e below (T6.setTop (mkF m 49 #[.val (.long p0), .second, .val (.long p1), .second, .val (.long p2), .second, .val (.long p3), .second, .val (.long p4), .second, .val (.int p5), .val (.long (own_max (p2 &&& (9223372036854775807 : Int64)) (1 : Int64))), .second, .val (.long rem), .second, .val (.long (own_max (p4 &&& (9223372036854775807 : Int64)) (1 : Int64))), .second, .unset, .unset, .unset, .unset, .unset, .unset] [(.int p5), (.long p1), (.long p0)])) _
    refine XS.iconst X6.here hx rfl (hb hby at_49) ?_
    show Steps p.tables e below (T6.setTop (mkF m 50 #[.val (.long p0), .second, .val (.long p1), .second, .val (.long p2), .second, .val (.long p3), .second, .val (.long p4), .second, .val (.int p5), .val (.long (own_max (p2 &&& (9223372036854775807 : Int64)) (1 : Int64))), .second, .val (.long rem), .second, .val (.long (own_max (p4 &&& (9223372036854775807 : Int64)) (1 : Int64))), .second, .unset, .unset, .unset, .unset, .unset, .unset] [(.int (2 : Int32)), (.int p5), (.long p1), (.long p0)])) _
    refine XS.ishr X6.here hx rfl (hb hby at_50) rfl ?_
    show Steps p.tables e below (T6.setTop (mkF m 51 #[.val (.long p0), .second, .val (.long p1), .second, .val (.long p2), .second, .val (.long p3), .second, .val (.long p4), .second, .val (.int p5), .val (.long (own_max (p2 &&& (9223372036854775807 : Int64)) (1 : Int64))), .second, .val (.long rem), .second, .val (.long (own_max (p4 &&& (9223372036854775807 : Int64)) (1 : Int64))), .second, .unset, .unset, .unset, .unset, .unset, .unset] [(.int (p5 >>> ((2 : Int32) &&& 31))), (.long p1), (.long p0)])) _
    refine XS.iconst X6.here hx rfl (hb hby at_51) ?_
    show Steps p.tables e below (T6.setTop (mkF m 52 #[.val (.long p0), .second, .val (.long p1), .second, .val (.long p2), .second, .val (.long p3), .second, .val (.long p4), .second, .val (.int p5), .val (.long (own_max (p2 &&& (9223372036854775807 : Int64)) (1 : Int64))), .second, .val (.long rem), .second, .val (.long (own_max (p4 &&& (9223372036854775807 : Int64)) (1 : Int64))), .second, .unset, .unset, .unset, .unset, .unset, .unset] [(.int (3 : Int32)), (.int (p5 >>> ((2 : Int32) &&& 31))), (.long p1), (.long p0)])) _
    refine XS.iand X6.here hx rfl (hb hby at_52) rfl ?_
    exact kt)
  obtain ⟨_, _, ⟨T8, L8, k8, n8⟩, -, X8, ⟨Lc8, hQ8, l8, y8, z8⟩, st8⟩ := Jvm.LawKit.callS X6 hx (y := (⟨"com/example/floodgate/floodgate/store/QueueTailStillWaitingPinLaw", "pickNow", "(JJI)J"⟩ : MethodName)) hown (mvT hZ (hw _ (List.mem_of_getElem? (i := 5) rfl))) (mvT hZ (hw _ (List.mem_of_getElem? (i := 6) rfl))) (mvT hZ (hw _ (List.mem_of_getElem? (i := 7) rfl))) (mvT hZ (hw _ (List.mem_of_getElem? (i := 8) rfl))) (by decide) (backOf (W := 0) (rm2 l Z a0 hw [] p0 p1 ((p5 >>> ((2 : Int32) &&& 31)) &&& (3 : Int32)) h0 n0 Z0 ) hZ (hw _ (List.mem_of_getElem? (i := 8) rfl)) (hw _ (List.mem_of_getElem? (i := 7) rfl)) (by decide) (by decide)) (g := (mkF m 53 #[.val (.long p0), .second, .val (.long p1), .second, .val (.long p2), .second, .val (.long p3), .second, .val (.long p4), .second, .val (.int p5), .val (.long (own_max (p2 &&& (9223372036854775807 : Int64)) (1 : Int64))), .second, .val (.long rem), .second, .val (.long (own_max (p4 &&& (9223372036854775807 : Int64)) (1 : Int64))), .second, .unset, .unset, .unset, .unset, .unset, .unset] [(.int ((p5 >>> ((2 : Int32) &&& 31)) &&& (3 : Int32))), (.long p1), (.long p0)])) rfl (by rw [hml]; rfl) (argsL := [(.long p0), (.long p1), (.int ((p5 >>> ((2 : Int32) &&& 31)) &&& (3 : Int32)))]) (rest := []) (lenOf pd_1 rfl) rfl (by show 2 * 0 + _ ≤ _; exact Nat.le_of_eq rfl) (hb hby at_53) (fun _ _ => ⟨rfl, e6, (Nat.le_of_ble_eq_true rfl), (Nat.le_of_ble_eq_true rfl)⟩)
  dsimp only [Pt.U, Pt.locs, Pt.cells, Pt.slots] at X8 l8 y8 z8 st8 hQ8
  subst l8 y8 z8
  obtain ⟨now, rfl, N8q, e8⟩ := hQ8
  have N8 := Fr.app N6 N8q
  have pre8s : ∀ tg, Steps p.tables e below (T8.setTop (mkF m 56 #[.val (.long p0), .second, .val (.long p1), .second, .val (.long p2), .second, .val (.long p3), .second, .val (.long p4), .second, .val (.int p5), .val (.long (own_max (p2 &&& (9223372036854775807 : Int64)) (1 : Int64))), .second, .val (.long rem), .second, .val (.long (own_max (p4 &&& (9223372036854775807 : Int64)) (1 : Int64))), .second, .unset, .unset, .unset, .unset, .unset, .unset] [(.long now)])) tg → G tg := fun tg kt => pre7 tg (st8 tg kt)
  have pre9 : ∀ tg, Steps p.tables e below (T8.setTop (mkF m 62 #[.val (.long p0), .second, .val (.long p1), .second, .val (.long p2), .second, .val (.long p3), .second, .val (.long p4), .second, .val (.int p5), .val (.long (own_max (p2 &&& (9223372036854775807 : Int64)) (1 : Int64))), .second, .val (.long rem), .second, .val (.long (own_max (p4 &&& (9223372036854775807 : Int64)) (1 : Int64))), .second, .val (.long now), .second, .unset, .unset, .unset, .unset] [(.int (p5 &&& (1 : Int32)))])) tg → G tg := fun tg kt => pre8s tg (by
    show Steps p.tables e below (T8.setTop (mkF m 56 #[.val (.long p0), .second, .val (.long p1), .second, .val (.long p2), .second, .val (.long p3), .second, .val (.long p4), .second, .val (.int p5), .val (.long (own_max (p2 &&& (9223372036854775807 : Int64)) (1 : Int64))), .second, .val (.long rem), .second, .val (.long (own_max (p4 &&& (9223372036854775807 : Int64)) (1 : Int64))), .second, .unset, .unset, .unset, .unset, .unset, .unset] [(.long now)])) _
    refine XS.lstore X8.here hx rfl (hb hby at_56) rfl (l' := #[.val (.long p0), .second, .val (.long p1), .second, .val (.long p2), .second, .val (.long p3), .second, .val (.long p4), .second, .val (.int p5), .val (.long (own_max (p2 &&& (9223372036854775807 : Int64)) (1 : Int64))), .second, .val (.long rem), .second, .val (.long (own_max (p4 &&& (9223372036854775807 : Int64)) (1 : Int64))), .second, .val (.long now), .second, .unset, .unset, .unset, .unset]) rfl ?_
    show Steps p.tables e below (T8.setTop (mkF m 58 #[.val (.long p0), .second, .val (.long p1), .second, .val (.long p2), .second, .val (.long p3), .second, .val (.long p4), .second, .val (.int p5), .val (.long (own_max (p2 &&& (9223372036854775807 : Int64)) (1 : Int64))), .second, .val (.long rem), .second, .val (.long (own_max (p4 &&& (9223372036854775807 : Int64)) (1 : Int64))), .second, .val (.long now), .second, .unset, .unset, .unset, .unset] [])) _
    refine XS.iload X8.here hx rfl (hb hby at_58) rfl ?_
    show Steps p.tables e below (T8.setTop (mkF m 60 #[.val (.long p0), .second, .val (.long p1), .second, .val (.long p2), .second, .val (.long p3), .second, .val (.long p4), .second, .val (.int p5), .val (.long (own_max (p2 &&& (9223372036854775807 : Int64)) (1 : Int64))), .second, .val (.long rem), .second, .val (.long (own_max (p4 &&& (9223372036854775807 : Int64)) (1 : Int64))), .second, .val (.long now), .second, .unset, .unset, .unset, .unset] [(.int p5)])) _
    refine XS.iconst X8.here hx rfl (hb hby at_60) ?_
    show Steps p.tables e below (T8.setTop (mkF m 61 #[.val (.long p0), .second, .val (.long p1), .second, .val (.long p2), .second, .val (.long p3), .second, .val (.long p4), .second, .val (.int p5), .val (.long (own_max (p2 &&& (9223372036854775807 : Int64)) (1 : Int64))), .second, .val (.long rem), .second, .val (.long (own_max (p4 &&& (9223372036854775807 : Int64)) (1 : Int64))), .second, .val (.long now), .second, .unset, .unset, .unset, .unset] [(.int (1 : Int32)), (.int p5)])) _
    refine XS.iand X8.here hx rfl (hb hby at_61) rfl ?_
    exact kt)
  by_cases c62 : (p5 &&& (1 : Int32)) = (0 : Int32)
  · -- c62
    have pre10 : ∀ tg, Steps p.tables e below (T8.setTop (mkF m 81 #[.val (.long p0), .second, .val (.long p1), .second, .val (.long p2), .second, .val (.long p3), .second, .val (.long p4), .second, .val (.int p5), .val (.long (own_max (p2 &&& (9223372036854775807 : Int64)) (1 : Int64))), .second, .val (.long rem), .second, .val (.long (own_max (p4 &&& (9223372036854775807 : Int64)) (1 : Int64))), .second, .val (.long now), .second, .val (.int (0 : Int32)), .unset, .unset, .unset] [])) tg → G tg := fun tg kt => pre9 tg (by
      show Steps p.tables e below (T8.setTop (mkF m 62 #[.val (.long p0), .second, .val (.long p1), .second, .val (.long p2), .second, .val (.long p3), .second, .val (.long p4), .second, .val (.int p5), .val (.long (own_max (p2 &&& (9223372036854775807 : Int64)) (1 : Int64))), .second, .val (.long rem), .second, .val (.long (own_max (p4 &&& (9223372036854775807 : Int64)) (1 : Int64))), .second, .val (.long now), .second, .unset, .unset, .unset, .unset] [(.int (p5 &&& (1 : Int32)))])) _
      refine XS.ifYes X8.here hx rfl (pc0 := 62) (pc' := 69) rfl (hb hby at_62) rfl ((if0 _ _).trans (teq c62).1) (by decide) (by decide) ?_
      show Steps p.tables e below (T8.setTop (mkF m 69 #[.val (.long p0), .second, .val (.long p1), .second, .val (.long p2), .second, .val (.long p3), .second, .val (.long p4), .second, .val (.int p5), .val (.long (own_max (p2 &&& (9223372036854775807 : Int64)) (1 : Int64))), .second, .val (.long rem), .second, .val (.long (own_max (p4 &&& (9223372036854775807 : Int64)) (1 : Int64))), .second, .val (.long now), .second, .unset, .unset, .unset, .unset] [])) _
      refine XS.iconst X8.here hx rfl (hb hby at_69) ?_
      show Steps p.tables e below (T8.setTop (mkF m 70 #[.val (.long p0), .second, .val (.long p1), .second, .val (.long p2), .second, .val (.long p3), .second, .val (.long p4), .second, .val (.int p5), .val (.long (own_max (p2 &&& (9223372036854775807 : Int64)) (1 : Int64))), .second, .val (.long rem), .second, .val (.long (own_max (p4 &&& (9223372036854775807 : Int64)) (1 : Int64))), .second, .val (.long now), .second, .unset, .unset, .unset, .unset] [(.int (0 : Int32))])) _
      refine XS.istore X8.here hx rfl (hb hby at_70) rfl (l' := #[.val (.long p0), .second, .val (.long p1), .second, .val (.long p2), .second, .val (.long p3), .second, .val (.long p4), .second, .val (.int p5), .val (.long (own_max (p2 &&& (9223372036854775807 : Int64)) (1 : Int64))), .second, .val (.long rem), .second, .val (.long (own_max (p4 &&& (9223372036854775807 : Int64)) (1 : Int64))), .second, .val (.long now), .second, .val (.int (0 : Int32)), .unset, .unset, .unset]) rfl ?_
      show Steps p.tables e below (T8.setTop (mkF m 72 #[.val (.long p0), .second, .val (.long p1), .second, .val (.long p2), .second, .val (.long p3), .second, .val (.long p4), .second, .val (.int p5), .val (.long (own_max (p2 &&& (9223372036854775807 : Int64)) (1 : Int64))), .second, .val (.long rem), .second, .val (.long (own_max (p4 &&& (9223372036854775807 : Int64)) (1 : Int64))), .second, .val (.long now), .second, .val (.int (0 : Int32)), .unset, .unset, .unset] [])) _
      refine XS.iload X8.here hx rfl (hb hby at_72) rfl ?_
      show Steps p.tables e below (T8.setTop (mkF m 74 #[.val (.long p0), .second, .val (.long p1), .second, .val (.long p2), .second, .val (.long p3), .second, .val (.long p4), .second, .val (.int p5), .val (.long (own_max (p2 &&& (9223372036854775807 : Int64)) (1 : Int64))), .second, .val (.long rem), .second, .val (.long (own_max (p4 &&& (9223372036854775807 : Int64)) (1 : Int64))), .second, .val (.long now), .second, .val (.int (0 : Int32)), .unset, .unset, .unset] [(.int (0 : Int32))])) _
      refine XS.ifYes X8.here hx rfl (pc0 := 74) (pc' := 81) rfl (hb hby at_74) rfl ((if0 _ _).trans (teq (by decide : (0 : Int32) = (0 : Int32))).1) (by decide) (by decide) ?_
      exact kt)
    obtain ⟨T11, h11, X11, e11, E11, A11, D11, -, st11⟩ := newO X8 hx hZ hown (hw _ (List.mem_of_getElem? (i := 9) rfl)) (hw _ (List.mem_of_getElem? (i := 10) rfl)) (hw _ (List.mem_of_getElem? (i := 11) rfl)) e8 (g := (mkF m 81 #[.val (.long p0), .second, .val (.long p1), .second, .val (.long p2), .second, .val (.long p3), .second, .val (.long p4), .second, .val (.int p5), .val (.long (own_max (p2 &&& (9223372036854775807 : Int64)) (1 : Int64))), .second, .val (.long rem), .second, .val (.long (own_max (p4 &&& (9223372036854775807 : Int64)) (1 : Int64))), .second, .val (.long now), .second, .val (.int (0 : Int32)), .unset, .unset, .unset] [])) rfl (hb hby at_81) (by decide) (by decide)
    obtain ⟨b, g11⟩ : ∃ z, z = h0.size := ⟨_, rfl⟩
    rw [← g11] at A11 D11 st11
    have O_b : n0 ≤ b := Nat.le_trans Z0 (Nat.le_of_eq g11.symm)
    have Z11 : n0 ≤ h11.size := Nat.le_trans Z0 E11.1
    have pre11s : ∀ tg, Steps p.tables e below (T11.setTop (mkF m 84 #[.val (.long p0), .second, .val (.long p1), .second, .val (.long p2), .second, .val (.long p3), .second, .val (.long p4), .second, .val (.int p5), .val (.long (own_max (p2 &&& (9223372036854775807 : Int64)) (1 : Int64))), .second, .val (.long rem), .second, .val (.long (own_max (p4 &&& (9223372036854775807 : Int64)) (1 : Int64))), .second, .val (.long now), .second, .val (.int (0 : Int32)), .unset, .unset, .unset] [(.ref b)])) tg → G tg := fun tg kt => pre10 tg (st11 tg kt)
    have FqueuedAfter_b : Fld Z h11 b "com/example/floodgate/floodgate/store/QueueTail" "queuedAfter" "J" (.long (0 : Int64)) := D11 (Or.inr (hw _ (List.mem_of_getElem? (i := 19) rfl))) (ty := .long) (by decide)
    have FlastMillis_b : Fld Z h11 b "com/example/floodgate/floodgate/store/QueueTail" "lastMillis" "J" (.long (0 : Int64)) := D11 (Or.inr (hw _ (List.mem_of_getElem? (i := 21) rfl))) (ty := .long) (by decide)
    have FlastRemainder_b : Fld Z h11 b "com/example/floodgate/floodgate/store/QueueTail" "lastRemainder" "J" (.long (0 : Int64)) := D11 (Or.inr (hw _ (List.mem_of_getElem? (i := 23) rfl))) (ty := .long) (by decide)
    have Frate_b : Fld Z h11 b "com/example/floodgate/floodgate/store/QueueTail" "rate" "J" (.long (0 : Int64)) := D11 (Or.inr (hw _ (List.mem_of_getElem? (i := 25) rfl))) (ty := .long) (by decide)
    have FperiodMillis_b : Fld Z h11 b "com/example/floodgate/floodgate/store/QueueTail" "periodMillis" "J" (.long (0 : Int64)) := D11 (Or.inr (hw _ (List.mem_of_getElem? (i := 27) rfl))) (ty := .long) (by decide)
    have pre12 : ∀ tg, Steps p.tables e below (T11.setTop (mkF m 94 #[.val (.long p0), .second, .val (.long p1), .second, .val (.long p2), .second, .val (.long p3), .second, .val (.long p4), .second, .val (.int p5), .val (.long (own_max (p2 &&& (9223372036854775807 : Int64)) (1 : Int64))), .second, .val (.long rem), .second, .val (.long (own_max (p4 &&& (9223372036854775807 : Int64)) (1 : Int64))), .second, .val (.long now), .second, .val (.int (0 : Int32)), .unset, .unset, .unset] [(.long (own_max (p4 &&& (9223372036854775807 : Int64)) (1 : Int64))), (.long (own_max (p2 &&& (9223372036854775807 : Int64)) (1 : Int64))), (.long rem), (.long p0), (.long p4), (.ref b), (.ref b)])) tg → G tg := fun tg kt => pre11s tg (by
      show Steps p.tables e below (T11.setTop (mkF m 84 #[.val (.long p0), .second, .val (.long p1), .second, .val (.long p2), .second, .val (.long p3), .second, .val (.long p4), .second, .val (.int p5), .val (.long (own_max (p2 &&& (9223372036854775807 : Int64)) (1 : Int64))), .second, .val (.long rem), .second, .val (.long (own_max (p4 &&& (9223372036854775807 : Int64)) (1 : Int64))), .second, .val (.long now), .second, .val (.int (0 : Int32)), .unset, .unset, .unset] [(.ref b)])) _
      refine XS.dup X11.here hx rfl (hb hby at_84) rfl rfl ?_
      show Steps p.tables e below (T11.setTop (mkF m 85 #[.val (.long p0), .second, .val (.long p1), .second, .val (.long p2), .second, .val (.long p3), .second, .val (.long p4), .second, .val (.int p5), .val (.long (own_max (p2 &&& (9223372036854775807 : Int64)) (1 : Int64))), .second, .val (.long rem), .second, .val (.long (own_max (p4 &&& (9223372036854775807 : Int64)) (1 : Int64))), .second, .val (.long now), .second, .val (.int (0 : Int32)), .unset, .unset, .unset] [(.ref b), (.ref b)])) _
      refine XS.lload X11.here hx rfl (hb hby at_85) rfl ?_
      show Steps p.tables e below (T11.setTop (mkF m 87 #[.val (.long p0), .second, .val (.long p1), .second, .val (.long p2), .second, .val (.long p3), .second, .val (.long p4), .second, .val (.int p5), .val (.long (own_max (p2 &&& (9223372036854775807 : Int64)) (1 : Int64))), .second, .val (.long rem), .second, .val (.long (own_max (p4 &&& (9223372036854775807 : Int64)) (1 : Int64))), .second, .val (.long now), .second, .val (.int (0 : Int32)), .unset, .unset, .unset] [(.long p4), (.ref b), (.ref b)])) _
      refine XS.lloadN X11.here hx rfl (hb hby at_87) rfl ?_
      show Steps p.tables e below (T11.setTop (mkF m 88 #[.val (.long p0), .second, .val (.long p1), .second, .val (.long p2), .second, .val (.long p3), .second, .val (.long p4), .second, .val (.int p5), .val (.long (own_max (p2 &&& (9223372036854775807 : Int64)) (1 : Int64))), .second, .val (.long rem), .second, .val (.long (own_max (p4 &&& (9223372036854775807 : Int64)) (1 : Int64))), .second, .val (.long now), .second, .val (.int (0 : Int32)), .unset, .unset, .unset] [(.long p0), (.long p4), (.ref b), (.ref b)])) _
      refine XS.lload X11.here hx rfl (hb hby at_88) rfl ?_
      show Steps p.tables e below (T11.setTop (mkF m 90 #[.val (.long p0), .second, .val (.long p1), .second, .val (.long p2), .second, .val (.long p3), .second, .val (.long p4), .second, .val (.int p5), .val (.long (own_max (p2 &&& (9223372036854775807 : Int64)) (1 : Int64))), .second, .val (.long rem), .second, .val (.long (own_max (p4 &&& (9223372036854775807 : Int64)) (1 : Int64))), .second, .val (.long now), .second, .val (.int (0 : Int32)), .unset, .unset, .unset] [(.long rem), (.long p0), (.long p4), (.ref b), (.ref b)])) _
      refine XS.lload X11.here hx rfl (hb hby at_90) rfl ?_
      show Steps p.tables e below (T11.setTop (mkF m 92 #[.val (.long p0), .second, .val (.long p1), .second, .val (.long p2), .second, .val (.long p3), .second, .val (.long p4), .second, .val (.int p5), .val (.long (own_max (p2 &&& (9223372036854775807 : Int64)) (1 : Int64))), .second, .val (.long rem), .second, .val (.long (own_max (p4 &&& (9223372036854775807 : Int64)) (1 : Int64))), .second, .val (.long now), .second, .val (.int (0 : Int32)), .unset, .unset, .unset] [(.long (own_max (p2 &&& (9223372036854775807 : Int64)) (1 : Int64))), (.long rem), (.long p0), (.long p4), (.ref b), (.ref b)])) _
      refine XS.lload X11.here hx rfl (hb hby at_92) rfl ?_
      exact kt)
    obtain ⟨_, _, ⟨T13, L13, k13, n13⟩, -, X13, ⟨Lc13, hQ13, l13, y13, z13⟩, st13⟩ := X11.specialBack hx (y := (⟨"com/example/floodgate/floodgate/store/QueueTail", "<init>", "(JJJJJ)V"⟩ : MethodName)) rfl hown (mvT hZ (hw _ (List.mem_of_getElem? (i := 12) rfl))) (mvT hZ (hw _ (List.mem_of_getElem? (i := 13) rfl))) (mvT hZ (hw _ (List.mem_of_getElem? (i := 14) rfl))) (by decide) (backOf (W := 1) (rm3 l Z a0 hw [] b p4 p0 rem (own_max (p2 &&& (9223372036854775807 : Int64)) (1 : Int64)) (own_max (p4 &&& (9223372036854775807 : Int64)) (1 : Int64)) h11 n0 Z11 FqueuedAfter_b FlastMillis_b FlastRemainder_b Frate_b FperiodMillis_b A11 O_b) hZ (hw _ (List.mem_of_getElem? (i := 14) rfl)) (hw _ (List.mem_of_getElem? (i := 11) rfl)) (by decide) (by decide)) (g := (mkF m 94 #[.val (.long p0), .second, .val (.long p1), .second, .val (.long p2), .second, .val (.long p3), .second, .val (.long p4), .second, .val (.int p5), .val (.long (own_max (p2 &&& (9223372036854775807 : Int64)) (1 : Int64))), .second, .val (.long rem), .second, .val (.long (own_max (p4 &&& (9223372036854775807 : Int64)) (1 : Int64))), .second, .val (.long now), .second, .val (.int (0 : Int32)), .unset, .unset, .unset] [(.long (own_max (p4 &&& (9223372036854775807 : Int64)) (1 : Int64))), (.long (own_max (p2 &&& (9223372036854775807 : Int64)) (1 : Int64))), (.long rem), (.long p0), (.long p4), (.ref b), (.ref b)])) rfl (by rw [hml]; rfl) (Steps.refl _) (a := b) (argsL := [(.long p4), (.long p0), (.long rem), (.long (own_max (p2 &&& (9223372036854775807 : Int64)) (1 : Int64))), (.long (own_max (p4 &&& (9223372036854775807 : Int64)) (1 : Int64)))]) (rest := [(.ref b)]) (lenOf pd_2 rfl) rfl (by show 2 * 0 + _ ≤ _; exact Nat.le_of_eq rfl) (hb hby at_94) (fun _ _ => ⟨rfl, e11, (Nat.le_of_ble_eq_true rfl), (Nat.le_of_ble_eq_true rfl)⟩)
    dsimp only [Pt.U, Pt.locs, Pt.cells, Pt.slots] at X13 l13 y13 z13 st13 hQ13
    subst l13 y13 z13
    obtain ⟨rfl, N13q, K13, Fl13, Fm13⟩ := hQ13
    have N13 := Fr.app N8 N13q
    have pre13s : ∀ tg, Steps p.tables e below (T13.setTop (mkF m 97 #[.val (.long p0), .second, .val (.long p1), .second, .val (.long p2), .second, .val (.long p3), .second, .val (.long p4), .second, .val (.int p5), .val (.long (own_max (p2 &&& (9223372036854775807 : Int64)) (1 : Int64))), .second, .val (.long rem), .second, .val (.long (own_max (p4 &&& (9223372036854775807 : Int64)) (1 : Int64))), .second, .val (.long now), .second, .val (.int (0 : Int32)), .unset, .unset, .unset] [(.ref b)])) tg → G tg := fun tg kt => pre12 tg (st13.trans kt)
    have Z13 : n0 ≤ T13.heap.size := Nat.le_trans Z11 K13.1
    have A11_14 := A11.keep K13
    have pre15 : ∀ tg, Steps p.tables e below (T13.setTop (mkF m 103 #[.val (.long p0), .second, .val (.long p1), .second, .val (.long p2), .second, .val (.long p3), .second, .val (.long p4), .second, .val (.int p5), .val (.long (own_max (p2 &&& (9223372036854775807 : Int64)) (1 : Int64))), .second, .val (.long rem), .second, .val (.long (own_max (p4 &&& (9223372036854775807 : Int64)) (1 : Int64))), .second, .val (.long now), .second, .val (.int (0 : Int32)), .val (.ref b), .unset, .unset] [(.long now), (.ref b)])) tg → G tg := fun tg kt => pre13s tg (by
      show Steps p.tables e below (T13.setTop (mkF m 97 #[.val (.long p0), .second, .val (.long p1), .second, .val (.long p2), .second, .val (.long p3), .second, .val (.long p4), .second, .val (.int p5), .val (.long (own_max (p2 &&& (9223372036854775807 : Int64)) (1 : Int64))), .second, .val (.long rem), .second, .val (.long (own_max (p4 &&& (9223372036854775807 : Int64)) (1 : Int64))), .second, .val (.long now), .second, .val (.int (0 : Int32)), .unset, .unset, .unset] [(.ref b)])) _
      refine XS.astore X13.here hx rfl (hb hby at_97) rfl rfl (l' := #[.val (.long p0), .second, .val (.long p1), .second, .val (.long p2), .second, .val (.long p3), .second, .val (.long p4), .second, .val (.int p5), .val (.long (own_max (p2 &&& (9223372036854775807 : Int64)) (1 : Int64))), .second, .val (.long rem), .second, .val (.long (own_max (p4 &&& (9223372036854775807 : Int64)) (1 : Int64))), .second, .val (.long now), .second, .val (.int (0 : Int32)), .val (.ref b), .unset, .unset]) rfl ?_
      show Steps p.tables e below (T13.setTop (mkF m 99 #[.val (.long p0), .second, .val (.long p1), .second, .val (.long p2), .second, .val (.long p3), .second, .val (.long p4), .second, .val (.int p5), .val (.long (own_max (p2 &&& (9223372036854775807 : Int64)) (1 : Int64))), .second, .val (.long rem), .second, .val (.long (own_max (p4 &&& (9223372036854775807 : Int64)) (1 : Int64))), .second, .val (.long now), .second, .val (.int (0 : Int32)), .val (.ref b), .unset, .unset] [])) _
      refine XS.aload X13.here hx rfl (hb hby at_99) rfl rfl ?_
      show Steps p.tables e below (T13.setTop (mkF m 101 #[.val (.long p0), .second, .val (.long p1), .second, .val (.long p2), .second, .val (.long p3), .second, .val (.long p4), .second, .val (.int p5), .val (.long (own_max (p2 &&& (9223372036854775807 : Int64)) (1 : Int64))), .second, .val (.long rem), .second, .val (.long (own_max (p4 &&& (9223372036854775807 : Int64)) (1 : Int64))), .second, .val (.long now), .second, .val (.int (0 : Int32)), .val (.ref b), .unset, .unset] [(.ref b)])) _
      refine XS.lload X13.here hx rfl (hb hby at_101) rfl ?_
      exact kt)
    by_cases hwt : own_wait p0 rem now = true
    · skip
      obtain ⟨_, _, ⟨T16, L16, k16, n16⟩, -, X16, ⟨Lc16, hQ16, l16, y16, z16⟩, st16⟩ := Jvm.LawKit.callS X13 hx (y := (⟨"com/example/floodgate/floodgate/store/QueueTail", "stillWaiting", "(Lcom/example/floodgate/floodgate/store/QueueTail;J)Lcom/example/floodgate/floodgate/store/QueueTail;"⟩ : MethodName)) hown (mvT hZ (hw _ (List.mem_of_getElem? (i := 28) rfl))) (mvT hZ (hw _ (List.mem_of_getElem? (i := 29) rfl))) (mvT hZ (hw _ (List.mem_of_getElem? (i := 11) rfl))) (mvT hZ (hw _ (List.mem_of_getElem? (i := 30) rfl))) (by decide) (backOf (W := 0) (rm5 l Z a0 hw [] b now p0 rem T13.heap n0 Z13 Fl13 Fm13) hZ (hw _ (List.mem_of_getElem? (i := 30) rfl)) (hw _ (List.mem_of_getElem? (i := 11) rfl)) (by decide) (by decide)) (g := (mkF m 103 #[.val (.long p0), .second, .val (.long p1), .second, .val (.long p2), .second, .val (.long p3), .second, .val (.long p4), .second, .val (.int p5), .val (.long (own_max (p2 &&& (9223372036854775807 : Int64)) (1 : Int64))), .second, .val (.long rem), .second, .val (.long (own_max (p4 &&& (9223372036854775807 : Int64)) (1 : Int64))), .second, .val (.long now), .second, .val (.int (0 : Int32)), .val (.ref b), .unset, .unset] [(.long now), (.ref b)])) rfl (by rw [hml]; rfl) (argsL := [(.ref b), (.long now)]) (rest := []) (lenOf pd_3 rfl) rfl (by show 2 * 0 + _ ≤ _; exact Nat.le_of_eq rfl) (hb hby at_103) (fun _ _ => ⟨rfl, rfl, (Nat.le_of_ble_eq_true rfl), (Nat.le_of_ble_eq_true rfl)⟩)
      dsimp only [Pt.U, Pt.locs, Pt.cells, Pt.slots] at X16 l16 y16 z16 st16 hQ16
      subst l16 y16 z16
      obtain ⟨hv16, N16q, e16⟩ := hQ16
      rw [if_pos hwt] at hv16
      subst hv16
      have N16 := Fr.app N13 N16q
      have pre16s : ∀ tg, Steps p.tables e below (T16.setTop (mkF m 106 #[.val (.long p0), .second, .val (.long p1), .second, .val (.long p2), .second, .val (.long p3), .second, .val (.long p4), .second, .val (.int p5), .val (.long (own_max (p2 &&& (9223372036854775807 : Int64)) (1 : Int64))), .second, .val (.long rem), .second, .val (.long (own_max (p4 &&& (9223372036854775807 : Int64)) (1 : Int64))), .second, .val (.long now), .second, .val (.int (0 : Int32)), .val (.ref b), .unset, .unset] [(.ref b)])) tg → G tg := fun tg kt => pre15 tg (st16 tg kt)
      have pre17 : ∀ tg, Steps p.tables e below (T16.setTop (mkF m 129 #[.val (.long p0), .second, .val (.long p1), .second, .val (.long p2), .second, .val (.long p3), .second, .val (.long p4), .second, .val (.int p5), .val (.long (own_max (p2 &&& (9223372036854775807 : Int64)) (1 : Int64))), .second, .val (.long rem), .second, .val (.long (own_max (p4 &&& (9223372036854775807 : Int64)) (1 : Int64))), .second, .val (.long now), .second, .val (.int (0 : Int32)), .val (.ref b), .val (.ref b), .unset] [(.long now), (.long rem), (.long p0)])) tg → G tg := fun tg kt => pre16s tg (by
        show Steps p.tables e below (T16.setTop (mkF m 106 #[.val (.long p0), .second, .val (.long p1), .second, .val (.long p2), .second, .val (.long p3), .second, .val (.long p4), .second, .val (.int p5), .val (.long (own_max (p2 &&& (9223372036854775807 : Int64)) (1 : Int64))), .second, .val (.long rem), .second, .val (.long (own_max (p4 &&& (9223372036854775807 : Int64)) (1 : Int64))), .second, .val (.long now), .second, .val (.int (0 : Int32)), .val (.ref b), .unset, .unset] [(.ref b)])) _
        refine XS.astore X16.here hx rfl (hb hby at_106) rfl rfl (l' := #[.val (.long p0), .second, .val (.long p1), .second, .val (.long p2), .second, .val (.long p3), .second, .val (.long p4), .second, .val (.int p5), .val (.long (own_max (p2 &&& (9223372036854775807 : Int64)) (1 : Int64))), .second, .val (.long rem), .second, .val (.long (own_max (p4 &&& (9223372036854775807 : Int64)) (1 : Int64))), .second, .val (.long now), .second, .val (.int (0 : Int32)), .val (.ref b), .val (.ref b), .unset]) rfl ?_
        show Steps p.tables e below (T16.setTop (mkF m 108 #[.val (.long p0), .second, .val (.long p1), .second, .val (.long p2), .second, .val (.long p3), .second, .val (.long p4), .second, .val (.int p5), .val (.long (own_max (p2 &&& (9223372036854775807 : Int64)) (1 : Int64))), .second, .val (.long rem), .second, .val (.long (own_max (p4 &&& (9223372036854775807 : Int64)) (1 : Int64))), .second, .val (.long now), .second, .val (.int (0 : Int32)), .val (.ref b), .val (.ref b), .unset] [])) _
        refine XS.iload X16.here hx rfl (hb hby at_108) rfl ?_
        show Steps p.tables e below (T16.setTop (mkF m 110 #[.val (.long p0), .second, .val (.long p1), .second, .val (.long p2), .second, .val (.long p3), .second, .val (.long p4), .second, .val (.int p5), .val (.long (own_max (p2 &&& (9223372036854775807 : Int64)) (1 : Int64))), .second, .val (.long rem), .second, .val (.long (own_max (p4 &&& (9223372036854775807 : Int64)) (1 : Int64))), .second, .val (.long now), .second, .val (.int (0 : Int32)), .val (.ref b), .val (.ref b), .unset] [(.int (0 : Int32))])) _
        refine XS.ifYes X16.here hx rfl (pc0 := 110) (pc' := 124) rfl (hb hby at_110) rfl ((if0 _ _).trans (teq (by decide : (0 : Int32) = (0 : Int32))).1) (by decide) (by decide) ?_
        show Steps p.tables e below (T16.setTop (mkF m 124 #[.val (.long p0), .second, .val (.long p1), .second, .val (.long p2), .second, .val (.long p3), .second, .val (.long p4), .second, .val (.int p5), .val (.long (own_max (p2 &&& (9223372036854775807 : Int64)) (1 : Int64))), .second, .val (.long rem), .second, .val (.long (own_max (p4 &&& (9223372036854775807 : Int64)) (1 : Int64))), .second, .val (.long now), .second, .val (.int (0 : Int32)), .val (.ref b), .val (.ref b), .unset] [])) _
        refine XS.lloadN X16.here hx rfl (hb hby at_124) rfl ?_
        show Steps p.tables e below (T16.setTop (mkF m 125 #[.val (.long p0), .second, .val (.long p1), .second, .val (.long p2), .second, .val (.long p3), .second, .val (.long p4), .second, .val (.int p5), .val (.long (own_max (p2 &&& (9223372036854775807 : Int64)) (1 : Int64))), .second, .val (.long rem), .second, .val (.long (own_max (p4 &&& (9223372036854775807 : Int64)) (1 : Int64))), .second, .val (.long now), .second, .val (.int (0 : Int32)), .val (.ref b), .val (.ref b), .unset] [(.long p0)])) _
        refine XS.lload X16.here hx rfl (hb hby at_125) rfl ?_
        show Steps p.tables e below (T16.setTop (mkF m 127 #[.val (.long p0), .second, .val (.long p1), .second, .val (.long p2), .second, .val (.long p3), .second, .val (.long p4), .second, .val (.int p5), .val (.long (own_max (p2 &&& (9223372036854775807 : Int64)) (1 : Int64))), .second, .val (.long rem), .second, .val (.long (own_max (p4 &&& (9223372036854775807 : Int64)) (1 : Int64))), .second, .val (.long now), .second, .val (.int (0 : Int32)), .val (.ref b), .val (.ref b), .unset] [(.long rem), (.long p0)])) _
        refine XS.lload X16.here hx rfl (hb hby at_127) rfl ?_
        exact kt)
      obtain ⟨_, _, ⟨T18, L18, k18, n18⟩, -, X18, ⟨Lc18, hQ18, l18, y18, z18⟩, st18⟩ := Jvm.LawKit.callS X16 hx (y := (⟨"com/example/floodgate/floodgate/store/QueueTailStillWaitingPinLaw", "waitsByDeparture", "(JJJ)Z"⟩ : MethodName)) hown (mvT hZ (hw _ (List.mem_of_getElem? (i := 31) rfl))) (mvT hZ (hw _ (List.mem_of_getElem? (i := 32) rfl))) (mvT hZ (hw _ (List.mem_of_getElem? (i := 7) rfl))) (mvT hZ (hw _ (List.mem_of_getElem? (i := 33) rfl))) (by decide) (backOf (W := 0) (rm6 l Z a0 hw [] p0 rem now T13.heap n0 Z13 ) hZ (hw _ (List.mem_of_getElem? (i := 33) rfl)) (hw _ (List.mem_of_getElem? (i := 7) rfl)) (by decide) (by decide)) (g := (mkF m 129 #[.val (.long p0), .second, .val (.long p1), .second, .val (.long p2), .second, .val (.long p3), .second, .val (.long p4), .second, .val (.int p5), .val (.long (own_max (p2 &&& (9223372036854775807 : Int64)) (1 : Int64))), .second, .val (.long rem), .second, .val (.long (own_max (p4 &&& (9223372036854775807 : Int64)) (1 : Int64))), .second, .val (.long now), .second, .val (.int (0 : Int32)), .val (.ref b), .val (.ref b), .unset] [(.long now), (.long rem), (.long p0)])) rfl (by rw [hml]; rfl) (argsL := [(.long p0), (.long rem), (.long now)]) (rest := []) (lenOf pd_4 rfl) rfl (by show 2 * 0 + _ ≤ _; exact Nat.le_of_eq rfl) (hb hby at_129) (fun _ _ => ⟨rfl, e16, (Nat.le_of_ble_eq_true rfl), (Nat.le_of_ble_eq_true rfl)⟩)
      dsimp only [Pt.U, Pt.locs, Pt.cells, Pt.slots] at X18 l18 y18 z18 st18 hQ18
      subst l18 y18 z18
      obtain ⟨hv18, N18q, e18⟩ := hQ18
      rw [own_eq, if_pos hwt] at hv18
      subst hv18
      have N18 := Fr.app N16 N18q
      have pre18s : ∀ tg, Steps p.tables e below (T18.setTop (mkF m 132 #[.val (.long p0), .second, .val (.long p1), .second, .val (.long p2), .second, .val (.long p3), .second, .val (.long p4), .second, .val (.int p5), .val (.long (own_max (p2 &&& (9223372036854775807 : Int64)) (1 : Int64))), .second, .val (.long rem), .second, .val (.long (own_max (p4 &&& (9223372036854775807 : Int64)) (1 : Int64))), .second, .val (.long now), .second, .val (.int (0 : Int32)), .val (.ref b), .val (.ref b), .unset] [(.int (1 : Int32))])) tg → G tg := fun tg kt => pre17 tg (st18 tg kt)
      obtain ⟨fs, hr, hrun, hended, hW, hsame⟩ := X18.leave (v := some (.int (1 : Int32))) (fun h => by rw [Bd.returns] at h; cases h)
      subst hG
      refine ⟨_, _, pre18s _ ?_, hrun, hended, _, _, rfl, ?_, ⟨_, rfl⟩, hW, hsame.mono (by decide) (by decide)⟩
      · skip
        show Steps p.tables e below (T18.setTop (mkF m 132 #[.val (.long p0), .second, .val (.long p1), .second, .val (.long p2), .second, .val (.long p3), .second, .val (.long p4), .second, .val (.int p5), .val (.long (own_max (p2 &&& (9223372036854775807 : Int64)) (1 : Int64))), .second, .val (.long rem), .second, .val (.long (own_max (p4 &&& (9223372036854775807 : Int64)) (1 : Int64))), .second, .val (.long now), .second, .val (.int (0 : Int32)), .val (.ref b), .val (.ref b), .unset] [(.int (1 : Int32))])) _
        refine XS.istore X18.here hx rfl (hb hby at_132) rfl (l' := #[.val (.long p0), .second, .val (.long p1), .second, .val (.long p2), .second, .val (.long p3), .second, .val (.long p4), .second, .val (.int p5), .val (.long (own_max (p2 &&& (9223372036854775807 : Int64)) (1 : Int64))), .second, .val (.long rem), .second, .val (.long (own_max (p4 &&& (9223372036854775807 : Int64)) (1 : Int64))), .second, .val (.long now), .second, .val (.int (0 : Int32)), .val (.ref b), .val (.ref b), .val (.int (1 : Int32))]) rfl ?_
        show Steps p.tables e below (T18.setTop (mkF m 134 #[.val (.long p0), .second, .val (.long p1), .second, .val (.long p2), .second, .val (.long p3), .second, .val (.long p4), .second, .val (.int p5), .val (.long (own_max (p2 &&& (9223372036854775807 : Int64)) (1 : Int64))), .second, .val (.long rem), .second, .val (.long (own_max (p4 &&& (9223372036854775807 : Int64)) (1 : Int64))), .second, .val (.long now), .second, .val (.int (0 : Int32)), .val (.ref b), .val (.ref b), .val (.int (1 : Int32))] [])) _
        refine XS.iload X18.here hx rfl (hb hby at_134) rfl ?_
        show Steps p.tables e below (T18.setTop (mkF m 136 #[.val (.long p0), .second, .val (.long p1), .second, .val (.long p2), .second, .val (.long p3), .second, .val (.long p4), .second, .val (.int p5), .val (.long (own_max (p2 &&& (9223372036854775807 : Int64)) (1 : Int64))), .second, .val (.long rem), .second, .val (.long (own_max (p4 &&& (9223372036854775807 : Int64)) (1 : Int64))), .second, .val (.long now), .second, .val (.int (0 : Int32)), .val (.ref b), .val (.ref b), .val (.int (1 : Int32))] [(.int (1 : Int32))])) _
        refine XS.ifNo X18.here hx rfl (hb hby at_136) rfl ((if0 _ _).trans (feq (by decide : ¬ ((1 : Int32) = (0 : Int32)))).1) ?_
        show Steps p.tables e below (T18.setTop (mkF m 139 #[.val (.long p0), .second, .val (.long p1), .second, .val (.long p2), .second, .val (.long p3), .second, .val (.long p4), .second, .val (.int p5), .val (.long (own_max (p2 &&& (9223372036854775807 : Int64)) (1 : Int64))), .second, .val (.long rem), .second, .val (.long (own_max (p4 &&& (9223372036854775807 : Int64)) (1 : Int64))), .second, .val (.long now), .second, .val (.int (0 : Int32)), .val (.ref b), .val (.ref b), .val (.int (1 : Int32))] [])) _
        refine XS.aload X18.here hx rfl (hb hby at_139) rfl rfl ?_
        show Steps p.tables e below (T18.setTop (mkF m 141 #[.val (.long p0), .second, .val (.long p1), .second, .val (.long p2), .second, .val (.long p3), .second, .val (.long p4), .second, .val (.int p5), .val (.long (own_max (p2 &&& (9223372036854775807 : Int64)) (1 : Int64))), .second, .val (.long rem), .second, .val (.long (own_max (p4 &&& (9223372036854775807 : Int64)) (1 : Int64))), .second, .val (.long now), .second, .val (.int (0 : Int32)), .val (.ref b), .val (.ref b), .val (.int (1 : Int32))] [(.ref b)])) _
        refine XS.aload X18.here hx rfl (hb hby at_141) rfl rfl ?_
        show Steps p.tables e below (T18.setTop (mkF m 143 #[.val (.long p0), .second, .val (.long p1), .second, .val (.long p2), .second, .val (.long p3), .second, .val (.long p4), .second, .val (.int p5), .val (.long (own_max (p2 &&& (9223372036854775807 : Int64)) (1 : Int64))), .second, .val (.long rem), .second, .val (.long (own_max (p4 &&& (9223372036854775807 : Int64)) (1 : Int64))), .second, .val (.long now), .second, .val (.int (0 : Int32)), .val (.ref b), .val (.ref b), .val (.int (1 : Int32))] [(.ref b), (.ref b)])) _
        refine Jvm.RoadKit.acmp (g := (mkF m 143 #[.val (.long p0), .second, .val (.long p1), .second, .val (.long p2), .second, .val (.long p3), .second, .val (.long p4), .second, .val (.int p5), .val (.long (own_max (p2 &&& (9223372036854775807 : Int64)) (1 : Int64))), .second, .val (.long rem), .second, .val (.long (own_max (p4 &&& (9223372036854775807 : Int64)) (1 : Int64))), .second, .val (.long now), .second, .val (.int (0 : Int32)), .val (.ref b), .val (.ref b), .val (.int (1 : Int32))] [(.ref b), (.ref b)])) X18 hx rfl rfl rfl (pc0 := 143) (pc' := 146) (same := true) rfl (hb hby at_143) rfl (decide_eq_true rfl) (by decide) (by decide) ?_
        show Steps p.tables e below (T18.setTop (mkF m 146 #[.val (.long p0), .second, .val (.long p1), .second, .val (.long p2), .second, .val (.long p3), .second, .val (.long p4), .second, .val (.int p5), .val (.long (own_max (p2 &&& (9223372036854775807 : Int64)) (1 : Int64))), .second, .val (.long rem), .second, .val (.long (own_max (p4 &&& (9223372036854775807 : Int64)) (1 : Int64))), .second, .val (.long now), .second, .val (.int (0 : Int32)), .val (.ref b), .val (.ref b), .val (.int (1 : Int32))] [])) _
        refine XS.iconst X18.here hx rfl (hb hby at_146) ?_
        show Steps p.tables e below (T18.setTop (mkF m 147 #[.val (.long p0), .second, .val (.long p1), .second, .val (.long p2), .second, .val (.long p3), .second, .val (.long p4), .second, .val (.int p5), .val (.long (own_max (p2 &&& (9223372036854775807 : Int64)) (1 : Int64))), .second, .val (.long rem), .second, .val (.long (own_max (p4 &&& (9223372036854775807 : Int64)) (1 : Int64))), .second, .val (.long now), .second, .val (.int (0 : Int32)), .val (.ref b), .val (.ref b), .val (.int (1 : Int32))] [(.int (1 : Int32))])) _
        refine XS.goto X18.here hx rfl (pc0 := 147) (pc' := 164) rfl (hb hby at_147) (by decide) (by decide) ?_
        show Steps p.tables e below (T18.setTop (mkF m 164 #[.val (.long p0), .second, .val (.long p1), .second, .val (.long p2), .second, .val (.long p3), .second, .val (.long p4), .second, .val (.int p5), .val (.long (own_max (p2 &&& (9223372036854775807 : Int64)) (1 : Int64))), .second, .val (.long rem), .second, .val (.long (own_max (p4 &&& (9223372036854775807 : Int64)) (1 : Int64))), .second, .val (.long now), .second, .val (.int (0 : Int32)), .val (.ref b), .val (.ref b), .val (.int (1 : Int32))] [(.int (1 : Int32))])) _
        exact retN X18 hx (t := .boolean) Bd.returns (by simp) (hb hby at_164) hr
      · show Q_rm0 Z p0 p1 p2 p3 p4 p5 h0 n0 _ T18.heap _
        rw [e18]
        exact ⟨rfl, N18⟩
    · skip
      obtain ⟨_, _, ⟨T19, L19, k19, n19⟩, -, X19, ⟨Lc19, hQ19, l19, y19, z19⟩, st19⟩ := Jvm.LawKit.callS X13 hx (y := (⟨"com/example/floodgate/floodgate/store/QueueTail", "stillWaiting", "(Lcom/example/floodgate/floodgate/store/QueueTail;J)Lcom/example/floodgate/floodgate/store/QueueTail;"⟩ : MethodName)) hown (mvT hZ (hw _ (List.mem_of_getElem? (i := 28) rfl))) (mvT hZ (hw _ (List.mem_of_getElem? (i := 29) rfl))) (mvT hZ (hw _ (List.mem_of_getElem? (i := 11) rfl))) (mvT hZ (hw _ (List.mem_of_getElem? (i := 30) rfl))) (by decide) (backOf (W := 0) (rm5 l Z a0 hw [] b now p0 rem T13.heap n0 Z13 Fl13 Fm13) hZ (hw _ (List.mem_of_getElem? (i := 30) rfl)) (hw _ (List.mem_of_getElem? (i := 11) rfl)) (by decide) (by decide)) (g := (mkF m 103 #[.val (.long p0), .second, .val (.long p1), .second, .val (.long p2), .second, .val (.long p3), .second, .val (.long p4), .second, .val (.int p5), .val (.long (own_max (p2 &&& (9223372036854775807 : Int64)) (1 : Int64))), .second, .val (.long rem), .second, .val (.long (own_max (p4 &&& (9223372036854775807 : Int64)) (1 : Int64))), .second, .val (.long now), .second, .val (.int (0 : Int32)), .val (.ref b), .unset, .unset] [(.long now), (.ref b)])) rfl (by rw [hml]; rfl) (argsL := [(.ref b), (.long now)]) (rest := []) (lenOf pd_3 rfl) rfl (by show 2 * 0 + _ ≤ _; exact Nat.le_of_eq rfl) (hb hby at_103) (fun _ _ => ⟨rfl, rfl, (Nat.le_of_ble_eq_true rfl), (Nat.le_of_ble_eq_true rfl)⟩)
      dsimp only [Pt.U, Pt.locs, Pt.cells, Pt.slots] at X19 l19 y19 z19 st19 hQ19
      subst l19 y19 z19
      obtain ⟨hv19, N19q, e19⟩ := hQ19
      rw [if_neg hwt] at hv19
      subst hv19
      have N19 := Fr.app N13 N19q
      have pre19s : ∀ tg, Steps p.tables e below (T19.setTop (mkF m 106 #[.val (.long p0), .second, .val (.long p1), .second, .val (.long p2), .second, .val (.long p3), .second, .val (.long p4), .second, .val (.int p5), .val (.long (own_max (p2 &&& (9223372036854775807 : Int64)) (1 : Int64))), .second, .val (.long rem), .second, .val (.long (own_max (p4 &&& (9223372036854775807 : Int64)) (1 : Int64))), .second, .val (.long now), .second, .val (.int (0 : Int32)), .val (.ref b), .unset, .unset] [.null])) tg → G tg := fun tg kt => pre15 tg (st19 tg kt)
      have pre20 : ∀ tg, Steps p.tables e below (T19.setTop (mkF m 129 #[.val (.long p0), .second, .val (.long p1), .second, .val (.long p2), .second, .val (.long p3), .second, .val (.long p4), .second, .val (.int p5), .val (.long (own_max (p2 &&& (9223372036854775807 : Int64)) (1 : Int64))), .second, .val (.long rem), .second, .val (.long (own_max (p4 &&& (9223372036854775807 : Int64)) (1 : Int64))), .second, .val (.long now), .second, .val (.int (0 : Int32)), .val (.ref b), .val .null, .unset] [(.long now), (.long rem), (.long p0)])) tg → G tg := fun tg kt => pre19s tg (by
        show Steps p.tables e below (T19.setTop (mkF m 106 #[.val (.long p0), .second, .val (.long p1), .second, .val (.long p2), .second, .val (.long p3), .second, .val (.long p4), .second, .val (.int p5), .val (.long (own_max (p2 &&& (9223372036854775807 : Int64)) (1 : Int64))), .second, .val (.long rem), .second, .val (.long (own_max (p4 &&& (9223372036854775807 : Int64)) (1 : Int64))), .second, .val (.long now), .second, .val (.int (0 : Int32)), .val (.ref b), .unset, .unset] [.null])) _
        refine XS.astore X19.here hx rfl (hb hby at_106) rfl rfl (l' := #[.val (.long p0), .second, .val (.long p1), .second, .val (.long p2), .second, .val (.long p3), .second, .val (.long p4), .second, .val (.int p5), .val (.long (own_max (p2 &&& (9223372036854775807 : Int64)) (1 : Int64))), .second, .val (.long rem), .second, .val (.long (own_max (p4 &&& (9223372036854775807 : Int64)) (1 : Int64))), .second, .val (.long now), .second, .val (.int (0 : Int32)), .val (.ref b), .val .null, .unset]) rfl ?_
        show Steps p.tables e below (T19.setTop (mkF m 108 #[.val (.long p0), .second, .val (.long p1), .second, .val (.long p2), .second, .val (.long p3), .second, .val (.long p4), .second, .val (.int p5), .val (.long (own_max (p2 &&& (9223372036854775807 : Int64)) (1 : Int64))), .second, .val (.long rem), .second, .val (.long (own_max (p4 &&& (9223372036854775807 : Int64)) (1 : Int64))), .second, .val (.long now), .second, .val (.int (0 : Int32)), .val (.ref b), .val .null, .unset] [])) _
        refine XS.iload X19.here hx rfl (hb hby at_108) rfl ?_
        show Steps p.tables e below (T19.setTop (mkF m 110 #[.val (.long p0), .second, .val (.long p1), .second, .val (.long p2), .second, .val (.long p3), .second, .val (.long p4), .second, .val (.int p5), .val (.long (own_max (p2 &&& (9223372036854775807 : Int64)) (1 : Int64))), .second, .val (.long rem), .second, .val (.long (own_max (p4 &&& (9223372036854775807 : Int64)) (1 : Int64))), .second, .val (.long now), .second, .val (.int (0 : Int32)), .val (.ref b), .val .null, .unset] [(.int (0 : Int32))])) _
        refine XS.ifYes X19.here hx rfl (pc0 := 110) (pc' := 124) rfl (hb hby at_110) rfl ((if0 _ _).trans (teq (by decide : (0 : Int32) = (0 : Int32))).1) (by decide) (by decide) ?_
        show Steps p.tables e below (T19.setTop (mkF m 124 #[.val (.long p0), .second, .val (.long p1), .second, .val (.long p2), .second, .val (.long p3), .second, .val (.long p4), .second, .val (.int p5), .val (.long (own_max (p2 &&& (9223372036854775807 : Int64)) (1 : Int64))), .second, .val (.long rem), .second, .val (.long (own_max (p4 &&& (9223372036854775807 : Int64)) (1 : Int64))), .second, .val (.long now), .second, .val (.int (0 : Int32)), .val (.ref b), .val .null, .unset] [])) _
        refine XS.lloadN X19.here hx rfl (hb hby at_124) rfl ?_
        show Steps p.tables e below (T19.setTop (mkF m 125 #[.val (.long p0), .second, .val (.long p1), .second, .val (.long p2), .second, .val (.long p3), .second, .val (.long p4), .second, .val (.int p5), .val (.long (own_max (p2 &&& (9223372036854775807 : Int64)) (1 : Int64))), .second, .val (.long rem), .second, .val (.long (own_max (p4 &&& (9223372036854775807 : Int64)) (1 : Int64))), .second, .val (.long now), .second, .val (.int (0 : Int32)), .val (.ref b), .val .null, .unset] [(.long p0)])) _
        refine XS.lload X19.here hx rfl (hb hby at_125) rfl ?_
        show Steps p.tables e below (T19.setTop (mkF m 127 #[.val (.long p0), .second, .val (.long p1), .second, .val (.long p2), .second, .val (.long p3), .second, .val (.long p4), .second, .val (.int p5), .val (.long (own_max (p2 &&& (9223372036854775807 : Int64)) (1 : Int64))), .second, .val (.long rem), .second, .val (.long (own_max (p4 &&& (9223372036854775807 : Int64)) (1 : Int64))), .second, .val (.long now), .second, .val (.int (0 : Int32)), .val (.ref b), .val .null, .unset] [(.long rem), (.long p0)])) _
        refine XS.lload X19.here hx rfl (hb hby at_127) rfl ?_
        exact kt)
      obtain ⟨_, _, ⟨T21, L21, k21, n21⟩, -, X21, ⟨Lc21, hQ21, l21, y21, z21⟩, st21⟩ := Jvm.LawKit.callS X19 hx (y := (⟨"com/example/floodgate/floodgate/store/QueueTailStillWaitingPinLaw", "waitsByDeparture", "(JJJ)Z"⟩ : MethodName)) hown (mvT hZ (hw _ (List.mem_of_getElem? (i := 31) rfl))) (mvT hZ (hw _ (List.mem_of_getElem? (i := 32) rfl))) (mvT hZ (hw _ (List.mem_of_getElem? (i := 7) rfl))) (mvT hZ (hw _ (List.mem_of_getElem? (i := 33) rfl))) (by decide) (backOf (W := 0) (rm6 l Z a0 hw [] p0 rem now T13.heap n0 Z13 ) hZ (hw _ (List.mem_of_getElem? (i := 33) rfl)) (hw _ (List.mem_of_getElem? (i := 7) rfl)) (by decide) (by decide)) (g := (mkF m 129 #[.val (.long p0), .second, .val (.long p1), .second, .val (.long p2), .second, .val (.long p3), .second, .val (.long p4), .second, .val (.int p5), .val (.long (own_max (p2 &&& (9223372036854775807 : Int64)) (1 : Int64))), .second, .val (.long rem), .second, .val (.long (own_max (p4 &&& (9223372036854775807 : Int64)) (1 : Int64))), .second, .val (.long now), .second, .val (.int (0 : Int32)), .val (.ref b), .val .null, .unset] [(.long now), (.long rem), (.long p0)])) rfl (by rw [hml]; rfl) (argsL := [(.long p0), (.long rem), (.long now)]) (rest := []) (lenOf pd_4 rfl) rfl (by show 2 * 0 + _ ≤ _; exact Nat.le_of_eq rfl) (hb hby at_129) (fun _ _ => ⟨rfl, e19, (Nat.le_of_ble_eq_true rfl), (Nat.le_of_ble_eq_true rfl)⟩)
      dsimp only [Pt.U, Pt.locs, Pt.cells, Pt.slots] at X21 l21 y21 z21 st21 hQ21
      subst l21 y21 z21
      obtain ⟨hv21, N21q, e21⟩ := hQ21
      rw [own_eq, if_neg hwt] at hv21
      subst hv21
      have N21 := Fr.app N19 N21q
      have pre21s : ∀ tg, Steps p.tables e below (T21.setTop (mkF m 132 #[.val (.long p0), .second, .val (.long p1), .second, .val (.long p2), .second, .val (.long p3), .second, .val (.long p4), .second, .val (.int p5), .val (.long (own_max (p2 &&& (9223372036854775807 : Int64)) (1 : Int64))), .second, .val (.long rem), .second, .val (.long (own_max (p4 &&& (9223372036854775807 : Int64)) (1 : Int64))), .second, .val (.long now), .second, .val (.int (0 : Int32)), .val (.ref b), .val .null, .unset] [(.int (0 : Int32))])) tg → G tg := fun tg kt => pre20 tg (st21 tg kt)
      obtain ⟨fs, hr, hrun, hended, hW, hsame⟩ := X21.leave (v := some (.int (1 : Int32))) (fun h => by rw [Bd.returns] at h; cases h)
      subst hG
      refine ⟨_, _, pre21s _ ?_, hrun, hended, _, _, rfl, ?_, ⟨_, rfl⟩, hW, hsame.mono (by decide) (by decide)⟩
      · skip
        show Steps p.tables e below (T21.setTop (mkF m 132 #[.val (.long p0), .second, .val (.long p1), .second, .val (.long p2), .second, .val (.long p3), .second, .val (.long p4), .second, .val (.int p5), .val (.long (own_max (p2 &&& (9223372036854775807 : Int64)) (1 : Int64))), .second, .val (.long rem), .second, .val (.long (own_max (p4 &&& (9223372036854775807 : Int64)) (1 : Int64))), .second, .val (.long now), .second, .val (.int (0 : Int32)), .val (.ref b), .val .null, .unset] [(.int (0 : Int32))])) _
        refine XS.istore X21.here hx rfl (hb hby at_132) rfl (l' := #[.val (.long p0), .second, .val (.long p1), .second, .val (.long p2), .second, .val (.long p3), .second, .val (.long p4), .second, .val (.int p5), .val (.long (own_max (p2 &&& (9223372036854775807 : Int64)) (1 : Int64))), .second, .val (.long rem), .second, .val (.long (own_max (p4 &&& (9223372036854775807 : Int64)) (1 : Int64))), .second, .val (.long now), .second, .val (.int (0 : Int32)), .val (.ref b), .val .null, .val (.int (0 : Int32))]) rfl ?_
        show Steps p.tables e below (T21.setTop (mkF m 134 #[.val (.long p0), .second, .val (.long p1), .second, .val (.long p2), .second, .val (.long p3), .second, .val (.long p4), .second, .val (.int p5), .val (.long (own_max (p2 &&& (9223372036854775807 : Int64)) (1 : Int64))), .second, .val (.long rem), .second, .val (.long (own_max (p4 &&& (9223372036854775807 : Int64)) (1 : Int64))), .second, .val (.long now), .second, .val (.int (0 : Int32)), .val (.ref b), .val .null, .val (.int (0 : Int32))] [])) _
        refine XS.iload X21.here hx rfl (hb hby at_134) rfl ?_
        show Steps p.tables e below (T21.setTop (mkF m 136 #[.val (.long p0), .second, .val (.long p1), .second, .val (.long p2), .second, .val (.long p3), .second, .val (.long p4), .second, .val (.int p5), .val (.long (own_max (p2 &&& (9223372036854775807 : Int64)) (1 : Int64))), .second, .val (.long rem), .second, .val (.long (own_max (p4 &&& (9223372036854775807 : Int64)) (1 : Int64))), .second, .val (.long now), .second, .val (.int (0 : Int32)), .val (.ref b), .val .null, .val (.int (0 : Int32))] [(.int (0 : Int32))])) _
        refine XS.ifYes X21.here hx rfl (pc0 := 136) (pc' := 154) rfl (hb hby at_136) rfl ((if0 _ _).trans (teq (by decide : (0 : Int32) = (0 : Int32))).1) (by decide) (by decide) ?_
        show Steps p.tables e below (T21.setTop (mkF m 154 #[.val (.long p0), .second, .val (.long p1), .second, .val (.long p2), .second, .val (.long p3), .second, .val (.long p4), .second, .val (.int p5), .val (.long (own_max (p2 &&& (9223372036854775807 : Int64)) (1 : Int64))), .second, .val (.long rem), .second, .val (.long (own_max (p4 &&& (9223372036854775807 : Int64)) (1 : Int64))), .second, .val (.long now), .second, .val (.int (0 : Int32)), .val (.ref b), .val .null, .val (.int (0 : Int32))] [])) _
        refine XS.aload X21.here hx rfl (hb hby at_154) rfl rfl ?_
        show Steps p.tables e below (T21.setTop (mkF m 156 #[.val (.long p0), .second, .val (.long p1), .second, .val (.long p2), .second, .val (.long p3), .second, .val (.long p4), .second, .val (.int p5), .val (.long (own_max (p2 &&& (9223372036854775807 : Int64)) (1 : Int64))), .second, .val (.long rem), .second, .val (.long (own_max (p4 &&& (9223372036854775807 : Int64)) (1 : Int64))), .second, .val (.long now), .second, .val (.int (0 : Int32)), .val (.ref b), .val .null, .val (.int (0 : Int32))] [.null])) _
        refine XS.ifnonnullNo X21.here hx rfl (hb hby at_156) rfl ?_
        show Steps p.tables e below (T21.setTop (mkF m 159 #[.val (.long p0), .second, .val (.long p1), .second, .val (.long p2), .second, .val (.long p3), .second, .val (.long p4), .second, .val (.int p5), .val (.long (own_max (p2 &&& (9223372036854775807 : Int64)) (1 : Int64))), .second, .val (.long rem), .second, .val (.long (own_max (p4 &&& (9223372036854775807 : Int64)) (1 : Int64))), .second, .val (.long now), .second, .val (.int (0 : Int32)), .val (.ref b), .val .null, .val (.int (0 : Int32))] [])) _
        refine XS.iconst X21.here hx rfl (hb hby at_159) ?_
        show Steps p.tables e below (T21.setTop (mkF m 160 #[.val (.long p0), .second, .val (.long p1), .second, .val (.long p2), .second, .val (.long p3), .second, .val (.long p4), .second, .val (.int p5), .val (.long (own_max (p2 &&& (9223372036854775807 : Int64)) (1 : Int64))), .second, .val (.long rem), .second, .val (.long (own_max (p4 &&& (9223372036854775807 : Int64)) (1 : Int64))), .second, .val (.long now), .second, .val (.int (0 : Int32)), .val (.ref b), .val .null, .val (.int (0 : Int32))] [(.int (1 : Int32))])) _
        refine XS.goto X21.here hx rfl (pc0 := 160) (pc' := 164) rfl (hb hby at_160) (by decide) (by decide) ?_
        show Steps p.tables e below (T21.setTop (mkF m 164 #[.val (.long p0), .second, .val (.long p1), .second, .val (.long p2), .second, .val (.long p3), .second, .val (.long p4), .second, .val (.int p5), .val (.long (own_max (p2 &&& (9223372036854775807 : Int64)) (1 : Int64))), .second, .val (.long rem), .second, .val (.long (own_max (p4 &&& (9223372036854775807 : Int64)) (1 : Int64))), .second, .val (.long now), .second, .val (.int (0 : Int32)), .val (.ref b), .val .null, .val (.int (0 : Int32))] [(.int (1 : Int32))])) _
        exact retN X21 hx (t := .boolean) Bd.returns (by simp) (hb hby at_164) hr
      · show Q_rm0 Z p0 p1 p2 p3 p4 p5 h0 n0 _ T21.heap _
        rw [e21]
        exact ⟨rfl, N21⟩
  · -- not c62
    have pre22 : ∀ tg, Steps p.tables e below (T8.setTop (mkF m 103 #[.val (.long p0), .second, .val (.long p1), .second, .val (.long p2), .second, .val (.long p3), .second, .val (.long p4), .second, .val (.int p5), .val (.long (own_max (p2 &&& (9223372036854775807 : Int64)) (1 : Int64))), .second, .val (.long rem), .second, .val (.long (own_max (p4 &&& (9223372036854775807 : Int64)) (1 : Int64))), .second, .val (.long now), .second, .val (.int (1 : Int32)), .val .null, .unset, .unset] [(.long now), .null])) tg → G tg := fun tg kt => pre9 tg (by
      show Steps p.tables e below (T8.setTop (mkF m 62 #[.val (.long p0), .second, .val (.long p1), .second, .val (.long p2), .second, .val (.long p3), .second, .val (.long p4), .second, .val (.int p5), .val (.long (own_max (p2 &&& (9223372036854775807 : Int64)) (1 : Int64))), .second, .val (.long rem), .second, .val (.long (own_max (p4 &&& (9223372036854775807 : Int64)) (1 : Int64))), .second, .val (.long now), .second, .unset, .unset, .unset, .unset] [(.int (p5 &&& (1 : Int32)))])) _
      refine XS.ifNo X8.here hx rfl (hb hby at_62) rfl ((if0 _ _).trans (feq c62).1) ?_
      show Steps p.tables e below (T8.setTop (mkF m 65 #[.val (.long p0), .second, .val (.long p1), .second, .val (.long p2), .second, .val (.long p3), .second, .val (.long p4), .second, .val (.int p5), .val (.long (own_max (p2 &&& (9223372036854775807 : Int64)) (1 : Int64))), .second, .val (.long rem), .second, .val (.long (own_max (p4 &&& (9223372036854775807 : Int64)) (1 : Int64))), .second, .val (.long now), .second, .unset, .unset, .unset, .unset] [])) _
      refine XS.iconst X8.here hx rfl (hb hby at_65) ?_
      show Steps p.tables e below (T8.setTop (mkF m 66 #[.val (.long p0), .second, .val (.long p1), .second, .val (.long p2), .second, .val (.long p3), .second, .val (.long p4), .second, .val (.int p5), .val (.long (own_max (p2 &&& (9223372036854775807 : Int64)) (1 : Int64))), .second, .val (.long rem), .second, .val (.long (own_max (p4 &&& (9223372036854775807 : Int64)) (1 : Int64))), .second, .val (.long now), .second, .unset, .unset, .unset, .unset] [(.int (1 : Int32))])) _
      refine XS.goto X8.here hx rfl (pc0 := 66) (pc' := 70) rfl (hb hby at_66) (by decide) (by decide) ?_
      show Steps p.tables e below (T8.setTop (mkF m 70 #[.val (.long p0), .second, .val (.long p1), .second, .val (.long p2), .second, .val (.long p3), .second, .val (.long p4), .second, .val (.int p5), .val (.long (own_max (p2 &&& (9223372036854775807 : Int64)) (1 : Int64))), .second, .val (.long rem), .second, .val (.long (own_max (p4 &&& (9223372036854775807 : Int64)) (1 : Int64))), .second, .val (.long now), .second, .unset, .unset, .unset, .unset] [(.int (1 : Int32))])) _
      refine XS.istore X8.here hx rfl (hb hby at_70) rfl (l' := #[.val (.long p0), .second, .val (.long p1), .second, .val (.long p2), .second, .val (.long p3), .second, .val (.long p4), .second, .val (.int p5), .val (.long (own_max (p2 &&& (9223372036854775807 : Int64)) (1 : Int64))), .second, .val (.long rem), .second, .val (.long (own_max (p4 &&& (9223372036854775807 : Int64)) (1 : Int64))), .second, .val (.long now), .second, .val (.int (1 : Int32)), .unset, .unset, .unset]) rfl ?_
      show Steps p.tables e below (T8.setTop (mkF m 72 #[.val (.long p0), .second, .val (.long p1), .second, .val (.long p2), .second, .val (.long p3), .second, .val (.long p4), .second, .val (.int p5), .val (.long (own_max (p2 &&& (9223372036854775807 : Int64)) (1 : Int64))), .second, .val (.long rem), .second, .val (.long (own_max (p4 &&& (9223372036854775807 : Int64)) (1 : Int64))), .second, .val (.long now), .second, .val (.int (1 : Int32)), .unset, .unset, .unset] [])) _
      refine XS.iload X8.here hx rfl (hb hby at_72) rfl ?_
      show Steps p.tables e below (T8.setTop (mkF m 74 #[.val (.long p0), .second, .val (.long p1), .second, .val (.long p2), .second, .val (.long p3), .second, .val (.long p4), .second, .val (.int p5), .val (.long (own_max (p2 &&& (9223372036854775807 : Int64)) (1 : Int64))), .second, .val (.long rem), .second, .val (.long (own_max (p4 &&& (9223372036854775807 : Int64)) (1 : Int64))), .second, .val (.long now), .second, .val (.int (1 : Int32)), .unset, .unset, .unset] [(.int (1 : Int32))])) _
      refine XS.ifNo X8.here hx rfl (hb hby at_74) rfl ((if0 _ _).trans (feq (by decide : ¬ ((1 : Int32) = (0 : Int32)))).1) ?_
      show Steps p.tables e below (T8.setTop (mkF m 77 #[.val (.long p0), .second, .val (.long p1), .second, .val (.long p2), .second, .val (.long p3), .second, .val (.long p4), .second, .val (.int p5), .val (.long (own_max (p2 &&& (9223372036854775807 : Int64)) (1 : Int64))), .second, .val (.long rem), .second, .val (.long (own_max (p4 &&& (9223372036854775807 : Int64)) (1 : Int64))), .second, .val (.long now), .second, .val (.int (1 : Int32)), .unset, .unset, .unset] [])) _
      refine XS.aconstNull X8.here hx rfl (hb hby at_77) ?_
      show Steps p.tables e below (T8.setTop (mkF m 78 #[.val (.long p0), .second, .val (.long p1), .second, .val (.long p2), .second, .val (.long p3), .second, .val (.long p4), .second, .val (.int p5), .val (.long (own_max (p2 &&& (9223372036854775807 : Int64)) (1 : Int64))), .second, .val (.long rem), .second, .val (.long (own_max (p4 &&& (9223372036854775807 : Int64)) (1 : Int64))), .second, .val (.long now), .second, .val (.int (1 : Int32)), .unset, .unset, .unset] [.null])) _
      refine XS.goto X8.here hx rfl (pc0 := 78) (pc' := 97) rfl (hb hby at_78) (by decide) (by decide) ?_
      show Steps p.tables e below (T8.setTop (mkF m 97 #[.val (.long p0), .second, .val (.long p1), .second, .val (.long p2), .second, .val (.long p3), .second, .val (.long p4), .second, .val (.int p5), .val (.long (own_max (p2 &&& (9223372036854775807 : Int64)) (1 : Int64))), .second, .val (.long rem), .second, .val (.long (own_max (p4 &&& (9223372036854775807 : Int64)) (1 : Int64))), .second, .val (.long now), .second, .val (.int (1 : Int32)), .unset, .unset, .unset] [.null])) _
      refine XS.astore X8.here hx rfl (hb hby at_97) rfl rfl (l' := #[.val (.long p0), .second, .val (.long p1), .second, .val (.long p2), .second, .val (.long p3), .second, .val (.long p4), .second, .val (.int p5), .val (.long (own_max (p2 &&& (9223372036854775807 : Int64)) (1 : Int64))), .second, .val (.long rem), .second, .val (.long (own_max (p4 &&& (9223372036854775807 : Int64)) (1 : Int64))), .second, .val (.long now), .second, .val (.int (1 : Int32)), .val .null, .unset, .unset]) rfl ?_
      show Steps p.tables e below (T8.setTop (mkF m 99 #[.val (.long p0), .second, .val (.long p1), .second, .val (.long p2), .second, .val (.long p3), .second, .val (.long p4), .second, .val (.int p5), .val (.long (own_max (p2 &&& (9223372036854775807 : Int64)) (1 : Int64))), .second, .val (.long rem), .second, .val (.long (own_max (p4 &&& (9223372036854775807 : Int64)) (1 : Int64))), .second, .val (.long now), .second, .val (.int (1 : Int32)), .val .null, .unset, .unset] [])) _
      refine XS.aload X8.here hx rfl (hb hby at_99) rfl rfl ?_
      show Steps p.tables e below (T8.setTop (mkF m 101 #[.val (.long p0), .second, .val (.long p1), .second, .val (.long p2), .second, .val (.long p3), .second, .val (.long p4), .second, .val (.int p5), .val (.long (own_max (p2 &&& (9223372036854775807 : Int64)) (1 : Int64))), .second, .val (.long rem), .second, .val (.long (own_max (p4 &&& (9223372036854775807 : Int64)) (1 : Int64))), .second, .val (.long now), .second, .val (.int (1 : Int32)), .val .null, .unset, .unset] [.null])) _
      refine XS.lload X8.here hx rfl (hb hby at_101) rfl ?_
      exact kt)
    obtain ⟨_, _, ⟨T23, L23, k23, n23⟩, -, X23, ⟨Lc23, hQ23, l23, y23, z23⟩, st23⟩ := Jvm.LawKit.callS X8 hx (y := (⟨"com/example/floodgate/floodgate/store/QueueTail", "stillWaiting", "(Lcom/example/floodgate/floodgate/store/QueueTail;J)Lcom/example/floodgate/floodgate/store/QueueTail;"⟩ : MethodName)) hown (mvT hZ (hw _ (List.mem_of_getElem? (i := 28) rfl))) (mvT hZ (hw _ (List.mem_of_getElem? (i := 29) rfl))) (mvT hZ (hw _ (List.mem_of_getElem? (i := 11) rfl))) (mvT hZ (hw _ (List.mem_of_getElem? (i := 30) rfl))) (by decide) (backOf (W := 0) (rm5n l Z a0 hw [] now h0 n0 Z0 ) hZ (hw _ (List.mem_of_getElem? (i := 30) rfl)) (hw _ (List.mem_of_getElem? (i := 11) rfl)) (by decide) (by decide)) (g := (mkF m 103 #[.val (.long p0), .second, .val (.long p1), .second, .val (.long p2), .second, .val (.long p3), .second, .val (.long p4), .second, .val (.int p5), .val (.long (own_max (p2 &&& (9223372036854775807 : Int64)) (1 : Int64))), .second, .val (.long rem), .second, .val (.long (own_max (p4 &&& (9223372036854775807 : Int64)) (1 : Int64))), .second, .val (.long now), .second, .val (.int (1 : Int32)), .val .null, .unset, .unset] [(.long now), .null])) rfl (by rw [hml]; rfl) (argsL := [.null, (.long now)]) (rest := []) (lenOf pd_3 rfl) rfl (by show 2 * 0 + _ ≤ _; exact Nat.le_of_eq rfl) (hb hby at_103) (fun _ _ => ⟨rfl, e8, (Nat.le_of_ble_eq_true rfl), (Nat.le_of_ble_eq_true rfl)⟩)
    dsimp only [Pt.U, Pt.locs, Pt.cells, Pt.slots] at X23 l23 y23 z23 st23 hQ23
    subst l23 y23 z23
    obtain ⟨rfl, N23q, e23⟩ := hQ23
    have N23 := Fr.app N8 N23q
    have pre23s : ∀ tg, Steps p.tables e below (T23.setTop (mkF m 106 #[.val (.long p0), .second, .val (.long p1), .second, .val (.long p2), .second, .val (.long p3), .second, .val (.long p4), .second, .val (.int p5), .val (.long (own_max (p2 &&& (9223372036854775807 : Int64)) (1 : Int64))), .second, .val (.long rem), .second, .val (.long (own_max (p4 &&& (9223372036854775807 : Int64)) (1 : Int64))), .second, .val (.long now), .second, .val (.int (1 : Int32)), .val .null, .unset, .unset] [.null])) tg → G tg := fun tg kt => pre22 tg (st23 tg kt)
    obtain ⟨fs, hr, hrun, hended, hW, hsame⟩ := X23.leave (v := some (.int (1 : Int32))) (fun h => by rw [Bd.returns] at h; cases h)
    subst hG
    refine ⟨_, _, pre23s _ ?_, hrun, hended, _, _, rfl, ?_, ⟨_, rfl⟩, hW, hsame.mono (by decide) (by decide)⟩
    · skip
      show Steps p.tables e below (T23.setTop (mkF m 106 #[.val (.long p0), .second, .val (.long p1), .second, .val (.long p2), .second, .val (.long p3), .second, .val (.long p4), .second, .val (.int p5), .val (.long (own_max (p2 &&& (9223372036854775807 : Int64)) (1 : Int64))), .second, .val (.long rem), .second, .val (.long (own_max (p4 &&& (9223372036854775807 : Int64)) (1 : Int64))), .second, .val (.long now), .second, .val (.int (1 : Int32)), .val .null, .unset, .unset] [.null])) _
      refine XS.astore X23.here hx rfl (hb hby at_106) rfl rfl (l' := #[.val (.long p0), .second, .val (.long p1), .second, .val (.long p2), .second, .val (.long p3), .second, .val (.long p4), .second, .val (.int p5), .val (.long (own_max (p2 &&& (9223372036854775807 : Int64)) (1 : Int64))), .second, .val (.long rem), .second, .val (.long (own_max (p4 &&& (9223372036854775807 : Int64)) (1 : Int64))), .second, .val (.long now), .second, .val (.int (1 : Int32)), .val .null, .val .null, .unset]) rfl ?_
      show Steps p.tables e below (T23.setTop (mkF m 108 #[.val (.long p0), .second, .val (.long p1), .second, .val (.long p2), .second, .val (.long p3), .second, .val (.long p4), .second, .val (.int p5), .val (.long (own_max (p2 &&& (9223372036854775807 : Int64)) (1 : Int64))), .second, .val (.long rem), .second, .val (.long (own_max (p4 &&& (9223372036854775807 : Int64)) (1 : Int64))), .second, .val (.long now), .second, .val (.int (1 : Int32)), .val .null, .val .null, .unset] [])) _
      refine XS.iload X23.here hx rfl (hb hby at_108) rfl ?_
      show Steps p.tables e below (T23.setTop (mkF m 110 #[.val (.long p0), .second, .val (.long p1), .second, .val (.long p2), .second, .val (.long p3), .second, .val (.long p4), .second, .val (.int p5), .val (.long (own_max (p2 &&& (9223372036854775807 : Int64)) (1 : Int64))), .second, .val (.long rem), .second, .val (.long (own_max (p4 &&& (9223372036854775807 : Int64)) (1 : Int64))), .second, .val (.long now), .second, .val (.int (1 : Int32)), .val .null, .val .null, .unset] [(.int (1 : Int32))])) _
      refine XS.ifNo X23.here hx rfl (hb hby at_110) rfl ((if0 _ _).trans (feq (by decide : ¬ ((1 : Int32) = (0 : Int32)))).1) ?_
      show Steps p.tables e below (T23.setTop (mkF m 113 #[.val (.long p0), .second, .val (.long p1), .second, .val (.long p2), .second, .val (.long p3), .second, .val (.long p4), .second, .val (.int p5), .val (.long (own_max (p2 &&& (9223372036854775807 : Int64)) (1 : Int64))), .second, .val (.long rem), .second, .val (.long (own_max (p4 &&& (9223372036854775807 : Int64)) (1 : Int64))), .second, .val (.long now), .second, .val (.int (1 : Int32)), .val .null, .val .null, .unset] [])) _
      refine XS.aload X23.here hx rfl (hb hby at_113) rfl rfl ?_
      show Steps p.tables e below (T23.setTop (mkF m 115 #[.val (.long p0), .second, .val (.long p1), .second, .val (.long p2), .second, .val (.long p3), .second, .val (.long p4), .second, .val (.int p5), .val (.long (own_max (p2 &&& (9223372036854775807 : Int64)) (1 : Int64))), .second, .val (.long rem), .second, .val (.long (own_max (p4 &&& (9223372036854775807 : Int64)) (1 : Int64))), .second, .val (.long now), .second, .val (.int (1 : Int32)), .val .null, .val .null, .unset] [.null])) _
      refine XS.ifnonnullNo X23.here hx rfl (hb hby at_115) rfl ?_
      show Steps p.tables e below (T23.setTop (mkF m 118 #[.val (.long p0), .second, .val (.long p1), .second, .val (.long p2), .second, .val (.long p3), .second, .val (.long p4), .second, .val (.int p5), .val (.long (own_max (p2 &&& (9223372036854775807 : Int64)) (1 : Int64))), .second, .val (.long rem), .second, .val (.long (own_max (p4 &&& (9223372036854775807 : Int64)) (1 : Int64))), .second, .val (.long now), .second, .val (.int (1 : Int32)), .val .null, .val .null, .unset] [])) _
      refine XS.iconst X23.here hx rfl (hb hby at_118) ?_
      show Steps p.tables e below (T23.setTop (mkF m 119 #[.val (.long p0), .second, .val (.long p1), .second, .val (.long p2), .second, .val (.long p3), .second, .val (.long p4), .second, .val (.int p5), .val (.long (own_max (p2 &&& (9223372036854775807 : Int64)) (1 : Int64))), .second, .val (.long rem), .second, .val (.long (own_max (p4 &&& (9223372036854775807 : Int64)) (1 : Int64))), .second, .val (.long now), .second, .val (.int (1 : Int32)), .val .null, .val .null, .unset] [(.int (1 : Int32))])) _
      refine XS.goto X23.here hx rfl (pc0 := 119) (pc' := 123) rfl (hb hby at_119) (by decide) (by decide) ?_
      show Steps p.tables e below (T23.setTop (mkF m 123 #[.val (.long p0), .second, .val (.long p1), .second, .val (.long p2), .second, .val (.long p3), .second, .val (.long p4), .second, .val (.int p5), .val (.long (own_max (p2 &&& (9223372036854775807 : Int64)) (1 : Int64))), .second, .val (.long rem), .second, .val (.long (own_max (p4 &&& (9223372036854775807 : Int64)) (1 : Int64))), .second, .val (.long now), .second, .val (.int (1 : Int32)), .val .null, .val .null, .unset] [(.int (1 : Int32))])) _
      exact retN X23 hx (t := .boolean) Bd.returns (by simp) (hb hby at_123) hr
    · show Q_rm0 Z p0 p1 p2 p3 p4 p5 h0 n0 _ T23.heap _
      rw [e23]
      exact ⟨rfl, N23⟩
set_option maxRecDepth 65536 in
set_option maxHeartbeats 40000000 in
theorem comes_1 {Post : Tables → Env → Array Value → State → Outcome → State → Prop} (hpost : ∀ tb e args s v u, (limb_1_1.after args s (.returned v) u = true ∧ limb_1_2.after args s (.returned v) u = true ∧ True) → FrameEnd s (.returned v) u (Jvm.fieldLocs frame_1_writes args s ++ Jvm.arrayLocs frame_1_arrays args s ++ Jvm.staticLocs frame_1_statics s) 16 128 → Post tb e args s (.returned v) u) :
    ArmFor flags0 classFile x code maxLocals ret World_1 tables_1 room_1 Calls_1 rest_1 Pre_1 Post := by
  intro l hfl _ _ p e ha hc hk s m args below hf hA hF happ hP
  obtain ⟨hcalls, hrest, hpre⟩ := hP
  obtain ⟨-, -, -, hnamed, -, -, -, hat⟩ := (Spec.applies_iff hf).mp happ
  obtain ⟨hg, hn⟩ := and_e (Cond.before_iff.mp (show (Jvm.Cond.and given_1 narrow_1).before args s = true from hpre))
  obtain ⟨ga0, gb0⟩ := and_e hg
  obtain ⟨ga1, gb1⟩ := and_e gb0
  obtain ⟨ga2, gb2⟩ := and_e gb1
  obtain ⟨ga3, gb3⟩ := and_e gb2
  obtain ⟨ga4, gb4⟩ := and_e gb3
  obtain ⟨ga5, gb5⟩ := and_e gb4
  obtain ⟨w0, w1, w2, w3, w4, w5, rfl⟩ : ∃ w0 w1 w2 w3 w4 w5 : Value, args = #[w0, w1, w2, w3, w4, w5] := by
    have hs : args.size = 6 := by simpa [Cond.value, given_1] using ga0
    obtain ⟨L⟩ := args
    match L, hs with
    | [w0, w1, w2, w3, w4, w5], _ => exact ⟨w0, w1, w2, w3, w4, w5, rfl⟩
  have hw := fun d (hd : d ∈ tables_1) => atoms_spec (ws := Jvm.Cond.code x code maxLocals ret :: tables_1) hat d (List.mem_cons_of_mem _ hd)
  have hfit : Fit s := fun {y c} hc i hi => by
    obtain ⟨ha, rfl⟩ := Array.getElem?_eq_some_iff.mp hc
    have q := List.all_eq_true.mp ((Array.all_eq_true_iff_forall_mem.mp hF) _ (Array.getElem_mem ha)) i (List.mem_range.mpr hi)
    simpa [Array.getElem?_eq_getElem hi] using q
  obtain ⟨i0, ei0⟩ := isL_v ga1
  obtain rfl : w0 = (.long i0) := Option.some.inj ei0
  obtain ⟨i1, ei1⟩ := isL_v ga2
  obtain rfl : w1 = (.long i1) := Option.some.inj ei1
  obtain ⟨i2, ei2⟩ := isL_v ga3
  obtain rfl : w2 = (.long i2) := Option.some.inj ei2
  obtain ⟨i3, ei3⟩ := isL_v ga4
  obtain rfl : w3 = (.long i3) := Option.some.inj ei3
  obtain ⟨i4, ei4⟩ := isL_v ga5
  obtain rfl : w4 = (.long i4) := Option.some.inj ei4
  obtain ⟨i5, ei5⟩ := is_v gb5
  obtain rfl : w5 = (.int i5) := Option.some.inj ei5
  obtain ⟨n, o, h1, h2, h3, _, L, rfl, ⟨rfl, N⟩, hq⟩ := rm0 l s _ hw tables_1 i0 i1 i2 i3 i4 i5 s.heap s.heap.size (Nat.le_refl _) p e ha hc hk s m _ below hf ((Spec.applies_iff_loose hf).mp happ).1 ⟨rfl, State.Warmed39.refl s, rfl⟩ trivial
  refine ⟨n, _, h1, h2, h3, hpost _ _ _ _ _ _ ⟨Cond.after_iff.mpr rfl, Cond.after_iff.mpr (eq_i res_at (Term.int_eval (1)) rfl), trivial⟩ ⟨hq.1, hq.2.1, (hq.2.2.sift fun y hy => Or.inr (N y hy)).mono (by decide) (by decide)⟩⟩
theorem main_1_1 : Claimed_1_1 := comes_1 fun _ _ _ _ _ _ h hF => ⟨h.1, hF⟩
theorem main_1_2 : Claimed_1_2 := comes_1 fun _ _ _ _ _ _ h hF => ⟨h.2.1, hF⟩
end Jvm.Pilot.@@N@@
namespace Jvm.Pilot.@@N@@
open Jvm Jvm.ClassFile Sem Op Lib Jvm.Free Jvm.Stand Jvm.Pilot.@@N@@.Jvm.D
/-! MADE BY PROGRAM (witnessworld.py) out of the Statement's table words and the real class files: 10 classes; the members and pool entries that the words name. The judged class is class 1, her method 1. -/
namespace start1
open Jvm.ClassFile
def u (s : String) : CpInfo := .utf8 (stringToUtf16 s)
/-- a pool by its gaps: so many unusable entries, then the entry; so many at the end -/
def gap : Nat → List CpInfo → List CpInfo
  | 0, r => r
  | n + 1, r => .unusable :: gap n r
def poolList (es : List (Nat × CpInfo)) (last : Nat) : List CpInfo := es.foldr (fun e r => gap e.1 (e.2 :: r)) (gap last [])
def pool (es : List (Nat × CpInfo)) (last : Nat) : Array CpInfo := ⟨poolList es last⟩
def fileOf (pool : Array CpInfo) (this : Nat) (attrs : Array Attribute := #[]) (ms : Array MethodInfo := #[]) (fl : Nat := 33) (sup : Nat := 0) (ifs : Array Nat := #[]) (fds : Array FieldInfo := #[]) : ClassFile where
  minorVersion := 0
  majorVersion := 65
  constantPool := pool
  accessFlags := fl
  thisClass := this
  superClass := sup
  interfaces := ifs
  fields := fds
  methods := ms
  attributes := attrs
def plain (name : String) (sup : Option ClassId) : Class where
  name := name
  kind := .ordinary
  loader := none
  accessFlags := 33
  super := sup
  interfaces := #[]
  cf := none
  fields := #[]
  methods := #[]
  instanceTypes := #[]
  staticTypes := #[]
  resolved := #[]
  callSites := []
  init := .initialized
  statics := none
  mirror := none

def pool0 : Array CpInfo := pool [(5, u "<init>"), (0, u "()V"), (1, .class_ 10), (1, u "java/lang/Object")] 113

def k0c0 : Code := { maxStack := 0, maxLocals := 1, code := object_method_1_code, exceptionTable := #[], attributes := #[] }
def k0m0 : Method := { name := "<init>", desc := "()V", sig := { parameters := [], returnType := none }, accessFlags := 1, code := some k0c0 }
/-- java/lang/Object -/
def k0 : Class := { plain "java/lang/Object" none with
  accessFlags := 33
  interfaces := #[]
  cf := some (fileOf pool0 8 #[] #[{ accessFlags := 1, nameIndex := 5, descriptorIndex := 6, attributes := #[] }] 33 0 #[] #[])
  fields := #[]
  methods := #[k0m0]
  instanceTypes := #[]
  staticTypes := #[]
  resolved := Array.replicate 124 none
  statics := none }

def pool1 : Array CpInfo := pool [(2, .class_ 4), (1, u "java/lang/Object"), (0, u "<init>"), (0, u "()V"), (2, .long 9223372036854775807), (1, .methodref 12 13), (0, .class_ 14), (0, .nameAndType 15 16), (0, u "java/lang/Math"), (0, u "max"), (0, u "(JJ)J"), (0, .methodref 18 19), (0, .class_ 20), (0, .nameAndType 21 22), (0, u "com/example/floodgate/floodgate/store/QueueTailStillWaitingPinLaw"), (0, u "pickNow"), (0, u "(JJI)J"), (0, .class_ 24), (0, u "com/example/floodgate/floodgate/store/QueueTail"), (0, .methodref 23 26), (0, .nameAndType 5 27), (0, u "(JJJJJ)V"), (0, .methodref 23 29), (0, .nameAndType 30 31), (0, u "stillWaiting"), (0, u "(Lcom/example/floodgate/floodgate/store/QueueTail;J)Lcom/example/floodgate/floodgate/store/QueueTail;"), (0, .methodref 18 33), (0, .nameAndType 34 35), (0, u "waitsByDeparture"), (0, u "(JJJ)Z"), (2, u "law"), (0, u "(JJJJJI)Z")] 3

def k1m0 : Method := { name := "<init>", desc := "()V", sig := { parameters := [], returnType := none }, accessFlags := 1, code := none }
def k1c1 : Code := { maxStack := 12, maxLocals := 23, code := code, exceptionTable := #[], attributes := #[] }
def k1m1 : Method := { name := "law", desc := "(JJJJJI)Z", sig := { parameters := [.long, .long, .long, .long, .long, .int], returnType := some .boolean }, accessFlags := 9, code := some k1c1 }
def k1c2 : Code := { maxStack := 4, maxLocals := 5, code := method_3_code, exceptionTable := #[], attributes := #[] }
def k1m2 : Method := { name := "pickNow", desc := "(JJI)J", sig := { parameters := [.long, .long, .int], returnType := some .long }, accessFlags := 10, code := some k1c2 }
def k1c3 : Code := { maxStack := 4, maxLocals := 8, code := method_4_code, exceptionTable := #[], attributes := #[] }
def k1m3 : Method := { name := "waitsByDeparture", desc := "(JJJ)Z", sig := { parameters := [.long, .long, .long], returnType := some .boolean }, accessFlags := 10, code := some k1c3 }
/-- com/example/floodgate/floodgate/store/QueueTailStillWaitingPinLaw -/
def k1 : Class := { plain "com/example/floodgate/floodgate/store/QueueTailStillWaitingPinLaw" (some 0) with
  accessFlags := 49
  interfaces := #[]
  cf := some (fileOf pool1 18 #[] #[{ accessFlags := 1, nameIndex := 5, descriptorIndex := 6, attributes := #[] }, { accessFlags := 9, nameIndex := 38, descriptorIndex := 39, attributes := #[] }, { accessFlags := 10, nameIndex := 21, descriptorIndex := 22, attributes := #[] }, { accessFlags := 10, nameIndex := 34, descriptorIndex := 35, attributes := #[] }] 49 2 #[] #[])
  fields := #[]
  methods := #[k1m0, k1m1, k1m2, k1m3]
  instanceTypes := #[]
  staticTypes := #[]
  resolved := Array.replicate 43 none
  statics := none }

def pool2 : Array CpInfo := pool [(1, .class_ 2), (0, u "java/lang/Math"), (1, .class_ 6), (1, u "java/lang/Object"), (0, u "<init>"), (0, u "()V"), (89, .class_ 100), (1, u "java/lang/Math$RandomNumberGeneratorHolder"), (20, u "(JJ)J"), (50, u "negativeZeroFloatBits"), (0, u "J"), (2, u "negativeZeroDoubleBits"), (21, u "max"), (46, u "$assertionsDisabled"), (0, u "Z"), (91, u "twoToTheDoubleScaleDown"), (0, u "D"), (4, u "twoToTheDoubleScaleUp"), (9, u "E"), (3, u "PI"), (2, u "TAU"), (2, u "DEGREES_TO_RADIANS"), (0, u "RADIANS_TO_DEGREES")] 94

def k2m0 : Method := { name := "<init>", desc := "()V", sig := { parameters := [], returnType := none }, accessFlags := 2, code := none }
def k2c1 : Code := { maxStack := 4, maxLocals := 4, code := jdk_29_method_66_code, exceptionTable := #[], attributes := #[] }
def k2m1 : Method := { name := "max", desc := "(JJ)J", sig := { parameters := [.long, .long], returnType := some .long }, accessFlags := 9, code := some k2c1 }
/-- java/lang/Math -/
def k2 : Class := { plain "java/lang/Math" (some 0) with
  accessFlags := 49
  interfaces := #[]
  cf := some (fileOf pool2 1 #[.nestMembers #[98]] #[{ accessFlags := 2, nameIndex := 7, descriptorIndex := 8, attributes := #[] }, { accessFlags := 9, nameIndex := 198, descriptorIndex := 121, attributes := #[] }] 49 4 #[] #[{ accessFlags := 25, nameIndex := 354, descriptorIndex := 339, attributes := #[] }, { accessFlags := 25, nameIndex := 358, descriptorIndex := 339, attributes := #[] }, { accessFlags := 25, nameIndex := 361, descriptorIndex := 339, attributes := #[] }, { accessFlags := 26, nameIndex := 364, descriptorIndex := 339, attributes := #[] }, { accessFlags := 26, nameIndex := 365, descriptorIndex := 339, attributes := #[] }, { accessFlags := 26, nameIndex := 172, descriptorIndex := 173, attributes := #[] }, { accessFlags := 26, nameIndex := 176, descriptorIndex := 173, attributes := #[] }, { accessFlags := 8, nameIndex := 344, descriptorIndex := 339, attributes := #[] }, { accessFlags := 8, nameIndex := 338, descriptorIndex := 339, attributes := #[] }, { accessFlags := 4120, nameIndex := 245, descriptorIndex := 246, attributes := #[] }])
  fields := #[{ name := "E", type := .double, accessFlags := 25, slot := 0, constantValue := 0 }, { name := "PI", type := .double, accessFlags := 25, slot := 1, constantValue := 0 }, { name := "TAU", type := .double, accessFlags := 25, slot := 2, constantValue := 0 }, { name := "DEGREES_TO_RADIANS", type := .double, accessFlags := 26, slot := 3, constantValue := 0 }, { name := "RADIANS_TO_DEGREES", type := .double, accessFlags := 26, slot := 4, constantValue := 0 }, { name := "negativeZeroFloatBits", type := .long, accessFlags := 26, slot := 5, constantValue := 0 }, { name := "negativeZeroDoubleBits", type := .long, accessFlags := 26, slot := 6, constantValue := 0 }, { name := "twoToTheDoubleScaleUp", type := .double, accessFlags := 8, slot := 7, constantValue := 0 }, { name := "twoToTheDoubleScaleDown", type := .double, accessFlags := 8, slot := 8, constantValue := 0 }, { name := "$assertionsDisabled", type := .boolean, accessFlags := 4120, slot := 9, constantValue := 0 }]
  methods := #[k2m0, k2m1]
  instanceTypes := #[]
  staticTypes := #[.double, .double, .double, .double, .double, .long, .long, .double, .double, .boolean]
  resolved := Array.replicate 460 none
  statics := none }

def pool3 : Array CpInfo := pool [(1, .methodref 2 3), (0, .class_ 4), (0, .nameAndType 5 6), (0, u "java/lang/Object"), (0, u "<init>"), (0, u "()V"), (0, .fieldref 8 9), (0, .class_ 10), (0, .nameAndType 11 12), (0, u "com/example/floodgate/floodgate/store/QueueTail"), (0, u "queuedAfter"), (0, u "J"), (0, .fieldref 8 14), (0, .nameAndType 15 12), (0, u "lastMillis"), (0, .fieldref 8 17), (0, .nameAndType 18 12), (0, u "lastRemainder"), (0, .fieldref 8 20), (0, .nameAndType 21 12), (0, u "rate"), (0, .fieldref 8 23), (0, .nameAndType 24 12), (0, u "periodMillis"), (19, u "(JJJJJ)V"), (34, u "stillWaiting"), (0, u "(Lcom/example/floodgate/floodgate/store/QueueTail;J)Lcom/example/floodgate/floodgate/store/QueueTail;")] 11

def k3c0 : Code := { maxStack := 3, maxLocals := 11, code := prog_47_method_1_code, exceptionTable := #[], attributes := #[] }
def k3m0 : Method := { name := "<init>", desc := "(JJJJJ)V", sig := { parameters := [.long, .long, .long, .long, .long], returnType := none }, accessFlags := 0, code := some k3c0 }
def k3c1 : Code := { maxStack := 4, maxLocals := 4, code := prog_47_method_3_code, exceptionTable := #[], attributes := #[] }
def k3m1 : Method := { name := "stillWaiting", desc := "(Lcom/example/floodgate/floodgate/store/QueueTail;J)Lcom/example/floodgate/floodgate/store/QueueTail;", sig := { parameters := [(.object "com/example/floodgate/floodgate/store/QueueTail"), .long], returnType := some (.object "com/example/floodgate/floodgate/store/QueueTail") }, accessFlags := 8, code := some k3c1 }
/-- com/example/floodgate/floodgate/store/QueueTail -/
def k3 : Class := { plain "com/example/floodgate/floodgate/store/QueueTail" (some 0) with
  accessFlags := 32
  interfaces := #[]
  cf := some (fileOf pool3 8 #[] #[{ accessFlags := 0, nameIndex := 5, descriptorIndex := 44, attributes := #[] }, { accessFlags := 8, nameIndex := 79, descriptorIndex := 80, attributes := #[] }] 32 2 #[] #[{ accessFlags := 18, nameIndex := 11, descriptorIndex := 12, attributes := #[] }, { accessFlags := 18, nameIndex := 15, descriptorIndex := 12, attributes := #[] }, { accessFlags := 18, nameIndex := 18, descriptorIndex := 12, attributes := #[] }, { accessFlags := 18, nameIndex := 21, descriptorIndex := 12, attributes := #[] }, { accessFlags := 18, nameIndex := 24, descriptorIndex := 12, attributes := #[] }])
  fields := #[{ name := "queuedAfter", type := .long, accessFlags := 18, slot := 0, constantValue := 0 }, { name := "lastMillis", type := .long, accessFlags := 18, slot := 1, constantValue := 0 }, { name := "lastRemainder", type := .long, accessFlags := 18, slot := 2, constantValue := 0 }, { name := "rate", type := .long, accessFlags := 18, slot := 3, constantValue := 0 }, { name := "periodMillis", type := .long, accessFlags := 18, slot := 4, constantValue := 0 }]
  methods := #[k3m0, k3m1]
  instanceTypes := #[.long, .long, .long, .long, .long]
  staticTypes := #[]
  resolved := Array.replicate 92 none
  statics := none }

def pool4 : Array CpInfo := pool [(1, u "java/lang/Cloneable"), (0, .class_ 1), (0, u "java/lang/Object"), (0, .class_ 3)] 3

/-- java/lang/Cloneable -/
def k4 : Class := { plain "java/lang/Cloneable" (some 0) with
  accessFlags := 1537
  interfaces := #[]
  cf := some (fileOf pool4 2 #[] #[] 1537 4 #[] #[])
  fields := #[]
  methods := #[]
  instanceTypes := #[]
  staticTypes := #[]
  resolved := Array.replicate 8 none
  statics := none }

def pool5 : Array CpInfo := pool [(1, u "java/io/Serializable"), (0, .class_ 1), (0, u "java/lang/Object"), (0, .class_ 3)] 3

/-- java/io/Serializable -/
def k5 : Class := { plain "java/io/Serializable" (some 0) with
  accessFlags := 1537
  interfaces := #[]
  cf := some (fileOf pool5 2 #[] #[] 1537 4 #[] #[])
  fields := #[]
  methods := #[]
  instanceTypes := #[]
  staticTypes := #[]
  resolved := Array.replicate 8 none
  statics := none }

/-- the primitive byte -/
def k6 : Class := { plain "byte" none with kind := .primitive 'B', accessFlags := 0x411 }
/-- [B -/
def k7 : Class := { plain "[B" (some 0) with kind := .array 6 .byte, interfaces := #[4, 5], accessFlags := 1041 }

/-- the primitive int -/
def k8 : Class := { plain "int" none with kind := .primitive 'I', accessFlags := 0x411 }
/-- [I -/
def k9 : Class := { plain "[I" (some 0) with kind := .array 8 .int, interfaces := #[4, 5], accessFlags := 1041 }

def heap : Heap := #[]
def classes : Array Class := #[k0, k1, k2, k3, k4, k5, k6, k7, k8, k9]
def interned : List (Array UInt16 × Addr) := []
def slotsUsed : Nat := 0
def theMethod : MethodId := ⟨1, 1⟩
def args0 : Array Value := #[.long 5, .long 6, .long 7, .long 8, .long 9, .int 0]
def aboutOver (below : List Frame) : State where
  vm := { classes := classes, interned := interned.toArray }
  heap := heap
  slotsUsed := slotsUsed
  threads := #[{ frames := .invoking theMethod args0 :: below }]
def below0 : List Frame := [.native { method := ⟨0, 0⟩, args := #[] }]
def about1 : State := aboutOver below0
def p0 : Program := .bare "" "" ""
def e0 : Env := launch0.env 0 0 0
theorem w_frames : about1.frames = Frame.invoking theMethod args0 :: below0 := rfl
set_option maxRecDepth 65536 in
theorem w_args : argsFit about1.vm theMethod args0 = true := by decide +kernel
set_option maxRecDepth 65536 in
theorem w_heap : heapFits about1 = true := by decide +kernel
set_option maxRecDepth 65536 in
theorem w_runnable : about1.curStatus? = some .runnable := by decide +kernel
set_option maxRecDepth 65536 in
theorem w_alone : about1.alone = true := by decide +kernel
set_option maxRecDepth 65536 in
theorem w_named : about1.methodNamed? x = some theMethod := by decide +kernel
set_option maxRecDepth 65536 in
theorem w_hears : about1.hears theMethod below0 = true := by decide +kernel
set_option maxRecDepth 65536 in
theorem w_ripe : about1.ripe theMethod args0 below0 = true := by decide +kernel
theorem w_running : about1.status = .running := rfl
set_option maxRecDepth 65536 in
theorem w_room : about1.hasRoom e0.platform room_1 = true :=
  launch0.hasRoom_least _ room_1 (by decide +kernel) (by decide +kernel) (by decide +kernel) (by decide +kernel) (by decide +kernel) (by decide +kernel)
theorem allAtoms_all (ts : List Jvm.Cond) (a : Array Jvm.Value) (st : Jvm.State) : (allAtoms ts).before a st = ts.all (fun c => c.before a st) := by
  induction ts with
  | nil => rfl
  | cons c t ih =>
    show (Jvm.Cond.and c (allAtoms t)).before a st = _
    rw [Jvm.Cond.before_and, ih, List.all_cons]
def words1 : List Jvm.Cond := Jvm.Cond.code x code maxLocals ret :: tables_1
/-- a 'code' word, met by the world's own term for the bytes: nothing is compared byte by byte -/
theorem code_word {y : MethodName} {bytes : ByteArray} {mx : Nat} {rt : Option FieldType} {a : Array Value} {s : State} {m : MethodId} {meth : Method} {c : Code} (h1 : s.methodNamed? y = some m) (h2 : s.vm.method? m = some meth) (h3 : meth.code = some c) (h4 : c.code = bytes)
    (h5 : (c.maxLocals == mx && c.exceptionTable.isEmpty && decide (c.maxStack ≤ mostOperands) && decide (meth.sig.returnType = rt) && !meth.locks && decide (parseMethodDescriptor y.desc = some meth.sig)) = true) : (Jvm.Cond.code y bytes mx rt).before a s = true := by
  simp only [Bool.and_eq_true, beq_iff_eq, Bool.not_eq_true', decide_eq_true_eq] at h5
  obtain ⟨⟨⟨⟨⟨g1, g2⟩, g3⟩, g4⟩, g5⟩, g6⟩ := h5
  simp [Cond.before, Cond.holds, Cond.value, h1, h2, h3, h4, g1, g2, g3, g4, g5, g6]
def isCode : Jvm.Cond → Bool
  | .code _ _ _ _ => true
  | _ => false
theorem all_split {L : List Jvm.Cond} {P : Jvm.Cond → Bool} (h1 : L.all (fun c => isCode c || P c) = true) (h2 : ∀ c ∈ L.filter isCode, P c = true) : L.all P = true := by
  refine List.all_eq_true.mpr fun c hc => ?_
  have h := List.all_eq_true.mp h1 c hc
  rcases Bool.eq_false_or_eq_true (isCode c) with hi | hi
  · exact h2 c (List.mem_filter.mpr ⟨hc, hi⟩)
  · simpa [hi] using h
set_option maxRecDepth 65536 in
theorem w_c0 : (Jvm.Cond.code x code maxLocals ret).before args0 about1 = true := code_word (m := ⟨1, 1⟩) (meth := k1m1) (c := k1c1) (by decide +kernel) rfl rfl rfl (by decide +kernel)
set_option maxRecDepth 65536 in
theorem w_c1 : (Jvm.Cond.code ({ cls := "java/lang/Math", name := "max", desc := "(JJ)J" } : Jvm.MethodName) jdk_29_method_66_code (4 : Nat) (Option.some Jvm.ClassFile.FieldType.long)).before args0 about1 = true := code_word (m := ⟨2, 1⟩) (meth := k2m1) (c := k2c1) (by decide +kernel) rfl rfl rfl (by decide +kernel)
set_option maxRecDepth 65536 in
theorem w_c2 : (Jvm.Cond.code ({ cls := "com/example/floodgate/floodgate/store/QueueTailStillWaitingPinLaw", name := "pickNow", desc := "(JJI)J" } : Jvm.MethodName) method_3_code (5 : Nat) (Option.some Jvm.ClassFile.FieldType.long)).before args0 about1 = true := code_word (m := ⟨1, 2⟩) (meth := k1m2) (c := k1c2) (by decide +kernel) rfl rfl rfl (by decide +kernel)
set_option maxRecDepth 65536 in
theorem w_c3 : (Jvm.Cond.code ({ cls := "com/example/floodgate/floodgate/store/QueueTail", name := "<init>", desc := "(JJJJJ)V" } : Jvm.MethodName) prog_47_method_1_code (11 : Nat) (Option.none : Option Jvm.ClassFile.FieldType)).before args0 about1 = true := code_word (m := ⟨3, 0⟩) (meth := k3m0) (c := k3c0) (by decide +kernel) rfl rfl rfl (by decide +kernel)
set_option maxRecDepth 65536 in
theorem w_c4 : (Jvm.Cond.code ({ cls := "java/lang/Object", name := "<init>", desc := "()V" } : Jvm.MethodName) object_method_1_code (1 : Nat) (Option.none : Option Jvm.ClassFile.FieldType)).before args0 about1 = true := code_word (m := ⟨0, 0⟩) (meth := k0m0) (c := k0c0) (by decide +kernel) rfl rfl rfl (by decide +kernel)
set_option maxRecDepth 65536 in
theorem w_c5 : (Jvm.Cond.code ({ cls := "com/example/floodgate/floodgate/store/QueueTail", name := "stillWaiting", desc := "(Lcom/example/floodgate/floodgate/store/QueueTail;J)Lcom/example/floodgate/floodgate/store/QueueTail;" } : Jvm.MethodName) prog_47_method_3_code (4 : Nat) (Option.some (Jvm.ClassFile.FieldType.object "com/example/floodgate/floodgate/store/QueueTail"))).before args0 about1 = true := code_word (m := ⟨3, 1⟩) (meth := k3m1) (c := k3c1) (by decide +kernel) rfl rfl rfl (by decide +kernel)
set_option maxRecDepth 65536 in
theorem w_c6 : (Jvm.Cond.code ({ cls := "com/example/floodgate/floodgate/store/QueueTailStillWaitingPinLaw", name := "waitsByDeparture", desc := "(JJJ)Z" } : Jvm.MethodName) method_4_code (8 : Nat) (Option.some Jvm.ClassFile.FieldType.boolean)).before args0 about1 = true := code_word (m := ⟨1, 3⟩) (meth := k1m3) (c := k1c3) (by decide +kernel) rfl rfl rfl (by decide +kernel)
def codes1 : List Jvm.Cond := [Jvm.Cond.code x code maxLocals ret, Jvm.Cond.code ({ cls := "java/lang/Math", name := "max", desc := "(JJ)J" } : Jvm.MethodName) jdk_29_method_66_code (4 : Nat) (Option.some Jvm.ClassFile.FieldType.long), Jvm.Cond.code ({ cls := "com/example/floodgate/floodgate/store/QueueTailStillWaitingPinLaw", name := "pickNow", desc := "(JJI)J" } : Jvm.MethodName) method_3_code (5 : Nat) (Option.some Jvm.ClassFile.FieldType.long), Jvm.Cond.code ({ cls := "com/example/floodgate/floodgate/store/QueueTail", name := "<init>", desc := "(JJJJJ)V" } : Jvm.MethodName) prog_47_method_1_code (11 : Nat) (Option.none : Option Jvm.ClassFile.FieldType), Jvm.Cond.code ({ cls := "java/lang/Object", name := "<init>", desc := "()V" } : Jvm.MethodName) object_method_1_code (1 : Nat) (Option.none : Option Jvm.ClassFile.FieldType), Jvm.Cond.code ({ cls := "com/example/floodgate/floodgate/store/QueueTail", name := "stillWaiting", desc := "(Lcom/example/floodgate/floodgate/store/QueueTail;J)Lcom/example/floodgate/floodgate/store/QueueTail;" } : Jvm.MethodName) prog_47_method_3_code (4 : Nat) (Option.some (Jvm.ClassFile.FieldType.object "com/example/floodgate/floodgate/store/QueueTail")), Jvm.Cond.code ({ cls := "com/example/floodgate/floodgate/store/QueueTailStillWaitingPinLaw", name := "waitsByDeparture", desc := "(JJJ)Z" } : Jvm.MethodName) method_4_code (8 : Nat) (Option.some Jvm.ClassFile.FieldType.boolean)]
set_option maxRecDepth 65536 in
theorem codes_eq : words1.filter isCode = codes1 := rfl
theorem w_codes : ∀ c ∈ words1.filter isCode, c.before args0 about1 = true := by
  rw [codes_eq]
  intro c hc
  simp only [codes1, List.mem_cons, List.not_mem_nil, or_false] at hc
  rcases hc with rfl | rfl | rfl | rfl | rfl | rfl | rfl
  · exact w_c0
  · exact w_c1
  · exact w_c2
  · exact w_c3
  · exact w_c4
  · exact w_c5
  · exact w_c6
set_option maxRecDepth 65536 in
theorem w_t1 : (words1.take 24).all (fun c => isCode c || c.before args0 about1) = true := by decide +kernel
set_option maxRecDepth 65536 in
theorem w_t2 : (words1.drop 24).all (fun c => isCode c || c.before args0 about1) = true := by decide +kernel
theorem w_tables : (allAtoms (Jvm.Cond.code x code maxLocals ret :: tables_1)).before args0 about1 = true := by
  rw [allAtoms_all]
  show words1.all (fun c => c.before args0 about1) = true
  refine all_split ?_ w_codes
  rw [← List.take_append_drop 24 words1, List.all_append, w_t1, w_t2]
  rfl
set_option maxRecDepth 65536 in
theorem w_case : (Jvm.Cond.and given_1 narrow_1).before args0 about1 = true := by decide +kernel
theorem w_applies : (headSpec (Jvm.Cond.code x code maxLocals ret :: tables_1) room_1).applies x e0.platform about1 = true :=
  (Spec.applies_iff w_frames).mpr ⟨w_running, w_runnable, w_alone, w_named, w_hears, w_ripe, w_room, w_tables⟩
theorem atStart : AtStart classFile x code maxLocals ret World_1 tables_1 room_1 Calls_1 rest_1 Pre_1 launch0 p0 e0 about1 theMethod args0 below0 :=
  ⟨lists_1, trivial, launch0.admits_env _ _ _, launch0.least_env, fairChoices_fair.cas, fairChoices_fair.clock, w_frames, w_args, w_heap, w_applies, trivial, trivial, w_case⟩
end start1
theorem witness_1 : WitnessClaimed_1 := ⟨start1.p0, start1.e0, start1.about1, start1.theMethod, start1.args0, start1.below0, start1.atStart⟩
end Jvm.Pilot.@@N@@
