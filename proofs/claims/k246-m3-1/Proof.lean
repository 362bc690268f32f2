import JvmDerived
import JvmDerived.Pilot.@@N@@Statement
import JvmDerived.Pilot.@@N@@Code
set_option linter.unusedVariables false
set_option linter.unusedSimpArgs false
namespace Jvm.RoadKit
open Sem ClassFile Op Lib Jvm.Stand Jvm.Free Jvm.LawKit
section New
variable {p : Program} {l : Launch} {e : Env} {R : Room} {s : State} {m : MethodId} {args : Array Value} {below : List Frame} {meth : Method} {c : Code} {T : State} {locs : List Loc} {cells slots : Nat}
theorem retI (X : Stand p l e R s m args below meth c T locs cells slots) (hx : p.tables.exec = Jvm.exec) {pc : Nat} {Ls : Array Slot} {z : Int32} {rest : List Value} (hret : meth.sig.returnType = some .int) (hd : decode c.code pc = .ok (.ireturn, 1)) {fs : List Frame}
    (hl : ∀ (f : JFrame) (acts : List Action), f.method = m → f.locked = none → f.entered = [] → (doReturn e (T.setTop f) acts (some (.int z))).1 = T.setFrames fs) : Steps p.tables e below (T.setTop (mkF m pc Ls (.int z :: rest))) (T.setFrames fs) := by
  have hm' : T.vm.method? m = some meth := X.method'
  have hn : narrow .int (.int z) = .int z := rfl
  show Steps p.tables e below (T.setTop { method := m, pc := pc, locals := Ls, stack := _ :: rest, locked := none }) _
  jvm_step X.here [X.here.top, hx, hd, hm', hret, hn]
  first | (intro acts; rw [hl _ acts rfl rfl rfl]) | rw [hl _ _ rfl rfl rfl]
  exact Steps.refl _
end New
end Jvm.RoadKit
namespace Jvm.Pilot.@@N@@
open Jvm Jvm.ClassFile Sem Op Lib Jvm.Free Jvm.Stand Jvm.LawKit Jvm.RoadKit Bundle Jvm.Pilot.@@N@@.Jvm.D

def own_keyed (x : Int32) : Int32 := if x < (0 : Int32) then (if (x &&& (1073741824 : Int32)) = (0 : Int32) then (0 : Int32) else (1 : Int32)) else (0 : Int32)
def own_len (x : Int32) : Int32 := x &&& ((if (own_keyed x) = (0 : Int32) then (-2147483648 : Int32) else (-1073741824 : Int32)) ^^^ (-1 : Int32))
def own_hd (x : Int32) : Int32 := if x < (0 : Int32) then (if (own_keyed x) = (0 : Int32) then (32 : Int32) else (40 : Int32)) else (8 : Int32)
def own_size (x : Int32) : Int32 := if (8388608 : Int32) < (own_len x) then (-1 : Int32) else (own_hd x) + (own_len x)
theorem own_and_or (x a b c : Int32) : ((x &&& a) ||| b) &&& c = (x &&& (a &&& c)) ||| (b &&& c) := by
  apply Int32.toBitVec_inj.mp
  simp only [Int32.toBitVec_and, Int32.toBitVec_or]
  rw [BitVec.and_comm, BitVec.and_or_distrib_left, BitVec.and_comm c.toBitVec (_ &&& _), BitVec.and_comm c.toBitVec b.toBitVec, BitVec.and_assoc]
theorem own_or_neg (x a : Int32) : (x ||| a) < 0 ↔ x < 0 ∨ a < 0 := by
  simp only [Int32.lt_iff_toBitVec_slt, Int32.toBitVec_or]
  simp [BitVec.slt_zero_eq_msb]
theorem own_k0 (x : Int32) : own_keyed (x &&& 2147483647) = 0 ∧ own_len (x &&& 2147483647) = (x &&& 2147483647) ∧ own_hd (x &&& 2147483647) = 8 := by
  have e1 := c_mask x 2147483647 31 (by decide) (by decide)
  have h1 : ¬ (x &&& 2147483647) < 0 := by rw [Int32.lt_iff_toInt_lt, e1]; show ¬ (_ < (0 : Int)); omega
  have h2 : own_keyed (x &&& 2147483647) = 0 := by unfold own_keyed; rw [if_neg h1]
  refine ⟨h2, ?_, ?_⟩
  · unfold own_len; rw [h2, if_pos rfl, show ((-2147483648 : Int32) ^^^ (-1)) = 2147483647 by decide, Int32.and_assoc, Int32.and_self]
  · unfold own_hd; rw [if_neg h1]
theorem own_k1 (x : Int32) : own_len ((x &&& 1073741823) ||| (-2147483648)) = (x &&& 1073741823) ∧ own_hd ((x &&& 1073741823) ||| (-2147483648)) = 32 := by
  have h1 : ((x &&& 1073741823) ||| (-2147483648 : Int32)) < 0 := (own_or_neg _ _).mpr (Or.inr (by decide))
  have h3 : (((x &&& 1073741823) ||| (-2147483648 : Int32)) &&& 1073741824) = 0 := by
    rw [own_and_or, show ((1073741823 : Int32) &&& 1073741824) = 0 by decide, show ((-2147483648 : Int32) &&& 1073741824) = 0 by decide]; simp
  have h2 : own_keyed ((x &&& 1073741823) ||| (-2147483648)) = 0 := by unfold own_keyed; rw [if_pos h1, if_pos h3]
  refine ⟨?_, ?_⟩
  · unfold own_len; rw [h2, if_pos rfl, show ((-2147483648 : Int32) ^^^ (-1)) = 2147483647 by decide, own_and_or, show ((1073741823 : Int32) &&& 2147483647) = 1073741823 by decide, show ((-2147483648 : Int32) &&& 2147483647) = 0 by decide]; simp
  · unfold own_hd; rw [if_pos h1, h2, if_pos rfl]
theorem own_k2 (x : Int32) : own_len ((x &&& 1073741823) ||| (-1073741824)) = (x &&& 1073741823) ∧ own_hd ((x &&& 1073741823) ||| (-1073741824)) = 40 := by
  have h1 : ((x &&& 1073741823) ||| (-1073741824 : Int32)) < 0 := (own_or_neg _ _).mpr (Or.inr (by decide))
  have h3 : ¬ (((x &&& 1073741823) ||| (-1073741824 : Int32)) &&& 1073741824) = 0 := by
    rw [own_and_or, show ((1073741823 : Int32) &&& 1073741824) = 0 by decide, show ((-1073741824 : Int32) &&& 1073741824) = 1073741824 by decide]; simp
  have h2 : own_keyed ((x &&& 1073741823) ||| (-1073741824)) = 1 := by unfold own_keyed; rw [if_pos h1, if_neg h3]
  refine ⟨?_, ?_⟩
  · unfold own_len; rw [h2, if_neg (by decide), show ((-1073741824 : Int32) ^^^ (-1)) = 1073741823 by decide, own_and_or, show ((1073741823 : Int32) &&& 1073741823) = 1073741823 by decide, show ((-1073741824 : Int32) &&& 1073741823) = 0 by decide]; simp
  · unfold own_hd; rw [if_pos h1, h2, if_neg (by decide)]
theorem pn_3 : plainName "com/example/headwater/headwater/common/wire/EventRecords" = true := by first | (simp [plainName, overriddenIn]; done) | decide +kernel
theorem ef_3_I (m : MethodId) (x0 : Int32) : entryFrame m #[(.int x0)] 1 = mkF m 0 #[.val (.int x0)] [] := by first | (simp [entryFrame, mkF, argsToLocals, Value.category]; done) | rfl
theorem d3_0 : decode prog_44_method_11_code 0 = .ok (.iload_n 0, 1) := by decide +kernel
theorem d3_1 : decode prog_44_method_11_code 1 = .ok (.ifCond .ge 14, 3) := by decide +kernel
theorem d3_4 : decode prog_44_method_11_code 4 = .ok (.iload_n 0, 1) := by decide +kernel
theorem d3_5 : decode prog_44_method_11_code 5 = .ok (.ldc 190, 2) := by decide +kernel
theorem d3_7 : decode prog_44_method_11_code 7 = .ok (.iand, 1) := by decide +kernel
theorem d3_8 : decode prog_44_method_11_code 8 = .ok (.ifCond .eq 7, 3) := by decide +kernel
theorem d3_11 : decode prog_44_method_11_code 11 = .ok (.iconst 1, 1) := by decide +kernel
theorem d3_12 : decode prog_44_method_11_code 12 = .ok (.goto 4, 3) := by decide +kernel
theorem d3_15 : decode prog_44_method_11_code 15 = .ok (.iconst 0, 1) := by decide +kernel
theorem d3_16 : decode prog_44_method_11_code 16 = .ok (.ireturn, 1) := by decide +kernel
def Q_rm3 (Z : State) (x : Int32) (h0 : Heap) (n0 : Nat) (v : Option Value) (h : Heap) (L : List Loc) : Prop := v = some (.int (own_keyed x)) ∧ Fr n0 L ∧ h = h0
set_option maxRecDepth 65536 in
set_option maxHeartbeats 40000000 in
theorem rm3 (l : Launch) (Z : State) (a0 : Array Value) (hw : ∀ d ∈ tables_1, d.before a0 Z = true) (ws : List Jvm.Cond) (x : Int32) (h0 : Heap) (n0 : Nat) (Z0 : n0 ≤ h0.size)  :
    MetFree l (⟨"com/example/headwater/headwater/common/wire/EventRecords", "isKeyed", "(I)Z"⟩ : MethodName) (head1 (Jvm.Cond.code (⟨"com/example/headwater/headwater/common/wire/EventRecords", "isKeyed", "(I)Z"⟩ : MethodName) prog_44_method_11_code 1 (some .boolean) :: ws) ({ frames := 0, cells := 0, slots := 0, locals := 0 } : Room)) (fun a U => a = #[(.int x)] ∧ Z.Warmed39 U.vm ∧ U.heap = h0) (fun _ _ _ _ _ => True) (fun _ U o U' => ∃ v L, o = .returned v ∧ Q_rm3 Z x h0 n0 v U'.heap L ∧ FrameEnd U o U' L ({ frames := 0, cells := 0, slots := 0, locals := 0 } : Room).cells ({ frames := 0, cells := 0, slots := 0, locals := 0 } : Room).slots) := by
  refine MetFree.of_bodySF (plainFor_of_name pn_3) hisR ?_
  intro p e s m args below meth c s₁ Bd hml0 hP hK
  obtain ⟨rfl, hZ, hh⟩ := hP
  have hx := Bd.exec
  have hby := Bd.bytes
  have hml : c.maxLocals = 1 := hml0
  have hown : s.vm.findClass "com/example/headwater/headwater/common/wire/EventRecords" = some m.cls := findClass_of_methodNamed Bd.named
  have hnm := (name_of_methodNamed Bd.named Bd.method).1
  have X0 : Stand p l e ({ frames := 0, cells := 0, slots := 0, locals := 0 } : Room) s m #[(.int x)] below meth c s₁ [] 0 0 := Stand.of_body Bd
  have e0 : s₁.heap = h0 := by rw [← hh, Bd.state]; rfl
  have N0 := Fr.nil n0
  obtain ⟨G, hG⟩ : ∃ G : State → Prop, G = fun t => Steps p.tables e below (s₁.setTop (entryFrame m #[(.int x)] 1)) t := ⟨_, rfl⟩
  have pre0 : ∀ t, Steps p.tables e below (s₁.setTop (mkF m 0 #[.val (.int x)] [])) t → G t := fun t k => by rw [hG]; exact castTop (ef_3_I m x) k
  have pre1 : ∀ t, Steps p.tables e below (s₁.setTop (mkF m 1 #[.val (.int x)] [(.int x)])) t → G t := fun t k => pre0 t (by
    show Steps p.tables e below (s₁.setTop (mkF m 0 #[.val (.int x)] [])) _
    refine XS.iloadN X0.here hx rfl (hb hby d3_0) rfl ?_
    exact k)
  by_cases c1 : x < (0 : Int32)
  · -- c1
    have pre2 : ∀ t, Steps p.tables e below (s₁.setTop (mkF m 8 #[.val (.int x)] [(.int (x &&& (1073741824 : Int32)))])) t → G t := fun t k => pre1 t (by
      show Steps p.tables e below (s₁.setTop (mkF m 1 #[.val (.int x)] [(.int x)])) _
      refine XS.ifNo X0.here hx rfl (hb hby d3_1) rfl ((if0 _ _).trans (tlt c1).2.1) ?_
      show Steps p.tables e below (s₁.setTop (mkF m 4 #[.val (.int x)] [])) _
      refine XS.iloadN X0.here hx rfl (hb hby d3_4) rfl ?_
      show Steps p.tables e below (s₁.setTop (mkF m 5 #[.val (.int x)] [(.int x)])) _
      refine X0.ldcInt hx hown (mvT hZ (hw _ (List.mem_of_getElem? (i := 19) rfl))) (g := (mkF m 5 #[.val (.int x)] [(.int x)])) rfl (hb hby d3_5) _ ?_
      show Steps p.tables e below (s₁.setTop (mkF m 7 #[.val (.int x)] [(.int (1073741824 : Int32)), (.int x)])) _
      refine XS.iand X0.here hx rfl (hb hby d3_7) rfl ?_
      exact k)
    by_cases c8 : (x &&& (1073741824 : Int32)) = (0 : Int32)
    · -- c8
      obtain ⟨fs, hr, hrun, hended, hW, hsame⟩ := X0.leave (v := some (.int (0 : Int32))) (fun h => by rw [Bd.returns] at h; cases h)
      subst hG
      refine ⟨_, _, pre2 _ ?_, hrun, hended, _, _, rfl, ?_, ⟨_, rfl⟩, hW, hsame.mono (by decide) (by decide)⟩
      · skip
        show Steps p.tables e below (s₁.setTop (mkF m 8 #[.val (.int x)] [(.int (x &&& (1073741824 : Int32)))])) _
        refine XS.ifYes X0.here hx rfl (pc0 := 8) (pc' := 15) rfl (hb hby d3_8) rfl ((if0 _ _).trans (teq c8).1) (by decide) (by decide) ?_
        show Steps p.tables e below (s₁.setTop (mkF m 15 #[.val (.int x)] [])) _
        refine XS.iconst X0.here hx rfl (hb hby d3_15) ?_
        show Steps p.tables e below (s₁.setTop (mkF m 16 #[.val (.int x)] [(.int (0 : Int32))])) _
        exact retN X0 hx (t := .boolean) Bd.returns (by simp) (hb hby d3_16) hr
      · show Q_rm3 Z x h0 n0 _ s₁.heap _
        rw [e0]
        exact ⟨by simp only [own_keyed, if_pos c1, if_pos c8], N0, rfl⟩
    · -- not c8
      obtain ⟨fs, hr, hrun, hended, hW, hsame⟩ := X0.leave (v := some (.int (1 : Int32))) (fun h => by rw [Bd.returns] at h; cases h)
      subst hG
      refine ⟨_, _, pre2 _ ?_, hrun, hended, _, _, rfl, ?_, ⟨_, rfl⟩, hW, hsame.mono (by decide) (by decide)⟩
      · skip
        show Steps p.tables e below (s₁.setTop (mkF m 8 #[.val (.int x)] [(.int (x &&& (1073741824 : Int32)))])) _
        refine XS.ifNo X0.here hx rfl (hb hby d3_8) rfl ((if0 _ _).trans (feq c8).1) ?_
        show Steps p.tables e below (s₁.setTop (mkF m 11 #[.val (.int x)] [])) _
        refine XS.iconst X0.here hx rfl (hb hby d3_11) ?_
        show Steps p.tables e below (s₁.setTop (mkF m 12 #[.val (.int x)] [(.int (1 : Int32))])) _
        refine XS.goto X0.here hx rfl (pc0 := 12) (pc' := 16) rfl (hb hby d3_12) (by decide) (by decide) ?_
        show Steps p.tables e below (s₁.setTop (mkF m 16 #[.val (.int x)] [(.int (1 : Int32))])) _
        exact retN X0 hx (t := .boolean) Bd.returns (by simp) (hb hby d3_16) hr
      · show Q_rm3 Z x h0 n0 _ s₁.heap _
        rw [e0]
        exact ⟨by simp only [own_keyed, if_pos c1, if_neg c8], N0, rfl⟩
  · -- not c1
    obtain ⟨fs, hr, hrun, hended, hW, hsame⟩ := X0.leave (v := some (.int (0 : Int32))) (fun h => by rw [Bd.returns] at h; cases h)
    subst hG
    refine ⟨_, _, pre1 _ ?_, hrun, hended, _, _, rfl, ?_, ⟨_, rfl⟩, hW, hsame.mono (by decide) (by decide)⟩
    · skip
      show Steps p.tables e below (s₁.setTop (mkF m 1 #[.val (.int x)] [(.int x)])) _
      refine XS.ifYes X0.here hx rfl (pc0 := 1) (pc' := 15) rfl (hb hby d3_1) rfl ((if0 _ _).trans (flt c1).2.1) (by decide) (by decide) ?_
      show Steps p.tables e below (s₁.setTop (mkF m 15 #[.val (.int x)] [])) _
      refine XS.iconst X0.here hx rfl (hb hby d3_15) ?_
      show Steps p.tables e below (s₁.setTop (mkF m 16 #[.val (.int x)] [(.int (0 : Int32))])) _
      exact retN X0 hx (t := .boolean) Bd.returns (by simp) (hb hby d3_16) hr
    · show Q_rm3 Z x h0 n0 _ s₁.heap _
      rw [e0]
      exact ⟨by simp only [own_keyed, if_neg c1], N0, rfl⟩
theorem pn_2 : plainName "com/example/headwater/headwater/common/wire/EventRecords" = true := by first | (simp [plainName, overriddenIn]; done) | decide +kernel
theorem ef_2_I (m : MethodId) (x0 : Int32) : entryFrame m #[(.int x0)] 1 = mkF m 0 #[.val (.int x0)] [] := by first | (simp [entryFrame, mkF, argsToLocals, Value.category]; done) | rfl
theorem pd_0 : parseMethodDescriptor "(I)Z" = some ⟨[.int], some .boolean⟩ := by decide +kernel
theorem d2_0 : decode prog_44_method_12_code 0 = .ok (.iload_n 0, 1) := by decide +kernel
theorem d2_1 : decode prog_44_method_12_code 1 = .ok (.iload_n 0, 1) := by decide +kernel
theorem d2_2 : decode prog_44_method_12_code 2 = .ok (.invokestatic 99, 3) := by decide +kernel
theorem d2_5 : decode prog_44_method_12_code 5 = .ok (.ifCond .eq 8, 3) := by decide +kernel
theorem d2_8 : decode prog_44_method_12_code 8 = .ok (.ldc 161, 2) := by decide +kernel
theorem d2_10 : decode prog_44_method_12_code 10 = .ok (.goto 5, 3) := by decide +kernel
theorem d2_13 : decode prog_44_method_12_code 13 = .ok (.ldc 160, 2) := by decide +kernel
theorem d2_15 : decode prog_44_method_12_code 15 = .ok (.iconst (-1), 1) := by decide +kernel
theorem d2_16 : decode prog_44_method_12_code 16 = .ok (.ixor, 1) := by decide +kernel
theorem d2_17 : decode prog_44_method_12_code 17 = .ok (.iand, 1) := by decide +kernel
theorem d2_18 : decode prog_44_method_12_code 18 = .ok (.ireturn, 1) := by decide +kernel
def Q_rm2 (Z : State) (x : Int32) (h0 : Heap) (n0 : Nat) (v : Option Value) (h : Heap) (L : List Loc) : Prop := v = some (.int (own_len x)) ∧ Fr n0 L ∧ h = h0
set_option maxRecDepth 65536 in
set_option maxHeartbeats 40000000 in
theorem rm2 (l : Launch) (Z : State) (a0 : Array Value) (hw : ∀ d ∈ tables_1, d.before a0 Z = true) (ws : List Jvm.Cond) (x : Int32) (h0 : Heap) (n0 : Nat) (Z0 : n0 ≤ h0.size)  :
    MetFree l (⟨"com/example/headwater/headwater/common/wire/EventRecords", "length", "(I)I"⟩ : MethodName) (head1 (Jvm.Cond.code (⟨"com/example/headwater/headwater/common/wire/EventRecords", "length", "(I)I"⟩ : MethodName) prog_44_method_12_code 1 (some .int) :: ws) ({ frames := 1, cells := 0, slots := 0, locals := 40 } : Room)) (fun a U => a = #[(.int x)] ∧ Z.Warmed39 U.vm ∧ U.heap = h0) (fun _ _ _ _ _ => True) (fun _ U o U' => ∃ v L, o = .returned v ∧ Q_rm2 Z x h0 n0 v U'.heap L ∧ FrameEnd U o U' L ({ frames := 1, cells := 0, slots := 0, locals := 40 } : Room).cells ({ frames := 1, cells := 0, slots := 0, locals := 40 } : Room).slots) := by
  refine MetFree.of_bodySF (plainFor_of_name pn_2) hisR ?_
  intro p e s m args below meth c s₁ Bd hml0 hP hK
  obtain ⟨rfl, hZ, hh⟩ := hP
  have hx := Bd.exec
  have hby := Bd.bytes
  have hml : c.maxLocals = 1 := hml0
  have hown : s.vm.findClass "com/example/headwater/headwater/common/wire/EventRecords" = some m.cls := findClass_of_methodNamed Bd.named
  have hnm := (name_of_methodNamed Bd.named Bd.method).1
  have X0 : Stand p l e ({ frames := 1, cells := 0, slots := 0, locals := 40 } : Room) s m #[(.int x)] below meth c s₁ [] 0 0 := Stand.of_body Bd
  have e0 : s₁.heap = h0 := by rw [← hh, Bd.state]; rfl
  have N0 := Fr.nil n0
  obtain ⟨G, hG⟩ : ∃ G : State → Prop, G = fun t => Steps p.tables e below (s₁.setTop (entryFrame m #[(.int x)] 1)) t := ⟨_, rfl⟩
  have pre0 : ∀ t, Steps p.tables e below (s₁.setTop (mkF m 0 #[.val (.int x)] [])) t → G t := fun t k => by rw [hG]; exact castTop (ef_2_I m x) k
  have pre1 : ∀ t, Steps p.tables e below (s₁.setTop (mkF m 2 #[.val (.int x)] [(.int x), (.int x)])) t → G t := fun t k => pre0 t (by
    show Steps p.tables e below (s₁.setTop (mkF m 0 #[.val (.int x)] [])) _
    refine XS.iloadN X0.here hx rfl (hb hby d2_0) rfl ?_
    show Steps p.tables e below (s₁.setTop (mkF m 1 #[.val (.int x)] [(.int x)])) _
    refine XS.iloadN X0.here hx rfl (hb hby d2_1) rfl ?_
    exact k)
  obtain ⟨_, _, ⟨T2, L2, k2, n2⟩, -, X2, ⟨Lc2, hQ2, l2, y2, z2⟩, st2⟩ := Jvm.LawKit.callS X0 hx (y := (⟨"com/example/headwater/headwater/common/wire/EventRecords", "isKeyed", "(I)Z"⟩ : MethodName)) hown (mvT hZ (hw _ (List.mem_of_getElem? (i := 9) rfl))) (mvT hZ (hw _ (List.mem_of_getElem? (i := 10) rfl))) (mvT hZ (hw _ (List.mem_of_getElem? (i := 4) rfl))) (mvT hZ (hw _ (List.mem_of_getElem? (i := 11) rfl))) (by decide) (backOf (W := 1) (rm3 l Z a0 hw [] x h0 n0 Z0 ) hZ (hw _ (List.mem_of_getElem? (i := 11) rfl)) (hw _ (List.mem_of_getElem? (i := 4) rfl)) (by decide) (by decide)) (g := (mkF m 2 #[.val (.int x)] [(.int x), (.int x)])) rfl (by rw [hml]; rfl) (argsL := [(.int x)]) (rest := [(.int x)]) (lenOf pd_0 rfl) rfl (by show 2 * 0 + _ ≤ _; exact Nat.le_of_eq rfl) (hb hby d2_2) (fun _ _ => ⟨rfl, e0, (Nat.le_of_ble_eq_true rfl), (Nat.le_of_ble_eq_true rfl)⟩)
  dsimp only [Pt.U, Pt.locs, Pt.cells, Pt.slots] at X2 l2 y2 z2 st2 hQ2
  subst l2 y2 z2
  obtain ⟨rfl, N2q, e2⟩ := hQ2
  have N2 := Fr.app N0 N2q
  have pre2s : ∀ t, Steps p.tables e below (T2.setTop (mkF m 5 #[.val (.int x)] [(.int (own_keyed x)), (.int x)])) t → G t := fun t k => pre1 t (st2 t k)
  have pre3 : ∀ t, Steps p.tables e below (T2.setTop (mkF m 15 #[.val (.int x)] [(.int (if (own_keyed x) = (0 : Int32) then (-2147483648 : Int32) else (-1073741824 : Int32))), (.int x)])) t → G t := by
    intro t k
    refine pre2s t ?_
    by_cases hm5_0 : (own_keyed x) = (0 : Int32)
    · try simp only [if_pos hm5_0] at k
      show Steps p.tables e below (T2.setTop (mkF m 5 #[.val (.int x)] [(.int (own_keyed x)), (.int x)])) _
      refine XS.ifYes X2.here hx rfl (pc0 := 5) (pc' := 13) rfl (hb hby d2_5) rfl ((if0 _ _).trans (teq hm5_0).1) (by decide) (by decide) ?_
      show Steps p.tables e below (T2.setTop (mkF m 13 #[.val (.int x)] [(.int x)])) _
      refine X2.ldcInt hx hown (mvT hZ (hw _ (List.mem_of_getElem? (i := 12) rfl))) (g := (mkF m 13 #[.val (.int x)] [(.int x)])) rfl (hb hby d2_13) _ ?_
      exact k
    · try simp only [if_neg hm5_0] at k
      show Steps p.tables e below (T2.setTop (mkF m 5 #[.val (.int x)] [(.int (own_keyed x)), (.int x)])) _
      refine XS.ifNo X2.here hx rfl (hb hby d2_5) rfl ((if0 _ _).trans (feq hm5_0).1) ?_
      show Steps p.tables e below (T2.setTop (mkF m 8 #[.val (.int x)] [(.int x)])) _
      refine X2.ldcInt hx hown (mvT hZ (hw _ (List.mem_of_getElem? (i := 20) rfl))) (g := (mkF m 8 #[.val (.int x)] [(.int x)])) rfl (hb hby d2_8) _ ?_
      show Steps p.tables e below (T2.setTop (mkF m 10 #[.val (.int x)] [(.int (-1073741824 : Int32)), (.int x)])) _
      refine XS.goto X2.here hx rfl (pc0 := 10) (pc' := 15) rfl (hb hby d2_10) (by decide) (by decide) ?_
      exact k
  obtain ⟨fs, hr, hrun, hended, hW, hsame⟩ := X2.leave (v := some (.int (x &&& ((if (own_keyed x) = (0 : Int32) then (-2147483648 : Int32) else (-1073741824 : Int32)) ^^^ (-1 : Int32))))) (fun h => by rw [Bd.returns] at h; cases h)
  subst hG
  refine ⟨_, _, pre3 _ ?_, hrun, hended, _, _, rfl, ?_, ⟨_, rfl⟩, hW, hsame.mono (by decide) (by decide)⟩
  · skip
    show Steps p.tables e below (T2.setTop (mkF m 15 #[.val (.int x)] [(.int (if (own_keyed x) = (0 : Int32) then (-2147483648 : Int32) else (-1073741824 : Int32))), (.int x)])) _
    refine XS.iconst X2.here hx rfl (hb hby d2_15) ?_
    show Steps p.tables e below (T2.setTop (mkF m 16 #[.val (.int x)] [(.int (-1 : Int32)), (.int (if (own_keyed x) = (0 : Int32) then (-2147483648 : Int32) else (-1073741824 : Int32))), (.int x)])) _
    refine XS.ixor X2.here hx rfl (hb hby d2_16) rfl ?_
    show Steps p.tables e below (T2.setTop (mkF m 17 #[.val (.int x)] [(.int ((if (own_keyed x) = (0 : Int32) then (-2147483648 : Int32) else (-1073741824 : Int32)) ^^^ (-1 : Int32))), (.int x)])) _
    refine XS.iand X2.here hx rfl (hb hby d2_17) rfl ?_
    show Steps p.tables e below (T2.setTop (mkF m 18 #[.val (.int x)] [(.int (x &&& ((if (own_keyed x) = (0 : Int32) then (-2147483648 : Int32) else (-1073741824 : Int32)) ^^^ (-1 : Int32))))])) _
    exact retI X2 hx Bd.returns (hb hby d2_18) hr
  · show Q_rm2 Z x h0 n0 _ T2.heap _
    rw [e2]
    exact ⟨rfl, N2, rfl⟩
theorem pn_4 : plainName "com/example/headwater/headwater/common/wire/EventRecords" = true := by first | (simp [plainName, overriddenIn]; done) | decide +kernel
theorem ef_4_I (m : MethodId) (x0 : Int32) : entryFrame m #[(.int x0)] 1 = mkF m 0 #[.val (.int x0)] [] := by first | (simp [entryFrame, mkF, argsToLocals, Value.category]; done) | rfl
theorem d4_0 : decode prog_44_method_13_code 0 = .ok (.iload_n 0, 1) := by decide +kernel
theorem d4_1 : decode prog_44_method_13_code 1 = .ok (.ifCond .lt 6, 3) := by decide +kernel
theorem d4_4 : decode prog_44_method_13_code 4 = .ok (.bipush 8, 2) := by decide +kernel
theorem d4_6 : decode prog_44_method_13_code 6 = .ok (.ireturn, 1) := by decide +kernel
theorem d4_7 : decode prog_44_method_13_code 7 = .ok (.iload_n 0, 1) := by decide +kernel
theorem d4_8 : decode prog_44_method_13_code 8 = .ok (.invokestatic 99, 3) := by decide +kernel
theorem d4_11 : decode prog_44_method_13_code 11 = .ok (.ifCond .eq 8, 3) := by decide +kernel
theorem d4_14 : decode prog_44_method_13_code 14 = .ok (.bipush 40, 2) := by decide +kernel
theorem d4_16 : decode prog_44_method_13_code 16 = .ok (.goto 5, 3) := by decide +kernel
theorem d4_19 : decode prog_44_method_13_code 19 = .ok (.bipush 32, 2) := by decide +kernel
theorem d4_21 : decode prog_44_method_13_code 21 = .ok (.ireturn, 1) := by decide +kernel
def Q_rm4 (Z : State) (x : Int32) (h0 : Heap) (n0 : Nat) (v : Option Value) (h : Heap) (L : List Loc) : Prop := v = some (.int (own_hd x)) ∧ Fr n0 L ∧ h = h0
set_option maxRecDepth 65536 in
set_option maxHeartbeats 40000000 in
theorem rm4 (l : Launch) (Z : State) (a0 : Array Value) (hw : ∀ d ∈ tables_1, d.before a0 Z = true) (ws : List Jvm.Cond) (x : Int32) (h0 : Heap) (n0 : Nat) (Z0 : n0 ≤ h0.size)  :
    MetFree l (⟨"com/example/headwater/headwater/common/wire/EventRecords", "headerBytes", "(I)I"⟩ : MethodName) (head1 (Jvm.Cond.code (⟨"com/example/headwater/headwater/common/wire/EventRecords", "headerBytes", "(I)I"⟩ : MethodName) prog_44_method_13_code 1 (some .int) :: ws) ({ frames := 1, cells := 0, slots := 0, locals := 40 } : Room)) (fun a U => a = #[(.int x)] ∧ Z.Warmed39 U.vm ∧ U.heap = h0) (fun _ _ _ _ _ => True) (fun _ U o U' => ∃ v L, o = .returned v ∧ Q_rm4 Z x h0 n0 v U'.heap L ∧ FrameEnd U o U' L ({ frames := 1, cells := 0, slots := 0, locals := 40 } : Room).cells ({ frames := 1, cells := 0, slots := 0, locals := 40 } : Room).slots) := by
  refine MetFree.of_bodySF (plainFor_of_name pn_4) hisR ?_
  intro p e s m args below meth c s₁ Bd hml0 hP hK
  obtain ⟨rfl, hZ, hh⟩ := hP
  have hx := Bd.exec
  have hby := Bd.bytes
  have hml : c.maxLocals = 1 := hml0
  have hown : s.vm.findClass "com/example/headwater/headwater/common/wire/EventRecords" = some m.cls := findClass_of_methodNamed Bd.named
  have hnm := (name_of_methodNamed Bd.named Bd.method).1
  have X0 : Stand p l e ({ frames := 1, cells := 0, slots := 0, locals := 40 } : Room) s m #[(.int x)] below meth c s₁ [] 0 0 := Stand.of_body Bd
  have e0 : s₁.heap = h0 := by rw [← hh, Bd.state]; rfl
  have N0 := Fr.nil n0
  obtain ⟨G, hG⟩ : ∃ G : State → Prop, G = fun t => Steps p.tables e below (s₁.setTop (entryFrame m #[(.int x)] 1)) t := ⟨_, rfl⟩
  have pre0 : ∀ t, Steps p.tables e below (s₁.setTop (mkF m 0 #[.val (.int x)] [])) t → G t := fun t k => by rw [hG]; exact castTop (ef_4_I m x) k
  have pre1 : ∀ t, Steps p.tables e below (s₁.setTop (mkF m 1 #[.val (.int x)] [(.int x)])) t → G t := fun t k => pre0 t (by
    show Steps p.tables e below (s₁.setTop (mkF m 0 #[.val (.int x)] [])) _
    refine XS.iloadN X0.here hx rfl (hb hby d4_0) rfl ?_
    exact k)
  by_cases c1 : x < (0 : Int32)
  · -- c1
    have pre2 : ∀ t, Steps p.tables e below (s₁.setTop (mkF m 8 #[.val (.int x)] [(.int x)])) t → G t := fun t k => pre1 t (by
      show Steps p.tables e below (s₁.setTop (mkF m 1 #[.val (.int x)] [(.int x)])) _
      refine XS.ifYes X0.here hx rfl (pc0 := 1) (pc' := 7) rfl (hb hby d4_1) rfl ((if0 _ _).trans (tlt c1).1) (by decide) (by decide) ?_
      show Steps p.tables e below (s₁.setTop (mkF m 7 #[.val (.int x)] [])) _
      refine XS.iloadN X0.here hx rfl (hb hby d4_7) rfl ?_
      exact k)
    obtain ⟨_, _, ⟨T3, L3, k3, n3⟩, -, X3, ⟨Lc3, hQ3, l3, y3, z3⟩, st3⟩ := Jvm.LawKit.callS X0 hx (y := (⟨"com/example/headwater/headwater/common/wire/EventRecords", "isKeyed", "(I)Z"⟩ : MethodName)) hown (mvT hZ (hw _ (List.mem_of_getElem? (i := 9) rfl))) (mvT hZ (hw _ (List.mem_of_getElem? (i := 10) rfl))) (mvT hZ (hw _ (List.mem_of_getElem? (i := 4) rfl))) (mvT hZ (hw _ (List.mem_of_getElem? (i := 11) rfl))) (by decide) (backOf (W := 0) (rm3 l Z a0 hw [] x h0 n0 Z0 ) hZ (hw _ (List.mem_of_getElem? (i := 11) rfl)) (hw _ (List.mem_of_getElem? (i := 4) rfl)) (by decide) (by decide)) (g := (mkF m 8 #[.val (.int x)] [(.int x)])) rfl (by rw [hml]; rfl) (argsL := [(.int x)]) (rest := []) (lenOf pd_0 rfl) rfl (by show 2 * 0 + _ ≤ _; exact Nat.le_of_eq rfl) (hb hby d4_8) (fun _ _ => ⟨rfl, e0, (Nat.le_of_ble_eq_true rfl), (Nat.le_of_ble_eq_true rfl)⟩)
    dsimp only [Pt.U, Pt.locs, Pt.cells, Pt.slots] at X3 l3 y3 z3 st3 hQ3
    subst l3 y3 z3
    obtain ⟨rfl, N3q, e3⟩ := hQ3
    have N3 := Fr.app N0 N3q
    have pre3s : ∀ t, Steps p.tables e below (T3.setTop (mkF m 11 #[.val (.int x)] [(.int (own_keyed x))])) t → G t := fun t k => pre2 t (st3 t k)
    have pre4 : ∀ t, Steps p.tables e below (T3.setTop (mkF m 21 #[.val (.int x)] [(.int (if (own_keyed x) = (0 : Int32) then (32 : Int32) else (40 : Int32)))])) t → G t := by
      intro t k
      refine pre3s t ?_
      by_cases hm11_0 : (own_keyed x) = (0 : Int32)
      · try simp only [if_pos hm11_0] at k
        show Steps p.tables e below (T3.setTop (mkF m 11 #[.val (.int x)] [(.int (own_keyed x))])) _
        refine XS.ifYes X3.here hx rfl (pc0 := 11) (pc' := 19) rfl (hb hby d4_11) rfl ((if0 _ _).trans (teq hm11_0).1) (by decide) (by decide) ?_
        show Steps p.tables e below (T3.setTop (mkF m 19 #[.val (.int x)] [])) _
        refine XS.bipush X3.here hx rfl (hb hby d4_19) ?_
        exact k
      · try simp only [if_neg hm11_0] at k
        show Steps p.tables e below (T3.setTop (mkF m 11 #[.val (.int x)] [(.int (own_keyed x))])) _
        refine XS.ifNo X3.here hx rfl (hb hby d4_11) rfl ((if0 _ _).trans (feq hm11_0).1) ?_
        show Steps p.tables e below (T3.setTop (mkF m 14 #[.val (.int x)] [])) _
        refine XS.bipush X3.here hx rfl (hb hby d4_14) ?_
        show Steps p.tables e below (T3.setTop (mkF m 16 #[.val (.int x)] [(.int (40 : Int32))])) _
        refine XS.goto X3.here hx rfl (pc0 := 16) (pc' := 21) rfl (hb hby d4_16) (by decide) (by decide) ?_
        exact k
    obtain ⟨fs, hr, hrun, hended, hW, hsame⟩ := X3.leave (v := some (.int (if (own_keyed x) = (0 : Int32) then (32 : Int32) else (40 : Int32)))) (fun h => by rw [Bd.returns] at h; cases h)
    subst hG
    refine ⟨_, _, pre4 _ ?_, hrun, hended, _, _, rfl, ?_, ⟨_, rfl⟩, hW, hsame.mono (by decide) (by decide)⟩
    · skip
      show Steps p.tables e below (T3.setTop (mkF m 21 #[.val (.int x)] [(.int (if (own_keyed x) = (0 : Int32) then (32 : Int32) else (40 : Int32)))])) _
      exact retI X3 hx Bd.returns (hb hby d4_21) hr
    · show Q_rm4 Z x h0 n0 _ T3.heap _
      rw [e3]
      exact ⟨by simp only [own_hd, if_pos c1], N3, rfl⟩
  · -- not c1
    obtain ⟨fs, hr, hrun, hended, hW, hsame⟩ := X0.leave (v := some (.int (8 : Int32))) (fun h => by rw [Bd.returns] at h; cases h)
    subst hG
    refine ⟨_, _, pre1 _ ?_, hrun, hended, _, _, rfl, ?_, ⟨_, rfl⟩, hW, hsame.mono (by decide) (by decide)⟩
    · skip
      show Steps p.tables e below (s₁.setTop (mkF m 1 #[.val (.int x)] [(.int x)])) _
      refine XS.ifNo X0.here hx rfl (hb hby d4_1) rfl ((if0 _ _).trans (flt c1).1) ?_
      show Steps p.tables e below (s₁.setTop (mkF m 4 #[.val (.int x)] [])) _
      refine XS.bipush X0.here hx rfl (hb hby d4_4) ?_
      show Steps p.tables e below (s₁.setTop (mkF m 6 #[.val (.int x)] [(.int (8 : Int32))])) _
      exact retI X0 hx Bd.returns (hb hby d4_6) hr
    · show Q_rm4 Z x h0 n0 _ s₁.heap _
      rw [e0]
      exact ⟨by simp only [own_hd, if_neg c1], N0, rfl⟩
theorem pn_1 : plainName "com/example/headwater/headwater/common/wire/EventRecords" = true := by first | (simp [plainName, overriddenIn]; done) | decide +kernel
theorem ef_1_I (m : MethodId) (x0 : Int32) : entryFrame m #[(.int x0)] 2 = mkF m 0 #[.val (.int x0), .unset] [] := by first | (simp [entryFrame, mkF, argsToLocals, Value.category]; done) | rfl
theorem pd_1 : parseMethodDescriptor "(I)I" = some ⟨[.int], some .int⟩ := by decide +kernel
theorem d1_0 : decode prog_44_method_5_code 0 = .ok (.iload_n 0, 1) := by decide +kernel
theorem d1_1 : decode prog_44_method_5_code 1 = .ok (.invokestatic 23, 3) := by decide +kernel
theorem d1_4 : decode prog_44_method_5_code 4 = .ok (.istore_n 1, 1) := by decide +kernel
theorem d1_5 : decode prog_44_method_5_code 5 = .ok (.iload_n 1, 1) := by decide +kernel
theorem d1_6 : decode prog_44_method_5_code 6 = .ok (.ldc 27, 2) := by decide +kernel
theorem d1_8 : decode prog_44_method_5_code 8 = .ok (.if_icmp .le 5, 3) := by decide +kernel
theorem d1_11 : decode prog_44_method_5_code 11 = .ok (.iconst (-1), 1) := by decide +kernel
theorem d1_12 : decode prog_44_method_5_code 12 = .ok (.ireturn, 1) := by decide +kernel
theorem d1_13 : decode prog_44_method_5_code 13 = .ok (.iload_n 0, 1) := by decide +kernel
theorem d1_14 : decode prog_44_method_5_code 14 = .ok (.invokestatic 28, 3) := by decide +kernel
theorem d1_17 : decode prog_44_method_5_code 17 = .ok (.iload_n 1, 1) := by decide +kernel
theorem d1_18 : decode prog_44_method_5_code 18 = .ok (.iadd, 1) := by decide +kernel
theorem d1_19 : decode prog_44_method_5_code 19 = .ok (.ireturn, 1) := by decide +kernel
def Q_rm1 (Z : State) (x : Int32) (h0 : Heap) (n0 : Nat) (v : Option Value) (h : Heap) (L : List Loc) : Prop := v = some (.int (own_size x)) ∧ Fr n0 L ∧ h = h0
set_option maxRecDepth 65536 in
set_option maxHeartbeats 40000000 in
theorem rm1 (l : Launch) (Z : State) (a0 : Array Value) (hw : ∀ d ∈ tables_1, d.before a0 Z = true) (ws : List Jvm.Cond) (x : Int32) (h0 : Heap) (n0 : Nat) (Z0 : n0 ≤ h0.size)  :
    MetFree l (⟨"com/example/headwater/headwater/common/wire/EventRecords", "size", "(I)I"⟩ : MethodName) (head1 (Jvm.Cond.code (⟨"com/example/headwater/headwater/common/wire/EventRecords", "size", "(I)I"⟩ : MethodName) prog_44_method_5_code 2 (some .int) :: ws) ({ frames := 2, cells := 0, slots := 0, locals := 60 } : Room)) (fun a U => a = #[(.int x)] ∧ Z.Warmed39 U.vm ∧ U.heap = h0) (fun _ _ _ _ _ => True) (fun _ U o U' => ∃ v L, o = .returned v ∧ Q_rm1 Z x h0 n0 v U'.heap L ∧ FrameEnd U o U' L ({ frames := 2, cells := 0, slots := 0, locals := 60 } : Room).cells ({ frames := 2, cells := 0, slots := 0, locals := 60 } : Room).slots) := by
  refine MetFree.of_bodySF (plainFor_of_name pn_1) hisR ?_
  intro p e s m args below meth c s₁ Bd hml0 hP hK
  obtain ⟨rfl, hZ, hh⟩ := hP
  have hx := Bd.exec
  have hby := Bd.bytes
  have hml : c.maxLocals = 2 := hml0
  have hown : s.vm.findClass "com/example/headwater/headwater/common/wire/EventRecords" = some m.cls := findClass_of_methodNamed Bd.named
  have hnm := (name_of_methodNamed Bd.named Bd.method).1
  have X0 : Stand p l e ({ frames := 2, cells := 0, slots := 0, locals := 60 } : Room) s m #[(.int x)] below meth c s₁ [] 0 0 := Stand.of_body Bd
  have e0 : s₁.heap = h0 := by rw [← hh, Bd.state]; rfl
  have N0 := Fr.nil n0
  obtain ⟨G, hG⟩ : ∃ G : State → Prop, G = fun t => Steps p.tables e below (s₁.setTop (entryFrame m #[(.int x)] 2)) t := ⟨_, rfl⟩
  have pre0 : ∀ t, Steps p.tables e below (s₁.setTop (mkF m 0 #[.val (.int x), .unset] [])) t → G t := fun t k => by rw [hG]; exact castTop (ef_1_I m x) k
  have pre1 : ∀ t, Steps p.tables e below (s₁.setTop (mkF m 1 #[.val (.int x), .unset] [(.int x)])) t → G t := fun t k => pre0 t (by
    show Steps p.tables e below (s₁.setTop (mkF m 0 #[.val (.int x), .unset] [])) _
    refine XS.iloadN X0.here hx rfl (hb hby d1_0) rfl ?_
    exact k)
  obtain ⟨_, _, ⟨T2, L2, k2, n2⟩, -, X2, ⟨Lc2, hQ2, l2, y2, z2⟩, st2⟩ := Jvm.LawKit.callS X0 hx (y := (⟨"com/example/headwater/headwater/common/wire/EventRecords", "length", "(I)I"⟩ : MethodName)) hown (mvT hZ (hw _ (List.mem_of_getElem? (i := 6) rfl))) (mvT hZ (hw _ (List.mem_of_getElem? (i := 7) rfl))) (mvT hZ (hw _ (List.mem_of_getElem? (i := 4) rfl))) (mvT hZ (hw _ (List.mem_of_getElem? (i := 8) rfl))) (by decide) (backOf (W := 0) (rm2 l Z a0 hw [] x h0 n0 Z0 ) hZ (hw _ (List.mem_of_getElem? (i := 8) rfl)) (hw _ (List.mem_of_getElem? (i := 4) rfl)) (by decide) (by decide)) (g := (mkF m 1 #[.val (.int x), .unset] [(.int x)])) rfl (by rw [hml]; rfl) (argsL := [(.int x)]) (rest := []) (lenOf pd_1 rfl) rfl (by show 2 * 0 + _ ≤ _; exact Nat.le_of_eq rfl) (hb hby d1_1) (fun _ _ => ⟨rfl, e0, (Nat.le_of_ble_eq_true rfl), (Nat.le_of_ble_eq_true rfl)⟩)
  dsimp only [Pt.U, Pt.locs, Pt.cells, Pt.slots] at X2 l2 y2 z2 st2 hQ2
  subst l2 y2 z2
  obtain ⟨rfl, N2q, e2⟩ := hQ2
  have N2 := Fr.app N0 N2q
  have pre2s : ∀ t, Steps p.tables e below (T2.setTop (mkF m 4 #[.val (.int x), .unset] [(.int (own_len x))])) t → G t := fun t k => pre1 t (st2 t k)
  have pre3 : ∀ t, Steps p.tables e below (T2.setTop (mkF m 8 #[.val (.int x), .val (.int (own_len x))] [(.int (8388608 : Int32)), (.int (own_len x))])) t → G t := fun t k => pre2s t (by
    show Steps p.tables e below (T2.setTop (mkF m 4 #[.val (.int x), .unset] [(.int (own_len x))])) _
    refine XS.istoreN X2.here hx rfl (hb hby d1_4) rfl (l' := #[.val (.int x), .val (.int (own_len x))]) rfl ?_
    show Steps p.tables e below (T2.setTop (mkF m 5 #[.val (.int x), .val (.int (own_len x))] [])) _
    refine XS.iloadN X2.here hx rfl (hb hby d1_5) rfl ?_
    show Steps p.tables e below (T2.setTop (mkF m 6 #[.val (.int x), .val (.int (own_len x))] [(.int (own_len x))])) _
    refine X2.ldcInt hx hown (mvT hZ (hw _ (List.mem_of_getElem? (i := 13) rfl))) (g := (mkF m 6 #[.val (.int x), .val (.int (own_len x))] [(.int (own_len x))])) rfl (hb hby d1_6) _ ?_
    exact k)
  by_cases c8 : (8388608 : Int32) < (own_len x)
  · -- c8
    obtain ⟨fs, hr, hrun, hended, hW, hsame⟩ := X2.leave (v := some (.int (-1 : Int32))) (fun h => by rw [Bd.returns] at h; cases h)
    subst hG
    refine ⟨_, _, pre3 _ ?_, hrun, hended, _, _, rfl, ?_, ⟨_, rfl⟩, hW, hsame.mono (by decide) (by decide)⟩
    · skip
      show Steps p.tables e below (T2.setTop (mkF m 8 #[.val (.int x), .val (.int (own_len x))] [(.int (8388608 : Int32)), (.int (own_len x))])) _
      refine XS.icmpNo X2.here hx rfl (hb hby d1_8) rfl (tlt c8).2.2.2 ?_
      show Steps p.tables e below (T2.setTop (mkF m 11 #[.val (.int x), .val (.int (own_len x))] [])) _
      refine XS.iconst X2.here hx rfl (hb hby d1_11) ?_
      show Steps p.tables e below (T2.setTop (mkF m 12 #[.val (.int x), .val (.int (own_len x))] [(.int (-1 : Int32))])) _
      exact retI X2 hx Bd.returns (hb hby d1_12) hr
    · show Q_rm1 Z x h0 n0 _ T2.heap _
      rw [e2]
      exact ⟨by simp only [own_size, if_pos c8], N2, rfl⟩
  · -- not c8
    have pre4 : ∀ t, Steps p.tables e below (T2.setTop (mkF m 14 #[.val (.int x), .val (.int (own_len x))] [(.int x)])) t → G t := fun t k => pre3 t (by
      show Steps p.tables e below (T2.setTop (mkF m 8 #[.val (.int x), .val (.int (own_len x))] [(.int (8388608 : Int32)), (.int (own_len x))])) _
      refine XS.icmpYes X2.here hx rfl (pc0 := 8) (pc' := 13) rfl (hb hby d1_8) rfl (flt c8).2.2.2 (by decide) (by decide) ?_
      show Steps p.tables e below (T2.setTop (mkF m 13 #[.val (.int x), .val (.int (own_len x))] [])) _
      refine XS.iloadN X2.here hx rfl (hb hby d1_13) rfl ?_
      exact k)
    obtain ⟨_, _, ⟨T5, L5, k5, n5⟩, -, X5, ⟨Lc5, hQ5, l5, y5, z5⟩, st5⟩ := Jvm.LawKit.callS X2 hx (y := (⟨"com/example/headwater/headwater/common/wire/EventRecords", "headerBytes", "(I)I"⟩ : MethodName)) hown (mvT hZ (hw _ (List.mem_of_getElem? (i := 14) rfl))) (mvT hZ (hw _ (List.mem_of_getElem? (i := 15) rfl))) (mvT hZ (hw _ (List.mem_of_getElem? (i := 4) rfl))) (mvT hZ (hw _ (List.mem_of_getElem? (i := 16) rfl))) (by decide) (backOf (W := 0) (rm4 l Z a0 hw [] x h0 n0 Z0 ) hZ (hw _ (List.mem_of_getElem? (i := 16) rfl)) (hw _ (List.mem_of_getElem? (i := 4) rfl)) (by decide) (by decide)) (g := (mkF m 14 #[.val (.int x), .val (.int (own_len x))] [(.int x)])) rfl (by rw [hml]; rfl) (argsL := [(.int x)]) (rest := []) (lenOf pd_1 rfl) rfl (by show 2 * 0 + _ ≤ _; exact Nat.le_of_eq rfl) (hb hby d1_14) (fun _ _ => ⟨rfl, e2, (Nat.le_of_ble_eq_true rfl), (Nat.le_of_ble_eq_true rfl)⟩)
    dsimp only [Pt.U, Pt.locs, Pt.cells, Pt.slots] at X5 l5 y5 z5 st5 hQ5
    subst l5 y5 z5
    obtain ⟨rfl, N5q, e5⟩ := hQ5
    have N5 := Fr.app N2 N5q
    have pre5s : ∀ t, Steps p.tables e below (T5.setTop (mkF m 17 #[.val (.int x), .val (.int (own_len x))] [(.int (own_hd x))])) t → G t := fun t k => pre4 t (st5 t k)
    obtain ⟨fs, hr, hrun, hended, hW, hsame⟩ := X5.leave (v := some (.int ((own_hd x) + (own_len x)))) (fun h => by rw [Bd.returns] at h; cases h)
    subst hG
    refine ⟨_, _, pre5s _ ?_, hrun, hended, _, _, rfl, ?_, ⟨_, rfl⟩, hW, hsame.mono (by decide) (by decide)⟩
    · skip
      show Steps p.tables e below (T5.setTop (mkF m 17 #[.val (.int x), .val (.int (own_len x))] [(.int (own_hd x))])) _
      refine XS.iloadN X5.here hx rfl (hb hby d1_17) rfl ?_
      show Steps p.tables e below (T5.setTop (mkF m 18 #[.val (.int x), .val (.int (own_len x))] [(.int (own_len x)), (.int (own_hd x))])) _
      refine XS.iadd X5.here hx rfl (hb hby d1_18) rfl ?_
      show Steps p.tables e below (T5.setTop (mkF m 19 #[.val (.int x), .val (.int (own_len x))] [(.int ((own_hd x) + (own_len x)))])) _
      exact retI X5 hx Bd.returns (hb hby d1_19) hr
    · show Q_rm1 Z x h0 n0 _ T5.heap _
      rw [e5]
      exact ⟨by simp only [own_size, if_neg c8], N5, rfl⟩
theorem pn_0 : plainName "com/example/headwater/headwater/common/wire/EventRecordsSizePinLaw" = true := by first | (simp [plainName, overriddenIn]; done) | decide +kernel
theorem ef_0_I_I (m : MethodId) (x0 : Int32) (x1 : Int32) : entryFrame m #[(.int x0), (.int x1)] maxLocals = mkF m 0 #[.val (.int x0), .val (.int x1), .unset, .unset, .unset, .unset, .unset] [] := by first | (simp [entryFrame, mkF, argsToLocals, Value.category, maxLocals]; done) | rfl
theorem own_law0 (p1 : Int32) : (own_size (p1 &&& (2147483647 : Int32))) = (if (8388608 : Int32) < (p1 &&& (2147483647 : Int32)) then (-1 : Int32) else ((8 : Int32) + (p1 &&& (2147483647 : Int32)))) := by
  obtain ⟨-, e2, e3⟩ := own_k0 p1
  unfold own_size
  rw [e2, e3]
theorem own_law1 (p1 : Int32) : (own_size ((p1 &&& (1073741823 : Int32)) ||| (-2147483648 : Int32))) = (if (8388608 : Int32) < (p1 &&& (1073741823 : Int32)) then (-1 : Int32) else ((32 : Int32) + (p1 &&& (1073741823 : Int32)))) := by
  obtain ⟨e2, e3⟩ := own_k1 p1
  unfold own_size
  rw [e2, e3]
theorem own_law2 (p1 : Int32) : (own_size ((p1 &&& (1073741823 : Int32)) ||| (-1073741824 : Int32))) = (if (8388608 : Int32) < (p1 &&& (1073741823 : Int32)) then (-1 : Int32) else ((40 : Int32) + (p1 &&& (1073741823 : Int32)))) := by
  obtain ⟨e2, e3⟩ := own_k2 p1
  unfold own_size
  rw [e2, e3]
def Q_rm0 (Z : State) (p0 : Int32) (p1 : Int32) (h0 : Heap) (n0 : Nat) (v : Option Value) (h : Heap) (L : List Loc) : Prop := v = some (.int 1) ∧ Fr n0 L
set_option maxRecDepth 65536 in
set_option maxHeartbeats 40000000 in
theorem rm0 (l : Launch) (Z : State) (a0 : Array Value) (hw : ∀ d ∈ tables_1, d.before a0 Z = true) (ws : List Jvm.Cond) (p0 : Int32) (p1 : Int32) (h0 : Heap) (n0 : Nat) (Z0 : n0 ≤ h0.size)  :
    MetFree l x (head1 (Jvm.Cond.code x code maxLocals ret :: ws) room_1) (fun a U => a = #[(.int p0), (.int p1)] ∧ Z.Warmed39 U.vm ∧ U.heap = h0) (fun _ _ _ _ _ => True) (fun _ U o U' => ∃ v L, o = .returned v ∧ Q_rm0 Z p0 p1 h0 n0 v U'.heap L ∧ FrameEnd U o U' L 0 0) := by
  refine MetFree.of_bodySF (plainFor_of_name pn_0) hisR ?_
  intro p e s m args below meth c s₁ Bd hml0 hP hK
  obtain ⟨rfl, hZ, hh⟩ := hP
  have hx := Bd.exec
  have hby := Bd.bytes
  have hml : c.maxLocals = 7 := hml0
  have hown : s.vm.findClass "com/example/headwater/headwater/common/wire/EventRecordsSizePinLaw" = some m.cls := findClass_of_methodNamed Bd.named
  have hnm := (name_of_methodNamed Bd.named Bd.method).1
  have X0 : Stand p l e room_1 s m #[(.int p0), (.int p1)] below meth c s₁ [] 0 0 := Stand.of_body Bd
  have e0 : s₁.heap = h0 := by rw [← hh, Bd.state]; rfl
  have N0 := Fr.nil n0
  obtain ⟨G, hG⟩ : ∃ G : State → Prop, G = fun t => Steps p.tables e below (s₁.setTop (entryFrame m #[(.int p0), (.int p1)] maxLocals)) t := ⟨_, rfl⟩
  have pre0 : ∀ t, Steps p.tables e below (s₁.setTop (mkF m 0 #[.val (.int p0), .val (.int p1), .unset, .unset, .unset, .unset, .unset] [])) t → G t := fun t k => by rw [hG]; exact castTop (ef_0_I_I m p0 p1) k
  have pre1 : ∀ t, Steps p.tables e below (s₁.setTop (mkF m 8 #[.val (.int p0), .val (.int p1), .val (.int ((p0 &&& (2147483647 : Int32)) % (3 : Int32))), .unset, .unset, .unset, .unset] [(.int ((p0 &&& (2147483647 : Int32)) % (3 : Int32)))])) t → G t := fun t k => pre0 t (by
    show Steps p.tables e below (s₁.setTop (mkF m 0 #[.val (.int p0), .val (.int p1), .unset, .unset, .unset, .unset, .unset] [])) _
    refine XS.iloadN X0.here hx rfl (hb hby at_0) rfl ?_
    show Steps p.tables e below (s₁.setTop (mkF m 1 #[.val (.int p0), .val (.int p1), .unset, .unset, .unset, .unset, .unset] [(.int p0)])) _
    refine X0.ldcInt hx hown (mvT hZ (hw _ (List.mem_of_getElem? (i := 0) rfl))) (g := (mkF m 1 #[.val (.int p0), .val (.int p1), .unset, .unset, .unset, .unset, .unset] [(.int p0)])) rfl (hb hby at_1) _ ?_
    show Steps p.tables e below (s₁.setTop (mkF m 3 #[.val (.int p0), .val (.int p1), .unset, .unset, .unset, .unset, .unset] [(.int (2147483647 : Int32)), (.int p0)])) _
    refine XS.iand X0.here hx rfl (hb hby at_3) rfl ?_
    show Steps p.tables e below (s₁.setTop (mkF m 4 #[.val (.int p0), .val (.int p1), .unset, .unset, .unset, .unset, .unset] [(.int (p0 &&& (2147483647 : Int32)))])) _
    refine XS.iconst X0.here hx rfl (hb hby at_4) ?_
    show Steps p.tables e below (s₁.setTop (mkF m 5 #[.val (.int p0), .val (.int p1), .unset, .unset, .unset, .unset, .unset] [(.int (3 : Int32)), (.int (p0 &&& (2147483647 : Int32)))])) _
    refine iremM X0 hx rfl (hb hby at_5) rfl (by decide) ?_
    show Steps p.tables e below (s₁.setTop (mkF m 6 #[.val (.int p0), .val (.int p1), .unset, .unset, .unset, .unset, .unset] [(.int ((p0 &&& (2147483647 : Int32)) % (3 : Int32)))])) _
    refine XS.istoreN X0.here hx rfl (hb hby at_6) rfl (l' := #[.val (.int p0), .val (.int p1), .val (.int ((p0 &&& (2147483647 : Int32)) % (3 : Int32))), .unset, .unset, .unset, .unset]) rfl ?_
    show Steps p.tables e below (s₁.setTop (mkF m 7 #[.val (.int p0), .val (.int p1), .val (.int ((p0 &&& (2147483647 : Int32)) % (3 : Int32))), .unset, .unset, .unset, .unset] [])) _
    refine XS.iloadN X0.here hx rfl (hb hby at_7) rfl ?_
    exact k)
  by_cases hk0 : ((p0 &&& (2147483647 : Int32)) % (3 : Int32)) = (0 : Int32)
  · -- hk0
    have pre2 : ∀ t, Steps p.tables e below (s₁.setTop (mkF m 67 #[.val (.int p0), .val (.int p1), .val (.int ((p0 &&& (2147483647 : Int32)) % (3 : Int32))), .val (.int (p1 &&& (2147483647 : Int32))), .val (.int (p1 &&& (2147483647 : Int32))), .val (.int (8 : Int32)), .unset] [(.int (8388608 : Int32)), (.int (p1 &&& (2147483647 : Int32)))])) t → G t := fun t k => pre1 t (by
      show Steps p.tables e below (s₁.setTop (mkF m 8 #[.val (.int p0), .val (.int p1), .val (.int ((p0 &&& (2147483647 : Int32)) % (3 : Int32))), .unset, .unset, .unset, .unset] [(.int ((p0 &&& (2147483647 : Int32)) % (3 : Int32)))])) _
      refine XS.ifNo X0.here hx rfl (hb hby at_8) rfl ((if0 _ _).trans (teq hk0).2) ?_
      show Steps p.tables e below (s₁.setTop (mkF m 11 #[.val (.int p0), .val (.int p1), .val (.int ((p0 &&& (2147483647 : Int32)) % (3 : Int32))), .unset, .unset, .unset, .unset] [])) _
      refine XS.iloadN X0.here hx rfl (hb hby at_11) rfl ?_
      show Steps p.tables e below (s₁.setTop (mkF m 12 #[.val (.int p0), .val (.int p1), .val (.int ((p0 &&& (2147483647 : Int32)) % (3 : Int32))), .unset, .unset, .unset, .unset] [(.int p1)])) _
      refine X0.ldcInt hx hown (mvT hZ (hw _ (List.mem_of_getElem? (i := 0) rfl))) (g := (mkF m 12 #[.val (.int p0), .val (.int p1), .val (.int ((p0 &&& (2147483647 : Int32)) % (3 : Int32))), .unset, .unset, .unset, .unset] [(.int p1)])) rfl (hb hby at_12) _ ?_
      show Steps p.tables e below (s₁.setTop (mkF m 14 #[.val (.int p0), .val (.int p1), .val (.int ((p0 &&& (2147483647 : Int32)) % (3 : Int32))), .unset, .unset, .unset, .unset] [(.int (2147483647 : Int32)), (.int p1)])) _
      refine XS.iand X0.here hx rfl (hb hby at_14) rfl ?_
      show Steps p.tables e below (s₁.setTop (mkF m 15 #[.val (.int p0), .val (.int p1), .val (.int ((p0 &&& (2147483647 : Int32)) % (3 : Int32))), .unset, .unset, .unset, .unset] [(.int (p1 &&& (2147483647 : Int32)))])) _
      refine XS.istoreN X0.here hx rfl (hb hby at_15) rfl (l' := #[.val (.int p0), .val (.int p1), .val (.int ((p0 &&& (2147483647 : Int32)) % (3 : Int32))), .val (.int (p1 &&& (2147483647 : Int32))), .unset, .unset, .unset]) rfl ?_
      show Steps p.tables e below (s₁.setTop (mkF m 16 #[.val (.int p0), .val (.int p1), .val (.int ((p0 &&& (2147483647 : Int32)) % (3 : Int32))), .val (.int (p1 &&& (2147483647 : Int32))), .unset, .unset, .unset] [])) _
      refine XS.iloadN X0.here hx rfl (hb hby at_16) rfl ?_
      show Steps p.tables e below (s₁.setTop (mkF m 17 #[.val (.int p0), .val (.int p1), .val (.int ((p0 &&& (2147483647 : Int32)) % (3 : Int32))), .val (.int (p1 &&& (2147483647 : Int32))), .unset, .unset, .unset] [(.int (p1 &&& (2147483647 : Int32)))])) _
      refine XS.istore X0.here hx rfl (hb hby at_17) rfl (l' := #[.val (.int p0), .val (.int p1), .val (.int ((p0 &&& (2147483647 : Int32)) % (3 : Int32))), .val (.int (p1 &&& (2147483647 : Int32))), .val (.int (p1 &&& (2147483647 : Int32))), .unset, .unset]) rfl ?_
      show Steps p.tables e below (s₁.setTop (mkF m 19 #[.val (.int p0), .val (.int p1), .val (.int ((p0 &&& (2147483647 : Int32)) % (3 : Int32))), .val (.int (p1 &&& (2147483647 : Int32))), .val (.int (p1 &&& (2147483647 : Int32))), .unset, .unset] [])) _
      refine XS.bipush X0.here hx rfl (hb hby at_19) ?_
      show Steps p.tables e below (s₁.setTop (mkF m 21 #[.val (.int p0), .val (.int p1), .val (.int ((p0 &&& (2147483647 : Int32)) % (3 : Int32))), .val (.int (p1 &&& (2147483647 : Int32))), .val (.int (p1 &&& (2147483647 : Int32))), .unset, .unset] [(.int (8 : Int32))])) _
      refine XS.istore X0.here hx rfl (hb hby at_21) rfl (l' := #[.val (.int p0), .val (.int p1), .val (.int ((p0 &&& (2147483647 : Int32)) % (3 : Int32))), .val (.int (p1 &&& (2147483647 : Int32))), .val (.int (p1 &&& (2147483647 : Int32))), .val (.int (8 : Int32)), .unset]) rfl ?_
      show Steps p.tables e below (s₁.setTop (mkF m 23 #[.val (.int p0), .val (.int p1), .val (.int ((p0 &&& (2147483647 : Int32)) % (3 : Int32))), .val (.int (p1 &&& (2147483647 : Int32))), .val (.int (p1 &&& (2147483647 : Int32))), .val (.int (8 : Int32)), .unset] [])) _
      refine XS.goto X0.here hx rfl (pc0 := 23) (pc' := 64) rfl (hb hby at_23) (by decide) (by decide) ?_
      show Steps p.tables e below (s₁.setTop (mkF m 64 #[.val (.int p0), .val (.int p1), .val (.int ((p0 &&& (2147483647 : Int32)) % (3 : Int32))), .val (.int (p1 &&& (2147483647 : Int32))), .val (.int (p1 &&& (2147483647 : Int32))), .val (.int (8 : Int32)), .unset] [])) _
      refine XS.iloadN X0.here hx rfl (hb hby at_64) rfl ?_
      show Steps p.tables e below (s₁.setTop (mkF m 65 #[.val (.int p0), .val (.int p1), .val (.int ((p0 &&& (2147483647 : Int32)) % (3 : Int32))), .val (.int (p1 &&& (2147483647 : Int32))), .val (.int (p1 &&& (2147483647 : Int32))), .val (.int (8 : Int32)), .unset] [(.int (p1 &&& (2147483647 : Int32)))])) _
      refine X0.ldcInt hx hown (mvT hZ (hw _ (List.mem_of_getElem? (i := 1) rfl))) (g := (mkF m 65 #[.val (.int p0), .val (.int p1), .val (.int ((p0 &&& (2147483647 : Int32)) % (3 : Int32))), .val (.int (p1 &&& (2147483647 : Int32))), .val (.int (p1 &&& (2147483647 : Int32))), .val (.int (8 : Int32)), .unset] [(.int (p1 &&& (2147483647 : Int32)))])) rfl (hb hby at_65) _ ?_
      exact k)
    have pre3 : ∀ t, Steps p.tables e below (s₁.setTop (mkF m 78 #[.val (.int p0), .val (.int p1), .val (.int ((p0 &&& (2147483647 : Int32)) % (3 : Int32))), .val (.int (p1 &&& (2147483647 : Int32))), .val (.int (p1 &&& (2147483647 : Int32))), .val (.int (8 : Int32)), .unset] [(.int (if (8388608 : Int32) < (p1 &&& (2147483647 : Int32)) then (-1 : Int32) else ((8 : Int32) + (p1 &&& (2147483647 : Int32)))))])) t → G t := by
      intro t k
      refine pre2 t ?_
      by_cases hm67_0 : (8388608 : Int32) < (p1 &&& (2147483647 : Int32))
      · try simp only [if_pos hm67_0] at k
        show Steps p.tables e below (s₁.setTop (mkF m 67 #[.val (.int p0), .val (.int p1), .val (.int ((p0 &&& (2147483647 : Int32)) % (3 : Int32))), .val (.int (p1 &&& (2147483647 : Int32))), .val (.int (p1 &&& (2147483647 : Int32))), .val (.int (8 : Int32)), .unset] [(.int (8388608 : Int32)), (.int (p1 &&& (2147483647 : Int32)))])) _
        refine XS.icmpNo X0.here hx rfl (hb hby at_67) rfl (tlt hm67_0).2.2.2 ?_
        show Steps p.tables e below (s₁.setTop (mkF m 70 #[.val (.int p0), .val (.int p1), .val (.int ((p0 &&& (2147483647 : Int32)) % (3 : Int32))), .val (.int (p1 &&& (2147483647 : Int32))), .val (.int (p1 &&& (2147483647 : Int32))), .val (.int (8 : Int32)), .unset] [])) _
        refine XS.iconst X0.here hx rfl (hb hby at_70) ?_
        show Steps p.tables e below (s₁.setTop (mkF m 71 #[.val (.int p0), .val (.int p1), .val (.int ((p0 &&& (2147483647 : Int32)) % (3 : Int32))), .val (.int (p1 &&& (2147483647 : Int32))), .val (.int (p1 &&& (2147483647 : Int32))), .val (.int (8 : Int32)), .unset] [(.int (-1 : Int32))])) _
        refine XS.goto X0.here hx rfl (pc0 := 71) (pc' := 78) rfl (hb hby at_71) (by decide) (by decide) ?_
        exact k
      · try simp only [if_neg hm67_0] at k
        show Steps p.tables e below (s₁.setTop (mkF m 67 #[.val (.int p0), .val (.int p1), .val (.int ((p0 &&& (2147483647 : Int32)) % (3 : Int32))), .val (.int (p1 &&& (2147483647 : Int32))), .val (.int (p1 &&& (2147483647 : Int32))), .val (.int (8 : Int32)), .unset] [(.int (8388608 : Int32)), (.int (p1 &&& (2147483647 : Int32)))])) _
        refine XS.icmpYes X0.here hx rfl (pc0 := 67) (pc' := 74) rfl (hb hby at_67) rfl (flt hm67_0).2.2.2 (by decide) (by decide) ?_
        show Steps p.tables e below (s₁.setTop (mkF m 74 #[.val (.int p0), .val (.int p1), .val (.int ((p0 &&& (2147483647 : Int32)) % (3 : Int32))), .val (.int (p1 &&& (2147483647 : Int32))), .val (.int (p1 &&& (2147483647 : Int32))), .val (.int (8 : Int32)), .unset] [])) _
        refine XS.iload X0.here hx rfl (hb hby at_74) rfl ?_
        show Steps p.tables e below (s₁.setTop (mkF m 76 #[.val (.int p0), .val (.int p1), .val (.int ((p0 &&& (2147483647 : Int32)) % (3 : Int32))), .val (.int (p1 &&& (2147483647 : Int32))), .val (.int (p1 &&& (2147483647 : Int32))), .val (.int (8 : Int32)), .unset] [(.int (8 : Int32))])) _
        refine XS.iloadN X0.here hx rfl (hb hby at_76) rfl ?_
        show Steps p.tables e below (s₁.setTop (mkF m 77 #[.val (.int p0), .val (.int p1), .val (.int ((p0 &&& (2147483647 : Int32)) % (3 : Int32))), .val (.int (p1 &&& (2147483647 : Int32))), .val (.int (p1 &&& (2147483647 : Int32))), .val (.int (8 : Int32)), .unset] [(.int (p1 &&& (2147483647 : Int32))), (.int (8 : Int32))])) _
        refine XS.iadd X0.here hx rfl (hb hby at_77) rfl ?_
        exact k
    have pre4 : ∀ t, Steps p.tables e below (s₁.setTop (mkF m 82 #[.val (.int p0), .val (.int p1), .val (.int ((p0 &&& (2147483647 : Int32)) % (3 : Int32))), .val (.int (p1 &&& (2147483647 : Int32))), .val (.int (p1 &&& (2147483647 : Int32))), .val (.int (8 : Int32)), .val (.int (if (8388608 : Int32) < (p1 &&& (2147483647 : Int32)) then (-1 : Int32) else ((8 : Int32) + (p1 &&& (2147483647 : Int32)))))] [(.int (p1 &&& (2147483647 : Int32)))])) t → G t := fun t k => pre3 t (by
      show Steps p.tables e below (s₁.setTop (mkF m 78 #[.val (.int p0), .val (.int p1), .val (.int ((p0 &&& (2147483647 : Int32)) % (3 : Int32))), .val (.int (p1 &&& (2147483647 : Int32))), .val (.int (p1 &&& (2147483647 : Int32))), .val (.int (8 : Int32)), .unset] [(.int (if (8388608 : Int32) < (p1 &&& (2147483647 : Int32)) then (-1 : Int32) else ((8 : Int32) + (p1 &&& (2147483647 : Int32)))))])) _
      refine XS.istore X0.here hx rfl (hb hby at_78) rfl (l' := #[.val (.int p0), .val (.int p1), .val (.int ((p0 &&& (2147483647 : Int32)) % (3 : Int32))), .val (.int (p1 &&& (2147483647 : Int32))), .val (.int (p1 &&& (2147483647 : Int32))), .val (.int (8 : Int32)), .val (.int (if (8388608 : Int32) < (p1 &&& (2147483647 : Int32)) then (-1 : Int32) else ((8 : Int32) + (p1 &&& (2147483647 : Int32)))))]) rfl ?_
      show Steps p.tables e below (s₁.setTop (mkF m 80 #[.val (.int p0), .val (.int p1), .val (.int ((p0 &&& (2147483647 : Int32)) % (3 : Int32))), .val (.int (p1 &&& (2147483647 : Int32))), .val (.int (p1 &&& (2147483647 : Int32))), .val (.int (8 : Int32)), .val (.int (if (8388608 : Int32) < (p1 &&& (2147483647 : Int32)) then (-1 : Int32) else ((8 : Int32) + (p1 &&& (2147483647 : Int32)))))] [])) _
      refine XS.iload X0.here hx rfl (hb hby at_80) rfl ?_
      exact k)
    obtain ⟨_, _, ⟨T5, L5, k5, n5⟩, -, X5, ⟨Lc5, hQ5, l5, y5, z5⟩, st5⟩ := Jvm.LawKit.callS X0 hx (y := (⟨"com/example/headwater/headwater/common/wire/EventRecords", "size", "(I)I"⟩ : MethodName)) hown (mvT hZ (hw _ (List.mem_of_getElem? (i := 2) rfl))) (mvT hZ (hw _ (List.mem_of_getElem? (i := 3) rfl))) (mvT hZ (hw _ (List.mem_of_getElem? (i := 4) rfl))) (mvT hZ (hw _ (List.mem_of_getElem? (i := 5) rfl))) (by decide) (backOf (W := 0) (rm1 l Z a0 hw [] (p1 &&& (2147483647 : Int32)) h0 n0 Z0 ) hZ (hw _ (List.mem_of_getElem? (i := 5) rfl)) (hw _ (List.mem_of_getElem? (i := 4) rfl)) (by decide) (by decide)) (g := (mkF m 82 #[.val (.int p0), .val (.int p1), .val (.int ((p0 &&& (2147483647 : Int32)) % (3 : Int32))), .val (.int (p1 &&& (2147483647 : Int32))), .val (.int (p1 &&& (2147483647 : Int32))), .val (.int (8 : Int32)), .val (.int (if (8388608 : Int32) < (p1 &&& (2147483647 : Int32)) then (-1 : Int32) else ((8 : Int32) + (p1 &&& (2147483647 : Int32)))))] [(.int (p1 &&& (2147483647 : Int32)))])) rfl (by rw [hml]; rfl) (argsL := [(.int (p1 &&& (2147483647 : Int32)))]) (rest := []) (lenOf pd_1 rfl) rfl (by show 2 * 0 + _ ≤ _; exact Nat.le_of_eq rfl) (hb hby at_82) (fun _ _ => ⟨rfl, e0, (Nat.le_of_ble_eq_true rfl), (Nat.le_of_ble_eq_true rfl)⟩)
    dsimp only [Pt.U, Pt.locs, Pt.cells, Pt.slots] at X5 l5 y5 z5 st5 hQ5
    subst l5 y5 z5
    obtain ⟨rfl, N5q, e5⟩ := hQ5
    have N5 := Fr.app N0 N5q
    have pre5s : ∀ t, Steps p.tables e below (T5.setTop (mkF m 85 #[.val (.int p0), .val (.int p1), .val (.int ((p0 &&& (2147483647 : Int32)) % (3 : Int32))), .val (.int (p1 &&& (2147483647 : Int32))), .val (.int (p1 &&& (2147483647 : Int32))), .val (.int (8 : Int32)), .val (.int (if (8388608 : Int32) < (p1 &&& (2147483647 : Int32)) then (-1 : Int32) else ((8 : Int32) + (p1 &&& (2147483647 : Int32)))))] [(.int (own_size (p1 &&& (2147483647 : Int32))))])) t → G t := fun t k => pre4 t (st5 t k)
    obtain ⟨fs, hr, hrun, hended, hW, hsame⟩ := X5.leave (v := some (.int (1 : Int32))) (fun h => by rw [Bd.returns] at h; cases h)
    subst hG
    refine ⟨_, _, pre5s _ ?_, hrun, hended, _, _, rfl, ?_, ⟨_, rfl⟩, hW, hsame.mono (by decide) (by decide)⟩
    · skip
      show Steps p.tables e below (T5.setTop (mkF m 85 #[.val (.int p0), .val (.int p1), .val (.int ((p0 &&& (2147483647 : Int32)) % (3 : Int32))), .val (.int (p1 &&& (2147483647 : Int32))), .val (.int (p1 &&& (2147483647 : Int32))), .val (.int (8 : Int32)), .val (.int (if (8388608 : Int32) < (p1 &&& (2147483647 : Int32)) then (-1 : Int32) else ((8 : Int32) + (p1 &&& (2147483647 : Int32)))))] [(.int (own_size (p1 &&& (2147483647 : Int32))))])) _
      refine XS.iload X5.here hx rfl (hb hby at_85) rfl ?_
      show Steps p.tables e below (T5.setTop (mkF m 87 #[.val (.int p0), .val (.int p1), .val (.int ((p0 &&& (2147483647 : Int32)) % (3 : Int32))), .val (.int (p1 &&& (2147483647 : Int32))), .val (.int (p1 &&& (2147483647 : Int32))), .val (.int (8 : Int32)), .val (.int (if (8388608 : Int32) < (p1 &&& (2147483647 : Int32)) then (-1 : Int32) else ((8 : Int32) + (p1 &&& (2147483647 : Int32)))))] [(.int (if (8388608 : Int32) < (p1 &&& (2147483647 : Int32)) then (-1 : Int32) else ((8 : Int32) + (p1 &&& (2147483647 : Int32))))), (.int (own_size (p1 &&& (2147483647 : Int32))))])) _
      refine XS.icmpNo X5.here hx rfl (hb hby at_87) rfl (teq (own_law0 p1)).2 ?_
      show Steps p.tables e below (T5.setTop (mkF m 90 #[.val (.int p0), .val (.int p1), .val (.int ((p0 &&& (2147483647 : Int32)) % (3 : Int32))), .val (.int (p1 &&& (2147483647 : Int32))), .val (.int (p1 &&& (2147483647 : Int32))), .val (.int (8 : Int32)), .val (.int (if (8388608 : Int32) < (p1 &&& (2147483647 : Int32)) then (-1 : Int32) else ((8 : Int32) + (p1 &&& (2147483647 : Int32)))))] [])) _
      refine XS.iconst X5.here hx rfl (hb hby at_90) ?_
      show Steps p.tables e below (T5.setTop (mkF m 91 #[.val (.int p0), .val (.int p1), .val (.int ((p0 &&& (2147483647 : Int32)) % (3 : Int32))), .val (.int (p1 &&& (2147483647 : Int32))), .val (.int (p1 &&& (2147483647 : Int32))), .val (.int (8 : Int32)), .val (.int (if (8388608 : Int32) < (p1 &&& (2147483647 : Int32)) then (-1 : Int32) else ((8 : Int32) + (p1 &&& (2147483647 : Int32)))))] [(.int (1 : Int32))])) _
      refine XS.goto X5.here hx rfl (pc0 := 91) (pc' := 95) rfl (hb hby at_91) (by decide) (by decide) ?_
      show Steps p.tables e below (T5.setTop (mkF m 95 #[.val (.int p0), .val (.int p1), .val (.int ((p0 &&& (2147483647 : Int32)) % (3 : Int32))), .val (.int (p1 &&& (2147483647 : Int32))), .val (.int (p1 &&& (2147483647 : Int32))), .val (.int (8 : Int32)), .val (.int (if (8388608 : Int32) < (p1 &&& (2147483647 : Int32)) then (-1 : Int32) else ((8 : Int32) + (p1 &&& (2147483647 : Int32)))))] [(.int (1 : Int32))])) _
      exact retN X5 hx (t := .boolean) Bd.returns (by simp) (hb hby at_95) hr
    · show Q_rm0 Z p0 p1 h0 n0 _ T5.heap _
      rw [e5]
      exact ⟨rfl, N5⟩
  · -- not hk0
    have pre6 : ∀ t, Steps p.tables e below (s₁.setTop (mkF m 28 #[.val (.int p0), .val (.int p1), .val (.int ((p0 &&& (2147483647 : Int32)) % (3 : Int32))), .unset, .unset, .unset, .unset] [(.int (1 : Int32)), (.int ((p0 &&& (2147483647 : Int32)) % (3 : Int32)))])) t → G t := fun t k => pre1 t (by
      show Steps p.tables e below (s₁.setTop (mkF m 8 #[.val (.int p0), .val (.int p1), .val (.int ((p0 &&& (2147483647 : Int32)) % (3 : Int32))), .unset, .unset, .unset, .unset] [(.int ((p0 &&& (2147483647 : Int32)) % (3 : Int32)))])) _
      refine XS.ifYes X0.here hx rfl (pc0 := 8) (pc' := 26) rfl (hb hby at_8) rfl ((if0 _ _).trans (feq hk0).2) (by decide) (by decide) ?_
      show Steps p.tables e below (s₁.setTop (mkF m 26 #[.val (.int p0), .val (.int p1), .val (.int ((p0 &&& (2147483647 : Int32)) % (3 : Int32))), .unset, .unset, .unset, .unset] [])) _
      refine XS.iloadN X0.here hx rfl (hb hby at_26) rfl ?_
      show Steps p.tables e below (s₁.setTop (mkF m 27 #[.val (.int p0), .val (.int p1), .val (.int ((p0 &&& (2147483647 : Int32)) % (3 : Int32))), .unset, .unset, .unset, .unset] [(.int ((p0 &&& (2147483647 : Int32)) % (3 : Int32)))])) _
      refine XS.iconst X0.here hx rfl (hb hby at_27) ?_
      exact k)
    by_cases hk1 : ((p0 &&& (2147483647 : Int32)) % (3 : Int32)) = (1 : Int32)
    · -- hk1
      have pre7 : ∀ t, Steps p.tables e below (s₁.setTop (mkF m 67 #[.val (.int p0), .val (.int p1), .val (.int ((p0 &&& (2147483647 : Int32)) % (3 : Int32))), .val (.int (p1 &&& (1073741823 : Int32))), .val (.int ((p1 &&& (1073741823 : Int32)) ||| (-2147483648 : Int32))), .val (.int (32 : Int32)), .unset] [(.int (8388608 : Int32)), (.int (p1 &&& (1073741823 : Int32)))])) t → G t := fun t k => pre6 t (by
        show Steps p.tables e below (s₁.setTop (mkF m 28 #[.val (.int p0), .val (.int p1), .val (.int ((p0 &&& (2147483647 : Int32)) % (3 : Int32))), .unset, .unset, .unset, .unset] [(.int (1 : Int32)), (.int ((p0 &&& (2147483647 : Int32)) % (3 : Int32)))])) _
        refine XS.icmpNo X0.here hx rfl (hb hby at_28) rfl (teq hk1).2 ?_
        show Steps p.tables e below (s₁.setTop (mkF m 31 #[.val (.int p0), .val (.int p1), .val (.int ((p0 &&& (2147483647 : Int32)) % (3 : Int32))), .unset, .unset, .unset, .unset] [])) _
        refine XS.iloadN X0.here hx rfl (hb hby at_31) rfl ?_
        show Steps p.tables e below (s₁.setTop (mkF m 32 #[.val (.int p0), .val (.int p1), .val (.int ((p0 &&& (2147483647 : Int32)) % (3 : Int32))), .unset, .unset, .unset, .unset] [(.int p1)])) _
        refine X0.ldcInt hx hown (mvT hZ (hw _ (List.mem_of_getElem? (i := 17) rfl))) (g := (mkF m 32 #[.val (.int p0), .val (.int p1), .val (.int ((p0 &&& (2147483647 : Int32)) % (3 : Int32))), .unset, .unset, .unset, .unset] [(.int p1)])) rfl (hb hby at_32) _ ?_
        show Steps p.tables e below (s₁.setTop (mkF m 34 #[.val (.int p0), .val (.int p1), .val (.int ((p0 &&& (2147483647 : Int32)) % (3 : Int32))), .unset, .unset, .unset, .unset] [(.int (1073741823 : Int32)), (.int p1)])) _
        refine XS.iand X0.here hx rfl (hb hby at_34) rfl ?_
        show Steps p.tables e below (s₁.setTop (mkF m 35 #[.val (.int p0), .val (.int p1), .val (.int ((p0 &&& (2147483647 : Int32)) % (3 : Int32))), .unset, .unset, .unset, .unset] [(.int (p1 &&& (1073741823 : Int32)))])) _
        refine XS.istoreN X0.here hx rfl (hb hby at_35) rfl (l' := #[.val (.int p0), .val (.int p1), .val (.int ((p0 &&& (2147483647 : Int32)) % (3 : Int32))), .val (.int (p1 &&& (1073741823 : Int32))), .unset, .unset, .unset]) rfl ?_
        show Steps p.tables e below (s₁.setTop (mkF m 36 #[.val (.int p0), .val (.int p1), .val (.int ((p0 &&& (2147483647 : Int32)) % (3 : Int32))), .val (.int (p1 &&& (1073741823 : Int32))), .unset, .unset, .unset] [])) _
        refine XS.iloadN X0.here hx rfl (hb hby at_36) rfl ?_
        show Steps p.tables e below (s₁.setTop (mkF m 37 #[.val (.int p0), .val (.int p1), .val (.int ((p0 &&& (2147483647 : Int32)) % (3 : Int32))), .val (.int (p1 &&& (1073741823 : Int32))), .unset, .unset, .unset] [(.int (p1 &&& (1073741823 : Int32)))])) _
        refine X0.ldcInt hx hown (mvT hZ (hw _ (List.mem_of_getElem? (i := 21) rfl))) (g := (mkF m 37 #[.val (.int p0), .val (.int p1), .val (.int ((p0 &&& (2147483647 : Int32)) % (3 : Int32))), .val (.int (p1 &&& (1073741823 : Int32))), .unset, .unset, .unset] [(.int (p1 &&& (1073741823 : Int32)))])) rfl (hb hby at_37) _ ?_
        show Steps p.tables e below (s₁.setTop (mkF m 39 #[.val (.int p0), .val (.int p1), .val (.int ((p0 &&& (2147483647 : Int32)) % (3 : Int32))), .val (.int (p1 &&& (1073741823 : Int32))), .unset, .unset, .unset] [(.int (-2147483648 : Int32)), (.int (p1 &&& (1073741823 : Int32)))])) _
        refine XS.ior X0.here hx rfl (hb hby at_39) rfl ?_
        show Steps p.tables e below (s₁.setTop (mkF m 40 #[.val (.int p0), .val (.int p1), .val (.int ((p0 &&& (2147483647 : Int32)) % (3 : Int32))), .val (.int (p1 &&& (1073741823 : Int32))), .unset, .unset, .unset] [(.int ((p1 &&& (1073741823 : Int32)) ||| (-2147483648 : Int32)))])) _
        refine XS.istore X0.here hx rfl (hb hby at_40) rfl (l' := #[.val (.int p0), .val (.int p1), .val (.int ((p0 &&& (2147483647 : Int32)) % (3 : Int32))), .val (.int (p1 &&& (1073741823 : Int32))), .val (.int ((p1 &&& (1073741823 : Int32)) ||| (-2147483648 : Int32))), .unset, .unset]) rfl ?_
        show Steps p.tables e below (s₁.setTop (mkF m 42 #[.val (.int p0), .val (.int p1), .val (.int ((p0 &&& (2147483647 : Int32)) % (3 : Int32))), .val (.int (p1 &&& (1073741823 : Int32))), .val (.int ((p1 &&& (1073741823 : Int32)) ||| (-2147483648 : Int32))), .unset, .unset] [])) _
        refine XS.bipush X0.here hx rfl (hb hby at_42) ?_
        show Steps p.tables e below (s₁.setTop (mkF m 44 #[.val (.int p0), .val (.int p1), .val (.int ((p0 &&& (2147483647 : Int32)) % (3 : Int32))), .val (.int (p1 &&& (1073741823 : Int32))), .val (.int ((p1 &&& (1073741823 : Int32)) ||| (-2147483648 : Int32))), .unset, .unset] [(.int (32 : Int32))])) _
        refine XS.istore X0.here hx rfl (hb hby at_44) rfl (l' := #[.val (.int p0), .val (.int p1), .val (.int ((p0 &&& (2147483647 : Int32)) % (3 : Int32))), .val (.int (p1 &&& (1073741823 : Int32))), .val (.int ((p1 &&& (1073741823 : Int32)) ||| (-2147483648 : Int32))), .val (.int (32 : Int32)), .unset]) rfl ?_
        show Steps p.tables e below (s₁.setTop (mkF m 46 #[.val (.int p0), .val (.int p1), .val (.int ((p0 &&& (2147483647 : Int32)) % (3 : Int32))), .val (.int (p1 &&& (1073741823 : Int32))), .val (.int ((p1 &&& (1073741823 : Int32)) ||| (-2147483648 : Int32))), .val (.int (32 : Int32)), .unset] [])) _
        refine XS.goto X0.here hx rfl (pc0 := 46) (pc' := 64) rfl (hb hby at_46) (by decide) (by decide) ?_
        show Steps p.tables e below (s₁.setTop (mkF m 64 #[.val (.int p0), .val (.int p1), .val (.int ((p0 &&& (2147483647 : Int32)) % (3 : Int32))), .val (.int (p1 &&& (1073741823 : Int32))), .val (.int ((p1 &&& (1073741823 : Int32)) ||| (-2147483648 : Int32))), .val (.int (32 : Int32)), .unset] [])) _
        refine XS.iloadN X0.here hx rfl (hb hby at_64) rfl ?_
        show Steps p.tables e below (s₁.setTop (mkF m 65 #[.val (.int p0), .val (.int p1), .val (.int ((p0 &&& (2147483647 : Int32)) % (3 : Int32))), .val (.int (p1 &&& (1073741823 : Int32))), .val (.int ((p1 &&& (1073741823 : Int32)) ||| (-2147483648 : Int32))), .val (.int (32 : Int32)), .unset] [(.int (p1 &&& (1073741823 : Int32)))])) _
        refine X0.ldcInt hx hown (mvT hZ (hw _ (List.mem_of_getElem? (i := 1) rfl))) (g := (mkF m 65 #[.val (.int p0), .val (.int p1), .val (.int ((p0 &&& (2147483647 : Int32)) % (3 : Int32))), .val (.int (p1 &&& (1073741823 : Int32))), .val (.int ((p1 &&& (1073741823 : Int32)) ||| (-2147483648 : Int32))), .val (.int (32 : Int32)), .unset] [(.int (p1 &&& (1073741823 : Int32)))])) rfl (hb hby at_65) _ ?_
        exact k)
      have pre8 : ∀ t, Steps p.tables e below (s₁.setTop (mkF m 78 #[.val (.int p0), .val (.int p1), .val (.int ((p0 &&& (2147483647 : Int32)) % (3 : Int32))), .val (.int (p1 &&& (1073741823 : Int32))), .val (.int ((p1 &&& (1073741823 : Int32)) ||| (-2147483648 : Int32))), .val (.int (32 : Int32)), .unset] [(.int (if (8388608 : Int32) < (p1 &&& (1073741823 : Int32)) then (-1 : Int32) else ((32 : Int32) + (p1 &&& (1073741823 : Int32)))))])) t → G t := by
        intro t k
        refine pre7 t ?_
        by_cases hm67_0 : (8388608 : Int32) < (p1 &&& (1073741823 : Int32))
        · try simp only [if_pos hm67_0] at k
          show Steps p.tables e below (s₁.setTop (mkF m 67 #[.val (.int p0), .val (.int p1), .val (.int ((p0 &&& (2147483647 : Int32)) % (3 : Int32))), .val (.int (p1 &&& (1073741823 : Int32))), .val (.int ((p1 &&& (1073741823 : Int32)) ||| (-2147483648 : Int32))), .val (.int (32 : Int32)), .unset] [(.int (8388608 : Int32)), (.int (p1 &&& (1073741823 : Int32)))])) _
          refine XS.icmpNo X0.here hx rfl (hb hby at_67) rfl (tlt hm67_0).2.2.2 ?_
          show Steps p.tables e below (s₁.setTop (mkF m 70 #[.val (.int p0), .val (.int p1), .val (.int ((p0 &&& (2147483647 : Int32)) % (3 : Int32))), .val (.int (p1 &&& (1073741823 : Int32))), .val (.int ((p1 &&& (1073741823 : Int32)) ||| (-2147483648 : Int32))), .val (.int (32 : Int32)), .unset] [])) _
          refine XS.iconst X0.here hx rfl (hb hby at_70) ?_
          show Steps p.tables e below (s₁.setTop (mkF m 71 #[.val (.int p0), .val (.int p1), .val (.int ((p0 &&& (2147483647 : Int32)) % (3 : Int32))), .val (.int (p1 &&& (1073741823 : Int32))), .val (.int ((p1 &&& (1073741823 : Int32)) ||| (-2147483648 : Int32))), .val (.int (32 : Int32)), .unset] [(.int (-1 : Int32))])) _
          refine XS.goto X0.here hx rfl (pc0 := 71) (pc' := 78) rfl (hb hby at_71) (by decide) (by decide) ?_
          exact k
        · try simp only [if_neg hm67_0] at k
          show Steps p.tables e below (s₁.setTop (mkF m 67 #[.val (.int p0), .val (.int p1), .val (.int ((p0 &&& (2147483647 : Int32)) % (3 : Int32))), .val (.int (p1 &&& (1073741823 : Int32))), .val (.int ((p1 &&& (1073741823 : Int32)) ||| (-2147483648 : Int32))), .val (.int (32 : Int32)), .unset] [(.int (8388608 : Int32)), (.int (p1 &&& (1073741823 : Int32)))])) _
          refine XS.icmpYes X0.here hx rfl (pc0 := 67) (pc' := 74) rfl (hb hby at_67) rfl (flt hm67_0).2.2.2 (by decide) (by decide) ?_
          show Steps p.tables e below (s₁.setTop (mkF m 74 #[.val (.int p0), .val (.int p1), .val (.int ((p0 &&& (2147483647 : Int32)) % (3 : Int32))), .val (.int (p1 &&& (1073741823 : Int32))), .val (.int ((p1 &&& (1073741823 : Int32)) ||| (-2147483648 : Int32))), .val (.int (32 : Int32)), .unset] [])) _
          refine XS.iload X0.here hx rfl (hb hby at_74) rfl ?_
          show Steps p.tables e below (s₁.setTop (mkF m 76 #[.val (.int p0), .val (.int p1), .val (.int ((p0 &&& (2147483647 : Int32)) % (3 : Int32))), .val (.int (p1 &&& (1073741823 : Int32))), .val (.int ((p1 &&& (1073741823 : Int32)) ||| (-2147483648 : Int32))), .val (.int (32 : Int32)), .unset] [(.int (32 : Int32))])) _
          refine XS.iloadN X0.here hx rfl (hb hby at_76) rfl ?_
          show Steps p.tables e below (s₁.setTop (mkF m 77 #[.val (.int p0), .val (.int p1), .val (.int ((p0 &&& (2147483647 : Int32)) % (3 : Int32))), .val (.int (p1 &&& (1073741823 : Int32))), .val (.int ((p1 &&& (1073741823 : Int32)) ||| (-2147483648 : Int32))), .val (.int (32 : Int32)), .unset] [(.int (p1 &&& (1073741823 : Int32))), (.int (32 : Int32))])) _
          refine XS.iadd X0.here hx rfl (hb hby at_77) rfl ?_
          exact k
      have pre9 : ∀ t, Steps p.tables e below (s₁.setTop (mkF m 82 #[.val (.int p0), .val (.int p1), .val (.int ((p0 &&& (2147483647 : Int32)) % (3 : Int32))), .val (.int (p1 &&& (1073741823 : Int32))), .val (.int ((p1 &&& (1073741823 : Int32)) ||| (-2147483648 : Int32))), .val (.int (32 : Int32)), .val (.int (if (8388608 : Int32) < (p1 &&& (1073741823 : Int32)) then (-1 : Int32) else ((32 : Int32) + (p1 &&& (1073741823 : Int32)))))] [(.int ((p1 &&& (1073741823 : Int32)) ||| (-2147483648 : Int32)))])) t → G t := fun t k => pre8 t (by
        show Steps p.tables e below (s₁.setTop (mkF m 78 #[.val (.int p0), .val (.int p1), .val (.int ((p0 &&& (2147483647 : Int32)) % (3 : Int32))), .val (.int (p1 &&& (1073741823 : Int32))), .val (.int ((p1 &&& (1073741823 : Int32)) ||| (-2147483648 : Int32))), .val (.int (32 : Int32)), .unset] [(.int (if (8388608 : Int32) < (p1 &&& (1073741823 : Int32)) then (-1 : Int32) else ((32 : Int32) + (p1 &&& (1073741823 : Int32)))))])) _
        refine XS.istore X0.here hx rfl (hb hby at_78) rfl (l' := #[.val (.int p0), .val (.int p1), .val (.int ((p0 &&& (2147483647 : Int32)) % (3 : Int32))), .val (.int (p1 &&& (1073741823 : Int32))), .val (.int ((p1 &&& (1073741823 : Int32)) ||| (-2147483648 : Int32))), .val (.int (32 : Int32)), .val (.int (if (8388608 : Int32) < (p1 &&& (1073741823 : Int32)) then (-1 : Int32) else ((32 : Int32) + (p1 &&& (1073741823 : Int32)))))]) rfl ?_
        show Steps p.tables e below (s₁.setTop (mkF m 80 #[.val (.int p0), .val (.int p1), .val (.int ((p0 &&& (2147483647 : Int32)) % (3 : Int32))), .val (.int (p1 &&& (1073741823 : Int32))), .val (.int ((p1 &&& (1073741823 : Int32)) ||| (-2147483648 : Int32))), .val (.int (32 : Int32)), .val (.int (if (8388608 : Int32) < (p1 &&& (1073741823 : Int32)) then (-1 : Int32) else ((32 : Int32) + (p1 &&& (1073741823 : Int32)))))] [])) _
        refine XS.iload X0.here hx rfl (hb hby at_80) rfl ?_
        exact k)
      obtain ⟨_, _, ⟨T10, L10, k10, n10⟩, -, X10, ⟨Lc10, hQ10, l10, y10, z10⟩, st10⟩ := Jvm.LawKit.callS X0 hx (y := (⟨"com/example/headwater/headwater/common/wire/EventRecords", "size", "(I)I"⟩ : MethodName)) hown (mvT hZ (hw _ (List.mem_of_getElem? (i := 2) rfl))) (mvT hZ (hw _ (List.mem_of_getElem? (i := 3) rfl))) (mvT hZ (hw _ (List.mem_of_getElem? (i := 4) rfl))) (mvT hZ (hw _ (List.mem_of_getElem? (i := 5) rfl))) (by decide) (backOf (W := 0) (rm1 l Z a0 hw [] ((p1 &&& (1073741823 : Int32)) ||| (-2147483648 : Int32)) h0 n0 Z0 ) hZ (hw _ (List.mem_of_getElem? (i := 5) rfl)) (hw _ (List.mem_of_getElem? (i := 4) rfl)) (by decide) (by decide)) (g := (mkF m 82 #[.val (.int p0), .val (.int p1), .val (.int ((p0 &&& (2147483647 : Int32)) % (3 : Int32))), .val (.int (p1 &&& (1073741823 : Int32))), .val (.int ((p1 &&& (1073741823 : Int32)) ||| (-2147483648 : Int32))), .val (.int (32 : Int32)), .val (.int (if (8388608 : Int32) < (p1 &&& (1073741823 : Int32)) then (-1 : Int32) else ((32 : Int32) + (p1 &&& (1073741823 : Int32)))))] [(.int ((p1 &&& (1073741823 : Int32)) ||| (-2147483648 : Int32)))])) rfl (by rw [hml]; rfl) (argsL := [(.int ((p1 &&& (1073741823 : Int32)) ||| (-2147483648 : Int32)))]) (rest := []) (lenOf pd_1 rfl) rfl (by show 2 * 0 + _ ≤ _; exact Nat.le_of_eq rfl) (hb hby at_82) (fun _ _ => ⟨rfl, e0, (Nat.le_of_ble_eq_true rfl), (Nat.le_of_ble_eq_true rfl)⟩)
      dsimp only [Pt.U, Pt.locs, Pt.cells, Pt.slots] at X10 l10 y10 z10 st10 hQ10
      subst l10 y10 z10
      obtain ⟨rfl, N10q, e10⟩ := hQ10
      have N10 := Fr.app N0 N10q
      have pre10s : ∀ t, Steps p.tables e below (T10.setTop (mkF m 85 #[.val (.int p0), .val (.int p1), .val (.int ((p0 &&& (2147483647 : Int32)) % (3 : Int32))), .val (.int (p1 &&& (1073741823 : Int32))), .val (.int ((p1 &&& (1073741823 : Int32)) ||| (-2147483648 : Int32))), .val (.int (32 : Int32)), .val (.int (if (8388608 : Int32) < (p1 &&& (1073741823 : Int32)) then (-1 : Int32) else ((32 : Int32) + (p1 &&& (1073741823 : Int32)))))] [(.int (own_size ((p1 &&& (1073741823 : Int32)) ||| (-2147483648 : Int32))))])) t → G t := fun t k => pre9 t (st10 t k)
      obtain ⟨fs, hr, hrun, hended, hW, hsame⟩ := X10.leave (v := some (.int (1 : Int32))) (fun h => by rw [Bd.returns] at h; cases h)
      subst hG
      refine ⟨_, _, pre10s _ ?_, hrun, hended, _, _, rfl, ?_, ⟨_, rfl⟩, hW, hsame.mono (by decide) (by decide)⟩
      · skip
        show Steps p.tables e below (T10.setTop (mkF m 85 #[.val (.int p0), .val (.int p1), .val (.int ((p0 &&& (2147483647 : Int32)) % (3 : Int32))), .val (.int (p1 &&& (1073741823 : Int32))), .val (.int ((p1 &&& (1073741823 : Int32)) ||| (-2147483648 : Int32))), .val (.int (32 : Int32)), .val (.int (if (8388608 : Int32) < (p1 &&& (1073741823 : Int32)) then (-1 : Int32) else ((32 : Int32) + (p1 &&& (1073741823 : Int32)))))] [(.int (own_size ((p1 &&& (1073741823 : Int32)) ||| (-2147483648 : Int32))))])) _
        refine XS.iload X10.here hx rfl (hb hby at_85) rfl ?_
        show Steps p.tables e below (T10.setTop (mkF m 87 #[.val (.int p0), .val (.int p1), .val (.int ((p0 &&& (2147483647 : Int32)) % (3 : Int32))), .val (.int (p1 &&& (1073741823 : Int32))), .val (.int ((p1 &&& (1073741823 : Int32)) ||| (-2147483648 : Int32))), .val (.int (32 : Int32)), .val (.int (if (8388608 : Int32) < (p1 &&& (1073741823 : Int32)) then (-1 : Int32) else ((32 : Int32) + (p1 &&& (1073741823 : Int32)))))] [(.int (if (8388608 : Int32) < (p1 &&& (1073741823 : Int32)) then (-1 : Int32) else ((32 : Int32) + (p1 &&& (1073741823 : Int32))))), (.int (own_size ((p1 &&& (1073741823 : Int32)) ||| (-2147483648 : Int32))))])) _
        refine XS.icmpNo X10.here hx rfl (hb hby at_87) rfl (teq (own_law1 p1)).2 ?_
        show Steps p.tables e below (T10.setTop (mkF m 90 #[.val (.int p0), .val (.int p1), .val (.int ((p0 &&& (2147483647 : Int32)) % (3 : Int32))), .val (.int (p1 &&& (1073741823 : Int32))), .val (.int ((p1 &&& (1073741823 : Int32)) ||| (-2147483648 : Int32))), .val (.int (32 : Int32)), .val (.int (if (8388608 : Int32) < (p1 &&& (1073741823 : Int32)) then (-1 : Int32) else ((32 : Int32) + (p1 &&& (1073741823 : Int32)))))] [])) _
        refine XS.iconst X10.here hx rfl (hb hby at_90) ?_
        show Steps p.tables e below (T10.setTop (mkF m 91 #[.val (.int p0), .val (.int p1), .val (.int ((p0 &&& (2147483647 : Int32)) % (3 : Int32))), .val (.int (p1 &&& (1073741823 : Int32))), .val (.int ((p1 &&& (1073741823 : Int32)) ||| (-2147483648 : Int32))), .val (.int (32 : Int32)), .val (.int (if (8388608 : Int32) < (p1 &&& (1073741823 : Int32)) then (-1 : Int32) else ((32 : Int32) + (p1 &&& (1073741823 : Int32)))))] [(.int (1 : Int32))])) _
        refine XS.goto X10.here hx rfl (pc0 := 91) (pc' := 95) rfl (hb hby at_91) (by decide) (by decide) ?_
        show Steps p.tables e below (T10.setTop (mkF m 95 #[.val (.int p0), .val (.int p1), .val (.int ((p0 &&& (2147483647 : Int32)) % (3 : Int32))), .val (.int (p1 &&& (1073741823 : Int32))), .val (.int ((p1 &&& (1073741823 : Int32)) ||| (-2147483648 : Int32))), .val (.int (32 : Int32)), .val (.int (if (8388608 : Int32) < (p1 &&& (1073741823 : Int32)) then (-1 : Int32) else ((32 : Int32) + (p1 &&& (1073741823 : Int32)))))] [(.int (1 : Int32))])) _
        exact retN X10 hx (t := .boolean) Bd.returns (by simp) (hb hby at_95) hr
      · show Q_rm0 Z p0 p1 h0 n0 _ T10.heap _
        rw [e10]
        exact ⟨rfl, N10⟩
    · -- not hk1
      have pre11 : ∀ t, Steps p.tables e below (s₁.setTop (mkF m 67 #[.val (.int p0), .val (.int p1), .val (.int ((p0 &&& (2147483647 : Int32)) % (3 : Int32))), .val (.int (p1 &&& (1073741823 : Int32))), .val (.int ((p1 &&& (1073741823 : Int32)) ||| (-1073741824 : Int32))), .val (.int (40 : Int32)), .unset] [(.int (8388608 : Int32)), (.int (p1 &&& (1073741823 : Int32)))])) t → G t := fun t k => pre6 t (by
        show Steps p.tables e below (s₁.setTop (mkF m 28 #[.val (.int p0), .val (.int p1), .val (.int ((p0 &&& (2147483647 : Int32)) % (3 : Int32))), .unset, .unset, .unset, .unset] [(.int (1 : Int32)), (.int ((p0 &&& (2147483647 : Int32)) % (3 : Int32)))])) _
        refine XS.icmpYes X0.here hx rfl (pc0 := 28) (pc' := 49) rfl (hb hby at_28) rfl (feq hk1).2 (by decide) (by decide) ?_
        show Steps p.tables e below (s₁.setTop (mkF m 49 #[.val (.int p0), .val (.int p1), .val (.int ((p0 &&& (2147483647 : Int32)) % (3 : Int32))), .unset, .unset, .unset, .unset] [])) _
        refine XS.iloadN X0.here hx rfl (hb hby at_49) rfl ?_
        show Steps p.tables e below (s₁.setTop (mkF m 50 #[.val (.int p0), .val (.int p1), .val (.int ((p0 &&& (2147483647 : Int32)) % (3 : Int32))), .unset, .unset, .unset, .unset] [(.int p1)])) _
        refine X0.ldcInt hx hown (mvT hZ (hw _ (List.mem_of_getElem? (i := 17) rfl))) (g := (mkF m 50 #[.val (.int p0), .val (.int p1), .val (.int ((p0 &&& (2147483647 : Int32)) % (3 : Int32))), .unset, .unset, .unset, .unset] [(.int p1)])) rfl (hb hby at_50) _ ?_
        show Steps p.tables e below (s₁.setTop (mkF m 52 #[.val (.int p0), .val (.int p1), .val (.int ((p0 &&& (2147483647 : Int32)) % (3 : Int32))), .unset, .unset, .unset, .unset] [(.int (1073741823 : Int32)), (.int p1)])) _
        refine XS.iand X0.here hx rfl (hb hby at_52) rfl ?_
        show Steps p.tables e below (s₁.setTop (mkF m 53 #[.val (.int p0), .val (.int p1), .val (.int ((p0 &&& (2147483647 : Int32)) % (3 : Int32))), .unset, .unset, .unset, .unset] [(.int (p1 &&& (1073741823 : Int32)))])) _
        refine XS.istoreN X0.here hx rfl (hb hby at_53) rfl (l' := #[.val (.int p0), .val (.int p1), .val (.int ((p0 &&& (2147483647 : Int32)) % (3 : Int32))), .val (.int (p1 &&& (1073741823 : Int32))), .unset, .unset, .unset]) rfl ?_
        show Steps p.tables e below (s₁.setTop (mkF m 54 #[.val (.int p0), .val (.int p1), .val (.int ((p0 &&& (2147483647 : Int32)) % (3 : Int32))), .val (.int (p1 &&& (1073741823 : Int32))), .unset, .unset, .unset] [])) _
        refine XS.iloadN X0.here hx rfl (hb hby at_54) rfl ?_
        show Steps p.tables e below (s₁.setTop (mkF m 55 #[.val (.int p0), .val (.int p1), .val (.int ((p0 &&& (2147483647 : Int32)) % (3 : Int32))), .val (.int (p1 &&& (1073741823 : Int32))), .unset, .unset, .unset] [(.int (p1 &&& (1073741823 : Int32)))])) _
        refine X0.ldcInt hx hown (mvT hZ (hw _ (List.mem_of_getElem? (i := 18) rfl))) (g := (mkF m 55 #[.val (.int p0), .val (.int p1), .val (.int ((p0 &&& (2147483647 : Int32)) % (3 : Int32))), .val (.int (p1 &&& (1073741823 : Int32))), .unset, .unset, .unset] [(.int (p1 &&& (1073741823 : Int32)))])) rfl (hb hby at_55) _ ?_
        show Steps p.tables e below (s₁.setTop (mkF m 57 #[.val (.int p0), .val (.int p1), .val (.int ((p0 &&& (2147483647 : Int32)) % (3 : Int32))), .val (.int (p1 &&& (1073741823 : Int32))), .unset, .unset, .unset] [(.int (-1073741824 : Int32)), (.int (p1 &&& (1073741823 : Int32)))])) _
        refine XS.ior X0.here hx rfl (hb hby at_57) rfl ?_
        show Steps p.tables e below (s₁.setTop (mkF m 58 #[.val (.int p0), .val (.int p1), .val (.int ((p0 &&& (2147483647 : Int32)) % (3 : Int32))), .val (.int (p1 &&& (1073741823 : Int32))), .unset, .unset, .unset] [(.int ((p1 &&& (1073741823 : Int32)) ||| (-1073741824 : Int32)))])) _
        refine XS.istore X0.here hx rfl (hb hby at_58) rfl (l' := #[.val (.int p0), .val (.int p1), .val (.int ((p0 &&& (2147483647 : Int32)) % (3 : Int32))), .val (.int (p1 &&& (1073741823 : Int32))), .val (.int ((p1 &&& (1073741823 : Int32)) ||| (-1073741824 : Int32))), .unset, .unset]) rfl ?_
        show Steps p.tables e below (s₁.setTop (mkF m 60 #[.val (.int p0), .val (.int p1), .val (.int ((p0 &&& (2147483647 : Int32)) % (3 : Int32))), .val (.int (p1 &&& (1073741823 : Int32))), .val (.int ((p1 &&& (1073741823 : Int32)) ||| (-1073741824 : Int32))), .unset, .unset] [])) _
        refine XS.bipush X0.here hx rfl (hb hby at_60) ?_
        show Steps p.tables e below (s₁.setTop (mkF m 62 #[.val (.int p0), .val (.int p1), .val (.int ((p0 &&& (2147483647 : Int32)) % (3 : Int32))), .val (.int (p1 &&& (1073741823 : Int32))), .val (.int ((p1 &&& (1073741823 : Int32)) ||| (-1073741824 : Int32))), .unset, .unset] [(.int (40 : Int32))])) _
        refine XS.istore X0.here hx rfl (hb hby at_62) rfl (l' := #[.val (.int p0), .val (.int p1), .val (.int ((p0 &&& (2147483647 : Int32)) % (3 : Int32))), .val (.int (p1 &&& (1073741823 : Int32))), .val (.int ((p1 &&& (1073741823 : Int32)) ||| (-1073741824 : Int32))), .val (.int (40 : Int32)), .unset]) rfl ?_
        show Steps p.tables e below (s₁.setTop (mkF m 64 #[.val (.int p0), .val (.int p1), .val (.int ((p0 &&& (2147483647 : Int32)) % (3 : Int32))), .val (.int (p1 &&& (1073741823 : Int32))), .val (.int ((p1 &&& (1073741823 : Int32)) ||| (-1073741824 : Int32))), .val (.int (40 : Int32)), .unset] [])) _
        refine XS.iloadN X0.here hx rfl (hb hby at_64) rfl ?_
        show Steps p.tables e below (s₁.setTop (mkF m 65 #[.val (.int p0), .val (.int p1), .val (.int ((p0 &&& (2147483647 : Int32)) % (3 : Int32))), .val (.int (p1 &&& (1073741823 : Int32))), .val (.int ((p1 &&& (1073741823 : Int32)) ||| (-1073741824 : Int32))), .val (.int (40 : Int32)), .unset] [(.int (p1 &&& (1073741823 : Int32)))])) _
        refine X0.ldcInt hx hown (mvT hZ (hw _ (List.mem_of_getElem? (i := 1) rfl))) (g := (mkF m 65 #[.val (.int p0), .val (.int p1), .val (.int ((p0 &&& (2147483647 : Int32)) % (3 : Int32))), .val (.int (p1 &&& (1073741823 : Int32))), .val (.int ((p1 &&& (1073741823 : Int32)) ||| (-1073741824 : Int32))), .val (.int (40 : Int32)), .unset] [(.int (p1 &&& (1073741823 : Int32)))])) rfl (hb hby at_65) _ ?_
        exact k)
      have pre12 : ∀ t, Steps p.tables e below (s₁.setTop (mkF m 78 #[.val (.int p0), .val (.int p1), .val (.int ((p0 &&& (2147483647 : Int32)) % (3 : Int32))), .val (.int (p1 &&& (1073741823 : Int32))), .val (.int ((p1 &&& (1073741823 : Int32)) ||| (-1073741824 : Int32))), .val (.int (40 : Int32)), .unset] [(.int (if (8388608 : Int32) < (p1 &&& (1073741823 : Int32)) then (-1 : Int32) else ((40 : Int32) + (p1 &&& (1073741823 : Int32)))))])) t → G t := by
        intro t k
        refine pre11 t ?_
        by_cases hm67_0 : (8388608 : Int32) < (p1 &&& (1073741823 : Int32))
        · try simp only [if_pos hm67_0] at k
          show Steps p.tables e below (s₁.setTop (mkF m 67 #[.val (.int p0), .val (.int p1), .val (.int ((p0 &&& (2147483647 : Int32)) % (3 : Int32))), .val (.int (p1 &&& (1073741823 : Int32))), .val (.int ((p1 &&& (1073741823 : Int32)) ||| (-1073741824 : Int32))), .val (.int (40 : Int32)), .unset] [(.int (8388608 : Int32)), (.int (p1 &&& (1073741823 : Int32)))])) _
          refine XS.icmpNo X0.here hx rfl (hb hby at_67) rfl (tlt hm67_0).2.2.2 ?_
          show Steps p.tables e below (s₁.setTop (mkF m 70 #[.val (.int p0), .val (.int p1), .val (.int ((p0 &&& (2147483647 : Int32)) % (3 : Int32))), .val (.int (p1 &&& (1073741823 : Int32))), .val (.int ((p1 &&& (1073741823 : Int32)) ||| (-1073741824 : Int32))), .val (.int (40 : Int32)), .unset] [])) _
          refine XS.iconst X0.here hx rfl (hb hby at_70) ?_
          show Steps p.tables e below (s₁.setTop (mkF m 71 #[.val (.int p0), .val (.int p1), .val (.int ((p0 &&& (2147483647 : Int32)) % (3 : Int32))), .val (.int (p1 &&& (1073741823 : Int32))), .val (.int ((p1 &&& (1073741823 : Int32)) ||| (-1073741824 : Int32))), .val (.int (40 : Int32)), .unset] [(.int (-1 : Int32))])) _
          refine XS.goto X0.here hx rfl (pc0 := 71) (pc' := 78) rfl (hb hby at_71) (by decide) (by decide) ?_
          exact k
        · try simp only [if_neg hm67_0] at k
          show Steps p.tables e below (s₁.setTop (mkF m 67 #[.val (.int p0), .val (.int p1), .val (.int ((p0 &&& (2147483647 : Int32)) % (3 : Int32))), .val (.int (p1 &&& (1073741823 : Int32))), .val (.int ((p1 &&& (1073741823 : Int32)) ||| (-1073741824 : Int32))), .val (.int (40 : Int32)), .unset] [(.int (8388608 : Int32)), (.int (p1 &&& (1073741823 : Int32)))])) _
          refine XS.icmpYes X0.here hx rfl (pc0 := 67) (pc' := 74) rfl (hb hby at_67) rfl (flt hm67_0).2.2.2 (by decide) (by decide) ?_
          show Steps p.tables e below (s₁.setTop (mkF m 74 #[.val (.int p0), .val (.int p1), .val (.int ((p0 &&& (2147483647 : Int32)) % (3 : Int32))), .val (.int (p1 &&& (1073741823 : Int32))), .val (.int ((p1 &&& (1073741823 : Int32)) ||| (-1073741824 : Int32))), .val (.int (40 : Int32)), .unset] [])) _
          refine XS.iload X0.here hx rfl (hb hby at_74) rfl ?_
          show Steps p.tables e below (s₁.setTop (mkF m 76 #[.val (.int p0), .val (.int p1), .val (.int ((p0 &&& (2147483647 : Int32)) % (3 : Int32))), .val (.int (p1 &&& (1073741823 : Int32))), .val (.int ((p1 &&& (1073741823 : Int32)) ||| (-1073741824 : Int32))), .val (.int (40 : Int32)), .unset] [(.int (40 : Int32))])) _
          refine XS.iloadN X0.here hx rfl (hb hby at_76) rfl ?_
          show Steps p.tables e below (s₁.setTop (mkF m 77 #[.val (.int p0), .val (.int p1), .val (.int ((p0 &&& (2147483647 : Int32)) % (3 : Int32))), .val (.int (p1 &&& (1073741823 : Int32))), .val (.int ((p1 &&& (1073741823 : Int32)) ||| (-1073741824 : Int32))), .val (.int (40 : Int32)), .unset] [(.int (p1 &&& (1073741823 : Int32))), (.int (40 : Int32))])) _
          refine XS.iadd X0.here hx rfl (hb hby at_77) rfl ?_
          exact k
      have pre13 : ∀ t, Steps p.tables e below (s₁.setTop (mkF m 82 #[.val (.int p0), .val (.int p1), .val (.int ((p0 &&& (2147483647 : Int32)) % (3 : Int32))), .val (.int (p1 &&& (1073741823 : Int32))), .val (.int ((p1 &&& (1073741823 : Int32)) ||| (-1073741824 : Int32))), .val (.int (40 : Int32)), .val (.int (if (8388608 : Int32) < (p1 &&& (1073741823 : Int32)) then (-1 : Int32) else ((40 : Int32) + (p1 &&& (1073741823 : Int32)))))] [(.int ((p1 &&& (1073741823 : Int32)) ||| (-1073741824 : Int32)))])) t → G t := fun t k => pre12 t (by
        show Steps p.tables e below (s₁.setTop (mkF m 78 #[.val (.int p0), .val (.int p1), .val (.int ((p0 &&& (2147483647 : Int32)) % (3 : Int32))), .val (.int (p1 &&& (1073741823 : Int32))), .val (.int ((p1 &&& (1073741823 : Int32)) ||| (-1073741824 : Int32))), .val (.int (40 : Int32)), .unset] [(.int (if (8388608 : Int32) < (p1 &&& (1073741823 : Int32)) then (-1 : Int32) else ((40 : Int32) + (p1 &&& (1073741823 : Int32)))))])) _
        refine XS.istore X0.here hx rfl (hb hby at_78) rfl (l' := #[.val (.int p0), .val (.int p1), .val (.int ((p0 &&& (2147483647 : Int32)) % (3 : Int32))), .val (.int (p1 &&& (1073741823 : Int32))), .val (.int ((p1 &&& (1073741823 : Int32)) ||| (-1073741824 : Int32))), .val (.int (40 : Int32)), .val (.int (if (8388608 : Int32) < (p1 &&& (1073741823 : Int32)) then (-1 : Int32) else ((40 : Int32) + (p1 &&& (1073741823 : Int32)))))]) rfl ?_
        show Steps p.tables e below (s₁.setTop (mkF m 80 #[.val (.int p0), .val (.int p1), .val (.int ((p0 &&& (2147483647 : Int32)) % (3 : Int32))), .val (.int (p1 &&& (1073741823 : Int32))), .val (.int ((p1 &&& (1073741823 : Int32)) ||| (-1073741824 : Int32))), .val (.int (40 : Int32)), .val (.int (if (8388608 : Int32) < (p1 &&& (1073741823 : Int32)) then (-1 : Int32) else ((40 : Int32) + (p1 &&& (1073741823 : Int32)))))] [])) _
        refine XS.iload X0.here hx rfl (hb hby at_80) rfl ?_
        exact k)
      obtain ⟨_, _, ⟨T14, L14, k14, n14⟩, -, X14, ⟨Lc14, hQ14, l14, y14, z14⟩, st14⟩ := Jvm.LawKit.callS X0 hx (y := (⟨"com/example/headwater/headwater/common/wire/EventRecords", "size", "(I)I"⟩ : MethodName)) hown (mvT hZ (hw _ (List.mem_of_getElem? (i := 2) rfl))) (mvT hZ (hw _ (List.mem_of_getElem? (i := 3) rfl))) (mvT hZ (hw _ (List.mem_of_getElem? (i := 4) rfl))) (mvT hZ (hw _ (List.mem_of_getElem? (i := 5) rfl))) (by decide) (backOf (W := 0) (rm1 l Z a0 hw [] ((p1 &&& (1073741823 : Int32)) ||| (-1073741824 : Int32)) h0 n0 Z0 ) hZ (hw _ (List.mem_of_getElem? (i := 5) rfl)) (hw _ (List.mem_of_getElem? (i := 4) rfl)) (by decide) (by decide)) (g := (mkF m 82 #[.val (.int p0), .val (.int p1), .val (.int ((p0 &&& (2147483647 : Int32)) % (3 : Int32))), .val (.int (p1 &&& (1073741823 : Int32))), .val (.int ((p1 &&& (1073741823 : Int32)) ||| (-1073741824 : Int32))), .val (.int (40 : Int32)), .val (.int (if (8388608 : Int32) < (p1 &&& (1073741823 : Int32)) then (-1 : Int32) else ((40 : Int32) + (p1 &&& (1073741823 : Int32)))))] [(.int ((p1 &&& (1073741823 : Int32)) ||| (-1073741824 : Int32)))])) rfl (by rw [hml]; rfl) (argsL := [(.int ((p1 &&& (1073741823 : Int32)) ||| (-1073741824 : Int32)))]) (rest := []) (lenOf pd_1 rfl) rfl (by show 2 * 0 + _ ≤ _; exact Nat.le_of_eq rfl) (hb hby at_82) (fun _ _ => ⟨rfl, e0, (Nat.le_of_ble_eq_true rfl), (Nat.le_of_ble_eq_true rfl)⟩)
      dsimp only [Pt.U, Pt.locs, Pt.cells, Pt.slots] at X14 l14 y14 z14 st14 hQ14
      subst l14 y14 z14
      obtain ⟨rfl, N14q, e14⟩ := hQ14
      have N14 := Fr.app N0 N14q
      have pre14s : ∀ t, Steps p.tables e below (T14.setTop (mkF m 85 #[.val (.int p0), .val (.int p1), .val (.int ((p0 &&& (2147483647 : Int32)) % (3 : Int32))), .val (.int (p1 &&& (1073741823 : Int32))), .val (.int ((p1 &&& (1073741823 : Int32)) ||| (-1073741824 : Int32))), .val (.int (40 : Int32)), .val (.int (if (8388608 : Int32) < (p1 &&& (1073741823 : Int32)) then (-1 : Int32) else ((40 : Int32) + (p1 &&& (1073741823 : Int32)))))] [(.int (own_size ((p1 &&& (1073741823 : Int32)) ||| (-1073741824 : Int32))))])) t → G t := fun t k => pre13 t (st14 t k)
      obtain ⟨fs, hr, hrun, hended, hW, hsame⟩ := X14.leave (v := some (.int (1 : Int32))) (fun h => by rw [Bd.returns] at h; cases h)
      subst hG
      refine ⟨_, _, pre14s _ ?_, hrun, hended, _, _, rfl, ?_, ⟨_, rfl⟩, hW, hsame.mono (by decide) (by decide)⟩
      · skip
        show Steps p.tables e below (T14.setTop (mkF m 85 #[.val (.int p0), .val (.int p1), .val (.int ((p0 &&& (2147483647 : Int32)) % (3 : Int32))), .val (.int (p1 &&& (1073741823 : Int32))), .val (.int ((p1 &&& (1073741823 : Int32)) ||| (-1073741824 : Int32))), .val (.int (40 : Int32)), .val (.int (if (8388608 : Int32) < (p1 &&& (1073741823 : Int32)) then (-1 : Int32) else ((40 : Int32) + (p1 &&& (1073741823 : Int32)))))] [(.int (own_size ((p1 &&& (1073741823 : Int32)) ||| (-1073741824 : Int32))))])) _
        refine XS.iload X14.here hx rfl (hb hby at_85) rfl ?_
        show Steps p.tables e below (T14.setTop (mkF m 87 #[.val (.int p0), .val (.int p1), .val (.int ((p0 &&& (2147483647 : Int32)) % (3 : Int32))), .val (.int (p1 &&& (1073741823 : Int32))), .val (.int ((p1 &&& (1073741823 : Int32)) ||| (-1073741824 : Int32))), .val (.int (40 : Int32)), .val (.int (if (8388608 : Int32) < (p1 &&& (1073741823 : Int32)) then (-1 : Int32) else ((40 : Int32) + (p1 &&& (1073741823 : Int32)))))] [(.int (if (8388608 : Int32) < (p1 &&& (1073741823 : Int32)) then (-1 : Int32) else ((40 : Int32) + (p1 &&& (1073741823 : Int32))))), (.int (own_size ((p1 &&& (1073741823 : Int32)) ||| (-1073741824 : Int32))))])) _
        refine XS.icmpNo X14.here hx rfl (hb hby at_87) rfl (teq (own_law2 p1)).2 ?_
        show Steps p.tables e below (T14.setTop (mkF m 90 #[.val (.int p0), .val (.int p1), .val (.int ((p0 &&& (2147483647 : Int32)) % (3 : Int32))), .val (.int (p1 &&& (1073741823 : Int32))), .val (.int ((p1 &&& (1073741823 : Int32)) ||| (-1073741824 : Int32))), .val (.int (40 : Int32)), .val (.int (if (8388608 : Int32) < (p1 &&& (1073741823 : Int32)) then (-1 : Int32) else ((40 : Int32) + (p1 &&& (1073741823 : Int32)))))] [])) _
        refine XS.iconst X14.here hx rfl (hb hby at_90) ?_
        show Steps p.tables e below (T14.setTop (mkF m 91 #[.val (.int p0), .val (.int p1), .val (.int ((p0 &&& (2147483647 : Int32)) % (3 : Int32))), .val (.int (p1 &&& (1073741823 : Int32))), .val (.int ((p1 &&& (1073741823 : Int32)) ||| (-1073741824 : Int32))), .val (.int (40 : Int32)), .val (.int (if (8388608 : Int32) < (p1 &&& (1073741823 : Int32)) then (-1 : Int32) else ((40 : Int32) + (p1 &&& (1073741823 : Int32)))))] [(.int (1 : Int32))])) _
        refine XS.goto X14.here hx rfl (pc0 := 91) (pc' := 95) rfl (hb hby at_91) (by decide) (by decide) ?_
        show Steps p.tables e below (T14.setTop (mkF m 95 #[.val (.int p0), .val (.int p1), .val (.int ((p0 &&& (2147483647 : Int32)) % (3 : Int32))), .val (.int (p1 &&& (1073741823 : Int32))), .val (.int ((p1 &&& (1073741823 : Int32)) ||| (-1073741824 : Int32))), .val (.int (40 : Int32)), .val (.int (if (8388608 : Int32) < (p1 &&& (1073741823 : Int32)) then (-1 : Int32) else ((40 : Int32) + (p1 &&& (1073741823 : Int32)))))] [(.int (1 : Int32))])) _
        exact retN X14 hx (t := .boolean) Bd.returns (by simp) (hb hby at_95) hr
      · show Q_rm0 Z p0 p1 h0 n0 _ T14.heap _
        rw [e14]
        exact ⟨rfl, N14⟩
set_option maxRecDepth 65536 in
set_option maxHeartbeats 40000000 in
theorem comes_1 {Post : Tables → Env → Array Value → State → Outcome → State → Prop} (hpost : ∀ tb e args s v u, (limb_1_1.after args s (.returned v) u = true ∧ limb_1_2.after args s (.returned v) u = true ∧ True) → FrameEnd s (.returned v) u (Jvm.fieldLocs frame_1_writes args s ++ Jvm.arrayLocs frame_1_arrays args s ++ Jvm.staticLocs frame_1_statics s) 0 0 → Post tb e args s (.returned v) u) :
    ArmFor flags0 classFile x code maxLocals ret World_1 tables_1 room_1 Calls_1 rest_1 Pre_1 Post := by
  intro l hfl _ _ p e ha hc hk s m args below hf hA hF happ hP
  obtain ⟨hcalls, hrest, hpre⟩ := hP
  obtain ⟨-, -, -, hnamed, -, -, -, hat⟩ := (Spec.applies_iff hf).mp happ
  obtain ⟨hg, hn⟩ := and_e (Cond.before_iff.mp (show (Jvm.Cond.and given_1 narrow_1).before args s = true from hpre))
  obtain ⟨ga0, gb0⟩ := and_e hg
  obtain ⟨ga1, gb1⟩ := and_e gb0
  obtain ⟨w0, w1, rfl⟩ : ∃ w0 w1 : Value, args = #[w0, w1] := by
    have hs : args.size = 2 := by simpa [Cond.value, given_1] using ga0
    obtain ⟨L⟩ := args
    match L, hs with
    | [w0, w1], _ => exact ⟨w0, w1, rfl⟩
  have hw := fun d (hd : d ∈ tables_1) => atoms_spec (ws := Jvm.Cond.code x code maxLocals ret :: tables_1) hat d (List.mem_cons_of_mem _ hd)
  have hfit : Fit s := fun {y c} hc i hi => by
    obtain ⟨ha, rfl⟩ := Array.getElem?_eq_some_iff.mp hc
    have q := List.all_eq_true.mp ((Array.all_eq_true_iff_forall_mem.mp hF) _ (Array.getElem_mem ha)) i (List.mem_range.mpr hi)
    simpa [Array.getElem?_eq_getElem hi] using q
  obtain ⟨i0, ei0⟩ := is_v ga1
  obtain rfl : w0 = (.int i0) := Option.some.inj ei0
  obtain ⟨i1, ei1⟩ := is_v gb1
  obtain rfl : w1 = (.int i1) := Option.some.inj ei1
  obtain ⟨n, o, h1, h2, h3, _, L, rfl, ⟨rfl, N⟩, hq⟩ := rm0 l s _ hw tables_1 i0 i1 s.heap s.heap.size (Nat.le_refl _) p e ha hc hk s m _ below hf ((Spec.applies_iff_loose hf).mp happ).1 ⟨rfl, State.Warmed39.refl s, rfl⟩ trivial
  refine ⟨n, _, h1, h2, h3, hpost _ _ _ _ _ _ ⟨Cond.after_iff.mpr rfl, Cond.after_iff.mpr (eq_i res_at (Term.int_eval (1)) rfl), trivial⟩ ⟨hq.1, hq.2.1, (hq.2.2.sift fun y hy => Or.inr (N y hy)).mono (by decide) (by decide)⟩⟩
theorem main_1_1 : Claimed_1_1 := comes_1 fun _ _ _ _ _ _ h hF => ⟨h.1, hF⟩
theorem main_1_2 : Claimed_1_2 := comes_1 fun _ _ _ _ _ _ h hF => ⟨h.2.1, hF⟩
end Jvm.Pilot.@@N@@
namespace Jvm.Pilot.@@N@@
open Jvm Jvm.ClassFile Sem Op Lib Jvm.Free Jvm.Stand Jvm.Pilot.@@N@@.Jvm.D
/-! MADE BY PROGRAM (witnessworld.py) out of the Statement's table words and the real class files: 9 classes; the members and pool entries that the words name. The judged class is class 1, her method 1. -/
namespace start1
open Jvm.ClassFile
def u (s : String) : CpInfo := .utf8 (stringToUtf16 s)
/-- a pool by its gaps: so many unusable entries, then the entry; so many at the end -/
def gap : Nat → List CpInfo → List CpInfo
  | 0, r => r
  | n + 1, r => .unusable :: gap n r
def poolList (es : List (Nat × CpInfo)) (last : Nat) : List CpInfo := es.foldr (fun e r => gap e.1 (e.2 :: r)) (gap last [])
def pool (es : List (Nat × CpInfo)) (last : Nat) : Array CpInfo := ⟨poolList es last⟩
def fileOf (pool : Array CpInfo) (this : Nat) (attrs : Array Attribute := #[]) (ms : Array MethodInfo := #[]) (fl : Nat := 33) (sup : Nat := 0) (ifs : Array Nat := #[]) (fds : Array FieldInfo := #[]) : ClassFile where
  minorVersion := 0
  majorVersion := 65
  constantPool := pool
  accessFlags := fl
  thisClass := this
  superClass := sup
  interfaces := ifs
  fields := fds
  methods := ms
  attributes := attrs
def plain (name : String) (sup : Option ClassId) : Class where
  name := name
  kind := .ordinary
  loader := none
  accessFlags := 33
  super := sup
  interfaces := #[]
  cf := none
  fields := #[]
  methods := #[]
  instanceTypes := #[]
  staticTypes := #[]
  resolved := #[]
  callSites := []
  init := .initialized
  statics := none
  mirror := none

def pool0 : Array CpInfo := pool [(5, u "<init>"), (0, u "()V"), (1, .class_ 10), (1, u "java/lang/Object")] 113

def k0m0 : Method := { name := "<init>", desc := "()V", sig := { parameters := [], returnType := none }, accessFlags := 1, code := none }
/-- java/lang/Object -/
def k0 : Class := { plain "java/lang/Object" none with
  accessFlags := 33
  interfaces := #[]
  cf := some (fileOf pool0 8 #[] #[{ accessFlags := 1, nameIndex := 5, descriptorIndex := 6, attributes := #[] }] 33 0 #[] #[])
  fields := #[]
  methods := #[k0m0]
  instanceTypes := #[]
  staticTypes := #[]
  resolved := Array.replicate 124 none
  statics := none }

def pool1 : Array CpInfo := pool [(2, .class_ 4), (1, u "java/lang/Object"), (0, u "<init>"), (0, u "()V"), (0, .integer 2147483647), (0, .integer 1073741823), (0, .integer 2147483648), (0, .integer 3221225472), (0, .integer 8388608), (0, .methodref 13 14), (0, .class_ 15), (0, .nameAndType 16 17), (0, u "com/example/headwater/headwater/common/wire/EventRecords"), (0, u "size"), (0, u "(I)I"), (0, .class_ 19), (0, u "com/example/headwater/headwater/common/wire/EventRecordsSizePinLaw"), (2, u "law"), (0, u "(II)Z")] 3

def k1m0 : Method := { name := "<init>", desc := "()V", sig := { parameters := [], returnType := none }, accessFlags := 2, code := none }
def k1c1 : Code := { maxStack := 2, maxLocals := 7, code := code, exceptionTable := #[], attributes := #[] }
def k1m1 : Method := { name := "law", desc := "(II)Z", sig := { parameters := [.int, .int], returnType := some .boolean }, accessFlags := 9, code := some k1c1 }
/-- com/example/headwater/headwater/common/wire/EventRecordsSizePinLaw -/
def k1 : Class := { plain "com/example/headwater/headwater/common/wire/EventRecordsSizePinLaw" (some 0) with
  accessFlags := 49
  interfaces := #[]
  cf := some (fileOf pool1 18 #[] #[{ accessFlags := 2, nameIndex := 5, descriptorIndex := 6, attributes := #[] }, { accessFlags := 9, nameIndex := 22, descriptorIndex := 23, attributes := #[] }] 49 2 #[] #[])
  fields := #[]
  methods := #[k1m0, k1m1]
  instanceTypes := #[]
  staticTypes := #[]
  resolved := Array.replicate 27 none
  statics := none }

def pool2 : Array CpInfo := pool [(1, .class_ 2), (0, u "com/example/headwater/headwater/common/wire/EventRecords"), (3, .class_ 8), (1, u "java/lang/Object"), (0, u "<init>"), (0, u "()V"), (12, .methodref 1 24), (0, .nameAndType 25 26), (0, u "length"), (0, u "(I)I"), (0, .integer 8388608), (0, .methodref 1 29), (0, .nameAndType 30 26), (0, u "headerBytes"), (18, u "size"), (33, .class_ 84), (0, u "com/example/headwater/headwater/common/wire/EventRecords$Record"), (14, .methodref 1 100), (0, .nameAndType 101 102), (0, u "isKeyed"), (0, u "(I)Z"), (22, .class_ 126), (0, u "com/example/headwater/headwater/common/wire/EventRecords$Split"), (33, .integer 2147483648), (0, .integer 3221225472), (28, .integer 1073741824), (0, u "HEADER_BYTES"), (0, u "I"), (2, u "KEYED_HEADER_BYTES"), (1, u "UNNUMBERED_HEADER_BYTES"), (1, u "MAX_EVENT_BYTES"), (0, u "MAX_RECORD_BYTES"), (1, u "NUMBERED"), (0, u "KEYED")] 42

def k2m0 : Method := { name := "<init>", desc := "()V", sig := { parameters := [], returnType := none }, accessFlags := 2, code := none }
def k2c1 : Code := { maxStack := 2, maxLocals := 2, code := prog_44_method_5_code, exceptionTable := #[], attributes := #[] }
def k2m1 : Method := { name := "size", desc := "(I)I", sig := { parameters := [.int], returnType := some .int }, accessFlags := 9, code := some k2c1 }
def k2c2 : Code := { maxStack := 2, maxLocals := 1, code := prog_44_method_11_code, exceptionTable := #[], attributes := #[] }
def k2m2 : Method := { name := "isKeyed", desc := "(I)Z", sig := { parameters := [.int], returnType := some .boolean }, accessFlags := 10, code := some k2c2 }
def k2c3 : Code := { maxStack := 3, maxLocals := 1, code := prog_44_method_12_code, exceptionTable := #[], attributes := #[] }
def k2m3 : Method := { name := "length", desc := "(I)I", sig := { parameters := [.int], returnType := some .int }, accessFlags := 10, code := some k2c3 }
def k2c4 : Code := { maxStack := 1, maxLocals := 1, code := prog_44_method_13_code, exceptionTable := #[], attributes := #[] }
def k2m4 : Method := { name := "headerBytes", desc := "(I)I", sig := { parameters := [.int], returnType := some .int }, accessFlags := 10, code := some k2c4 }
/-- com/example/headwater/headwater/common/wire/EventRecords -/
def k2 : Class := { plain "com/example/headwater/headwater/common/wire/EventRecords" (some 0) with
  accessFlags := 49
  interfaces := #[]
  cf := some (fileOf pool2 1 #[.nestMembers #[125, 83]] #[{ accessFlags := 2, nameIndex := 9, descriptorIndex := 10, attributes := #[] }, { accessFlags := 9, nameIndex := 49, descriptorIndex := 26, attributes := #[] }, { accessFlags := 10, nameIndex := 101, descriptorIndex := 102, attributes := #[] }, { accessFlags := 10, nameIndex := 25, descriptorIndex := 26, attributes := #[] }, { accessFlags := 10, nameIndex := 30, descriptorIndex := 26, attributes := #[] }] 49 6 #[] #[{ accessFlags := 25, nameIndex := 191, descriptorIndex := 192, attributes := #[] }, { accessFlags := 25, nameIndex := 195, descriptorIndex := 192, attributes := #[] }, { accessFlags := 25, nameIndex := 197, descriptorIndex := 192, attributes := #[] }, { accessFlags := 25, nameIndex := 199, descriptorIndex := 192, attributes := #[] }, { accessFlags := 25, nameIndex := 200, descriptorIndex := 192, attributes := #[] }, { accessFlags := 26, nameIndex := 202, descriptorIndex := 192, attributes := #[] }, { accessFlags := 26, nameIndex := 203, descriptorIndex := 192, attributes := #[] }])
  fields := #[{ name := "HEADER_BYTES", type := .int, accessFlags := 25, slot := 0, constantValue := 0 }, { name := "KEYED_HEADER_BYTES", type := .int, accessFlags := 25, slot := 1, constantValue := 0 }, { name := "UNNUMBERED_HEADER_BYTES", type := .int, accessFlags := 25, slot := 2, constantValue := 0 }, { name := "MAX_EVENT_BYTES", type := .int, accessFlags := 25, slot := 3, constantValue := 0 }, { name := "MAX_RECORD_BYTES", type := .int, accessFlags := 25, slot := 4, constantValue := 0 }, { name := "NUMBERED", type := .int, accessFlags := 26, slot := 5, constantValue := 0 }, { name := "KEYED", type := .int, accessFlags := 26, slot := 6, constantValue := 0 }]
  methods := #[k2m0, k2m1, k2m2, k2m3, k2m4]
  instanceTypes := #[]
  staticTypes := #[.int, .int, .int, .int, .int, .int, .int]
  resolved := Array.replicate 246 none
  statics := none }

def pool3 : Array CpInfo := pool [(1, u "java/lang/Cloneable"), (0, .class_ 1), (0, u "java/lang/Object"), (0, .class_ 3)] 3

/-- java/lang/Cloneable -/
def k3 : Class := { plain "java/lang/Cloneable" (some 0) with
  accessFlags := 1537
  interfaces := #[]
  cf := some (fileOf pool3 2 #[] #[] 1537 4 #[] #[])
  fields := #[]
  methods := #[]
  instanceTypes := #[]
  staticTypes := #[]
  resolved := Array.replicate 8 none
  statics := none }

def pool4 : Array CpInfo := pool [(1, u "java/io/Serializable"), (0, .class_ 1), (0, u "java/lang/Object"), (0, .class_ 3)] 3

/-- java/io/Serializable -/
def k4 : Class := { plain "java/io/Serializable" (some 0) with
  accessFlags := 1537
  interfaces := #[]
  cf := some (fileOf pool4 2 #[] #[] 1537 4 #[] #[])
  fields := #[]
  methods := #[]
  instanceTypes := #[]
  staticTypes := #[]
  resolved := Array.replicate 8 none
  statics := none }

/-- the primitive byte -/
def k5 : Class := { plain "byte" none with kind := .primitive 'B', accessFlags := 0x411 }
/-- [B -/
def k6 : Class := { plain "[B" (some 0) with kind := .array 5 .byte, interfaces := #[3, 4], accessFlags := 1041 }

/-- the primitive int -/
def k7 : Class := { plain "int" none with kind := .primitive 'I', accessFlags := 0x411 }
/-- [I -/
def k8 : Class := { plain "[I" (some 0) with kind := .array 7 .int, interfaces := #[3, 4], accessFlags := 1041 }

def heap : Heap := #[]
def classes : Array Class := #[k0, k1, k2, k3, k4, k5, k6, k7, k8]
def interned : List (Array UInt16 × Addr) := []
def slotsUsed : Nat := 0
def theMethod : MethodId := ⟨1, 1⟩
def args0 : Array Value := #[.int 5, .int 3]
def aboutOver (below : List Frame) : State where
  vm := { classes := classes, interned := interned.toArray }
  heap := heap
  slotsUsed := slotsUsed
  threads := #[{ frames := .invoking theMethod args0 :: below }]
def below0 : List Frame := [.native { method := ⟨0, 0⟩, args := #[] }]
def about1 : State := aboutOver below0
def p0 : Program := .bare "" "" ""
def e0 : Env := launch0.env 0 0 0
theorem w_frames : about1.frames = Frame.invoking theMethod args0 :: below0 := rfl
set_option maxRecDepth 65536 in
theorem w_args : argsFit about1.vm theMethod args0 = true := by decide +kernel
set_option maxRecDepth 65536 in
theorem w_heap : heapFits about1 = true := by decide +kernel
set_option maxRecDepth 65536 in
theorem w_runnable : about1.curStatus? = some .runnable := by decide +kernel
set_option maxRecDepth 65536 in
theorem w_alone : about1.alone = true := by decide +kernel
set_option maxRecDepth 65536 in
theorem w_named : about1.methodNamed? x = some theMethod := by decide +kernel
set_option maxRecDepth 65536 in
theorem w_hears : about1.hears theMethod below0 = true := by decide +kernel
set_option maxRecDepth 65536 in
theorem w_ripe : about1.ripe theMethod args0 below0 = true := by decide +kernel
theorem w_running : about1.status = .running := rfl
set_option maxRecDepth 65536 in
theorem w_room : about1.hasRoom e0.platform room_1 = true :=
  launch0.hasRoom_least _ room_1 (by decide +kernel) (by decide +kernel) (by decide +kernel) (by decide +kernel) (by decide +kernel) (by decide +kernel)
theorem allAtoms_all (ts : List Jvm.Cond) (a : Array Jvm.Value) (st : Jvm.State) : (allAtoms ts).before a st = ts.all (fun c => c.before a st) := by
  induction ts with
  | nil => rfl
  | cons c t ih =>
    show (Jvm.Cond.and c (allAtoms t)).before a st = _
    rw [Jvm.Cond.before_and, ih, List.all_cons]
def words1 : List Jvm.Cond := Jvm.Cond.code x code maxLocals ret :: tables_1
/-- a 'code' word, met by the world's own term for the bytes: nothing is compared byte by byte -/
theorem code_word {y : MethodName} {bytes : ByteArray} {mx : Nat} {rt : Option FieldType} {a : Array Value} {s : State} {m : MethodId} {meth : Method} {c : Code} (h1 : s.methodNamed? y = some m) (h2 : s.vm.method? m = some meth) (h3 : meth.code = some c) (h4 : c.code = bytes)
    (h5 : (c.maxLocals == mx && c.exceptionTable.isEmpty && decide (c.maxStack ≤ mostOperands) && decide (meth.sig.returnType = rt) && !meth.locks && decide (parseMethodDescriptor y.desc = some meth.sig)) = true) : (Jvm.Cond.code y bytes mx rt).before a s = true := by
  simp only [Bool.and_eq_true, beq_iff_eq, Bool.not_eq_true', decide_eq_true_eq] at h5
  obtain ⟨⟨⟨⟨⟨g1, g2⟩, g3⟩, g4⟩, g5⟩, g6⟩ := h5
  simp [Cond.before, Cond.holds, Cond.value, h1, h2, h3, h4, g1, g2, g3, g4, g5, g6]
def isCode : Jvm.Cond → Bool
  | .code _ _ _ _ => true
  | _ => false
theorem all_split {L : List Jvm.Cond} {P : Jvm.Cond → Bool} (h1 : L.all (fun c => isCode c || P c) = true) (h2 : ∀ c ∈ L.filter isCode, P c = true) : L.all P = true := by
  refine List.all_eq_true.mpr fun c hc => ?_
  have h := List.all_eq_true.mp h1 c hc
  rcases Bool.eq_false_or_eq_true (isCode c) with hi | hi
  · exact h2 c (List.mem_filter.mpr ⟨hc, hi⟩)
  · simpa [hi] using h
set_option maxRecDepth 65536 in
theorem w_c0 : (Jvm.Cond.code x code maxLocals ret).before args0 about1 = true := code_word (m := ⟨1, 1⟩) (meth := k1m1) (c := k1c1) (by decide +kernel) rfl rfl rfl (by decide +kernel)
set_option maxRecDepth 65536 in
theorem w_c1 : (Jvm.Cond.code ({ cls := "com/example/headwater/headwater/common/wire/EventRecords", name := "size", desc := "(I)I" } : Jvm.MethodName) prog_44_method_5_code (2 : Nat) (Option.some Jvm.ClassFile.FieldType.int)).before args0 about1 = true := code_word (m := ⟨2, 1⟩) (meth := k2m1) (c := k2c1) (by decide +kernel) rfl rfl rfl (by decide +kernel)
set_option maxRecDepth 65536 in
theorem w_c2 : (Jvm.Cond.code ({ cls := "com/example/headwater/headwater/common/wire/EventRecords", name := "length", desc := "(I)I" } : Jvm.MethodName) prog_44_method_12_code (1 : Nat) (Option.some Jvm.ClassFile.FieldType.int)).before args0 about1 = true := code_word (m := ⟨2, 3⟩) (meth := k2m3) (c := k2c3) (by decide +kernel) rfl rfl rfl (by decide +kernel)
set_option maxRecDepth 65536 in
theorem w_c3 : (Jvm.Cond.code ({ cls := "com/example/headwater/headwater/common/wire/EventRecords", name := "isKeyed", desc := "(I)Z" } : Jvm.MethodName) prog_44_method_11_code (1 : Nat) (Option.some Jvm.ClassFile.FieldType.boolean)).before args0 about1 = true := code_word (m := ⟨2, 2⟩) (meth := k2m2) (c := k2c2) (by decide +kernel) rfl rfl rfl (by decide +kernel)
set_option maxRecDepth 65536 in
theorem w_c4 : (Jvm.Cond.code ({ cls := "com/example/headwater/headwater/common/wire/EventRecords", name := "headerBytes", desc := "(I)I" } : Jvm.MethodName) prog_44_method_13_code (1 : Nat) (Option.some Jvm.ClassFile.FieldType.int)).before args0 about1 = true := code_word (m := ⟨2, 4⟩) (meth := k2m4) (c := k2c4) (by decide +kernel) rfl rfl rfl (by decide +kernel)
def codes1 : List Jvm.Cond := [Jvm.Cond.code x code maxLocals ret, Jvm.Cond.code ({ cls := "com/example/headwater/headwater/common/wire/EventRecords", name := "size", desc := "(I)I" } : Jvm.MethodName) prog_44_method_5_code (2 : Nat) (Option.some Jvm.ClassFile.FieldType.int), Jvm.Cond.code ({ cls := "com/example/headwater/headwater/common/wire/EventRecords", name := "length", desc := "(I)I" } : Jvm.MethodName) prog_44_method_12_code (1 : Nat) (Option.some Jvm.ClassFile.FieldType.int), Jvm.Cond.code ({ cls := "com/example/headwater/headwater/common/wire/EventRecords", name := "isKeyed", desc := "(I)Z" } : Jvm.MethodName) prog_44_method_11_code (1 : Nat) (Option.some Jvm.ClassFile.FieldType.boolean), Jvm.Cond.code ({ cls := "com/example/headwater/headwater/common/wire/EventRecords", name := "headerBytes", desc := "(I)I" } : Jvm.MethodName) prog_44_method_13_code (1 : Nat) (Option.some Jvm.ClassFile.FieldType.int)]
set_option maxRecDepth 65536 in
theorem codes_eq : words1.filter isCode = codes1 := rfl
theorem w_codes : ∀ c ∈ words1.filter isCode, c.before args0 about1 = true := by
  rw [codes_eq]
  intro c hc
  simp only [codes1, List.mem_cons, List.not_mem_nil, or_false] at hc
  rcases hc with rfl | rfl | rfl | rfl | rfl
  · exact w_c0
  · exact w_c1
  · exact w_c2
  · exact w_c3
  · exact w_c4
set_option maxRecDepth 65536 in
theorem w_t1 : words1.all (fun c => isCode c || c.before args0 about1) = true := by decide +kernel
theorem w_tables : (allAtoms (Jvm.Cond.code x code maxLocals ret :: tables_1)).before args0 about1 = true := by
  rw [allAtoms_all]
  show words1.all (fun c => c.before args0 about1) = true
  refine all_split ?_ w_codes
  rw [w_t1]
set_option maxRecDepth 65536 in
theorem w_case : (Jvm.Cond.and given_1 narrow_1).before args0 about1 = true := by decide +kernel
theorem w_applies : (headSpec (Jvm.Cond.code x code maxLocals ret :: tables_1) room_1).applies x e0.platform about1 = true :=
  (Spec.applies_iff w_frames).mpr ⟨w_running, w_runnable, w_alone, w_named, w_hears, w_ripe, w_room, w_tables⟩
theorem atStart : AtStart classFile x code maxLocals ret World_1 tables_1 room_1 Calls_1 rest_1 Pre_1 launch0 p0 e0 about1 theMethod args0 below0 :=
  ⟨lists_1, trivial, launch0.admits_env _ _ _, launch0.least_env, fairChoices_fair.cas, fairChoices_fair.clock, w_frames, w_args, w_heap, w_applies, trivial, trivial, w_case⟩
end start1
theorem witness_1 : WitnessClaimed_1 := ⟨start1.p0, start1.e0, start1.about1, start1.theMethod, start1.args0, start1.below0, start1.atStart⟩
end Jvm.Pilot.@@N@@
