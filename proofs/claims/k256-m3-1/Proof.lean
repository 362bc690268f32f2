import JvmDerived
import JvmDerived.Pilot.@@N@@Statement
import JvmDerived.Pilot.@@N@@Code
set_option linter.unusedVariables false
set_option linter.unusedSimpArgs false
@@BLOCK:HandJ.lean.txt@@
@@BLOCK:HandW.lean.txt@@
@@BLOCK:HandBits.lean.txt@@
@@BLOCK:SymMore.lean.txt@@
namespace Jvm.RoadKit
open Sem ClassFile Op Lib Jvm.Stand Jvm.Free Jvm.LawKit
section New
variable {p : Program} {l : Launch} {e : Env} {R : Room} {s : State} {m : MethodId} {args : Array Value} {below : List Frame} {meth : Method} {c : Code} {T : State} {locs : List Loc} {cells slots : Nat}
theorem retI (X : Stand p l e R s m args below meth c T locs cells slots) (hx : p.tables.exec = Jvm.exec) {pc : Nat} {Ls : Array Slot} {z : Int32} {rest : List Value} (hret : meth.sig.returnType = some .int) (hd : decode c.code pc = .ok (.ireturn, 1)) {fs : List Frame}
    (hl : ∀ (f : JFrame) (acts : List Action), f.method = m → f.locked = none → f.entered = [] → (doReturn e (T.setTop f) acts (some (.int z))).1 = T.setFrames fs) : Steps p.tables e below (T.setTop (mkF m pc Ls (.int z :: rest))) (T.setFrames fs) := by
  have hm' : T.vm.method? m = some meth := X.method'
  have hn : narrow .int (.int z) = .int z := rfl
  show Steps p.tables e below (T.setTop { method := m, pc := pc, locals := Ls, stack := _ :: rest, locked := none }) _
  jvm_step X.here [X.here.top, hx, hd, hm', hret, hn]
  first | (intro acts; rw [hl _ acts rfl rfl rfl]) | rw [hl _ _ rfl rfl rfl]
  exact Steps.refl _
end New
end Jvm.RoadKit
namespace Jvm.Pilot.@@N@@
open Jvm Jvm.ClassFile Sem Op Lib Jvm.Free Jvm.Stand Jvm.LawKit Jvm.RoadKit Bundle Jvm.Pilot.@@N@@.Jvm.D

def own_probe (f : Nat → Int64) (K : Int64) : Nat → Nat → Option Nat
  | 0, _ => none
  | n + 1, i => if f i = 0 then some i else if f i = K then some i else own_probe f K n ((i + 1) % 1024)
def own_upd (f : Nat → Int64) (s : Nat) (x : Int64) : Nat → Int64 := fun i => if i = s then x else f i
theorem own_upd_eq (f : Nat → Int64) (s : Nat) (x : Int64) : own_upd f s x s = x := if_pos rfl
theorem own_upd_ne {f : Nat → Int64} {s i : Nat} {x : Int64} (h : i ≠ s) : own_upd f s x i = f i := if_neg h
theorem own_upd_upd (f : Nat → Int64) (s : Nat) (x y : Int64) : own_upd (own_upd f s x) s y = own_upd f s y := by
  funext i; unfold own_upd; split <;> rfl
def own_z : Nat → Int64 := fun _ => 0
theorem own_pz {f : Nat → Int64} {K : Int64} {n i : Nat} (h : f i = 0) : own_probe f K (n + 1) i = some i := by simp [own_probe, h]
theorem own_pk {f : Nat → Int64} {K : Int64} {n i : Nat} (h : f i = K) : own_probe f K (n + 1) i = some i := by
  show (if f i = 0 then some i else if f i = K then some i else own_probe f K n ((i + 1) % 1024)) = _
  rw [if_pos h]; split <;> rfl
theorem own_pn {f : Nat → Int64} {K : Int64} {n i : Nat} (h1 : ¬ f i = 0) (h2 : ¬ f i = K) : own_probe f K (n + 1) i = own_probe f K n ((i + 1) % 1024) := by
  show (if f i = 0 then some i else if f i = K then some i else own_probe f K n ((i + 1) % 1024)) = _
  rw [if_neg h1, if_neg h2]
def own_s2 (s1 i : Nat) : Nat := if i = s1 then (s1 + 1) % 1024 else i
theorem own_s2_lt {s1 i : Nat} (hi : i < 1024) : own_s2 s1 i < 1024 := by unfold own_s2; split <;> omega
theorem own_s2_ne {s1 i : Nat} (hs : s1 < 1024) : own_s2 s1 i ≠ s1 := by unfold own_s2; split <;> omega
theorem own_l1b {s1 : Nat} {K1 K : Int64} {i : Nat} (hs : s1 < 1024) (h1 : K1 ≠ 0) (hne : K1 ≠ K) : own_probe (own_upd own_z s1 K1) K 3 i = some (own_s2 s1 i) := by
  by_cases h : i = s1
  · subst h
    rw [own_pn (by rw [own_upd_eq]; exact h1) (by rw [own_upd_eq]; exact hne), own_pz (by rw [own_upd_ne (by omega)]; rfl)]
    unfold own_s2; rw [if_pos rfl]
  · rw [own_pz (by rw [own_upd_ne h]; rfl)]
    unfold own_s2; rw [if_neg h]
theorem own_l2a {s1 s2 : Nat} {K1 K2 : Int64} (hs : s2 ≠ s1) : own_probe (own_upd (own_upd own_z s1 K1) s2 K2) K1 3 s1 = some s1 :=
  own_pk (by rw [own_upd_ne hs.symm, own_upd_eq])
theorem own_l2b {s1 i : Nat} {K1 K2 : Int64} (hs : s1 < 1024) (h1 : K1 ≠ 0) (hne : K1 ≠ K2) : own_probe (own_upd (own_upd own_z s1 K1) (own_s2 s1 i) K2) K2 3 i = some (own_s2 s1 i) := by
  by_cases h : i = s1
  · subst h
    have e : own_s2 i i = (i + 1) % 1024 := if_pos rfl
    have q := own_s2_ne (i := i) hs
    have w : own_upd (own_upd own_z i K1) (own_s2 i i) K2 i = K1 := by rw [own_upd_ne q.symm, own_upd_eq]
    rw [own_pn (by rw [w]; exact h1) (by rw [w]; exact hne), ← e]
    exact own_pk (own_upd_eq _ _ _)
  · have e : own_s2 s1 i = i := if_neg h
    rw [e]
    exact own_pk (own_upd_eq _ _ _)
theorem own_l2c {s1 s2 : Nat} {K1 K2 K : Int64} {i : Nat} (h1 : K1 ≠ 0) (h2 : K2 ≠ 0) (n1 : K1 ≠ K) (n2 : K2 ≠ K) (hi : i < 1024) : ∃ s, own_probe (own_upd (own_upd own_z s1 K1) s2 K2) K 3 i = some s ∧ s < 1024 ∧ s ≠ s1 ∧ s ≠ s2 := by
  have z : ∀ j, j ≠ s1 → j ≠ s2 → own_upd (own_upd own_z s1 K1) s2 K2 j = 0 := fun j a b => by rw [own_upd_ne b, own_upd_ne a]; rfl
  have nz : ∀ j, (j = s1 ∨ j = s2) → ¬ own_upd (own_upd own_z s1 K1) s2 K2 j = 0 ∧ ¬ own_upd (own_upd own_z s1 K1) s2 K2 j = K := fun j a => by
    by_cases b : j = s2
    · subst b; rw [own_upd_eq]; exact ⟨h2, n2⟩
    · rcases a with a | a
      · subst a; rw [own_upd_ne b, own_upd_eq]; exact ⟨h1, n1⟩
      · exact absurd a b
  by_cases a : i = s1 ∨ i = s2
  · rw [own_pn (nz i a).1 (nz i a).2]
    by_cases b : (i + 1) % 1024 = s1 ∨ (i + 1) % 1024 = s2
    · rw [own_pn (nz _ b).1 (nz _ b).2]
      have c1 : ((i + 1) % 1024 + 1) % 1024 ≠ s1 := by omega
      have c2 : ((i + 1) % 1024 + 1) % 1024 ≠ s2 := by omega
      exact ⟨_, own_pz (z _ c1 c2), by omega, c1, c2⟩
    · exact ⟨_, own_pz (z _ (fun q => b (Or.inl q)) (fun q => b (Or.inr q))), by omega, fun q => b (Or.inl q), fun q => b (Or.inr q)⟩
  · exact ⟨_, own_pz (z _ (fun q => a (Or.inl q)) (fun q => a (Or.inr q))), hi, fun q => a (Or.inl q), fun q => a (Or.inr q)⟩
/-- what the table says: every key is found, and its count is told -/
def own_L (hn : Int64 → Nat) (f g : Nat → Int64) (M : Int64 → Int64) : Prop := ∀ K, K ≠ 0 → ∃ s, own_probe f K 3 (hn K) = some s ∧ s < 1024 ∧ g s = M K
theorem own_L0 {hn : Int64 → Nat} (hh : ∀ K, hn K < 1024) : own_L hn own_z own_z (fun _ => 0) := fun K _ => ⟨hn K, own_pz rfl, hh K, rfl⟩
theorem own_L1 {hn : Int64 → Nat} (hh : ∀ K, hn K < 1024) {K1 : Int64} (h1 : K1 ≠ 0) (c1 : Int64) : own_L hn (own_upd own_z (hn K1) K1) (own_upd own_z (hn K1) c1) (fun K => if K1 = K then c1 else 0) := fun K hK => by
  by_cases h : K1 = K
  · subst h; exact ⟨hn K1, own_pk (own_upd_eq _ _ _), hh _, by dsimp only; rw [own_upd_eq, if_pos rfl]⟩
  · refine ⟨_, own_l1b (hh _) h1 h, own_s2_lt (hh _), ?_⟩
    dsimp only; rw [own_upd_ne (own_s2_ne (hh _)), if_neg h]; rfl
theorem own_L2 {hn : Int64 → Nat} (hh : ∀ K, hn K < 1024) {K1 K2 : Int64} (h1 : K1 ≠ 0) (h2 : K2 ≠ 0) (hne : K1 ≠ K2) (c1 c2 : Int64) : own_L hn (own_upd (own_upd own_z (hn K1) K1) (own_s2 (hn K1) (hn K2)) K2) (own_upd (own_upd own_z (hn K1) c1) (own_s2 (hn K1) (hn K2)) c2) (fun K => if K1 = K then c1 else if K2 = K then c2 else 0) := fun K hK => by
  by_cases h : K1 = K
  · subst h; exact ⟨_, own_l2a (own_s2_ne (hh _)), hh _, by dsimp only; rw [own_upd_ne (own_s2_ne (hh _)).symm, own_upd_eq, if_pos rfl]⟩
  · by_cases h' : K2 = K
    · subst h'; exact ⟨_, own_l2b (hh _) h1 hne, own_s2_lt (hh _), by dsimp only; rw [own_upd_eq, if_neg h, if_pos rfl]⟩
    · obtain ⟨s, e1, e2, e3, e4⟩ := own_l2c (s1 := hn K1) (s2 := own_s2 (hn K1) (hn K2)) h1 h2 h h' (hh K)
      exact ⟨s, e1, e2, by dsimp only; rw [own_upd_ne e4, own_upd_ne e3, if_neg h, if_neg h']; rfl⟩
def own_min (a b : Int32) : Int32 := if b < a then b else a
def own_max (a b : Int32) : Int32 := if a < b then b else a
def own_key (p q n : Int32) : Int64 := ((own_min p q).toInt64 * n.toInt64) + (own_max p q).toInt64
theorem own_mm (p q : Int32) : (p.toInt ≤ q.toInt ∧ (own_min p q).toInt = p.toInt ∧ (own_max p q).toInt = q.toInt) ∨ (q.toInt ≤ p.toInt ∧ (own_min p q).toInt = q.toInt ∧ (own_max p q).toInt = p.toInt) := by
  unfold own_min own_max
  by_cases h : q < p
  · have h' : ¬ p < q := by rw [Int32.lt_iff_toInt_lt] at h ⊢; omega
    rw [if_pos h, if_neg h']; rw [Int32.lt_iff_toInt_lt] at h; right; exact ⟨by omega, rfl, rfl⟩
  · rw [if_neg h]
    by_cases h' : p < q
    · rw [if_pos h']; rw [Int32.lt_iff_toInt_lt] at h'; left; exact ⟨by omega, rfl, rfl⟩
    · rw [if_neg h']; rw [Int32.lt_iff_toInt_lt] at h h'; left; exact ⟨by omega, rfl, by omega⟩
def own_in (n p : Int32) : Prop := 0 ≤ p.toInt ∧ p.toInt < n.toInt
theorem own_keyI {n p q : Int32} (hn : n.toInt ≤ 1073741825) (hp : own_in n p) (hq : own_in n q) : (own_key p q n).toInt = (own_min p q).toInt * n.toInt + (own_max p q).toInt := by
  obtain ⟨p1, p2⟩ := hp
  obtain ⟨q1, q2⟩ := hq
  have h := own_mm p q
  have a1 := c_lmul (own_min p q).toInt64 n.toInt64
  have a2 := c_ladd ((own_min p q).toInt64 * n.toInt64) (own_max p q).toInt64
  have a3 := rng64 ((own_min p q).toInt64 * n.toInt64)
  have a4 := rng64 (own_key p q n)
  rw [c_i2l, c_i2l] at a1
  rw [c_i2l] at a2
  unfold own_key at a4 ⊢
  have b1 : 0 ≤ (own_min p q).toInt * n.toInt := Int.mul_nonneg (by omega) (by omega)
  have b2 : (own_min p q).toInt * n.toInt ≤ 1073741825 * 1073741825 := Int.mul_le_mul (by omega) hn (by omega) (by omega)
  omega
theorem own_key0 {n p q : Int32} (hn : n.toInt ≤ 1073741825) (hp : own_in n p) (hq : own_in n q) (hne : ¬ p = q) : own_key p q n ≠ 0 := fun e => by
  have k := own_keyI hn hp hq
  rw [e] at k
  have e0 : (0 : Int64).toInt = 0 := by decide
  have h := own_mm p q
  obtain ⟨p1, p2⟩ := hp
  obtain ⟨q1, q2⟩ := hq
  have b1 : 0 ≤ (own_min p q).toInt * n.toInt := Int.mul_nonneg (by omega) (by omega)
  exact hne (Int32.toInt_inj.mp (by omega))
theorem own_inj {n p q r t : Int32} (hn : n.toInt ≤ 1073741825) (hp : own_in n p) (hq : own_in n q) (hr : own_in n r) (ht : own_in n t) : own_key p q n = own_key r t n ↔ ((p = r ∧ q = t) ∨ (p = t ∧ q = r)) := by
  constructor
  · intro e
    have k1 := own_keyI hn hp hq
    have k2 := own_keyI hn hr ht
    rw [e, k2] at k1
    have h1 := own_mm p q
    have h2 := own_mm r t
    obtain ⟨p1, p2⟩ := hp
    obtain ⟨q1, q2⟩ := hq
    obtain ⟨r1, r2⟩ := hr
    obtain ⟨t1, t2⟩ := ht
    have m1 : (own_max p q).toInt = (own_max r t).toInt := by
      have := congrArg (· % n.toInt) k1
      simp only [Int.add_comm (_ * n.toInt), Int.add_mul_emod_self_right] at this
      rw [Int.emod_eq_of_lt (by omega) (by omega), Int.emod_eq_of_lt (by omega) (by omega)] at this
      exact this.symm
    have m2 : (own_min p q).toInt = (own_min r t).toInt := by
      have : (own_min r t).toInt * n.toInt = (own_min p q).toInt * n.toInt := by omega
      exact (Int.eq_of_mul_eq_mul_right (by omega) this).symm
    simp only [← Int32.toInt_inj]
    omega
  · rintro (⟨rfl, rfl⟩ | ⟨rfl, rfl⟩)
    · rfl
    · apply Int64.toInt_inj.mp
      rw [own_keyI hn hp hq, own_keyI hn hq hp]
      have h1 := own_mm p q
      have h2 := own_mm q p
      have e1 : (own_min p q).toInt = (own_min q p).toInt := by omega
      have e2 : (own_max p q).toInt = (own_max q p).toInt := by omega
      rw [e1, e2]
theorem own_upd_swap {f : Nat → Int64} {s1 s2 : Nat} (h : s2 ≠ s1) (c1 c2 x : Int64) : own_upd (own_upd (own_upd f s1 c1) s2 c2) s1 x = own_upd (own_upd f s1 x) s2 c2 := by
  funext i; unfold own_upd
  by_cases a : i = s1
  · subst a; rw [if_pos rfl, if_neg (fun q => h q.symm), if_pos rfl]
  · rw [if_neg a]; by_cases b : i = s2
    · rw [if_pos b, if_pos b]
    · rw [if_neg b, if_neg b, if_neg a, if_neg a]
def own_home (K : Int64) : Int32 := ((((K * (-7046029254386353131 : Int64)).toUInt64 >>> ((54 : Int32) &&& 0x3f).toInt64.toUInt64).toInt64).toInt32)
def own_hn (K : Int64) : Nat := (own_home K).toInt.toNat
theorem own_home_b (K : Int64) : 0 ≤ (own_home K).toInt ∧ (own_home K).toInt < 1024 := by
  have a1 := c_lushr (K * (-7046029254386353131 : Int64)) 54 54 (by decide) (by decide)
  have a2 := c_l2i (((K * (-7046029254386353131 : Int64)).toUInt64 >>> ((54 : Int32) &&& 0x3f).toInt64.toUInt64).toInt64)
  have a3 := rng32 (own_home K)
  unfold own_home at a3 ⊢
  omega
theorem own_hlt (K : Int64) : own_hn K < 1024 := by have := own_home_b K; unfold own_hn; omega
theorem own_home_eq (K : Int64) : own_home K = Int32.ofNat (own_hn K) := by
  have h := own_home_b K
  apply Int32.toInt_inj.mp
  unfold own_hn
  rw [Int32.toInt_ofNat_of_lt (by omega)]; omega
theorem own_ix {i : Nat} (hi : i < 1024) : (Int32.ofNat i).toNatClampNeg = i ∧ ¬ Int32.ofNat i < 0 := by
  have e := Int32.toInt_ofNat_of_lt (n := i) (by omega)
  refine ⟨?_, ?_⟩
  · simp only [Int32.toNatClampNeg, e]; omega
  · rw [Int32.lt_iff_toInt_lt, e]; show ¬ ((i : Int) < 0); omega
theorem own_inb {c : Cell} {i : Nat} (S : c.slots.size = 1024) (hi : i < 1024) : ¬ (Int32.ofNat i < 0 ∨ c.slots.size ≤ (Int32.ofNat i).toNatClampNeg) := by
  rw [(own_ix hi).1, S]; rintro (h | h)
  · exact (own_ix hi).2 h
  · omega
theorem own_next {i : Nat} (hi : i < 1024) : ((Int32.ofNat i + (1 : Int32)) &&& (1023 : Int32)) = Int32.ofNat ((i + 1) % 1024) := by
  apply Int32.toInt_inj.mp
  have a1 := c_mask (Int32.ofNat i + 1) 1023 10 (by decide) (by decide)
  have a2 := c_iadd (Int32.ofNat i) 1
  have a3 := rng32 (Int32.ofNat i + 1)
  have e1 := Int32.toInt_ofNat_of_lt (n := i) (by omega)
  have e2 := Int32.toInt_ofNat_of_lt (n := (i + 1) % 1024) (by omega)
  have e3 : (1 : Int32).toInt = 1 := by decide
  rw [e2, a1]; omega
section OwnA
variable {Z : State} {h h' : Heap} {a b : Addr} {k : ClassId} {f : Nat → Int64} {sl : Nat} {v : Value} {ws : List Addr}
def own_A (Z : State) (h : Heap) (a : Addr) (k : ClassId) (f : Nat → Int64) : Prop := ∃ c : Cell, Arr Z h a c .long ∧ c.cls = k ∧ c.slots.size = 1024 ∧ ∀ i, i < 1024 → c.slots[i]? = some (.long (f i))
theorem own_A.lt (F : own_A Z h a k f) : a < h.size := by obtain ⟨c, A, -⟩ := F; exact A.lt
theorem own_A.ext (F : own_A Z h a k f) (E : Ext h h') : own_A Z h' a k f := by obtain ⟨c, A, r⟩ := F; exact ⟨c, A.ext E, r⟩
theorem own_A.other (F : own_A Z h b k f) (W : Wr h h' a sl v) (q : b ≠ a) : own_A Z h' b k f := by obtain ⟨c, A, r⟩ := F; exact ⟨c, A.other W q, r⟩
theorem own_A.keep (F : own_A Z h a k f) (K : Keep h h' ws) (q : a ∉ ws) : own_A Z h' a k f := by obtain ⟨c, A, r⟩ := F; exact ⟨c, ⟨K.2.1 a c A.1 q, A.2⟩, r⟩
theorem own_A.new (A : Arr Z h a (newA k .long (1024 : Int32)) .long) : own_A Z h a k own_z := by
  have e : (1024 : Int32).toNatClampNeg = 1024 := by decide
  refine ⟨_, A, rfl, ?_, fun i hi => ?_⟩
  · simp [newA, e]
  · simp [newA, e, hi, defaultValue, own_z]
theorem own_A.set {c : Cell} (A : Arr Z h a c .long) (q : c.cls = k) (S : c.slots.size = 1024) (H : ∀ i, i < 1024 → c.slots[i]? = some (.long (f i))) {i : Nat} (hi : i < 1024) {x : Int64} (W : Wr h h' a (Int32.ofNat i).toNatClampNeg (.long x)) : own_A Z h' a k (own_upd f i x) := by
  rw [(own_ix hi).1] at W
  refine ⟨_, A.same W, q, by simp [Cell.setSlot, S], fun j hj => ?_⟩
  by_cases u : i = j
  · subst u; simp [Cell.setSlot, S, hj, own_upd]
  · have := H j hj
    simp only [Cell.setSlot]
    rw [Array.getElem?_setIfInBounds_ne u, this, own_upd_ne (fun q => u q.symm)]
end OwnA
def own_e (x : Int32) (K Kq e : Int64) : Int64 := if x = (0 : Int32) then e else if K = Kq then e + (1 : Int64) else e
def own_same (p q r t : Int32) : Int32 := if (p = r ∧ q = t) ∨ (p = t ∧ q = r) then (1 : Int32) else (0 : Int32)
def own_sum (x1 x2 x3 : Int32) (Ka Kc Kq : Int64) : Int64 := own_e x3 Ka Kq (own_e x2 Kc Kq (own_e x1 Ka Kq (0 : Int64)))
theorem ef_5_I_I (m : MethodId) (x0 : Int32) (x1 : Int32) : entryFrame m #[(.int x0), (.int x1)] 2 = mkF m 0 #[.val (.int x0), .val (.int x1)] [] := by first | (simp [entryFrame, mkF, argsToLocals, Value.category]; done) | rfl
theorem d5_0 : decode jdk_29_method_69_code 0 = .ok (.iload_n 0, 1) := by decide +kernel
theorem d5_1 : decode jdk_29_method_69_code 1 = .ok (.iload_n 1, 1) := by decide +kernel
theorem d5_2 : decode jdk_29_method_69_code 2 = .ok (.if_icmp .gt 7, 3) := by decide +kernel
theorem d5_5 : decode jdk_29_method_69_code 5 = .ok (.iload_n 0, 1) := by decide +kernel
theorem d5_6 : decode jdk_29_method_69_code 6 = .ok (.goto 4, 3) := by decide +kernel
theorem d5_9 : decode jdk_29_method_69_code 9 = .ok (.iload_n 1, 1) := by decide +kernel
theorem d5_10 : decode jdk_29_method_69_code 10 = .ok (.ireturn, 1) := by decide +kernel
def Q_rm5 (Z : State) (a b : Int32) (h0 : Heap) (n0 : Nat) (v : Option Value) (h : Heap) (L : List Loc) : Prop := v = some (.int (own_min a b)) ∧ Fr n0 L ∧ h = h0
set_option maxRecDepth 65536 in
set_option maxHeartbeats 40000000 in
theorem rm5 (l : Launch) (Z : State) (a0 : Array Value) (hw : ∀ d ∈ tables_1, d.before a0 Z = true) (ws : List Jvm.Cond) (a b : Int32) (h0 : Heap) (n0 : Nat) (Z0 : n0 ≤ h0.size)  :
    MetFree l (⟨"java/lang/Math", "min", "(II)I"⟩ : MethodName) (head1 (Jvm.Cond.code (⟨"java/lang/Math", "min", "(II)I"⟩ : MethodName) jdk_29_method_69_code 2 (some .int) :: ws) ({ frames := 0, cells := 0, slots := 0, locals := 0 } : Room)) (fun argv U => argv = #[(.int a), (.int b)] ∧ Z.Warmed39 U.vm ∧ U.heap = h0) (fun _ _ _ _ _ => True) (fun _ U o U' => ∃ v L, o = .returned v ∧ Q_rm5 Z a b h0 n0 v U'.heap L ∧ FrameEnd U o U' L ({ frames := 0, cells := 0, slots := 0, locals := 0 } : Room).cells ({ frames := 0, cells := 0, slots := 0, locals := 0 } : Room).slots) := by
  refine MetFree.of_bodySF (Jvm.Free.JP.mathPlain rfl (by decide +kernel)) hisR ?_
  intro p e s m args below meth c s₁ Bd hml0 hP hK
  obtain ⟨rfl, hZ, hh⟩ := hP
  have hx := Bd.exec
  have hby := Bd.bytes
  have hml : c.maxLocals = 2 := hml0
  have hown : s.vm.findClass "java/lang/Math" = some m.cls := findClass_of_methodNamed Bd.named
  have hnm := (name_of_methodNamed Bd.named Bd.method).1
  have X0 : Stand p l e ({ frames := 0, cells := 0, slots := 0, locals := 0 } : Room) s m #[(.int a), (.int b)] below meth c s₁ [] 0 0 := Stand.of_body Bd
  have e0 : s₁.heap = h0 := by rw [← hh, Bd.state]; rfl
  have N0 := Fr.nil n0
  obtain ⟨G, hG⟩ : ∃ G : State → Prop, G = fun tg => Steps p.tables e below (s₁.setTop (entryFrame m #[(.int a), (.int b)] 2)) tg := ⟨_, rfl⟩
  have pre0 : ∀ tg, Steps p.tables e below (s₁.setTop (mkF m 0 #[.val (.int a), .val (.int b)] [])) tg → G tg := fun tg kt => by rw [hG]; exact castTop (ef_5_I_I m a b) kt
  have pre1 : ∀ tg, Steps p.tables e below (s₁.setTop (mkF m 2 #[.val (.int a), .val (.int b)] [(.int b), (.int a)])) tg → G tg := fun tg kt => pre0 tg (by
    show Steps p.tables e below (s₁.setTop (mkF m 0 #[.val (.int a), .val (.int b)] [])) _
    refine XS.iloadN X0.here hx rfl (hb hby d5_0) rfl ?_
    show Steps p.tables e below (s₁.setTop (mkF m 1 #[.val (.int a), .val (.int b)] [(.int a)])) _
    refine XS.iloadN X0.here hx rfl (hb hby d5_1) rfl ?_
    exact kt)
  have pre2 : ∀ tg, Steps p.tables e below (s₁.setTop (mkF m 10 #[.val (.int a), .val (.int b)] [(.int (if b < a then b else a))])) tg → G tg := by
    intro tg kt
    refine pre1 tg ?_
    by_cases hm2_0 : b < a
    · try simp only [if_pos hm2_0] at kt
      show Steps p.tables e below (s₁.setTop (mkF m 2 #[.val (.int a), .val (.int b)] [(.int b), (.int a)])) _
      refine XS.icmpYes X0.here hx rfl (pc0 := 2) (pc' := 9) rfl (hb hby d5_2) rfl (tlt hm2_0).2.2.1 (by decide) (by decide) ?_
      show Steps p.tables e below (s₁.setTop (mkF m 9 #[.val (.int a), .val (.int b)] [])) _
      refine XS.iloadN X0.here hx rfl (hb hby d5_9) rfl ?_
      exact kt
    · try simp only [if_neg hm2_0] at kt
      show Steps p.tables e below (s₁.setTop (mkF m 2 #[.val (.int a), .val (.int b)] [(.int b), (.int a)])) _
      refine XS.icmpNo X0.here hx rfl (hb hby d5_2) rfl (flt hm2_0).2.2.1 ?_
      show Steps p.tables e below (s₁.setTop (mkF m 5 #[.val (.int a), .val (.int b)] [])) _
      refine XS.iloadN X0.here hx rfl (hb hby d5_5) rfl ?_
      show Steps p.tables e below (s₁.setTop (mkF m 6 #[.val (.int a), .val (.int b)] [(.int a)])) _
      refine XS.goto X0.here hx rfl (pc0 := 6) (pc' := 10) rfl (hb hby d5_6) (by decide) (by decide) ?_
      exact kt
  obtain ⟨fs, hr, hrun, hended, hW, hsame⟩ := X0.leave (v := some (.int (if b < a then b else a))) (fun h => by rw [Bd.returns] at h; cases h)
  subst hG
  refine ⟨_, _, pre2 _ ?_, hrun, hended, _, _, rfl, ?_, ⟨_, rfl⟩, hW, hsame.mono (by decide) (by decide)⟩
  · skip
    show Steps p.tables e below (s₁.setTop (mkF m 10 #[.val (.int a), .val (.int b)] [(.int (if b < a then b else a))])) _
    exact retI X0 hx Bd.returns (hb hby d5_10) hr
  · show Q_rm5 Z a b h0 n0 _ s₁.heap _
    rw [e0]
    exact ⟨rfl, N0, rfl⟩
theorem ef_6_I_I (m : MethodId) (x0 : Int32) (x1 : Int32) : entryFrame m #[(.int x0), (.int x1)] 2 = mkF m 0 #[.val (.int x0), .val (.int x1)] [] := by first | (simp [entryFrame, mkF, argsToLocals, Value.category]; done) | rfl
theorem d6_0 : decode jdk_29_method_65_code 0 = .ok (.iload_n 0, 1) := by decide +kernel
theorem d6_1 : decode jdk_29_method_65_code 1 = .ok (.iload_n 1, 1) := by decide +kernel
theorem d6_2 : decode jdk_29_method_65_code 2 = .ok (.if_icmp .lt 7, 3) := by decide +kernel
theorem d6_5 : decode jdk_29_method_65_code 5 = .ok (.iload_n 0, 1) := by decide +kernel
theorem d6_6 : decode jdk_29_method_65_code 6 = .ok (.goto 4, 3) := by decide +kernel
theorem d6_9 : decode jdk_29_method_65_code 9 = .ok (.iload_n 1, 1) := by decide +kernel
theorem d6_10 : decode jdk_29_method_65_code 10 = .ok (.ireturn, 1) := by decide +kernel
def Q_rm6 (Z : State) (a b : Int32) (h0 : Heap) (n0 : Nat) (v : Option Value) (h : Heap) (L : List Loc) : Prop := v = some (.int (own_max a b)) ∧ Fr n0 L ∧ h = h0
set_option maxRecDepth 65536 in
set_option maxHeartbeats 40000000 in
theorem rm6 (l : Launch) (Z : State) (a0 : Array Value) (hw : ∀ d ∈ tables_1, d.before a0 Z = true) (ws : List Jvm.Cond) (a b : Int32) (h0 : Heap) (n0 : Nat) (Z0 : n0 ≤ h0.size)  :
    MetFree l (⟨"java/lang/Math", "max", "(II)I"⟩ : MethodName) (head1 (Jvm.Cond.code (⟨"java/lang/Math", "max", "(II)I"⟩ : MethodName) jdk_29_method_65_code 2 (some .int) :: ws) ({ frames := 0, cells := 0, slots := 0, locals := 0 } : Room)) (fun argv U => argv = #[(.int a), (.int b)] ∧ Z.Warmed39 U.vm ∧ U.heap = h0) (fun _ _ _ _ _ => True) (fun _ U o U' => ∃ v L, o = .returned v ∧ Q_rm6 Z a b h0 n0 v U'.heap L ∧ FrameEnd U o U' L ({ frames := 0, cells := 0, slots := 0, locals := 0 } : Room).cells ({ frames := 0, cells := 0, slots := 0, locals := 0 } : Room).slots) := by
  refine MetFree.of_bodySF (Jvm.Free.JP.mathPlain rfl (by decide +kernel)) hisR ?_
  intro p e s m args below meth c s₁ Bd hml0 hP hK
  obtain ⟨rfl, hZ, hh⟩ := hP
  have hx := Bd.exec
  have hby := Bd.bytes
  have hml : c.maxLocals = 2 := hml0
  have hown : s.vm.findClass "java/lang/Math" = some m.cls := findClass_of_methodNamed Bd.named
  have hnm := (name_of_methodNamed Bd.named Bd.method).1
  have X0 : Stand p l e ({ frames := 0, cells := 0, slots := 0, locals := 0 } : Room) s m #[(.int a), (.int b)] below meth c s₁ [] 0 0 := Stand.of_body Bd
  have e0 : s₁.heap = h0 := by rw [← hh, Bd.state]; rfl
  have N0 := Fr.nil n0
  obtain ⟨G, hG⟩ : ∃ G : State → Prop, G = fun tg => Steps p.tables e below (s₁.setTop (entryFrame m #[(.int a), (.int b)] 2)) tg := ⟨_, rfl⟩
  have pre0 : ∀ tg, Steps p.tables e below (s₁.setTop (mkF m 0 #[.val (.int a), .val (.int b)] [])) tg → G tg := fun tg kt => by rw [hG]; exact castTop (ef_6_I_I m a b) kt
  have pre1 : ∀ tg, Steps p.tables e below (s₁.setTop (mkF m 2 #[.val (.int a), .val (.int b)] [(.int b), (.int a)])) tg → G tg := fun tg kt => pre0 tg (by
    show Steps p.tables e below (s₁.setTop (mkF m 0 #[.val (.int a), .val (.int b)] [])) _
    refine XS.iloadN X0.here hx rfl (hb hby d6_0) rfl ?_
    show Steps p.tables e below (s₁.setTop (mkF m 1 #[.val (.int a), .val (.int b)] [(.int a)])) _
    refine XS.iloadN X0.here hx rfl (hb hby d6_1) rfl ?_
    exact kt)
  have pre2 : ∀ tg, Steps p.tables e below (s₁.setTop (mkF m 10 #[.val (.int a), .val (.int b)] [(.int (if a < b then b else a))])) tg → G tg := by
    intro tg kt
    refine pre1 tg ?_
    by_cases hm2_0 : a < b
    · try simp only [if_pos hm2_0] at kt
      show Steps p.tables e below (s₁.setTop (mkF m 2 #[.val (.int a), .val (.int b)] [(.int b), (.int a)])) _
      refine XS.icmpYes X0.here hx rfl (pc0 := 2) (pc' := 9) rfl (hb hby d6_2) rfl (tlt hm2_0).1 (by decide) (by decide) ?_
      show Steps p.tables e below (s₁.setTop (mkF m 9 #[.val (.int a), .val (.int b)] [])) _
      refine XS.iloadN X0.here hx rfl (hb hby d6_9) rfl ?_
      exact kt
    · try simp only [if_neg hm2_0] at kt
      show Steps p.tables e below (s₁.setTop (mkF m 2 #[.val (.int a), .val (.int b)] [(.int b), (.int a)])) _
      refine XS.icmpNo X0.here hx rfl (hb hby d6_2) rfl (flt hm2_0).1 ?_
      show Steps p.tables e below (s₁.setTop (mkF m 5 #[.val (.int a), .val (.int b)] [])) _
      refine XS.iloadN X0.here hx rfl (hb hby d6_5) rfl ?_
      show Steps p.tables e below (s₁.setTop (mkF m 6 #[.val (.int a), .val (.int b)] [(.int a)])) _
      refine XS.goto X0.here hx rfl (pc0 := 6) (pc' := 10) rfl (hb hby d6_6) (by decide) (by decide) ?_
      exact kt
  obtain ⟨fs, hr, hrun, hended, hW, hsame⟩ := X0.leave (v := some (.int (if a < b then b else a))) (fun h => by rw [Bd.returns] at h; cases h)
  subst hG
  refine ⟨_, _, pre2 _ ?_, hrun, hended, _, _, rfl, ?_, ⟨_, rfl⟩, hW, hsame.mono (by decide) (by decide)⟩
  · skip
    show Steps p.tables e below (s₁.setTop (mkF m 10 #[.val (.int a), .val (.int b)] [(.int (if a < b then b else a))])) _
    exact retI X0 hx Bd.returns (hb hby d6_10) hr
  · show Q_rm6 Z a b h0 n0 _ s₁.heap _
    rw [e0]
    exact ⟨rfl, N0, rfl⟩
theorem pn_4 : plainName "com/example/convene/convene/PairCounts" = true := by first | (simp [plainName, overriddenIn]; done) | decide +kernel
theorem ef_4_R_I_I (m : MethodId) (x0 : Addr) (x1 : Int32) (x2 : Int32) : entryFrame m #[(.ref x0), (.int x1), (.int x2)] 3 = mkF m 0 #[.val (.ref x0), .val (.int x1), .val (.int x2)] [] := by first | (simp [entryFrame, mkF, argsToLocals, Value.category]; done) | rfl
theorem pd_0 : parseMethodDescriptor "(II)I" = some ⟨[.int, .int], some .int⟩ := by decide +kernel
theorem d4_0 : decode prog_23_method_7_code 0 = .ok (.iload_n 1, 1) := by decide +kernel
theorem d4_1 : decode prog_23_method_7_code 1 = .ok (.iload_n 2, 1) := by decide +kernel
theorem d4_2 : decode prog_23_method_7_code 2 = .ok (.invokestatic 63, 3) := by decide +kernel
theorem d4_5 : decode prog_23_method_7_code 5 = .ok (.i2l, 1) := by decide +kernel
theorem d4_6 : decode prog_23_method_7_code 6 = .ok (.aload_n 0, 1) := by decide +kernel
theorem d4_7 : decode prog_23_method_7_code 7 = .ok (.getfield 7, 3) := by decide +kernel
theorem d4_10 : decode prog_23_method_7_code 10 = .ok (.i2l, 1) := by decide +kernel
theorem d4_11 : decode prog_23_method_7_code 11 = .ok (.lmul, 1) := by decide +kernel
theorem d4_12 : decode prog_23_method_7_code 12 = .ok (.iload_n 1, 1) := by decide +kernel
theorem d4_13 : decode prog_23_method_7_code 13 = .ok (.iload_n 2, 1) := by decide +kernel
theorem d4_14 : decode prog_23_method_7_code 14 = .ok (.invokestatic 69, 3) := by decide +kernel
theorem d4_17 : decode prog_23_method_7_code 17 = .ok (.i2l, 1) := by decide +kernel
theorem d4_18 : decode prog_23_method_7_code 18 = .ok (.ladd, 1) := by decide +kernel
theorem d4_19 : decode prog_23_method_7_code 19 = .ok (.lreturn, 1) := by decide +kernel
def Q_rm4 (Z : State) (a : Addr) (p1 p2 nn : Int32) (h0 : Heap) (n0 : Nat) (v : Option Value) (h : Heap) (L : List Loc) : Prop := v = some (.long (own_key p1 p2 nn)) ∧ Fr n0 L ∧ h = h0
set_option maxRecDepth 65536 in
set_option maxHeartbeats 40000000 in
theorem rm4 (l : Launch) (Z : State) (a0 : Array Value) (hw : ∀ d ∈ tables_1, d.before a0 Z = true) (ws : List Jvm.Cond) (a : Addr) (p1 p2 nn : Int32) (h0 : Heap) (n0 : Nat) (Z0 : n0 ≤ h0.size) (F_nodes : Fld Z h0 a "com/example/convene/convene/PairCounts" "nodes" "I" (.int nn)) :
    MetFree l (⟨"com/example/convene/convene/PairCounts", "key", "(II)J"⟩ : MethodName) (head1 (Jvm.Cond.code (⟨"com/example/convene/convene/PairCounts", "key", "(II)J"⟩ : MethodName) prog_23_method_7_code 3 (some .long) :: ws) ({ frames := 1, cells := 0, slots := 0, locals := 30 } : Room)) (fun argv U => argv = #[(.ref a), (.int p1), (.int p2)] ∧ Z.Warmed39 U.vm ∧ U.heap = h0) (fun _ _ _ _ _ => True) (fun _ U o U' => ∃ v L, o = .returned v ∧ Q_rm4 Z a p1 p2 nn h0 n0 v U'.heap L ∧ FrameEnd U o U' L ({ frames := 1, cells := 0, slots := 0, locals := 30 } : Room).cells ({ frames := 1, cells := 0, slots := 0, locals := 30 } : Room).slots) := by
  refine MetFree.of_bodySF (plainFor_of_name pn_4) hisR ?_
  intro p e s m args below meth c s₁ Bd hml0 hP hK
  obtain ⟨rfl, hZ, hh⟩ := hP
  have hx := Bd.exec
  have hby := Bd.bytes
  have hml : c.maxLocals = 3 := hml0
  have hown : s.vm.findClass "com/example/convene/convene/PairCounts" = some m.cls := findClass_of_methodNamed Bd.named
  have hnm := (name_of_methodNamed Bd.named Bd.method).1
  have X0 : Stand p l e ({ frames := 1, cells := 0, slots := 0, locals := 30 } : Room) s m #[(.ref a), (.int p1), (.int p2)] below meth c s₁ [] 0 0 := Stand.of_body Bd
  have e0 : s₁.heap = h0 := by rw [← hh, Bd.state]; rfl
  have N0 := Fr.nil n0
  obtain ⟨G, hG⟩ : ∃ G : State → Prop, G = fun tg => Steps p.tables e below (s₁.setTop (entryFrame m #[(.ref a), (.int p1), (.int p2)] 3)) tg := ⟨_, rfl⟩
  have pre0 : ∀ tg, Steps p.tables e below (s₁.setTop (mkF m 0 #[.val (.ref a), .val (.int p1), .val (.int p2)] [])) tg → G tg := fun tg kt => by rw [hG]; exact castTop (ef_4_R_I_I m a p1 p2) kt
  have pre1 : ∀ tg, Steps p.tables e below (s₁.setTop (mkF m 2 #[.val (.ref a), .val (.int p1), .val (.int p2)] [(.int p2), (.int p1)])) tg → G tg := fun tg kt => pre0 tg (by
    show Steps p.tables e below (s₁.setTop (mkF m 0 #[.val (.ref a), .val (.int p1), .val (.int p2)] [])) _
    refine XS.iloadN X0.here hx rfl (hb hby d4_0) rfl ?_
    show Steps p.tables e below (s₁.setTop (mkF m 1 #[.val (.ref a), .val (.int p1), .val (.int p2)] [(.int p1)])) _
    refine XS.iloadN X0.here hx rfl (hb hby d4_1) rfl ?_
    exact kt)
  obtain ⟨_, _, ⟨T2, L2, k2, n2⟩, -, X2, ⟨Lc2, hQ2, l2, y2, z2⟩, st2⟩ := Jvm.LawKit.callS X0 hx (y := (⟨"java/lang/Math", "min", "(II)I"⟩ : MethodName)) hown (mvT hZ (hw _ (List.mem_of_getElem? (i := 29) rfl))) (mvT hZ (hw _ (List.mem_of_getElem? (i := 30) rfl))) (mvT hZ (hw _ (List.mem_of_getElem? (i := 31) rfl))) (mvT hZ (hw _ (List.mem_of_getElem? (i := 32) rfl))) (by decide) (backOf (W := 0) (rm5 l Z a0 hw [] p1 p2 h0 n0 Z0 ) hZ (hw _ (List.mem_of_getElem? (i := 32) rfl)) (hw _ (List.mem_of_getElem? (i := 31) rfl)) (by decide) (by decide)) (g := (mkF m 2 #[.val (.ref a), .val (.int p1), .val (.int p2)] [(.int p2), (.int p1)])) rfl (by rw [hml]; rfl) (argsL := [(.int p1), (.int p2)]) (rest := []) (lenOf pd_0 rfl) rfl (by show 2 * 0 + _ ≤ _; exact Nat.le_of_eq rfl) (hb hby d4_2) (fun _ _ => ⟨rfl, e0, (Nat.le_of_ble_eq_true rfl), (Nat.le_of_ble_eq_true rfl)⟩)
  dsimp only [Pt.U, Pt.locs, Pt.cells, Pt.slots] at X2 l2 y2 z2 st2 hQ2
  subst l2 y2 z2
  obtain ⟨rfl, N2q, e2⟩ := hQ2
  have N2 := Fr.app N0 N2q
  have pre2s : ∀ tg, Steps p.tables e below (T2.setTop (mkF m 5 #[.val (.ref a), .val (.int p1), .val (.int p2)] [(.int (own_min p1 p2))])) tg → G tg := fun tg kt => pre1 tg (st2 tg kt)
  have pre3 : ∀ tg, Steps p.tables e below (T2.setTop (mkF m 7 #[.val (.ref a), .val (.int p1), .val (.int p2)] [(.ref a), (.long ((own_min p1 p2).toInt64))])) tg → G tg := fun tg kt => pre2s tg (by
    show Steps p.tables e below (T2.setTop (mkF m 5 #[.val (.ref a), .val (.int p1), .val (.int p2)] [(.int (own_min p1 p2))])) _
    refine XS.i2l X2.here hx rfl (hb hby d4_5) rfl ?_
    show Steps p.tables e below (T2.setTop (mkF m 6 #[.val (.ref a), .val (.int p1), .val (.int p2)] [(.long ((own_min p1 p2).toInt64))])) _
    refine XS.aloadN X2.here hx rfl (hb hby d4_6) rfl rfl ?_
    exact kt)
  obtain ⟨T4, X4, e4, st4⟩ := getF X2 hx hZ hown (host := "") (Or.inl (hw _ (List.mem_of_getElem? (i := 11) rfl))) Via.refl e2 F_nodes (g := (mkF m 7 #[.val (.ref a), .val (.int p1), .val (.int p2)] [(.ref a), (.long ((own_min p1 p2).toInt64))])) rfl rfl (hb hby d4_7)
  have pre4s : ∀ tg, Steps p.tables e below (T4.setTop (mkF m 10 #[.val (.ref a), .val (.int p1), .val (.int p2)] [(.int nn), (.long ((own_min p1 p2).toInt64))])) tg → G tg := fun tg kt => pre3 tg (st4 tg kt)
  have pre5 : ∀ tg, Steps p.tables e below (T4.setTop (mkF m 14 #[.val (.ref a), .val (.int p1), .val (.int p2)] [(.int p2), (.int p1), (.long (((own_min p1 p2).toInt64) * (nn.toInt64)))])) tg → G tg := fun tg kt => pre4s tg (by
    show Steps p.tables e below (T4.setTop (mkF m 10 #[.val (.ref a), .val (.int p1), .val (.int p2)] [(.int nn), (.long ((own_min p1 p2).toInt64))])) _
    refine XS.i2l X4.here hx rfl (hb hby d4_10) rfl ?_
    show Steps p.tables e below (T4.setTop (mkF m 11 #[.val (.ref a), .val (.int p1), .val (.int p2)] [(.long (nn.toInt64)), (.long ((own_min p1 p2).toInt64))])) _
    refine XS.lmul X4.here hx rfl (hb hby d4_11) rfl ?_
    show Steps p.tables e below (T4.setTop (mkF m 12 #[.val (.ref a), .val (.int p1), .val (.int p2)] [(.long (((own_min p1 p2).toInt64) * (nn.toInt64)))])) _
    refine XS.iloadN X4.here hx rfl (hb hby d4_12) rfl ?_
    show Steps p.tables e below (T4.setTop (mkF m 13 #[.val (.ref a), .val (.int p1), .val (.int p2)] [(.int p1), (.long (((own_min p1 p2).toInt64) * (nn.toInt64)))])) _
    refine XS.iloadN X4.here hx rfl (hb hby d4_13) rfl ?_
    exact kt)
  obtain ⟨_, _, ⟨T6, L6, k6, n6⟩, -, X6, ⟨Lc6, hQ6, l6, y6, z6⟩, st6⟩ := Jvm.LawKit.callS X4 hx (y := (⟨"java/lang/Math", "max", "(II)I"⟩ : MethodName)) hown (mvT hZ (hw _ (List.mem_of_getElem? (i := 33) rfl))) (mvT hZ (hw _ (List.mem_of_getElem? (i := 34) rfl))) (mvT hZ (hw _ (List.mem_of_getElem? (i := 31) rfl))) (mvT hZ (hw _ (List.mem_of_getElem? (i := 35) rfl))) (by decide) (backOf (W := 2) (rm6 l Z a0 hw [] p1 p2 h0 n0 Z0 ) hZ (hw _ (List.mem_of_getElem? (i := 35) rfl)) (hw _ (List.mem_of_getElem? (i := 31) rfl)) (by decide) (by decide)) (g := (mkF m 14 #[.val (.ref a), .val (.int p1), .val (.int p2)] [(.int p2), (.int p1), (.long (((own_min p1 p2).toInt64) * (nn.toInt64)))])) rfl (by rw [hml]; rfl) (argsL := [(.int p1), (.int p2)]) (rest := [(.long (((own_min p1 p2).toInt64) * (nn.toInt64)))]) (lenOf pd_0 rfl) rfl (by show 2 * 0 + _ ≤ _; exact Nat.le_of_eq rfl) (hb hby d4_14) (fun _ _ => ⟨rfl, e4, (Nat.le_of_ble_eq_true rfl), (Nat.le_of_ble_eq_true rfl)⟩)
  dsimp only [Pt.U, Pt.locs, Pt.cells, Pt.slots] at X6 l6 y6 z6 st6 hQ6
  subst l6 y6 z6
  obtain ⟨rfl, N6q, e6⟩ := hQ6
  have N6 := Fr.app N2 N6q
  have pre6s : ∀ tg, Steps p.tables e below (T6.setTop (mkF m 17 #[.val (.ref a), .val (.int p1), .val (.int p2)] [(.int (own_max p1 p2)), (.long (((own_min p1 p2).toInt64) * (nn.toInt64)))])) tg → G tg := fun tg kt => pre5 tg (st6 tg kt)
  obtain ⟨fs, hr, hrun, hended, hW, hsame⟩ := X6.leave (v := some (.long ((((own_min p1 p2).toInt64) * (nn.toInt64)) + ((own_max p1 p2).toInt64)))) (fun h => by rw [Bd.returns] at h; cases h)
  subst hG
  refine ⟨_, _, pre6s _ ?_, hrun, hended, _, _, rfl, ?_, ⟨_, rfl⟩, hW, hsame.mono (by decide) (by decide)⟩
  · skip
    show Steps p.tables e below (T6.setTop (mkF m 17 #[.val (.ref a), .val (.int p1), .val (.int p2)] [(.int (own_max p1 p2)), (.long (((own_min p1 p2).toInt64) * (nn.toInt64)))])) _
    refine XS.i2l X6.here hx rfl (hb hby d4_17) rfl ?_
    show Steps p.tables e below (T6.setTop (mkF m 18 #[.val (.ref a), .val (.int p1), .val (.int p2)] [(.long ((own_max p1 p2).toInt64)), (.long (((own_min p1 p2).toInt64) * (nn.toInt64)))])) _
    refine XS.ladd X6.here hx rfl (hb hby d4_18) rfl ?_
    show Steps p.tables e below (T6.setTop (mkF m 19 #[.val (.ref a), .val (.int p1), .val (.int p2)] [(.long ((((own_min p1 p2).toInt64) * (nn.toInt64)) + ((own_max p1 p2).toInt64)))])) _
    exact X6.lreturnOut hx Bd.returns (hb hby d4_19) hr
  · show Q_rm4 Z a p1 p2 nn h0 n0 _ T6.heap _
    rw [e6]
    exact ⟨rfl, N6, rfl⟩
theorem d7_24 : decode prog_23_method_8_code 24 = .ok (.aload_n 0, 1) := by decide +kernel
theorem d7_25 : decode prog_23_method_8_code 25 = .ok (.getfield 16, 3) := by decide +kernel
theorem d7_28 : decode prog_23_method_8_code 28 = .ok (.iload 4, 2) := by decide +kernel
theorem d7_30 : decode prog_23_method_8_code 30 = .ok (.laload, 1) := by decide +kernel
theorem d7_31 : decode prog_23_method_8_code 31 = .ok (.lconst 0, 1) := by decide +kernel
theorem d7_32 : decode prog_23_method_8_code 32 = .ok (.lcmp, 1) := by decide +kernel
theorem d7_33 : decode prog_23_method_8_code 33 = .ok (.ifCond .eq 26, 3) := by decide +kernel
set_option maxRecDepth 65536 in
set_option maxHeartbeats 40000000 in
theorem own_sz {p : Program} {l : Launch} {e : Env} {R : Room} {s : State} {m : MethodId} {args : Array Value} {below : List Frame} {meth : Method} {c : Code} {T0 : State} {locs : List Loc} {cells slots : Nat} {Z : State} {a0 : Array Value} {h0 : Heap} (a kb : Addr) (kA : ClassId) (f : Nat → Int64) (K : Int64) (i : Nat)
    (X0 : Stand p l e R s m args below meth c T0 locs cells slots) (hx : p.tables.exec = Jvm.exec) (hZ : Z.Warmed39 s.vm) (hw : ∀ d ∈ tables_1, d.before a0 Z = true) (hby : c.code = prog_23_method_8_code) (hml : c.maxLocals = 5) (hown : s.vm.findClass "com/example/convene/convene/PairCounts" = some m.cls) (e0 : T0.heap = h0) (F_keys : Fld Z h0 a "com/example/convene/convene/PairCounts" "keys" "[J" (.ref kb)) (A_k : own_A Z h0 kb kA f) (hi : i < 1024) (hz : f i = (0 : Int64)) :
    ∃ (T' : State), Stand p l e R s m args below meth c T' locs cells slots ∧ T'.heap = h0 ∧ ∀ target, Steps p.tables e below (T'.setTop (mkF m 59 #[.val (.ref a), .val (.long K), .second, .val (.int (1023 : Int32)), .val (.int (Int32.ofNat i))] [])) target → Steps p.tables e below (T0.setTop (mkF m 24 #[.val (.ref a), .val (.long K), .second, .val (.int (1023 : Int32)), .val (.int (Int32.ofNat i))] [])) target := by
  obtain ⟨G, hG⟩ : ∃ G : State → Prop, G = fun tg => Steps p.tables e below (T0.setTop (mkF m 24 #[.val (.ref a), .val (.long K), .second, .val (.int (1023 : Int32)), .val (.int (Int32.ofNat i))] [])) tg := ⟨_, rfl⟩
  have pre0 : ∀ tg, Steps p.tables e below (T0.setTop (mkF m 24 #[.val (.ref a), .val (.long K), .second, .val (.int (1023 : Int32)), .val (.int (Int32.ofNat i))] [])) tg → G tg := fun tg kt => by rw [hG]; exact kt
  have pre1 : ∀ tg, Steps p.tables e below (T0.setTop (mkF m 25 #[.val (.ref a), .val (.long K), .second, .val (.int (1023 : Int32)), .val (.int (Int32.ofNat i))] [(.ref a)])) tg → G tg := fun tg kt => pre0 tg (by
    show Steps p.tables e below (T0.setTop (mkF m 24 #[.val (.ref a), .val (.long K), .second, .val (.int (1023 : Int32)), .val (.int (Int32.ofNat i))] [])) _
    refine XS.aloadN X0.here hx rfl (hb hby d7_24) rfl rfl ?_
    exact kt)
  obtain ⟨T2, X2, e2, st2⟩ := getF X0 hx hZ hown (host := "") (Or.inl (hw _ (List.mem_of_getElem? (i := 16) rfl))) Via.refl e0 F_keys (g := (mkF m 25 #[.val (.ref a), .val (.long K), .second, .val (.int (1023 : Int32)), .val (.int (Int32.ofNat i))] [(.ref a)])) rfl rfl (hb hby d7_25)
  have pre2s : ∀ tg, Steps p.tables e below (T2.setTop (mkF m 28 #[.val (.ref a), .val (.long K), .second, .val (.int (1023 : Int32)), .val (.int (Int32.ofNat i))] [(.ref kb)])) tg → G tg := fun tg kt => pre1 tg (st2 tg kt)
  have pre3 : ∀ tg, Steps p.tables e below (T2.setTop (mkF m 30 #[.val (.ref a), .val (.long K), .second, .val (.int (1023 : Int32)), .val (.int (Int32.ofNat i))] [(.int (Int32.ofNat i)), (.ref kb)])) tg → G tg := fun tg kt => pre2s tg (by
    show Steps p.tables e below (T2.setTop (mkF m 28 #[.val (.ref a), .val (.long K), .second, .val (.int (1023 : Int32)), .val (.int (Int32.ofNat i))] [(.ref kb)])) _
    refine XS.iload X2.here hx rfl (hb hby d7_28) rfl ?_
    exact kt)
  have op_4 := A_k
  obtain ⟨cl_4, Ar_4, q_4, S_4, H_4⟩ := op_4
  have hin_4 := own_inb S_4 hi
  have pre5 : ∀ tg, Steps p.tables e below (T2.setTop (mkF m 59 #[.val (.ref a), .val (.long K), .second, .val (.int (1023 : Int32)), .val (.int (Int32.ofNat i))] [])) tg → G tg := fun tg kt => pre3 tg (by
    show Steps p.tables e below (T2.setTop (mkF m 30 #[.val (.ref a), .val (.long K), .second, .val (.int (1023 : Int32)), .val (.int (Int32.ofNat i))] [(.int (Int32.ofNat i)), (.ref kb)])) _
    refine X2.laload hx (j := (Int32.ofNat i)) (v := (.long (f i))) (by rw [e2]; exact Ar_4.1) (State.isArrayOf_alike hZ.alike Ar_4.2.1) Ar_4.2.2 hin_4 (by rw [(own_ix hi).1]; exact H_4 _ hi) (g := (mkF m 30 #[.val (.ref a), .val (.long K), .second, .val (.int (1023 : Int32)), .val (.int (Int32.ofNat i))] [(.int (Int32.ofNat i)), (.ref kb)])) rfl rfl (hb hby d7_30) _ ?_
    show Steps p.tables e below (T2.setTop (mkF m 31 #[.val (.ref a), .val (.long K), .second, .val (.int (1023 : Int32)), .val (.int (Int32.ofNat i))] [(.long (f i))])) _
    refine XS.lconst X2.here hx rfl (hb hby d7_31) ?_
    show Steps p.tables e below (T2.setTop (mkF m 32 #[.val (.ref a), .val (.long K), .second, .val (.int (1023 : Int32)), .val (.int (Int32.ofNat i))] [(.long (0 : Int64)), (.long (f i))])) _
    refine XS.lcmp X2.here hx rfl (hb hby d7_32) rfl ?_
    show Steps p.tables e below (T2.setTop (mkF m 33 #[.val (.ref a), .val (.long K), .second, .val (.int (1023 : Int32)), .val (.int (Int32.ofNat i))] [(.int (lcmpW (f i) (0 : Int64)))])) _
    refine XS.ifYes X2.here hx rfl (pc0 := 33) (pc' := 59) rfl (hb hby d7_33) rfl ((if0 _ _).trans (teq ((lw_eq (f i) (0 : Int64)).mpr hz)).1) (by decide) (by decide) ?_
    exact kt)
  subst hG
  exact ⟨T2, X2, e2, fun tg kt => pre5 tg kt⟩
theorem d7_36 : decode prog_23_method_8_code 36 = .ok (.aload_n 0, 1) := by decide +kernel
theorem d7_37 : decode prog_23_method_8_code 37 = .ok (.getfield 16, 3) := by decide +kernel
theorem d7_40 : decode prog_23_method_8_code 40 = .ok (.iload 4, 2) := by decide +kernel
theorem d7_42 : decode prog_23_method_8_code 42 = .ok (.laload, 1) := by decide +kernel
theorem d7_43 : decode prog_23_method_8_code 43 = .ok (.lload_n 1, 1) := by decide +kernel
theorem d7_44 : decode prog_23_method_8_code 44 = .ok (.lcmp, 1) := by decide +kernel
theorem d7_45 : decode prog_23_method_8_code 45 = .ok (.ifCond .eq 14, 3) := by decide +kernel
set_option maxRecDepth 65536 in
set_option maxHeartbeats 40000000 in
theorem own_sk {p : Program} {l : Launch} {e : Env} {R : Room} {s : State} {m : MethodId} {args : Array Value} {below : List Frame} {meth : Method} {c : Code} {T0 : State} {locs : List Loc} {cells slots : Nat} {Z : State} {a0 : Array Value} {h0 : Heap} (a kb : Addr) (kA : ClassId) (f : Nat → Int64) (K : Int64) (i : Nat)
    (X0 : Stand p l e R s m args below meth c T0 locs cells slots) (hx : p.tables.exec = Jvm.exec) (hZ : Z.Warmed39 s.vm) (hw : ∀ d ∈ tables_1, d.before a0 Z = true) (hby : c.code = prog_23_method_8_code) (hml : c.maxLocals = 5) (hown : s.vm.findClass "com/example/convene/convene/PairCounts" = some m.cls) (e0 : T0.heap = h0) (F_keys : Fld Z h0 a "com/example/convene/convene/PairCounts" "keys" "[J" (.ref kb)) (A_k : own_A Z h0 kb kA f) (hi : i < 1024) (hz : ¬ f i = (0 : Int64)) (hk : f i = K) :
    ∃ (T' : State), Stand p l e R s m args below meth c T' locs cells slots ∧ T'.heap = h0 ∧ ∀ target, Steps p.tables e below (T'.setTop (mkF m 59 #[.val (.ref a), .val (.long K), .second, .val (.int (1023 : Int32)), .val (.int (Int32.ofNat i))] [])) target → Steps p.tables e below (T0.setTop (mkF m 24 #[.val (.ref a), .val (.long K), .second, .val (.int (1023 : Int32)), .val (.int (Int32.ofNat i))] [])) target := by
  obtain ⟨G, hG⟩ : ∃ G : State → Prop, G = fun tg => Steps p.tables e below (T0.setTop (mkF m 24 #[.val (.ref a), .val (.long K), .second, .val (.int (1023 : Int32)), .val (.int (Int32.ofNat i))] [])) tg := ⟨_, rfl⟩
  have pre0 : ∀ tg, Steps p.tables e below (T0.setTop (mkF m 24 #[.val (.ref a), .val (.long K), .second, .val (.int (1023 : Int32)), .val (.int (Int32.ofNat i))] [])) tg → G tg := fun tg kt => by rw [hG]; exact kt
  have pre1 : ∀ tg, Steps p.tables e below (T0.setTop (mkF m 25 #[.val (.ref a), .val (.long K), .second, .val (.int (1023 : Int32)), .val (.int (Int32.ofNat i))] [(.ref a)])) tg → G tg := fun tg kt => pre0 tg (by
    show Steps p.tables e below (T0.setTop (mkF m 24 #[.val (.ref a), .val (.long K), .second, .val (.int (1023 : Int32)), .val (.int (Int32.ofNat i))] [])) _
    refine XS.aloadN X0.here hx rfl (hb hby d7_24) rfl rfl ?_
    exact kt)
  obtain ⟨T2, X2, e2, st2⟩ := getF X0 hx hZ hown (host := "") (Or.inl (hw _ (List.mem_of_getElem? (i := 16) rfl))) Via.refl e0 F_keys (g := (mkF m 25 #[.val (.ref a), .val (.long K), .second, .val (.int (1023 : Int32)), .val (.int (Int32.ofNat i))] [(.ref a)])) rfl rfl (hb hby d7_25)
  have pre2s : ∀ tg, Steps p.tables e below (T2.setTop (mkF m 28 #[.val (.ref a), .val (.long K), .second, .val (.int (1023 : Int32)), .val (.int (Int32.ofNat i))] [(.ref kb)])) tg → G tg := fun tg kt => pre1 tg (st2 tg kt)
  have pre3 : ∀ tg, Steps p.tables e below (T2.setTop (mkF m 30 #[.val (.ref a), .val (.long K), .second, .val (.int (1023 : Int32)), .val (.int (Int32.ofNat i))] [(.int (Int32.ofNat i)), (.ref kb)])) tg → G tg := fun tg kt => pre2s tg (by
    show Steps p.tables e below (T2.setTop (mkF m 28 #[.val (.ref a), .val (.long K), .second, .val (.int (1023 : Int32)), .val (.int (Int32.ofNat i))] [(.ref kb)])) _
    refine XS.iload X2.here hx rfl (hb hby d7_28) rfl ?_
    exact kt)
  have op_4 := A_k
  obtain ⟨cl_4, Ar_4, q_4, S_4, H_4⟩ := op_4
  have hin_4 := own_inb S_4 hi
  have pre5 : ∀ tg, Steps p.tables e below (T2.setTop (mkF m 37 #[.val (.ref a), .val (.long K), .second, .val (.int (1023 : Int32)), .val (.int (Int32.ofNat i))] [(.ref a)])) tg → G tg := fun tg kt => pre3 tg (by
    show Steps p.tables e below (T2.setTop (mkF m 30 #[.val (.ref a), .val (.long K), .second, .val (.int (1023 : Int32)), .val (.int (Int32.ofNat i))] [(.int (Int32.ofNat i)), (.ref kb)])) _
    refine X2.laload hx (j := (Int32.ofNat i)) (v := (.long (f i))) (by rw [e2]; exact Ar_4.1) (State.isArrayOf_alike hZ.alike Ar_4.2.1) Ar_4.2.2 hin_4 (by rw [(own_ix hi).1]; exact H_4 _ hi) (g := (mkF m 30 #[.val (.ref a), .val (.long K), .second, .val (.int (1023 : Int32)), .val (.int (Int32.ofNat i))] [(.int (Int32.ofNat i)), (.ref kb)])) rfl rfl (hb hby d7_30) _ ?_
    show Steps p.tables e below (T2.setTop (mkF m 31 #[.val (.ref a), .val (.long K), .second, .val (.int (1023 : Int32)), .val (.int (Int32.ofNat i))] [(.long (f i))])) _
    refine XS.lconst X2.here hx rfl (hb hby d7_31) ?_
    show Steps p.tables e below (T2.setTop (mkF m 32 #[.val (.ref a), .val (.long K), .second, .val (.int (1023 : Int32)), .val (.int (Int32.ofNat i))] [(.long (0 : Int64)), (.long (f i))])) _
    refine XS.lcmp X2.here hx rfl (hb hby d7_32) rfl ?_
    show Steps p.tables e below (T2.setTop (mkF m 33 #[.val (.ref a), .val (.long K), .second, .val (.int (1023 : Int32)), .val (.int (Int32.ofNat i))] [(.int (lcmpW (f i) (0 : Int64)))])) _
    refine XS.ifNo X2.here hx rfl (hb hby d7_33) rfl ((if0 _ _).trans (feq (mt (lw_eq (f i) (0 : Int64)).mp hz)).1) ?_
    show Steps p.tables e below (T2.setTop (mkF m 36 #[.val (.ref a), .val (.long K), .second, .val (.int (1023 : Int32)), .val (.int (Int32.ofNat i))] [])) _
    refine XS.aloadN X2.here hx rfl (hb hby d7_36) rfl rfl ?_
    exact kt)
  obtain ⟨T6, X6, e6, st6⟩ := getF X2 hx hZ hown (host := "") (Or.inl (hw _ (List.mem_of_getElem? (i := 16) rfl))) Via.refl e2 F_keys (g := (mkF m 37 #[.val (.ref a), .val (.long K), .second, .val (.int (1023 : Int32)), .val (.int (Int32.ofNat i))] [(.ref a)])) rfl rfl (hb hby d7_37)
  have pre6s : ∀ tg, Steps p.tables e below (T6.setTop (mkF m 40 #[.val (.ref a), .val (.long K), .second, .val (.int (1023 : Int32)), .val (.int (Int32.ofNat i))] [(.ref kb)])) tg → G tg := fun tg kt => pre5 tg (st6 tg kt)
  have pre7 : ∀ tg, Steps p.tables e below (T6.setTop (mkF m 42 #[.val (.ref a), .val (.long K), .second, .val (.int (1023 : Int32)), .val (.int (Int32.ofNat i))] [(.int (Int32.ofNat i)), (.ref kb)])) tg → G tg := fun tg kt => pre6s tg (by
    show Steps p.tables e below (T6.setTop (mkF m 40 #[.val (.ref a), .val (.long K), .second, .val (.int (1023 : Int32)), .val (.int (Int32.ofNat i))] [(.ref kb)])) _
    refine XS.iload X6.here hx rfl (hb hby d7_40) rfl ?_
    exact kt)
  have op_8 := A_k
  obtain ⟨cl_8, Ar_8, q_8, S_8, H_8⟩ := op_8
  have hin_8 := own_inb S_8 hi
  have pre9 : ∀ tg, Steps p.tables e below (T6.setTop (mkF m 59 #[.val (.ref a), .val (.long K), .second, .val (.int (1023 : Int32)), .val (.int (Int32.ofNat i))] [])) tg → G tg := fun tg kt => pre7 tg (by
    show Steps p.tables e below (T6.setTop (mkF m 42 #[.val (.ref a), .val (.long K), .second, .val (.int (1023 : Int32)), .val (.int (Int32.ofNat i))] [(.int (Int32.ofNat i)), (.ref kb)])) _
    refine X6.laload hx (j := (Int32.ofNat i)) (v := (.long (f i))) (by rw [e6]; exact Ar_8.1) (State.isArrayOf_alike hZ.alike Ar_8.2.1) Ar_8.2.2 hin_8 (by rw [(own_ix hi).1]; exact H_8 _ hi) (g := (mkF m 42 #[.val (.ref a), .val (.long K), .second, .val (.int (1023 : Int32)), .val (.int (Int32.ofNat i))] [(.int (Int32.ofNat i)), (.ref kb)])) rfl rfl (hb hby d7_42) _ ?_
    show Steps p.tables e below (T6.setTop (mkF m 43 #[.val (.ref a), .val (.long K), .second, .val (.int (1023 : Int32)), .val (.int (Int32.ofNat i))] [(.long (f i))])) _
    refine XS.lloadN X6.here hx rfl (hb hby d7_43) rfl ?_
    show Steps p.tables e below (T6.setTop (mkF m 44 #[.val (.ref a), .val (.long K), .second, .val (.int (1023 : Int32)), .val (.int (Int32.ofNat i))] [(.long K), (.long (f i))])) _
    refine XS.lcmp X6.here hx rfl (hb hby d7_44) rfl ?_
    show Steps p.tables e below (T6.setTop (mkF m 45 #[.val (.ref a), .val (.long K), .second, .val (.int (1023 : Int32)), .val (.int (Int32.ofNat i))] [(.int (lcmpW (f i) K))])) _
    refine XS.ifYes X6.here hx rfl (pc0 := 45) (pc' := 59) rfl (hb hby d7_45) rfl ((if0 _ _).trans (teq ((lw_eq (f i) K).mpr hk)).1) (by decide) (by decide) ?_
    exact kt)
  subst hG
  exact ⟨T6, X6, e6, fun tg kt => pre9 tg kt⟩
theorem d7_48 : decode prog_23_method_8_code 48 = .ok (.iload 4, 2) := by decide +kernel
theorem d7_50 : decode prog_23_method_8_code 50 = .ok (.iconst 1, 1) := by decide +kernel
theorem d7_51 : decode prog_23_method_8_code 51 = .ok (.iadd, 1) := by decide +kernel
theorem d7_52 : decode prog_23_method_8_code 52 = .ok (.iload_n 3, 1) := by decide +kernel
theorem d7_53 : decode prog_23_method_8_code 53 = .ok (.iand, 1) := by decide +kernel
theorem d7_54 : decode prog_23_method_8_code 54 = .ok (.istore 4, 2) := by decide +kernel
theorem d7_56 : decode prog_23_method_8_code 56 = .ok (.goto (-32), 3) := by decide +kernel
set_option maxRecDepth 65536 in
set_option maxHeartbeats 40000000 in
theorem own_sn {p : Program} {l : Launch} {e : Env} {R : Room} {s : State} {m : MethodId} {args : Array Value} {below : List Frame} {meth : Method} {c : Code} {T0 : State} {locs : List Loc} {cells slots : Nat} {Z : State} {a0 : Array Value} {h0 : Heap} (a kb : Addr) (kA : ClassId) (f : Nat → Int64) (K : Int64) (i : Nat)
    (X0 : Stand p l e R s m args below meth c T0 locs cells slots) (hx : p.tables.exec = Jvm.exec) (hZ : Z.Warmed39 s.vm) (hw : ∀ d ∈ tables_1, d.before a0 Z = true) (hby : c.code = prog_23_method_8_code) (hml : c.maxLocals = 5) (hown : s.vm.findClass "com/example/convene/convene/PairCounts" = some m.cls) (e0 : T0.heap = h0) (F_keys : Fld Z h0 a "com/example/convene/convene/PairCounts" "keys" "[J" (.ref kb)) (A_k : own_A Z h0 kb kA f) (hi : i < 1024) (hz : ¬ f i = (0 : Int64)) (hk : ¬ f i = K) :
    ∃ (T' : State), Stand p l e R s m args below meth c T' locs cells slots ∧ T'.heap = h0 ∧ ∀ target, Steps p.tables e below (T'.setTop (mkF m 24 #[.val (.ref a), .val (.long K), .second, .val (.int (1023 : Int32)), .val (.int (Int32.ofNat ((i + 1) % 1024)))] [])) target → Steps p.tables e below (T0.setTop (mkF m 24 #[.val (.ref a), .val (.long K), .second, .val (.int (1023 : Int32)), .val (.int (Int32.ofNat i))] [])) target := by
  obtain ⟨G, hG⟩ : ∃ G : State → Prop, G = fun tg => Steps p.tables e below (T0.setTop (mkF m 24 #[.val (.ref a), .val (.long K), .second, .val (.int (1023 : Int32)), .val (.int (Int32.ofNat i))] [])) tg := ⟨_, rfl⟩
  have pre0 : ∀ tg, Steps p.tables e below (T0.setTop (mkF m 24 #[.val (.ref a), .val (.long K), .second, .val (.int (1023 : Int32)), .val (.int (Int32.ofNat i))] [])) tg → G tg := fun tg kt => by rw [hG]; exact kt
  have pre1 : ∀ tg, Steps p.tables e below (T0.setTop (mkF m 25 #[.val (.ref a), .val (.long K), .second, .val (.int (1023 : Int32)), .val (.int (Int32.ofNat i))] [(.ref a)])) tg → G tg := fun tg kt => pre0 tg (by
    show Steps p.tables e below (T0.setTop (mkF m 24 #[.val (.ref a), .val (.long K), .second, .val (.int (1023 : Int32)), .val (.int (Int32.ofNat i))] [])) _
    refine XS.aloadN X0.here hx rfl (hb hby d7_24) rfl rfl ?_
    exact kt)
  obtain ⟨T2, X2, e2, st2⟩ := getF X0 hx hZ hown (host := "") (Or.inl (hw _ (List.mem_of_getElem? (i := 16) rfl))) Via.refl e0 F_keys (g := (mkF m 25 #[.val (.ref a), .val (.long K), .second, .val (.int (1023 : Int32)), .val (.int (Int32.ofNat i))] [(.ref a)])) rfl rfl (hb hby d7_25)
  have pre2s : ∀ tg, Steps p.tables e below (T2.setTop (mkF m 28 #[.val (.ref a), .val (.long K), .second, .val (.int (1023 : Int32)), .val (.int (Int32.ofNat i))] [(.ref kb)])) tg → G tg := fun tg kt => pre1 tg (st2 tg kt)
  have pre3 : ∀ tg, Steps p.tables e below (T2.setTop (mkF m 30 #[.val (.ref a), .val (.long K), .second, .val (.int (1023 : Int32)), .val (.int (Int32.ofNat i))] [(.int (Int32.ofNat i)), (.ref kb)])) tg → G tg := fun tg kt => pre2s tg (by
    show Steps p.tables e below (T2.setTop (mkF m 28 #[.val (.ref a), .val (.long K), .second, .val (.int (1023 : Int32)), .val (.int (Int32.ofNat i))] [(.ref kb)])) _
    refine XS.iload X2.here hx rfl (hb hby d7_28) rfl ?_
    exact kt)
  have op_4 := A_k
  obtain ⟨cl_4, Ar_4, q_4, S_4, H_4⟩ := op_4
  have hin_4 := own_inb S_4 hi
  have pre5 : ∀ tg, Steps p.tables e below (T2.setTop (mkF m 37 #[.val (.ref a), .val (.long K), .second, .val (.int (1023 : Int32)), .val (.int (Int32.ofNat i))] [(.ref a)])) tg → G tg := fun tg kt => pre3 tg (by
    show Steps p.tables e below (T2.setTop (mkF m 30 #[.val (.ref a), .val (.long K), .second, .val (.int (1023 : Int32)), .val (.int (Int32.ofNat i))] [(.int (Int32.ofNat i)), (.ref kb)])) _
    refine X2.laload hx (j := (Int32.ofNat i)) (v := (.long (f i))) (by rw [e2]; exact Ar_4.1) (State.isArrayOf_alike hZ.alike Ar_4.2.1) Ar_4.2.2 hin_4 (by rw [(own_ix hi).1]; exact H_4 _ hi) (g := (mkF m 30 #[.val (.ref a), .val (.long K), .second, .val (.int (1023 : Int32)), .val (.int (Int32.ofNat i))] [(.int (Int32.ofNat i)), (.ref kb)])) rfl rfl (hb hby d7_30) _ ?_
    show Steps p.tables e below (T2.setTop (mkF m 31 #[.val (.ref a), .val (.long K), .second, .val (.int (1023 : Int32)), .val (.int (Int32.ofNat i))] [(.long (f i))])) _
    refine XS.lconst X2.here hx rfl (hb hby d7_31) ?_
    show Steps p.tables e below (T2.setTop (mkF m 32 #[.val (.ref a), .val (.long K), .second, .val (.int (1023 : Int32)), .val (.int (Int32.ofNat i))] [(.long (0 : Int64)), (.long (f i))])) _
    refine XS.lcmp X2.here hx rfl (hb hby d7_32) rfl ?_
    show Steps p.tables e below (T2.setTop (mkF m 33 #[.val (.ref a), .val (.long K), .second, .val (.int (1023 : Int32)), .val (.int (Int32.ofNat i))] [(.int (lcmpW (f i) (0 : Int64)))])) _
    refine XS.ifNo X2.here hx rfl (hb hby d7_33) rfl ((if0 _ _).trans (feq (mt (lw_eq (f i) (0 : Int64)).mp hz)).1) ?_
    show Steps p.tables e below (T2.setTop (mkF m 36 #[.val (.ref a), .val (.long K), .second, .val (.int (1023 : Int32)), .val (.int (Int32.ofNat i))] [])) _
    refine XS.aloadN X2.here hx rfl (hb hby d7_36) rfl rfl ?_
    exact kt)
  obtain ⟨T6, X6, e6, st6⟩ := getF X2 hx hZ hown (host := "") (Or.inl (hw _ (List.mem_of_getElem? (i := 16) rfl))) Via.refl e2 F_keys (g := (mkF m 37 #[.val (.ref a), .val (.long K), .second, .val (.int (1023 : Int32)), .val (.int (Int32.ofNat i))] [(.ref a)])) rfl rfl (hb hby d7_37)
  have pre6s : ∀ tg, Steps p.tables e below (T6.setTop (mkF m 40 #[.val (.ref a), .val (.long K), .second, .val (.int (1023 : Int32)), .val (.int (Int32.ofNat i))] [(.ref kb)])) tg → G tg := fun tg kt => pre5 tg (st6 tg kt)
  have pre7 : ∀ tg, Steps p.tables e below (T6.setTop (mkF m 42 #[.val (.ref a), .val (.long K), .second, .val (.int (1023 : Int32)), .val (.int (Int32.ofNat i))] [(.int (Int32.ofNat i)), (.ref kb)])) tg → G tg := fun tg kt => pre6s tg (by
    show Steps p.tables e below (T6.setTop (mkF m 40 #[.val (.ref a), .val (.long K), .second, .val (.int (1023 : Int32)), .val (.int (Int32.ofNat i))] [(.ref kb)])) _
    refine XS.iload X6.here hx rfl (hb hby d7_40) rfl ?_
    exact kt)
  have op_8 := A_k
  obtain ⟨cl_8, Ar_8, q_8, S_8, H_8⟩ := op_8
  have hin_8 := own_inb S_8 hi
  have pre9 : ∀ tg, Steps p.tables e below (T6.setTop (mkF m 24 #[.val (.ref a), .val (.long K), .second, .val (.int (1023 : Int32)), .val (.int (((Int32.ofNat i) + (1 : Int32)) &&& (1023 : Int32)))] [])) tg → G tg := fun tg kt => pre7 tg (by
    show Steps p.tables e below (T6.setTop (mkF m 42 #[.val (.ref a), .val (.long K), .second, .val (.int (1023 : Int32)), .val (.int (Int32.ofNat i))] [(.int (Int32.ofNat i)), (.ref kb)])) _
    refine X6.laload hx (j := (Int32.ofNat i)) (v := (.long (f i))) (by rw [e6]; exact Ar_8.1) (State.isArrayOf_alike hZ.alike Ar_8.2.1) Ar_8.2.2 hin_8 (by rw [(own_ix hi).1]; exact H_8 _ hi) (g := (mkF m 42 #[.val (.ref a), .val (.long K), .second, .val (.int (1023 : Int32)), .val (.int (Int32.ofNat i))] [(.int (Int32.ofNat i)), (.ref kb)])) rfl rfl (hb hby d7_42) _ ?_
    show Steps p.tables e below (T6.setTop (mkF m 43 #[.val (.ref a), .val (.long K), .second, .val (.int (1023 : Int32)), .val (.int (Int32.ofNat i))] [(.long (f i))])) _
    refine XS.lloadN X6.here hx rfl (hb hby d7_43) rfl ?_
    show Steps p.tables e below (T6.setTop (mkF m 44 #[.val (.ref a), .val (.long K), .second, .val (.int (1023 : Int32)), .val (.int (Int32.ofNat i))] [(.long K), (.long (f i))])) _
    refine XS.lcmp X6.here hx rfl (hb hby d7_44) rfl ?_
    show Steps p.tables e below (T6.setTop (mkF m 45 #[.val (.ref a), .val (.long K), .second, .val (.int (1023 : Int32)), .val (.int (Int32.ofNat i))] [(.int (lcmpW (f i) K))])) _
    refine XS.ifNo X6.here hx rfl (hb hby d7_45) rfl ((if0 _ _).trans (feq (mt (lw_eq (f i) K).mp hk)).1) ?_
    show Steps p.tables e below (T6.setTop (mkF m 48 #[.val (.ref a), .val (.long K), .second, .val (.int (1023 : Int32)), .val (.int (Int32.ofNat i))] [])) _
    refine XS.iload X6.here hx rfl (hb hby d7_48) rfl ?_
    show Steps p.tables e below (T6.setTop (mkF m 50 #[.val (.ref a), .val (.long K), .second, .val (.int (1023 : Int32)), .val (.int (Int32.ofNat i))] [(.int (Int32.ofNat i))])) _
    refine XS.iconst X6.here hx rfl (hb hby d7_50) ?_
    show Steps p.tables e below (T6.setTop (mkF m 51 #[.val (.ref a), .val (.long K), .second, .val (.int (1023 : Int32)), .val (.int (Int32.ofNat i))] [(.int (1 : Int32)), (.int (Int32.ofNat i))])) _
    refine XS.iadd X6.here hx rfl (hb hby d7_51) rfl ?_
    show Steps p.tables e below (T6.setTop (mkF m 52 #[.val (.ref a), .val (.long K), .second, .val (.int (1023 : Int32)), .val (.int (Int32.ofNat i))] [(.int ((Int32.ofNat i) + (1 : Int32)))])) _
    refine XS.iloadN X6.here hx rfl (hb hby d7_52) rfl ?_
    show Steps p.tables e below (T6.setTop (mkF m 53 #[.val (.ref a), .val (.long K), .second, .val (.int (1023 : Int32)), .val (.int (Int32.ofNat i))] [(.int (1023 : Int32)), (.int ((Int32.ofNat i) + (1 : Int32)))])) _
    refine XS.iand X6.here hx rfl (hb hby d7_53) rfl ?_
    show Steps p.tables e below (T6.setTop (mkF m 54 #[.val (.ref a), .val (.long K), .second, .val (.int (1023 : Int32)), .val (.int (Int32.ofNat i))] [(.int (((Int32.ofNat i) + (1 : Int32)) &&& (1023 : Int32)))])) _
    refine XS.istore X6.here hx rfl (hb hby d7_54) rfl (l' := #[.val (.ref a), .val (.long K), .second, .val (.int (1023 : Int32)), .val (.int (((Int32.ofNat i) + (1 : Int32)) &&& (1023 : Int32)))]) rfl ?_
    show Steps p.tables e below (T6.setTop (mkF m 56 #[.val (.ref a), .val (.long K), .second, .val (.int (1023 : Int32)), .val (.int (((Int32.ofNat i) + (1 : Int32)) &&& (1023 : Int32)))] [])) _
    refine XS.goto X6.here hx rfl (pc0 := 56) (pc' := 24) rfl (hb hby d7_56) (by decide) (by decide) ?_
    exact kt)
  have pre10 : ∀ tg, Steps p.tables e below (T6.setTop (mkF m 24 #[.val (.ref a), .val (.long K), .second, .val (.int (1023 : Int32)), .val (.int (Int32.ofNat ((i + 1) % 1024)))] [])) tg → G tg := fun tg kt => pre9 tg (by rw [own_next hi]; exact kt)
  subst hG
  exact ⟨T6, X6, e6, fun tg kt => pre10 tg kt⟩
theorem own_loop {p : Program} {l : Launch} {e : Env} {R : Room} {s : State} {m : MethodId} {args : Array Value} {below : List Frame} {meth : Method} {c : Code} {locs : List Loc} {cells slots : Nat} {Z : State} {a0 : Array Value} {h0 : Heap} (a kb : Addr) (kA : ClassId) (f : Nat → Int64) (K : Int64) (t : Nat)
    (hx : p.tables.exec = Jvm.exec) (hZ : Z.Warmed39 s.vm) (hw : ∀ d ∈ tables_1, d.before a0 Z = true) (hby : c.code = prog_23_method_8_code) (hml : c.maxLocals = 5) (hown : s.vm.findClass "com/example/convene/convene/PairCounts" = some m.cls) (F_keys : Fld Z h0 a "com/example/convene/convene/PairCounts" "keys" "[J" (.ref kb)) (A_k : own_A Z h0 kb kA f) :
    ∀ (n i : Nat) (T0 : State), own_probe f K n i = some t → i < 1024 → Stand p l e R s m args below meth c T0 locs cells slots → T0.heap = h0 →
    ∃ (T' : State), Stand p l e R s m args below meth c T' locs cells slots ∧ T'.heap = h0 ∧ ∀ target, Steps p.tables e below (T'.setTop (mkF m 59 #[.val (.ref a), .val (.long K), .second, .val (.int (1023 : Int32)), .val (.int (Int32.ofNat t))] [])) target → Steps p.tables e below (T0.setTop (mkF m 24 #[.val (.ref a), .val (.long K), .second, .val (.int (1023 : Int32)), .val (.int (Int32.ofNat i))] [])) target := by
  intro n
  induction n with
  | zero => intro i T0 h; cases h
  | succ n ih =>
    intro i T0 hp hi X0 e0
    by_cases hz : f i = (0 : Int64)
    · rw [own_pz hz] at hp
      cases hp
      exact own_sz a kb kA f K t X0 hx hZ hw hby hml hown e0 F_keys A_k hi hz
    · by_cases hk : f i = K
      · rw [own_pk hk] at hp
        cases hp
        exact own_sk a kb kA f K t X0 hx hZ hw hby hml hown e0 F_keys A_k hi hz hk
      · rw [own_pn hz hk] at hp
        obtain ⟨T1, X1, e1, st1⟩ := own_sn a kb kA f K i X0 hx hZ hw hby hml hown e0 F_keys A_k hi hz hk
        obtain ⟨T2, X2, e2, st2⟩ := ih _ T1 hp (by omega) X1 e1
        exact ⟨T2, X2, e2, fun t k => st1 t (st2 t k)⟩
theorem pn_7 : plainName "com/example/convene/convene/PairCounts" = true := by first | (simp [plainName, overriddenIn]; done) | decide +kernel
theorem ef_7_R_J (m : MethodId) (x0 : Addr) (x1 : Int64) : entryFrame m #[(.ref x0), (.long x1)] 5 = mkF m 0 #[.val (.ref x0), .val (.long x1), .second, .unset, .unset] [] := by first | (simp [entryFrame, mkF, argsToLocals, Value.category]; done) | rfl
theorem d7_0 : decode prog_23_method_8_code 0 = .ok (.aload_n 0, 1) := by decide +kernel
theorem d7_1 : decode prog_23_method_8_code 1 = .ok (.getfield 16, 3) := by decide +kernel
theorem d7_4 : decode prog_23_method_8_code 4 = .ok (.arraylength, 1) := by decide +kernel
theorem d7_5 : decode prog_23_method_8_code 5 = .ok (.iconst 1, 1) := by decide +kernel
theorem d7_6 : decode prog_23_method_8_code 6 = .ok (.isub, 1) := by decide +kernel
theorem d7_7 : decode prog_23_method_8_code 7 = .ok (.istore_n 3, 1) := by decide +kernel
theorem d7_8 : decode prog_23_method_8_code 8 = .ok (.lload_n 1, 1) := by decide +kernel
theorem d7_9 : decode prog_23_method_8_code 9 = .ok (.ldc2_w 72, 3) := by decide +kernel
theorem d7_12 : decode prog_23_method_8_code 12 = .ok (.lmul, 1) := by decide +kernel
theorem d7_13 : decode prog_23_method_8_code 13 = .ok (.bipush 64, 2) := by decide +kernel
theorem d7_15 : decode prog_23_method_8_code 15 = .ok (.aload_n 0, 1) := by decide +kernel
theorem d7_16 : decode prog_23_method_8_code 16 = .ok (.getfield 13, 3) := by decide +kernel
theorem d7_19 : decode prog_23_method_8_code 19 = .ok (.isub, 1) := by decide +kernel
theorem d7_20 : decode prog_23_method_8_code 20 = .ok (.lushr, 1) := by decide +kernel
theorem d7_21 : decode prog_23_method_8_code 21 = .ok (.l2i, 1) := by decide +kernel
theorem d7_22 : decode prog_23_method_8_code 22 = .ok (.istore 4, 2) := by decide +kernel
theorem d7_59 : decode prog_23_method_8_code 59 = .ok (.iload 4, 2) := by decide +kernel
theorem d7_61 : decode prog_23_method_8_code 61 = .ok (.ireturn, 1) := by decide +kernel
def Q_rm7 (Z : State) (a : Addr) (K : Int64) (kb : Addr) (kA : ClassId) (f : Nat → Int64) (t : Nat) (h0 : Heap) (n0 : Nat) (v : Option Value) (h : Heap) (L : List Loc) : Prop := v = some (.int (Int32.ofNat t)) ∧ Fr n0 L ∧ h = h0
set_option maxRecDepth 65536 in
set_option maxHeartbeats 40000000 in
theorem rm7 (l : Launch) (Z : State) (a0 : Array Value) (hw : ∀ d ∈ tables_1, d.before a0 Z = true) (ws : List Jvm.Cond) (a : Addr) (K : Int64) (kb : Addr) (kA : ClassId) (f : Nat → Int64) (t : Nat) (h0 : Heap) (n0 : Nat) (Z0 : n0 ≤ h0.size) (F_bits : Fld Z h0 a "com/example/convene/convene/PairCounts" "bits" "I" (.int (10 : Int32))) (F_keys : Fld Z h0 a "com/example/convene/convene/PairCounts" "keys" "[J" (.ref kb)) (A_k : own_A Z h0 kb kA f) (ht : own_probe f K 3 (own_hn K) = some t) :
    MetFree l (⟨"com/example/convene/convene/PairCounts", "slot", "(J)I"⟩ : MethodName) (head1 (Jvm.Cond.code (⟨"com/example/convene/convene/PairCounts", "slot", "(J)I"⟩ : MethodName) prog_23_method_8_code 5 (some .int) :: ws) ({ frames := 0, cells := 0, slots := 0, locals := 0 } : Room)) (fun argv U => argv = #[(.ref a), (.long K)] ∧ Z.Warmed39 U.vm ∧ U.heap = h0) (fun _ _ _ _ _ => True) (fun _ U o U' => ∃ v L, o = .returned v ∧ Q_rm7 Z a K kb kA f t h0 n0 v U'.heap L ∧ FrameEnd U o U' L ({ frames := 0, cells := 0, slots := 0, locals := 0 } : Room).cells ({ frames := 0, cells := 0, slots := 0, locals := 0 } : Room).slots) := by
  refine MetFree.of_bodySF (plainFor_of_name pn_7) hisR ?_
  intro p e s m args below meth c s₁ Bd hml0 hP hK
  obtain ⟨rfl, hZ, hh⟩ := hP
  have hx := Bd.exec
  have hby := Bd.bytes
  have hml : c.maxLocals = 5 := hml0
  have hown : s.vm.findClass "com/example/convene/convene/PairCounts" = some m.cls := findClass_of_methodNamed Bd.named
  have hnm := (name_of_methodNamed Bd.named Bd.method).1
  have X0 : Stand p l e ({ frames := 0, cells := 0, slots := 0, locals := 0 } : Room) s m #[(.ref a), (.long K)] below meth c s₁ [] 0 0 := Stand.of_body Bd
  have e0 : s₁.heap = h0 := by rw [← hh, Bd.state]; rfl
  have N0 := Fr.nil n0
  obtain ⟨G, hG⟩ : ∃ G : State → Prop, G = fun tg => Steps p.tables e below (s₁.setTop (entryFrame m #[(.ref a), (.long K)] 5)) tg := ⟨_, rfl⟩
  have pre0 : ∀ tg, Steps p.tables e below (s₁.setTop (mkF m 0 #[.val (.ref a), .val (.long K), .second, .unset, .unset] [])) tg → G tg := fun tg kt => by rw [hG]; exact castTop (ef_7_R_J m a K) kt
  have pre1 : ∀ tg, Steps p.tables e below (s₁.setTop (mkF m 1 #[.val (.ref a), .val (.long K), .second, .unset, .unset] [(.ref a)])) tg → G tg := fun tg kt => pre0 tg (by
    show Steps p.tables e below (s₁.setTop (mkF m 0 #[.val (.ref a), .val (.long K), .second, .unset, .unset] [])) _
    refine XS.aloadN X0.here hx rfl (hb hby d7_0) rfl rfl ?_
    exact kt)
  obtain ⟨T2, X2, e2, st2⟩ := getF X0 hx hZ hown (host := "") (Or.inl (hw _ (List.mem_of_getElem? (i := 16) rfl))) Via.refl e0 F_keys (g := (mkF m 1 #[.val (.ref a), .val (.long K), .second, .unset, .unset] [(.ref a)])) rfl rfl (hb hby d7_1)
  have pre2s : ∀ tg, Steps p.tables e below (T2.setTop (mkF m 4 #[.val (.ref a), .val (.long K), .second, .unset, .unset] [(.ref kb)])) tg → G tg := fun tg kt => pre1 tg (st2 tg kt)
  have op_3 := A_k
  obtain ⟨cl_3, Ar_3, q_3, S_3, H_3⟩ := op_3
  have pre4 : ∀ tg, Steps p.tables e below (T2.setTop (mkF m 16 #[.val (.ref a), .val (.long K), .second, .val (.int (1023 : Int32)), .unset] [(.ref a), (.int (64 : Int32)), (.long (K * (-7046029254386353131 : Int64)))])) tg → G tg := fun tg kt => pre2s tg (by
    show Steps p.tables e below (T2.setTop (mkF m 4 #[.val (.ref a), .val (.long K), .second, .unset, .unset] [(.ref kb)])) _
    refine X2.arraylength hx (by rw [e2]; exact Ar_3.1) (State.isArrayOf_alike hZ.alike Ar_3.2.1) (g := (mkF m 4 #[.val (.ref a), .val (.long K), .second, .unset, .unset] [(.ref kb)])) rfl rfl (hb hby d7_4) _ ?_
    rw [S_3, show (1024 : Nat).toInt32 = (1024 : Int32) from by decide]
    show Steps p.tables e below (T2.setTop (mkF m 5 #[.val (.ref a), .val (.long K), .second, .unset, .unset] [(.int (1024 : Int32))])) _
    refine XS.iconst X2.here hx rfl (hb hby d7_5) ?_
    show Steps p.tables e below (T2.setTop (mkF m 6 #[.val (.ref a), .val (.long K), .second, .unset, .unset] [(.int (1 : Int32)), (.int (1024 : Int32))])) _
    refine XS.isub X2.here hx rfl (hb hby d7_6) rfl ?_
    show Steps p.tables e below (T2.setTop (mkF m 7 #[.val (.ref a), .val (.long K), .second, .unset, .unset] [(.int (1023 : Int32))])) _
    refine XS.istoreN X2.here hx rfl (hb hby d7_7) rfl (l' := #[.val (.ref a), .val (.long K), .second, .val (.int (1023 : Int32)), .unset]) rfl ?_
    show Steps p.tables e below (T2.setTop (mkF m 8 #[.val (.ref a), .val (.long K), .second, .val (.int (1023 : Int32)), .unset] [])) _
    refine XS.lloadN X2.here hx rfl (hb hby d7_8) rfl ?_
    show Steps p.tables e below (T2.setTop (mkF m 9 #[.val (.ref a), .val (.long K), .second, .val (.int (1023 : Int32)), .unset] [(.long K)])) _
    refine X2.ldc2Long hx hown (mvT hZ (hw _ (List.mem_of_getElem? (i := 40) rfl))) (g := (mkF m 9 #[.val (.ref a), .val (.long K), .second, .val (.int (1023 : Int32)), .unset] [(.long K)])) rfl (hb hby d7_9) _ ?_
    show Steps p.tables e below (T2.setTop (mkF m 12 #[.val (.ref a), .val (.long K), .second, .val (.int (1023 : Int32)), .unset] [(.long (-7046029254386353131 : Int64)), (.long K)])) _
    refine XS.lmul X2.here hx rfl (hb hby d7_12) rfl ?_
    show Steps p.tables e below (T2.setTop (mkF m 13 #[.val (.ref a), .val (.long K), .second, .val (.int (1023 : Int32)), .unset] [(.long (K * (-7046029254386353131 : Int64)))])) _
    refine XS.bipush X2.here hx rfl (hb hby d7_13) ?_
    show Steps p.tables e below (T2.setTop (mkF m 15 #[.val (.ref a), .val (.long K), .second, .val (.int (1023 : Int32)), .unset] [(.int (64 : Int32)), (.long (K * (-7046029254386353131 : Int64)))])) _
    refine XS.aloadN X2.here hx rfl (hb hby d7_15) rfl rfl ?_
    exact kt)
  obtain ⟨T5, X5, e5, st5⟩ := getF X2 hx hZ hown (host := "") (Or.inl (hw _ (List.mem_of_getElem? (i := 13) rfl))) Via.refl e2 F_bits (g := (mkF m 16 #[.val (.ref a), .val (.long K), .second, .val (.int (1023 : Int32)), .unset] [(.ref a), (.int (64 : Int32)), (.long (K * (-7046029254386353131 : Int64)))])) rfl rfl (hb hby d7_16)
  have pre5s : ∀ tg, Steps p.tables e below (T5.setTop (mkF m 19 #[.val (.ref a), .val (.long K), .second, .val (.int (1023 : Int32)), .unset] [(.int (10 : Int32)), (.int (64 : Int32)), (.long (K * (-7046029254386353131 : Int64)))])) tg → G tg := fun tg kt => pre4 tg (st5 tg kt)
  have pre6 : ∀ tg, Steps p.tables e below (T5.setTop (mkF m 24 #[.val (.ref a), .val (.long K), .second, .val (.int (1023 : Int32)), .val (.int ((((K * (-7046029254386353131 : Int64)).toUInt64 >>> ((54 : Int32) &&& 0x3f).toInt64.toUInt64).toInt64).toInt32))] [])) tg → G tg := fun tg kt => pre5s tg (by
    show Steps p.tables e below (T5.setTop (mkF m 19 #[.val (.ref a), .val (.long K), .second, .val (.int (1023 : Int32)), .unset] [(.int (10 : Int32)), (.int (64 : Int32)), (.long (K * (-7046029254386353131 : Int64)))])) _
    refine XS.isub X5.here hx rfl (hb hby d7_19) rfl ?_
    show Steps p.tables e below (T5.setTop (mkF m 20 #[.val (.ref a), .val (.long K), .second, .val (.int (1023 : Int32)), .unset] [(.int (54 : Int32)), (.long (K * (-7046029254386353131 : Int64)))])) _
    refine XS.lushr X5.here hx rfl (hb hby d7_20) rfl ?_
    show Steps p.tables e below (T5.setTop (mkF m 21 #[.val (.ref a), .val (.long K), .second, .val (.int (1023 : Int32)), .unset] [(.long (((K * (-7046029254386353131 : Int64)).toUInt64 >>> ((54 : Int32) &&& 0x3f).toInt64.toUInt64).toInt64))])) _
    refine XS.l2i X5.here hx rfl (hb hby d7_21) rfl ?_
    show Steps p.tables e below (T5.setTop (mkF m 22 #[.val (.ref a), .val (.long K), .second, .val (.int (1023 : Int32)), .unset] [(.int ((((K * (-7046029254386353131 : Int64)).toUInt64 >>> ((54 : Int32) &&& 0x3f).toInt64.toUInt64).toInt64).toInt32))])) _
    refine XS.istore X5.here hx rfl (hb hby d7_22) rfl (l' := #[.val (.ref a), .val (.long K), .second, .val (.int (1023 : Int32)), .val (.int ((((K * (-7046029254386353131 : Int64)).toUInt64 >>> ((54 : Int32) &&& 0x3f).toInt64.toUInt64).toInt64).toInt32))]) rfl ?_
    exact kt)
  have pre7 : ∀ tg, Steps p.tables e below (T5.setTop (mkF m 24 #[.val (.ref a), .val (.long K), .second, .val (.int (1023 : Int32)), .val (.int (Int32.ofNat (own_hn K)))] [])) tg → G tg := fun tg kt => pre6 tg (by rw [← own_home_eq] at kt; exact kt)
  obtain ⟨T8, X8, e8, st8⟩ := own_loop a kb kA f K t hx hZ hw hby hml hown F_keys A_k 3 _ T5 ht (own_hlt K) X5 e5
  have pre8s : ∀ tg, Steps p.tables e below (T8.setTop (mkF m 59 #[.val (.ref a), .val (.long K), .second, .val (.int (1023 : Int32)), .val (.int (Int32.ofNat t))] [])) tg → G tg := fun tg kt => pre7 tg (st8 tg kt)
  obtain ⟨fs, hr, hrun, hended, hW, hsame⟩ := X8.leave (v := some (.int (Int32.ofNat t))) (fun h => by rw [Bd.returns] at h; cases h)
  subst hG
  refine ⟨_, _, pre8s _ ?_, hrun, hended, _, _, rfl, ?_, ⟨_, rfl⟩, hW, hsame.mono (by decide) (by decide)⟩
  · skip
    show Steps p.tables e below (T8.setTop (mkF m 59 #[.val (.ref a), .val (.long K), .second, .val (.int (1023 : Int32)), .val (.int (Int32.ofNat t))] [])) _
    refine XS.iload X8.here hx rfl (hb hby d7_59) rfl ?_
    show Steps p.tables e below (T8.setTop (mkF m 61 #[.val (.ref a), .val (.long K), .second, .val (.int (1023 : Int32)), .val (.int (Int32.ofNat t))] [(.int (Int32.ofNat t))])) _
    exact retI X8 hx Bd.returns (hb hby d7_61) hr
  · show Q_rm7 Z a K kb kA f t h0 n0 _ T8.heap _
    rw [e8]
    exact ⟨rfl, N0, rfl⟩
theorem pn_3 : plainName "com/example/convene/convene/PairCounts" = true := by first | (simp [plainName, overriddenIn]; done) | decide +kernel
theorem ef_3_R_I_I (m : MethodId) (x0 : Addr) (x1 : Int32) (x2 : Int32) : entryFrame m #[(.ref x0), (.int x1), (.int x2)] 6 = mkF m 0 #[.val (.ref x0), .val (.int x1), .val (.int x2), .unset, .unset, .unset] [] := by first | (simp [entryFrame, mkF, argsToLocals, Value.category]; done) | rfl
theorem pd_1 : parseMethodDescriptor "(II)J" = some ⟨[.int, .int], some .long⟩ := by decide +kernel
theorem pd_2 : parseMethodDescriptor "(J)I" = some ⟨[.long], some .int⟩ := by decide +kernel
theorem d3_0 : decode prog_23_method_4_code 0 = .ok (.iload_n 1, 1) := by decide +kernel
theorem d3_1 : decode prog_23_method_4_code 1 = .ok (.iload_n 2, 1) := by decide +kernel
theorem d3_2 : decode prog_23_method_4_code 2 = .ok (.if_icmp .ne 17, 3) := by decide +kernel
theorem d3_19 : decode prog_23_method_4_code 19 = .ok (.aload_n 0, 1) := by decide +kernel
theorem d3_20 : decode prog_23_method_4_code 20 = .ok (.iload_n 1, 1) := by decide +kernel
theorem d3_21 : decode prog_23_method_4_code 21 = .ok (.iload_n 2, 1) := by decide +kernel
theorem d3_22 : decode prog_23_method_4_code 22 = .ok (.invokevirtual 35, 3) := by decide +kernel
theorem d3_25 : decode prog_23_method_4_code 25 = .ok (.lstore_n 3, 1) := by decide +kernel
theorem d3_26 : decode prog_23_method_4_code 26 = .ok (.aload_n 0, 1) := by decide +kernel
theorem d3_27 : decode prog_23_method_4_code 27 = .ok (.lload_n 3, 1) := by decide +kernel
theorem d3_28 : decode prog_23_method_4_code 28 = .ok (.invokevirtual 39, 3) := by decide +kernel
theorem d3_31 : decode prog_23_method_4_code 31 = .ok (.istore 5, 2) := by decide +kernel
theorem d3_33 : decode prog_23_method_4_code 33 = .ok (.aload_n 0, 1) := by decide +kernel
theorem d3_34 : decode prog_23_method_4_code 34 = .ok (.getfield 16, 3) := by decide +kernel
theorem d3_37 : decode prog_23_method_4_code 37 = .ok (.iload 5, 2) := by decide +kernel
theorem d3_39 : decode prog_23_method_4_code 39 = .ok (.laload, 1) := by decide +kernel
theorem d3_40 : decode prog_23_method_4_code 40 = .ok (.lconst 0, 1) := by decide +kernel
theorem d3_41 : decode prog_23_method_4_code 41 = .ok (.lcmp, 1) := by decide +kernel
theorem d3_42 : decode prog_23_method_4_code 42 = .ok (.ifCond .ne 51, 3) := by decide +kernel
theorem d3_45 : decode prog_23_method_4_code 45 = .ok (.aload_n 0, 1) := by decide +kernel
theorem d3_46 : decode prog_23_method_4_code 46 = .ok (.getfield 16, 3) := by decide +kernel
theorem d3_49 : decode prog_23_method_4_code 49 = .ok (.iload 5, 2) := by decide +kernel
theorem d3_51 : decode prog_23_method_4_code 51 = .ok (.lload_n 3, 1) := by decide +kernel
theorem d3_52 : decode prog_23_method_4_code 52 = .ok (.lastore, 1) := by decide +kernel
theorem d3_53 : decode prog_23_method_4_code 53 = .ok (.aload_n 0, 1) := by decide +kernel
theorem d3_54 : decode prog_23_method_4_code 54 = .ok (.dup, 1) := by decide +kernel
theorem d3_55 : decode prog_23_method_4_code 55 = .ok (.getfield 23, 3) := by decide +kernel
theorem d3_58 : decode prog_23_method_4_code 58 = .ok (.iconst 1, 1) := by decide +kernel
theorem d3_59 : decode prog_23_method_4_code 59 = .ok (.iadd, 1) := by decide +kernel
theorem d3_60 : decode prog_23_method_4_code 60 = .ok (.putfield 23, 3) := by decide +kernel
theorem d3_63 : decode prog_23_method_4_code 63 = .ok (.ldc2_w 43, 3) := by decide +kernel
theorem d3_66 : decode prog_23_method_4_code 66 = .ok (.aload_n 0, 1) := by decide +kernel
theorem d3_67 : decode prog_23_method_4_code 67 = .ok (.getfield 23, 3) := by decide +kernel
theorem d3_70 : decode prog_23_method_4_code 70 = .ok (.i2l, 1) := by decide +kernel
theorem d3_71 : decode prog_23_method_4_code 71 = .ok (.lmul, 1) := by decide +kernel
theorem d3_72 : decode prog_23_method_4_code 72 = .ok (.aload_n 0, 1) := by decide +kernel
theorem d3_73 : decode prog_23_method_4_code 73 = .ok (.getfield 16, 3) := by decide +kernel
theorem d3_76 : decode prog_23_method_4_code 76 = .ok (.arraylength, 1) := by decide +kernel
theorem d3_77 : decode prog_23_method_4_code 77 = .ok (.i2l, 1) := by decide +kernel
theorem d3_78 : decode prog_23_method_4_code 78 = .ok (.lcmp, 1) := by decide +kernel
theorem d3_79 : decode prog_23_method_4_code 79 = .ok (.ifCond .le 14, 3) := by decide +kernel
theorem d3_93 : decode prog_23_method_4_code 93 = .ok (.aload_n 0, 1) := by decide +kernel
theorem d3_94 : decode prog_23_method_4_code 94 = .ok (.getfield 20, 3) := by decide +kernel
theorem d3_97 : decode prog_23_method_4_code 97 = .ok (.iload 5, 2) := by decide +kernel
theorem d3_99 : decode prog_23_method_4_code 99 = .ok (.dup2, 1) := by decide +kernel
theorem d3_100 : decode prog_23_method_4_code 100 = .ok (.laload, 1) := by decide +kernel
theorem d3_101 : decode prog_23_method_4_code 101 = .ok (.lconst 1, 1) := by decide +kernel
theorem d3_102 : decode prog_23_method_4_code 102 = .ok (.ladd, 1) := by decide +kernel
theorem d3_103 : decode prog_23_method_4_code 103 = .ok (.lastore, 1) := by decide +kernel
theorem d3_104 : decode prog_23_method_4_code 104 = .ok (.return_, 1) := by decide +kernel
def Q_rm3n (Z : State) (a : Addr) (p1 p2 nn : Int32) (kb cb : Addr) (kA kC : ClassId) (f g : Nat → Int64) (pr : Int32) (K : Int64) (t : Nat) (h0 : Heap) (n0 : Nat) (v : Option Value) (h : Heap) (L : List Loc) : Prop := v = none ∧ Fr n0 L ∧ Keep h0 h [a, kb, cb] ∧ Fld Z h a "com/example/convene/convene/PairCounts" "nodes" "I" (.int nn) ∧ Fld Z h a "com/example/convene/convene/PairCounts" "bits" "I" (.int (10 : Int32)) ∧ Fld Z h a "com/example/convene/convene/PairCounts" "keys" "[J" (.ref kb) ∧ Fld Z h a "com/example/convene/convene/PairCounts" "counts" "[J" (.ref cb) ∧ Fld Z h a "com/example/convene/convene/PairCounts" "pairs" "I" (.int (pr + (1 : Int32))) ∧ own_A Z h kb kA (own_upd f t K) ∧ own_A Z h cb kC (own_upd g t ((g t) + (1 : Int64)))
set_option maxRecDepth 65536 in
set_option maxHeartbeats 40000000 in
theorem rm3n (l : Launch) (Z : State) (a0 : Array Value) (hw : ∀ d ∈ tables_1, d.before a0 Z = true) (ws : List Jvm.Cond) (a : Addr) (p1 p2 nn : Int32) (kb cb : Addr) (kA kC : ClassId) (f g : Nat → Int64) (pr : Int32) (K : Int64) (t : Nat) (h0 : Heap) (n0 : Nat) (Z0 : n0 ≤ h0.size) (E_a : Exa Z h0 a "com/example/convene/convene/PairCounts") (F_nodes : Fld Z h0 a "com/example/convene/convene/PairCounts" "nodes" "I" (.int nn)) (F_bits : Fld Z h0 a "com/example/convene/convene/PairCounts" "bits" "I" (.int (10 : Int32))) (F_keys : Fld Z h0 a "com/example/convene/convene/PairCounts" "keys" "[J" (.ref kb)) (F_counts : Fld Z h0 a "com/example/convene/convene/PairCounts" "counts" "[J" (.ref cb)) (F_pairs : Fld Z h0 a "com/example/convene/convene/PairCounts" "pairs" "I" (.int pr)) (A_k : own_A Z h0 kb kA f) (A_c : own_A Z h0 cb kC g) (O_a : n0 ≤ a) (O_kb : n0 ≤ kb) (O_cb : n0 ≤ cb) (ne1 : a ≠ kb) (ne2 : a ≠ cb) (ne3 : kb ≠ cb) (hKey : own_key p1 p2 nn = K) (ht : own_probe f K 3 (own_hn K) = some t) (ht1 : t < 1024) (hne : ¬ p1 = p2) (hz : f t = (0 : Int64)) (hp : ¬ ((1024 : Int32).toInt64) < ((2 : Int64) * ((pr + (1 : Int32)).toInt64))) :
    MetFree l (⟨"com/example/convene/convene/PairCounts", "add", "(II)V"⟩ : MethodName) (head1 (Jvm.Cond.code (⟨"com/example/convene/convene/PairCounts", "add", "(II)V"⟩ : MethodName) prog_23_method_4_code 6 none :: ws) ({ frames := 2, cells := 0, slots := 0, locals := 80 } : Room)) (fun argv U => argv = #[(.ref a), (.int p1), (.int p2)] ∧ Z.Warmed39 U.vm ∧ U.heap = h0) (fun _ _ _ _ _ => True) (fun _ U o U' => ∃ v L, o = .returned v ∧ Q_rm3n Z a p1 p2 nn kb cb kA kC f g pr K t h0 n0 v U'.heap L ∧ FrameEnd U o U' L ({ frames := 2, cells := 0, slots := 0, locals := 80 } : Room).cells ({ frames := 2, cells := 0, slots := 0, locals := 80 } : Room).slots) := by
  refine MetFree.of_bodySF (plainFor_of_name pn_3) hisR ?_
  intro p e s m args below meth c s₁ Bd hml0 hP hK
  obtain ⟨rfl, hZ, hh⟩ := hP
  have hx := Bd.exec
  have hby := Bd.bytes
  have hml : c.maxLocals = 6 := hml0
  have hown : s.vm.findClass "com/example/convene/convene/PairCounts" = some m.cls := findClass_of_methodNamed Bd.named
  have hnm := (name_of_methodNamed Bd.named Bd.method).1
  have X0 : Stand p l e ({ frames := 2, cells := 0, slots := 0, locals := 80 } : Room) s m #[(.ref a), (.int p1), (.int p2)] below meth c s₁ [] 0 0 := Stand.of_body Bd
  have e0 : s₁.heap = h0 := by rw [← hh, Bd.state]; rfl
  have N0 := Fr.nil n0
  obtain ⟨G, hG⟩ : ∃ G : State → Prop, G = fun tg => Steps p.tables e below (s₁.setTop (entryFrame m #[(.ref a), (.int p1), (.int p2)] 6)) tg := ⟨_, rfl⟩
  have pre0 : ∀ tg, Steps p.tables e below (s₁.setTop (mkF m 0 #[.val (.ref a), .val (.int p1), .val (.int p2), .unset, .unset, .unset] [])) tg → G tg := fun tg kt => by rw [hG]; exact castTop (ef_3_R_I_I m a p1 p2) kt
  have pre1 : ∀ tg, Steps p.tables e below (s₁.setTop (mkF m 22 #[.val (.ref a), .val (.int p1), .val (.int p2), .unset, .unset, .unset] [(.int p2), (.int p1), (.ref a)])) tg → G tg := fun tg kt => pre0 tg (by
    show Steps p.tables e below (s₁.setTop (mkF m 0 #[.val (.ref a), .val (.int p1), .val (.int p2), .unset, .unset, .unset] [])) _
    refine XS.iloadN X0.here hx rfl (hb hby d3_0) rfl ?_
    show Steps p.tables e below (s₁.setTop (mkF m 1 #[.val (.ref a), .val (.int p1), .val (.int p2), .unset, .unset, .unset] [(.int p1)])) _
    refine XS.iloadN X0.here hx rfl (hb hby d3_1) rfl ?_
    show Steps p.tables e below (s₁.setTop (mkF m 2 #[.val (.ref a), .val (.int p1), .val (.int p2), .unset, .unset, .unset] [(.int p2), (.int p1)])) _
    refine XS.icmpYes X0.here hx rfl (pc0 := 2) (pc' := 19) rfl (hb hby d3_2) rfl (feq hne).2 (by decide) (by decide) ?_
    show Steps p.tables e below (s₁.setTop (mkF m 19 #[.val (.ref a), .val (.int p1), .val (.int p2), .unset, .unset, .unset] [])) _
    refine XS.aloadN X0.here hx rfl (hb hby d3_19) rfl rfl ?_
    show Steps p.tables e below (s₁.setTop (mkF m 20 #[.val (.ref a), .val (.int p1), .val (.int p2), .unset, .unset, .unset] [(.ref a)])) _
    refine XS.iloadN X0.here hx rfl (hb hby d3_20) rfl ?_
    show Steps p.tables e below (s₁.setTop (mkF m 21 #[.val (.ref a), .val (.int p1), .val (.int p2), .unset, .unset, .unset] [(.int p1), (.ref a)])) _
    refine XS.iloadN X0.here hx rfl (hb hby d3_21) rfl ?_
    exact kt)
  obtain ⟨cq2, q2, q2'⟩ := E_a.cell
  obtain ⟨_, _, ⟨T2, L2, k2, n2⟩, -, X2, ⟨Lc2, hQ2, l2, y2, z2⟩, st2⟩ := X0.privateBack hx (y := (⟨"com/example/convene/convene/PairCounts", "key", "(II)J"⟩ : MethodName)) hown (mvT hZ (hw _ (List.mem_of_getElem? (i := 25) rfl))) (mvT hZ (hw _ (List.mem_of_getElem? (i := 26) rfl))) (Jvm.Kit.selects_private (by decide) (mvT hZ (hw _ (List.mem_of_getElem? (i := 3) rfl))) (mvP hZ (hw _ (List.mem_of_getElem? (i := 27) rfl))) (mvT hZ (hw _ (List.mem_of_getElem? (i := 26) rfl)))) (Cond.privateMethod_at (mvP hZ (hw _ (List.mem_of_getElem? (i := 27) rfl)) (args := #[]))) (mvT hZ (hw _ (List.mem_of_getElem? (i := 28) rfl))) (by decide) (backOf (W := 0) (rm4 l Z a0 hw [] a p1 p2 nn h0 n0 Z0 F_nodes) hZ (hw _ (List.mem_of_getElem? (i := 28) rfl)) (hw _ (List.mem_of_getElem? (i := 4) rfl)) (by decide) (by decide)) (g := (mkF m 22 #[.val (.ref a), .val (.int p1), .val (.int p2), .unset, .unset, .unset] [(.int p2), (.int p1), (.ref a)])) rfl (by rw [hml]; rfl) (Steps.refl _) (a := a) (by rw [e0]; exact q2) q2' (argsL := [(.int p1), (.int p2)]) (rest := []) (lenOf pd_1 rfl) rfl (by show 2 * 0 + _ ≤ _; exact Nat.le_of_eq rfl) (hb hby d3_22) (fun _ _ => ⟨rfl, e0, (Nat.le_of_ble_eq_true rfl), (Nat.le_of_ble_eq_true rfl)⟩)
  dsimp only [Pt.U, Pt.locs, Pt.cells, Pt.slots] at X2 l2 y2 z2 st2 hQ2
  subst l2 y2 z2
  obtain ⟨hv2, N2q, e2⟩ := hQ2
  rw [hKey] at hv2
  subst hv2
  have N2 := Fr.app N0 N2q
  have pre2s : ∀ tg, Steps p.tables e below (T2.setTop (mkF m 25 #[.val (.ref a), .val (.int p1), .val (.int p2), .unset, .unset, .unset] [(.long K)])) tg → G tg := fun tg kt => pre1 tg (st2.trans kt)
  have pre3 : ∀ tg, Steps p.tables e below (T2.setTop (mkF m 28 #[.val (.ref a), .val (.int p1), .val (.int p2), .val (.long K), .second, .unset] [(.long K), (.ref a)])) tg → G tg := fun tg kt => pre2s tg (by
    show Steps p.tables e below (T2.setTop (mkF m 25 #[.val (.ref a), .val (.int p1), .val (.int p2), .unset, .unset, .unset] [(.long K)])) _
    refine XS.lstoreN X2.here hx rfl (hb hby d3_25) rfl (l' := #[.val (.ref a), .val (.int p1), .val (.int p2), .val (.long K), .second, .unset]) rfl ?_
    show Steps p.tables e below (T2.setTop (mkF m 26 #[.val (.ref a), .val (.int p1), .val (.int p2), .val (.long K), .second, .unset] [])) _
    refine XS.aloadN X2.here hx rfl (hb hby d3_26) rfl rfl ?_
    show Steps p.tables e below (T2.setTop (mkF m 27 #[.val (.ref a), .val (.int p1), .val (.int p2), .val (.long K), .second, .unset] [(.ref a)])) _
    refine XS.lloadN X2.here hx rfl (hb hby d3_27) rfl ?_
    exact kt)
  obtain ⟨cq4, q4, q4'⟩ := E_a.cell
  obtain ⟨_, _, ⟨T4, L4, k4, n4⟩, -, X4, ⟨Lc4, hQ4, l4, y4, z4⟩, st4⟩ := X2.privateBack hx (y := (⟨"com/example/convene/convene/PairCounts", "slot", "(J)I"⟩ : MethodName)) hown (mvT hZ (hw _ (List.mem_of_getElem? (i := 36) rfl))) (mvT hZ (hw _ (List.mem_of_getElem? (i := 37) rfl))) (Jvm.Kit.selects_private (by decide) (mvT hZ (hw _ (List.mem_of_getElem? (i := 3) rfl))) (mvP hZ (hw _ (List.mem_of_getElem? (i := 38) rfl))) (mvT hZ (hw _ (List.mem_of_getElem? (i := 37) rfl)))) (Cond.privateMethod_at (mvP hZ (hw _ (List.mem_of_getElem? (i := 38) rfl)) (args := #[]))) (mvT hZ (hw _ (List.mem_of_getElem? (i := 39) rfl))) (by decide) (backOf (W := 0) (rm7 l Z a0 hw [] a K kb kA f t h0 n0 Z0 F_bits F_keys A_k ht) hZ (hw _ (List.mem_of_getElem? (i := 39) rfl)) (hw _ (List.mem_of_getElem? (i := 4) rfl)) (by decide) (by decide)) (g := (mkF m 28 #[.val (.ref a), .val (.int p1), .val (.int p2), .val (.long K), .second, .unset] [(.long K), (.ref a)])) rfl (by rw [hml]; rfl) (Steps.refl _) (a := a) (by rw [e2]; exact q4) q4' (argsL := [(.long K)]) (rest := []) (lenOf pd_2 rfl) rfl (by show 2 * 0 + _ ≤ _; exact Nat.le_of_eq rfl) (hb hby d3_28) (fun _ _ => ⟨rfl, e2, (Nat.le_of_ble_eq_true rfl), (Nat.le_of_ble_eq_true rfl)⟩)
  dsimp only [Pt.U, Pt.locs, Pt.cells, Pt.slots] at X4 l4 y4 z4 st4 hQ4
  subst l4 y4 z4
  obtain ⟨rfl, N4q, e4⟩ := hQ4
  have N4 := Fr.app N2 N4q
  have pre4s : ∀ tg, Steps p.tables e below (T4.setTop (mkF m 31 #[.val (.ref a), .val (.int p1), .val (.int p2), .val (.long K), .second, .unset] [(.int (Int32.ofNat t))])) tg → G tg := fun tg kt => pre3 tg (st4.trans kt)
  have pre5 : ∀ tg, Steps p.tables e below (T4.setTop (mkF m 34 #[.val (.ref a), .val (.int p1), .val (.int p2), .val (.long K), .second, .val (.int (Int32.ofNat t))] [(.ref a)])) tg → G tg := fun tg kt => pre4s tg (by
    show Steps p.tables e below (T4.setTop (mkF m 31 #[.val (.ref a), .val (.int p1), .val (.int p2), .val (.long K), .second, .unset] [(.int (Int32.ofNat t))])) _
    refine XS.istore X4.here hx rfl (hb hby d3_31) rfl (l' := #[.val (.ref a), .val (.int p1), .val (.int p2), .val (.long K), .second, .val (.int (Int32.ofNat t))]) rfl ?_
    show Steps p.tables e below (T4.setTop (mkF m 33 #[.val (.ref a), .val (.int p1), .val (.int p2), .val (.long K), .second, .val (.int (Int32.ofNat t))] [])) _
    refine XS.aloadN X4.here hx rfl (hb hby d3_33) rfl rfl ?_
    exact kt)
  obtain ⟨T6, X6, e6, st6⟩ := getF X4 hx hZ hown (host := "") (Or.inl (hw _ (List.mem_of_getElem? (i := 16) rfl))) Via.refl e4 F_keys (g := (mkF m 34 #[.val (.ref a), .val (.int p1), .val (.int p2), .val (.long K), .second, .val (.int (Int32.ofNat t))] [(.ref a)])) rfl rfl (hb hby d3_34)
  have pre6s : ∀ tg, Steps p.tables e below (T6.setTop (mkF m 37 #[.val (.ref a), .val (.int p1), .val (.int p2), .val (.long K), .second, .val (.int (Int32.ofNat t))] [(.ref kb)])) tg → G tg := fun tg kt => pre5 tg (st6 tg kt)
  have pre7 : ∀ tg, Steps p.tables e below (T6.setTop (mkF m 39 #[.val (.ref a), .val (.int p1), .val (.int p2), .val (.long K), .second, .val (.int (Int32.ofNat t))] [(.int (Int32.ofNat t)), (.ref kb)])) tg → G tg := fun tg kt => pre6s tg (by
    show Steps p.tables e below (T6.setTop (mkF m 37 #[.val (.ref a), .val (.int p1), .val (.int p2), .val (.long K), .second, .val (.int (Int32.ofNat t))] [(.ref kb)])) _
    refine XS.iload X6.here hx rfl (hb hby d3_37) rfl ?_
    exact kt)
  have op_8 := A_k
  obtain ⟨cl_8, Ar_8, q_8, S_8, H_8⟩ := op_8
  have hin_8 := own_inb S_8 ht1
  have pre9 : ∀ tg, Steps p.tables e below (T6.setTop (mkF m 46 #[.val (.ref a), .val (.int p1), .val (.int p2), .val (.long K), .second, .val (.int (Int32.ofNat t))] [(.ref a)])) tg → G tg := fun tg kt => pre7 tg (by
    show Steps p.tables e below (T6.setTop (mkF m 39 #[.val (.ref a), .val (.int p1), .val (.int p2), .val (.long K), .second, .val (.int (Int32.ofNat t))] [(.int (Int32.ofNat t)), (.ref kb)])) _
    refine X6.laload hx (j := (Int32.ofNat t)) (v := (.long (f t))) (by rw [e6]; exact Ar_8.1) (State.isArrayOf_alike hZ.alike Ar_8.2.1) Ar_8.2.2 hin_8 (by rw [(own_ix ht1).1]; exact H_8 _ ht1) (g := (mkF m 39 #[.val (.ref a), .val (.int p1), .val (.int p2), .val (.long K), .second, .val (.int (Int32.ofNat t))] [(.int (Int32.ofNat t)), (.ref kb)])) rfl rfl (hb hby d3_39) _ ?_
    show Steps p.tables e below (T6.setTop (mkF m 40 #[.val (.ref a), .val (.int p1), .val (.int p2), .val (.long K), .second, .val (.int (Int32.ofNat t))] [(.long (f t))])) _
    refine XS.lconst X6.here hx rfl (hb hby d3_40) ?_
    show Steps p.tables e below (T6.setTop (mkF m 41 #[.val (.ref a), .val (.int p1), .val (.int p2), .val (.long K), .second, .val (.int (Int32.ofNat t))] [(.long (0 : Int64)), (.long (f t))])) _
    refine XS.lcmp X6.here hx rfl (hb hby d3_41) rfl ?_
    show Steps p.tables e below (T6.setTop (mkF m 42 #[.val (.ref a), .val (.int p1), .val (.int p2), .val (.long K), .second, .val (.int (Int32.ofNat t))] [(.int (lcmpW (f t) (0 : Int64)))])) _
    refine XS.ifNo X6.here hx rfl (hb hby d3_42) rfl ((if0 _ _).trans (teq ((lw_eq (f t) (0 : Int64)).mpr hz)).2) ?_
    show Steps p.tables e below (T6.setTop (mkF m 45 #[.val (.ref a), .val (.int p1), .val (.int p2), .val (.long K), .second, .val (.int (Int32.ofNat t))] [])) _
    refine XS.aloadN X6.here hx rfl (hb hby d3_45) rfl rfl ?_
    exact kt)
  obtain ⟨T10, X10, e10, st10⟩ := getF X6 hx hZ hown (host := "") (Or.inl (hw _ (List.mem_of_getElem? (i := 16) rfl))) Via.refl e6 F_keys (g := (mkF m 46 #[.val (.ref a), .val (.int p1), .val (.int p2), .val (.long K), .second, .val (.int (Int32.ofNat t))] [(.ref a)])) rfl rfl (hb hby d3_46)
  have pre10s : ∀ tg, Steps p.tables e below (T10.setTop (mkF m 49 #[.val (.ref a), .val (.int p1), .val (.int p2), .val (.long K), .second, .val (.int (Int32.ofNat t))] [(.ref kb)])) tg → G tg := fun tg kt => pre9 tg (st10 tg kt)
  have pre11 : ∀ tg, Steps p.tables e below (T10.setTop (mkF m 52 #[.val (.ref a), .val (.int p1), .val (.int p2), .val (.long K), .second, .val (.int (Int32.ofNat t))] [(.long K), (.int (Int32.ofNat t)), (.ref kb)])) tg → G tg := fun tg kt => pre10s tg (by
    show Steps p.tables e below (T10.setTop (mkF m 49 #[.val (.ref a), .val (.int p1), .val (.int p2), .val (.long K), .second, .val (.int (Int32.ofNat t))] [(.ref kb)])) _
    refine XS.iload X10.here hx rfl (hb hby d3_49) rfl ?_
    show Steps p.tables e below (T10.setTop (mkF m 51 #[.val (.ref a), .val (.int p1), .val (.int p2), .val (.long K), .second, .val (.int (Int32.ofNat t))] [(.int (Int32.ofNat t)), (.ref kb)])) _
    refine XS.lloadN X10.here hx rfl (hb hby d3_51) rfl ?_
    exact kt)
  have op_12 := A_k
  obtain ⟨cl_12, Ar_12, q_12, S_12, H_12⟩ := op_12
  have hin_12 := own_inb S_12 ht1
  obtain ⟨T12, h12, X12, e12, W12, st12⟩ := stJ X10 hx hZ e10 Ar_12 (j := (Int32.ofNat t)) hin_12 (g := (mkF m 52 #[.val (.ref a), .val (.int p1), .val (.int p2), .val (.long K), .second, .val (.int (Int32.ofNat t))] [(.long K), (.int (Int32.ofNat t)), (.ref kb)])) rfl rfl (hb hby d3_52)
  have pre12s : ∀ tg, Steps p.tables e below (T12.setTop (mkF m 53 #[.val (.ref a), .val (.int p1), .val (.int p2), .val (.long K), .second, .val (.int (Int32.ofNat t))] [])) tg → G tg := fun tg kt => pre11 tg (st12 tg kt)
  have E_a_13 := E_a.wr W12
  have F_nodes_14 := F_nodes.other W12 (Or.inl ne1)
  have F_bits_15 := F_bits.other W12 (Or.inl ne1)
  have F_keys_16 := F_keys.other W12 (Or.inl ne1)
  have F_counts_17 := F_counts.other W12 (Or.inl ne1)
  have F_pairs_18 := F_pairs.other W12 (Or.inl ne1)
  have A_c_19 := A_c.other W12 (Ne.symm ne3)
  have A12_kb := own_A.set Ar_12 q_12 S_12 H_12 ht1 W12
  have N12 := Fr.snoc X12 N4 O_kb
  have Z12 : n0 ≤ h12.size := Nat.le_trans Z0 (Keep.of_wr W12).1
  have K12 : Keep h0 h12 [a, kb, cb] := (Keep.refl h0 [a, kb, cb]).wr W12 (Or.inl (List.mem_of_getElem? (i := 1) rfl))
  have pre20 : ∀ tg, Steps p.tables e below (T12.setTop (mkF m 55 #[.val (.ref a), .val (.int p1), .val (.int p2), .val (.long K), .second, .val (.int (Int32.ofNat t))] [(.ref a), (.ref a)])) tg → G tg := fun tg kt => pre12s tg (by
    show Steps p.tables e below (T12.setTop (mkF m 53 #[.val (.ref a), .val (.int p1), .val (.int p2), .val (.long K), .second, .val (.int (Int32.ofNat t))] [])) _
    refine XS.aloadN X12.here hx rfl (hb hby d3_53) rfl rfl ?_
    show Steps p.tables e below (T12.setTop (mkF m 54 #[.val (.ref a), .val (.int p1), .val (.int p2), .val (.long K), .second, .val (.int (Int32.ofNat t))] [(.ref a)])) _
    refine XS.dup X12.here hx rfl (hb hby d3_54) rfl rfl ?_
    exact kt)
  obtain ⟨T21, X21, e21, st21⟩ := getF X12 hx hZ hown (host := "") (Or.inl (hw _ (List.mem_of_getElem? (i := 41) rfl))) Via.refl e12 F_pairs_18 (g := (mkF m 55 #[.val (.ref a), .val (.int p1), .val (.int p2), .val (.long K), .second, .val (.int (Int32.ofNat t))] [(.ref a), (.ref a)])) rfl rfl (hb hby d3_55)
  have pre21s : ∀ tg, Steps p.tables e below (T21.setTop (mkF m 58 #[.val (.ref a), .val (.int p1), .val (.int p2), .val (.long K), .second, .val (.int (Int32.ofNat t))] [(.int pr), (.ref a)])) tg → G tg := fun tg kt => pre20 tg (st21 tg kt)
  have pre22 : ∀ tg, Steps p.tables e below (T21.setTop (mkF m 60 #[.val (.ref a), .val (.int p1), .val (.int p2), .val (.long K), .second, .val (.int (Int32.ofNat t))] [(.int (pr + (1 : Int32))), (.ref a)])) tg → G tg := fun tg kt => pre21s tg (by
    show Steps p.tables e below (T21.setTop (mkF m 58 #[.val (.ref a), .val (.int p1), .val (.int p2), .val (.long K), .second, .val (.int (Int32.ofNat t))] [(.int pr), (.ref a)])) _
    refine XS.iconst X21.here hx rfl (hb hby d3_58) ?_
    show Steps p.tables e below (T21.setTop (mkF m 59 #[.val (.ref a), .val (.int p1), .val (.int p2), .val (.long K), .second, .val (.int (Int32.ofNat t))] [(.int (1 : Int32)), (.int pr), (.ref a)])) _
    refine XS.iadd X21.here hx rfl (hb hby d3_59) rfl ?_
    exact kt)
  obtain ⟨T23, h23, X23, e23, W23, st23⟩ := putF X21 hx hZ hown (host := "") (Or.inl (hw _ (List.mem_of_getElem? (i := 41) rfl))) Via.refl e21 F_pairs_18 E_a_13 (Or.inl (hw _ (List.mem_of_getElem? (i := 42) rfl))) (hw _ (List.mem_of_getElem? (i := 3) rfl)) (ty := .int) (by decide) rfl rfl (g := (mkF m 60 #[.val (.ref a), .val (.int p1), .val (.int p2), .val (.long K), .second, .val (.int (Int32.ofNat t))] [(.int (pr + (1 : Int32))), (.ref a)])) rfl rfl (hb hby d3_60)
  have pre23s : ∀ tg, Steps p.tables e below (T23.setTop (mkF m 63 #[.val (.ref a), .val (.int p1), .val (.int p2), .val (.long K), .second, .val (.int (Int32.ofNat t))] [])) tg → G tg := fun tg kt => pre22 tg (st23 tg kt)
  have E_a_24 := E_a_13.wr W23
  have F_nodes_25 := F_nodes_14.other W23 (Or.inr (slot_ne (Or.inr (hw _ (List.mem_of_getElem? (i := 12) rfl))) (Or.inl (hw _ (List.mem_of_getElem? (i := 42) rfl))) (by decide) (t := .int) (t' := .int) (by decide) (by decide)))
  have F_bits_26 := F_bits_15.other W23 (Or.inr (slot_ne (Or.inl (hw _ (List.mem_of_getElem? (i := 14) rfl))) (Or.inl (hw _ (List.mem_of_getElem? (i := 42) rfl))) (by decide) (t := .int) (t' := .int) (by decide) (by decide)))
  have F_keys_27 := F_keys_16.other W23 (Or.inr (slot_ne (Or.inl (hw _ (List.mem_of_getElem? (i := 17) rfl))) (Or.inl (hw _ (List.mem_of_getElem? (i := 42) rfl))) (by decide) (t := (.array .long)) (t' := .int) (by decide) (by decide)))
  have F_counts_28 := F_counts_17.other W23 (Or.inr (slot_ne (Or.inl (hw _ (List.mem_of_getElem? (i := 19) rfl))) (Or.inl (hw _ (List.mem_of_getElem? (i := 42) rfl))) (by decide) (t := (.array .long)) (t' := .int) (by decide) (by decide)))
  have F_pairs_29 := F_pairs_18.same W23
  have A_c_30 := A_c_19.other W23 (Ne.symm ne2)
  have A12_kb_31 := A12_kb.other W23 (Ne.symm ne1)
  have N23 := Fr.snoc X23 N12 O_a
  have Z23 : n0 ≤ h23.size := Nat.le_trans Z12 (Keep.of_wr W23).1
  have K23 : Keep h0 h23 [a, kb, cb] := K12.wr W23 (Or.inl (List.mem_of_getElem? (i := 0) rfl))
  have pre32 : ∀ tg, Steps p.tables e below (T23.setTop (mkF m 67 #[.val (.ref a), .val (.int p1), .val (.int p2), .val (.long K), .second, .val (.int (Int32.ofNat t))] [(.ref a), (.long (2 : Int64))])) tg → G tg := fun tg kt => pre23s tg (by
    show Steps p.tables e below (T23.setTop (mkF m 63 #[.val (.ref a), .val (.int p1), .val (.int p2), .val (.long K), .second, .val (.int (Int32.ofNat t))] [])) _
    refine X23.ldc2Long hx hown (mvT hZ (hw _ (List.mem_of_getElem? (i := 43) rfl))) (g := (mkF m 63 #[.val (.ref a), .val (.int p1), .val (.int p2), .val (.long K), .second, .val (.int (Int32.ofNat t))] [])) rfl (hb hby d3_63) _ ?_
    show Steps p.tables e below (T23.setTop (mkF m 66 #[.val (.ref a), .val (.int p1), .val (.int p2), .val (.long K), .second, .val (.int (Int32.ofNat t))] [(.long (2 : Int64))])) _
    refine XS.aloadN X23.here hx rfl (hb hby d3_66) rfl rfl ?_
    exact kt)
  obtain ⟨T33, X33, e33, st33⟩ := getF X23 hx hZ hown (host := "") (Or.inl (hw _ (List.mem_of_getElem? (i := 41) rfl))) Via.refl e23 F_pairs_29 (g := (mkF m 67 #[.val (.ref a), .val (.int p1), .val (.int p2), .val (.long K), .second, .val (.int (Int32.ofNat t))] [(.ref a), (.long (2 : Int64))])) rfl rfl (hb hby d3_67)
  have pre33s : ∀ tg, Steps p.tables e below (T33.setTop (mkF m 70 #[.val (.ref a), .val (.int p1), .val (.int p2), .val (.long K), .second, .val (.int (Int32.ofNat t))] [(.int (pr + (1 : Int32))), (.long (2 : Int64))])) tg → G tg := fun tg kt => pre32 tg (st33 tg kt)
  have pre34 : ∀ tg, Steps p.tables e below (T33.setTop (mkF m 73 #[.val (.ref a), .val (.int p1), .val (.int p2), .val (.long K), .second, .val (.int (Int32.ofNat t))] [(.ref a), (.long ((2 : Int64) * ((pr + (1 : Int32)).toInt64)))])) tg → G tg := fun tg kt => pre33s tg (by
    show Steps p.tables e below (T33.setTop (mkF m 70 #[.val (.ref a), .val (.int p1), .val (.int p2), .val (.long K), .second, .val (.int (Int32.ofNat t))] [(.int (pr + (1 : Int32))), (.long (2 : Int64))])) _
    refine XS.i2l X33.here hx rfl (hb hby d3_70) rfl ?_
    show Steps p.tables e below (T33.setTop (mkF m 71 #[.val (.ref a), .val (.int p1), .val (.int p2), .val (.long K), .second, .val (.int (Int32.ofNat t))] [(.long ((pr + (1 : Int32)).toInt64)), (.long (2 : Int64))])) _
    refine XS.lmul X33.here hx rfl (hb hby d3_71) rfl ?_
    show Steps p.tables e below (T33.setTop (mkF m 72 #[.val (.ref a), .val (.int p1), .val (.int p2), .val (.long K), .second, .val (.int (Int32.ofNat t))] [(.long ((2 : Int64) * ((pr + (1 : Int32)).toInt64)))])) _
    refine XS.aloadN X33.here hx rfl (hb hby d3_72) rfl rfl ?_
    exact kt)
  obtain ⟨T35, X35, e35, st35⟩ := getF X33 hx hZ hown (host := "") (Or.inl (hw _ (List.mem_of_getElem? (i := 16) rfl))) Via.refl e33 F_keys_27 (g := (mkF m 73 #[.val (.ref a), .val (.int p1), .val (.int p2), .val (.long K), .second, .val (.int (Int32.ofNat t))] [(.ref a), (.long ((2 : Int64) * ((pr + (1 : Int32)).toInt64)))])) rfl rfl (hb hby d3_73)
  have pre35s : ∀ tg, Steps p.tables e below (T35.setTop (mkF m 76 #[.val (.ref a), .val (.int p1), .val (.int p2), .val (.long K), .second, .val (.int (Int32.ofNat t))] [(.ref kb), (.long ((2 : Int64) * ((pr + (1 : Int32)).toInt64)))])) tg → G tg := fun tg kt => pre34 tg (st35 tg kt)
  have op_36 := A12_kb_31
  obtain ⟨cl_36, Ar_36, q_36, S_36, H_36⟩ := op_36
  have pre37 : ∀ tg, Steps p.tables e below (T35.setTop (mkF m 94 #[.val (.ref a), .val (.int p1), .val (.int p2), .val (.long K), .second, .val (.int (Int32.ofNat t))] [(.ref a)])) tg → G tg := fun tg kt => pre35s tg (by
    show Steps p.tables e below (T35.setTop (mkF m 76 #[.val (.ref a), .val (.int p1), .val (.int p2), .val (.long K), .second, .val (.int (Int32.ofNat t))] [(.ref kb), (.long ((2 : Int64) * ((pr + (1 : Int32)).toInt64)))])) _
    refine X35.arraylength hx (by rw [e35]; exact Ar_36.1) (State.isArrayOf_alike hZ.alike Ar_36.2.1) (g := (mkF m 76 #[.val (.ref a), .val (.int p1), .val (.int p2), .val (.long K), .second, .val (.int (Int32.ofNat t))] [(.ref kb), (.long ((2 : Int64) * ((pr + (1 : Int32)).toInt64)))])) rfl rfl (hb hby d3_76) _ ?_
    rw [S_36, show (1024 : Nat).toInt32 = (1024 : Int32) from by decide]
    show Steps p.tables e below (T35.setTop (mkF m 77 #[.val (.ref a), .val (.int p1), .val (.int p2), .val (.long K), .second, .val (.int (Int32.ofNat t))] [(.int (1024 : Int32)), (.long ((2 : Int64) * ((pr + (1 : Int32)).toInt64)))])) _
    refine XS.i2l X35.here hx rfl (hb hby d3_77) rfl ?_
    show Steps p.tables e below (T35.setTop (mkF m 78 #[.val (.ref a), .val (.int p1), .val (.int p2), .val (.long K), .second, .val (.int (Int32.ofNat t))] [(.long ((1024 : Int32).toInt64)), (.long ((2 : Int64) * ((pr + (1 : Int32)).toInt64)))])) _
    refine XS.lcmp X35.here hx rfl (hb hby d3_78) rfl ?_
    show Steps p.tables e below (T35.setTop (mkF m 79 #[.val (.ref a), .val (.int p1), .val (.int p2), .val (.long K), .second, .val (.int (Int32.ofNat t))] [(.int (lcmpW ((2 : Int64) * ((pr + (1 : Int32)).toInt64)) ((1024 : Int32).toInt64)))])) _
    refine XS.ifYes X35.here hx rfl (pc0 := 79) (pc' := 93) rfl (hb hby d3_79) rfl ((if0 _ _).trans (flt (mt (lw_gt ((2 : Int64) * ((pr + (1 : Int32)).toInt64)) ((1024 : Int32).toInt64)).mp hp)).2.2.2) (by decide) (by decide) ?_
    show Steps p.tables e below (T35.setTop (mkF m 93 #[.val (.ref a), .val (.int p1), .val (.int p2), .val (.long K), .second, .val (.int (Int32.ofNat t))] [])) _
    refine XS.aloadN X35.here hx rfl (hb hby d3_93) rfl rfl ?_
    exact kt)
  obtain ⟨T38, X38, e38, st38⟩ := getF X35 hx hZ hown (host := "") (Or.inl (hw _ (List.mem_of_getElem? (i := 18) rfl))) Via.refl e35 F_counts_28 (g := (mkF m 94 #[.val (.ref a), .val (.int p1), .val (.int p2), .val (.long K), .second, .val (.int (Int32.ofNat t))] [(.ref a)])) rfl rfl (hb hby d3_94)
  have pre38s : ∀ tg, Steps p.tables e below (T38.setTop (mkF m 97 #[.val (.ref a), .val (.int p1), .val (.int p2), .val (.long K), .second, .val (.int (Int32.ofNat t))] [(.ref cb)])) tg → G tg := fun tg kt => pre37 tg (st38 tg kt)
  have pre39 : ∀ tg, Steps p.tables e below (T38.setTop (mkF m 100 #[.val (.ref a), .val (.int p1), .val (.int p2), .val (.long K), .second, .val (.int (Int32.ofNat t))] [(.int (Int32.ofNat t)), (.ref cb), (.int (Int32.ofNat t)), (.ref cb)])) tg → G tg := fun tg kt => pre38s tg (by
    show Steps p.tables e below (T38.setTop (mkF m 97 #[.val (.ref a), .val (.int p1), .val (.int p2), .val (.long K), .second, .val (.int (Int32.ofNat t))] [(.ref cb)])) _
    refine XS.iload X38.here hx rfl (hb hby d3_97) rfl ?_
    show Steps p.tables e below (T38.setTop (mkF m 99 #[.val (.ref a), .val (.int p1), .val (.int p2), .val (.long K), .second, .val (.int (Int32.ofNat t))] [(.int (Int32.ofNat t)), (.ref cb)])) _
    refine Jvm.Free.XT.dup2 X38.here hx rfl (hb hby d3_99) rfl rfl rfl ?_
    exact kt)
  have op_40 := A_c_30
  obtain ⟨cl_40, Ar_40, q_40, S_40, H_40⟩ := op_40
  have hin_40 := own_inb S_40 ht1
  have pre41 : ∀ tg, Steps p.tables e below (T38.setTop (mkF m 103 #[.val (.ref a), .val (.int p1), .val (.int p2), .val (.long K), .second, .val (.int (Int32.ofNat t))] [(.long ((g t) + (1 : Int64))), (.int (Int32.ofNat t)), (.ref cb)])) tg → G tg := fun tg kt => pre39 tg (by
    show Steps p.tables e below (T38.setTop (mkF m 100 #[.val (.ref a), .val (.int p1), .val (.int p2), .val (.long K), .second, .val (.int (Int32.ofNat t))] [(.int (Int32.ofNat t)), (.ref cb), (.int (Int32.ofNat t)), (.ref cb)])) _
    refine X38.laload hx (j := (Int32.ofNat t)) (v := (.long (g t))) (by rw [e38]; exact Ar_40.1) (State.isArrayOf_alike hZ.alike Ar_40.2.1) Ar_40.2.2 hin_40 (by rw [(own_ix ht1).1]; exact H_40 _ ht1) (g := (mkF m 100 #[.val (.ref a), .val (.int p1), .val (.int p2), .val (.long K), .second, .val (.int (Int32.ofNat t))] [(.int (Int32.ofNat t)), (.ref cb), (.int (Int32.ofNat t)), (.ref cb)])) rfl rfl (hb hby d3_100) _ ?_
    show Steps p.tables e below (T38.setTop (mkF m 101 #[.val (.ref a), .val (.int p1), .val (.int p2), .val (.long K), .second, .val (.int (Int32.ofNat t))] [(.long (g t)), (.int (Int32.ofNat t)), (.ref cb)])) _
    refine XS.lconst X38.here hx rfl (hb hby d3_101) ?_
    show Steps p.tables e below (T38.setTop (mkF m 102 #[.val (.ref a), .val (.int p1), .val (.int p2), .val (.long K), .second, .val (.int (Int32.ofNat t))] [(.long (1 : Int64)), (.long (g t)), (.int (Int32.ofNat t)), (.ref cb)])) _
    refine XS.ladd X38.here hx rfl (hb hby d3_102) rfl ?_
    exact kt)
  have op_42 := A_c_30
  obtain ⟨cl_42, Ar_42, q_42, S_42, H_42⟩ := op_42
  have hin_42 := own_inb S_42 ht1
  obtain ⟨T42, h42, X42, e42, W42, st42⟩ := stJ X38 hx hZ e38 Ar_42 (j := (Int32.ofNat t)) hin_42 (g := (mkF m 103 #[.val (.ref a), .val (.int p1), .val (.int p2), .val (.long K), .second, .val (.int (Int32.ofNat t))] [(.long ((g t) + (1 : Int64))), (.int (Int32.ofNat t)), (.ref cb)])) rfl rfl (hb hby d3_103)
  have pre42s : ∀ tg, Steps p.tables e below (T42.setTop (mkF m 104 #[.val (.ref a), .val (.int p1), .val (.int p2), .val (.long K), .second, .val (.int (Int32.ofNat t))] [])) tg → G tg := fun tg kt => pre41 tg (st42 tg kt)
  have E_a_43 := E_a_24.wr W42
  have F_nodes_44 := F_nodes_25.other W42 (Or.inl ne2)
  have F_bits_45 := F_bits_26.other W42 (Or.inl ne2)
  have F_keys_46 := F_keys_27.other W42 (Or.inl ne2)
  have F_counts_47 := F_counts_28.other W42 (Or.inl ne2)
  have F_pairs_48 := F_pairs_29.other W42 (Or.inl ne2)
  have A12_kb_49 := A12_kb_31.other W42 ne3
  have A42_cb := own_A.set Ar_42 q_42 S_42 H_42 ht1 W42
  have N42 := Fr.snoc X42 N23 O_cb
  have Z42 : n0 ≤ h42.size := Nat.le_trans Z23 (Keep.of_wr W42).1
  have K42 : Keep h0 h42 [a, kb, cb] := K23.wr W42 (Or.inl (List.mem_of_getElem? (i := 2) rfl))
  obtain ⟨fs, hr, hrun, hended, hW, hsame⟩ := X42.leave (v := none) (fun _ => rfl)
  subst hG
  refine ⟨_, _, pre42s _ ?_, hrun, hended, _, _, rfl, ?_, ⟨_, rfl⟩, hW, hsame.mono (by decide) (by decide)⟩
  · skip
    show Steps p.tables e below (T42.setTop (mkF m 104 #[.val (.ref a), .val (.int p1), .val (.int p2), .val (.long K), .second, .val (.int (Int32.ofNat t))] [])) _
    exact X42.returnOut hx Bd.returns (hb hby d3_104) hr
  · show Q_rm3n Z a p1 p2 nn kb cb kA kC f g pr K t h0 n0 _ T42.heap _
    rw [e42]
    exact ⟨rfl, N42, K42, F_nodes_44, F_bits_45, F_keys_46, F_counts_47, F_pairs_48, A12_kb_49, A42_cb⟩
def Q_rm3o (Z : State) (a : Addr) (p1 p2 nn : Int32) (kb cb : Addr) (kA kC : ClassId) (f g : Nat → Int64) (pr : Int32) (K : Int64) (t : Nat) (h0 : Heap) (n0 : Nat) (v : Option Value) (h : Heap) (L : List Loc) : Prop := v = none ∧ Fr n0 L ∧ Keep h0 h [a, kb, cb] ∧ Fld Z h a "com/example/convene/convene/PairCounts" "nodes" "I" (.int nn) ∧ Fld Z h a "com/example/convene/convene/PairCounts" "bits" "I" (.int (10 : Int32)) ∧ Fld Z h a "com/example/convene/convene/PairCounts" "keys" "[J" (.ref kb) ∧ Fld Z h a "com/example/convene/convene/PairCounts" "counts" "[J" (.ref cb) ∧ Fld Z h a "com/example/convene/convene/PairCounts" "pairs" "I" (.int pr) ∧ own_A Z h kb kA f ∧ own_A Z h cb kC (own_upd g t ((g t) + (1 : Int64)))
set_option maxRecDepth 65536 in
set_option maxHeartbeats 40000000 in
theorem rm3o (l : Launch) (Z : State) (a0 : Array Value) (hw : ∀ d ∈ tables_1, d.before a0 Z = true) (ws : List Jvm.Cond) (a : Addr) (p1 p2 nn : Int32) (kb cb : Addr) (kA kC : ClassId) (f g : Nat → Int64) (pr : Int32) (K : Int64) (t : Nat) (h0 : Heap) (n0 : Nat) (Z0 : n0 ≤ h0.size) (E_a : Exa Z h0 a "com/example/convene/convene/PairCounts") (F_nodes : Fld Z h0 a "com/example/convene/convene/PairCounts" "nodes" "I" (.int nn)) (F_bits : Fld Z h0 a "com/example/convene/convene/PairCounts" "bits" "I" (.int (10 : Int32))) (F_keys : Fld Z h0 a "com/example/convene/convene/PairCounts" "keys" "[J" (.ref kb)) (F_counts : Fld Z h0 a "com/example/convene/convene/PairCounts" "counts" "[J" (.ref cb)) (F_pairs : Fld Z h0 a "com/example/convene/convene/PairCounts" "pairs" "I" (.int pr)) (A_k : own_A Z h0 kb kA f) (A_c : own_A Z h0 cb kC g) (O_a : n0 ≤ a) (O_kb : n0 ≤ kb) (O_cb : n0 ≤ cb) (ne1 : a ≠ kb) (ne2 : a ≠ cb) (ne3 : kb ≠ cb) (hKey : own_key p1 p2 nn = K) (ht : own_probe f K 3 (own_hn K) = some t) (ht1 : t < 1024) (hne : ¬ p1 = p2) (hz : ¬ f t = (0 : Int64)) :
    MetFree l (⟨"com/example/convene/convene/PairCounts", "add", "(II)V"⟩ : MethodName) (head1 (Jvm.Cond.code (⟨"com/example/convene/convene/PairCounts", "add", "(II)V"⟩ : MethodName) prog_23_method_4_code 6 none :: ws) ({ frames := 2, cells := 0, slots := 0, locals := 80 } : Room)) (fun argv U => argv = #[(.ref a), (.int p1), (.int p2)] ∧ Z.Warmed39 U.vm ∧ U.heap = h0) (fun _ _ _ _ _ => True) (fun _ U o U' => ∃ v L, o = .returned v ∧ Q_rm3o Z a p1 p2 nn kb cb kA kC f g pr K t h0 n0 v U'.heap L ∧ FrameEnd U o U' L ({ frames := 2, cells := 0, slots := 0, locals := 80 } : Room).cells ({ frames := 2, cells := 0, slots := 0, locals := 80 } : Room).slots) := by
  refine MetFree.of_bodySF (plainFor_of_name pn_3) hisR ?_
  intro p e s m args below meth c s₁ Bd hml0 hP hK
  obtain ⟨rfl, hZ, hh⟩ := hP
  have hx := Bd.exec
  have hby := Bd.bytes
  have hml : c.maxLocals = 6 := hml0
  have hown : s.vm.findClass "com/example/convene/convene/PairCounts" = some m.cls := findClass_of_methodNamed Bd.named
  have hnm := (name_of_methodNamed Bd.named Bd.method).1
  have X0 : Stand p l e ({ frames := 2, cells := 0, slots := 0, locals := 80 } : Room) s m #[(.ref a), (.int p1), (.int p2)] below meth c s₁ [] 0 0 := Stand.of_body Bd
  have e0 : s₁.heap = h0 := by rw [← hh, Bd.state]; rfl
  have N0 := Fr.nil n0
  obtain ⟨G, hG⟩ : ∃ G : State → Prop, G = fun tg => Steps p.tables e below (s₁.setTop (entryFrame m #[(.ref a), (.int p1), (.int p2)] 6)) tg := ⟨_, rfl⟩
  have pre0 : ∀ tg, Steps p.tables e below (s₁.setTop (mkF m 0 #[.val (.ref a), .val (.int p1), .val (.int p2), .unset, .unset, .unset] [])) tg → G tg := fun tg kt => by rw [hG]; exact castTop (ef_3_R_I_I m a p1 p2) kt
  have pre1 : ∀ tg, Steps p.tables e below (s₁.setTop (mkF m 22 #[.val (.ref a), .val (.int p1), .val (.int p2), .unset, .unset, .unset] [(.int p2), (.int p1), (.ref a)])) tg → G tg := fun tg kt => pre0 tg (by
    show Steps p.tables e below (s₁.setTop (mkF m 0 #[.val (.ref a), .val (.int p1), .val (.int p2), .unset, .unset, .unset] [])) _
    refine XS.iloadN X0.here hx rfl (hb hby d3_0) rfl ?_
    show Steps p.tables e below (s₁.setTop (mkF m 1 #[.val (.ref a), .val (.int p1), .val (.int p2), .unset, .unset, .unset] [(.int p1)])) _
    refine XS.iloadN X0.here hx rfl (hb hby d3_1) rfl ?_
    show Steps p.tables e below (s₁.setTop (mkF m 2 #[.val (.ref a), .val (.int p1), .val (.int p2), .unset, .unset, .unset] [(.int p2), (.int p1)])) _
    refine XS.icmpYes X0.here hx rfl (pc0 := 2) (pc' := 19) rfl (hb hby d3_2) rfl (feq hne).2 (by decide) (by decide) ?_
    show Steps p.tables e below (s₁.setTop (mkF m 19 #[.val (.ref a), .val (.int p1), .val (.int p2), .unset, .unset, .unset] [])) _
    refine XS.aloadN X0.here hx rfl (hb hby d3_19) rfl rfl ?_
    show Steps p.tables e below (s₁.setTop (mkF m 20 #[.val (.ref a), .val (.int p1), .val (.int p2), .unset, .unset, .unset] [(.ref a)])) _
    refine XS.iloadN X0.here hx rfl (hb hby d3_20) rfl ?_
    show Steps p.tables e below (s₁.setTop (mkF m 21 #[.val (.ref a), .val (.int p1), .val (.int p2), .unset, .unset, .unset] [(.int p1), (.ref a)])) _
    refine XS.iloadN X0.here hx rfl (hb hby d3_21) rfl ?_
    exact kt)
  obtain ⟨cq2, q2, q2'⟩ := E_a.cell
  obtain ⟨_, _, ⟨T2, L2, k2, n2⟩, -, X2, ⟨Lc2, hQ2, l2, y2, z2⟩, st2⟩ := X0.privateBack hx (y := (⟨"com/example/convene/convene/PairCounts", "key", "(II)J"⟩ : MethodName)) hown (mvT hZ (hw _ (List.mem_of_getElem? (i := 25) rfl))) (mvT hZ (hw _ (List.mem_of_getElem? (i := 26) rfl))) (Jvm.Kit.selects_private (by decide) (mvT hZ (hw _ (List.mem_of_getElem? (i := 3) rfl))) (mvP hZ (hw _ (List.mem_of_getElem? (i := 27) rfl))) (mvT hZ (hw _ (List.mem_of_getElem? (i := 26) rfl)))) (Cond.privateMethod_at (mvP hZ (hw _ (List.mem_of_getElem? (i := 27) rfl)) (args := #[]))) (mvT hZ (hw _ (List.mem_of_getElem? (i := 28) rfl))) (by decide) (backOf (W := 0) (rm4 l Z a0 hw [] a p1 p2 nn h0 n0 Z0 F_nodes) hZ (hw _ (List.mem_of_getElem? (i := 28) rfl)) (hw _ (List.mem_of_getElem? (i := 4) rfl)) (by decide) (by decide)) (g := (mkF m 22 #[.val (.ref a), .val (.int p1), .val (.int p2), .unset, .unset, .unset] [(.int p2), (.int p1), (.ref a)])) rfl (by rw [hml]; rfl) (Steps.refl _) (a := a) (by rw [e0]; exact q2) q2' (argsL := [(.int p1), (.int p2)]) (rest := []) (lenOf pd_1 rfl) rfl (by show 2 * 0 + _ ≤ _; exact Nat.le_of_eq rfl) (hb hby d3_22) (fun _ _ => ⟨rfl, e0, (Nat.le_of_ble_eq_true rfl), (Nat.le_of_ble_eq_true rfl)⟩)
  dsimp only [Pt.U, Pt.locs, Pt.cells, Pt.slots] at X2 l2 y2 z2 st2 hQ2
  subst l2 y2 z2
  obtain ⟨hv2, N2q, e2⟩ := hQ2
  rw [hKey] at hv2
  subst hv2
  have N2 := Fr.app N0 N2q
  have pre2s : ∀ tg, Steps p.tables e below (T2.setTop (mkF m 25 #[.val (.ref a), .val (.int p1), .val (.int p2), .unset, .unset, .unset] [(.long K)])) tg → G tg := fun tg kt => pre1 tg (st2.trans kt)
  have pre3 : ∀ tg, Steps p.tables e below (T2.setTop (mkF m 28 #[.val (.ref a), .val (.int p1), .val (.int p2), .val (.long K), .second, .unset] [(.long K), (.ref a)])) tg → G tg := fun tg kt => pre2s tg (by
    show Steps p.tables e below (T2.setTop (mkF m 25 #[.val (.ref a), .val (.int p1), .val (.int p2), .unset, .unset, .unset] [(.long K)])) _
    refine XS.lstoreN X2.here hx rfl (hb hby d3_25) rfl (l' := #[.val (.ref a), .val (.int p1), .val (.int p2), .val (.long K), .second, .unset]) rfl ?_
    show Steps p.tables e below (T2.setTop (mkF m 26 #[.val (.ref a), .val (.int p1), .val (.int p2), .val (.long K), .second, .unset] [])) _
    refine XS.aloadN X2.here hx rfl (hb hby d3_26) rfl rfl ?_
    show Steps p.tables e below (T2.setTop (mkF m 27 #[.val (.ref a), .val (.int p1), .val (.int p2), .val (.long K), .second, .unset] [(.ref a)])) _
    refine XS.lloadN X2.here hx rfl (hb hby d3_27) rfl ?_
    exact kt)
  obtain ⟨cq4, q4, q4'⟩ := E_a.cell
  obtain ⟨_, _, ⟨T4, L4, k4, n4⟩, -, X4, ⟨Lc4, hQ4, l4, y4, z4⟩, st4⟩ := X2.privateBack hx (y := (⟨"com/example/convene/convene/PairCounts", "slot", "(J)I"⟩ : MethodName)) hown (mvT hZ (hw _ (List.mem_of_getElem? (i := 36) rfl))) (mvT hZ (hw _ (List.mem_of_getElem? (i := 37) rfl))) (Jvm.Kit.selects_private (by decide) (mvT hZ (hw _ (List.mem_of_getElem? (i := 3) rfl))) (mvP hZ (hw _ (List.mem_of_getElem? (i := 38) rfl))) (mvT hZ (hw _ (List.mem_of_getElem? (i := 37) rfl)))) (Cond.privateMethod_at (mvP hZ (hw _ (List.mem_of_getElem? (i := 38) rfl)) (args := #[]))) (mvT hZ (hw _ (List.mem_of_getElem? (i := 39) rfl))) (by decide) (backOf (W := 0) (rm7 l Z a0 hw [] a K kb kA f t h0 n0 Z0 F_bits F_keys A_k ht) hZ (hw _ (List.mem_of_getElem? (i := 39) rfl)) (hw _ (List.mem_of_getElem? (i := 4) rfl)) (by decide) (by decide)) (g := (mkF m 28 #[.val (.ref a), .val (.int p1), .val (.int p2), .val (.long K), .second, .unset] [(.long K), (.ref a)])) rfl (by rw [hml]; rfl) (Steps.refl _) (a := a) (by rw [e2]; exact q4) q4' (argsL := [(.long K)]) (rest := []) (lenOf pd_2 rfl) rfl (by show 2 * 0 + _ ≤ _; exact Nat.le_of_eq rfl) (hb hby d3_28) (fun _ _ => ⟨rfl, e2, (Nat.le_of_ble_eq_true rfl), (Nat.le_of_ble_eq_true rfl)⟩)
  dsimp only [Pt.U, Pt.locs, Pt.cells, Pt.slots] at X4 l4 y4 z4 st4 hQ4
  subst l4 y4 z4
  obtain ⟨rfl, N4q, e4⟩ := hQ4
  have N4 := Fr.app N2 N4q
  have pre4s : ∀ tg, Steps p.tables e below (T4.setTop (mkF m 31 #[.val (.ref a), .val (.int p1), .val (.int p2), .val (.long K), .second, .unset] [(.int (Int32.ofNat t))])) tg → G tg := fun tg kt => pre3 tg (st4.trans kt)
  have pre5 : ∀ tg, Steps p.tables e below (T4.setTop (mkF m 34 #[.val (.ref a), .val (.int p1), .val (.int p2), .val (.long K), .second, .val (.int (Int32.ofNat t))] [(.ref a)])) tg → G tg := fun tg kt => pre4s tg (by
    show Steps p.tables e below (T4.setTop (mkF m 31 #[.val (.ref a), .val (.int p1), .val (.int p2), .val (.long K), .second, .unset] [(.int (Int32.ofNat t))])) _
    refine XS.istore X4.here hx rfl (hb hby d3_31) rfl (l' := #[.val (.ref a), .val (.int p1), .val (.int p2), .val (.long K), .second, .val (.int (Int32.ofNat t))]) rfl ?_
    show Steps p.tables e below (T4.setTop (mkF m 33 #[.val (.ref a), .val (.int p1), .val (.int p2), .val (.long K), .second, .val (.int (Int32.ofNat t))] [])) _
    refine XS.aloadN X4.here hx rfl (hb hby d3_33) rfl rfl ?_
    exact kt)
  obtain ⟨T6, X6, e6, st6⟩ := getF X4 hx hZ hown (host := "") (Or.inl (hw _ (List.mem_of_getElem? (i := 16) rfl))) Via.refl e4 F_keys (g := (mkF m 34 #[.val (.ref a), .val (.int p1), .val (.int p2), .val (.long K), .second, .val (.int (Int32.ofNat t))] [(.ref a)])) rfl rfl (hb hby d3_34)
  have pre6s : ∀ tg, Steps p.tables e below (T6.setTop (mkF m 37 #[.val (.ref a), .val (.int p1), .val (.int p2), .val (.long K), .second, .val (.int (Int32.ofNat t))] [(.ref kb)])) tg → G tg := fun tg kt => pre5 tg (st6 tg kt)
  have pre7 : ∀ tg, Steps p.tables e below (T6.setTop (mkF m 39 #[.val (.ref a), .val (.int p1), .val (.int p2), .val (.long K), .second, .val (.int (Int32.ofNat t))] [(.int (Int32.ofNat t)), (.ref kb)])) tg → G tg := fun tg kt => pre6s tg (by
    show Steps p.tables e below (T6.setTop (mkF m 37 #[.val (.ref a), .val (.int p1), .val (.int p2), .val (.long K), .second, .val (.int (Int32.ofNat t))] [(.ref kb)])) _
    refine XS.iload X6.here hx rfl (hb hby d3_37) rfl ?_
    exact kt)
  have op_8 := A_k
  obtain ⟨cl_8, Ar_8, q_8, S_8, H_8⟩ := op_8
  have hin_8 := own_inb S_8 ht1
  have pre9 : ∀ tg, Steps p.tables e below (T6.setTop (mkF m 94 #[.val (.ref a), .val (.int p1), .val (.int p2), .val (.long K), .second, .val (.int (Int32.ofNat t))] [(.ref a)])) tg → G tg := fun tg kt => pre7 tg (by
    show Steps p.tables e below (T6.setTop (mkF m 39 #[.val (.ref a), .val (.int p1), .val (.int p2), .val (.long K), .second, .val (.int (Int32.ofNat t))] [(.int (Int32.ofNat t)), (.ref kb)])) _
    refine X6.laload hx (j := (Int32.ofNat t)) (v := (.long (f t))) (by rw [e6]; exact Ar_8.1) (State.isArrayOf_alike hZ.alike Ar_8.2.1) Ar_8.2.2 hin_8 (by rw [(own_ix ht1).1]; exact H_8 _ ht1) (g := (mkF m 39 #[.val (.ref a), .val (.int p1), .val (.int p2), .val (.long K), .second, .val (.int (Int32.ofNat t))] [(.int (Int32.ofNat t)), (.ref kb)])) rfl rfl (hb hby d3_39) _ ?_
    show Steps p.tables e below (T6.setTop (mkF m 40 #[.val (.ref a), .val (.int p1), .val (.int p2), .val (.long K), .second, .val (.int (Int32.ofNat t))] [(.long (f t))])) _
    refine XS.lconst X6.here hx rfl (hb hby d3_40) ?_
    show Steps p.tables e below (T6.setTop (mkF m 41 #[.val (.ref a), .val (.int p1), .val (.int p2), .val (.long K), .second, .val (.int (Int32.ofNat t))] [(.long (0 : Int64)), (.long (f t))])) _
    refine XS.lcmp X6.here hx rfl (hb hby d3_41) rfl ?_
    show Steps p.tables e below (T6.setTop (mkF m 42 #[.val (.ref a), .val (.int p1), .val (.int p2), .val (.long K), .second, .val (.int (Int32.ofNat t))] [(.int (lcmpW (f t) (0 : Int64)))])) _
    refine XS.ifYes X6.here hx rfl (pc0 := 42) (pc' := 93) rfl (hb hby d3_42) rfl ((if0 _ _).trans (feq (mt (lw_eq (f t) (0 : Int64)).mp hz)).2) (by decide) (by decide) ?_
    show Steps p.tables e below (T6.setTop (mkF m 93 #[.val (.ref a), .val (.int p1), .val (.int p2), .val (.long K), .second, .val (.int (Int32.ofNat t))] [])) _
    refine XS.aloadN X6.here hx rfl (hb hby d3_93) rfl rfl ?_
    exact kt)
  obtain ⟨T10, X10, e10, st10⟩ := getF X6 hx hZ hown (host := "") (Or.inl (hw _ (List.mem_of_getElem? (i := 18) rfl))) Via.refl e6 F_counts (g := (mkF m 94 #[.val (.ref a), .val (.int p1), .val (.int p2), .val (.long K), .second, .val (.int (Int32.ofNat t))] [(.ref a)])) rfl rfl (hb hby d3_94)
  have pre10s : ∀ tg, Steps p.tables e below (T10.setTop (mkF m 97 #[.val (.ref a), .val (.int p1), .val (.int p2), .val (.long K), .second, .val (.int (Int32.ofNat t))] [(.ref cb)])) tg → G tg := fun tg kt => pre9 tg (st10 tg kt)
  have pre11 : ∀ tg, Steps p.tables e below (T10.setTop (mkF m 100 #[.val (.ref a), .val (.int p1), .val (.int p2), .val (.long K), .second, .val (.int (Int32.ofNat t))] [(.int (Int32.ofNat t)), (.ref cb), (.int (Int32.ofNat t)), (.ref cb)])) tg → G tg := fun tg kt => pre10s tg (by
    show Steps p.tables e below (T10.setTop (mkF m 97 #[.val (.ref a), .val (.int p1), .val (.int p2), .val (.long K), .second, .val (.int (Int32.ofNat t))] [(.ref cb)])) _
    refine XS.iload X10.here hx rfl (hb hby d3_97) rfl ?_
    show Steps p.tables e below (T10.setTop (mkF m 99 #[.val (.ref a), .val (.int p1), .val (.int p2), .val (.long K), .second, .val (.int (Int32.ofNat t))] [(.int (Int32.ofNat t)), (.ref cb)])) _
    refine Jvm.Free.XT.dup2 X10.here hx rfl (hb hby d3_99) rfl rfl rfl ?_
    exact kt)
  have op_12 := A_c
  obtain ⟨cl_12, Ar_12, q_12, S_12, H_12⟩ := op_12
  have hin_12 := own_inb S_12 ht1
  have pre13 : ∀ tg, Steps p.tables e below (T10.setTop (mkF m 103 #[.val (.ref a), .val (.int p1), .val (.int p2), .val (.long K), .second, .val (.int (Int32.ofNat t))] [(.long ((g t) + (1 : Int64))), (.int (Int32.ofNat t)), (.ref cb)])) tg → G tg := fun tg kt => pre11 tg (by
    show Steps p.tables e below (T10.setTop (mkF m 100 #[.val (.ref a), .val (.int p1), .val (.int p2), .val (.long K), .second, .val (.int (Int32.ofNat t))] [(.int (Int32.ofNat t)), (.ref cb), (.int (Int32.ofNat t)), (.ref cb)])) _
    refine X10.laload hx (j := (Int32.ofNat t)) (v := (.long (g t))) (by rw [e10]; exact Ar_12.1) (State.isArrayOf_alike hZ.alike Ar_12.2.1) Ar_12.2.2 hin_12 (by rw [(own_ix ht1).1]; exact H_12 _ ht1) (g := (mkF m 100 #[.val (.ref a), .val (.int p1), .val (.int p2), .val (.long K), .second, .val (.int (Int32.ofNat t))] [(.int (Int32.ofNat t)), (.ref cb), (.int (Int32.ofNat t)), (.ref cb)])) rfl rfl (hb hby d3_100) _ ?_
    show Steps p.tables e below (T10.setTop (mkF m 101 #[.val (.ref a), .val (.int p1), .val (.int p2), .val (.long K), .second, .val (.int (Int32.ofNat t))] [(.long (g t)), (.int (Int32.ofNat t)), (.ref cb)])) _
    refine XS.lconst X10.here hx rfl (hb hby d3_101) ?_
    show Steps p.tables e below (T10.setTop (mkF m 102 #[.val (.ref a), .val (.int p1), .val (.int p2), .val (.long K), .second, .val (.int (Int32.ofNat t))] [(.long (1 : Int64)), (.long (g t)), (.int (Int32.ofNat t)), (.ref cb)])) _
    refine XS.ladd X10.here hx rfl (hb hby d3_102) rfl ?_
    exact kt)
  have op_14 := A_c
  obtain ⟨cl_14, Ar_14, q_14, S_14, H_14⟩ := op_14
  have hin_14 := own_inb S_14 ht1
  obtain ⟨T14, h14, X14, e14, W14, st14⟩ := stJ X10 hx hZ e10 Ar_14 (j := (Int32.ofNat t)) hin_14 (g := (mkF m 103 #[.val (.ref a), .val (.int p1), .val (.int p2), .val (.long K), .second, .val (.int (Int32.ofNat t))] [(.long ((g t) + (1 : Int64))), (.int (Int32.ofNat t)), (.ref cb)])) rfl rfl (hb hby d3_103)
  have pre14s : ∀ tg, Steps p.tables e below (T14.setTop (mkF m 104 #[.val (.ref a), .val (.int p1), .val (.int p2), .val (.long K), .second, .val (.int (Int32.ofNat t))] [])) tg → G tg := fun tg kt => pre13 tg (st14 tg kt)
  have E_a_15 := E_a.wr W14
  have F_nodes_16 := F_nodes.other W14 (Or.inl ne2)
  have F_bits_17 := F_bits.other W14 (Or.inl ne2)
  have F_keys_18 := F_keys.other W14 (Or.inl ne2)
  have F_counts_19 := F_counts.other W14 (Or.inl ne2)
  have F_pairs_20 := F_pairs.other W14 (Or.inl ne2)
  have A_k_21 := A_k.other W14 ne3
  have A14_cb := own_A.set Ar_14 q_14 S_14 H_14 ht1 W14
  have N14 := Fr.snoc X14 N4 O_cb
  have Z14 : n0 ≤ h14.size := Nat.le_trans Z0 (Keep.of_wr W14).1
  have K14 : Keep h0 h14 [a, kb, cb] := (Keep.refl h0 [a, kb, cb]).wr W14 (Or.inl (List.mem_of_getElem? (i := 2) rfl))
  obtain ⟨fs, hr, hrun, hended, hW, hsame⟩ := X14.leave (v := none) (fun _ => rfl)
  subst hG
  refine ⟨_, _, pre14s _ ?_, hrun, hended, _, _, rfl, ?_, ⟨_, rfl⟩, hW, hsame.mono (by decide) (by decide)⟩
  · skip
    show Steps p.tables e below (T14.setTop (mkF m 104 #[.val (.ref a), .val (.int p1), .val (.int p2), .val (.long K), .second, .val (.int (Int32.ofNat t))] [])) _
    exact X14.returnOut hx Bd.returns (hb hby d3_104) hr
  · show Q_rm3o Z a p1 p2 nn kb cb kA kC f g pr K t h0 n0 _ T14.heap _
    rw [e14]
    exact ⟨rfl, N14, K14, F_nodes_16, F_bits_17, F_keys_18, F_counts_19, F_pairs_20, A_k_21, A14_cb⟩
theorem pn_10 : plainName "com/example/convene/convene/PairCounts" = true := by first | (simp [plainName, overriddenIn]; done) | decide +kernel
theorem ef_10_R_I_I (m : MethodId) (x0 : Addr) (x1 : Int32) (x2 : Int32) : entryFrame m #[(.ref x0), (.int x1), (.int x2)] 3 = mkF m 0 #[.val (.ref x0), .val (.int x1), .val (.int x2)] [] := by first | (simp [entryFrame, mkF, argsToLocals, Value.category]; done) | rfl
theorem d10_0 : decode prog_23_method_5_code 0 = .ok (.aload_n 0, 1) := by decide +kernel
theorem d10_1 : decode prog_23_method_5_code 1 = .ok (.getfield 20, 3) := by decide +kernel
theorem d10_4 : decode prog_23_method_5_code 4 = .ok (.aload_n 0, 1) := by decide +kernel
theorem d10_5 : decode prog_23_method_5_code 5 = .ok (.aload_n 0, 1) := by decide +kernel
theorem d10_6 : decode prog_23_method_5_code 6 = .ok (.iload_n 1, 1) := by decide +kernel
theorem d10_7 : decode prog_23_method_5_code 7 = .ok (.iload_n 2, 1) := by decide +kernel
theorem d10_8 : decode prog_23_method_5_code 8 = .ok (.invokevirtual 35, 3) := by decide +kernel
theorem d10_11 : decode prog_23_method_5_code 11 = .ok (.invokevirtual 39, 3) := by decide +kernel
theorem d10_14 : decode prog_23_method_5_code 14 = .ok (.laload, 1) := by decide +kernel
theorem d10_15 : decode prog_23_method_5_code 15 = .ok (.lreturn, 1) := by decide +kernel
def Q_rm10 (Z : State) (a : Addr) (p1 p2 nn : Int32) (kb cb : Addr) (kA kC : ClassId) (f g : Nat → Int64) (pr : Int32) (K : Int64) (t : Nat) (h0 : Heap) (n0 : Nat) (v : Option Value) (h : Heap) (L : List Loc) : Prop := v = some (.long (g t)) ∧ Fr n0 L ∧ h = h0
set_option maxRecDepth 65536 in
set_option maxHeartbeats 40000000 in
theorem rm10 (l : Launch) (Z : State) (a0 : Array Value) (hw : ∀ d ∈ tables_1, d.before a0 Z = true) (ws : List Jvm.Cond) (a : Addr) (p1 p2 nn : Int32) (kb cb : Addr) (kA kC : ClassId) (f g : Nat → Int64) (pr : Int32) (K : Int64) (t : Nat) (h0 : Heap) (n0 : Nat) (Z0 : n0 ≤ h0.size) (E_a : Exa Z h0 a "com/example/convene/convene/PairCounts") (F_nodes : Fld Z h0 a "com/example/convene/convene/PairCounts" "nodes" "I" (.int nn)) (F_bits : Fld Z h0 a "com/example/convene/convene/PairCounts" "bits" "I" (.int (10 : Int32))) (F_keys : Fld Z h0 a "com/example/convene/convene/PairCounts" "keys" "[J" (.ref kb)) (F_counts : Fld Z h0 a "com/example/convene/convene/PairCounts" "counts" "[J" (.ref cb)) (F_pairs : Fld Z h0 a "com/example/convene/convene/PairCounts" "pairs" "I" (.int pr)) (A_k : own_A Z h0 kb kA f) (A_c : own_A Z h0 cb kC g) (hKey : own_key p1 p2 nn = K) (ht : own_probe f K 3 (own_hn K) = some t) (ht1 : t < 1024) :
    MetFree l (⟨"com/example/convene/convene/PairCounts", "count", "(II)J"⟩ : MethodName) (head1 (Jvm.Cond.code (⟨"com/example/convene/convene/PairCounts", "count", "(II)J"⟩ : MethodName) prog_23_method_5_code 3 (some .long) :: ws) ({ frames := 2, cells := 0, slots := 0, locals := 80 } : Room)) (fun argv U => argv = #[(.ref a), (.int p1), (.int p2)] ∧ Z.Warmed39 U.vm ∧ U.heap = h0) (fun _ _ _ _ _ => True) (fun _ U o U' => ∃ v L, o = .returned v ∧ Q_rm10 Z a p1 p2 nn kb cb kA kC f g pr K t h0 n0 v U'.heap L ∧ FrameEnd U o U' L ({ frames := 2, cells := 0, slots := 0, locals := 80 } : Room).cells ({ frames := 2, cells := 0, slots := 0, locals := 80 } : Room).slots) := by
  refine MetFree.of_bodySF (plainFor_of_name pn_10) hisR ?_
  intro p e s m args below meth c s₁ Bd hml0 hP hK
  obtain ⟨rfl, hZ, hh⟩ := hP
  have hx := Bd.exec
  have hby := Bd.bytes
  have hml : c.maxLocals = 3 := hml0
  have hown : s.vm.findClass "com/example/convene/convene/PairCounts" = some m.cls := findClass_of_methodNamed Bd.named
  have hnm := (name_of_methodNamed Bd.named Bd.method).1
  have X0 : Stand p l e ({ frames := 2, cells := 0, slots := 0, locals := 80 } : Room) s m #[(.ref a), (.int p1), (.int p2)] below meth c s₁ [] 0 0 := Stand.of_body Bd
  have e0 : s₁.heap = h0 := by rw [← hh, Bd.state]; rfl
  have N0 := Fr.nil n0
  obtain ⟨G, hG⟩ : ∃ G : State → Prop, G = fun tg => Steps p.tables e below (s₁.setTop (entryFrame m #[(.ref a), (.int p1), (.int p2)] 3)) tg := ⟨_, rfl⟩
  have pre0 : ∀ tg, Steps p.tables e below (s₁.setTop (mkF m 0 #[.val (.ref a), .val (.int p1), .val (.int p2)] [])) tg → G tg := fun tg kt => by rw [hG]; exact castTop (ef_10_R_I_I m a p1 p2) kt
  have pre1 : ∀ tg, Steps p.tables e below (s₁.setTop (mkF m 1 #[.val (.ref a), .val (.int p1), .val (.int p2)] [(.ref a)])) tg → G tg := fun tg kt => pre0 tg (by
    show Steps p.tables e below (s₁.setTop (mkF m 0 #[.val (.ref a), .val (.int p1), .val (.int p2)] [])) _
    refine XS.aloadN X0.here hx rfl (hb hby d10_0) rfl rfl ?_
    exact kt)
  obtain ⟨T2, X2, e2, st2⟩ := getF X0 hx hZ hown (host := "") (Or.inl (hw _ (List.mem_of_getElem? (i := 18) rfl))) Via.refl e0 F_counts (g := (mkF m 1 #[.val (.ref a), .val (.int p1), .val (.int p2)] [(.ref a)])) rfl rfl (hb hby d10_1)
  have pre2s : ∀ tg, Steps p.tables e below (T2.setTop (mkF m 4 #[.val (.ref a), .val (.int p1), .val (.int p2)] [(.ref cb)])) tg → G tg := fun tg kt => pre1 tg (st2 tg kt)
  have pre3 : ∀ tg, Steps p.tables e below (T2.setTop (mkF m 8 #[.val (.ref a), .val (.int p1), .val (.int p2)] [(.int p2), (.int p1), (.ref a), (.ref a), (.ref cb)])) tg → G tg := fun tg kt => pre2s tg (by
    show Steps p.tables e below (T2.setTop (mkF m 4 #[.val (.ref a), .val (.int p1), .val (.int p2)] [(.ref cb)])) _
    refine XS.aloadN X2.here hx rfl (hb hby d10_4) rfl rfl ?_
    show Steps p.tables e below (T2.setTop (mkF m 5 #[.val (.ref a), .val (.int p1), .val (.int p2)] [(.ref a), (.ref cb)])) _
    refine XS.aloadN X2.here hx rfl (hb hby d10_5) rfl rfl ?_
    show Steps p.tables e below (T2.setTop (mkF m 6 #[.val (.ref a), .val (.int p1), .val (.int p2)] [(.ref a), (.ref a), (.ref cb)])) _
    refine XS.iloadN X2.here hx rfl (hb hby d10_6) rfl ?_
    show Steps p.tables e below (T2.setTop (mkF m 7 #[.val (.ref a), .val (.int p1), .val (.int p2)] [(.int p1), (.ref a), (.ref a), (.ref cb)])) _
    refine XS.iloadN X2.here hx rfl (hb hby d10_7) rfl ?_
    exact kt)
  obtain ⟨cq4, q4, q4'⟩ := E_a.cell
  obtain ⟨_, _, ⟨T4, L4, k4, n4⟩, -, X4, ⟨Lc4, hQ4, l4, y4, z4⟩, st4⟩ := X2.privateBack hx (y := (⟨"com/example/convene/convene/PairCounts", "key", "(II)J"⟩ : MethodName)) hown (mvT hZ (hw _ (List.mem_of_getElem? (i := 25) rfl))) (mvT hZ (hw _ (List.mem_of_getElem? (i := 26) rfl))) (Jvm.Kit.selects_private (by decide) (mvT hZ (hw _ (List.mem_of_getElem? (i := 3) rfl))) (mvP hZ (hw _ (List.mem_of_getElem? (i := 27) rfl))) (mvT hZ (hw _ (List.mem_of_getElem? (i := 26) rfl)))) (Cond.privateMethod_at (mvP hZ (hw _ (List.mem_of_getElem? (i := 27) rfl)) (args := #[]))) (mvT hZ (hw _ (List.mem_of_getElem? (i := 28) rfl))) (by decide) (backOf (W := 2) (rm4 l Z a0 hw [] a p1 p2 nn h0 n0 Z0 F_nodes) hZ (hw _ (List.mem_of_getElem? (i := 28) rfl)) (hw _ (List.mem_of_getElem? (i := 4) rfl)) (by decide) (by decide)) (g := (mkF m 8 #[.val (.ref a), .val (.int p1), .val (.int p2)] [(.int p2), (.int p1), (.ref a), (.ref a), (.ref cb)])) rfl (by rw [hml]; rfl) (Steps.refl _) (a := a) (by rw [e2]; exact q4) q4' (argsL := [(.int p1), (.int p2)]) (rest := [(.ref a), (.ref cb)]) (lenOf pd_1 rfl) rfl (by show 2 * 0 + _ ≤ _; exact Nat.le_of_eq rfl) (hb hby d10_8) (fun _ _ => ⟨rfl, e2, (Nat.le_of_ble_eq_true rfl), (Nat.le_of_ble_eq_true rfl)⟩)
  dsimp only [Pt.U, Pt.locs, Pt.cells, Pt.slots] at X4 l4 y4 z4 st4 hQ4
  subst l4 y4 z4
  obtain ⟨hv4, N4q, e4⟩ := hQ4
  rw [hKey] at hv4
  subst hv4
  have N4 := Fr.app N0 N4q
  have pre4s : ∀ tg, Steps p.tables e below (T4.setTop (mkF m 11 #[.val (.ref a), .val (.int p1), .val (.int p2)] [(.long K), (.ref a), (.ref cb)])) tg → G tg := fun tg kt => pre3 tg (st4.trans kt)
  obtain ⟨cq5, q5, q5'⟩ := E_a.cell
  obtain ⟨_, _, ⟨T5, L5, k5, n5⟩, -, X5, ⟨Lc5, hQ5, l5, y5, z5⟩, st5⟩ := X4.privateBack hx (y := (⟨"com/example/convene/convene/PairCounts", "slot", "(J)I"⟩ : MethodName)) hown (mvT hZ (hw _ (List.mem_of_getElem? (i := 36) rfl))) (mvT hZ (hw _ (List.mem_of_getElem? (i := 37) rfl))) (Jvm.Kit.selects_private (by decide) (mvT hZ (hw _ (List.mem_of_getElem? (i := 3) rfl))) (mvP hZ (hw _ (List.mem_of_getElem? (i := 38) rfl))) (mvT hZ (hw _ (List.mem_of_getElem? (i := 37) rfl)))) (Cond.privateMethod_at (mvP hZ (hw _ (List.mem_of_getElem? (i := 38) rfl)) (args := #[]))) (mvT hZ (hw _ (List.mem_of_getElem? (i := 39) rfl))) (by decide) (backOf (W := 1) (rm7 l Z a0 hw [] a K kb kA f t h0 n0 Z0 F_bits F_keys A_k ht) hZ (hw _ (List.mem_of_getElem? (i := 39) rfl)) (hw _ (List.mem_of_getElem? (i := 4) rfl)) (by decide) (by decide)) (g := (mkF m 11 #[.val (.ref a), .val (.int p1), .val (.int p2)] [(.long K), (.ref a), (.ref cb)])) rfl (by rw [hml]; rfl) (Steps.refl _) (a := a) (by rw [e4]; exact q5) q5' (argsL := [(.long K)]) (rest := [(.ref cb)]) (lenOf pd_2 rfl) rfl (by show 2 * 0 + _ ≤ _; exact Nat.le_of_eq rfl) (hb hby d10_11) (fun _ _ => ⟨rfl, e4, (Nat.le_of_ble_eq_true rfl), (Nat.le_of_ble_eq_true rfl)⟩)
  dsimp only [Pt.U, Pt.locs, Pt.cells, Pt.slots] at X5 l5 y5 z5 st5 hQ5
  subst l5 y5 z5
  obtain ⟨rfl, N5q, e5⟩ := hQ5
  have N5 := Fr.app N4 N5q
  have pre5s : ∀ tg, Steps p.tables e below (T5.setTop (mkF m 14 #[.val (.ref a), .val (.int p1), .val (.int p2)] [(.int (Int32.ofNat t)), (.ref cb)])) tg → G tg := fun tg kt => pre4s tg (st5.trans kt)
  have op_6 := A_c
  obtain ⟨cl_6, Ar_6, q_6, S_6, H_6⟩ := op_6
  have hin_6 := own_inb S_6 ht1
  obtain ⟨fs, hr, hrun, hended, hW, hsame⟩ := X5.leave (v := some (.long (g t))) (fun h => by rw [Bd.returns] at h; cases h)
  subst hG
  refine ⟨_, _, pre5s _ ?_, hrun, hended, _, _, rfl, ?_, ⟨_, rfl⟩, hW, hsame.mono (by decide) (by decide)⟩
  · skip
    show Steps p.tables e below (T5.setTop (mkF m 14 #[.val (.ref a), .val (.int p1), .val (.int p2)] [(.int (Int32.ofNat t)), (.ref cb)])) _
    refine X5.laload hx (j := (Int32.ofNat t)) (v := (.long (g t))) (by rw [e5]; exact Ar_6.1) (State.isArrayOf_alike hZ.alike Ar_6.2.1) Ar_6.2.2 hin_6 (by rw [(own_ix ht1).1]; exact H_6 _ ht1) (g := (mkF m 14 #[.val (.ref a), .val (.int p1), .val (.int p2)] [(.int (Int32.ofNat t)), (.ref cb)])) rfl rfl (hb hby d10_14) _ ?_
    show Steps p.tables e below (T5.setTop (mkF m 15 #[.val (.ref a), .val (.int p1), .val (.int p2)] [(.long (g t))])) _
    exact X5.lreturnOut hx Bd.returns (hb hby d10_15) hr
  · show Q_rm10 Z a p1 p2 nn kb cb kA kC f g pr K t h0 n0 _ T5.heap _
    rw [e5]
    exact ⟨rfl, N5, rfl⟩
theorem pn_1 : plainName "com/example/convene/convene/PairCounts" = true := by first | (simp [plainName, overriddenIn]; done) | decide +kernel
theorem ef_1_R_I (m : MethodId) (x0 : Addr) (x1 : Int32) : entryFrame m #[(.ref x0), (.int x1)] 2 = mkF m 0 #[.val (.ref x0), .val (.int x1)] [] := by first | (simp [entryFrame, mkF, argsToLocals, Value.category]; done) | rfl
theorem d1_0 : decode prog_23_method_1_code 0 = .ok (.aload_n 0, 1) := by decide +kernel
theorem d1_1 : decode prog_23_method_1_code 1 = .ok (.invokespecial 1, 3) := by decide +kernel
theorem d1_4 : decode prog_23_method_1_code 4 = .ok (.aload_n 0, 1) := by decide +kernel
theorem d1_5 : decode prog_23_method_1_code 5 = .ok (.iload_n 1, 1) := by decide +kernel
theorem d1_6 : decode prog_23_method_1_code 6 = .ok (.putfield 7, 3) := by decide +kernel
theorem d1_9 : decode prog_23_method_1_code 9 = .ok (.aload_n 0, 1) := by decide +kernel
theorem d1_10 : decode prog_23_method_1_code 10 = .ok (.bipush 10, 2) := by decide +kernel
theorem d1_12 : decode prog_23_method_1_code 12 = .ok (.putfield 13, 3) := by decide +kernel
theorem d1_15 : decode prog_23_method_1_code 15 = .ok (.aload_n 0, 1) := by decide +kernel
theorem d1_16 : decode prog_23_method_1_code 16 = .ok (.iconst 1, 1) := by decide +kernel
theorem d1_17 : decode prog_23_method_1_code 17 = .ok (.aload_n 0, 1) := by decide +kernel
theorem d1_18 : decode prog_23_method_1_code 18 = .ok (.getfield 13, 3) := by decide +kernel
theorem d1_21 : decode prog_23_method_1_code 21 = .ok (.ishl, 1) := by decide +kernel
theorem d1_22 : decode prog_23_method_1_code 22 = .ok (.newarray .long, 2) := by decide +kernel
theorem d1_24 : decode prog_23_method_1_code 24 = .ok (.putfield 16, 3) := by decide +kernel
theorem d1_27 : decode prog_23_method_1_code 27 = .ok (.aload_n 0, 1) := by decide +kernel
theorem d1_28 : decode prog_23_method_1_code 28 = .ok (.iconst 1, 1) := by decide +kernel
theorem d1_29 : decode prog_23_method_1_code 29 = .ok (.aload_n 0, 1) := by decide +kernel
theorem d1_30 : decode prog_23_method_1_code 30 = .ok (.getfield 13, 3) := by decide +kernel
theorem d1_33 : decode prog_23_method_1_code 33 = .ok (.ishl, 1) := by decide +kernel
theorem d1_34 : decode prog_23_method_1_code 34 = .ok (.newarray .long, 2) := by decide +kernel
theorem d1_36 : decode prog_23_method_1_code 36 = .ok (.putfield 20, 3) := by decide +kernel
theorem d1_39 : decode prog_23_method_1_code 39 = .ok (.return_, 1) := by decide +kernel
def Q_rm1 (Z : State) (a : Addr) (nn : Int32) (h0 : Heap) (n0 : Nat) (v : Option Value) (h : Heap) (L : List Loc) : Prop := v = none ∧ Fr n0 L ∧ Keep h0 h [a] ∧ ∃ (kb cb : Addr) (kA kC : ClassId), n0 ≤ kb ∧ n0 ≤ cb ∧ a ≠ kb ∧ a ≠ cb ∧ kb ≠ cb ∧ Fld Z h a "com/example/convene/convene/PairCounts" "nodes" "I" (.int nn) ∧ Fld Z h a "com/example/convene/convene/PairCounts" "bits" "I" (.int (10 : Int32)) ∧ Fld Z h a "com/example/convene/convene/PairCounts" "keys" "[J" (.ref kb) ∧ Fld Z h a "com/example/convene/convene/PairCounts" "counts" "[J" (.ref cb) ∧ Fld Z h a "com/example/convene/convene/PairCounts" "pairs" "I" (.int (0 : Int32)) ∧ own_A Z h kb kA own_z ∧ own_A Z h cb kC own_z
set_option maxRecDepth 65536 in
set_option maxHeartbeats 40000000 in
theorem rm1 (l : Launch) (Z : State) (a0 : Array Value) (hw : ∀ d ∈ tables_1, d.before a0 Z = true) (ws : List Jvm.Cond) (a : Addr) (nn : Int32) (h0 : Heap) (n0 : Nat) (Z0 : n0 ≤ h0.size) (E_a : Exa Z h0 a "com/example/convene/convene/PairCounts") (F_nodes : Fld Z h0 a "com/example/convene/convene/PairCounts" "nodes" "I" (.int (0 : Int32))) (F_bits : Fld Z h0 a "com/example/convene/convene/PairCounts" "bits" "I" (.int (0 : Int32))) (F_keys : Fld Z h0 a "com/example/convene/convene/PairCounts" "keys" "[J" .null) (F_counts : Fld Z h0 a "com/example/convene/convene/PairCounts" "counts" "[J" .null) (F_pairs : Fld Z h0 a "com/example/convene/convene/PairCounts" "pairs" "I" (.int (0 : Int32))) (O_a : n0 ≤ a) :
    MetFree l (⟨"com/example/convene/convene/PairCounts", "<init>", "(I)V"⟩ : MethodName) (head1 (Jvm.Cond.code (⟨"com/example/convene/convene/PairCounts", "<init>", "(I)V"⟩ : MethodName) prog_23_method_1_code 2 none :: ws) ({ frames := 1, cells := 2, slots := 2048, locals := 12 } : Room)) (fun argv U => argv = #[(.ref a), (.int nn)] ∧ Z.Warmed39 U.vm ∧ U.heap = h0) (fun _ _ _ _ _ => True) (fun _ U o U' => ∃ v L, o = .returned v ∧ Q_rm1 Z a nn h0 n0 v U'.heap L ∧ FrameEnd U o U' L ({ frames := 1, cells := 2, slots := 2048, locals := 12 } : Room).cells ({ frames := 1, cells := 2, slots := 2048, locals := 12 } : Room).slots) := by
  refine MetFree.of_bodySF (plainFor_of_name pn_1) hisR ?_
  intro p e s m args below meth c s₁ Bd hml0 hP hK
  obtain ⟨rfl, hZ, hh⟩ := hP
  have hx := Bd.exec
  have hby := Bd.bytes
  have hml : c.maxLocals = 2 := hml0
  have hown : s.vm.findClass "com/example/convene/convene/PairCounts" = some m.cls := findClass_of_methodNamed Bd.named
  have hnm := (name_of_methodNamed Bd.named Bd.method).1
  have X0 : Stand p l e ({ frames := 1, cells := 2, slots := 2048, locals := 12 } : Room) s m #[(.ref a), (.int nn)] below meth c s₁ [] 0 0 := Stand.of_body Bd
  have e0 : s₁.heap = h0 := by rw [← hh, Bd.state]; rfl
  have N0 := Fr.nil n0
  obtain ⟨G, hG⟩ : ∃ G : State → Prop, G = fun tg => Steps p.tables e below (s₁.setTop (entryFrame m #[(.ref a), (.int nn)] 2)) tg := ⟨_, rfl⟩
  have pre0 : ∀ tg, Steps p.tables e below (s₁.setTop (mkF m 0 #[.val (.ref a), .val (.int nn)] [])) tg → G tg := fun tg kt => by rw [hG]; exact castTop (ef_1_R_I m a nn) kt
  have pre1 : ∀ tg, Steps p.tables e below (s₁.setTop (mkF m 1 #[.val (.ref a), .val (.int nn)] [(.ref a)])) tg → G tg := fun tg kt => pre0 tg (by
    show Steps p.tables e below (s₁.setTop (mkF m 0 #[.val (.ref a), .val (.int nn)] [])) _
    refine XS.aloadN X0.here hx rfl (hb hby d1_0) rfl rfl ?_
    exact kt)
  obtain ⟨T2, X2, e2, st2⟩ := initO X0 hx hZ hown (hw _ (List.mem_of_getElem? (i := 8) rfl)) (hw _ (List.mem_of_getElem? (i := 9) rfl)) (hw _ (List.mem_of_getElem? (i := 10) rfl)) e0 (g := (mkF m 1 #[.val (.ref a), .val (.int nn)] [(.ref a)])) rfl (by rw [hml]; rfl) rfl (hb hby d1_1) (by decide) (W := 0) (by show 2 * 0 + _ ≤ _; exact Nat.le_of_eq rfl) (by decide)
  have pre2s : ∀ tg, Steps p.tables e below (T2.setTop (mkF m 4 #[.val (.ref a), .val (.int nn)] [])) tg → G tg := fun tg kt => pre1 tg (st2 tg kt)
  have pre3 : ∀ tg, Steps p.tables e below (T2.setTop (mkF m 6 #[.val (.ref a), .val (.int nn)] [(.int nn), (.ref a)])) tg → G tg := fun tg kt => pre2s tg (by
    show Steps p.tables e below (T2.setTop (mkF m 4 #[.val (.ref a), .val (.int nn)] [])) _
    refine XS.aloadN X2.here hx rfl (hb hby d1_4) rfl rfl ?_
    show Steps p.tables e below (T2.setTop (mkF m 5 #[.val (.ref a), .val (.int nn)] [(.ref a)])) _
    refine XS.iloadN X2.here hx rfl (hb hby d1_5) rfl ?_
    exact kt)
  obtain ⟨T4, h4, X4, e4, W4, st4⟩ := putF X2 hx hZ hown (host := "") (Or.inl (hw _ (List.mem_of_getElem? (i := 11) rfl))) Via.refl e2 F_nodes E_a (Or.inr ⟨(hw _ (List.mem_of_getElem? (i := 12) rfl)), rfl, hnm⟩) (hw _ (List.mem_of_getElem? (i := 3) rfl)) (ty := .int) (by decide) rfl rfl (g := (mkF m 6 #[.val (.ref a), .val (.int nn)] [(.int nn), (.ref a)])) rfl rfl (hb hby d1_6)
  have pre4s : ∀ tg, Steps p.tables e below (T4.setTop (mkF m 9 #[.val (.ref a), .val (.int nn)] [])) tg → G tg := fun tg kt => pre3 tg (st4 tg kt)
  have E_a_5 := E_a.wr W4
  have F_nodes_6 := F_nodes.same W4
  have F_bits_7 := F_bits.other W4 (Or.inr (slot_ne (Or.inl (hw _ (List.mem_of_getElem? (i := 14) rfl))) (Or.inr (hw _ (List.mem_of_getElem? (i := 12) rfl))) (by decide) (t := .int) (t' := .int) (by decide) (by decide)))
  have F_keys_8 := F_keys.other W4 (Or.inr (slot_ne (Or.inl (hw _ (List.mem_of_getElem? (i := 17) rfl))) (Or.inr (hw _ (List.mem_of_getElem? (i := 12) rfl))) (by decide) (t := (.array .long)) (t' := .int) (by decide) (by decide)))
  have F_counts_9 := F_counts.other W4 (Or.inr (slot_ne (Or.inl (hw _ (List.mem_of_getElem? (i := 19) rfl))) (Or.inr (hw _ (List.mem_of_getElem? (i := 12) rfl))) (by decide) (t := (.array .long)) (t' := .int) (by decide) (by decide)))
  have F_pairs_10 := F_pairs.other W4 (Or.inr (slot_ne (Or.inl (hw _ (List.mem_of_getElem? (i := 42) rfl))) (Or.inr (hw _ (List.mem_of_getElem? (i := 12) rfl))) (by decide) (t := .int) (t' := .int) (by decide) (by decide)))
  have N4 := Fr.snoc X4 N0 O_a
  have Z4 : n0 ≤ h4.size := Nat.le_trans Z0 (Keep.of_wr W4).1
  have K4 : Keep h0 h4 [a] := (Keep.refl h0 [a]).wr W4 (Or.inl (List.mem_of_getElem? (i := 0) rfl))
  have pre11 : ∀ tg, Steps p.tables e below (T4.setTop (mkF m 12 #[.val (.ref a), .val (.int nn)] [(.int (10 : Int32)), (.ref a)])) tg → G tg := fun tg kt => pre4s tg (by
    show Steps p.tables e below (T4.setTop (mkF m 9 #[.val (.ref a), .val (.int nn)] [])) _
    refine XS.aloadN X4.here hx rfl (hb hby d1_9) rfl rfl ?_
    show Steps p.tables e below (T4.setTop (mkF m 10 #[.val (.ref a), .val (.int nn)] [(.ref a)])) _
    refine XS.bipush X4.here hx rfl (hb hby d1_10) ?_
    exact kt)
  obtain ⟨T12, h12, X12, e12, W12, st12⟩ := putF X4 hx hZ hown (host := "") (Or.inl (hw _ (List.mem_of_getElem? (i := 13) rfl))) Via.refl e4 F_bits_7 E_a_5 (Or.inl (hw _ (List.mem_of_getElem? (i := 14) rfl))) (hw _ (List.mem_of_getElem? (i := 3) rfl)) (ty := .int) (by decide) rfl rfl (g := (mkF m 12 #[.val (.ref a), .val (.int nn)] [(.int (10 : Int32)), (.ref a)])) rfl rfl (hb hby d1_12)
  have pre12s : ∀ tg, Steps p.tables e below (T12.setTop (mkF m 15 #[.val (.ref a), .val (.int nn)] [])) tg → G tg := fun tg kt => pre11 tg (st12 tg kt)
  have E_a_13 := E_a_5.wr W12
  have F_nodes_14 := F_nodes_6.other W12 (Or.inr (slot_ne (Or.inr (hw _ (List.mem_of_getElem? (i := 12) rfl))) (Or.inl (hw _ (List.mem_of_getElem? (i := 14) rfl))) (by decide) (t := .int) (t' := .int) (by decide) (by decide)))
  have F_bits_15 := F_bits_7.same W12
  have F_keys_16 := F_keys_8.other W12 (Or.inr (slot_ne (Or.inl (hw _ (List.mem_of_getElem? (i := 17) rfl))) (Or.inl (hw _ (List.mem_of_getElem? (i := 14) rfl))) (by decide) (t := (.array .long)) (t' := .int) (by decide) (by decide)))
  have F_counts_17 := F_counts_9.other W12 (Or.inr (slot_ne (Or.inl (hw _ (List.mem_of_getElem? (i := 19) rfl))) (Or.inl (hw _ (List.mem_of_getElem? (i := 14) rfl))) (by decide) (t := (.array .long)) (t' := .int) (by decide) (by decide)))
  have F_pairs_18 := F_pairs_10.other W12 (Or.inr (slot_ne (Or.inl (hw _ (List.mem_of_getElem? (i := 42) rfl))) (Or.inl (hw _ (List.mem_of_getElem? (i := 14) rfl))) (by decide) (t := .int) (t' := .int) (by decide) (by decide)))
  have N12 := Fr.snoc X12 N4 O_a
  have Z12 : n0 ≤ h12.size := Nat.le_trans Z4 (Keep.of_wr W12).1
  have K12 : Keep h0 h12 [a] := K4.wr W12 (Or.inl (List.mem_of_getElem? (i := 0) rfl))
  have pre19 : ∀ tg, Steps p.tables e below (T12.setTop (mkF m 18 #[.val (.ref a), .val (.int nn)] [(.ref a), (.int (1 : Int32)), (.ref a)])) tg → G tg := fun tg kt => pre12s tg (by
    show Steps p.tables e below (T12.setTop (mkF m 15 #[.val (.ref a), .val (.int nn)] [])) _
    refine XS.aloadN X12.here hx rfl (hb hby d1_15) rfl rfl ?_
    show Steps p.tables e below (T12.setTop (mkF m 16 #[.val (.ref a), .val (.int nn)] [(.ref a)])) _
    refine XS.iconst X12.here hx rfl (hb hby d1_16) ?_
    show Steps p.tables e below (T12.setTop (mkF m 17 #[.val (.ref a), .val (.int nn)] [(.int (1 : Int32)), (.ref a)])) _
    refine XS.aloadN X12.here hx rfl (hb hby d1_17) rfl rfl ?_
    exact kt)
  obtain ⟨T20, X20, e20, st20⟩ := getF X12 hx hZ hown (host := "") (Or.inl (hw _ (List.mem_of_getElem? (i := 13) rfl))) Via.refl e12 F_bits_15 (g := (mkF m 18 #[.val (.ref a), .val (.int nn)] [(.ref a), (.int (1 : Int32)), (.ref a)])) rfl rfl (hb hby d1_18)
  have pre20s : ∀ tg, Steps p.tables e below (T20.setTop (mkF m 21 #[.val (.ref a), .val (.int nn)] [(.int (10 : Int32)), (.int (1 : Int32)), (.ref a)])) tg → G tg := fun tg kt => pre19 tg (st20 tg kt)
  have pre21 : ∀ tg, Steps p.tables e below (T20.setTop (mkF m 22 #[.val (.ref a), .val (.int nn)] [(.int (1024 : Int32)), (.ref a)])) tg → G tg := fun tg kt => pre20s tg (by
    show Steps p.tables e below (T20.setTop (mkF m 21 #[.val (.ref a), .val (.int nn)] [(.int (10 : Int32)), (.int (1 : Int32)), (.ref a)])) _
    refine XS.ishl X20.here hx rfl (hb hby d1_21) rfl ?_
    exact kt)
  obtain ⟨T22, h22, k22, X22, e22, E22, A22, st22⟩ := newP X20 hx hZ (hw _ (List.mem_of_getElem? (i := 15) rfl)) e20 (g := (mkF m 22 #[.val (.ref a), .val (.int nn)] [(.int (1024 : Int32)), (.ref a)])) rfl (hb hby d1_22) rfl (by decide) (cap := 1024) (by decide) (by decide) (by decide) (by decide)
  obtain ⟨kb, g22⟩ : ∃ z, z = h12.size := ⟨_, rfl⟩
  rw [← g22] at A22 st22
  have O_kb : n0 ≤ kb := Nat.le_trans Z12 (Nat.le_of_eq g22.symm)
  have Z22 : n0 ≤ h22.size := Nat.le_trans Z12 E22.1
  have ne_a_kb : a ≠ kb := Nat.ne_of_lt (Nat.lt_of_lt_of_le E_a_13.lt (Nat.le_of_eq g22.symm))
  have S_kb : h0.size ≤ kb := Nat.le_trans K12.1 (Nat.le_of_eq g22.symm)
  have pre22s : ∀ tg, Steps p.tables e below (T22.setTop (mkF m 24 #[.val (.ref a), .val (.int nn)] [(.ref kb), (.ref a)])) tg → G tg := fun tg kt => pre21 tg (st22 tg kt)
  have E_a_23 := E_a_13.ext E22
  have F_nodes_24 := F_nodes_14.ext E22
  have F_bits_25 := F_bits_15.ext E22
  have F_keys_26 := F_keys_16.ext E22
  have F_counts_27 := F_counts_17.ext E22
  have F_pairs_28 := F_pairs_18.ext E22
  have A_kb := own_A.new A22
  have K22 : Keep h0 h22 [a] := K12.ext E22
  obtain ⟨T29, h29, X29, e29, W29, st29⟩ := putF X22 hx hZ hown (host := "") (Or.inl (hw _ (List.mem_of_getElem? (i := 16) rfl))) Via.refl e22 F_keys_26 E_a_23 (Or.inl (hw _ (List.mem_of_getElem? (i := 17) rfl))) (hw _ (List.mem_of_getElem? (i := 3) rfl)) (ty := (.array .long)) (by decide) rfl rfl (g := (mkF m 24 #[.val (.ref a), .val (.int nn)] [(.ref kb), (.ref a)])) rfl rfl (hb hby d1_24)
  have pre29s : ∀ tg, Steps p.tables e below (T29.setTop (mkF m 27 #[.val (.ref a), .val (.int nn)] [])) tg → G tg := fun tg kt => pre22s tg (st29 tg kt)
  have E_a_30 := E_a_23.wr W29
  have F_nodes_31 := F_nodes_24.other W29 (Or.inr (slot_ne (Or.inr (hw _ (List.mem_of_getElem? (i := 12) rfl))) (Or.inl (hw _ (List.mem_of_getElem? (i := 17) rfl))) (by decide) (t := .int) (t' := (.array .long)) (by decide) (by decide)))
  have F_bits_32 := F_bits_25.other W29 (Or.inr (slot_ne (Or.inl (hw _ (List.mem_of_getElem? (i := 14) rfl))) (Or.inl (hw _ (List.mem_of_getElem? (i := 17) rfl))) (by decide) (t := .int) (t' := (.array .long)) (by decide) (by decide)))
  have F_keys_33 := F_keys_26.same W29
  have F_counts_34 := F_counts_27.other W29 (Or.inr (slot_ne (Or.inl (hw _ (List.mem_of_getElem? (i := 19) rfl))) (Or.inl (hw _ (List.mem_of_getElem? (i := 17) rfl))) (by decide) (t := (.array .long)) (t' := (.array .long)) (by decide) (by decide)))
  have F_pairs_35 := F_pairs_28.other W29 (Or.inr (slot_ne (Or.inl (hw _ (List.mem_of_getElem? (i := 42) rfl))) (Or.inl (hw _ (List.mem_of_getElem? (i := 17) rfl))) (by decide) (t := .int) (t' := (.array .long)) (by decide) (by decide)))
  have A_kb_36 := A_kb.other W29 (Ne.symm ne_a_kb)
  have N29 := Fr.snoc X29 N12 O_a
  have Z29 : n0 ≤ h29.size := Nat.le_trans Z22 (Keep.of_wr W29).1
  have K29 : Keep h0 h29 [a] := K22.wr W29 (Or.inl (List.mem_of_getElem? (i := 0) rfl))
  have pre37 : ∀ tg, Steps p.tables e below (T29.setTop (mkF m 30 #[.val (.ref a), .val (.int nn)] [(.ref a), (.int (1 : Int32)), (.ref a)])) tg → G tg := fun tg kt => pre29s tg (by
    show Steps p.tables e below (T29.setTop (mkF m 27 #[.val (.ref a), .val (.int nn)] [])) _
    refine XS.aloadN X29.here hx rfl (hb hby d1_27) rfl rfl ?_
    show Steps p.tables e below (T29.setTop (mkF m 28 #[.val (.ref a), .val (.int nn)] [(.ref a)])) _
    refine XS.iconst X29.here hx rfl (hb hby d1_28) ?_
    show Steps p.tables e below (T29.setTop (mkF m 29 #[.val (.ref a), .val (.int nn)] [(.int (1 : Int32)), (.ref a)])) _
    refine XS.aloadN X29.here hx rfl (hb hby d1_29) rfl rfl ?_
    exact kt)
  obtain ⟨T38, X38, e38, st38⟩ := getF X29 hx hZ hown (host := "") (Or.inl (hw _ (List.mem_of_getElem? (i := 13) rfl))) Via.refl e29 F_bits_32 (g := (mkF m 30 #[.val (.ref a), .val (.int nn)] [(.ref a), (.int (1 : Int32)), (.ref a)])) rfl rfl (hb hby d1_30)
  have pre38s : ∀ tg, Steps p.tables e below (T38.setTop (mkF m 33 #[.val (.ref a), .val (.int nn)] [(.int (10 : Int32)), (.int (1 : Int32)), (.ref a)])) tg → G tg := fun tg kt => pre37 tg (st38 tg kt)
  have pre39 : ∀ tg, Steps p.tables e below (T38.setTop (mkF m 34 #[.val (.ref a), .val (.int nn)] [(.int (1024 : Int32)), (.ref a)])) tg → G tg := fun tg kt => pre38s tg (by
    show Steps p.tables e below (T38.setTop (mkF m 33 #[.val (.ref a), .val (.int nn)] [(.int (10 : Int32)), (.int (1 : Int32)), (.ref a)])) _
    refine XS.ishl X38.here hx rfl (hb hby d1_33) rfl ?_
    exact kt)
  obtain ⟨T40, h40, k40, X40, e40, E40, A40, st40⟩ := newP X38 hx hZ (hw _ (List.mem_of_getElem? (i := 15) rfl)) e38 (g := (mkF m 34 #[.val (.ref a), .val (.int nn)] [(.int (1024 : Int32)), (.ref a)])) rfl (hb hby d1_34) rfl (by decide) (cap := 1024) (by decide) (by decide) (by decide) (by decide)
  obtain ⟨cb, g40⟩ : ∃ z, z = h29.size := ⟨_, rfl⟩
  rw [← g40] at A40 st40
  have O_cb : n0 ≤ cb := Nat.le_trans Z29 (Nat.le_of_eq g40.symm)
  have Z40 : n0 ≤ h40.size := Nat.le_trans Z29 E40.1
  have ne_a_cb : a ≠ cb := Nat.ne_of_lt (Nat.lt_of_lt_of_le E_a_30.lt (Nat.le_of_eq g40.symm))
  have ne_kb_cb : kb ≠ cb := Nat.ne_of_lt (Nat.lt_of_lt_of_le A_kb_36.lt (Nat.le_of_eq g40.symm))
  have S_cb : h0.size ≤ cb := Nat.le_trans K29.1 (Nat.le_of_eq g40.symm)
  have pre40s : ∀ tg, Steps p.tables e below (T40.setTop (mkF m 36 #[.val (.ref a), .val (.int nn)] [(.ref cb), (.ref a)])) tg → G tg := fun tg kt => pre39 tg (st40 tg kt)
  have E_a_41 := E_a_30.ext E40
  have F_nodes_42 := F_nodes_31.ext E40
  have F_bits_43 := F_bits_32.ext E40
  have F_keys_44 := F_keys_33.ext E40
  have F_counts_45 := F_counts_34.ext E40
  have F_pairs_46 := F_pairs_35.ext E40
  have A_kb_47 := A_kb_36.ext E40
  have A_cb := own_A.new A40
  have K40 : Keep h0 h40 [a] := K29.ext E40
  obtain ⟨T48, h48, X48, e48, W48, st48⟩ := putF X40 hx hZ hown (host := "") (Or.inl (hw _ (List.mem_of_getElem? (i := 18) rfl))) Via.refl e40 F_counts_45 E_a_41 (Or.inl (hw _ (List.mem_of_getElem? (i := 19) rfl))) (hw _ (List.mem_of_getElem? (i := 3) rfl)) (ty := (.array .long)) (by decide) rfl rfl (g := (mkF m 36 #[.val (.ref a), .val (.int nn)] [(.ref cb), (.ref a)])) rfl rfl (hb hby d1_36)
  have pre48s : ∀ tg, Steps p.tables e below (T48.setTop (mkF m 39 #[.val (.ref a), .val (.int nn)] [])) tg → G tg := fun tg kt => pre40s tg (st48 tg kt)
  have E_a_49 := E_a_41.wr W48
  have F_nodes_50 := F_nodes_42.other W48 (Or.inr (slot_ne (Or.inr (hw _ (List.mem_of_getElem? (i := 12) rfl))) (Or.inl (hw _ (List.mem_of_getElem? (i := 19) rfl))) (by decide) (t := .int) (t' := (.array .long)) (by decide) (by decide)))
  have F_bits_51 := F_bits_43.other W48 (Or.inr (slot_ne (Or.inl (hw _ (List.mem_of_getElem? (i := 14) rfl))) (Or.inl (hw _ (List.mem_of_getElem? (i := 19) rfl))) (by decide) (t := .int) (t' := (.array .long)) (by decide) (by decide)))
  have F_keys_52 := F_keys_44.other W48 (Or.inr (slot_ne (Or.inl (hw _ (List.mem_of_getElem? (i := 17) rfl))) (Or.inl (hw _ (List.mem_of_getElem? (i := 19) rfl))) (by decide) (t := (.array .long)) (t' := (.array .long)) (by decide) (by decide)))
  have F_counts_53 := F_counts_45.same W48
  have F_pairs_54 := F_pairs_46.other W48 (Or.inr (slot_ne (Or.inl (hw _ (List.mem_of_getElem? (i := 42) rfl))) (Or.inl (hw _ (List.mem_of_getElem? (i := 19) rfl))) (by decide) (t := .int) (t' := (.array .long)) (by decide) (by decide)))
  have A_kb_55 := A_kb_47.other W48 (Ne.symm ne_a_kb)
  have A_cb_56 := A_cb.other W48 (Ne.symm ne_a_cb)
  have N48 := Fr.snoc X48 N29 O_a
  have Z48 : n0 ≤ h48.size := Nat.le_trans Z40 (Keep.of_wr W48).1
  have K48 : Keep h0 h48 [a] := K40.wr W48 (Or.inl (List.mem_of_getElem? (i := 0) rfl))
  obtain ⟨fs, hr, hrun, hended, hW, hsame⟩ := X48.leave (v := none) (fun _ => rfl)
  subst hG
  refine ⟨_, _, pre48s _ ?_, hrun, hended, _, _, rfl, ?_, ⟨_, rfl⟩, hW, hsame.mono (by decide) (by decide)⟩
  · skip
    show Steps p.tables e below (T48.setTop (mkF m 39 #[.val (.ref a), .val (.int nn)] [])) _
    exact X48.returnOut hx Bd.returns (hb hby d1_39) hr
  · show Q_rm1 Z a nn h0 n0 _ T48.heap _
    rw [e48]
    exact ⟨rfl, N48, K48, kb, cb, _, _, O_kb, O_cb, ne_a_kb, ne_a_cb, ne_kb_cb, F_nodes_50, F_bits_51, F_keys_52, F_counts_53, F_pairs_54, A_kb_55, A_cb_56⟩
theorem pn_8 : plainName "com/example/convene/convene/PairCountsCountPinLaw" = true := by first | (simp [plainName, overriddenIn]; done) | decide +kernel
theorem ef_8_I_I_I_I_I (m : MethodId) (x0 : Int32) (x1 : Int32) (x2 : Int32) (x3 : Int32) (x4 : Int32) : entryFrame m #[(.int x0), (.int x1), (.int x2), (.int x3), (.int x4)] 5 = mkF m 0 #[.val (.int x0), .val (.int x1), .val (.int x2), .val (.int x3), .val (.int x4)] [] := by first | (simp [entryFrame, mkF, argsToLocals, Value.category]; done) | rfl
theorem d8_0 : decode method_2_code 0 = .ok (.iload_n 0, 1) := by decide +kernel
theorem d8_1 : decode method_2_code 1 = .ok (.ifCond .ne 5, 3) := by decide +kernel
theorem d8_4 : decode method_2_code 4 = .ok (.iload_n 1, 1) := by decide +kernel
theorem d8_5 : decode method_2_code 5 = .ok (.ireturn, 1) := by decide +kernel
theorem d8_6 : decode method_2_code 6 = .ok (.iload_n 0, 1) := by decide +kernel
theorem d8_7 : decode method_2_code 7 = .ok (.iconst 1, 1) := by decide +kernel
theorem d8_8 : decode method_2_code 8 = .ok (.if_icmp .ne 5, 3) := by decide +kernel
theorem d8_11 : decode method_2_code 11 = .ok (.iload_n 2, 1) := by decide +kernel
theorem d8_12 : decode method_2_code 12 = .ok (.ireturn, 1) := by decide +kernel
theorem d8_13 : decode method_2_code 13 = .ok (.iload_n 0, 1) := by decide +kernel
theorem d8_14 : decode method_2_code 14 = .ok (.iconst 2, 1) := by decide +kernel
theorem d8_15 : decode method_2_code 15 = .ok (.if_icmp .ne 5, 3) := by decide +kernel
theorem d8_18 : decode method_2_code 18 = .ok (.iload_n 3, 1) := by decide +kernel
theorem d8_19 : decode method_2_code 19 = .ok (.ireturn, 1) := by decide +kernel
theorem d8_20 : decode method_2_code 20 = .ok (.iload 4, 2) := by decide +kernel
theorem d8_22 : decode method_2_code 22 = .ok (.ireturn, 1) := by decide +kernel
def Q_rm8 (Z : State) (i p1 p2 p3 p4 : Int32) (h0 : Heap) (n0 : Nat) (v : Option Value) (h : Heap) (L : List Loc) : Prop := ∃ r : Int32, v = some (.int r) ∧ Fr n0 L ∧ h = h0 ∧ (r = p1 ∨ r = p2 ∨ r = p3 ∨ r = p4)
set_option maxRecDepth 65536 in
set_option maxHeartbeats 40000000 in
theorem rm8 (l : Launch) (Z : State) (a0 : Array Value) (hw : ∀ d ∈ tables_1, d.before a0 Z = true) (ws : List Jvm.Cond) (i p1 p2 p3 p4 : Int32) (h0 : Heap) (n0 : Nat) (Z0 : n0 ≤ h0.size)  :
    MetFree l (⟨"com/example/convene/convene/PairCountsCountPinLaw", "pick", "(IIIII)I"⟩ : MethodName) (head1 (Jvm.Cond.code (⟨"com/example/convene/convene/PairCountsCountPinLaw", "pick", "(IIIII)I"⟩ : MethodName) method_2_code 5 (some .int) :: ws) ({ frames := 0, cells := 0, slots := 0, locals := 0 } : Room)) (fun argv U => argv = #[(.int i), (.int p1), (.int p2), (.int p3), (.int p4)] ∧ Z.Warmed39 U.vm ∧ U.heap = h0) (fun _ _ _ _ _ => True) (fun _ U o U' => ∃ v L, o = .returned v ∧ Q_rm8 Z i p1 p2 p3 p4 h0 n0 v U'.heap L ∧ FrameEnd U o U' L ({ frames := 0, cells := 0, slots := 0, locals := 0 } : Room).cells ({ frames := 0, cells := 0, slots := 0, locals := 0 } : Room).slots) := by
  refine MetFree.of_bodySF (plainFor_of_name pn_8) hisR ?_
  intro p e s m args below meth c s₁ Bd hml0 hP hK
  obtain ⟨rfl, hZ, hh⟩ := hP
  have hx := Bd.exec
  have hby := Bd.bytes
  have hml : c.maxLocals = 5 := hml0
  have hown : s.vm.findClass "com/example/convene/convene/PairCountsCountPinLaw" = some m.cls := findClass_of_methodNamed Bd.named
  have hnm := (name_of_methodNamed Bd.named Bd.method).1
  have X0 : Stand p l e ({ frames := 0, cells := 0, slots := 0, locals := 0 } : Room) s m #[(.int i), (.int p1), (.int p2), (.int p3), (.int p4)] below meth c s₁ [] 0 0 := Stand.of_body Bd
  have e0 : s₁.heap = h0 := by rw [← hh, Bd.state]; rfl
  have N0 := Fr.nil n0
  obtain ⟨G, hG⟩ : ∃ G : State → Prop, G = fun tg => Steps p.tables e below (s₁.setTop (entryFrame m #[(.int i), (.int p1), (.int p2), (.int p3), (.int p4)] 5)) tg := ⟨_, rfl⟩
  have pre0 : ∀ tg, Steps p.tables e below (s₁.setTop (mkF m 0 #[.val (.int i), .val (.int p1), .val (.int p2), .val (.int p3), .val (.int p4)] [])) tg → G tg := fun tg kt => by rw [hG]; exact castTop (ef_8_I_I_I_I_I m i p1 p2 p3 p4) kt
  have pre1 : ∀ tg, Steps p.tables e below (s₁.setTop (mkF m 1 #[.val (.int i), .val (.int p1), .val (.int p2), .val (.int p3), .val (.int p4)] [(.int i)])) tg → G tg := fun tg kt => pre0 tg (by
    show Steps p.tables e below (s₁.setTop (mkF m 0 #[.val (.int i), .val (.int p1), .val (.int p2), .val (.int p3), .val (.int p4)] [])) _
    refine XS.iloadN X0.here hx rfl (hb hby d8_0) rfl ?_
    exact kt)
  by_cases c1 : i = (0 : Int32)
  · -- c1
    obtain ⟨fs, hr, hrun, hended, hW, hsame⟩ := X0.leave (v := some (.int p1)) (fun h => by rw [Bd.returns] at h; cases h)
    subst hG
    refine ⟨_, _, pre1 _ ?_, hrun, hended, _, _, rfl, ?_, ⟨_, rfl⟩, hW, hsame.mono (by decide) (by decide)⟩
    · skip
      show Steps p.tables e below (s₁.setTop (mkF m 1 #[.val (.int i), .val (.int p1), .val (.int p2), .val (.int p3), .val (.int p4)] [(.int i)])) _
      refine XS.ifNo X0.here hx rfl (hb hby d8_1) rfl ((if0 _ _).trans (teq c1).2) ?_
      show Steps p.tables e below (s₁.setTop (mkF m 4 #[.val (.int i), .val (.int p1), .val (.int p2), .val (.int p3), .val (.int p4)] [])) _
      refine XS.iloadN X0.here hx rfl (hb hby d8_4) rfl ?_
      show Steps p.tables e below (s₁.setTop (mkF m 5 #[.val (.int i), .val (.int p1), .val (.int p2), .val (.int p3), .val (.int p4)] [(.int p1)])) _
      exact retI X0 hx Bd.returns (hb hby d8_5) hr
    · show Q_rm8 Z i p1 p2 p3 p4 h0 n0 _ s₁.heap _
      rw [e0]
      exact ⟨_, rfl, N0, rfl, by simp⟩
  · -- not c1
    have pre2 : ∀ tg, Steps p.tables e below (s₁.setTop (mkF m 8 #[.val (.int i), .val (.int p1), .val (.int p2), .val (.int p3), .val (.int p4)] [(.int (1 : Int32)), (.int i)])) tg → G tg := fun tg kt => pre1 tg (by
      show Steps p.tables e below (s₁.setTop (mkF m 1 #[.val (.int i), .val (.int p1), .val (.int p2), .val (.int p3), .val (.int p4)] [(.int i)])) _
      refine XS.ifYes X0.here hx rfl (pc0 := 1) (pc' := 6) rfl (hb hby d8_1) rfl ((if0 _ _).trans (feq c1).2) (by decide) (by decide) ?_
      show Steps p.tables e below (s₁.setTop (mkF m 6 #[.val (.int i), .val (.int p1), .val (.int p2), .val (.int p3), .val (.int p4)] [])) _
      refine XS.iloadN X0.here hx rfl (hb hby d8_6) rfl ?_
      show Steps p.tables e below (s₁.setTop (mkF m 7 #[.val (.int i), .val (.int p1), .val (.int p2), .val (.int p3), .val (.int p4)] [(.int i)])) _
      refine XS.iconst X0.here hx rfl (hb hby d8_7) ?_
      exact kt)
    by_cases c8 : i = (1 : Int32)
    · -- c8
      obtain ⟨fs, hr, hrun, hended, hW, hsame⟩ := X0.leave (v := some (.int p2)) (fun h => by rw [Bd.returns] at h; cases h)
      subst hG
      refine ⟨_, _, pre2 _ ?_, hrun, hended, _, _, rfl, ?_, ⟨_, rfl⟩, hW, hsame.mono (by decide) (by decide)⟩
      · skip
        show Steps p.tables e below (s₁.setTop (mkF m 8 #[.val (.int i), .val (.int p1), .val (.int p2), .val (.int p3), .val (.int p4)] [(.int (1 : Int32)), (.int i)])) _
        refine XS.icmpNo X0.here hx rfl (hb hby d8_8) rfl (teq c8).2 ?_
        show Steps p.tables e below (s₁.setTop (mkF m 11 #[.val (.int i), .val (.int p1), .val (.int p2), .val (.int p3), .val (.int p4)] [])) _
        refine XS.iloadN X0.here hx rfl (hb hby d8_11) rfl ?_
        show Steps p.tables e below (s₁.setTop (mkF m 12 #[.val (.int i), .val (.int p1), .val (.int p2), .val (.int p3), .val (.int p4)] [(.int p2)])) _
        exact retI X0 hx Bd.returns (hb hby d8_12) hr
      · show Q_rm8 Z i p1 p2 p3 p4 h0 n0 _ s₁.heap _
        rw [e0]
        exact ⟨_, rfl, N0, rfl, by simp⟩
    · -- not c8
      have pre3 : ∀ tg, Steps p.tables e below (s₁.setTop (mkF m 15 #[.val (.int i), .val (.int p1), .val (.int p2), .val (.int p3), .val (.int p4)] [(.int (2 : Int32)), (.int i)])) tg → G tg := fun tg kt => pre2 tg (by
        show Steps p.tables e below (s₁.setTop (mkF m 8 #[.val (.int i), .val (.int p1), .val (.int p2), .val (.int p3), .val (.int p4)] [(.int (1 : Int32)), (.int i)])) _
        refine XS.icmpYes X0.here hx rfl (pc0 := 8) (pc' := 13) rfl (hb hby d8_8) rfl (feq c8).2 (by decide) (by decide) ?_
        show Steps p.tables e below (s₁.setTop (mkF m 13 #[.val (.int i), .val (.int p1), .val (.int p2), .val (.int p3), .val (.int p4)] [])) _
        refine XS.iloadN X0.here hx rfl (hb hby d8_13) rfl ?_
        show Steps p.tables e below (s₁.setTop (mkF m 14 #[.val (.int i), .val (.int p1), .val (.int p2), .val (.int p3), .val (.int p4)] [(.int i)])) _
        refine XS.iconst X0.here hx rfl (hb hby d8_14) ?_
        exact kt)
      by_cases c15 : i = (2 : Int32)
      · -- c15
        obtain ⟨fs, hr, hrun, hended, hW, hsame⟩ := X0.leave (v := some (.int p3)) (fun h => by rw [Bd.returns] at h; cases h)
        subst hG
        refine ⟨_, _, pre3 _ ?_, hrun, hended, _, _, rfl, ?_, ⟨_, rfl⟩, hW, hsame.mono (by decide) (by decide)⟩
        · skip
          show Steps p.tables e below (s₁.setTop (mkF m 15 #[.val (.int i), .val (.int p1), .val (.int p2), .val (.int p3), .val (.int p4)] [(.int (2 : Int32)), (.int i)])) _
          refine XS.icmpNo X0.here hx rfl (hb hby d8_15) rfl (teq c15).2 ?_
          show Steps p.tables e below (s₁.setTop (mkF m 18 #[.val (.int i), .val (.int p1), .val (.int p2), .val (.int p3), .val (.int p4)] [])) _
          refine XS.iloadN X0.here hx rfl (hb hby d8_18) rfl ?_
          show Steps p.tables e below (s₁.setTop (mkF m 19 #[.val (.int i), .val (.int p1), .val (.int p2), .val (.int p3), .val (.int p4)] [(.int p3)])) _
          exact retI X0 hx Bd.returns (hb hby d8_19) hr
        · show Q_rm8 Z i p1 p2 p3 p4 h0 n0 _ s₁.heap _
          rw [e0]
          exact ⟨_, rfl, N0, rfl, by simp⟩
      · -- not c15
        obtain ⟨fs, hr, hrun, hended, hW, hsame⟩ := X0.leave (v := some (.int p4)) (fun h => by rw [Bd.returns] at h; cases h)
        subst hG
        refine ⟨_, _, pre3 _ ?_, hrun, hended, _, _, rfl, ?_, ⟨_, rfl⟩, hW, hsame.mono (by decide) (by decide)⟩
        · skip
          show Steps p.tables e below (s₁.setTop (mkF m 15 #[.val (.int i), .val (.int p1), .val (.int p2), .val (.int p3), .val (.int p4)] [(.int (2 : Int32)), (.int i)])) _
          refine XS.icmpYes X0.here hx rfl (pc0 := 15) (pc' := 20) rfl (hb hby d8_15) rfl (feq c15).2 (by decide) (by decide) ?_
          show Steps p.tables e below (s₁.setTop (mkF m 20 #[.val (.int i), .val (.int p1), .val (.int p2), .val (.int p3), .val (.int p4)] [])) _
          refine XS.iload X0.here hx rfl (hb hby d8_20) rfl ?_
          show Steps p.tables e below (s₁.setTop (mkF m 22 #[.val (.int i), .val (.int p1), .val (.int p2), .val (.int p3), .val (.int p4)] [(.int p4)])) _
          exact retI X0 hx Bd.returns (hb hby d8_22) hr
        · show Q_rm8 Z i p1 p2 p3 p4 h0 n0 _ s₁.heap _
          rw [e0]
          exact ⟨_, rfl, N0, rfl, by simp⟩
theorem pn_9 : plainName "com/example/convene/convene/PairCountsCountPinLaw" = true := by first | (simp [plainName, overriddenIn]; done) | decide +kernel
theorem ef_9_I_I_I_I (m : MethodId) (x0 : Int32) (x1 : Int32) (x2 : Int32) (x3 : Int32) : entryFrame m #[(.int x0), (.int x1), (.int x2), (.int x3)] 4 = mkF m 0 #[.val (.int x0), .val (.int x1), .val (.int x2), .val (.int x3)] [] := by first | (simp [entryFrame, mkF, argsToLocals, Value.category]; done) | rfl
theorem d9_0 : decode method_3_code 0 = .ok (.iload_n 0, 1) := by decide +kernel
theorem d9_1 : decode method_3_code 1 = .ok (.iload_n 2, 1) := by decide +kernel
theorem d9_2 : decode method_3_code 2 = .ok (.if_icmp .ne 8, 3) := by decide +kernel
theorem d9_5 : decode method_3_code 5 = .ok (.iload_n 1, 1) := by decide +kernel
theorem d9_6 : decode method_3_code 6 = .ok (.iload_n 3, 1) := by decide +kernel
theorem d9_7 : decode method_3_code 7 = .ok (.if_icmp .eq 13, 3) := by decide +kernel
theorem d9_10 : decode method_3_code 10 = .ok (.iload_n 0, 1) := by decide +kernel
theorem d9_11 : decode method_3_code 11 = .ok (.iload_n 3, 1) := by decide +kernel
theorem d9_12 : decode method_3_code 12 = .ok (.if_icmp .ne 12, 3) := by decide +kernel
theorem d9_15 : decode method_3_code 15 = .ok (.iload_n 1, 1) := by decide +kernel
theorem d9_16 : decode method_3_code 16 = .ok (.iload_n 2, 1) := by decide +kernel
theorem d9_17 : decode method_3_code 17 = .ok (.if_icmp .ne 7, 3) := by decide +kernel
theorem d9_20 : decode method_3_code 20 = .ok (.iconst 1, 1) := by decide +kernel
theorem d9_21 : decode method_3_code 21 = .ok (.goto 4, 3) := by decide +kernel
theorem d9_24 : decode method_3_code 24 = .ok (.iconst 0, 1) := by decide +kernel
theorem d9_25 : decode method_3_code 25 = .ok (.ireturn, 1) := by decide +kernel
def Q_rm9 (Z : State) (p1 p2 r1 r2 : Int32) (h0 : Heap) (n0 : Nat) (v : Option Value) (h : Heap) (L : List Loc) : Prop := v = some (.int (own_same p1 p2 r1 r2)) ∧ Fr n0 L ∧ h = h0
set_option maxRecDepth 65536 in
set_option maxHeartbeats 40000000 in
theorem rm9 (l : Launch) (Z : State) (a0 : Array Value) (hw : ∀ d ∈ tables_1, d.before a0 Z = true) (ws : List Jvm.Cond) (p1 p2 r1 r2 : Int32) (h0 : Heap) (n0 : Nat) (Z0 : n0 ≤ h0.size)  :
    MetFree l (⟨"com/example/convene/convene/PairCountsCountPinLaw", "same", "(IIII)Z"⟩ : MethodName) (head1 (Jvm.Cond.code (⟨"com/example/convene/convene/PairCountsCountPinLaw", "same", "(IIII)Z"⟩ : MethodName) method_3_code 4 (some .boolean) :: ws) ({ frames := 0, cells := 0, slots := 0, locals := 0 } : Room)) (fun argv U => argv = #[(.int p1), (.int p2), (.int r1), (.int r2)] ∧ Z.Warmed39 U.vm ∧ U.heap = h0) (fun _ _ _ _ _ => True) (fun _ U o U' => ∃ v L, o = .returned v ∧ Q_rm9 Z p1 p2 r1 r2 h0 n0 v U'.heap L ∧ FrameEnd U o U' L ({ frames := 0, cells := 0, slots := 0, locals := 0 } : Room).cells ({ frames := 0, cells := 0, slots := 0, locals := 0 } : Room).slots) := by
  refine MetFree.of_bodySF (plainFor_of_name pn_9) hisR ?_
  intro p e s m args below meth c s₁ Bd hml0 hP hK
  obtain ⟨rfl, hZ, hh⟩ := hP
  have hx := Bd.exec
  have hby := Bd.bytes
  have hml : c.maxLocals = 4 := hml0
  have hown : s.vm.findClass "com/example/convene/convene/PairCountsCountPinLaw" = some m.cls := findClass_of_methodNamed Bd.named
  have hnm := (name_of_methodNamed Bd.named Bd.method).1
  have X0 : Stand p l e ({ frames := 0, cells := 0, slots := 0, locals := 0 } : Room) s m #[(.int p1), (.int p2), (.int r1), (.int r2)] below meth c s₁ [] 0 0 := Stand.of_body Bd
  have e0 : s₁.heap = h0 := by rw [← hh, Bd.state]; rfl
  have N0 := Fr.nil n0
  obtain ⟨G, hG⟩ : ∃ G : State → Prop, G = fun tg => Steps p.tables e below (s₁.setTop (entryFrame m #[(.int p1), (.int p2), (.int r1), (.int r2)] 4)) tg := ⟨_, rfl⟩
  have pre0 : ∀ tg, Steps p.tables e below (s₁.setTop (mkF m 0 #[.val (.int p1), .val (.int p2), .val (.int r1), .val (.int r2)] [])) tg → G tg := fun tg kt => by rw [hG]; exact castTop (ef_9_I_I_I_I m p1 p2 r1 r2) kt
  have pre1 : ∀ tg, Steps p.tables e below (s₁.setTop (mkF m 2 #[.val (.int p1), .val (.int p2), .val (.int r1), .val (.int r2)] [(.int r1), (.int p1)])) tg → G tg := fun tg kt => pre0 tg (by
    show Steps p.tables e below (s₁.setTop (mkF m 0 #[.val (.int p1), .val (.int p2), .val (.int r1), .val (.int r2)] [])) _
    refine XS.iloadN X0.here hx rfl (hb hby d9_0) rfl ?_
    show Steps p.tables e below (s₁.setTop (mkF m 1 #[.val (.int p1), .val (.int p2), .val (.int r1), .val (.int r2)] [(.int p1)])) _
    refine XS.iloadN X0.here hx rfl (hb hby d9_1) rfl ?_
    exact kt)
  by_cases c2 : p1 = r1
  · -- c2
    have pre2 : ∀ tg, Steps p.tables e below (s₁.setTop (mkF m 7 #[.val (.int p1), .val (.int p2), .val (.int r1), .val (.int r2)] [(.int r2), (.int p2)])) tg → G tg := fun tg kt => pre1 tg (by
      show Steps p.tables e below (s₁.setTop (mkF m 2 #[.val (.int p1), .val (.int p2), .val (.int r1), .val (.int r2)] [(.int r1), (.int p1)])) _
      refine XS.icmpNo X0.here hx rfl (hb hby d9_2) rfl (teq c2).2 ?_
      show Steps p.tables e below (s₁.setTop (mkF m 5 #[.val (.int p1), .val (.int p2), .val (.int r1), .val (.int r2)] [])) _
      refine XS.iloadN X0.here hx rfl (hb hby d9_5) rfl ?_
      show Steps p.tables e below (s₁.setTop (mkF m 6 #[.val (.int p1), .val (.int p2), .val (.int r1), .val (.int r2)] [(.int p2)])) _
      refine XS.iloadN X0.here hx rfl (hb hby d9_6) rfl ?_
      exact kt)
    by_cases c7 : p2 = r2
    · -- c7
      obtain ⟨fs, hr, hrun, hended, hW, hsame⟩ := X0.leave (v := some (.int (1 : Int32))) (fun h => by rw [Bd.returns] at h; cases h)
      subst hG
      refine ⟨_, _, pre2 _ ?_, hrun, hended, _, _, rfl, ?_, ⟨_, rfl⟩, hW, hsame.mono (by decide) (by decide)⟩
      · skip
        show Steps p.tables e below (s₁.setTop (mkF m 7 #[.val (.int p1), .val (.int p2), .val (.int r1), .val (.int r2)] [(.int r2), (.int p2)])) _
        refine XS.icmpYes X0.here hx rfl (pc0 := 7) (pc' := 20) rfl (hb hby d9_7) rfl (teq c7).1 (by decide) (by decide) ?_
        show Steps p.tables e below (s₁.setTop (mkF m 20 #[.val (.int p1), .val (.int p2), .val (.int r1), .val (.int r2)] [])) _
        refine XS.iconst X0.here hx rfl (hb hby d9_20) ?_
        show Steps p.tables e below (s₁.setTop (mkF m 21 #[.val (.int p1), .val (.int p2), .val (.int r1), .val (.int r2)] [(.int (1 : Int32))])) _
        refine XS.goto X0.here hx rfl (pc0 := 21) (pc' := 25) rfl (hb hby d9_21) (by decide) (by decide) ?_
        show Steps p.tables e below (s₁.setTop (mkF m 25 #[.val (.int p1), .val (.int p2), .val (.int r1), .val (.int r2)] [(.int (1 : Int32))])) _
        exact retN X0 hx (t := .boolean) Bd.returns (by simp) (hb hby d9_25) hr
      · show Q_rm9 Z p1 p2 r1 r2 h0 n0 _ s₁.heap _
        rw [e0]
        exact ⟨by unfold own_same; rw [if_pos (Or.inl ⟨c2, c7⟩)], N0, rfl⟩
    · -- not c7
      have pre3 : ∀ tg, Steps p.tables e below (s₁.setTop (mkF m 12 #[.val (.int p1), .val (.int p2), .val (.int r1), .val (.int r2)] [(.int r2), (.int p1)])) tg → G tg := fun tg kt => pre2 tg (by
        show Steps p.tables e below (s₁.setTop (mkF m 7 #[.val (.int p1), .val (.int p2), .val (.int r1), .val (.int r2)] [(.int r2), (.int p2)])) _
        refine XS.icmpNo X0.here hx rfl (hb hby d9_7) rfl (feq c7).1 ?_
        show Steps p.tables e below (s₁.setTop (mkF m 10 #[.val (.int p1), .val (.int p2), .val (.int r1), .val (.int r2)] [])) _
        refine XS.iloadN X0.here hx rfl (hb hby d9_10) rfl ?_
        show Steps p.tables e below (s₁.setTop (mkF m 11 #[.val (.int p1), .val (.int p2), .val (.int r1), .val (.int r2)] [(.int p1)])) _
        refine XS.iloadN X0.here hx rfl (hb hby d9_11) rfl ?_
        exact kt)
      by_cases c12 : p1 = r2
      · -- c12
        have pre4 : ∀ tg, Steps p.tables e below (s₁.setTop (mkF m 17 #[.val (.int p1), .val (.int p2), .val (.int r1), .val (.int r2)] [(.int r1), (.int p2)])) tg → G tg := fun tg kt => pre3 tg (by
          show Steps p.tables e below (s₁.setTop (mkF m 12 #[.val (.int p1), .val (.int p2), .val (.int r1), .val (.int r2)] [(.int r2), (.int p1)])) _
          refine XS.icmpNo X0.here hx rfl (hb hby d9_12) rfl (teq c12).2 ?_
          show Steps p.tables e below (s₁.setTop (mkF m 15 #[.val (.int p1), .val (.int p2), .val (.int r1), .val (.int r2)] [])) _
          refine XS.iloadN X0.here hx rfl (hb hby d9_15) rfl ?_
          show Steps p.tables e below (s₁.setTop (mkF m 16 #[.val (.int p1), .val (.int p2), .val (.int r1), .val (.int r2)] [(.int p2)])) _
          refine XS.iloadN X0.here hx rfl (hb hby d9_16) rfl ?_
          exact kt)
        by_cases c17 : p2 = r1
        · -- c17
          obtain ⟨fs, hr, hrun, hended, hW, hsame⟩ := X0.leave (v := some (.int (1 : Int32))) (fun h => by rw [Bd.returns] at h; cases h)
          subst hG
          refine ⟨_, _, pre4 _ ?_, hrun, hended, _, _, rfl, ?_, ⟨_, rfl⟩, hW, hsame.mono (by decide) (by decide)⟩
          · skip
            show Steps p.tables e below (s₁.setTop (mkF m 17 #[.val (.int p1), .val (.int p2), .val (.int r1), .val (.int r2)] [(.int r1), (.int p2)])) _
            refine XS.icmpNo X0.here hx rfl (hb hby d9_17) rfl (teq c17).2 ?_
            show Steps p.tables e below (s₁.setTop (mkF m 20 #[.val (.int p1), .val (.int p2), .val (.int r1), .val (.int r2)] [])) _
            refine XS.iconst X0.here hx rfl (hb hby d9_20) ?_
            show Steps p.tables e below (s₁.setTop (mkF m 21 #[.val (.int p1), .val (.int p2), .val (.int r1), .val (.int r2)] [(.int (1 : Int32))])) _
            refine XS.goto X0.here hx rfl (pc0 := 21) (pc' := 25) rfl (hb hby d9_21) (by decide) (by decide) ?_
            show Steps p.tables e below (s₁.setTop (mkF m 25 #[.val (.int p1), .val (.int p2), .val (.int r1), .val (.int r2)] [(.int (1 : Int32))])) _
            exact retN X0 hx (t := .boolean) Bd.returns (by simp) (hb hby d9_25) hr
          · show Q_rm9 Z p1 p2 r1 r2 h0 n0 _ s₁.heap _
            rw [e0]
            exact ⟨by unfold own_same; rw [if_pos (Or.inr ⟨c12, c17⟩)], N0, rfl⟩
        · -- not c17
          obtain ⟨fs, hr, hrun, hended, hW, hsame⟩ := X0.leave (v := some (.int (0 : Int32))) (fun h => by rw [Bd.returns] at h; cases h)
          subst hG
          refine ⟨_, _, pre4 _ ?_, hrun, hended, _, _, rfl, ?_, ⟨_, rfl⟩, hW, hsame.mono (by decide) (by decide)⟩
          · skip
            show Steps p.tables e below (s₁.setTop (mkF m 17 #[.val (.int p1), .val (.int p2), .val (.int r1), .val (.int r2)] [(.int r1), (.int p2)])) _
            refine XS.icmpYes X0.here hx rfl (pc0 := 17) (pc' := 24) rfl (hb hby d9_17) rfl (feq c17).2 (by decide) (by decide) ?_
            show Steps p.tables e below (s₁.setTop (mkF m 24 #[.val (.int p1), .val (.int p2), .val (.int r1), .val (.int r2)] [])) _
            refine XS.iconst X0.here hx rfl (hb hby d9_24) ?_
            show Steps p.tables e below (s₁.setTop (mkF m 25 #[.val (.int p1), .val (.int p2), .val (.int r1), .val (.int r2)] [(.int (0 : Int32))])) _
            exact retN X0 hx (t := .boolean) Bd.returns (by simp) (hb hby d9_25) hr
          · show Q_rm9 Z p1 p2 r1 r2 h0 n0 _ s₁.heap _
            rw [e0]
            exact ⟨by unfold own_same; rw [if_neg (fun q => q.elim (fun u => c7 u.2) (fun u => c17 u.2))], N0, rfl⟩
      · -- not c12
        obtain ⟨fs, hr, hrun, hended, hW, hsame⟩ := X0.leave (v := some (.int (0 : Int32))) (fun h => by rw [Bd.returns] at h; cases h)
        subst hG
        refine ⟨_, _, pre3 _ ?_, hrun, hended, _, _, rfl, ?_, ⟨_, rfl⟩, hW, hsame.mono (by decide) (by decide)⟩
        · skip
          show Steps p.tables e below (s₁.setTop (mkF m 12 #[.val (.int p1), .val (.int p2), .val (.int r1), .val (.int r2)] [(.int r2), (.int p1)])) _
          refine XS.icmpYes X0.here hx rfl (pc0 := 12) (pc' := 24) rfl (hb hby d9_12) rfl (feq c12).2 (by decide) (by decide) ?_
          show Steps p.tables e below (s₁.setTop (mkF m 24 #[.val (.int p1), .val (.int p2), .val (.int r1), .val (.int r2)] [])) _
          refine XS.iconst X0.here hx rfl (hb hby d9_24) ?_
          show Steps p.tables e below (s₁.setTop (mkF m 25 #[.val (.int p1), .val (.int p2), .val (.int r1), .val (.int r2)] [(.int (0 : Int32))])) _
          exact retN X0 hx (t := .boolean) Bd.returns (by simp) (hb hby d9_25) hr
        · show Q_rm9 Z p1 p2 r1 r2 h0 n0 _ s₁.heap _
          rw [e0]
          exact ⟨by unfold own_same; rw [if_neg (fun q => q.elim (fun u => c7 u.2) (fun u => c12 u.1))], N0, rfl⟩
  · -- not c2
    have pre5 : ∀ tg, Steps p.tables e below (s₁.setTop (mkF m 12 #[.val (.int p1), .val (.int p2), .val (.int r1), .val (.int r2)] [(.int r2), (.int p1)])) tg → G tg := fun tg kt => pre1 tg (by
      show Steps p.tables e below (s₁.setTop (mkF m 2 #[.val (.int p1), .val (.int p2), .val (.int r1), .val (.int r2)] [(.int r1), (.int p1)])) _
      refine XS.icmpYes X0.here hx rfl (pc0 := 2) (pc' := 10) rfl (hb hby d9_2) rfl (feq c2).2 (by decide) (by decide) ?_
      show Steps p.tables e below (s₁.setTop (mkF m 10 #[.val (.int p1), .val (.int p2), .val (.int r1), .val (.int r2)] [])) _
      refine XS.iloadN X0.here hx rfl (hb hby d9_10) rfl ?_
      show Steps p.tables e below (s₁.setTop (mkF m 11 #[.val (.int p1), .val (.int p2), .val (.int r1), .val (.int r2)] [(.int p1)])) _
      refine XS.iloadN X0.here hx rfl (hb hby d9_11) rfl ?_
      exact kt)
    by_cases c12 : p1 = r2
    · -- c12
      have pre6 : ∀ tg, Steps p.tables e below (s₁.setTop (mkF m 17 #[.val (.int p1), .val (.int p2), .val (.int r1), .val (.int r2)] [(.int r1), (.int p2)])) tg → G tg := fun tg kt => pre5 tg (by
        show Steps p.tables e below (s₁.setTop (mkF m 12 #[.val (.int p1), .val (.int p2), .val (.int r1), .val (.int r2)] [(.int r2), (.int p1)])) _
        refine XS.icmpNo X0.here hx rfl (hb hby d9_12) rfl (teq c12).2 ?_
        show Steps p.tables e below (s₁.setTop (mkF m 15 #[.val (.int p1), .val (.int p2), .val (.int r1), .val (.int r2)] [])) _
        refine XS.iloadN X0.here hx rfl (hb hby d9_15) rfl ?_
        show Steps p.tables e below (s₁.setTop (mkF m 16 #[.val (.int p1), .val (.int p2), .val (.int r1), .val (.int r2)] [(.int p2)])) _
        refine XS.iloadN X0.here hx rfl (hb hby d9_16) rfl ?_
        exact kt)
      by_cases c17 : p2 = r1
      · -- c17
        obtain ⟨fs, hr, hrun, hended, hW, hsame⟩ := X0.leave (v := some (.int (1 : Int32))) (fun h => by rw [Bd.returns] at h; cases h)
        subst hG
        refine ⟨_, _, pre6 _ ?_, hrun, hended, _, _, rfl, ?_, ⟨_, rfl⟩, hW, hsame.mono (by decide) (by decide)⟩
        · skip
          show Steps p.tables e below (s₁.setTop (mkF m 17 #[.val (.int p1), .val (.int p2), .val (.int r1), .val (.int r2)] [(.int r1), (.int p2)])) _
          refine XS.icmpNo X0.here hx rfl (hb hby d9_17) rfl (teq c17).2 ?_
          show Steps p.tables e below (s₁.setTop (mkF m 20 #[.val (.int p1), .val (.int p2), .val (.int r1), .val (.int r2)] [])) _
          refine XS.iconst X0.here hx rfl (hb hby d9_20) ?_
          show Steps p.tables e below (s₁.setTop (mkF m 21 #[.val (.int p1), .val (.int p2), .val (.int r1), .val (.int r2)] [(.int (1 : Int32))])) _
          refine XS.goto X0.here hx rfl (pc0 := 21) (pc' := 25) rfl (hb hby d9_21) (by decide) (by decide) ?_
          show Steps p.tables e below (s₁.setTop (mkF m 25 #[.val (.int p1), .val (.int p2), .val (.int r1), .val (.int r2)] [(.int (1 : Int32))])) _
          exact retN X0 hx (t := .boolean) Bd.returns (by simp) (hb hby d9_25) hr
        · show Q_rm9 Z p1 p2 r1 r2 h0 n0 _ s₁.heap _
          rw [e0]
          exact ⟨by unfold own_same; rw [if_pos (Or.inr ⟨c12, c17⟩)], N0, rfl⟩
      · -- not c17
        obtain ⟨fs, hr, hrun, hended, hW, hsame⟩ := X0.leave (v := some (.int (0 : Int32))) (fun h => by rw [Bd.returns] at h; cases h)
        subst hG
        refine ⟨_, _, pre6 _ ?_, hrun, hended, _, _, rfl, ?_, ⟨_, rfl⟩, hW, hsame.mono (by decide) (by decide)⟩
        · skip
          show Steps p.tables e below (s₁.setTop (mkF m 17 #[.val (.int p1), .val (.int p2), .val (.int r1), .val (.int r2)] [(.int r1), (.int p2)])) _
          refine XS.icmpYes X0.here hx rfl (pc0 := 17) (pc' := 24) rfl (hb hby d9_17) rfl (feq c17).2 (by decide) (by decide) ?_
          show Steps p.tables e below (s₁.setTop (mkF m 24 #[.val (.int p1), .val (.int p2), .val (.int r1), .val (.int r2)] [])) _
          refine XS.iconst X0.here hx rfl (hb hby d9_24) ?_
          show Steps p.tables e below (s₁.setTop (mkF m 25 #[.val (.int p1), .val (.int p2), .val (.int r1), .val (.int r2)] [(.int (0 : Int32))])) _
          exact retN X0 hx (t := .boolean) Bd.returns (by simp) (hb hby d9_25) hr
        · show Q_rm9 Z p1 p2 r1 r2 h0 n0 _ s₁.heap _
          rw [e0]
          exact ⟨by unfold own_same; rw [if_neg (fun q => q.elim (fun u => c2 u.1) (fun u => c17 u.2))], N0, rfl⟩
    · -- not c12
      obtain ⟨fs, hr, hrun, hended, hW, hsame⟩ := X0.leave (v := some (.int (0 : Int32))) (fun h => by rw [Bd.returns] at h; cases h)
      subst hG
      refine ⟨_, _, pre5 _ ?_, hrun, hended, _, _, rfl, ?_, ⟨_, rfl⟩, hW, hsame.mono (by decide) (by decide)⟩
      · skip
        show Steps p.tables e below (s₁.setTop (mkF m 12 #[.val (.int p1), .val (.int p2), .val (.int r1), .val (.int r2)] [(.int r2), (.int p1)])) _
        refine XS.icmpYes X0.here hx rfl (pc0 := 12) (pc' := 24) rfl (hb hby d9_12) rfl (feq c12).2 (by decide) (by decide) ?_
        show Steps p.tables e below (s₁.setTop (mkF m 24 #[.val (.int p1), .val (.int p2), .val (.int r1), .val (.int r2)] [])) _
        refine XS.iconst X0.here hx rfl (hb hby d9_24) ?_
        show Steps p.tables e below (s₁.setTop (mkF m 25 #[.val (.int p1), .val (.int p2), .val (.int r1), .val (.int r2)] [(.int (0 : Int32))])) _
        exact retN X0 hx (t := .boolean) Bd.returns (by simp) (hb hby d9_25) hr
      · show Q_rm9 Z p1 p2 r1 r2 h0 n0 _ s₁.heap _
        rw [e0]
        exact ⟨by unfold own_same; rw [if_neg (fun q => q.elim (fun u => c2 u.1) (fun u => c12 u.1))], N0, rfl⟩
theorem own_same_key {n p q r t : Int32} (hn : n.toInt ≤ 1073741825) (hp : own_in n p) (hq : own_in n q) (hr : own_in n r) (ht : own_in n t) : own_same p q r t = if own_key p q n = own_key r t n then (1 : Int32) else (0 : Int32) := by
  unfold own_same; simp only [own_inj hn hp hq hr ht]
theorem own_key_sym {n p q : Int32} (hn : n.toInt ≤ 1073741825) (hp : own_in n p) (hq : own_in n q) : own_key q p n = own_key p q n := (own_inj hn hq hp hp hq).mpr (Or.inr ⟨rfl, rfl⟩)
theorem pd_3 : parseMethodDescriptor "(IIII)Z" = some ⟨[.int, .int, .int, .int], some .boolean⟩ := by decide +kernel
set_option maxRecDepth 65536 in
set_option maxHeartbeats 40000000 in
theorem own_seg1 {p : Program} {l : Launch} {e : Env} {s : State} {m : MethodId} {args : Array Value} {below : List Frame} {meth : Method} {c : Code} {T0 : State} {locs : List Loc} {cells slots : Nat} {Z : State} {a0 : Array Value} {h0 : Heap} (n0 : Nat) (p0 p1 p2 p3 p4 p5 nn va vb vc vd x1 x2 x3 : Int32) (b : Addr) (i1 i2 q1 q2 : Int32) (ev K Kq : Int64)
    (X0 : Stand p l e room_1 s m args below meth c T0 locs cells slots) (hx : p.tables.exec = Jvm.exec) (hZ : Z.Warmed39 s.vm) (hw : ∀ d ∈ tables_1, d.before a0 Z = true) (hby : c.code = code) (hml : c.maxLocals = 25) (hown : s.vm.findClass "com/example/convene/convene/PairCountsCountPinLaw" = some m.cls) (e0 : T0.heap = h0) (N0 : Fr n0 locs) (Z0 : n0 ≤ h0.size) (hcc : cells ≤ 16) (hss : slots ≤ 4224) (hs : own_same va vb q1 q2 = if K = Kq then (1 : Int32) else (0 : Int32)) :
    ∃ (T' : State) (locs' : List Loc), Stand p l e room_1 s m args below meth c T' locs' cells slots ∧ T'.heap = h0 ∧ Fr n0 locs' ∧ ∀ target, Steps p.tables e below (T'.setTop (mkF m 252 #[.val (.int p0), .val (.int p1), .val (.int p2), .val (.int p3), .val (.int p4), .val (.int p5), .val (.int nn), .val (.int va), .val (.int vb), .val (.int vc), .val (.int vd), .val (.int x1), .val (.int x2), .val (.int x3), .val (.ref b), .val (.int i1), .val (.int i2), .val (.int q1), .val (.int q2), .val (.long (own_e x1 K Kq ev)), .second, .unset, .unset, .unset, .unset] [])) target → Steps p.tables e below (T0.setTop (mkF m 227 #[.val (.int p0), .val (.int p1), .val (.int p2), .val (.int p3), .val (.int p4), .val (.int p5), .val (.int nn), .val (.int va), .val (.int vb), .val (.int vc), .val (.int vd), .val (.int x1), .val (.int x2), .val (.int x3), .val (.ref b), .val (.int i1), .val (.int i2), .val (.int q1), .val (.int q2), .val (.long ev), .second, .unset, .unset, .unset, .unset] [])) target := by
  obtain ⟨G, hG⟩ : ∃ G : State → Prop, G = fun tg => Steps p.tables e below (T0.setTop (mkF m 227 #[.val (.int p0), .val (.int p1), .val (.int p2), .val (.int p3), .val (.int p4), .val (.int p5), .val (.int nn), .val (.int va), .val (.int vb), .val (.int vc), .val (.int vd), .val (.int x1), .val (.int x2), .val (.int x3), .val (.ref b), .val (.int i1), .val (.int i2), .val (.int q1), .val (.int q2), .val (.long ev), .second, .unset, .unset, .unset, .unset] [])) tg := ⟨_, rfl⟩
  have pre0 : ∀ tg, Steps p.tables e below (T0.setTop (mkF m 227 #[.val (.int p0), .val (.int p1), .val (.int p2), .val (.int p3), .val (.int p4), .val (.int p5), .val (.int nn), .val (.int va), .val (.int vb), .val (.int vc), .val (.int vd), .val (.int x1), .val (.int x2), .val (.int x3), .val (.ref b), .val (.int i1), .val (.int i2), .val (.int q1), .val (.int q2), .val (.long ev), .second, .unset, .unset, .unset, .unset] [])) tg → G tg := fun tg kt => by rw [hG]; exact kt
  have pre1 : ∀ tg, Steps p.tables e below (T0.setTop (mkF m 229 #[.val (.int p0), .val (.int p1), .val (.int p2), .val (.int p3), .val (.int p4), .val (.int p5), .val (.int nn), .val (.int va), .val (.int vb), .val (.int vc), .val (.int vd), .val (.int x1), .val (.int x2), .val (.int x3), .val (.ref b), .val (.int i1), .val (.int i2), .val (.int q1), .val (.int q2), .val (.long ev), .second, .unset, .unset, .unset, .unset] [(.int x1)])) tg → G tg := fun tg kt => pre0 tg (by
    show Steps p.tables e below (T0.setTop (mkF m 227 #[.val (.int p0), .val (.int p1), .val (.int p2), .val (.int p3), .val (.int p4), .val (.int p5), .val (.int nn), .val (.int va), .val (.int vb), .val (.int vc), .val (.int vd), .val (.int x1), .val (.int x2), .val (.int x3), .val (.ref b), .val (.int i1), .val (.int i2), .val (.int q1), .val (.int q2), .val (.long ev), .second, .unset, .unset, .unset, .unset] [])) _
    refine XS.iload X0.here hx rfl (hb hby at_227) rfl ?_
    exact kt)
  by_cases hx0 : x1 = (0 : Int32)
  · -- hx0
    have pre2 : ∀ tg, Steps p.tables e below (T0.setTop (mkF m 252 #[.val (.int p0), .val (.int p1), .val (.int p2), .val (.int p3), .val (.int p4), .val (.int p5), .val (.int nn), .val (.int va), .val (.int vb), .val (.int vc), .val (.int vd), .val (.int x1), .val (.int x2), .val (.int x3), .val (.ref b), .val (.int i1), .val (.int i2), .val (.int q1), .val (.int q2), .val (.long ev), .second, .unset, .unset, .unset, .unset] [])) tg → G tg := fun tg kt => pre1 tg (by
      show Steps p.tables e below (T0.setTop (mkF m 229 #[.val (.int p0), .val (.int p1), .val (.int p2), .val (.int p3), .val (.int p4), .val (.int p5), .val (.int nn), .val (.int va), .val (.int vb), .val (.int vc), .val (.int vd), .val (.int x1), .val (.int x2), .val (.int x3), .val (.ref b), .val (.int i1), .val (.int i2), .val (.int q1), .val (.int q2), .val (.long ev), .second, .unset, .unset, .unset, .unset] [(.int x1)])) _
      refine XS.ifYes X0.here hx rfl (pc0 := 229) (pc' := 252) rfl (hb hby at_229) rfl ((if0 _ _).trans (teq hx0).1) (by decide) (by decide) ?_
      exact kt)
    subst hG
    refine ⟨T0, _, X0, e0, N0, fun tg kt => pre2 tg ?_⟩
    simp only [own_e, if_pos hx0] at kt
    exact kt
  · -- not hx0
    have pre3 : ∀ tg, Steps p.tables e below (T0.setTop (mkF m 240 #[.val (.int p0), .val (.int p1), .val (.int p2), .val (.int p3), .val (.int p4), .val (.int p5), .val (.int nn), .val (.int va), .val (.int vb), .val (.int vc), .val (.int vd), .val (.int x1), .val (.int x2), .val (.int x3), .val (.ref b), .val (.int i1), .val (.int i2), .val (.int q1), .val (.int q2), .val (.long ev), .second, .unset, .unset, .unset, .unset] [(.int q2), (.int q1), (.int vb), (.int va)])) tg → G tg := fun tg kt => pre1 tg (by
      show Steps p.tables e below (T0.setTop (mkF m 229 #[.val (.int p0), .val (.int p1), .val (.int p2), .val (.int p3), .val (.int p4), .val (.int p5), .val (.int nn), .val (.int va), .val (.int vb), .val (.int vc), .val (.int vd), .val (.int x1), .val (.int x2), .val (.int x3), .val (.ref b), .val (.int i1), .val (.int i2), .val (.int q1), .val (.int q2), .val (.long ev), .second, .unset, .unset, .unset, .unset] [(.int x1)])) _
      refine XS.ifNo X0.here hx rfl (hb hby at_229) rfl ((if0 _ _).trans (feq hx0).1) ?_
      show Steps p.tables e below (T0.setTop (mkF m 232 #[.val (.int p0), .val (.int p1), .val (.int p2), .val (.int p3), .val (.int p4), .val (.int p5), .val (.int nn), .val (.int va), .val (.int vb), .val (.int vc), .val (.int vd), .val (.int x1), .val (.int x2), .val (.int x3), .val (.ref b), .val (.int i1), .val (.int i2), .val (.int q1), .val (.int q2), .val (.long ev), .second, .unset, .unset, .unset, .unset] [])) _
      refine XS.iload X0.here hx rfl (hb hby at_232) rfl ?_
      show Steps p.tables e below (T0.setTop (mkF m 234 #[.val (.int p0), .val (.int p1), .val (.int p2), .val (.int p3), .val (.int p4), .val (.int p5), .val (.int nn), .val (.int va), .val (.int vb), .val (.int vc), .val (.int vd), .val (.int x1), .val (.int x2), .val (.int x3), .val (.ref b), .val (.int i1), .val (.int i2), .val (.int q1), .val (.int q2), .val (.long ev), .second, .unset, .unset, .unset, .unset] [(.int va)])) _
      refine XS.iload X0.here hx rfl (hb hby at_234) rfl ?_
      show Steps p.tables e below (T0.setTop (mkF m 236 #[.val (.int p0), .val (.int p1), .val (.int p2), .val (.int p3), .val (.int p4), .val (.int p5), .val (.int nn), .val (.int va), .val (.int vb), .val (.int vc), .val (.int vd), .val (.int x1), .val (.int x2), .val (.int x3), .val (.ref b), .val (.int i1), .val (.int i2), .val (.int q1), .val (.int q2), .val (.long ev), .second, .unset, .unset, .unset, .unset] [(.int vb), (.int va)])) _
      refine XS.iload X0.here hx rfl (hb hby at_236) rfl ?_
      show Steps p.tables e below (T0.setTop (mkF m 238 #[.val (.int p0), .val (.int p1), .val (.int p2), .val (.int p3), .val (.int p4), .val (.int p5), .val (.int nn), .val (.int va), .val (.int vb), .val (.int vc), .val (.int vd), .val (.int x1), .val (.int x2), .val (.int x3), .val (.ref b), .val (.int i1), .val (.int i2), .val (.int q1), .val (.int q2), .val (.long ev), .second, .unset, .unset, .unset, .unset] [(.int q1), (.int vb), (.int va)])) _
      refine XS.iload X0.here hx rfl (hb hby at_238) rfl ?_
      exact kt)
    by_cases hk : K = Kq
    · skip
      obtain ⟨_, _, ⟨T4, L4, k4, n4⟩, -, X4, ⟨Lc4, hQ4, l4, y4, z4⟩, st4⟩ := Jvm.LawKit.callS X0 hx (y := (⟨"com/example/convene/convene/PairCountsCountPinLaw", "same", "(IIII)Z"⟩ : MethodName)) hown (mvT hZ (hw _ (List.mem_of_getElem? (i := 48) rfl))) (mvT hZ (hw _ (List.mem_of_getElem? (i := 49) rfl))) (mvT hZ (hw _ (List.mem_of_getElem? (i := 46) rfl))) (mvT hZ (hw _ (List.mem_of_getElem? (i := 50) rfl))) (by decide) (backOf (W := 0) (rm9 l Z a0 hw [] va vb q1 q2 h0 n0 Z0 ) hZ (hw _ (List.mem_of_getElem? (i := 50) rfl)) (hw _ (List.mem_of_getElem? (i := 46) rfl)) (by decide) (by decide)) (g := (mkF m 240 #[.val (.int p0), .val (.int p1), .val (.int p2), .val (.int p3), .val (.int p4), .val (.int p5), .val (.int nn), .val (.int va), .val (.int vb), .val (.int vc), .val (.int vd), .val (.int x1), .val (.int x2), .val (.int x3), .val (.ref b), .val (.int i1), .val (.int i2), .val (.int q1), .val (.int q2), .val (.long ev), .second, .unset, .unset, .unset, .unset] [(.int q2), (.int q1), (.int vb), (.int va)])) rfl (by rw [hml]; rfl) (argsL := [(.int va), (.int vb), (.int q1), (.int q2)]) (rest := []) (lenOf pd_3 rfl) rfl (by show 2 * 0 + _ ≤ _; exact Nat.le_of_eq rfl) (hb hby at_240) (fun _ _ => ⟨rfl, e0, hcc, hss⟩)
      dsimp only [Pt.U, Pt.locs, Pt.cells, Pt.slots] at X4 l4 y4 z4 st4 hQ4
      subst l4 y4 z4
      obtain ⟨hv4, N4q, e4⟩ := hQ4
      rw [hs, if_pos hk] at hv4
      subst hv4
      have N4 := Fr.app N0 N4q
      have pre4s : ∀ tg, Steps p.tables e below (T4.setTop (mkF m 243 #[.val (.int p0), .val (.int p1), .val (.int p2), .val (.int p3), .val (.int p4), .val (.int p5), .val (.int nn), .val (.int va), .val (.int vb), .val (.int vc), .val (.int vd), .val (.int x1), .val (.int x2), .val (.int x3), .val (.ref b), .val (.int i1), .val (.int i2), .val (.int q1), .val (.int q2), .val (.long ev), .second, .unset, .unset, .unset, .unset] [(.int (1 : Int32))])) tg → G tg := fun tg kt => pre3 tg (st4 tg kt)
      have pre5 : ∀ tg, Steps p.tables e below (T4.setTop (mkF m 252 #[.val (.int p0), .val (.int p1), .val (.int p2), .val (.int p3), .val (.int p4), .val (.int p5), .val (.int nn), .val (.int va), .val (.int vb), .val (.int vc), .val (.int vd), .val (.int x1), .val (.int x2), .val (.int x3), .val (.ref b), .val (.int i1), .val (.int i2), .val (.int q1), .val (.int q2), .val (.long (ev + (1 : Int64))), .second, .unset, .unset, .unset, .unset] [])) tg → G tg := fun tg kt => pre4s tg (by
        show Steps p.tables e below (T4.setTop (mkF m 243 #[.val (.int p0), .val (.int p1), .val (.int p2), .val (.int p3), .val (.int p4), .val (.int p5), .val (.int nn), .val (.int va), .val (.int vb), .val (.int vc), .val (.int vd), .val (.int x1), .val (.int x2), .val (.int x3), .val (.ref b), .val (.int i1), .val (.int i2), .val (.int q1), .val (.int q2), .val (.long ev), .second, .unset, .unset, .unset, .unset] [(.int (1 : Int32))])) _
        refine XS.ifNo X4.here hx rfl (hb hby at_243) rfl ((if0 _ _).trans (feq (by decide : ¬ ((1 : Int32) = (0 : Int32)))).1) ?_
        show Steps p.tables e below (T4.setTop (mkF m 246 #[.val (.int p0), .val (.int p1), .val (.int p2), .val (.int p3), .val (.int p4), .val (.int p5), .val (.int nn), .val (.int va), .val (.int vb), .val (.int vc), .val (.int vd), .val (.int x1), .val (.int x2), .val (.int x3), .val (.ref b), .val (.int i1), .val (.int i2), .val (.int q1), .val (.int q2), .val (.long ev), .second, .unset, .unset, .unset, .unset] [])) _
        refine XS.lload X4.here hx rfl (hb hby at_246) rfl ?_
        show Steps p.tables e below (T4.setTop (mkF m 248 #[.val (.int p0), .val (.int p1), .val (.int p2), .val (.int p3), .val (.int p4), .val (.int p5), .val (.int nn), .val (.int va), .val (.int vb), .val (.int vc), .val (.int vd), .val (.int x1), .val (.int x2), .val (.int x3), .val (.ref b), .val (.int i1), .val (.int i2), .val (.int q1), .val (.int q2), .val (.long ev), .second, .unset, .unset, .unset, .unset] [(.long ev)])) _
        refine XS.lconst X4.here hx rfl (hb hby at_248) ?_
        show Steps p.tables e below (T4.setTop (mkF m 249 #[.val (.int p0), .val (.int p1), .val (.int p2), .val (.int p3), .val (.int p4), .val (.int p5), .val (.int nn), .val (.int va), .val (.int vb), .val (.int vc), .val (.int vd), .val (.int x1), .val (.int x2), .val (.int x3), .val (.ref b), .val (.int i1), .val (.int i2), .val (.int q1), .val (.int q2), .val (.long ev), .second, .unset, .unset, .unset, .unset] [(.long (1 : Int64)), (.long ev)])) _
        refine XS.ladd X4.here hx rfl (hb hby at_249) rfl ?_
        show Steps p.tables e below (T4.setTop (mkF m 250 #[.val (.int p0), .val (.int p1), .val (.int p2), .val (.int p3), .val (.int p4), .val (.int p5), .val (.int nn), .val (.int va), .val (.int vb), .val (.int vc), .val (.int vd), .val (.int x1), .val (.int x2), .val (.int x3), .val (.ref b), .val (.int i1), .val (.int i2), .val (.int q1), .val (.int q2), .val (.long ev), .second, .unset, .unset, .unset, .unset] [(.long (ev + (1 : Int64)))])) _
        refine XS.lstore X4.here hx rfl (hb hby at_250) rfl (l' := #[.val (.int p0), .val (.int p1), .val (.int p2), .val (.int p3), .val (.int p4), .val (.int p5), .val (.int nn), .val (.int va), .val (.int vb), .val (.int vc), .val (.int vd), .val (.int x1), .val (.int x2), .val (.int x3), .val (.ref b), .val (.int i1), .val (.int i2), .val (.int q1), .val (.int q2), .val (.long (ev + (1 : Int64))), .second, .unset, .unset, .unset, .unset]) rfl ?_
        exact kt)
      subst hG
      refine ⟨T4, _, X4, e4, N4, fun tg kt => pre5 tg ?_⟩
      simp only [own_e, if_neg hx0, if_pos hk] at kt
      exact kt
    · skip
      obtain ⟨_, _, ⟨T6, L6, k6, n6⟩, -, X6, ⟨Lc6, hQ6, l6, y6, z6⟩, st6⟩ := Jvm.LawKit.callS X0 hx (y := (⟨"com/example/convene/convene/PairCountsCountPinLaw", "same", "(IIII)Z"⟩ : MethodName)) hown (mvT hZ (hw _ (List.mem_of_getElem? (i := 48) rfl))) (mvT hZ (hw _ (List.mem_of_getElem? (i := 49) rfl))) (mvT hZ (hw _ (List.mem_of_getElem? (i := 46) rfl))) (mvT hZ (hw _ (List.mem_of_getElem? (i := 50) rfl))) (by decide) (backOf (W := 0) (rm9 l Z a0 hw [] va vb q1 q2 h0 n0 Z0 ) hZ (hw _ (List.mem_of_getElem? (i := 50) rfl)) (hw _ (List.mem_of_getElem? (i := 46) rfl)) (by decide) (by decide)) (g := (mkF m 240 #[.val (.int p0), .val (.int p1), .val (.int p2), .val (.int p3), .val (.int p4), .val (.int p5), .val (.int nn), .val (.int va), .val (.int vb), .val (.int vc), .val (.int vd), .val (.int x1), .val (.int x2), .val (.int x3), .val (.ref b), .val (.int i1), .val (.int i2), .val (.int q1), .val (.int q2), .val (.long ev), .second, .unset, .unset, .unset, .unset] [(.int q2), (.int q1), (.int vb), (.int va)])) rfl (by rw [hml]; rfl) (argsL := [(.int va), (.int vb), (.int q1), (.int q2)]) (rest := []) (lenOf pd_3 rfl) rfl (by show 2 * 0 + _ ≤ _; exact Nat.le_of_eq rfl) (hb hby at_240) (fun _ _ => ⟨rfl, e0, hcc, hss⟩)
      dsimp only [Pt.U, Pt.locs, Pt.cells, Pt.slots] at X6 l6 y6 z6 st6 hQ6
      subst l6 y6 z6
      obtain ⟨hv6, N6q, e6⟩ := hQ6
      rw [hs, if_neg hk] at hv6
      subst hv6
      have N6 := Fr.app N0 N6q
      have pre6s : ∀ tg, Steps p.tables e below (T6.setTop (mkF m 243 #[.val (.int p0), .val (.int p1), .val (.int p2), .val (.int p3), .val (.int p4), .val (.int p5), .val (.int nn), .val (.int va), .val (.int vb), .val (.int vc), .val (.int vd), .val (.int x1), .val (.int x2), .val (.int x3), .val (.ref b), .val (.int i1), .val (.int i2), .val (.int q1), .val (.int q2), .val (.long ev), .second, .unset, .unset, .unset, .unset] [(.int (0 : Int32))])) tg → G tg := fun tg kt => pre3 tg (st6 tg kt)
      have pre7 : ∀ tg, Steps p.tables e below (T6.setTop (mkF m 252 #[.val (.int p0), .val (.int p1), .val (.int p2), .val (.int p3), .val (.int p4), .val (.int p5), .val (.int nn), .val (.int va), .val (.int vb), .val (.int vc), .val (.int vd), .val (.int x1), .val (.int x2), .val (.int x3), .val (.ref b), .val (.int i1), .val (.int i2), .val (.int q1), .val (.int q2), .val (.long ev), .second, .unset, .unset, .unset, .unset] [])) tg → G tg := fun tg kt => pre6s tg (by
        show Steps p.tables e below (T6.setTop (mkF m 243 #[.val (.int p0), .val (.int p1), .val (.int p2), .val (.int p3), .val (.int p4), .val (.int p5), .val (.int nn), .val (.int va), .val (.int vb), .val (.int vc), .val (.int vd), .val (.int x1), .val (.int x2), .val (.int x3), .val (.ref b), .val (.int i1), .val (.int i2), .val (.int q1), .val (.int q2), .val (.long ev), .second, .unset, .unset, .unset, .unset] [(.int (0 : Int32))])) _
        refine XS.ifYes X6.here hx rfl (pc0 := 243) (pc' := 252) rfl (hb hby at_243) rfl ((if0 _ _).trans (teq (by decide : (0 : Int32) = (0 : Int32))).1) (by decide) (by decide) ?_
        exact kt)
      subst hG
      refine ⟨T6, _, X6, e6, N6, fun tg kt => pre7 tg ?_⟩
      simp only [own_e, if_neg hx0, if_neg hk] at kt
      exact kt
set_option maxRecDepth 65536 in
set_option maxHeartbeats 40000000 in
theorem own_seg2 {p : Program} {l : Launch} {e : Env} {s : State} {m : MethodId} {args : Array Value} {below : List Frame} {meth : Method} {c : Code} {T0 : State} {locs : List Loc} {cells slots : Nat} {Z : State} {a0 : Array Value} {h0 : Heap} (n0 : Nat) (p0 p1 p2 p3 p4 p5 nn va vb vc vd x1 x2 x3 : Int32) (b : Addr) (i1 i2 q1 q2 : Int32) (ev K Kq : Int64)
    (X0 : Stand p l e room_1 s m args below meth c T0 locs cells slots) (hx : p.tables.exec = Jvm.exec) (hZ : Z.Warmed39 s.vm) (hw : ∀ d ∈ tables_1, d.before a0 Z = true) (hby : c.code = code) (hml : c.maxLocals = 25) (hown : s.vm.findClass "com/example/convene/convene/PairCountsCountPinLaw" = some m.cls) (e0 : T0.heap = h0) (N0 : Fr n0 locs) (Z0 : n0 ≤ h0.size) (hcc : cells ≤ 16) (hss : slots ≤ 4224) (hs : own_same vc vd q1 q2 = if K = Kq then (1 : Int32) else (0 : Int32)) :
    ∃ (T' : State) (locs' : List Loc), Stand p l e room_1 s m args below meth c T' locs' cells slots ∧ T'.heap = h0 ∧ Fr n0 locs' ∧ ∀ target, Steps p.tables e below (T'.setTop (mkF m 277 #[.val (.int p0), .val (.int p1), .val (.int p2), .val (.int p3), .val (.int p4), .val (.int p5), .val (.int nn), .val (.int va), .val (.int vb), .val (.int vc), .val (.int vd), .val (.int x1), .val (.int x2), .val (.int x3), .val (.ref b), .val (.int i1), .val (.int i2), .val (.int q1), .val (.int q2), .val (.long (own_e x2 K Kq ev)), .second, .unset, .unset, .unset, .unset] [])) target → Steps p.tables e below (T0.setTop (mkF m 252 #[.val (.int p0), .val (.int p1), .val (.int p2), .val (.int p3), .val (.int p4), .val (.int p5), .val (.int nn), .val (.int va), .val (.int vb), .val (.int vc), .val (.int vd), .val (.int x1), .val (.int x2), .val (.int x3), .val (.ref b), .val (.int i1), .val (.int i2), .val (.int q1), .val (.int q2), .val (.long ev), .second, .unset, .unset, .unset, .unset] [])) target := by
  obtain ⟨G, hG⟩ : ∃ G : State → Prop, G = fun tg => Steps p.tables e below (T0.setTop (mkF m 252 #[.val (.int p0), .val (.int p1), .val (.int p2), .val (.int p3), .val (.int p4), .val (.int p5), .val (.int nn), .val (.int va), .val (.int vb), .val (.int vc), .val (.int vd), .val (.int x1), .val (.int x2), .val (.int x3), .val (.ref b), .val (.int i1), .val (.int i2), .val (.int q1), .val (.int q2), .val (.long ev), .second, .unset, .unset, .unset, .unset] [])) tg := ⟨_, rfl⟩
  have pre0 : ∀ tg, Steps p.tables e below (T0.setTop (mkF m 252 #[.val (.int p0), .val (.int p1), .val (.int p2), .val (.int p3), .val (.int p4), .val (.int p5), .val (.int nn), .val (.int va), .val (.int vb), .val (.int vc), .val (.int vd), .val (.int x1), .val (.int x2), .val (.int x3), .val (.ref b), .val (.int i1), .val (.int i2), .val (.int q1), .val (.int q2), .val (.long ev), .second, .unset, .unset, .unset, .unset] [])) tg → G tg := fun tg kt => by rw [hG]; exact kt
  have pre1 : ∀ tg, Steps p.tables e below (T0.setTop (mkF m 254 #[.val (.int p0), .val (.int p1), .val (.int p2), .val (.int p3), .val (.int p4), .val (.int p5), .val (.int nn), .val (.int va), .val (.int vb), .val (.int vc), .val (.int vd), .val (.int x1), .val (.int x2), .val (.int x3), .val (.ref b), .val (.int i1), .val (.int i2), .val (.int q1), .val (.int q2), .val (.long ev), .second, .unset, .unset, .unset, .unset] [(.int x2)])) tg → G tg := fun tg kt => pre0 tg (by
    show Steps p.tables e below (T0.setTop (mkF m 252 #[.val (.int p0), .val (.int p1), .val (.int p2), .val (.int p3), .val (.int p4), .val (.int p5), .val (.int nn), .val (.int va), .val (.int vb), .val (.int vc), .val (.int vd), .val (.int x1), .val (.int x2), .val (.int x3), .val (.ref b), .val (.int i1), .val (.int i2), .val (.int q1), .val (.int q2), .val (.long ev), .second, .unset, .unset, .unset, .unset] [])) _
    refine XS.iload X0.here hx rfl (hb hby at_252) rfl ?_
    exact kt)
  by_cases hx0 : x2 = (0 : Int32)
  · -- hx0
    have pre2 : ∀ tg, Steps p.tables e below (T0.setTop (mkF m 277 #[.val (.int p0), .val (.int p1), .val (.int p2), .val (.int p3), .val (.int p4), .val (.int p5), .val (.int nn), .val (.int va), .val (.int vb), .val (.int vc), .val (.int vd), .val (.int x1), .val (.int x2), .val (.int x3), .val (.ref b), .val (.int i1), .val (.int i2), .val (.int q1), .val (.int q2), .val (.long ev), .second, .unset, .unset, .unset, .unset] [])) tg → G tg := fun tg kt => pre1 tg (by
      show Steps p.tables e below (T0.setTop (mkF m 254 #[.val (.int p0), .val (.int p1), .val (.int p2), .val (.int p3), .val (.int p4), .val (.int p5), .val (.int nn), .val (.int va), .val (.int vb), .val (.int vc), .val (.int vd), .val (.int x1), .val (.int x2), .val (.int x3), .val (.ref b), .val (.int i1), .val (.int i2), .val (.int q1), .val (.int q2), .val (.long ev), .second, .unset, .unset, .unset, .unset] [(.int x2)])) _
      refine XS.ifYes X0.here hx rfl (pc0 := 254) (pc' := 277) rfl (hb hby at_254) rfl ((if0 _ _).trans (teq hx0).1) (by decide) (by decide) ?_
      exact kt)
    subst hG
    refine ⟨T0, _, X0, e0, N0, fun tg kt => pre2 tg ?_⟩
    simp only [own_e, if_pos hx0] at kt
    exact kt
  · -- not hx0
    have pre3 : ∀ tg, Steps p.tables e below (T0.setTop (mkF m 265 #[.val (.int p0), .val (.int p1), .val (.int p2), .val (.int p3), .val (.int p4), .val (.int p5), .val (.int nn), .val (.int va), .val (.int vb), .val (.int vc), .val (.int vd), .val (.int x1), .val (.int x2), .val (.int x3), .val (.ref b), .val (.int i1), .val (.int i2), .val (.int q1), .val (.int q2), .val (.long ev), .second, .unset, .unset, .unset, .unset] [(.int q2), (.int q1), (.int vd), (.int vc)])) tg → G tg := fun tg kt => pre1 tg (by
      show Steps p.tables e below (T0.setTop (mkF m 254 #[.val (.int p0), .val (.int p1), .val (.int p2), .val (.int p3), .val (.int p4), .val (.int p5), .val (.int nn), .val (.int va), .val (.int vb), .val (.int vc), .val (.int vd), .val (.int x1), .val (.int x2), .val (.int x3), .val (.ref b), .val (.int i1), .val (.int i2), .val (.int q1), .val (.int q2), .val (.long ev), .second, .unset, .unset, .unset, .unset] [(.int x2)])) _
      refine XS.ifNo X0.here hx rfl (hb hby at_254) rfl ((if0 _ _).trans (feq hx0).1) ?_
      show Steps p.tables e below (T0.setTop (mkF m 257 #[.val (.int p0), .val (.int p1), .val (.int p2), .val (.int p3), .val (.int p4), .val (.int p5), .val (.int nn), .val (.int va), .val (.int vb), .val (.int vc), .val (.int vd), .val (.int x1), .val (.int x2), .val (.int x3), .val (.ref b), .val (.int i1), .val (.int i2), .val (.int q1), .val (.int q2), .val (.long ev), .second, .unset, .unset, .unset, .unset] [])) _
      refine XS.iload X0.here hx rfl (hb hby at_257) rfl ?_
      show Steps p.tables e below (T0.setTop (mkF m 259 #[.val (.int p0), .val (.int p1), .val (.int p2), .val (.int p3), .val (.int p4), .val (.int p5), .val (.int nn), .val (.int va), .val (.int vb), .val (.int vc), .val (.int vd), .val (.int x1), .val (.int x2), .val (.int x3), .val (.ref b), .val (.int i1), .val (.int i2), .val (.int q1), .val (.int q2), .val (.long ev), .second, .unset, .unset, .unset, .unset] [(.int vc)])) _
      refine XS.iload X0.here hx rfl (hb hby at_259) rfl ?_
      show Steps p.tables e below (T0.setTop (mkF m 261 #[.val (.int p0), .val (.int p1), .val (.int p2), .val (.int p3), .val (.int p4), .val (.int p5), .val (.int nn), .val (.int va), .val (.int vb), .val (.int vc), .val (.int vd), .val (.int x1), .val (.int x2), .val (.int x3), .val (.ref b), .val (.int i1), .val (.int i2), .val (.int q1), .val (.int q2), .val (.long ev), .second, .unset, .unset, .unset, .unset] [(.int vd), (.int vc)])) _
      refine XS.iload X0.here hx rfl (hb hby at_261) rfl ?_
      show Steps p.tables e below (T0.setTop (mkF m 263 #[.val (.int p0), .val (.int p1), .val (.int p2), .val (.int p3), .val (.int p4), .val (.int p5), .val (.int nn), .val (.int va), .val (.int vb), .val (.int vc), .val (.int vd), .val (.int x1), .val (.int x2), .val (.int x3), .val (.ref b), .val (.int i1), .val (.int i2), .val (.int q1), .val (.int q2), .val (.long ev), .second, .unset, .unset, .unset, .unset] [(.int q1), (.int vd), (.int vc)])) _
      refine XS.iload X0.here hx rfl (hb hby at_263) rfl ?_
      exact kt)
    by_cases hk : K = Kq
    · skip
      obtain ⟨_, _, ⟨T4, L4, k4, n4⟩, -, X4, ⟨Lc4, hQ4, l4, y4, z4⟩, st4⟩ := Jvm.LawKit.callS X0 hx (y := (⟨"com/example/convene/convene/PairCountsCountPinLaw", "same", "(IIII)Z"⟩ : MethodName)) hown (mvT hZ (hw _ (List.mem_of_getElem? (i := 48) rfl))) (mvT hZ (hw _ (List.mem_of_getElem? (i := 49) rfl))) (mvT hZ (hw _ (List.mem_of_getElem? (i := 46) rfl))) (mvT hZ (hw _ (List.mem_of_getElem? (i := 50) rfl))) (by decide) (backOf (W := 0) (rm9 l Z a0 hw [] vc vd q1 q2 h0 n0 Z0 ) hZ (hw _ (List.mem_of_getElem? (i := 50) rfl)) (hw _ (List.mem_of_getElem? (i := 46) rfl)) (by decide) (by decide)) (g := (mkF m 265 #[.val (.int p0), .val (.int p1), .val (.int p2), .val (.int p3), .val (.int p4), .val (.int p5), .val (.int nn), .val (.int va), .val (.int vb), .val (.int vc), .val (.int vd), .val (.int x1), .val (.int x2), .val (.int x3), .val (.ref b), .val (.int i1), .val (.int i2), .val (.int q1), .val (.int q2), .val (.long ev), .second, .unset, .unset, .unset, .unset] [(.int q2), (.int q1), (.int vd), (.int vc)])) rfl (by rw [hml]; rfl) (argsL := [(.int vc), (.int vd), (.int q1), (.int q2)]) (rest := []) (lenOf pd_3 rfl) rfl (by show 2 * 0 + _ ≤ _; exact Nat.le_of_eq rfl) (hb hby at_265) (fun _ _ => ⟨rfl, e0, hcc, hss⟩)
      dsimp only [Pt.U, Pt.locs, Pt.cells, Pt.slots] at X4 l4 y4 z4 st4 hQ4
      subst l4 y4 z4
      obtain ⟨hv4, N4q, e4⟩ := hQ4
      rw [hs, if_pos hk] at hv4
      subst hv4
      have N4 := Fr.app N0 N4q
      have pre4s : ∀ tg, Steps p.tables e below (T4.setTop (mkF m 268 #[.val (.int p0), .val (.int p1), .val (.int p2), .val (.int p3), .val (.int p4), .val (.int p5), .val (.int nn), .val (.int va), .val (.int vb), .val (.int vc), .val (.int vd), .val (.int x1), .val (.int x2), .val (.int x3), .val (.ref b), .val (.int i1), .val (.int i2), .val (.int q1), .val (.int q2), .val (.long ev), .second, .unset, .unset, .unset, .unset] [(.int (1 : Int32))])) tg → G tg := fun tg kt => pre3 tg (st4 tg kt)
      have pre5 : ∀ tg, Steps p.tables e below (T4.setTop (mkF m 277 #[.val (.int p0), .val (.int p1), .val (.int p2), .val (.int p3), .val (.int p4), .val (.int p5), .val (.int nn), .val (.int va), .val (.int vb), .val (.int vc), .val (.int vd), .val (.int x1), .val (.int x2), .val (.int x3), .val (.ref b), .val (.int i1), .val (.int i2), .val (.int q1), .val (.int q2), .val (.long (ev + (1 : Int64))), .second, .unset, .unset, .unset, .unset] [])) tg → G tg := fun tg kt => pre4s tg (by
        show Steps p.tables e below (T4.setTop (mkF m 268 #[.val (.int p0), .val (.int p1), .val (.int p2), .val (.int p3), .val (.int p4), .val (.int p5), .val (.int nn), .val (.int va), .val (.int vb), .val (.int vc), .val (.int vd), .val (.int x1), .val (.int x2), .val (.int x3), .val (.ref b), .val (.int i1), .val (.int i2), .val (.int q1), .val (.int q2), .val (.long ev), .second, .unset, .unset, .unset, .unset] [(.int (1 : Int32))])) _
        refine XS.ifNo X4.here hx rfl (hb hby at_268) rfl ((if0 _ _).trans (feq (by decide : ¬ ((1 : Int32) = (0 : Int32)))).1) ?_
        show Steps p.tables e below (T4.setTop (mkF m 271 #[.val (.int p0), .val (.int p1), .val (.int p2), .val (.int p3), .val (.int p4), .val (.int p5), .val (.int nn), .val (.int va), .val (.int vb), .val (.int vc), .val (.int vd), .val (.int x1), .val (.int x2), .val (.int x3), .val (.ref b), .val (.int i1), .val (.int i2), .val (.int q1), .val (.int q2), .val (.long ev), .second, .unset, .unset, .unset, .unset] [])) _
        refine XS.lload X4.here hx rfl (hb hby at_271) rfl ?_
        show Steps p.tables e below (T4.setTop (mkF m 273 #[.val (.int p0), .val (.int p1), .val (.int p2), .val (.int p3), .val (.int p4), .val (.int p5), .val (.int nn), .val (.int va), .val (.int vb), .val (.int vc), .val (.int vd), .val (.int x1), .val (.int x2), .val (.int x3), .val (.ref b), .val (.int i1), .val (.int i2), .val (.int q1), .val (.int q2), .val (.long ev), .second, .unset, .unset, .unset, .unset] [(.long ev)])) _
        refine XS.lconst X4.here hx rfl (hb hby at_273) ?_
        show Steps p.tables e below (T4.setTop (mkF m 274 #[.val (.int p0), .val (.int p1), .val (.int p2), .val (.int p3), .val (.int p4), .val (.int p5), .val (.int nn), .val (.int va), .val (.int vb), .val (.int vc), .val (.int vd), .val (.int x1), .val (.int x2), .val (.int x3), .val (.ref b), .val (.int i1), .val (.int i2), .val (.int q1), .val (.int q2), .val (.long ev), .second, .unset, .unset, .unset, .unset] [(.long (1 : Int64)), (.long ev)])) _
        refine XS.ladd X4.here hx rfl (hb hby at_274) rfl ?_
        show Steps p.tables e below (T4.setTop (mkF m 275 #[.val (.int p0), .val (.int p1), .val (.int p2), .val (.int p3), .val (.int p4), .val (.int p5), .val (.int nn), .val (.int va), .val (.int vb), .val (.int vc), .val (.int vd), .val (.int x1), .val (.int x2), .val (.int x3), .val (.ref b), .val (.int i1), .val (.int i2), .val (.int q1), .val (.int q2), .val (.long ev), .second, .unset, .unset, .unset, .unset] [(.long (ev + (1 : Int64)))])) _
        refine XS.lstore X4.here hx rfl (hb hby at_275) rfl (l' := #[.val (.int p0), .val (.int p1), .val (.int p2), .val (.int p3), .val (.int p4), .val (.int p5), .val (.int nn), .val (.int va), .val (.int vb), .val (.int vc), .val (.int vd), .val (.int x1), .val (.int x2), .val (.int x3), .val (.ref b), .val (.int i1), .val (.int i2), .val (.int q1), .val (.int q2), .val (.long (ev + (1 : Int64))), .second, .unset, .unset, .unset, .unset]) rfl ?_
        exact kt)
      subst hG
      refine ⟨T4, _, X4, e4, N4, fun tg kt => pre5 tg ?_⟩
      simp only [own_e, if_neg hx0, if_pos hk] at kt
      exact kt
    · skip
      obtain ⟨_, _, ⟨T6, L6, k6, n6⟩, -, X6, ⟨Lc6, hQ6, l6, y6, z6⟩, st6⟩ := Jvm.LawKit.callS X0 hx (y := (⟨"com/example/convene/convene/PairCountsCountPinLaw", "same", "(IIII)Z"⟩ : MethodName)) hown (mvT hZ (hw _ (List.mem_of_getElem? (i := 48) rfl))) (mvT hZ (hw _ (List.mem_of_getElem? (i := 49) rfl))) (mvT hZ (hw _ (List.mem_of_getElem? (i := 46) rfl))) (mvT hZ (hw _ (List.mem_of_getElem? (i := 50) rfl))) (by decide) (backOf (W := 0) (rm9 l Z a0 hw [] vc vd q1 q2 h0 n0 Z0 ) hZ (hw _ (List.mem_of_getElem? (i := 50) rfl)) (hw _ (List.mem_of_getElem? (i := 46) rfl)) (by decide) (by decide)) (g := (mkF m 265 #[.val (.int p0), .val (.int p1), .val (.int p2), .val (.int p3), .val (.int p4), .val (.int p5), .val (.int nn), .val (.int va), .val (.int vb), .val (.int vc), .val (.int vd), .val (.int x1), .val (.int x2), .val (.int x3), .val (.ref b), .val (.int i1), .val (.int i2), .val (.int q1), .val (.int q2), .val (.long ev), .second, .unset, .unset, .unset, .unset] [(.int q2), (.int q1), (.int vd), (.int vc)])) rfl (by rw [hml]; rfl) (argsL := [(.int vc), (.int vd), (.int q1), (.int q2)]) (rest := []) (lenOf pd_3 rfl) rfl (by show 2 * 0 + _ ≤ _; exact Nat.le_of_eq rfl) (hb hby at_265) (fun _ _ => ⟨rfl, e0, hcc, hss⟩)
      dsimp only [Pt.U, Pt.locs, Pt.cells, Pt.slots] at X6 l6 y6 z6 st6 hQ6
      subst l6 y6 z6
      obtain ⟨hv6, N6q, e6⟩ := hQ6
      rw [hs, if_neg hk] at hv6
      subst hv6
      have N6 := Fr.app N0 N6q
      have pre6s : ∀ tg, Steps p.tables e below (T6.setTop (mkF m 268 #[.val (.int p0), .val (.int p1), .val (.int p2), .val (.int p3), .val (.int p4), .val (.int p5), .val (.int nn), .val (.int va), .val (.int vb), .val (.int vc), .val (.int vd), .val (.int x1), .val (.int x2), .val (.int x3), .val (.ref b), .val (.int i1), .val (.int i2), .val (.int q1), .val (.int q2), .val (.long ev), .second, .unset, .unset, .unset, .unset] [(.int (0 : Int32))])) tg → G tg := fun tg kt => pre3 tg (st6 tg kt)
      have pre7 : ∀ tg, Steps p.tables e below (T6.setTop (mkF m 277 #[.val (.int p0), .val (.int p1), .val (.int p2), .val (.int p3), .val (.int p4), .val (.int p5), .val (.int nn), .val (.int va), .val (.int vb), .val (.int vc), .val (.int vd), .val (.int x1), .val (.int x2), .val (.int x3), .val (.ref b), .val (.int i1), .val (.int i2), .val (.int q1), .val (.int q2), .val (.long ev), .second, .unset, .unset, .unset, .unset] [])) tg → G tg := fun tg kt => pre6s tg (by
        show Steps p.tables e below (T6.setTop (mkF m 268 #[.val (.int p0), .val (.int p1), .val (.int p2), .val (.int p3), .val (.int p4), .val (.int p5), .val (.int nn), .val (.int va), .val (.int vb), .val (.int vc), .val (.int vd), .val (.int x1), .val (.int x2), .val (.int x3), .val (.ref b), .val (.int i1), .val (.int i2), .val (.int q1), .val (.int q2), .val (.long ev), .second, .unset, .unset, .unset, .unset] [(.int (0 : Int32))])) _
        refine XS.ifYes X6.here hx rfl (pc0 := 268) (pc' := 277) rfl (hb hby at_268) rfl ((if0 _ _).trans (teq (by decide : (0 : Int32) = (0 : Int32))).1) (by decide) (by decide) ?_
        exact kt)
      subst hG
      refine ⟨T6, _, X6, e6, N6, fun tg kt => pre7 tg ?_⟩
      simp only [own_e, if_neg hx0, if_neg hk] at kt
      exact kt
set_option maxRecDepth 65536 in
set_option maxHeartbeats 40000000 in
theorem own_seg3 {p : Program} {l : Launch} {e : Env} {s : State} {m : MethodId} {args : Array Value} {below : List Frame} {meth : Method} {c : Code} {T0 : State} {locs : List Loc} {cells slots : Nat} {Z : State} {a0 : Array Value} {h0 : Heap} (n0 : Nat) (p0 p1 p2 p3 p4 p5 nn va vb vc vd x1 x2 x3 : Int32) (b : Addr) (i1 i2 q1 q2 : Int32) (ev K Kq : Int64)
    (X0 : Stand p l e room_1 s m args below meth c T0 locs cells slots) (hx : p.tables.exec = Jvm.exec) (hZ : Z.Warmed39 s.vm) (hw : ∀ d ∈ tables_1, d.before a0 Z = true) (hby : c.code = code) (hml : c.maxLocals = 25) (hown : s.vm.findClass "com/example/convene/convene/PairCountsCountPinLaw" = some m.cls) (e0 : T0.heap = h0) (N0 : Fr n0 locs) (Z0 : n0 ≤ h0.size) (hcc : cells ≤ 16) (hss : slots ≤ 4224) (hs : own_same vb va q1 q2 = if K = Kq then (1 : Int32) else (0 : Int32)) :
    ∃ (T' : State) (locs' : List Loc), Stand p l e room_1 s m args below meth c T' locs' cells slots ∧ T'.heap = h0 ∧ Fr n0 locs' ∧ ∀ target, Steps p.tables e below (T'.setTop (mkF m 302 #[.val (.int p0), .val (.int p1), .val (.int p2), .val (.int p3), .val (.int p4), .val (.int p5), .val (.int nn), .val (.int va), .val (.int vb), .val (.int vc), .val (.int vd), .val (.int x1), .val (.int x2), .val (.int x3), .val (.ref b), .val (.int i1), .val (.int i2), .val (.int q1), .val (.int q2), .val (.long (own_e x3 K Kq ev)), .second, .unset, .unset, .unset, .unset] [])) target → Steps p.tables e below (T0.setTop (mkF m 277 #[.val (.int p0), .val (.int p1), .val (.int p2), .val (.int p3), .val (.int p4), .val (.int p5), .val (.int nn), .val (.int va), .val (.int vb), .val (.int vc), .val (.int vd), .val (.int x1), .val (.int x2), .val (.int x3), .val (.ref b), .val (.int i1), .val (.int i2), .val (.int q1), .val (.int q2), .val (.long ev), .second, .unset, .unset, .unset, .unset] [])) target := by
  obtain ⟨G, hG⟩ : ∃ G : State → Prop, G = fun tg => Steps p.tables e below (T0.setTop (mkF m 277 #[.val (.int p0), .val (.int p1), .val (.int p2), .val (.int p3), .val (.int p4), .val (.int p5), .val (.int nn), .val (.int va), .val (.int vb), .val (.int vc), .val (.int vd), .val (.int x1), .val (.int x2), .val (.int x3), .val (.ref b), .val (.int i1), .val (.int i2), .val (.int q1), .val (.int q2), .val (.long ev), .second, .unset, .unset, .unset, .unset] [])) tg := ⟨_, rfl⟩
  have pre0 : ∀ tg, Steps p.tables e below (T0.setTop (mkF m 277 #[.val (.int p0), .val (.int p1), .val (.int p2), .val (.int p3), .val (.int p4), .val (.int p5), .val (.int nn), .val (.int va), .val (.int vb), .val (.int vc), .val (.int vd), .val (.int x1), .val (.int x2), .val (.int x3), .val (.ref b), .val (.int i1), .val (.int i2), .val (.int q1), .val (.int q2), .val (.long ev), .second, .unset, .unset, .unset, .unset] [])) tg → G tg := fun tg kt => by rw [hG]; exact kt
  have pre1 : ∀ tg, Steps p.tables e below (T0.setTop (mkF m 279 #[.val (.int p0), .val (.int p1), .val (.int p2), .val (.int p3), .val (.int p4), .val (.int p5), .val (.int nn), .val (.int va), .val (.int vb), .val (.int vc), .val (.int vd), .val (.int x1), .val (.int x2), .val (.int x3), .val (.ref b), .val (.int i1), .val (.int i2), .val (.int q1), .val (.int q2), .val (.long ev), .second, .unset, .unset, .unset, .unset] [(.int x3)])) tg → G tg := fun tg kt => pre0 tg (by
    show Steps p.tables e below (T0.setTop (mkF m 277 #[.val (.int p0), .val (.int p1), .val (.int p2), .val (.int p3), .val (.int p4), .val (.int p5), .val (.int nn), .val (.int va), .val (.int vb), .val (.int vc), .val (.int vd), .val (.int x1), .val (.int x2), .val (.int x3), .val (.ref b), .val (.int i1), .val (.int i2), .val (.int q1), .val (.int q2), .val (.long ev), .second, .unset, .unset, .unset, .unset] [])) _
    refine XS.iload X0.here hx rfl (hb hby at_277) rfl ?_
    exact kt)
  by_cases hx0 : x3 = (0 : Int32)
  · -- hx0
    have pre2 : ∀ tg, Steps p.tables e below (T0.setTop (mkF m 302 #[.val (.int p0), .val (.int p1), .val (.int p2), .val (.int p3), .val (.int p4), .val (.int p5), .val (.int nn), .val (.int va), .val (.int vb), .val (.int vc), .val (.int vd), .val (.int x1), .val (.int x2), .val (.int x3), .val (.ref b), .val (.int i1), .val (.int i2), .val (.int q1), .val (.int q2), .val (.long ev), .second, .unset, .unset, .unset, .unset] [])) tg → G tg := fun tg kt => pre1 tg (by
      show Steps p.tables e below (T0.setTop (mkF m 279 #[.val (.int p0), .val (.int p1), .val (.int p2), .val (.int p3), .val (.int p4), .val (.int p5), .val (.int nn), .val (.int va), .val (.int vb), .val (.int vc), .val (.int vd), .val (.int x1), .val (.int x2), .val (.int x3), .val (.ref b), .val (.int i1), .val (.int i2), .val (.int q1), .val (.int q2), .val (.long ev), .second, .unset, .unset, .unset, .unset] [(.int x3)])) _
      refine XS.ifYes X0.here hx rfl (pc0 := 279) (pc' := 302) rfl (hb hby at_279) rfl ((if0 _ _).trans (teq hx0).1) (by decide) (by decide) ?_
      exact kt)
    subst hG
    refine ⟨T0, _, X0, e0, N0, fun tg kt => pre2 tg ?_⟩
    simp only [own_e, if_pos hx0] at kt
    exact kt
  · -- not hx0
    have pre3 : ∀ tg, Steps p.tables e below (T0.setTop (mkF m 290 #[.val (.int p0), .val (.int p1), .val (.int p2), .val (.int p3), .val (.int p4), .val (.int p5), .val (.int nn), .val (.int va), .val (.int vb), .val (.int vc), .val (.int vd), .val (.int x1), .val (.int x2), .val (.int x3), .val (.ref b), .val (.int i1), .val (.int i2), .val (.int q1), .val (.int q2), .val (.long ev), .second, .unset, .unset, .unset, .unset] [(.int q2), (.int q1), (.int va), (.int vb)])) tg → G tg := fun tg kt => pre1 tg (by
      show Steps p.tables e below (T0.setTop (mkF m 279 #[.val (.int p0), .val (.int p1), .val (.int p2), .val (.int p3), .val (.int p4), .val (.int p5), .val (.int nn), .val (.int va), .val (.int vb), .val (.int vc), .val (.int vd), .val (.int x1), .val (.int x2), .val (.int x3), .val (.ref b), .val (.int i1), .val (.int i2), .val (.int q1), .val (.int q2), .val (.long ev), .second, .unset, .unset, .unset, .unset] [(.int x3)])) _
      refine XS.ifNo X0.here hx rfl (hb hby at_279) rfl ((if0 _ _).trans (feq hx0).1) ?_
      show Steps p.tables e below (T0.setTop (mkF m 282 #[.val (.int p0), .val (.int p1), .val (.int p2), .val (.int p3), .val (.int p4), .val (.int p5), .val (.int nn), .val (.int va), .val (.int vb), .val (.int vc), .val (.int vd), .val (.int x1), .val (.int x2), .val (.int x3), .val (.ref b), .val (.int i1), .val (.int i2), .val (.int q1), .val (.int q2), .val (.long ev), .second, .unset, .unset, .unset, .unset] [])) _
      refine XS.iload X0.here hx rfl (hb hby at_282) rfl ?_
      show Steps p.tables e below (T0.setTop (mkF m 284 #[.val (.int p0), .val (.int p1), .val (.int p2), .val (.int p3), .val (.int p4), .val (.int p5), .val (.int nn), .val (.int va), .val (.int vb), .val (.int vc), .val (.int vd), .val (.int x1), .val (.int x2), .val (.int x3), .val (.ref b), .val (.int i1), .val (.int i2), .val (.int q1), .val (.int q2), .val (.long ev), .second, .unset, .unset, .unset, .unset] [(.int vb)])) _
      refine XS.iload X0.here hx rfl (hb hby at_284) rfl ?_
      show Steps p.tables e below (T0.setTop (mkF m 286 #[.val (.int p0), .val (.int p1), .val (.int p2), .val (.int p3), .val (.int p4), .val (.int p5), .val (.int nn), .val (.int va), .val (.int vb), .val (.int vc), .val (.int vd), .val (.int x1), .val (.int x2), .val (.int x3), .val (.ref b), .val (.int i1), .val (.int i2), .val (.int q1), .val (.int q2), .val (.long ev), .second, .unset, .unset, .unset, .unset] [(.int va), (.int vb)])) _
      refine XS.iload X0.here hx rfl (hb hby at_286) rfl ?_
      show Steps p.tables e below (T0.setTop (mkF m 288 #[.val (.int p0), .val (.int p1), .val (.int p2), .val (.int p3), .val (.int p4), .val (.int p5), .val (.int nn), .val (.int va), .val (.int vb), .val (.int vc), .val (.int vd), .val (.int x1), .val (.int x2), .val (.int x3), .val (.ref b), .val (.int i1), .val (.int i2), .val (.int q1), .val (.int q2), .val (.long ev), .second, .unset, .unset, .unset, .unset] [(.int q1), (.int va), (.int vb)])) _
      refine XS.iload X0.here hx rfl (hb hby at_288) rfl ?_
      exact kt)
    by_cases hk : K = Kq
    · skip
      obtain ⟨_, _, ⟨T4, L4, k4, n4⟩, -, X4, ⟨Lc4, hQ4, l4, y4, z4⟩, st4⟩ := Jvm.LawKit.callS X0 hx (y := (⟨"com/example/convene/convene/PairCountsCountPinLaw", "same", "(IIII)Z"⟩ : MethodName)) hown (mvT hZ (hw _ (List.mem_of_getElem? (i := 48) rfl))) (mvT hZ (hw _ (List.mem_of_getElem? (i := 49) rfl))) (mvT hZ (hw _ (List.mem_of_getElem? (i := 46) rfl))) (mvT hZ (hw _ (List.mem_of_getElem? (i := 50) rfl))) (by decide) (backOf (W := 0) (rm9 l Z a0 hw [] vb va q1 q2 h0 n0 Z0 ) hZ (hw _ (List.mem_of_getElem? (i := 50) rfl)) (hw _ (List.mem_of_getElem? (i := 46) rfl)) (by decide) (by decide)) (g := (mkF m 290 #[.val (.int p0), .val (.int p1), .val (.int p2), .val (.int p3), .val (.int p4), .val (.int p5), .val (.int nn), .val (.int va), .val (.int vb), .val (.int vc), .val (.int vd), .val (.int x1), .val (.int x2), .val (.int x3), .val (.ref b), .val (.int i1), .val (.int i2), .val (.int q1), .val (.int q2), .val (.long ev), .second, .unset, .unset, .unset, .unset] [(.int q2), (.int q1), (.int va), (.int vb)])) rfl (by rw [hml]; rfl) (argsL := [(.int vb), (.int va), (.int q1), (.int q2)]) (rest := []) (lenOf pd_3 rfl) rfl (by show 2 * 0 + _ ≤ _; exact Nat.le_of_eq rfl) (hb hby at_290) (fun _ _ => ⟨rfl, e0, hcc, hss⟩)
      dsimp only [Pt.U, Pt.locs, Pt.cells, Pt.slots] at X4 l4 y4 z4 st4 hQ4
      subst l4 y4 z4
      obtain ⟨hv4, N4q, e4⟩ := hQ4
      rw [hs, if_pos hk] at hv4
      subst hv4
      have N4 := Fr.app N0 N4q
      have pre4s : ∀ tg, Steps p.tables e below (T4.setTop (mkF m 293 #[.val (.int p0), .val (.int p1), .val (.int p2), .val (.int p3), .val (.int p4), .val (.int p5), .val (.int nn), .val (.int va), .val (.int vb), .val (.int vc), .val (.int vd), .val (.int x1), .val (.int x2), .val (.int x3), .val (.ref b), .val (.int i1), .val (.int i2), .val (.int q1), .val (.int q2), .val (.long ev), .second, .unset, .unset, .unset, .unset] [(.int (1 : Int32))])) tg → G tg := fun tg kt => pre3 tg (st4 tg kt)
      have pre5 : ∀ tg, Steps p.tables e below (T4.setTop (mkF m 302 #[.val (.int p0), .val (.int p1), .val (.int p2), .val (.int p3), .val (.int p4), .val (.int p5), .val (.int nn), .val (.int va), .val (.int vb), .val (.int vc), .val (.int vd), .val (.int x1), .val (.int x2), .val (.int x3), .val (.ref b), .val (.int i1), .val (.int i2), .val (.int q1), .val (.int q2), .val (.long (ev + (1 : Int64))), .second, .unset, .unset, .unset, .unset] [])) tg → G tg := fun tg kt => pre4s tg (by
        show Steps p.tables e below (T4.setTop (mkF m 293 #[.val (.int p0), .val (.int p1), .val (.int p2), .val (.int p3), .val (.int p4), .val (.int p5), .val (.int nn), .val (.int va), .val (.int vb), .val (.int vc), .val (.int vd), .val (.int x1), .val (.int x2), .val (.int x3), .val (.ref b), .val (.int i1), .val (.int i2), .val (.int q1), .val (.int q2), .val (.long ev), .second, .unset, .unset, .unset, .unset] [(.int (1 : Int32))])) _
        refine XS.ifNo X4.here hx rfl (hb hby at_293) rfl ((if0 _ _).trans (feq (by decide : ¬ ((1 : Int32) = (0 : Int32)))).1) ?_
        show Steps p.tables e below (T4.setTop (mkF m 296 #[.val (.int p0), .val (.int p1), .val (.int p2), .val (.int p3), .val (.int p4), .val (.int p5), .val (.int nn), .val (.int va), .val (.int vb), .val (.int vc), .val (.int vd), .val (.int x1), .val (.int x2), .val (.int x3), .val (.ref b), .val (.int i1), .val (.int i2), .val (.int q1), .val (.int q2), .val (.long ev), .second, .unset, .unset, .unset, .unset] [])) _
        refine XS.lload X4.here hx rfl (hb hby at_296) rfl ?_
        show Steps p.tables e below (T4.setTop (mkF m 298 #[.val (.int p0), .val (.int p1), .val (.int p2), .val (.int p3), .val (.int p4), .val (.int p5), .val (.int nn), .val (.int va), .val (.int vb), .val (.int vc), .val (.int vd), .val (.int x1), .val (.int x2), .val (.int x3), .val (.ref b), .val (.int i1), .val (.int i2), .val (.int q1), .val (.int q2), .val (.long ev), .second, .unset, .unset, .unset, .unset] [(.long ev)])) _
        refine XS.lconst X4.here hx rfl (hb hby at_298) ?_
        show Steps p.tables e below (T4.setTop (mkF m 299 #[.val (.int p0), .val (.int p1), .val (.int p2), .val (.int p3), .val (.int p4), .val (.int p5), .val (.int nn), .val (.int va), .val (.int vb), .val (.int vc), .val (.int vd), .val (.int x1), .val (.int x2), .val (.int x3), .val (.ref b), .val (.int i1), .val (.int i2), .val (.int q1), .val (.int q2), .val (.long ev), .second, .unset, .unset, .unset, .unset] [(.long (1 : Int64)), (.long ev)])) _
        refine XS.ladd X4.here hx rfl (hb hby at_299) rfl ?_
        show Steps p.tables e below (T4.setTop (mkF m 300 #[.val (.int p0), .val (.int p1), .val (.int p2), .val (.int p3), .val (.int p4), .val (.int p5), .val (.int nn), .val (.int va), .val (.int vb), .val (.int vc), .val (.int vd), .val (.int x1), .val (.int x2), .val (.int x3), .val (.ref b), .val (.int i1), .val (.int i2), .val (.int q1), .val (.int q2), .val (.long ev), .second, .unset, .unset, .unset, .unset] [(.long (ev + (1 : Int64)))])) _
        refine XS.lstore X4.here hx rfl (hb hby at_300) rfl (l' := #[.val (.int p0), .val (.int p1), .val (.int p2), .val (.int p3), .val (.int p4), .val (.int p5), .val (.int nn), .val (.int va), .val (.int vb), .val (.int vc), .val (.int vd), .val (.int x1), .val (.int x2), .val (.int x3), .val (.ref b), .val (.int i1), .val (.int i2), .val (.int q1), .val (.int q2), .val (.long (ev + (1 : Int64))), .second, .unset, .unset, .unset, .unset]) rfl ?_
        exact kt)
      subst hG
      refine ⟨T4, _, X4, e4, N4, fun tg kt => pre5 tg ?_⟩
      simp only [own_e, if_neg hx0, if_pos hk] at kt
      exact kt
    · skip
      obtain ⟨_, _, ⟨T6, L6, k6, n6⟩, -, X6, ⟨Lc6, hQ6, l6, y6, z6⟩, st6⟩ := Jvm.LawKit.callS X0 hx (y := (⟨"com/example/convene/convene/PairCountsCountPinLaw", "same", "(IIII)Z"⟩ : MethodName)) hown (mvT hZ (hw _ (List.mem_of_getElem? (i := 48) rfl))) (mvT hZ (hw _ (List.mem_of_getElem? (i := 49) rfl))) (mvT hZ (hw _ (List.mem_of_getElem? (i := 46) rfl))) (mvT hZ (hw _ (List.mem_of_getElem? (i := 50) rfl))) (by decide) (backOf (W := 0) (rm9 l Z a0 hw [] vb va q1 q2 h0 n0 Z0 ) hZ (hw _ (List.mem_of_getElem? (i := 50) rfl)) (hw _ (List.mem_of_getElem? (i := 46) rfl)) (by decide) (by decide)) (g := (mkF m 290 #[.val (.int p0), .val (.int p1), .val (.int p2), .val (.int p3), .val (.int p4), .val (.int p5), .val (.int nn), .val (.int va), .val (.int vb), .val (.int vc), .val (.int vd), .val (.int x1), .val (.int x2), .val (.int x3), .val (.ref b), .val (.int i1), .val (.int i2), .val (.int q1), .val (.int q2), .val (.long ev), .second, .unset, .unset, .unset, .unset] [(.int q2), (.int q1), (.int va), (.int vb)])) rfl (by rw [hml]; rfl) (argsL := [(.int vb), (.int va), (.int q1), (.int q2)]) (rest := []) (lenOf pd_3 rfl) rfl (by show 2 * 0 + _ ≤ _; exact Nat.le_of_eq rfl) (hb hby at_290) (fun _ _ => ⟨rfl, e0, hcc, hss⟩)
      dsimp only [Pt.U, Pt.locs, Pt.cells, Pt.slots] at X6 l6 y6 z6 st6 hQ6
      subst l6 y6 z6
      obtain ⟨hv6, N6q, e6⟩ := hQ6
      rw [hs, if_neg hk] at hv6
      subst hv6
      have N6 := Fr.app N0 N6q
      have pre6s : ∀ tg, Steps p.tables e below (T6.setTop (mkF m 293 #[.val (.int p0), .val (.int p1), .val (.int p2), .val (.int p3), .val (.int p4), .val (.int p5), .val (.int nn), .val (.int va), .val (.int vb), .val (.int vc), .val (.int vd), .val (.int x1), .val (.int x2), .val (.int x3), .val (.ref b), .val (.int i1), .val (.int i2), .val (.int q1), .val (.int q2), .val (.long ev), .second, .unset, .unset, .unset, .unset] [(.int (0 : Int32))])) tg → G tg := fun tg kt => pre3 tg (st6 tg kt)
      have pre7 : ∀ tg, Steps p.tables e below (T6.setTop (mkF m 302 #[.val (.int p0), .val (.int p1), .val (.int p2), .val (.int p3), .val (.int p4), .val (.int p5), .val (.int nn), .val (.int va), .val (.int vb), .val (.int vc), .val (.int vd), .val (.int x1), .val (.int x2), .val (.int x3), .val (.ref b), .val (.int i1), .val (.int i2), .val (.int q1), .val (.int q2), .val (.long ev), .second, .unset, .unset, .unset, .unset] [])) tg → G tg := fun tg kt => pre6s tg (by
        show Steps p.tables e below (T6.setTop (mkF m 293 #[.val (.int p0), .val (.int p1), .val (.int p2), .val (.int p3), .val (.int p4), .val (.int p5), .val (.int nn), .val (.int va), .val (.int vb), .val (.int vc), .val (.int vd), .val (.int x1), .val (.int x2), .val (.int x3), .val (.ref b), .val (.int i1), .val (.int i2), .val (.int q1), .val (.int q2), .val (.long ev), .second, .unset, .unset, .unset, .unset] [(.int (0 : Int32))])) _
        refine XS.ifYes X6.here hx rfl (pc0 := 293) (pc' := 302) rfl (hb hby at_293) rfl ((if0 _ _).trans (teq (by decide : (0 : Int32) = (0 : Int32))).1) (by decide) (by decide) ?_
        exact kt)
      subst hG
      refine ⟨T6, _, X6, e6, N6, fun tg kt => pre7 tg ?_⟩
      simp only [own_e, if_neg hx0, if_neg hk] at kt
      exact kt
theorem pd_4 : parseMethodDescriptor "(IIIII)I" = some ⟨[.int, .int, .int, .int, .int], some .int⟩ := by decide +kernel
set_option maxRecDepth 65536 in
set_option maxHeartbeats 40000000 in
theorem own_tail {p : Program} {l : Launch} {e : Env} {s : State} {m : MethodId} {args : Array Value} {below : List Frame} {meth : Method} {c : Code} {T0 : State} {locs : List Loc} {cells slots : Nat} {Z : State} {a0 : Array Value} {h0 : Heap} (n0 : Nat) (p0 p1 p2 p3 p4 p5 nn va vb vc vd x1 x2 x3 : Int32) (b : Addr) (kb cb : Addr) (kA kC : ClassId) (f g : Nat → Int64) (pr : Int32) (M : Int64 → Int64)
    (X0 : Stand p l e room_1 s m args below meth c T0 locs cells slots) (hx : p.tables.exec = Jvm.exec) (hZ : Z.Warmed39 s.vm) (hw : ∀ d ∈ tables_1, d.before a0 Z = true) (hby : c.code = code) (hml : c.maxLocals = 25) (hown : s.vm.findClass "com/example/convene/convene/PairCountsCountPinLaw" = some m.cls) (e0 : T0.heap = h0) (N0 : Fr n0 locs) (Z0 : n0 ≤ h0.size) (hcc : cells ≤ 16) (hss : slots ≤ 4224) (E_a : Exa Z h0 b "com/example/convene/convene/PairCounts") (F_nodes : Fld Z h0 b "com/example/convene/convene/PairCounts" "nodes" "I" (.int nn)) (F_bits : Fld Z h0 b "com/example/convene/convene/PairCounts" "bits" "I" (.int (10 : Int32))) (F_keys : Fld Z h0 b "com/example/convene/convene/PairCounts" "keys" "[J" (.ref kb)) (F_counts : Fld Z h0 b "com/example/convene/convene/PairCounts" "counts" "[J" (.ref cb)) (F_pairs : Fld Z h0 b "com/example/convene/convene/PairCounts" "pairs" "I" (.int pr)) (A_k : own_A Z h0 kb kA f) (A_c : own_A Z h0 cb kC g) (hL : own_L own_hn f g M) (hM : ∀ Kq, Kq ≠ 0 → M Kq = own_sum x1 x2 x3 (own_key va vb nn) (own_key vc vd nn) Kq) (hn : nn.toInt ≤ 1073741825) (ia : own_in nn va) (ib : own_in nn vb) (ic : own_in nn vc) (id' : own_in nn vd) :
    ∃ (T' : State) (locs' : List Loc) (pc' : Nat) (Ls : Array Slot), Stand p l e room_1 s m args below meth c T' locs' cells slots ∧ T'.heap = h0 ∧ Fr n0 locs' ∧ decode code pc' = .ok (.ireturn, 1) ∧ ∀ target, Steps p.tables e below (T'.setTop (mkF m pc' Ls [(.int (1 : Int32))])) target → Steps p.tables e below (T0.setTop (mkF m 162 #[.val (.int p0), .val (.int p1), .val (.int p2), .val (.int p3), .val (.int p4), .val (.int p5), .val (.int nn), .val (.int va), .val (.int vb), .val (.int vc), .val (.int vd), .val (.int x1), .val (.int x2), .val (.int x3), .val (.ref b), .unset, .unset, .unset, .unset, .unset, .unset, .unset, .unset, .unset, .unset] [])) target := by
  obtain ⟨G, hG⟩ : ∃ G : State → Prop, G = fun tg => Steps p.tables e below (T0.setTop (mkF m 162 #[.val (.int p0), .val (.int p1), .val (.int p2), .val (.int p3), .val (.int p4), .val (.int p5), .val (.int nn), .val (.int va), .val (.int vb), .val (.int vc), .val (.int vd), .val (.int x1), .val (.int x2), .val (.int x3), .val (.ref b), .unset, .unset, .unset, .unset, .unset, .unset, .unset, .unset, .unset, .unset] [])) tg := ⟨_, rfl⟩
  have pre0 : ∀ tg, Steps p.tables e below (T0.setTop (mkF m 162 #[.val (.int p0), .val (.int p1), .val (.int p2), .val (.int p3), .val (.int p4), .val (.int p5), .val (.int nn), .val (.int va), .val (.int vb), .val (.int vc), .val (.int vd), .val (.int x1), .val (.int x2), .val (.int x3), .val (.ref b), .unset, .unset, .unset, .unset, .unset, .unset, .unset, .unset, .unset, .unset] [])) tg → G tg := fun tg kt => by rw [hG]; exact kt
  have pre1 : ∀ tg, Steps p.tables e below (T0.setTop (mkF m 195 #[.val (.int p0), .val (.int p1), .val (.int p2), .val (.int p3), .val (.int p4), .val (.int p5), .val (.int nn), .val (.int va), .val (.int vb), .val (.int vc), .val (.int vd), .val (.int x1), .val (.int x2), .val (.int x3), .val (.ref b), .val (.int (p5 &&& (3 : Int32))), .val (.int ((((p5 &&& (3 : Int32)) + (1 : Int32)) + ((((p5.toUInt32 >>> ((2 : Int32) &&& 31).toUInt32).toInt32) &&& (3 : Int32)) % (3 : Int32))) &&& (3 : Int32))), .unset, .unset, .unset, .unset, .unset, .unset, .unset, .unset] [(.int vd), (.int vc), (.int vb), (.int va), (.int (p5 &&& (3 : Int32)))])) tg → G tg := fun tg kt => pre0 tg (by
    show Steps p.tables e below (T0.setTop (mkF m 162 #[.val (.int p0), .val (.int p1), .val (.int p2), .val (.int p3), .val (.int p4), .val (.int p5), .val (.int nn), .val (.int va), .val (.int vb), .val (.int vc), .val (.int vd), .val (.int x1), .val (.int x2), .val (.int x3), .val (.ref b), .unset, .unset, .unset, .unset, .unset, .unset, .unset, .unset, .unset, .unset] [])) _
    refine XS.iload X0.here hx rfl (hb hby at_162) rfl ?_
    show Steps p.tables e below (T0.setTop (mkF m 164 #[.val (.int p0), .val (.int p1), .val (.int p2), .val (.int p3), .val (.int p4), .val (.int p5), .val (.int nn), .val (.int va), .val (.int vb), .val (.int vc), .val (.int vd), .val (.int x1), .val (.int x2), .val (.int x3), .val (.ref b), .unset, .unset, .unset, .unset, .unset, .unset, .unset, .unset, .unset, .unset] [(.int p5)])) _
    refine XS.iconst X0.here hx rfl (hb hby at_164) ?_
    show Steps p.tables e below (T0.setTop (mkF m 165 #[.val (.int p0), .val (.int p1), .val (.int p2), .val (.int p3), .val (.int p4), .val (.int p5), .val (.int nn), .val (.int va), .val (.int vb), .val (.int vc), .val (.int vd), .val (.int x1), .val (.int x2), .val (.int x3), .val (.ref b), .unset, .unset, .unset, .unset, .unset, .unset, .unset, .unset, .unset, .unset] [(.int (3 : Int32)), (.int p5)])) _
    refine XS.iand X0.here hx rfl (hb hby at_165) rfl ?_
    show Steps p.tables e below (T0.setTop (mkF m 166 #[.val (.int p0), .val (.int p1), .val (.int p2), .val (.int p3), .val (.int p4), .val (.int p5), .val (.int nn), .val (.int va), .val (.int vb), .val (.int vc), .val (.int vd), .val (.int x1), .val (.int x2), .val (.int x3), .val (.ref b), .unset, .unset, .unset, .unset, .unset, .unset, .unset, .unset, .unset, .unset] [(.int (p5 &&& (3 : Int32)))])) _
    refine XS.istore X0.here hx rfl (hb hby at_166) rfl (l' := #[.val (.int p0), .val (.int p1), .val (.int p2), .val (.int p3), .val (.int p4), .val (.int p5), .val (.int nn), .val (.int va), .val (.int vb), .val (.int vc), .val (.int vd), .val (.int x1), .val (.int x2), .val (.int x3), .val (.ref b), .val (.int (p5 &&& (3 : Int32))), .unset, .unset, .unset, .unset, .unset, .unset, .unset, .unset, .unset]) rfl ?_
    show Steps p.tables e below (T0.setTop (mkF m 168 #[.val (.int p0), .val (.int p1), .val (.int p2), .val (.int p3), .val (.int p4), .val (.int p5), .val (.int nn), .val (.int va), .val (.int vb), .val (.int vc), .val (.int vd), .val (.int x1), .val (.int x2), .val (.int x3), .val (.ref b), .val (.int (p5 &&& (3 : Int32))), .unset, .unset, .unset, .unset, .unset, .unset, .unset, .unset, .unset] [])) _
    refine XS.iload X0.here hx rfl (hb hby at_168) rfl ?_
    show Steps p.tables e below (T0.setTop (mkF m 170 #[.val (.int p0), .val (.int p1), .val (.int p2), .val (.int p3), .val (.int p4), .val (.int p5), .val (.int nn), .val (.int va), .val (.int vb), .val (.int vc), .val (.int vd), .val (.int x1), .val (.int x2), .val (.int x3), .val (.ref b), .val (.int (p5 &&& (3 : Int32))), .unset, .unset, .unset, .unset, .unset, .unset, .unset, .unset, .unset] [(.int (p5 &&& (3 : Int32)))])) _
    refine XS.iconst X0.here hx rfl (hb hby at_170) ?_
    show Steps p.tables e below (T0.setTop (mkF m 171 #[.val (.int p0), .val (.int p1), .val (.int p2), .val (.int p3), .val (.int p4), .val (.int p5), .val (.int nn), .val (.int va), .val (.int vb), .val (.int vc), .val (.int vd), .val (.int x1), .val (.int x2), .val (.int x3), .val (.ref b), .val (.int (p5 &&& (3 : Int32))), .unset, .unset, .unset, .unset, .unset, .unset, .unset, .unset, .unset] [(.int (1 : Int32)), (.int (p5 &&& (3 : Int32)))])) _
    refine XS.iadd X0.here hx rfl (hb hby at_171) rfl ?_
    show Steps p.tables e below (T0.setTop (mkF m 172 #[.val (.int p0), .val (.int p1), .val (.int p2), .val (.int p3), .val (.int p4), .val (.int p5), .val (.int nn), .val (.int va), .val (.int vb), .val (.int vc), .val (.int vd), .val (.int x1), .val (.int x2), .val (.int x3), .val (.ref b), .val (.int (p5 &&& (3 : Int32))), .unset, .unset, .unset, .unset, .unset, .unset, .unset, .unset, .unset] [(.int ((p5 &&& (3 : Int32)) + (1 : Int32)))])) _
    refine XS.iload X0.here hx rfl (hb hby at_172) rfl ?_
    show Steps p.tables e below (T0.setTop (mkF m 174 #[.val (.int p0), .val (.int p1), .val (.int p2), .val (.int p3), .val (.int p4), .val (.int p5), .val (.int nn), .val (.int va), .val (.int vb), .val (.int vc), .val (.int vd), .val (.int x1), .val (.int x2), .val (.int x3), .val (.ref b), .val (.int (p5 &&& (3 : Int32))), .unset, .unset, .unset, .unset, .unset, .unset, .unset, .unset, .unset] [(.int p5), (.int ((p5 &&& (3 : Int32)) + (1 : Int32)))])) _
    refine XS.iconst X0.here hx rfl (hb hby at_174) ?_
    show Steps p.tables e below (T0.setTop (mkF m 175 #[.val (.int p0), .val (.int p1), .val (.int p2), .val (.int p3), .val (.int p4), .val (.int p5), .val (.int nn), .val (.int va), .val (.int vb), .val (.int vc), .val (.int vd), .val (.int x1), .val (.int x2), .val (.int x3), .val (.ref b), .val (.int (p5 &&& (3 : Int32))), .unset, .unset, .unset, .unset, .unset, .unset, .unset, .unset, .unset] [(.int (2 : Int32)), (.int p5), (.int ((p5 &&& (3 : Int32)) + (1 : Int32)))])) _
    refine XS.iushr X0.here hx rfl (hb hby at_175) rfl ?_
    show Steps p.tables e below (T0.setTop (mkF m 176 #[.val (.int p0), .val (.int p1), .val (.int p2), .val (.int p3), .val (.int p4), .val (.int p5), .val (.int nn), .val (.int va), .val (.int vb), .val (.int vc), .val (.int vd), .val (.int x1), .val (.int x2), .val (.int x3), .val (.ref b), .val (.int (p5 &&& (3 : Int32))), .unset, .unset, .unset, .unset, .unset, .unset, .unset, .unset, .unset] [(.int ((p5.toUInt32 >>> ((2 : Int32) &&& 31).toUInt32).toInt32)), (.int ((p5 &&& (3 : Int32)) + (1 : Int32)))])) _
    refine XS.iconst X0.here hx rfl (hb hby at_176) ?_
    show Steps p.tables e below (T0.setTop (mkF m 177 #[.val (.int p0), .val (.int p1), .val (.int p2), .val (.int p3), .val (.int p4), .val (.int p5), .val (.int nn), .val (.int va), .val (.int vb), .val (.int vc), .val (.int vd), .val (.int x1), .val (.int x2), .val (.int x3), .val (.ref b), .val (.int (p5 &&& (3 : Int32))), .unset, .unset, .unset, .unset, .unset, .unset, .unset, .unset, .unset] [(.int (3 : Int32)), (.int ((p5.toUInt32 >>> ((2 : Int32) &&& 31).toUInt32).toInt32)), (.int ((p5 &&& (3 : Int32)) + (1 : Int32)))])) _
    refine XS.iand X0.here hx rfl (hb hby at_177) rfl ?_
    show Steps p.tables e below (T0.setTop (mkF m 178 #[.val (.int p0), .val (.int p1), .val (.int p2), .val (.int p3), .val (.int p4), .val (.int p5), .val (.int nn), .val (.int va), .val (.int vb), .val (.int vc), .val (.int vd), .val (.int x1), .val (.int x2), .val (.int x3), .val (.ref b), .val (.int (p5 &&& (3 : Int32))), .unset, .unset, .unset, .unset, .unset, .unset, .unset, .unset, .unset] [(.int (((p5.toUInt32 >>> ((2 : Int32) &&& 31).toUInt32).toInt32) &&& (3 : Int32))), (.int ((p5 &&& (3 : Int32)) + (1 : Int32)))])) _
    refine XS.iconst X0.here hx rfl (hb hby at_178) ?_
    show Steps p.tables e below (T0.setTop (mkF m 179 #[.val (.int p0), .val (.int p1), .val (.int p2), .val (.int p3), .val (.int p4), .val (.int p5), .val (.int nn), .val (.int va), .val (.int vb), .val (.int vc), .val (.int vd), .val (.int x1), .val (.int x2), .val (.int x3), .val (.ref b), .val (.int (p5 &&& (3 : Int32))), .unset, .unset, .unset, .unset, .unset, .unset, .unset, .unset, .unset] [(.int (3 : Int32)), (.int (((p5.toUInt32 >>> ((2 : Int32) &&& 31).toUInt32).toInt32) &&& (3 : Int32))), (.int ((p5 &&& (3 : Int32)) + (1 : Int32)))])) _
    refine iremM X0 hx rfl (hb hby at_179) rfl (by decide) ?_
    show Steps p.tables e below (T0.setTop (mkF m 180 #[.val (.int p0), .val (.int p1), .val (.int p2), .val (.int p3), .val (.int p4), .val (.int p5), .val (.int nn), .val (.int va), .val (.int vb), .val (.int vc), .val (.int vd), .val (.int x1), .val (.int x2), .val (.int x3), .val (.ref b), .val (.int (p5 &&& (3 : Int32))), .unset, .unset, .unset, .unset, .unset, .unset, .unset, .unset, .unset] [(.int ((((p5.toUInt32 >>> ((2 : Int32) &&& 31).toUInt32).toInt32) &&& (3 : Int32)) % (3 : Int32))), (.int ((p5 &&& (3 : Int32)) + (1 : Int32)))])) _
    refine XS.iadd X0.here hx rfl (hb hby at_180) rfl ?_
    show Steps p.tables e below (T0.setTop (mkF m 181 #[.val (.int p0), .val (.int p1), .val (.int p2), .val (.int p3), .val (.int p4), .val (.int p5), .val (.int nn), .val (.int va), .val (.int vb), .val (.int vc), .val (.int vd), .val (.int x1), .val (.int x2), .val (.int x3), .val (.ref b), .val (.int (p5 &&& (3 : Int32))), .unset, .unset, .unset, .unset, .unset, .unset, .unset, .unset, .unset] [(.int (((p5 &&& (3 : Int32)) + (1 : Int32)) + ((((p5.toUInt32 >>> ((2 : Int32) &&& 31).toUInt32).toInt32) &&& (3 : Int32)) % (3 : Int32))))])) _
    refine XS.iconst X0.here hx rfl (hb hby at_181) ?_
    show Steps p.tables e below (T0.setTop (mkF m 182 #[.val (.int p0), .val (.int p1), .val (.int p2), .val (.int p3), .val (.int p4), .val (.int p5), .val (.int nn), .val (.int va), .val (.int vb), .val (.int vc), .val (.int vd), .val (.int x1), .val (.int x2), .val (.int x3), .val (.ref b), .val (.int (p5 &&& (3 : Int32))), .unset, .unset, .unset, .unset, .unset, .unset, .unset, .unset, .unset] [(.int (3 : Int32)), (.int (((p5 &&& (3 : Int32)) + (1 : Int32)) + ((((p5.toUInt32 >>> ((2 : Int32) &&& 31).toUInt32).toInt32) &&& (3 : Int32)) % (3 : Int32))))])) _
    refine XS.iand X0.here hx rfl (hb hby at_182) rfl ?_
    show Steps p.tables e below (T0.setTop (mkF m 183 #[.val (.int p0), .val (.int p1), .val (.int p2), .val (.int p3), .val (.int p4), .val (.int p5), .val (.int nn), .val (.int va), .val (.int vb), .val (.int vc), .val (.int vd), .val (.int x1), .val (.int x2), .val (.int x3), .val (.ref b), .val (.int (p5 &&& (3 : Int32))), .unset, .unset, .unset, .unset, .unset, .unset, .unset, .unset, .unset] [(.int ((((p5 &&& (3 : Int32)) + (1 : Int32)) + ((((p5.toUInt32 >>> ((2 : Int32) &&& 31).toUInt32).toInt32) &&& (3 : Int32)) % (3 : Int32))) &&& (3 : Int32)))])) _
    refine XS.istore X0.here hx rfl (hb hby at_183) rfl (l' := #[.val (.int p0), .val (.int p1), .val (.int p2), .val (.int p3), .val (.int p4), .val (.int p5), .val (.int nn), .val (.int va), .val (.int vb), .val (.int vc), .val (.int vd), .val (.int x1), .val (.int x2), .val (.int x3), .val (.ref b), .val (.int (p5 &&& (3 : Int32))), .val (.int ((((p5 &&& (3 : Int32)) + (1 : Int32)) + ((((p5.toUInt32 >>> ((2 : Int32) &&& 31).toUInt32).toInt32) &&& (3 : Int32)) % (3 : Int32))) &&& (3 : Int32))), .unset, .unset, .unset, .unset, .unset, .unset, .unset, .unset]) rfl ?_
    show Steps p.tables e below (T0.setTop (mkF m 185 #[.val (.int p0), .val (.int p1), .val (.int p2), .val (.int p3), .val (.int p4), .val (.int p5), .val (.int nn), .val (.int va), .val (.int vb), .val (.int vc), .val (.int vd), .val (.int x1), .val (.int x2), .val (.int x3), .val (.ref b), .val (.int (p5 &&& (3 : Int32))), .val (.int ((((p5 &&& (3 : Int32)) + (1 : Int32)) + ((((p5.toUInt32 >>> ((2 : Int32) &&& 31).toUInt32).toInt32) &&& (3 : Int32)) % (3 : Int32))) &&& (3 : Int32))), .unset, .unset, .unset, .unset, .unset, .unset, .unset, .unset] [])) _
    refine XS.iload X0.here hx rfl (hb hby at_185) rfl ?_
    show Steps p.tables e below (T0.setTop (mkF m 187 #[.val (.int p0), .val (.int p1), .val (.int p2), .val (.int p3), .val (.int p4), .val (.int p5), .val (.int nn), .val (.int va), .val (.int vb), .val (.int vc), .val (.int vd), .val (.int x1), .val (.int x2), .val (.int x3), .val (.ref b), .val (.int (p5 &&& (3 : Int32))), .val (.int ((((p5 &&& (3 : Int32)) + (1 : Int32)) + ((((p5.toUInt32 >>> ((2 : Int32) &&& 31).toUInt32).toInt32) &&& (3 : Int32)) % (3 : Int32))) &&& (3 : Int32))), .unset, .unset, .unset, .unset, .unset, .unset, .unset, .unset] [(.int (p5 &&& (3 : Int32)))])) _
    refine XS.iload X0.here hx rfl (hb hby at_187) rfl ?_
    show Steps p.tables e below (T0.setTop (mkF m 189 #[.val (.int p0), .val (.int p1), .val (.int p2), .val (.int p3), .val (.int p4), .val (.int p5), .val (.int nn), .val (.int va), .val (.int vb), .val (.int vc), .val (.int vd), .val (.int x1), .val (.int x2), .val (.int x3), .val (.ref b), .val (.int (p5 &&& (3 : Int32))), .val (.int ((((p5 &&& (3 : Int32)) + (1 : Int32)) + ((((p5.toUInt32 >>> ((2 : Int32) &&& 31).toUInt32).toInt32) &&& (3 : Int32)) % (3 : Int32))) &&& (3 : Int32))), .unset, .unset, .unset, .unset, .unset, .unset, .unset, .unset] [(.int va), (.int (p5 &&& (3 : Int32)))])) _
    refine XS.iload X0.here hx rfl (hb hby at_189) rfl ?_
    show Steps p.tables e below (T0.setTop (mkF m 191 #[.val (.int p0), .val (.int p1), .val (.int p2), .val (.int p3), .val (.int p4), .val (.int p5), .val (.int nn), .val (.int va), .val (.int vb), .val (.int vc), .val (.int vd), .val (.int x1), .val (.int x2), .val (.int x3), .val (.ref b), .val (.int (p5 &&& (3 : Int32))), .val (.int ((((p5 &&& (3 : Int32)) + (1 : Int32)) + ((((p5.toUInt32 >>> ((2 : Int32) &&& 31).toUInt32).toInt32) &&& (3 : Int32)) % (3 : Int32))) &&& (3 : Int32))), .unset, .unset, .unset, .unset, .unset, .unset, .unset, .unset] [(.int vb), (.int va), (.int (p5 &&& (3 : Int32)))])) _
    refine XS.iload X0.here hx rfl (hb hby at_191) rfl ?_
    show Steps p.tables e below (T0.setTop (mkF m 193 #[.val (.int p0), .val (.int p1), .val (.int p2), .val (.int p3), .val (.int p4), .val (.int p5), .val (.int nn), .val (.int va), .val (.int vb), .val (.int vc), .val (.int vd), .val (.int x1), .val (.int x2), .val (.int x3), .val (.ref b), .val (.int (p5 &&& (3 : Int32))), .val (.int ((((p5 &&& (3 : Int32)) + (1 : Int32)) + ((((p5.toUInt32 >>> ((2 : Int32) &&& 31).toUInt32).toInt32) &&& (3 : Int32)) % (3 : Int32))) &&& (3 : Int32))), .unset, .unset, .unset, .unset, .unset, .unset, .unset, .unset] [(.int vc), (.int vb), (.int va), (.int (p5 &&& (3 : Int32)))])) _
    refine XS.iload X0.here hx rfl (hb hby at_193) rfl ?_
    exact kt)
  obtain ⟨_, _, ⟨T2, L2, k2, n2⟩, -, X2, ⟨Lc2, hQ2, l2, y2, z2⟩, st2⟩ := Jvm.LawKit.callS X0 hx (y := (⟨"com/example/convene/convene/PairCountsCountPinLaw", "pick", "(IIIII)I"⟩ : MethodName)) hown (mvT hZ (hw _ (List.mem_of_getElem? (i := 44) rfl))) (mvT hZ (hw _ (List.mem_of_getElem? (i := 45) rfl))) (mvT hZ (hw _ (List.mem_of_getElem? (i := 46) rfl))) (mvT hZ (hw _ (List.mem_of_getElem? (i := 47) rfl))) (by decide) (backOf (W := 0) (rm8 l Z a0 hw [] (p5 &&& (3 : Int32)) va vb vc vd h0 n0 Z0 ) hZ (hw _ (List.mem_of_getElem? (i := 47) rfl)) (hw _ (List.mem_of_getElem? (i := 46) rfl)) (by decide) (by decide)) (g := (mkF m 195 #[.val (.int p0), .val (.int p1), .val (.int p2), .val (.int p3), .val (.int p4), .val (.int p5), .val (.int nn), .val (.int va), .val (.int vb), .val (.int vc), .val (.int vd), .val (.int x1), .val (.int x2), .val (.int x3), .val (.ref b), .val (.int (p5 &&& (3 : Int32))), .val (.int ((((p5 &&& (3 : Int32)) + (1 : Int32)) + ((((p5.toUInt32 >>> ((2 : Int32) &&& 31).toUInt32).toInt32) &&& (3 : Int32)) % (3 : Int32))) &&& (3 : Int32))), .unset, .unset, .unset, .unset, .unset, .unset, .unset, .unset] [(.int vd), (.int vc), (.int vb), (.int va), (.int (p5 &&& (3 : Int32)))])) rfl (by rw [hml]; rfl) (argsL := [(.int (p5 &&& (3 : Int32))), (.int va), (.int vb), (.int vc), (.int vd)]) (rest := []) (lenOf pd_4 rfl) rfl (by show 2 * 0 + _ ≤ _; exact Nat.le_of_eq rfl) (hb hby at_195) (fun _ _ => ⟨rfl, e0, hcc, hss⟩)
  dsimp only [Pt.U, Pt.locs, Pt.cells, Pt.slots] at X2 l2 y2 z2 st2 hQ2
  subst l2 y2 z2
  obtain ⟨q1, rfl, N2q, e2, hq1⟩ := hQ2
  have N2 := Fr.app N0 N2q
  have pre2s : ∀ tg, Steps p.tables e below (T2.setTop (mkF m 198 #[.val (.int p0), .val (.int p1), .val (.int p2), .val (.int p3), .val (.int p4), .val (.int p5), .val (.int nn), .val (.int va), .val (.int vb), .val (.int vc), .val (.int vd), .val (.int x1), .val (.int x2), .val (.int x3), .val (.ref b), .val (.int (p5 &&& (3 : Int32))), .val (.int ((((p5 &&& (3 : Int32)) + (1 : Int32)) + ((((p5.toUInt32 >>> ((2 : Int32) &&& 31).toUInt32).toInt32) &&& (3 : Int32)) % (3 : Int32))) &&& (3 : Int32))), .unset, .unset, .unset, .unset, .unset, .unset, .unset, .unset] [(.int q1)])) tg → G tg := fun tg kt => pre1 tg (st2 tg kt)
  have pre3 : ∀ tg, Steps p.tables e below (T2.setTop (mkF m 210 #[.val (.int p0), .val (.int p1), .val (.int p2), .val (.int p3), .val (.int p4), .val (.int p5), .val (.int nn), .val (.int va), .val (.int vb), .val (.int vc), .val (.int vd), .val (.int x1), .val (.int x2), .val (.int x3), .val (.ref b), .val (.int (p5 &&& (3 : Int32))), .val (.int ((((p5 &&& (3 : Int32)) + (1 : Int32)) + ((((p5.toUInt32 >>> ((2 : Int32) &&& 31).toUInt32).toInt32) &&& (3 : Int32)) % (3 : Int32))) &&& (3 : Int32))), .val (.int q1), .unset, .unset, .unset, .unset, .unset, .unset, .unset] [(.int vd), (.int vc), (.int vb), (.int va), (.int ((((p5 &&& (3 : Int32)) + (1 : Int32)) + ((((p5.toUInt32 >>> ((2 : Int32) &&& 31).toUInt32).toInt32) &&& (3 : Int32)) % (3 : Int32))) &&& (3 : Int32)))])) tg → G tg := fun tg kt => pre2s tg (by
    show Steps p.tables e below (T2.setTop (mkF m 198 #[.val (.int p0), .val (.int p1), .val (.int p2), .val (.int p3), .val (.int p4), .val (.int p5), .val (.int nn), .val (.int va), .val (.int vb), .val (.int vc), .val (.int vd), .val (.int x1), .val (.int x2), .val (.int x3), .val (.ref b), .val (.int (p5 &&& (3 : Int32))), .val (.int ((((p5 &&& (3 : Int32)) + (1 : Int32)) + ((((p5.toUInt32 >>> ((2 : Int32) &&& 31).toUInt32).toInt32) &&& (3 : Int32)) % (3 : Int32))) &&& (3 : Int32))), .unset, .unset, .unset, .unset, .unset, .unset, .unset, .unset] [(.int q1)])) _
    refine XS.istore X2.here hx rfl (hb hby at_198) rfl (l' := #[.val (.int p0), .val (.int p1), .val (.int p2), .val (.int p3), .val (.int p4), .val (.int p5), .val (.int nn), .val (.int va), .val (.int vb), .val (.int vc), .val (.int vd), .val (.int x1), .val (.int x2), .val (.int x3), .val (.ref b), .val (.int (p5 &&& (3 : Int32))), .val (.int ((((p5 &&& (3 : Int32)) + (1 : Int32)) + ((((p5.toUInt32 >>> ((2 : Int32) &&& 31).toUInt32).toInt32) &&& (3 : Int32)) % (3 : Int32))) &&& (3 : Int32))), .val (.int q1), .unset, .unset, .unset, .unset, .unset, .unset, .unset]) rfl ?_
    show Steps p.tables e below (T2.setTop (mkF m 200 #[.val (.int p0), .val (.int p1), .val (.int p2), .val (.int p3), .val (.int p4), .val (.int p5), .val (.int nn), .val (.int va), .val (.int vb), .val (.int vc), .val (.int vd), .val (.int x1), .val (.int x2), .val (.int x3), .val (.ref b), .val (.int (p5 &&& (3 : Int32))), .val (.int ((((p5 &&& (3 : Int32)) + (1 : Int32)) + ((((p5.toUInt32 >>> ((2 : Int32) &&& 31).toUInt32).toInt32) &&& (3 : Int32)) % (3 : Int32))) &&& (3 : Int32))), .val (.int q1), .unset, .unset, .unset, .unset, .unset, .unset, .unset] [])) _
    refine XS.iload X2.here hx rfl (hb hby at_200) rfl ?_
    show Steps p.tables e below (T2.setTop (mkF m 202 #[.val (.int p0), .val (.int p1), .val (.int p2), .val (.int p3), .val (.int p4), .val (.int p5), .val (.int nn), .val (.int va), .val (.int vb), .val (.int vc), .val (.int vd), .val (.int x1), .val (.int x2), .val (.int x3), .val (.ref b), .val (.int (p5 &&& (3 : Int32))), .val (.int ((((p5 &&& (3 : Int32)) + (1 : Int32)) + ((((p5.toUInt32 >>> ((2 : Int32) &&& 31).toUInt32).toInt32) &&& (3 : Int32)) % (3 : Int32))) &&& (3 : Int32))), .val (.int q1), .unset, .unset, .unset, .unset, .unset, .unset, .unset] [(.int ((((p5 &&& (3 : Int32)) + (1 : Int32)) + ((((p5.toUInt32 >>> ((2 : Int32) &&& 31).toUInt32).toInt32) &&& (3 : Int32)) % (3 : Int32))) &&& (3 : Int32)))])) _
    refine XS.iload X2.here hx rfl (hb hby at_202) rfl ?_
    show Steps p.tables e below (T2.setTop (mkF m 204 #[.val (.int p0), .val (.int p1), .val (.int p2), .val (.int p3), .val (.int p4), .val (.int p5), .val (.int nn), .val (.int va), .val (.int vb), .val (.int vc), .val (.int vd), .val (.int x1), .val (.int x2), .val (.int x3), .val (.ref b), .val (.int (p5 &&& (3 : Int32))), .val (.int ((((p5 &&& (3 : Int32)) + (1 : Int32)) + ((((p5.toUInt32 >>> ((2 : Int32) &&& 31).toUInt32).toInt32) &&& (3 : Int32)) % (3 : Int32))) &&& (3 : Int32))), .val (.int q1), .unset, .unset, .unset, .unset, .unset, .unset, .unset] [(.int va), (.int ((((p5 &&& (3 : Int32)) + (1 : Int32)) + ((((p5.toUInt32 >>> ((2 : Int32) &&& 31).toUInt32).toInt32) &&& (3 : Int32)) % (3 : Int32))) &&& (3 : Int32)))])) _
    refine XS.iload X2.here hx rfl (hb hby at_204) rfl ?_
    show Steps p.tables e below (T2.setTop (mkF m 206 #[.val (.int p0), .val (.int p1), .val (.int p2), .val (.int p3), .val (.int p4), .val (.int p5), .val (.int nn), .val (.int va), .val (.int vb), .val (.int vc), .val (.int vd), .val (.int x1), .val (.int x2), .val (.int x3), .val (.ref b), .val (.int (p5 &&& (3 : Int32))), .val (.int ((((p5 &&& (3 : Int32)) + (1 : Int32)) + ((((p5.toUInt32 >>> ((2 : Int32) &&& 31).toUInt32).toInt32) &&& (3 : Int32)) % (3 : Int32))) &&& (3 : Int32))), .val (.int q1), .unset, .unset, .unset, .unset, .unset, .unset, .unset] [(.int vb), (.int va), (.int ((((p5 &&& (3 : Int32)) + (1 : Int32)) + ((((p5.toUInt32 >>> ((2 : Int32) &&& 31).toUInt32).toInt32) &&& (3 : Int32)) % (3 : Int32))) &&& (3 : Int32)))])) _
    refine XS.iload X2.here hx rfl (hb hby at_206) rfl ?_
    show Steps p.tables e below (T2.setTop (mkF m 208 #[.val (.int p0), .val (.int p1), .val (.int p2), .val (.int p3), .val (.int p4), .val (.int p5), .val (.int nn), .val (.int va), .val (.int vb), .val (.int vc), .val (.int vd), .val (.int x1), .val (.int x2), .val (.int x3), .val (.ref b), .val (.int (p5 &&& (3 : Int32))), .val (.int ((((p5 &&& (3 : Int32)) + (1 : Int32)) + ((((p5.toUInt32 >>> ((2 : Int32) &&& 31).toUInt32).toInt32) &&& (3 : Int32)) % (3 : Int32))) &&& (3 : Int32))), .val (.int q1), .unset, .unset, .unset, .unset, .unset, .unset, .unset] [(.int vc), (.int vb), (.int va), (.int ((((p5 &&& (3 : Int32)) + (1 : Int32)) + ((((p5.toUInt32 >>> ((2 : Int32) &&& 31).toUInt32).toInt32) &&& (3 : Int32)) % (3 : Int32))) &&& (3 : Int32)))])) _
    refine XS.iload X2.here hx rfl (hb hby at_208) rfl ?_
    exact kt)
  obtain ⟨_, _, ⟨T4, L4, k4, n4⟩, -, X4, ⟨Lc4, hQ4, l4, y4, z4⟩, st4⟩ := Jvm.LawKit.callS X2 hx (y := (⟨"com/example/convene/convene/PairCountsCountPinLaw", "pick", "(IIIII)I"⟩ : MethodName)) hown (mvT hZ (hw _ (List.mem_of_getElem? (i := 44) rfl))) (mvT hZ (hw _ (List.mem_of_getElem? (i := 45) rfl))) (mvT hZ (hw _ (List.mem_of_getElem? (i := 46) rfl))) (mvT hZ (hw _ (List.mem_of_getElem? (i := 47) rfl))) (by decide) (backOf (W := 0) (rm8 l Z a0 hw [] ((((p5 &&& (3 : Int32)) + (1 : Int32)) + ((((p5.toUInt32 >>> ((2 : Int32) &&& 31).toUInt32).toInt32) &&& (3 : Int32)) % (3 : Int32))) &&& (3 : Int32)) va vb vc vd h0 n0 Z0 ) hZ (hw _ (List.mem_of_getElem? (i := 47) rfl)) (hw _ (List.mem_of_getElem? (i := 46) rfl)) (by decide) (by decide)) (g := (mkF m 210 #[.val (.int p0), .val (.int p1), .val (.int p2), .val (.int p3), .val (.int p4), .val (.int p5), .val (.int nn), .val (.int va), .val (.int vb), .val (.int vc), .val (.int vd), .val (.int x1), .val (.int x2), .val (.int x3), .val (.ref b), .val (.int (p5 &&& (3 : Int32))), .val (.int ((((p5 &&& (3 : Int32)) + (1 : Int32)) + ((((p5.toUInt32 >>> ((2 : Int32) &&& 31).toUInt32).toInt32) &&& (3 : Int32)) % (3 : Int32))) &&& (3 : Int32))), .val (.int q1), .unset, .unset, .unset, .unset, .unset, .unset, .unset] [(.int vd), (.int vc), (.int vb), (.int va), (.int ((((p5 &&& (3 : Int32)) + (1 : Int32)) + ((((p5.toUInt32 >>> ((2 : Int32) &&& 31).toUInt32).toInt32) &&& (3 : Int32)) % (3 : Int32))) &&& (3 : Int32)))])) rfl (by rw [hml]; rfl) (argsL := [(.int ((((p5 &&& (3 : Int32)) + (1 : Int32)) + ((((p5.toUInt32 >>> ((2 : Int32) &&& 31).toUInt32).toInt32) &&& (3 : Int32)) % (3 : Int32))) &&& (3 : Int32))), (.int va), (.int vb), (.int vc), (.int vd)]) (rest := []) (lenOf pd_4 rfl) rfl (by show 2 * 0 + _ ≤ _; exact Nat.le_of_eq rfl) (hb hby at_210) (fun _ _ => ⟨rfl, e2, hcc, hss⟩)
  dsimp only [Pt.U, Pt.locs, Pt.cells, Pt.slots] at X4 l4 y4 z4 st4 hQ4
  subst l4 y4 z4
  obtain ⟨q2, rfl, N4q, e4, hq2⟩ := hQ4
  have N4 := Fr.app N2 N4q
  have pre4s : ∀ tg, Steps p.tables e below (T4.setTop (mkF m 213 #[.val (.int p0), .val (.int p1), .val (.int p2), .val (.int p3), .val (.int p4), .val (.int p5), .val (.int nn), .val (.int va), .val (.int vb), .val (.int vc), .val (.int vd), .val (.int x1), .val (.int x2), .val (.int x3), .val (.ref b), .val (.int (p5 &&& (3 : Int32))), .val (.int ((((p5 &&& (3 : Int32)) + (1 : Int32)) + ((((p5.toUInt32 >>> ((2 : Int32) &&& 31).toUInt32).toInt32) &&& (3 : Int32)) % (3 : Int32))) &&& (3 : Int32))), .val (.int q1), .unset, .unset, .unset, .unset, .unset, .unset, .unset] [(.int q2)])) tg → G tg := fun tg kt => pre3 tg (st4 tg kt)
  have pre5 : ∀ tg, Steps p.tables e below (T4.setTop (mkF m 219 #[.val (.int p0), .val (.int p1), .val (.int p2), .val (.int p3), .val (.int p4), .val (.int p5), .val (.int nn), .val (.int va), .val (.int vb), .val (.int vc), .val (.int vd), .val (.int x1), .val (.int x2), .val (.int x3), .val (.ref b), .val (.int (p5 &&& (3 : Int32))), .val (.int ((((p5 &&& (3 : Int32)) + (1 : Int32)) + ((((p5.toUInt32 >>> ((2 : Int32) &&& 31).toUInt32).toInt32) &&& (3 : Int32)) % (3 : Int32))) &&& (3 : Int32))), .val (.int q1), .val (.int q2), .unset, .unset, .unset, .unset, .unset, .unset] [(.int q2), (.int q1)])) tg → G tg := fun tg kt => pre4s tg (by
    show Steps p.tables e below (T4.setTop (mkF m 213 #[.val (.int p0), .val (.int p1), .val (.int p2), .val (.int p3), .val (.int p4), .val (.int p5), .val (.int nn), .val (.int va), .val (.int vb), .val (.int vc), .val (.int vd), .val (.int x1), .val (.int x2), .val (.int x3), .val (.ref b), .val (.int (p5 &&& (3 : Int32))), .val (.int ((((p5 &&& (3 : Int32)) + (1 : Int32)) + ((((p5.toUInt32 >>> ((2 : Int32) &&& 31).toUInt32).toInt32) &&& (3 : Int32)) % (3 : Int32))) &&& (3 : Int32))), .val (.int q1), .unset, .unset, .unset, .unset, .unset, .unset, .unset] [(.int q2)])) _
    refine XS.istore X4.here hx rfl (hb hby at_213) rfl (l' := #[.val (.int p0), .val (.int p1), .val (.int p2), .val (.int p3), .val (.int p4), .val (.int p5), .val (.int nn), .val (.int va), .val (.int vb), .val (.int vc), .val (.int vd), .val (.int x1), .val (.int x2), .val (.int x3), .val (.ref b), .val (.int (p5 &&& (3 : Int32))), .val (.int ((((p5 &&& (3 : Int32)) + (1 : Int32)) + ((((p5.toUInt32 >>> ((2 : Int32) &&& 31).toUInt32).toInt32) &&& (3 : Int32)) % (3 : Int32))) &&& (3 : Int32))), .val (.int q1), .val (.int q2), .unset, .unset, .unset, .unset, .unset, .unset]) rfl ?_
    show Steps p.tables e below (T4.setTop (mkF m 215 #[.val (.int p0), .val (.int p1), .val (.int p2), .val (.int p3), .val (.int p4), .val (.int p5), .val (.int nn), .val (.int va), .val (.int vb), .val (.int vc), .val (.int vd), .val (.int x1), .val (.int x2), .val (.int x3), .val (.ref b), .val (.int (p5 &&& (3 : Int32))), .val (.int ((((p5 &&& (3 : Int32)) + (1 : Int32)) + ((((p5.toUInt32 >>> ((2 : Int32) &&& 31).toUInt32).toInt32) &&& (3 : Int32)) % (3 : Int32))) &&& (3 : Int32))), .val (.int q1), .val (.int q2), .unset, .unset, .unset, .unset, .unset, .unset] [])) _
    refine XS.iload X4.here hx rfl (hb hby at_215) rfl ?_
    show Steps p.tables e below (T4.setTop (mkF m 217 #[.val (.int p0), .val (.int p1), .val (.int p2), .val (.int p3), .val (.int p4), .val (.int p5), .val (.int nn), .val (.int va), .val (.int vb), .val (.int vc), .val (.int vd), .val (.int x1), .val (.int x2), .val (.int x3), .val (.ref b), .val (.int (p5 &&& (3 : Int32))), .val (.int ((((p5 &&& (3 : Int32)) + (1 : Int32)) + ((((p5.toUInt32 >>> ((2 : Int32) &&& 31).toUInt32).toInt32) &&& (3 : Int32)) % (3 : Int32))) &&& (3 : Int32))), .val (.int q1), .val (.int q2), .unset, .unset, .unset, .unset, .unset, .unset] [(.int q1)])) _
    refine XS.iload X4.here hx rfl (hb hby at_217) rfl ?_
    exact kt)
  have iq1 : own_in nn q1 := by rcases hq1 with rfl | rfl | rfl | rfl <;> assumption
  have iq2 : own_in nn q2 := by rcases hq2 with rfl | rfl | rfl | rfl <;> assumption
  by_cases hq : q1 = q2
  · skip
    have pre6 : ∀ tg, Steps p.tables e below (T4.setTop (mkF m 223 #[.val (.int p0), .val (.int p1), .val (.int p2), .val (.int p3), .val (.int p4), .val (.int p5), .val (.int nn), .val (.int va), .val (.int vb), .val (.int vc), .val (.int vd), .val (.int x1), .val (.int x2), .val (.int x3), .val (.ref b), .val (.int (p5 &&& (3 : Int32))), .val (.int ((((p5 &&& (3 : Int32)) + (1 : Int32)) + ((((p5.toUInt32 >>> ((2 : Int32) &&& 31).toUInt32).toInt32) &&& (3 : Int32)) % (3 : Int32))) &&& (3 : Int32))), .val (.int q1), .val (.int q2), .unset, .unset, .unset, .unset, .unset, .unset] [(.int (1 : Int32))])) tg → G tg := fun tg kt => pre5 tg (by
      show Steps p.tables e below (T4.setTop (mkF m 219 #[.val (.int p0), .val (.int p1), .val (.int p2), .val (.int p3), .val (.int p4), .val (.int p5), .val (.int nn), .val (.int va), .val (.int vb), .val (.int vc), .val (.int vd), .val (.int x1), .val (.int x2), .val (.int x3), .val (.ref b), .val (.int (p5 &&& (3 : Int32))), .val (.int ((((p5 &&& (3 : Int32)) + (1 : Int32)) + ((((p5.toUInt32 >>> ((2 : Int32) &&& 31).toUInt32).toInt32) &&& (3 : Int32)) % (3 : Int32))) &&& (3 : Int32))), .val (.int q1), .val (.int q2), .unset, .unset, .unset, .unset, .unset, .unset] [(.int q2), (.int q1)])) _
      refine XS.icmpNo X4.here hx rfl (hb hby at_219) rfl (teq hq).2 ?_
      show Steps p.tables e below (T4.setTop (mkF m 222 #[.val (.int p0), .val (.int p1), .val (.int p2), .val (.int p3), .val (.int p4), .val (.int p5), .val (.int nn), .val (.int va), .val (.int vb), .val (.int vc), .val (.int vd), .val (.int x1), .val (.int x2), .val (.int x3), .val (.ref b), .val (.int (p5 &&& (3 : Int32))), .val (.int ((((p5 &&& (3 : Int32)) + (1 : Int32)) + ((((p5.toUInt32 >>> ((2 : Int32) &&& 31).toUInt32).toInt32) &&& (3 : Int32)) % (3 : Int32))) &&& (3 : Int32))), .val (.int q1), .val (.int q2), .unset, .unset, .unset, .unset, .unset, .unset] [])) _
      refine XS.iconst X4.here hx rfl (hb hby at_222) ?_
      exact kt)
    subst hG
    exact ⟨T4, _, 223, _, X4, e4, N4, at_223, fun tg kt => pre6 tg kt⟩
  · skip
    have pre7 : ∀ tg, Steps p.tables e below (T4.setTop (mkF m 227 #[.val (.int p0), .val (.int p1), .val (.int p2), .val (.int p3), .val (.int p4), .val (.int p5), .val (.int nn), .val (.int va), .val (.int vb), .val (.int vc), .val (.int vd), .val (.int x1), .val (.int x2), .val (.int x3), .val (.ref b), .val (.int (p5 &&& (3 : Int32))), .val (.int ((((p5 &&& (3 : Int32)) + (1 : Int32)) + ((((p5.toUInt32 >>> ((2 : Int32) &&& 31).toUInt32).toInt32) &&& (3 : Int32)) % (3 : Int32))) &&& (3 : Int32))), .val (.int q1), .val (.int q2), .val (.long (0 : Int64)), .second, .unset, .unset, .unset, .unset] [])) tg → G tg := fun tg kt => pre5 tg (by
      show Steps p.tables e below (T4.setTop (mkF m 219 #[.val (.int p0), .val (.int p1), .val (.int p2), .val (.int p3), .val (.int p4), .val (.int p5), .val (.int nn), .val (.int va), .val (.int vb), .val (.int vc), .val (.int vd), .val (.int x1), .val (.int x2), .val (.int x3), .val (.ref b), .val (.int (p5 &&& (3 : Int32))), .val (.int ((((p5 &&& (3 : Int32)) + (1 : Int32)) + ((((p5.toUInt32 >>> ((2 : Int32) &&& 31).toUInt32).toInt32) &&& (3 : Int32)) % (3 : Int32))) &&& (3 : Int32))), .val (.int q1), .val (.int q2), .unset, .unset, .unset, .unset, .unset, .unset] [(.int q2), (.int q1)])) _
      refine XS.icmpYes X4.here hx rfl (pc0 := 219) (pc' := 224) rfl (hb hby at_219) rfl (feq hq).2 (by decide) (by decide) ?_
      show Steps p.tables e below (T4.setTop (mkF m 224 #[.val (.int p0), .val (.int p1), .val (.int p2), .val (.int p3), .val (.int p4), .val (.int p5), .val (.int nn), .val (.int va), .val (.int vb), .val (.int vc), .val (.int vd), .val (.int x1), .val (.int x2), .val (.int x3), .val (.ref b), .val (.int (p5 &&& (3 : Int32))), .val (.int ((((p5 &&& (3 : Int32)) + (1 : Int32)) + ((((p5.toUInt32 >>> ((2 : Int32) &&& 31).toUInt32).toInt32) &&& (3 : Int32)) % (3 : Int32))) &&& (3 : Int32))), .val (.int q1), .val (.int q2), .unset, .unset, .unset, .unset, .unset, .unset] [])) _
      refine XS.lconst X4.here hx rfl (hb hby at_224) ?_
      show Steps p.tables e below (T4.setTop (mkF m 225 #[.val (.int p0), .val (.int p1), .val (.int p2), .val (.int p3), .val (.int p4), .val (.int p5), .val (.int nn), .val (.int va), .val (.int vb), .val (.int vc), .val (.int vd), .val (.int x1), .val (.int x2), .val (.int x3), .val (.ref b), .val (.int (p5 &&& (3 : Int32))), .val (.int ((((p5 &&& (3 : Int32)) + (1 : Int32)) + ((((p5.toUInt32 >>> ((2 : Int32) &&& 31).toUInt32).toInt32) &&& (3 : Int32)) % (3 : Int32))) &&& (3 : Int32))), .val (.int q1), .val (.int q2), .unset, .unset, .unset, .unset, .unset, .unset] [(.long (0 : Int64))])) _
      refine XS.lstore X4.here hx rfl (hb hby at_225) rfl (l' := #[.val (.int p0), .val (.int p1), .val (.int p2), .val (.int p3), .val (.int p4), .val (.int p5), .val (.int nn), .val (.int va), .val (.int vb), .val (.int vc), .val (.int vd), .val (.int x1), .val (.int x2), .val (.int x3), .val (.ref b), .val (.int (p5 &&& (3 : Int32))), .val (.int ((((p5 &&& (3 : Int32)) + (1 : Int32)) + ((((p5.toUInt32 >>> ((2 : Int32) &&& 31).toUInt32).toInt32) &&& (3 : Int32)) % (3 : Int32))) &&& (3 : Int32))), .val (.int q1), .val (.int q2), .val (.long (0 : Int64)), .second, .unset, .unset, .unset, .unset]) rfl ?_
      exact kt)
    have hK0 := own_key0 hn iq1 iq2 hq
    obtain ⟨Kq, hKq⟩ : ∃ K, K = own_key q1 q2 nn := ⟨_, rfl⟩
    rw [← hKq] at hK0
    obtain ⟨T8, lo8, X8, e8, N8, st8⟩ := own_seg1 n0 p0 p1 p2 p3 p4 p5 nn va vb vc vd x1 x2 x3 b (p5 &&& (3 : Int32)) ((((p5 &&& (3 : Int32)) + (1 : Int32)) + ((((p5.toUInt32 >>> ((2 : Int32) &&& 31).toUInt32).toInt32) &&& (3 : Int32)) % (3 : Int32))) &&& (3 : Int32)) q1 q2 (0 : Int64) (own_key va vb nn) Kq X4 hx hZ hw hby hml hown e4 N4 Z0 hcc hss (by rw [hKq]; exact own_same_key hn ia ib iq1 iq2)
    have pre8s : ∀ tg, Steps p.tables e below (T8.setTop (mkF m 252 #[.val (.int p0), .val (.int p1), .val (.int p2), .val (.int p3), .val (.int p4), .val (.int p5), .val (.int nn), .val (.int va), .val (.int vb), .val (.int vc), .val (.int vd), .val (.int x1), .val (.int x2), .val (.int x3), .val (.ref b), .val (.int (p5 &&& (3 : Int32))), .val (.int ((((p5 &&& (3 : Int32)) + (1 : Int32)) + ((((p5.toUInt32 >>> ((2 : Int32) &&& 31).toUInt32).toInt32) &&& (3 : Int32)) % (3 : Int32))) &&& (3 : Int32))), .val (.int q1), .val (.int q2), .val (.long (own_e x1 (own_key va vb nn) Kq (0 : Int64))), .second, .unset, .unset, .unset, .unset] [])) tg → G tg := fun tg kt => pre7 tg (st8 tg kt)
    obtain ⟨T9, lo9, X9, e9, N9, st9⟩ := own_seg2 n0 p0 p1 p2 p3 p4 p5 nn va vb vc vd x1 x2 x3 b (p5 &&& (3 : Int32)) ((((p5 &&& (3 : Int32)) + (1 : Int32)) + ((((p5.toUInt32 >>> ((2 : Int32) &&& 31).toUInt32).toInt32) &&& (3 : Int32)) % (3 : Int32))) &&& (3 : Int32)) q1 q2 (own_e x1 (own_key va vb nn) Kq (0 : Int64)) (own_key vc vd nn) Kq X8 hx hZ hw hby hml hown e8 N8 Z0 hcc hss (by rw [hKq]; exact own_same_key hn ic id' iq1 iq2)
    have pre9s : ∀ tg, Steps p.tables e below (T9.setTop (mkF m 277 #[.val (.int p0), .val (.int p1), .val (.int p2), .val (.int p3), .val (.int p4), .val (.int p5), .val (.int nn), .val (.int va), .val (.int vb), .val (.int vc), .val (.int vd), .val (.int x1), .val (.int x2), .val (.int x3), .val (.ref b), .val (.int (p5 &&& (3 : Int32))), .val (.int ((((p5 &&& (3 : Int32)) + (1 : Int32)) + ((((p5.toUInt32 >>> ((2 : Int32) &&& 31).toUInt32).toInt32) &&& (3 : Int32)) % (3 : Int32))) &&& (3 : Int32))), .val (.int q1), .val (.int q2), .val (.long (own_e x2 (own_key vc vd nn) Kq (own_e x1 (own_key va vb nn) Kq (0 : Int64)))), .second, .unset, .unset, .unset, .unset] [])) tg → G tg := fun tg kt => pre8s tg (st9 tg kt)
    obtain ⟨T10, lo10, X10, e10, N10, st10⟩ := own_seg3 n0 p0 p1 p2 p3 p4 p5 nn va vb vc vd x1 x2 x3 b (p5 &&& (3 : Int32)) ((((p5 &&& (3 : Int32)) + (1 : Int32)) + ((((p5.toUInt32 >>> ((2 : Int32) &&& 31).toUInt32).toInt32) &&& (3 : Int32)) % (3 : Int32))) &&& (3 : Int32)) q1 q2 (own_e x2 (own_key vc vd nn) Kq (own_e x1 (own_key va vb nn) Kq (0 : Int64))) (own_key va vb nn) Kq X9 hx hZ hw hby hml hown e9 N9 Z0 hcc hss (by rw [hKq, own_same_key hn ib ia iq1 iq2, own_key_sym hn ia ib])
    have pre10s : ∀ tg, Steps p.tables e below (T10.setTop (mkF m 302 #[.val (.int p0), .val (.int p1), .val (.int p2), .val (.int p3), .val (.int p4), .val (.int p5), .val (.int nn), .val (.int va), .val (.int vb), .val (.int vc), .val (.int vd), .val (.int x1), .val (.int x2), .val (.int x3), .val (.ref b), .val (.int (p5 &&& (3 : Int32))), .val (.int ((((p5 &&& (3 : Int32)) + (1 : Int32)) + ((((p5.toUInt32 >>> ((2 : Int32) &&& 31).toUInt32).toInt32) &&& (3 : Int32)) % (3 : Int32))) &&& (3 : Int32))), .val (.int q1), .val (.int q2), .val (.long (own_e x3 (own_key va vb nn) Kq (own_e x2 (own_key vc vd nn) Kq (own_e x1 (own_key va vb nn) Kq (0 : Int64))))), .second, .unset, .unset, .unset, .unset] [])) tg → G tg := fun tg kt => pre9s tg (st10 tg kt)
    obtain ⟨t1, ht1, hlt1, hg1⟩ := hL Kq hK0
    have pre11 : ∀ tg, Steps p.tables e below (T10.setTop (mkF m 308 #[.val (.int p0), .val (.int p1), .val (.int p2), .val (.int p3), .val (.int p4), .val (.int p5), .val (.int nn), .val (.int va), .val (.int vb), .val (.int vc), .val (.int vd), .val (.int x1), .val (.int x2), .val (.int x3), .val (.ref b), .val (.int (p5 &&& (3 : Int32))), .val (.int ((((p5 &&& (3 : Int32)) + (1 : Int32)) + ((((p5.toUInt32 >>> ((2 : Int32) &&& 31).toUInt32).toInt32) &&& (3 : Int32)) % (3 : Int32))) &&& (3 : Int32))), .val (.int q1), .val (.int q2), .val (.long (own_e x3 (own_key va vb nn) Kq (own_e x2 (own_key vc vd nn) Kq (own_e x1 (own_key va vb nn) Kq (0 : Int64))))), .second, .unset, .unset, .unset, .unset] [(.int q2), (.int q1), (.ref b)])) tg → G tg := fun tg kt => pre10s tg (by
      show Steps p.tables e below (T10.setTop (mkF m 302 #[.val (.int p0), .val (.int p1), .val (.int p2), .val (.int p3), .val (.int p4), .val (.int p5), .val (.int nn), .val (.int va), .val (.int vb), .val (.int vc), .val (.int vd), .val (.int x1), .val (.int x2), .val (.int x3), .val (.ref b), .val (.int (p5 &&& (3 : Int32))), .val (.int ((((p5 &&& (3 : Int32)) + (1 : Int32)) + ((((p5.toUInt32 >>> ((2 : Int32) &&& 31).toUInt32).toInt32) &&& (3 : Int32)) % (3 : Int32))) &&& (3 : Int32))), .val (.int q1), .val (.int q2), .val (.long (own_e x3 (own_key va vb nn) Kq (own_e x2 (own_key vc vd nn) Kq (own_e x1 (own_key va vb nn) Kq (0 : Int64))))), .second, .unset, .unset, .unset, .unset] [])) _
      refine XS.aload X10.here hx rfl (hb hby at_302) rfl rfl ?_
      show Steps p.tables e below (T10.setTop (mkF m 304 #[.val (.int p0), .val (.int p1), .val (.int p2), .val (.int p3), .val (.int p4), .val (.int p5), .val (.int nn), .val (.int va), .val (.int vb), .val (.int vc), .val (.int vd), .val (.int x1), .val (.int x2), .val (.int x3), .val (.ref b), .val (.int (p5 &&& (3 : Int32))), .val (.int ((((p5 &&& (3 : Int32)) + (1 : Int32)) + ((((p5.toUInt32 >>> ((2 : Int32) &&& 31).toUInt32).toInt32) &&& (3 : Int32)) % (3 : Int32))) &&& (3 : Int32))), .val (.int q1), .val (.int q2), .val (.long (own_e x3 (own_key va vb nn) Kq (own_e x2 (own_key vc vd nn) Kq (own_e x1 (own_key va vb nn) Kq (0 : Int64))))), .second, .unset, .unset, .unset, .unset] [(.ref b)])) _
      refine XS.iload X10.here hx rfl (hb hby at_304) rfl ?_
      show Steps p.tables e below (T10.setTop (mkF m 306 #[.val (.int p0), .val (.int p1), .val (.int p2), .val (.int p3), .val (.int p4), .val (.int p5), .val (.int nn), .val (.int va), .val (.int vb), .val (.int vc), .val (.int vd), .val (.int x1), .val (.int x2), .val (.int x3), .val (.ref b), .val (.int (p5 &&& (3 : Int32))), .val (.int ((((p5 &&& (3 : Int32)) + (1 : Int32)) + ((((p5.toUInt32 >>> ((2 : Int32) &&& 31).toUInt32).toInt32) &&& (3 : Int32)) % (3 : Int32))) &&& (3 : Int32))), .val (.int q1), .val (.int q2), .val (.long (own_e x3 (own_key va vb nn) Kq (own_e x2 (own_key vc vd nn) Kq (own_e x1 (own_key va vb nn) Kq (0 : Int64))))), .second, .unset, .unset, .unset, .unset] [(.int q1), (.ref b)])) _
      refine XS.iload X10.here hx rfl (hb hby at_306) rfl ?_
      exact kt)
    obtain ⟨cq12, kq12, q12a, q12b, q12c⟩ := isOf hZ e10 E_a
    obtain ⟨_, _, ⟨T12, L12, k12, n12⟩, -, X12, ⟨Lc12, hQ12, l12, y12, z12⟩, st12⟩ := X10.virtualBack hx (y := (⟨"com/example/convene/convene/PairCounts", "count", "(II)J"⟩ : MethodName)) (z := (⟨"com/example/convene/convene/PairCounts", "count", "(II)J"⟩ : MethodName)) hown (mvT hZ (hw _ (List.mem_of_getElem? (i := 51) rfl))) (mvT hZ (hw _ (List.mem_of_getElem? (i := 52) rfl))) (notFace_of_selects (args := #[]) (mvT hZ (hw _ (List.mem_of_getElem? (i := 54) rfl)))) (mvT hZ (hw _ (List.mem_of_getElem? (i := 54) rfl))) (mvT hZ (hw _ (List.mem_of_getElem? (i := 53) rfl))) (by decide) (backOf (W := 0) (rm10 l Z a0 hw [] b q1 q2 nn kb cb kA kC f g pr Kq t1 h0 n0 Z0 E_a F_nodes F_bits F_keys F_counts F_pairs A_k A_c hKq.symm ht1 hlt1) hZ (hw _ (List.mem_of_getElem? (i := 55) rfl)) (hw _ (List.mem_of_getElem? (i := 4) rfl)) (by decide) (by decide)) q12a q12c (g := (mkF m 308 #[.val (.int p0), .val (.int p1), .val (.int p2), .val (.int p3), .val (.int p4), .val (.int p5), .val (.int nn), .val (.int va), .val (.int vb), .val (.int vc), .val (.int vd), .val (.int x1), .val (.int x2), .val (.int x3), .val (.ref b), .val (.int (p5 &&& (3 : Int32))), .val (.int ((((p5 &&& (3 : Int32)) + (1 : Int32)) + ((((p5.toUInt32 >>> ((2 : Int32) &&& 31).toUInt32).toInt32) &&& (3 : Int32)) % (3 : Int32))) &&& (3 : Int32))), .val (.int q1), .val (.int q2), .val (.long (own_e x3 (own_key va vb nn) Kq (own_e x2 (own_key vc vd nn) Kq (own_e x1 (own_key va vb nn) Kq (0 : Int64))))), .second, .unset, .unset, .unset, .unset] [(.int q2), (.int q1), (.ref b)])) rfl (by rw [hml]; rfl) (Steps.refl _) (argsL := [(.int q1), (.int q2)]) (rest := []) (lenOf pd_1 rfl) rfl (by show 2 * 0 + _ ≤ _; exact Nat.le_of_eq rfl) (hb hby at_308) (fun _ _ => ⟨rfl, e10, hcc, hss⟩)
    dsimp only [Pt.U, Pt.locs, Pt.cells, Pt.slots] at X12 l12 y12 z12 st12 hQ12
    subst l12 y12 z12
    obtain ⟨hv12, N12q, e12⟩ := hQ12
    rw [hg1, hM _ hK0] at hv12
    subst hv12
    have N12 := Fr.app N10 N12q
    have pre12s : ∀ tg, Steps p.tables e below (T12.setTop (mkF m 311 #[.val (.int p0), .val (.int p1), .val (.int p2), .val (.int p3), .val (.int p4), .val (.int p5), .val (.int nn), .val (.int va), .val (.int vb), .val (.int vc), .val (.int vd), .val (.int x1), .val (.int x2), .val (.int x3), .val (.ref b), .val (.int (p5 &&& (3 : Int32))), .val (.int ((((p5 &&& (3 : Int32)) + (1 : Int32)) + ((((p5.toUInt32 >>> ((2 : Int32) &&& 31).toUInt32).toInt32) &&& (3 : Int32)) % (3 : Int32))) &&& (3 : Int32))), .val (.int q1), .val (.int q2), .val (.long (own_e x3 (own_key va vb nn) Kq (own_e x2 (own_key vc vd nn) Kq (own_e x1 (own_key va vb nn) Kq (0 : Int64))))), .second, .unset, .unset, .unset, .unset] [(.long (own_sum x1 x2 x3 (own_key va vb nn) (own_key vc vd nn) Kq))])) tg → G tg := fun tg kt => pre11 tg (st12.trans kt)
    have pre13 : ∀ tg, Steps p.tables e below (T12.setTop (mkF m 319 #[.val (.int p0), .val (.int p1), .val (.int p2), .val (.int p3), .val (.int p4), .val (.int p5), .val (.int nn), .val (.int va), .val (.int vb), .val (.int vc), .val (.int vd), .val (.int x1), .val (.int x2), .val (.int x3), .val (.ref b), .val (.int (p5 &&& (3 : Int32))), .val (.int ((((p5 &&& (3 : Int32)) + (1 : Int32)) + ((((p5.toUInt32 >>> ((2 : Int32) &&& 31).toUInt32).toInt32) &&& (3 : Int32)) % (3 : Int32))) &&& (3 : Int32))), .val (.int q1), .val (.int q2), .val (.long (own_e x3 (own_key va vb nn) Kq (own_e x2 (own_key vc vd nn) Kq (own_e x1 (own_key va vb nn) Kq (0 : Int64))))), .second, .val (.long (own_sum x1 x2 x3 (own_key va vb nn) (own_key vc vd nn) Kq)), .second, .unset, .unset] [(.int q1), (.int q2), (.ref b)])) tg → G tg := fun tg kt => pre12s tg (by
      show Steps p.tables e below (T12.setTop (mkF m 311 #[.val (.int p0), .val (.int p1), .val (.int p2), .val (.int p3), .val (.int p4), .val (.int p5), .val (.int nn), .val (.int va), .val (.int vb), .val (.int vc), .val (.int vd), .val (.int x1), .val (.int x2), .val (.int x3), .val (.ref b), .val (.int (p5 &&& (3 : Int32))), .val (.int ((((p5 &&& (3 : Int32)) + (1 : Int32)) + ((((p5.toUInt32 >>> ((2 : Int32) &&& 31).toUInt32).toInt32) &&& (3 : Int32)) % (3 : Int32))) &&& (3 : Int32))), .val (.int q1), .val (.int q2), .val (.long (own_e x3 (own_key va vb nn) Kq (own_e x2 (own_key vc vd nn) Kq (own_e x1 (own_key va vb nn) Kq (0 : Int64))))), .second, .unset, .unset, .unset, .unset] [(.long (own_sum x1 x2 x3 (own_key va vb nn) (own_key vc vd nn) Kq))])) _
      refine XS.lstore X12.here hx rfl (hb hby at_311) rfl (l' := #[.val (.int p0), .val (.int p1), .val (.int p2), .val (.int p3), .val (.int p4), .val (.int p5), .val (.int nn), .val (.int va), .val (.int vb), .val (.int vc), .val (.int vd), .val (.int x1), .val (.int x2), .val (.int x3), .val (.ref b), .val (.int (p5 &&& (3 : Int32))), .val (.int ((((p5 &&& (3 : Int32)) + (1 : Int32)) + ((((p5.toUInt32 >>> ((2 : Int32) &&& 31).toUInt32).toInt32) &&& (3 : Int32)) % (3 : Int32))) &&& (3 : Int32))), .val (.int q1), .val (.int q2), .val (.long (own_e x3 (own_key va vb nn) Kq (own_e x2 (own_key vc vd nn) Kq (own_e x1 (own_key va vb nn) Kq (0 : Int64))))), .second, .val (.long (own_sum x1 x2 x3 (own_key va vb nn) (own_key vc vd nn) Kq)), .second, .unset, .unset]) rfl ?_
      show Steps p.tables e below (T12.setTop (mkF m 313 #[.val (.int p0), .val (.int p1), .val (.int p2), .val (.int p3), .val (.int p4), .val (.int p5), .val (.int nn), .val (.int va), .val (.int vb), .val (.int vc), .val (.int vd), .val (.int x1), .val (.int x2), .val (.int x3), .val (.ref b), .val (.int (p5 &&& (3 : Int32))), .val (.int ((((p5 &&& (3 : Int32)) + (1 : Int32)) + ((((p5.toUInt32 >>> ((2 : Int32) &&& 31).toUInt32).toInt32) &&& (3 : Int32)) % (3 : Int32))) &&& (3 : Int32))), .val (.int q1), .val (.int q2), .val (.long (own_e x3 (own_key va vb nn) Kq (own_e x2 (own_key vc vd nn) Kq (own_e x1 (own_key va vb nn) Kq (0 : Int64))))), .second, .val (.long (own_sum x1 x2 x3 (own_key va vb nn) (own_key vc vd nn) Kq)), .second, .unset, .unset] [])) _
      refine XS.aload X12.here hx rfl (hb hby at_313) rfl rfl ?_
      show Steps p.tables e below (T12.setTop (mkF m 315 #[.val (.int p0), .val (.int p1), .val (.int p2), .val (.int p3), .val (.int p4), .val (.int p5), .val (.int nn), .val (.int va), .val (.int vb), .val (.int vc), .val (.int vd), .val (.int x1), .val (.int x2), .val (.int x3), .val (.ref b), .val (.int (p5 &&& (3 : Int32))), .val (.int ((((p5 &&& (3 : Int32)) + (1 : Int32)) + ((((p5.toUInt32 >>> ((2 : Int32) &&& 31).toUInt32).toInt32) &&& (3 : Int32)) % (3 : Int32))) &&& (3 : Int32))), .val (.int q1), .val (.int q2), .val (.long (own_e x3 (own_key va vb nn) Kq (own_e x2 (own_key vc vd nn) Kq (own_e x1 (own_key va vb nn) Kq (0 : Int64))))), .second, .val (.long (own_sum x1 x2 x3 (own_key va vb nn) (own_key vc vd nn) Kq)), .second, .unset, .unset] [(.ref b)])) _
      refine XS.iload X12.here hx rfl (hb hby at_315) rfl ?_
      show Steps p.tables e below (T12.setTop (mkF m 317 #[.val (.int p0), .val (.int p1), .val (.int p2), .val (.int p3), .val (.int p4), .val (.int p5), .val (.int nn), .val (.int va), .val (.int vb), .val (.int vc), .val (.int vd), .val (.int x1), .val (.int x2), .val (.int x3), .val (.ref b), .val (.int (p5 &&& (3 : Int32))), .val (.int ((((p5 &&& (3 : Int32)) + (1 : Int32)) + ((((p5.toUInt32 >>> ((2 : Int32) &&& 31).toUInt32).toInt32) &&& (3 : Int32)) % (3 : Int32))) &&& (3 : Int32))), .val (.int q1), .val (.int q2), .val (.long (own_e x3 (own_key va vb nn) Kq (own_e x2 (own_key vc vd nn) Kq (own_e x1 (own_key va vb nn) Kq (0 : Int64))))), .second, .val (.long (own_sum x1 x2 x3 (own_key va vb nn) (own_key vc vd nn) Kq)), .second, .unset, .unset] [(.int q2), (.ref b)])) _
      refine XS.iload X12.here hx rfl (hb hby at_317) rfl ?_
      exact kt)
    obtain ⟨cq14, kq14, q14a, q14b, q14c⟩ := isOf hZ e12 E_a
    obtain ⟨_, _, ⟨T14, L14, k14, n14⟩, -, X14, ⟨Lc14, hQ14, l14, y14, z14⟩, st14⟩ := X12.virtualBack hx (y := (⟨"com/example/convene/convene/PairCounts", "count", "(II)J"⟩ : MethodName)) (z := (⟨"com/example/convene/convene/PairCounts", "count", "(II)J"⟩ : MethodName)) hown (mvT hZ (hw _ (List.mem_of_getElem? (i := 51) rfl))) (mvT hZ (hw _ (List.mem_of_getElem? (i := 52) rfl))) (notFace_of_selects (args := #[]) (mvT hZ (hw _ (List.mem_of_getElem? (i := 54) rfl)))) (mvT hZ (hw _ (List.mem_of_getElem? (i := 54) rfl))) (mvT hZ (hw _ (List.mem_of_getElem? (i := 53) rfl))) (by decide) (backOf (W := 0) (rm10 l Z a0 hw [] b q2 q1 nn kb cb kA kC f g pr Kq t1 h0 n0 Z0 E_a F_nodes F_bits F_keys F_counts F_pairs A_k A_c ((own_key_sym hn iq1 iq2).trans hKq.symm) ht1 hlt1) hZ (hw _ (List.mem_of_getElem? (i := 55) rfl)) (hw _ (List.mem_of_getElem? (i := 4) rfl)) (by decide) (by decide)) q14a q14c (g := (mkF m 319 #[.val (.int p0), .val (.int p1), .val (.int p2), .val (.int p3), .val (.int p4), .val (.int p5), .val (.int nn), .val (.int va), .val (.int vb), .val (.int vc), .val (.int vd), .val (.int x1), .val (.int x2), .val (.int x3), .val (.ref b), .val (.int (p5 &&& (3 : Int32))), .val (.int ((((p5 &&& (3 : Int32)) + (1 : Int32)) + ((((p5.toUInt32 >>> ((2 : Int32) &&& 31).toUInt32).toInt32) &&& (3 : Int32)) % (3 : Int32))) &&& (3 : Int32))), .val (.int q1), .val (.int q2), .val (.long (own_e x3 (own_key va vb nn) Kq (own_e x2 (own_key vc vd nn) Kq (own_e x1 (own_key va vb nn) Kq (0 : Int64))))), .second, .val (.long (own_sum x1 x2 x3 (own_key va vb nn) (own_key vc vd nn) Kq)), .second, .unset, .unset] [(.int q1), (.int q2), (.ref b)])) rfl (by rw [hml]; rfl) (Steps.refl _) (argsL := [(.int q2), (.int q1)]) (rest := []) (lenOf pd_1 rfl) rfl (by show 2 * 0 + _ ≤ _; exact Nat.le_of_eq rfl) (hb hby at_319) (fun _ _ => ⟨rfl, e12, hcc, hss⟩)
    dsimp only [Pt.U, Pt.locs, Pt.cells, Pt.slots] at X14 l14 y14 z14 st14 hQ14
    subst l14 y14 z14
    obtain ⟨hv14, N14q, e14⟩ := hQ14
    rw [hg1, hM _ hK0] at hv14
    subst hv14
    have N14 := Fr.app N12 N14q
    have pre14s : ∀ tg, Steps p.tables e below (T14.setTop (mkF m 322 #[.val (.int p0), .val (.int p1), .val (.int p2), .val (.int p3), .val (.int p4), .val (.int p5), .val (.int nn), .val (.int va), .val (.int vb), .val (.int vc), .val (.int vd), .val (.int x1), .val (.int x2), .val (.int x3), .val (.ref b), .val (.int (p5 &&& (3 : Int32))), .val (.int ((((p5 &&& (3 : Int32)) + (1 : Int32)) + ((((p5.toUInt32 >>> ((2 : Int32) &&& 31).toUInt32).toInt32) &&& (3 : Int32)) % (3 : Int32))) &&& (3 : Int32))), .val (.int q1), .val (.int q2), .val (.long (own_e x3 (own_key va vb nn) Kq (own_e x2 (own_key vc vd nn) Kq (own_e x1 (own_key va vb nn) Kq (0 : Int64))))), .second, .val (.long (own_sum x1 x2 x3 (own_key va vb nn) (own_key vc vd nn) Kq)), .second, .unset, .unset] [(.long (own_sum x1 x2 x3 (own_key va vb nn) (own_key vc vd nn) Kq))])) tg → G tg := fun tg kt => pre13 tg (st14.trans kt)
    have pre15 : ∀ tg, Steps p.tables e below (T14.setTop (mkF m 345 #[.val (.int p0), .val (.int p1), .val (.int p2), .val (.int p3), .val (.int p4), .val (.int p5), .val (.int nn), .val (.int va), .val (.int vb), .val (.int vc), .val (.int vd), .val (.int x1), .val (.int x2), .val (.int x3), .val (.ref b), .val (.int (p5 &&& (3 : Int32))), .val (.int ((((p5 &&& (3 : Int32)) + (1 : Int32)) + ((((p5.toUInt32 >>> ((2 : Int32) &&& 31).toUInt32).toInt32) &&& (3 : Int32)) % (3 : Int32))) &&& (3 : Int32))), .val (.int q1), .val (.int q2), .val (.long (own_e x3 (own_key va vb nn) Kq (own_e x2 (own_key vc vd nn) Kq (own_e x1 (own_key va vb nn) Kq (0 : Int64))))), .second, .val (.long (own_sum x1 x2 x3 (own_key va vb nn) (own_key vc vd nn) Kq)), .second, .val (.long (own_sum x1 x2 x3 (own_key va vb nn) (own_key vc vd nn) Kq)), .second] [(.int (1 : Int32))])) tg → G tg := fun tg kt => pre14s tg (by
      show Steps p.tables e below (T14.setTop (mkF m 322 #[.val (.int p0), .val (.int p1), .val (.int p2), .val (.int p3), .val (.int p4), .val (.int p5), .val (.int nn), .val (.int va), .val (.int vb), .val (.int vc), .val (.int vd), .val (.int x1), .val (.int x2), .val (.int x3), .val (.ref b), .val (.int (p5 &&& (3 : Int32))), .val (.int ((((p5 &&& (3 : Int32)) + (1 : Int32)) + ((((p5.toUInt32 >>> ((2 : Int32) &&& 31).toUInt32).toInt32) &&& (3 : Int32)) % (3 : Int32))) &&& (3 : Int32))), .val (.int q1), .val (.int q2), .val (.long (own_e x3 (own_key va vb nn) Kq (own_e x2 (own_key vc vd nn) Kq (own_e x1 (own_key va vb nn) Kq (0 : Int64))))), .second, .val (.long (own_sum x1 x2 x3 (own_key va vb nn) (own_key vc vd nn) Kq)), .second, .unset, .unset] [(.long (own_sum x1 x2 x3 (own_key va vb nn) (own_key vc vd nn) Kq))])) _
      refine XS.lstore X14.here hx rfl (hb hby at_322) rfl (l' := #[.val (.int p0), .val (.int p1), .val (.int p2), .val (.int p3), .val (.int p4), .val (.int p5), .val (.int nn), .val (.int va), .val (.int vb), .val (.int vc), .val (.int vd), .val (.int x1), .val (.int x2), .val (.int x3), .val (.ref b), .val (.int (p5 &&& (3 : Int32))), .val (.int ((((p5 &&& (3 : Int32)) + (1 : Int32)) + ((((p5.toUInt32 >>> ((2 : Int32) &&& 31).toUInt32).toInt32) &&& (3 : Int32)) % (3 : Int32))) &&& (3 : Int32))), .val (.int q1), .val (.int q2), .val (.long (own_e x3 (own_key va vb nn) Kq (own_e x2 (own_key vc vd nn) Kq (own_e x1 (own_key va vb nn) Kq (0 : Int64))))), .second, .val (.long (own_sum x1 x2 x3 (own_key va vb nn) (own_key vc vd nn) Kq)), .second, .val (.long (own_sum x1 x2 x3 (own_key va vb nn) (own_key vc vd nn) Kq)), .second]) rfl ?_
      show Steps p.tables e below (T14.setTop (mkF m 324 #[.val (.int p0), .val (.int p1), .val (.int p2), .val (.int p3), .val (.int p4), .val (.int p5), .val (.int nn), .val (.int va), .val (.int vb), .val (.int vc), .val (.int vd), .val (.int x1), .val (.int x2), .val (.int x3), .val (.ref b), .val (.int (p5 &&& (3 : Int32))), .val (.int ((((p5 &&& (3 : Int32)) + (1 : Int32)) + ((((p5.toUInt32 >>> ((2 : Int32) &&& 31).toUInt32).toInt32) &&& (3 : Int32)) % (3 : Int32))) &&& (3 : Int32))), .val (.int q1), .val (.int q2), .val (.long (own_e x3 (own_key va vb nn) Kq (own_e x2 (own_key vc vd nn) Kq (own_e x1 (own_key va vb nn) Kq (0 : Int64))))), .second, .val (.long (own_sum x1 x2 x3 (own_key va vb nn) (own_key vc vd nn) Kq)), .second, .val (.long (own_sum x1 x2 x3 (own_key va vb nn) (own_key vc vd nn) Kq)), .second] [])) _
      refine XS.lload X14.here hx rfl (hb hby at_324) rfl ?_
      show Steps p.tables e below (T14.setTop (mkF m 326 #[.val (.int p0), .val (.int p1), .val (.int p2), .val (.int p3), .val (.int p4), .val (.int p5), .val (.int nn), .val (.int va), .val (.int vb), .val (.int vc), .val (.int vd), .val (.int x1), .val (.int x2), .val (.int x3), .val (.ref b), .val (.int (p5 &&& (3 : Int32))), .val (.int ((((p5 &&& (3 : Int32)) + (1 : Int32)) + ((((p5.toUInt32 >>> ((2 : Int32) &&& 31).toUInt32).toInt32) &&& (3 : Int32)) % (3 : Int32))) &&& (3 : Int32))), .val (.int q1), .val (.int q2), .val (.long (own_e x3 (own_key va vb nn) Kq (own_e x2 (own_key vc vd nn) Kq (own_e x1 (own_key va vb nn) Kq (0 : Int64))))), .second, .val (.long (own_sum x1 x2 x3 (own_key va vb nn) (own_key vc vd nn) Kq)), .second, .val (.long (own_sum x1 x2 x3 (own_key va vb nn) (own_key vc vd nn) Kq)), .second] [(.long (own_sum x1 x2 x3 (own_key va vb nn) (own_key vc vd nn) Kq))])) _
      refine XS.lload X14.here hx rfl (hb hby at_326) rfl ?_
      show Steps p.tables e below (T14.setTop (mkF m 328 #[.val (.int p0), .val (.int p1), .val (.int p2), .val (.int p3), .val (.int p4), .val (.int p5), .val (.int nn), .val (.int va), .val (.int vb), .val (.int vc), .val (.int vd), .val (.int x1), .val (.int x2), .val (.int x3), .val (.ref b), .val (.int (p5 &&& (3 : Int32))), .val (.int ((((p5 &&& (3 : Int32)) + (1 : Int32)) + ((((p5.toUInt32 >>> ((2 : Int32) &&& 31).toUInt32).toInt32) &&& (3 : Int32)) % (3 : Int32))) &&& (3 : Int32))), .val (.int q1), .val (.int q2), .val (.long (own_e x3 (own_key va vb nn) Kq (own_e x2 (own_key vc vd nn) Kq (own_e x1 (own_key va vb nn) Kq (0 : Int64))))), .second, .val (.long (own_sum x1 x2 x3 (own_key va vb nn) (own_key vc vd nn) Kq)), .second, .val (.long (own_sum x1 x2 x3 (own_key va vb nn) (own_key vc vd nn) Kq)), .second] [(.long (own_e x3 (own_key va vb nn) Kq (own_e x2 (own_key vc vd nn) Kq (own_e x1 (own_key va vb nn) Kq (0 : Int64))))), (.long (own_sum x1 x2 x3 (own_key va vb nn) (own_key vc vd nn) Kq))])) _
      refine XS.lcmp X14.here hx rfl (hb hby at_328) rfl ?_
      show Steps p.tables e below (T14.setTop (mkF m 329 #[.val (.int p0), .val (.int p1), .val (.int p2), .val (.int p3), .val (.int p4), .val (.int p5), .val (.int nn), .val (.int va), .val (.int vb), .val (.int vc), .val (.int vd), .val (.int x1), .val (.int x2), .val (.int x3), .val (.ref b), .val (.int (p5 &&& (3 : Int32))), .val (.int ((((p5 &&& (3 : Int32)) + (1 : Int32)) + ((((p5.toUInt32 >>> ((2 : Int32) &&& 31).toUInt32).toInt32) &&& (3 : Int32)) % (3 : Int32))) &&& (3 : Int32))), .val (.int q1), .val (.int q2), .val (.long (own_e x3 (own_key va vb nn) Kq (own_e x2 (own_key vc vd nn) Kq (own_e x1 (own_key va vb nn) Kq (0 : Int64))))), .second, .val (.long (own_sum x1 x2 x3 (own_key va vb nn) (own_key vc vd nn) Kq)), .second, .val (.long (own_sum x1 x2 x3 (own_key va vb nn) (own_key vc vd nn) Kq)), .second] [(.int (lcmpW (own_sum x1 x2 x3 (own_key va vb nn) (own_key vc vd nn) Kq) (own_e x3 (own_key va vb nn) Kq (own_e x2 (own_key vc vd nn) Kq (own_e x1 (own_key va vb nn) Kq (0 : Int64))))))])) _
      refine XS.ifNo X14.here hx rfl (hb hby at_329) rfl ((if0 _ _).trans (teq ((lw_eq (own_sum x1 x2 x3 (own_key va vb nn) (own_key vc vd nn) Kq) (own_e x3 (own_key va vb nn) Kq (own_e x2 (own_key vc vd nn) Kq (own_e x1 (own_key va vb nn) Kq (0 : Int64))))).mpr rfl)).2) ?_
      show Steps p.tables e below (T14.setTop (mkF m 332 #[.val (.int p0), .val (.int p1), .val (.int p2), .val (.int p3), .val (.int p4), .val (.int p5), .val (.int nn), .val (.int va), .val (.int vb), .val (.int vc), .val (.int vd), .val (.int x1), .val (.int x2), .val (.int x3), .val (.ref b), .val (.int (p5 &&& (3 : Int32))), .val (.int ((((p5 &&& (3 : Int32)) + (1 : Int32)) + ((((p5.toUInt32 >>> ((2 : Int32) &&& 31).toUInt32).toInt32) &&& (3 : Int32)) % (3 : Int32))) &&& (3 : Int32))), .val (.int q1), .val (.int q2), .val (.long (own_e x3 (own_key va vb nn) Kq (own_e x2 (own_key vc vd nn) Kq (own_e x1 (own_key va vb nn) Kq (0 : Int64))))), .second, .val (.long (own_sum x1 x2 x3 (own_key va vb nn) (own_key vc vd nn) Kq)), .second, .val (.long (own_sum x1 x2 x3 (own_key va vb nn) (own_key vc vd nn) Kq)), .second] [])) _
      refine XS.lload X14.here hx rfl (hb hby at_332) rfl ?_
      show Steps p.tables e below (T14.setTop (mkF m 334 #[.val (.int p0), .val (.int p1), .val (.int p2), .val (.int p3), .val (.int p4), .val (.int p5), .val (.int nn), .val (.int va), .val (.int vb), .val (.int vc), .val (.int vd), .val (.int x1), .val (.int x2), .val (.int x3), .val (.ref b), .val (.int (p5 &&& (3 : Int32))), .val (.int ((((p5 &&& (3 : Int32)) + (1 : Int32)) + ((((p5.toUInt32 >>> ((2 : Int32) &&& 31).toUInt32).toInt32) &&& (3 : Int32)) % (3 : Int32))) &&& (3 : Int32))), .val (.int q1), .val (.int q2), .val (.long (own_e x3 (own_key va vb nn) Kq (own_e x2 (own_key vc vd nn) Kq (own_e x1 (own_key va vb nn) Kq (0 : Int64))))), .second, .val (.long (own_sum x1 x2 x3 (own_key va vb nn) (own_key vc vd nn) Kq)), .second, .val (.long (own_sum x1 x2 x3 (own_key va vb nn) (own_key vc vd nn) Kq)), .second] [(.long (own_sum x1 x2 x3 (own_key va vb nn) (own_key vc vd nn) Kq))])) _
      refine XS.lload X14.here hx rfl (hb hby at_334) rfl ?_
      show Steps p.tables e below (T14.setTop (mkF m 336 #[.val (.int p0), .val (.int p1), .val (.int p2), .val (.int p3), .val (.int p4), .val (.int p5), .val (.int nn), .val (.int va), .val (.int vb), .val (.int vc), .val (.int vd), .val (.int x1), .val (.int x2), .val (.int x3), .val (.ref b), .val (.int (p5 &&& (3 : Int32))), .val (.int ((((p5 &&& (3 : Int32)) + (1 : Int32)) + ((((p5.toUInt32 >>> ((2 : Int32) &&& 31).toUInt32).toInt32) &&& (3 : Int32)) % (3 : Int32))) &&& (3 : Int32))), .val (.int q1), .val (.int q2), .val (.long (own_e x3 (own_key va vb nn) Kq (own_e x2 (own_key vc vd nn) Kq (own_e x1 (own_key va vb nn) Kq (0 : Int64))))), .second, .val (.long (own_sum x1 x2 x3 (own_key va vb nn) (own_key vc vd nn) Kq)), .second, .val (.long (own_sum x1 x2 x3 (own_key va vb nn) (own_key vc vd nn) Kq)), .second] [(.long (own_e x3 (own_key va vb nn) Kq (own_e x2 (own_key vc vd nn) Kq (own_e x1 (own_key va vb nn) Kq (0 : Int64))))), (.long (own_sum x1 x2 x3 (own_key va vb nn) (own_key vc vd nn) Kq))])) _
      refine XS.lcmp X14.here hx rfl (hb hby at_336) rfl ?_
      show Steps p.tables e below (T14.setTop (mkF m 337 #[.val (.int p0), .val (.int p1), .val (.int p2), .val (.int p3), .val (.int p4), .val (.int p5), .val (.int nn), .val (.int va), .val (.int vb), .val (.int vc), .val (.int vd), .val (.int x1), .val (.int x2), .val (.int x3), .val (.ref b), .val (.int (p5 &&& (3 : Int32))), .val (.int ((((p5 &&& (3 : Int32)) + (1 : Int32)) + ((((p5.toUInt32 >>> ((2 : Int32) &&& 31).toUInt32).toInt32) &&& (3 : Int32)) % (3 : Int32))) &&& (3 : Int32))), .val (.int q1), .val (.int q2), .val (.long (own_e x3 (own_key va vb nn) Kq (own_e x2 (own_key vc vd nn) Kq (own_e x1 (own_key va vb nn) Kq (0 : Int64))))), .second, .val (.long (own_sum x1 x2 x3 (own_key va vb nn) (own_key vc vd nn) Kq)), .second, .val (.long (own_sum x1 x2 x3 (own_key va vb nn) (own_key vc vd nn) Kq)), .second] [(.int (lcmpW (own_sum x1 x2 x3 (own_key va vb nn) (own_key vc vd nn) Kq) (own_e x3 (own_key va vb nn) Kq (own_e x2 (own_key vc vd nn) Kq (own_e x1 (own_key va vb nn) Kq (0 : Int64))))))])) _
      refine XS.ifNo X14.here hx rfl (hb hby at_337) rfl ((if0 _ _).trans (teq ((lw_eq (own_sum x1 x2 x3 (own_key va vb nn) (own_key vc vd nn) Kq) (own_e x3 (own_key va vb nn) Kq (own_e x2 (own_key vc vd nn) Kq (own_e x1 (own_key va vb nn) Kq (0 : Int64))))).mpr rfl)).2) ?_
      show Steps p.tables e below (T14.setTop (mkF m 340 #[.val (.int p0), .val (.int p1), .val (.int p2), .val (.int p3), .val (.int p4), .val (.int p5), .val (.int nn), .val (.int va), .val (.int vb), .val (.int vc), .val (.int vd), .val (.int x1), .val (.int x2), .val (.int x3), .val (.ref b), .val (.int (p5 &&& (3 : Int32))), .val (.int ((((p5 &&& (3 : Int32)) + (1 : Int32)) + ((((p5.toUInt32 >>> ((2 : Int32) &&& 31).toUInt32).toInt32) &&& (3 : Int32)) % (3 : Int32))) &&& (3 : Int32))), .val (.int q1), .val (.int q2), .val (.long (own_e x3 (own_key va vb nn) Kq (own_e x2 (own_key vc vd nn) Kq (own_e x1 (own_key va vb nn) Kq (0 : Int64))))), .second, .val (.long (own_sum x1 x2 x3 (own_key va vb nn) (own_key vc vd nn) Kq)), .second, .val (.long (own_sum x1 x2 x3 (own_key va vb nn) (own_key vc vd nn) Kq)), .second] [])) _
      refine XS.iconst X14.here hx rfl (hb hby at_340) ?_
      show Steps p.tables e below (T14.setTop (mkF m 341 #[.val (.int p0), .val (.int p1), .val (.int p2), .val (.int p3), .val (.int p4), .val (.int p5), .val (.int nn), .val (.int va), .val (.int vb), .val (.int vc), .val (.int vd), .val (.int x1), .val (.int x2), .val (.int x3), .val (.ref b), .val (.int (p5 &&& (3 : Int32))), .val (.int ((((p5 &&& (3 : Int32)) + (1 : Int32)) + ((((p5.toUInt32 >>> ((2 : Int32) &&& 31).toUInt32).toInt32) &&& (3 : Int32)) % (3 : Int32))) &&& (3 : Int32))), .val (.int q1), .val (.int q2), .val (.long (own_e x3 (own_key va vb nn) Kq (own_e x2 (own_key vc vd nn) Kq (own_e x1 (own_key va vb nn) Kq (0 : Int64))))), .second, .val (.long (own_sum x1 x2 x3 (own_key va vb nn) (own_key vc vd nn) Kq)), .second, .val (.long (own_sum x1 x2 x3 (own_key va vb nn) (own_key vc vd nn) Kq)), .second] [(.int (1 : Int32))])) _
      refine XS.goto X14.here hx rfl (pc0 := 341) (pc' := 345) rfl (hb hby at_341) (by decide) (by decide) ?_
      exact kt)
    subst hG
    exact ⟨T14, _, 345, _, X14, e14, N14, at_345, fun tg kt => pre15 tg kt⟩
theorem pn_0 : plainName "com/example/convene/convene/PairCountsCountPinLaw" = true := by first | (simp [plainName, overriddenIn]; done) | decide +kernel
theorem ef_0_I_I_I_I_I_I (m : MethodId) (x0 : Int32) (x1 : Int32) (x2 : Int32) (x3 : Int32) (x4 : Int32) (x5 : Int32) : entryFrame m #[(.int x0), (.int x1), (.int x2), (.int x3), (.int x4), (.int x5)] maxLocals = mkF m 0 #[.val (.int x0), .val (.int x1), .val (.int x2), .val (.int x3), .val (.int x4), .val (.int x5), .unset, .unset, .unset, .unset, .unset, .unset, .unset, .unset, .unset, .unset, .unset, .unset, .unset, .unset, .unset, .unset, .unset, .unset, .unset] [] := by first | (simp [entryFrame, mkF, argsToLocals, Value.category, maxLocals]; done) | rfl
theorem own_nn (x : Int32) : 2 ≤ ((2 : Int32) + (x &&& (1073741823 : Int32))).toInt ∧ ((2 : Int32) + (x &&& (1073741823 : Int32))).toInt ≤ 1073741825 := by
  have a1 := c_mask x 1073741823 30 (by decide) (by decide)
  have a2 := c_iadd 2 (x &&& 1073741823)
  have a3 := rng32 (2 + (x &&& 1073741823))
  have e2 : (2 : Int32).toInt = 2 := by decide
  omega
theorem own_rem (x : Int32) {n : Int32} (hn : 0 < n.toInt) : own_in n ((x &&& (2147483647 : Int32)) % n) := by
  have a1 := c_mask x 2147483647 31 (by decide) (by decide)
  have a2 := (c_iremV (x &&& 2147483647) n).1 (by omega) hn
  exact ⟨a2.1, a2.2.1⟩
theorem pd_5 : parseMethodDescriptor "(I)V" = some ⟨[.int], none⟩ := by decide +kernel
theorem pd_6 : parseMethodDescriptor "(II)V" = some ⟨[.int, .int], none⟩ := by decide +kernel
def Q_rm0 (Z : State) (p0 p1 p2 p3 p4 p5 : Int32) (h0 : Heap) (n0 : Nat) (v : Option Value) (h : Heap) (L : List Loc) : Prop := v = some (.int 1) ∧ Fr n0 L
set_option maxRecDepth 65536 in
set_option maxHeartbeats 40000000 in
theorem rm0 (l : Launch) (Z : State) (a0 : Array Value) (hw : ∀ d ∈ tables_1, d.before a0 Z = true) (ws : List Jvm.Cond) (p0 p1 p2 p3 p4 p5 : Int32) (h0 : Heap) (n0 : Nat) (Z0 : n0 ≤ h0.size)  :
    MetFree l x (head1 (Jvm.Cond.code x code maxLocals ret :: ws) room_1) (fun argv U => argv = #[(.int p0), (.int p1), (.int p2), (.int p3), (.int p4), (.int p5)] ∧ Z.Warmed39 U.vm ∧ U.heap = h0) (fun _ _ _ _ _ => True) (fun _ U o U' => ∃ v L, o = .returned v ∧ Q_rm0 Z p0 p1 p2 p3 p4 p5 h0 n0 v U'.heap L ∧ FrameEnd U o U' L 16 4224) := by
  refine MetFree.of_bodySF (plainFor_of_name pn_0) hisR ?_
  intro p e s m args below meth c s₁ Bd hml0 hP hK
  obtain ⟨rfl, hZ, hh⟩ := hP
  have hx := Bd.exec
  have hby := Bd.bytes
  have hml : c.maxLocals = 25 := hml0
  have hown : s.vm.findClass "com/example/convene/convene/PairCountsCountPinLaw" = some m.cls := findClass_of_methodNamed Bd.named
  have hnm := (name_of_methodNamed Bd.named Bd.method).1
  have X0 : Stand p l e room_1 s m #[(.int p0), (.int p1), (.int p2), (.int p3), (.int p4), (.int p5)] below meth c s₁ [] 0 0 := Stand.of_body Bd
  have e0 : s₁.heap = h0 := by rw [← hh, Bd.state]; rfl
  have N0 := Fr.nil n0
  obtain ⟨G, hG⟩ : ∃ G : State → Prop, G = fun tg => Steps p.tables e below (s₁.setTop (entryFrame m #[(.int p0), (.int p1), (.int p2), (.int p3), (.int p4), (.int p5)] maxLocals)) tg := ⟨_, rfl⟩
  have pre0 : ∀ tg, Steps p.tables e below (s₁.setTop (mkF m 0 #[.val (.int p0), .val (.int p1), .val (.int p2), .val (.int p3), .val (.int p4), .val (.int p5), .unset, .unset, .unset, .unset, .unset, .unset, .unset, .unset, .unset, .unset, .unset, .unset, .unset, .unset, .unset, .unset, .unset, .unset, .unset] [])) tg → G tg := fun tg kt => by rw [hG]; exact castTop (ef_0_I_I_I_I_I_I m p0 p1 p2 p3 p4 p5) kt
  have pre1 : ∀ tg, Steps p.tables e below (s₁.setTop (mkF m 8 #[.val (.int p0), .val (.int p1), .val (.int p2), .val (.int p3), .val (.int p4), .val (.int p5), .val (.int ((2 : Int32) + (p0 &&& (1073741823 : Int32)))), .unset, .unset, .unset, .unset, .unset, .unset, .unset, .unset, .unset, .unset, .unset, .unset, .unset, .unset, .unset, .unset, .unset, .unset] [])) tg → G tg := fun tg kt => pre0 tg (by
    show Steps p.tables e below (s₁.setTop (mkF m 0 #[.val (.int p0), .val (.int p1), .val (.int p2), .val (.int p3), .val (.int p4), .val (.int p5), .unset, .unset, .unset, .unset, .unset, .unset, .unset, .unset, .unset, .unset, .unset, .unset, .unset, .unset, .unset, .unset, .unset, .unset, .unset] [])) _
    refine XS.iconst X0.here hx rfl (hb hby at_0) ?_
    show Steps p.tables e below (s₁.setTop (mkF m 1 #[.val (.int p0), .val (.int p1), .val (.int p2), .val (.int p3), .val (.int p4), .val (.int p5), .unset, .unset, .unset, .unset, .unset, .unset, .unset, .unset, .unset, .unset, .unset, .unset, .unset, .unset, .unset, .unset, .unset, .unset, .unset] [(.int (2 : Int32))])) _
    refine XS.iloadN X0.here hx rfl (hb hby at_1) rfl ?_
    show Steps p.tables e below (s₁.setTop (mkF m 2 #[.val (.int p0), .val (.int p1), .val (.int p2), .val (.int p3), .val (.int p4), .val (.int p5), .unset, .unset, .unset, .unset, .unset, .unset, .unset, .unset, .unset, .unset, .unset, .unset, .unset, .unset, .unset, .unset, .unset, .unset, .unset] [(.int p0), (.int (2 : Int32))])) _
    refine X0.ldcInt hx hown (mvT hZ (hw _ (List.mem_of_getElem? (i := 0) rfl))) (g := (mkF m 2 #[.val (.int p0), .val (.int p1), .val (.int p2), .val (.int p3), .val (.int p4), .val (.int p5), .unset, .unset, .unset, .unset, .unset, .unset, .unset, .unset, .unset, .unset, .unset, .unset, .unset, .unset, .unset, .unset, .unset, .unset, .unset] [(.int p0), (.int (2 : Int32))])) rfl (hb hby at_2) _ ?_
    show Steps p.tables e below (s₁.setTop (mkF m 4 #[.val (.int p0), .val (.int p1), .val (.int p2), .val (.int p3), .val (.int p4), .val (.int p5), .unset, .unset, .unset, .unset, .unset, .unset, .unset, .unset, .unset, .unset, .unset, .unset, .unset, .unset, .unset, .unset, .unset, .unset, .unset] [(.int (1073741823 : Int32)), (.int p0), (.int (2 : Int32))])) _
    refine XS.iand X0.here hx rfl (hb hby at_4) rfl ?_
    show Steps p.tables e below (s₁.setTop (mkF m 5 #[.val (.int p0), .val (.int p1), .val (.int p2), .val (.int p3), .val (.int p4), .val (.int p5), .unset, .unset, .unset, .unset, .unset, .unset, .unset, .unset, .unset, .unset, .unset, .unset, .unset, .unset, .unset, .unset, .unset, .unset, .unset] [(.int (p0 &&& (1073741823 : Int32))), (.int (2 : Int32))])) _
    refine XS.iadd X0.here hx rfl (hb hby at_5) rfl ?_
    show Steps p.tables e below (s₁.setTop (mkF m 6 #[.val (.int p0), .val (.int p1), .val (.int p2), .val (.int p3), .val (.int p4), .val (.int p5), .unset, .unset, .unset, .unset, .unset, .unset, .unset, .unset, .unset, .unset, .unset, .unset, .unset, .unset, .unset, .unset, .unset, .unset, .unset] [(.int ((2 : Int32) + (p0 &&& (1073741823 : Int32))))])) _
    refine XS.istore X0.here hx rfl (hb hby at_6) rfl (l' := #[.val (.int p0), .val (.int p1), .val (.int p2), .val (.int p3), .val (.int p4), .val (.int p5), .val (.int ((2 : Int32) + (p0 &&& (1073741823 : Int32)))), .unset, .unset, .unset, .unset, .unset, .unset, .unset, .unset, .unset, .unset, .unset, .unset, .unset, .unset, .unset, .unset, .unset, .unset]) rfl ?_
    exact kt)
  obtain ⟨nn, nn_eq⟩ : ∃ z : Int32, z = ((2 : Int32) + (p0 &&& (1073741823 : Int32))) := ⟨_, rfl⟩
  rw [← nn_eq] at pre1
  have hnn : 2 ≤ nn.toInt ∧ nn.toInt ≤ 1073741825 := by rw [nn_eq]; exact own_nn p0
  have hnz : nn ≠ 0 := fun e => by rw [e] at hnn; exact absurd hnn.1 (by decide)
  have hn := hnn.2
  have pre2 : ∀ tg, Steps p.tables e below (s₁.setTop (mkF m 45 #[.val (.int p0), .val (.int p1), .val (.int p2), .val (.int p3), .val (.int p4), .val (.int p5), .val (.int nn), .val (.int ((p1 &&& (2147483647 : Int32)) % nn)), .val (.int ((p2 &&& (2147483647 : Int32)) % nn)), .val (.int ((p3 &&& (2147483647 : Int32)) % nn)), .val (.int ((p4 &&& (2147483647 : Int32)) % nn)), .unset, .unset, .unset, .unset, .unset, .unset, .unset, .unset, .unset, .unset, .unset, .unset, .unset, .unset] [])) tg → G tg := fun tg kt => pre1 tg (by
    show Steps p.tables e below (s₁.setTop (mkF m 8 #[.val (.int p0), .val (.int p1), .val (.int p2), .val (.int p3), .val (.int p4), .val (.int p5), .val (.int nn), .unset, .unset, .unset, .unset, .unset, .unset, .unset, .unset, .unset, .unset, .unset, .unset, .unset, .unset, .unset, .unset, .unset, .unset] [])) _
    refine XS.iloadN X0.here hx rfl (hb hby at_8) rfl ?_
    show Steps p.tables e below (s₁.setTop (mkF m 9 #[.val (.int p0), .val (.int p1), .val (.int p2), .val (.int p3), .val (.int p4), .val (.int p5), .val (.int nn), .unset, .unset, .unset, .unset, .unset, .unset, .unset, .unset, .unset, .unset, .unset, .unset, .unset, .unset, .unset, .unset, .unset, .unset] [(.int p1)])) _
    refine X0.ldcInt hx hown (mvT hZ (hw _ (List.mem_of_getElem? (i := 1) rfl))) (g := (mkF m 9 #[.val (.int p0), .val (.int p1), .val (.int p2), .val (.int p3), .val (.int p4), .val (.int p5), .val (.int nn), .unset, .unset, .unset, .unset, .unset, .unset, .unset, .unset, .unset, .unset, .unset, .unset, .unset, .unset, .unset, .unset, .unset, .unset] [(.int p1)])) rfl (hb hby at_9) _ ?_
    show Steps p.tables e below (s₁.setTop (mkF m 11 #[.val (.int p0), .val (.int p1), .val (.int p2), .val (.int p3), .val (.int p4), .val (.int p5), .val (.int nn), .unset, .unset, .unset, .unset, .unset, .unset, .unset, .unset, .unset, .unset, .unset, .unset, .unset, .unset, .unset, .unset, .unset, .unset] [(.int (2147483647 : Int32)), (.int p1)])) _
    refine XS.iand X0.here hx rfl (hb hby at_11) rfl ?_
    show Steps p.tables e below (s₁.setTop (mkF m 12 #[.val (.int p0), .val (.int p1), .val (.int p2), .val (.int p3), .val (.int p4), .val (.int p5), .val (.int nn), .unset, .unset, .unset, .unset, .unset, .unset, .unset, .unset, .unset, .unset, .unset, .unset, .unset, .unset, .unset, .unset, .unset, .unset] [(.int (p1 &&& (2147483647 : Int32)))])) _
    refine XS.iload X0.here hx rfl (hb hby at_12) rfl ?_
    show Steps p.tables e below (s₁.setTop (mkF m 14 #[.val (.int p0), .val (.int p1), .val (.int p2), .val (.int p3), .val (.int p4), .val (.int p5), .val (.int nn), .unset, .unset, .unset, .unset, .unset, .unset, .unset, .unset, .unset, .unset, .unset, .unset, .unset, .unset, .unset, .unset, .unset, .unset] [(.int nn), (.int (p1 &&& (2147483647 : Int32)))])) _
    refine iremM X0 hx rfl (hb hby at_14) rfl hnz ?_
    show Steps p.tables e below (s₁.setTop (mkF m 15 #[.val (.int p0), .val (.int p1), .val (.int p2), .val (.int p3), .val (.int p4), .val (.int p5), .val (.int nn), .unset, .unset, .unset, .unset, .unset, .unset, .unset, .unset, .unset, .unset, .unset, .unset, .unset, .unset, .unset, .unset, .unset, .unset] [(.int ((p1 &&& (2147483647 : Int32)) % nn))])) _
    refine XS.istore X0.here hx rfl (hb hby at_15) rfl (l' := #[.val (.int p0), .val (.int p1), .val (.int p2), .val (.int p3), .val (.int p4), .val (.int p5), .val (.int nn), .val (.int ((p1 &&& (2147483647 : Int32)) % nn)), .unset, .unset, .unset, .unset, .unset, .unset, .unset, .unset, .unset, .unset, .unset, .unset, .unset, .unset, .unset, .unset, .unset]) rfl ?_
    show Steps p.tables e below (s₁.setTop (mkF m 17 #[.val (.int p0), .val (.int p1), .val (.int p2), .val (.int p3), .val (.int p4), .val (.int p5), .val (.int nn), .val (.int ((p1 &&& (2147483647 : Int32)) % nn)), .unset, .unset, .unset, .unset, .unset, .unset, .unset, .unset, .unset, .unset, .unset, .unset, .unset, .unset, .unset, .unset, .unset] [])) _
    refine XS.iloadN X0.here hx rfl (hb hby at_17) rfl ?_
    show Steps p.tables e below (s₁.setTop (mkF m 18 #[.val (.int p0), .val (.int p1), .val (.int p2), .val (.int p3), .val (.int p4), .val (.int p5), .val (.int nn), .val (.int ((p1 &&& (2147483647 : Int32)) % nn)), .unset, .unset, .unset, .unset, .unset, .unset, .unset, .unset, .unset, .unset, .unset, .unset, .unset, .unset, .unset, .unset, .unset] [(.int p2)])) _
    refine X0.ldcInt hx hown (mvT hZ (hw _ (List.mem_of_getElem? (i := 1) rfl))) (g := (mkF m 18 #[.val (.int p0), .val (.int p1), .val (.int p2), .val (.int p3), .val (.int p4), .val (.int p5), .val (.int nn), .val (.int ((p1 &&& (2147483647 : Int32)) % nn)), .unset, .unset, .unset, .unset, .unset, .unset, .unset, .unset, .unset, .unset, .unset, .unset, .unset, .unset, .unset, .unset, .unset] [(.int p2)])) rfl (hb hby at_18) _ ?_
    show Steps p.tables e below (s₁.setTop (mkF m 20 #[.val (.int p0), .val (.int p1), .val (.int p2), .val (.int p3), .val (.int p4), .val (.int p5), .val (.int nn), .val (.int ((p1 &&& (2147483647 : Int32)) % nn)), .unset, .unset, .unset, .unset, .unset, .unset, .unset, .unset, .unset, .unset, .unset, .unset, .unset, .unset, .unset, .unset, .unset] [(.int (2147483647 : Int32)), (.int p2)])) _
    refine XS.iand X0.here hx rfl (hb hby at_20) rfl ?_
    show Steps p.tables e below (s₁.setTop (mkF m 21 #[.val (.int p0), .val (.int p1), .val (.int p2), .val (.int p3), .val (.int p4), .val (.int p5), .val (.int nn), .val (.int ((p1 &&& (2147483647 : Int32)) % nn)), .unset, .unset, .unset, .unset, .unset, .unset, .unset, .unset, .unset, .unset, .unset, .unset, .unset, .unset, .unset, .unset, .unset] [(.int (p2 &&& (2147483647 : Int32)))])) _
    refine XS.iload X0.here hx rfl (hb hby at_21) rfl ?_
    show Steps p.tables e below (s₁.setTop (mkF m 23 #[.val (.int p0), .val (.int p1), .val (.int p2), .val (.int p3), .val (.int p4), .val (.int p5), .val (.int nn), .val (.int ((p1 &&& (2147483647 : Int32)) % nn)), .unset, .unset, .unset, .unset, .unset, .unset, .unset, .unset, .unset, .unset, .unset, .unset, .unset, .unset, .unset, .unset, .unset] [(.int nn), (.int (p2 &&& (2147483647 : Int32)))])) _
    refine iremM X0 hx rfl (hb hby at_23) rfl hnz ?_
    show Steps p.tables e below (s₁.setTop (mkF m 24 #[.val (.int p0), .val (.int p1), .val (.int p2), .val (.int p3), .val (.int p4), .val (.int p5), .val (.int nn), .val (.int ((p1 &&& (2147483647 : Int32)) % nn)), .unset, .unset, .unset, .unset, .unset, .unset, .unset, .unset, .unset, .unset, .unset, .unset, .unset, .unset, .unset, .unset, .unset] [(.int ((p2 &&& (2147483647 : Int32)) % nn))])) _
    refine XS.istore X0.here hx rfl (hb hby at_24) rfl (l' := #[.val (.int p0), .val (.int p1), .val (.int p2), .val (.int p3), .val (.int p4), .val (.int p5), .val (.int nn), .val (.int ((p1 &&& (2147483647 : Int32)) % nn)), .val (.int ((p2 &&& (2147483647 : Int32)) % nn)), .unset, .unset, .unset, .unset, .unset, .unset, .unset, .unset, .unset, .unset, .unset, .unset, .unset, .unset, .unset, .unset]) rfl ?_
    show Steps p.tables e below (s₁.setTop (mkF m 26 #[.val (.int p0), .val (.int p1), .val (.int p2), .val (.int p3), .val (.int p4), .val (.int p5), .val (.int nn), .val (.int ((p1 &&& (2147483647 : Int32)) % nn)), .val (.int ((p2 &&& (2147483647 : Int32)) % nn)), .unset, .unset, .unset, .unset, .unset, .unset, .unset, .unset, .unset, .unset, .unset, .unset, .unset, .unset, .unset, .unset] [])) _
    refine XS.iloadN X0.here hx rfl (hb hby at_26) rfl ?_
    show Steps p.tables e below (s₁.setTop (mkF m 27 #[.val (.int p0), .val (.int p1), .val (.int p2), .val (.int p3), .val (.int p4), .val (.int p5), .val (.int nn), .val (.int ((p1 &&& (2147483647 : Int32)) % nn)), .val (.int ((p2 &&& (2147483647 : Int32)) % nn)), .unset, .unset, .unset, .unset, .unset, .unset, .unset, .unset, .unset, .unset, .unset, .unset, .unset, .unset, .unset, .unset] [(.int p3)])) _
    refine X0.ldcInt hx hown (mvT hZ (hw _ (List.mem_of_getElem? (i := 1) rfl))) (g := (mkF m 27 #[.val (.int p0), .val (.int p1), .val (.int p2), .val (.int p3), .val (.int p4), .val (.int p5), .val (.int nn), .val (.int ((p1 &&& (2147483647 : Int32)) % nn)), .val (.int ((p2 &&& (2147483647 : Int32)) % nn)), .unset, .unset, .unset, .unset, .unset, .unset, .unset, .unset, .unset, .unset, .unset, .unset, .unset, .unset, .unset, .unset] [(.int p3)])) rfl (hb hby at_27) _ ?_
    show Steps p.tables e below (s₁.setTop (mkF m 29 #[.val (.int p0), .val (.int p1), .val (.int p2), .val (.int p3), .val (.int p4), .val (.int p5), .val (.int nn), .val (.int ((p1 &&& (2147483647 : Int32)) % nn)), .val (.int ((p2 &&& (2147483647 : Int32)) % nn)), .unset, .unset, .unset, .unset, .unset, .unset, .unset, .unset, .unset, .unset, .unset, .unset, .unset, .unset, .unset, .unset] [(.int (2147483647 : Int32)), (.int p3)])) _
    refine XS.iand X0.here hx rfl (hb hby at_29) rfl ?_
    show Steps p.tables e below (s₁.setTop (mkF m 30 #[.val (.int p0), .val (.int p1), .val (.int p2), .val (.int p3), .val (.int p4), .val (.int p5), .val (.int nn), .val (.int ((p1 &&& (2147483647 : Int32)) % nn)), .val (.int ((p2 &&& (2147483647 : Int32)) % nn)), .unset, .unset, .unset, .unset, .unset, .unset, .unset, .unset, .unset, .unset, .unset, .unset, .unset, .unset, .unset, .unset] [(.int (p3 &&& (2147483647 : Int32)))])) _
    refine XS.iload X0.here hx rfl (hb hby at_30) rfl ?_
    show Steps p.tables e below (s₁.setTop (mkF m 32 #[.val (.int p0), .val (.int p1), .val (.int p2), .val (.int p3), .val (.int p4), .val (.int p5), .val (.int nn), .val (.int ((p1 &&& (2147483647 : Int32)) % nn)), .val (.int ((p2 &&& (2147483647 : Int32)) % nn)), .unset, .unset, .unset, .unset, .unset, .unset, .unset, .unset, .unset, .unset, .unset, .unset, .unset, .unset, .unset, .unset] [(.int nn), (.int (p3 &&& (2147483647 : Int32)))])) _
    refine iremM X0 hx rfl (hb hby at_32) rfl hnz ?_
    show Steps p.tables e below (s₁.setTop (mkF m 33 #[.val (.int p0), .val (.int p1), .val (.int p2), .val (.int p3), .val (.int p4), .val (.int p5), .val (.int nn), .val (.int ((p1 &&& (2147483647 : Int32)) % nn)), .val (.int ((p2 &&& (2147483647 : Int32)) % nn)), .unset, .unset, .unset, .unset, .unset, .unset, .unset, .unset, .unset, .unset, .unset, .unset, .unset, .unset, .unset, .unset] [(.int ((p3 &&& (2147483647 : Int32)) % nn))])) _
    refine XS.istore X0.here hx rfl (hb hby at_33) rfl (l' := #[.val (.int p0), .val (.int p1), .val (.int p2), .val (.int p3), .val (.int p4), .val (.int p5), .val (.int nn), .val (.int ((p1 &&& (2147483647 : Int32)) % nn)), .val (.int ((p2 &&& (2147483647 : Int32)) % nn)), .val (.int ((p3 &&& (2147483647 : Int32)) % nn)), .unset, .unset, .unset, .unset, .unset, .unset, .unset, .unset, .unset, .unset, .unset, .unset, .unset, .unset, .unset]) rfl ?_
    show Steps p.tables e below (s₁.setTop (mkF m 35 #[.val (.int p0), .val (.int p1), .val (.int p2), .val (.int p3), .val (.int p4), .val (.int p5), .val (.int nn), .val (.int ((p1 &&& (2147483647 : Int32)) % nn)), .val (.int ((p2 &&& (2147483647 : Int32)) % nn)), .val (.int ((p3 &&& (2147483647 : Int32)) % nn)), .unset, .unset, .unset, .unset, .unset, .unset, .unset, .unset, .unset, .unset, .unset, .unset, .unset, .unset, .unset] [])) _
    refine XS.iload X0.here hx rfl (hb hby at_35) rfl ?_
    show Steps p.tables e below (s₁.setTop (mkF m 37 #[.val (.int p0), .val (.int p1), .val (.int p2), .val (.int p3), .val (.int p4), .val (.int p5), .val (.int nn), .val (.int ((p1 &&& (2147483647 : Int32)) % nn)), .val (.int ((p2 &&& (2147483647 : Int32)) % nn)), .val (.int ((p3 &&& (2147483647 : Int32)) % nn)), .unset, .unset, .unset, .unset, .unset, .unset, .unset, .unset, .unset, .unset, .unset, .unset, .unset, .unset, .unset] [(.int p4)])) _
    refine X0.ldcInt hx hown (mvT hZ (hw _ (List.mem_of_getElem? (i := 1) rfl))) (g := (mkF m 37 #[.val (.int p0), .val (.int p1), .val (.int p2), .val (.int p3), .val (.int p4), .val (.int p5), .val (.int nn), .val (.int ((p1 &&& (2147483647 : Int32)) % nn)), .val (.int ((p2 &&& (2147483647 : Int32)) % nn)), .val (.int ((p3 &&& (2147483647 : Int32)) % nn)), .unset, .unset, .unset, .unset, .unset, .unset, .unset, .unset, .unset, .unset, .unset, .unset, .unset, .unset, .unset] [(.int p4)])) rfl (hb hby at_37) _ ?_
    show Steps p.tables e below (s₁.setTop (mkF m 39 #[.val (.int p0), .val (.int p1), .val (.int p2), .val (.int p3), .val (.int p4), .val (.int p5), .val (.int nn), .val (.int ((p1 &&& (2147483647 : Int32)) % nn)), .val (.int ((p2 &&& (2147483647 : Int32)) % nn)), .val (.int ((p3 &&& (2147483647 : Int32)) % nn)), .unset, .unset, .unset, .unset, .unset, .unset, .unset, .unset, .unset, .unset, .unset, .unset, .unset, .unset, .unset] [(.int (2147483647 : Int32)), (.int p4)])) _
    refine XS.iand X0.here hx rfl (hb hby at_39) rfl ?_
    show Steps p.tables e below (s₁.setTop (mkF m 40 #[.val (.int p0), .val (.int p1), .val (.int p2), .val (.int p3), .val (.int p4), .val (.int p5), .val (.int nn), .val (.int ((p1 &&& (2147483647 : Int32)) % nn)), .val (.int ((p2 &&& (2147483647 : Int32)) % nn)), .val (.int ((p3 &&& (2147483647 : Int32)) % nn)), .unset, .unset, .unset, .unset, .unset, .unset, .unset, .unset, .unset, .unset, .unset, .unset, .unset, .unset, .unset] [(.int (p4 &&& (2147483647 : Int32)))])) _
    refine XS.iload X0.here hx rfl (hb hby at_40) rfl ?_
    show Steps p.tables e below (s₁.setTop (mkF m 42 #[.val (.int p0), .val (.int p1), .val (.int p2), .val (.int p3), .val (.int p4), .val (.int p5), .val (.int nn), .val (.int ((p1 &&& (2147483647 : Int32)) % nn)), .val (.int ((p2 &&& (2147483647 : Int32)) % nn)), .val (.int ((p3 &&& (2147483647 : Int32)) % nn)), .unset, .unset, .unset, .unset, .unset, .unset, .unset, .unset, .unset, .unset, .unset, .unset, .unset, .unset, .unset] [(.int nn), (.int (p4 &&& (2147483647 : Int32)))])) _
    refine iremM X0 hx rfl (hb hby at_42) rfl hnz ?_
    show Steps p.tables e below (s₁.setTop (mkF m 43 #[.val (.int p0), .val (.int p1), .val (.int p2), .val (.int p3), .val (.int p4), .val (.int p5), .val (.int nn), .val (.int ((p1 &&& (2147483647 : Int32)) % nn)), .val (.int ((p2 &&& (2147483647 : Int32)) % nn)), .val (.int ((p3 &&& (2147483647 : Int32)) % nn)), .unset, .unset, .unset, .unset, .unset, .unset, .unset, .unset, .unset, .unset, .unset, .unset, .unset, .unset, .unset] [(.int ((p4 &&& (2147483647 : Int32)) % nn))])) _
    refine XS.istore X0.here hx rfl (hb hby at_43) rfl (l' := #[.val (.int p0), .val (.int p1), .val (.int p2), .val (.int p3), .val (.int p4), .val (.int p5), .val (.int nn), .val (.int ((p1 &&& (2147483647 : Int32)) % nn)), .val (.int ((p2 &&& (2147483647 : Int32)) % nn)), .val (.int ((p3 &&& (2147483647 : Int32)) % nn)), .val (.int ((p4 &&& (2147483647 : Int32)) % nn)), .unset, .unset, .unset, .unset, .unset, .unset, .unset, .unset, .unset, .unset, .unset, .unset, .unset, .unset]) rfl ?_
    exact kt)
  obtain ⟨va, va_eq⟩ : ∃ z : Int32, z = ((p1 &&& (2147483647 : Int32)) % nn) := ⟨_, rfl⟩
  rw [← va_eq] at pre2
  have iva : own_in nn va := by rw [va_eq]; exact own_rem p1 (by omega)
  obtain ⟨vb, vb_eq⟩ : ∃ z : Int32, z = ((p2 &&& (2147483647 : Int32)) % nn) := ⟨_, rfl⟩
  rw [← vb_eq] at pre2
  have ivb : own_in nn vb := by rw [vb_eq]; exact own_rem p2 (by omega)
  obtain ⟨vc0, vc0_eq⟩ : ∃ z : Int32, z = ((p3 &&& (2147483647 : Int32)) % nn) := ⟨_, rfl⟩
  rw [← vc0_eq] at pre2
  have ivc0 : own_in nn vc0 := by rw [vc0_eq]; exact own_rem p3 (by omega)
  obtain ⟨vd0, vd0_eq⟩ : ∃ z : Int32, z = ((p4 &&& (2147483647 : Int32)) % nn) := ⟨_, rfl⟩
  rw [← vd0_eq] at pre2
  have ivd0 : own_in nn vd0 := by rw [vd0_eq]; exact own_rem p4 (by omega)
  have pre3 : ∀ tg, Steps p.tables e below (s₁.setTop (mkF m 50 #[.val (.int p0), .val (.int p1), .val (.int p2), .val (.int p3), .val (.int p4), .val (.int p5), .val (.int nn), .val (.int va), .val (.int vb), .val (.int vc0), .val (.int vd0), .unset, .unset, .unset, .unset, .unset, .unset, .unset, .unset, .unset, .unset, .unset, .unset, .unset, .unset] [(.int (p5 &&& (32 : Int32)))])) tg → G tg := fun tg kt => pre2 tg (by
    show Steps p.tables e below (s₁.setTop (mkF m 45 #[.val (.int p0), .val (.int p1), .val (.int p2), .val (.int p3), .val (.int p4), .val (.int p5), .val (.int nn), .val (.int va), .val (.int vb), .val (.int vc0), .val (.int vd0), .unset, .unset, .unset, .unset, .unset, .unset, .unset, .unset, .unset, .unset, .unset, .unset, .unset, .unset] [])) _
    refine XS.iload X0.here hx rfl (hb hby at_45) rfl ?_
    show Steps p.tables e below (s₁.setTop (mkF m 47 #[.val (.int p0), .val (.int p1), .val (.int p2), .val (.int p3), .val (.int p4), .val (.int p5), .val (.int nn), .val (.int va), .val (.int vb), .val (.int vc0), .val (.int vd0), .unset, .unset, .unset, .unset, .unset, .unset, .unset, .unset, .unset, .unset, .unset, .unset, .unset, .unset] [(.int p5)])) _
    refine XS.bipush X0.here hx rfl (hb hby at_47) ?_
    show Steps p.tables e below (s₁.setTop (mkF m 49 #[.val (.int p0), .val (.int p1), .val (.int p2), .val (.int p3), .val (.int p4), .val (.int p5), .val (.int nn), .val (.int va), .val (.int vb), .val (.int vc0), .val (.int vd0), .unset, .unset, .unset, .unset, .unset, .unset, .unset, .unset, .unset, .unset, .unset, .unset, .unset, .unset] [(.int (32 : Int32)), (.int p5)])) _
    refine XS.iand X0.here hx rfl (hb hby at_49) rfl ?_
    exact kt)
  have pre4 : ∀ tg, Steps p.tables e below (s₁.setTop (mkF m 61 #[.val (.int p0), .val (.int p1), .val (.int p2), .val (.int p3), .val (.int p4), .val (.int p5), .val (.int nn), .val (.int va), .val (.int vb), .val (.int (if (p5 &&& (32 : Int32)) = (0 : Int32) then vc0 else va)), .val (.int (if (p5 &&& (32 : Int32)) = (0 : Int32) then vd0 else vb)), .unset, .unset, .unset, .unset, .unset, .unset, .unset, .unset, .unset, .unset, .unset, .unset, .unset, .unset] [])) tg → G tg := by
    intro tg kt
    refine pre3 tg ?_
    by_cases hm50_0 : (p5 &&& (32 : Int32)) = (0 : Int32)
    · try simp only [if_pos hm50_0] at kt
      show Steps p.tables e below (s₁.setTop (mkF m 50 #[.val (.int p0), .val (.int p1), .val (.int p2), .val (.int p3), .val (.int p4), .val (.int p5), .val (.int nn), .val (.int va), .val (.int vb), .val (.int vc0), .val (.int vd0), .unset, .unset, .unset, .unset, .unset, .unset, .unset, .unset, .unset, .unset, .unset, .unset, .unset, .unset] [(.int (p5 &&& (32 : Int32)))])) _
      refine XS.ifYes X0.here hx rfl (pc0 := 50) (pc' := 61) rfl (hb hby at_50) rfl ((if0 _ _).trans (teq hm50_0).1) (by decide) (by decide) ?_
      exact kt
    · try simp only [if_neg hm50_0] at kt
      show Steps p.tables e below (s₁.setTop (mkF m 50 #[.val (.int p0), .val (.int p1), .val (.int p2), .val (.int p3), .val (.int p4), .val (.int p5), .val (.int nn), .val (.int va), .val (.int vb), .val (.int vc0), .val (.int vd0), .unset, .unset, .unset, .unset, .unset, .unset, .unset, .unset, .unset, .unset, .unset, .unset, .unset, .unset] [(.int (p5 &&& (32 : Int32)))])) _
      refine XS.ifNo X0.here hx rfl (hb hby at_50) rfl ((if0 _ _).trans (feq hm50_0).1) ?_
      show Steps p.tables e below (s₁.setTop (mkF m 53 #[.val (.int p0), .val (.int p1), .val (.int p2), .val (.int p3), .val (.int p4), .val (.int p5), .val (.int nn), .val (.int va), .val (.int vb), .val (.int vc0), .val (.int vd0), .unset, .unset, .unset, .unset, .unset, .unset, .unset, .unset, .unset, .unset, .unset, .unset, .unset, .unset] [])) _
      refine XS.iload X0.here hx rfl (hb hby at_53) rfl ?_
      show Steps p.tables e below (s₁.setTop (mkF m 55 #[.val (.int p0), .val (.int p1), .val (.int p2), .val (.int p3), .val (.int p4), .val (.int p5), .val (.int nn), .val (.int va), .val (.int vb), .val (.int vc0), .val (.int vd0), .unset, .unset, .unset, .unset, .unset, .unset, .unset, .unset, .unset, .unset, .unset, .unset, .unset, .unset] [(.int va)])) _
      refine XS.istore X0.here hx rfl (hb hby at_55) rfl (l' := #[.val (.int p0), .val (.int p1), .val (.int p2), .val (.int p3), .val (.int p4), .val (.int p5), .val (.int nn), .val (.int va), .val (.int vb), .val (.int va), .val (.int vd0), .unset, .unset, .unset, .unset, .unset, .unset, .unset, .unset, .unset, .unset, .unset, .unset, .unset, .unset]) rfl ?_
      show Steps p.tables e below (s₁.setTop (mkF m 57 #[.val (.int p0), .val (.int p1), .val (.int p2), .val (.int p3), .val (.int p4), .val (.int p5), .val (.int nn), .val (.int va), .val (.int vb), .val (.int va), .val (.int vd0), .unset, .unset, .unset, .unset, .unset, .unset, .unset, .unset, .unset, .unset, .unset, .unset, .unset, .unset] [])) _
      refine XS.iload X0.here hx rfl (hb hby at_57) rfl ?_
      show Steps p.tables e below (s₁.setTop (mkF m 59 #[.val (.int p0), .val (.int p1), .val (.int p2), .val (.int p3), .val (.int p4), .val (.int p5), .val (.int nn), .val (.int va), .val (.int vb), .val (.int va), .val (.int vd0), .unset, .unset, .unset, .unset, .unset, .unset, .unset, .unset, .unset, .unset, .unset, .unset, .unset, .unset] [(.int vb)])) _
      refine XS.istore X0.here hx rfl (hb hby at_59) rfl (l' := #[.val (.int p0), .val (.int p1), .val (.int p2), .val (.int p3), .val (.int p4), .val (.int p5), .val (.int nn), .val (.int va), .val (.int vb), .val (.int va), .val (.int vb), .unset, .unset, .unset, .unset, .unset, .unset, .unset, .unset, .unset, .unset, .unset, .unset, .unset, .unset]) rfl ?_
      exact kt
  obtain ⟨vc, vc_eq⟩ : ∃ z : Int32, z = (if (p5 &&& (32 : Int32)) = (0 : Int32) then vc0 else va) := ⟨_, rfl⟩
  rw [← vc_eq] at pre4
  obtain ⟨vd, vd_eq⟩ : ∃ z : Int32, z = (if (p5 &&& (32 : Int32)) = (0 : Int32) then vd0 else vb) := ⟨_, rfl⟩
  rw [← vd_eq] at pre4
  have ivc : own_in nn vc := by rw [vc_eq]; split <;> assumption
  have ivd : own_in nn vd := by rw [vd_eq]; split <;> assumption
  have pre5 : ∀ tg, Steps p.tables e below (s₁.setTop (mkF m 65 #[.val (.int p0), .val (.int p1), .val (.int p2), .val (.int p3), .val (.int p4), .val (.int p5), .val (.int nn), .val (.int va), .val (.int vb), .val (.int vc), .val (.int vd), .unset, .unset, .unset, .unset, .unset, .unset, .unset, .unset, .unset, .unset, .unset, .unset, .unset, .unset] [(.int vb), (.int va)])) tg → G tg := fun tg kt => pre4 tg (by
    show Steps p.tables e below (s₁.setTop (mkF m 61 #[.val (.int p0), .val (.int p1), .val (.int p2), .val (.int p3), .val (.int p4), .val (.int p5), .val (.int nn), .val (.int va), .val (.int vb), .val (.int vc), .val (.int vd), .unset, .unset, .unset, .unset, .unset, .unset, .unset, .unset, .unset, .unset, .unset, .unset, .unset, .unset] [])) _
    refine XS.iload X0.here hx rfl (hb hby at_61) rfl ?_
    show Steps p.tables e below (s₁.setTop (mkF m 63 #[.val (.int p0), .val (.int p1), .val (.int p2), .val (.int p3), .val (.int p4), .val (.int p5), .val (.int nn), .val (.int va), .val (.int vb), .val (.int vc), .val (.int vd), .unset, .unset, .unset, .unset, .unset, .unset, .unset, .unset, .unset, .unset, .unset, .unset, .unset, .unset] [(.int va)])) _
    refine XS.iload X0.here hx rfl (hb hby at_63) rfl ?_
    exact kt)
  by_cases hab : va = vb
  · -- hab
    have pre6 : ∀ tg, Steps p.tables e below (s₁.setTop (mkF m 79 #[.val (.int p0), .val (.int p1), .val (.int p2), .val (.int p3), .val (.int p4), .val (.int p5), .val (.int nn), .val (.int va), .val (.int vb), .val (.int vc), .val (.int vd), .val (.int (0 : Int32)), .unset, .unset, .unset, .unset, .unset, .unset, .unset, .unset, .unset, .unset, .unset, .unset, .unset] [(.int vd), (.int vc)])) tg → G tg := fun tg kt => pre5 tg (by
      show Steps p.tables e below (s₁.setTop (mkF m 65 #[.val (.int p0), .val (.int p1), .val (.int p2), .val (.int p3), .val (.int p4), .val (.int p5), .val (.int nn), .val (.int va), .val (.int vb), .val (.int vc), .val (.int vd), .unset, .unset, .unset, .unset, .unset, .unset, .unset, .unset, .unset, .unset, .unset, .unset, .unset, .unset] [(.int vb), (.int va)])) _
      refine XS.icmpYes X0.here hx rfl (pc0 := 65) (pc' := 72) rfl (hb hby at_65) rfl (teq hab).1 (by decide) (by decide) ?_
      show Steps p.tables e below (s₁.setTop (mkF m 72 #[.val (.int p0), .val (.int p1), .val (.int p2), .val (.int p3), .val (.int p4), .val (.int p5), .val (.int nn), .val (.int va), .val (.int vb), .val (.int vc), .val (.int vd), .unset, .unset, .unset, .unset, .unset, .unset, .unset, .unset, .unset, .unset, .unset, .unset, .unset, .unset] [])) _
      refine XS.iconst X0.here hx rfl (hb hby at_72) ?_
      show Steps p.tables e below (s₁.setTop (mkF m 73 #[.val (.int p0), .val (.int p1), .val (.int p2), .val (.int p3), .val (.int p4), .val (.int p5), .val (.int nn), .val (.int va), .val (.int vb), .val (.int vc), .val (.int vd), .unset, .unset, .unset, .unset, .unset, .unset, .unset, .unset, .unset, .unset, .unset, .unset, .unset, .unset] [(.int (0 : Int32))])) _
      refine XS.istore X0.here hx rfl (hb hby at_73) rfl (l' := #[.val (.int p0), .val (.int p1), .val (.int p2), .val (.int p3), .val (.int p4), .val (.int p5), .val (.int nn), .val (.int va), .val (.int vb), .val (.int vc), .val (.int vd), .val (.int (0 : Int32)), .unset, .unset, .unset, .unset, .unset, .unset, .unset, .unset, .unset, .unset, .unset, .unset, .unset]) rfl ?_
      show Steps p.tables e below (s₁.setTop (mkF m 75 #[.val (.int p0), .val (.int p1), .val (.int p2), .val (.int p3), .val (.int p4), .val (.int p5), .val (.int nn), .val (.int va), .val (.int vb), .val (.int vc), .val (.int vd), .val (.int (0 : Int32)), .unset, .unset, .unset, .unset, .unset, .unset, .unset, .unset, .unset, .unset, .unset, .unset, .unset] [])) _
      refine XS.iload X0.here hx rfl (hb hby at_75) rfl ?_
      show Steps p.tables e below (s₁.setTop (mkF m 77 #[.val (.int p0), .val (.int p1), .val (.int p2), .val (.int p3), .val (.int p4), .val (.int p5), .val (.int nn), .val (.int va), .val (.int vb), .val (.int vc), .val (.int vd), .val (.int (0 : Int32)), .unset, .unset, .unset, .unset, .unset, .unset, .unset, .unset, .unset, .unset, .unset, .unset, .unset] [(.int vc)])) _
      refine XS.iload X0.here hx rfl (hb hby at_77) rfl ?_
      exact kt)
    by_cases hcd : vc = vd
    · -- hcd
      have pre7 : ∀ tg, Steps p.tables e below (s₁.setTop (mkF m 109 #[.val (.int p0), .val (.int p1), .val (.int p2), .val (.int p3), .val (.int p4), .val (.int p5), .val (.int nn), .val (.int va), .val (.int vb), .val (.int vc), .val (.int vd), .val (.int (0 : Int32)), .val (.int (0 : Int32)), .val (.int (0 : Int32)), .unset, .unset, .unset, .unset, .unset, .unset, .unset, .unset, .unset, .unset, .unset] [])) tg → G tg := fun tg kt => pre6 tg (by
        show Steps p.tables e below (s₁.setTop (mkF m 79 #[.val (.int p0), .val (.int p1), .val (.int p2), .val (.int p3), .val (.int p4), .val (.int p5), .val (.int nn), .val (.int va), .val (.int vb), .val (.int vc), .val (.int vd), .val (.int (0 : Int32)), .unset, .unset, .unset, .unset, .unset, .unset, .unset, .unset, .unset, .unset, .unset, .unset, .unset] [(.int vd), (.int vc)])) _
        refine XS.icmpYes X0.here hx rfl (pc0 := 79) (pc' := 86) rfl (hb hby at_79) rfl (teq hcd).1 (by decide) (by decide) ?_
        show Steps p.tables e below (s₁.setTop (mkF m 86 #[.val (.int p0), .val (.int p1), .val (.int p2), .val (.int p3), .val (.int p4), .val (.int p5), .val (.int nn), .val (.int va), .val (.int vb), .val (.int vc), .val (.int vd), .val (.int (0 : Int32)), .unset, .unset, .unset, .unset, .unset, .unset, .unset, .unset, .unset, .unset, .unset, .unset, .unset] [])) _
        refine XS.iconst X0.here hx rfl (hb hby at_86) ?_
        show Steps p.tables e below (s₁.setTop (mkF m 87 #[.val (.int p0), .val (.int p1), .val (.int p2), .val (.int p3), .val (.int p4), .val (.int p5), .val (.int nn), .val (.int va), .val (.int vb), .val (.int vc), .val (.int vd), .val (.int (0 : Int32)), .unset, .unset, .unset, .unset, .unset, .unset, .unset, .unset, .unset, .unset, .unset, .unset, .unset] [(.int (0 : Int32))])) _
        refine XS.istore X0.here hx rfl (hb hby at_87) rfl (l' := #[.val (.int p0), .val (.int p1), .val (.int p2), .val (.int p3), .val (.int p4), .val (.int p5), .val (.int nn), .val (.int va), .val (.int vb), .val (.int vc), .val (.int vd), .val (.int (0 : Int32)), .val (.int (0 : Int32)), .unset, .unset, .unset, .unset, .unset, .unset, .unset, .unset, .unset, .unset, .unset, .unset]) rfl ?_
        show Steps p.tables e below (s₁.setTop (mkF m 89 #[.val (.int p0), .val (.int p1), .val (.int p2), .val (.int p3), .val (.int p4), .val (.int p5), .val (.int nn), .val (.int va), .val (.int vb), .val (.int vc), .val (.int vd), .val (.int (0 : Int32)), .val (.int (0 : Int32)), .unset, .unset, .unset, .unset, .unset, .unset, .unset, .unset, .unset, .unset, .unset, .unset] [])) _
        refine XS.iload X0.here hx rfl (hb hby at_89) rfl ?_
        show Steps p.tables e below (s₁.setTop (mkF m 91 #[.val (.int p0), .val (.int p1), .val (.int p2), .val (.int p3), .val (.int p4), .val (.int p5), .val (.int nn), .val (.int va), .val (.int vb), .val (.int vc), .val (.int vd), .val (.int (0 : Int32)), .val (.int (0 : Int32)), .unset, .unset, .unset, .unset, .unset, .unset, .unset, .unset, .unset, .unset, .unset, .unset] [(.int (0 : Int32))])) _
        refine XS.ifYes X0.here hx rfl (pc0 := 91) (pc' := 106) rfl (hb hby at_91) rfl ((if0 _ _).trans (teq (by decide : (0 : Int32) = (0 : Int32))).1) (by decide) (by decide) ?_
        show Steps p.tables e below (s₁.setTop (mkF m 106 #[.val (.int p0), .val (.int p1), .val (.int p2), .val (.int p3), .val (.int p4), .val (.int p5), .val (.int nn), .val (.int va), .val (.int vb), .val (.int vc), .val (.int vd), .val (.int (0 : Int32)), .val (.int (0 : Int32)), .unset, .unset, .unset, .unset, .unset, .unset, .unset, .unset, .unset, .unset, .unset, .unset] [])) _
        refine XS.iconst X0.here hx rfl (hb hby at_106) ?_
        show Steps p.tables e below (s₁.setTop (mkF m 107 #[.val (.int p0), .val (.int p1), .val (.int p2), .val (.int p3), .val (.int p4), .val (.int p5), .val (.int nn), .val (.int va), .val (.int vb), .val (.int vc), .val (.int vd), .val (.int (0 : Int32)), .val (.int (0 : Int32)), .unset, .unset, .unset, .unset, .unset, .unset, .unset, .unset, .unset, .unset, .unset, .unset] [(.int (0 : Int32))])) _
        refine XS.istore X0.here hx rfl (hb hby at_107) rfl (l' := #[.val (.int p0), .val (.int p1), .val (.int p2), .val (.int p3), .val (.int p4), .val (.int p5), .val (.int nn), .val (.int va), .val (.int vb), .val (.int vc), .val (.int vd), .val (.int (0 : Int32)), .val (.int (0 : Int32)), .val (.int (0 : Int32)), .unset, .unset, .unset, .unset, .unset, .unset, .unset, .unset, .unset, .unset, .unset]) rfl ?_
        exact kt)
      obtain ⟨T8, h8, X8, e8, E8, A8, D8, -, st8⟩ := newO X0 hx hZ hown (hw _ (List.mem_of_getElem? (i := 2) rfl)) (hw _ (List.mem_of_getElem? (i := 3) rfl)) (hw _ (List.mem_of_getElem? (i := 4) rfl)) e0 (g := (mkF m 109 #[.val (.int p0), .val (.int p1), .val (.int p2), .val (.int p3), .val (.int p4), .val (.int p5), .val (.int nn), .val (.int va), .val (.int vb), .val (.int vc), .val (.int vd), .val (.int (0 : Int32)), .val (.int (0 : Int32)), .val (.int (0 : Int32)), .unset, .unset, .unset, .unset, .unset, .unset, .unset, .unset, .unset, .unset, .unset] [])) rfl (hb hby at_109) (by decide) (by decide)
      obtain ⟨b, g8⟩ : ∃ z, z = h0.size := ⟨_, rfl⟩
      rw [← g8] at A8 D8 st8
      have O_b : n0 ≤ b := Nat.le_trans Z0 (Nat.le_of_eq g8.symm)
      have Z8 : n0 ≤ h8.size := Nat.le_trans Z0 E8.1
      have pre8s : ∀ tg, Steps p.tables e below (T8.setTop (mkF m 112 #[.val (.int p0), .val (.int p1), .val (.int p2), .val (.int p3), .val (.int p4), .val (.int p5), .val (.int nn), .val (.int va), .val (.int vb), .val (.int vc), .val (.int vd), .val (.int (0 : Int32)), .val (.int (0 : Int32)), .val (.int (0 : Int32)), .unset, .unset, .unset, .unset, .unset, .unset, .unset, .unset, .unset, .unset, .unset] [(.ref b)])) tg → G tg := fun tg kt => pre7 tg (st8 tg kt)
      have Fnodes_b : Fld Z h8 b "com/example/convene/convene/PairCounts" "nodes" "I" (.int (0 : Int32)) := D8 (Or.inr (hw _ (List.mem_of_getElem? (i := 12) rfl))) (ty := .int) (by decide)
      have Fbits_b : Fld Z h8 b "com/example/convene/convene/PairCounts" "bits" "I" (.int (0 : Int32)) := D8 (Or.inl (hw _ (List.mem_of_getElem? (i := 14) rfl))) (ty := .int) (by decide)
      have Fkeys_b : Fld Z h8 b "com/example/convene/convene/PairCounts" "keys" "[J" .null := D8 (Or.inl (hw _ (List.mem_of_getElem? (i := 17) rfl))) (ty := (.array .long)) (by decide)
      have Fcounts_b : Fld Z h8 b "com/example/convene/convene/PairCounts" "counts" "[J" .null := D8 (Or.inl (hw _ (List.mem_of_getElem? (i := 19) rfl))) (ty := (.array .long)) (by decide)
      have Fpairs_b : Fld Z h8 b "com/example/convene/convene/PairCounts" "pairs" "I" (.int (0 : Int32)) := D8 (Or.inl (hw _ (List.mem_of_getElem? (i := 42) rfl))) (ty := .int) (by decide)
      have pre9 : ∀ tg, Steps p.tables e below (T8.setTop (mkF m 115 #[.val (.int p0), .val (.int p1), .val (.int p2), .val (.int p3), .val (.int p4), .val (.int p5), .val (.int nn), .val (.int va), .val (.int vb), .val (.int vc), .val (.int vd), .val (.int (0 : Int32)), .val (.int (0 : Int32)), .val (.int (0 : Int32)), .unset, .unset, .unset, .unset, .unset, .unset, .unset, .unset, .unset, .unset, .unset] [(.int nn), (.ref b), (.ref b)])) tg → G tg := fun tg kt => pre8s tg (by
        show Steps p.tables e below (T8.setTop (mkF m 112 #[.val (.int p0), .val (.int p1), .val (.int p2), .val (.int p3), .val (.int p4), .val (.int p5), .val (.int nn), .val (.int va), .val (.int vb), .val (.int vc), .val (.int vd), .val (.int (0 : Int32)), .val (.int (0 : Int32)), .val (.int (0 : Int32)), .unset, .unset, .unset, .unset, .unset, .unset, .unset, .unset, .unset, .unset, .unset] [(.ref b)])) _
        refine XS.dup X8.here hx rfl (hb hby at_112) rfl rfl ?_
        show Steps p.tables e below (T8.setTop (mkF m 113 #[.val (.int p0), .val (.int p1), .val (.int p2), .val (.int p3), .val (.int p4), .val (.int p5), .val (.int nn), .val (.int va), .val (.int vb), .val (.int vc), .val (.int vd), .val (.int (0 : Int32)), .val (.int (0 : Int32)), .val (.int (0 : Int32)), .unset, .unset, .unset, .unset, .unset, .unset, .unset, .unset, .unset, .unset, .unset] [(.ref b), (.ref b)])) _
        refine XS.iload X8.here hx rfl (hb hby at_113) rfl ?_
        exact kt)
      obtain ⟨_, _, ⟨T10, L10, k10, n10⟩, -, X10, ⟨Lc10, hQ10, l10, y10, z10⟩, st10⟩ := X8.specialBack hx (y := (⟨"com/example/convene/convene/PairCounts", "<init>", "(I)V"⟩ : MethodName)) rfl hown (mvT hZ (hw _ (List.mem_of_getElem? (i := 5) rfl))) (mvT hZ (hw _ (List.mem_of_getElem? (i := 6) rfl))) (mvT hZ (hw _ (List.mem_of_getElem? (i := 7) rfl))) (by decide) (backOf (W := 1) (rm1 l Z a0 hw [] b nn h8 n0 Z8 A8 Fnodes_b Fbits_b Fkeys_b Fcounts_b Fpairs_b O_b) hZ (hw _ (List.mem_of_getElem? (i := 7) rfl)) (hw _ (List.mem_of_getElem? (i := 4) rfl)) (by decide) (by decide)) (g := (mkF m 115 #[.val (.int p0), .val (.int p1), .val (.int p2), .val (.int p3), .val (.int p4), .val (.int p5), .val (.int nn), .val (.int va), .val (.int vb), .val (.int vc), .val (.int vd), .val (.int (0 : Int32)), .val (.int (0 : Int32)), .val (.int (0 : Int32)), .unset, .unset, .unset, .unset, .unset, .unset, .unset, .unset, .unset, .unset, .unset] [(.int nn), (.ref b), (.ref b)])) rfl (by rw [hml]; rfl) (Steps.refl _) (a := b) (argsL := [(.int nn)]) (rest := [(.ref b)]) (lenOf pd_5 rfl) rfl (by show 2 * 0 + _ ≤ _; exact Nat.le_of_eq rfl) (hb hby at_115) (fun _ _ => ⟨rfl, e8, (Nat.le_of_ble_eq_true rfl), (Nat.le_of_ble_eq_true rfl)⟩)
      dsimp only [Pt.U, Pt.locs, Pt.cells, Pt.slots] at X10 l10 y10 z10 st10 hQ10
      subst l10 y10 z10
      obtain ⟨rfl, N10q, K10, kb, cb, kA, kC, O_kb, O_cb, ne1, ne2, ne3, Fnodes10, Fbits10, Fkeys10, Fcounts10, Fpairs10, Ak10, Ac10⟩ := hQ10
      have N10 := Fr.app N0 N10q
      have pre10s : ∀ tg, Steps p.tables e below (T10.setTop (mkF m 118 #[.val (.int p0), .val (.int p1), .val (.int p2), .val (.int p3), .val (.int p4), .val (.int p5), .val (.int nn), .val (.int va), .val (.int vb), .val (.int vc), .val (.int vd), .val (.int (0 : Int32)), .val (.int (0 : Int32)), .val (.int (0 : Int32)), .unset, .unset, .unset, .unset, .unset, .unset, .unset, .unset, .unset, .unset, .unset] [(.ref b)])) tg → G tg := fun tg kt => pre9 tg (st10.trans kt)
      have Z10 : n0 ≤ T10.heap.size := Nat.le_trans Z8 K10.1
      have A8_11 := A8.keep K10
      have pre12 : ∀ tg, Steps p.tables e below (T10.setTop (mkF m 162 #[.val (.int p0), .val (.int p1), .val (.int p2), .val (.int p3), .val (.int p4), .val (.int p5), .val (.int nn), .val (.int va), .val (.int vb), .val (.int vc), .val (.int vd), .val (.int (0 : Int32)), .val (.int (0 : Int32)), .val (.int (0 : Int32)), .val (.ref b), .unset, .unset, .unset, .unset, .unset, .unset, .unset, .unset, .unset, .unset] [])) tg → G tg := fun tg kt => pre10s tg (by
        show Steps p.tables e below (T10.setTop (mkF m 118 #[.val (.int p0), .val (.int p1), .val (.int p2), .val (.int p3), .val (.int p4), .val (.int p5), .val (.int nn), .val (.int va), .val (.int vb), .val (.int vc), .val (.int vd), .val (.int (0 : Int32)), .val (.int (0 : Int32)), .val (.int (0 : Int32)), .unset, .unset, .unset, .unset, .unset, .unset, .unset, .unset, .unset, .unset, .unset] [(.ref b)])) _
        refine XS.astore X10.here hx rfl (hb hby at_118) rfl rfl (l' := #[.val (.int p0), .val (.int p1), .val (.int p2), .val (.int p3), .val (.int p4), .val (.int p5), .val (.int nn), .val (.int va), .val (.int vb), .val (.int vc), .val (.int vd), .val (.int (0 : Int32)), .val (.int (0 : Int32)), .val (.int (0 : Int32)), .val (.ref b), .unset, .unset, .unset, .unset, .unset, .unset, .unset, .unset, .unset, .unset]) rfl ?_
        show Steps p.tables e below (T10.setTop (mkF m 120 #[.val (.int p0), .val (.int p1), .val (.int p2), .val (.int p3), .val (.int p4), .val (.int p5), .val (.int nn), .val (.int va), .val (.int vb), .val (.int vc), .val (.int vd), .val (.int (0 : Int32)), .val (.int (0 : Int32)), .val (.int (0 : Int32)), .val (.ref b), .unset, .unset, .unset, .unset, .unset, .unset, .unset, .unset, .unset, .unset] [])) _
        refine XS.iload X10.here hx rfl (hb hby at_120) rfl ?_
        show Steps p.tables e below (T10.setTop (mkF m 122 #[.val (.int p0), .val (.int p1), .val (.int p2), .val (.int p3), .val (.int p4), .val (.int p5), .val (.int nn), .val (.int va), .val (.int vb), .val (.int vc), .val (.int vd), .val (.int (0 : Int32)), .val (.int (0 : Int32)), .val (.int (0 : Int32)), .val (.ref b), .unset, .unset, .unset, .unset, .unset, .unset, .unset, .unset, .unset, .unset] [(.int (0 : Int32))])) _
        refine XS.ifYes X10.here hx rfl (pc0 := 122) (pc' := 134) rfl (hb hby at_122) rfl ((if0 _ _).trans (teq (by decide : (0 : Int32) = (0 : Int32))).1) (by decide) (by decide) ?_
        show Steps p.tables e below (T10.setTop (mkF m 134 #[.val (.int p0), .val (.int p1), .val (.int p2), .val (.int p3), .val (.int p4), .val (.int p5), .val (.int nn), .val (.int va), .val (.int vb), .val (.int vc), .val (.int vd), .val (.int (0 : Int32)), .val (.int (0 : Int32)), .val (.int (0 : Int32)), .val (.ref b), .unset, .unset, .unset, .unset, .unset, .unset, .unset, .unset, .unset, .unset] [])) _
        refine XS.iload X10.here hx rfl (hb hby at_134) rfl ?_
        show Steps p.tables e below (T10.setTop (mkF m 136 #[.val (.int p0), .val (.int p1), .val (.int p2), .val (.int p3), .val (.int p4), .val (.int p5), .val (.int nn), .val (.int va), .val (.int vb), .val (.int vc), .val (.int vd), .val (.int (0 : Int32)), .val (.int (0 : Int32)), .val (.int (0 : Int32)), .val (.ref b), .unset, .unset, .unset, .unset, .unset, .unset, .unset, .unset, .unset, .unset] [(.int (0 : Int32))])) _
        refine XS.ifYes X10.here hx rfl (pc0 := 136) (pc' := 148) rfl (hb hby at_136) rfl ((if0 _ _).trans (teq (by decide : (0 : Int32) = (0 : Int32))).1) (by decide) (by decide) ?_
        show Steps p.tables e below (T10.setTop (mkF m 148 #[.val (.int p0), .val (.int p1), .val (.int p2), .val (.int p3), .val (.int p4), .val (.int p5), .val (.int nn), .val (.int va), .val (.int vb), .val (.int vc), .val (.int vd), .val (.int (0 : Int32)), .val (.int (0 : Int32)), .val (.int (0 : Int32)), .val (.ref b), .unset, .unset, .unset, .unset, .unset, .unset, .unset, .unset, .unset, .unset] [])) _
        refine XS.iload X10.here hx rfl (hb hby at_148) rfl ?_
        show Steps p.tables e below (T10.setTop (mkF m 150 #[.val (.int p0), .val (.int p1), .val (.int p2), .val (.int p3), .val (.int p4), .val (.int p5), .val (.int nn), .val (.int va), .val (.int vb), .val (.int vc), .val (.int vd), .val (.int (0 : Int32)), .val (.int (0 : Int32)), .val (.int (0 : Int32)), .val (.ref b), .unset, .unset, .unset, .unset, .unset, .unset, .unset, .unset, .unset, .unset] [(.int (0 : Int32))])) _
        refine XS.ifYes X10.here hx rfl (pc0 := 150) (pc' := 162) rfl (hb hby at_150) rfl ((if0 _ _).trans (teq (by decide : (0 : Int32) = (0 : Int32))).1) (by decide) (by decide) ?_
        exact kt)
      have hMM : ∀ Kq : Int64, Kq ≠ 0 → (fun _ => (0 : Int64)) Kq = own_sum (0 : Int32) (0 : Int32) (0 : Int32) (own_key va vb nn) (own_key vc vd nn) Kq := by
        intro Kq _
        simp [own_sum, own_e]
      obtain ⟨T13, lo13, pcE, LsE, X13, e13, N13, dE, st13⟩ := own_tail n0 p0 p1 p2 p3 p4 p5 nn va vb vc vd (0 : Int32) (0 : Int32) (0 : Int32) b kb cb kA kC own_z own_z (0 : Int32) (fun _ => (0 : Int64)) X10 hx hZ hw hby hml hown rfl N10 Z10 (by decide) (by decide) A8_11 Fnodes10 Fbits10 Fkeys10 Fcounts10 Fpairs10 Ak10 Ac10 (own_L0 own_hlt) hMM hn iva ivb ivc ivd
      obtain ⟨fs, hr, hrun, hended, hW, hsame⟩ := X13.leave (v := some (.int (1 : Int32))) (fun h => by rw [Bd.returns] at h; cases h)
      subst hG
      refine ⟨_, _, pre12 _ (st13 _ ?_), hrun, hended, _, _, rfl, ?_, ⟨_, rfl⟩, hW, hsame.mono (by decide) (by decide)⟩
      · exact retN X13 hx (t := .boolean) Bd.returns (by simp) (hb hby dE) hr
      · exact ⟨rfl, N13⟩
    · -- not hcd
      have pre14 : ∀ tg, Steps p.tables e below (s₁.setTop (mkF m 109 #[.val (.int p0), .val (.int p1), .val (.int p2), .val (.int p3), .val (.int p4), .val (.int p5), .val (.int nn), .val (.int va), .val (.int vb), .val (.int vc), .val (.int vd), .val (.int (0 : Int32)), .val (.int (1 : Int32)), .val (.int (0 : Int32)), .unset, .unset, .unset, .unset, .unset, .unset, .unset, .unset, .unset, .unset, .unset] [])) tg → G tg := fun tg kt => pre6 tg (by
        show Steps p.tables e below (s₁.setTop (mkF m 79 #[.val (.int p0), .val (.int p1), .val (.int p2), .val (.int p3), .val (.int p4), .val (.int p5), .val (.int nn), .val (.int va), .val (.int vb), .val (.int vc), .val (.int vd), .val (.int (0 : Int32)), .unset, .unset, .unset, .unset, .unset, .unset, .unset, .unset, .unset, .unset, .unset, .unset, .unset] [(.int vd), (.int vc)])) _
        refine XS.icmpNo X0.here hx rfl (hb hby at_79) rfl (feq hcd).1 ?_
        show Steps p.tables e below (s₁.setTop (mkF m 82 #[.val (.int p0), .val (.int p1), .val (.int p2), .val (.int p3), .val (.int p4), .val (.int p5), .val (.int nn), .val (.int va), .val (.int vb), .val (.int vc), .val (.int vd), .val (.int (0 : Int32)), .unset, .unset, .unset, .unset, .unset, .unset, .unset, .unset, .unset, .unset, .unset, .unset, .unset] [])) _
        refine XS.iconst X0.here hx rfl (hb hby at_82) ?_
        show Steps p.tables e below (s₁.setTop (mkF m 83 #[.val (.int p0), .val (.int p1), .val (.int p2), .val (.int p3), .val (.int p4), .val (.int p5), .val (.int nn), .val (.int va), .val (.int vb), .val (.int vc), .val (.int vd), .val (.int (0 : Int32)), .unset, .unset, .unset, .unset, .unset, .unset, .unset, .unset, .unset, .unset, .unset, .unset, .unset] [(.int (1 : Int32))])) _
        refine XS.goto X0.here hx rfl (pc0 := 83) (pc' := 87) rfl (hb hby at_83) (by decide) (by decide) ?_
        show Steps p.tables e below (s₁.setTop (mkF m 87 #[.val (.int p0), .val (.int p1), .val (.int p2), .val (.int p3), .val (.int p4), .val (.int p5), .val (.int nn), .val (.int va), .val (.int vb), .val (.int vc), .val (.int vd), .val (.int (0 : Int32)), .unset, .unset, .unset, .unset, .unset, .unset, .unset, .unset, .unset, .unset, .unset, .unset, .unset] [(.int (1 : Int32))])) _
        refine XS.istore X0.here hx rfl (hb hby at_87) rfl (l' := #[.val (.int p0), .val (.int p1), .val (.int p2), .val (.int p3), .val (.int p4), .val (.int p5), .val (.int nn), .val (.int va), .val (.int vb), .val (.int vc), .val (.int vd), .val (.int (0 : Int32)), .val (.int (1 : Int32)), .unset, .unset, .unset, .unset, .unset, .unset, .unset, .unset, .unset, .unset, .unset, .unset]) rfl ?_
        show Steps p.tables e below (s₁.setTop (mkF m 89 #[.val (.int p0), .val (.int p1), .val (.int p2), .val (.int p3), .val (.int p4), .val (.int p5), .val (.int nn), .val (.int va), .val (.int vb), .val (.int vc), .val (.int vd), .val (.int (0 : Int32)), .val (.int (1 : Int32)), .unset, .unset, .unset, .unset, .unset, .unset, .unset, .unset, .unset, .unset, .unset, .unset] [])) _
        refine XS.iload X0.here hx rfl (hb hby at_89) rfl ?_
        show Steps p.tables e below (s₁.setTop (mkF m 91 #[.val (.int p0), .val (.int p1), .val (.int p2), .val (.int p3), .val (.int p4), .val (.int p5), .val (.int nn), .val (.int va), .val (.int vb), .val (.int vc), .val (.int vd), .val (.int (0 : Int32)), .val (.int (1 : Int32)), .unset, .unset, .unset, .unset, .unset, .unset, .unset, .unset, .unset, .unset, .unset, .unset] [(.int (0 : Int32))])) _
        refine XS.ifYes X0.here hx rfl (pc0 := 91) (pc' := 106) rfl (hb hby at_91) rfl ((if0 _ _).trans (teq (by decide : (0 : Int32) = (0 : Int32))).1) (by decide) (by decide) ?_
        show Steps p.tables e below (s₁.setTop (mkF m 106 #[.val (.int p0), .val (.int p1), .val (.int p2), .val (.int p3), .val (.int p4), .val (.int p5), .val (.int nn), .val (.int va), .val (.int vb), .val (.int vc), .val (.int vd), .val (.int (0 : Int32)), .val (.int (1 : Int32)), .unset, .unset, .unset, .unset, .unset, .unset, .unset, .unset, .unset, .unset, .unset, .unset] [])) _
        refine XS.iconst X0.here hx rfl (hb hby at_106) ?_
        show Steps p.tables e below (s₁.setTop (mkF m 107 #[.val (.int p0), .val (.int p1), .val (.int p2), .val (.int p3), .val (.int p4), .val (.int p5), .val (.int nn), .val (.int va), .val (.int vb), .val (.int vc), .val (.int vd), .val (.int (0 : Int32)), .val (.int (1 : Int32)), .unset, .unset, .unset, .unset, .unset, .unset, .unset, .unset, .unset, .unset, .unset, .unset] [(.int (0 : Int32))])) _
        refine XS.istore X0.here hx rfl (hb hby at_107) rfl (l' := #[.val (.int p0), .val (.int p1), .val (.int p2), .val (.int p3), .val (.int p4), .val (.int p5), .val (.int nn), .val (.int va), .val (.int vb), .val (.int vc), .val (.int vd), .val (.int (0 : Int32)), .val (.int (1 : Int32)), .val (.int (0 : Int32)), .unset, .unset, .unset, .unset, .unset, .unset, .unset, .unset, .unset, .unset, .unset]) rfl ?_
        exact kt)
      obtain ⟨T15, h15, X15, e15, E15, A15, D15, -, st15⟩ := newO X0 hx hZ hown (hw _ (List.mem_of_getElem? (i := 2) rfl)) (hw _ (List.mem_of_getElem? (i := 3) rfl)) (hw _ (List.mem_of_getElem? (i := 4) rfl)) e0 (g := (mkF m 109 #[.val (.int p0), .val (.int p1), .val (.int p2), .val (.int p3), .val (.int p4), .val (.int p5), .val (.int nn), .val (.int va), .val (.int vb), .val (.int vc), .val (.int vd), .val (.int (0 : Int32)), .val (.int (1 : Int32)), .val (.int (0 : Int32)), .unset, .unset, .unset, .unset, .unset, .unset, .unset, .unset, .unset, .unset, .unset] [])) rfl (hb hby at_109) (by decide) (by decide)
      obtain ⟨b, g15⟩ : ∃ z, z = h0.size := ⟨_, rfl⟩
      rw [← g15] at A15 D15 st15
      have O_b : n0 ≤ b := Nat.le_trans Z0 (Nat.le_of_eq g15.symm)
      have Z15 : n0 ≤ h15.size := Nat.le_trans Z0 E15.1
      have pre15s : ∀ tg, Steps p.tables e below (T15.setTop (mkF m 112 #[.val (.int p0), .val (.int p1), .val (.int p2), .val (.int p3), .val (.int p4), .val (.int p5), .val (.int nn), .val (.int va), .val (.int vb), .val (.int vc), .val (.int vd), .val (.int (0 : Int32)), .val (.int (1 : Int32)), .val (.int (0 : Int32)), .unset, .unset, .unset, .unset, .unset, .unset, .unset, .unset, .unset, .unset, .unset] [(.ref b)])) tg → G tg := fun tg kt => pre14 tg (st15 tg kt)
      have Fnodes_b : Fld Z h15 b "com/example/convene/convene/PairCounts" "nodes" "I" (.int (0 : Int32)) := D15 (Or.inr (hw _ (List.mem_of_getElem? (i := 12) rfl))) (ty := .int) (by decide)
      have Fbits_b : Fld Z h15 b "com/example/convene/convene/PairCounts" "bits" "I" (.int (0 : Int32)) := D15 (Or.inl (hw _ (List.mem_of_getElem? (i := 14) rfl))) (ty := .int) (by decide)
      have Fkeys_b : Fld Z h15 b "com/example/convene/convene/PairCounts" "keys" "[J" .null := D15 (Or.inl (hw _ (List.mem_of_getElem? (i := 17) rfl))) (ty := (.array .long)) (by decide)
      have Fcounts_b : Fld Z h15 b "com/example/convene/convene/PairCounts" "counts" "[J" .null := D15 (Or.inl (hw _ (List.mem_of_getElem? (i := 19) rfl))) (ty := (.array .long)) (by decide)
      have Fpairs_b : Fld Z h15 b "com/example/convene/convene/PairCounts" "pairs" "I" (.int (0 : Int32)) := D15 (Or.inl (hw _ (List.mem_of_getElem? (i := 42) rfl))) (ty := .int) (by decide)
      have pre16 : ∀ tg, Steps p.tables e below (T15.setTop (mkF m 115 #[.val (.int p0), .val (.int p1), .val (.int p2), .val (.int p3), .val (.int p4), .val (.int p5), .val (.int nn), .val (.int va), .val (.int vb), .val (.int vc), .val (.int vd), .val (.int (0 : Int32)), .val (.int (1 : Int32)), .val (.int (0 : Int32)), .unset, .unset, .unset, .unset, .unset, .unset, .unset, .unset, .unset, .unset, .unset] [(.int nn), (.ref b), (.ref b)])) tg → G tg := fun tg kt => pre15s tg (by
        show Steps p.tables e below (T15.setTop (mkF m 112 #[.val (.int p0), .val (.int p1), .val (.int p2), .val (.int p3), .val (.int p4), .val (.int p5), .val (.int nn), .val (.int va), .val (.int vb), .val (.int vc), .val (.int vd), .val (.int (0 : Int32)), .val (.int (1 : Int32)), .val (.int (0 : Int32)), .unset, .unset, .unset, .unset, .unset, .unset, .unset, .unset, .unset, .unset, .unset] [(.ref b)])) _
        refine XS.dup X15.here hx rfl (hb hby at_112) rfl rfl ?_
        show Steps p.tables e below (T15.setTop (mkF m 113 #[.val (.int p0), .val (.int p1), .val (.int p2), .val (.int p3), .val (.int p4), .val (.int p5), .val (.int nn), .val (.int va), .val (.int vb), .val (.int vc), .val (.int vd), .val (.int (0 : Int32)), .val (.int (1 : Int32)), .val (.int (0 : Int32)), .unset, .unset, .unset, .unset, .unset, .unset, .unset, .unset, .unset, .unset, .unset] [(.ref b), (.ref b)])) _
        refine XS.iload X15.here hx rfl (hb hby at_113) rfl ?_
        exact kt)
      obtain ⟨_, _, ⟨T17, L17, k17, n17⟩, -, X17, ⟨Lc17, hQ17, l17, y17, z17⟩, st17⟩ := X15.specialBack hx (y := (⟨"com/example/convene/convene/PairCounts", "<init>", "(I)V"⟩ : MethodName)) rfl hown (mvT hZ (hw _ (List.mem_of_getElem? (i := 5) rfl))) (mvT hZ (hw _ (List.mem_of_getElem? (i := 6) rfl))) (mvT hZ (hw _ (List.mem_of_getElem? (i := 7) rfl))) (by decide) (backOf (W := 1) (rm1 l Z a0 hw [] b nn h15 n0 Z15 A15 Fnodes_b Fbits_b Fkeys_b Fcounts_b Fpairs_b O_b) hZ (hw _ (List.mem_of_getElem? (i := 7) rfl)) (hw _ (List.mem_of_getElem? (i := 4) rfl)) (by decide) (by decide)) (g := (mkF m 115 #[.val (.int p0), .val (.int p1), .val (.int p2), .val (.int p3), .val (.int p4), .val (.int p5), .val (.int nn), .val (.int va), .val (.int vb), .val (.int vc), .val (.int vd), .val (.int (0 : Int32)), .val (.int (1 : Int32)), .val (.int (0 : Int32)), .unset, .unset, .unset, .unset, .unset, .unset, .unset, .unset, .unset, .unset, .unset] [(.int nn), (.ref b), (.ref b)])) rfl (by rw [hml]; rfl) (Steps.refl _) (a := b) (argsL := [(.int nn)]) (rest := [(.ref b)]) (lenOf pd_5 rfl) rfl (by show 2 * 0 + _ ≤ _; exact Nat.le_of_eq rfl) (hb hby at_115) (fun _ _ => ⟨rfl, e15, (Nat.le_of_ble_eq_true rfl), (Nat.le_of_ble_eq_true rfl)⟩)
      dsimp only [Pt.U, Pt.locs, Pt.cells, Pt.slots] at X17 l17 y17 z17 st17 hQ17
      subst l17 y17 z17
      obtain ⟨rfl, N17q, K17, kb, cb, kA, kC, O_kb, O_cb, ne1, ne2, ne3, Fnodes17, Fbits17, Fkeys17, Fcounts17, Fpairs17, Ak17, Ac17⟩ := hQ17
      have N17 := Fr.app N0 N17q
      have pre17s : ∀ tg, Steps p.tables e below (T17.setTop (mkF m 118 #[.val (.int p0), .val (.int p1), .val (.int p2), .val (.int p3), .val (.int p4), .val (.int p5), .val (.int nn), .val (.int va), .val (.int vb), .val (.int vc), .val (.int vd), .val (.int (0 : Int32)), .val (.int (1 : Int32)), .val (.int (0 : Int32)), .unset, .unset, .unset, .unset, .unset, .unset, .unset, .unset, .unset, .unset, .unset] [(.ref b)])) tg → G tg := fun tg kt => pre16 tg (st17.trans kt)
      have Z17 : n0 ≤ T17.heap.size := Nat.le_trans Z15 K17.1
      have A15_18 := A15.keep K17
      have hK1 := own_key0 hn ivc ivd hcd
      have pre19 : ∀ tg, Steps p.tables e below (T17.setTop (mkF m 145 #[.val (.int p0), .val (.int p1), .val (.int p2), .val (.int p3), .val (.int p4), .val (.int p5), .val (.int nn), .val (.int va), .val (.int vb), .val (.int vc), .val (.int vd), .val (.int (0 : Int32)), .val (.int (1 : Int32)), .val (.int (0 : Int32)), .val (.ref b), .unset, .unset, .unset, .unset, .unset, .unset, .unset, .unset, .unset, .unset] [(.int vd), (.int vc), (.ref b)])) tg → G tg := fun tg kt => pre17s tg (by
        show Steps p.tables e below (T17.setTop (mkF m 118 #[.val (.int p0), .val (.int p1), .val (.int p2), .val (.int p3), .val (.int p4), .val (.int p5), .val (.int nn), .val (.int va), .val (.int vb), .val (.int vc), .val (.int vd), .val (.int (0 : Int32)), .val (.int (1 : Int32)), .val (.int (0 : Int32)), .unset, .unset, .unset, .unset, .unset, .unset, .unset, .unset, .unset, .unset, .unset] [(.ref b)])) _
        refine XS.astore X17.here hx rfl (hb hby at_118) rfl rfl (l' := #[.val (.int p0), .val (.int p1), .val (.int p2), .val (.int p3), .val (.int p4), .val (.int p5), .val (.int nn), .val (.int va), .val (.int vb), .val (.int vc), .val (.int vd), .val (.int (0 : Int32)), .val (.int (1 : Int32)), .val (.int (0 : Int32)), .val (.ref b), .unset, .unset, .unset, .unset, .unset, .unset, .unset, .unset, .unset, .unset]) rfl ?_
        show Steps p.tables e below (T17.setTop (mkF m 120 #[.val (.int p0), .val (.int p1), .val (.int p2), .val (.int p3), .val (.int p4), .val (.int p5), .val (.int nn), .val (.int va), .val (.int vb), .val (.int vc), .val (.int vd), .val (.int (0 : Int32)), .val (.int (1 : Int32)), .val (.int (0 : Int32)), .val (.ref b), .unset, .unset, .unset, .unset, .unset, .unset, .unset, .unset, .unset, .unset] [])) _
        refine XS.iload X17.here hx rfl (hb hby at_120) rfl ?_
        show Steps p.tables e below (T17.setTop (mkF m 122 #[.val (.int p0), .val (.int p1), .val (.int p2), .val (.int p3), .val (.int p4), .val (.int p5), .val (.int nn), .val (.int va), .val (.int vb), .val (.int vc), .val (.int vd), .val (.int (0 : Int32)), .val (.int (1 : Int32)), .val (.int (0 : Int32)), .val (.ref b), .unset, .unset, .unset, .unset, .unset, .unset, .unset, .unset, .unset, .unset] [(.int (0 : Int32))])) _
        refine XS.ifYes X17.here hx rfl (pc0 := 122) (pc' := 134) rfl (hb hby at_122) rfl ((if0 _ _).trans (teq (by decide : (0 : Int32) = (0 : Int32))).1) (by decide) (by decide) ?_
        show Steps p.tables e below (T17.setTop (mkF m 134 #[.val (.int p0), .val (.int p1), .val (.int p2), .val (.int p3), .val (.int p4), .val (.int p5), .val (.int nn), .val (.int va), .val (.int vb), .val (.int vc), .val (.int vd), .val (.int (0 : Int32)), .val (.int (1 : Int32)), .val (.int (0 : Int32)), .val (.ref b), .unset, .unset, .unset, .unset, .unset, .unset, .unset, .unset, .unset, .unset] [])) _
        refine XS.iload X17.here hx rfl (hb hby at_134) rfl ?_
        show Steps p.tables e below (T17.setTop (mkF m 136 #[.val (.int p0), .val (.int p1), .val (.int p2), .val (.int p3), .val (.int p4), .val (.int p5), .val (.int nn), .val (.int va), .val (.int vb), .val (.int vc), .val (.int vd), .val (.int (0 : Int32)), .val (.int (1 : Int32)), .val (.int (0 : Int32)), .val (.ref b), .unset, .unset, .unset, .unset, .unset, .unset, .unset, .unset, .unset, .unset] [(.int (1 : Int32))])) _
        refine XS.ifNo X17.here hx rfl (hb hby at_136) rfl ((if0 _ _).trans (feq (by decide : ¬ ((1 : Int32) = (0 : Int32)))).1) ?_
        show Steps p.tables e below (T17.setTop (mkF m 139 #[.val (.int p0), .val (.int p1), .val (.int p2), .val (.int p3), .val (.int p4), .val (.int p5), .val (.int nn), .val (.int va), .val (.int vb), .val (.int vc), .val (.int vd), .val (.int (0 : Int32)), .val (.int (1 : Int32)), .val (.int (0 : Int32)), .val (.ref b), .unset, .unset, .unset, .unset, .unset, .unset, .unset, .unset, .unset, .unset] [])) _
        refine XS.aload X17.here hx rfl (hb hby at_139) rfl rfl ?_
        show Steps p.tables e below (T17.setTop (mkF m 141 #[.val (.int p0), .val (.int p1), .val (.int p2), .val (.int p3), .val (.int p4), .val (.int p5), .val (.int nn), .val (.int va), .val (.int vb), .val (.int vc), .val (.int vd), .val (.int (0 : Int32)), .val (.int (1 : Int32)), .val (.int (0 : Int32)), .val (.ref b), .unset, .unset, .unset, .unset, .unset, .unset, .unset, .unset, .unset, .unset] [(.ref b)])) _
        refine XS.iload X17.here hx rfl (hb hby at_141) rfl ?_
        show Steps p.tables e below (T17.setTop (mkF m 143 #[.val (.int p0), .val (.int p1), .val (.int p2), .val (.int p3), .val (.int p4), .val (.int p5), .val (.int nn), .val (.int va), .val (.int vb), .val (.int vc), .val (.int vd), .val (.int (0 : Int32)), .val (.int (1 : Int32)), .val (.int (0 : Int32)), .val (.ref b), .unset, .unset, .unset, .unset, .unset, .unset, .unset, .unset, .unset, .unset] [(.int vc), (.ref b)])) _
        refine XS.iload X17.here hx rfl (hb hby at_143) rfl ?_
        exact kt)
      obtain ⟨cq20, kq20, q20a, q20b, q20c⟩ := isOf hZ rfl A15_18
      obtain ⟨_, _, ⟨T20, L20, k20, n20⟩, -, X20, ⟨Lc20, hQ20, l20, y20, z20⟩, st20⟩ := X17.virtualBack hx (y := (⟨"com/example/convene/convene/PairCounts", "add", "(II)V"⟩ : MethodName)) (z := (⟨"com/example/convene/convene/PairCounts", "add", "(II)V"⟩ : MethodName)) hown (mvT hZ (hw _ (List.mem_of_getElem? (i := 20) rfl))) (mvT hZ (hw _ (List.mem_of_getElem? (i := 21) rfl))) (notFace_of_selects (args := #[]) (mvT hZ (hw _ (List.mem_of_getElem? (i := 23) rfl)))) (mvT hZ (hw _ (List.mem_of_getElem? (i := 23) rfl))) (mvT hZ (hw _ (List.mem_of_getElem? (i := 22) rfl))) (by decide) (backOf (W := 0) (rm3n l Z a0 hw [] b vc vd nn kb cb kA kC own_z own_z (0 : Int32) (own_key vc vd nn) (own_hn (own_key vc vd nn)) T17.heap n0 Z17 A15_18 Fnodes17 Fbits17 Fkeys17 Fcounts17 Fpairs17 Ak17 Ac17 O_b O_kb O_cb ne1 ne2 ne3 rfl (own_pz rfl) (own_hlt _) hcd rfl (by decide)) hZ (hw _ (List.mem_of_getElem? (i := 24) rfl)) (hw _ (List.mem_of_getElem? (i := 4) rfl)) (by decide) (by decide)) q20a q20c (g := (mkF m 145 #[.val (.int p0), .val (.int p1), .val (.int p2), .val (.int p3), .val (.int p4), .val (.int p5), .val (.int nn), .val (.int va), .val (.int vb), .val (.int vc), .val (.int vd), .val (.int (0 : Int32)), .val (.int (1 : Int32)), .val (.int (0 : Int32)), .val (.ref b), .unset, .unset, .unset, .unset, .unset, .unset, .unset, .unset, .unset, .unset] [(.int vd), (.int vc), (.ref b)])) rfl (by rw [hml]; rfl) (Steps.refl _) (argsL := [(.int vc), (.int vd)]) (rest := []) (lenOf pd_6 rfl) rfl (by show 2 * 0 + _ ≤ _; exact Nat.le_of_eq rfl) (hb hby at_145) (fun _ _ => ⟨rfl, rfl, (Nat.le_of_ble_eq_true rfl), (Nat.le_of_ble_eq_true rfl)⟩)
      dsimp only [Pt.U, Pt.locs, Pt.cells, Pt.slots] at X20 l20 y20 z20 st20 hQ20
      subst l20 y20 z20
      obtain ⟨rfl, N20q, K20, Fnodes20, Fbits20, Fkeys20, Fcounts20, Fpairs20, Ak20, Ac20⟩ := hQ20
      have N20 := Fr.app N17 N20q
      have pre20s : ∀ tg, Steps p.tables e below (T20.setTop (mkF m 148 #[.val (.int p0), .val (.int p1), .val (.int p2), .val (.int p3), .val (.int p4), .val (.int p5), .val (.int nn), .val (.int va), .val (.int vb), .val (.int vc), .val (.int vd), .val (.int (0 : Int32)), .val (.int (1 : Int32)), .val (.int (0 : Int32)), .val (.ref b), .unset, .unset, .unset, .unset, .unset, .unset, .unset, .unset, .unset, .unset] [])) tg → G tg := fun tg kt => pre19 tg (st20.trans kt)
      have Z20 : n0 ≤ T20.heap.size := Nat.le_trans Z17 K20.1
      have A15_21 := A15_18.keep K20
      have pre22 : ∀ tg, Steps p.tables e below (T20.setTop (mkF m 162 #[.val (.int p0), .val (.int p1), .val (.int p2), .val (.int p3), .val (.int p4), .val (.int p5), .val (.int nn), .val (.int va), .val (.int vb), .val (.int vc), .val (.int vd), .val (.int (0 : Int32)), .val (.int (1 : Int32)), .val (.int (0 : Int32)), .val (.ref b), .unset, .unset, .unset, .unset, .unset, .unset, .unset, .unset, .unset, .unset] [])) tg → G tg := fun tg kt => pre20s tg (by
        show Steps p.tables e below (T20.setTop (mkF m 148 #[.val (.int p0), .val (.int p1), .val (.int p2), .val (.int p3), .val (.int p4), .val (.int p5), .val (.int nn), .val (.int va), .val (.int vb), .val (.int vc), .val (.int vd), .val (.int (0 : Int32)), .val (.int (1 : Int32)), .val (.int (0 : Int32)), .val (.ref b), .unset, .unset, .unset, .unset, .unset, .unset, .unset, .unset, .unset, .unset] [])) _
        refine XS.iload X20.here hx rfl (hb hby at_148) rfl ?_
        show Steps p.tables e below (T20.setTop (mkF m 150 #[.val (.int p0), .val (.int p1), .val (.int p2), .val (.int p3), .val (.int p4), .val (.int p5), .val (.int nn), .val (.int va), .val (.int vb), .val (.int vc), .val (.int vd), .val (.int (0 : Int32)), .val (.int (1 : Int32)), .val (.int (0 : Int32)), .val (.ref b), .unset, .unset, .unset, .unset, .unset, .unset, .unset, .unset, .unset, .unset] [(.int (0 : Int32))])) _
        refine XS.ifYes X20.here hx rfl (pc0 := 150) (pc' := 162) rfl (hb hby at_150) rfl ((if0 _ _).trans (teq (by decide : (0 : Int32) = (0 : Int32))).1) (by decide) (by decide) ?_
        exact kt)
      have hMM : ∀ Kq : Int64, Kq ≠ 0 → (fun K => if (own_key vc vd nn) = K then ((own_z (own_hn (own_key vc vd nn))) + (1 : Int64)) else 0) Kq = own_sum (0 : Int32) (1 : Int32) (0 : Int32) (own_key va vb nn) (own_key vc vd nn) Kq := by
        intro Kq _
        unfold own_sum own_e own_z
        by_cases q : (own_key vc vd nn) = Kq <;> simp [q]
      obtain ⟨T23, lo23, pcE, LsE, X23, e23, N23, dE, st23⟩ := own_tail n0 p0 p1 p2 p3 p4 p5 nn va vb vc vd (0 : Int32) (1 : Int32) (0 : Int32) b kb cb kA kC (own_upd own_z (own_hn (own_key vc vd nn)) (own_key vc vd nn)) (own_upd own_z (own_hn (own_key vc vd nn)) ((own_z (own_hn (own_key vc vd nn))) + (1 : Int64))) ((0 : Int32) + (1 : Int32)) (fun K => if (own_key vc vd nn) = K then ((own_z (own_hn (own_key vc vd nn))) + (1 : Int64)) else 0) X20 hx hZ hw hby hml hown rfl N20 Z20 (by decide) (by decide) A15_21 Fnodes20 Fbits20 Fkeys20 Fcounts20 Fpairs20 Ak20 Ac20 (own_L1 own_hlt hK1 ((own_z (own_hn (own_key vc vd nn))) + (1 : Int64))) hMM hn iva ivb ivc ivd
      obtain ⟨fs, hr, hrun, hended, hW, hsame⟩ := X23.leave (v := some (.int (1 : Int32))) (fun h => by rw [Bd.returns] at h; cases h)
      subst hG
      refine ⟨_, _, pre22 _ (st23 _ ?_), hrun, hended, _, _, rfl, ?_, ⟨_, rfl⟩, hW, hsame.mono (by decide) (by decide)⟩
      · exact retN X23 hx (t := .boolean) Bd.returns (by simp) (hb hby dE) hr
      · exact ⟨rfl, N23⟩
  · -- not hab
    have pre24 : ∀ tg, Steps p.tables e below (s₁.setTop (mkF m 79 #[.val (.int p0), .val (.int p1), .val (.int p2), .val (.int p3), .val (.int p4), .val (.int p5), .val (.int nn), .val (.int va), .val (.int vb), .val (.int vc), .val (.int vd), .val (.int (1 : Int32)), .unset, .unset, .unset, .unset, .unset, .unset, .unset, .unset, .unset, .unset, .unset, .unset, .unset] [(.int vd), (.int vc)])) tg → G tg := fun tg kt => pre5 tg (by
      show Steps p.tables e below (s₁.setTop (mkF m 65 #[.val (.int p0), .val (.int p1), .val (.int p2), .val (.int p3), .val (.int p4), .val (.int p5), .val (.int nn), .val (.int va), .val (.int vb), .val (.int vc), .val (.int vd), .unset, .unset, .unset, .unset, .unset, .unset, .unset, .unset, .unset, .unset, .unset, .unset, .unset, .unset] [(.int vb), (.int va)])) _
      refine XS.icmpNo X0.here hx rfl (hb hby at_65) rfl (feq hab).1 ?_
      show Steps p.tables e below (s₁.setTop (mkF m 68 #[.val (.int p0), .val (.int p1), .val (.int p2), .val (.int p3), .val (.int p4), .val (.int p5), .val (.int nn), .val (.int va), .val (.int vb), .val (.int vc), .val (.int vd), .unset, .unset, .unset, .unset, .unset, .unset, .unset, .unset, .unset, .unset, .unset, .unset, .unset, .unset] [])) _
      refine XS.iconst X0.here hx rfl (hb hby at_68) ?_
      show Steps p.tables e below (s₁.setTop (mkF m 69 #[.val (.int p0), .val (.int p1), .val (.int p2), .val (.int p3), .val (.int p4), .val (.int p5), .val (.int nn), .val (.int va), .val (.int vb), .val (.int vc), .val (.int vd), .unset, .unset, .unset, .unset, .unset, .unset, .unset, .unset, .unset, .unset, .unset, .unset, .unset, .unset] [(.int (1 : Int32))])) _
      refine XS.goto X0.here hx rfl (pc0 := 69) (pc' := 73) rfl (hb hby at_69) (by decide) (by decide) ?_
      show Steps p.tables e below (s₁.setTop (mkF m 73 #[.val (.int p0), .val (.int p1), .val (.int p2), .val (.int p3), .val (.int p4), .val (.int p5), .val (.int nn), .val (.int va), .val (.int vb), .val (.int vc), .val (.int vd), .unset, .unset, .unset, .unset, .unset, .unset, .unset, .unset, .unset, .unset, .unset, .unset, .unset, .unset] [(.int (1 : Int32))])) _
      refine XS.istore X0.here hx rfl (hb hby at_73) rfl (l' := #[.val (.int p0), .val (.int p1), .val (.int p2), .val (.int p3), .val (.int p4), .val (.int p5), .val (.int nn), .val (.int va), .val (.int vb), .val (.int vc), .val (.int vd), .val (.int (1 : Int32)), .unset, .unset, .unset, .unset, .unset, .unset, .unset, .unset, .unset, .unset, .unset, .unset, .unset]) rfl ?_
      show Steps p.tables e below (s₁.setTop (mkF m 75 #[.val (.int p0), .val (.int p1), .val (.int p2), .val (.int p3), .val (.int p4), .val (.int p5), .val (.int nn), .val (.int va), .val (.int vb), .val (.int vc), .val (.int vd), .val (.int (1 : Int32)), .unset, .unset, .unset, .unset, .unset, .unset, .unset, .unset, .unset, .unset, .unset, .unset, .unset] [])) _
      refine XS.iload X0.here hx rfl (hb hby at_75) rfl ?_
      show Steps p.tables e below (s₁.setTop (mkF m 77 #[.val (.int p0), .val (.int p1), .val (.int p2), .val (.int p3), .val (.int p4), .val (.int p5), .val (.int nn), .val (.int va), .val (.int vb), .val (.int vc), .val (.int vd), .val (.int (1 : Int32)), .unset, .unset, .unset, .unset, .unset, .unset, .unset, .unset, .unset, .unset, .unset, .unset, .unset] [(.int vc)])) _
      refine XS.iload X0.here hx rfl (hb hby at_77) rfl ?_
      exact kt)
    by_cases hcd : vc = vd
    · -- hcd
      have pre25 : ∀ tg, Steps p.tables e below (s₁.setTop (mkF m 99 #[.val (.int p0), .val (.int p1), .val (.int p2), .val (.int p3), .val (.int p4), .val (.int p5), .val (.int nn), .val (.int va), .val (.int vb), .val (.int vc), .val (.int vd), .val (.int (1 : Int32)), .val (.int (0 : Int32)), .unset, .unset, .unset, .unset, .unset, .unset, .unset, .unset, .unset, .unset, .unset, .unset] [(.int (p5 &&& (16 : Int32)))])) tg → G tg := fun tg kt => pre24 tg (by
        show Steps p.tables e below (s₁.setTop (mkF m 79 #[.val (.int p0), .val (.int p1), .val (.int p2), .val (.int p3), .val (.int p4), .val (.int p5), .val (.int nn), .val (.int va), .val (.int vb), .val (.int vc), .val (.int vd), .val (.int (1 : Int32)), .unset, .unset, .unset, .unset, .unset, .unset, .unset, .unset, .unset, .unset, .unset, .unset, .unset] [(.int vd), (.int vc)])) _
        refine XS.icmpYes X0.here hx rfl (pc0 := 79) (pc' := 86) rfl (hb hby at_79) rfl (teq hcd).1 (by decide) (by decide) ?_
        show Steps p.tables e below (s₁.setTop (mkF m 86 #[.val (.int p0), .val (.int p1), .val (.int p2), .val (.int p3), .val (.int p4), .val (.int p5), .val (.int nn), .val (.int va), .val (.int vb), .val (.int vc), .val (.int vd), .val (.int (1 : Int32)), .unset, .unset, .unset, .unset, .unset, .unset, .unset, .unset, .unset, .unset, .unset, .unset, .unset] [])) _
        refine XS.iconst X0.here hx rfl (hb hby at_86) ?_
        show Steps p.tables e below (s₁.setTop (mkF m 87 #[.val (.int p0), .val (.int p1), .val (.int p2), .val (.int p3), .val (.int p4), .val (.int p5), .val (.int nn), .val (.int va), .val (.int vb), .val (.int vc), .val (.int vd), .val (.int (1 : Int32)), .unset, .unset, .unset, .unset, .unset, .unset, .unset, .unset, .unset, .unset, .unset, .unset, .unset] [(.int (0 : Int32))])) _
        refine XS.istore X0.here hx rfl (hb hby at_87) rfl (l' := #[.val (.int p0), .val (.int p1), .val (.int p2), .val (.int p3), .val (.int p4), .val (.int p5), .val (.int nn), .val (.int va), .val (.int vb), .val (.int vc), .val (.int vd), .val (.int (1 : Int32)), .val (.int (0 : Int32)), .unset, .unset, .unset, .unset, .unset, .unset, .unset, .unset, .unset, .unset, .unset, .unset]) rfl ?_
        show Steps p.tables e below (s₁.setTop (mkF m 89 #[.val (.int p0), .val (.int p1), .val (.int p2), .val (.int p3), .val (.int p4), .val (.int p5), .val (.int nn), .val (.int va), .val (.int vb), .val (.int vc), .val (.int vd), .val (.int (1 : Int32)), .val (.int (0 : Int32)), .unset, .unset, .unset, .unset, .unset, .unset, .unset, .unset, .unset, .unset, .unset, .unset] [])) _
        refine XS.iload X0.here hx rfl (hb hby at_89) rfl ?_
        show Steps p.tables e below (s₁.setTop (mkF m 91 #[.val (.int p0), .val (.int p1), .val (.int p2), .val (.int p3), .val (.int p4), .val (.int p5), .val (.int nn), .val (.int va), .val (.int vb), .val (.int vc), .val (.int vd), .val (.int (1 : Int32)), .val (.int (0 : Int32)), .unset, .unset, .unset, .unset, .unset, .unset, .unset, .unset, .unset, .unset, .unset, .unset] [(.int (1 : Int32))])) _
        refine XS.ifNo X0.here hx rfl (hb hby at_91) rfl ((if0 _ _).trans (feq (by decide : ¬ ((1 : Int32) = (0 : Int32)))).1) ?_
        show Steps p.tables e below (s₁.setTop (mkF m 94 #[.val (.int p0), .val (.int p1), .val (.int p2), .val (.int p3), .val (.int p4), .val (.int p5), .val (.int nn), .val (.int va), .val (.int vb), .val (.int vc), .val (.int vd), .val (.int (1 : Int32)), .val (.int (0 : Int32)), .unset, .unset, .unset, .unset, .unset, .unset, .unset, .unset, .unset, .unset, .unset, .unset] [])) _
        refine XS.iload X0.here hx rfl (hb hby at_94) rfl ?_
        show Steps p.tables e below (s₁.setTop (mkF m 96 #[.val (.int p0), .val (.int p1), .val (.int p2), .val (.int p3), .val (.int p4), .val (.int p5), .val (.int nn), .val (.int va), .val (.int vb), .val (.int vc), .val (.int vd), .val (.int (1 : Int32)), .val (.int (0 : Int32)), .unset, .unset, .unset, .unset, .unset, .unset, .unset, .unset, .unset, .unset, .unset, .unset] [(.int p5)])) _
        refine XS.bipush X0.here hx rfl (hb hby at_96) ?_
        show Steps p.tables e below (s₁.setTop (mkF m 98 #[.val (.int p0), .val (.int p1), .val (.int p2), .val (.int p3), .val (.int p4), .val (.int p5), .val (.int nn), .val (.int va), .val (.int vb), .val (.int vc), .val (.int vd), .val (.int (1 : Int32)), .val (.int (0 : Int32)), .unset, .unset, .unset, .unset, .unset, .unset, .unset, .unset, .unset, .unset, .unset, .unset] [(.int (16 : Int32)), (.int p5)])) _
        refine XS.iand X0.here hx rfl (hb hby at_98) rfl ?_
        exact kt)
      by_cases h16 : (p5 &&& (16 : Int32)) = (0 : Int32)
      · -- h16
        have pre26 : ∀ tg, Steps p.tables e below (s₁.setTop (mkF m 109 #[.val (.int p0), .val (.int p1), .val (.int p2), .val (.int p3), .val (.int p4), .val (.int p5), .val (.int nn), .val (.int va), .val (.int vb), .val (.int vc), .val (.int vd), .val (.int (1 : Int32)), .val (.int (0 : Int32)), .val (.int (0 : Int32)), .unset, .unset, .unset, .unset, .unset, .unset, .unset, .unset, .unset, .unset, .unset] [])) tg → G tg := fun tg kt => pre25 tg (by
          show Steps p.tables e below (s₁.setTop (mkF m 99 #[.val (.int p0), .val (.int p1), .val (.int p2), .val (.int p3), .val (.int p4), .val (.int p5), .val (.int nn), .val (.int va), .val (.int vb), .val (.int vc), .val (.int vd), .val (.int (1 : Int32)), .val (.int (0 : Int32)), .unset, .unset, .unset, .unset, .unset, .unset, .unset, .unset, .unset, .unset, .unset, .unset] [(.int (p5 &&& (16 : Int32)))])) _
          refine XS.ifYes X0.here hx rfl (pc0 := 99) (pc' := 106) rfl (hb hby at_99) rfl ((if0 _ _).trans (teq h16).1) (by decide) (by decide) ?_
          show Steps p.tables e below (s₁.setTop (mkF m 106 #[.val (.int p0), .val (.int p1), .val (.int p2), .val (.int p3), .val (.int p4), .val (.int p5), .val (.int nn), .val (.int va), .val (.int vb), .val (.int vc), .val (.int vd), .val (.int (1 : Int32)), .val (.int (0 : Int32)), .unset, .unset, .unset, .unset, .unset, .unset, .unset, .unset, .unset, .unset, .unset, .unset] [])) _
          refine XS.iconst X0.here hx rfl (hb hby at_106) ?_
          show Steps p.tables e below (s₁.setTop (mkF m 107 #[.val (.int p0), .val (.int p1), .val (.int p2), .val (.int p3), .val (.int p4), .val (.int p5), .val (.int nn), .val (.int va), .val (.int vb), .val (.int vc), .val (.int vd), .val (.int (1 : Int32)), .val (.int (0 : Int32)), .unset, .unset, .unset, .unset, .unset, .unset, .unset, .unset, .unset, .unset, .unset, .unset] [(.int (0 : Int32))])) _
          refine XS.istore X0.here hx rfl (hb hby at_107) rfl (l' := #[.val (.int p0), .val (.int p1), .val (.int p2), .val (.int p3), .val (.int p4), .val (.int p5), .val (.int nn), .val (.int va), .val (.int vb), .val (.int vc), .val (.int vd), .val (.int (1 : Int32)), .val (.int (0 : Int32)), .val (.int (0 : Int32)), .unset, .unset, .unset, .unset, .unset, .unset, .unset, .unset, .unset, .unset, .unset]) rfl ?_
          exact kt)
        obtain ⟨T27, h27, X27, e27, E27, A27, D27, -, st27⟩ := newO X0 hx hZ hown (hw _ (List.mem_of_getElem? (i := 2) rfl)) (hw _ (List.mem_of_getElem? (i := 3) rfl)) (hw _ (List.mem_of_getElem? (i := 4) rfl)) e0 (g := (mkF m 109 #[.val (.int p0), .val (.int p1), .val (.int p2), .val (.int p3), .val (.int p4), .val (.int p5), .val (.int nn), .val (.int va), .val (.int vb), .val (.int vc), .val (.int vd), .val (.int (1 : Int32)), .val (.int (0 : Int32)), .val (.int (0 : Int32)), .unset, .unset, .unset, .unset, .unset, .unset, .unset, .unset, .unset, .unset, .unset] [])) rfl (hb hby at_109) (by decide) (by decide)
        obtain ⟨b, g27⟩ : ∃ z, z = h0.size := ⟨_, rfl⟩
        rw [← g27] at A27 D27 st27
        have O_b : n0 ≤ b := Nat.le_trans Z0 (Nat.le_of_eq g27.symm)
        have Z27 : n0 ≤ h27.size := Nat.le_trans Z0 E27.1
        have pre27s : ∀ tg, Steps p.tables e below (T27.setTop (mkF m 112 #[.val (.int p0), .val (.int p1), .val (.int p2), .val (.int p3), .val (.int p4), .val (.int p5), .val (.int nn), .val (.int va), .val (.int vb), .val (.int vc), .val (.int vd), .val (.int (1 : Int32)), .val (.int (0 : Int32)), .val (.int (0 : Int32)), .unset, .unset, .unset, .unset, .unset, .unset, .unset, .unset, .unset, .unset, .unset] [(.ref b)])) tg → G tg := fun tg kt => pre26 tg (st27 tg kt)
        have Fnodes_b : Fld Z h27 b "com/example/convene/convene/PairCounts" "nodes" "I" (.int (0 : Int32)) := D27 (Or.inr (hw _ (List.mem_of_getElem? (i := 12) rfl))) (ty := .int) (by decide)
        have Fbits_b : Fld Z h27 b "com/example/convene/convene/PairCounts" "bits" "I" (.int (0 : Int32)) := D27 (Or.inl (hw _ (List.mem_of_getElem? (i := 14) rfl))) (ty := .int) (by decide)
        have Fkeys_b : Fld Z h27 b "com/example/convene/convene/PairCounts" "keys" "[J" .null := D27 (Or.inl (hw _ (List.mem_of_getElem? (i := 17) rfl))) (ty := (.array .long)) (by decide)
        have Fcounts_b : Fld Z h27 b "com/example/convene/convene/PairCounts" "counts" "[J" .null := D27 (Or.inl (hw _ (List.mem_of_getElem? (i := 19) rfl))) (ty := (.array .long)) (by decide)
        have Fpairs_b : Fld Z h27 b "com/example/convene/convene/PairCounts" "pairs" "I" (.int (0 : Int32)) := D27 (Or.inl (hw _ (List.mem_of_getElem? (i := 42) rfl))) (ty := .int) (by decide)
        have pre28 : ∀ tg, Steps p.tables e below (T27.setTop (mkF m 115 #[.val (.int p0), .val (.int p1), .val (.int p2), .val (.int p3), .val (.int p4), .val (.int p5), .val (.int nn), .val (.int va), .val (.int vb), .val (.int vc), .val (.int vd), .val (.int (1 : Int32)), .val (.int (0 : Int32)), .val (.int (0 : Int32)), .unset, .unset, .unset, .unset, .unset, .unset, .unset, .unset, .unset, .unset, .unset] [(.int nn), (.ref b), (.ref b)])) tg → G tg := fun tg kt => pre27s tg (by
          show Steps p.tables e below (T27.setTop (mkF m 112 #[.val (.int p0), .val (.int p1), .val (.int p2), .val (.int p3), .val (.int p4), .val (.int p5), .val (.int nn), .val (.int va), .val (.int vb), .val (.int vc), .val (.int vd), .val (.int (1 : Int32)), .val (.int (0 : Int32)), .val (.int (0 : Int32)), .unset, .unset, .unset, .unset, .unset, .unset, .unset, .unset, .unset, .unset, .unset] [(.ref b)])) _
          refine XS.dup X27.here hx rfl (hb hby at_112) rfl rfl ?_
          show Steps p.tables e below (T27.setTop (mkF m 113 #[.val (.int p0), .val (.int p1), .val (.int p2), .val (.int p3), .val (.int p4), .val (.int p5), .val (.int nn), .val (.int va), .val (.int vb), .val (.int vc), .val (.int vd), .val (.int (1 : Int32)), .val (.int (0 : Int32)), .val (.int (0 : Int32)), .unset, .unset, .unset, .unset, .unset, .unset, .unset, .unset, .unset, .unset, .unset] [(.ref b), (.ref b)])) _
          refine XS.iload X27.here hx rfl (hb hby at_113) rfl ?_
          exact kt)
        obtain ⟨_, _, ⟨T29, L29, k29, n29⟩, -, X29, ⟨Lc29, hQ29, l29, y29, z29⟩, st29⟩ := X27.specialBack hx (y := (⟨"com/example/convene/convene/PairCounts", "<init>", "(I)V"⟩ : MethodName)) rfl hown (mvT hZ (hw _ (List.mem_of_getElem? (i := 5) rfl))) (mvT hZ (hw _ (List.mem_of_getElem? (i := 6) rfl))) (mvT hZ (hw _ (List.mem_of_getElem? (i := 7) rfl))) (by decide) (backOf (W := 1) (rm1 l Z a0 hw [] b nn h27 n0 Z27 A27 Fnodes_b Fbits_b Fkeys_b Fcounts_b Fpairs_b O_b) hZ (hw _ (List.mem_of_getElem? (i := 7) rfl)) (hw _ (List.mem_of_getElem? (i := 4) rfl)) (by decide) (by decide)) (g := (mkF m 115 #[.val (.int p0), .val (.int p1), .val (.int p2), .val (.int p3), .val (.int p4), .val (.int p5), .val (.int nn), .val (.int va), .val (.int vb), .val (.int vc), .val (.int vd), .val (.int (1 : Int32)), .val (.int (0 : Int32)), .val (.int (0 : Int32)), .unset, .unset, .unset, .unset, .unset, .unset, .unset, .unset, .unset, .unset, .unset] [(.int nn), (.ref b), (.ref b)])) rfl (by rw [hml]; rfl) (Steps.refl _) (a := b) (argsL := [(.int nn)]) (rest := [(.ref b)]) (lenOf pd_5 rfl) rfl (by show 2 * 0 + _ ≤ _; exact Nat.le_of_eq rfl) (hb hby at_115) (fun _ _ => ⟨rfl, e27, (Nat.le_of_ble_eq_true rfl), (Nat.le_of_ble_eq_true rfl)⟩)
        dsimp only [Pt.U, Pt.locs, Pt.cells, Pt.slots] at X29 l29 y29 z29 st29 hQ29
        subst l29 y29 z29
        obtain ⟨rfl, N29q, K29, kb, cb, kA, kC, O_kb, O_cb, ne1, ne2, ne3, Fnodes29, Fbits29, Fkeys29, Fcounts29, Fpairs29, Ak29, Ac29⟩ := hQ29
        have N29 := Fr.app N0 N29q
        have pre29s : ∀ tg, Steps p.tables e below (T29.setTop (mkF m 118 #[.val (.int p0), .val (.int p1), .val (.int p2), .val (.int p3), .val (.int p4), .val (.int p5), .val (.int nn), .val (.int va), .val (.int vb), .val (.int vc), .val (.int vd), .val (.int (1 : Int32)), .val (.int (0 : Int32)), .val (.int (0 : Int32)), .unset, .unset, .unset, .unset, .unset, .unset, .unset, .unset, .unset, .unset, .unset] [(.ref b)])) tg → G tg := fun tg kt => pre28 tg (st29.trans kt)
        have Z29 : n0 ≤ T29.heap.size := Nat.le_trans Z27 K29.1
        have A27_30 := A27.keep K29
        have hK1 := own_key0 hn iva ivb hab
        have pre31 : ∀ tg, Steps p.tables e below (T29.setTop (mkF m 131 #[.val (.int p0), .val (.int p1), .val (.int p2), .val (.int p3), .val (.int p4), .val (.int p5), .val (.int nn), .val (.int va), .val (.int vb), .val (.int vc), .val (.int vd), .val (.int (1 : Int32)), .val (.int (0 : Int32)), .val (.int (0 : Int32)), .val (.ref b), .unset, .unset, .unset, .unset, .unset, .unset, .unset, .unset, .unset, .unset] [(.int vb), (.int va), (.ref b)])) tg → G tg := fun tg kt => pre29s tg (by
          show Steps p.tables e below (T29.setTop (mkF m 118 #[.val (.int p0), .val (.int p1), .val (.int p2), .val (.int p3), .val (.int p4), .val (.int p5), .val (.int nn), .val (.int va), .val (.int vb), .val (.int vc), .val (.int vd), .val (.int (1 : Int32)), .val (.int (0 : Int32)), .val (.int (0 : Int32)), .unset, .unset, .unset, .unset, .unset, .unset, .unset, .unset, .unset, .unset, .unset] [(.ref b)])) _
          refine XS.astore X29.here hx rfl (hb hby at_118) rfl rfl (l' := #[.val (.int p0), .val (.int p1), .val (.int p2), .val (.int p3), .val (.int p4), .val (.int p5), .val (.int nn), .val (.int va), .val (.int vb), .val (.int vc), .val (.int vd), .val (.int (1 : Int32)), .val (.int (0 : Int32)), .val (.int (0 : Int32)), .val (.ref b), .unset, .unset, .unset, .unset, .unset, .unset, .unset, .unset, .unset, .unset]) rfl ?_
          show Steps p.tables e below (T29.setTop (mkF m 120 #[.val (.int p0), .val (.int p1), .val (.int p2), .val (.int p3), .val (.int p4), .val (.int p5), .val (.int nn), .val (.int va), .val (.int vb), .val (.int vc), .val (.int vd), .val (.int (1 : Int32)), .val (.int (0 : Int32)), .val (.int (0 : Int32)), .val (.ref b), .unset, .unset, .unset, .unset, .unset, .unset, .unset, .unset, .unset, .unset] [])) _
          refine XS.iload X29.here hx rfl (hb hby at_120) rfl ?_
          show Steps p.tables e below (T29.setTop (mkF m 122 #[.val (.int p0), .val (.int p1), .val (.int p2), .val (.int p3), .val (.int p4), .val (.int p5), .val (.int nn), .val (.int va), .val (.int vb), .val (.int vc), .val (.int vd), .val (.int (1 : Int32)), .val (.int (0 : Int32)), .val (.int (0 : Int32)), .val (.ref b), .unset, .unset, .unset, .unset, .unset, .unset, .unset, .unset, .unset, .unset] [(.int (1 : Int32))])) _
          refine XS.ifNo X29.here hx rfl (hb hby at_122) rfl ((if0 _ _).trans (feq (by decide : ¬ ((1 : Int32) = (0 : Int32)))).1) ?_
          show Steps p.tables e below (T29.setTop (mkF m 125 #[.val (.int p0), .val (.int p1), .val (.int p2), .val (.int p3), .val (.int p4), .val (.int p5), .val (.int nn), .val (.int va), .val (.int vb), .val (.int vc), .val (.int vd), .val (.int (1 : Int32)), .val (.int (0 : Int32)), .val (.int (0 : Int32)), .val (.ref b), .unset, .unset, .unset, .unset, .unset, .unset, .unset, .unset, .unset, .unset] [])) _
          refine XS.aload X29.here hx rfl (hb hby at_125) rfl rfl ?_
          show Steps p.tables e below (T29.setTop (mkF m 127 #[.val (.int p0), .val (.int p1), .val (.int p2), .val (.int p3), .val (.int p4), .val (.int p5), .val (.int nn), .val (.int va), .val (.int vb), .val (.int vc), .val (.int vd), .val (.int (1 : Int32)), .val (.int (0 : Int32)), .val (.int (0 : Int32)), .val (.ref b), .unset, .unset, .unset, .unset, .unset, .unset, .unset, .unset, .unset, .unset] [(.ref b)])) _
          refine XS.iload X29.here hx rfl (hb hby at_127) rfl ?_
          show Steps p.tables e below (T29.setTop (mkF m 129 #[.val (.int p0), .val (.int p1), .val (.int p2), .val (.int p3), .val (.int p4), .val (.int p5), .val (.int nn), .val (.int va), .val (.int vb), .val (.int vc), .val (.int vd), .val (.int (1 : Int32)), .val (.int (0 : Int32)), .val (.int (0 : Int32)), .val (.ref b), .unset, .unset, .unset, .unset, .unset, .unset, .unset, .unset, .unset, .unset] [(.int va), (.ref b)])) _
          refine XS.iload X29.here hx rfl (hb hby at_129) rfl ?_
          exact kt)
        obtain ⟨cq32, kq32, q32a, q32b, q32c⟩ := isOf hZ rfl A27_30
        obtain ⟨_, _, ⟨T32, L32, k32, n32⟩, -, X32, ⟨Lc32, hQ32, l32, y32, z32⟩, st32⟩ := X29.virtualBack hx (y := (⟨"com/example/convene/convene/PairCounts", "add", "(II)V"⟩ : MethodName)) (z := (⟨"com/example/convene/convene/PairCounts", "add", "(II)V"⟩ : MethodName)) hown (mvT hZ (hw _ (List.mem_of_getElem? (i := 20) rfl))) (mvT hZ (hw _ (List.mem_of_getElem? (i := 21) rfl))) (notFace_of_selects (args := #[]) (mvT hZ (hw _ (List.mem_of_getElem? (i := 23) rfl)))) (mvT hZ (hw _ (List.mem_of_getElem? (i := 23) rfl))) (mvT hZ (hw _ (List.mem_of_getElem? (i := 22) rfl))) (by decide) (backOf (W := 0) (rm3n l Z a0 hw [] b va vb nn kb cb kA kC own_z own_z (0 : Int32) (own_key va vb nn) (own_hn (own_key va vb nn)) T29.heap n0 Z29 A27_30 Fnodes29 Fbits29 Fkeys29 Fcounts29 Fpairs29 Ak29 Ac29 O_b O_kb O_cb ne1 ne2 ne3 rfl (own_pz rfl) (own_hlt _) hab rfl (by decide)) hZ (hw _ (List.mem_of_getElem? (i := 24) rfl)) (hw _ (List.mem_of_getElem? (i := 4) rfl)) (by decide) (by decide)) q32a q32c (g := (mkF m 131 #[.val (.int p0), .val (.int p1), .val (.int p2), .val (.int p3), .val (.int p4), .val (.int p5), .val (.int nn), .val (.int va), .val (.int vb), .val (.int vc), .val (.int vd), .val (.int (1 : Int32)), .val (.int (0 : Int32)), .val (.int (0 : Int32)), .val (.ref b), .unset, .unset, .unset, .unset, .unset, .unset, .unset, .unset, .unset, .unset] [(.int vb), (.int va), (.ref b)])) rfl (by rw [hml]; rfl) (Steps.refl _) (argsL := [(.int va), (.int vb)]) (rest := []) (lenOf pd_6 rfl) rfl (by show 2 * 0 + _ ≤ _; exact Nat.le_of_eq rfl) (hb hby at_131) (fun _ _ => ⟨rfl, rfl, (Nat.le_of_ble_eq_true rfl), (Nat.le_of_ble_eq_true rfl)⟩)
        dsimp only [Pt.U, Pt.locs, Pt.cells, Pt.slots] at X32 l32 y32 z32 st32 hQ32
        subst l32 y32 z32
        obtain ⟨rfl, N32q, K32, Fnodes32, Fbits32, Fkeys32, Fcounts32, Fpairs32, Ak32, Ac32⟩ := hQ32
        have N32 := Fr.app N29 N32q
        have pre32s : ∀ tg, Steps p.tables e below (T32.setTop (mkF m 134 #[.val (.int p0), .val (.int p1), .val (.int p2), .val (.int p3), .val (.int p4), .val (.int p5), .val (.int nn), .val (.int va), .val (.int vb), .val (.int vc), .val (.int vd), .val (.int (1 : Int32)), .val (.int (0 : Int32)), .val (.int (0 : Int32)), .val (.ref b), .unset, .unset, .unset, .unset, .unset, .unset, .unset, .unset, .unset, .unset] [])) tg → G tg := fun tg kt => pre31 tg (st32.trans kt)
        have Z32 : n0 ≤ T32.heap.size := Nat.le_trans Z29 K32.1
        have A27_33 := A27_30.keep K32
        have pre34 : ∀ tg, Steps p.tables e below (T32.setTop (mkF m 162 #[.val (.int p0), .val (.int p1), .val (.int p2), .val (.int p3), .val (.int p4), .val (.int p5), .val (.int nn), .val (.int va), .val (.int vb), .val (.int vc), .val (.int vd), .val (.int (1 : Int32)), .val (.int (0 : Int32)), .val (.int (0 : Int32)), .val (.ref b), .unset, .unset, .unset, .unset, .unset, .unset, .unset, .unset, .unset, .unset] [])) tg → G tg := fun tg kt => pre32s tg (by
          show Steps p.tables e below (T32.setTop (mkF m 134 #[.val (.int p0), .val (.int p1), .val (.int p2), .val (.int p3), .val (.int p4), .val (.int p5), .val (.int nn), .val (.int va), .val (.int vb), .val (.int vc), .val (.int vd), .val (.int (1 : Int32)), .val (.int (0 : Int32)), .val (.int (0 : Int32)), .val (.ref b), .unset, .unset, .unset, .unset, .unset, .unset, .unset, .unset, .unset, .unset] [])) _
          refine XS.iload X32.here hx rfl (hb hby at_134) rfl ?_
          show Steps p.tables e below (T32.setTop (mkF m 136 #[.val (.int p0), .val (.int p1), .val (.int p2), .val (.int p3), .val (.int p4), .val (.int p5), .val (.int nn), .val (.int va), .val (.int vb), .val (.int vc), .val (.int vd), .val (.int (1 : Int32)), .val (.int (0 : Int32)), .val (.int (0 : Int32)), .val (.ref b), .unset, .unset, .unset, .unset, .unset, .unset, .unset, .unset, .unset, .unset] [(.int (0 : Int32))])) _
          refine XS.ifYes X32.here hx rfl (pc0 := 136) (pc' := 148) rfl (hb hby at_136) rfl ((if0 _ _).trans (teq (by decide : (0 : Int32) = (0 : Int32))).1) (by decide) (by decide) ?_
          show Steps p.tables e below (T32.setTop (mkF m 148 #[.val (.int p0), .val (.int p1), .val (.int p2), .val (.int p3), .val (.int p4), .val (.int p5), .val (.int nn), .val (.int va), .val (.int vb), .val (.int vc), .val (.int vd), .val (.int (1 : Int32)), .val (.int (0 : Int32)), .val (.int (0 : Int32)), .val (.ref b), .unset, .unset, .unset, .unset, .unset, .unset, .unset, .unset, .unset, .unset] [])) _
          refine XS.iload X32.here hx rfl (hb hby at_148) rfl ?_
          show Steps p.tables e below (T32.setTop (mkF m 150 #[.val (.int p0), .val (.int p1), .val (.int p2), .val (.int p3), .val (.int p4), .val (.int p5), .val (.int nn), .val (.int va), .val (.int vb), .val (.int vc), .val (.int vd), .val (.int (1 : Int32)), .val (.int (0 : Int32)), .val (.int (0 : Int32)), .val (.ref b), .unset, .unset, .unset, .unset, .unset, .unset, .unset, .unset, .unset, .unset] [(.int (0 : Int32))])) _
          refine XS.ifYes X32.here hx rfl (pc0 := 150) (pc' := 162) rfl (hb hby at_150) rfl ((if0 _ _).trans (teq (by decide : (0 : Int32) = (0 : Int32))).1) (by decide) (by decide) ?_
          exact kt)
        have hMM : ∀ Kq : Int64, Kq ≠ 0 → (fun K => if (own_key va vb nn) = K then ((own_z (own_hn (own_key va vb nn))) + (1 : Int64)) else 0) Kq = own_sum (1 : Int32) (0 : Int32) (0 : Int32) (own_key va vb nn) (own_key vc vd nn) Kq := by
          intro Kq _
          unfold own_sum own_e own_z
          by_cases q : (own_key va vb nn) = Kq <;> simp [q]
        obtain ⟨T35, lo35, pcE, LsE, X35, e35, N35, dE, st35⟩ := own_tail n0 p0 p1 p2 p3 p4 p5 nn va vb vc vd (1 : Int32) (0 : Int32) (0 : Int32) b kb cb kA kC (own_upd own_z (own_hn (own_key va vb nn)) (own_key va vb nn)) (own_upd own_z (own_hn (own_key va vb nn)) ((own_z (own_hn (own_key va vb nn))) + (1 : Int64))) ((0 : Int32) + (1 : Int32)) (fun K => if (own_key va vb nn) = K then ((own_z (own_hn (own_key va vb nn))) + (1 : Int64)) else 0) X32 hx hZ hw hby hml hown rfl N32 Z32 (by decide) (by decide) A27_33 Fnodes32 Fbits32 Fkeys32 Fcounts32 Fpairs32 Ak32 Ac32 (own_L1 own_hlt hK1 ((own_z (own_hn (own_key va vb nn))) + (1 : Int64))) hMM hn iva ivb ivc ivd
        obtain ⟨fs, hr, hrun, hended, hW, hsame⟩ := X35.leave (v := some (.int (1 : Int32))) (fun h => by rw [Bd.returns] at h; cases h)
        subst hG
        refine ⟨_, _, pre34 _ (st35 _ ?_), hrun, hended, _, _, rfl, ?_, ⟨_, rfl⟩, hW, hsame.mono (by decide) (by decide)⟩
        · exact retN X35 hx (t := .boolean) Bd.returns (by simp) (hb hby dE) hr
        · exact ⟨rfl, N35⟩
      · -- not h16
        have pre36 : ∀ tg, Steps p.tables e below (s₁.setTop (mkF m 109 #[.val (.int p0), .val (.int p1), .val (.int p2), .val (.int p3), .val (.int p4), .val (.int p5), .val (.int nn), .val (.int va), .val (.int vb), .val (.int vc), .val (.int vd), .val (.int (1 : Int32)), .val (.int (0 : Int32)), .val (.int (1 : Int32)), .unset, .unset, .unset, .unset, .unset, .unset, .unset, .unset, .unset, .unset, .unset] [])) tg → G tg := fun tg kt => pre25 tg (by
          show Steps p.tables e below (s₁.setTop (mkF m 99 #[.val (.int p0), .val (.int p1), .val (.int p2), .val (.int p3), .val (.int p4), .val (.int p5), .val (.int nn), .val (.int va), .val (.int vb), .val (.int vc), .val (.int vd), .val (.int (1 : Int32)), .val (.int (0 : Int32)), .unset, .unset, .unset, .unset, .unset, .unset, .unset, .unset, .unset, .unset, .unset, .unset] [(.int (p5 &&& (16 : Int32)))])) _
          refine XS.ifNo X0.here hx rfl (hb hby at_99) rfl ((if0 _ _).trans (feq h16).1) ?_
          show Steps p.tables e below (s₁.setTop (mkF m 102 #[.val (.int p0), .val (.int p1), .val (.int p2), .val (.int p3), .val (.int p4), .val (.int p5), .val (.int nn), .val (.int va), .val (.int vb), .val (.int vc), .val (.int vd), .val (.int (1 : Int32)), .val (.int (0 : Int32)), .unset, .unset, .unset, .unset, .unset, .unset, .unset, .unset, .unset, .unset, .unset, .unset] [])) _
          refine XS.iconst X0.here hx rfl (hb hby at_102) ?_
          show Steps p.tables e below (s₁.setTop (mkF m 103 #[.val (.int p0), .val (.int p1), .val (.int p2), .val (.int p3), .val (.int p4), .val (.int p5), .val (.int nn), .val (.int va), .val (.int vb), .val (.int vc), .val (.int vd), .val (.int (1 : Int32)), .val (.int (0 : Int32)), .unset, .unset, .unset, .unset, .unset, .unset, .unset, .unset, .unset, .unset, .unset, .unset] [(.int (1 : Int32))])) _
          refine XS.goto X0.here hx rfl (pc0 := 103) (pc' := 107) rfl (hb hby at_103) (by decide) (by decide) ?_
          show Steps p.tables e below (s₁.setTop (mkF m 107 #[.val (.int p0), .val (.int p1), .val (.int p2), .val (.int p3), .val (.int p4), .val (.int p5), .val (.int nn), .val (.int va), .val (.int vb), .val (.int vc), .val (.int vd), .val (.int (1 : Int32)), .val (.int (0 : Int32)), .unset, .unset, .unset, .unset, .unset, .unset, .unset, .unset, .unset, .unset, .unset, .unset] [(.int (1 : Int32))])) _
          refine XS.istore X0.here hx rfl (hb hby at_107) rfl (l' := #[.val (.int p0), .val (.int p1), .val (.int p2), .val (.int p3), .val (.int p4), .val (.int p5), .val (.int nn), .val (.int va), .val (.int vb), .val (.int vc), .val (.int vd), .val (.int (1 : Int32)), .val (.int (0 : Int32)), .val (.int (1 : Int32)), .unset, .unset, .unset, .unset, .unset, .unset, .unset, .unset, .unset, .unset, .unset]) rfl ?_
          exact kt)
        obtain ⟨T37, h37, X37, e37, E37, A37, D37, -, st37⟩ := newO X0 hx hZ hown (hw _ (List.mem_of_getElem? (i := 2) rfl)) (hw _ (List.mem_of_getElem? (i := 3) rfl)) (hw _ (List.mem_of_getElem? (i := 4) rfl)) e0 (g := (mkF m 109 #[.val (.int p0), .val (.int p1), .val (.int p2), .val (.int p3), .val (.int p4), .val (.int p5), .val (.int nn), .val (.int va), .val (.int vb), .val (.int vc), .val (.int vd), .val (.int (1 : Int32)), .val (.int (0 : Int32)), .val (.int (1 : Int32)), .unset, .unset, .unset, .unset, .unset, .unset, .unset, .unset, .unset, .unset, .unset] [])) rfl (hb hby at_109) (by decide) (by decide)
        obtain ⟨b, g37⟩ : ∃ z, z = h0.size := ⟨_, rfl⟩
        rw [← g37] at A37 D37 st37
        have O_b : n0 ≤ b := Nat.le_trans Z0 (Nat.le_of_eq g37.symm)
        have Z37 : n0 ≤ h37.size := Nat.le_trans Z0 E37.1
        have pre37s : ∀ tg, Steps p.tables e below (T37.setTop (mkF m 112 #[.val (.int p0), .val (.int p1), .val (.int p2), .val (.int p3), .val (.int p4), .val (.int p5), .val (.int nn), .val (.int va), .val (.int vb), .val (.int vc), .val (.int vd), .val (.int (1 : Int32)), .val (.int (0 : Int32)), .val (.int (1 : Int32)), .unset, .unset, .unset, .unset, .unset, .unset, .unset, .unset, .unset, .unset, .unset] [(.ref b)])) tg → G tg := fun tg kt => pre36 tg (st37 tg kt)
        have Fnodes_b : Fld Z h37 b "com/example/convene/convene/PairCounts" "nodes" "I" (.int (0 : Int32)) := D37 (Or.inr (hw _ (List.mem_of_getElem? (i := 12) rfl))) (ty := .int) (by decide)
        have Fbits_b : Fld Z h37 b "com/example/convene/convene/PairCounts" "bits" "I" (.int (0 : Int32)) := D37 (Or.inl (hw _ (List.mem_of_getElem? (i := 14) rfl))) (ty := .int) (by decide)
        have Fkeys_b : Fld Z h37 b "com/example/convene/convene/PairCounts" "keys" "[J" .null := D37 (Or.inl (hw _ (List.mem_of_getElem? (i := 17) rfl))) (ty := (.array .long)) (by decide)
        have Fcounts_b : Fld Z h37 b "com/example/convene/convene/PairCounts" "counts" "[J" .null := D37 (Or.inl (hw _ (List.mem_of_getElem? (i := 19) rfl))) (ty := (.array .long)) (by decide)
        have Fpairs_b : Fld Z h37 b "com/example/convene/convene/PairCounts" "pairs" "I" (.int (0 : Int32)) := D37 (Or.inl (hw _ (List.mem_of_getElem? (i := 42) rfl))) (ty := .int) (by decide)
        have pre38 : ∀ tg, Steps p.tables e below (T37.setTop (mkF m 115 #[.val (.int p0), .val (.int p1), .val (.int p2), .val (.int p3), .val (.int p4), .val (.int p5), .val (.int nn), .val (.int va), .val (.int vb), .val (.int vc), .val (.int vd), .val (.int (1 : Int32)), .val (.int (0 : Int32)), .val (.int (1 : Int32)), .unset, .unset, .unset, .unset, .unset, .unset, .unset, .unset, .unset, .unset, .unset] [(.int nn), (.ref b), (.ref b)])) tg → G tg := fun tg kt => pre37s tg (by
          show Steps p.tables e below (T37.setTop (mkF m 112 #[.val (.int p0), .val (.int p1), .val (.int p2), .val (.int p3), .val (.int p4), .val (.int p5), .val (.int nn), .val (.int va), .val (.int vb), .val (.int vc), .val (.int vd), .val (.int (1 : Int32)), .val (.int (0 : Int32)), .val (.int (1 : Int32)), .unset, .unset, .unset, .unset, .unset, .unset, .unset, .unset, .unset, .unset, .unset] [(.ref b)])) _
          refine XS.dup X37.here hx rfl (hb hby at_112) rfl rfl ?_
          show Steps p.tables e below (T37.setTop (mkF m 113 #[.val (.int p0), .val (.int p1), .val (.int p2), .val (.int p3), .val (.int p4), .val (.int p5), .val (.int nn), .val (.int va), .val (.int vb), .val (.int vc), .val (.int vd), .val (.int (1 : Int32)), .val (.int (0 : Int32)), .val (.int (1 : Int32)), .unset, .unset, .unset, .unset, .unset, .unset, .unset, .unset, .unset, .unset, .unset] [(.ref b), (.ref b)])) _
          refine XS.iload X37.here hx rfl (hb hby at_113) rfl ?_
          exact kt)
        obtain ⟨_, _, ⟨T39, L39, k39, n39⟩, -, X39, ⟨Lc39, hQ39, l39, y39, z39⟩, st39⟩ := X37.specialBack hx (y := (⟨"com/example/convene/convene/PairCounts", "<init>", "(I)V"⟩ : MethodName)) rfl hown (mvT hZ (hw _ (List.mem_of_getElem? (i := 5) rfl))) (mvT hZ (hw _ (List.mem_of_getElem? (i := 6) rfl))) (mvT hZ (hw _ (List.mem_of_getElem? (i := 7) rfl))) (by decide) (backOf (W := 1) (rm1 l Z a0 hw [] b nn h37 n0 Z37 A37 Fnodes_b Fbits_b Fkeys_b Fcounts_b Fpairs_b O_b) hZ (hw _ (List.mem_of_getElem? (i := 7) rfl)) (hw _ (List.mem_of_getElem? (i := 4) rfl)) (by decide) (by decide)) (g := (mkF m 115 #[.val (.int p0), .val (.int p1), .val (.int p2), .val (.int p3), .val (.int p4), .val (.int p5), .val (.int nn), .val (.int va), .val (.int vb), .val (.int vc), .val (.int vd), .val (.int (1 : Int32)), .val (.int (0 : Int32)), .val (.int (1 : Int32)), .unset, .unset, .unset, .unset, .unset, .unset, .unset, .unset, .unset, .unset, .unset] [(.int nn), (.ref b), (.ref b)])) rfl (by rw [hml]; rfl) (Steps.refl _) (a := b) (argsL := [(.int nn)]) (rest := [(.ref b)]) (lenOf pd_5 rfl) rfl (by show 2 * 0 + _ ≤ _; exact Nat.le_of_eq rfl) (hb hby at_115) (fun _ _ => ⟨rfl, e37, (Nat.le_of_ble_eq_true rfl), (Nat.le_of_ble_eq_true rfl)⟩)
        dsimp only [Pt.U, Pt.locs, Pt.cells, Pt.slots] at X39 l39 y39 z39 st39 hQ39
        subst l39 y39 z39
        obtain ⟨rfl, N39q, K39, kb, cb, kA, kC, O_kb, O_cb, ne1, ne2, ne3, Fnodes39, Fbits39, Fkeys39, Fcounts39, Fpairs39, Ak39, Ac39⟩ := hQ39
        have N39 := Fr.app N0 N39q
        have pre39s : ∀ tg, Steps p.tables e below (T39.setTop (mkF m 118 #[.val (.int p0), .val (.int p1), .val (.int p2), .val (.int p3), .val (.int p4), .val (.int p5), .val (.int nn), .val (.int va), .val (.int vb), .val (.int vc), .val (.int vd), .val (.int (1 : Int32)), .val (.int (0 : Int32)), .val (.int (1 : Int32)), .unset, .unset, .unset, .unset, .unset, .unset, .unset, .unset, .unset, .unset, .unset] [(.ref b)])) tg → G tg := fun tg kt => pre38 tg (st39.trans kt)
        have Z39 : n0 ≤ T39.heap.size := Nat.le_trans Z37 K39.1
        have A37_40 := A37.keep K39
        have hK1 := own_key0 hn iva ivb hab
        have pre41 : ∀ tg, Steps p.tables e below (T39.setTop (mkF m 131 #[.val (.int p0), .val (.int p1), .val (.int p2), .val (.int p3), .val (.int p4), .val (.int p5), .val (.int nn), .val (.int va), .val (.int vb), .val (.int vc), .val (.int vd), .val (.int (1 : Int32)), .val (.int (0 : Int32)), .val (.int (1 : Int32)), .val (.ref b), .unset, .unset, .unset, .unset, .unset, .unset, .unset, .unset, .unset, .unset] [(.int vb), (.int va), (.ref b)])) tg → G tg := fun tg kt => pre39s tg (by
          show Steps p.tables e below (T39.setTop (mkF m 118 #[.val (.int p0), .val (.int p1), .val (.int p2), .val (.int p3), .val (.int p4), .val (.int p5), .val (.int nn), .val (.int va), .val (.int vb), .val (.int vc), .val (.int vd), .val (.int (1 : Int32)), .val (.int (0 : Int32)), .val (.int (1 : Int32)), .unset, .unset, .unset, .unset, .unset, .unset, .unset, .unset, .unset, .unset, .unset] [(.ref b)])) _
          refine XS.astore X39.here hx rfl (hb hby at_118) rfl rfl (l' := #[.val (.int p0), .val (.int p1), .val (.int p2), .val (.int p3), .val (.int p4), .val (.int p5), .val (.int nn), .val (.int va), .val (.int vb), .val (.int vc), .val (.int vd), .val (.int (1 : Int32)), .val (.int (0 : Int32)), .val (.int (1 : Int32)), .val (.ref b), .unset, .unset, .unset, .unset, .unset, .unset, .unset, .unset, .unset, .unset]) rfl ?_
          show Steps p.tables e below (T39.setTop (mkF m 120 #[.val (.int p0), .val (.int p1), .val (.int p2), .val (.int p3), .val (.int p4), .val (.int p5), .val (.int nn), .val (.int va), .val (.int vb), .val (.int vc), .val (.int vd), .val (.int (1 : Int32)), .val (.int (0 : Int32)), .val (.int (1 : Int32)), .val (.ref b), .unset, .unset, .unset, .unset, .unset, .unset, .unset, .unset, .unset, .unset] [])) _
          refine XS.iload X39.here hx rfl (hb hby at_120) rfl ?_
          show Steps p.tables e below (T39.setTop (mkF m 122 #[.val (.int p0), .val (.int p1), .val (.int p2), .val (.int p3), .val (.int p4), .val (.int p5), .val (.int nn), .val (.int va), .val (.int vb), .val (.int vc), .val (.int vd), .val (.int (1 : Int32)), .val (.int (0 : Int32)), .val (.int (1 : Int32)), .val (.ref b), .unset, .unset, .unset, .unset, .unset, .unset, .unset, .unset, .unset, .unset] [(.int (1 : Int32))])) _
          refine XS.ifNo X39.here hx rfl (hb hby at_122) rfl ((if0 _ _).trans (feq (by decide : ¬ ((1 : Int32) = (0 : Int32)))).1) ?_
          show Steps p.tables e below (T39.setTop (mkF m 125 #[.val (.int p0), .val (.int p1), .val (.int p2), .val (.int p3), .val (.int p4), .val (.int p5), .val (.int nn), .val (.int va), .val (.int vb), .val (.int vc), .val (.int vd), .val (.int (1 : Int32)), .val (.int (0 : Int32)), .val (.int (1 : Int32)), .val (.ref b), .unset, .unset, .unset, .unset, .unset, .unset, .unset, .unset, .unset, .unset] [])) _
          refine XS.aload X39.here hx rfl (hb hby at_125) rfl rfl ?_
          show Steps p.tables e below (T39.setTop (mkF m 127 #[.val (.int p0), .val (.int p1), .val (.int p2), .val (.int p3), .val (.int p4), .val (.int p5), .val (.int nn), .val (.int va), .val (.int vb), .val (.int vc), .val (.int vd), .val (.int (1 : Int32)), .val (.int (0 : Int32)), .val (.int (1 : Int32)), .val (.ref b), .unset, .unset, .unset, .unset, .unset, .unset, .unset, .unset, .unset, .unset] [(.ref b)])) _
          refine XS.iload X39.here hx rfl (hb hby at_127) rfl ?_
          show Steps p.tables e below (T39.setTop (mkF m 129 #[.val (.int p0), .val (.int p1), .val (.int p2), .val (.int p3), .val (.int p4), .val (.int p5), .val (.int nn), .val (.int va), .val (.int vb), .val (.int vc), .val (.int vd), .val (.int (1 : Int32)), .val (.int (0 : Int32)), .val (.int (1 : Int32)), .val (.ref b), .unset, .unset, .unset, .unset, .unset, .unset, .unset, .unset, .unset, .unset] [(.int va), (.ref b)])) _
          refine XS.iload X39.here hx rfl (hb hby at_129) rfl ?_
          exact kt)
        obtain ⟨cq42, kq42, q42a, q42b, q42c⟩ := isOf hZ rfl A37_40
        obtain ⟨_, _, ⟨T42, L42, k42, n42⟩, -, X42, ⟨Lc42, hQ42, l42, y42, z42⟩, st42⟩ := X39.virtualBack hx (y := (⟨"com/example/convene/convene/PairCounts", "add", "(II)V"⟩ : MethodName)) (z := (⟨"com/example/convene/convene/PairCounts", "add", "(II)V"⟩ : MethodName)) hown (mvT hZ (hw _ (List.mem_of_getElem? (i := 20) rfl))) (mvT hZ (hw _ (List.mem_of_getElem? (i := 21) rfl))) (notFace_of_selects (args := #[]) (mvT hZ (hw _ (List.mem_of_getElem? (i := 23) rfl)))) (mvT hZ (hw _ (List.mem_of_getElem? (i := 23) rfl))) (mvT hZ (hw _ (List.mem_of_getElem? (i := 22) rfl))) (by decide) (backOf (W := 0) (rm3n l Z a0 hw [] b va vb nn kb cb kA kC own_z own_z (0 : Int32) (own_key va vb nn) (own_hn (own_key va vb nn)) T39.heap n0 Z39 A37_40 Fnodes39 Fbits39 Fkeys39 Fcounts39 Fpairs39 Ak39 Ac39 O_b O_kb O_cb ne1 ne2 ne3 rfl (own_pz rfl) (own_hlt _) hab rfl (by decide)) hZ (hw _ (List.mem_of_getElem? (i := 24) rfl)) (hw _ (List.mem_of_getElem? (i := 4) rfl)) (by decide) (by decide)) q42a q42c (g := (mkF m 131 #[.val (.int p0), .val (.int p1), .val (.int p2), .val (.int p3), .val (.int p4), .val (.int p5), .val (.int nn), .val (.int va), .val (.int vb), .val (.int vc), .val (.int vd), .val (.int (1 : Int32)), .val (.int (0 : Int32)), .val (.int (1 : Int32)), .val (.ref b), .unset, .unset, .unset, .unset, .unset, .unset, .unset, .unset, .unset, .unset] [(.int vb), (.int va), (.ref b)])) rfl (by rw [hml]; rfl) (Steps.refl _) (argsL := [(.int va), (.int vb)]) (rest := []) (lenOf pd_6 rfl) rfl (by show 2 * 0 + _ ≤ _; exact Nat.le_of_eq rfl) (hb hby at_131) (fun _ _ => ⟨rfl, rfl, (Nat.le_of_ble_eq_true rfl), (Nat.le_of_ble_eq_true rfl)⟩)
        dsimp only [Pt.U, Pt.locs, Pt.cells, Pt.slots] at X42 l42 y42 z42 st42 hQ42
        subst l42 y42 z42
        obtain ⟨rfl, N42q, K42, Fnodes42, Fbits42, Fkeys42, Fcounts42, Fpairs42, Ak42, Ac42⟩ := hQ42
        have N42 := Fr.app N39 N42q
        have pre42s : ∀ tg, Steps p.tables e below (T42.setTop (mkF m 134 #[.val (.int p0), .val (.int p1), .val (.int p2), .val (.int p3), .val (.int p4), .val (.int p5), .val (.int nn), .val (.int va), .val (.int vb), .val (.int vc), .val (.int vd), .val (.int (1 : Int32)), .val (.int (0 : Int32)), .val (.int (1 : Int32)), .val (.ref b), .unset, .unset, .unset, .unset, .unset, .unset, .unset, .unset, .unset, .unset] [])) tg → G tg := fun tg kt => pre41 tg (st42.trans kt)
        have Z42 : n0 ≤ T42.heap.size := Nat.le_trans Z39 K42.1
        have A37_43 := A37_40.keep K42
        have pre44 : ∀ tg, Steps p.tables e below (T42.setTop (mkF m 159 #[.val (.int p0), .val (.int p1), .val (.int p2), .val (.int p3), .val (.int p4), .val (.int p5), .val (.int nn), .val (.int va), .val (.int vb), .val (.int vc), .val (.int vd), .val (.int (1 : Int32)), .val (.int (0 : Int32)), .val (.int (1 : Int32)), .val (.ref b), .unset, .unset, .unset, .unset, .unset, .unset, .unset, .unset, .unset, .unset] [(.int va), (.int vb), (.ref b)])) tg → G tg := fun tg kt => pre42s tg (by
          show Steps p.tables e below (T42.setTop (mkF m 134 #[.val (.int p0), .val (.int p1), .val (.int p2), .val (.int p3), .val (.int p4), .val (.int p5), .val (.int nn), .val (.int va), .val (.int vb), .val (.int vc), .val (.int vd), .val (.int (1 : Int32)), .val (.int (0 : Int32)), .val (.int (1 : Int32)), .val (.ref b), .unset, .unset, .unset, .unset, .unset, .unset, .unset, .unset, .unset, .unset] [])) _
          refine XS.iload X42.here hx rfl (hb hby at_134) rfl ?_
          show Steps p.tables e below (T42.setTop (mkF m 136 #[.val (.int p0), .val (.int p1), .val (.int p2), .val (.int p3), .val (.int p4), .val (.int p5), .val (.int nn), .val (.int va), .val (.int vb), .val (.int vc), .val (.int vd), .val (.int (1 : Int32)), .val (.int (0 : Int32)), .val (.int (1 : Int32)), .val (.ref b), .unset, .unset, .unset, .unset, .unset, .unset, .unset, .unset, .unset, .unset] [(.int (0 : Int32))])) _
          refine XS.ifYes X42.here hx rfl (pc0 := 136) (pc' := 148) rfl (hb hby at_136) rfl ((if0 _ _).trans (teq (by decide : (0 : Int32) = (0 : Int32))).1) (by decide) (by decide) ?_
          show Steps p.tables e below (T42.setTop (mkF m 148 #[.val (.int p0), .val (.int p1), .val (.int p2), .val (.int p3), .val (.int p4), .val (.int p5), .val (.int nn), .val (.int va), .val (.int vb), .val (.int vc), .val (.int vd), .val (.int (1 : Int32)), .val (.int (0 : Int32)), .val (.int (1 : Int32)), .val (.ref b), .unset, .unset, .unset, .unset, .unset, .unset, .unset, .unset, .unset, .unset] [])) _
          refine XS.iload X42.here hx rfl (hb hby at_148) rfl ?_
          show Steps p.tables e below (T42.setTop (mkF m 150 #[.val (.int p0), .val (.int p1), .val (.int p2), .val (.int p3), .val (.int p4), .val (.int p5), .val (.int nn), .val (.int va), .val (.int vb), .val (.int vc), .val (.int vd), .val (.int (1 : Int32)), .val (.int (0 : Int32)), .val (.int (1 : Int32)), .val (.ref b), .unset, .unset, .unset, .unset, .unset, .unset, .unset, .unset, .unset, .unset] [(.int (1 : Int32))])) _
          refine XS.ifNo X42.here hx rfl (hb hby at_150) rfl ((if0 _ _).trans (feq (by decide : ¬ ((1 : Int32) = (0 : Int32)))).1) ?_
          show Steps p.tables e below (T42.setTop (mkF m 153 #[.val (.int p0), .val (.int p1), .val (.int p2), .val (.int p3), .val (.int p4), .val (.int p5), .val (.int nn), .val (.int va), .val (.int vb), .val (.int vc), .val (.int vd), .val (.int (1 : Int32)), .val (.int (0 : Int32)), .val (.int (1 : Int32)), .val (.ref b), .unset, .unset, .unset, .unset, .unset, .unset, .unset, .unset, .unset, .unset] [])) _
          refine XS.aload X42.here hx rfl (hb hby at_153) rfl rfl ?_
          show Steps p.tables e below (T42.setTop (mkF m 155 #[.val (.int p0), .val (.int p1), .val (.int p2), .val (.int p3), .val (.int p4), .val (.int p5), .val (.int nn), .val (.int va), .val (.int vb), .val (.int vc), .val (.int vd), .val (.int (1 : Int32)), .val (.int (0 : Int32)), .val (.int (1 : Int32)), .val (.ref b), .unset, .unset, .unset, .unset, .unset, .unset, .unset, .unset, .unset, .unset] [(.ref b)])) _
          refine XS.iload X42.here hx rfl (hb hby at_155) rfl ?_
          show Steps p.tables e below (T42.setTop (mkF m 157 #[.val (.int p0), .val (.int p1), .val (.int p2), .val (.int p3), .val (.int p4), .val (.int p5), .val (.int nn), .val (.int va), .val (.int vb), .val (.int vc), .val (.int vd), .val (.int (1 : Int32)), .val (.int (0 : Int32)), .val (.int (1 : Int32)), .val (.ref b), .unset, .unset, .unset, .unset, .unset, .unset, .unset, .unset, .unset, .unset] [(.int vb), (.ref b)])) _
          refine XS.iload X42.here hx rfl (hb hby at_157) rfl ?_
          exact kt)
        obtain ⟨cq45, kq45, q45a, q45b, q45c⟩ := isOf hZ rfl A37_43
        obtain ⟨_, _, ⟨T45, L45, k45, n45⟩, -, X45, ⟨Lc45, hQ45, l45, y45, z45⟩, st45⟩ := X42.virtualBack hx (y := (⟨"com/example/convene/convene/PairCounts", "add", "(II)V"⟩ : MethodName)) (z := (⟨"com/example/convene/convene/PairCounts", "add", "(II)V"⟩ : MethodName)) hown (mvT hZ (hw _ (List.mem_of_getElem? (i := 20) rfl))) (mvT hZ (hw _ (List.mem_of_getElem? (i := 21) rfl))) (notFace_of_selects (args := #[]) (mvT hZ (hw _ (List.mem_of_getElem? (i := 23) rfl)))) (mvT hZ (hw _ (List.mem_of_getElem? (i := 23) rfl))) (mvT hZ (hw _ (List.mem_of_getElem? (i := 22) rfl))) (by decide) (backOf (W := 0) (rm3o l Z a0 hw [] b vb va nn kb cb kA kC (own_upd own_z (own_hn (own_key va vb nn)) (own_key va vb nn)) (own_upd own_z (own_hn (own_key va vb nn)) ((own_z (own_hn (own_key va vb nn))) + (1 : Int64))) ((0 : Int32) + (1 : Int32)) (own_key va vb nn) (own_hn (own_key va vb nn)) T42.heap n0 Z42 A37_43 Fnodes42 Fbits42 Fkeys42 Fcounts42 Fpairs42 Ak42 Ac42 O_b O_kb O_cb ne1 ne2 ne3 (own_key_sym hn iva ivb) (own_pk (own_upd_eq _ _ _)) (own_hlt _) (fun q => hab q.symm) (by rw [own_upd_eq]; exact hK1)) hZ (hw _ (List.mem_of_getElem? (i := 24) rfl)) (hw _ (List.mem_of_getElem? (i := 4) rfl)) (by decide) (by decide)) q45a q45c (g := (mkF m 159 #[.val (.int p0), .val (.int p1), .val (.int p2), .val (.int p3), .val (.int p4), .val (.int p5), .val (.int nn), .val (.int va), .val (.int vb), .val (.int vc), .val (.int vd), .val (.int (1 : Int32)), .val (.int (0 : Int32)), .val (.int (1 : Int32)), .val (.ref b), .unset, .unset, .unset, .unset, .unset, .unset, .unset, .unset, .unset, .unset] [(.int va), (.int vb), (.ref b)])) rfl (by rw [hml]; rfl) (Steps.refl _) (argsL := [(.int vb), (.int va)]) (rest := []) (lenOf pd_6 rfl) rfl (by show 2 * 0 + _ ≤ _; exact Nat.le_of_eq rfl) (hb hby at_159) (fun _ _ => ⟨rfl, rfl, (Nat.le_of_ble_eq_true rfl), (Nat.le_of_ble_eq_true rfl)⟩)
        dsimp only [Pt.U, Pt.locs, Pt.cells, Pt.slots] at X45 l45 y45 z45 st45 hQ45
        subst l45 y45 z45
        obtain ⟨rfl, N45q, K45, Fnodes45, Fbits45, Fkeys45, Fcounts45, Fpairs45, Ak45, Ac45⟩ := hQ45
        have N45 := Fr.app N42 N45q
        have pre45s : ∀ tg, Steps p.tables e below (T45.setTop (mkF m 162 #[.val (.int p0), .val (.int p1), .val (.int p2), .val (.int p3), .val (.int p4), .val (.int p5), .val (.int nn), .val (.int va), .val (.int vb), .val (.int vc), .val (.int vd), .val (.int (1 : Int32)), .val (.int (0 : Int32)), .val (.int (1 : Int32)), .val (.ref b), .unset, .unset, .unset, .unset, .unset, .unset, .unset, .unset, .unset, .unset] [])) tg → G tg := fun tg kt => pre44 tg (st45.trans kt)
        have Z45 : n0 ≤ T45.heap.size := Nat.le_trans Z42 K45.1
        have A37_46 := A37_43.keep K45
        rw [own_upd_eq, own_upd_upd] at Ac45
        have hMM : ∀ Kq : Int64, Kq ≠ 0 → (fun K => if (own_key va vb nn) = K then (((own_z (own_hn (own_key va vb nn))) + (1 : Int64)) + (1 : Int64)) else 0) Kq = own_sum (1 : Int32) (0 : Int32) (1 : Int32) (own_key va vb nn) (own_key vc vd nn) Kq := by
          intro Kq _
          unfold own_sum own_e own_z
          by_cases q : (own_key va vb nn) = Kq <;> simp [q]
        obtain ⟨T47, lo47, pcE, LsE, X47, e47, N47, dE, st47⟩ := own_tail n0 p0 p1 p2 p3 p4 p5 nn va vb vc vd (1 : Int32) (0 : Int32) (1 : Int32) b kb cb kA kC (own_upd own_z (own_hn (own_key va vb nn)) (own_key va vb nn)) (own_upd own_z (own_hn (own_key va vb nn)) (((own_z (own_hn (own_key va vb nn))) + (1 : Int64)) + (1 : Int64))) ((0 : Int32) + (1 : Int32)) (fun K => if (own_key va vb nn) = K then (((own_z (own_hn (own_key va vb nn))) + (1 : Int64)) + (1 : Int64)) else 0) X45 hx hZ hw hby hml hown rfl N45 Z45 (by decide) (by decide) A37_46 Fnodes45 Fbits45 Fkeys45 Fcounts45 Fpairs45 Ak45 Ac45 (own_L1 own_hlt hK1 (((own_z (own_hn (own_key va vb nn))) + (1 : Int64)) + (1 : Int64))) hMM hn iva ivb ivc ivd
        obtain ⟨fs, hr, hrun, hended, hW, hsame⟩ := X47.leave (v := some (.int (1 : Int32))) (fun h => by rw [Bd.returns] at h; cases h)
        subst hG
        refine ⟨_, _, pre45s _ (st47 _ ?_), hrun, hended, _, _, rfl, ?_, ⟨_, rfl⟩, hW, hsame.mono (by decide) (by decide)⟩
        · exact retN X47 hx (t := .boolean) Bd.returns (by simp) (hb hby dE) hr
        · exact ⟨rfl, N47⟩
    · -- not hcd
      have pre48 : ∀ tg, Steps p.tables e below (s₁.setTop (mkF m 99 #[.val (.int p0), .val (.int p1), .val (.int p2), .val (.int p3), .val (.int p4), .val (.int p5), .val (.int nn), .val (.int va), .val (.int vb), .val (.int vc), .val (.int vd), .val (.int (1 : Int32)), .val (.int (1 : Int32)), .unset, .unset, .unset, .unset, .unset, .unset, .unset, .unset, .unset, .unset, .unset, .unset] [(.int (p5 &&& (16 : Int32)))])) tg → G tg := fun tg kt => pre24 tg (by
        show Steps p.tables e below (s₁.setTop (mkF m 79 #[.val (.int p0), .val (.int p1), .val (.int p2), .val (.int p3), .val (.int p4), .val (.int p5), .val (.int nn), .val (.int va), .val (.int vb), .val (.int vc), .val (.int vd), .val (.int (1 : Int32)), .unset, .unset, .unset, .unset, .unset, .unset, .unset, .unset, .unset, .unset, .unset, .unset, .unset] [(.int vd), (.int vc)])) _
        refine XS.icmpNo X0.here hx rfl (hb hby at_79) rfl (feq hcd).1 ?_
        show Steps p.tables e below (s₁.setTop (mkF m 82 #[.val (.int p0), .val (.int p1), .val (.int p2), .val (.int p3), .val (.int p4), .val (.int p5), .val (.int nn), .val (.int va), .val (.int vb), .val (.int vc), .val (.int vd), .val (.int (1 : Int32)), .unset, .unset, .unset, .unset, .unset, .unset, .unset, .unset, .unset, .unset, .unset, .unset, .unset] [])) _
        refine XS.iconst X0.here hx rfl (hb hby at_82) ?_
        show Steps p.tables e below (s₁.setTop (mkF m 83 #[.val (.int p0), .val (.int p1), .val (.int p2), .val (.int p3), .val (.int p4), .val (.int p5), .val (.int nn), .val (.int va), .val (.int vb), .val (.int vc), .val (.int vd), .val (.int (1 : Int32)), .unset, .unset, .unset, .unset, .unset, .unset, .unset, .unset, .unset, .unset, .unset, .unset, .unset] [(.int (1 : Int32))])) _
        refine XS.goto X0.here hx rfl (pc0 := 83) (pc' := 87) rfl (hb hby at_83) (by decide) (by decide) ?_
        show Steps p.tables e below (s₁.setTop (mkF m 87 #[.val (.int p0), .val (.int p1), .val (.int p2), .val (.int p3), .val (.int p4), .val (.int p5), .val (.int nn), .val (.int va), .val (.int vb), .val (.int vc), .val (.int vd), .val (.int (1 : Int32)), .unset, .unset, .unset, .unset, .unset, .unset, .unset, .unset, .unset, .unset, .unset, .unset, .unset] [(.int (1 : Int32))])) _
        refine XS.istore X0.here hx rfl (hb hby at_87) rfl (l' := #[.val (.int p0), .val (.int p1), .val (.int p2), .val (.int p3), .val (.int p4), .val (.int p5), .val (.int nn), .val (.int va), .val (.int vb), .val (.int vc), .val (.int vd), .val (.int (1 : Int32)), .val (.int (1 : Int32)), .unset, .unset, .unset, .unset, .unset, .unset, .unset, .unset, .unset, .unset, .unset, .unset]) rfl ?_
        show Steps p.tables e below (s₁.setTop (mkF m 89 #[.val (.int p0), .val (.int p1), .val (.int p2), .val (.int p3), .val (.int p4), .val (.int p5), .val (.int nn), .val (.int va), .val (.int vb), .val (.int vc), .val (.int vd), .val (.int (1 : Int32)), .val (.int (1 : Int32)), .unset, .unset, .unset, .unset, .unset, .unset, .unset, .unset, .unset, .unset, .unset, .unset] [])) _
        refine XS.iload X0.here hx rfl (hb hby at_89) rfl ?_
        show Steps p.tables e below (s₁.setTop (mkF m 91 #[.val (.int p0), .val (.int p1), .val (.int p2), .val (.int p3), .val (.int p4), .val (.int p5), .val (.int nn), .val (.int va), .val (.int vb), .val (.int vc), .val (.int vd), .val (.int (1 : Int32)), .val (.int (1 : Int32)), .unset, .unset, .unset, .unset, .unset, .unset, .unset, .unset, .unset, .unset, .unset, .unset] [(.int (1 : Int32))])) _
        refine XS.ifNo X0.here hx rfl (hb hby at_91) rfl ((if0 _ _).trans (feq (by decide : ¬ ((1 : Int32) = (0 : Int32)))).1) ?_
        show Steps p.tables e below (s₁.setTop (mkF m 94 #[.val (.int p0), .val (.int p1), .val (.int p2), .val (.int p3), .val (.int p4), .val (.int p5), .val (.int nn), .val (.int va), .val (.int vb), .val (.int vc), .val (.int vd), .val (.int (1 : Int32)), .val (.int (1 : Int32)), .unset, .unset, .unset, .unset, .unset, .unset, .unset, .unset, .unset, .unset, .unset, .unset] [])) _
        refine XS.iload X0.here hx rfl (hb hby at_94) rfl ?_
        show Steps p.tables e below (s₁.setTop (mkF m 96 #[.val (.int p0), .val (.int p1), .val (.int p2), .val (.int p3), .val (.int p4), .val (.int p5), .val (.int nn), .val (.int va), .val (.int vb), .val (.int vc), .val (.int vd), .val (.int (1 : Int32)), .val (.int (1 : Int32)), .unset, .unset, .unset, .unset, .unset, .unset, .unset, .unset, .unset, .unset, .unset, .unset] [(.int p5)])) _
        refine XS.bipush X0.here hx rfl (hb hby at_96) ?_
        show Steps p.tables e below (s₁.setTop (mkF m 98 #[.val (.int p0), .val (.int p1), .val (.int p2), .val (.int p3), .val (.int p4), .val (.int p5), .val (.int nn), .val (.int va), .val (.int vb), .val (.int vc), .val (.int vd), .val (.int (1 : Int32)), .val (.int (1 : Int32)), .unset, .unset, .unset, .unset, .unset, .unset, .unset, .unset, .unset, .unset, .unset, .unset] [(.int (16 : Int32)), (.int p5)])) _
        refine XS.iand X0.here hx rfl (hb hby at_98) rfl ?_
        exact kt)
      by_cases h16 : (p5 &&& (16 : Int32)) = (0 : Int32)
      · -- h16
        have pre49 : ∀ tg, Steps p.tables e below (s₁.setTop (mkF m 109 #[.val (.int p0), .val (.int p1), .val (.int p2), .val (.int p3), .val (.int p4), .val (.int p5), .val (.int nn), .val (.int va), .val (.int vb), .val (.int vc), .val (.int vd), .val (.int (1 : Int32)), .val (.int (1 : Int32)), .val (.int (0 : Int32)), .unset, .unset, .unset, .unset, .unset, .unset, .unset, .unset, .unset, .unset, .unset] [])) tg → G tg := fun tg kt => pre48 tg (by
          show Steps p.tables e below (s₁.setTop (mkF m 99 #[.val (.int p0), .val (.int p1), .val (.int p2), .val (.int p3), .val (.int p4), .val (.int p5), .val (.int nn), .val (.int va), .val (.int vb), .val (.int vc), .val (.int vd), .val (.int (1 : Int32)), .val (.int (1 : Int32)), .unset, .unset, .unset, .unset, .unset, .unset, .unset, .unset, .unset, .unset, .unset, .unset] [(.int (p5 &&& (16 : Int32)))])) _
          refine XS.ifYes X0.here hx rfl (pc0 := 99) (pc' := 106) rfl (hb hby at_99) rfl ((if0 _ _).trans (teq h16).1) (by decide) (by decide) ?_
          show Steps p.tables e below (s₁.setTop (mkF m 106 #[.val (.int p0), .val (.int p1), .val (.int p2), .val (.int p3), .val (.int p4), .val (.int p5), .val (.int nn), .val (.int va), .val (.int vb), .val (.int vc), .val (.int vd), .val (.int (1 : Int32)), .val (.int (1 : Int32)), .unset, .unset, .unset, .unset, .unset, .unset, .unset, .unset, .unset, .unset, .unset, .unset] [])) _
          refine XS.iconst X0.here hx rfl (hb hby at_106) ?_
          show Steps p.tables e below (s₁.setTop (mkF m 107 #[.val (.int p0), .val (.int p1), .val (.int p2), .val (.int p3), .val (.int p4), .val (.int p5), .val (.int nn), .val (.int va), .val (.int vb), .val (.int vc), .val (.int vd), .val (.int (1 : Int32)), .val (.int (1 : Int32)), .unset, .unset, .unset, .unset, .unset, .unset, .unset, .unset, .unset, .unset, .unset, .unset] [(.int (0 : Int32))])) _
          refine XS.istore X0.here hx rfl (hb hby at_107) rfl (l' := #[.val (.int p0), .val (.int p1), .val (.int p2), .val (.int p3), .val (.int p4), .val (.int p5), .val (.int nn), .val (.int va), .val (.int vb), .val (.int vc), .val (.int vd), .val (.int (1 : Int32)), .val (.int (1 : Int32)), .val (.int (0 : Int32)), .unset, .unset, .unset, .unset, .unset, .unset, .unset, .unset, .unset, .unset, .unset]) rfl ?_
          exact kt)
        obtain ⟨T50, h50, X50, e50, E50, A50, D50, -, st50⟩ := newO X0 hx hZ hown (hw _ (List.mem_of_getElem? (i := 2) rfl)) (hw _ (List.mem_of_getElem? (i := 3) rfl)) (hw _ (List.mem_of_getElem? (i := 4) rfl)) e0 (g := (mkF m 109 #[.val (.int p0), .val (.int p1), .val (.int p2), .val (.int p3), .val (.int p4), .val (.int p5), .val (.int nn), .val (.int va), .val (.int vb), .val (.int vc), .val (.int vd), .val (.int (1 : Int32)), .val (.int (1 : Int32)), .val (.int (0 : Int32)), .unset, .unset, .unset, .unset, .unset, .unset, .unset, .unset, .unset, .unset, .unset] [])) rfl (hb hby at_109) (by decide) (by decide)
        obtain ⟨b, g50⟩ : ∃ z, z = h0.size := ⟨_, rfl⟩
        rw [← g50] at A50 D50 st50
        have O_b : n0 ≤ b := Nat.le_trans Z0 (Nat.le_of_eq g50.symm)
        have Z50 : n0 ≤ h50.size := Nat.le_trans Z0 E50.1
        have pre50s : ∀ tg, Steps p.tables e below (T50.setTop (mkF m 112 #[.val (.int p0), .val (.int p1), .val (.int p2), .val (.int p3), .val (.int p4), .val (.int p5), .val (.int nn), .val (.int va), .val (.int vb), .val (.int vc), .val (.int vd), .val (.int (1 : Int32)), .val (.int (1 : Int32)), .val (.int (0 : Int32)), .unset, .unset, .unset, .unset, .unset, .unset, .unset, .unset, .unset, .unset, .unset] [(.ref b)])) tg → G tg := fun tg kt => pre49 tg (st50 tg kt)
        have Fnodes_b : Fld Z h50 b "com/example/convene/convene/PairCounts" "nodes" "I" (.int (0 : Int32)) := D50 (Or.inr (hw _ (List.mem_of_getElem? (i := 12) rfl))) (ty := .int) (by decide)
        have Fbits_b : Fld Z h50 b "com/example/convene/convene/PairCounts" "bits" "I" (.int (0 : Int32)) := D50 (Or.inl (hw _ (List.mem_of_getElem? (i := 14) rfl))) (ty := .int) (by decide)
        have Fkeys_b : Fld Z h50 b "com/example/convene/convene/PairCounts" "keys" "[J" .null := D50 (Or.inl (hw _ (List.mem_of_getElem? (i := 17) rfl))) (ty := (.array .long)) (by decide)
        have Fcounts_b : Fld Z h50 b "com/example/convene/convene/PairCounts" "counts" "[J" .null := D50 (Or.inl (hw _ (List.mem_of_getElem? (i := 19) rfl))) (ty := (.array .long)) (by decide)
        have Fpairs_b : Fld Z h50 b "com/example/convene/convene/PairCounts" "pairs" "I" (.int (0 : Int32)) := D50 (Or.inl (hw _ (List.mem_of_getElem? (i := 42) rfl))) (ty := .int) (by decide)
        have pre51 : ∀ tg, Steps p.tables e below (T50.setTop (mkF m 115 #[.val (.int p0), .val (.int p1), .val (.int p2), .val (.int p3), .val (.int p4), .val (.int p5), .val (.int nn), .val (.int va), .val (.int vb), .val (.int vc), .val (.int vd), .val (.int (1 : Int32)), .val (.int (1 : Int32)), .val (.int (0 : Int32)), .unset, .unset, .unset, .unset, .unset, .unset, .unset, .unset, .unset, .unset, .unset] [(.int nn), (.ref b), (.ref b)])) tg → G tg := fun tg kt => pre50s tg (by
          show Steps p.tables e below (T50.setTop (mkF m 112 #[.val (.int p0), .val (.int p1), .val (.int p2), .val (.int p3), .val (.int p4), .val (.int p5), .val (.int nn), .val (.int va), .val (.int vb), .val (.int vc), .val (.int vd), .val (.int (1 : Int32)), .val (.int (1 : Int32)), .val (.int (0 : Int32)), .unset, .unset, .unset, .unset, .unset, .unset, .unset, .unset, .unset, .unset, .unset] [(.ref b)])) _
          refine XS.dup X50.here hx rfl (hb hby at_112) rfl rfl ?_
          show Steps p.tables e below (T50.setTop (mkF m 113 #[.val (.int p0), .val (.int p1), .val (.int p2), .val (.int p3), .val (.int p4), .val (.int p5), .val (.int nn), .val (.int va), .val (.int vb), .val (.int vc), .val (.int vd), .val (.int (1 : Int32)), .val (.int (1 : Int32)), .val (.int (0 : Int32)), .unset, .unset, .unset, .unset, .unset, .unset, .unset, .unset, .unset, .unset, .unset] [(.ref b), (.ref b)])) _
          refine XS.iload X50.here hx rfl (hb hby at_113) rfl ?_
          exact kt)
        obtain ⟨_, _, ⟨T52, L52, k52, n52⟩, -, X52, ⟨Lc52, hQ52, l52, y52, z52⟩, st52⟩ := X50.specialBack hx (y := (⟨"com/example/convene/convene/PairCounts", "<init>", "(I)V"⟩ : MethodName)) rfl hown (mvT hZ (hw _ (List.mem_of_getElem? (i := 5) rfl))) (mvT hZ (hw _ (List.mem_of_getElem? (i := 6) rfl))) (mvT hZ (hw _ (List.mem_of_getElem? (i := 7) rfl))) (by decide) (backOf (W := 1) (rm1 l Z a0 hw [] b nn h50 n0 Z50 A50 Fnodes_b Fbits_b Fkeys_b Fcounts_b Fpairs_b O_b) hZ (hw _ (List.mem_of_getElem? (i := 7) rfl)) (hw _ (List.mem_of_getElem? (i := 4) rfl)) (by decide) (by decide)) (g := (mkF m 115 #[.val (.int p0), .val (.int p1), .val (.int p2), .val (.int p3), .val (.int p4), .val (.int p5), .val (.int nn), .val (.int va), .val (.int vb), .val (.int vc), .val (.int vd), .val (.int (1 : Int32)), .val (.int (1 : Int32)), .val (.int (0 : Int32)), .unset, .unset, .unset, .unset, .unset, .unset, .unset, .unset, .unset, .unset, .unset] [(.int nn), (.ref b), (.ref b)])) rfl (by rw [hml]; rfl) (Steps.refl _) (a := b) (argsL := [(.int nn)]) (rest := [(.ref b)]) (lenOf pd_5 rfl) rfl (by show 2 * 0 + _ ≤ _; exact Nat.le_of_eq rfl) (hb hby at_115) (fun _ _ => ⟨rfl, e50, (Nat.le_of_ble_eq_true rfl), (Nat.le_of_ble_eq_true rfl)⟩)
        dsimp only [Pt.U, Pt.locs, Pt.cells, Pt.slots] at X52 l52 y52 z52 st52 hQ52
        subst l52 y52 z52
        obtain ⟨rfl, N52q, K52, kb, cb, kA, kC, O_kb, O_cb, ne1, ne2, ne3, Fnodes52, Fbits52, Fkeys52, Fcounts52, Fpairs52, Ak52, Ac52⟩ := hQ52
        have N52 := Fr.app N0 N52q
        have pre52s : ∀ tg, Steps p.tables e below (T52.setTop (mkF m 118 #[.val (.int p0), .val (.int p1), .val (.int p2), .val (.int p3), .val (.int p4), .val (.int p5), .val (.int nn), .val (.int va), .val (.int vb), .val (.int vc), .val (.int vd), .val (.int (1 : Int32)), .val (.int (1 : Int32)), .val (.int (0 : Int32)), .unset, .unset, .unset, .unset, .unset, .unset, .unset, .unset, .unset, .unset, .unset] [(.ref b)])) tg → G tg := fun tg kt => pre51 tg (st52.trans kt)
        have Z52 : n0 ≤ T52.heap.size := Nat.le_trans Z50 K52.1
        have A50_53 := A50.keep K52
        have hK1 := own_key0 hn iva ivb hab
        have pre54 : ∀ tg, Steps p.tables e below (T52.setTop (mkF m 131 #[.val (.int p0), .val (.int p1), .val (.int p2), .val (.int p3), .val (.int p4), .val (.int p5), .val (.int nn), .val (.int va), .val (.int vb), .val (.int vc), .val (.int vd), .val (.int (1 : Int32)), .val (.int (1 : Int32)), .val (.int (0 : Int32)), .val (.ref b), .unset, .unset, .unset, .unset, .unset, .unset, .unset, .unset, .unset, .unset] [(.int vb), (.int va), (.ref b)])) tg → G tg := fun tg kt => pre52s tg (by
          show Steps p.tables e below (T52.setTop (mkF m 118 #[.val (.int p0), .val (.int p1), .val (.int p2), .val (.int p3), .val (.int p4), .val (.int p5), .val (.int nn), .val (.int va), .val (.int vb), .val (.int vc), .val (.int vd), .val (.int (1 : Int32)), .val (.int (1 : Int32)), .val (.int (0 : Int32)), .unset, .unset, .unset, .unset, .unset, .unset, .unset, .unset, .unset, .unset, .unset] [(.ref b)])) _
          refine XS.astore X52.here hx rfl (hb hby at_118) rfl rfl (l' := #[.val (.int p0), .val (.int p1), .val (.int p2), .val (.int p3), .val (.int p4), .val (.int p5), .val (.int nn), .val (.int va), .val (.int vb), .val (.int vc), .val (.int vd), .val (.int (1 : Int32)), .val (.int (1 : Int32)), .val (.int (0 : Int32)), .val (.ref b), .unset, .unset, .unset, .unset, .unset, .unset, .unset, .unset, .unset, .unset]) rfl ?_
          show Steps p.tables e below (T52.setTop (mkF m 120 #[.val (.int p0), .val (.int p1), .val (.int p2), .val (.int p3), .val (.int p4), .val (.int p5), .val (.int nn), .val (.int va), .val (.int vb), .val (.int vc), .val (.int vd), .val (.int (1 : Int32)), .val (.int (1 : Int32)), .val (.int (0 : Int32)), .val (.ref b), .unset, .unset, .unset, .unset, .unset, .unset, .unset, .unset, .unset, .unset] [])) _
          refine XS.iload X52.here hx rfl (hb hby at_120) rfl ?_
          show Steps p.tables e below (T52.setTop (mkF m 122 #[.val (.int p0), .val (.int p1), .val (.int p2), .val (.int p3), .val (.int p4), .val (.int p5), .val (.int nn), .val (.int va), .val (.int vb), .val (.int vc), .val (.int vd), .val (.int (1 : Int32)), .val (.int (1 : Int32)), .val (.int (0 : Int32)), .val (.ref b), .unset, .unset, .unset, .unset, .unset, .unset, .unset, .unset, .unset, .unset] [(.int (1 : Int32))])) _
          refine XS.ifNo X52.here hx rfl (hb hby at_122) rfl ((if0 _ _).trans (feq (by decide : ¬ ((1 : Int32) = (0 : Int32)))).1) ?_
          show Steps p.tables e below (T52.setTop (mkF m 125 #[.val (.int p0), .val (.int p1), .val (.int p2), .val (.int p3), .val (.int p4), .val (.int p5), .val (.int nn), .val (.int va), .val (.int vb), .val (.int vc), .val (.int vd), .val (.int (1 : Int32)), .val (.int (1 : Int32)), .val (.int (0 : Int32)), .val (.ref b), .unset, .unset, .unset, .unset, .unset, .unset, .unset, .unset, .unset, .unset] [])) _
          refine XS.aload X52.here hx rfl (hb hby at_125) rfl rfl ?_
          show Steps p.tables e below (T52.setTop (mkF m 127 #[.val (.int p0), .val (.int p1), .val (.int p2), .val (.int p3), .val (.int p4), .val (.int p5), .val (.int nn), .val (.int va), .val (.int vb), .val (.int vc), .val (.int vd), .val (.int (1 : Int32)), .val (.int (1 : Int32)), .val (.int (0 : Int32)), .val (.ref b), .unset, .unset, .unset, .unset, .unset, .unset, .unset, .unset, .unset, .unset] [(.ref b)])) _
          refine XS.iload X52.here hx rfl (hb hby at_127) rfl ?_
          show Steps p.tables e below (T52.setTop (mkF m 129 #[.val (.int p0), .val (.int p1), .val (.int p2), .val (.int p3), .val (.int p4), .val (.int p5), .val (.int nn), .val (.int va), .val (.int vb), .val (.int vc), .val (.int vd), .val (.int (1 : Int32)), .val (.int (1 : Int32)), .val (.int (0 : Int32)), .val (.ref b), .unset, .unset, .unset, .unset, .unset, .unset, .unset, .unset, .unset, .unset] [(.int va), (.ref b)])) _
          refine XS.iload X52.here hx rfl (hb hby at_129) rfl ?_
          exact kt)
        obtain ⟨cq55, kq55, q55a, q55b, q55c⟩ := isOf hZ rfl A50_53
        obtain ⟨_, _, ⟨T55, L55, k55, n55⟩, -, X55, ⟨Lc55, hQ55, l55, y55, z55⟩, st55⟩ := X52.virtualBack hx (y := (⟨"com/example/convene/convene/PairCounts", "add", "(II)V"⟩ : MethodName)) (z := (⟨"com/example/convene/convene/PairCounts", "add", "(II)V"⟩ : MethodName)) hown (mvT hZ (hw _ (List.mem_of_getElem? (i := 20) rfl))) (mvT hZ (hw _ (List.mem_of_getElem? (i := 21) rfl))) (notFace_of_selects (args := #[]) (mvT hZ (hw _ (List.mem_of_getElem? (i := 23) rfl)))) (mvT hZ (hw _ (List.mem_of_getElem? (i := 23) rfl))) (mvT hZ (hw _ (List.mem_of_getElem? (i := 22) rfl))) (by decide) (backOf (W := 0) (rm3n l Z a0 hw [] b va vb nn kb cb kA kC own_z own_z (0 : Int32) (own_key va vb nn) (own_hn (own_key va vb nn)) T52.heap n0 Z52 A50_53 Fnodes52 Fbits52 Fkeys52 Fcounts52 Fpairs52 Ak52 Ac52 O_b O_kb O_cb ne1 ne2 ne3 rfl (own_pz rfl) (own_hlt _) hab rfl (by decide)) hZ (hw _ (List.mem_of_getElem? (i := 24) rfl)) (hw _ (List.mem_of_getElem? (i := 4) rfl)) (by decide) (by decide)) q55a q55c (g := (mkF m 131 #[.val (.int p0), .val (.int p1), .val (.int p2), .val (.int p3), .val (.int p4), .val (.int p5), .val (.int nn), .val (.int va), .val (.int vb), .val (.int vc), .val (.int vd), .val (.int (1 : Int32)), .val (.int (1 : Int32)), .val (.int (0 : Int32)), .val (.ref b), .unset, .unset, .unset, .unset, .unset, .unset, .unset, .unset, .unset, .unset] [(.int vb), (.int va), (.ref b)])) rfl (by rw [hml]; rfl) (Steps.refl _) (argsL := [(.int va), (.int vb)]) (rest := []) (lenOf pd_6 rfl) rfl (by show 2 * 0 + _ ≤ _; exact Nat.le_of_eq rfl) (hb hby at_131) (fun _ _ => ⟨rfl, rfl, (Nat.le_of_ble_eq_true rfl), (Nat.le_of_ble_eq_true rfl)⟩)
        dsimp only [Pt.U, Pt.locs, Pt.cells, Pt.slots] at X55 l55 y55 z55 st55 hQ55
        subst l55 y55 z55
        obtain ⟨rfl, N55q, K55, Fnodes55, Fbits55, Fkeys55, Fcounts55, Fpairs55, Ak55, Ac55⟩ := hQ55
        have N55 := Fr.app N52 N55q
        have pre55s : ∀ tg, Steps p.tables e below (T55.setTop (mkF m 134 #[.val (.int p0), .val (.int p1), .val (.int p2), .val (.int p3), .val (.int p4), .val (.int p5), .val (.int nn), .val (.int va), .val (.int vb), .val (.int vc), .val (.int vd), .val (.int (1 : Int32)), .val (.int (1 : Int32)), .val (.int (0 : Int32)), .val (.ref b), .unset, .unset, .unset, .unset, .unset, .unset, .unset, .unset, .unset, .unset] [])) tg → G tg := fun tg kt => pre54 tg (st55.trans kt)
        have Z55 : n0 ≤ T55.heap.size := Nat.le_trans Z52 K55.1
        have A50_56 := A50_53.keep K55
        have pre57 : ∀ tg, Steps p.tables e below (T55.setTop (mkF m 145 #[.val (.int p0), .val (.int p1), .val (.int p2), .val (.int p3), .val (.int p4), .val (.int p5), .val (.int nn), .val (.int va), .val (.int vb), .val (.int vc), .val (.int vd), .val (.int (1 : Int32)), .val (.int (1 : Int32)), .val (.int (0 : Int32)), .val (.ref b), .unset, .unset, .unset, .unset, .unset, .unset, .unset, .unset, .unset, .unset] [(.int vd), (.int vc), (.ref b)])) tg → G tg := fun tg kt => pre55s tg (by
          show Steps p.tables e below (T55.setTop (mkF m 134 #[.val (.int p0), .val (.int p1), .val (.int p2), .val (.int p3), .val (.int p4), .val (.int p5), .val (.int nn), .val (.int va), .val (.int vb), .val (.int vc), .val (.int vd), .val (.int (1 : Int32)), .val (.int (1 : Int32)), .val (.int (0 : Int32)), .val (.ref b), .unset, .unset, .unset, .unset, .unset, .unset, .unset, .unset, .unset, .unset] [])) _
          refine XS.iload X55.here hx rfl (hb hby at_134) rfl ?_
          show Steps p.tables e below (T55.setTop (mkF m 136 #[.val (.int p0), .val (.int p1), .val (.int p2), .val (.int p3), .val (.int p4), .val (.int p5), .val (.int nn), .val (.int va), .val (.int vb), .val (.int vc), .val (.int vd), .val (.int (1 : Int32)), .val (.int (1 : Int32)), .val (.int (0 : Int32)), .val (.ref b), .unset, .unset, .unset, .unset, .unset, .unset, .unset, .unset, .unset, .unset] [(.int (1 : Int32))])) _
          refine XS.ifNo X55.here hx rfl (hb hby at_136) rfl ((if0 _ _).trans (feq (by decide : ¬ ((1 : Int32) = (0 : Int32)))).1) ?_
          show Steps p.tables e below (T55.setTop (mkF m 139 #[.val (.int p0), .val (.int p1), .val (.int p2), .val (.int p3), .val (.int p4), .val (.int p5), .val (.int nn), .val (.int va), .val (.int vb), .val (.int vc), .val (.int vd), .val (.int (1 : Int32)), .val (.int (1 : Int32)), .val (.int (0 : Int32)), .val (.ref b), .unset, .unset, .unset, .unset, .unset, .unset, .unset, .unset, .unset, .unset] [])) _
          refine XS.aload X55.here hx rfl (hb hby at_139) rfl rfl ?_
          show Steps p.tables e below (T55.setTop (mkF m 141 #[.val (.int p0), .val (.int p1), .val (.int p2), .val (.int p3), .val (.int p4), .val (.int p5), .val (.int nn), .val (.int va), .val (.int vb), .val (.int vc), .val (.int vd), .val (.int (1 : Int32)), .val (.int (1 : Int32)), .val (.int (0 : Int32)), .val (.ref b), .unset, .unset, .unset, .unset, .unset, .unset, .unset, .unset, .unset, .unset] [(.ref b)])) _
          refine XS.iload X55.here hx rfl (hb hby at_141) rfl ?_
          show Steps p.tables e below (T55.setTop (mkF m 143 #[.val (.int p0), .val (.int p1), .val (.int p2), .val (.int p3), .val (.int p4), .val (.int p5), .val (.int nn), .val (.int va), .val (.int vb), .val (.int vc), .val (.int vd), .val (.int (1 : Int32)), .val (.int (1 : Int32)), .val (.int (0 : Int32)), .val (.ref b), .unset, .unset, .unset, .unset, .unset, .unset, .unset, .unset, .unset, .unset] [(.int vc), (.ref b)])) _
          refine XS.iload X55.here hx rfl (hb hby at_143) rfl ?_
          exact kt)
        by_cases hk : (own_key va vb nn) = (own_key vc vd nn)
        · skip
          obtain ⟨cq58, kq58, q58a, q58b, q58c⟩ := isOf hZ rfl A50_56
          obtain ⟨_, _, ⟨T58, L58, k58, n58⟩, -, X58, ⟨Lc58, hQ58, l58, y58, z58⟩, st58⟩ := X55.virtualBack hx (y := (⟨"com/example/convene/convene/PairCounts", "add", "(II)V"⟩ : MethodName)) (z := (⟨"com/example/convene/convene/PairCounts", "add", "(II)V"⟩ : MethodName)) hown (mvT hZ (hw _ (List.mem_of_getElem? (i := 20) rfl))) (mvT hZ (hw _ (List.mem_of_getElem? (i := 21) rfl))) (notFace_of_selects (args := #[]) (mvT hZ (hw _ (List.mem_of_getElem? (i := 23) rfl)))) (mvT hZ (hw _ (List.mem_of_getElem? (i := 23) rfl))) (mvT hZ (hw _ (List.mem_of_getElem? (i := 22) rfl))) (by decide) (backOf (W := 0) (rm3o l Z a0 hw [] b vc vd nn kb cb kA kC (own_upd own_z (own_hn (own_key va vb nn)) (own_key va vb nn)) (own_upd own_z (own_hn (own_key va vb nn)) ((own_z (own_hn (own_key va vb nn))) + (1 : Int64))) ((0 : Int32) + (1 : Int32)) (own_key va vb nn) (own_hn (own_key va vb nn)) T55.heap n0 Z55 A50_56 Fnodes55 Fbits55 Fkeys55 Fcounts55 Fpairs55 Ak55 Ac55 O_b O_kb O_cb ne1 ne2 ne3 hk.symm (own_pk (own_upd_eq _ _ _)) (own_hlt _) hcd (by rw [own_upd_eq]; exact hK1)) hZ (hw _ (List.mem_of_getElem? (i := 24) rfl)) (hw _ (List.mem_of_getElem? (i := 4) rfl)) (by decide) (by decide)) q58a q58c (g := (mkF m 145 #[.val (.int p0), .val (.int p1), .val (.int p2), .val (.int p3), .val (.int p4), .val (.int p5), .val (.int nn), .val (.int va), .val (.int vb), .val (.int vc), .val (.int vd), .val (.int (1 : Int32)), .val (.int (1 : Int32)), .val (.int (0 : Int32)), .val (.ref b), .unset, .unset, .unset, .unset, .unset, .unset, .unset, .unset, .unset, .unset] [(.int vd), (.int vc), (.ref b)])) rfl (by rw [hml]; rfl) (Steps.refl _) (argsL := [(.int vc), (.int vd)]) (rest := []) (lenOf pd_6 rfl) rfl (by show 2 * 0 + _ ≤ _; exact Nat.le_of_eq rfl) (hb hby at_145) (fun _ _ => ⟨rfl, rfl, (Nat.le_of_ble_eq_true rfl), (Nat.le_of_ble_eq_true rfl)⟩)
          dsimp only [Pt.U, Pt.locs, Pt.cells, Pt.slots] at X58 l58 y58 z58 st58 hQ58
          subst l58 y58 z58
          obtain ⟨rfl, N58q, K58, Fnodes58, Fbits58, Fkeys58, Fcounts58, Fpairs58, Ak58, Ac58⟩ := hQ58
          have N58 := Fr.app N55 N58q
          have pre58s : ∀ tg, Steps p.tables e below (T58.setTop (mkF m 148 #[.val (.int p0), .val (.int p1), .val (.int p2), .val (.int p3), .val (.int p4), .val (.int p5), .val (.int nn), .val (.int va), .val (.int vb), .val (.int vc), .val (.int vd), .val (.int (1 : Int32)), .val (.int (1 : Int32)), .val (.int (0 : Int32)), .val (.ref b), .unset, .unset, .unset, .unset, .unset, .unset, .unset, .unset, .unset, .unset] [])) tg → G tg := fun tg kt => pre57 tg (st58.trans kt)
          have Z58 : n0 ≤ T58.heap.size := Nat.le_trans Z55 K58.1
          have A50_59 := A50_56.keep K58
          rw [own_upd_eq, own_upd_upd] at Ac58
          have pre60 : ∀ tg, Steps p.tables e below (T58.setTop (mkF m 162 #[.val (.int p0), .val (.int p1), .val (.int p2), .val (.int p3), .val (.int p4), .val (.int p5), .val (.int nn), .val (.int va), .val (.int vb), .val (.int vc), .val (.int vd), .val (.int (1 : Int32)), .val (.int (1 : Int32)), .val (.int (0 : Int32)), .val (.ref b), .unset, .unset, .unset, .unset, .unset, .unset, .unset, .unset, .unset, .unset] [])) tg → G tg := fun tg kt => pre58s tg (by
            show Steps p.tables e below (T58.setTop (mkF m 148 #[.val (.int p0), .val (.int p1), .val (.int p2), .val (.int p3), .val (.int p4), .val (.int p5), .val (.int nn), .val (.int va), .val (.int vb), .val (.int vc), .val (.int vd), .val (.int (1 : Int32)), .val (.int (1 : Int32)), .val (.int (0 : Int32)), .val (.ref b), .unset, .unset, .unset, .unset, .unset, .unset, .unset, .unset, .unset, .unset] [])) _
            refine XS.iload X58.here hx rfl (hb hby at_148) rfl ?_
            show Steps p.tables e below (T58.setTop (mkF m 150 #[.val (.int p0), .val (.int p1), .val (.int p2), .val (.int p3), .val (.int p4), .val (.int p5), .val (.int nn), .val (.int va), .val (.int vb), .val (.int vc), .val (.int vd), .val (.int (1 : Int32)), .val (.int (1 : Int32)), .val (.int (0 : Int32)), .val (.ref b), .unset, .unset, .unset, .unset, .unset, .unset, .unset, .unset, .unset, .unset] [(.int (0 : Int32))])) _
            refine XS.ifYes X58.here hx rfl (pc0 := 150) (pc' := 162) rfl (hb hby at_150) rfl ((if0 _ _).trans (teq (by decide : (0 : Int32) = (0 : Int32))).1) (by decide) (by decide) ?_
            exact kt)
          have hMM : ∀ Kq : Int64, Kq ≠ 0 → (fun K => if (own_key va vb nn) = K then (((own_z (own_hn (own_key va vb nn))) + (1 : Int64)) + (1 : Int64)) else 0) Kq = own_sum (1 : Int32) (1 : Int32) (0 : Int32) (own_key va vb nn) (own_key vc vd nn) Kq := by
            intro Kq _
            rw [← hk]
            unfold own_sum own_e own_z
            by_cases q : (own_key va vb nn) = Kq <;> simp [q]
          obtain ⟨T61, lo61, pcE, LsE, X61, e61, N61, dE, st61⟩ := own_tail n0 p0 p1 p2 p3 p4 p5 nn va vb vc vd (1 : Int32) (1 : Int32) (0 : Int32) b kb cb kA kC (own_upd own_z (own_hn (own_key va vb nn)) (own_key va vb nn)) (own_upd own_z (own_hn (own_key va vb nn)) (((own_z (own_hn (own_key va vb nn))) + (1 : Int64)) + (1 : Int64))) ((0 : Int32) + (1 : Int32)) (fun K => if (own_key va vb nn) = K then (((own_z (own_hn (own_key va vb nn))) + (1 : Int64)) + (1 : Int64)) else 0) X58 hx hZ hw hby hml hown rfl N58 Z58 (by decide) (by decide) A50_59 Fnodes58 Fbits58 Fkeys58 Fcounts58 Fpairs58 Ak58 Ac58 (own_L1 own_hlt hK1 (((own_z (own_hn (own_key va vb nn))) + (1 : Int64)) + (1 : Int64))) hMM hn iva ivb ivc ivd
          obtain ⟨fs, hr, hrun, hended, hW, hsame⟩ := X61.leave (v := some (.int (1 : Int32))) (fun h => by rw [Bd.returns] at h; cases h)
          subst hG
          refine ⟨_, _, pre60 _ (st61 _ ?_), hrun, hended, _, _, rfl, ?_, ⟨_, rfl⟩, hW, hsame.mono (by decide) (by decide)⟩
          · exact retN X61 hx (t := .boolean) Bd.returns (by simp) (hb hby dE) hr
          · exact ⟨rfl, N61⟩
        · skip
          have hK2 := own_key0 hn ivc ivd hcd
          have hs2 : (own_s2 (own_hn (own_key va vb nn)) (own_hn (own_key vc vd nn))) ≠ (own_hn (own_key va vb nn)) := own_s2_ne (own_hlt _)
          obtain ⟨cq62, kq62, q62a, q62b, q62c⟩ := isOf hZ rfl A50_56
          obtain ⟨_, _, ⟨T62, L62, k62, n62⟩, -, X62, ⟨Lc62, hQ62, l62, y62, z62⟩, st62⟩ := X55.virtualBack hx (y := (⟨"com/example/convene/convene/PairCounts", "add", "(II)V"⟩ : MethodName)) (z := (⟨"com/example/convene/convene/PairCounts", "add", "(II)V"⟩ : MethodName)) hown (mvT hZ (hw _ (List.mem_of_getElem? (i := 20) rfl))) (mvT hZ (hw _ (List.mem_of_getElem? (i := 21) rfl))) (notFace_of_selects (args := #[]) (mvT hZ (hw _ (List.mem_of_getElem? (i := 23) rfl)))) (mvT hZ (hw _ (List.mem_of_getElem? (i := 23) rfl))) (mvT hZ (hw _ (List.mem_of_getElem? (i := 22) rfl))) (by decide) (backOf (W := 0) (rm3n l Z a0 hw [] b vc vd nn kb cb kA kC (own_upd own_z (own_hn (own_key va vb nn)) (own_key va vb nn)) (own_upd own_z (own_hn (own_key va vb nn)) ((own_z (own_hn (own_key va vb nn))) + (1 : Int64))) ((0 : Int32) + (1 : Int32)) (own_key vc vd nn) (own_s2 (own_hn (own_key va vb nn)) (own_hn (own_key vc vd nn))) T55.heap n0 Z55 A50_56 Fnodes55 Fbits55 Fkeys55 Fcounts55 Fpairs55 Ak55 Ac55 O_b O_kb O_cb ne1 ne2 ne3 rfl (own_l1b (own_hlt _) hK1 hk) (own_s2_lt (own_hlt _)) hcd (by rw [own_upd_ne hs2]; rfl) (by decide)) hZ (hw _ (List.mem_of_getElem? (i := 24) rfl)) (hw _ (List.mem_of_getElem? (i := 4) rfl)) (by decide) (by decide)) q62a q62c (g := (mkF m 145 #[.val (.int p0), .val (.int p1), .val (.int p2), .val (.int p3), .val (.int p4), .val (.int p5), .val (.int nn), .val (.int va), .val (.int vb), .val (.int vc), .val (.int vd), .val (.int (1 : Int32)), .val (.int (1 : Int32)), .val (.int (0 : Int32)), .val (.ref b), .unset, .unset, .unset, .unset, .unset, .unset, .unset, .unset, .unset, .unset] [(.int vd), (.int vc), (.ref b)])) rfl (by rw [hml]; rfl) (Steps.refl _) (argsL := [(.int vc), (.int vd)]) (rest := []) (lenOf pd_6 rfl) rfl (by show 2 * 0 + _ ≤ _; exact Nat.le_of_eq rfl) (hb hby at_145) (fun _ _ => ⟨rfl, rfl, (Nat.le_of_ble_eq_true rfl), (Nat.le_of_ble_eq_true rfl)⟩)
          dsimp only [Pt.U, Pt.locs, Pt.cells, Pt.slots] at X62 l62 y62 z62 st62 hQ62
          subst l62 y62 z62
          obtain ⟨rfl, N62q, K62, Fnodes62, Fbits62, Fkeys62, Fcounts62, Fpairs62, Ak62, Ac62⟩ := hQ62
          have N62 := Fr.app N55 N62q
          have pre62s : ∀ tg, Steps p.tables e below (T62.setTop (mkF m 148 #[.val (.int p0), .val (.int p1), .val (.int p2), .val (.int p3), .val (.int p4), .val (.int p5), .val (.int nn), .val (.int va), .val (.int vb), .val (.int vc), .val (.int vd), .val (.int (1 : Int32)), .val (.int (1 : Int32)), .val (.int (0 : Int32)), .val (.ref b), .unset, .unset, .unset, .unset, .unset, .unset, .unset, .unset, .unset, .unset] [])) tg → G tg := fun tg kt => pre57 tg (st62.trans kt)
          have Z62 : n0 ≤ T62.heap.size := Nat.le_trans Z55 K62.1
          have A50_63 := A50_56.keep K62
          have pre64 : ∀ tg, Steps p.tables e below (T62.setTop (mkF m 162 #[.val (.int p0), .val (.int p1), .val (.int p2), .val (.int p3), .val (.int p4), .val (.int p5), .val (.int nn), .val (.int va), .val (.int vb), .val (.int vc), .val (.int vd), .val (.int (1 : Int32)), .val (.int (1 : Int32)), .val (.int (0 : Int32)), .val (.ref b), .unset, .unset, .unset, .unset, .unset, .unset, .unset, .unset, .unset, .unset] [])) tg → G tg := fun tg kt => pre62s tg (by
            show Steps p.tables e below (T62.setTop (mkF m 148 #[.val (.int p0), .val (.int p1), .val (.int p2), .val (.int p3), .val (.int p4), .val (.int p5), .val (.int nn), .val (.int va), .val (.int vb), .val (.int vc), .val (.int vd), .val (.int (1 : Int32)), .val (.int (1 : Int32)), .val (.int (0 : Int32)), .val (.ref b), .unset, .unset, .unset, .unset, .unset, .unset, .unset, .unset, .unset, .unset] [])) _
            refine XS.iload X62.here hx rfl (hb hby at_148) rfl ?_
            show Steps p.tables e below (T62.setTop (mkF m 150 #[.val (.int p0), .val (.int p1), .val (.int p2), .val (.int p3), .val (.int p4), .val (.int p5), .val (.int nn), .val (.int va), .val (.int vb), .val (.int vc), .val (.int vd), .val (.int (1 : Int32)), .val (.int (1 : Int32)), .val (.int (0 : Int32)), .val (.ref b), .unset, .unset, .unset, .unset, .unset, .unset, .unset, .unset, .unset, .unset] [(.int (0 : Int32))])) _
            refine XS.ifYes X62.here hx rfl (pc0 := 150) (pc' := 162) rfl (hb hby at_150) rfl ((if0 _ _).trans (teq (by decide : (0 : Int32) = (0 : Int32))).1) (by decide) (by decide) ?_
            exact kt)
          have hMM : ∀ Kq : Int64, Kq ≠ 0 → (fun K => if (own_key va vb nn) = K then ((own_z (own_hn (own_key va vb nn))) + (1 : Int64)) else if (own_key vc vd nn) = K then (((own_upd own_z (own_hn (own_key va vb nn)) ((own_z (own_hn (own_key va vb nn))) + (1 : Int64))) (own_s2 (own_hn (own_key va vb nn)) (own_hn (own_key vc vd nn)))) + (1 : Int64)) else 0) Kq = own_sum (1 : Int32) (1 : Int32) (0 : Int32) (own_key va vb nn) (own_key vc vd nn) Kq := by
            intro Kq _
            have z0 : (own_upd own_z (own_hn (own_key va vb nn)) ((own_z (own_hn (own_key va vb nn))) + (1 : Int64))) (own_s2 (own_hn (own_key va vb nn)) (own_hn (own_key vc vd nn))) = 0 := by rw [own_upd_ne hs2]; rfl
            rw [z0]
            unfold own_sum own_e own_z
            by_cases q : (own_key va vb nn) = Kq
            · have q' : ¬ (own_key vc vd nn) = Kq := fun r => hk (q.trans r.symm)
              simp [q, q']
            · by_cases q' : (own_key vc vd nn) = Kq <;> simp [q, q']
          obtain ⟨T65, lo65, pcE, LsE, X65, e65, N65, dE, st65⟩ := own_tail n0 p0 p1 p2 p3 p4 p5 nn va vb vc vd (1 : Int32) (1 : Int32) (0 : Int32) b kb cb kA kC (own_upd (own_upd own_z (own_hn (own_key va vb nn)) (own_key va vb nn)) (own_s2 (own_hn (own_key va vb nn)) (own_hn (own_key vc vd nn))) (own_key vc vd nn)) (own_upd (own_upd own_z (own_hn (own_key va vb nn)) ((own_z (own_hn (own_key va vb nn))) + (1 : Int64))) (own_s2 (own_hn (own_key va vb nn)) (own_hn (own_key vc vd nn))) (((own_upd own_z (own_hn (own_key va vb nn)) ((own_z (own_hn (own_key va vb nn))) + (1 : Int64))) (own_s2 (own_hn (own_key va vb nn)) (own_hn (own_key vc vd nn)))) + (1 : Int64))) (((0 : Int32) + (1 : Int32)) + (1 : Int32)) (fun K => if (own_key va vb nn) = K then ((own_z (own_hn (own_key va vb nn))) + (1 : Int64)) else if (own_key vc vd nn) = K then (((own_upd own_z (own_hn (own_key va vb nn)) ((own_z (own_hn (own_key va vb nn))) + (1 : Int64))) (own_s2 (own_hn (own_key va vb nn)) (own_hn (own_key vc vd nn)))) + (1 : Int64)) else 0) X62 hx hZ hw hby hml hown rfl N62 Z62 (by decide) (by decide) A50_63 Fnodes62 Fbits62 Fkeys62 Fcounts62 Fpairs62 Ak62 Ac62 (own_L2 own_hlt hK1 hK2 hk ((own_z (own_hn (own_key va vb nn))) + (1 : Int64)) (((own_upd own_z (own_hn (own_key va vb nn)) ((own_z (own_hn (own_key va vb nn))) + (1 : Int64))) (own_s2 (own_hn (own_key va vb nn)) (own_hn (own_key vc vd nn)))) + (1 : Int64))) hMM hn iva ivb ivc ivd
          obtain ⟨fs, hr, hrun, hended, hW, hsame⟩ := X65.leave (v := some (.int (1 : Int32))) (fun h => by rw [Bd.returns] at h; cases h)
          subst hG
          refine ⟨_, _, pre64 _ (st65 _ ?_), hrun, hended, _, _, rfl, ?_, ⟨_, rfl⟩, hW, hsame.mono (by decide) (by decide)⟩
          · exact retN X65 hx (t := .boolean) Bd.returns (by simp) (hb hby dE) hr
          · exact ⟨rfl, N65⟩
      · -- not h16
        have pre66 : ∀ tg, Steps p.tables e below (s₁.setTop (mkF m 109 #[.val (.int p0), .val (.int p1), .val (.int p2), .val (.int p3), .val (.int p4), .val (.int p5), .val (.int nn), .val (.int va), .val (.int vb), .val (.int vc), .val (.int vd), .val (.int (1 : Int32)), .val (.int (1 : Int32)), .val (.int (1 : Int32)), .unset, .unset, .unset, .unset, .unset, .unset, .unset, .unset, .unset, .unset, .unset] [])) tg → G tg := fun tg kt => pre48 tg (by
          show Steps p.tables e below (s₁.setTop (mkF m 99 #[.val (.int p0), .val (.int p1), .val (.int p2), .val (.int p3), .val (.int p4), .val (.int p5), .val (.int nn), .val (.int va), .val (.int vb), .val (.int vc), .val (.int vd), .val (.int (1 : Int32)), .val (.int (1 : Int32)), .unset, .unset, .unset, .unset, .unset, .unset, .unset, .unset, .unset, .unset, .unset, .unset] [(.int (p5 &&& (16 : Int32)))])) _
          refine XS.ifNo X0.here hx rfl (hb hby at_99) rfl ((if0 _ _).trans (feq h16).1) ?_
          show Steps p.tables e below (s₁.setTop (mkF m 102 #[.val (.int p0), .val (.int p1), .val (.int p2), .val (.int p3), .val (.int p4), .val (.int p5), .val (.int nn), .val (.int va), .val (.int vb), .val (.int vc), .val (.int vd), .val (.int (1 : Int32)), .val (.int (1 : Int32)), .unset, .unset, .unset, .unset, .unset, .unset, .unset, .unset, .unset, .unset, .unset, .unset] [])) _
          refine XS.iconst X0.here hx rfl (hb hby at_102) ?_
          show Steps p.tables e below (s₁.setTop (mkF m 103 #[.val (.int p0), .val (.int p1), .val (.int p2), .val (.int p3), .val (.int p4), .val (.int p5), .val (.int nn), .val (.int va), .val (.int vb), .val (.int vc), .val (.int vd), .val (.int (1 : Int32)), .val (.int (1 : Int32)), .unset, .unset, .unset, .unset, .unset, .unset, .unset, .unset, .unset, .unset, .unset, .unset] [(.int (1 : Int32))])) _
          refine XS.goto X0.here hx rfl (pc0 := 103) (pc' := 107) rfl (hb hby at_103) (by decide) (by decide) ?_
          show Steps p.tables e below (s₁.setTop (mkF m 107 #[.val (.int p0), .val (.int p1), .val (.int p2), .val (.int p3), .val (.int p4), .val (.int p5), .val (.int nn), .val (.int va), .val (.int vb), .val (.int vc), .val (.int vd), .val (.int (1 : Int32)), .val (.int (1 : Int32)), .unset, .unset, .unset, .unset, .unset, .unset, .unset, .unset, .unset, .unset, .unset, .unset] [(.int (1 : Int32))])) _
          refine XS.istore X0.here hx rfl (hb hby at_107) rfl (l' := #[.val (.int p0), .val (.int p1), .val (.int p2), .val (.int p3), .val (.int p4), .val (.int p5), .val (.int nn), .val (.int va), .val (.int vb), .val (.int vc), .val (.int vd), .val (.int (1 : Int32)), .val (.int (1 : Int32)), .val (.int (1 : Int32)), .unset, .unset, .unset, .unset, .unset, .unset, .unset, .unset, .unset, .unset, .unset]) rfl ?_
          exact kt)
        obtain ⟨T67, h67, X67, e67, E67, A67, D67, -, st67⟩ := newO X0 hx hZ hown (hw _ (List.mem_of_getElem? (i := 2) rfl)) (hw _ (List.mem_of_getElem? (i := 3) rfl)) (hw _ (List.mem_of_getElem? (i := 4) rfl)) e0 (g := (mkF m 109 #[.val (.int p0), .val (.int p1), .val (.int p2), .val (.int p3), .val (.int p4), .val (.int p5), .val (.int nn), .val (.int va), .val (.int vb), .val (.int vc), .val (.int vd), .val (.int (1 : Int32)), .val (.int (1 : Int32)), .val (.int (1 : Int32)), .unset, .unset, .unset, .unset, .unset, .unset, .unset, .unset, .unset, .unset, .unset] [])) rfl (hb hby at_109) (by decide) (by decide)
        obtain ⟨b, g67⟩ : ∃ z, z = h0.size := ⟨_, rfl⟩
        rw [← g67] at A67 D67 st67
        have O_b : n0 ≤ b := Nat.le_trans Z0 (Nat.le_of_eq g67.symm)
        have Z67 : n0 ≤ h67.size := Nat.le_trans Z0 E67.1
        have pre67s : ∀ tg, Steps p.tables e below (T67.setTop (mkF m 112 #[.val (.int p0), .val (.int p1), .val (.int p2), .val (.int p3), .val (.int p4), .val (.int p5), .val (.int nn), .val (.int va), .val (.int vb), .val (.int vc), .val (.int vd), .val (.int (1 : Int32)), .val (.int (1 : Int32)), .val (.int (1 : Int32)), .unset, .unset, .unset, .unset, .unset, .unset, .unset, .unset, .unset, .unset, .unset] [(.ref b)])) tg → G tg := fun tg kt => pre66 tg (st67 tg kt)
        have Fnodes_b : Fld Z h67 b "com/example/convene/convene/PairCounts" "nodes" "I" (.int (0 : Int32)) := D67 (Or.inr (hw _ (List.mem_of_getElem? (i := 12) rfl))) (ty := .int) (by decide)
        have Fbits_b : Fld Z h67 b "com/example/convene/convene/PairCounts" "bits" "I" (.int (0 : Int32)) := D67 (Or.inl (hw _ (List.mem_of_getElem? (i := 14) rfl))) (ty := .int) (by decide)
        have Fkeys_b : Fld Z h67 b "com/example/convene/convene/PairCounts" "keys" "[J" .null := D67 (Or.inl (hw _ (List.mem_of_getElem? (i := 17) rfl))) (ty := (.array .long)) (by decide)
        have Fcounts_b : Fld Z h67 b "com/example/convene/convene/PairCounts" "counts" "[J" .null := D67 (Or.inl (hw _ (List.mem_of_getElem? (i := 19) rfl))) (ty := (.array .long)) (by decide)
        have Fpairs_b : Fld Z h67 b "com/example/convene/convene/PairCounts" "pairs" "I" (.int (0 : Int32)) := D67 (Or.inl (hw _ (List.mem_of_getElem? (i := 42) rfl))) (ty := .int) (by decide)
        have pre68 : ∀ tg, Steps p.tables e below (T67.setTop (mkF m 115 #[.val (.int p0), .val (.int p1), .val (.int p2), .val (.int p3), .val (.int p4), .val (.int p5), .val (.int nn), .val (.int va), .val (.int vb), .val (.int vc), .val (.int vd), .val (.int (1 : Int32)), .val (.int (1 : Int32)), .val (.int (1 : Int32)), .unset, .unset, .unset, .unset, .unset, .unset, .unset, .unset, .unset, .unset, .unset] [(.int nn), (.ref b), (.ref b)])) tg → G tg := fun tg kt => pre67s tg (by
          show Steps p.tables e below (T67.setTop (mkF m 112 #[.val (.int p0), .val (.int p1), .val (.int p2), .val (.int p3), .val (.int p4), .val (.int p5), .val (.int nn), .val (.int va), .val (.int vb), .val (.int vc), .val (.int vd), .val (.int (1 : Int32)), .val (.int (1 : Int32)), .val (.int (1 : Int32)), .unset, .unset, .unset, .unset, .unset, .unset, .unset, .unset, .unset, .unset, .unset] [(.ref b)])) _
          refine XS.dup X67.here hx rfl (hb hby at_112) rfl rfl ?_
          show Steps p.tables e below (T67.setTop (mkF m 113 #[.val (.int p0), .val (.int p1), .val (.int p2), .val (.int p3), .val (.int p4), .val (.int p5), .val (.int nn), .val (.int va), .val (.int vb), .val (.int vc), .val (.int vd), .val (.int (1 : Int32)), .val (.int (1 : Int32)), .val (.int (1 : Int32)), .unset, .unset, .unset, .unset, .unset, .unset, .unset, .unset, .unset, .unset, .unset] [(.ref b), (.ref b)])) _
          refine XS.iload X67.here hx rfl (hb hby at_113) rfl ?_
          exact kt)
        obtain ⟨_, _, ⟨T69, L69, k69, n69⟩, -, X69, ⟨Lc69, hQ69, l69, y69, z69⟩, st69⟩ := X67.specialBack hx (y := (⟨"com/example/convene/convene/PairCounts", "<init>", "(I)V"⟩ : MethodName)) rfl hown (mvT hZ (hw _ (List.mem_of_getElem? (i := 5) rfl))) (mvT hZ (hw _ (List.mem_of_getElem? (i := 6) rfl))) (mvT hZ (hw _ (List.mem_of_getElem? (i := 7) rfl))) (by decide) (backOf (W := 1) (rm1 l Z a0 hw [] b nn h67 n0 Z67 A67 Fnodes_b Fbits_b Fkeys_b Fcounts_b Fpairs_b O_b) hZ (hw _ (List.mem_of_getElem? (i := 7) rfl)) (hw _ (List.mem_of_getElem? (i := 4) rfl)) (by decide) (by decide)) (g := (mkF m 115 #[.val (.int p0), .val (.int p1), .val (.int p2), .val (.int p3), .val (.int p4), .val (.int p5), .val (.int nn), .val (.int va), .val (.int vb), .val (.int vc), .val (.int vd), .val (.int (1 : Int32)), .val (.int (1 : Int32)), .val (.int (1 : Int32)), .unset, .unset, .unset, .unset, .unset, .unset, .unset, .unset, .unset, .unset, .unset] [(.int nn), (.ref b), (.ref b)])) rfl (by rw [hml]; rfl) (Steps.refl _) (a := b) (argsL := [(.int nn)]) (rest := [(.ref b)]) (lenOf pd_5 rfl) rfl (by show 2 * 0 + _ ≤ _; exact Nat.le_of_eq rfl) (hb hby at_115) (fun _ _ => ⟨rfl, e67, (Nat.le_of_ble_eq_true rfl), (Nat.le_of_ble_eq_true rfl)⟩)
        dsimp only [Pt.U, Pt.locs, Pt.cells, Pt.slots] at X69 l69 y69 z69 st69 hQ69
        subst l69 y69 z69
        obtain ⟨rfl, N69q, K69, kb, cb, kA, kC, O_kb, O_cb, ne1, ne2, ne3, Fnodes69, Fbits69, Fkeys69, Fcounts69, Fpairs69, Ak69, Ac69⟩ := hQ69
        have N69 := Fr.app N0 N69q
        have pre69s : ∀ tg, Steps p.tables e below (T69.setTop (mkF m 118 #[.val (.int p0), .val (.int p1), .val (.int p2), .val (.int p3), .val (.int p4), .val (.int p5), .val (.int nn), .val (.int va), .val (.int vb), .val (.int vc), .val (.int vd), .val (.int (1 : Int32)), .val (.int (1 : Int32)), .val (.int (1 : Int32)), .unset, .unset, .unset, .unset, .unset, .unset, .unset, .unset, .unset, .unset, .unset] [(.ref b)])) tg → G tg := fun tg kt => pre68 tg (st69.trans kt)
        have Z69 : n0 ≤ T69.heap.size := Nat.le_trans Z67 K69.1
        have A67_70 := A67.keep K69
        have hK1 := own_key0 hn iva ivb hab
        have pre71 : ∀ tg, Steps p.tables e below (T69.setTop (mkF m 131 #[.val (.int p0), .val (.int p1), .val (.int p2), .val (.int p3), .val (.int p4), .val (.int p5), .val (.int nn), .val (.int va), .val (.int vb), .val (.int vc), .val (.int vd), .val (.int (1 : Int32)), .val (.int (1 : Int32)), .val (.int (1 : Int32)), .val (.ref b), .unset, .unset, .unset, .unset, .unset, .unset, .unset, .unset, .unset, .unset] [(.int vb), (.int va), (.ref b)])) tg → G tg := fun tg kt => pre69s tg (by
          show Steps p.tables e below (T69.setTop (mkF m 118 #[.val (.int p0), .val (.int p1), .val (.int p2), .val (.int p3), .val (.int p4), .val (.int p5), .val (.int nn), .val (.int va), .val (.int vb), .val (.int vc), .val (.int vd), .val (.int (1 : Int32)), .val (.int (1 : Int32)), .val (.int (1 : Int32)), .unset, .unset, .unset, .unset, .unset, .unset, .unset, .unset, .unset, .unset, .unset] [(.ref b)])) _
          refine XS.astore X69.here hx rfl (hb hby at_118) rfl rfl (l' := #[.val (.int p0), .val (.int p1), .val (.int p2), .val (.int p3), .val (.int p4), .val (.int p5), .val (.int nn), .val (.int va), .val (.int vb), .val (.int vc), .val (.int vd), .val (.int (1 : Int32)), .val (.int (1 : Int32)), .val (.int (1 : Int32)), .val (.ref b), .unset, .unset, .unset, .unset, .unset, .unset, .unset, .unset, .unset, .unset]) rfl ?_
          show Steps p.tables e below (T69.setTop (mkF m 120 #[.val (.int p0), .val (.int p1), .val (.int p2), .val (.int p3), .val (.int p4), .val (.int p5), .val (.int nn), .val (.int va), .val (.int vb), .val (.int vc), .val (.int vd), .val (.int (1 : Int32)), .val (.int (1 : Int32)), .val (.int (1 : Int32)), .val (.ref b), .unset, .unset, .unset, .unset, .unset, .unset, .unset, .unset, .unset, .unset] [])) _
          refine XS.iload X69.here hx rfl (hb hby at_120) rfl ?_
          show Steps p.tables e below (T69.setTop (mkF m 122 #[.val (.int p0), .val (.int p1), .val (.int p2), .val (.int p3), .val (.int p4), .val (.int p5), .val (.int nn), .val (.int va), .val (.int vb), .val (.int vc), .val (.int vd), .val (.int (1 : Int32)), .val (.int (1 : Int32)), .val (.int (1 : Int32)), .val (.ref b), .unset, .unset, .unset, .unset, .unset, .unset, .unset, .unset, .unset, .unset] [(.int (1 : Int32))])) _
          refine XS.ifNo X69.here hx rfl (hb hby at_122) rfl ((if0 _ _).trans (feq (by decide : ¬ ((1 : Int32) = (0 : Int32)))).1) ?_
          show Steps p.tables e below (T69.setTop (mkF m 125 #[.val (.int p0), .val (.int p1), .val (.int p2), .val (.int p3), .val (.int p4), .val (.int p5), .val (.int nn), .val (.int va), .val (.int vb), .val (.int vc), .val (.int vd), .val (.int (1 : Int32)), .val (.int (1 : Int32)), .val (.int (1 : Int32)), .val (.ref b), .unset, .unset, .unset, .unset, .unset, .unset, .unset, .unset, .unset, .unset] [])) _
          refine XS.aload X69.here hx rfl (hb hby at_125) rfl rfl ?_
          show Steps p.tables e below (T69.setTop (mkF m 127 #[.val (.int p0), .val (.int p1), .val (.int p2), .val (.int p3), .val (.int p4), .val (.int p5), .val (.int nn), .val (.int va), .val (.int vb), .val (.int vc), .val (.int vd), .val (.int (1 : Int32)), .val (.int (1 : Int32)), .val (.int (1 : Int32)), .val (.ref b), .unset, .unset, .unset, .unset, .unset, .unset, .unset, .unset, .unset, .unset] [(.ref b)])) _
          refine XS.iload X69.here hx rfl (hb hby at_127) rfl ?_
          show Steps p.tables e below (T69.setTop (mkF m 129 #[.val (.int p0), .val (.int p1), .val (.int p2), .val (.int p3), .val (.int p4), .val (.int p5), .val (.int nn), .val (.int va), .val (.int vb), .val (.int vc), .val (.int vd), .val (.int (1 : Int32)), .val (.int (1 : Int32)), .val (.int (1 : Int32)), .val (.ref b), .unset, .unset, .unset, .unset, .unset, .unset, .unset, .unset, .unset, .unset] [(.int va), (.ref b)])) _
          refine XS.iload X69.here hx rfl (hb hby at_129) rfl ?_
          exact kt)
        obtain ⟨cq72, kq72, q72a, q72b, q72c⟩ := isOf hZ rfl A67_70
        obtain ⟨_, _, ⟨T72, L72, k72, n72⟩, -, X72, ⟨Lc72, hQ72, l72, y72, z72⟩, st72⟩ := X69.virtualBack hx (y := (⟨"com/example/convene/convene/PairCounts", "add", "(II)V"⟩ : MethodName)) (z := (⟨"com/example/convene/convene/PairCounts", "add", "(II)V"⟩ : MethodName)) hown (mvT hZ (hw _ (List.mem_of_getElem? (i := 20) rfl))) (mvT hZ (hw _ (List.mem_of_getElem? (i := 21) rfl))) (notFace_of_selects (args := #[]) (mvT hZ (hw _ (List.mem_of_getElem? (i := 23) rfl)))) (mvT hZ (hw _ (List.mem_of_getElem? (i := 23) rfl))) (mvT hZ (hw _ (List.mem_of_getElem? (i := 22) rfl))) (by decide) (backOf (W := 0) (rm3n l Z a0 hw [] b va vb nn kb cb kA kC own_z own_z (0 : Int32) (own_key va vb nn) (own_hn (own_key va vb nn)) T69.heap n0 Z69 A67_70 Fnodes69 Fbits69 Fkeys69 Fcounts69 Fpairs69 Ak69 Ac69 O_b O_kb O_cb ne1 ne2 ne3 rfl (own_pz rfl) (own_hlt _) hab rfl (by decide)) hZ (hw _ (List.mem_of_getElem? (i := 24) rfl)) (hw _ (List.mem_of_getElem? (i := 4) rfl)) (by decide) (by decide)) q72a q72c (g := (mkF m 131 #[.val (.int p0), .val (.int p1), .val (.int p2), .val (.int p3), .val (.int p4), .val (.int p5), .val (.int nn), .val (.int va), .val (.int vb), .val (.int vc), .val (.int vd), .val (.int (1 : Int32)), .val (.int (1 : Int32)), .val (.int (1 : Int32)), .val (.ref b), .unset, .unset, .unset, .unset, .unset, .unset, .unset, .unset, .unset, .unset] [(.int vb), (.int va), (.ref b)])) rfl (by rw [hml]; rfl) (Steps.refl _) (argsL := [(.int va), (.int vb)]) (rest := []) (lenOf pd_6 rfl) rfl (by show 2 * 0 + _ ≤ _; exact Nat.le_of_eq rfl) (hb hby at_131) (fun _ _ => ⟨rfl, rfl, (Nat.le_of_ble_eq_true rfl), (Nat.le_of_ble_eq_true rfl)⟩)
        dsimp only [Pt.U, Pt.locs, Pt.cells, Pt.slots] at X72 l72 y72 z72 st72 hQ72
        subst l72 y72 z72
        obtain ⟨rfl, N72q, K72, Fnodes72, Fbits72, Fkeys72, Fcounts72, Fpairs72, Ak72, Ac72⟩ := hQ72
        have N72 := Fr.app N69 N72q
        have pre72s : ∀ tg, Steps p.tables e below (T72.setTop (mkF m 134 #[.val (.int p0), .val (.int p1), .val (.int p2), .val (.int p3), .val (.int p4), .val (.int p5), .val (.int nn), .val (.int va), .val (.int vb), .val (.int vc), .val (.int vd), .val (.int (1 : Int32)), .val (.int (1 : Int32)), .val (.int (1 : Int32)), .val (.ref b), .unset, .unset, .unset, .unset, .unset, .unset, .unset, .unset, .unset, .unset] [])) tg → G tg := fun tg kt => pre71 tg (st72.trans kt)
        have Z72 : n0 ≤ T72.heap.size := Nat.le_trans Z69 K72.1
        have A67_73 := A67_70.keep K72
        have pre74 : ∀ tg, Steps p.tables e below (T72.setTop (mkF m 145 #[.val (.int p0), .val (.int p1), .val (.int p2), .val (.int p3), .val (.int p4), .val (.int p5), .val (.int nn), .val (.int va), .val (.int vb), .val (.int vc), .val (.int vd), .val (.int (1 : Int32)), .val (.int (1 : Int32)), .val (.int (1 : Int32)), .val (.ref b), .unset, .unset, .unset, .unset, .unset, .unset, .unset, .unset, .unset, .unset] [(.int vd), (.int vc), (.ref b)])) tg → G tg := fun tg kt => pre72s tg (by
          show Steps p.tables e below (T72.setTop (mkF m 134 #[.val (.int p0), .val (.int p1), .val (.int p2), .val (.int p3), .val (.int p4), .val (.int p5), .val (.int nn), .val (.int va), .val (.int vb), .val (.int vc), .val (.int vd), .val (.int (1 : Int32)), .val (.int (1 : Int32)), .val (.int (1 : Int32)), .val (.ref b), .unset, .unset, .unset, .unset, .unset, .unset, .unset, .unset, .unset, .unset] [])) _
          refine XS.iload X72.here hx rfl (hb hby at_134) rfl ?_
          show Steps p.tables e below (T72.setTop (mkF m 136 #[.val (.int p0), .val (.int p1), .val (.int p2), .val (.int p3), .val (.int p4), .val (.int p5), .val (.int nn), .val (.int va), .val (.int vb), .val (.int vc), .val (.int vd), .val (.int (1 : Int32)), .val (.int (1 : Int32)), .val (.int (1 : Int32)), .val (.ref b), .unset, .unset, .unset, .unset, .unset, .unset, .unset, .unset, .unset, .unset] [(.int (1 : Int32))])) _
          refine XS.ifNo X72.here hx rfl (hb hby at_136) rfl ((if0 _ _).trans (feq (by decide : ¬ ((1 : Int32) = (0 : Int32)))).1) ?_
          show Steps p.tables e below (T72.setTop (mkF m 139 #[.val (.int p0), .val (.int p1), .val (.int p2), .val (.int p3), .val (.int p4), .val (.int p5), .val (.int nn), .val (.int va), .val (.int vb), .val (.int vc), .val (.int vd), .val (.int (1 : Int32)), .val (.int (1 : Int32)), .val (.int (1 : Int32)), .val (.ref b), .unset, .unset, .unset, .unset, .unset, .unset, .unset, .unset, .unset, .unset] [])) _
          refine XS.aload X72.here hx rfl (hb hby at_139) rfl rfl ?_
          show Steps p.tables e below (T72.setTop (mkF m 141 #[.val (.int p0), .val (.int p1), .val (.int p2), .val (.int p3), .val (.int p4), .val (.int p5), .val (.int nn), .val (.int va), .val (.int vb), .val (.int vc), .val (.int vd), .val (.int (1 : Int32)), .val (.int (1 : Int32)), .val (.int (1 : Int32)), .val (.ref b), .unset, .unset, .unset, .unset, .unset, .unset, .unset, .unset, .unset, .unset] [(.ref b)])) _
          refine XS.iload X72.here hx rfl (hb hby at_141) rfl ?_
          show Steps p.tables e below (T72.setTop (mkF m 143 #[.val (.int p0), .val (.int p1), .val (.int p2), .val (.int p3), .val (.int p4), .val (.int p5), .val (.int nn), .val (.int va), .val (.int vb), .val (.int vc), .val (.int vd), .val (.int (1 : Int32)), .val (.int (1 : Int32)), .val (.int (1 : Int32)), .val (.ref b), .unset, .unset, .unset, .unset, .unset, .unset, .unset, .unset, .unset, .unset] [(.int vc), (.ref b)])) _
          refine XS.iload X72.here hx rfl (hb hby at_143) rfl ?_
          exact kt)
        by_cases hk : (own_key va vb nn) = (own_key vc vd nn)
        · skip
          obtain ⟨cq75, kq75, q75a, q75b, q75c⟩ := isOf hZ rfl A67_73
          obtain ⟨_, _, ⟨T75, L75, k75, n75⟩, -, X75, ⟨Lc75, hQ75, l75, y75, z75⟩, st75⟩ := X72.virtualBack hx (y := (⟨"com/example/convene/convene/PairCounts", "add", "(II)V"⟩ : MethodName)) (z := (⟨"com/example/convene/convene/PairCounts", "add", "(II)V"⟩ : MethodName)) hown (mvT hZ (hw _ (List.mem_of_getElem? (i := 20) rfl))) (mvT hZ (hw _ (List.mem_of_getElem? (i := 21) rfl))) (notFace_of_selects (args := #[]) (mvT hZ (hw _ (List.mem_of_getElem? (i := 23) rfl)))) (mvT hZ (hw _ (List.mem_of_getElem? (i := 23) rfl))) (mvT hZ (hw _ (List.mem_of_getElem? (i := 22) rfl))) (by decide) (backOf (W := 0) (rm3o l Z a0 hw [] b vc vd nn kb cb kA kC (own_upd own_z (own_hn (own_key va vb nn)) (own_key va vb nn)) (own_upd own_z (own_hn (own_key va vb nn)) ((own_z (own_hn (own_key va vb nn))) + (1 : Int64))) ((0 : Int32) + (1 : Int32)) (own_key va vb nn) (own_hn (own_key va vb nn)) T72.heap n0 Z72 A67_73 Fnodes72 Fbits72 Fkeys72 Fcounts72 Fpairs72 Ak72 Ac72 O_b O_kb O_cb ne1 ne2 ne3 hk.symm (own_pk (own_upd_eq _ _ _)) (own_hlt _) hcd (by rw [own_upd_eq]; exact hK1)) hZ (hw _ (List.mem_of_getElem? (i := 24) rfl)) (hw _ (List.mem_of_getElem? (i := 4) rfl)) (by decide) (by decide)) q75a q75c (g := (mkF m 145 #[.val (.int p0), .val (.int p1), .val (.int p2), .val (.int p3), .val (.int p4), .val (.int p5), .val (.int nn), .val (.int va), .val (.int vb), .val (.int vc), .val (.int vd), .val (.int (1 : Int32)), .val (.int (1 : Int32)), .val (.int (1 : Int32)), .val (.ref b), .unset, .unset, .unset, .unset, .unset, .unset, .unset, .unset, .unset, .unset] [(.int vd), (.int vc), (.ref b)])) rfl (by rw [hml]; rfl) (Steps.refl _) (argsL := [(.int vc), (.int vd)]) (rest := []) (lenOf pd_6 rfl) rfl (by show 2 * 0 + _ ≤ _; exact Nat.le_of_eq rfl) (hb hby at_145) (fun _ _ => ⟨rfl, rfl, (Nat.le_of_ble_eq_true rfl), (Nat.le_of_ble_eq_true rfl)⟩)
          dsimp only [Pt.U, Pt.locs, Pt.cells, Pt.slots] at X75 l75 y75 z75 st75 hQ75
          subst l75 y75 z75
          obtain ⟨rfl, N75q, K75, Fnodes75, Fbits75, Fkeys75, Fcounts75, Fpairs75, Ak75, Ac75⟩ := hQ75
          have N75 := Fr.app N72 N75q
          have pre75s : ∀ tg, Steps p.tables e below (T75.setTop (mkF m 148 #[.val (.int p0), .val (.int p1), .val (.int p2), .val (.int p3), .val (.int p4), .val (.int p5), .val (.int nn), .val (.int va), .val (.int vb), .val (.int vc), .val (.int vd), .val (.int (1 : Int32)), .val (.int (1 : Int32)), .val (.int (1 : Int32)), .val (.ref b), .unset, .unset, .unset, .unset, .unset, .unset, .unset, .unset, .unset, .unset] [])) tg → G tg := fun tg kt => pre74 tg (st75.trans kt)
          have Z75 : n0 ≤ T75.heap.size := Nat.le_trans Z72 K75.1
          have A67_76 := A67_73.keep K75
          rw [own_upd_eq, own_upd_upd] at Ac75
          have pre77 : ∀ tg, Steps p.tables e below (T75.setTop (mkF m 159 #[.val (.int p0), .val (.int p1), .val (.int p2), .val (.int p3), .val (.int p4), .val (.int p5), .val (.int nn), .val (.int va), .val (.int vb), .val (.int vc), .val (.int vd), .val (.int (1 : Int32)), .val (.int (1 : Int32)), .val (.int (1 : Int32)), .val (.ref b), .unset, .unset, .unset, .unset, .unset, .unset, .unset, .unset, .unset, .unset] [(.int va), (.int vb), (.ref b)])) tg → G tg := fun tg kt => pre75s tg (by
            show Steps p.tables e below (T75.setTop (mkF m 148 #[.val (.int p0), .val (.int p1), .val (.int p2), .val (.int p3), .val (.int p4), .val (.int p5), .val (.int nn), .val (.int va), .val (.int vb), .val (.int vc), .val (.int vd), .val (.int (1 : Int32)), .val (.int (1 : Int32)), .val (.int (1 : Int32)), .val (.ref b), .unset, .unset, .unset, .unset, .unset, .unset, .unset, .unset, .unset, .unset] [])) _
            refine XS.iload X75.here hx rfl (hb hby at_148) rfl ?_
            show Steps p.tables e below (T75.setTop (mkF m 150 #[.val (.int p0), .val (.int p1), .val (.int p2), .val (.int p3), .val (.int p4), .val (.int p5), .val (.int nn), .val (.int va), .val (.int vb), .val (.int vc), .val (.int vd), .val (.int (1 : Int32)), .val (.int (1 : Int32)), .val (.int (1 : Int32)), .val (.ref b), .unset, .unset, .unset, .unset, .unset, .unset, .unset, .unset, .unset, .unset] [(.int (1 : Int32))])) _
            refine XS.ifNo X75.here hx rfl (hb hby at_150) rfl ((if0 _ _).trans (feq (by decide : ¬ ((1 : Int32) = (0 : Int32)))).1) ?_
            show Steps p.tables e below (T75.setTop (mkF m 153 #[.val (.int p0), .val (.int p1), .val (.int p2), .val (.int p3), .val (.int p4), .val (.int p5), .val (.int nn), .val (.int va), .val (.int vb), .val (.int vc), .val (.int vd), .val (.int (1 : Int32)), .val (.int (1 : Int32)), .val (.int (1 : Int32)), .val (.ref b), .unset, .unset, .unset, .unset, .unset, .unset, .unset, .unset, .unset, .unset] [])) _
            refine XS.aload X75.here hx rfl (hb hby at_153) rfl rfl ?_
            show Steps p.tables e below (T75.setTop (mkF m 155 #[.val (.int p0), .val (.int p1), .val (.int p2), .val (.int p3), .val (.int p4), .val (.int p5), .val (.int nn), .val (.int va), .val (.int vb), .val (.int vc), .val (.int vd), .val (.int (1 : Int32)), .val (.int (1 : Int32)), .val (.int (1 : Int32)), .val (.ref b), .unset, .unset, .unset, .unset, .unset, .unset, .unset, .unset, .unset, .unset] [(.ref b)])) _
            refine XS.iload X75.here hx rfl (hb hby at_155) rfl ?_
            show Steps p.tables e below (T75.setTop (mkF m 157 #[.val (.int p0), .val (.int p1), .val (.int p2), .val (.int p3), .val (.int p4), .val (.int p5), .val (.int nn), .val (.int va), .val (.int vb), .val (.int vc), .val (.int vd), .val (.int (1 : Int32)), .val (.int (1 : Int32)), .val (.int (1 : Int32)), .val (.ref b), .unset, .unset, .unset, .unset, .unset, .unset, .unset, .unset, .unset, .unset] [(.int vb), (.ref b)])) _
            refine XS.iload X75.here hx rfl (hb hby at_157) rfl ?_
            exact kt)
          obtain ⟨cq78, kq78, q78a, q78b, q78c⟩ := isOf hZ rfl A67_76
          obtain ⟨_, _, ⟨T78, L78, k78, n78⟩, -, X78, ⟨Lc78, hQ78, l78, y78, z78⟩, st78⟩ := X75.virtualBack hx (y := (⟨"com/example/convene/convene/PairCounts", "add", "(II)V"⟩ : MethodName)) (z := (⟨"com/example/convene/convene/PairCounts", "add", "(II)V"⟩ : MethodName)) hown (mvT hZ (hw _ (List.mem_of_getElem? (i := 20) rfl))) (mvT hZ (hw _ (List.mem_of_getElem? (i := 21) rfl))) (notFace_of_selects (args := #[]) (mvT hZ (hw _ (List.mem_of_getElem? (i := 23) rfl)))) (mvT hZ (hw _ (List.mem_of_getElem? (i := 23) rfl))) (mvT hZ (hw _ (List.mem_of_getElem? (i := 22) rfl))) (by decide) (backOf (W := 0) (rm3o l Z a0 hw [] b vb va nn kb cb kA kC (own_upd own_z (own_hn (own_key va vb nn)) (own_key va vb nn)) (own_upd own_z (own_hn (own_key va vb nn)) (((own_z (own_hn (own_key va vb nn))) + (1 : Int64)) + (1 : Int64))) ((0 : Int32) + (1 : Int32)) (own_key va vb nn) (own_hn (own_key va vb nn)) T75.heap n0 Z75 A67_76 Fnodes75 Fbits75 Fkeys75 Fcounts75 Fpairs75 Ak75 Ac75 O_b O_kb O_cb ne1 ne2 ne3 (own_key_sym hn iva ivb) (own_pk (own_upd_eq _ _ _)) (own_hlt _) (fun q => hab q.symm) (by rw [own_upd_eq]; exact hK1)) hZ (hw _ (List.mem_of_getElem? (i := 24) rfl)) (hw _ (List.mem_of_getElem? (i := 4) rfl)) (by decide) (by decide)) q78a q78c (g := (mkF m 159 #[.val (.int p0), .val (.int p1), .val (.int p2), .val (.int p3), .val (.int p4), .val (.int p5), .val (.int nn), .val (.int va), .val (.int vb), .val (.int vc), .val (.int vd), .val (.int (1 : Int32)), .val (.int (1 : Int32)), .val (.int (1 : Int32)), .val (.ref b), .unset, .unset, .unset, .unset, .unset, .unset, .unset, .unset, .unset, .unset] [(.int va), (.int vb), (.ref b)])) rfl (by rw [hml]; rfl) (Steps.refl _) (argsL := [(.int vb), (.int va)]) (rest := []) (lenOf pd_6 rfl) rfl (by show 2 * 0 + _ ≤ _; exact Nat.le_of_eq rfl) (hb hby at_159) (fun _ _ => ⟨rfl, rfl, (Nat.le_of_ble_eq_true rfl), (Nat.le_of_ble_eq_true rfl)⟩)
          dsimp only [Pt.U, Pt.locs, Pt.cells, Pt.slots] at X78 l78 y78 z78 st78 hQ78
          subst l78 y78 z78
          obtain ⟨rfl, N78q, K78, Fnodes78, Fbits78, Fkeys78, Fcounts78, Fpairs78, Ak78, Ac78⟩ := hQ78
          have N78 := Fr.app N75 N78q
          have pre78s : ∀ tg, Steps p.tables e below (T78.setTop (mkF m 162 #[.val (.int p0), .val (.int p1), .val (.int p2), .val (.int p3), .val (.int p4), .val (.int p5), .val (.int nn), .val (.int va), .val (.int vb), .val (.int vc), .val (.int vd), .val (.int (1 : Int32)), .val (.int (1 : Int32)), .val (.int (1 : Int32)), .val (.ref b), .unset, .unset, .unset, .unset, .unset, .unset, .unset, .unset, .unset, .unset] [])) tg → G tg := fun tg kt => pre77 tg (st78.trans kt)
          have Z78 : n0 ≤ T78.heap.size := Nat.le_trans Z75 K78.1
          have A67_79 := A67_76.keep K78
          rw [own_upd_eq, own_upd_upd] at Ac78
          have hMM : ∀ Kq : Int64, Kq ≠ 0 → (fun K => if (own_key va vb nn) = K then ((((own_z (own_hn (own_key va vb nn))) + (1 : Int64)) + (1 : Int64)) + (1 : Int64)) else 0) Kq = own_sum (1 : Int32) (1 : Int32) (1 : Int32) (own_key va vb nn) (own_key vc vd nn) Kq := by
            intro Kq _
            rw [← hk]
            unfold own_sum own_e own_z
            by_cases q : (own_key va vb nn) = Kq <;> simp [q]
          obtain ⟨T80, lo80, pcE, LsE, X80, e80, N80, dE, st80⟩ := own_tail n0 p0 p1 p2 p3 p4 p5 nn va vb vc vd (1 : Int32) (1 : Int32) (1 : Int32) b kb cb kA kC (own_upd own_z (own_hn (own_key va vb nn)) (own_key va vb nn)) (own_upd own_z (own_hn (own_key va vb nn)) ((((own_z (own_hn (own_key va vb nn))) + (1 : Int64)) + (1 : Int64)) + (1 : Int64))) ((0 : Int32) + (1 : Int32)) (fun K => if (own_key va vb nn) = K then ((((own_z (own_hn (own_key va vb nn))) + (1 : Int64)) + (1 : Int64)) + (1 : Int64)) else 0) X78 hx hZ hw hby hml hown rfl N78 Z78 (by decide) (by decide) A67_79 Fnodes78 Fbits78 Fkeys78 Fcounts78 Fpairs78 Ak78 Ac78 (own_L1 own_hlt hK1 ((((own_z (own_hn (own_key va vb nn))) + (1 : Int64)) + (1 : Int64)) + (1 : Int64))) hMM hn iva ivb ivc ivd
          obtain ⟨fs, hr, hrun, hended, hW, hsame⟩ := X80.leave (v := some (.int (1 : Int32))) (fun h => by rw [Bd.returns] at h; cases h)
          subst hG
          refine ⟨_, _, pre78s _ (st80 _ ?_), hrun, hended, _, _, rfl, ?_, ⟨_, rfl⟩, hW, hsame.mono (by decide) (by decide)⟩
          · exact retN X80 hx (t := .boolean) Bd.returns (by simp) (hb hby dE) hr
          · exact ⟨rfl, N80⟩
        · skip
          have hK2 := own_key0 hn ivc ivd hcd
          have hs2 : (own_s2 (own_hn (own_key va vb nn)) (own_hn (own_key vc vd nn))) ≠ (own_hn (own_key va vb nn)) := own_s2_ne (own_hlt _)
          obtain ⟨cq81, kq81, q81a, q81b, q81c⟩ := isOf hZ rfl A67_73
          obtain ⟨_, _, ⟨T81, L81, k81, n81⟩, -, X81, ⟨Lc81, hQ81, l81, y81, z81⟩, st81⟩ := X72.virtualBack hx (y := (⟨"com/example/convene/convene/PairCounts", "add", "(II)V"⟩ : MethodName)) (z := (⟨"com/example/convene/convene/PairCounts", "add", "(II)V"⟩ : MethodName)) hown (mvT hZ (hw _ (List.mem_of_getElem? (i := 20) rfl))) (mvT hZ (hw _ (List.mem_of_getElem? (i := 21) rfl))) (notFace_of_selects (args := #[]) (mvT hZ (hw _ (List.mem_of_getElem? (i := 23) rfl)))) (mvT hZ (hw _ (List.mem_of_getElem? (i := 23) rfl))) (mvT hZ (hw _ (List.mem_of_getElem? (i := 22) rfl))) (by decide) (backOf (W := 0) (rm3n l Z a0 hw [] b vc vd nn kb cb kA kC (own_upd own_z (own_hn (own_key va vb nn)) (own_key va vb nn)) (own_upd own_z (own_hn (own_key va vb nn)) ((own_z (own_hn (own_key va vb nn))) + (1 : Int64))) ((0 : Int32) + (1 : Int32)) (own_key vc vd nn) (own_s2 (own_hn (own_key va vb nn)) (own_hn (own_key vc vd nn))) T72.heap n0 Z72 A67_73 Fnodes72 Fbits72 Fkeys72 Fcounts72 Fpairs72 Ak72 Ac72 O_b O_kb O_cb ne1 ne2 ne3 rfl (own_l1b (own_hlt _) hK1 hk) (own_s2_lt (own_hlt _)) hcd (by rw [own_upd_ne hs2]; rfl) (by decide)) hZ (hw _ (List.mem_of_getElem? (i := 24) rfl)) (hw _ (List.mem_of_getElem? (i := 4) rfl)) (by decide) (by decide)) q81a q81c (g := (mkF m 145 #[.val (.int p0), .val (.int p1), .val (.int p2), .val (.int p3), .val (.int p4), .val (.int p5), .val (.int nn), .val (.int va), .val (.int vb), .val (.int vc), .val (.int vd), .val (.int (1 : Int32)), .val (.int (1 : Int32)), .val (.int (1 : Int32)), .val (.ref b), .unset, .unset, .unset, .unset, .unset, .unset, .unset, .unset, .unset, .unset] [(.int vd), (.int vc), (.ref b)])) rfl (by rw [hml]; rfl) (Steps.refl _) (argsL := [(.int vc), (.int vd)]) (rest := []) (lenOf pd_6 rfl) rfl (by show 2 * 0 + _ ≤ _; exact Nat.le_of_eq rfl) (hb hby at_145) (fun _ _ => ⟨rfl, rfl, (Nat.le_of_ble_eq_true rfl), (Nat.le_of_ble_eq_true rfl)⟩)
          dsimp only [Pt.U, Pt.locs, Pt.cells, Pt.slots] at X81 l81 y81 z81 st81 hQ81
          subst l81 y81 z81
          obtain ⟨rfl, N81q, K81, Fnodes81, Fbits81, Fkeys81, Fcounts81, Fpairs81, Ak81, Ac81⟩ := hQ81
          have N81 := Fr.app N72 N81q
          have pre81s : ∀ tg, Steps p.tables e below (T81.setTop (mkF m 148 #[.val (.int p0), .val (.int p1), .val (.int p2), .val (.int p3), .val (.int p4), .val (.int p5), .val (.int nn), .val (.int va), .val (.int vb), .val (.int vc), .val (.int vd), .val (.int (1 : Int32)), .val (.int (1 : Int32)), .val (.int (1 : Int32)), .val (.ref b), .unset, .unset, .unset, .unset, .unset, .unset, .unset, .unset, .unset, .unset] [])) tg → G tg := fun tg kt => pre74 tg (st81.trans kt)
          have Z81 : n0 ≤ T81.heap.size := Nat.le_trans Z72 K81.1
          have A67_82 := A67_73.keep K81
          have pre83 : ∀ tg, Steps p.tables e below (T81.setTop (mkF m 159 #[.val (.int p0), .val (.int p1), .val (.int p2), .val (.int p3), .val (.int p4), .val (.int p5), .val (.int nn), .val (.int va), .val (.int vb), .val (.int vc), .val (.int vd), .val (.int (1 : Int32)), .val (.int (1 : Int32)), .val (.int (1 : Int32)), .val (.ref b), .unset, .unset, .unset, .unset, .unset, .unset, .unset, .unset, .unset, .unset] [(.int va), (.int vb), (.ref b)])) tg → G tg := fun tg kt => pre81s tg (by
            show Steps p.tables e below (T81.setTop (mkF m 148 #[.val (.int p0), .val (.int p1), .val (.int p2), .val (.int p3), .val (.int p4), .val (.int p5), .val (.int nn), .val (.int va), .val (.int vb), .val (.int vc), .val (.int vd), .val (.int (1 : Int32)), .val (.int (1 : Int32)), .val (.int (1 : Int32)), .val (.ref b), .unset, .unset, .unset, .unset, .unset, .unset, .unset, .unset, .unset, .unset] [])) _
            refine XS.iload X81.here hx rfl (hb hby at_148) rfl ?_
            show Steps p.tables e below (T81.setTop (mkF m 150 #[.val (.int p0), .val (.int p1), .val (.int p2), .val (.int p3), .val (.int p4), .val (.int p5), .val (.int nn), .val (.int va), .val (.int vb), .val (.int vc), .val (.int vd), .val (.int (1 : Int32)), .val (.int (1 : Int32)), .val (.int (1 : Int32)), .val (.ref b), .unset, .unset, .unset, .unset, .unset, .unset, .unset, .unset, .unset, .unset] [(.int (1 : Int32))])) _
            refine XS.ifNo X81.here hx rfl (hb hby at_150) rfl ((if0 _ _).trans (feq (by decide : ¬ ((1 : Int32) = (0 : Int32)))).1) ?_
            show Steps p.tables e below (T81.setTop (mkF m 153 #[.val (.int p0), .val (.int p1), .val (.int p2), .val (.int p3), .val (.int p4), .val (.int p5), .val (.int nn), .val (.int va), .val (.int vb), .val (.int vc), .val (.int vd), .val (.int (1 : Int32)), .val (.int (1 : Int32)), .val (.int (1 : Int32)), .val (.ref b), .unset, .unset, .unset, .unset, .unset, .unset, .unset, .unset, .unset, .unset] [])) _
            refine XS.aload X81.here hx rfl (hb hby at_153) rfl rfl ?_
            show Steps p.tables e below (T81.setTop (mkF m 155 #[.val (.int p0), .val (.int p1), .val (.int p2), .val (.int p3), .val (.int p4), .val (.int p5), .val (.int nn), .val (.int va), .val (.int vb), .val (.int vc), .val (.int vd), .val (.int (1 : Int32)), .val (.int (1 : Int32)), .val (.int (1 : Int32)), .val (.ref b), .unset, .unset, .unset, .unset, .unset, .unset, .unset, .unset, .unset, .unset] [(.ref b)])) _
            refine XS.iload X81.here hx rfl (hb hby at_155) rfl ?_
            show Steps p.tables e below (T81.setTop (mkF m 157 #[.val (.int p0), .val (.int p1), .val (.int p2), .val (.int p3), .val (.int p4), .val (.int p5), .val (.int nn), .val (.int va), .val (.int vb), .val (.int vc), .val (.int vd), .val (.int (1 : Int32)), .val (.int (1 : Int32)), .val (.int (1 : Int32)), .val (.ref b), .unset, .unset, .unset, .unset, .unset, .unset, .unset, .unset, .unset, .unset] [(.int vb), (.ref b)])) _
            refine XS.iload X81.here hx rfl (hb hby at_157) rfl ?_
            exact kt)
          obtain ⟨cq84, kq84, q84a, q84b, q84c⟩ := isOf hZ rfl A67_82
          obtain ⟨_, _, ⟨T84, L84, k84, n84⟩, -, X84, ⟨Lc84, hQ84, l84, y84, z84⟩, st84⟩ := X81.virtualBack hx (y := (⟨"com/example/convene/convene/PairCounts", "add", "(II)V"⟩ : MethodName)) (z := (⟨"com/example/convene/convene/PairCounts", "add", "(II)V"⟩ : MethodName)) hown (mvT hZ (hw _ (List.mem_of_getElem? (i := 20) rfl))) (mvT hZ (hw _ (List.mem_of_getElem? (i := 21) rfl))) (notFace_of_selects (args := #[]) (mvT hZ (hw _ (List.mem_of_getElem? (i := 23) rfl)))) (mvT hZ (hw _ (List.mem_of_getElem? (i := 23) rfl))) (mvT hZ (hw _ (List.mem_of_getElem? (i := 22) rfl))) (by decide) (backOf (W := 0) (rm3o l Z a0 hw [] b vb va nn kb cb kA kC (own_upd (own_upd own_z (own_hn (own_key va vb nn)) (own_key va vb nn)) (own_s2 (own_hn (own_key va vb nn)) (own_hn (own_key vc vd nn))) (own_key vc vd nn)) (own_upd (own_upd own_z (own_hn (own_key va vb nn)) ((own_z (own_hn (own_key va vb nn))) + (1 : Int64))) (own_s2 (own_hn (own_key va vb nn)) (own_hn (own_key vc vd nn))) (((own_upd own_z (own_hn (own_key va vb nn)) ((own_z (own_hn (own_key va vb nn))) + (1 : Int64))) (own_s2 (own_hn (own_key va vb nn)) (own_hn (own_key vc vd nn)))) + (1 : Int64))) (((0 : Int32) + (1 : Int32)) + (1 : Int32)) (own_key va vb nn) (own_hn (own_key va vb nn)) T81.heap n0 Z81 A67_82 Fnodes81 Fbits81 Fkeys81 Fcounts81 Fpairs81 Ak81 Ac81 O_b O_kb O_cb ne1 ne2 ne3 (own_key_sym hn iva ivb) (own_l2a hs2) (own_hlt _) (fun q => hab q.symm) (by rw [own_upd_ne hs2.symm, own_upd_eq]; exact hK1)) hZ (hw _ (List.mem_of_getElem? (i := 24) rfl)) (hw _ (List.mem_of_getElem? (i := 4) rfl)) (by decide) (by decide)) q84a q84c (g := (mkF m 159 #[.val (.int p0), .val (.int p1), .val (.int p2), .val (.int p3), .val (.int p4), .val (.int p5), .val (.int nn), .val (.int va), .val (.int vb), .val (.int vc), .val (.int vd), .val (.int (1 : Int32)), .val (.int (1 : Int32)), .val (.int (1 : Int32)), .val (.ref b), .unset, .unset, .unset, .unset, .unset, .unset, .unset, .unset, .unset, .unset] [(.int va), (.int vb), (.ref b)])) rfl (by rw [hml]; rfl) (Steps.refl _) (argsL := [(.int vb), (.int va)]) (rest := []) (lenOf pd_6 rfl) rfl (by show 2 * 0 + _ ≤ _; exact Nat.le_of_eq rfl) (hb hby at_159) (fun _ _ => ⟨rfl, rfl, (Nat.le_of_ble_eq_true rfl), (Nat.le_of_ble_eq_true rfl)⟩)
          dsimp only [Pt.U, Pt.locs, Pt.cells, Pt.slots] at X84 l84 y84 z84 st84 hQ84
          subst l84 y84 z84
          obtain ⟨rfl, N84q, K84, Fnodes84, Fbits84, Fkeys84, Fcounts84, Fpairs84, Ak84, Ac84⟩ := hQ84
          have N84 := Fr.app N81 N84q
          have pre84s : ∀ tg, Steps p.tables e below (T84.setTop (mkF m 162 #[.val (.int p0), .val (.int p1), .val (.int p2), .val (.int p3), .val (.int p4), .val (.int p5), .val (.int nn), .val (.int va), .val (.int vb), .val (.int vc), .val (.int vd), .val (.int (1 : Int32)), .val (.int (1 : Int32)), .val (.int (1 : Int32)), .val (.ref b), .unset, .unset, .unset, .unset, .unset, .unset, .unset, .unset, .unset, .unset] [])) tg → G tg := fun tg kt => pre83 tg (st84.trans kt)
          have Z84 : n0 ≤ T84.heap.size := Nat.le_trans Z81 K84.1
          have A67_85 := A67_82.keep K84
          rw [own_upd_ne hs2.symm, own_upd_eq, own_upd_swap hs2] at Ac84
          have hMM : ∀ Kq : Int64, Kq ≠ 0 → (fun K => if (own_key va vb nn) = K then (((own_z (own_hn (own_key va vb nn))) + (1 : Int64)) + (1 : Int64)) else if (own_key vc vd nn) = K then (((own_upd own_z (own_hn (own_key va vb nn)) ((own_z (own_hn (own_key va vb nn))) + (1 : Int64))) (own_s2 (own_hn (own_key va vb nn)) (own_hn (own_key vc vd nn)))) + (1 : Int64)) else 0) Kq = own_sum (1 : Int32) (1 : Int32) (1 : Int32) (own_key va vb nn) (own_key vc vd nn) Kq := by
            intro Kq _
            have z0 : (own_upd own_z (own_hn (own_key va vb nn)) ((own_z (own_hn (own_key va vb nn))) + (1 : Int64))) (own_s2 (own_hn (own_key va vb nn)) (own_hn (own_key vc vd nn))) = 0 := by rw [own_upd_ne hs2]; rfl
            rw [z0]
            unfold own_sum own_e own_z
            by_cases q : (own_key va vb nn) = Kq
            · have q' : ¬ (own_key vc vd nn) = Kq := fun r => hk (q.trans r.symm)
              simp [q, q']
            · by_cases q' : (own_key vc vd nn) = Kq <;> simp [q, q']
          obtain ⟨T86, lo86, pcE, LsE, X86, e86, N86, dE, st86⟩ := own_tail n0 p0 p1 p2 p3 p4 p5 nn va vb vc vd (1 : Int32) (1 : Int32) (1 : Int32) b kb cb kA kC (own_upd (own_upd own_z (own_hn (own_key va vb nn)) (own_key va vb nn)) (own_s2 (own_hn (own_key va vb nn)) (own_hn (own_key vc vd nn))) (own_key vc vd nn)) (own_upd (own_upd own_z (own_hn (own_key va vb nn)) (((own_z (own_hn (own_key va vb nn))) + (1 : Int64)) + (1 : Int64))) (own_s2 (own_hn (own_key va vb nn)) (own_hn (own_key vc vd nn))) (((own_upd own_z (own_hn (own_key va vb nn)) ((own_z (own_hn (own_key va vb nn))) + (1 : Int64))) (own_s2 (own_hn (own_key va vb nn)) (own_hn (own_key vc vd nn)))) + (1 : Int64))) (((0 : Int32) + (1 : Int32)) + (1 : Int32)) (fun K => if (own_key va vb nn) = K then (((own_z (own_hn (own_key va vb nn))) + (1 : Int64)) + (1 : Int64)) else if (own_key vc vd nn) = K then (((own_upd own_z (own_hn (own_key va vb nn)) ((own_z (own_hn (own_key va vb nn))) + (1 : Int64))) (own_s2 (own_hn (own_key va vb nn)) (own_hn (own_key vc vd nn)))) + (1 : Int64)) else 0) X84 hx hZ hw hby hml hown rfl N84 Z84 (by decide) (by decide) A67_85 Fnodes84 Fbits84 Fkeys84 Fcounts84 Fpairs84 Ak84 Ac84 (own_L2 own_hlt hK1 hK2 hk (((own_z (own_hn (own_key va vb nn))) + (1 : Int64)) + (1 : Int64)) (((own_upd own_z (own_hn (own_key va vb nn)) ((own_z (own_hn (own_key va vb nn))) + (1 : Int64))) (own_s2 (own_hn (own_key va vb nn)) (own_hn (own_key vc vd nn)))) + (1 : Int64))) hMM hn iva ivb ivc ivd
          obtain ⟨fs, hr, hrun, hended, hW, hsame⟩ := X86.leave (v := some (.int (1 : Int32))) (fun h => by rw [Bd.returns] at h; cases h)
          subst hG
          refine ⟨_, _, pre84s _ (st86 _ ?_), hrun, hended, _, _, rfl, ?_, ⟨_, rfl⟩, hW, hsame.mono (by decide) (by decide)⟩
          · exact retN X86 hx (t := .boolean) Bd.returns (by simp) (hb hby dE) hr
          · exact ⟨rfl, N86⟩
set_option maxRecDepth 65536 in
set_option maxHeartbeats 40000000 in
theorem comes_1 {Post : Tables → Env → Array Value → State → Outcome → State → Prop} (hpost : ∀ tb e args s v u, (limb_1_1.after args s (.returned v) u = true ∧ limb_1_2.after args s (.returned v) u = true ∧ True) → FrameEnd s (.returned v) u (Jvm.fieldLocs frame_1_writes args s ++ Jvm.arrayLocs frame_1_arrays args s ++ Jvm.staticLocs frame_1_statics s) 16 4224 → Post tb e args s (.returned v) u) :
    ArmFor flags0 classFile x code maxLocals ret World_1 tables_1 room_1 Calls_1 rest_1 Pre_1 Post := by
  intro l hfl _ _ p e ha hc hk s m args below hf hA hF happ hP
  obtain ⟨hcalls, hrest, hpre⟩ := hP
  obtain ⟨-, -, -, hnamed, -, -, -, hat⟩ := (Spec.applies_iff hf).mp happ
  obtain ⟨hg, hn⟩ := and_e (Cond.before_iff.mp (show (Jvm.Cond.and given_1 narrow_1).before args s = true from hpre))
  obtain ⟨ga0, gb0⟩ := and_e hg
  obtain ⟨ga1, gb1⟩ := and_e gb0
  obtain ⟨ga2, gb2⟩ := and_e gb1
  obtain ⟨ga3, gb3⟩ := and_e gb2
  obtain ⟨ga4, gb4⟩ := and_e gb3
  obtain ⟨ga5, gb5⟩ := and_e gb4
  obtain ⟨w0, w1, w2, w3, w4, w5, rfl⟩ : ∃ w0 w1 w2 w3 w4 w5 : Value, args = #[w0, w1, w2, w3, w4, w5] := by
    have hs : args.size = 6 := by simpa [Cond.value, given_1] using ga0
    obtain ⟨L⟩ := args
    match L, hs with
    | [w0, w1, w2, w3, w4, w5], _ => exact ⟨w0, w1, w2, w3, w4, w5, rfl⟩
  have hw := fun d (hd : d ∈ tables_1) => atoms_spec (ws := Jvm.Cond.code x code maxLocals ret :: tables_1) hat d (List.mem_cons_of_mem _ hd)
  have hfit : Fit s := fun {y c} hc i hi => by
    obtain ⟨ha, rfl⟩ := Array.getElem?_eq_some_iff.mp hc
    have q := List.all_eq_true.mp ((Array.all_eq_true_iff_forall_mem.mp hF) _ (Array.getElem_mem ha)) i (List.mem_range.mpr hi)
    simpa [Array.getElem?_eq_getElem hi] using q
  obtain ⟨i0, ei0⟩ := is_v ga1
  obtain rfl : w0 = (.int i0) := Option.some.inj ei0
  obtain ⟨i1, ei1⟩ := is_v ga2
  obtain rfl : w1 = (.int i1) := Option.some.inj ei1
  obtain ⟨i2, ei2⟩ := is_v ga3
  obtain rfl : w2 = (.int i2) := Option.some.inj ei2
  obtain ⟨i3, ei3⟩ := is_v ga4
  obtain rfl : w3 = (.int i3) := Option.some.inj ei3
  obtain ⟨i4, ei4⟩ := is_v ga5
  obtain rfl : w4 = (.int i4) := Option.some.inj ei4
  obtain ⟨i5, ei5⟩ := is_v gb5
  obtain rfl : w5 = (.int i5) := Option.some.inj ei5
  obtain ⟨n, o, h1, h2, h3, _, L, rfl, ⟨rfl, N⟩, hq⟩ := rm0 l s _ hw tables_1 i0 i1 i2 i3 i4 i5 s.heap s.heap.size (Nat.le_refl _) p e ha hc hk s m _ below hf ((Spec.applies_iff_loose hf).mp happ).1 ⟨rfl, State.Warmed39.refl s, rfl⟩ trivial
  refine ⟨n, _, h1, h2, h3, hpost _ _ _ _ _ _ ⟨Cond.after_iff.mpr rfl, Cond.after_iff.mpr (eq_i res_at (Term.int_eval (1)) rfl), trivial⟩ ⟨hq.1, hq.2.1, (hq.2.2.sift fun y hy => Or.inr (N y hy)).mono (by decide) (by decide)⟩⟩
theorem main_1_1 : Claimed_1_1 := comes_1 fun _ _ _ _ _ _ h hF => ⟨h.1, hF⟩
theorem main_1_2 : Claimed_1_2 := comes_1 fun _ _ _ _ _ _ h hF => ⟨h.2.1, hF⟩
end Jvm.Pilot.@@N@@
namespace Jvm.Pilot.@@N@@
open Jvm Jvm.ClassFile Sem Op Lib Jvm.Free Jvm.Stand Jvm.Pilot.@@N@@.Jvm.D
/-! MADE BY PROGRAM (witnessworld.py) out of the Statement's table words and the real class files: 12 classes; the members and pool entries that the words name. The judged class is class 1, her method 3. -/
namespace start1
open Jvm.ClassFile
def u (s : String) : CpInfo := .utf8 (stringToUtf16 s)
/-- a pool by its gaps: so many unusable entries, then the entry; so many at the end -/
def gap : Nat → List CpInfo → List CpInfo
  | 0, r => r
  | n + 1, r => .unusable :: gap n r
def poolList (es : List (Nat × CpInfo)) (last : Nat) : List CpInfo := es.foldr (fun e r => gap e.1 (e.2 :: r)) (gap last [])
def pool (es : List (Nat × CpInfo)) (last : Nat) : Array CpInfo := ⟨poolList es last⟩
def fileOf (pool : Array CpInfo) (this : Nat) (attrs : Array Attribute := #[]) (ms : Array MethodInfo := #[]) (fl : Nat := 33) (sup : Nat := 0) (ifs : Array Nat := #[]) (fds : Array FieldInfo := #[]) : ClassFile where
  minorVersion := 0
  majorVersion := 65
  constantPool := pool
  accessFlags := fl
  thisClass := this
  superClass := sup
  interfaces := ifs
  fields := fds
  methods := ms
  attributes := attrs
def plain (name : String) (sup : Option ClassId) : Class where
  name := name
  kind := .ordinary
  loader := none
  accessFlags := 33
  super := sup
  interfaces := #[]
  cf := none
  fields := #[]
  methods := #[]
  instanceTypes := #[]
  staticTypes := #[]
  resolved := #[]
  callSites := []
  init := .initialized
  statics := none
  mirror := none

def pool0 : Array CpInfo := pool [(5, u "<init>"), (0, u "()V"), (1, .class_ 10), (1, u "java/lang/Object")] 113

def k0c0 : Code := { maxStack := 0, maxLocals := 1, code := object_method_1_code, exceptionTable := #[], attributes := #[] }
def k0m0 : Method := { name := "<init>", desc := "()V", sig := { parameters := [], returnType := none }, accessFlags := 1, code := some k0c0 }
/-- java/lang/Object -/
def k0 : Class := { plain "java/lang/Object" none with
  accessFlags := 33
  interfaces := #[]
  cf := some (fileOf pool0 8 #[] #[{ accessFlags := 1, nameIndex := 5, descriptorIndex := 6, attributes := #[] }] 33 0 #[] #[])
  fields := #[]
  methods := #[k0m0]
  instanceTypes := #[]
  staticTypes := #[]
  resolved := Array.replicate 124 none
  statics := none }

def pool1 : Array CpInfo := pool [(2, .class_ 4), (1, u "java/lang/Object"), (0, u "<init>"), (0, u "()V"), (0, .integer 1073741823), (0, .integer 2147483647), (0, .class_ 10), (0, u "com/example/convene/convene/PairCounts"), (0, .methodref 9 12), (0, .nameAndType 5 13), (0, u "(I)V"), (0, .methodref 9 15), (0, .nameAndType 16 17), (0, u "add"), (0, u "(II)V"), (0, .methodref 19 20), (0, .class_ 21), (0, .nameAndType 22 23), (0, u "com/example/convene/convene/PairCountsCountPinLaw"), (0, u "pick"), (0, u "(IIIII)I"), (0, .methodref 19 25), (0, .nameAndType 26 27), (0, u "same"), (0, u "(IIII)Z"), (0, .methodref 9 29), (0, .nameAndType 30 31), (0, u "count"), (0, u "(II)J"), (3, u "law"), (0, u "(IIIIII)Z")] 2

def k1m0 : Method := { name := "<init>", desc := "()V", sig := { parameters := [], returnType := none }, accessFlags := 1, code := none }
def k1c1 : Code := { maxStack := 2, maxLocals := 5, code := method_2_code, exceptionTable := #[], attributes := #[] }
def k1m1 : Method := { name := "pick", desc := "(IIIII)I", sig := { parameters := [.int, .int, .int, .int, .int], returnType := some .int }, accessFlags := 10, code := some k1c1 }
def k1c2 : Code := { maxStack := 2, maxLocals := 4, code := method_3_code, exceptionTable := #[], attributes := #[] }
def k1m2 : Method := { name := "same", desc := "(IIII)Z", sig := { parameters := [.int, .int, .int, .int], returnType := some .boolean }, accessFlags := 10, code := some k1c2 }
def k1c3 : Code := { maxStack := 5, maxLocals := 25, code := code, exceptionTable := #[], attributes := #[] }
def k1m3 : Method := { name := "law", desc := "(IIIIII)Z", sig := { parameters := [.int, .int, .int, .int, .int, .int], returnType := some .boolean }, accessFlags := 9, code := some k1c3 }
/-- com/example/convene/convene/PairCountsCountPinLaw -/
def k1 : Class := { plain "com/example/convene/convene/PairCountsCountPinLaw" (some 0) with
  accessFlags := 49
  interfaces := #[]
  cf := some (fileOf pool1 19 #[] #[{ accessFlags := 1, nameIndex := 5, descriptorIndex := 6, attributes := #[] }, { accessFlags := 10, nameIndex := 22, descriptorIndex := 23, attributes := #[] }, { accessFlags := 10, nameIndex := 26, descriptorIndex := 27, attributes := #[] }, { accessFlags := 9, nameIndex := 35, descriptorIndex := 36, attributes := #[] }] 49 2 #[] #[])
  fields := #[]
  methods := #[k1m0, k1m1, k1m2, k1m3]
  instanceTypes := #[]
  staticTypes := #[]
  resolved := Array.replicate 39 none
  statics := none }

def pool2 : Array CpInfo := pool [(1, .methodref 2 3), (0, .class_ 4), (0, .nameAndType 5 6), (0, u "java/lang/Object"), (0, u "<init>"), (0, u "()V"), (0, .fieldref 8 9), (0, .class_ 10), (0, .nameAndType 11 12), (0, u "com/example/convene/convene/PairCounts"), (0, u "nodes"), (0, u "I"), (0, .fieldref 8 14), (0, .nameAndType 15 12), (0, u "bits"), (0, .fieldref 8 17), (0, .nameAndType 18 19), (0, u "keys"), (0, u "[J"), (0, .fieldref 8 21), (0, .nameAndType 22 19), (0, u "counts"), (0, .fieldref 8 24), (0, .nameAndType 25 12), (0, u "pairs"), (9, .methodref 8 36), (0, .nameAndType 37 38), (0, u "key"), (0, u "(II)J"), (0, .methodref 8 40), (0, .nameAndType 41 42), (0, u "slot"), (0, u "(J)I"), (0, .long 2), (12, u "count"), (1, .class_ 60), (1, u "com/example/convene/convene/PairCounts$ArcVisitor"), (2, .methodref 64 65), (0, .class_ 66), (0, .nameAndType 67 68), (0, u "java/lang/Math"), (0, u "min"), (0, u "(II)I"), (0, .methodref 64 70), (0, .nameAndType 71 68), (0, u "max"), (0, .long 11400714819323198485), (3, u "INITIAL_BITS"), (2, u "SPREAD"), (0, u "J"), (0, u "(I)V"), (3, u "add"), (0, u "(II)V")] 26

def k2c0 : Code := { maxStack := 3, maxLocals := 2, code := prog_23_method_1_code, exceptionTable := #[], attributes := #[] }
def k2m0 : Method := { name := "<init>", desc := "(I)V", sig := { parameters := [.int], returnType := none }, accessFlags := 0, code := some k2c0 }
def k2c1 : Code := { maxStack := 6, maxLocals := 6, code := prog_23_method_4_code, exceptionTable := #[], attributes := #[] }
def k2m1 : Method := { name := "add", desc := "(II)V", sig := { parameters := [.int, .int], returnType := none }, accessFlags := 0, code := some k2c1 }
def k2c2 : Code := { maxStack := 5, maxLocals := 3, code := prog_23_method_5_code, exceptionTable := #[], attributes := #[] }
def k2m2 : Method := { name := "count", desc := "(II)J", sig := { parameters := [.int, .int], returnType := some .long }, accessFlags := 0, code := some k2c2 }
def k2c3 : Code := { maxStack := 4, maxLocals := 3, code := prog_23_method_7_code, exceptionTable := #[], attributes := #[] }
def k2m3 : Method := { name := "key", desc := "(II)J", sig := { parameters := [.int, .int], returnType := some .long }, accessFlags := 2, code := some k2c3 }
def k2c4 : Code := { maxStack := 4, maxLocals := 5, code := prog_23_method_8_code, exceptionTable := #[], attributes := #[] }
def k2m4 : Method := { name := "slot", desc := "(J)I", sig := { parameters := [.long], returnType := some .int }, accessFlags := 2, code := some k2c4 }
/-- com/example/convene/convene/PairCounts -/
def k2 : Class := { plain "com/example/convene/convene/PairCounts" (some 0) with
  accessFlags := 48
  interfaces := #[]
  cf := some (fileOf pool2 8 #[.nestMembers #[58]] #[{ accessFlags := 0, nameIndex := 5, descriptorIndex := 81, attributes := #[] }, { accessFlags := 0, nameIndex := 85, descriptorIndex := 86, attributes := #[] }, { accessFlags := 0, nameIndex := 56, descriptorIndex := 38, attributes := #[] }, { accessFlags := 2, nameIndex := 37, descriptorIndex := 38, attributes := #[] }, { accessFlags := 2, nameIndex := 41, descriptorIndex := 42, attributes := #[] }] 48 2 #[] #[{ accessFlags := 26, nameIndex := 76, descriptorIndex := 12, attributes := #[] }, { accessFlags := 26, nameIndex := 79, descriptorIndex := 80, attributes := #[] }, { accessFlags := 18, nameIndex := 11, descriptorIndex := 12, attributes := #[] }, { accessFlags := 2, nameIndex := 18, descriptorIndex := 19, attributes := #[] }, { accessFlags := 2, nameIndex := 22, descriptorIndex := 19, attributes := #[] }, { accessFlags := 2, nameIndex := 15, descriptorIndex := 12, attributes := #[] }, { accessFlags := 2, nameIndex := 25, descriptorIndex := 12, attributes := #[] }])
  fields := #[{ name := "INITIAL_BITS", type := .int, accessFlags := 26, slot := 0, constantValue := 0 }, { name := "SPREAD", type := .long, accessFlags := 26, slot := 1, constantValue := 0 }, { name := "nodes", type := .int, accessFlags := 18, slot := 0, constantValue := 0 }, { name := "keys", type := (.array .long), accessFlags := 2, slot := 1, constantValue := 0 }, { name := "counts", type := (.array .long), accessFlags := 2, slot := 2, constantValue := 0 }, { name := "bits", type := .int, accessFlags := 2, slot := 3, constantValue := 0 }, { name := "pairs", type := .int, accessFlags := 2, slot := 4, constantValue := 0 }]
  methods := #[k2m0, k2m1, k2m2, k2m3, k2m4]
  instanceTypes := #[.int, (.array .long), (.array .long), .int, .int]
  staticTypes := #[.int, .long]
  resolved := Array.replicate 113 none
  statics := none }

def pool3 : Array CpInfo := pool [(1, .class_ 2), (0, u "java/lang/Math"), (1, .class_ 6), (1, u "java/lang/Object"), (0, u "<init>"), (0, u "()V"), (89, .class_ 100), (1, u "java/lang/Math$RandomNumberGeneratorHolder"), (71, u "negativeZeroFloatBits"), (0, u "J"), (2, u "negativeZeroDoubleBits"), (21, u "max"), (2, u "min"), (43, u "$assertionsDisabled"), (0, u "Z"), (88, u "(II)I"), (2, u "twoToTheDoubleScaleDown"), (0, u "D"), (4, u "twoToTheDoubleScaleUp"), (9, u "E"), (3, u "PI"), (2, u "TAU"), (2, u "DEGREES_TO_RADIANS"), (0, u "RADIANS_TO_DEGREES")] 94

def k3m0 : Method := { name := "<init>", desc := "()V", sig := { parameters := [], returnType := none }, accessFlags := 2, code := none }
def k3c1 : Code := { maxStack := 2, maxLocals := 2, code := jdk_29_method_65_code, exceptionTable := #[], attributes := #[] }
def k3m1 : Method := { name := "max", desc := "(II)I", sig := { parameters := [.int, .int], returnType := some .int }, accessFlags := 9, code := some k3c1 }
def k3c2 : Code := { maxStack := 2, maxLocals := 2, code := jdk_29_method_69_code, exceptionTable := #[], attributes := #[] }
def k3m2 : Method := { name := "min", desc := "(II)I", sig := { parameters := [.int, .int], returnType := some .int }, accessFlags := 9, code := some k3c2 }
/-- java/lang/Math -/
def k3 : Class := { plain "java/lang/Math" (some 0) with
  accessFlags := 49
  interfaces := #[]
  cf := some (fileOf pool3 1 #[.nestMembers #[98]] #[{ accessFlags := 2, nameIndex := 7, descriptorIndex := 8, attributes := #[] }, { accessFlags := 9, nameIndex := 198, descriptorIndex := 335, attributes := #[] }, { accessFlags := 9, nameIndex := 201, descriptorIndex := 335, attributes := #[] }] 49 4 #[] #[{ accessFlags := 25, nameIndex := 354, descriptorIndex := 339, attributes := #[] }, { accessFlags := 25, nameIndex := 358, descriptorIndex := 339, attributes := #[] }, { accessFlags := 25, nameIndex := 361, descriptorIndex := 339, attributes := #[] }, { accessFlags := 26, nameIndex := 364, descriptorIndex := 339, attributes := #[] }, { accessFlags := 26, nameIndex := 365, descriptorIndex := 339, attributes := #[] }, { accessFlags := 26, nameIndex := 172, descriptorIndex := 173, attributes := #[] }, { accessFlags := 26, nameIndex := 176, descriptorIndex := 173, attributes := #[] }, { accessFlags := 8, nameIndex := 344, descriptorIndex := 339, attributes := #[] }, { accessFlags := 8, nameIndex := 338, descriptorIndex := 339, attributes := #[] }, { accessFlags := 4120, nameIndex := 245, descriptorIndex := 246, attributes := #[] }])
  fields := #[{ name := "E", type := .double, accessFlags := 25, slot := 0, constantValue := 0 }, { name := "PI", type := .double, accessFlags := 25, slot := 1, constantValue := 0 }, { name := "TAU", type := .double, accessFlags := 25, slot := 2, constantValue := 0 }, { name := "DEGREES_TO_RADIANS", type := .double, accessFlags := 26, slot := 3, constantValue := 0 }, { name := "RADIANS_TO_DEGREES", type := .double, accessFlags := 26, slot := 4, constantValue := 0 }, { name := "negativeZeroFloatBits", type := .long, accessFlags := 26, slot := 5, constantValue := 0 }, { name := "negativeZeroDoubleBits", type := .long, accessFlags := 26, slot := 6, constantValue := 0 }, { name := "twoToTheDoubleScaleUp", type := .double, accessFlags := 8, slot := 7, constantValue := 0 }, { name := "twoToTheDoubleScaleDown", type := .double, accessFlags := 8, slot := 8, constantValue := 0 }, { name := "$assertionsDisabled", type := .boolean, accessFlags := 4120, slot := 9, constantValue := 0 }]
  methods := #[k3m0, k3m1, k3m2]
  instanceTypes := #[]
  staticTypes := #[.double, .double, .double, .double, .double, .long, .long, .double, .double, .boolean]
  resolved := Array.replicate 460 none
  statics := none }

def pool4 : Array CpInfo := pool [(1, u "java/lang/Cloneable"), (0, .class_ 1), (0, u "java/lang/Object"), (0, .class_ 3)] 3

/-- java/lang/Cloneable -/
def k4 : Class := { plain "java/lang/Cloneable" (some 0) with
  accessFlags := 1537
  interfaces := #[]
  cf := some (fileOf pool4 2 #[] #[] 1537 4 #[] #[])
  fields := #[]
  methods := #[]
  instanceTypes := #[]
  staticTypes := #[]
  resolved := Array.replicate 8 none
  statics := none }

def pool5 : Array CpInfo := pool [(1, u "java/io/Serializable"), (0, .class_ 1), (0, u "java/lang/Object"), (0, .class_ 3)] 3

/-- java/io/Serializable -/
def k5 : Class := { plain "java/io/Serializable" (some 0) with
  accessFlags := 1537
  interfaces := #[]
  cf := some (fileOf pool5 2 #[] #[] 1537 4 #[] #[])
  fields := #[]
  methods := #[]
  instanceTypes := #[]
  staticTypes := #[]
  resolved := Array.replicate 8 none
  statics := none }

/-- the primitive byte -/
def k6 : Class := { plain "byte" none with kind := .primitive 'B', accessFlags := 0x411 }
/-- [B -/
def k7 : Class := { plain "[B" (some 0) with kind := .array 6 .byte, interfaces := #[4, 5], accessFlags := 1041 }

/-- the primitive int -/
def k8 : Class := { plain "int" none with kind := .primitive 'I', accessFlags := 0x411 }
/-- [I -/
def k9 : Class := { plain "[I" (some 0) with kind := .array 8 .int, interfaces := #[4, 5], accessFlags := 1041 }

/-- the primitive long -/
def k10 : Class := { plain "long" none with kind := .primitive 'J', accessFlags := 0x411 }
/-- [J -/
def k11 : Class := { plain "[J" (some 0) with kind := .array 10 .long, interfaces := #[4, 5], accessFlags := 1041 }

def heap : Heap := #[]
def classes : Array Class := #[k0, k1, k2, k3, k4, k5, k6, k7, k8, k9, k10, k11]
def interned : List (Array UInt16 × Addr) := []
def slotsUsed : Nat := 0
def theMethod : MethodId := ⟨1, 3⟩
def args0 : Array Value := #[.int 3, .int 4, .int 5, .int 6, .int 7, .int 8]
def aboutOver (below : List Frame) : State where
  vm := { classes := classes, interned := interned.toArray }
  heap := heap
  slotsUsed := slotsUsed
  threads := #[{ frames := .invoking theMethod args0 :: below }]
def below0 : List Frame := [.native { method := ⟨0, 0⟩, args := #[] }]
def about1 : State := aboutOver below0
def p0 : Program := .bare "" "" ""
def e0 : Env := launch0.env 0 0 0
theorem w_frames : about1.frames = Frame.invoking theMethod args0 :: below0 := rfl
set_option maxRecDepth 65536 in
theorem w_args : argsFit about1.vm theMethod args0 = true := by decide +kernel
set_option maxRecDepth 65536 in
theorem w_heap : heapFits about1 = true := by decide +kernel
set_option maxRecDepth 65536 in
theorem w_runnable : about1.curStatus? = some .runnable := by decide +kernel
set_option maxRecDepth 65536 in
theorem w_alone : about1.alone = true := by decide +kernel
set_option maxRecDepth 65536 in
theorem w_named : about1.methodNamed? x = some theMethod := by decide +kernel
set_option maxRecDepth 65536 in
theorem w_hears : about1.hears theMethod below0 = true := by decide +kernel
set_option maxRecDepth 65536 in
theorem w_ripe : about1.ripe theMethod args0 below0 = true := by decide +kernel
theorem w_running : about1.status = .running := rfl
set_option maxRecDepth 65536 in
theorem w_room : about1.hasRoom e0.platform room_1 = true :=
  launch0.hasRoom_least _ room_1 (by decide +kernel) (by decide +kernel) (by decide +kernel) (by decide +kernel) (by decide +kernel) (by decide +kernel)
theorem allAtoms_all (ts : List Jvm.Cond) (a : Array Jvm.Value) (st : Jvm.State) : (allAtoms ts).before a st = ts.all (fun c => c.before a st) := by
  induction ts with
  | nil => rfl
  | cons c t ih =>
    show (Jvm.Cond.and c (allAtoms t)).before a st = _
    rw [Jvm.Cond.before_and, ih, List.all_cons]
def words1 : List Jvm.Cond := Jvm.Cond.code x code maxLocals ret :: tables_1
/-- a 'code' word, met by the world's own term for the bytes: nothing is compared byte by byte -/
theorem code_word {y : MethodName} {bytes : ByteArray} {mx : Nat} {rt : Option FieldType} {a : Array Value} {s : State} {m : MethodId} {meth : Method} {c : Code} (h1 : s.methodNamed? y = some m) (h2 : s.vm.method? m = some meth) (h3 : meth.code = some c) (h4 : c.code = bytes)
    (h5 : (c.maxLocals == mx && c.exceptionTable.isEmpty && decide (c.maxStack ≤ mostOperands) && decide (meth.sig.returnType = rt) && !meth.locks && decide (parseMethodDescriptor y.desc = some meth.sig)) = true) : (Jvm.Cond.code y bytes mx rt).before a s = true := by
  simp only [Bool.and_eq_true, beq_iff_eq, Bool.not_eq_true', decide_eq_true_eq] at h5
  obtain ⟨⟨⟨⟨⟨g1, g2⟩, g3⟩, g4⟩, g5⟩, g6⟩ := h5
  simp [Cond.before, Cond.holds, Cond.value, h1, h2, h3, h4, g1, g2, g3, g4, g5, g6]
def isCode : Jvm.Cond → Bool
  | .code _ _ _ _ => true
  | _ => false
theorem all_split {L : List Jvm.Cond} {P : Jvm.Cond → Bool} (h1 : L.all (fun c => isCode c || P c) = true) (h2 : ∀ c ∈ L.filter isCode, P c = true) : L.all P = true := by
  refine List.all_eq_true.mpr fun c hc => ?_
  have h := List.all_eq_true.mp h1 c hc
  rcases Bool.eq_false_or_eq_true (isCode c) with hi | hi
  · exact h2 c (List.mem_filter.mpr ⟨hc, hi⟩)
  · simpa [hi] using h
set_option maxRecDepth 65536 in
theorem w_c0 : (Jvm.Cond.code x code maxLocals ret).before args0 about1 = true := code_word (m := ⟨1, 3⟩) (meth := k1m3) (c := k1c3) (by decide +kernel) rfl rfl rfl (by decide +kernel)
set_option maxRecDepth 65536 in
theorem w_c1 : (Jvm.Cond.code ({ cls := "com/example/convene/convene/PairCounts", name := "<init>", desc := "(I)V" } : Jvm.MethodName) prog_23_method_1_code (2 : Nat) (Option.none : Option Jvm.ClassFile.FieldType)).before args0 about1 = true := code_word (m := ⟨2, 0⟩) (meth := k2m0) (c := k2c0) (by decide +kernel) rfl rfl rfl (by decide +kernel)
set_option maxRecDepth 65536 in
theorem w_c2 : (Jvm.Cond.code ({ cls := "java/lang/Object", name := "<init>", desc := "()V" } : Jvm.MethodName) object_method_1_code (1 : Nat) (Option.none : Option Jvm.ClassFile.FieldType)).before args0 about1 = true := code_word (m := ⟨0, 0⟩) (meth := k0m0) (c := k0c0) (by decide +kernel) rfl rfl rfl (by decide +kernel)
set_option maxRecDepth 65536 in
theorem w_c3 : (Jvm.Cond.code ({ cls := "com/example/convene/convene/PairCounts", name := "add", desc := "(II)V" } : Jvm.MethodName) prog_23_method_4_code (6 : Nat) (Option.none : Option Jvm.ClassFile.FieldType)).before args0 about1 = true := code_word (m := ⟨2, 1⟩) (meth := k2m1) (c := k2c1) (by decide +kernel) rfl rfl rfl (by decide +kernel)
set_option maxRecDepth 65536 in
theorem w_c4 : (Jvm.Cond.code ({ cls := "com/example/convene/convene/PairCounts", name := "key", desc := "(II)J" } : Jvm.MethodName) prog_23_method_7_code (3 : Nat) (Option.some Jvm.ClassFile.FieldType.long)).before args0 about1 = true := code_word (m := ⟨2, 3⟩) (meth := k2m3) (c := k2c3) (by decide +kernel) rfl rfl rfl (by decide +kernel)
set_option maxRecDepth 65536 in
theorem w_c5 : (Jvm.Cond.code ({ cls := "java/lang/Math", name := "min", desc := "(II)I" } : Jvm.MethodName) jdk_29_method_69_code (2 : Nat) (Option.some Jvm.ClassFile.FieldType.int)).before args0 about1 = true := code_word (m := ⟨3, 2⟩) (meth := k3m2) (c := k3c2) (by decide +kernel) rfl rfl rfl (by decide +kernel)
set_option maxRecDepth 65536 in
theorem w_c6 : (Jvm.Cond.code ({ cls := "java/lang/Math", name := "max", desc := "(II)I" } : Jvm.MethodName) jdk_29_method_65_code (2 : Nat) (Option.some Jvm.ClassFile.FieldType.int)).before args0 about1 = true := code_word (m := ⟨3, 1⟩) (meth := k3m1) (c := k3c1) (by decide +kernel) rfl rfl rfl (by decide +kernel)
set_option maxRecDepth 65536 in
theorem w_c7 : (Jvm.Cond.code ({ cls := "com/example/convene/convene/PairCounts", name := "slot", desc := "(J)I" } : Jvm.MethodName) prog_23_method_8_code (5 : Nat) (Option.some Jvm.ClassFile.FieldType.int)).before args0 about1 = true := code_word (m := ⟨2, 4⟩) (meth := k2m4) (c := k2c4) (by decide +kernel) rfl rfl rfl (by decide +kernel)
set_option maxRecDepth 65536 in
theorem w_c8 : (Jvm.Cond.code ({ cls := "com/example/convene/convene/PairCountsCountPinLaw", name := "pick", desc := "(IIIII)I" } : Jvm.MethodName) method_2_code (5 : Nat) (Option.some Jvm.ClassFile.FieldType.int)).before args0 about1 = true := code_word (m := ⟨1, 1⟩) (meth := k1m1) (c := k1c1) (by decide +kernel) rfl rfl rfl (by decide +kernel)
set_option maxRecDepth 65536 in
theorem w_c9 : (Jvm.Cond.code ({ cls := "com/example/convene/convene/PairCountsCountPinLaw", name := "same", desc := "(IIII)Z" } : Jvm.MethodName) method_3_code (4 : Nat) (Option.some Jvm.ClassFile.FieldType.boolean)).before args0 about1 = true := code_word (m := ⟨1, 2⟩) (meth := k1m2) (c := k1c2) (by decide +kernel) rfl rfl rfl (by decide +kernel)
set_option maxRecDepth 65536 in
theorem w_c10 : (Jvm.Cond.code ({ cls := "com/example/convene/convene/PairCounts", name := "count", desc := "(II)J" } : Jvm.MethodName) prog_23_method_5_code (3 : Nat) (Option.some Jvm.ClassFile.FieldType.long)).before args0 about1 = true := code_word (m := ⟨2, 2⟩) (meth := k2m2) (c := k2c2) (by decide +kernel) rfl rfl rfl (by decide +kernel)
def codes1 : List Jvm.Cond := [Jvm.Cond.code x code maxLocals ret, Jvm.Cond.code ({ cls := "com/example/convene/convene/PairCounts", name := "<init>", desc := "(I)V" } : Jvm.MethodName) prog_23_method_1_code (2 : Nat) (Option.none : Option Jvm.ClassFile.FieldType), Jvm.Cond.code ({ cls := "java/lang/Object", name := "<init>", desc := "()V" } : Jvm.MethodName) object_method_1_code (1 : Nat) (Option.none : Option Jvm.ClassFile.FieldType), Jvm.Cond.code ({ cls := "com/example/convene/convene/PairCounts", name := "add", desc := "(II)V" } : Jvm.MethodName) prog_23_method_4_code (6 : Nat) (Option.none : Option Jvm.ClassFile.FieldType), Jvm.Cond.code ({ cls := "com/example/convene/convene/PairCounts", name := "key", desc := "(II)J" } : Jvm.MethodName) prog_23_method_7_code (3 : Nat) (Option.some Jvm.ClassFile.FieldType.long), Jvm.Cond.code ({ cls := "java/lang/Math", name := "min", desc := "(II)I" } : Jvm.MethodName) jdk_29_method_69_code (2 : Nat) (Option.some Jvm.ClassFile.FieldType.int), Jvm.Cond.code ({ cls := "java/lang/Math", name := "max", desc := "(II)I" } : Jvm.MethodName) jdk_29_method_65_code (2 : Nat) (Option.some Jvm.ClassFile.FieldType.int), Jvm.Cond.code ({ cls := "com/example/convene/convene/PairCounts", name := "slot", desc := "(J)I" } : Jvm.MethodName) prog_23_method_8_code (5 : Nat) (Option.some Jvm.ClassFile.FieldType.int), Jvm.Cond.code ({ cls := "com/example/convene/convene/PairCountsCountPinLaw", name := "pick", desc := "(IIIII)I" } : Jvm.MethodName) method_2_code (5 : Nat) (Option.some Jvm.ClassFile.FieldType.int), Jvm.Cond.code ({ cls := "com/example/convene/convene/PairCountsCountPinLaw", name := "same", desc := "(IIII)Z" } : Jvm.MethodName) method_3_code (4 : Nat) (Option.some Jvm.ClassFile.FieldType.boolean), Jvm.Cond.code ({ cls := "com/example/convene/convene/PairCounts", name := "count", desc := "(II)J" } : Jvm.MethodName) prog_23_method_5_code (3 : Nat) (Option.some Jvm.ClassFile.FieldType.long)]
set_option maxRecDepth 65536 in
theorem codes_eq : words1.filter isCode = codes1 := rfl
theorem w_codes : ∀ c ∈ words1.filter isCode, c.before args0 about1 = true := by
  rw [codes_eq]
  intro c hc
  simp only [codes1, List.mem_cons, List.not_mem_nil, or_false] at hc
  rcases hc with rfl | rfl | rfl | rfl | rfl | rfl | rfl | rfl | rfl | rfl | rfl
  · exact w_c0
  · exact w_c1
  · exact w_c2
  · exact w_c3
  · exact w_c4
  · exact w_c5
  · exact w_c6
  · exact w_c7
  · exact w_c8
  · exact w_c9
  · exact w_c10
set_option maxRecDepth 65536 in
theorem w_t1 : (words1.take 24).all (fun c => isCode c || c.before args0 about1) = true := by decide +kernel
set_option maxRecDepth 65536 in
theorem w_t2 : ((words1.drop 24).take 24).all (fun c => isCode c || c.before args0 about1) = true := by decide +kernel
set_option maxRecDepth 65536 in
theorem w_t3 : ((words1.drop 24).drop 24).all (fun c => isCode c || c.before args0 about1) = true := by decide +kernel
theorem w_tables : (allAtoms (Jvm.Cond.code x code maxLocals ret :: tables_1)).before args0 about1 = true := by
  rw [allAtoms_all]
  show words1.all (fun c => c.before args0 about1) = true
  refine all_split ?_ w_codes
  rw [← List.take_append_drop 24 words1, List.all_append, w_t1, ← List.take_append_drop 24 (words1.drop 24), List.all_append, w_t2, w_t3]
  rfl
set_option maxRecDepth 65536 in
theorem w_case : (Jvm.Cond.and given_1 narrow_1).before args0 about1 = true := by decide +kernel
theorem w_applies : (headSpec (Jvm.Cond.code x code maxLocals ret :: tables_1) room_1).applies x e0.platform about1 = true :=
  (Spec.applies_iff w_frames).mpr ⟨w_running, w_runnable, w_alone, w_named, w_hears, w_ripe, w_room, w_tables⟩
theorem atStart : AtStart classFile x code maxLocals ret World_1 tables_1 room_1 Calls_1 rest_1 Pre_1 launch0 p0 e0 about1 theMethod args0 below0 :=
  ⟨lists_1, trivial, launch0.admits_env _ _ _, launch0.least_env, fairChoices_fair.cas, fairChoices_fair.clock, w_frames, w_args, w_heap, w_applies, trivial, trivial, w_case⟩
end start1
theorem witness_1 : WitnessClaimed_1 := ⟨start1.p0, start1.e0, start1.about1, start1.theMethod, start1.args0, start1.below0, start1.atStart⟩
end Jvm.Pilot.@@N@@
