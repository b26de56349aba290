import JvmDerived
import JvmDerived.Pilot.@@N@@Statement
import JvmDerived.Pilot.@@N@@Code
set_option linter.unusedVariables false
set_option linter.unusedSimpArgs false
namespace Jvm.RoadKit
open Sem ClassFile Op Lib Jvm.Stand Jvm.Free Jvm.LawKit
section Own
variable {p : Program} {l : Launch} {e : Env} {R : Room} {s : State} {m : MethodId} {args : Array Value} {below : List Frame} {meth : Method} {c : Code} {T T' : State} {locs : List Loc} {cells slots : Nat} {g g' : JFrame} {Φ : State → Prop}
/-- from this frame the run comes to a state with Φ -/
def own_G (p : Program) (e : Env) (below : List Frame) (Φ : State → Prop) (T : State) (g : JFrame) : Prop := ∃ t, Steps p.tables e below (T.setTop g) t ∧ Φ t
/-- what the end of a method with the answer Q is -/
def own_E (s : State) (below : List Frame) (Q : Option Value → Heap → List Loc → Prop) (k n : Nat) (t : State) : Prop := ∃ o, t.status = .running ∧ Ended t below o ∧ ∃ v L, o = .returned v ∧ Q v t.heap L ∧ FrameEnd s o t L k n
def own_Al (_ : Stand p l e R s m args below meth c T locs cells slots) (T' : State) : Prop := Stand p l e R s m args below meth c T' locs cells slots
theorem own_go (h : ∀ t, Steps p.tables e below (T'.setTop g') t → Steps p.tables e below (T.setTop g) t) (k : own_G p e below Φ T' g') : own_G p e below Φ T g := by
  obtain ⟨t, a, b⟩ := k
  exact ⟨t, h t a, b⟩
theorem own_on (h : Steps p.tables e below (T.setTop g) (T'.setTop g')) (k : own_G p e below Φ T' g') : own_G p e below Φ T g := by
  obtain ⟨t, a, b⟩ := k
  exact ⟨t, h.trans a, b⟩
theorem own_ret (X : Stand p l e R s m args below meth c T locs cells slots) {Q : Option Value → Heap → List Loc → Prop} {k n : Nat} {v : Option Value} (hv : meth.sig.returnType = none → v = none) (hlocks : meth.locks = false)
    (hst : ∀ fs, (∀ (f : JFrame) (acts : List Action), f.method = m → f.locked = none → f.entered = [] → (doReturn e (T.setTop f) acts v).1 = T.setFrames fs) → Steps p.tables e below (T.setTop g) (T.setFrames fs))
    (hq : Q v T.heap locs) (hc : cells ≤ k) (hn : slots ≤ n) : own_G p e below (own_E s below Q k n) T g := by
  obtain ⟨fs, hr, hrun, hended, hW, hsame⟩ := X.leave hv hlocks
  exact ⟨_, hst fs hr, _, hrun, hended, _, _, rfl, hq, ⟨_, rfl⟩, hW, hsame.mono hc hn⟩
def own_EW (s : State) (below : List Frame) (Q : Option Value → Heap → List Loc → Prop) (k n : Nat) (t : State) : Prop := ∃ o, t.status = .running ∧ Ended t below o ∧ ∃ v L, o = .returned v ∧ Q v t.heap L ∧ ReturnedEndW s o t L k n
theorem own_retW {vm₁ : Vm} (X : Stand p l e R (s.setVm vm₁) m args below meth c T locs cells slots) {q : Nat} (hS : s.Since vm₁ q) (hq' : q ≤ T.heap.size) {Q : Option Value → Heap → List Loc → Prop} {k n : Nat} {v : Option Value} (hv : meth.sig.returnType = none → v = none) (hlocks : meth.locks = false)
    (hst : ∀ fs, (∀ (f : JFrame) (acts : List Action), f.method = m → f.locked = none → f.entered = [] → (doReturn e (T.setTop f) acts v).1 = T.setFrames fs) → Steps p.tables e below (T.setTop g) (T.setFrames fs))
    (hq : Q v T.heap locs) (hc : cells ≤ k) (hn : slots ≤ n) : own_G p e below (own_EW s below Q k n) T g := by
  obtain ⟨fs, hr, hrun, hended, h1, h2, h3, h4⟩ := X.leaveW hS hq' hv hlocks
  exact ⟨_, hst fs hr, _, hrun, hended, _, _, rfl, hq, h1, h2, h3, h4.mono hc hn⟩
theorem own_lrem_eq (x y : Int64) : x - (x / y) * y = x % y := by
  apply Int64.toInt_inj.mp
  have r := rng64 (x % y)
  have hm : (x % y).toInt = x.toInt - y.toInt * x.toInt.tdiv y.toInt := by rw [Int64.toInt_mod, Int.tmod_def]
  have hs : (x - x / y * y).toInt = (x.toInt - y.toInt * x.toInt.tdiv y.toInt).bmod (2 ^ 64) := by
    rw [Int64.toInt_sub, Int64.toInt_mul, Int64.toInt_div, Int.bmod_mul_bmod, Int.sub_bmod_bmod, Int.mul_comm]
  rw [hs, ← hm]
  exact Int.bmod_eq_of_le (by omega) (by omega)
theorem own_lremM {target : State} (X : Stand p l e R s m args below meth c T locs cells slots) (hx : p.tables.exec = Jvm.exec) (hg : g.method = m) {x y : Int64} {rest : List Value} (hd : decode c.code g.pc = .ok (.lrem, 1)) (hs : g.stack = .long y :: .long x :: rest) (hy : y ≠ 0)
    (hr : Steps p.tables e below (T.setTop { g with pc := g.pc + 1, stack := .long (x % y) :: rest }) target) : Steps p.tables e below (T.setTop g) target :=
  XS.lrem X.here hx hg hd hs hy (by rw [own_lrem_eq]; exact hr)
theorem own_selp {s : State} {args : Array Value} {x y : MethodName} (hc : x.cls = y.cls) (hxi : (Cond.instanceMethod x).before args s = true) (hnf : NotFace s x) (hp : s.PrivateAt y) (hyi : (Cond.instanceMethod y).before args s = true) (hy : y.cls ≠ "java/lang/invoke/MethodHandle" ∧ y.cls ≠ "java/lang/invoke/VarHandle") : (Cond.selects y.cls y y).before args s = true := by
  obtain ⟨mk, methM, hnamed, -⟩ := Cond.instanceMethod_spec hxi
  obtain ⟨k, hk, hni⟩ := hnf mk hnamed
  exact Stand.selects_self_of_private (hc ▸ findClass_of_methodNamed hnamed) hk hni hp hyi hy
def own_AlL (_ : Stand p l e R s m args below meth c T locs cells slots) (T' : State) (locs' : List Loc) (cells' slots' : Nat) : Prop := Stand p l e R s m args below meth c T' locs' cells' slots'
theorem own_nar {v : Value} {t : FieldType} (h : v.isRef = true) : narrow t v = v := by
  rcases ref_cases h with rfl | ⟨a, rfl⟩ <;> cases t <;> rfl
end Own
end Jvm.RoadKit
namespace Jvm.Pilot.@@N@@
open Jvm Jvm.ClassFile Sem Op Lib Jvm.Free Jvm.Stand Jvm.LawKit Jvm.RoadKit Bundle Jvm.Pilot.@@N@@.Jvm.D

def own_key (z : Int32) (p : Int64) : Int64 := if z = 0 then -p else p
def own_pos (v : Int64) : Int64 := if v &&& (9223372036854775807 : Int64) = 0 then 1 else v &&& (9223372036854775807 : Int64)
def own_maxL (a b : Int64) : Int64 := if a < b then b else a
def own_minL (a b : Int64) : Int64 := if b < a then b else a
theorem own_asy {a b : Int64} (h : a < b) : ¬ b < a := fun q => Int64.lt_irrefl (Int64.lt_trans h q)
theorem own_irl {a b : Int64} (h : a = b) : ¬ a < b := fun q => Int64.lt_irrefl (h ▸ q : a < a)
theorem own_irr {a b : Int64} (h : a = b) : ¬ b < a := fun q => Int64.lt_irrefl (h ▸ q : a < a)
theorem own_tri (a b : Int64) : b < a ∨ a = b ∨ a < b := by
  simp only [Int64.lt_iff_toInt_lt, ← Int64.toInt_inj]
  omega
theorem own_posP (v : Int64) : 0 < own_pos v := by
  have hn : ¬ (v &&& (9223372036854775807 : Int64)) < 0 := mt (Jvm.Free.XT.and_neg64 v (9223372036854775807 : Int64)).mp (fun q => absurd q.2 (by decide))
  unfold own_pos
  split
  · decide
  · rename_i h
    rw [Int64.lt_iff_toInt_lt] at hn ⊢
    rw [← Int64.toInt_inj] at h
    omega
/-- the sorted keys without repeats, of three -/
def own_set1 (k0 A B C : Int64) : Prop := k0 = A ∧ B = A ∧ C = A
def own_set2 (k0 k1 A B C : Int64) : Prop := k0 < k1 ∧ (A = k0 ∨ A = k1) ∧ (B = k0 ∨ B = k1) ∧ (C = k0 ∨ C = k1) ∧ (k0 = A ∨ k0 = B ∨ k0 = C) ∧ (k1 = A ∨ k1 = B ∨ k1 = C)
def own_set3 (k0 k1 k2 A B C : Int64) : Prop := k0 < k1 ∧ k1 < k2 ∧ (A = k0 ∨ A = k1 ∨ A = k2) ∧ (B = k0 ∨ B = k1 ∨ B = k2) ∧ (C = k0 ∨ C = k1 ∨ C = k2) ∧ (k0 = A ∨ k0 = B ∨ k0 = C) ∧ (k1 = A ∨ k1 = B ∨ k1 = C) ∧ (k2 = A ∨ k2 = B ∨ k2 = C)

theorem own_kk (z : Int32) (p : Int64) : own_key z (own_key z p) = p := by
  unfold own_key
  split
  · exact Int64.neg_neg
  · rfl
theorem own_k1 {z : Int32} {a k : Int64} (h : own_key z a = k) : a = own_key z k := by rw [← h, own_kk]
theorem own_k2 {z : Int32} {a k : Int64} (h : k = own_key z a) : own_key z k = a := by rw [h, own_kk]
theorem own_maxI (a b : Int64) : (own_maxL a b).toInt = max a.toInt b.toInt := by
  unfold own_maxL
  split
  · rename_i h
    rw [Int64.lt_iff_toInt_lt] at h
    omega
  · rename_i h
    rw [Int64.lt_iff_toInt_lt] at h
    omega
theorem own_minI (a b : Int64) : (own_minL a b).toInt = min a.toInt b.toInt := by
  unfold own_minL
  split
  · rename_i h
    rw [Int64.lt_iff_toInt_lt] at h
    omega
  · rename_i h
    rw [Int64.lt_iff_toInt_lt] at h
    omega
theorem own_ord {z : Int32} {k k' : Int64} (hz : z = 0 ∨ z = 1) (h : k < k') (hk : 0 < own_key z k) (hk' : 0 < own_key z k') : (z = 0 ∧ (own_key z k').toInt < (own_key z k).toInt) ∨ (z = 1 ∧ (own_key z k).toInt < (own_key z k').toInt) := by
  rcases hz with rfl | rfl
  · left
    refine ⟨rfl, ?_⟩
    have e : ∀ x : Int64, own_key 0 x = -x := fun _ => rfl
    rw [e] at hk hk' ⊢
    rw [e]
    rw [Int64.lt_iff_toInt_lt, show (0 : Int64).toInt = 0 from rfl] at hk hk'
    rw [Int64.lt_iff_toInt_lt] at h
    have b1 := bm64 (-k.toInt)
    have b2 := bm64 (-k'.toInt)
    rw [← Int64.toInt_neg] at b1 b2
    have r1 := rng64 k
    have r2 := rng64 k'
    have r3 := rng64 (-k)
    have r4 := rng64 (-k')
    omega
  · right
    refine ⟨rfl, ?_⟩
    rw [Int64.lt_iff_toInt_lt] at h
    exact h
theorem own_int3 {a b c p0 p1 p2 : Int} (o1 : p0 < p1) (o2 : p1 < p2) (ha : a = p0 ∨ a = p1 ∨ a = p2) (hb : b = p0 ∨ b = p1 ∨ b = p2) (hc : c = p0 ∨ c = p1 ∨ c = p2) (m0 : p0 = a ∨ p0 = b ∨ p0 = c) (m1 : p1 = a ∨ p1 = b ∨ p1 = c) (m2 : p2 = a ∨ p2 = b ∨ p2 = c) :
    max (max a b) c = p2 ∧ min (min a b) c = p0 ∧ max (min a b) (min (max a b) c) = p1 := by
  rcases ha with rfl | rfl | rfl <;> rcases hb with rfl | rfl | rfl <;> rcases hc with rfl | rfl | rfl <;> omega
theorem own_int2 {a b c p0 p1 : Int} (o1 : p0 < p1) (ha : a = p0 ∨ a = p1) (hb : b = p0 ∨ b = p1) (hc : c = p0 ∨ c = p1) (m0 : p0 = a ∨ p0 = b ∨ p0 = c) (m1 : p1 = a ∨ p1 = b ∨ p1 = c) :
    max (max a b) c = p1 ∧ min (min a b) c = p0 ∧ (max (min a b) (min (max a b) c) = p0 ∨ max (min a b) (min (max a b) c) = p1) := by
  rcases ha with rfl | rfl <;> rcases hb with rfl | rfl <;> rcases hc with rfl | rfl <;> omega
theorem own_eqI {x y : Int64} (h : x.toInt = y.toInt) : x = y := Int64.toInt_inj.mp h
theorem own_fin1 {z : Int32} {a b c hi lo md s0 s2 k0 : Int64} (h1 : own_maxL (own_maxL a b) c = hi) (h2 : own_minL (own_minL a b) c = lo) (h3 : own_maxL (own_minL a b) (own_minL (own_maxL a b) c) = md)
    (e0 : s0 = if z = 0 then lo else hi) (e2 : s2 = if z = 0 then hi else lo) (hs : own_set1 k0 (own_key z a) (own_key z b) (own_key z c)) : md = s0 ∧ s2 = s0 ∧ own_key z k0 = s0 := by
  obtain ⟨q0, qb, qc⟩ := hs
  have eb : b = a := by have := own_k1 qb; rwa [own_kk] at this
  have ec : c = a := by have := own_k1 qc; rwa [own_kk] at this
  have ek := own_k2 q0
  subst eb ec
  have x1 : hi = c := own_eqI (by rw [← h1, own_maxI, own_maxI]; omega)
  have x2 : lo = c := own_eqI (by rw [← h2, own_minI, own_minI]; omega)
  have x3 : md = c := own_eqI (by rw [← h3, own_maxI, own_minI, own_minI, own_maxI]; omega)
  rw [ek, x3, e0, e2, x1, x2]
  simp
theorem own_fin2 {z : Int32} {a b c hi lo md s0 s2 k0 k1 : Int64} (hz : z = 0 ∨ z = 1) (ha : 0 < a) (hb : 0 < b) (hc : 0 < c) (h1 : own_maxL (own_maxL a b) c = hi) (h2 : own_minL (own_minL a b) c = lo) (h3 : own_maxL (own_minL a b) (own_minL (own_maxL a b) c) = md)
    (e0 : s0 = if z = 0 then lo else hi) (e2 : s2 = if z = 0 then hi else lo) (hs : own_set2 k0 k1 (own_key z a) (own_key z b) (own_key z c)) :
    own_key z k1 = s0 ∧ own_key z k0 = s2 ∧ ¬ s2 = s0 ∧ (md = s0 ∨ md = s2) := by
  obtain ⟨o, qa, qb, qc, m0, m1⟩ := hs
  replace qa := qa.imp own_k1 own_k1
  replace qb := qb.imp own_k1 own_k1
  replace qc := qc.imp own_k1 own_k1
  replace m0 := m0.imp own_k2 (Or.imp own_k2 own_k2)
  replace m1 := m1.imp own_k2 (Or.imp own_k2 own_k2)
  have p0 : 0 < own_key z k0 := by rcases m0 with h | h | h <;> rw [h] <;> assumption
  have p1 : 0 < own_key z k1 := by rcases m1 with h | h | h <;> rw [h] <;> assumption
  have od := own_ord hz o p0 p1
  generalize own_key z k0 = P0 at *
  generalize own_key z k1 = P1 at *
  have i1 : hi.toInt = max (max a.toInt b.toInt) c.toInt := by rw [← h1, own_maxI, own_maxI]
  have i2 : lo.toInt = min (min a.toInt b.toInt) c.toInt := by rw [← h2, own_minI, own_minI]
  have i3 : md.toInt = max (min a.toInt b.toInt) (min (max a.toInt b.toInt) c.toInt) := by rw [← h3, own_maxI, own_minI, own_minI, own_maxI]
  simp only [← Int64.toInt_inj] at qa qb qc m0 m1
  rcases od with ⟨rfl, od⟩ | ⟨rfl, od⟩
  · obtain ⟨j1, j2, j3⟩ := own_int2 od qa.symm qb.symm qc.symm m1 m0
    rw [if_pos rfl] at e0 e2
    subst e0 e2
    refine ⟨own_eqI (by omega), own_eqI (by omega), fun q => ?_, j3.imp (fun q => own_eqI (by omega)) (fun q => own_eqI (by omega))⟩
    rw [← Int64.toInt_inj] at q
    omega
  · obtain ⟨j1, j2, j3⟩ := own_int2 od qa qb qc m0 m1
    rw [if_neg (by decide)] at e0 e2
    subst e0 e2
    refine ⟨own_eqI (by omega), own_eqI (by omega), fun q => ?_, j3.symm.imp (fun q => own_eqI (by omega)) (fun q => own_eqI (by omega))⟩
    rw [← Int64.toInt_inj] at q
    omega
theorem own_fin3 {z : Int32} {a b c hi lo md s0 s2 k0 k1 k2 : Int64} (hz : z = 0 ∨ z = 1) (ha : 0 < a) (hb : 0 < b) (hc : 0 < c) (h1 : own_maxL (own_maxL a b) c = hi) (h2 : own_minL (own_minL a b) c = lo) (h3 : own_maxL (own_minL a b) (own_minL (own_maxL a b) c) = md)
    (e0 : s0 = if z = 0 then lo else hi) (e2 : s2 = if z = 0 then hi else lo) (hs : own_set3 k0 k1 k2 (own_key z a) (own_key z b) (own_key z c)) :
    ¬ md = s0 ∧ ¬ s2 = md ∧ own_key z k2 = s0 ∧ own_key z k1 = md ∧ own_key z k0 = s2 := by
  obtain ⟨o, o', qa, qb, qc, m0, m1, m2⟩ := hs
  replace qa := qa.imp own_k1 (Or.imp own_k1 own_k1)
  replace qb := qb.imp own_k1 (Or.imp own_k1 own_k1)
  replace qc := qc.imp own_k1 (Or.imp own_k1 own_k1)
  replace m0 := m0.imp own_k2 (Or.imp own_k2 own_k2)
  replace m1 := m1.imp own_k2 (Or.imp own_k2 own_k2)
  replace m2 := m2.imp own_k2 (Or.imp own_k2 own_k2)
  have p0 : 0 < own_key z k0 := by rcases m0 with h | h | h <;> rw [h] <;> assumption
  have p1 : 0 < own_key z k1 := by rcases m1 with h | h | h <;> rw [h] <;> assumption
  have p2 : 0 < own_key z k2 := by rcases m2 with h | h | h <;> rw [h] <;> assumption
  have od := own_ord hz o p0 p1
  have od' := own_ord hz o' p1 p2
  generalize own_key z k0 = P0 at *
  generalize own_key z k1 = P1 at *
  generalize own_key z k2 = P2 at *
  have i1 : hi.toInt = max (max a.toInt b.toInt) c.toInt := by rw [← h1, own_maxI, own_maxI]
  have i2 : lo.toInt = min (min a.toInt b.toInt) c.toInt := by rw [← h2, own_minI, own_minI]
  have i3 : md.toInt = max (min a.toInt b.toInt) (min (max a.toInt b.toInt) c.toInt) := by rw [← h3, own_maxI, own_minI, own_minI, own_maxI]
  simp only [← Int64.toInt_inj] at qa qb qc m0 m1 m2
  rcases od with ⟨rfl, od⟩ | ⟨rfl, od⟩
  · have od2 : P2.toInt < P1.toInt := od'.elim And.right (fun q => absurd q.1 (by decide))
    have sw : ∀ {x : Int}, (x = P0.toInt ∨ x = P1.toInt ∨ x = P2.toInt) → (x = P2.toInt ∨ x = P1.toInt ∨ x = P0.toInt) := fun h => by omega
    obtain ⟨j1, j2, j3⟩ := own_int3 od2 od (sw qa) (sw qb) (sw qc) m2 m1 m0
    rw [if_pos rfl] at e0 e2
    subst e0 e2
    refine ⟨fun q => ?_, fun q => ?_, own_eqI (by omega), own_eqI (by omega), own_eqI (by omega)⟩ <;> rw [← Int64.toInt_inj] at q <;> omega
  · have od2 : P1.toInt < P2.toInt := od'.elim (fun q => absurd q.1 (by decide)) And.right
    obtain ⟨j1, j2, j3⟩ := own_int3 od od2 qa qb qc m0 m1 m2
    rw [if_neg (by decide)] at e0 e2
    subst e0 e2
    refine ⟨fun q => ?_, fun q => ?_, own_eqI (by omega), own_eqI (by omega), own_eqI (by omega)⟩ <;> rw [← Int64.toInt_inj] at q <;> omega

theorem d1_0 : decode method_3_code 0 = .ok (.lload_n 0, 1) := by decide +kernel
theorem d1_1 : decode method_3_code 1 = .ok (.ldc2_w 50, 3) := by decide +kernel
theorem wd_4 {Z : State} {a0 : Array Value} (hw : ∀ d ∈ tables_1, d.before a0 Z = true) : ((Jvm.Cond.constantLong "corro/core/LimitLevelsPricePinLaw" (50 : Nat) (9223372036854775807 : Int64)) : Jvm.Cond).before a0 Z = true := hw _ (List.mem_of_getElem? (i := 4) rfl)
theorem d1_4 : decode method_3_code 4 = .ok (.land, 1) := by decide +kernel
theorem d1_5 : decode method_3_code 5 = .ok (.lstore_n 2, 1) := by decide +kernel
theorem d1_6 : decode method_3_code 6 = .ok (.lload_n 2, 1) := by decide +kernel
theorem d1_7 : decode method_3_code 7 = .ok (.lconst 0, 1) := by decide +kernel
theorem d1_8 : decode method_3_code 8 = .ok (.lcmp, 1) := by decide +kernel
theorem d1_9 : decode method_3_code 9 = .ok (.ifCond .ne 7, 3) := by decide +kernel
theorem d1_12 : decode method_3_code 12 = .ok (.lconst 1, 1) := by decide +kernel
theorem d1_13 : decode method_3_code 13 = .ok (.goto 4, 3) := by decide +kernel
theorem d1_17 : decode method_3_code 17 = .ok (.lreturn, 1) := by decide +kernel
theorem d1_16 : decode method_3_code 16 = .ok (.lload_n 2, 1) := by decide +kernel
theorem pn_0 : plainName "corro/core/LimitLevelsPricePinLaw" = true := by first | (simp [plainName, overriddenIn]; done) | decide +kernel
theorem ef_rmP (m : MethodId) (q1 : Int64) : entryFrame m #[(.long q1)] 4 = mkF m 0 #[.val (.long q1), .second, .unset, .unset] [] := by first | (simp [entryFrame, mkF, argsToLocals, Value.category]; done) | rfl
def Q_rmP (Z : State) (q1 : Int64) (h0 : Heap) (n0 : Nat) (v : Option Value) (h : Heap) (L : List Loc) : Prop := v = some (.long (own_pos q1)) ∧ Fr n0 L ∧ h = h0
set_option maxRecDepth 65536 in
set_option maxHeartbeats 40000000 in
theorem rmP (l : Launch) (Z : State) (a0 : Array Value) (hw : ∀ d ∈ tables_1, d.before a0 Z = true) (ws : List Jvm.Cond) (q1 : Int64) (h0 : Heap) (n0 : Nat) (Z0 : n0 ≤ h0.size)  :
    MetFree l (⟨"corro/core/LimitLevelsPricePinLaw", "positive", "(J)J"⟩ : MethodName) (head1 (Jvm.Cond.code (⟨"corro/core/LimitLevelsPricePinLaw", "positive", "(J)J"⟩ : MethodName) method_3_code 4 (some .long) :: ws) ({ frames := 0, cells := 0, slots := 0, locals := 0 } : Room)) (fun a U => a = #[(.long q1)] ∧ Z.Warmed39 U.vm ∧ U.heap = h0) (fun _ _ _ _ _ => True) (fun _ U o U' => ∃ v L, o = .returned v ∧ Q_rmP Z q1 h0 n0 v U'.heap L ∧ FrameEnd U o U' L ({ frames := 0, cells := 0, slots := 0, locals := 0 } : Room).cells ({ frames := 0, cells := 0, slots := 0, locals := 0 } : Room).slots) := by
  refine MetFree.of_bodySF (plainFor_of_name pn_0) hisR ?_
  intro p e s m args below meth c s₁ Bd hml0 hP hK
  obtain ⟨rfl, hZ, hh⟩ := hP
  have hx := Bd.exec
  have hby := Bd.bytes
  have hml : c.maxLocals = 4 := hml0
  have hown : s.vm.findClass "corro/core/LimitLevelsPricePinLaw" = some m.cls := findClass_of_methodNamed Bd.named
  have hnm := (name_of_methodNamed Bd.named Bd.method).1
  have X0 : Stand p l e ({ frames := 0, cells := 0, slots := 0, locals := 0 } : Room) s m #[(.long q1)] below meth c s₁ [] 0 0 := Stand.of_body Bd
  have e0 : s₁.heap = h0 := by rw [← hh, Bd.state]; rfl
  have N0 := Fr.nil n0
  suffices G0 : own_G p e below (own_E s below (Q_rmP Z q1 h0 n0) ({ frames := 0, cells := 0, slots := 0, locals := 0 } : Room).cells ({ frames := 0, cells := 0, slots := 0, locals := 0 } : Room).slots) s₁ (mkF m 0 #[.val (.long q1), .second, .unset, .unset] []) by
    obtain ⟨zt, zst, zo, zq1, zq2, zq3⟩ := G0
    exact ⟨zt, zo, castTop (ef_rmP m q1) zst, zq1, zq2, zq3⟩
  obtain ⟨Φ, hΦ⟩ : ∃ Φ, Φ = own_E s below (Q_rmP Z q1 h0 n0) ({ frames := 0, cells := 0, slots := 0, locals := 0 } : Room).cells ({ frames := 0, cells := 0, slots := 0, locals := 0 } : Room).slots := ⟨_, rfl⟩
  rw [← hΦ]
  show own_G p e below Φ s₁ (mkF m 0 #[.val (.long q1), .second, .unset, .unset] [])
  refine own_go (fun _ => XS.lloadN X0.here hx rfl (hb hby d1_0) rfl) ?_
  show own_G p e below Φ s₁ (mkF m 1 #[.val (.long q1), .second, .unset, .unset] [(.long q1)])
  refine own_go (fun _ => X0.ldc2Long hx hown (mvT hZ (wd_4 hw)) (g := (mkF m 1 #[.val (.long q1), .second, .unset, .unset] [(.long q1)])) rfl (hb hby d1_1) _) ?_
  show own_G p e below Φ s₁ (mkF m 4 #[.val (.long q1), .second, .unset, .unset] [(.long (9223372036854775807 : Int64)), (.long q1)])
  refine own_go (fun _ => XS.land X0.here hx rfl (hb hby d1_4) rfl) ?_
  refine own_go (fun _ => XS.lstoreN X0.here hx rfl (hb hby d1_5) rfl (l' := #[.val (.long q1), .second, .val (.long (q1 &&& (9223372036854775807 : Int64))), .second]) rfl) ?_
  refine own_go (fun _ => XS.lloadN X0.here hx rfl (hb hby d1_6) rfl) ?_
  show own_G p e below Φ s₁ (mkF m 7 #[.val (.long q1), .second, .val (.long (q1 &&& (9223372036854775807 : Int64))), .second] [(.long (q1 &&& (9223372036854775807 : Int64)))])
  refine own_go (fun _ => XS.lconst X0.here hx rfl (hb hby d1_7)) ?_
  show own_G p e below Φ s₁ (mkF m 8 #[.val (.long q1), .second, .val (.long (q1 &&& (9223372036854775807 : Int64))), .second] [(.long (0 : Int64)), (.long (q1 &&& (9223372036854775807 : Int64)))])
  refine own_go (fun _ => XS.lcmp X0.here hx rfl (hb hby d1_8) rfl) ?_
  show own_G p e below Φ s₁ (mkF m 9 #[.val (.long q1), .second, .val (.long (q1 &&& (9223372036854775807 : Int64))), .second] [(.int (lcmpW (q1 &&& (9223372036854775807 : Int64)) (0 : Int64)))])
  by_cases hc9 : (q1 &&& (9223372036854775807 : Int64)) = (0 : Int64)
  · refine own_go (fun _ => XS.ifNo X0.here hx rfl (hb hby d1_9) rfl (Jvm.Free.XT.ll_ne_f hc9)) ?_
    refine own_go (fun _ => XS.lconst X0.here hx rfl (hb hby d1_12)) ?_
    refine own_go (fun _ => XS.goto X0.here hx rfl (pc0 := 13) (pc' := 17) rfl (hb hby d1_13) (by decide) (by decide)) ?_
    show own_G p e below Φ s₁ (mkF m 17 #[.val (.long q1), .second, .val (.long (q1 &&& (9223372036854775807 : Int64))), .second] [(.long (1 : Int64))])
    rw [hΦ]
    refine own_ret X0 (v := some (.long (1 : Int64))) (fun h => by rw [Bd.returns] at h; cases h) (BodyLoose.notSynchronized Bd) (fun fs hr => retOut X0 hx Bd.returns rfl (Or.inr (Or.inl ⟨rfl, rfl, _, rfl⟩)) (hb hby d1_17) hr) ?_ (by decide) (by decide)
    rw [e0]
    exact ⟨(by simp [own_pos, hc9]), N0, rfl⟩
  · refine own_go (fun _ => XS.ifYes X0.here hx rfl (pc0 := 9) (pc' := 16) rfl (hb hby d1_9) rfl (Jvm.Free.XT.ll_ne_t hc9) (by decide) (by decide)) ?_
    refine own_go (fun _ => XS.lloadN X0.here hx rfl (hb hby d1_16) rfl) ?_
    show own_G p e below Φ s₁ (mkF m 17 #[.val (.long q1), .second, .val (.long (q1 &&& (9223372036854775807 : Int64))), .second] [(.long (q1 &&& (9223372036854775807 : Int64)))])
    rw [hΦ]
    refine own_ret X0 (v := some (.long (q1 &&& (9223372036854775807 : Int64)))) (fun h => by rw [Bd.returns] at h; cases h) (BodyLoose.notSynchronized Bd) (fun fs hr => retOut X0 hx Bd.returns rfl (Or.inr (Or.inl ⟨rfl, rfl, _, rfl⟩)) (hb hby d1_17) hr) ?_ (by decide) (by decide)
    rw [e0]
    exact ⟨(by simp [own_pos, hc9]), N0, rfl⟩
theorem d11_0 : decode jdk_29_method_66_code 0 = .ok (.lload_n 0, 1) := by decide +kernel
theorem d11_1 : decode jdk_29_method_66_code 1 = .ok (.lload_n 2, 1) := by decide +kernel
theorem d11_2 : decode jdk_29_method_66_code 2 = .ok (.lcmp, 1) := by decide +kernel
theorem d11_3 : decode jdk_29_method_66_code 3 = .ok (.ifCond .lt 7, 3) := by decide +kernel
theorem d11_10 : decode jdk_29_method_66_code 10 = .ok (.lload_n 2, 1) := by decide +kernel
theorem d11_11 : decode jdk_29_method_66_code 11 = .ok (.lreturn, 1) := by decide +kernel
theorem d11_6 : decode jdk_29_method_66_code 6 = .ok (.lload_n 0, 1) := by decide +kernel
theorem d11_7 : decode jdk_29_method_66_code 7 = .ok (.goto 4, 3) := by decide +kernel
theorem ef_rmMX (m : MethodId) (q1 : Int64) (q2 : Int64) : entryFrame m #[(.long q1), (.long q2)] 4 = mkF m 0 #[.val (.long q1), .second, .val (.long q2), .second] [] := by first | (simp [entryFrame, mkF, argsToLocals, Value.category]; done) | rfl
def Q_rmMX (Z : State) (q1 : Int64) (q2 : Int64) (h0 : Heap) (n0 : Nat) (v : Option Value) (h : Heap) (L : List Loc) : Prop := v = some (.long (own_maxL q1 q2)) ∧ Fr n0 L ∧ h = h0
set_option maxRecDepth 65536 in
set_option maxHeartbeats 40000000 in
theorem rmMX (l : Launch) (Z : State) (a0 : Array Value) (hw : ∀ d ∈ tables_1, d.before a0 Z = true) (ws : List Jvm.Cond) (q1 : Int64) (q2 : Int64) (h0 : Heap) (n0 : Nat) (Z0 : n0 ≤ h0.size)  :
    MetFree l (⟨"java/lang/Math", "max", "(JJ)J"⟩ : MethodName) (head1 (Jvm.Cond.code (⟨"java/lang/Math", "max", "(JJ)J"⟩ : MethodName) jdk_29_method_66_code 4 (some .long) :: ws) ({ frames := 0, cells := 0, slots := 0, locals := 0 } : Room)) (fun a U => a = #[(.long q1), (.long q2)] ∧ Z.Warmed39 U.vm ∧ U.heap = h0) (fun _ _ _ _ _ => True) (fun _ U o U' => ∃ v L, o = .returned v ∧ Q_rmMX Z q1 q2 h0 n0 v U'.heap L ∧ FrameEnd U o U' L ({ frames := 0, cells := 0, slots := 0, locals := 0 } : Room).cells ({ frames := 0, cells := 0, slots := 0, locals := 0 } : Room).slots) := by
  refine MetFree.of_bodySF (Jvm.Free.JP.mathPlain rfl (by decide +kernel)) hisR ?_
  intro p e s m args below meth c s₁ Bd hml0 hP hK
  obtain ⟨rfl, hZ, hh⟩ := hP
  have hx := Bd.exec
  have hby := Bd.bytes
  have hml : c.maxLocals = 4 := hml0
  have hown : s.vm.findClass "java/lang/Math" = some m.cls := findClass_of_methodNamed Bd.named
  have hnm := (name_of_methodNamed Bd.named Bd.method).1
  have X0 : Stand p l e ({ frames := 0, cells := 0, slots := 0, locals := 0 } : Room) s m #[(.long q1), (.long q2)] below meth c s₁ [] 0 0 := Stand.of_body Bd
  have e0 : s₁.heap = h0 := by rw [← hh, Bd.state]; rfl
  have N0 := Fr.nil n0
  suffices G0 : own_G p e below (own_E s below (Q_rmMX Z q1 q2 h0 n0) ({ frames := 0, cells := 0, slots := 0, locals := 0 } : Room).cells ({ frames := 0, cells := 0, slots := 0, locals := 0 } : Room).slots) s₁ (mkF m 0 #[.val (.long q1), .second, .val (.long q2), .second] []) by
    obtain ⟨zt, zst, zo, zq1, zq2, zq3⟩ := G0
    exact ⟨zt, zo, castTop (ef_rmMX m q1 q2) zst, zq1, zq2, zq3⟩
  obtain ⟨Φ, hΦ⟩ : ∃ Φ, Φ = own_E s below (Q_rmMX Z q1 q2 h0 n0) ({ frames := 0, cells := 0, slots := 0, locals := 0 } : Room).cells ({ frames := 0, cells := 0, slots := 0, locals := 0 } : Room).slots := ⟨_, rfl⟩
  rw [← hΦ]
  show own_G p e below Φ s₁ (mkF m 0 #[.val (.long q1), .second, .val (.long q2), .second] [])
  refine own_go (fun _ => XS.lloadN X0.here hx rfl (hb hby d11_0) rfl) ?_
  refine own_go (fun _ => XS.lloadN X0.here hx rfl (hb hby d11_1) rfl) ?_
  show own_G p e below Φ s₁ (mkF m 2 #[.val (.long q1), .second, .val (.long q2), .second] [(.long q2), (.long q1)])
  refine own_go (fun _ => XS.lcmp X0.here hx rfl (hb hby d11_2) rfl) ?_
  show own_G p e below Φ s₁ (mkF m 3 #[.val (.long q1), .second, .val (.long q2), .second] [(.int (lcmpW q1 q2))])
  by_cases hc3 : q1 < q2
  · refine own_go (fun _ => XS.ifYes X0.here hx rfl (pc0 := 3) (pc' := 10) rfl (hb hby d11_3) rfl (Jvm.Free.XT.ll_lt_t hc3) (by decide) (by decide)) ?_
    refine own_go (fun _ => XS.lloadN X0.here hx rfl (hb hby d11_10) rfl) ?_
    show own_G p e below Φ s₁ (mkF m 11 #[.val (.long q1), .second, .val (.long q2), .second] [(.long q2)])
    rw [hΦ]
    refine own_ret X0 (v := some (.long q2)) (fun h => by rw [Bd.returns] at h; cases h) (BodyLoose.notSynchronized Bd) (fun fs hr => retOut X0 hx Bd.returns rfl (Or.inr (Or.inl ⟨rfl, rfl, _, rfl⟩)) (hb hby d11_11) hr) ?_ (by decide) (by decide)
    rw [e0]
    exact ⟨(by simp [own_maxL, hc3]), N0, rfl⟩
  · refine own_go (fun _ => XS.ifNo X0.here hx rfl (hb hby d11_3) rfl (Jvm.Free.XT.ll_lt_f hc3)) ?_
    refine own_go (fun _ => XS.lloadN X0.here hx rfl (hb hby d11_6) rfl) ?_
    refine own_go (fun _ => XS.goto X0.here hx rfl (pc0 := 7) (pc' := 11) rfl (hb hby d11_7) (by decide) (by decide)) ?_
    show own_G p e below Φ s₁ (mkF m 11 #[.val (.long q1), .second, .val (.long q2), .second] [(.long q1)])
    rw [hΦ]
    refine own_ret X0 (v := some (.long q1)) (fun h => by rw [Bd.returns] at h; cases h) (BodyLoose.notSynchronized Bd) (fun fs hr => retOut X0 hx Bd.returns rfl (Or.inr (Or.inl ⟨rfl, rfl, _, rfl⟩)) (hb hby d11_11) hr) ?_ (by decide) (by decide)
    rw [e0]
    exact ⟨(by simp [own_maxL, hc3]), N0, rfl⟩
theorem d12_0 : decode jdk_29_method_70_code 0 = .ok (.lload_n 0, 1) := by decide +kernel
theorem d12_1 : decode jdk_29_method_70_code 1 = .ok (.lload_n 2, 1) := by decide +kernel
theorem d12_2 : decode jdk_29_method_70_code 2 = .ok (.lcmp, 1) := by decide +kernel
theorem d12_3 : decode jdk_29_method_70_code 3 = .ok (.ifCond .gt 7, 3) := by decide +kernel
theorem d12_10 : decode jdk_29_method_70_code 10 = .ok (.lload_n 2, 1) := by decide +kernel
theorem d12_11 : decode jdk_29_method_70_code 11 = .ok (.lreturn, 1) := by decide +kernel
theorem d12_6 : decode jdk_29_method_70_code 6 = .ok (.lload_n 0, 1) := by decide +kernel
theorem d12_7 : decode jdk_29_method_70_code 7 = .ok (.goto 4, 3) := by decide +kernel
theorem ef_rmMN (m : MethodId) (q1 : Int64) (q2 : Int64) : entryFrame m #[(.long q1), (.long q2)] 4 = mkF m 0 #[.val (.long q1), .second, .val (.long q2), .second] [] := by first | (simp [entryFrame, mkF, argsToLocals, Value.category]; done) | rfl
def Q_rmMN (Z : State) (q1 : Int64) (q2 : Int64) (h0 : Heap) (n0 : Nat) (v : Option Value) (h : Heap) (L : List Loc) : Prop := v = some (.long (own_minL q1 q2)) ∧ Fr n0 L ∧ h = h0
set_option maxRecDepth 65536 in
set_option maxHeartbeats 40000000 in
theorem rmMN (l : Launch) (Z : State) (a0 : Array Value) (hw : ∀ d ∈ tables_1, d.before a0 Z = true) (ws : List Jvm.Cond) (q1 : Int64) (q2 : Int64) (h0 : Heap) (n0 : Nat) (Z0 : n0 ≤ h0.size)  :
    MetFree l (⟨"java/lang/Math", "min", "(JJ)J"⟩ : MethodName) (head1 (Jvm.Cond.code (⟨"java/lang/Math", "min", "(JJ)J"⟩ : MethodName) jdk_29_method_70_code 4 (some .long) :: ws) ({ frames := 0, cells := 0, slots := 0, locals := 0 } : Room)) (fun a U => a = #[(.long q1), (.long q2)] ∧ Z.Warmed39 U.vm ∧ U.heap = h0) (fun _ _ _ _ _ => True) (fun _ U o U' => ∃ v L, o = .returned v ∧ Q_rmMN Z q1 q2 h0 n0 v U'.heap L ∧ FrameEnd U o U' L ({ frames := 0, cells := 0, slots := 0, locals := 0 } : Room).cells ({ frames := 0, cells := 0, slots := 0, locals := 0 } : Room).slots) := by
  refine MetFree.of_bodySF (Jvm.Free.JP.mathPlain rfl (by decide +kernel)) hisR ?_
  intro p e s m args below meth c s₁ Bd hml0 hP hK
  obtain ⟨rfl, hZ, hh⟩ := hP
  have hx := Bd.exec
  have hby := Bd.bytes
  have hml : c.maxLocals = 4 := hml0
  have hown : s.vm.findClass "java/lang/Math" = some m.cls := findClass_of_methodNamed Bd.named
  have hnm := (name_of_methodNamed Bd.named Bd.method).1
  have X0 : Stand p l e ({ frames := 0, cells := 0, slots := 0, locals := 0 } : Room) s m #[(.long q1), (.long q2)] below meth c s₁ [] 0 0 := Stand.of_body Bd
  have e0 : s₁.heap = h0 := by rw [← hh, Bd.state]; rfl
  have N0 := Fr.nil n0
  suffices G0 : own_G p e below (own_E s below (Q_rmMN Z q1 q2 h0 n0) ({ frames := 0, cells := 0, slots := 0, locals := 0 } : Room).cells ({ frames := 0, cells := 0, slots := 0, locals := 0 } : Room).slots) s₁ (mkF m 0 #[.val (.long q1), .second, .val (.long q2), .second] []) by
    obtain ⟨zt, zst, zo, zq1, zq2, zq3⟩ := G0
    exact ⟨zt, zo, castTop (ef_rmMN m q1 q2) zst, zq1, zq2, zq3⟩
  obtain ⟨Φ, hΦ⟩ : ∃ Φ, Φ = own_E s below (Q_rmMN Z q1 q2 h0 n0) ({ frames := 0, cells := 0, slots := 0, locals := 0 } : Room).cells ({ frames := 0, cells := 0, slots := 0, locals := 0 } : Room).slots := ⟨_, rfl⟩
  rw [← hΦ]
  show own_G p e below Φ s₁ (mkF m 0 #[.val (.long q1), .second, .val (.long q2), .second] [])
  refine own_go (fun _ => XS.lloadN X0.here hx rfl (hb hby d12_0) rfl) ?_
  refine own_go (fun _ => XS.lloadN X0.here hx rfl (hb hby d12_1) rfl) ?_
  show own_G p e below Φ s₁ (mkF m 2 #[.val (.long q1), .second, .val (.long q2), .second] [(.long q2), (.long q1)])
  refine own_go (fun _ => XS.lcmp X0.here hx rfl (hb hby d12_2) rfl) ?_
  show own_G p e below Φ s₁ (mkF m 3 #[.val (.long q1), .second, .val (.long q2), .second] [(.int (lcmpW q1 q2))])
  by_cases hc3 : q2 < q1
  · refine own_go (fun _ => XS.ifYes X0.here hx rfl (pc0 := 3) (pc' := 10) rfl (hb hby d12_3) rfl (Jvm.Free.XT.ll_gt_t hc3) (by decide) (by decide)) ?_
    refine own_go (fun _ => XS.lloadN X0.here hx rfl (hb hby d12_10) rfl) ?_
    show own_G p e below Φ s₁ (mkF m 11 #[.val (.long q1), .second, .val (.long q2), .second] [(.long q2)])
    rw [hΦ]
    refine own_ret X0 (v := some (.long q2)) (fun h => by rw [Bd.returns] at h; cases h) (BodyLoose.notSynchronized Bd) (fun fs hr => retOut X0 hx Bd.returns rfl (Or.inr (Or.inl ⟨rfl, rfl, _, rfl⟩)) (hb hby d12_11) hr) ?_ (by decide) (by decide)
    rw [e0]
    exact ⟨(by simp [own_minL, hc3]), N0, rfl⟩
  · refine own_go (fun _ => XS.ifNo X0.here hx rfl (hb hby d12_3) rfl (Jvm.Free.XT.ll_gt_f hc3)) ?_
    refine own_go (fun _ => XS.lloadN X0.here hx rfl (hb hby d12_6) rfl) ?_
    refine own_go (fun _ => XS.goto X0.here hx rfl (pc0 := 7) (pc' := 11) rfl (hb hby d12_7) (by decide) (by decide)) ?_
    show own_G p e below Φ s₁ (mkF m 11 #[.val (.long q1), .second, .val (.long q2), .second] [(.long q1)])
    rw [hΦ]
    refine own_ret X0 (v := some (.long q1)) (fun h => by rw [Bd.returns] at h; cases h) (BodyLoose.notSynchronized Bd) (fun fs hr => retOut X0 hx Bd.returns rfl (Or.inr (Or.inl ⟨rfl, rfl, _, rfl⟩)) (hb hby d12_11) hr) ?_ (by decide) (by decide)
    rw [e0]
    exact ⟨(by simp [own_minL, hc3]), N0, rfl⟩
theorem d6_0 : decode prog_14_method_11_code 0 = .ok (.aload_n 0, 1) := by decide +kernel
theorem d6_1 : decode prog_14_method_11_code 1 = .ok (.getfield 25, 3) := by decide +kernel
theorem wd_26 {Z : State} {a0 : Array Value} (hw : ∀ d ∈ tables_1, d.before a0 Z = true) : ((Jvm.Cond.fieldLink "corro/core/LimitLevels" (25 : Nat) "corro/core/LimitLevels" "highestFirst" "Z") : Jvm.Cond).before a0 Z = true := hw _ (List.mem_of_getElem? (i := 26) rfl)
theorem d6_4 : decode prog_14_method_11_code 4 = .ok (.ifCond .eq 7, 3) := by decide +kernel
theorem d6_11 : decode prog_14_method_11_code 11 = .ok (.lload_n 1, 1) := by decide +kernel
theorem d6_12 : decode prog_14_method_11_code 12 = .ok (.lneg, 1) := by decide +kernel
theorem d6_13 : decode prog_14_method_11_code 13 = .ok (.lreturn, 1) := by decide +kernel
theorem d6_7 : decode prog_14_method_11_code 7 = .ok (.lload_n 1, 1) := by decide +kernel
theorem d6_8 : decode prog_14_method_11_code 8 = .ok (.goto 5, 3) := by decide +kernel
theorem pn_1 : plainName "corro/core/LimitLevels" = true := by first | (simp [plainName, overriddenIn]; done) | decide +kernel
theorem ef_rmK (m : MethodId) (a1 : Addr) (q1 : Int64) : entryFrame m #[(.ref a1), (.long q1)] 3 = mkF m 0 #[.val (.ref a1), .val (.long q1), .second] [] := by first | (simp [entryFrame, mkF, argsToLocals, Value.category]; done) | rfl
def Q_rmK (Z : State) (a1 : Addr) (q1 : Int64) (hf : Int32) (h0 : Heap) (n0 : Nat) (v : Option Value) (h : Heap) (L : List Loc) : Prop := v = some (.long (own_key hf q1)) ∧ Fr n0 L ∧ h = h0
set_option maxRecDepth 65536 in
set_option maxHeartbeats 40000000 in
theorem rmK (l : Launch) (Z : State) (a0 : Array Value) (hw : ∀ d ∈ tables_1, d.before a0 Z = true) (ws : List Jvm.Cond) (a1 : Addr) (q1 : Int64) (hf : Int32) (h0 : Heap) (n0 : Nat) (Z0 : n0 ≤ h0.size) (F_highestFirst_a1 : Fld Z h0 a1 "corro/core/LimitLevels" "highestFirst" "Z" (.int hf)) :
    MetFree l (⟨"corro/core/LimitLevels", "key", "(J)J"⟩ : MethodName) (head1 (Jvm.Cond.code (⟨"corro/core/LimitLevels", "key", "(J)J"⟩ : MethodName) prog_14_method_11_code 3 (some .long) :: ws) ({ frames := 0, cells := 0, slots := 0, locals := 0 } : Room)) (fun a U => a = #[(.ref a1), (.long q1)] ∧ Z.Warmed39 U.vm ∧ U.heap = h0) (fun _ _ _ _ _ => True) (fun _ U o U' => ∃ v L, o = .returned v ∧ Q_rmK Z a1 q1 hf h0 n0 v U'.heap L ∧ FrameEnd U o U' L ({ frames := 0, cells := 0, slots := 0, locals := 0 } : Room).cells ({ frames := 0, cells := 0, slots := 0, locals := 0 } : Room).slots) := by
  refine MetFree.of_bodySF (plainFor_of_name pn_1) hisR ?_
  intro p e s m args below meth c s₁ Bd hml0 hP hK
  obtain ⟨rfl, hZ, hh⟩ := hP
  have hx := Bd.exec
  have hby := Bd.bytes
  have hml : c.maxLocals = 3 := hml0
  have hown : s.vm.findClass "corro/core/LimitLevels" = some m.cls := findClass_of_methodNamed Bd.named
  have hnm := (name_of_methodNamed Bd.named Bd.method).1
  have X0 : Stand p l e ({ frames := 0, cells := 0, slots := 0, locals := 0 } : Room) s m #[(.ref a1), (.long q1)] below meth c s₁ [] 0 0 := Stand.of_body Bd
  have e0 : s₁.heap = h0 := by rw [← hh, Bd.state]; rfl
  have N0 := Fr.nil n0
  suffices G0 : own_G p e below (own_E s below (Q_rmK Z a1 q1 hf h0 n0) ({ frames := 0, cells := 0, slots := 0, locals := 0 } : Room).cells ({ frames := 0, cells := 0, slots := 0, locals := 0 } : Room).slots) s₁ (mkF m 0 #[.val (.ref a1), .val (.long q1), .second] []) by
    obtain ⟨zt, zst, zo, zq1, zq2, zq3⟩ := G0
    exact ⟨zt, zo, castTop (ef_rmK m a1 q1) zst, zq1, zq2, zq3⟩
  obtain ⟨Φ, hΦ⟩ : ∃ Φ, Φ = own_E s below (Q_rmK Z a1 q1 hf h0 n0) ({ frames := 0, cells := 0, slots := 0, locals := 0 } : Room).cells ({ frames := 0, cells := 0, slots := 0, locals := 0 } : Room).slots := ⟨_, rfl⟩
  rw [← hΦ]
  show own_G p e below Φ s₁ (mkF m 0 #[.val (.ref a1), .val (.long q1), .second] [])
  refine own_go (fun _ => XS.aloadN X0.here hx rfl (hb hby d6_0) rfl rfl) ?_
  show own_G p e below Φ s₁ (mkF m 1 #[.val (.ref a1), .val (.long q1), .second] [(.ref a1)])
  obtain ⟨T1, X1, e1, st1⟩ := getF X0 hx hZ hown (host := "") (Or.inl (wd_26 hw)) Via.refl e0 F_highestFirst_a1 (g := (mkF m 1 #[.val (.ref a1), .val (.long q1), .second] [(.ref a1)])) rfl rfl (hb hby d6_1)
  refine own_go st1 ?_
  show own_G p e below Φ T1 (mkF m 4 #[.val (.ref a1), .val (.long q1), .second] [(.int hf)])
  by_cases hc4 : hf = (0 : Int32)
  · refine own_go (fun _ => XS.ifYes X1.here hx rfl (pc0 := 4) (pc' := 11) rfl (hb hby d6_4) rfl (Jvm.Free.XT.i0_eq_t hc4) (by decide) (by decide)) ?_
    refine own_go (fun _ => XS.lloadN X1.here hx rfl (hb hby d6_11) rfl) ?_
    show own_G p e below Φ T1 (mkF m 12 #[.val (.ref a1), .val (.long q1), .second] [(.long q1)])
    refine own_go (fun _ => XS.lneg X1.here hx rfl (hb hby d6_12) rfl) ?_
    show own_G p e below Φ T1 (mkF m 13 #[.val (.ref a1), .val (.long q1), .second] [(.long ((-q1)))])
    rw [hΦ]
    refine own_ret X1 (v := some (.long ((-q1)))) (fun h => by rw [Bd.returns] at h; cases h) (BodyLoose.notSynchronized Bd) (fun fs hr => retOut X1 hx Bd.returns rfl (Or.inr (Or.inl ⟨rfl, rfl, _, rfl⟩)) (hb hby d6_13) hr) ?_ (by decide) (by decide)
    rw [e1]
    exact ⟨(by simp [own_key, hc4]), N0, rfl⟩
  · refine own_go (fun _ => XS.ifNo X1.here hx rfl (hb hby d6_4) rfl (Jvm.Free.XT.i0_eq_f hc4)) ?_
    refine own_go (fun _ => XS.lloadN X1.here hx rfl (hb hby d6_7) rfl) ?_
    refine own_go (fun _ => XS.goto X1.here hx rfl (pc0 := 8) (pc' := 13) rfl (hb hby d6_8) (by decide) (by decide)) ?_
    show own_G p e below Φ T1 (mkF m 13 #[.val (.ref a1), .val (.long q1), .second] [(.long q1)])
    rw [hΦ]
    refine own_ret X1 (v := some (.long q1)) (fun h => by rw [Bd.returns] at h; cases h) (BodyLoose.notSynchronized Bd) (fun fs hr => retOut X1 hx Bd.returns rfl (Or.inr (Or.inl ⟨rfl, rfl, _, rfl⟩)) (hb hby d6_13) hr) ?_ (by decide) (by decide)
    rw [e1]
    exact ⟨(by simp [own_key, hc4]), N0, rfl⟩
theorem d10_0 : decode prog_13_method_1_code 0 = .ok (.aload_n 0, 1) := by decide +kernel
theorem d10_1 : decode prog_13_method_1_code 1 = .ok (.invokespecial 1, 3) := by decide +kernel
theorem wd_62 {Z : State} {a0 : Array Value} (hw : ∀ d ∈ tables_1, d.before a0 Z = true) : ((Jvm.Cond.methodLink "corro/core/Level" (1 : Nat) ({ cls := "java/lang/Object", name := "<init>", desc := "()V" } : Jvm.MethodName)) : Jvm.Cond).before a0 Z = true := hw _ (List.mem_of_getElem? (i := 62) rfl)
theorem wd_15 {Z : State} {a0 : Array Value} (hw : ∀ d ∈ tables_1, d.before a0 Z = true) : ((Jvm.Cond.instanceMethod ({ cls := "java/lang/Object", name := "<init>", desc := "()V" } : Jvm.MethodName)) : Jvm.Cond).before a0 Z = true := hw _ (List.mem_of_getElem? (i := 15) rfl)
theorem wd_16 {Z : State} {a0 : Array Value} (hw : ∀ d ∈ tables_1, d.before a0 Z = true) : ((Jvm.Cond.code ({ cls := "java/lang/Object", name := "<init>", desc := "()V" } : Jvm.MethodName) object_method_1_code (1 : Nat) (Option.none : Option Jvm.ClassFile.FieldType)) : Jvm.Cond).before a0 Z = true := hw _ (List.mem_of_getElem? (i := 16) rfl)
theorem d10_4 : decode prog_13_method_1_code 4 = .ok (.return_, 1) := by decide +kernel
theorem pn_2 : plainName "corro/core/Level" = true := by first | (simp [plainName, overriddenIn]; done) | decide +kernel
theorem ef_rmL (m : MethodId) (a1 : Addr) : entryFrame m #[(.ref a1)] 1 = mkF m 0 #[.val (.ref a1)] [] := by first | (simp [entryFrame, mkF, argsToLocals, Value.category]; done) | rfl
def Q_rmL (Z : State) (a1 : Addr) (h0 : Heap) (n0 : Nat) (v : Option Value) (h : Heap) (L : List Loc) : Prop := v = none ∧ Fr n0 L ∧ h = h0
set_option maxRecDepth 65536 in
set_option maxHeartbeats 40000000 in
theorem rmL (l : Launch) (Z : State) (a0 : Array Value) (hw : ∀ d ∈ tables_1, d.before a0 Z = true) (ws : List Jvm.Cond) (a1 : Addr) (h0 : Heap) (n0 : Nat) (Z0 : n0 ≤ h0.size)  :
    MetFree l (⟨"corro/core/Level", "<init>", "()V"⟩ : MethodName) (head1 (Jvm.Cond.code (⟨"corro/core/Level", "<init>", "()V"⟩ : MethodName) prog_13_method_1_code 1 none :: ws) ({ frames := 1, cells := 0, slots := 0, locals := 12 } : Room)) (fun a U => a = #[(.ref a1)] ∧ Z.Warmed39 U.vm ∧ U.heap = h0) (fun _ _ _ _ _ => True) (fun _ U o U' => ∃ v L, o = .returned v ∧ Q_rmL Z a1 h0 n0 v U'.heap L ∧ FrameEnd U o U' L ({ frames := 1, cells := 0, slots := 0, locals := 12 } : Room).cells ({ frames := 1, cells := 0, slots := 0, locals := 12 } : Room).slots) := by
  refine MetFree.of_bodySF (plainFor_of_name pn_2) hisR ?_
  intro p e s m args below meth c s₁ Bd hml0 hP hK
  obtain ⟨rfl, hZ, hh⟩ := hP
  have hx := Bd.exec
  have hby := Bd.bytes
  have hml : c.maxLocals = 1 := hml0
  have hown : s.vm.findClass "corro/core/Level" = some m.cls := findClass_of_methodNamed Bd.named
  have hnm := (name_of_methodNamed Bd.named Bd.method).1
  have X0 : Stand p l e ({ frames := 1, cells := 0, slots := 0, locals := 12 } : Room) s m #[(.ref a1)] below meth c s₁ [] 0 0 := Stand.of_body Bd
  have e0 : s₁.heap = h0 := by rw [← hh, Bd.state]; rfl
  have N0 := Fr.nil n0
  suffices G0 : own_G p e below (own_E s below (Q_rmL Z a1 h0 n0) ({ frames := 1, cells := 0, slots := 0, locals := 12 } : Room).cells ({ frames := 1, cells := 0, slots := 0, locals := 12 } : Room).slots) s₁ (mkF m 0 #[.val (.ref a1)] []) by
    obtain ⟨zt, zst, zo, zq1, zq2, zq3⟩ := G0
    exact ⟨zt, zo, castTop (ef_rmL m a1) zst, zq1, zq2, zq3⟩
  obtain ⟨Φ, hΦ⟩ : ∃ Φ, Φ = own_E s below (Q_rmL Z a1 h0 n0) ({ frames := 1, cells := 0, slots := 0, locals := 12 } : Room).cells ({ frames := 1, cells := 0, slots := 0, locals := 12 } : Room).slots := ⟨_, rfl⟩
  rw [← hΦ]
  show own_G p e below Φ s₁ (mkF m 0 #[.val (.ref a1)] [])
  refine own_go (fun _ => XS.aloadN X0.here hx rfl (hb hby d10_0) rfl rfl) ?_
  show own_G p e below Φ s₁ (mkF m 1 #[.val (.ref a1)] [(.ref a1)])
  obtain ⟨T1, X1, e1, st1⟩ := initO X0 hx hZ hown (wd_62 hw) (wd_15 hw) (wd_16 hw) e0 (g := (mkF m 1 #[.val (.ref a1)] [(.ref a1)])) rfl (by rw [hml]; rfl) rfl (hb hby d10_1) (by decide) (W := 0) (by show 2 * 0 + _ ≤ _; exact Nat.le_of_eq rfl) (by decide)
  refine own_go st1 ?_
  show own_G p e below Φ T1 (mkF m 4 #[.val (.ref a1)] [])
  rw [hΦ]
  refine own_ret X1 (v := none) (fun _ => rfl) (BodyLoose.notSynchronized Bd) (fun fs hr => X1.returnOut hx Bd.returns (hb hby d10_4) hr) ?_ (by decide) (by decide)
  rw [e1]
  exact ⟨rfl, N0, rfl⟩
theorem d2_0 : decode prog_14_method_1_code 0 = .ok (.aload_n 0, 1) := by decide +kernel
theorem d2_1 : decode prog_14_method_1_code 1 = .ok (.invokespecial 1, 3) := by decide +kernel
theorem wd_14 {Z : State} {a0 : Array Value} (hw : ∀ d ∈ tables_1, d.before a0 Z = true) : ((Jvm.Cond.methodLink "corro/core/LimitLevels" (1 : Nat) ({ cls := "java/lang/Object", name := "<init>", desc := "()V" } : Jvm.MethodName)) : Jvm.Cond).before a0 Z = true := hw _ (List.mem_of_getElem? (i := 14) rfl)
theorem d2_4 : decode prog_14_method_1_code 4 = .ok (.aload_n 0, 1) := by decide +kernel
theorem d2_5 : decode prog_14_method_1_code 5 = .ok (.bipush 64, 2) := by decide +kernel
theorem d2_7 : decode prog_14_method_1_code 7 = .ok (.newarray .long, 2) := by decide +kernel
theorem wd_17 {Z : State} {a0 : Array Value} (hw : ∀ d ∈ tables_1, d.before a0 Z = true) : ((Jvm.Cond.arrayClass Jvm.ClassFile.FieldType.long) : Jvm.Cond).before a0 Z = true := hw _ (List.mem_of_getElem? (i := 17) rfl)
theorem d2_9 : decode prog_14_method_1_code 9 = .ok (.putfield 9, 3) := by decide +kernel
theorem wd_18 {Z : State} {a0 : Array Value} (hw : ∀ d ∈ tables_1, d.before a0 Z = true) : ((Jvm.Cond.fieldLink "corro/core/LimitLevels" (9 : Nat) "corro/core/LimitLevels" "keys" "[J") : Jvm.Cond).before a0 Z = true := hw _ (List.mem_of_getElem? (i := 18) rfl)
theorem wd_19 {Z : State} {a0 : Array Value} (hw : ∀ d ∈ tables_1, d.before a0 Z = true) : ((Jvm.Cond.lays "corro/core/LimitLevels" "corro/core/LimitLevels" "keys" "[J") : Jvm.Cond).before a0 Z = true := hw _ (List.mem_of_getElem? (i := 19) rfl)
theorem wd_6 {Z : State} {a0 : Array Value} (hw : ∀ d ∈ tables_1, d.before a0 Z = true) : ((Jvm.Cond.instantiable "corro/core/LimitLevels" (4 : Nat)) : Jvm.Cond).before a0 Z = true := hw _ (List.mem_of_getElem? (i := 6) rfl)
theorem d2_12 : decode prog_14_method_1_code 12 = .ok (.aload_n 0, 1) := by decide +kernel
theorem d2_13 : decode prog_14_method_1_code 13 = .ok (.bipush 64, 2) := by decide +kernel
theorem d2_15 : decode prog_14_method_1_code 15 = .ok (.anewarray 13, 3) := by decide +kernel
theorem wd_20 {Z : State} {a0 : Array Value} (hw : ∀ d ∈ tables_1, d.before a0 Z = true) : ((Jvm.Cond.classLink "corro/core/LimitLevels" (13 : Nat) "corro/core/Level") : Jvm.Cond).before a0 Z = true := hw _ (List.mem_of_getElem? (i := 20) rfl)
theorem wd_21 {Z : State} {a0 : Array Value} (hw : ∀ d ∈ tables_1, d.before a0 Z = true) : ((Jvm.Cond.arrayOver (Jvm.ClassFile.FieldType.object "corro/core/Level")) : Jvm.Cond).before a0 Z = true := hw _ (List.mem_of_getElem? (i := 21) rfl)
theorem d2_18 : decode prog_14_method_1_code 18 = .ok (.putfield 15, 3) := by decide +kernel
theorem wd_22 {Z : State} {a0 : Array Value} (hw : ∀ d ∈ tables_1, d.before a0 Z = true) : ((Jvm.Cond.fieldLink "corro/core/LimitLevels" (15 : Nat) "corro/core/LimitLevels" "levels" "[Lcorro/core/Level;") : Jvm.Cond).before a0 Z = true := hw _ (List.mem_of_getElem? (i := 22) rfl)
theorem wd_23 {Z : State} {a0 : Array Value} (hw : ∀ d ∈ tables_1, d.before a0 Z = true) : ((Jvm.Cond.lays "corro/core/LimitLevels" "corro/core/LimitLevels" "levels" "[Lcorro/core/Level;") : Jvm.Cond).before a0 Z = true := hw _ (List.mem_of_getElem? (i := 23) rfl)
theorem sl_0 {Z : State} {a0 : Array Value} (hw : ∀ d ∈ tables_1, d.before a0 Z = true) : Jvm.RoadKit.slotOf Z "corro/core/LimitLevels" "levels" "[Lcorro/core/Level;" ≠ Jvm.RoadKit.slotOf Z "corro/core/LimitLevels" "keys" "[J" := slot_ne (C := "corro/core/LimitLevels") (Or.inl (wd_23 hw)) (Or.inl (wd_19 hw)) (by decide) (t := (.array (.object "corro/core/Level"))) (t' := (.array .long)) (by decide) (by decide)
theorem d2_21 : decode prog_14_method_1_code 21 = .ok (.aload_n 0, 1) := by decide +kernel
theorem d2_22 : decode prog_14_method_1_code 22 = .ok (.aload_n 1, 1) := by decide +kernel
theorem d2_23 : decode prog_14_method_1_code 23 = .ok (.getstatic 19, 3) := by decide +kernel
theorem wd_24 {Z : State} {a0 : Array Value} (hw : ∀ d ∈ tables_1, d.before a0 Z = true) : ((Jvm.Cond.fieldLink "corro/core/LimitLevels" (19 : Nat) "corro/core/Side" "BUY" "Lcorro/core/Side;") : Jvm.Cond).before a0 Z = true := hw _ (List.mem_of_getElem? (i := 24) rfl)
theorem d2_26 : decode prog_14_method_1_code 26 = .ok (.if_acmp .ne 7, 3) := by decide +kernel
theorem d2_29 : decode prog_14_method_1_code 29 = .ok (.iconst 1, 1) := by decide +kernel
theorem d2_30 : decode prog_14_method_1_code 30 = .ok (.goto 4, 3) := by decide +kernel
theorem d2_34 : decode prog_14_method_1_code 34 = .ok (.putfield 25, 3) := by decide +kernel
theorem wd_27 {Z : State} {a0 : Array Value} (hw : ∀ d ∈ tables_1, d.before a0 Z = true) : ((Jvm.Cond.laysFinal "corro/core/LimitLevels" "corro/core/LimitLevels" "highestFirst" "Z") : Jvm.Cond).before a0 Z = true := hw _ (List.mem_of_getElem? (i := 27) rfl)
theorem sl_1 {Z : State} {a0 : Array Value} (hw : ∀ d ∈ tables_1, d.before a0 Z = true) : Jvm.RoadKit.slotOf Z "corro/core/LimitLevels" "highestFirst" "Z" ≠ Jvm.RoadKit.slotOf Z "corro/core/LimitLevels" "keys" "[J" := slot_ne (C := "corro/core/LimitLevels") (Or.inr (wd_27 hw)) (Or.inl (wd_19 hw)) (by decide) (t := .boolean) (t' := (.array .long)) (by decide) (by decide)
theorem sl_2 {Z : State} {a0 : Array Value} (hw : ∀ d ∈ tables_1, d.before a0 Z = true) : Jvm.RoadKit.slotOf Z "corro/core/LimitLevels" "highestFirst" "Z" ≠ Jvm.RoadKit.slotOf Z "corro/core/LimitLevels" "levels" "[Lcorro/core/Level;" := slot_ne (C := "corro/core/LimitLevels") (Or.inr (wd_27 hw)) (Or.inl (wd_23 hw)) (by decide) (t := .boolean) (t' := (.array (.object "corro/core/Level"))) (by decide) (by decide)
theorem d2_37 : decode prog_14_method_1_code 37 = .ok (.return_, 1) := by decide +kernel
theorem sl_3 {Z : State} {a0 : Array Value} (hw : ∀ d ∈ tables_1, d.before a0 Z = true) : Jvm.RoadKit.slotOf Z "corro/core/LimitLevels" "keys" "[J" ≠ Jvm.RoadKit.slotOf Z "corro/core/LimitLevels" "levels" "[Lcorro/core/Level;" := slot_ne (C := "corro/core/LimitLevels") (Or.inl (wd_19 hw)) (Or.inl (wd_23 hw)) (by decide) (t := (.array .long)) (t' := (.array (.object "corro/core/Level"))) (by decide) (by decide)
theorem sl_4 {Z : State} {a0 : Array Value} (hw : ∀ d ∈ tables_1, d.before a0 Z = true) : Jvm.RoadKit.slotOf Z "corro/core/LimitLevels" "keys" "[J" ≠ Jvm.RoadKit.slotOf Z "corro/core/LimitLevels" "highestFirst" "Z" := slot_ne (C := "corro/core/LimitLevels") (Or.inl (wd_19 hw)) (Or.inr (wd_27 hw)) (by decide) (t := (.array .long)) (t' := .boolean) (by decide) (by decide)
theorem sl_5 {Z : State} {a0 : Array Value} (hw : ∀ d ∈ tables_1, d.before a0 Z = true) : Jvm.RoadKit.slotOf Z "corro/core/LimitLevels" "levels" "[Lcorro/core/Level;" ≠ Jvm.RoadKit.slotOf Z "corro/core/LimitLevels" "highestFirst" "Z" := slot_ne (C := "corro/core/LimitLevels") (Or.inl (wd_23 hw)) (Or.inr (wd_27 hw)) (by decide) (t := (.array (.object "corro/core/Level"))) (t' := .boolean) (by decide) (by decide)
theorem wd_38 {Z : State} {a0 : Array Value} (hw : ∀ d ∈ tables_1, d.before a0 Z = true) : ((Jvm.Cond.lays "corro/core/LimitLevels" "corro/core/LimitLevels" "size" "I") : Jvm.Cond).before a0 Z = true := hw _ (List.mem_of_getElem? (i := 38) rfl)
theorem sl_6 {Z : State} {a0 : Array Value} (hw : ∀ d ∈ tables_1, d.before a0 Z = true) : Jvm.RoadKit.slotOf Z "corro/core/LimitLevels" "size" "I" ≠ Jvm.RoadKit.slotOf Z "corro/core/LimitLevels" "keys" "[J" := slot_ne (C := "corro/core/LimitLevels") (Or.inl (wd_38 hw)) (Or.inl (wd_19 hw)) (by decide) (t := .int) (t' := (.array .long)) (by decide) (by decide)
theorem sl_7 {Z : State} {a0 : Array Value} (hw : ∀ d ∈ tables_1, d.before a0 Z = true) : Jvm.RoadKit.slotOf Z "corro/core/LimitLevels" "size" "I" ≠ Jvm.RoadKit.slotOf Z "corro/core/LimitLevels" "levels" "[Lcorro/core/Level;" := slot_ne (C := "corro/core/LimitLevels") (Or.inl (wd_38 hw)) (Or.inl (wd_23 hw)) (by decide) (t := .int) (t' := (.array (.object "corro/core/Level"))) (by decide) (by decide)
theorem sl_8 {Z : State} {a0 : Array Value} (hw : ∀ d ∈ tables_1, d.before a0 Z = true) : Jvm.RoadKit.slotOf Z "corro/core/LimitLevels" "size" "I" ≠ Jvm.RoadKit.slotOf Z "corro/core/LimitLevels" "highestFirst" "Z" := slot_ne (C := "corro/core/LimitLevels") (Or.inl (wd_38 hw)) (Or.inr (wd_27 hw)) (by decide) (t := .int) (t' := .boolean) (by decide) (by decide)
theorem ef_rmCB (m : MethodId) (a1 : Addr) (sb : Addr) : entryFrame m #[(.ref a1), (.ref sb)] 2 = mkF m 0 #[.val (.ref a1), .val (.ref sb)] [] := by first | (simp [entryFrame, mkF, argsToLocals, Value.category]; done) | rfl
def Q_rmCB (Z : State) (a1 : Addr) (sb : Addr) (u0 : Value) (u1 : Value) (u2 : Value) (h0 : Heap) (n0 : Nat) (v : Option Value) (h : Heap) (L : List Loc) : Prop := ∃ xk : Addr, h0.size ≤ xk ∧ ∃ xl : Addr, h0.size ≤ xl ∧ ∃ kk : ClassId, ∃ kl : ClassId, v = none ∧ Fr n0 L ∧ Keep h0 h [a1] ∧ Exa Z h a1 "corro/core/LimitLevels" ∧ Fld Z h a1 "corro/core/LimitLevels" "keys" "[J" (.ref xk) ∧ Fld Z h a1 "corro/core/LimitLevels" "levels" "[Lcorro/core/Level;" (.ref xl) ∧ Fld Z h a1 "corro/core/LimitLevels" "highestFirst" "Z" (.int (1 : Int32)) ∧ Fld Z h a1 "corro/core/LimitLevels" "size" "I" (.int (0 : Int32)) ∧ Arv Z h xk kk .long (64 : Int32) [] (.long (0 : Int64)) ∧ Arv Z h xl kl (.object "corro/core/Level") (64 : Int32) [] .null ∧ xk ≠ xl ∧ Ovr Z kl "corro/core/Level"
set_option maxRecDepth 65536 in
set_option maxHeartbeats 40000000 in
theorem rmCB (l : Launch) (Z : State) (a0 : Array Value) (hw : ∀ d ∈ tables_1, d.before a0 Z = true) (ws : List Jvm.Cond) (a1 : Addr) (sb : Addr) (u0 : Value) (u1 : Value) (u2 : Value) (h0 : Heap) (n0 : Nat) (Z0 : n0 ≤ h0.size) (O0 : Old Z n0 h0) (S_BUY : Sta Z Z.heap "corro/core/Side" "BUY" "Lcorro/core/Side;" (.ref sb)) (E_a1 : Exa Z h0 a1 "corro/core/LimitLevels") (F_keys_a1 : Fld Z h0 a1 "corro/core/LimitLevels" "keys" "[J" u0) (F_levels_a1 : Fld Z h0 a1 "corro/core/LimitLevels" "levels" "[Lcorro/core/Level;" u1) (F_highestFirst_a1 : Fld Z h0 a1 "corro/core/LimitLevels" "highestFirst" "Z" u2) (F_size_a1 : Fld Z h0 a1 "corro/core/LimitLevels" "size" "I" (.int (0 : Int32))) (g_a1 : n0 ≤ a1) :
    MetFree l (⟨"corro/core/LimitLevels", "<init>", "(Lcorro/core/Side;)V"⟩ : MethodName) (head1 (Jvm.Cond.code (⟨"corro/core/LimitLevels", "<init>", "(Lcorro/core/Side;)V"⟩ : MethodName) prog_14_method_1_code 2 none :: ws) ({ frames := 1, cells := 2, slots := 128, locals := 12 } : Room)) (fun a U => a = #[(.ref a1), (.ref sb)] ∧ Z.Warmed39 U.vm ∧ U.heap = h0) (fun _ _ _ _ _ => True) (fun _ U o U' => ∃ v L, o = .returned v ∧ Q_rmCB Z a1 sb u0 u1 u2 h0 n0 v U'.heap L ∧ FrameEnd U o U' L ({ frames := 1, cells := 2, slots := 128, locals := 12 } : Room).cells ({ frames := 1, cells := 2, slots := 128, locals := 12 } : Room).slots) := by
  refine MetFree.of_bodySF (plainFor_of_name pn_1) hisR ?_
  intro p e s m args below meth c s₁ Bd hml0 hP hK
  obtain ⟨rfl, hZ, hh⟩ := hP
  have hx := Bd.exec
  have hby := Bd.bytes
  have hml : c.maxLocals = 2 := hml0
  have hown : s.vm.findClass "corro/core/LimitLevels" = some m.cls := findClass_of_methodNamed Bd.named
  have hnm := (name_of_methodNamed Bd.named Bd.method).1
  have X0 : Stand p l e ({ frames := 1, cells := 2, slots := 128, locals := 12 } : Room) s m #[(.ref a1), (.ref sb)] below meth c s₁ [] 0 0 := Stand.of_body Bd
  have e0 : s₁.heap = h0 := by rw [← hh, Bd.state]; rfl
  have N0 := Fr.nil n0
  have K0 : Keep h0 h0 [a1] := Keep.refl _ _
  suffices G0 : own_G p e below (own_E s below (Q_rmCB Z a1 sb u0 u1 u2 h0 n0) ({ frames := 1, cells := 2, slots := 128, locals := 12 } : Room).cells ({ frames := 1, cells := 2, slots := 128, locals := 12 } : Room).slots) s₁ (mkF m 0 #[.val (.ref a1), .val (.ref sb)] []) by
    obtain ⟨zt, zst, zo, zq1, zq2, zq3⟩ := G0
    exact ⟨zt, zo, castTop (ef_rmCB m a1 sb) zst, zq1, zq2, zq3⟩
  obtain ⟨Φ, hΦ⟩ : ∃ Φ, Φ = own_E s below (Q_rmCB Z a1 sb u0 u1 u2 h0 n0) ({ frames := 1, cells := 2, slots := 128, locals := 12 } : Room).cells ({ frames := 1, cells := 2, slots := 128, locals := 12 } : Room).slots := ⟨_, rfl⟩
  rw [← hΦ]
  show own_G p e below Φ s₁ (mkF m 0 #[.val (.ref a1), .val (.ref sb)] [])
  refine own_go (fun _ => XS.aloadN X0.here hx rfl (hb hby d2_0) rfl rfl) ?_
  show own_G p e below Φ s₁ (mkF m 1 #[.val (.ref a1), .val (.ref sb)] [(.ref a1)])
  obtain ⟨T1, X1, e1, st1⟩ := initO X0 hx hZ hown (wd_14 hw) (wd_15 hw) (wd_16 hw) e0 (g := (mkF m 1 #[.val (.ref a1), .val (.ref sb)] [(.ref a1)])) rfl (by rw [hml]; rfl) rfl (hb hby d2_1) (by decide) (W := 0) (by show 2 * 0 + _ ≤ _; exact Nat.le_of_eq rfl) (by decide)
  refine own_go st1 ?_
  refine own_go (fun _ => XS.aloadN X1.here hx rfl (hb hby d2_4) rfl rfl) ?_
  refine own_go (fun _ => XS.bipush X1.here hx rfl (hb hby d2_5)) ?_
  show own_G p e below Φ T1 (mkF m 7 #[.val (.ref a1), .val (.ref sb)] [(.int (64 : Int32)), (.ref a1)])
  obtain ⟨T2, h2, ka2, X2, e2, E2, A2, st2⟩ := newP (aty := .long) X1 hx hZ (wd_17 hw) e1 (g := (mkF m 7 #[.val (.ref a1), .val (.ref sb)] [(.int (64 : Int32)), (.ref a1)])) rfl (hb hby d2_7) rfl (by decide) (cap := 64) (by decide) (by decide) (by decide) (by decide)
  obtain ⟨ob2, g2⟩ : ∃ z, z = h0.size := ⟨_, rfl⟩
  rw [← g2] at A2 st2
  have ne_a1_ob2 : a1 ≠ ob2 := Nat.ne_of_lt (Nat.lt_of_lt_of_le E_a1.lt (Nat.le_of_eq g2.symm))
  have V2 : Arv Z h2 ob2 ka2 .long (64 : Int32) [] (.long (0 : Int64)) := Arv.new A2 (by decide)
  have g_ob2 : n0 ≤ ob2 := Nat.le_trans Z0 (Nat.le_of_eq g2.symm)
  have sz_ob2 : h0.size ≤ ob2 := Nat.le_trans K0.1 (Nat.le_of_eq g2.symm)
  have K2 := K0.ext E2
  have Zp2 : n0 ≤ h2.size := Nat.le_trans Z0 E2.1
  refine own_go st2 ?_
  have O3 := O0.ext E2
  show own_G p e below Φ T2 (mkF m 9 #[.val (.ref a1), .val (.ref sb)] [(.ref ob2), (.ref a1)])
  have f4 : Exa Z h2 a1 "corro/core/LimitLevels" := E_a1.ext E2
  have f5 : Fld Z h2 a1 "corro/core/LimitLevels" "keys" "[J" u0 := F_keys_a1.ext E2
  obtain ⟨T6, h6, X6, e6, W6, st6⟩ := putF X2 hx hZ hown (host := "") (Or.inl (wd_18 hw)) Via.refl e2 f5 f4 (Or.inl (wd_19 hw)) (wd_6 hw) (ty := (.array .long)) (by decide) rfl rfl (g := (mkF m 9 #[.val (.ref a1), .val (.ref sb)] [(.ref ob2), (.ref a1)])) rfl rfl (hb hby d2_9)
  refine own_go st6 ?_
  have O7 := O3.wr W6 g_a1
  have N6 := Fr.snoc X6 N0 g_a1
  have K6 := K2.wr W6 (Or.inl (List.mem_of_getElem? (i := 0) rfl))
  have Zp6 : n0 ≤ h6.size := Nat.le_trans Zp2 (Keep.of_wr W6).1
  have f6w := f5.same W6
  refine own_go (fun _ => XS.aloadN X6.here hx rfl (hb hby d2_12) rfl rfl) ?_
  refine own_go (fun _ => XS.bipush X6.here hx rfl (hb hby d2_13)) ?_
  show own_G p e below Φ T6 (mkF m 15 #[.val (.ref a1), .val (.ref sb)] [(.int (64 : Int32)), (.ref a1)])
  obtain ⟨T8, h8, ka8, X8, e8, E8, A8, O8, st8⟩ := newR X6 hx hZ hown (wd_20 hw) (wd_21 hw) e6 (g := (mkF m 15 #[.val (.ref a1), .val (.ref sb)] [(.int (64 : Int32)), (.ref a1)])) rfl (hb hby d2_15) rfl (by decide) (cap := 64) (by decide) (by decide) (by decide) (by decide)
  obtain ⟨ob8, g8⟩ : ∃ z, z = h6.size := ⟨_, rfl⟩
  rw [← g8] at A8 st8
  have ne_a1_ob8 : a1 ≠ ob8 := Nat.ne_of_lt (Nat.lt_of_lt_of_le f6w.lt (Nat.le_of_eq g8.symm))
  have f9 : Arv Z h6 ob2 ka2 .long (64 : Int32) [] (.long (0 : Int64)) := V2.other W6 (Ne.symm ne_a1_ob2)
  have ne_ob2_ob8 : ob2 ≠ ob8 := Nat.ne_of_lt (Nat.lt_of_lt_of_le f9.lt (Nat.le_of_eq g8.symm))
  have V8 : Arv Z h8 ob8 ka8 (.object "corro/core/Level") (64 : Int32) [] .null := Arv.new A8 (by decide)
  have g_ob8 : n0 ≤ ob8 := Nat.le_trans Zp6 (Nat.le_of_eq g8.symm)
  have sz_ob8 : h0.size ≤ ob8 := Nat.le_trans K6.1 (Nat.le_of_eq g8.symm)
  have K8 := K6.ext E8
  have Zp8 : n0 ≤ h8.size := Nat.le_trans Zp6 E8.1
  refine own_go st8 ?_
  have O10 := O7.ext E8
  show own_G p e below Φ T8 (mkF m 18 #[.val (.ref a1), .val (.ref sb)] [(.ref ob8), (.ref a1)])
  have f11 : Exa Z h6 a1 "corro/core/LimitLevels" := f4.wr W6
  have f12 : Exa Z h8 a1 "corro/core/LimitLevels" := f11.ext E8
  have f13 : Fld Z h2 a1 "corro/core/LimitLevels" "levels" "[Lcorro/core/Level;" u1 := F_levels_a1.ext E2
  have f14 : Fld Z h6 a1 "corro/core/LimitLevels" "levels" "[Lcorro/core/Level;" u1 := f13.other W6 (Or.inr (sl_0 hw))
  have f15 : Fld Z h8 a1 "corro/core/LimitLevels" "levels" "[Lcorro/core/Level;" u1 := f14.ext E8
  obtain ⟨T16, h16, X16, e16, W16, st16⟩ := putF X8 hx hZ hown (host := "") (Or.inl (wd_22 hw)) Via.refl e8 f15 f12 (Or.inl (wd_23 hw)) (wd_6 hw) (ty := (.array (.object "corro/core/Level"))) (by decide) rfl rfl (g := (mkF m 18 #[.val (.ref a1), .val (.ref sb)] [(.ref ob8), (.ref a1)])) rfl rfl (hb hby d2_18)
  refine own_go st16 ?_
  have O17 := O10.wr W16 g_a1
  have N16 := Fr.snoc X16 N6 g_a1
  have K16 := K8.wr W16 (Or.inl (List.mem_of_getElem? (i := 0) rfl))
  have Zp16 : n0 ≤ h16.size := Nat.le_trans Zp8 (Keep.of_wr W16).1
  have f16w := f15.same W16
  refine own_go (fun _ => XS.aloadN X16.here hx rfl (hb hby d2_21) rfl rfl) ?_
  refine own_go (fun _ => XS.aloadN X16.here hx rfl (hb hby d2_22) rfl rfl) ?_
  show own_G p e below Φ T16 (mkF m 23 #[.val (.ref a1), .val (.ref sb)] [(.ref sb), (.ref a1)])
  obtain ⟨T18, X18, e18, st18⟩ := getS2 X16 hx hZ hown (host := "") (Or.inl (wd_24 hw)) Via.refl e16 (S_BUY.ext O17.2) (g := (mkF m 23 #[.val (.ref a1), .val (.ref sb)] [(.ref sb), (.ref a1)])) rfl (hb hby d2_23)
  refine own_go st18 ?_
  show own_G p e below Φ T18 (mkF m 26 #[.val (.ref a1), .val (.ref sb)] [(.ref sb), (.ref sb), (.ref a1)])
  refine own_go (fun _ => Jvm.RoadKit.acmp (g := (mkF m 26 #[.val (.ref a1), .val (.ref sb)] [(.ref sb), (.ref sb), (.ref a1)])) X18 hx rfl rfl rfl (pc0 := 26) (pc' := 29) (same := true) rfl (hb hby d2_26) rfl (decide_eq_true rfl) (by decide) (by decide)) ?_
  refine own_go (fun _ => XS.iconst X18.here hx rfl (hb hby d2_29)) ?_
  refine own_go (fun _ => XS.goto X18.here hx rfl (pc0 := 30) (pc' := 34) rfl (hb hby d2_30) (by decide) (by decide)) ?_
  show own_G p e below Φ T18 (mkF m 34 #[.val (.ref a1), .val (.ref sb)] [(.int (1 : Int32)), (.ref a1)])
  have f19 : Exa Z h16 a1 "corro/core/LimitLevels" := f12.wr W16
  have f20 : Fld Z h2 a1 "corro/core/LimitLevels" "highestFirst" "Z" u2 := F_highestFirst_a1.ext E2
  have f21 : Fld Z h6 a1 "corro/core/LimitLevels" "highestFirst" "Z" u2 := f20.other W6 (Or.inr (sl_1 hw))
  have f22 : Fld Z h8 a1 "corro/core/LimitLevels" "highestFirst" "Z" u2 := f21.ext E8
  have f23 : Fld Z h16 a1 "corro/core/LimitLevels" "highestFirst" "Z" u2 := f22.other W16 (Or.inr (sl_2 hw))
  obtain ⟨T24, h24, X24, e24, W24, st24⟩ := putFN X18 hx hZ hown (wd_26 hw) Via.refl e18 f23 f19 (Or.inr ⟨(wd_27 hw), rfl, hnm⟩) (wd_6 hw) (ty := .boolean) (v' := (.int (1 : Int32))) (by decide) rfl (fits_nar_bool (1 : Int32)) (g := (mkF m 34 #[.val (.ref a1), .val (.ref sb)] [(.int (1 : Int32)), (.ref a1)])) rfl rfl (hb hby d2_34)
  refine own_go st24 ?_
  have O25 := O17.wr W24 g_a1
  have N24 := Fr.snoc X24 N16 g_a1
  have K24 := K16.wr W24 (Or.inl (List.mem_of_getElem? (i := 0) rfl))
  have Zp24 : n0 ≤ h24.size := Nat.le_trans Zp16 (Keep.of_wr W24).1
  have f24w := f23.same W24
  show own_G p e below Φ T24 (mkF m 37 #[.val (.ref a1), .val (.ref sb)] [])
  have f26 : Exa Z h24 a1 "corro/core/LimitLevels" := f19.wr W24
  have f27 : Fld Z h8 a1 "corro/core/LimitLevels" "keys" "[J" (.ref ob2) := f6w.ext E8
  have f28 : Fld Z h16 a1 "corro/core/LimitLevels" "keys" "[J" (.ref ob2) := f27.other W16 (Or.inr (sl_3 hw))
  have f29 : Fld Z h24 a1 "corro/core/LimitLevels" "keys" "[J" (.ref ob2) := f28.other W24 (Or.inr (sl_4 hw))
  have f30 : Fld Z h24 a1 "corro/core/LimitLevels" "levels" "[Lcorro/core/Level;" (.ref ob8) := f16w.other W24 (Or.inr (sl_5 hw))
  have f31 : Fld Z h2 a1 "corro/core/LimitLevels" "size" "I" (.int (0 : Int32)) := F_size_a1.ext E2
  have f32 : Fld Z h6 a1 "corro/core/LimitLevels" "size" "I" (.int (0 : Int32)) := f31.other W6 (Or.inr (sl_6 hw))
  have f33 : Fld Z h8 a1 "corro/core/LimitLevels" "size" "I" (.int (0 : Int32)) := f32.ext E8
  have f34 : Fld Z h16 a1 "corro/core/LimitLevels" "size" "I" (.int (0 : Int32)) := f33.other W16 (Or.inr (sl_7 hw))
  have f35 : Fld Z h24 a1 "corro/core/LimitLevels" "size" "I" (.int (0 : Int32)) := f34.other W24 (Or.inr (sl_8 hw))
  have f36 : Arv Z h8 ob2 ka2 .long (64 : Int32) [] (.long (0 : Int64)) := f9.ext E8
  have f37 : Arv Z h16 ob2 ka2 .long (64 : Int32) [] (.long (0 : Int64)) := f36.other W16 (Ne.symm ne_a1_ob2)
  have f38 : Arv Z h24 ob2 ka2 .long (64 : Int32) [] (.long (0 : Int64)) := f37.other W24 (Ne.symm ne_a1_ob2)
  have f39 : Arv Z h16 ob8 ka8 (.object "corro/core/Level") (64 : Int32) [] .null := V8.other W16 (Ne.symm ne_a1_ob8)
  have f40 : Arv Z h24 ob8 ka8 (.object "corro/core/Level") (64 : Int32) [] .null := f39.other W24 (Ne.symm ne_a1_ob8)
  rw [hΦ]
  refine own_ret X24 (v := none) (fun _ => rfl) (BodyLoose.notSynchronized Bd) (fun fs hr => X24.returnOut hx Bd.returns (hb hby d2_37) hr) ?_ (by decide) (by decide)
  rw [e24]
  exact ⟨ob2, sz_ob2, ob8, sz_ob8, ka2, ka8, rfl, N24, K24, f26, f29, f30, f24w, f35, f38, f40, ne_ob2_ob8, O8⟩
theorem d2_33 : decode prog_14_method_1_code 33 = .ok (.iconst 0, 1) := by decide +kernel
theorem ef_rmCS (m : MethodId) (a1 : Addr) (ss : Addr) : entryFrame m #[(.ref a1), (.ref ss)] 2 = mkF m 0 #[.val (.ref a1), .val (.ref ss)] [] := by first | (simp [entryFrame, mkF, argsToLocals, Value.category]; done) | rfl
def Q_rmCS (Z : State) (a1 : Addr) (sb : Addr) (ss : Addr) (u0 : Value) (u1 : Value) (u2 : Value) (h0 : Heap) (n0 : Nat) (v : Option Value) (h : Heap) (L : List Loc) : Prop := ∃ xk : Addr, h0.size ≤ xk ∧ ∃ xl : Addr, h0.size ≤ xl ∧ ∃ kk : ClassId, ∃ kl : ClassId, v = none ∧ Fr n0 L ∧ Keep h0 h [a1] ∧ Exa Z h a1 "corro/core/LimitLevels" ∧ Fld Z h a1 "corro/core/LimitLevels" "keys" "[J" (.ref xk) ∧ Fld Z h a1 "corro/core/LimitLevels" "levels" "[Lcorro/core/Level;" (.ref xl) ∧ Fld Z h a1 "corro/core/LimitLevels" "highestFirst" "Z" (.int (0 : Int32)) ∧ Fld Z h a1 "corro/core/LimitLevels" "size" "I" (.int (0 : Int32)) ∧ Arv Z h xk kk .long (64 : Int32) [] (.long (0 : Int64)) ∧ Arv Z h xl kl (.object "corro/core/Level") (64 : Int32) [] .null ∧ xk ≠ xl ∧ Ovr Z kl "corro/core/Level"
set_option maxRecDepth 65536 in
set_option maxHeartbeats 40000000 in
theorem rmCS (l : Launch) (Z : State) (a0 : Array Value) (hw : ∀ d ∈ tables_1, d.before a0 Z = true) (ws : List Jvm.Cond) (a1 : Addr) (sb : Addr) (ss : Addr) (u0 : Value) (u1 : Value) (u2 : Value) (h0 : Heap) (n0 : Nat) (Z0 : n0 ≤ h0.size) (O0 : Old Z n0 h0) (S_BUY : Sta Z Z.heap "corro/core/Side" "BUY" "Lcorro/core/Side;" (.ref sb)) (E_a1 : Exa Z h0 a1 "corro/core/LimitLevels") (F_keys_a1 : Fld Z h0 a1 "corro/core/LimitLevels" "keys" "[J" u0) (F_levels_a1 : Fld Z h0 a1 "corro/core/LimitLevels" "levels" "[Lcorro/core/Level;" u1) (F_highestFirst_a1 : Fld Z h0 a1 "corro/core/LimitLevels" "highestFirst" "Z" u2) (F_size_a1 : Fld Z h0 a1 "corro/core/LimitLevels" "size" "I" (.int (0 : Int32))) (g_a1 : n0 ≤ a1) (ne_ss_sb : ss ≠ sb) :
    MetFree l (⟨"corro/core/LimitLevels", "<init>", "(Lcorro/core/Side;)V"⟩ : MethodName) (head1 (Jvm.Cond.code (⟨"corro/core/LimitLevels", "<init>", "(Lcorro/core/Side;)V"⟩ : MethodName) prog_14_method_1_code 2 none :: ws) ({ frames := 1, cells := 2, slots := 128, locals := 12 } : Room)) (fun a U => a = #[(.ref a1), (.ref ss)] ∧ Z.Warmed39 U.vm ∧ U.heap = h0) (fun _ _ _ _ _ => True) (fun _ U o U' => ∃ v L, o = .returned v ∧ Q_rmCS Z a1 sb ss u0 u1 u2 h0 n0 v U'.heap L ∧ FrameEnd U o U' L ({ frames := 1, cells := 2, slots := 128, locals := 12 } : Room).cells ({ frames := 1, cells := 2, slots := 128, locals := 12 } : Room).slots) := by
  refine MetFree.of_bodySF (plainFor_of_name pn_1) hisR ?_
  intro p e s m args below meth c s₁ Bd hml0 hP hK
  obtain ⟨rfl, hZ, hh⟩ := hP
  have hx := Bd.exec
  have hby := Bd.bytes
  have hml : c.maxLocals = 2 := hml0
  have hown : s.vm.findClass "corro/core/LimitLevels" = some m.cls := findClass_of_methodNamed Bd.named
  have hnm := (name_of_methodNamed Bd.named Bd.method).1
  have X0 : Stand p l e ({ frames := 1, cells := 2, slots := 128, locals := 12 } : Room) s m #[(.ref a1), (.ref ss)] below meth c s₁ [] 0 0 := Stand.of_body Bd
  have e0 : s₁.heap = h0 := by rw [← hh, Bd.state]; rfl
  have N0 := Fr.nil n0
  have K0 : Keep h0 h0 [a1] := Keep.refl _ _
  suffices G0 : own_G p e below (own_E s below (Q_rmCS Z a1 sb ss u0 u1 u2 h0 n0) ({ frames := 1, cells := 2, slots := 128, locals := 12 } : Room).cells ({ frames := 1, cells := 2, slots := 128, locals := 12 } : Room).slots) s₁ (mkF m 0 #[.val (.ref a1), .val (.ref ss)] []) by
    obtain ⟨zt, zst, zo, zq1, zq2, zq3⟩ := G0
    exact ⟨zt, zo, castTop (ef_rmCS m a1 ss) zst, zq1, zq2, zq3⟩
  obtain ⟨Φ, hΦ⟩ : ∃ Φ, Φ = own_E s below (Q_rmCS Z a1 sb ss u0 u1 u2 h0 n0) ({ frames := 1, cells := 2, slots := 128, locals := 12 } : Room).cells ({ frames := 1, cells := 2, slots := 128, locals := 12 } : Room).slots := ⟨_, rfl⟩
  rw [← hΦ]
  show own_G p e below Φ s₁ (mkF m 0 #[.val (.ref a1), .val (.ref ss)] [])
  refine own_go (fun _ => XS.aloadN X0.here hx rfl (hb hby d2_0) rfl rfl) ?_
  show own_G p e below Φ s₁ (mkF m 1 #[.val (.ref a1), .val (.ref ss)] [(.ref a1)])
  obtain ⟨T1, X1, e1, st1⟩ := initO X0 hx hZ hown (wd_14 hw) (wd_15 hw) (wd_16 hw) e0 (g := (mkF m 1 #[.val (.ref a1), .val (.ref ss)] [(.ref a1)])) rfl (by rw [hml]; rfl) rfl (hb hby d2_1) (by decide) (W := 0) (by show 2 * 0 + _ ≤ _; exact Nat.le_of_eq rfl) (by decide)
  refine own_go st1 ?_
  refine own_go (fun _ => XS.aloadN X1.here hx rfl (hb hby d2_4) rfl rfl) ?_
  refine own_go (fun _ => XS.bipush X1.here hx rfl (hb hby d2_5)) ?_
  show own_G p e below Φ T1 (mkF m 7 #[.val (.ref a1), .val (.ref ss)] [(.int (64 : Int32)), (.ref a1)])
  obtain ⟨T2, h2, ka2, X2, e2, E2, A2, st2⟩ := newP (aty := .long) X1 hx hZ (wd_17 hw) e1 (g := (mkF m 7 #[.val (.ref a1), .val (.ref ss)] [(.int (64 : Int32)), (.ref a1)])) rfl (hb hby d2_7) rfl (by decide) (cap := 64) (by decide) (by decide) (by decide) (by decide)
  obtain ⟨ob2, g2⟩ : ∃ z, z = h0.size := ⟨_, rfl⟩
  rw [← g2] at A2 st2
  have ne_a1_ob2 : a1 ≠ ob2 := Nat.ne_of_lt (Nat.lt_of_lt_of_le E_a1.lt (Nat.le_of_eq g2.symm))
  have V2 : Arv Z h2 ob2 ka2 .long (64 : Int32) [] (.long (0 : Int64)) := Arv.new A2 (by decide)
  have g_ob2 : n0 ≤ ob2 := Nat.le_trans Z0 (Nat.le_of_eq g2.symm)
  have sz_ob2 : h0.size ≤ ob2 := Nat.le_trans K0.1 (Nat.le_of_eq g2.symm)
  have K2 := K0.ext E2
  have Zp2 : n0 ≤ h2.size := Nat.le_trans Z0 E2.1
  refine own_go st2 ?_
  have O3 := O0.ext E2
  show own_G p e below Φ T2 (mkF m 9 #[.val (.ref a1), .val (.ref ss)] [(.ref ob2), (.ref a1)])
  have f4 : Exa Z h2 a1 "corro/core/LimitLevels" := E_a1.ext E2
  have f5 : Fld Z h2 a1 "corro/core/LimitLevels" "keys" "[J" u0 := F_keys_a1.ext E2
  obtain ⟨T6, h6, X6, e6, W6, st6⟩ := putF X2 hx hZ hown (host := "") (Or.inl (wd_18 hw)) Via.refl e2 f5 f4 (Or.inl (wd_19 hw)) (wd_6 hw) (ty := (.array .long)) (by decide) rfl rfl (g := (mkF m 9 #[.val (.ref a1), .val (.ref ss)] [(.ref ob2), (.ref a1)])) rfl rfl (hb hby d2_9)
  refine own_go st6 ?_
  have O7 := O3.wr W6 g_a1
  have N6 := Fr.snoc X6 N0 g_a1
  have K6 := K2.wr W6 (Or.inl (List.mem_of_getElem? (i := 0) rfl))
  have Zp6 : n0 ≤ h6.size := Nat.le_trans Zp2 (Keep.of_wr W6).1
  have f6w := f5.same W6
  refine own_go (fun _ => XS.aloadN X6.here hx rfl (hb hby d2_12) rfl rfl) ?_
  refine own_go (fun _ => XS.bipush X6.here hx rfl (hb hby d2_13)) ?_
  show own_G p e below Φ T6 (mkF m 15 #[.val (.ref a1), .val (.ref ss)] [(.int (64 : Int32)), (.ref a1)])
  obtain ⟨T8, h8, ka8, X8, e8, E8, A8, O8, st8⟩ := newR X6 hx hZ hown (wd_20 hw) (wd_21 hw) e6 (g := (mkF m 15 #[.val (.ref a1), .val (.ref ss)] [(.int (64 : Int32)), (.ref a1)])) rfl (hb hby d2_15) rfl (by decide) (cap := 64) (by decide) (by decide) (by decide) (by decide)
  obtain ⟨ob8, g8⟩ : ∃ z, z = h6.size := ⟨_, rfl⟩
  rw [← g8] at A8 st8
  have ne_a1_ob8 : a1 ≠ ob8 := Nat.ne_of_lt (Nat.lt_of_lt_of_le f6w.lt (Nat.le_of_eq g8.symm))
  have f9 : Arv Z h6 ob2 ka2 .long (64 : Int32) [] (.long (0 : Int64)) := V2.other W6 (Ne.symm ne_a1_ob2)
  have ne_ob2_ob8 : ob2 ≠ ob8 := Nat.ne_of_lt (Nat.lt_of_lt_of_le f9.lt (Nat.le_of_eq g8.symm))
  have V8 : Arv Z h8 ob8 ka8 (.object "corro/core/Level") (64 : Int32) [] .null := Arv.new A8 (by decide)
  have g_ob8 : n0 ≤ ob8 := Nat.le_trans Zp6 (Nat.le_of_eq g8.symm)
  have sz_ob8 : h0.size ≤ ob8 := Nat.le_trans K6.1 (Nat.le_of_eq g8.symm)
  have K8 := K6.ext E8
  have Zp8 : n0 ≤ h8.size := Nat.le_trans Zp6 E8.1
  refine own_go st8 ?_
  have O10 := O7.ext E8
  show own_G p e below Φ T8 (mkF m 18 #[.val (.ref a1), .val (.ref ss)] [(.ref ob8), (.ref a1)])
  have f11 : Exa Z h6 a1 "corro/core/LimitLevels" := f4.wr W6
  have f12 : Exa Z h8 a1 "corro/core/LimitLevels" := f11.ext E8
  have f13 : Fld Z h2 a1 "corro/core/LimitLevels" "levels" "[Lcorro/core/Level;" u1 := F_levels_a1.ext E2
  have f14 : Fld Z h6 a1 "corro/core/LimitLevels" "levels" "[Lcorro/core/Level;" u1 := f13.other W6 (Or.inr (sl_0 hw))
  have f15 : Fld Z h8 a1 "corro/core/LimitLevels" "levels" "[Lcorro/core/Level;" u1 := f14.ext E8
  obtain ⟨T16, h16, X16, e16, W16, st16⟩ := putF X8 hx hZ hown (host := "") (Or.inl (wd_22 hw)) Via.refl e8 f15 f12 (Or.inl (wd_23 hw)) (wd_6 hw) (ty := (.array (.object "corro/core/Level"))) (by decide) rfl rfl (g := (mkF m 18 #[.val (.ref a1), .val (.ref ss)] [(.ref ob8), (.ref a1)])) rfl rfl (hb hby d2_18)
  refine own_go st16 ?_
  have O17 := O10.wr W16 g_a1
  have N16 := Fr.snoc X16 N6 g_a1
  have K16 := K8.wr W16 (Or.inl (List.mem_of_getElem? (i := 0) rfl))
  have Zp16 : n0 ≤ h16.size := Nat.le_trans Zp8 (Keep.of_wr W16).1
  have f16w := f15.same W16
  refine own_go (fun _ => XS.aloadN X16.here hx rfl (hb hby d2_21) rfl rfl) ?_
  refine own_go (fun _ => XS.aloadN X16.here hx rfl (hb hby d2_22) rfl rfl) ?_
  show own_G p e below Φ T16 (mkF m 23 #[.val (.ref a1), .val (.ref ss)] [(.ref ss), (.ref a1)])
  obtain ⟨T18, X18, e18, st18⟩ := getS2 X16 hx hZ hown (host := "") (Or.inl (wd_24 hw)) Via.refl e16 (S_BUY.ext O17.2) (g := (mkF m 23 #[.val (.ref a1), .val (.ref ss)] [(.ref ss), (.ref a1)])) rfl (hb hby d2_23)
  refine own_go st18 ?_
  show own_G p e below Φ T18 (mkF m 26 #[.val (.ref a1), .val (.ref ss)] [(.ref sb), (.ref ss), (.ref a1)])
  refine own_go (fun _ => Jvm.RoadKit.acmp (g := (mkF m 26 #[.val (.ref a1), .val (.ref ss)] [(.ref sb), (.ref ss), (.ref a1)])) X18 hx rfl rfl rfl (pc0 := 26) (pc' := 33) (same := false) rfl (hb hby d2_26) rfl (decide_eq_false fun q => ne_ss_sb (Value.ref.inj q)) (by decide) (by decide)) ?_
  refine own_go (fun _ => XS.iconst X18.here hx rfl (hb hby d2_33)) ?_
  show own_G p e below Φ T18 (mkF m 34 #[.val (.ref a1), .val (.ref ss)] [(.int (0 : Int32)), (.ref a1)])
  have f19 : Exa Z h16 a1 "corro/core/LimitLevels" := f12.wr W16
  have f20 : Fld Z h2 a1 "corro/core/LimitLevels" "highestFirst" "Z" u2 := F_highestFirst_a1.ext E2
  have f21 : Fld Z h6 a1 "corro/core/LimitLevels" "highestFirst" "Z" u2 := f20.other W6 (Or.inr (sl_1 hw))
  have f22 : Fld Z h8 a1 "corro/core/LimitLevels" "highestFirst" "Z" u2 := f21.ext E8
  have f23 : Fld Z h16 a1 "corro/core/LimitLevels" "highestFirst" "Z" u2 := f22.other W16 (Or.inr (sl_2 hw))
  obtain ⟨T24, h24, X24, e24, W24, st24⟩ := putFN X18 hx hZ hown (wd_26 hw) Via.refl e18 f23 f19 (Or.inr ⟨(wd_27 hw), rfl, hnm⟩) (wd_6 hw) (ty := .boolean) (v' := (.int (0 : Int32))) (by decide) rfl (fits_nar_bool (0 : Int32)) (g := (mkF m 34 #[.val (.ref a1), .val (.ref ss)] [(.int (0 : Int32)), (.ref a1)])) rfl rfl (hb hby d2_34)
  refine own_go st24 ?_
  have O25 := O17.wr W24 g_a1
  have N24 := Fr.snoc X24 N16 g_a1
  have K24 := K16.wr W24 (Or.inl (List.mem_of_getElem? (i := 0) rfl))
  have Zp24 : n0 ≤ h24.size := Nat.le_trans Zp16 (Keep.of_wr W24).1
  have f24w := f23.same W24
  show own_G p e below Φ T24 (mkF m 37 #[.val (.ref a1), .val (.ref ss)] [])
  have f26 : Exa Z h24 a1 "corro/core/LimitLevels" := f19.wr W24
  have f27 : Fld Z h8 a1 "corro/core/LimitLevels" "keys" "[J" (.ref ob2) := f6w.ext E8
  have f28 : Fld Z h16 a1 "corro/core/LimitLevels" "keys" "[J" (.ref ob2) := f27.other W16 (Or.inr (sl_3 hw))
  have f29 : Fld Z h24 a1 "corro/core/LimitLevels" "keys" "[J" (.ref ob2) := f28.other W24 (Or.inr (sl_4 hw))
  have f30 : Fld Z h24 a1 "corro/core/LimitLevels" "levels" "[Lcorro/core/Level;" (.ref ob8) := f16w.other W24 (Or.inr (sl_5 hw))
  have f31 : Fld Z h2 a1 "corro/core/LimitLevels" "size" "I" (.int (0 : Int32)) := F_size_a1.ext E2
  have f32 : Fld Z h6 a1 "corro/core/LimitLevels" "size" "I" (.int (0 : Int32)) := f31.other W6 (Or.inr (sl_6 hw))
  have f33 : Fld Z h8 a1 "corro/core/LimitLevels" "size" "I" (.int (0 : Int32)) := f32.ext E8
  have f34 : Fld Z h16 a1 "corro/core/LimitLevels" "size" "I" (.int (0 : Int32)) := f33.other W16 (Or.inr (sl_7 hw))
  have f35 : Fld Z h24 a1 "corro/core/LimitLevels" "size" "I" (.int (0 : Int32)) := f34.other W24 (Or.inr (sl_8 hw))
  have f36 : Arv Z h8 ob2 ka2 .long (64 : Int32) [] (.long (0 : Int64)) := f9.ext E8
  have f37 : Arv Z h16 ob2 ka2 .long (64 : Int32) [] (.long (0 : Int64)) := f36.other W16 (Ne.symm ne_a1_ob2)
  have f38 : Arv Z h24 ob2 ka2 .long (64 : Int32) [] (.long (0 : Int64)) := f37.other W24 (Ne.symm ne_a1_ob2)
  have f39 : Arv Z h16 ob8 ka8 (.object "corro/core/Level") (64 : Int32) [] .null := V8.other W16 (Ne.symm ne_a1_ob8)
  have f40 : Arv Z h24 ob8 ka8 (.object "corro/core/Level") (64 : Int32) [] .null := f39.other W24 (Ne.symm ne_a1_ob8)
  rw [hΦ]
  refine own_ret X24 (v := none) (fun _ => rfl) (BodyLoose.notSynchronized Bd) (fun fs hr => X24.returnOut hx Bd.returns (hb hby d2_37) hr) ?_ (by decide) (by decide)
  rw [e24]
  exact ⟨ob2, sz_ob2, ob8, sz_ob8, ka2, ka8, rfl, N24, K24, f26, f29, f30, f24w, f35, f38, f40, ne_ob2_ob8, O8⟩
theorem d8_0 : decode jdk_65_method_30_code 0 = .ok (.iload_n 1, 1) := by decide +kernel
theorem d8_1 : decode jdk_65_method_30_code 1 = .ok (.iload_n 2, 1) := by decide +kernel
theorem d8_2 : decode jdk_65_method_30_code 2 = .ok (.if_icmp .le 44, 3) := by decide +kernel
theorem d8_46 : decode jdk_65_method_30_code 46 = .ok (.iload_n 1, 1) := by decide +kernel
theorem d8_47 : decode jdk_65_method_30_code 47 = .ok (.ifCond .ge 12, 3) := by decide +kernel
theorem d8_59 : decode jdk_65_method_30_code 59 = .ok (.iload_n 2, 1) := by decide +kernel
theorem d8_60 : decode jdk_65_method_30_code 60 = .ok (.iload_n 0, 1) := by decide +kernel
theorem d8_61 : decode jdk_65_method_30_code 61 = .ok (.if_icmp .le 12, 3) := by decide +kernel
theorem d8_73 : decode jdk_65_method_30_code 73 = .ok (.return_, 1) := by decide +kernel
theorem pn_3 : plainName "java/util/Arrays" = true := by first | (simp [plainName, overriddenIn]; done) | decide +kernel
theorem ef_rmR0 (m : MethodId)  : entryFrame m #[(.int (64 : Int32)), (.int (0 : Int32)), (.int (0 : Int32))] 3 = mkF m 0 #[.val (.int (64 : Int32)), .val (.int (0 : Int32)), .val (.int (0 : Int32))] [] := by first | (simp [entryFrame, mkF, argsToLocals, Value.category]; done) | rfl
def Q_rmR0 (Z : State)  (h0 : Heap) (n0 : Nat) (v : Option Value) (h : Heap) (L : List Loc) : Prop := v = none ∧ Fr n0 L ∧ h = h0
set_option maxRecDepth 65536 in
set_option maxHeartbeats 40000000 in
theorem rmR0 (l : Launch) (Z : State) (a0 : Array Value) (hw : ∀ d ∈ tables_1, d.before a0 Z = true) (ws : List Jvm.Cond)  (h0 : Heap) (n0 : Nat) (Z0 : n0 ≤ h0.size)  :
    MetFree l (⟨"java/util/Arrays", "rangeCheck", "(III)V"⟩ : MethodName) (head1 (Jvm.Cond.code (⟨"java/util/Arrays", "rangeCheck", "(III)V"⟩ : MethodName) jdk_65_method_30_code 3 none :: ws) ({ frames := 0, cells := 0, slots := 0, locals := 0 } : Room)) (fun a U => a = #[(.int (64 : Int32)), (.int (0 : Int32)), (.int (0 : Int32))] ∧ Z.Warmed39 U.vm ∧ U.heap = h0) (fun _ _ _ _ _ => True) (fun _ U o U' => ∃ v L, o = .returned v ∧ Q_rmR0 Z  h0 n0 v U'.heap L ∧ FrameEnd U o U' L ({ frames := 0, cells := 0, slots := 0, locals := 0 } : Room).cells ({ frames := 0, cells := 0, slots := 0, locals := 0 } : Room).slots) := by
  refine MetFree.of_bodySF (plainFor_of_name pn_3) hisR ?_
  intro p e s m args below meth c s₁ Bd hml0 hP hK
  obtain ⟨rfl, hZ, hh⟩ := hP
  have hx := Bd.exec
  have hby := Bd.bytes
  have hml : c.maxLocals = 3 := hml0
  have hown : s.vm.findClass "java/util/Arrays" = some m.cls := findClass_of_methodNamed Bd.named
  have hnm := (name_of_methodNamed Bd.named Bd.method).1
  have X0 : Stand p l e ({ frames := 0, cells := 0, slots := 0, locals := 0 } : Room) s m #[(.int (64 : Int32)), (.int (0 : Int32)), (.int (0 : Int32))] below meth c s₁ [] 0 0 := Stand.of_body Bd
  have e0 : s₁.heap = h0 := by rw [← hh, Bd.state]; rfl
  have N0 := Fr.nil n0
  suffices G0 : own_G p e below (own_E s below (Q_rmR0 Z  h0 n0) ({ frames := 0, cells := 0, slots := 0, locals := 0 } : Room).cells ({ frames := 0, cells := 0, slots := 0, locals := 0 } : Room).slots) s₁ (mkF m 0 #[.val (.int (64 : Int32)), .val (.int (0 : Int32)), .val (.int (0 : Int32))] []) by
    obtain ⟨zt, zst, zo, zq1, zq2, zq3⟩ := G0
    exact ⟨zt, zo, castTop (ef_rmR0 m ) zst, zq1, zq2, zq3⟩
  obtain ⟨Φ, hΦ⟩ : ∃ Φ, Φ = own_E s below (Q_rmR0 Z  h0 n0) ({ frames := 0, cells := 0, slots := 0, locals := 0 } : Room).cells ({ frames := 0, cells := 0, slots := 0, locals := 0 } : Room).slots := ⟨_, rfl⟩
  rw [← hΦ]
  show own_G p e below Φ s₁ (mkF m 0 #[.val (.int (64 : Int32)), .val (.int (0 : Int32)), .val (.int (0 : Int32))] [])
  refine own_go (fun _ => XS.iloadN X0.here hx rfl (hb hby d8_0) rfl) ?_
  refine own_go (fun _ => XS.iloadN X0.here hx rfl (hb hby d8_1) rfl) ?_
  show own_G p e below Φ s₁ (mkF m 2 #[.val (.int (64 : Int32)), .val (.int (0 : Int32)), .val (.int (0 : Int32))] [(.int (0 : Int32)), (.int (0 : Int32))])
  refine own_go (fun _ => XS.icmpYes X0.here hx rfl (pc0 := 2) (pc' := 46) rfl (hb hby d8_2) rfl (Jvm.Free.XT.ii_le_t (by decide : ¬ ((0 : Int32) < (0 : Int32)))) (by decide) (by decide)) ?_
  refine own_go (fun _ => XS.iloadN X0.here hx rfl (hb hby d8_46) rfl) ?_
  show own_G p e below Φ s₁ (mkF m 47 #[.val (.int (64 : Int32)), .val (.int (0 : Int32)), .val (.int (0 : Int32))] [(.int (0 : Int32))])
  refine own_go (fun _ => XS.ifYes X0.here hx rfl (pc0 := 47) (pc' := 59) rfl (hb hby d8_47) rfl (Jvm.Free.XT.i0_ge_t (by decide : ¬ ((0 : Int32) < (0 : Int32)))) (by decide) (by decide)) ?_
  refine own_go (fun _ => XS.iloadN X0.here hx rfl (hb hby d8_59) rfl) ?_
  refine own_go (fun _ => XS.iloadN X0.here hx rfl (hb hby d8_60) rfl) ?_
  show own_G p e below Φ s₁ (mkF m 61 #[.val (.int (64 : Int32)), .val (.int (0 : Int32)), .val (.int (0 : Int32))] [(.int (64 : Int32)), (.int (0 : Int32))])
  refine own_go (fun _ => XS.icmpYes X0.here hx rfl (pc0 := 61) (pc' := 73) rfl (hb hby d8_61) rfl (Jvm.Free.XT.ii_le_t (by decide : ¬ ((64 : Int32) < (0 : Int32)))) (by decide) (by decide)) ?_
  show own_G p e below Φ s₁ (mkF m 73 #[.val (.int (64 : Int32)), .val (.int (0 : Int32)), .val (.int (0 : Int32))] [])
  rw [hΦ]
  refine own_ret X0 (v := none) (fun _ => rfl) (BodyLoose.notSynchronized Bd) (fun fs hr => X0.returnOut hx Bd.returns (hb hby d8_73) hr) ?_ (by decide) (by decide)
  rw [e0]
  exact ⟨rfl, N0, rfl⟩
theorem ef_rmR1 (m : MethodId)  : entryFrame m #[(.int (64 : Int32)), (.int (0 : Int32)), (.int (1 : Int32))] 3 = mkF m 0 #[.val (.int (64 : Int32)), .val (.int (0 : Int32)), .val (.int (1 : Int32))] [] := by first | (simp [entryFrame, mkF, argsToLocals, Value.category]; done) | rfl
def Q_rmR1 (Z : State)  (h0 : Heap) (n0 : Nat) (v : Option Value) (h : Heap) (L : List Loc) : Prop := v = none ∧ Fr n0 L ∧ h = h0
set_option maxRecDepth 65536 in
set_option maxHeartbeats 40000000 in
theorem rmR1 (l : Launch) (Z : State) (a0 : Array Value) (hw : ∀ d ∈ tables_1, d.before a0 Z = true) (ws : List Jvm.Cond)  (h0 : Heap) (n0 : Nat) (Z0 : n0 ≤ h0.size)  :
    MetFree l (⟨"java/util/Arrays", "rangeCheck", "(III)V"⟩ : MethodName) (head1 (Jvm.Cond.code (⟨"java/util/Arrays", "rangeCheck", "(III)V"⟩ : MethodName) jdk_65_method_30_code 3 none :: ws) ({ frames := 0, cells := 0, slots := 0, locals := 0 } : Room)) (fun a U => a = #[(.int (64 : Int32)), (.int (0 : Int32)), (.int (1 : Int32))] ∧ Z.Warmed39 U.vm ∧ U.heap = h0) (fun _ _ _ _ _ => True) (fun _ U o U' => ∃ v L, o = .returned v ∧ Q_rmR1 Z  h0 n0 v U'.heap L ∧ FrameEnd U o U' L ({ frames := 0, cells := 0, slots := 0, locals := 0 } : Room).cells ({ frames := 0, cells := 0, slots := 0, locals := 0 } : Room).slots) := by
  refine MetFree.of_bodySF (plainFor_of_name pn_3) hisR ?_
  intro p e s m args below meth c s₁ Bd hml0 hP hK
  obtain ⟨rfl, hZ, hh⟩ := hP
  have hx := Bd.exec
  have hby := Bd.bytes
  have hml : c.maxLocals = 3 := hml0
  have hown : s.vm.findClass "java/util/Arrays" = some m.cls := findClass_of_methodNamed Bd.named
  have hnm := (name_of_methodNamed Bd.named Bd.method).1
  have X0 : Stand p l e ({ frames := 0, cells := 0, slots := 0, locals := 0 } : Room) s m #[(.int (64 : Int32)), (.int (0 : Int32)), (.int (1 : Int32))] below meth c s₁ [] 0 0 := Stand.of_body Bd
  have e0 : s₁.heap = h0 := by rw [← hh, Bd.state]; rfl
  have N0 := Fr.nil n0
  suffices G0 : own_G p e below (own_E s below (Q_rmR1 Z  h0 n0) ({ frames := 0, cells := 0, slots := 0, locals := 0 } : Room).cells ({ frames := 0, cells := 0, slots := 0, locals := 0 } : Room).slots) s₁ (mkF m 0 #[.val (.int (64 : Int32)), .val (.int (0 : Int32)), .val (.int (1 : Int32))] []) by
    obtain ⟨zt, zst, zo, zq1, zq2, zq3⟩ := G0
    exact ⟨zt, zo, castTop (ef_rmR1 m ) zst, zq1, zq2, zq3⟩
  obtain ⟨Φ, hΦ⟩ : ∃ Φ, Φ = own_E s below (Q_rmR1 Z  h0 n0) ({ frames := 0, cells := 0, slots := 0, locals := 0 } : Room).cells ({ frames := 0, cells := 0, slots := 0, locals := 0 } : Room).slots := ⟨_, rfl⟩
  rw [← hΦ]
  show own_G p e below Φ s₁ (mkF m 0 #[.val (.int (64 : Int32)), .val (.int (0 : Int32)), .val (.int (1 : Int32))] [])
  refine own_go (fun _ => XS.iloadN X0.here hx rfl (hb hby d8_0) rfl) ?_
  refine own_go (fun _ => XS.iloadN X0.here hx rfl (hb hby d8_1) rfl) ?_
  show own_G p e below Φ s₁ (mkF m 2 #[.val (.int (64 : Int32)), .val (.int (0 : Int32)), .val (.int (1 : Int32))] [(.int (1 : Int32)), (.int (0 : Int32))])
  refine own_go (fun _ => XS.icmpYes X0.here hx rfl (pc0 := 2) (pc' := 46) rfl (hb hby d8_2) rfl (Jvm.Free.XT.ii_le_t (by decide : ¬ ((1 : Int32) < (0 : Int32)))) (by decide) (by decide)) ?_
  refine own_go (fun _ => XS.iloadN X0.here hx rfl (hb hby d8_46) rfl) ?_
  show own_G p e below Φ s₁ (mkF m 47 #[.val (.int (64 : Int32)), .val (.int (0 : Int32)), .val (.int (1 : Int32))] [(.int (0 : Int32))])
  refine own_go (fun _ => XS.ifYes X0.here hx rfl (pc0 := 47) (pc' := 59) rfl (hb hby d8_47) rfl (Jvm.Free.XT.i0_ge_t (by decide : ¬ ((0 : Int32) < (0 : Int32)))) (by decide) (by decide)) ?_
  refine own_go (fun _ => XS.iloadN X0.here hx rfl (hb hby d8_59) rfl) ?_
  refine own_go (fun _ => XS.iloadN X0.here hx rfl (hb hby d8_60) rfl) ?_
  show own_G p e below Φ s₁ (mkF m 61 #[.val (.int (64 : Int32)), .val (.int (0 : Int32)), .val (.int (1 : Int32))] [(.int (64 : Int32)), (.int (1 : Int32))])
  refine own_go (fun _ => XS.icmpYes X0.here hx rfl (pc0 := 61) (pc' := 73) rfl (hb hby d8_61) rfl (Jvm.Free.XT.ii_le_t (by decide : ¬ ((64 : Int32) < (1 : Int32)))) (by decide) (by decide)) ?_
  show own_G p e below Φ s₁ (mkF m 73 #[.val (.int (64 : Int32)), .val (.int (0 : Int32)), .val (.int (1 : Int32))] [])
  rw [hΦ]
  refine own_ret X0 (v := none) (fun _ => rfl) (BodyLoose.notSynchronized Bd) (fun fs hr => X0.returnOut hx Bd.returns (hb hby d8_73) hr) ?_ (by decide) (by decide)
  rw [e0]
  exact ⟨rfl, N0, rfl⟩
theorem ef_rmR2 (m : MethodId)  : entryFrame m #[(.int (64 : Int32)), (.int (0 : Int32)), (.int (2 : Int32))] 3 = mkF m 0 #[.val (.int (64 : Int32)), .val (.int (0 : Int32)), .val (.int (2 : Int32))] [] := by first | (simp [entryFrame, mkF, argsToLocals, Value.category]; done) | rfl
def Q_rmR2 (Z : State)  (h0 : Heap) (n0 : Nat) (v : Option Value) (h : Heap) (L : List Loc) : Prop := v = none ∧ Fr n0 L ∧ h = h0
set_option maxRecDepth 65536 in
set_option maxHeartbeats 40000000 in
theorem rmR2 (l : Launch) (Z : State) (a0 : Array Value) (hw : ∀ d ∈ tables_1, d.before a0 Z = true) (ws : List Jvm.Cond)  (h0 : Heap) (n0 : Nat) (Z0 : n0 ≤ h0.size)  :
    MetFree l (⟨"java/util/Arrays", "rangeCheck", "(III)V"⟩ : MethodName) (head1 (Jvm.Cond.code (⟨"java/util/Arrays", "rangeCheck", "(III)V"⟩ : MethodName) jdk_65_method_30_code 3 none :: ws) ({ frames := 0, cells := 0, slots := 0, locals := 0 } : Room)) (fun a U => a = #[(.int (64 : Int32)), (.int (0 : Int32)), (.int (2 : Int32))] ∧ Z.Warmed39 U.vm ∧ U.heap = h0) (fun _ _ _ _ _ => True) (fun _ U o U' => ∃ v L, o = .returned v ∧ Q_rmR2 Z  h0 n0 v U'.heap L ∧ FrameEnd U o U' L ({ frames := 0, cells := 0, slots := 0, locals := 0 } : Room).cells ({ frames := 0, cells := 0, slots := 0, locals := 0 } : Room).slots) := by
  refine MetFree.of_bodySF (plainFor_of_name pn_3) hisR ?_
  intro p e s m args below meth c s₁ Bd hml0 hP hK
  obtain ⟨rfl, hZ, hh⟩ := hP
  have hx := Bd.exec
  have hby := Bd.bytes
  have hml : c.maxLocals = 3 := hml0
  have hown : s.vm.findClass "java/util/Arrays" = some m.cls := findClass_of_methodNamed Bd.named
  have hnm := (name_of_methodNamed Bd.named Bd.method).1
  have X0 : Stand p l e ({ frames := 0, cells := 0, slots := 0, locals := 0 } : Room) s m #[(.int (64 : Int32)), (.int (0 : Int32)), (.int (2 : Int32))] below meth c s₁ [] 0 0 := Stand.of_body Bd
  have e0 : s₁.heap = h0 := by rw [← hh, Bd.state]; rfl
  have N0 := Fr.nil n0
  suffices G0 : own_G p e below (own_E s below (Q_rmR2 Z  h0 n0) ({ frames := 0, cells := 0, slots := 0, locals := 0 } : Room).cells ({ frames := 0, cells := 0, slots := 0, locals := 0 } : Room).slots) s₁ (mkF m 0 #[.val (.int (64 : Int32)), .val (.int (0 : Int32)), .val (.int (2 : Int32))] []) by
    obtain ⟨zt, zst, zo, zq1, zq2, zq3⟩ := G0
    exact ⟨zt, zo, castTop (ef_rmR2 m ) zst, zq1, zq2, zq3⟩
  obtain ⟨Φ, hΦ⟩ : ∃ Φ, Φ = own_E s below (Q_rmR2 Z  h0 n0) ({ frames := 0, cells := 0, slots := 0, locals := 0 } : Room).cells ({ frames := 0, cells := 0, slots := 0, locals := 0 } : Room).slots := ⟨_, rfl⟩
  rw [← hΦ]
  show own_G p e below Φ s₁ (mkF m 0 #[.val (.int (64 : Int32)), .val (.int (0 : Int32)), .val (.int (2 : Int32))] [])
  refine own_go (fun _ => XS.iloadN X0.here hx rfl (hb hby d8_0) rfl) ?_
  refine own_go (fun _ => XS.iloadN X0.here hx rfl (hb hby d8_1) rfl) ?_
  show own_G p e below Φ s₁ (mkF m 2 #[.val (.int (64 : Int32)), .val (.int (0 : Int32)), .val (.int (2 : Int32))] [(.int (2 : Int32)), (.int (0 : Int32))])
  refine own_go (fun _ => XS.icmpYes X0.here hx rfl (pc0 := 2) (pc' := 46) rfl (hb hby d8_2) rfl (Jvm.Free.XT.ii_le_t (by decide : ¬ ((2 : Int32) < (0 : Int32)))) (by decide) (by decide)) ?_
  refine own_go (fun _ => XS.iloadN X0.here hx rfl (hb hby d8_46) rfl) ?_
  show own_G p e below Φ s₁ (mkF m 47 #[.val (.int (64 : Int32)), .val (.int (0 : Int32)), .val (.int (2 : Int32))] [(.int (0 : Int32))])
  refine own_go (fun _ => XS.ifYes X0.here hx rfl (pc0 := 47) (pc' := 59) rfl (hb hby d8_47) rfl (Jvm.Free.XT.i0_ge_t (by decide : ¬ ((0 : Int32) < (0 : Int32)))) (by decide) (by decide)) ?_
  refine own_go (fun _ => XS.iloadN X0.here hx rfl (hb hby d8_59) rfl) ?_
  refine own_go (fun _ => XS.iloadN X0.here hx rfl (hb hby d8_60) rfl) ?_
  show own_G p e below Φ s₁ (mkF m 61 #[.val (.int (64 : Int32)), .val (.int (0 : Int32)), .val (.int (2 : Int32))] [(.int (64 : Int32)), (.int (2 : Int32))])
  refine own_go (fun _ => XS.icmpYes X0.here hx rfl (pc0 := 61) (pc' := 73) rfl (hb hby d8_61) rfl (Jvm.Free.XT.ii_le_t (by decide : ¬ ((64 : Int32) < (2 : Int32)))) (by decide) (by decide)) ?_
  show own_G p e below Φ s₁ (mkF m 73 #[.val (.int (64 : Int32)), .val (.int (0 : Int32)), .val (.int (2 : Int32))] [])
  rw [hΦ]
  refine own_ret X0 (v := none) (fun _ => rfl) (BodyLoose.notSynchronized Bd) (fun fs hr => X0.returnOut hx Bd.returns (hb hby d8_73) hr) ?_ (by decide) (by decide)
  rw [e0]
  exact ⟨rfl, N0, rfl⟩
theorem d9_0 : decode jdk_65_method_56_code 0 = .ok (.iload_n 1, 1) := by decide +kernel
theorem d9_1 : decode jdk_65_method_56_code 1 = .ok (.istore 5, 2) := by decide +kernel
theorem d9_3 : decode jdk_65_method_56_code 3 = .ok (.iload_n 2, 1) := by decide +kernel
theorem d9_4 : decode jdk_65_method_56_code 4 = .ok (.iconst 1, 1) := by decide +kernel
theorem d9_5 : decode jdk_65_method_56_code 5 = .ok (.isub, 1) := by decide +kernel
theorem d9_6 : decode jdk_65_method_56_code 6 = .ok (.istore 6, 2) := by decide +kernel
theorem d9_8 : decode jdk_65_method_56_code 8 = .ok (.iload 5, 2) := by decide +kernel
theorem d9_10 : decode jdk_65_method_56_code 10 = .ok (.iload 6, 2) := by decide +kernel
theorem d9_12 : decode jdk_65_method_56_code 12 = .ok (.if_icmp .gt 56, 3) := by decide +kernel
theorem d9_68 : decode jdk_65_method_56_code 68 = .ok (.iload 5, 2) := by decide +kernel
theorem d9_70 : decode jdk_65_method_56_code 70 = .ok (.iconst 1, 1) := by decide +kernel
theorem d9_71 : decode jdk_65_method_56_code 71 = .ok (.iadd, 1) := by decide +kernel
theorem d9_72 : decode jdk_65_method_56_code 72 = .ok (.ineg, 1) := by decide +kernel
theorem d9_73 : decode jdk_65_method_56_code 73 = .ok (.ireturn, 1) := by decide +kernel
theorem ef_rmB0_0ins0 (m : MethodId) (xa : Addr) (x : Int64) : entryFrame m #[(.ref xa), (.int (0 : Int32)), (.int (0 : Int32)), (.long x)] 10 = mkF m 0 #[.val (.ref xa), .val (.int (0 : Int32)), .val (.int (0 : Int32)), .val (.long x), .second, .unset, .unset, .unset, .unset, .unset] [] := by first | (simp [entryFrame, mkF, argsToLocals, Value.category]; done) | rfl
def Q_rmB0_0ins0 (Z : State) (xa : Addr) (kk : ClassId) (x : Int64) (h0 : Heap) (n0 : Nat) (v : Option Value) (h : Heap) (L : List Loc) : Prop := v = some (.int (-1 : Int32)) ∧ Fr n0 L ∧ h = h0
set_option maxRecDepth 65536 in
set_option maxHeartbeats 40000000 in
theorem rmB0_0ins0 (l : Launch) (Z : State) (a0 : Array Value) (hw : ∀ d ∈ tables_1, d.before a0 Z = true) (ws : List Jvm.Cond) (xa : Addr) (kk : ClassId) (x : Int64) (h0 : Heap) (n0 : Nat) (Z0 : n0 ≤ h0.size) (V_xa : Arv Z h0 xa kk .long (64 : Int32) [] (.long (0 : Int64))) :
    MetFree l (⟨"java/util/Arrays", "binarySearch0", "([JIIJ)I"⟩ : MethodName) (head1 (Jvm.Cond.code (⟨"java/util/Arrays", "binarySearch0", "([JIIJ)I"⟩ : MethodName) jdk_65_method_56_code 10 (some .int) :: ws) ({ frames := 0, cells := 0, slots := 0, locals := 0 } : Room)) (fun a U => a = #[(.ref xa), (.int (0 : Int32)), (.int (0 : Int32)), (.long x)] ∧ Z.Warmed39 U.vm ∧ U.heap = h0) (fun _ _ _ _ _ => True) (fun _ U o U' => ∃ v L, o = .returned v ∧ Q_rmB0_0ins0 Z xa kk x h0 n0 v U'.heap L ∧ FrameEnd U o U' L ({ frames := 0, cells := 0, slots := 0, locals := 0 } : Room).cells ({ frames := 0, cells := 0, slots := 0, locals := 0 } : Room).slots) := by
  refine MetFree.of_bodySF (plainFor_of_name pn_3) hisR ?_
  intro p e s m args below meth c s₁ Bd hml0 hP hK
  obtain ⟨rfl, hZ, hh⟩ := hP
  have hx := Bd.exec
  have hby := Bd.bytes
  have hml : c.maxLocals = 10 := hml0
  have hown : s.vm.findClass "java/util/Arrays" = some m.cls := findClass_of_methodNamed Bd.named
  have hnm := (name_of_methodNamed Bd.named Bd.method).1
  have X0 : Stand p l e ({ frames := 0, cells := 0, slots := 0, locals := 0 } : Room) s m #[(.ref xa), (.int (0 : Int32)), (.int (0 : Int32)), (.long x)] below meth c s₁ [] 0 0 := Stand.of_body Bd
  have e0 : s₁.heap = h0 := by rw [← hh, Bd.state]; rfl
  have N0 := Fr.nil n0
  suffices G0 : own_G p e below (own_E s below (Q_rmB0_0ins0 Z xa kk x h0 n0) ({ frames := 0, cells := 0, slots := 0, locals := 0 } : Room).cells ({ frames := 0, cells := 0, slots := 0, locals := 0 } : Room).slots) s₁ (mkF m 0 #[.val (.ref xa), .val (.int (0 : Int32)), .val (.int (0 : Int32)), .val (.long x), .second, .unset, .unset, .unset, .unset, .unset] []) by
    obtain ⟨zt, zst, zo, zq1, zq2, zq3⟩ := G0
    exact ⟨zt, zo, castTop (ef_rmB0_0ins0 m xa x) zst, zq1, zq2, zq3⟩
  obtain ⟨Φ, hΦ⟩ : ∃ Φ, Φ = own_E s below (Q_rmB0_0ins0 Z xa kk x h0 n0) ({ frames := 0, cells := 0, slots := 0, locals := 0 } : Room).cells ({ frames := 0, cells := 0, slots := 0, locals := 0 } : Room).slots := ⟨_, rfl⟩
  rw [← hΦ]
  show own_G p e below Φ s₁ (mkF m 0 #[.val (.ref xa), .val (.int (0 : Int32)), .val (.int (0 : Int32)), .val (.long x), .second, .unset, .unset, .unset, .unset, .unset] [])
  refine own_go (fun _ => XS.iloadN X0.here hx rfl (hb hby d9_0) rfl) ?_
  refine own_go (fun _ => XS.istore X0.here hx rfl (hb hby d9_1) rfl (l' := #[.val (.ref xa), .val (.int (0 : Int32)), .val (.int (0 : Int32)), .val (.long x), .second, .val (.int (0 : Int32)), .unset, .unset, .unset, .unset]) rfl) ?_
  refine own_go (fun _ => XS.iloadN X0.here hx rfl (hb hby d9_3) rfl) ?_
  show own_G p e below Φ s₁ (mkF m 4 #[.val (.ref xa), .val (.int (0 : Int32)), .val (.int (0 : Int32)), .val (.long x), .second, .val (.int (0 : Int32)), .unset, .unset, .unset, .unset] [(.int (0 : Int32))])
  refine own_go (fun _ => XS.iconst X0.here hx rfl (hb hby d9_4)) ?_
  show own_G p e below Φ s₁ (mkF m 5 #[.val (.ref xa), .val (.int (0 : Int32)), .val (.int (0 : Int32)), .val (.long x), .second, .val (.int (0 : Int32)), .unset, .unset, .unset, .unset] [(.int (1 : Int32)), (.int (0 : Int32))])
  refine own_go (fun _ => XS.isub X0.here hx rfl (hb hby d9_5) rfl) ?_
  refine own_go (fun _ => XS.istore X0.here hx rfl (hb hby d9_6) rfl (l' := #[.val (.ref xa), .val (.int (0 : Int32)), .val (.int (0 : Int32)), .val (.long x), .second, .val (.int (0 : Int32)), .val (.int (-1 : Int32)), .unset, .unset, .unset]) rfl) ?_
  refine own_go (fun _ => XS.iload X0.here hx rfl (hb hby d9_8) rfl) ?_
  show own_G p e below Φ s₁ (mkF m 10 #[.val (.ref xa), .val (.int (0 : Int32)), .val (.int (0 : Int32)), .val (.long x), .second, .val (.int (0 : Int32)), .val (.int (-1 : Int32)), .unset, .unset, .unset] [(.int (0 : Int32))])
  refine own_go (fun _ => XS.iload X0.here hx rfl (hb hby d9_10) rfl) ?_
  show own_G p e below Φ s₁ (mkF m 12 #[.val (.ref xa), .val (.int (0 : Int32)), .val (.int (0 : Int32)), .val (.long x), .second, .val (.int (0 : Int32)), .val (.int (-1 : Int32)), .unset, .unset, .unset] [(.int (-1 : Int32)), (.int (0 : Int32))])
  refine own_go (fun _ => XS.icmpYes X0.here hx rfl (pc0 := 12) (pc' := 68) rfl (hb hby d9_12) rfl (Jvm.Free.XT.ii_gt_t (by decide : ((-1 : Int32) < (0 : Int32)))) (by decide) (by decide)) ?_
  refine own_go (fun _ => XS.iload X0.here hx rfl (hb hby d9_68) rfl) ?_
  refine own_go (fun _ => XS.iconst X0.here hx rfl (hb hby d9_70)) ?_
  show own_G p e below Φ s₁ (mkF m 71 #[.val (.ref xa), .val (.int (0 : Int32)), .val (.int (0 : Int32)), .val (.long x), .second, .val (.int (0 : Int32)), .val (.int (-1 : Int32)), .unset, .unset, .unset] [(.int (1 : Int32)), (.int (0 : Int32))])
  refine own_go (fun _ => XS.iadd X0.here hx rfl (hb hby d9_71) rfl) ?_
  show own_G p e below Φ s₁ (mkF m 72 #[.val (.ref xa), .val (.int (0 : Int32)), .val (.int (0 : Int32)), .val (.long x), .second, .val (.int (0 : Int32)), .val (.int (-1 : Int32)), .unset, .unset, .unset] [(.int (1 : Int32))])
  refine own_go (fun _ => XS.ineg X0.here hx rfl (hb hby d9_72) rfl) ?_
  show own_G p e below Φ s₁ (mkF m 73 #[.val (.ref xa), .val (.int (0 : Int32)), .val (.int (0 : Int32)), .val (.long x), .second, .val (.int (0 : Int32)), .val (.int (-1 : Int32)), .unset, .unset, .unset] [(.int (-1 : Int32))])
  rw [hΦ]
  refine own_ret X0 (v := some (.int (-1 : Int32))) (fun h => by rw [Bd.returns] at h; cases h) (BodyLoose.notSynchronized Bd) (fun fs hr => retOut X0 hx Bd.returns rfl (Or.inl ⟨rfl, Or.inl rfl, _, rfl⟩) (hb hby d9_73) hr) ?_ (by decide) (by decide)
  rw [e0]
  exact ⟨rfl, N0, rfl⟩
theorem d7_0 : decode jdk_65_method_55_code 0 = .ok (.aload_n 0, 1) := by decide +kernel
theorem d7_1 : decode jdk_65_method_55_code 1 = .ok (.arraylength, 1) := by decide +kernel
theorem d7_2 : decode jdk_65_method_55_code 2 = .ok (.iload_n 1, 1) := by decide +kernel
theorem d7_3 : decode jdk_65_method_55_code 3 = .ok (.iload_n 2, 1) := by decide +kernel
theorem d7_4 : decode jdk_65_method_55_code 4 = .ok (.invokestatic 13, 3) := by decide +kernel
theorem wd_47 {Z : State} {a0 : Array Value} (hw : ∀ d ∈ tables_1, d.before a0 Z = true) : ((Jvm.Cond.methodLink "java/util/Arrays" (13 : Nat) ({ cls := "java/util/Arrays", name := "rangeCheck", desc := "(III)V" } : Jvm.MethodName)) : Jvm.Cond).before a0 Z = true := hw _ (List.mem_of_getElem? (i := 47) rfl)
theorem wd_49 {Z : State} {a0 : Array Value} (hw : ∀ d ∈ tables_1, d.before a0 Z = true) : ((Jvm.Cond.code ({ cls := "java/util/Arrays", name := "rangeCheck", desc := "(III)V" } : Jvm.MethodName) jdk_65_method_30_code (3 : Nat) (Option.none : Option Jvm.ClassFile.FieldType)) : Jvm.Cond).before a0 Z = true := hw _ (List.mem_of_getElem? (i := 49) rfl)
theorem wd_45 {Z : State} {a0 : Array Value} (hw : ∀ d ∈ tables_1, d.before a0 Z = true) : ((Jvm.Cond.initialized "java/util/Arrays") : Jvm.Cond).before a0 Z = true := hw _ (List.mem_of_getElem? (i := 45) rfl)
theorem pd_0 : parseMethodDescriptor "(III)V" = some ⟨[.int, .int, .int], none⟩ := by decide +kernel
theorem wd_48 {Z : State} {a0 : Array Value} (hw : ∀ d ∈ tables_1, d.before a0 Z = true) : ((Jvm.Cond.static ({ cls := "java/util/Arrays", name := "rangeCheck", desc := "(III)V" } : Jvm.MethodName)) : Jvm.Cond).before a0 Z = true := hw _ (List.mem_of_getElem? (i := 48) rfl)
theorem d7_7 : decode jdk_65_method_55_code 7 = .ok (.aload_n 0, 1) := by decide +kernel
theorem d7_8 : decode jdk_65_method_55_code 8 = .ok (.iload_n 1, 1) := by decide +kernel
theorem d7_9 : decode jdk_65_method_55_code 9 = .ok (.iload_n 2, 1) := by decide +kernel
theorem d7_10 : decode jdk_65_method_55_code 10 = .ok (.lload_n 3, 1) := by decide +kernel
theorem d7_11 : decode jdk_65_method_55_code 11 = .ok (.invokestatic 205, 3) := by decide +kernel
theorem wd_50 {Z : State} {a0 : Array Value} (hw : ∀ d ∈ tables_1, d.before a0 Z = true) : ((Jvm.Cond.methodLink "java/util/Arrays" (205 : Nat) ({ cls := "java/util/Arrays", name := "binarySearch0", desc := "([JIIJ)I" } : Jvm.MethodName)) : Jvm.Cond).before a0 Z = true := hw _ (List.mem_of_getElem? (i := 50) rfl)
theorem wd_52 {Z : State} {a0 : Array Value} (hw : ∀ d ∈ tables_1, d.before a0 Z = true) : ((Jvm.Cond.code ({ cls := "java/util/Arrays", name := "binarySearch0", desc := "([JIIJ)I" } : Jvm.MethodName) jdk_65_method_56_code (10 : Nat) (Option.some Jvm.ClassFile.FieldType.int)) : Jvm.Cond).before a0 Z = true := hw _ (List.mem_of_getElem? (i := 52) rfl)
theorem pd_1 : parseMethodDescriptor "([JIIJ)I" = some ⟨[(.array .long), .int, .int, .long], some .int⟩ := by decide +kernel
theorem wd_51 {Z : State} {a0 : Array Value} (hw : ∀ d ∈ tables_1, d.before a0 Z = true) : ((Jvm.Cond.static ({ cls := "java/util/Arrays", name := "binarySearch0", desc := "([JIIJ)I" } : Jvm.MethodName)) : Jvm.Cond).before a0 Z = true := hw _ (List.mem_of_getElem? (i := 51) rfl)
theorem d7_14 : decode jdk_65_method_55_code 14 = .ok (.ireturn, 1) := by decide +kernel
theorem ef_rmB1_0ins0 (m : MethodId) (xa : Addr) (x : Int64) : entryFrame m #[(.ref xa), (.int (0 : Int32)), (.int (0 : Int32)), (.long x)] 5 = mkF m 0 #[.val (.ref xa), .val (.int (0 : Int32)), .val (.int (0 : Int32)), .val (.long x), .second] [] := by first | (simp [entryFrame, mkF, argsToLocals, Value.category]; done) | rfl
def Q_rmB1_0ins0 (Z : State) (xa : Addr) (kk : ClassId) (x : Int64) (h0 : Heap) (n0 : Nat) (v : Option Value) (h : Heap) (L : List Loc) : Prop := v = some (.int (-1 : Int32)) ∧ Fr n0 L ∧ h = h0
set_option maxRecDepth 65536 in
set_option maxHeartbeats 40000000 in
theorem rmB1_0ins0 (l : Launch) (Z : State) (a0 : Array Value) (hw : ∀ d ∈ tables_1, d.before a0 Z = true) (ws : List Jvm.Cond) (xa : Addr) (kk : ClassId) (x : Int64) (h0 : Heap) (n0 : Nat) (Z0 : n0 ≤ h0.size) (V_xa : Arv Z h0 xa kk .long (64 : Int32) [] (.long (0 : Int64))) :
    MetFree l (⟨"java/util/Arrays", "binarySearch", "([JIIJ)I"⟩ : MethodName) (head1 (Jvm.Cond.code (⟨"java/util/Arrays", "binarySearch", "([JIIJ)I"⟩ : MethodName) jdk_65_method_55_code 5 (some .int) :: ws) ({ frames := 1, cells := 0, slots := 0, locals := 21 } : Room)) (fun a U => a = #[(.ref xa), (.int (0 : Int32)), (.int (0 : Int32)), (.long x)] ∧ Z.Warmed39 U.vm ∧ U.heap = h0) (fun _ _ _ _ _ => True) (fun _ U o U' => ∃ v L, o = .returned v ∧ Q_rmB1_0ins0 Z xa kk x h0 n0 v U'.heap L ∧ FrameEnd U o U' L ({ frames := 1, cells := 0, slots := 0, locals := 21 } : Room).cells ({ frames := 1, cells := 0, slots := 0, locals := 21 } : Room).slots) := by
  refine MetFree.of_bodySF (plainFor_of_name pn_3) hisR ?_
  intro p e s m args below meth c s₁ Bd hml0 hP hK
  obtain ⟨rfl, hZ, hh⟩ := hP
  have hx := Bd.exec
  have hby := Bd.bytes
  have hml : c.maxLocals = 5 := hml0
  have hown : s.vm.findClass "java/util/Arrays" = some m.cls := findClass_of_methodNamed Bd.named
  have hnm := (name_of_methodNamed Bd.named Bd.method).1
  have X0 : Stand p l e ({ frames := 1, cells := 0, slots := 0, locals := 21 } : Room) s m #[(.ref xa), (.int (0 : Int32)), (.int (0 : Int32)), (.long x)] below meth c s₁ [] 0 0 := Stand.of_body Bd
  have e0 : s₁.heap = h0 := by rw [← hh, Bd.state]; rfl
  have N0 := Fr.nil n0
  suffices G0 : own_G p e below (own_E s below (Q_rmB1_0ins0 Z xa kk x h0 n0) ({ frames := 1, cells := 0, slots := 0, locals := 21 } : Room).cells ({ frames := 1, cells := 0, slots := 0, locals := 21 } : Room).slots) s₁ (mkF m 0 #[.val (.ref xa), .val (.int (0 : Int32)), .val (.int (0 : Int32)), .val (.long x), .second] []) by
    obtain ⟨zt, zst, zo, zq1, zq2, zq3⟩ := G0
    exact ⟨zt, zo, castTop (ef_rmB1_0ins0 m xa x) zst, zq1, zq2, zq3⟩
  obtain ⟨Φ, hΦ⟩ : ∃ Φ, Φ = own_E s below (Q_rmB1_0ins0 Z xa kk x h0 n0) ({ frames := 1, cells := 0, slots := 0, locals := 21 } : Room).cells ({ frames := 1, cells := 0, slots := 0, locals := 21 } : Room).slots := ⟨_, rfl⟩
  rw [← hΦ]
  show own_G p e below Φ s₁ (mkF m 0 #[.val (.ref xa), .val (.int (0 : Int32)), .val (.int (0 : Int32)), .val (.long x), .second] [])
  refine own_go (fun _ => XS.aloadN X0.here hx rfl (hb hby d7_0) rfl rfl) ?_
  show own_G p e below Φ s₁ (mkF m 1 #[.val (.ref xa), .val (.int (0 : Int32)), .val (.int (0 : Int32)), .val (.long x), .second] [(.ref xa)])
  obtain ⟨cl1, Ar1, zq1, S1, M1, H1, G1⟩ := id V_xa
  refine own_go (fun _ => X0.arraylength hx (by rw [e0]; exact Ar1.1) (State.isArrayOf_alike hZ.alike Ar1.2.1) (g := (mkF m 1 #[.val (.ref xa), .val (.int (0 : Int32)), .val (.int (0 : Int32)), .val (.long x), .second] [(.ref xa)])) rfl rfl (hb hby d7_1) _) ?_
  rw [len_of S1 M1]
  refine own_go (fun _ => XS.iloadN X0.here hx rfl (hb hby d7_2) rfl) ?_
  refine own_go (fun _ => XS.iloadN X0.here hx rfl (hb hby d7_3) rfl) ?_
  show own_G p e below Φ s₁ (mkF m 4 #[.val (.ref xa), .val (.int (0 : Int32)), .val (.int (0 : Int32)), .val (.long x), .second] [(.int (0 : Int32)), (.int (0 : Int32)), (.int (64 : Int32))])
  obtain ⟨_, _, ⟨T2, zL2, zk2, zn2⟩, -, X2, ⟨Lc2, hQ2, zl2, zy2, zz2⟩, st2⟩ := Jvm.LawKit.callS X0 hx (y := (⟨"java/util/Arrays", "rangeCheck", "(III)V"⟩ : MethodName)) hown (mvT hZ (wd_47 hw)) (mvT hZ (wd_48 hw)) (mvT hZ (wd_45 hw)) (mvT hZ (wd_49 hw)) (by decide) (backOf (W := 0) (rmR0 l Z a0 hw []  h0 n0 Z0 ) hZ (wd_49 hw) (wd_45 hw) (by decide) (by decide)) (g := (mkF m 4 #[.val (.ref xa), .val (.int (0 : Int32)), .val (.int (0 : Int32)), .val (.long x), .second] [(.int (0 : Int32)), (.int (0 : Int32)), (.int (64 : Int32))])) rfl (by rw [hml]; rfl) (argsL := [(.int (64 : Int32)), (.int (0 : Int32)), (.int (0 : Int32))]) (rest := []) (lenOf pd_0 rfl) rfl (by show 2 * 0 + _ ≤ _; exact Nat.le_of_eq rfl) (hb hby d7_4) (fun _ _ => ⟨rfl, e0, (by decide : 0 + 0 ≤ _), (by decide : 0 + 0 ≤ _)⟩)
  dsimp only [Pt.U, Pt.locs, Pt.cells, Pt.slots] at X2 zl2 zy2 zz2 st2 hQ2
  subst zl2 zy2 zz2
  obtain ⟨rfl, N2q, hs2⟩ := hQ2
  have N2 := Fr.app N0 N2q
  refine own_go st2 ?_
  refine own_go (fun _ => XS.aloadN X2.here hx rfl (hb hby d7_7) rfl rfl) ?_
  refine own_go (fun _ => XS.iloadN X2.here hx rfl (hb hby d7_8) rfl) ?_
  show own_G p e below Φ T2 (mkF m 9 #[.val (.ref xa), .val (.int (0 : Int32)), .val (.int (0 : Int32)), .val (.long x), .second] [(.int (0 : Int32)), (.ref xa)])
  refine own_go (fun _ => XS.iloadN X2.here hx rfl (hb hby d7_9) rfl) ?_
  refine own_go (fun _ => XS.lloadN X2.here hx rfl (hb hby d7_10) rfl) ?_
  show own_G p e below Φ T2 (mkF m 11 #[.val (.ref xa), .val (.int (0 : Int32)), .val (.int (0 : Int32)), .val (.long x), .second] [(.long x), (.int (0 : Int32)), (.int (0 : Int32)), (.ref xa)])
  obtain ⟨_, _, ⟨T3, zL3, zk3, zn3⟩, -, X3, ⟨Lc3, hQ3, zl3, zy3, zz3⟩, st3⟩ := Jvm.LawKit.callS X2 hx (y := (⟨"java/util/Arrays", "binarySearch0", "([JIIJ)I"⟩ : MethodName)) hown (mvT hZ (wd_50 hw)) (mvT hZ (wd_51 hw)) (mvT hZ (wd_45 hw)) (mvT hZ (wd_52 hw)) (by decide) (backOf (W := 0) (rmB0_0ins0 l Z a0 hw [] xa kk x h0 n0 Z0 V_xa) hZ (wd_52 hw) (wd_45 hw) (by decide) (by decide)) (g := (mkF m 11 #[.val (.ref xa), .val (.int (0 : Int32)), .val (.int (0 : Int32)), .val (.long x), .second] [(.long x), (.int (0 : Int32)), (.int (0 : Int32)), (.ref xa)])) rfl (by rw [hml]; rfl) (argsL := [(.ref xa), (.int (0 : Int32)), (.int (0 : Int32)), (.long x)]) (rest := []) (lenOf pd_1 rfl) rfl (by show 2 * 0 + _ ≤ _; exact Nat.le_of_eq rfl) (hb hby d7_11) (fun _ _ => ⟨rfl, hs2, (by decide : 0 + 0 ≤ _), (by decide : 0 + 0 ≤ _)⟩)
  dsimp only [Pt.U, Pt.locs, Pt.cells, Pt.slots] at X3 zl3 zy3 zz3 st3 hQ3
  subst zl3 zy3 zz3
  obtain ⟨rfl, N3q, hs3⟩ := hQ3
  have N3 := Fr.app N2 N3q
  refine own_go st3 ?_
  show own_G p e below Φ T3 (mkF m 14 #[.val (.ref xa), .val (.int (0 : Int32)), .val (.int (0 : Int32)), .val (.long x), .second] [(.int (-1 : Int32))])
  rw [hΦ]
  refine own_ret X3 (v := some (.int (-1 : Int32))) (fun h => by rw [Bd.returns] at h; cases h) (BodyLoose.notSynchronized Bd) (fun fs hr => retOut X3 hx Bd.returns rfl (Or.inl ⟨rfl, Or.inl rfl, _, rfl⟩) (hb hby d7_14) hr) ?_ (by decide) (by decide)
  rw [hs3]
  exact ⟨rfl, N3, rfl⟩
theorem d5_0 : decode prog_14_method_10_code 0 = .ok (.aload_n 0, 1) := by decide +kernel
theorem d5_1 : decode prog_14_method_10_code 1 = .ok (.getfield 9, 3) := by decide +kernel
theorem d5_4 : decode prog_14_method_10_code 4 = .ok (.iconst 0, 1) := by decide +kernel
theorem d5_5 : decode prog_14_method_10_code 5 = .ok (.aload_n 0, 1) := by decide +kernel
theorem d5_6 : decode prog_14_method_10_code 6 = .ok (.getfield 29, 3) := by decide +kernel
theorem wd_37 {Z : State} {a0 : Array Value} (hw : ∀ d ∈ tables_1, d.before a0 Z = true) : ((Jvm.Cond.fieldLink "corro/core/LimitLevels" (29 : Nat) "corro/core/LimitLevels" "size" "I") : Jvm.Cond).before a0 Z = true := hw _ (List.mem_of_getElem? (i := 37) rfl)
theorem d5_9 : decode prog_14_method_10_code 9 = .ok (.aload_n 0, 1) := by decide +kernel
theorem d5_10 : decode prog_14_method_10_code 10 = .ok (.lload_n 1, 1) := by decide +kernel
theorem d5_11 : decode prog_14_method_10_code 11 = .ok (.invokevirtual 54, 3) := by decide +kernel
theorem wd_39 {Z : State} {a0 : Array Value} (hw : ∀ d ∈ tables_1, d.before a0 Z = true) : ((Jvm.Cond.methodLink "corro/core/LimitLevels" (54 : Nat) ({ cls := "corro/core/LimitLevels", name := "key", desc := "(J)J" } : Jvm.MethodName)) : Jvm.Cond).before a0 Z = true := hw _ (List.mem_of_getElem? (i := 39) rfl)
theorem wd_42 {Z : State} {a0 : Array Value} (hw : ∀ d ∈ tables_1, d.before a0 Z = true) : ((Jvm.Cond.code ({ cls := "corro/core/LimitLevels", name := "key", desc := "(J)J" } : Jvm.MethodName) prog_14_method_11_code (3 : Nat) (Option.some Jvm.ClassFile.FieldType.long)) : Jvm.Cond).before a0 Z = true := hw _ (List.mem_of_getElem? (i := 42) rfl)
theorem wd_7 {Z : State} {a0 : Array Value} (hw : ∀ d ∈ tables_1, d.before a0 Z = true) : ((Jvm.Cond.initialized "corro/core/LimitLevels") : Jvm.Cond).before a0 Z = true := hw _ (List.mem_of_getElem? (i := 7) rfl)
theorem pd_2 : parseMethodDescriptor "(J)J" = some ⟨[.long], some .long⟩ := by decide +kernel
theorem wd_41 {Z : State} {a0 : Array Value} (hw : ∀ d ∈ tables_1, d.before a0 Z = true) : ((Jvm.Cond.privateMethod ({ cls := "corro/core/LimitLevels", name := "key", desc := "(J)J" } : Jvm.MethodName)) : Jvm.Cond).before a0 Z = true := hw _ (List.mem_of_getElem? (i := 41) rfl)
theorem wd_30 {Z : State} {a0 : Array Value} (hw : ∀ d ∈ tables_1, d.before a0 Z = true) : ((Jvm.Cond.instanceMethod ({ cls := "corro/core/LimitLevels", name := "getOrAdd", desc := "(J)Lcorro/core/Level;" } : Jvm.MethodName)) : Jvm.Cond).before a0 Z = true := hw _ (List.mem_of_getElem? (i := 30) rfl)
theorem wd_31 {Z : State} {a0 : Array Value} (hw : ∀ d ∈ tables_1, d.before a0 Z = true) : ((Jvm.Cond.selects "corro/core/LimitLevels" ({ cls := "corro/core/LimitLevels", name := "getOrAdd", desc := "(J)Lcorro/core/Level;" } : Jvm.MethodName) ({ cls := "corro/core/LimitLevels", name := "getOrAdd", desc := "(J)Lcorro/core/Level;" } : Jvm.MethodName)) : Jvm.Cond).before a0 Z = true := hw _ (List.mem_of_getElem? (i := 31) rfl)
theorem wd_40 {Z : State} {a0 : Array Value} (hw : ∀ d ∈ tables_1, d.before a0 Z = true) : ((Jvm.Cond.instanceMethod ({ cls := "corro/core/LimitLevels", name := "key", desc := "(J)J" } : Jvm.MethodName)) : Jvm.Cond).before a0 Z = true := hw _ (List.mem_of_getElem? (i := 40) rfl)
theorem d5_14 : decode prog_14_method_10_code 14 = .ok (.invokestatic 58, 3) := by decide +kernel
theorem wd_43 {Z : State} {a0 : Array Value} (hw : ∀ d ∈ tables_1, d.before a0 Z = true) : ((Jvm.Cond.methodLink "corro/core/LimitLevels" (58 : Nat) ({ cls := "java/util/Arrays", name := "binarySearch", desc := "([JIIJ)I" } : Jvm.MethodName)) : Jvm.Cond).before a0 Z = true := hw _ (List.mem_of_getElem? (i := 43) rfl)
theorem wd_46 {Z : State} {a0 : Array Value} (hw : ∀ d ∈ tables_1, d.before a0 Z = true) : ((Jvm.Cond.code ({ cls := "java/util/Arrays", name := "binarySearch", desc := "([JIIJ)I" } : Jvm.MethodName) jdk_65_method_55_code (5 : Nat) (Option.some Jvm.ClassFile.FieldType.int)) : Jvm.Cond).before a0 Z = true := hw _ (List.mem_of_getElem? (i := 46) rfl)
theorem wd_44 {Z : State} {a0 : Array Value} (hw : ∀ d ∈ tables_1, d.before a0 Z = true) : ((Jvm.Cond.static ({ cls := "java/util/Arrays", name := "binarySearch", desc := "([JIIJ)I" } : Jvm.MethodName)) : Jvm.Cond).before a0 Z = true := hw _ (List.mem_of_getElem? (i := 44) rfl)
theorem d5_17 : decode prog_14_method_10_code 17 = .ok (.ireturn, 1) := by decide +kernel
theorem ef_rmS_0ins0 (m : MethodId) (a1 : Addr) (q1 : Int64) : entryFrame m #[(.ref a1), (.long q1)] 3 = mkF m 0 #[.val (.ref a1), .val (.long q1), .second] [] := by first | (simp [entryFrame, mkF, argsToLocals, Value.category]; done) | rfl
def Q_rmS_0ins0 (Z : State) (a1 : Addr) (q1 : Int64) (hf : Int32) (xa : Addr) (kk : ClassId) (h0 : Heap) (n0 : Nat) (v : Option Value) (h : Heap) (L : List Loc) : Prop := v = some (.int (-1 : Int32)) ∧ Fr n0 L ∧ h = h0
set_option maxRecDepth 65536 in
set_option maxHeartbeats 40000000 in
theorem rmS_0ins0 (l : Launch) (Z : State) (a0 : Array Value) (hw : ∀ d ∈ tables_1, d.before a0 Z = true) (ws : List Jvm.Cond) (a1 : Addr) (q1 : Int64) (hf : Int32) (xa : Addr) (kk : ClassId) (h0 : Heap) (n0 : Nat) (Z0 : n0 ≤ h0.size) (E_a1 : Exa Z h0 a1 "corro/core/LimitLevels") (F_keys_a1 : Fld Z h0 a1 "corro/core/LimitLevels" "keys" "[J" (.ref xa)) (F_size_a1 : Fld Z h0 a1 "corro/core/LimitLevels" "size" "I" (.int (0 : Int32))) (F_highestFirst_a1 : Fld Z h0 a1 "corro/core/LimitLevels" "highestFirst" "Z" (.int hf)) (V_xa : Arv Z h0 xa kk .long (64 : Int32) [] (.long (0 : Int64))) :
    MetFree l (⟨"corro/core/LimitLevels", "search", "(J)I"⟩ : MethodName) (head1 (Jvm.Cond.code (⟨"corro/core/LimitLevels", "search", "(J)I"⟩ : MethodName) prog_14_method_10_code 3 (some .int) :: ws) ({ frames := 2, cells := 0, slots := 0, locals := 37 } : Room)) (fun a U => a = #[(.ref a1), (.long q1)] ∧ Z.Warmed39 U.vm ∧ U.heap = h0) (fun _ _ _ _ _ => True) (fun _ U o U' => ∃ v L, o = .returned v ∧ Q_rmS_0ins0 Z a1 q1 hf xa kk h0 n0 v U'.heap L ∧ FrameEnd U o U' L ({ frames := 2, cells := 0, slots := 0, locals := 37 } : Room).cells ({ frames := 2, cells := 0, slots := 0, locals := 37 } : Room).slots) := by
  refine MetFree.of_bodySF (plainFor_of_name pn_1) hisR ?_
  intro p e s m args below meth c s₁ Bd hml0 hP hK
  obtain ⟨rfl, hZ, hh⟩ := hP
  have hx := Bd.exec
  have hby := Bd.bytes
  have hml : c.maxLocals = 3 := hml0
  have hown : s.vm.findClass "corro/core/LimitLevels" = some m.cls := findClass_of_methodNamed Bd.named
  have hnm := (name_of_methodNamed Bd.named Bd.method).1
  have X0 : Stand p l e ({ frames := 2, cells := 0, slots := 0, locals := 37 } : Room) s m #[(.ref a1), (.long q1)] below meth c s₁ [] 0 0 := Stand.of_body Bd
  have e0 : s₁.heap = h0 := by rw [← hh, Bd.state]; rfl
  have N0 := Fr.nil n0
  suffices G0 : own_G p e below (own_E s below (Q_rmS_0ins0 Z a1 q1 hf xa kk h0 n0) ({ frames := 2, cells := 0, slots := 0, locals := 37 } : Room).cells ({ frames := 2, cells := 0, slots := 0, locals := 37 } : Room).slots) s₁ (mkF m 0 #[.val (.ref a1), .val (.long q1), .second] []) by
    obtain ⟨zt, zst, zo, zq1, zq2, zq3⟩ := G0
    exact ⟨zt, zo, castTop (ef_rmS_0ins0 m a1 q1) zst, zq1, zq2, zq3⟩
  obtain ⟨Φ, hΦ⟩ : ∃ Φ, Φ = own_E s below (Q_rmS_0ins0 Z a1 q1 hf xa kk h0 n0) ({ frames := 2, cells := 0, slots := 0, locals := 37 } : Room).cells ({ frames := 2, cells := 0, slots := 0, locals := 37 } : Room).slots := ⟨_, rfl⟩
  rw [← hΦ]
  show own_G p e below Φ s₁ (mkF m 0 #[.val (.ref a1), .val (.long q1), .second] [])
  refine own_go (fun _ => XS.aloadN X0.here hx rfl (hb hby d5_0) rfl rfl) ?_
  show own_G p e below Φ s₁ (mkF m 1 #[.val (.ref a1), .val (.long q1), .second] [(.ref a1)])
  obtain ⟨T1, X1, e1, st1⟩ := getF X0 hx hZ hown (host := "") (Or.inl (wd_18 hw)) Via.refl e0 F_keys_a1 (g := (mkF m 1 #[.val (.ref a1), .val (.long q1), .second] [(.ref a1)])) rfl rfl (hb hby d5_1)
  refine own_go st1 ?_
  refine own_go (fun _ => XS.iconst X1.here hx rfl (hb hby d5_4)) ?_
  refine own_go (fun _ => XS.aloadN X1.here hx rfl (hb hby d5_5) rfl rfl) ?_
  show own_G p e below Φ T1 (mkF m 6 #[.val (.ref a1), .val (.long q1), .second] [(.ref a1), (.int (0 : Int32)), (.ref xa)])
  obtain ⟨T2, X2, e2, st2⟩ := getF X1 hx hZ hown (host := "") (Or.inl (wd_37 hw)) Via.refl e1 F_size_a1 (g := (mkF m 6 #[.val (.ref a1), .val (.long q1), .second] [(.ref a1), (.int (0 : Int32)), (.ref xa)])) rfl rfl (hb hby d5_6)
  refine own_go st2 ?_
  refine own_go (fun _ => XS.aloadN X2.here hx rfl (hb hby d5_9) rfl rfl) ?_
  refine own_go (fun _ => XS.lloadN X2.here hx rfl (hb hby d5_10) rfl) ?_
  show own_G p e below Φ T2 (mkF m 11 #[.val (.ref a1), .val (.long q1), .second] [(.long q1), (.ref a1), (.int (0 : Int32)), (.int (0 : Int32)), (.ref xa)])
  obtain ⟨cq3, zc3, zc3z⟩ := E_a1.cell
  obtain ⟨_, _, ⟨T3, zL3, zk3, zn3⟩, -, X3, ⟨Lc3, hQ3, zl3, zy3, zz3⟩, st3⟩ := X2.privateBack hx (y := (⟨"corro/core/LimitLevels", "key", "(J)J"⟩ : MethodName)) hown (mvT hZ (wd_39 hw)) (mvT hZ (wd_40 hw)) (own_selp (x := (⟨"corro/core/LimitLevels", "getOrAdd", "(J)Lcorro/core/Level;"⟩ : MethodName)) rfl (mvT hZ (wd_30 hw)) (notFace_of_selects (args := #[]) (mvT hZ (wd_31 hw))) (Cond.privateMethod_at (mvP hZ (wd_41 hw) (args := #[]))) (mvT hZ (wd_40 hw)) (by decide)) (Cond.privateMethod_at (mvP hZ (wd_41 hw) (args := #[]))) (mvT hZ (wd_42 hw)) (by decide) (backOf (W := 3) (rmK l Z a0 hw [] a1 q1 hf h0 n0 Z0 F_highestFirst_a1) hZ (wd_42 hw) (wd_7 hw) (by decide) (by decide)) (g := (mkF m 11 #[.val (.ref a1), .val (.long q1), .second] [(.long q1), (.ref a1), (.int (0 : Int32)), (.int (0 : Int32)), (.ref xa)])) rfl (by rw [hml]; rfl) (Steps.refl _) (a := a1) (by rw [e2]; exact zc3) zc3z (argsL := [(.long q1)]) (rest := [(.int (0 : Int32)), (.int (0 : Int32)), (.ref xa)]) (lenOf pd_2 rfl) rfl (by show 2 * 0 + _ ≤ _; exact Nat.le_of_eq rfl) (hb hby d5_11) (fun _ _ => ⟨rfl, e2, (by decide : 0 + 0 ≤ _), (by decide : 0 + 0 ≤ _)⟩)
  dsimp only [Pt.U, Pt.locs, Pt.cells, Pt.slots] at X3 zl3 zy3 zz3 st3 hQ3
  subst zl3 zy3 zz3
  obtain ⟨rfl, N3q, hs3⟩ := hQ3
  have N3 := Fr.app N0 N3q
  refine own_on st3 ?_
  show own_G p e below Φ T3 (mkF m 14 #[.val (.ref a1), .val (.long q1), .second] [(.long (own_key hf q1)), (.int (0 : Int32)), (.int (0 : Int32)), (.ref xa)])
  obtain ⟨_, _, ⟨T4, zL4, zk4, zn4⟩, -, X4, ⟨Lc4, hQ4, zl4, zy4, zz4⟩, st4⟩ := Jvm.LawKit.callS X3 hx (y := (⟨"java/util/Arrays", "binarySearch", "([JIIJ)I"⟩ : MethodName)) hown (mvT hZ (wd_43 hw)) (mvT hZ (wd_44 hw)) (mvT hZ (wd_45 hw)) (mvT hZ (wd_46 hw)) (by decide) (backOf (W := 0) (rmB1_0ins0 l Z a0 hw [] xa kk (own_key hf q1) h0 n0 Z0 V_xa) hZ (wd_46 hw) (wd_45 hw) (by decide) (by decide)) (g := (mkF m 14 #[.val (.ref a1), .val (.long q1), .second] [(.long (own_key hf q1)), (.int (0 : Int32)), (.int (0 : Int32)), (.ref xa)])) rfl (by rw [hml]; rfl) (argsL := [(.ref xa), (.int (0 : Int32)), (.int (0 : Int32)), (.long (own_key hf q1))]) (rest := []) (lenOf pd_1 rfl) rfl (by show 2 * 0 + _ ≤ _; exact Nat.le_of_eq rfl) (hb hby d5_14) (fun _ _ => ⟨rfl, hs3, (by decide : 0 + 0 ≤ _), (by decide : 0 + 0 ≤ _)⟩)
  dsimp only [Pt.U, Pt.locs, Pt.cells, Pt.slots] at X4 zl4 zy4 zz4 st4 hQ4
  subst zl4 zy4 zz4
  obtain ⟨rfl, N4q, hs4⟩ := hQ4
  have N4 := Fr.app N3 N4q
  refine own_go st4 ?_
  show own_G p e below Φ T4 (mkF m 17 #[.val (.ref a1), .val (.long q1), .second] [(.int (-1 : Int32))])
  rw [hΦ]
  refine own_ret X4 (v := some (.int (-1 : Int32))) (fun h => by rw [Bd.returns] at h; cases h) (BodyLoose.notSynchronized Bd) (fun fs hr => retOut X4 hx Bd.returns rfl (Or.inl ⟨rfl, Or.inl rfl, _, rfl⟩) (hb hby d5_17) hr) ?_ (by decide) (by decide)
  rw [hs4]
  exact ⟨rfl, N4, rfl⟩
theorem d9_15 : decode jdk_65_method_56_code 15 = .ok (.iload 5, 2) := by decide +kernel
theorem d9_17 : decode jdk_65_method_56_code 17 = .ok (.iload 6, 2) := by decide +kernel
theorem d9_19 : decode jdk_65_method_56_code 19 = .ok (.iadd, 1) := by decide +kernel
theorem d9_20 : decode jdk_65_method_56_code 20 = .ok (.iconst 1, 1) := by decide +kernel
theorem d9_21 : decode jdk_65_method_56_code 21 = .ok (.iushr, 1) := by decide +kernel
theorem d9_22 : decode jdk_65_method_56_code 22 = .ok (.istore 7, 2) := by decide +kernel
theorem d9_24 : decode jdk_65_method_56_code 24 = .ok (.aload_n 0, 1) := by decide +kernel
theorem d9_25 : decode jdk_65_method_56_code 25 = .ok (.iload 7, 2) := by decide +kernel
theorem d9_27 : decode jdk_65_method_56_code 27 = .ok (.laload, 1) := by decide +kernel
theorem d9_28 : decode jdk_65_method_56_code 28 = .ok (.lstore 8, 2) := by decide +kernel
theorem d9_30 : decode jdk_65_method_56_code 30 = .ok (.lload 8, 2) := by decide +kernel
theorem d9_32 : decode jdk_65_method_56_code 32 = .ok (.lload_n 3, 1) := by decide +kernel
theorem d9_33 : decode jdk_65_method_56_code 33 = .ok (.lcmp, 1) := by decide +kernel
theorem d9_34 : decode jdk_65_method_56_code 34 = .ok (.ifCond .ge 12, 3) := by decide +kernel
theorem d9_46 : decode jdk_65_method_56_code 46 = .ok (.lload 8, 2) := by decide +kernel
theorem d9_48 : decode jdk_65_method_56_code 48 = .ok (.lload_n 3, 1) := by decide +kernel
theorem d9_49 : decode jdk_65_method_56_code 49 = .ok (.lcmp, 1) := by decide +kernel
theorem d9_50 : decode jdk_65_method_56_code 50 = .ok (.ifCond .le 12, 3) := by decide +kernel
theorem d9_53 : decode jdk_65_method_56_code 53 = .ok (.iload 7, 2) := by decide +kernel
theorem d9_55 : decode jdk_65_method_56_code 55 = .ok (.iconst 1, 1) := by decide +kernel
theorem d9_56 : decode jdk_65_method_56_code 56 = .ok (.isub, 1) := by decide +kernel
theorem d9_57 : decode jdk_65_method_56_code 57 = .ok (.istore 6, 2) := by decide +kernel
theorem d9_59 : decode jdk_65_method_56_code 59 = .ok (.goto 6, 3) := by decide +kernel
theorem d9_65 : decode jdk_65_method_56_code 65 = .ok (.goto (-57), 3) := by decide +kernel
theorem ef_rmB0_1ins0 (m : MethodId) (xa : Addr) (x : Int64) : entryFrame m #[(.ref xa), (.int (0 : Int32)), (.int (1 : Int32)), (.long x)] 10 = mkF m 0 #[.val (.ref xa), .val (.int (0 : Int32)), .val (.int (1 : Int32)), .val (.long x), .second, .unset, .unset, .unset, .unset, .unset] [] := by first | (simp [entryFrame, mkF, argsToLocals, Value.category]; done) | rfl
def Q_rmB0_1ins0 (Z : State) (xa : Addr) (kk : ClassId) (x : Int64) (k0 : Int64) (h0 : Heap) (n0 : Nat) (v : Option Value) (h : Heap) (L : List Loc) : Prop := v = some (.int (-1 : Int32)) ∧ Fr n0 L ∧ h = h0
set_option maxRecDepth 65536 in
set_option maxHeartbeats 40000000 in
theorem rmB0_1ins0 (l : Launch) (Z : State) (a0 : Array Value) (hw : ∀ d ∈ tables_1, d.before a0 Z = true) (ws : List Jvm.Cond) (xa : Addr) (kk : ClassId) (x : Int64) (k0 : Int64) (h0 : Heap) (n0 : Nat) (Z0 : n0 ≤ h0.size) (V_xa : Arv Z h0 xa kk .long (64 : Int32) [(.long k0)] (.long (0 : Int64))) (r0 : x < k0) :
    MetFree l (⟨"java/util/Arrays", "binarySearch0", "([JIIJ)I"⟩ : MethodName) (head1 (Jvm.Cond.code (⟨"java/util/Arrays", "binarySearch0", "([JIIJ)I"⟩ : MethodName) jdk_65_method_56_code 10 (some .int) :: ws) ({ frames := 0, cells := 0, slots := 0, locals := 0 } : Room)) (fun a U => a = #[(.ref xa), (.int (0 : Int32)), (.int (1 : Int32)), (.long x)] ∧ Z.Warmed39 U.vm ∧ U.heap = h0) (fun _ _ _ _ _ => True) (fun _ U o U' => ∃ v L, o = .returned v ∧ Q_rmB0_1ins0 Z xa kk x k0 h0 n0 v U'.heap L ∧ FrameEnd U o U' L ({ frames := 0, cells := 0, slots := 0, locals := 0 } : Room).cells ({ frames := 0, cells := 0, slots := 0, locals := 0 } : Room).slots) := by
  refine MetFree.of_bodySF (plainFor_of_name pn_3) hisR ?_
  intro p e s m args below meth c s₁ Bd hml0 hP hK
  obtain ⟨rfl, hZ, hh⟩ := hP
  have hx := Bd.exec
  have hby := Bd.bytes
  have hml : c.maxLocals = 10 := hml0
  have hown : s.vm.findClass "java/util/Arrays" = some m.cls := findClass_of_methodNamed Bd.named
  have hnm := (name_of_methodNamed Bd.named Bd.method).1
  have X0 : Stand p l e ({ frames := 0, cells := 0, slots := 0, locals := 0 } : Room) s m #[(.ref xa), (.int (0 : Int32)), (.int (1 : Int32)), (.long x)] below meth c s₁ [] 0 0 := Stand.of_body Bd
  have e0 : s₁.heap = h0 := by rw [← hh, Bd.state]; rfl
  have N0 := Fr.nil n0
  suffices G0 : own_G p e below (own_E s below (Q_rmB0_1ins0 Z xa kk x k0 h0 n0) ({ frames := 0, cells := 0, slots := 0, locals := 0 } : Room).cells ({ frames := 0, cells := 0, slots := 0, locals := 0 } : Room).slots) s₁ (mkF m 0 #[.val (.ref xa), .val (.int (0 : Int32)), .val (.int (1 : Int32)), .val (.long x), .second, .unset, .unset, .unset, .unset, .unset] []) by
    obtain ⟨zt, zst, zo, zq1, zq2, zq3⟩ := G0
    exact ⟨zt, zo, castTop (ef_rmB0_1ins0 m xa x) zst, zq1, zq2, zq3⟩
  obtain ⟨Φ, hΦ⟩ : ∃ Φ, Φ = own_E s below (Q_rmB0_1ins0 Z xa kk x k0 h0 n0) ({ frames := 0, cells := 0, slots := 0, locals := 0 } : Room).cells ({ frames := 0, cells := 0, slots := 0, locals := 0 } : Room).slots := ⟨_, rfl⟩
  rw [← hΦ]
  show own_G p e below Φ s₁ (mkF m 0 #[.val (.ref xa), .val (.int (0 : Int32)), .val (.int (1 : Int32)), .val (.long x), .second, .unset, .unset, .unset, .unset, .unset] [])
  refine own_go (fun _ => XS.iloadN X0.here hx rfl (hb hby d9_0) rfl) ?_
  refine own_go (fun _ => XS.istore X0.here hx rfl (hb hby d9_1) rfl (l' := #[.val (.ref xa), .val (.int (0 : Int32)), .val (.int (1 : Int32)), .val (.long x), .second, .val (.int (0 : Int32)), .unset, .unset, .unset, .unset]) rfl) ?_
  refine own_go (fun _ => XS.iloadN X0.here hx rfl (hb hby d9_3) rfl) ?_
  show own_G p e below Φ s₁ (mkF m 4 #[.val (.ref xa), .val (.int (0 : Int32)), .val (.int (1 : Int32)), .val (.long x), .second, .val (.int (0 : Int32)), .unset, .unset, .unset, .unset] [(.int (1 : Int32))])
  refine own_go (fun _ => XS.iconst X0.here hx rfl (hb hby d9_4)) ?_
  show own_G p e below Φ s₁ (mkF m 5 #[.val (.ref xa), .val (.int (0 : Int32)), .val (.int (1 : Int32)), .val (.long x), .second, .val (.int (0 : Int32)), .unset, .unset, .unset, .unset] [(.int (1 : Int32)), (.int (1 : Int32))])
  refine own_go (fun _ => XS.isub X0.here hx rfl (hb hby d9_5) rfl) ?_
  refine own_go (fun _ => XS.istore X0.here hx rfl (hb hby d9_6) rfl (l' := #[.val (.ref xa), .val (.int (0 : Int32)), .val (.int (1 : Int32)), .val (.long x), .second, .val (.int (0 : Int32)), .val (.int (0 : Int32)), .unset, .unset, .unset]) rfl) ?_
  refine own_go (fun _ => XS.iload X0.here hx rfl (hb hby d9_8) rfl) ?_
  show own_G p e below Φ s₁ (mkF m 10 #[.val (.ref xa), .val (.int (0 : Int32)), .val (.int (1 : Int32)), .val (.long x), .second, .val (.int (0 : Int32)), .val (.int (0 : Int32)), .unset, .unset, .unset] [(.int (0 : Int32))])
  refine own_go (fun _ => XS.iload X0.here hx rfl (hb hby d9_10) rfl) ?_
  show own_G p e below Φ s₁ (mkF m 12 #[.val (.ref xa), .val (.int (0 : Int32)), .val (.int (1 : Int32)), .val (.long x), .second, .val (.int (0 : Int32)), .val (.int (0 : Int32)), .unset, .unset, .unset] [(.int (0 : Int32)), (.int (0 : Int32))])
  refine own_go (fun _ => XS.icmpNo X0.here hx rfl (hb hby d9_12) rfl (Jvm.Free.XT.ii_gt_f (by decide : ¬ ((0 : Int32) < (0 : Int32))))) ?_
  refine own_go (fun _ => XS.iload X0.here hx rfl (hb hby d9_15) rfl) ?_
  refine own_go (fun _ => XS.iload X0.here hx rfl (hb hby d9_17) rfl) ?_
  show own_G p e below Φ s₁ (mkF m 19 #[.val (.ref xa), .val (.int (0 : Int32)), .val (.int (1 : Int32)), .val (.long x), .second, .val (.int (0 : Int32)), .val (.int (0 : Int32)), .unset, .unset, .unset] [(.int (0 : Int32)), (.int (0 : Int32))])
  refine own_go (fun _ => XS.iadd X0.here hx rfl (hb hby d9_19) rfl) ?_
  refine own_go (fun _ => XS.iconst X0.here hx rfl (hb hby d9_20)) ?_
  show own_G p e below Φ s₁ (mkF m 21 #[.val (.ref xa), .val (.int (0 : Int32)), .val (.int (1 : Int32)), .val (.long x), .second, .val (.int (0 : Int32)), .val (.int (0 : Int32)), .unset, .unset, .unset] [(.int (1 : Int32)), (.int (0 : Int32))])
  refine own_go (fun _ => XS.iushr X0.here hx rfl (hb hby d9_21) rfl) ?_
  refine own_go (fun _ => XS.istore X0.here hx rfl (hb hby d9_22) rfl (l' := #[.val (.ref xa), .val (.int (0 : Int32)), .val (.int (1 : Int32)), .val (.long x), .second, .val (.int (0 : Int32)), .val (.int (0 : Int32)), .val (.int (0 : Int32)), .unset, .unset]) rfl) ?_
  refine own_go (fun _ => XS.aloadN X0.here hx rfl (hb hby d9_24) rfl rfl) ?_
  show own_G p e below Φ s₁ (mkF m 25 #[.val (.ref xa), .val (.int (0 : Int32)), .val (.int (1 : Int32)), .val (.long x), .second, .val (.int (0 : Int32)), .val (.int (0 : Int32)), .val (.int (0 : Int32)), .unset, .unset] [(.ref xa)])
  refine own_go (fun _ => XS.iload X0.here hx rfl (hb hby d9_25) rfl) ?_
  show own_G p e below Φ s₁ (mkF m 27 #[.val (.ref xa), .val (.int (0 : Int32)), .val (.int (1 : Int32)), .val (.long x), .second, .val (.int (0 : Int32)), .val (.int (0 : Int32)), .val (.int (0 : Int32)), .unset, .unset] [(.int (0 : Int32)), (.ref xa)])
  obtain ⟨cl1, Ar1, zq1, S1, M1, H1, G1⟩ := id V_xa
  have hin1 : ¬ ((0 : Int32) < 0 ∨ cl1.slots.size ≤ ((0 : Int32)).toNatClampNeg) := inb_of S1 ⟨by decide, by decide⟩
  refine own_go (fun _ => X0.laload hx (j := (0 : Int32)) (v := (.long k0)) (by rw [e0]; exact Ar1.1) (State.isArrayOf_alike hZ.alike Ar1.2.1) Ar1.2.2 hin1 (H1.at hin1 rfl) (g := (mkF m 27 #[.val (.ref xa), .val (.int (0 : Int32)), .val (.int (1 : Int32)), .val (.long x), .second, .val (.int (0 : Int32)), .val (.int (0 : Int32)), .val (.int (0 : Int32)), .unset, .unset] [(.int (0 : Int32)), (.ref xa)])) rfl rfl (hb hby d9_27) _) ?_
  refine own_go (fun _ => XS.lstore X0.here hx rfl (hb hby d9_28) rfl (l' := #[.val (.ref xa), .val (.int (0 : Int32)), .val (.int (1 : Int32)), .val (.long x), .second, .val (.int (0 : Int32)), .val (.int (0 : Int32)), .val (.int (0 : Int32)), .val (.long k0), .second]) rfl) ?_
  refine own_go (fun _ => XS.lload X0.here hx rfl (hb hby d9_30) rfl) ?_
  show own_G p e below Φ s₁ (mkF m 32 #[.val (.ref xa), .val (.int (0 : Int32)), .val (.int (1 : Int32)), .val (.long x), .second, .val (.int (0 : Int32)), .val (.int (0 : Int32)), .val (.int (0 : Int32)), .val (.long k0), .second] [(.long k0)])
  refine own_go (fun _ => XS.lloadN X0.here hx rfl (hb hby d9_32) rfl) ?_
  show own_G p e below Φ s₁ (mkF m 33 #[.val (.ref xa), .val (.int (0 : Int32)), .val (.int (1 : Int32)), .val (.long x), .second, .val (.int (0 : Int32)), .val (.int (0 : Int32)), .val (.int (0 : Int32)), .val (.long k0), .second] [(.long x), (.long k0)])
  refine own_go (fun _ => XS.lcmp X0.here hx rfl (hb hby d9_33) rfl) ?_
  show own_G p e below Φ s₁ (mkF m 34 #[.val (.ref xa), .val (.int (0 : Int32)), .val (.int (1 : Int32)), .val (.long x), .second, .val (.int (0 : Int32)), .val (.int (0 : Int32)), .val (.int (0 : Int32)), .val (.long k0), .second] [(.int (lcmpW k0 x))])
  refine own_go (fun _ => XS.ifYes X0.here hx rfl (pc0 := 34) (pc' := 46) rfl (hb hby d9_34) rfl (Jvm.Free.XT.ll_ge_t (own_asy r0)) (by decide) (by decide)) ?_
  refine own_go (fun _ => XS.lload X0.here hx rfl (hb hby d9_46) rfl) ?_
  refine own_go (fun _ => XS.lloadN X0.here hx rfl (hb hby d9_48) rfl) ?_
  show own_G p e below Φ s₁ (mkF m 49 #[.val (.ref xa), .val (.int (0 : Int32)), .val (.int (1 : Int32)), .val (.long x), .second, .val (.int (0 : Int32)), .val (.int (0 : Int32)), .val (.int (0 : Int32)), .val (.long k0), .second] [(.long x), (.long k0)])
  refine own_go (fun _ => XS.lcmp X0.here hx rfl (hb hby d9_49) rfl) ?_
  show own_G p e below Φ s₁ (mkF m 50 #[.val (.ref xa), .val (.int (0 : Int32)), .val (.int (1 : Int32)), .val (.long x), .second, .val (.int (0 : Int32)), .val (.int (0 : Int32)), .val (.int (0 : Int32)), .val (.long k0), .second] [(.int (lcmpW k0 x))])
  refine own_go (fun _ => XS.ifNo X0.here hx rfl (hb hby d9_50) rfl (Jvm.Free.XT.ll_le_f r0)) ?_
  refine own_go (fun _ => XS.iload X0.here hx rfl (hb hby d9_53) rfl) ?_
  refine own_go (fun _ => XS.iconst X0.here hx rfl (hb hby d9_55)) ?_
  show own_G p e below Φ s₁ (mkF m 56 #[.val (.ref xa), .val (.int (0 : Int32)), .val (.int (1 : Int32)), .val (.long x), .second, .val (.int (0 : Int32)), .val (.int (0 : Int32)), .val (.int (0 : Int32)), .val (.long k0), .second] [(.int (1 : Int32)), (.int (0 : Int32))])
  refine own_go (fun _ => XS.isub X0.here hx rfl (hb hby d9_56) rfl) ?_
  refine own_go (fun _ => XS.istore X0.here hx rfl (hb hby d9_57) rfl (l' := #[.val (.ref xa), .val (.int (0 : Int32)), .val (.int (1 : Int32)), .val (.long x), .second, .val (.int (0 : Int32)), .val (.int (-1 : Int32)), .val (.int (0 : Int32)), .val (.long k0), .second]) rfl) ?_
  refine own_go (fun _ => XS.goto X0.here hx rfl (pc0 := 59) (pc' := 65) rfl (hb hby d9_59) (by decide) (by decide)) ?_
  show own_G p e below Φ s₁ (mkF m 65 #[.val (.ref xa), .val (.int (0 : Int32)), .val (.int (1 : Int32)), .val (.long x), .second, .val (.int (0 : Int32)), .val (.int (-1 : Int32)), .val (.int (0 : Int32)), .val (.long k0), .second] [])
  refine own_go (fun _ => XS.goto X0.here hx rfl (pc0 := 65) (pc' := 8) rfl (hb hby d9_65) (by decide) (by decide)) ?_
  refine own_go (fun _ => XS.iload X0.here hx rfl (hb hby d9_8) rfl) ?_
  refine own_go (fun _ => XS.iload X0.here hx rfl (hb hby d9_10) rfl) ?_
  show own_G p e below Φ s₁ (mkF m 12 #[.val (.ref xa), .val (.int (0 : Int32)), .val (.int (1 : Int32)), .val (.long x), .second, .val (.int (0 : Int32)), .val (.int (-1 : Int32)), .val (.int (0 : Int32)), .val (.long k0), .second] [(.int (-1 : Int32)), (.int (0 : Int32))])
  refine own_go (fun _ => XS.icmpYes X0.here hx rfl (pc0 := 12) (pc' := 68) rfl (hb hby d9_12) rfl (Jvm.Free.XT.ii_gt_t (by decide : ((-1 : Int32) < (0 : Int32)))) (by decide) (by decide)) ?_
  refine own_go (fun _ => XS.iload X0.here hx rfl (hb hby d9_68) rfl) ?_
  refine own_go (fun _ => XS.iconst X0.here hx rfl (hb hby d9_70)) ?_
  show own_G p e below Φ s₁ (mkF m 71 #[.val (.ref xa), .val (.int (0 : Int32)), .val (.int (1 : Int32)), .val (.long x), .second, .val (.int (0 : Int32)), .val (.int (-1 : Int32)), .val (.int (0 : Int32)), .val (.long k0), .second] [(.int (1 : Int32)), (.int (0 : Int32))])
  refine own_go (fun _ => XS.iadd X0.here hx rfl (hb hby d9_71) rfl) ?_
  show own_G p e below Φ s₁ (mkF m 72 #[.val (.ref xa), .val (.int (0 : Int32)), .val (.int (1 : Int32)), .val (.long x), .second, .val (.int (0 : Int32)), .val (.int (-1 : Int32)), .val (.int (0 : Int32)), .val (.long k0), .second] [(.int (1 : Int32))])
  refine own_go (fun _ => XS.ineg X0.here hx rfl (hb hby d9_72) rfl) ?_
  show own_G p e below Φ s₁ (mkF m 73 #[.val (.ref xa), .val (.int (0 : Int32)), .val (.int (1 : Int32)), .val (.long x), .second, .val (.int (0 : Int32)), .val (.int (-1 : Int32)), .val (.int (0 : Int32)), .val (.long k0), .second] [(.int (-1 : Int32))])
  rw [hΦ]
  refine own_ret X0 (v := some (.int (-1 : Int32))) (fun h => by rw [Bd.returns] at h; cases h) (BodyLoose.notSynchronized Bd) (fun fs hr => retOut X0 hx Bd.returns rfl (Or.inl ⟨rfl, Or.inl rfl, _, rfl⟩) (hb hby d9_73) hr) ?_ (by decide) (by decide)
  rw [e0]
  exact ⟨rfl, N0, rfl⟩
theorem ef_rmB1_1ins0 (m : MethodId) (xa : Addr) (x : Int64) : entryFrame m #[(.ref xa), (.int (0 : Int32)), (.int (1 : Int32)), (.long x)] 5 = mkF m 0 #[.val (.ref xa), .val (.int (0 : Int32)), .val (.int (1 : Int32)), .val (.long x), .second] [] := by first | (simp [entryFrame, mkF, argsToLocals, Value.category]; done) | rfl
def Q_rmB1_1ins0 (Z : State) (xa : Addr) (kk : ClassId) (x : Int64) (k0 : Int64) (h0 : Heap) (n0 : Nat) (v : Option Value) (h : Heap) (L : List Loc) : Prop := v = some (.int (-1 : Int32)) ∧ Fr n0 L ∧ h = h0
set_option maxRecDepth 65536 in
set_option maxHeartbeats 40000000 in
theorem rmB1_1ins0 (l : Launch) (Z : State) (a0 : Array Value) (hw : ∀ d ∈ tables_1, d.before a0 Z = true) (ws : List Jvm.Cond) (xa : Addr) (kk : ClassId) (x : Int64) (k0 : Int64) (h0 : Heap) (n0 : Nat) (Z0 : n0 ≤ h0.size) (V_xa : Arv Z h0 xa kk .long (64 : Int32) [(.long k0)] (.long (0 : Int64))) (r0 : x < k0) :
    MetFree l (⟨"java/util/Arrays", "binarySearch", "([JIIJ)I"⟩ : MethodName) (head1 (Jvm.Cond.code (⟨"java/util/Arrays", "binarySearch", "([JIIJ)I"⟩ : MethodName) jdk_65_method_55_code 5 (some .int) :: ws) ({ frames := 1, cells := 0, slots := 0, locals := 21 } : Room)) (fun a U => a = #[(.ref xa), (.int (0 : Int32)), (.int (1 : Int32)), (.long x)] ∧ Z.Warmed39 U.vm ∧ U.heap = h0) (fun _ _ _ _ _ => True) (fun _ U o U' => ∃ v L, o = .returned v ∧ Q_rmB1_1ins0 Z xa kk x k0 h0 n0 v U'.heap L ∧ FrameEnd U o U' L ({ frames := 1, cells := 0, slots := 0, locals := 21 } : Room).cells ({ frames := 1, cells := 0, slots := 0, locals := 21 } : Room).slots) := by
  refine MetFree.of_bodySF (plainFor_of_name pn_3) hisR ?_
  intro p e s m args below meth c s₁ Bd hml0 hP hK
  obtain ⟨rfl, hZ, hh⟩ := hP
  have hx := Bd.exec
  have hby := Bd.bytes
  have hml : c.maxLocals = 5 := hml0
  have hown : s.vm.findClass "java/util/Arrays" = some m.cls := findClass_of_methodNamed Bd.named
  have hnm := (name_of_methodNamed Bd.named Bd.method).1
  have X0 : Stand p l e ({ frames := 1, cells := 0, slots := 0, locals := 21 } : Room) s m #[(.ref xa), (.int (0 : Int32)), (.int (1 : Int32)), (.long x)] below meth c s₁ [] 0 0 := Stand.of_body Bd
  have e0 : s₁.heap = h0 := by rw [← hh, Bd.state]; rfl
  have N0 := Fr.nil n0
  suffices G0 : own_G p e below (own_E s below (Q_rmB1_1ins0 Z xa kk x k0 h0 n0) ({ frames := 1, cells := 0, slots := 0, locals := 21 } : Room).cells ({ frames := 1, cells := 0, slots := 0, locals := 21 } : Room).slots) s₁ (mkF m 0 #[.val (.ref xa), .val (.int (0 : Int32)), .val (.int (1 : Int32)), .val (.long x), .second] []) by
    obtain ⟨zt, zst, zo, zq1, zq2, zq3⟩ := G0
    exact ⟨zt, zo, castTop (ef_rmB1_1ins0 m xa x) zst, zq1, zq2, zq3⟩
  obtain ⟨Φ, hΦ⟩ : ∃ Φ, Φ = own_E s below (Q_rmB1_1ins0 Z xa kk x k0 h0 n0) ({ frames := 1, cells := 0, slots := 0, locals := 21 } : Room).cells ({ frames := 1, cells := 0, slots := 0, locals := 21 } : Room).slots := ⟨_, rfl⟩
  rw [← hΦ]
  show own_G p e below Φ s₁ (mkF m 0 #[.val (.ref xa), .val (.int (0 : Int32)), .val (.int (1 : Int32)), .val (.long x), .second] [])
  refine own_go (fun _ => XS.aloadN X0.here hx rfl (hb hby d7_0) rfl rfl) ?_
  show own_G p e below Φ s₁ (mkF m 1 #[.val (.ref xa), .val (.int (0 : Int32)), .val (.int (1 : Int32)), .val (.long x), .second] [(.ref xa)])
  obtain ⟨cl1, Ar1, zq1, S1, M1, H1, G1⟩ := id V_xa
  refine own_go (fun _ => X0.arraylength hx (by rw [e0]; exact Ar1.1) (State.isArrayOf_alike hZ.alike Ar1.2.1) (g := (mkF m 1 #[.val (.ref xa), .val (.int (0 : Int32)), .val (.int (1 : Int32)), .val (.long x), .second] [(.ref xa)])) rfl rfl (hb hby d7_1) _) ?_
  rw [len_of S1 M1]
  refine own_go (fun _ => XS.iloadN X0.here hx rfl (hb hby d7_2) rfl) ?_
  refine own_go (fun _ => XS.iloadN X0.here hx rfl (hb hby d7_3) rfl) ?_
  show own_G p e below Φ s₁ (mkF m 4 #[.val (.ref xa), .val (.int (0 : Int32)), .val (.int (1 : Int32)), .val (.long x), .second] [(.int (1 : Int32)), (.int (0 : Int32)), (.int (64 : Int32))])
  obtain ⟨_, _, ⟨T2, zL2, zk2, zn2⟩, -, X2, ⟨Lc2, hQ2, zl2, zy2, zz2⟩, st2⟩ := Jvm.LawKit.callS X0 hx (y := (⟨"java/util/Arrays", "rangeCheck", "(III)V"⟩ : MethodName)) hown (mvT hZ (wd_47 hw)) (mvT hZ (wd_48 hw)) (mvT hZ (wd_45 hw)) (mvT hZ (wd_49 hw)) (by decide) (backOf (W := 0) (rmR1 l Z a0 hw []  h0 n0 Z0 ) hZ (wd_49 hw) (wd_45 hw) (by decide) (by decide)) (g := (mkF m 4 #[.val (.ref xa), .val (.int (0 : Int32)), .val (.int (1 : Int32)), .val (.long x), .second] [(.int (1 : Int32)), (.int (0 : Int32)), (.int (64 : Int32))])) rfl (by rw [hml]; rfl) (argsL := [(.int (64 : Int32)), (.int (0 : Int32)), (.int (1 : Int32))]) (rest := []) (lenOf pd_0 rfl) rfl (by show 2 * 0 + _ ≤ _; exact Nat.le_of_eq rfl) (hb hby d7_4) (fun _ _ => ⟨rfl, e0, (by decide : 0 + 0 ≤ _), (by decide : 0 + 0 ≤ _)⟩)
  dsimp only [Pt.U, Pt.locs, Pt.cells, Pt.slots] at X2 zl2 zy2 zz2 st2 hQ2
  subst zl2 zy2 zz2
  obtain ⟨rfl, N2q, hs2⟩ := hQ2
  have N2 := Fr.app N0 N2q
  refine own_go st2 ?_
  refine own_go (fun _ => XS.aloadN X2.here hx rfl (hb hby d7_7) rfl rfl) ?_
  refine own_go (fun _ => XS.iloadN X2.here hx rfl (hb hby d7_8) rfl) ?_
  show own_G p e below Φ T2 (mkF m 9 #[.val (.ref xa), .val (.int (0 : Int32)), .val (.int (1 : Int32)), .val (.long x), .second] [(.int (0 : Int32)), (.ref xa)])
  refine own_go (fun _ => XS.iloadN X2.here hx rfl (hb hby d7_9) rfl) ?_
  refine own_go (fun _ => XS.lloadN X2.here hx rfl (hb hby d7_10) rfl) ?_
  show own_G p e below Φ T2 (mkF m 11 #[.val (.ref xa), .val (.int (0 : Int32)), .val (.int (1 : Int32)), .val (.long x), .second] [(.long x), (.int (1 : Int32)), (.int (0 : Int32)), (.ref xa)])
  obtain ⟨_, _, ⟨T3, zL3, zk3, zn3⟩, -, X3, ⟨Lc3, hQ3, zl3, zy3, zz3⟩, st3⟩ := Jvm.LawKit.callS X2 hx (y := (⟨"java/util/Arrays", "binarySearch0", "([JIIJ)I"⟩ : MethodName)) hown (mvT hZ (wd_50 hw)) (mvT hZ (wd_51 hw)) (mvT hZ (wd_45 hw)) (mvT hZ (wd_52 hw)) (by decide) (backOf (W := 0) (rmB0_1ins0 l Z a0 hw [] xa kk x k0 h0 n0 Z0 V_xa r0) hZ (wd_52 hw) (wd_45 hw) (by decide) (by decide)) (g := (mkF m 11 #[.val (.ref xa), .val (.int (0 : Int32)), .val (.int (1 : Int32)), .val (.long x), .second] [(.long x), (.int (1 : Int32)), (.int (0 : Int32)), (.ref xa)])) rfl (by rw [hml]; rfl) (argsL := [(.ref xa), (.int (0 : Int32)), (.int (1 : Int32)), (.long x)]) (rest := []) (lenOf pd_1 rfl) rfl (by show 2 * 0 + _ ≤ _; exact Nat.le_of_eq rfl) (hb hby d7_11) (fun _ _ => ⟨rfl, hs2, (by decide : 0 + 0 ≤ _), (by decide : 0 + 0 ≤ _)⟩)
  dsimp only [Pt.U, Pt.locs, Pt.cells, Pt.slots] at X3 zl3 zy3 zz3 st3 hQ3
  subst zl3 zy3 zz3
  obtain ⟨rfl, N3q, hs3⟩ := hQ3
  have N3 := Fr.app N2 N3q
  refine own_go st3 ?_
  show own_G p e below Φ T3 (mkF m 14 #[.val (.ref xa), .val (.int (0 : Int32)), .val (.int (1 : Int32)), .val (.long x), .second] [(.int (-1 : Int32))])
  rw [hΦ]
  refine own_ret X3 (v := some (.int (-1 : Int32))) (fun h => by rw [Bd.returns] at h; cases h) (BodyLoose.notSynchronized Bd) (fun fs hr => retOut X3 hx Bd.returns rfl (Or.inl ⟨rfl, Or.inl rfl, _, rfl⟩) (hb hby d7_14) hr) ?_ (by decide) (by decide)
  rw [hs3]
  exact ⟨rfl, N3, rfl⟩
theorem ef_rmS_1ins0 (m : MethodId) (a1 : Addr) (q1 : Int64) : entryFrame m #[(.ref a1), (.long q1)] 3 = mkF m 0 #[.val (.ref a1), .val (.long q1), .second] [] := by first | (simp [entryFrame, mkF, argsToLocals, Value.category]; done) | rfl
def Q_rmS_1ins0 (Z : State) (a1 : Addr) (q1 : Int64) (hf : Int32) (xa : Addr) (kk : ClassId) (k0 : Int64) (h0 : Heap) (n0 : Nat) (v : Option Value) (h : Heap) (L : List Loc) : Prop := v = some (.int (-1 : Int32)) ∧ Fr n0 L ∧ h = h0
set_option maxRecDepth 65536 in
set_option maxHeartbeats 40000000 in
theorem rmS_1ins0 (l : Launch) (Z : State) (a0 : Array Value) (hw : ∀ d ∈ tables_1, d.before a0 Z = true) (ws : List Jvm.Cond) (a1 : Addr) (q1 : Int64) (hf : Int32) (xa : Addr) (kk : ClassId) (k0 : Int64) (h0 : Heap) (n0 : Nat) (Z0 : n0 ≤ h0.size) (E_a1 : Exa Z h0 a1 "corro/core/LimitLevels") (F_keys_a1 : Fld Z h0 a1 "corro/core/LimitLevels" "keys" "[J" (.ref xa)) (F_size_a1 : Fld Z h0 a1 "corro/core/LimitLevels" "size" "I" (.int (1 : Int32))) (F_highestFirst_a1 : Fld Z h0 a1 "corro/core/LimitLevels" "highestFirst" "Z" (.int hf)) (V_xa : Arv Z h0 xa kk .long (64 : Int32) [(.long k0)] (.long (0 : Int64))) (r0 : (own_key hf q1) < k0) :
    MetFree l (⟨"corro/core/LimitLevels", "search", "(J)I"⟩ : MethodName) (head1 (Jvm.Cond.code (⟨"corro/core/LimitLevels", "search", "(J)I"⟩ : MethodName) prog_14_method_10_code 3 (some .int) :: ws) ({ frames := 2, cells := 0, slots := 0, locals := 37 } : Room)) (fun a U => a = #[(.ref a1), (.long q1)] ∧ Z.Warmed39 U.vm ∧ U.heap = h0) (fun _ _ _ _ _ => True) (fun _ U o U' => ∃ v L, o = .returned v ∧ Q_rmS_1ins0 Z a1 q1 hf xa kk k0 h0 n0 v U'.heap L ∧ FrameEnd U o U' L ({ frames := 2, cells := 0, slots := 0, locals := 37 } : Room).cells ({ frames := 2, cells := 0, slots := 0, locals := 37 } : Room).slots) := by
  refine MetFree.of_bodySF (plainFor_of_name pn_1) hisR ?_
  intro p e s m args below meth c s₁ Bd hml0 hP hK
  obtain ⟨rfl, hZ, hh⟩ := hP
  have hx := Bd.exec
  have hby := Bd.bytes
  have hml : c.maxLocals = 3 := hml0
  have hown : s.vm.findClass "corro/core/LimitLevels" = some m.cls := findClass_of_methodNamed Bd.named
  have hnm := (name_of_methodNamed Bd.named Bd.method).1
  have X0 : Stand p l e ({ frames := 2, cells := 0, slots := 0, locals := 37 } : Room) s m #[(.ref a1), (.long q1)] below meth c s₁ [] 0 0 := Stand.of_body Bd
  have e0 : s₁.heap = h0 := by rw [← hh, Bd.state]; rfl
  have N0 := Fr.nil n0
  suffices G0 : own_G p e below (own_E s below (Q_rmS_1ins0 Z a1 q1 hf xa kk k0 h0 n0) ({ frames := 2, cells := 0, slots := 0, locals := 37 } : Room).cells ({ frames := 2, cells := 0, slots := 0, locals := 37 } : Room).slots) s₁ (mkF m 0 #[.val (.ref a1), .val (.long q1), .second] []) by
    obtain ⟨zt, zst, zo, zq1, zq2, zq3⟩ := G0
    exact ⟨zt, zo, castTop (ef_rmS_1ins0 m a1 q1) zst, zq1, zq2, zq3⟩
  obtain ⟨Φ, hΦ⟩ : ∃ Φ, Φ = own_E s below (Q_rmS_1ins0 Z a1 q1 hf xa kk k0 h0 n0) ({ frames := 2, cells := 0, slots := 0, locals := 37 } : Room).cells ({ frames := 2, cells := 0, slots := 0, locals := 37 } : Room).slots := ⟨_, rfl⟩
  rw [← hΦ]
  show own_G p e below Φ s₁ (mkF m 0 #[.val (.ref a1), .val (.long q1), .second] [])
  refine own_go (fun _ => XS.aloadN X0.here hx rfl (hb hby d5_0) rfl rfl) ?_
  show own_G p e below Φ s₁ (mkF m 1 #[.val (.ref a1), .val (.long q1), .second] [(.ref a1)])
  obtain ⟨T1, X1, e1, st1⟩ := getF X0 hx hZ hown (host := "") (Or.inl (wd_18 hw)) Via.refl e0 F_keys_a1 (g := (mkF m 1 #[.val (.ref a1), .val (.long q1), .second] [(.ref a1)])) rfl rfl (hb hby d5_1)
  refine own_go st1 ?_
  refine own_go (fun _ => XS.iconst X1.here hx rfl (hb hby d5_4)) ?_
  refine own_go (fun _ => XS.aloadN X1.here hx rfl (hb hby d5_5) rfl rfl) ?_
  show own_G p e below Φ T1 (mkF m 6 #[.val (.ref a1), .val (.long q1), .second] [(.ref a1), (.int (0 : Int32)), (.ref xa)])
  obtain ⟨T2, X2, e2, st2⟩ := getF X1 hx hZ hown (host := "") (Or.inl (wd_37 hw)) Via.refl e1 F_size_a1 (g := (mkF m 6 #[.val (.ref a1), .val (.long q1), .second] [(.ref a1), (.int (0 : Int32)), (.ref xa)])) rfl rfl (hb hby d5_6)
  refine own_go st2 ?_
  refine own_go (fun _ => XS.aloadN X2.here hx rfl (hb hby d5_9) rfl rfl) ?_
  refine own_go (fun _ => XS.lloadN X2.here hx rfl (hb hby d5_10) rfl) ?_
  show own_G p e below Φ T2 (mkF m 11 #[.val (.ref a1), .val (.long q1), .second] [(.long q1), (.ref a1), (.int (1 : Int32)), (.int (0 : Int32)), (.ref xa)])
  obtain ⟨cq3, zc3, zc3z⟩ := E_a1.cell
  obtain ⟨_, _, ⟨T3, zL3, zk3, zn3⟩, -, X3, ⟨Lc3, hQ3, zl3, zy3, zz3⟩, st3⟩ := X2.privateBack hx (y := (⟨"corro/core/LimitLevels", "key", "(J)J"⟩ : MethodName)) hown (mvT hZ (wd_39 hw)) (mvT hZ (wd_40 hw)) (own_selp (x := (⟨"corro/core/LimitLevels", "getOrAdd", "(J)Lcorro/core/Level;"⟩ : MethodName)) rfl (mvT hZ (wd_30 hw)) (notFace_of_selects (args := #[]) (mvT hZ (wd_31 hw))) (Cond.privateMethod_at (mvP hZ (wd_41 hw) (args := #[]))) (mvT hZ (wd_40 hw)) (by decide)) (Cond.privateMethod_at (mvP hZ (wd_41 hw) (args := #[]))) (mvT hZ (wd_42 hw)) (by decide) (backOf (W := 3) (rmK l Z a0 hw [] a1 q1 hf h0 n0 Z0 F_highestFirst_a1) hZ (wd_42 hw) (wd_7 hw) (by decide) (by decide)) (g := (mkF m 11 #[.val (.ref a1), .val (.long q1), .second] [(.long q1), (.ref a1), (.int (1 : Int32)), (.int (0 : Int32)), (.ref xa)])) rfl (by rw [hml]; rfl) (Steps.refl _) (a := a1) (by rw [e2]; exact zc3) zc3z (argsL := [(.long q1)]) (rest := [(.int (1 : Int32)), (.int (0 : Int32)), (.ref xa)]) (lenOf pd_2 rfl) rfl (by show 2 * 0 + _ ≤ _; exact Nat.le_of_eq rfl) (hb hby d5_11) (fun _ _ => ⟨rfl, e2, (by decide : 0 + 0 ≤ _), (by decide : 0 + 0 ≤ _)⟩)
  dsimp only [Pt.U, Pt.locs, Pt.cells, Pt.slots] at X3 zl3 zy3 zz3 st3 hQ3
  subst zl3 zy3 zz3
  obtain ⟨rfl, N3q, hs3⟩ := hQ3
  have N3 := Fr.app N0 N3q
  refine own_on st3 ?_
  show own_G p e below Φ T3 (mkF m 14 #[.val (.ref a1), .val (.long q1), .second] [(.long (own_key hf q1)), (.int (1 : Int32)), (.int (0 : Int32)), (.ref xa)])
  obtain ⟨_, _, ⟨T4, zL4, zk4, zn4⟩, -, X4, ⟨Lc4, hQ4, zl4, zy4, zz4⟩, st4⟩ := Jvm.LawKit.callS X3 hx (y := (⟨"java/util/Arrays", "binarySearch", "([JIIJ)I"⟩ : MethodName)) hown (mvT hZ (wd_43 hw)) (mvT hZ (wd_44 hw)) (mvT hZ (wd_45 hw)) (mvT hZ (wd_46 hw)) (by decide) (backOf (W := 0) (rmB1_1ins0 l Z a0 hw [] xa kk (own_key hf q1) k0 h0 n0 Z0 V_xa r0) hZ (wd_46 hw) (wd_45 hw) (by decide) (by decide)) (g := (mkF m 14 #[.val (.ref a1), .val (.long q1), .second] [(.long (own_key hf q1)), (.int (1 : Int32)), (.int (0 : Int32)), (.ref xa)])) rfl (by rw [hml]; rfl) (argsL := [(.ref xa), (.int (0 : Int32)), (.int (1 : Int32)), (.long (own_key hf q1))]) (rest := []) (lenOf pd_1 rfl) rfl (by show 2 * 0 + _ ≤ _; exact Nat.le_of_eq rfl) (hb hby d5_14) (fun _ _ => ⟨rfl, hs3, (by decide : 0 + 0 ≤ _), (by decide : 0 + 0 ≤ _)⟩)
  dsimp only [Pt.U, Pt.locs, Pt.cells, Pt.slots] at X4 zl4 zy4 zz4 st4 hQ4
  subst zl4 zy4 zz4
  obtain ⟨rfl, N4q, hs4⟩ := hQ4
  have N4 := Fr.app N3 N4q
  refine own_go st4 ?_
  show own_G p e below Φ T4 (mkF m 17 #[.val (.ref a1), .val (.long q1), .second] [(.int (-1 : Int32))])
  rw [hΦ]
  refine own_ret X4 (v := some (.int (-1 : Int32))) (fun h => by rw [Bd.returns] at h; cases h) (BodyLoose.notSynchronized Bd) (fun fs hr => retOut X4 hx Bd.returns rfl (Or.inl ⟨rfl, Or.inl rfl, _, rfl⟩) (hb hby d5_17) hr) ?_ (by decide) (by decide)
  rw [hs4]
  exact ⟨rfl, N4, rfl⟩
theorem d9_62 : decode jdk_65_method_56_code 62 = .ok (.iload 7, 2) := by decide +kernel
theorem d9_64 : decode jdk_65_method_56_code 64 = .ok (.ireturn, 1) := by decide +kernel
theorem ef_rmB0_1fnd0 (m : MethodId) (xa : Addr) (x : Int64) : entryFrame m #[(.ref xa), (.int (0 : Int32)), (.int (1 : Int32)), (.long x)] 10 = mkF m 0 #[.val (.ref xa), .val (.int (0 : Int32)), .val (.int (1 : Int32)), .val (.long x), .second, .unset, .unset, .unset, .unset, .unset] [] := by first | (simp [entryFrame, mkF, argsToLocals, Value.category]; done) | rfl
def Q_rmB0_1fnd0 (Z : State) (xa : Addr) (kk : ClassId) (x : Int64) (k0 : Int64) (h0 : Heap) (n0 : Nat) (v : Option Value) (h : Heap) (L : List Loc) : Prop := v = some (.int (0 : Int32)) ∧ Fr n0 L ∧ h = h0
set_option maxRecDepth 65536 in
set_option maxHeartbeats 40000000 in
theorem rmB0_1fnd0 (l : Launch) (Z : State) (a0 : Array Value) (hw : ∀ d ∈ tables_1, d.before a0 Z = true) (ws : List Jvm.Cond) (xa : Addr) (kk : ClassId) (x : Int64) (k0 : Int64) (h0 : Heap) (n0 : Nat) (Z0 : n0 ≤ h0.size) (V_xa : Arv Z h0 xa kk .long (64 : Int32) [(.long k0)] (.long (0 : Int64))) (r0 : k0 = x) :
    MetFree l (⟨"java/util/Arrays", "binarySearch0", "([JIIJ)I"⟩ : MethodName) (head1 (Jvm.Cond.code (⟨"java/util/Arrays", "binarySearch0", "([JIIJ)I"⟩ : MethodName) jdk_65_method_56_code 10 (some .int) :: ws) ({ frames := 0, cells := 0, slots := 0, locals := 0 } : Room)) (fun a U => a = #[(.ref xa), (.int (0 : Int32)), (.int (1 : Int32)), (.long x)] ∧ Z.Warmed39 U.vm ∧ U.heap = h0) (fun _ _ _ _ _ => True) (fun _ U o U' => ∃ v L, o = .returned v ∧ Q_rmB0_1fnd0 Z xa kk x k0 h0 n0 v U'.heap L ∧ FrameEnd U o U' L ({ frames := 0, cells := 0, slots := 0, locals := 0 } : Room).cells ({ frames := 0, cells := 0, slots := 0, locals := 0 } : Room).slots) := by
  refine MetFree.of_bodySF (plainFor_of_name pn_3) hisR ?_
  intro p e s m args below meth c s₁ Bd hml0 hP hK
  obtain ⟨rfl, hZ, hh⟩ := hP
  have hx := Bd.exec
  have hby := Bd.bytes
  have hml : c.maxLocals = 10 := hml0
  have hown : s.vm.findClass "java/util/Arrays" = some m.cls := findClass_of_methodNamed Bd.named
  have hnm := (name_of_methodNamed Bd.named Bd.method).1
  have X0 : Stand p l e ({ frames := 0, cells := 0, slots := 0, locals := 0 } : Room) s m #[(.ref xa), (.int (0 : Int32)), (.int (1 : Int32)), (.long x)] below meth c s₁ [] 0 0 := Stand.of_body Bd
  have e0 : s₁.heap = h0 := by rw [← hh, Bd.state]; rfl
  have N0 := Fr.nil n0
  suffices G0 : own_G p e below (own_E s below (Q_rmB0_1fnd0 Z xa kk x k0 h0 n0) ({ frames := 0, cells := 0, slots := 0, locals := 0 } : Room).cells ({ frames := 0, cells := 0, slots := 0, locals := 0 } : Room).slots) s₁ (mkF m 0 #[.val (.ref xa), .val (.int (0 : Int32)), .val (.int (1 : Int32)), .val (.long x), .second, .unset, .unset, .unset, .unset, .unset] []) by
    obtain ⟨zt, zst, zo, zq1, zq2, zq3⟩ := G0
    exact ⟨zt, zo, castTop (ef_rmB0_1fnd0 m xa x) zst, zq1, zq2, zq3⟩
  obtain ⟨Φ, hΦ⟩ : ∃ Φ, Φ = own_E s below (Q_rmB0_1fnd0 Z xa kk x k0 h0 n0) ({ frames := 0, cells := 0, slots := 0, locals := 0 } : Room).cells ({ frames := 0, cells := 0, slots := 0, locals := 0 } : Room).slots := ⟨_, rfl⟩
  rw [← hΦ]
  show own_G p e below Φ s₁ (mkF m 0 #[.val (.ref xa), .val (.int (0 : Int32)), .val (.int (1 : Int32)), .val (.long x), .second, .unset, .unset, .unset, .unset, .unset] [])
  refine own_go (fun _ => XS.iloadN X0.here hx rfl (hb hby d9_0) rfl) ?_
  refine own_go (fun _ => XS.istore X0.here hx rfl (hb hby d9_1) rfl (l' := #[.val (.ref xa), .val (.int (0 : Int32)), .val (.int (1 : Int32)), .val (.long x), .second, .val (.int (0 : Int32)), .unset, .unset, .unset, .unset]) rfl) ?_
  refine own_go (fun _ => XS.iloadN X0.here hx rfl (hb hby d9_3) rfl) ?_
  show own_G p e below Φ s₁ (mkF m 4 #[.val (.ref xa), .val (.int (0 : Int32)), .val (.int (1 : Int32)), .val (.long x), .second, .val (.int (0 : Int32)), .unset, .unset, .unset, .unset] [(.int (1 : Int32))])
  refine own_go (fun _ => XS.iconst X0.here hx rfl (hb hby d9_4)) ?_
  show own_G p e below Φ s₁ (mkF m 5 #[.val (.ref xa), .val (.int (0 : Int32)), .val (.int (1 : Int32)), .val (.long x), .second, .val (.int (0 : Int32)), .unset, .unset, .unset, .unset] [(.int (1 : Int32)), (.int (1 : Int32))])
  refine own_go (fun _ => XS.isub X0.here hx rfl (hb hby d9_5) rfl) ?_
  refine own_go (fun _ => XS.istore X0.here hx rfl (hb hby d9_6) rfl (l' := #[.val (.ref xa), .val (.int (0 : Int32)), .val (.int (1 : Int32)), .val (.long x), .second, .val (.int (0 : Int32)), .val (.int (0 : Int32)), .unset, .unset, .unset]) rfl) ?_
  refine own_go (fun _ => XS.iload X0.here hx rfl (hb hby d9_8) rfl) ?_
  show own_G p e below Φ s₁ (mkF m 10 #[.val (.ref xa), .val (.int (0 : Int32)), .val (.int (1 : Int32)), .val (.long x), .second, .val (.int (0 : Int32)), .val (.int (0 : Int32)), .unset, .unset, .unset] [(.int (0 : Int32))])
  refine own_go (fun _ => XS.iload X0.here hx rfl (hb hby d9_10) rfl) ?_
  show own_G p e below Φ s₁ (mkF m 12 #[.val (.ref xa), .val (.int (0 : Int32)), .val (.int (1 : Int32)), .val (.long x), .second, .val (.int (0 : Int32)), .val (.int (0 : Int32)), .unset, .unset, .unset] [(.int (0 : Int32)), (.int (0 : Int32))])
  refine own_go (fun _ => XS.icmpNo X0.here hx rfl (hb hby d9_12) rfl (Jvm.Free.XT.ii_gt_f (by decide : ¬ ((0 : Int32) < (0 : Int32))))) ?_
  refine own_go (fun _ => XS.iload X0.here hx rfl (hb hby d9_15) rfl) ?_
  refine own_go (fun _ => XS.iload X0.here hx rfl (hb hby d9_17) rfl) ?_
  show own_G p e below Φ s₁ (mkF m 19 #[.val (.ref xa), .val (.int (0 : Int32)), .val (.int (1 : Int32)), .val (.long x), .second, .val (.int (0 : Int32)), .val (.int (0 : Int32)), .unset, .unset, .unset] [(.int (0 : Int32)), (.int (0 : Int32))])
  refine own_go (fun _ => XS.iadd X0.here hx rfl (hb hby d9_19) rfl) ?_
  refine own_go (fun _ => XS.iconst X0.here hx rfl (hb hby d9_20)) ?_
  show own_G p e below Φ s₁ (mkF m 21 #[.val (.ref xa), .val (.int (0 : Int32)), .val (.int (1 : Int32)), .val (.long x), .second, .val (.int (0 : Int32)), .val (.int (0 : Int32)), .unset, .unset, .unset] [(.int (1 : Int32)), (.int (0 : Int32))])
  refine own_go (fun _ => XS.iushr X0.here hx rfl (hb hby d9_21) rfl) ?_
  refine own_go (fun _ => XS.istore X0.here hx rfl (hb hby d9_22) rfl (l' := #[.val (.ref xa), .val (.int (0 : Int32)), .val (.int (1 : Int32)), .val (.long x), .second, .val (.int (0 : Int32)), .val (.int (0 : Int32)), .val (.int (0 : Int32)), .unset, .unset]) rfl) ?_
  refine own_go (fun _ => XS.aloadN X0.here hx rfl (hb hby d9_24) rfl rfl) ?_
  show own_G p e below Φ s₁ (mkF m 25 #[.val (.ref xa), .val (.int (0 : Int32)), .val (.int (1 : Int32)), .val (.long x), .second, .val (.int (0 : Int32)), .val (.int (0 : Int32)), .val (.int (0 : Int32)), .unset, .unset] [(.ref xa)])
  refine own_go (fun _ => XS.iload X0.here hx rfl (hb hby d9_25) rfl) ?_
  show own_G p e below Φ s₁ (mkF m 27 #[.val (.ref xa), .val (.int (0 : Int32)), .val (.int (1 : Int32)), .val (.long x), .second, .val (.int (0 : Int32)), .val (.int (0 : Int32)), .val (.int (0 : Int32)), .unset, .unset] [(.int (0 : Int32)), (.ref xa)])
  obtain ⟨cl1, Ar1, zq1, S1, M1, H1, G1⟩ := id V_xa
  have hin1 : ¬ ((0 : Int32) < 0 ∨ cl1.slots.size ≤ ((0 : Int32)).toNatClampNeg) := inb_of S1 ⟨by decide, by decide⟩
  refine own_go (fun _ => X0.laload hx (j := (0 : Int32)) (v := (.long k0)) (by rw [e0]; exact Ar1.1) (State.isArrayOf_alike hZ.alike Ar1.2.1) Ar1.2.2 hin1 (H1.at hin1 rfl) (g := (mkF m 27 #[.val (.ref xa), .val (.int (0 : Int32)), .val (.int (1 : Int32)), .val (.long x), .second, .val (.int (0 : Int32)), .val (.int (0 : Int32)), .val (.int (0 : Int32)), .unset, .unset] [(.int (0 : Int32)), (.ref xa)])) rfl rfl (hb hby d9_27) _) ?_
  refine own_go (fun _ => XS.lstore X0.here hx rfl (hb hby d9_28) rfl (l' := #[.val (.ref xa), .val (.int (0 : Int32)), .val (.int (1 : Int32)), .val (.long x), .second, .val (.int (0 : Int32)), .val (.int (0 : Int32)), .val (.int (0 : Int32)), .val (.long k0), .second]) rfl) ?_
  refine own_go (fun _ => XS.lload X0.here hx rfl (hb hby d9_30) rfl) ?_
  show own_G p e below Φ s₁ (mkF m 32 #[.val (.ref xa), .val (.int (0 : Int32)), .val (.int (1 : Int32)), .val (.long x), .second, .val (.int (0 : Int32)), .val (.int (0 : Int32)), .val (.int (0 : Int32)), .val (.long k0), .second] [(.long k0)])
  refine own_go (fun _ => XS.lloadN X0.here hx rfl (hb hby d9_32) rfl) ?_
  show own_G p e below Φ s₁ (mkF m 33 #[.val (.ref xa), .val (.int (0 : Int32)), .val (.int (1 : Int32)), .val (.long x), .second, .val (.int (0 : Int32)), .val (.int (0 : Int32)), .val (.int (0 : Int32)), .val (.long k0), .second] [(.long x), (.long k0)])
  refine own_go (fun _ => XS.lcmp X0.here hx rfl (hb hby d9_33) rfl) ?_
  show own_G p e below Φ s₁ (mkF m 34 #[.val (.ref xa), .val (.int (0 : Int32)), .val (.int (1 : Int32)), .val (.long x), .second, .val (.int (0 : Int32)), .val (.int (0 : Int32)), .val (.int (0 : Int32)), .val (.long k0), .second] [(.int (lcmpW k0 x))])
  refine own_go (fun _ => XS.ifYes X0.here hx rfl (pc0 := 34) (pc' := 46) rfl (hb hby d9_34) rfl (Jvm.Free.XT.ll_ge_t (own_irl r0)) (by decide) (by decide)) ?_
  refine own_go (fun _ => XS.lload X0.here hx rfl (hb hby d9_46) rfl) ?_
  refine own_go (fun _ => XS.lloadN X0.here hx rfl (hb hby d9_48) rfl) ?_
  show own_G p e below Φ s₁ (mkF m 49 #[.val (.ref xa), .val (.int (0 : Int32)), .val (.int (1 : Int32)), .val (.long x), .second, .val (.int (0 : Int32)), .val (.int (0 : Int32)), .val (.int (0 : Int32)), .val (.long k0), .second] [(.long x), (.long k0)])
  refine own_go (fun _ => XS.lcmp X0.here hx rfl (hb hby d9_49) rfl) ?_
  show own_G p e below Φ s₁ (mkF m 50 #[.val (.ref xa), .val (.int (0 : Int32)), .val (.int (1 : Int32)), .val (.long x), .second, .val (.int (0 : Int32)), .val (.int (0 : Int32)), .val (.int (0 : Int32)), .val (.long k0), .second] [(.int (lcmpW k0 x))])
  refine own_go (fun _ => XS.ifYes X0.here hx rfl (pc0 := 50) (pc' := 62) rfl (hb hby d9_50) rfl (Jvm.Free.XT.ll_le_t (own_irr r0)) (by decide) (by decide)) ?_
  refine own_go (fun _ => XS.iload X0.here hx rfl (hb hby d9_62) rfl) ?_
  show own_G p e below Φ s₁ (mkF m 64 #[.val (.ref xa), .val (.int (0 : Int32)), .val (.int (1 : Int32)), .val (.long x), .second, .val (.int (0 : Int32)), .val (.int (0 : Int32)), .val (.int (0 : Int32)), .val (.long k0), .second] [(.int (0 : Int32))])
  rw [hΦ]
  refine own_ret X0 (v := some (.int (0 : Int32))) (fun h => by rw [Bd.returns] at h; cases h) (BodyLoose.notSynchronized Bd) (fun fs hr => retOut X0 hx Bd.returns rfl (Or.inl ⟨rfl, Or.inl rfl, _, rfl⟩) (hb hby d9_64) hr) ?_ (by decide) (by decide)
  rw [e0]
  exact ⟨rfl, N0, rfl⟩
theorem ef_rmB1_1fnd0 (m : MethodId) (xa : Addr) (x : Int64) : entryFrame m #[(.ref xa), (.int (0 : Int32)), (.int (1 : Int32)), (.long x)] 5 = mkF m 0 #[.val (.ref xa), .val (.int (0 : Int32)), .val (.int (1 : Int32)), .val (.long x), .second] [] := by first | (simp [entryFrame, mkF, argsToLocals, Value.category]; done) | rfl
def Q_rmB1_1fnd0 (Z : State) (xa : Addr) (kk : ClassId) (x : Int64) (k0 : Int64) (h0 : Heap) (n0 : Nat) (v : Option Value) (h : Heap) (L : List Loc) : Prop := v = some (.int (0 : Int32)) ∧ Fr n0 L ∧ h = h0
set_option maxRecDepth 65536 in
set_option maxHeartbeats 40000000 in
theorem rmB1_1fnd0 (l : Launch) (Z : State) (a0 : Array Value) (hw : ∀ d ∈ tables_1, d.before a0 Z = true) (ws : List Jvm.Cond) (xa : Addr) (kk : ClassId) (x : Int64) (k0 : Int64) (h0 : Heap) (n0 : Nat) (Z0 : n0 ≤ h0.size) (V_xa : Arv Z h0 xa kk .long (64 : Int32) [(.long k0)] (.long (0 : Int64))) (r0 : k0 = x) :
    MetFree l (⟨"java/util/Arrays", "binarySearch", "([JIIJ)I"⟩ : MethodName) (head1 (Jvm.Cond.code (⟨"java/util/Arrays", "binarySearch", "([JIIJ)I"⟩ : MethodName) jdk_65_method_55_code 5 (some .int) :: ws) ({ frames := 1, cells := 0, slots := 0, locals := 21 } : Room)) (fun a U => a = #[(.ref xa), (.int (0 : Int32)), (.int (1 : Int32)), (.long x)] ∧ Z.Warmed39 U.vm ∧ U.heap = h0) (fun _ _ _ _ _ => True) (fun _ U o U' => ∃ v L, o = .returned v ∧ Q_rmB1_1fnd0 Z xa kk x k0 h0 n0 v U'.heap L ∧ FrameEnd U o U' L ({ frames := 1, cells := 0, slots := 0, locals := 21 } : Room).cells ({ frames := 1, cells := 0, slots := 0, locals := 21 } : Room).slots) := by
  refine MetFree.of_bodySF (plainFor_of_name pn_3) hisR ?_
  intro p e s m args below meth c s₁ Bd hml0 hP hK
  obtain ⟨rfl, hZ, hh⟩ := hP
  have hx := Bd.exec
  have hby := Bd.bytes
  have hml : c.maxLocals = 5 := hml0
  have hown : s.vm.findClass "java/util/Arrays" = some m.cls := findClass_of_methodNamed Bd.named
  have hnm := (name_of_methodNamed Bd.named Bd.method).1
  have X0 : Stand p l e ({ frames := 1, cells := 0, slots := 0, locals := 21 } : Room) s m #[(.ref xa), (.int (0 : Int32)), (.int (1 : Int32)), (.long x)] below meth c s₁ [] 0 0 := Stand.of_body Bd
  have e0 : s₁.heap = h0 := by rw [← hh, Bd.state]; rfl
  have N0 := Fr.nil n0
  suffices G0 : own_G p e below (own_E s below (Q_rmB1_1fnd0 Z xa kk x k0 h0 n0) ({ frames := 1, cells := 0, slots := 0, locals := 21 } : Room).cells ({ frames := 1, cells := 0, slots := 0, locals := 21 } : Room).slots) s₁ (mkF m 0 #[.val (.ref xa), .val (.int (0 : Int32)), .val (.int (1 : Int32)), .val (.long x), .second] []) by
    obtain ⟨zt, zst, zo, zq1, zq2, zq3⟩ := G0
    exact ⟨zt, zo, castTop (ef_rmB1_1fnd0 m xa x) zst, zq1, zq2, zq3⟩
  obtain ⟨Φ, hΦ⟩ : ∃ Φ, Φ = own_E s below (Q_rmB1_1fnd0 Z xa kk x k0 h0 n0) ({ frames := 1, cells := 0, slots := 0, locals := 21 } : Room).cells ({ frames := 1, cells := 0, slots := 0, locals := 21 } : Room).slots := ⟨_, rfl⟩
  rw [← hΦ]
  show own_G p e below Φ s₁ (mkF m 0 #[.val (.ref xa), .val (.int (0 : Int32)), .val (.int (1 : Int32)), .val (.long x), .second] [])
  refine own_go (fun _ => XS.aloadN X0.here hx rfl (hb hby d7_0) rfl rfl) ?_
  show own_G p e below Φ s₁ (mkF m 1 #[.val (.ref xa), .val (.int (0 : Int32)), .val (.int (1 : Int32)), .val (.long x), .second] [(.ref xa)])
  obtain ⟨cl1, Ar1, zq1, S1, M1, H1, G1⟩ := id V_xa
  refine own_go (fun _ => X0.arraylength hx (by rw [e0]; exact Ar1.1) (State.isArrayOf_alike hZ.alike Ar1.2.1) (g := (mkF m 1 #[.val (.ref xa), .val (.int (0 : Int32)), .val (.int (1 : Int32)), .val (.long x), .second] [(.ref xa)])) rfl rfl (hb hby d7_1) _) ?_
  rw [len_of S1 M1]
  refine own_go (fun _ => XS.iloadN X0.here hx rfl (hb hby d7_2) rfl) ?_
  refine own_go (fun _ => XS.iloadN X0.here hx rfl (hb hby d7_3) rfl) ?_
  show own_G p e below Φ s₁ (mkF m 4 #[.val (.ref xa), .val (.int (0 : Int32)), .val (.int (1 : Int32)), .val (.long x), .second] [(.int (1 : Int32)), (.int (0 : Int32)), (.int (64 : Int32))])
  obtain ⟨_, _, ⟨T2, zL2, zk2, zn2⟩, -, X2, ⟨Lc2, hQ2, zl2, zy2, zz2⟩, st2⟩ := Jvm.LawKit.callS X0 hx (y := (⟨"java/util/Arrays", "rangeCheck", "(III)V"⟩ : MethodName)) hown (mvT hZ (wd_47 hw)) (mvT hZ (wd_48 hw)) (mvT hZ (wd_45 hw)) (mvT hZ (wd_49 hw)) (by decide) (backOf (W := 0) (rmR1 l Z a0 hw []  h0 n0 Z0 ) hZ (wd_49 hw) (wd_45 hw) (by decide) (by decide)) (g := (mkF m 4 #[.val (.ref xa), .val (.int (0 : Int32)), .val (.int (1 : Int32)), .val (.long x), .second] [(.int (1 : Int32)), (.int (0 : Int32)), (.int (64 : Int32))])) rfl (by rw [hml]; rfl) (argsL := [(.int (64 : Int32)), (.int (0 : Int32)), (.int (1 : Int32))]) (rest := []) (lenOf pd_0 rfl) rfl (by show 2 * 0 + _ ≤ _; exact Nat.le_of_eq rfl) (hb hby d7_4) (fun _ _ => ⟨rfl, e0, (by decide : 0 + 0 ≤ _), (by decide : 0 + 0 ≤ _)⟩)
  dsimp only [Pt.U, Pt.locs, Pt.cells, Pt.slots] at X2 zl2 zy2 zz2 st2 hQ2
  subst zl2 zy2 zz2
  obtain ⟨rfl, N2q, hs2⟩ := hQ2
  have N2 := Fr.app N0 N2q
  refine own_go st2 ?_
  refine own_go (fun _ => XS.aloadN X2.here hx rfl (hb hby d7_7) rfl rfl) ?_
  refine own_go (fun _ => XS.iloadN X2.here hx rfl (hb hby d7_8) rfl) ?_
  show own_G p e below Φ T2 (mkF m 9 #[.val (.ref xa), .val (.int (0 : Int32)), .val (.int (1 : Int32)), .val (.long x), .second] [(.int (0 : Int32)), (.ref xa)])
  refine own_go (fun _ => XS.iloadN X2.here hx rfl (hb hby d7_9) rfl) ?_
  refine own_go (fun _ => XS.lloadN X2.here hx rfl (hb hby d7_10) rfl) ?_
  show own_G p e below Φ T2 (mkF m 11 #[.val (.ref xa), .val (.int (0 : Int32)), .val (.int (1 : Int32)), .val (.long x), .second] [(.long x), (.int (1 : Int32)), (.int (0 : Int32)), (.ref xa)])
  obtain ⟨_, _, ⟨T3, zL3, zk3, zn3⟩, -, X3, ⟨Lc3, hQ3, zl3, zy3, zz3⟩, st3⟩ := Jvm.LawKit.callS X2 hx (y := (⟨"java/util/Arrays", "binarySearch0", "([JIIJ)I"⟩ : MethodName)) hown (mvT hZ (wd_50 hw)) (mvT hZ (wd_51 hw)) (mvT hZ (wd_45 hw)) (mvT hZ (wd_52 hw)) (by decide) (backOf (W := 0) (rmB0_1fnd0 l Z a0 hw [] xa kk x k0 h0 n0 Z0 V_xa r0) hZ (wd_52 hw) (wd_45 hw) (by decide) (by decide)) (g := (mkF m 11 #[.val (.ref xa), .val (.int (0 : Int32)), .val (.int (1 : Int32)), .val (.long x), .second] [(.long x), (.int (1 : Int32)), (.int (0 : Int32)), (.ref xa)])) rfl (by rw [hml]; rfl) (argsL := [(.ref xa), (.int (0 : Int32)), (.int (1 : Int32)), (.long x)]) (rest := []) (lenOf pd_1 rfl) rfl (by show 2 * 0 + _ ≤ _; exact Nat.le_of_eq rfl) (hb hby d7_11) (fun _ _ => ⟨rfl, hs2, (by decide : 0 + 0 ≤ _), (by decide : 0 + 0 ≤ _)⟩)
  dsimp only [Pt.U, Pt.locs, Pt.cells, Pt.slots] at X3 zl3 zy3 zz3 st3 hQ3
  subst zl3 zy3 zz3
  obtain ⟨rfl, N3q, hs3⟩ := hQ3
  have N3 := Fr.app N2 N3q
  refine own_go st3 ?_
  show own_G p e below Φ T3 (mkF m 14 #[.val (.ref xa), .val (.int (0 : Int32)), .val (.int (1 : Int32)), .val (.long x), .second] [(.int (0 : Int32))])
  rw [hΦ]
  refine own_ret X3 (v := some (.int (0 : Int32))) (fun h => by rw [Bd.returns] at h; cases h) (BodyLoose.notSynchronized Bd) (fun fs hr => retOut X3 hx Bd.returns rfl (Or.inl ⟨rfl, Or.inl rfl, _, rfl⟩) (hb hby d7_14) hr) ?_ (by decide) (by decide)
  rw [hs3]
  exact ⟨rfl, N3, rfl⟩
theorem ef_rmS_1fnd0 (m : MethodId) (a1 : Addr) (q1 : Int64) : entryFrame m #[(.ref a1), (.long q1)] 3 = mkF m 0 #[.val (.ref a1), .val (.long q1), .second] [] := by first | (simp [entryFrame, mkF, argsToLocals, Value.category]; done) | rfl
def Q_rmS_1fnd0 (Z : State) (a1 : Addr) (q1 : Int64) (hf : Int32) (xa : Addr) (kk : ClassId) (k0 : Int64) (h0 : Heap) (n0 : Nat) (v : Option Value) (h : Heap) (L : List Loc) : Prop := v = some (.int (0 : Int32)) ∧ Fr n0 L ∧ h = h0
set_option maxRecDepth 65536 in
set_option maxHeartbeats 40000000 in
theorem rmS_1fnd0 (l : Launch) (Z : State) (a0 : Array Value) (hw : ∀ d ∈ tables_1, d.before a0 Z = true) (ws : List Jvm.Cond) (a1 : Addr) (q1 : Int64) (hf : Int32) (xa : Addr) (kk : ClassId) (k0 : Int64) (h0 : Heap) (n0 : Nat) (Z0 : n0 ≤ h0.size) (E_a1 : Exa Z h0 a1 "corro/core/LimitLevels") (F_keys_a1 : Fld Z h0 a1 "corro/core/LimitLevels" "keys" "[J" (.ref xa)) (F_size_a1 : Fld Z h0 a1 "corro/core/LimitLevels" "size" "I" (.int (1 : Int32))) (F_highestFirst_a1 : Fld Z h0 a1 "corro/core/LimitLevels" "highestFirst" "Z" (.int hf)) (V_xa : Arv Z h0 xa kk .long (64 : Int32) [(.long k0)] (.long (0 : Int64))) (r0 : k0 = (own_key hf q1)) :
    MetFree l (⟨"corro/core/LimitLevels", "search", "(J)I"⟩ : MethodName) (head1 (Jvm.Cond.code (⟨"corro/core/LimitLevels", "search", "(J)I"⟩ : MethodName) prog_14_method_10_code 3 (some .int) :: ws) ({ frames := 2, cells := 0, slots := 0, locals := 37 } : Room)) (fun a U => a = #[(.ref a1), (.long q1)] ∧ Z.Warmed39 U.vm ∧ U.heap = h0) (fun _ _ _ _ _ => True) (fun _ U o U' => ∃ v L, o = .returned v ∧ Q_rmS_1fnd0 Z a1 q1 hf xa kk k0 h0 n0 v U'.heap L ∧ FrameEnd U o U' L ({ frames := 2, cells := 0, slots := 0, locals := 37 } : Room).cells ({ frames := 2, cells := 0, slots := 0, locals := 37 } : Room).slots) := by
  refine MetFree.of_bodySF (plainFor_of_name pn_1) hisR ?_
  intro p e s m args below meth c s₁ Bd hml0 hP hK
  obtain ⟨rfl, hZ, hh⟩ := hP
  have hx := Bd.exec
  have hby := Bd.bytes
  have hml : c.maxLocals = 3 := hml0
  have hown : s.vm.findClass "corro/core/LimitLevels" = some m.cls := findClass_of_methodNamed Bd.named
  have hnm := (name_of_methodNamed Bd.named Bd.method).1
  have X0 : Stand p l e ({ frames := 2, cells := 0, slots := 0, locals := 37 } : Room) s m #[(.ref a1), (.long q1)] below meth c s₁ [] 0 0 := Stand.of_body Bd
  have e0 : s₁.heap = h0 := by rw [← hh, Bd.state]; rfl
  have N0 := Fr.nil n0
  suffices G0 : own_G p e below (own_E s below (Q_rmS_1fnd0 Z a1 q1 hf xa kk k0 h0 n0) ({ frames := 2, cells := 0, slots := 0, locals := 37 } : Room).cells ({ frames := 2, cells := 0, slots := 0, locals := 37 } : Room).slots) s₁ (mkF m 0 #[.val (.ref a1), .val (.long q1), .second] []) by
    obtain ⟨zt, zst, zo, zq1, zq2, zq3⟩ := G0
    exact ⟨zt, zo, castTop (ef_rmS_1fnd0 m a1 q1) zst, zq1, zq2, zq3⟩
  obtain ⟨Φ, hΦ⟩ : ∃ Φ, Φ = own_E s below (Q_rmS_1fnd0 Z a1 q1 hf xa kk k0 h0 n0) ({ frames := 2, cells := 0, slots := 0, locals := 37 } : Room).cells ({ frames := 2, cells := 0, slots := 0, locals := 37 } : Room).slots := ⟨_, rfl⟩
  rw [← hΦ]
  show own_G p e below Φ s₁ (mkF m 0 #[.val (.ref a1), .val (.long q1), .second] [])
  refine own_go (fun _ => XS.aloadN X0.here hx rfl (hb hby d5_0) rfl rfl) ?_
  show own_G p e below Φ s₁ (mkF m 1 #[.val (.ref a1), .val (.long q1), .second] [(.ref a1)])
  obtain ⟨T1, X1, e1, st1⟩ := getF X0 hx hZ hown (host := "") (Or.inl (wd_18 hw)) Via.refl e0 F_keys_a1 (g := (mkF m 1 #[.val (.ref a1), .val (.long q1), .second] [(.ref a1)])) rfl rfl (hb hby d5_1)
  refine own_go st1 ?_
  refine own_go (fun _ => XS.iconst X1.here hx rfl (hb hby d5_4)) ?_
  refine own_go (fun _ => XS.aloadN X1.here hx rfl (hb hby d5_5) rfl rfl) ?_
  show own_G p e below Φ T1 (mkF m 6 #[.val (.ref a1), .val (.long q1), .second] [(.ref a1), (.int (0 : Int32)), (.ref xa)])
  obtain ⟨T2, X2, e2, st2⟩ := getF X1 hx hZ hown (host := "") (Or.inl (wd_37 hw)) Via.refl e1 F_size_a1 (g := (mkF m 6 #[.val (.ref a1), .val (.long q1), .second] [(.ref a1), (.int (0 : Int32)), (.ref xa)])) rfl rfl (hb hby d5_6)
  refine own_go st2 ?_
  refine own_go (fun _ => XS.aloadN X2.here hx rfl (hb hby d5_9) rfl rfl) ?_
  refine own_go (fun _ => XS.lloadN X2.here hx rfl (hb hby d5_10) rfl) ?_
  show own_G p e below Φ T2 (mkF m 11 #[.val (.ref a1), .val (.long q1), .second] [(.long q1), (.ref a1), (.int (1 : Int32)), (.int (0 : Int32)), (.ref xa)])
  obtain ⟨cq3, zc3, zc3z⟩ := E_a1.cell
  obtain ⟨_, _, ⟨T3, zL3, zk3, zn3⟩, -, X3, ⟨Lc3, hQ3, zl3, zy3, zz3⟩, st3⟩ := X2.privateBack hx (y := (⟨"corro/core/LimitLevels", "key", "(J)J"⟩ : MethodName)) hown (mvT hZ (wd_39 hw)) (mvT hZ (wd_40 hw)) (own_selp (x := (⟨"corro/core/LimitLevels", "getOrAdd", "(J)Lcorro/core/Level;"⟩ : MethodName)) rfl (mvT hZ (wd_30 hw)) (notFace_of_selects (args := #[]) (mvT hZ (wd_31 hw))) (Cond.privateMethod_at (mvP hZ (wd_41 hw) (args := #[]))) (mvT hZ (wd_40 hw)) (by decide)) (Cond.privateMethod_at (mvP hZ (wd_41 hw) (args := #[]))) (mvT hZ (wd_42 hw)) (by decide) (backOf (W := 3) (rmK l Z a0 hw [] a1 q1 hf h0 n0 Z0 F_highestFirst_a1) hZ (wd_42 hw) (wd_7 hw) (by decide) (by decide)) (g := (mkF m 11 #[.val (.ref a1), .val (.long q1), .second] [(.long q1), (.ref a1), (.int (1 : Int32)), (.int (0 : Int32)), (.ref xa)])) rfl (by rw [hml]; rfl) (Steps.refl _) (a := a1) (by rw [e2]; exact zc3) zc3z (argsL := [(.long q1)]) (rest := [(.int (1 : Int32)), (.int (0 : Int32)), (.ref xa)]) (lenOf pd_2 rfl) rfl (by show 2 * 0 + _ ≤ _; exact Nat.le_of_eq rfl) (hb hby d5_11) (fun _ _ => ⟨rfl, e2, (by decide : 0 + 0 ≤ _), (by decide : 0 + 0 ≤ _)⟩)
  dsimp only [Pt.U, Pt.locs, Pt.cells, Pt.slots] at X3 zl3 zy3 zz3 st3 hQ3
  subst zl3 zy3 zz3
  obtain ⟨rfl, N3q, hs3⟩ := hQ3
  have N3 := Fr.app N0 N3q
  refine own_on st3 ?_
  show own_G p e below Φ T3 (mkF m 14 #[.val (.ref a1), .val (.long q1), .second] [(.long (own_key hf q1)), (.int (1 : Int32)), (.int (0 : Int32)), (.ref xa)])
  obtain ⟨_, _, ⟨T4, zL4, zk4, zn4⟩, -, X4, ⟨Lc4, hQ4, zl4, zy4, zz4⟩, st4⟩ := Jvm.LawKit.callS X3 hx (y := (⟨"java/util/Arrays", "binarySearch", "([JIIJ)I"⟩ : MethodName)) hown (mvT hZ (wd_43 hw)) (mvT hZ (wd_44 hw)) (mvT hZ (wd_45 hw)) (mvT hZ (wd_46 hw)) (by decide) (backOf (W := 0) (rmB1_1fnd0 l Z a0 hw [] xa kk (own_key hf q1) k0 h0 n0 Z0 V_xa r0) hZ (wd_46 hw) (wd_45 hw) (by decide) (by decide)) (g := (mkF m 14 #[.val (.ref a1), .val (.long q1), .second] [(.long (own_key hf q1)), (.int (1 : Int32)), (.int (0 : Int32)), (.ref xa)])) rfl (by rw [hml]; rfl) (argsL := [(.ref xa), (.int (0 : Int32)), (.int (1 : Int32)), (.long (own_key hf q1))]) (rest := []) (lenOf pd_1 rfl) rfl (by show 2 * 0 + _ ≤ _; exact Nat.le_of_eq rfl) (hb hby d5_14) (fun _ _ => ⟨rfl, hs3, (by decide : 0 + 0 ≤ _), (by decide : 0 + 0 ≤ _)⟩)
  dsimp only [Pt.U, Pt.locs, Pt.cells, Pt.slots] at X4 zl4 zy4 zz4 st4 hQ4
  subst zl4 zy4 zz4
  obtain ⟨rfl, N4q, hs4⟩ := hQ4
  have N4 := Fr.app N3 N4q
  refine own_go st4 ?_
  show own_G p e below Φ T4 (mkF m 17 #[.val (.ref a1), .val (.long q1), .second] [(.int (0 : Int32))])
  rw [hΦ]
  refine own_ret X4 (v := some (.int (0 : Int32))) (fun h => by rw [Bd.returns] at h; cases h) (BodyLoose.notSynchronized Bd) (fun fs hr => retOut X4 hx Bd.returns rfl (Or.inl ⟨rfl, Or.inl rfl, _, rfl⟩) (hb hby d5_17) hr) ?_ (by decide) (by decide)
  rw [hs4]
  exact ⟨rfl, N4, rfl⟩
theorem d9_37 : decode jdk_65_method_56_code 37 = .ok (.iload 7, 2) := by decide +kernel
theorem d9_39 : decode jdk_65_method_56_code 39 = .ok (.iconst 1, 1) := by decide +kernel
theorem d9_40 : decode jdk_65_method_56_code 40 = .ok (.iadd, 1) := by decide +kernel
theorem d9_41 : decode jdk_65_method_56_code 41 = .ok (.istore 5, 2) := by decide +kernel
theorem d9_43 : decode jdk_65_method_56_code 43 = .ok (.goto 22, 3) := by decide +kernel
theorem ef_rmB0_1ins1 (m : MethodId) (xa : Addr) (x : Int64) : entryFrame m #[(.ref xa), (.int (0 : Int32)), (.int (1 : Int32)), (.long x)] 10 = mkF m 0 #[.val (.ref xa), .val (.int (0 : Int32)), .val (.int (1 : Int32)), .val (.long x), .second, .unset, .unset, .unset, .unset, .unset] [] := by first | (simp [entryFrame, mkF, argsToLocals, Value.category]; done) | rfl
def Q_rmB0_1ins1 (Z : State) (xa : Addr) (kk : ClassId) (x : Int64) (k0 : Int64) (h0 : Heap) (n0 : Nat) (v : Option Value) (h : Heap) (L : List Loc) : Prop := v = some (.int (-2 : Int32)) ∧ Fr n0 L ∧ h = h0
set_option maxRecDepth 65536 in
set_option maxHeartbeats 40000000 in
theorem rmB0_1ins1 (l : Launch) (Z : State) (a0 : Array Value) (hw : ∀ d ∈ tables_1, d.before a0 Z = true) (ws : List Jvm.Cond) (xa : Addr) (kk : ClassId) (x : Int64) (k0 : Int64) (h0 : Heap) (n0 : Nat) (Z0 : n0 ≤ h0.size) (V_xa : Arv Z h0 xa kk .long (64 : Int32) [(.long k0)] (.long (0 : Int64))) (r0 : k0 < x) :
    MetFree l (⟨"java/util/Arrays", "binarySearch0", "([JIIJ)I"⟩ : MethodName) (head1 (Jvm.Cond.code (⟨"java/util/Arrays", "binarySearch0", "([JIIJ)I"⟩ : MethodName) jdk_65_method_56_code 10 (some .int) :: ws) ({ frames := 0, cells := 0, slots := 0, locals := 0 } : Room)) (fun a U => a = #[(.ref xa), (.int (0 : Int32)), (.int (1 : Int32)), (.long x)] ∧ Z.Warmed39 U.vm ∧ U.heap = h0) (fun _ _ _ _ _ => True) (fun _ U o U' => ∃ v L, o = .returned v ∧ Q_rmB0_1ins1 Z xa kk x k0 h0 n0 v U'.heap L ∧ FrameEnd U o U' L ({ frames := 0, cells := 0, slots := 0, locals := 0 } : Room).cells ({ frames := 0, cells := 0, slots := 0, locals := 0 } : Room).slots) := by
  refine MetFree.of_bodySF (plainFor_of_name pn_3) hisR ?_
  intro p e s m args below meth c s₁ Bd hml0 hP hK
  obtain ⟨rfl, hZ, hh⟩ := hP
  have hx := Bd.exec
  have hby := Bd.bytes
  have hml : c.maxLocals = 10 := hml0
  have hown : s.vm.findClass "java/util/Arrays" = some m.cls := findClass_of_methodNamed Bd.named
  have hnm := (name_of_methodNamed Bd.named Bd.method).1
  have X0 : Stand p l e ({ frames := 0, cells := 0, slots := 0, locals := 0 } : Room) s m #[(.ref xa), (.int (0 : Int32)), (.int (1 : Int32)), (.long x)] below meth c s₁ [] 0 0 := Stand.of_body Bd
  have e0 : s₁.heap = h0 := by rw [← hh, Bd.state]; rfl
  have N0 := Fr.nil n0
  suffices G0 : own_G p e below (own_E s below (Q_rmB0_1ins1 Z xa kk x k0 h0 n0) ({ frames := 0, cells := 0, slots := 0, locals := 0 } : Room).cells ({ frames := 0, cells := 0, slots := 0, locals := 0 } : Room).slots) s₁ (mkF m 0 #[.val (.ref xa), .val (.int (0 : Int32)), .val (.int (1 : Int32)), .val (.long x), .second, .unset, .unset, .unset, .unset, .unset] []) by
    obtain ⟨zt, zst, zo, zq1, zq2, zq3⟩ := G0
    exact ⟨zt, zo, castTop (ef_rmB0_1ins1 m xa x) zst, zq1, zq2, zq3⟩
  obtain ⟨Φ, hΦ⟩ : ∃ Φ, Φ = own_E s below (Q_rmB0_1ins1 Z xa kk x k0 h0 n0) ({ frames := 0, cells := 0, slots := 0, locals := 0 } : Room).cells ({ frames := 0, cells := 0, slots := 0, locals := 0 } : Room).slots := ⟨_, rfl⟩
  rw [← hΦ]
  show own_G p e below Φ s₁ (mkF m 0 #[.val (.ref xa), .val (.int (0 : Int32)), .val (.int (1 : Int32)), .val (.long x), .second, .unset, .unset, .unset, .unset, .unset] [])
  refine own_go (fun _ => XS.iloadN X0.here hx rfl (hb hby d9_0) rfl) ?_
  refine own_go (fun _ => XS.istore X0.here hx rfl (hb hby d9_1) rfl (l' := #[.val (.ref xa), .val (.int (0 : Int32)), .val (.int (1 : Int32)), .val (.long x), .second, .val (.int (0 : Int32)), .unset, .unset, .unset, .unset]) rfl) ?_
  refine own_go (fun _ => XS.iloadN X0.here hx rfl (hb hby d9_3) rfl) ?_
  show own_G p e below Φ s₁ (mkF m 4 #[.val (.ref xa), .val (.int (0 : Int32)), .val (.int (1 : Int32)), .val (.long x), .second, .val (.int (0 : Int32)), .unset, .unset, .unset, .unset] [(.int (1 : Int32))])
  refine own_go (fun _ => XS.iconst X0.here hx rfl (hb hby d9_4)) ?_
  show own_G p e below Φ s₁ (mkF m 5 #[.val (.ref xa), .val (.int (0 : Int32)), .val (.int (1 : Int32)), .val (.long x), .second, .val (.int (0 : Int32)), .unset, .unset, .unset, .unset] [(.int (1 : Int32)), (.int (1 : Int32))])
  refine own_go (fun _ => XS.isub X0.here hx rfl (hb hby d9_5) rfl) ?_
  refine own_go (fun _ => XS.istore X0.here hx rfl (hb hby d9_6) rfl (l' := #[.val (.ref xa), .val (.int (0 : Int32)), .val (.int (1 : Int32)), .val (.long x), .second, .val (.int (0 : Int32)), .val (.int (0 : Int32)), .unset, .unset, .unset]) rfl) ?_
  refine own_go (fun _ => XS.iload X0.here hx rfl (hb hby d9_8) rfl) ?_
  show own_G p e below Φ s₁ (mkF m 10 #[.val (.ref xa), .val (.int (0 : Int32)), .val (.int (1 : Int32)), .val (.long x), .second, .val (.int (0 : Int32)), .val (.int (0 : Int32)), .unset, .unset, .unset] [(.int (0 : Int32))])
  refine own_go (fun _ => XS.iload X0.here hx rfl (hb hby d9_10) rfl) ?_
  show own_G p e below Φ s₁ (mkF m 12 #[.val (.ref xa), .val (.int (0 : Int32)), .val (.int (1 : Int32)), .val (.long x), .second, .val (.int (0 : Int32)), .val (.int (0 : Int32)), .unset, .unset, .unset] [(.int (0 : Int32)), (.int (0 : Int32))])
  refine own_go (fun _ => XS.icmpNo X0.here hx rfl (hb hby d9_12) rfl (Jvm.Free.XT.ii_gt_f (by decide : ¬ ((0 : Int32) < (0 : Int32))))) ?_
  refine own_go (fun _ => XS.iload X0.here hx rfl (hb hby d9_15) rfl) ?_
  refine own_go (fun _ => XS.iload X0.here hx rfl (hb hby d9_17) rfl) ?_
  show own_G p e below Φ s₁ (mkF m 19 #[.val (.ref xa), .val (.int (0 : Int32)), .val (.int (1 : Int32)), .val (.long x), .second, .val (.int (0 : Int32)), .val (.int (0 : Int32)), .unset, .unset, .unset] [(.int (0 : Int32)), (.int (0 : Int32))])
  refine own_go (fun _ => XS.iadd X0.here hx rfl (hb hby d9_19) rfl) ?_
  refine own_go (fun _ => XS.iconst X0.here hx rfl (hb hby d9_20)) ?_
  show own_G p e below Φ s₁ (mkF m 21 #[.val (.ref xa), .val (.int (0 : Int32)), .val (.int (1 : Int32)), .val (.long x), .second, .val (.int (0 : Int32)), .val (.int (0 : Int32)), .unset, .unset, .unset] [(.int (1 : Int32)), (.int (0 : Int32))])
  refine own_go (fun _ => XS.iushr X0.here hx rfl (hb hby d9_21) rfl) ?_
  refine own_go (fun _ => XS.istore X0.here hx rfl (hb hby d9_22) rfl (l' := #[.val (.ref xa), .val (.int (0 : Int32)), .val (.int (1 : Int32)), .val (.long x), .second, .val (.int (0 : Int32)), .val (.int (0 : Int32)), .val (.int (0 : Int32)), .unset, .unset]) rfl) ?_
  refine own_go (fun _ => XS.aloadN X0.here hx rfl (hb hby d9_24) rfl rfl) ?_
  show own_G p e below Φ s₁ (mkF m 25 #[.val (.ref xa), .val (.int (0 : Int32)), .val (.int (1 : Int32)), .val (.long x), .second, .val (.int (0 : Int32)), .val (.int (0 : Int32)), .val (.int (0 : Int32)), .unset, .unset] [(.ref xa)])
  refine own_go (fun _ => XS.iload X0.here hx rfl (hb hby d9_25) rfl) ?_
  show own_G p e below Φ s₁ (mkF m 27 #[.val (.ref xa), .val (.int (0 : Int32)), .val (.int (1 : Int32)), .val (.long x), .second, .val (.int (0 : Int32)), .val (.int (0 : Int32)), .val (.int (0 : Int32)), .unset, .unset] [(.int (0 : Int32)), (.ref xa)])
  obtain ⟨cl1, Ar1, zq1, S1, M1, H1, G1⟩ := id V_xa
  have hin1 : ¬ ((0 : Int32) < 0 ∨ cl1.slots.size ≤ ((0 : Int32)).toNatClampNeg) := inb_of S1 ⟨by decide, by decide⟩
  refine own_go (fun _ => X0.laload hx (j := (0 : Int32)) (v := (.long k0)) (by rw [e0]; exact Ar1.1) (State.isArrayOf_alike hZ.alike Ar1.2.1) Ar1.2.2 hin1 (H1.at hin1 rfl) (g := (mkF m 27 #[.val (.ref xa), .val (.int (0 : Int32)), .val (.int (1 : Int32)), .val (.long x), .second, .val (.int (0 : Int32)), .val (.int (0 : Int32)), .val (.int (0 : Int32)), .unset, .unset] [(.int (0 : Int32)), (.ref xa)])) rfl rfl (hb hby d9_27) _) ?_
  refine own_go (fun _ => XS.lstore X0.here hx rfl (hb hby d9_28) rfl (l' := #[.val (.ref xa), .val (.int (0 : Int32)), .val (.int (1 : Int32)), .val (.long x), .second, .val (.int (0 : Int32)), .val (.int (0 : Int32)), .val (.int (0 : Int32)), .val (.long k0), .second]) rfl) ?_
  refine own_go (fun _ => XS.lload X0.here hx rfl (hb hby d9_30) rfl) ?_
  show own_G p e below Φ s₁ (mkF m 32 #[.val (.ref xa), .val (.int (0 : Int32)), .val (.int (1 : Int32)), .val (.long x), .second, .val (.int (0 : Int32)), .val (.int (0 : Int32)), .val (.int (0 : Int32)), .val (.long k0), .second] [(.long k0)])
  refine own_go (fun _ => XS.lloadN X0.here hx rfl (hb hby d9_32) rfl) ?_
  show own_G p e below Φ s₁ (mkF m 33 #[.val (.ref xa), .val (.int (0 : Int32)), .val (.int (1 : Int32)), .val (.long x), .second, .val (.int (0 : Int32)), .val (.int (0 : Int32)), .val (.int (0 : Int32)), .val (.long k0), .second] [(.long x), (.long k0)])
  refine own_go (fun _ => XS.lcmp X0.here hx rfl (hb hby d9_33) rfl) ?_
  show own_G p e below Φ s₁ (mkF m 34 #[.val (.ref xa), .val (.int (0 : Int32)), .val (.int (1 : Int32)), .val (.long x), .second, .val (.int (0 : Int32)), .val (.int (0 : Int32)), .val (.int (0 : Int32)), .val (.long k0), .second] [(.int (lcmpW k0 x))])
  refine own_go (fun _ => XS.ifNo X0.here hx rfl (hb hby d9_34) rfl (Jvm.Free.XT.ll_ge_f r0)) ?_
  refine own_go (fun _ => XS.iload X0.here hx rfl (hb hby d9_37) rfl) ?_
  refine own_go (fun _ => XS.iconst X0.here hx rfl (hb hby d9_39)) ?_
  show own_G p e below Φ s₁ (mkF m 40 #[.val (.ref xa), .val (.int (0 : Int32)), .val (.int (1 : Int32)), .val (.long x), .second, .val (.int (0 : Int32)), .val (.int (0 : Int32)), .val (.int (0 : Int32)), .val (.long k0), .second] [(.int (1 : Int32)), (.int (0 : Int32))])
  refine own_go (fun _ => XS.iadd X0.here hx rfl (hb hby d9_40) rfl) ?_
  refine own_go (fun _ => XS.istore X0.here hx rfl (hb hby d9_41) rfl (l' := #[.val (.ref xa), .val (.int (0 : Int32)), .val (.int (1 : Int32)), .val (.long x), .second, .val (.int (1 : Int32)), .val (.int (0 : Int32)), .val (.int (0 : Int32)), .val (.long k0), .second]) rfl) ?_
  refine own_go (fun _ => XS.goto X0.here hx rfl (pc0 := 43) (pc' := 65) rfl (hb hby d9_43) (by decide) (by decide)) ?_
  show own_G p e below Φ s₁ (mkF m 65 #[.val (.ref xa), .val (.int (0 : Int32)), .val (.int (1 : Int32)), .val (.long x), .second, .val (.int (1 : Int32)), .val (.int (0 : Int32)), .val (.int (0 : Int32)), .val (.long k0), .second] [])
  refine own_go (fun _ => XS.goto X0.here hx rfl (pc0 := 65) (pc' := 8) rfl (hb hby d9_65) (by decide) (by decide)) ?_
  refine own_go (fun _ => XS.iload X0.here hx rfl (hb hby d9_8) rfl) ?_
  refine own_go (fun _ => XS.iload X0.here hx rfl (hb hby d9_10) rfl) ?_
  show own_G p e below Φ s₁ (mkF m 12 #[.val (.ref xa), .val (.int (0 : Int32)), .val (.int (1 : Int32)), .val (.long x), .second, .val (.int (1 : Int32)), .val (.int (0 : Int32)), .val (.int (0 : Int32)), .val (.long k0), .second] [(.int (0 : Int32)), (.int (1 : Int32))])
  refine own_go (fun _ => XS.icmpYes X0.here hx rfl (pc0 := 12) (pc' := 68) rfl (hb hby d9_12) rfl (Jvm.Free.XT.ii_gt_t (by decide : ((0 : Int32) < (1 : Int32)))) (by decide) (by decide)) ?_
  refine own_go (fun _ => XS.iload X0.here hx rfl (hb hby d9_68) rfl) ?_
  refine own_go (fun _ => XS.iconst X0.here hx rfl (hb hby d9_70)) ?_
  show own_G p e below Φ s₁ (mkF m 71 #[.val (.ref xa), .val (.int (0 : Int32)), .val (.int (1 : Int32)), .val (.long x), .second, .val (.int (1 : Int32)), .val (.int (0 : Int32)), .val (.int (0 : Int32)), .val (.long k0), .second] [(.int (1 : Int32)), (.int (1 : Int32))])
  refine own_go (fun _ => XS.iadd X0.here hx rfl (hb hby d9_71) rfl) ?_
  show own_G p e below Φ s₁ (mkF m 72 #[.val (.ref xa), .val (.int (0 : Int32)), .val (.int (1 : Int32)), .val (.long x), .second, .val (.int (1 : Int32)), .val (.int (0 : Int32)), .val (.int (0 : Int32)), .val (.long k0), .second] [(.int (2 : Int32))])
  refine own_go (fun _ => XS.ineg X0.here hx rfl (hb hby d9_72) rfl) ?_
  show own_G p e below Φ s₁ (mkF m 73 #[.val (.ref xa), .val (.int (0 : Int32)), .val (.int (1 : Int32)), .val (.long x), .second, .val (.int (1 : Int32)), .val (.int (0 : Int32)), .val (.int (0 : Int32)), .val (.long k0), .second] [(.int (-2 : Int32))])
  rw [hΦ]
  refine own_ret X0 (v := some (.int (-2 : Int32))) (fun h => by rw [Bd.returns] at h; cases h) (BodyLoose.notSynchronized Bd) (fun fs hr => retOut X0 hx Bd.returns rfl (Or.inl ⟨rfl, Or.inl rfl, _, rfl⟩) (hb hby d9_73) hr) ?_ (by decide) (by decide)
  rw [e0]
  exact ⟨rfl, N0, rfl⟩
theorem ef_rmB1_1ins1 (m : MethodId) (xa : Addr) (x : Int64) : entryFrame m #[(.ref xa), (.int (0 : Int32)), (.int (1 : Int32)), (.long x)] 5 = mkF m 0 #[.val (.ref xa), .val (.int (0 : Int32)), .val (.int (1 : Int32)), .val (.long x), .second] [] := by first | (simp [entryFrame, mkF, argsToLocals, Value.category]; done) | rfl
def Q_rmB1_1ins1 (Z : State) (xa : Addr) (kk : ClassId) (x : Int64) (k0 : Int64) (h0 : Heap) (n0 : Nat) (v : Option Value) (h : Heap) (L : List Loc) : Prop := v = some (.int (-2 : Int32)) ∧ Fr n0 L ∧ h = h0
set_option maxRecDepth 65536 in
set_option maxHeartbeats 40000000 in
theorem rmB1_1ins1 (l : Launch) (Z : State) (a0 : Array Value) (hw : ∀ d ∈ tables_1, d.before a0 Z = true) (ws : List Jvm.Cond) (xa : Addr) (kk : ClassId) (x : Int64) (k0 : Int64) (h0 : Heap) (n0 : Nat) (Z0 : n0 ≤ h0.size) (V_xa : Arv Z h0 xa kk .long (64 : Int32) [(.long k0)] (.long (0 : Int64))) (r0 : k0 < x) :
    MetFree l (⟨"java/util/Arrays", "binarySearch", "([JIIJ)I"⟩ : MethodName) (head1 (Jvm.Cond.code (⟨"java/util/Arrays", "binarySearch", "([JIIJ)I"⟩ : MethodName) jdk_65_method_55_code 5 (some .int) :: ws) ({ frames := 1, cells := 0, slots := 0, locals := 21 } : Room)) (fun a U => a = #[(.ref xa), (.int (0 : Int32)), (.int (1 : Int32)), (.long x)] ∧ Z.Warmed39 U.vm ∧ U.heap = h0) (fun _ _ _ _ _ => True) (fun _ U o U' => ∃ v L, o = .returned v ∧ Q_rmB1_1ins1 Z xa kk x k0 h0 n0 v U'.heap L ∧ FrameEnd U o U' L ({ frames := 1, cells := 0, slots := 0, locals := 21 } : Room).cells ({ frames := 1, cells := 0, slots := 0, locals := 21 } : Room).slots) := by
  refine MetFree.of_bodySF (plainFor_of_name pn_3) hisR ?_
  intro p e s m args below meth c s₁ Bd hml0 hP hK
  obtain ⟨rfl, hZ, hh⟩ := hP
  have hx := Bd.exec
  have hby := Bd.bytes
  have hml : c.maxLocals = 5 := hml0
  have hown : s.vm.findClass "java/util/Arrays" = some m.cls := findClass_of_methodNamed Bd.named
  have hnm := (name_of_methodNamed Bd.named Bd.method).1
  have X0 : Stand p l e ({ frames := 1, cells := 0, slots := 0, locals := 21 } : Room) s m #[(.ref xa), (.int (0 : Int32)), (.int (1 : Int32)), (.long x)] below meth c s₁ [] 0 0 := Stand.of_body Bd
  have e0 : s₁.heap = h0 := by rw [← hh, Bd.state]; rfl
  have N0 := Fr.nil n0
  suffices G0 : own_G p e below (own_E s below (Q_rmB1_1ins1 Z xa kk x k0 h0 n0) ({ frames := 1, cells := 0, slots := 0, locals := 21 } : Room).cells ({ frames := 1, cells := 0, slots := 0, locals := 21 } : Room).slots) s₁ (mkF m 0 #[.val (.ref xa), .val (.int (0 : Int32)), .val (.int (1 : Int32)), .val (.long x), .second] []) by
    obtain ⟨zt, zst, zo, zq1, zq2, zq3⟩ := G0
    exact ⟨zt, zo, castTop (ef_rmB1_1ins1 m xa x) zst, zq1, zq2, zq3⟩
  obtain ⟨Φ, hΦ⟩ : ∃ Φ, Φ = own_E s below (Q_rmB1_1ins1 Z xa kk x k0 h0 n0) ({ frames := 1, cells := 0, slots := 0, locals := 21 } : Room).cells ({ frames := 1, cells := 0, slots := 0, locals := 21 } : Room).slots := ⟨_, rfl⟩
  rw [← hΦ]
  show own_G p e below Φ s₁ (mkF m 0 #[.val (.ref xa), .val (.int (0 : Int32)), .val (.int (1 : Int32)), .val (.long x), .second] [])
  refine own_go (fun _ => XS.aloadN X0.here hx rfl (hb hby d7_0) rfl rfl) ?_
  show own_G p e below Φ s₁ (mkF m 1 #[.val (.ref xa), .val (.int (0 : Int32)), .val (.int (1 : Int32)), .val (.long x), .second] [(.ref xa)])
  obtain ⟨cl1, Ar1, zq1, S1, M1, H1, G1⟩ := id V_xa
  refine own_go (fun _ => X0.arraylength hx (by rw [e0]; exact Ar1.1) (State.isArrayOf_alike hZ.alike Ar1.2.1) (g := (mkF m 1 #[.val (.ref xa), .val (.int (0 : Int32)), .val (.int (1 : Int32)), .val (.long x), .second] [(.ref xa)])) rfl rfl (hb hby d7_1) _) ?_
  rw [len_of S1 M1]
  refine own_go (fun _ => XS.iloadN X0.here hx rfl (hb hby d7_2) rfl) ?_
  refine own_go (fun _ => XS.iloadN X0.here hx rfl (hb hby d7_3) rfl) ?_
  show own_G p e below Φ s₁ (mkF m 4 #[.val (.ref xa), .val (.int (0 : Int32)), .val (.int (1 : Int32)), .val (.long x), .second] [(.int (1 : Int32)), (.int (0 : Int32)), (.int (64 : Int32))])
  obtain ⟨_, _, ⟨T2, zL2, zk2, zn2⟩, -, X2, ⟨Lc2, hQ2, zl2, zy2, zz2⟩, st2⟩ := Jvm.LawKit.callS X0 hx (y := (⟨"java/util/Arrays", "rangeCheck", "(III)V"⟩ : MethodName)) hown (mvT hZ (wd_47 hw)) (mvT hZ (wd_48 hw)) (mvT hZ (wd_45 hw)) (mvT hZ (wd_49 hw)) (by decide) (backOf (W := 0) (rmR1 l Z a0 hw []  h0 n0 Z0 ) hZ (wd_49 hw) (wd_45 hw) (by decide) (by decide)) (g := (mkF m 4 #[.val (.ref xa), .val (.int (0 : Int32)), .val (.int (1 : Int32)), .val (.long x), .second] [(.int (1 : Int32)), (.int (0 : Int32)), (.int (64 : Int32))])) rfl (by rw [hml]; rfl) (argsL := [(.int (64 : Int32)), (.int (0 : Int32)), (.int (1 : Int32))]) (rest := []) (lenOf pd_0 rfl) rfl (by show 2 * 0 + _ ≤ _; exact Nat.le_of_eq rfl) (hb hby d7_4) (fun _ _ => ⟨rfl, e0, (by decide : 0 + 0 ≤ _), (by decide : 0 + 0 ≤ _)⟩)
  dsimp only [Pt.U, Pt.locs, Pt.cells, Pt.slots] at X2 zl2 zy2 zz2 st2 hQ2
  subst zl2 zy2 zz2
  obtain ⟨rfl, N2q, hs2⟩ := hQ2
  have N2 := Fr.app N0 N2q
  refine own_go st2 ?_
  refine own_go (fun _ => XS.aloadN X2.here hx rfl (hb hby d7_7) rfl rfl) ?_
  refine own_go (fun _ => XS.iloadN X2.here hx rfl (hb hby d7_8) rfl) ?_
  show own_G p e below Φ T2 (mkF m 9 #[.val (.ref xa), .val (.int (0 : Int32)), .val (.int (1 : Int32)), .val (.long x), .second] [(.int (0 : Int32)), (.ref xa)])
  refine own_go (fun _ => XS.iloadN X2.here hx rfl (hb hby d7_9) rfl) ?_
  refine own_go (fun _ => XS.lloadN X2.here hx rfl (hb hby d7_10) rfl) ?_
  show own_G p e below Φ T2 (mkF m 11 #[.val (.ref xa), .val (.int (0 : Int32)), .val (.int (1 : Int32)), .val (.long x), .second] [(.long x), (.int (1 : Int32)), (.int (0 : Int32)), (.ref xa)])
  obtain ⟨_, _, ⟨T3, zL3, zk3, zn3⟩, -, X3, ⟨Lc3, hQ3, zl3, zy3, zz3⟩, st3⟩ := Jvm.LawKit.callS X2 hx (y := (⟨"java/util/Arrays", "binarySearch0", "([JIIJ)I"⟩ : MethodName)) hown (mvT hZ (wd_50 hw)) (mvT hZ (wd_51 hw)) (mvT hZ (wd_45 hw)) (mvT hZ (wd_52 hw)) (by decide) (backOf (W := 0) (rmB0_1ins1 l Z a0 hw [] xa kk x k0 h0 n0 Z0 V_xa r0) hZ (wd_52 hw) (wd_45 hw) (by decide) (by decide)) (g := (mkF m 11 #[.val (.ref xa), .val (.int (0 : Int32)), .val (.int (1 : Int32)), .val (.long x), .second] [(.long x), (.int (1 : Int32)), (.int (0 : Int32)), (.ref xa)])) rfl (by rw [hml]; rfl) (argsL := [(.ref xa), (.int (0 : Int32)), (.int (1 : Int32)), (.long x)]) (rest := []) (lenOf pd_1 rfl) rfl (by show 2 * 0 + _ ≤ _; exact Nat.le_of_eq rfl) (hb hby d7_11) (fun _ _ => ⟨rfl, hs2, (by decide : 0 + 0 ≤ _), (by decide : 0 + 0 ≤ _)⟩)
  dsimp only [Pt.U, Pt.locs, Pt.cells, Pt.slots] at X3 zl3 zy3 zz3 st3 hQ3
  subst zl3 zy3 zz3
  obtain ⟨rfl, N3q, hs3⟩ := hQ3
  have N3 := Fr.app N2 N3q
  refine own_go st3 ?_
  show own_G p e below Φ T3 (mkF m 14 #[.val (.ref xa), .val (.int (0 : Int32)), .val (.int (1 : Int32)), .val (.long x), .second] [(.int (-2 : Int32))])
  rw [hΦ]
  refine own_ret X3 (v := some (.int (-2 : Int32))) (fun h => by rw [Bd.returns] at h; cases h) (BodyLoose.notSynchronized Bd) (fun fs hr => retOut X3 hx Bd.returns rfl (Or.inl ⟨rfl, Or.inl rfl, _, rfl⟩) (hb hby d7_14) hr) ?_ (by decide) (by decide)
  rw [hs3]
  exact ⟨rfl, N3, rfl⟩
theorem ef_rmS_1ins1 (m : MethodId) (a1 : Addr) (q1 : Int64) : entryFrame m #[(.ref a1), (.long q1)] 3 = mkF m 0 #[.val (.ref a1), .val (.long q1), .second] [] := by first | (simp [entryFrame, mkF, argsToLocals, Value.category]; done) | rfl
def Q_rmS_1ins1 (Z : State) (a1 : Addr) (q1 : Int64) (hf : Int32) (xa : Addr) (kk : ClassId) (k0 : Int64) (h0 : Heap) (n0 : Nat) (v : Option Value) (h : Heap) (L : List Loc) : Prop := v = some (.int (-2 : Int32)) ∧ Fr n0 L ∧ h = h0
set_option maxRecDepth 65536 in
set_option maxHeartbeats 40000000 in
theorem rmS_1ins1 (l : Launch) (Z : State) (a0 : Array Value) (hw : ∀ d ∈ tables_1, d.before a0 Z = true) (ws : List Jvm.Cond) (a1 : Addr) (q1 : Int64) (hf : Int32) (xa : Addr) (kk : ClassId) (k0 : Int64) (h0 : Heap) (n0 : Nat) (Z0 : n0 ≤ h0.size) (E_a1 : Exa Z h0 a1 "corro/core/LimitLevels") (F_keys_a1 : Fld Z h0 a1 "corro/core/LimitLevels" "keys" "[J" (.ref xa)) (F_size_a1 : Fld Z h0 a1 "corro/core/LimitLevels" "size" "I" (.int (1 : Int32))) (F_highestFirst_a1 : Fld Z h0 a1 "corro/core/LimitLevels" "highestFirst" "Z" (.int hf)) (V_xa : Arv Z h0 xa kk .long (64 : Int32) [(.long k0)] (.long (0 : Int64))) (r0 : k0 < (own_key hf q1)) :
    MetFree l (⟨"corro/core/LimitLevels", "search", "(J)I"⟩ : MethodName) (head1 (Jvm.Cond.code (⟨"corro/core/LimitLevels", "search", "(J)I"⟩ : MethodName) prog_14_method_10_code 3 (some .int) :: ws) ({ frames := 2, cells := 0, slots := 0, locals := 37 } : Room)) (fun a U => a = #[(.ref a1), (.long q1)] ∧ Z.Warmed39 U.vm ∧ U.heap = h0) (fun _ _ _ _ _ => True) (fun _ U o U' => ∃ v L, o = .returned v ∧ Q_rmS_1ins1 Z a1 q1 hf xa kk k0 h0 n0 v U'.heap L ∧ FrameEnd U o U' L ({ frames := 2, cells := 0, slots := 0, locals := 37 } : Room).cells ({ frames := 2, cells := 0, slots := 0, locals := 37 } : Room).slots) := by
  refine MetFree.of_bodySF (plainFor_of_name pn_1) hisR ?_
  intro p e s m args below meth c s₁ Bd hml0 hP hK
  obtain ⟨rfl, hZ, hh⟩ := hP
  have hx := Bd.exec
  have hby := Bd.bytes
  have hml : c.maxLocals = 3 := hml0
  have hown : s.vm.findClass "corro/core/LimitLevels" = some m.cls := findClass_of_methodNamed Bd.named
  have hnm := (name_of_methodNamed Bd.named Bd.method).1
  have X0 : Stand p l e ({ frames := 2, cells := 0, slots := 0, locals := 37 } : Room) s m #[(.ref a1), (.long q1)] below meth c s₁ [] 0 0 := Stand.of_body Bd
  have e0 : s₁.heap = h0 := by rw [← hh, Bd.state]; rfl
  have N0 := Fr.nil n0
  suffices G0 : own_G p e below (own_E s below (Q_rmS_1ins1 Z a1 q1 hf xa kk k0 h0 n0) ({ frames := 2, cells := 0, slots := 0, locals := 37 } : Room).cells ({ frames := 2, cells := 0, slots := 0, locals := 37 } : Room).slots) s₁ (mkF m 0 #[.val (.ref a1), .val (.long q1), .second] []) by
    obtain ⟨zt, zst, zo, zq1, zq2, zq3⟩ := G0
    exact ⟨zt, zo, castTop (ef_rmS_1ins1 m a1 q1) zst, zq1, zq2, zq3⟩
  obtain ⟨Φ, hΦ⟩ : ∃ Φ, Φ = own_E s below (Q_rmS_1ins1 Z a1 q1 hf xa kk k0 h0 n0) ({ frames := 2, cells := 0, slots := 0, locals := 37 } : Room).cells ({ frames := 2, cells := 0, slots := 0, locals := 37 } : Room).slots := ⟨_, rfl⟩
  rw [← hΦ]
  show own_G p e below Φ s₁ (mkF m 0 #[.val (.ref a1), .val (.long q1), .second] [])
  refine own_go (fun _ => XS.aloadN X0.here hx rfl (hb hby d5_0) rfl rfl) ?_
  show own_G p e below Φ s₁ (mkF m 1 #[.val (.ref a1), .val (.long q1), .second] [(.ref a1)])
  obtain ⟨T1, X1, e1, st1⟩ := getF X0 hx hZ hown (host := "") (Or.inl (wd_18 hw)) Via.refl e0 F_keys_a1 (g := (mkF m 1 #[.val (.ref a1), .val (.long q1), .second] [(.ref a1)])) rfl rfl (hb hby d5_1)
  refine own_go st1 ?_
  refine own_go (fun _ => XS.iconst X1.here hx rfl (hb hby d5_4)) ?_
  refine own_go (fun _ => XS.aloadN X1.here hx rfl (hb hby d5_5) rfl rfl) ?_
  show own_G p e below Φ T1 (mkF m 6 #[.val (.ref a1), .val (.long q1), .second] [(.ref a1), (.int (0 : Int32)), (.ref xa)])
  obtain ⟨T2, X2, e2, st2⟩ := getF X1 hx hZ hown (host := "") (Or.inl (wd_37 hw)) Via.refl e1 F_size_a1 (g := (mkF m 6 #[.val (.ref a1), .val (.long q1), .second] [(.ref a1), (.int (0 : Int32)), (.ref xa)])) rfl rfl (hb hby d5_6)
  refine own_go st2 ?_
  refine own_go (fun _ => XS.aloadN X2.here hx rfl (hb hby d5_9) rfl rfl) ?_
  refine own_go (fun _ => XS.lloadN X2.here hx rfl (hb hby d5_10) rfl) ?_
  show own_G p e below Φ T2 (mkF m 11 #[.val (.ref a1), .val (.long q1), .second] [(.long q1), (.ref a1), (.int (1 : Int32)), (.int (0 : Int32)), (.ref xa)])
  obtain ⟨cq3, zc3, zc3z⟩ := E_a1.cell
  obtain ⟨_, _, ⟨T3, zL3, zk3, zn3⟩, -, X3, ⟨Lc3, hQ3, zl3, zy3, zz3⟩, st3⟩ := X2.privateBack hx (y := (⟨"corro/core/LimitLevels", "key", "(J)J"⟩ : MethodName)) hown (mvT hZ (wd_39 hw)) (mvT hZ (wd_40 hw)) (own_selp (x := (⟨"corro/core/LimitLevels", "getOrAdd", "(J)Lcorro/core/Level;"⟩ : MethodName)) rfl (mvT hZ (wd_30 hw)) (notFace_of_selects (args := #[]) (mvT hZ (wd_31 hw))) (Cond.privateMethod_at (mvP hZ (wd_41 hw) (args := #[]))) (mvT hZ (wd_40 hw)) (by decide)) (Cond.privateMethod_at (mvP hZ (wd_41 hw) (args := #[]))) (mvT hZ (wd_42 hw)) (by decide) (backOf (W := 3) (rmK l Z a0 hw [] a1 q1 hf h0 n0 Z0 F_highestFirst_a1) hZ (wd_42 hw) (wd_7 hw) (by decide) (by decide)) (g := (mkF m 11 #[.val (.ref a1), .val (.long q1), .second] [(.long q1), (.ref a1), (.int (1 : Int32)), (.int (0 : Int32)), (.ref xa)])) rfl (by rw [hml]; rfl) (Steps.refl _) (a := a1) (by rw [e2]; exact zc3) zc3z (argsL := [(.long q1)]) (rest := [(.int (1 : Int32)), (.int (0 : Int32)), (.ref xa)]) (lenOf pd_2 rfl) rfl (by show 2 * 0 + _ ≤ _; exact Nat.le_of_eq rfl) (hb hby d5_11) (fun _ _ => ⟨rfl, e2, (by decide : 0 + 0 ≤ _), (by decide : 0 + 0 ≤ _)⟩)
  dsimp only [Pt.U, Pt.locs, Pt.cells, Pt.slots] at X3 zl3 zy3 zz3 st3 hQ3
  subst zl3 zy3 zz3
  obtain ⟨rfl, N3q, hs3⟩ := hQ3
  have N3 := Fr.app N0 N3q
  refine own_on st3 ?_
  show own_G p e below Φ T3 (mkF m 14 #[.val (.ref a1), .val (.long q1), .second] [(.long (own_key hf q1)), (.int (1 : Int32)), (.int (0 : Int32)), (.ref xa)])
  obtain ⟨_, _, ⟨T4, zL4, zk4, zn4⟩, -, X4, ⟨Lc4, hQ4, zl4, zy4, zz4⟩, st4⟩ := Jvm.LawKit.callS X3 hx (y := (⟨"java/util/Arrays", "binarySearch", "([JIIJ)I"⟩ : MethodName)) hown (mvT hZ (wd_43 hw)) (mvT hZ (wd_44 hw)) (mvT hZ (wd_45 hw)) (mvT hZ (wd_46 hw)) (by decide) (backOf (W := 0) (rmB1_1ins1 l Z a0 hw [] xa kk (own_key hf q1) k0 h0 n0 Z0 V_xa r0) hZ (wd_46 hw) (wd_45 hw) (by decide) (by decide)) (g := (mkF m 14 #[.val (.ref a1), .val (.long q1), .second] [(.long (own_key hf q1)), (.int (1 : Int32)), (.int (0 : Int32)), (.ref xa)])) rfl (by rw [hml]; rfl) (argsL := [(.ref xa), (.int (0 : Int32)), (.int (1 : Int32)), (.long (own_key hf q1))]) (rest := []) (lenOf pd_1 rfl) rfl (by show 2 * 0 + _ ≤ _; exact Nat.le_of_eq rfl) (hb hby d5_14) (fun _ _ => ⟨rfl, hs3, (by decide : 0 + 0 ≤ _), (by decide : 0 + 0 ≤ _)⟩)
  dsimp only [Pt.U, Pt.locs, Pt.cells, Pt.slots] at X4 zl4 zy4 zz4 st4 hQ4
  subst zl4 zy4 zz4
  obtain ⟨rfl, N4q, hs4⟩ := hQ4
  have N4 := Fr.app N3 N4q
  refine own_go st4 ?_
  show own_G p e below Φ T4 (mkF m 17 #[.val (.ref a1), .val (.long q1), .second] [(.int (-2 : Int32))])
  rw [hΦ]
  refine own_ret X4 (v := some (.int (-2 : Int32))) (fun h => by rw [Bd.returns] at h; cases h) (BodyLoose.notSynchronized Bd) (fun fs hr => retOut X4 hx Bd.returns rfl (Or.inl ⟨rfl, Or.inl rfl, _, rfl⟩) (hb hby d5_17) hr) ?_ (by decide) (by decide)
  rw [hs4]
  exact ⟨rfl, N4, rfl⟩
theorem ef_rmB0_2ins0 (m : MethodId) (xa : Addr) (x : Int64) : entryFrame m #[(.ref xa), (.int (0 : Int32)), (.int (2 : Int32)), (.long x)] 10 = mkF m 0 #[.val (.ref xa), .val (.int (0 : Int32)), .val (.int (2 : Int32)), .val (.long x), .second, .unset, .unset, .unset, .unset, .unset] [] := by first | (simp [entryFrame, mkF, argsToLocals, Value.category]; done) | rfl
def Q_rmB0_2ins0 (Z : State) (xa : Addr) (kk : ClassId) (x : Int64) (k0 : Int64) (k1 : Int64) (h0 : Heap) (n0 : Nat) (v : Option Value) (h : Heap) (L : List Loc) : Prop := v = some (.int (-1 : Int32)) ∧ Fr n0 L ∧ h = h0
set_option maxRecDepth 65536 in
set_option maxHeartbeats 40000000 in
theorem rmB0_2ins0 (l : Launch) (Z : State) (a0 : Array Value) (hw : ∀ d ∈ tables_1, d.before a0 Z = true) (ws : List Jvm.Cond) (xa : Addr) (kk : ClassId) (x : Int64) (k0 : Int64) (k1 : Int64) (h0 : Heap) (n0 : Nat) (Z0 : n0 ≤ h0.size) (V_xa : Arv Z h0 xa kk .long (64 : Int32) [(.long k0), (.long k1)] (.long (0 : Int64))) (r0 : x < k0) :
    MetFree l (⟨"java/util/Arrays", "binarySearch0", "([JIIJ)I"⟩ : MethodName) (head1 (Jvm.Cond.code (⟨"java/util/Arrays", "binarySearch0", "([JIIJ)I"⟩ : MethodName) jdk_65_method_56_code 10 (some .int) :: ws) ({ frames := 0, cells := 0, slots := 0, locals := 0 } : Room)) (fun a U => a = #[(.ref xa), (.int (0 : Int32)), (.int (2 : Int32)), (.long x)] ∧ Z.Warmed39 U.vm ∧ U.heap = h0) (fun _ _ _ _ _ => True) (fun _ U o U' => ∃ v L, o = .returned v ∧ Q_rmB0_2ins0 Z xa kk x k0 k1 h0 n0 v U'.heap L ∧ FrameEnd U o U' L ({ frames := 0, cells := 0, slots := 0, locals := 0 } : Room).cells ({ frames := 0, cells := 0, slots := 0, locals := 0 } : Room).slots) := by
  refine MetFree.of_bodySF (plainFor_of_name pn_3) hisR ?_
  intro p e s m args below meth c s₁ Bd hml0 hP hK
  obtain ⟨rfl, hZ, hh⟩ := hP
  have hx := Bd.exec
  have hby := Bd.bytes
  have hml : c.maxLocals = 10 := hml0
  have hown : s.vm.findClass "java/util/Arrays" = some m.cls := findClass_of_methodNamed Bd.named
  have hnm := (name_of_methodNamed Bd.named Bd.method).1
  have X0 : Stand p l e ({ frames := 0, cells := 0, slots := 0, locals := 0 } : Room) s m #[(.ref xa), (.int (0 : Int32)), (.int (2 : Int32)), (.long x)] below meth c s₁ [] 0 0 := Stand.of_body Bd
  have e0 : s₁.heap = h0 := by rw [← hh, Bd.state]; rfl
  have N0 := Fr.nil n0
  suffices G0 : own_G p e below (own_E s below (Q_rmB0_2ins0 Z xa kk x k0 k1 h0 n0) ({ frames := 0, cells := 0, slots := 0, locals := 0 } : Room).cells ({ frames := 0, cells := 0, slots := 0, locals := 0 } : Room).slots) s₁ (mkF m 0 #[.val (.ref xa), .val (.int (0 : Int32)), .val (.int (2 : Int32)), .val (.long x), .second, .unset, .unset, .unset, .unset, .unset] []) by
    obtain ⟨zt, zst, zo, zq1, zq2, zq3⟩ := G0
    exact ⟨zt, zo, castTop (ef_rmB0_2ins0 m xa x) zst, zq1, zq2, zq3⟩
  obtain ⟨Φ, hΦ⟩ : ∃ Φ, Φ = own_E s below (Q_rmB0_2ins0 Z xa kk x k0 k1 h0 n0) ({ frames := 0, cells := 0, slots := 0, locals := 0 } : Room).cells ({ frames := 0, cells := 0, slots := 0, locals := 0 } : Room).slots := ⟨_, rfl⟩
  rw [← hΦ]
  show own_G p e below Φ s₁ (mkF m 0 #[.val (.ref xa), .val (.int (0 : Int32)), .val (.int (2 : Int32)), .val (.long x), .second, .unset, .unset, .unset, .unset, .unset] [])
  refine own_go (fun _ => XS.iloadN X0.here hx rfl (hb hby d9_0) rfl) ?_
  refine own_go (fun _ => XS.istore X0.here hx rfl (hb hby d9_1) rfl (l' := #[.val (.ref xa), .val (.int (0 : Int32)), .val (.int (2 : Int32)), .val (.long x), .second, .val (.int (0 : Int32)), .unset, .unset, .unset, .unset]) rfl) ?_
  refine own_go (fun _ => XS.iloadN X0.here hx rfl (hb hby d9_3) rfl) ?_
  show own_G p e below Φ s₁ (mkF m 4 #[.val (.ref xa), .val (.int (0 : Int32)), .val (.int (2 : Int32)), .val (.long x), .second, .val (.int (0 : Int32)), .unset, .unset, .unset, .unset] [(.int (2 : Int32))])
  refine own_go (fun _ => XS.iconst X0.here hx rfl (hb hby d9_4)) ?_
  show own_G p e below Φ s₁ (mkF m 5 #[.val (.ref xa), .val (.int (0 : Int32)), .val (.int (2 : Int32)), .val (.long x), .second, .val (.int (0 : Int32)), .unset, .unset, .unset, .unset] [(.int (1 : Int32)), (.int (2 : Int32))])
  refine own_go (fun _ => XS.isub X0.here hx rfl (hb hby d9_5) rfl) ?_
  refine own_go (fun _ => XS.istore X0.here hx rfl (hb hby d9_6) rfl (l' := #[.val (.ref xa), .val (.int (0 : Int32)), .val (.int (2 : Int32)), .val (.long x), .second, .val (.int (0 : Int32)), .val (.int (1 : Int32)), .unset, .unset, .unset]) rfl) ?_
  refine own_go (fun _ => XS.iload X0.here hx rfl (hb hby d9_8) rfl) ?_
  show own_G p e below Φ s₁ (mkF m 10 #[.val (.ref xa), .val (.int (0 : Int32)), .val (.int (2 : Int32)), .val (.long x), .second, .val (.int (0 : Int32)), .val (.int (1 : Int32)), .unset, .unset, .unset] [(.int (0 : Int32))])
  refine own_go (fun _ => XS.iload X0.here hx rfl (hb hby d9_10) rfl) ?_
  show own_G p e below Φ s₁ (mkF m 12 #[.val (.ref xa), .val (.int (0 : Int32)), .val (.int (2 : Int32)), .val (.long x), .second, .val (.int (0 : Int32)), .val (.int (1 : Int32)), .unset, .unset, .unset] [(.int (1 : Int32)), (.int (0 : Int32))])
  refine own_go (fun _ => XS.icmpNo X0.here hx rfl (hb hby d9_12) rfl (Jvm.Free.XT.ii_gt_f (by decide : ¬ ((1 : Int32) < (0 : Int32))))) ?_
  refine own_go (fun _ => XS.iload X0.here hx rfl (hb hby d9_15) rfl) ?_
  refine own_go (fun _ => XS.iload X0.here hx rfl (hb hby d9_17) rfl) ?_
  show own_G p e below Φ s₁ (mkF m 19 #[.val (.ref xa), .val (.int (0 : Int32)), .val (.int (2 : Int32)), .val (.long x), .second, .val (.int (0 : Int32)), .val (.int (1 : Int32)), .unset, .unset, .unset] [(.int (1 : Int32)), (.int (0 : Int32))])
  refine own_go (fun _ => XS.iadd X0.here hx rfl (hb hby d9_19) rfl) ?_
  refine own_go (fun _ => XS.iconst X0.here hx rfl (hb hby d9_20)) ?_
  show own_G p e below Φ s₁ (mkF m 21 #[.val (.ref xa), .val (.int (0 : Int32)), .val (.int (2 : Int32)), .val (.long x), .second, .val (.int (0 : Int32)), .val (.int (1 : Int32)), .unset, .unset, .unset] [(.int (1 : Int32)), (.int (1 : Int32))])
  refine own_go (fun _ => XS.iushr X0.here hx rfl (hb hby d9_21) rfl) ?_
  refine own_go (fun _ => XS.istore X0.here hx rfl (hb hby d9_22) rfl (l' := #[.val (.ref xa), .val (.int (0 : Int32)), .val (.int (2 : Int32)), .val (.long x), .second, .val (.int (0 : Int32)), .val (.int (1 : Int32)), .val (.int (0 : Int32)), .unset, .unset]) rfl) ?_
  refine own_go (fun _ => XS.aloadN X0.here hx rfl (hb hby d9_24) rfl rfl) ?_
  show own_G p e below Φ s₁ (mkF m 25 #[.val (.ref xa), .val (.int (0 : Int32)), .val (.int (2 : Int32)), .val (.long x), .second, .val (.int (0 : Int32)), .val (.int (1 : Int32)), .val (.int (0 : Int32)), .unset, .unset] [(.ref xa)])
  refine own_go (fun _ => XS.iload X0.here hx rfl (hb hby d9_25) rfl) ?_
  show own_G p e below Φ s₁ (mkF m 27 #[.val (.ref xa), .val (.int (0 : Int32)), .val (.int (2 : Int32)), .val (.long x), .second, .val (.int (0 : Int32)), .val (.int (1 : Int32)), .val (.int (0 : Int32)), .unset, .unset] [(.int (0 : Int32)), (.ref xa)])
  obtain ⟨cl1, Ar1, zq1, S1, M1, H1, G1⟩ := id V_xa
  have hin1 : ¬ ((0 : Int32) < 0 ∨ cl1.slots.size ≤ ((0 : Int32)).toNatClampNeg) := inb_of S1 ⟨by decide, by decide⟩
  refine own_go (fun _ => X0.laload hx (j := (0 : Int32)) (v := (.long k0)) (by rw [e0]; exact Ar1.1) (State.isArrayOf_alike hZ.alike Ar1.2.1) Ar1.2.2 hin1 (H1.at hin1 rfl) (g := (mkF m 27 #[.val (.ref xa), .val (.int (0 : Int32)), .val (.int (2 : Int32)), .val (.long x), .second, .val (.int (0 : Int32)), .val (.int (1 : Int32)), .val (.int (0 : Int32)), .unset, .unset] [(.int (0 : Int32)), (.ref xa)])) rfl rfl (hb hby d9_27) _) ?_
  refine own_go (fun _ => XS.lstore X0.here hx rfl (hb hby d9_28) rfl (l' := #[.val (.ref xa), .val (.int (0 : Int32)), .val (.int (2 : Int32)), .val (.long x), .second, .val (.int (0 : Int32)), .val (.int (1 : Int32)), .val (.int (0 : Int32)), .val (.long k0), .second]) rfl) ?_
  refine own_go (fun _ => XS.lload X0.here hx rfl (hb hby d9_30) rfl) ?_
  show own_G p e below Φ s₁ (mkF m 32 #[.val (.ref xa), .val (.int (0 : Int32)), .val (.int (2 : Int32)), .val (.long x), .second, .val (.int (0 : Int32)), .val (.int (1 : Int32)), .val (.int (0 : Int32)), .val (.long k0), .second] [(.long k0)])
  refine own_go (fun _ => XS.lloadN X0.here hx rfl (hb hby d9_32) rfl) ?_
  show own_G p e below Φ s₁ (mkF m 33 #[.val (.ref xa), .val (.int (0 : Int32)), .val (.int (2 : Int32)), .val (.long x), .second, .val (.int (0 : Int32)), .val (.int (1 : Int32)), .val (.int (0 : Int32)), .val (.long k0), .second] [(.long x), (.long k0)])
  refine own_go (fun _ => XS.lcmp X0.here hx rfl (hb hby d9_33) rfl) ?_
  show own_G p e below Φ s₁ (mkF m 34 #[.val (.ref xa), .val (.int (0 : Int32)), .val (.int (2 : Int32)), .val (.long x), .second, .val (.int (0 : Int32)), .val (.int (1 : Int32)), .val (.int (0 : Int32)), .val (.long k0), .second] [(.int (lcmpW k0 x))])
  refine own_go (fun _ => XS.ifYes X0.here hx rfl (pc0 := 34) (pc' := 46) rfl (hb hby d9_34) rfl (Jvm.Free.XT.ll_ge_t (own_asy r0)) (by decide) (by decide)) ?_
  refine own_go (fun _ => XS.lload X0.here hx rfl (hb hby d9_46) rfl) ?_
  refine own_go (fun _ => XS.lloadN X0.here hx rfl (hb hby d9_48) rfl) ?_
  show own_G p e below Φ s₁ (mkF m 49 #[.val (.ref xa), .val (.int (0 : Int32)), .val (.int (2 : Int32)), .val (.long x), .second, .val (.int (0 : Int32)), .val (.int (1 : Int32)), .val (.int (0 : Int32)), .val (.long k0), .second] [(.long x), (.long k0)])
  refine own_go (fun _ => XS.lcmp X0.here hx rfl (hb hby d9_49) rfl) ?_
  show own_G p e below Φ s₁ (mkF m 50 #[.val (.ref xa), .val (.int (0 : Int32)), .val (.int (2 : Int32)), .val (.long x), .second, .val (.int (0 : Int32)), .val (.int (1 : Int32)), .val (.int (0 : Int32)), .val (.long k0), .second] [(.int (lcmpW k0 x))])
  refine own_go (fun _ => XS.ifNo X0.here hx rfl (hb hby d9_50) rfl (Jvm.Free.XT.ll_le_f r0)) ?_
  refine own_go (fun _ => XS.iload X0.here hx rfl (hb hby d9_53) rfl) ?_
  refine own_go (fun _ => XS.iconst X0.here hx rfl (hb hby d9_55)) ?_
  show own_G p e below Φ s₁ (mkF m 56 #[.val (.ref xa), .val (.int (0 : Int32)), .val (.int (2 : Int32)), .val (.long x), .second, .val (.int (0 : Int32)), .val (.int (1 : Int32)), .val (.int (0 : Int32)), .val (.long k0), .second] [(.int (1 : Int32)), (.int (0 : Int32))])
  refine own_go (fun _ => XS.isub X0.here hx rfl (hb hby d9_56) rfl) ?_
  refine own_go (fun _ => XS.istore X0.here hx rfl (hb hby d9_57) rfl (l' := #[.val (.ref xa), .val (.int (0 : Int32)), .val (.int (2 : Int32)), .val (.long x), .second, .val (.int (0 : Int32)), .val (.int (-1 : Int32)), .val (.int (0 : Int32)), .val (.long k0), .second]) rfl) ?_
  refine own_go (fun _ => XS.goto X0.here hx rfl (pc0 := 59) (pc' := 65) rfl (hb hby d9_59) (by decide) (by decide)) ?_
  show own_G p e below Φ s₁ (mkF m 65 #[.val (.ref xa), .val (.int (0 : Int32)), .val (.int (2 : Int32)), .val (.long x), .second, .val (.int (0 : Int32)), .val (.int (-1 : Int32)), .val (.int (0 : Int32)), .val (.long k0), .second] [])
  refine own_go (fun _ => XS.goto X0.here hx rfl (pc0 := 65) (pc' := 8) rfl (hb hby d9_65) (by decide) (by decide)) ?_
  refine own_go (fun _ => XS.iload X0.here hx rfl (hb hby d9_8) rfl) ?_
  refine own_go (fun _ => XS.iload X0.here hx rfl (hb hby d9_10) rfl) ?_
  show own_G p e below Φ s₁ (mkF m 12 #[.val (.ref xa), .val (.int (0 : Int32)), .val (.int (2 : Int32)), .val (.long x), .second, .val (.int (0 : Int32)), .val (.int (-1 : Int32)), .val (.int (0 : Int32)), .val (.long k0), .second] [(.int (-1 : Int32)), (.int (0 : Int32))])
  refine own_go (fun _ => XS.icmpYes X0.here hx rfl (pc0 := 12) (pc' := 68) rfl (hb hby d9_12) rfl (Jvm.Free.XT.ii_gt_t (by decide : ((-1 : Int32) < (0 : Int32)))) (by decide) (by decide)) ?_
  refine own_go (fun _ => XS.iload X0.here hx rfl (hb hby d9_68) rfl) ?_
  refine own_go (fun _ => XS.iconst X0.here hx rfl (hb hby d9_70)) ?_
  show own_G p e below Φ s₁ (mkF m 71 #[.val (.ref xa), .val (.int (0 : Int32)), .val (.int (2 : Int32)), .val (.long x), .second, .val (.int (0 : Int32)), .val (.int (-1 : Int32)), .val (.int (0 : Int32)), .val (.long k0), .second] [(.int (1 : Int32)), (.int (0 : Int32))])
  refine own_go (fun _ => XS.iadd X0.here hx rfl (hb hby d9_71) rfl) ?_
  show own_G p e below Φ s₁ (mkF m 72 #[.val (.ref xa), .val (.int (0 : Int32)), .val (.int (2 : Int32)), .val (.long x), .second, .val (.int (0 : Int32)), .val (.int (-1 : Int32)), .val (.int (0 : Int32)), .val (.long k0), .second] [(.int (1 : Int32))])
  refine own_go (fun _ => XS.ineg X0.here hx rfl (hb hby d9_72) rfl) ?_
  show own_G p e below Φ s₁ (mkF m 73 #[.val (.ref xa), .val (.int (0 : Int32)), .val (.int (2 : Int32)), .val (.long x), .second, .val (.int (0 : Int32)), .val (.int (-1 : Int32)), .val (.int (0 : Int32)), .val (.long k0), .second] [(.int (-1 : Int32))])
  rw [hΦ]
  refine own_ret X0 (v := some (.int (-1 : Int32))) (fun h => by rw [Bd.returns] at h; cases h) (BodyLoose.notSynchronized Bd) (fun fs hr => retOut X0 hx Bd.returns rfl (Or.inl ⟨rfl, Or.inl rfl, _, rfl⟩) (hb hby d9_73) hr) ?_ (by decide) (by decide)
  rw [e0]
  exact ⟨rfl, N0, rfl⟩
theorem ef_rmB1_2ins0 (m : MethodId) (xa : Addr) (x : Int64) : entryFrame m #[(.ref xa), (.int (0 : Int32)), (.int (2 : Int32)), (.long x)] 5 = mkF m 0 #[.val (.ref xa), .val (.int (0 : Int32)), .val (.int (2 : Int32)), .val (.long x), .second] [] := by first | (simp [entryFrame, mkF, argsToLocals, Value.category]; done) | rfl
def Q_rmB1_2ins0 (Z : State) (xa : Addr) (kk : ClassId) (x : Int64) (k0 : Int64) (k1 : Int64) (h0 : Heap) (n0 : Nat) (v : Option Value) (h : Heap) (L : List Loc) : Prop := v = some (.int (-1 : Int32)) ∧ Fr n0 L ∧ h = h0
set_option maxRecDepth 65536 in
set_option maxHeartbeats 40000000 in
theorem rmB1_2ins0 (l : Launch) (Z : State) (a0 : Array Value) (hw : ∀ d ∈ tables_1, d.before a0 Z = true) (ws : List Jvm.Cond) (xa : Addr) (kk : ClassId) (x : Int64) (k0 : Int64) (k1 : Int64) (h0 : Heap) (n0 : Nat) (Z0 : n0 ≤ h0.size) (V_xa : Arv Z h0 xa kk .long (64 : Int32) [(.long k0), (.long k1)] (.long (0 : Int64))) (r0 : x < k0) :
    MetFree l (⟨"java/util/Arrays", "binarySearch", "([JIIJ)I"⟩ : MethodName) (head1 (Jvm.Cond.code (⟨"java/util/Arrays", "binarySearch", "([JIIJ)I"⟩ : MethodName) jdk_65_method_55_code 5 (some .int) :: ws) ({ frames := 1, cells := 0, slots := 0, locals := 21 } : Room)) (fun a U => a = #[(.ref xa), (.int (0 : Int32)), (.int (2 : Int32)), (.long x)] ∧ Z.Warmed39 U.vm ∧ U.heap = h0) (fun _ _ _ _ _ => True) (fun _ U o U' => ∃ v L, o = .returned v ∧ Q_rmB1_2ins0 Z xa kk x k0 k1 h0 n0 v U'.heap L ∧ FrameEnd U o U' L ({ frames := 1, cells := 0, slots := 0, locals := 21 } : Room).cells ({ frames := 1, cells := 0, slots := 0, locals := 21 } : Room).slots) := by
  refine MetFree.of_bodySF (plainFor_of_name pn_3) hisR ?_
  intro p e s m args below meth c s₁ Bd hml0 hP hK
  obtain ⟨rfl, hZ, hh⟩ := hP
  have hx := Bd.exec
  have hby := Bd.bytes
  have hml : c.maxLocals = 5 := hml0
  have hown : s.vm.findClass "java/util/Arrays" = some m.cls := findClass_of_methodNamed Bd.named
  have hnm := (name_of_methodNamed Bd.named Bd.method).1
  have X0 : Stand p l e ({ frames := 1, cells := 0, slots := 0, locals := 21 } : Room) s m #[(.ref xa), (.int (0 : Int32)), (.int (2 : Int32)), (.long x)] below meth c s₁ [] 0 0 := Stand.of_body Bd
  have e0 : s₁.heap = h0 := by rw [← hh, Bd.state]; rfl
  have N0 := Fr.nil n0
  suffices G0 : own_G p e below (own_E s below (Q_rmB1_2ins0 Z xa kk x k0 k1 h0 n0) ({ frames := 1, cells := 0, slots := 0, locals := 21 } : Room).cells ({ frames := 1, cells := 0, slots := 0, locals := 21 } : Room).slots) s₁ (mkF m 0 #[.val (.ref xa), .val (.int (0 : Int32)), .val (.int (2 : Int32)), .val (.long x), .second] []) by
    obtain ⟨zt, zst, zo, zq1, zq2, zq3⟩ := G0
    exact ⟨zt, zo, castTop (ef_rmB1_2ins0 m xa x) zst, zq1, zq2, zq3⟩
  obtain ⟨Φ, hΦ⟩ : ∃ Φ, Φ = own_E s below (Q_rmB1_2ins0 Z xa kk x k0 k1 h0 n0) ({ frames := 1, cells := 0, slots := 0, locals := 21 } : Room).cells ({ frames := 1, cells := 0, slots := 0, locals := 21 } : Room).slots := ⟨_, rfl⟩
  rw [← hΦ]
  show own_G p e below Φ s₁ (mkF m 0 #[.val (.ref xa), .val (.int (0 : Int32)), .val (.int (2 : Int32)), .val (.long x), .second] [])
  refine own_go (fun _ => XS.aloadN X0.here hx rfl (hb hby d7_0) rfl rfl) ?_
  show own_G p e below Φ s₁ (mkF m 1 #[.val (.ref xa), .val (.int (0 : Int32)), .val (.int (2 : Int32)), .val (.long x), .second] [(.ref xa)])
  obtain ⟨cl1, Ar1, zq1, S1, M1, H1, G1⟩ := id V_xa
  refine own_go (fun _ => X0.arraylength hx (by rw [e0]; exact Ar1.1) (State.isArrayOf_alike hZ.alike Ar1.2.1) (g := (mkF m 1 #[.val (.ref xa), .val (.int (0 : Int32)), .val (.int (2 : Int32)), .val (.long x), .second] [(.ref xa)])) rfl rfl (hb hby d7_1) _) ?_
  rw [len_of S1 M1]
  refine own_go (fun _ => XS.iloadN X0.here hx rfl (hb hby d7_2) rfl) ?_
  refine own_go (fun _ => XS.iloadN X0.here hx rfl (hb hby d7_3) rfl) ?_
  show own_G p e below Φ s₁ (mkF m 4 #[.val (.ref xa), .val (.int (0 : Int32)), .val (.int (2 : Int32)), .val (.long x), .second] [(.int (2 : Int32)), (.int (0 : Int32)), (.int (64 : Int32))])
  obtain ⟨_, _, ⟨T2, zL2, zk2, zn2⟩, -, X2, ⟨Lc2, hQ2, zl2, zy2, zz2⟩, st2⟩ := Jvm.LawKit.callS X0 hx (y := (⟨"java/util/Arrays", "rangeCheck", "(III)V"⟩ : MethodName)) hown (mvT hZ (wd_47 hw)) (mvT hZ (wd_48 hw)) (mvT hZ (wd_45 hw)) (mvT hZ (wd_49 hw)) (by decide) (backOf (W := 0) (rmR2 l Z a0 hw []  h0 n0 Z0 ) hZ (wd_49 hw) (wd_45 hw) (by decide) (by decide)) (g := (mkF m 4 #[.val (.ref xa), .val (.int (0 : Int32)), .val (.int (2 : Int32)), .val (.long x), .second] [(.int (2 : Int32)), (.int (0 : Int32)), (.int (64 : Int32))])) rfl (by rw [hml]; rfl) (argsL := [(.int (64 : Int32)), (.int (0 : Int32)), (.int (2 : Int32))]) (rest := []) (lenOf pd_0 rfl) rfl (by show 2 * 0 + _ ≤ _; exact Nat.le_of_eq rfl) (hb hby d7_4) (fun _ _ => ⟨rfl, e0, (by decide : 0 + 0 ≤ _), (by decide : 0 + 0 ≤ _)⟩)
  dsimp only [Pt.U, Pt.locs, Pt.cells, Pt.slots] at X2 zl2 zy2 zz2 st2 hQ2
  subst zl2 zy2 zz2
  obtain ⟨rfl, N2q, hs2⟩ := hQ2
  have N2 := Fr.app N0 N2q
  refine own_go st2 ?_
  refine own_go (fun _ => XS.aloadN X2.here hx rfl (hb hby d7_7) rfl rfl) ?_
  refine own_go (fun _ => XS.iloadN X2.here hx rfl (hb hby d7_8) rfl) ?_
  show own_G p e below Φ T2 (mkF m 9 #[.val (.ref xa), .val (.int (0 : Int32)), .val (.int (2 : Int32)), .val (.long x), .second] [(.int (0 : Int32)), (.ref xa)])
  refine own_go (fun _ => XS.iloadN X2.here hx rfl (hb hby d7_9) rfl) ?_
  refine own_go (fun _ => XS.lloadN X2.here hx rfl (hb hby d7_10) rfl) ?_
  show own_G p e below Φ T2 (mkF m 11 #[.val (.ref xa), .val (.int (0 : Int32)), .val (.int (2 : Int32)), .val (.long x), .second] [(.long x), (.int (2 : Int32)), (.int (0 : Int32)), (.ref xa)])
  obtain ⟨_, _, ⟨T3, zL3, zk3, zn3⟩, -, X3, ⟨Lc3, hQ3, zl3, zy3, zz3⟩, st3⟩ := Jvm.LawKit.callS X2 hx (y := (⟨"java/util/Arrays", "binarySearch0", "([JIIJ)I"⟩ : MethodName)) hown (mvT hZ (wd_50 hw)) (mvT hZ (wd_51 hw)) (mvT hZ (wd_45 hw)) (mvT hZ (wd_52 hw)) (by decide) (backOf (W := 0) (rmB0_2ins0 l Z a0 hw [] xa kk x k0 k1 h0 n0 Z0 V_xa r0) hZ (wd_52 hw) (wd_45 hw) (by decide) (by decide)) (g := (mkF m 11 #[.val (.ref xa), .val (.int (0 : Int32)), .val (.int (2 : Int32)), .val (.long x), .second] [(.long x), (.int (2 : Int32)), (.int (0 : Int32)), (.ref xa)])) rfl (by rw [hml]; rfl) (argsL := [(.ref xa), (.int (0 : Int32)), (.int (2 : Int32)), (.long x)]) (rest := []) (lenOf pd_1 rfl) rfl (by show 2 * 0 + _ ≤ _; exact Nat.le_of_eq rfl) (hb hby d7_11) (fun _ _ => ⟨rfl, hs2, (by decide : 0 + 0 ≤ _), (by decide : 0 + 0 ≤ _)⟩)
  dsimp only [Pt.U, Pt.locs, Pt.cells, Pt.slots] at X3 zl3 zy3 zz3 st3 hQ3
  subst zl3 zy3 zz3
  obtain ⟨rfl, N3q, hs3⟩ := hQ3
  have N3 := Fr.app N2 N3q
  refine own_go st3 ?_
  show own_G p e below Φ T3 (mkF m 14 #[.val (.ref xa), .val (.int (0 : Int32)), .val (.int (2 : Int32)), .val (.long x), .second] [(.int (-1 : Int32))])
  rw [hΦ]
  refine own_ret X3 (v := some (.int (-1 : Int32))) (fun h => by rw [Bd.returns] at h; cases h) (BodyLoose.notSynchronized Bd) (fun fs hr => retOut X3 hx Bd.returns rfl (Or.inl ⟨rfl, Or.inl rfl, _, rfl⟩) (hb hby d7_14) hr) ?_ (by decide) (by decide)
  rw [hs3]
  exact ⟨rfl, N3, rfl⟩
theorem ef_rmS_2ins0 (m : MethodId) (a1 : Addr) (q1 : Int64) : entryFrame m #[(.ref a1), (.long q1)] 3 = mkF m 0 #[.val (.ref a1), .val (.long q1), .second] [] := by first | (simp [entryFrame, mkF, argsToLocals, Value.category]; done) | rfl
def Q_rmS_2ins0 (Z : State) (a1 : Addr) (q1 : Int64) (hf : Int32) (xa : Addr) (kk : ClassId) (k0 : Int64) (k1 : Int64) (h0 : Heap) (n0 : Nat) (v : Option Value) (h : Heap) (L : List Loc) : Prop := v = some (.int (-1 : Int32)) ∧ Fr n0 L ∧ h = h0
set_option maxRecDepth 65536 in
set_option maxHeartbeats 40000000 in
theorem rmS_2ins0 (l : Launch) (Z : State) (a0 : Array Value) (hw : ∀ d ∈ tables_1, d.before a0 Z = true) (ws : List Jvm.Cond) (a1 : Addr) (q1 : Int64) (hf : Int32) (xa : Addr) (kk : ClassId) (k0 : Int64) (k1 : Int64) (h0 : Heap) (n0 : Nat) (Z0 : n0 ≤ h0.size) (E_a1 : Exa Z h0 a1 "corro/core/LimitLevels") (F_keys_a1 : Fld Z h0 a1 "corro/core/LimitLevels" "keys" "[J" (.ref xa)) (F_size_a1 : Fld Z h0 a1 "corro/core/LimitLevels" "size" "I" (.int (2 : Int32))) (F_highestFirst_a1 : Fld Z h0 a1 "corro/core/LimitLevels" "highestFirst" "Z" (.int hf)) (V_xa : Arv Z h0 xa kk .long (64 : Int32) [(.long k0), (.long k1)] (.long (0 : Int64))) (r0 : (own_key hf q1) < k0) :
    MetFree l (⟨"corro/core/LimitLevels", "search", "(J)I"⟩ : MethodName) (head1 (Jvm.Cond.code (⟨"corro/core/LimitLevels", "search", "(J)I"⟩ : MethodName) prog_14_method_10_code 3 (some .int) :: ws) ({ frames := 2, cells := 0, slots := 0, locals := 37 } : Room)) (fun a U => a = #[(.ref a1), (.long q1)] ∧ Z.Warmed39 U.vm ∧ U.heap = h0) (fun _ _ _ _ _ => True) (fun _ U o U' => ∃ v L, o = .returned v ∧ Q_rmS_2ins0 Z a1 q1 hf xa kk k0 k1 h0 n0 v U'.heap L ∧ FrameEnd U o U' L ({ frames := 2, cells := 0, slots := 0, locals := 37 } : Room).cells ({ frames := 2, cells := 0, slots := 0, locals := 37 } : Room).slots) := by
  refine MetFree.of_bodySF (plainFor_of_name pn_1) hisR ?_
  intro p e s m args below meth c s₁ Bd hml0 hP hK
  obtain ⟨rfl, hZ, hh⟩ := hP
  have hx := Bd.exec
  have hby := Bd.bytes
  have hml : c.maxLocals = 3 := hml0
  have hown : s.vm.findClass "corro/core/LimitLevels" = some m.cls := findClass_of_methodNamed Bd.named
  have hnm := (name_of_methodNamed Bd.named Bd.method).1
  have X0 : Stand p l e ({ frames := 2, cells := 0, slots := 0, locals := 37 } : Room) s m #[(.ref a1), (.long q1)] below meth c s₁ [] 0 0 := Stand.of_body Bd
  have e0 : s₁.heap = h0 := by rw [← hh, Bd.state]; rfl
  have N0 := Fr.nil n0
  suffices G0 : own_G p e below (own_E s below (Q_rmS_2ins0 Z a1 q1 hf xa kk k0 k1 h0 n0) ({ frames := 2, cells := 0, slots := 0, locals := 37 } : Room).cells ({ frames := 2, cells := 0, slots := 0, locals := 37 } : Room).slots) s₁ (mkF m 0 #[.val (.ref a1), .val (.long q1), .second] []) by
    obtain ⟨zt, zst, zo, zq1, zq2, zq3⟩ := G0
    exact ⟨zt, zo, castTop (ef_rmS_2ins0 m a1 q1) zst, zq1, zq2, zq3⟩
  obtain ⟨Φ, hΦ⟩ : ∃ Φ, Φ = own_E s below (Q_rmS_2ins0 Z a1 q1 hf xa kk k0 k1 h0 n0) ({ frames := 2, cells := 0, slots := 0, locals := 37 } : Room).cells ({ frames := 2, cells := 0, slots := 0, locals := 37 } : Room).slots := ⟨_, rfl⟩
  rw [← hΦ]
  show own_G p e below Φ s₁ (mkF m 0 #[.val (.ref a1), .val (.long q1), .second] [])
  refine own_go (fun _ => XS.aloadN X0.here hx rfl (hb hby d5_0) rfl rfl) ?_
  show own_G p e below Φ s₁ (mkF m 1 #[.val (.ref a1), .val (.long q1), .second] [(.ref a1)])
  obtain ⟨T1, X1, e1, st1⟩ := getF X0 hx hZ hown (host := "") (Or.inl (wd_18 hw)) Via.refl e0 F_keys_a1 (g := (mkF m 1 #[.val (.ref a1), .val (.long q1), .second] [(.ref a1)])) rfl rfl (hb hby d5_1)
  refine own_go st1 ?_
  refine own_go (fun _ => XS.iconst X1.here hx rfl (hb hby d5_4)) ?_
  refine own_go (fun _ => XS.aloadN X1.here hx rfl (hb hby d5_5) rfl rfl) ?_
  show own_G p e below Φ T1 (mkF m 6 #[.val (.ref a1), .val (.long q1), .second] [(.ref a1), (.int (0 : Int32)), (.ref xa)])
  obtain ⟨T2, X2, e2, st2⟩ := getF X1 hx hZ hown (host := "") (Or.inl (wd_37 hw)) Via.refl e1 F_size_a1 (g := (mkF m 6 #[.val (.ref a1), .val (.long q1), .second] [(.ref a1), (.int (0 : Int32)), (.ref xa)])) rfl rfl (hb hby d5_6)
  refine own_go st2 ?_
  refine own_go (fun _ => XS.aloadN X2.here hx rfl (hb hby d5_9) rfl rfl) ?_
  refine own_go (fun _ => XS.lloadN X2.here hx rfl (hb hby d5_10) rfl) ?_
  show own_G p e below Φ T2 (mkF m 11 #[.val (.ref a1), .val (.long q1), .second] [(.long q1), (.ref a1), (.int (2 : Int32)), (.int (0 : Int32)), (.ref xa)])
  obtain ⟨cq3, zc3, zc3z⟩ := E_a1.cell
  obtain ⟨_, _, ⟨T3, zL3, zk3, zn3⟩, -, X3, ⟨Lc3, hQ3, zl3, zy3, zz3⟩, st3⟩ := X2.privateBack hx (y := (⟨"corro/core/LimitLevels", "key", "(J)J"⟩ : MethodName)) hown (mvT hZ (wd_39 hw)) (mvT hZ (wd_40 hw)) (own_selp (x := (⟨"corro/core/LimitLevels", "getOrAdd", "(J)Lcorro/core/Level;"⟩ : MethodName)) rfl (mvT hZ (wd_30 hw)) (notFace_of_selects (args := #[]) (mvT hZ (wd_31 hw))) (Cond.privateMethod_at (mvP hZ (wd_41 hw) (args := #[]))) (mvT hZ (wd_40 hw)) (by decide)) (Cond.privateMethod_at (mvP hZ (wd_41 hw) (args := #[]))) (mvT hZ (wd_42 hw)) (by decide) (backOf (W := 3) (rmK l Z a0 hw [] a1 q1 hf h0 n0 Z0 F_highestFirst_a1) hZ (wd_42 hw) (wd_7 hw) (by decide) (by decide)) (g := (mkF m 11 #[.val (.ref a1), .val (.long q1), .second] [(.long q1), (.ref a1), (.int (2 : Int32)), (.int (0 : Int32)), (.ref xa)])) rfl (by rw [hml]; rfl) (Steps.refl _) (a := a1) (by rw [e2]; exact zc3) zc3z (argsL := [(.long q1)]) (rest := [(.int (2 : Int32)), (.int (0 : Int32)), (.ref xa)]) (lenOf pd_2 rfl) rfl (by show 2 * 0 + _ ≤ _; exact Nat.le_of_eq rfl) (hb hby d5_11) (fun _ _ => ⟨rfl, e2, (by decide : 0 + 0 ≤ _), (by decide : 0 + 0 ≤ _)⟩)
  dsimp only [Pt.U, Pt.locs, Pt.cells, Pt.slots] at X3 zl3 zy3 zz3 st3 hQ3
  subst zl3 zy3 zz3
  obtain ⟨rfl, N3q, hs3⟩ := hQ3
  have N3 := Fr.app N0 N3q
  refine own_on st3 ?_
  show own_G p e below Φ T3 (mkF m 14 #[.val (.ref a1), .val (.long q1), .second] [(.long (own_key hf q1)), (.int (2 : Int32)), (.int (0 : Int32)), (.ref xa)])
  obtain ⟨_, _, ⟨T4, zL4, zk4, zn4⟩, -, X4, ⟨Lc4, hQ4, zl4, zy4, zz4⟩, st4⟩ := Jvm.LawKit.callS X3 hx (y := (⟨"java/util/Arrays", "binarySearch", "([JIIJ)I"⟩ : MethodName)) hown (mvT hZ (wd_43 hw)) (mvT hZ (wd_44 hw)) (mvT hZ (wd_45 hw)) (mvT hZ (wd_46 hw)) (by decide) (backOf (W := 0) (rmB1_2ins0 l Z a0 hw [] xa kk (own_key hf q1) k0 k1 h0 n0 Z0 V_xa r0) hZ (wd_46 hw) (wd_45 hw) (by decide) (by decide)) (g := (mkF m 14 #[.val (.ref a1), .val (.long q1), .second] [(.long (own_key hf q1)), (.int (2 : Int32)), (.int (0 : Int32)), (.ref xa)])) rfl (by rw [hml]; rfl) (argsL := [(.ref xa), (.int (0 : Int32)), (.int (2 : Int32)), (.long (own_key hf q1))]) (rest := []) (lenOf pd_1 rfl) rfl (by show 2 * 0 + _ ≤ _; exact Nat.le_of_eq rfl) (hb hby d5_14) (fun _ _ => ⟨rfl, hs3, (by decide : 0 + 0 ≤ _), (by decide : 0 + 0 ≤ _)⟩)
  dsimp only [Pt.U, Pt.locs, Pt.cells, Pt.slots] at X4 zl4 zy4 zz4 st4 hQ4
  subst zl4 zy4 zz4
  obtain ⟨rfl, N4q, hs4⟩ := hQ4
  have N4 := Fr.app N3 N4q
  refine own_go st4 ?_
  show own_G p e below Φ T4 (mkF m 17 #[.val (.ref a1), .val (.long q1), .second] [(.int (-1 : Int32))])
  rw [hΦ]
  refine own_ret X4 (v := some (.int (-1 : Int32))) (fun h => by rw [Bd.returns] at h; cases h) (BodyLoose.notSynchronized Bd) (fun fs hr => retOut X4 hx Bd.returns rfl (Or.inl ⟨rfl, Or.inl rfl, _, rfl⟩) (hb hby d5_17) hr) ?_ (by decide) (by decide)
  rw [hs4]
  exact ⟨rfl, N4, rfl⟩
theorem ef_rmB0_2fnd0 (m : MethodId) (xa : Addr) (x : Int64) : entryFrame m #[(.ref xa), (.int (0 : Int32)), (.int (2 : Int32)), (.long x)] 10 = mkF m 0 #[.val (.ref xa), .val (.int (0 : Int32)), .val (.int (2 : Int32)), .val (.long x), .second, .unset, .unset, .unset, .unset, .unset] [] := by first | (simp [entryFrame, mkF, argsToLocals, Value.category]; done) | rfl
def Q_rmB0_2fnd0 (Z : State) (xa : Addr) (kk : ClassId) (x : Int64) (k0 : Int64) (k1 : Int64) (h0 : Heap) (n0 : Nat) (v : Option Value) (h : Heap) (L : List Loc) : Prop := v = some (.int (0 : Int32)) ∧ Fr n0 L ∧ h = h0
set_option maxRecDepth 65536 in
set_option maxHeartbeats 40000000 in
theorem rmB0_2fnd0 (l : Launch) (Z : State) (a0 : Array Value) (hw : ∀ d ∈ tables_1, d.before a0 Z = true) (ws : List Jvm.Cond) (xa : Addr) (kk : ClassId) (x : Int64) (k0 : Int64) (k1 : Int64) (h0 : Heap) (n0 : Nat) (Z0 : n0 ≤ h0.size) (V_xa : Arv Z h0 xa kk .long (64 : Int32) [(.long k0), (.long k1)] (.long (0 : Int64))) (r0 : k0 = x) :
    MetFree l (⟨"java/util/Arrays", "binarySearch0", "([JIIJ)I"⟩ : MethodName) (head1 (Jvm.Cond.code (⟨"java/util/Arrays", "binarySearch0", "([JIIJ)I"⟩ : MethodName) jdk_65_method_56_code 10 (some .int) :: ws) ({ frames := 0, cells := 0, slots := 0, locals := 0 } : Room)) (fun a U => a = #[(.ref xa), (.int (0 : Int32)), (.int (2 : Int32)), (.long x)] ∧ Z.Warmed39 U.vm ∧ U.heap = h0) (fun _ _ _ _ _ => True) (fun _ U o U' => ∃ v L, o = .returned v ∧ Q_rmB0_2fnd0 Z xa kk x k0 k1 h0 n0 v U'.heap L ∧ FrameEnd U o U' L ({ frames := 0, cells := 0, slots := 0, locals := 0 } : Room).cells ({ frames := 0, cells := 0, slots := 0, locals := 0 } : Room).slots) := by
  refine MetFree.of_bodySF (plainFor_of_name pn_3) hisR ?_
  intro p e s m args below meth c s₁ Bd hml0 hP hK
  obtain ⟨rfl, hZ, hh⟩ := hP
  have hx := Bd.exec
  have hby := Bd.bytes
  have hml : c.maxLocals = 10 := hml0
  have hown : s.vm.findClass "java/util/Arrays" = some m.cls := findClass_of_methodNamed Bd.named
  have hnm := (name_of_methodNamed Bd.named Bd.method).1
  have X0 : Stand p l e ({ frames := 0, cells := 0, slots := 0, locals := 0 } : Room) s m #[(.ref xa), (.int (0 : Int32)), (.int (2 : Int32)), (.long x)] below meth c s₁ [] 0 0 := Stand.of_body Bd
  have e0 : s₁.heap = h0 := by rw [← hh, Bd.state]; rfl
  have N0 := Fr.nil n0
  suffices G0 : own_G p e below (own_E s below (Q_rmB0_2fnd0 Z xa kk x k0 k1 h0 n0) ({ frames := 0, cells := 0, slots := 0, locals := 0 } : Room).cells ({ frames := 0, cells := 0, slots := 0, locals := 0 } : Room).slots) s₁ (mkF m 0 #[.val (.ref xa), .val (.int (0 : Int32)), .val (.int (2 : Int32)), .val (.long x), .second, .unset, .unset, .unset, .unset, .unset] []) by
    obtain ⟨zt, zst, zo, zq1, zq2, zq3⟩ := G0
    exact ⟨zt, zo, castTop (ef_rmB0_2fnd0 m xa x) zst, zq1, zq2, zq3⟩
  obtain ⟨Φ, hΦ⟩ : ∃ Φ, Φ = own_E s below (Q_rmB0_2fnd0 Z xa kk x k0 k1 h0 n0) ({ frames := 0, cells := 0, slots := 0, locals := 0 } : Room).cells ({ frames := 0, cells := 0, slots := 0, locals := 0 } : Room).slots := ⟨_, rfl⟩
  rw [← hΦ]
  show own_G p e below Φ s₁ (mkF m 0 #[.val (.ref xa), .val (.int (0 : Int32)), .val (.int (2 : Int32)), .val (.long x), .second, .unset, .unset, .unset, .unset, .unset] [])
  refine own_go (fun _ => XS.iloadN X0.here hx rfl (hb hby d9_0) rfl) ?_
  refine own_go (fun _ => XS.istore X0.here hx rfl (hb hby d9_1) rfl (l' := #[.val (.ref xa), .val (.int (0 : Int32)), .val (.int (2 : Int32)), .val (.long x), .second, .val (.int (0 : Int32)), .unset, .unset, .unset, .unset]) rfl) ?_
  refine own_go (fun _ => XS.iloadN X0.here hx rfl (hb hby d9_3) rfl) ?_
  show own_G p e below Φ s₁ (mkF m 4 #[.val (.ref xa), .val (.int (0 : Int32)), .val (.int (2 : Int32)), .val (.long x), .second, .val (.int (0 : Int32)), .unset, .unset, .unset, .unset] [(.int (2 : Int32))])
  refine own_go (fun _ => XS.iconst X0.here hx rfl (hb hby d9_4)) ?_
  show own_G p e below Φ s₁ (mkF m 5 #[.val (.ref xa), .val (.int (0 : Int32)), .val (.int (2 : Int32)), .val (.long x), .second, .val (.int (0 : Int32)), .unset, .unset, .unset, .unset] [(.int (1 : Int32)), (.int (2 : Int32))])
  refine own_go (fun _ => XS.isub X0.here hx rfl (hb hby d9_5) rfl) ?_
  refine own_go (fun _ => XS.istore X0.here hx rfl (hb hby d9_6) rfl (l' := #[.val (.ref xa), .val (.int (0 : Int32)), .val (.int (2 : Int32)), .val (.long x), .second, .val (.int (0 : Int32)), .val (.int (1 : Int32)), .unset, .unset, .unset]) rfl) ?_
  refine own_go (fun _ => XS.iload X0.here hx rfl (hb hby d9_8) rfl) ?_
  show own_G p e below Φ s₁ (mkF m 10 #[.val (.ref xa), .val (.int (0 : Int32)), .val (.int (2 : Int32)), .val (.long x), .second, .val (.int (0 : Int32)), .val (.int (1 : Int32)), .unset, .unset, .unset] [(.int (0 : Int32))])
  refine own_go (fun _ => XS.iload X0.here hx rfl (hb hby d9_10) rfl) ?_
  show own_G p e below Φ s₁ (mkF m 12 #[.val (.ref xa), .val (.int (0 : Int32)), .val (.int (2 : Int32)), .val (.long x), .second, .val (.int (0 : Int32)), .val (.int (1 : Int32)), .unset, .unset, .unset] [(.int (1 : Int32)), (.int (0 : Int32))])
  refine own_go (fun _ => XS.icmpNo X0.here hx rfl (hb hby d9_12) rfl (Jvm.Free.XT.ii_gt_f (by decide : ¬ ((1 : Int32) < (0 : Int32))))) ?_
  refine own_go (fun _ => XS.iload X0.here hx rfl (hb hby d9_15) rfl) ?_
  refine own_go (fun _ => XS.iload X0.here hx rfl (hb hby d9_17) rfl) ?_
  show own_G p e below Φ s₁ (mkF m 19 #[.val (.ref xa), .val (.int (0 : Int32)), .val (.int (2 : Int32)), .val (.long x), .second, .val (.int (0 : Int32)), .val (.int (1 : Int32)), .unset, .unset, .unset] [(.int (1 : Int32)), (.int (0 : Int32))])
  refine own_go (fun _ => XS.iadd X0.here hx rfl (hb hby d9_19) rfl) ?_
  refine own_go (fun _ => XS.iconst X0.here hx rfl (hb hby d9_20)) ?_
  show own_G p e below Φ s₁ (mkF m 21 #[.val (.ref xa), .val (.int (0 : Int32)), .val (.int (2 : Int32)), .val (.long x), .second, .val (.int (0 : Int32)), .val (.int (1 : Int32)), .unset, .unset, .unset] [(.int (1 : Int32)), (.int (1 : Int32))])
  refine own_go (fun _ => XS.iushr X0.here hx rfl (hb hby d9_21) rfl) ?_
  refine own_go (fun _ => XS.istore X0.here hx rfl (hb hby d9_22) rfl (l' := #[.val (.ref xa), .val (.int (0 : Int32)), .val (.int (2 : Int32)), .val (.long x), .second, .val (.int (0 : Int32)), .val (.int (1 : Int32)), .val (.int (0 : Int32)), .unset, .unset]) rfl) ?_
  refine own_go (fun _ => XS.aloadN X0.here hx rfl (hb hby d9_24) rfl rfl) ?_
  show own_G p e below Φ s₁ (mkF m 25 #[.val (.ref xa), .val (.int (0 : Int32)), .val (.int (2 : Int32)), .val (.long x), .second, .val (.int (0 : Int32)), .val (.int (1 : Int32)), .val (.int (0 : Int32)), .unset, .unset] [(.ref xa)])
  refine own_go (fun _ => XS.iload X0.here hx rfl (hb hby d9_25) rfl) ?_
  show own_G p e below Φ s₁ (mkF m 27 #[.val (.ref xa), .val (.int (0 : Int32)), .val (.int (2 : Int32)), .val (.long x), .second, .val (.int (0 : Int32)), .val (.int (1 : Int32)), .val (.int (0 : Int32)), .unset, .unset] [(.int (0 : Int32)), (.ref xa)])
  obtain ⟨cl1, Ar1, zq1, S1, M1, H1, G1⟩ := id V_xa
  have hin1 : ¬ ((0 : Int32) < 0 ∨ cl1.slots.size ≤ ((0 : Int32)).toNatClampNeg) := inb_of S1 ⟨by decide, by decide⟩
  refine own_go (fun _ => X0.laload hx (j := (0 : Int32)) (v := (.long k0)) (by rw [e0]; exact Ar1.1) (State.isArrayOf_alike hZ.alike Ar1.2.1) Ar1.2.2 hin1 (H1.at hin1 rfl) (g := (mkF m 27 #[.val (.ref xa), .val (.int (0 : Int32)), .val (.int (2 : Int32)), .val (.long x), .second, .val (.int (0 : Int32)), .val (.int (1 : Int32)), .val (.int (0 : Int32)), .unset, .unset] [(.int (0 : Int32)), (.ref xa)])) rfl rfl (hb hby d9_27) _) ?_
  refine own_go (fun _ => XS.lstore X0.here hx rfl (hb hby d9_28) rfl (l' := #[.val (.ref xa), .val (.int (0 : Int32)), .val (.int (2 : Int32)), .val (.long x), .second, .val (.int (0 : Int32)), .val (.int (1 : Int32)), .val (.int (0 : Int32)), .val (.long k0), .second]) rfl) ?_
  refine own_go (fun _ => XS.lload X0.here hx rfl (hb hby d9_30) rfl) ?_
  show own_G p e below Φ s₁ (mkF m 32 #[.val (.ref xa), .val (.int (0 : Int32)), .val (.int (2 : Int32)), .val (.long x), .second, .val (.int (0 : Int32)), .val (.int (1 : Int32)), .val (.int (0 : Int32)), .val (.long k0), .second] [(.long k0)])
  refine own_go (fun _ => XS.lloadN X0.here hx rfl (hb hby d9_32) rfl) ?_
  show own_G p e below Φ s₁ (mkF m 33 #[.val (.ref xa), .val (.int (0 : Int32)), .val (.int (2 : Int32)), .val (.long x), .second, .val (.int (0 : Int32)), .val (.int (1 : Int32)), .val (.int (0 : Int32)), .val (.long k0), .second] [(.long x), (.long k0)])
  refine own_go (fun _ => XS.lcmp X0.here hx rfl (hb hby d9_33) rfl) ?_
  show own_G p e below Φ s₁ (mkF m 34 #[.val (.ref xa), .val (.int (0 : Int32)), .val (.int (2 : Int32)), .val (.long x), .second, .val (.int (0 : Int32)), .val (.int (1 : Int32)), .val (.int (0 : Int32)), .val (.long k0), .second] [(.int (lcmpW k0 x))])
  refine own_go (fun _ => XS.ifYes X0.here hx rfl (pc0 := 34) (pc' := 46) rfl (hb hby d9_34) rfl (Jvm.Free.XT.ll_ge_t (own_irl r0)) (by decide) (by decide)) ?_
  refine own_go (fun _ => XS.lload X0.here hx rfl (hb hby d9_46) rfl) ?_
  refine own_go (fun _ => XS.lloadN X0.here hx rfl (hb hby d9_48) rfl) ?_
  show own_G p e below Φ s₁ (mkF m 49 #[.val (.ref xa), .val (.int (0 : Int32)), .val (.int (2 : Int32)), .val (.long x), .second, .val (.int (0 : Int32)), .val (.int (1 : Int32)), .val (.int (0 : Int32)), .val (.long k0), .second] [(.long x), (.long k0)])
  refine own_go (fun _ => XS.lcmp X0.here hx rfl (hb hby d9_49) rfl) ?_
  show own_G p e below Φ s₁ (mkF m 50 #[.val (.ref xa), .val (.int (0 : Int32)), .val (.int (2 : Int32)), .val (.long x), .second, .val (.int (0 : Int32)), .val (.int (1 : Int32)), .val (.int (0 : Int32)), .val (.long k0), .second] [(.int (lcmpW k0 x))])
  refine own_go (fun _ => XS.ifYes X0.here hx rfl (pc0 := 50) (pc' := 62) rfl (hb hby d9_50) rfl (Jvm.Free.XT.ll_le_t (own_irr r0)) (by decide) (by decide)) ?_
  refine own_go (fun _ => XS.iload X0.here hx rfl (hb hby d9_62) rfl) ?_
  show own_G p e below Φ s₁ (mkF m 64 #[.val (.ref xa), .val (.int (0 : Int32)), .val (.int (2 : Int32)), .val (.long x), .second, .val (.int (0 : Int32)), .val (.int (1 : Int32)), .val (.int (0 : Int32)), .val (.long k0), .second] [(.int (0 : Int32))])
  rw [hΦ]
  refine own_ret X0 (v := some (.int (0 : Int32))) (fun h => by rw [Bd.returns] at h; cases h) (BodyLoose.notSynchronized Bd) (fun fs hr => retOut X0 hx Bd.returns rfl (Or.inl ⟨rfl, Or.inl rfl, _, rfl⟩) (hb hby d9_64) hr) ?_ (by decide) (by decide)
  rw [e0]
  exact ⟨rfl, N0, rfl⟩
theorem ef_rmB1_2fnd0 (m : MethodId) (xa : Addr) (x : Int64) : entryFrame m #[(.ref xa), (.int (0 : Int32)), (.int (2 : Int32)), (.long x)] 5 = mkF m 0 #[.val (.ref xa), .val (.int (0 : Int32)), .val (.int (2 : Int32)), .val (.long x), .second] [] := by first | (simp [entryFrame, mkF, argsToLocals, Value.category]; done) | rfl
def Q_rmB1_2fnd0 (Z : State) (xa : Addr) (kk : ClassId) (x : Int64) (k0 : Int64) (k1 : Int64) (h0 : Heap) (n0 : Nat) (v : Option Value) (h : Heap) (L : List Loc) : Prop := v = some (.int (0 : Int32)) ∧ Fr n0 L ∧ h = h0
set_option maxRecDepth 65536 in
set_option maxHeartbeats 40000000 in
theorem rmB1_2fnd0 (l : Launch) (Z : State) (a0 : Array Value) (hw : ∀ d ∈ tables_1, d.before a0 Z = true) (ws : List Jvm.Cond) (xa : Addr) (kk : ClassId) (x : Int64) (k0 : Int64) (k1 : Int64) (h0 : Heap) (n0 : Nat) (Z0 : n0 ≤ h0.size) (V_xa : Arv Z h0 xa kk .long (64 : Int32) [(.long k0), (.long k1)] (.long (0 : Int64))) (r0 : k0 = x) :
    MetFree l (⟨"java/util/Arrays", "binarySearch", "([JIIJ)I"⟩ : MethodName) (head1 (Jvm.Cond.code (⟨"java/util/Arrays", "binarySearch", "([JIIJ)I"⟩ : MethodName) jdk_65_method_55_code 5 (some .int) :: ws) ({ frames := 1, cells := 0, slots := 0, locals := 21 } : Room)) (fun a U => a = #[(.ref xa), (.int (0 : Int32)), (.int (2 : Int32)), (.long x)] ∧ Z.Warmed39 U.vm ∧ U.heap = h0) (fun _ _ _ _ _ => True) (fun _ U o U' => ∃ v L, o = .returned v ∧ Q_rmB1_2fnd0 Z xa kk x k0 k1 h0 n0 v U'.heap L ∧ FrameEnd U o U' L ({ frames := 1, cells := 0, slots := 0, locals := 21 } : Room).cells ({ frames := 1, cells := 0, slots := 0, locals := 21 } : Room).slots) := by
  refine MetFree.of_bodySF (plainFor_of_name pn_3) hisR ?_
  intro p e s m args below meth c s₁ Bd hml0 hP hK
  obtain ⟨rfl, hZ, hh⟩ := hP
  have hx := Bd.exec
  have hby := Bd.bytes
  have hml : c.maxLocals = 5 := hml0
  have hown : s.vm.findClass "java/util/Arrays" = some m.cls := findClass_of_methodNamed Bd.named
  have hnm := (name_of_methodNamed Bd.named Bd.method).1
  have X0 : Stand p l e ({ frames := 1, cells := 0, slots := 0, locals := 21 } : Room) s m #[(.ref xa), (.int (0 : Int32)), (.int (2 : Int32)), (.long x)] below meth c s₁ [] 0 0 := Stand.of_body Bd
  have e0 : s₁.heap = h0 := by rw [← hh, Bd.state]; rfl
  have N0 := Fr.nil n0
  suffices G0 : own_G p e below (own_E s below (Q_rmB1_2fnd0 Z xa kk x k0 k1 h0 n0) ({ frames := 1, cells := 0, slots := 0, locals := 21 } : Room).cells ({ frames := 1, cells := 0, slots := 0, locals := 21 } : Room).slots) s₁ (mkF m 0 #[.val (.ref xa), .val (.int (0 : Int32)), .val (.int (2 : Int32)), .val (.long x), .second] []) by
    obtain ⟨zt, zst, zo, zq1, zq2, zq3⟩ := G0
    exact ⟨zt, zo, castTop (ef_rmB1_2fnd0 m xa x) zst, zq1, zq2, zq3⟩
  obtain ⟨Φ, hΦ⟩ : ∃ Φ, Φ = own_E s below (Q_rmB1_2fnd0 Z xa kk x k0 k1 h0 n0) ({ frames := 1, cells := 0, slots := 0, locals := 21 } : Room).cells ({ frames := 1, cells := 0, slots := 0, locals := 21 } : Room).slots := ⟨_, rfl⟩
  rw [← hΦ]
  show own_G p e below Φ s₁ (mkF m 0 #[.val (.ref xa), .val (.int (0 : Int32)), .val (.int (2 : Int32)), .val (.long x), .second] [])
  refine own_go (fun _ => XS.aloadN X0.here hx rfl (hb hby d7_0) rfl rfl) ?_
  show own_G p e below Φ s₁ (mkF m 1 #[.val (.ref xa), .val (.int (0 : Int32)), .val (.int (2 : Int32)), .val (.long x), .second] [(.ref xa)])
  obtain ⟨cl1, Ar1, zq1, S1, M1, H1, G1⟩ := id V_xa
  refine own_go (fun _ => X0.arraylength hx (by rw [e0]; exact Ar1.1) (State.isArrayOf_alike hZ.alike Ar1.2.1) (g := (mkF m 1 #[.val (.ref xa), .val (.int (0 : Int32)), .val (.int (2 : Int32)), .val (.long x), .second] [(.ref xa)])) rfl rfl (hb hby d7_1) _) ?_
  rw [len_of S1 M1]
  refine own_go (fun _ => XS.iloadN X0.here hx rfl (hb hby d7_2) rfl) ?_
  refine own_go (fun _ => XS.iloadN X0.here hx rfl (hb hby d7_3) rfl) ?_
  show own_G p e below Φ s₁ (mkF m 4 #[.val (.ref xa), .val (.int (0 : Int32)), .val (.int (2 : Int32)), .val (.long x), .second] [(.int (2 : Int32)), (.int (0 : Int32)), (.int (64 : Int32))])
  obtain ⟨_, _, ⟨T2, zL2, zk2, zn2⟩, -, X2, ⟨Lc2, hQ2, zl2, zy2, zz2⟩, st2⟩ := Jvm.LawKit.callS X0 hx (y := (⟨"java/util/Arrays", "rangeCheck", "(III)V"⟩ : MethodName)) hown (mvT hZ (wd_47 hw)) (mvT hZ (wd_48 hw)) (mvT hZ (wd_45 hw)) (mvT hZ (wd_49 hw)) (by decide) (backOf (W := 0) (rmR2 l Z a0 hw []  h0 n0 Z0 ) hZ (wd_49 hw) (wd_45 hw) (by decide) (by decide)) (g := (mkF m 4 #[.val (.ref xa), .val (.int (0 : Int32)), .val (.int (2 : Int32)), .val (.long x), .second] [(.int (2 : Int32)), (.int (0 : Int32)), (.int (64 : Int32))])) rfl (by rw [hml]; rfl) (argsL := [(.int (64 : Int32)), (.int (0 : Int32)), (.int (2 : Int32))]) (rest := []) (lenOf pd_0 rfl) rfl (by show 2 * 0 + _ ≤ _; exact Nat.le_of_eq rfl) (hb hby d7_4) (fun _ _ => ⟨rfl, e0, (by decide : 0 + 0 ≤ _), (by decide : 0 + 0 ≤ _)⟩)
  dsimp only [Pt.U, Pt.locs, Pt.cells, Pt.slots] at X2 zl2 zy2 zz2 st2 hQ2
  subst zl2 zy2 zz2
  obtain ⟨rfl, N2q, hs2⟩ := hQ2
  have N2 := Fr.app N0 N2q
  refine own_go st2 ?_
  refine own_go (fun _ => XS.aloadN X2.here hx rfl (hb hby d7_7) rfl rfl) ?_
  refine own_go (fun _ => XS.iloadN X2.here hx rfl (hb hby d7_8) rfl) ?_
  show own_G p e below Φ T2 (mkF m 9 #[.val (.ref xa), .val (.int (0 : Int32)), .val (.int (2 : Int32)), .val (.long x), .second] [(.int (0 : Int32)), (.ref xa)])
  refine own_go (fun _ => XS.iloadN X2.here hx rfl (hb hby d7_9) rfl) ?_
  refine own_go (fun _ => XS.lloadN X2.here hx rfl (hb hby d7_10) rfl) ?_
  show own_G p e below Φ T2 (mkF m 11 #[.val (.ref xa), .val (.int (0 : Int32)), .val (.int (2 : Int32)), .val (.long x), .second] [(.long x), (.int (2 : Int32)), (.int (0 : Int32)), (.ref xa)])
  obtain ⟨_, _, ⟨T3, zL3, zk3, zn3⟩, -, X3, ⟨Lc3, hQ3, zl3, zy3, zz3⟩, st3⟩ := Jvm.LawKit.callS X2 hx (y := (⟨"java/util/Arrays", "binarySearch0", "([JIIJ)I"⟩ : MethodName)) hown (mvT hZ (wd_50 hw)) (mvT hZ (wd_51 hw)) (mvT hZ (wd_45 hw)) (mvT hZ (wd_52 hw)) (by decide) (backOf (W := 0) (rmB0_2fnd0 l Z a0 hw [] xa kk x k0 k1 h0 n0 Z0 V_xa r0) hZ (wd_52 hw) (wd_45 hw) (by decide) (by decide)) (g := (mkF m 11 #[.val (.ref xa), .val (.int (0 : Int32)), .val (.int (2 : Int32)), .val (.long x), .second] [(.long x), (.int (2 : Int32)), (.int (0 : Int32)), (.ref xa)])) rfl (by rw [hml]; rfl) (argsL := [(.ref xa), (.int (0 : Int32)), (.int (2 : Int32)), (.long x)]) (rest := []) (lenOf pd_1 rfl) rfl (by show 2 * 0 + _ ≤ _; exact Nat.le_of_eq rfl) (hb hby d7_11) (fun _ _ => ⟨rfl, hs2, (by decide : 0 + 0 ≤ _), (by decide : 0 + 0 ≤ _)⟩)
  dsimp only [Pt.U, Pt.locs, Pt.cells, Pt.slots] at X3 zl3 zy3 zz3 st3 hQ3
  subst zl3 zy3 zz3
  obtain ⟨rfl, N3q, hs3⟩ := hQ3
  have N3 := Fr.app N2 N3q
  refine own_go st3 ?_
  show own_G p e below Φ T3 (mkF m 14 #[.val (.ref xa), .val (.int (0 : Int32)), .val (.int (2 : Int32)), .val (.long x), .second] [(.int (0 : Int32))])
  rw [hΦ]
  refine own_ret X3 (v := some (.int (0 : Int32))) (fun h => by rw [Bd.returns] at h; cases h) (BodyLoose.notSynchronized Bd) (fun fs hr => retOut X3 hx Bd.returns rfl (Or.inl ⟨rfl, Or.inl rfl, _, rfl⟩) (hb hby d7_14) hr) ?_ (by decide) (by decide)
  rw [hs3]
  exact ⟨rfl, N3, rfl⟩
theorem ef_rmS_2fnd0 (m : MethodId) (a1 : Addr) (q1 : Int64) : entryFrame m #[(.ref a1), (.long q1)] 3 = mkF m 0 #[.val (.ref a1), .val (.long q1), .second] [] := by first | (simp [entryFrame, mkF, argsToLocals, Value.category]; done) | rfl
def Q_rmS_2fnd0 (Z : State) (a1 : Addr) (q1 : Int64) (hf : Int32) (xa : Addr) (kk : ClassId) (k0 : Int64) (k1 : Int64) (h0 : Heap) (n0 : Nat) (v : Option Value) (h : Heap) (L : List Loc) : Prop := v = some (.int (0 : Int32)) ∧ Fr n0 L ∧ h = h0
set_option maxRecDepth 65536 in
set_option maxHeartbeats 40000000 in
theorem rmS_2fnd0 (l : Launch) (Z : State) (a0 : Array Value) (hw : ∀ d ∈ tables_1, d.before a0 Z = true) (ws : List Jvm.Cond) (a1 : Addr) (q1 : Int64) (hf : Int32) (xa : Addr) (kk : ClassId) (k0 : Int64) (k1 : Int64) (h0 : Heap) (n0 : Nat) (Z0 : n0 ≤ h0.size) (E_a1 : Exa Z h0 a1 "corro/core/LimitLevels") (F_keys_a1 : Fld Z h0 a1 "corro/core/LimitLevels" "keys" "[J" (.ref xa)) (F_size_a1 : Fld Z h0 a1 "corro/core/LimitLevels" "size" "I" (.int (2 : Int32))) (F_highestFirst_a1 : Fld Z h0 a1 "corro/core/LimitLevels" "highestFirst" "Z" (.int hf)) (V_xa : Arv Z h0 xa kk .long (64 : Int32) [(.long k0), (.long k1)] (.long (0 : Int64))) (r0 : k0 = (own_key hf q1)) :
    MetFree l (⟨"corro/core/LimitLevels", "search", "(J)I"⟩ : MethodName) (head1 (Jvm.Cond.code (⟨"corro/core/LimitLevels", "search", "(J)I"⟩ : MethodName) prog_14_method_10_code 3 (some .int) :: ws) ({ frames := 2, cells := 0, slots := 0, locals := 37 } : Room)) (fun a U => a = #[(.ref a1), (.long q1)] ∧ Z.Warmed39 U.vm ∧ U.heap = h0) (fun _ _ _ _ _ => True) (fun _ U o U' => ∃ v L, o = .returned v ∧ Q_rmS_2fnd0 Z a1 q1 hf xa kk k0 k1 h0 n0 v U'.heap L ∧ FrameEnd U o U' L ({ frames := 2, cells := 0, slots := 0, locals := 37 } : Room).cells ({ frames := 2, cells := 0, slots := 0, locals := 37 } : Room).slots) := by
  refine MetFree.of_bodySF (plainFor_of_name pn_1) hisR ?_
  intro p e s m args below meth c s₁ Bd hml0 hP hK
  obtain ⟨rfl, hZ, hh⟩ := hP
  have hx := Bd.exec
  have hby := Bd.bytes
  have hml : c.maxLocals = 3 := hml0
  have hown : s.vm.findClass "corro/core/LimitLevels" = some m.cls := findClass_of_methodNamed Bd.named
  have hnm := (name_of_methodNamed Bd.named Bd.method).1
  have X0 : Stand p l e ({ frames := 2, cells := 0, slots := 0, locals := 37 } : Room) s m #[(.ref a1), (.long q1)] below meth c s₁ [] 0 0 := Stand.of_body Bd
  have e0 : s₁.heap = h0 := by rw [← hh, Bd.state]; rfl
  have N0 := Fr.nil n0
  suffices G0 : own_G p e below (own_E s below (Q_rmS_2fnd0 Z a1 q1 hf xa kk k0 k1 h0 n0) ({ frames := 2, cells := 0, slots := 0, locals := 37 } : Room).cells ({ frames := 2, cells := 0, slots := 0, locals := 37 } : Room).slots) s₁ (mkF m 0 #[.val (.ref a1), .val (.long q1), .second] []) by
    obtain ⟨zt, zst, zo, zq1, zq2, zq3⟩ := G0
    exact ⟨zt, zo, castTop (ef_rmS_2fnd0 m a1 q1) zst, zq1, zq2, zq3⟩
  obtain ⟨Φ, hΦ⟩ : ∃ Φ, Φ = own_E s below (Q_rmS_2fnd0 Z a1 q1 hf xa kk k0 k1 h0 n0) ({ frames := 2, cells := 0, slots := 0, locals := 37 } : Room).cells ({ frames := 2, cells := 0, slots := 0, locals := 37 } : Room).slots := ⟨_, rfl⟩
  rw [← hΦ]
  show own_G p e below Φ s₁ (mkF m 0 #[.val (.ref a1), .val (.long q1), .second] [])
  refine own_go (fun _ => XS.aloadN X0.here hx rfl (hb hby d5_0) rfl rfl) ?_
  show own_G p e below Φ s₁ (mkF m 1 #[.val (.ref a1), .val (.long q1), .second] [(.ref a1)])
  obtain ⟨T1, X1, e1, st1⟩ := getF X0 hx hZ hown (host := "") (Or.inl (wd_18 hw)) Via.refl e0 F_keys_a1 (g := (mkF m 1 #[.val (.ref a1), .val (.long q1), .second] [(.ref a1)])) rfl rfl (hb hby d5_1)
  refine own_go st1 ?_
  refine own_go (fun _ => XS.iconst X1.here hx rfl (hb hby d5_4)) ?_
  refine own_go (fun _ => XS.aloadN X1.here hx rfl (hb hby d5_5) rfl rfl) ?_
  show own_G p e below Φ T1 (mkF m 6 #[.val (.ref a1), .val (.long q1), .second] [(.ref a1), (.int (0 : Int32)), (.ref xa)])
  obtain ⟨T2, X2, e2, st2⟩ := getF X1 hx hZ hown (host := "") (Or.inl (wd_37 hw)) Via.refl e1 F_size_a1 (g := (mkF m 6 #[.val (.ref a1), .val (.long q1), .second] [(.ref a1), (.int (0 : Int32)), (.ref xa)])) rfl rfl (hb hby d5_6)
  refine own_go st2 ?_
  refine own_go (fun _ => XS.aloadN X2.here hx rfl (hb hby d5_9) rfl rfl) ?_
  refine own_go (fun _ => XS.lloadN X2.here hx rfl (hb hby d5_10) rfl) ?_
  show own_G p e below Φ T2 (mkF m 11 #[.val (.ref a1), .val (.long q1), .second] [(.long q1), (.ref a1), (.int (2 : Int32)), (.int (0 : Int32)), (.ref xa)])
  obtain ⟨cq3, zc3, zc3z⟩ := E_a1.cell
  obtain ⟨_, _, ⟨T3, zL3, zk3, zn3⟩, -, X3, ⟨Lc3, hQ3, zl3, zy3, zz3⟩, st3⟩ := X2.privateBack hx (y := (⟨"corro/core/LimitLevels", "key", "(J)J"⟩ : MethodName)) hown (mvT hZ (wd_39 hw)) (mvT hZ (wd_40 hw)) (own_selp (x := (⟨"corro/core/LimitLevels", "getOrAdd", "(J)Lcorro/core/Level;"⟩ : MethodName)) rfl (mvT hZ (wd_30 hw)) (notFace_of_selects (args := #[]) (mvT hZ (wd_31 hw))) (Cond.privateMethod_at (mvP hZ (wd_41 hw) (args := #[]))) (mvT hZ (wd_40 hw)) (by decide)) (Cond.privateMethod_at (mvP hZ (wd_41 hw) (args := #[]))) (mvT hZ (wd_42 hw)) (by decide) (backOf (W := 3) (rmK l Z a0 hw [] a1 q1 hf h0 n0 Z0 F_highestFirst_a1) hZ (wd_42 hw) (wd_7 hw) (by decide) (by decide)) (g := (mkF m 11 #[.val (.ref a1), .val (.long q1), .second] [(.long q1), (.ref a1), (.int (2 : Int32)), (.int (0 : Int32)), (.ref xa)])) rfl (by rw [hml]; rfl) (Steps.refl _) (a := a1) (by rw [e2]; exact zc3) zc3z (argsL := [(.long q1)]) (rest := [(.int (2 : Int32)), (.int (0 : Int32)), (.ref xa)]) (lenOf pd_2 rfl) rfl (by show 2 * 0 + _ ≤ _; exact Nat.le_of_eq rfl) (hb hby d5_11) (fun _ _ => ⟨rfl, e2, (by decide : 0 + 0 ≤ _), (by decide : 0 + 0 ≤ _)⟩)
  dsimp only [Pt.U, Pt.locs, Pt.cells, Pt.slots] at X3 zl3 zy3 zz3 st3 hQ3
  subst zl3 zy3 zz3
  obtain ⟨rfl, N3q, hs3⟩ := hQ3
  have N3 := Fr.app N0 N3q
  refine own_on st3 ?_
  show own_G p e below Φ T3 (mkF m 14 #[.val (.ref a1), .val (.long q1), .second] [(.long (own_key hf q1)), (.int (2 : Int32)), (.int (0 : Int32)), (.ref xa)])
  obtain ⟨_, _, ⟨T4, zL4, zk4, zn4⟩, -, X4, ⟨Lc4, hQ4, zl4, zy4, zz4⟩, st4⟩ := Jvm.LawKit.callS X3 hx (y := (⟨"java/util/Arrays", "binarySearch", "([JIIJ)I"⟩ : MethodName)) hown (mvT hZ (wd_43 hw)) (mvT hZ (wd_44 hw)) (mvT hZ (wd_45 hw)) (mvT hZ (wd_46 hw)) (by decide) (backOf (W := 0) (rmB1_2fnd0 l Z a0 hw [] xa kk (own_key hf q1) k0 k1 h0 n0 Z0 V_xa r0) hZ (wd_46 hw) (wd_45 hw) (by decide) (by decide)) (g := (mkF m 14 #[.val (.ref a1), .val (.long q1), .second] [(.long (own_key hf q1)), (.int (2 : Int32)), (.int (0 : Int32)), (.ref xa)])) rfl (by rw [hml]; rfl) (argsL := [(.ref xa), (.int (0 : Int32)), (.int (2 : Int32)), (.long (own_key hf q1))]) (rest := []) (lenOf pd_1 rfl) rfl (by show 2 * 0 + _ ≤ _; exact Nat.le_of_eq rfl) (hb hby d5_14) (fun _ _ => ⟨rfl, hs3, (by decide : 0 + 0 ≤ _), (by decide : 0 + 0 ≤ _)⟩)
  dsimp only [Pt.U, Pt.locs, Pt.cells, Pt.slots] at X4 zl4 zy4 zz4 st4 hQ4
  subst zl4 zy4 zz4
  obtain ⟨rfl, N4q, hs4⟩ := hQ4
  have N4 := Fr.app N3 N4q
  refine own_go st4 ?_
  show own_G p e below Φ T4 (mkF m 17 #[.val (.ref a1), .val (.long q1), .second] [(.int (0 : Int32))])
  rw [hΦ]
  refine own_ret X4 (v := some (.int (0 : Int32))) (fun h => by rw [Bd.returns] at h; cases h) (BodyLoose.notSynchronized Bd) (fun fs hr => retOut X4 hx Bd.returns rfl (Or.inl ⟨rfl, Or.inl rfl, _, rfl⟩) (hb hby d5_17) hr) ?_ (by decide) (by decide)
  rw [hs4]
  exact ⟨rfl, N4, rfl⟩
theorem ef_rmB0_2ins1 (m : MethodId) (xa : Addr) (x : Int64) : entryFrame m #[(.ref xa), (.int (0 : Int32)), (.int (2 : Int32)), (.long x)] 10 = mkF m 0 #[.val (.ref xa), .val (.int (0 : Int32)), .val (.int (2 : Int32)), .val (.long x), .second, .unset, .unset, .unset, .unset, .unset] [] := by first | (simp [entryFrame, mkF, argsToLocals, Value.category]; done) | rfl
def Q_rmB0_2ins1 (Z : State) (xa : Addr) (kk : ClassId) (x : Int64) (k0 : Int64) (k1 : Int64) (h0 : Heap) (n0 : Nat) (v : Option Value) (h : Heap) (L : List Loc) : Prop := v = some (.int (-2 : Int32)) ∧ Fr n0 L ∧ h = h0
set_option maxRecDepth 65536 in
set_option maxHeartbeats 40000000 in
theorem rmB0_2ins1 (l : Launch) (Z : State) (a0 : Array Value) (hw : ∀ d ∈ tables_1, d.before a0 Z = true) (ws : List Jvm.Cond) (xa : Addr) (kk : ClassId) (x : Int64) (k0 : Int64) (k1 : Int64) (h0 : Heap) (n0 : Nat) (Z0 : n0 ≤ h0.size) (V_xa : Arv Z h0 xa kk .long (64 : Int32) [(.long k0), (.long k1)] (.long (0 : Int64))) (r0 : k0 < x) (r1 : x < k1) :
    MetFree l (⟨"java/util/Arrays", "binarySearch0", "([JIIJ)I"⟩ : MethodName) (head1 (Jvm.Cond.code (⟨"java/util/Arrays", "binarySearch0", "([JIIJ)I"⟩ : MethodName) jdk_65_method_56_code 10 (some .int) :: ws) ({ frames := 0, cells := 0, slots := 0, locals := 0 } : Room)) (fun a U => a = #[(.ref xa), (.int (0 : Int32)), (.int (2 : Int32)), (.long x)] ∧ Z.Warmed39 U.vm ∧ U.heap = h0) (fun _ _ _ _ _ => True) (fun _ U o U' => ∃ v L, o = .returned v ∧ Q_rmB0_2ins1 Z xa kk x k0 k1 h0 n0 v U'.heap L ∧ FrameEnd U o U' L ({ frames := 0, cells := 0, slots := 0, locals := 0 } : Room).cells ({ frames := 0, cells := 0, slots := 0, locals := 0 } : Room).slots) := by
  refine MetFree.of_bodySF (plainFor_of_name pn_3) hisR ?_
  intro p e s m args below meth c s₁ Bd hml0 hP hK
  obtain ⟨rfl, hZ, hh⟩ := hP
  have hx := Bd.exec
  have hby := Bd.bytes
  have hml : c.maxLocals = 10 := hml0
  have hown : s.vm.findClass "java/util/Arrays" = some m.cls := findClass_of_methodNamed Bd.named
  have hnm := (name_of_methodNamed Bd.named Bd.method).1
  have X0 : Stand p l e ({ frames := 0, cells := 0, slots := 0, locals := 0 } : Room) s m #[(.ref xa), (.int (0 : Int32)), (.int (2 : Int32)), (.long x)] below meth c s₁ [] 0 0 := Stand.of_body Bd
  have e0 : s₁.heap = h0 := by rw [← hh, Bd.state]; rfl
  have N0 := Fr.nil n0
  suffices G0 : own_G p e below (own_E s below (Q_rmB0_2ins1 Z xa kk x k0 k1 h0 n0) ({ frames := 0, cells := 0, slots := 0, locals := 0 } : Room).cells ({ frames := 0, cells := 0, slots := 0, locals := 0 } : Room).slots) s₁ (mkF m 0 #[.val (.ref xa), .val (.int (0 : Int32)), .val (.int (2 : Int32)), .val (.long x), .second, .unset, .unset, .unset, .unset, .unset] []) by
    obtain ⟨zt, zst, zo, zq1, zq2, zq3⟩ := G0
    exact ⟨zt, zo, castTop (ef_rmB0_2ins1 m xa x) zst, zq1, zq2, zq3⟩
  obtain ⟨Φ, hΦ⟩ : ∃ Φ, Φ = own_E s below (Q_rmB0_2ins1 Z xa kk x k0 k1 h0 n0) ({ frames := 0, cells := 0, slots := 0, locals := 0 } : Room).cells ({ frames := 0, cells := 0, slots := 0, locals := 0 } : Room).slots := ⟨_, rfl⟩
  rw [← hΦ]
  show own_G p e below Φ s₁ (mkF m 0 #[.val (.ref xa), .val (.int (0 : Int32)), .val (.int (2 : Int32)), .val (.long x), .second, .unset, .unset, .unset, .unset, .unset] [])
  refine own_go (fun _ => XS.iloadN X0.here hx rfl (hb hby d9_0) rfl) ?_
  refine own_go (fun _ => XS.istore X0.here hx rfl (hb hby d9_1) rfl (l' := #[.val (.ref xa), .val (.int (0 : Int32)), .val (.int (2 : Int32)), .val (.long x), .second, .val (.int (0 : Int32)), .unset, .unset, .unset, .unset]) rfl) ?_
  refine own_go (fun _ => XS.iloadN X0.here hx rfl (hb hby d9_3) rfl) ?_
  show own_G p e below Φ s₁ (mkF m 4 #[.val (.ref xa), .val (.int (0 : Int32)), .val (.int (2 : Int32)), .val (.long x), .second, .val (.int (0 : Int32)), .unset, .unset, .unset, .unset] [(.int (2 : Int32))])
  refine own_go (fun _ => XS.iconst X0.here hx rfl (hb hby d9_4)) ?_
  show own_G p e below Φ s₁ (mkF m 5 #[.val (.ref xa), .val (.int (0 : Int32)), .val (.int (2 : Int32)), .val (.long x), .second, .val (.int (0 : Int32)), .unset, .unset, .unset, .unset] [(.int (1 : Int32)), (.int (2 : Int32))])
  refine own_go (fun _ => XS.isub X0.here hx rfl (hb hby d9_5) rfl) ?_
  refine own_go (fun _ => XS.istore X0.here hx rfl (hb hby d9_6) rfl (l' := #[.val (.ref xa), .val (.int (0 : Int32)), .val (.int (2 : Int32)), .val (.long x), .second, .val (.int (0 : Int32)), .val (.int (1 : Int32)), .unset, .unset, .unset]) rfl) ?_
  refine own_go (fun _ => XS.iload X0.here hx rfl (hb hby d9_8) rfl) ?_
  show own_G p e below Φ s₁ (mkF m 10 #[.val (.ref xa), .val (.int (0 : Int32)), .val (.int (2 : Int32)), .val (.long x), .second, .val (.int (0 : Int32)), .val (.int (1 : Int32)), .unset, .unset, .unset] [(.int (0 : Int32))])
  refine own_go (fun _ => XS.iload X0.here hx rfl (hb hby d9_10) rfl) ?_
  show own_G p e below Φ s₁ (mkF m 12 #[.val (.ref xa), .val (.int (0 : Int32)), .val (.int (2 : Int32)), .val (.long x), .second, .val (.int (0 : Int32)), .val (.int (1 : Int32)), .unset, .unset, .unset] [(.int (1 : Int32)), (.int (0 : Int32))])
  refine own_go (fun _ => XS.icmpNo X0.here hx rfl (hb hby d9_12) rfl (Jvm.Free.XT.ii_gt_f (by decide : ¬ ((1 : Int32) < (0 : Int32))))) ?_
  refine own_go (fun _ => XS.iload X0.here hx rfl (hb hby d9_15) rfl) ?_
  refine own_go (fun _ => XS.iload X0.here hx rfl (hb hby d9_17) rfl) ?_
  show own_G p e below Φ s₁ (mkF m 19 #[.val (.ref xa), .val (.int (0 : Int32)), .val (.int (2 : Int32)), .val (.long x), .second, .val (.int (0 : Int32)), .val (.int (1 : Int32)), .unset, .unset, .unset] [(.int (1 : Int32)), (.int (0 : Int32))])
  refine own_go (fun _ => XS.iadd X0.here hx rfl (hb hby d9_19) rfl) ?_
  refine own_go (fun _ => XS.iconst X0.here hx rfl (hb hby d9_20)) ?_
  show own_G p e below Φ s₁ (mkF m 21 #[.val (.ref xa), .val (.int (0 : Int32)), .val (.int (2 : Int32)), .val (.long x), .second, .val (.int (0 : Int32)), .val (.int (1 : Int32)), .unset, .unset, .unset] [(.int (1 : Int32)), (.int (1 : Int32))])
  refine own_go (fun _ => XS.iushr X0.here hx rfl (hb hby d9_21) rfl) ?_
  refine own_go (fun _ => XS.istore X0.here hx rfl (hb hby d9_22) rfl (l' := #[.val (.ref xa), .val (.int (0 : Int32)), .val (.int (2 : Int32)), .val (.long x), .second, .val (.int (0 : Int32)), .val (.int (1 : Int32)), .val (.int (0 : Int32)), .unset, .unset]) rfl) ?_
  refine own_go (fun _ => XS.aloadN X0.here hx rfl (hb hby d9_24) rfl rfl) ?_
  show own_G p e below Φ s₁ (mkF m 25 #[.val (.ref xa), .val (.int (0 : Int32)), .val (.int (2 : Int32)), .val (.long x), .second, .val (.int (0 : Int32)), .val (.int (1 : Int32)), .val (.int (0 : Int32)), .unset, .unset] [(.ref xa)])
  refine own_go (fun _ => XS.iload X0.here hx rfl (hb hby d9_25) rfl) ?_
  show own_G p e below Φ s₁ (mkF m 27 #[.val (.ref xa), .val (.int (0 : Int32)), .val (.int (2 : Int32)), .val (.long x), .second, .val (.int (0 : Int32)), .val (.int (1 : Int32)), .val (.int (0 : Int32)), .unset, .unset] [(.int (0 : Int32)), (.ref xa)])
  obtain ⟨cl1, Ar1, zq1, S1, M1, H1, G1⟩ := id V_xa
  have hin1 : ¬ ((0 : Int32) < 0 ∨ cl1.slots.size ≤ ((0 : Int32)).toNatClampNeg) := inb_of S1 ⟨by decide, by decide⟩
  refine own_go (fun _ => X0.laload hx (j := (0 : Int32)) (v := (.long k0)) (by rw [e0]; exact Ar1.1) (State.isArrayOf_alike hZ.alike Ar1.2.1) Ar1.2.2 hin1 (H1.at hin1 rfl) (g := (mkF m 27 #[.val (.ref xa), .val (.int (0 : Int32)), .val (.int (2 : Int32)), .val (.long x), .second, .val (.int (0 : Int32)), .val (.int (1 : Int32)), .val (.int (0 : Int32)), .unset, .unset] [(.int (0 : Int32)), (.ref xa)])) rfl rfl (hb hby d9_27) _) ?_
  refine own_go (fun _ => XS.lstore X0.here hx rfl (hb hby d9_28) rfl (l' := #[.val (.ref xa), .val (.int (0 : Int32)), .val (.int (2 : Int32)), .val (.long x), .second, .val (.int (0 : Int32)), .val (.int (1 : Int32)), .val (.int (0 : Int32)), .val (.long k0), .second]) rfl) ?_
  refine own_go (fun _ => XS.lload X0.here hx rfl (hb hby d9_30) rfl) ?_
  show own_G p e below Φ s₁ (mkF m 32 #[.val (.ref xa), .val (.int (0 : Int32)), .val (.int (2 : Int32)), .val (.long x), .second, .val (.int (0 : Int32)), .val (.int (1 : Int32)), .val (.int (0 : Int32)), .val (.long k0), .second] [(.long k0)])
  refine own_go (fun _ => XS.lloadN X0.here hx rfl (hb hby d9_32) rfl) ?_
  show own_G p e below Φ s₁ (mkF m 33 #[.val (.ref xa), .val (.int (0 : Int32)), .val (.int (2 : Int32)), .val (.long x), .second, .val (.int (0 : Int32)), .val (.int (1 : Int32)), .val (.int (0 : Int32)), .val (.long k0), .second] [(.long x), (.long k0)])
  refine own_go (fun _ => XS.lcmp X0.here hx rfl (hb hby d9_33) rfl) ?_
  show own_G p e below Φ s₁ (mkF m 34 #[.val (.ref xa), .val (.int (0 : Int32)), .val (.int (2 : Int32)), .val (.long x), .second, .val (.int (0 : Int32)), .val (.int (1 : Int32)), .val (.int (0 : Int32)), .val (.long k0), .second] [(.int (lcmpW k0 x))])
  refine own_go (fun _ => XS.ifNo X0.here hx rfl (hb hby d9_34) rfl (Jvm.Free.XT.ll_ge_f r0)) ?_
  refine own_go (fun _ => XS.iload X0.here hx rfl (hb hby d9_37) rfl) ?_
  refine own_go (fun _ => XS.iconst X0.here hx rfl (hb hby d9_39)) ?_
  show own_G p e below Φ s₁ (mkF m 40 #[.val (.ref xa), .val (.int (0 : Int32)), .val (.int (2 : Int32)), .val (.long x), .second, .val (.int (0 : Int32)), .val (.int (1 : Int32)), .val (.int (0 : Int32)), .val (.long k0), .second] [(.int (1 : Int32)), (.int (0 : Int32))])
  refine own_go (fun _ => XS.iadd X0.here hx rfl (hb hby d9_40) rfl) ?_
  refine own_go (fun _ => XS.istore X0.here hx rfl (hb hby d9_41) rfl (l' := #[.val (.ref xa), .val (.int (0 : Int32)), .val (.int (2 : Int32)), .val (.long x), .second, .val (.int (1 : Int32)), .val (.int (1 : Int32)), .val (.int (0 : Int32)), .val (.long k0), .second]) rfl) ?_
  refine own_go (fun _ => XS.goto X0.here hx rfl (pc0 := 43) (pc' := 65) rfl (hb hby d9_43) (by decide) (by decide)) ?_
  show own_G p e below Φ s₁ (mkF m 65 #[.val (.ref xa), .val (.int (0 : Int32)), .val (.int (2 : Int32)), .val (.long x), .second, .val (.int (1 : Int32)), .val (.int (1 : Int32)), .val (.int (0 : Int32)), .val (.long k0), .second] [])
  refine own_go (fun _ => XS.goto X0.here hx rfl (pc0 := 65) (pc' := 8) rfl (hb hby d9_65) (by decide) (by decide)) ?_
  refine own_go (fun _ => XS.iload X0.here hx rfl (hb hby d9_8) rfl) ?_
  refine own_go (fun _ => XS.iload X0.here hx rfl (hb hby d9_10) rfl) ?_
  show own_G p e below Φ s₁ (mkF m 12 #[.val (.ref xa), .val (.int (0 : Int32)), .val (.int (2 : Int32)), .val (.long x), .second, .val (.int (1 : Int32)), .val (.int (1 : Int32)), .val (.int (0 : Int32)), .val (.long k0), .second] [(.int (1 : Int32)), (.int (1 : Int32))])
  refine own_go (fun _ => XS.icmpNo X0.here hx rfl (hb hby d9_12) rfl (Jvm.Free.XT.ii_gt_f (by decide : ¬ ((1 : Int32) < (1 : Int32))))) ?_
  refine own_go (fun _ => XS.iload X0.here hx rfl (hb hby d9_15) rfl) ?_
  refine own_go (fun _ => XS.iload X0.here hx rfl (hb hby d9_17) rfl) ?_
  show own_G p e below Φ s₁ (mkF m 19 #[.val (.ref xa), .val (.int (0 : Int32)), .val (.int (2 : Int32)), .val (.long x), .second, .val (.int (1 : Int32)), .val (.int (1 : Int32)), .val (.int (0 : Int32)), .val (.long k0), .second] [(.int (1 : Int32)), (.int (1 : Int32))])
  refine own_go (fun _ => XS.iadd X0.here hx rfl (hb hby d9_19) rfl) ?_
  refine own_go (fun _ => XS.iconst X0.here hx rfl (hb hby d9_20)) ?_
  show own_G p e below Φ s₁ (mkF m 21 #[.val (.ref xa), .val (.int (0 : Int32)), .val (.int (2 : Int32)), .val (.long x), .second, .val (.int (1 : Int32)), .val (.int (1 : Int32)), .val (.int (0 : Int32)), .val (.long k0), .second] [(.int (1 : Int32)), (.int (2 : Int32))])
  refine own_go (fun _ => XS.iushr X0.here hx rfl (hb hby d9_21) rfl) ?_
  refine own_go (fun _ => XS.istore X0.here hx rfl (hb hby d9_22) rfl (l' := #[.val (.ref xa), .val (.int (0 : Int32)), .val (.int (2 : Int32)), .val (.long x), .second, .val (.int (1 : Int32)), .val (.int (1 : Int32)), .val (.int (1 : Int32)), .val (.long k0), .second]) rfl) ?_
  refine own_go (fun _ => XS.aloadN X0.here hx rfl (hb hby d9_24) rfl rfl) ?_
  show own_G p e below Φ s₁ (mkF m 25 #[.val (.ref xa), .val (.int (0 : Int32)), .val (.int (2 : Int32)), .val (.long x), .second, .val (.int (1 : Int32)), .val (.int (1 : Int32)), .val (.int (1 : Int32)), .val (.long k0), .second] [(.ref xa)])
  refine own_go (fun _ => XS.iload X0.here hx rfl (hb hby d9_25) rfl) ?_
  show own_G p e below Φ s₁ (mkF m 27 #[.val (.ref xa), .val (.int (0 : Int32)), .val (.int (2 : Int32)), .val (.long x), .second, .val (.int (1 : Int32)), .val (.int (1 : Int32)), .val (.int (1 : Int32)), .val (.long k0), .second] [(.int (1 : Int32)), (.ref xa)])
  obtain ⟨cl2, Ar2, zq2, S2, M2, H2, G2⟩ := id V_xa
  have hin2 : ¬ ((1 : Int32) < 0 ∨ cl2.slots.size ≤ ((1 : Int32)).toNatClampNeg) := inb_of S2 ⟨by decide, by decide⟩
  refine own_go (fun _ => X0.laload hx (j := (1 : Int32)) (v := (.long k1)) (by rw [e0]; exact Ar2.1) (State.isArrayOf_alike hZ.alike Ar2.2.1) Ar2.2.2 hin2 (H2.at hin2 rfl) (g := (mkF m 27 #[.val (.ref xa), .val (.int (0 : Int32)), .val (.int (2 : Int32)), .val (.long x), .second, .val (.int (1 : Int32)), .val (.int (1 : Int32)), .val (.int (1 : Int32)), .val (.long k0), .second] [(.int (1 : Int32)), (.ref xa)])) rfl rfl (hb hby d9_27) _) ?_
  refine own_go (fun _ => XS.lstore X0.here hx rfl (hb hby d9_28) rfl (l' := #[.val (.ref xa), .val (.int (0 : Int32)), .val (.int (2 : Int32)), .val (.long x), .second, .val (.int (1 : Int32)), .val (.int (1 : Int32)), .val (.int (1 : Int32)), .val (.long k1), .second]) rfl) ?_
  refine own_go (fun _ => XS.lload X0.here hx rfl (hb hby d9_30) rfl) ?_
  show own_G p e below Φ s₁ (mkF m 32 #[.val (.ref xa), .val (.int (0 : Int32)), .val (.int (2 : Int32)), .val (.long x), .second, .val (.int (1 : Int32)), .val (.int (1 : Int32)), .val (.int (1 : Int32)), .val (.long k1), .second] [(.long k1)])
  refine own_go (fun _ => XS.lloadN X0.here hx rfl (hb hby d9_32) rfl) ?_
  show own_G p e below Φ s₁ (mkF m 33 #[.val (.ref xa), .val (.int (0 : Int32)), .val (.int (2 : Int32)), .val (.long x), .second, .val (.int (1 : Int32)), .val (.int (1 : Int32)), .val (.int (1 : Int32)), .val (.long k1), .second] [(.long x), (.long k1)])
  refine own_go (fun _ => XS.lcmp X0.here hx rfl (hb hby d9_33) rfl) ?_
  show own_G p e below Φ s₁ (mkF m 34 #[.val (.ref xa), .val (.int (0 : Int32)), .val (.int (2 : Int32)), .val (.long x), .second, .val (.int (1 : Int32)), .val (.int (1 : Int32)), .val (.int (1 : Int32)), .val (.long k1), .second] [(.int (lcmpW k1 x))])
  refine own_go (fun _ => XS.ifYes X0.here hx rfl (pc0 := 34) (pc' := 46) rfl (hb hby d9_34) rfl (Jvm.Free.XT.ll_ge_t (own_asy r1)) (by decide) (by decide)) ?_
  refine own_go (fun _ => XS.lload X0.here hx rfl (hb hby d9_46) rfl) ?_
  refine own_go (fun _ => XS.lloadN X0.here hx rfl (hb hby d9_48) rfl) ?_
  show own_G p e below Φ s₁ (mkF m 49 #[.val (.ref xa), .val (.int (0 : Int32)), .val (.int (2 : Int32)), .val (.long x), .second, .val (.int (1 : Int32)), .val (.int (1 : Int32)), .val (.int (1 : Int32)), .val (.long k1), .second] [(.long x), (.long k1)])
  refine own_go (fun _ => XS.lcmp X0.here hx rfl (hb hby d9_49) rfl) ?_
  show own_G p e below Φ s₁ (mkF m 50 #[.val (.ref xa), .val (.int (0 : Int32)), .val (.int (2 : Int32)), .val (.long x), .second, .val (.int (1 : Int32)), .val (.int (1 : Int32)), .val (.int (1 : Int32)), .val (.long k1), .second] [(.int (lcmpW k1 x))])
  refine own_go (fun _ => XS.ifNo X0.here hx rfl (hb hby d9_50) rfl (Jvm.Free.XT.ll_le_f r1)) ?_
  refine own_go (fun _ => XS.iload X0.here hx rfl (hb hby d9_53) rfl) ?_
  refine own_go (fun _ => XS.iconst X0.here hx rfl (hb hby d9_55)) ?_
  show own_G p e below Φ s₁ (mkF m 56 #[.val (.ref xa), .val (.int (0 : Int32)), .val (.int (2 : Int32)), .val (.long x), .second, .val (.int (1 : Int32)), .val (.int (1 : Int32)), .val (.int (1 : Int32)), .val (.long k1), .second] [(.int (1 : Int32)), (.int (1 : Int32))])
  refine own_go (fun _ => XS.isub X0.here hx rfl (hb hby d9_56) rfl) ?_
  refine own_go (fun _ => XS.istore X0.here hx rfl (hb hby d9_57) rfl (l' := #[.val (.ref xa), .val (.int (0 : Int32)), .val (.int (2 : Int32)), .val (.long x), .second, .val (.int (1 : Int32)), .val (.int (0 : Int32)), .val (.int (1 : Int32)), .val (.long k1), .second]) rfl) ?_
  refine own_go (fun _ => XS.goto X0.here hx rfl (pc0 := 59) (pc' := 65) rfl (hb hby d9_59) (by decide) (by decide)) ?_
  show own_G p e below Φ s₁ (mkF m 65 #[.val (.ref xa), .val (.int (0 : Int32)), .val (.int (2 : Int32)), .val (.long x), .second, .val (.int (1 : Int32)), .val (.int (0 : Int32)), .val (.int (1 : Int32)), .val (.long k1), .second] [])
  refine own_go (fun _ => XS.goto X0.here hx rfl (pc0 := 65) (pc' := 8) rfl (hb hby d9_65) (by decide) (by decide)) ?_
  refine own_go (fun _ => XS.iload X0.here hx rfl (hb hby d9_8) rfl) ?_
  refine own_go (fun _ => XS.iload X0.here hx rfl (hb hby d9_10) rfl) ?_
  show own_G p e below Φ s₁ (mkF m 12 #[.val (.ref xa), .val (.int (0 : Int32)), .val (.int (2 : Int32)), .val (.long x), .second, .val (.int (1 : Int32)), .val (.int (0 : Int32)), .val (.int (1 : Int32)), .val (.long k1), .second] [(.int (0 : Int32)), (.int (1 : Int32))])
  refine own_go (fun _ => XS.icmpYes X0.here hx rfl (pc0 := 12) (pc' := 68) rfl (hb hby d9_12) rfl (Jvm.Free.XT.ii_gt_t (by decide : ((0 : Int32) < (1 : Int32)))) (by decide) (by decide)) ?_
  refine own_go (fun _ => XS.iload X0.here hx rfl (hb hby d9_68) rfl) ?_
  refine own_go (fun _ => XS.iconst X0.here hx rfl (hb hby d9_70)) ?_
  show own_G p e below Φ s₁ (mkF m 71 #[.val (.ref xa), .val (.int (0 : Int32)), .val (.int (2 : Int32)), .val (.long x), .second, .val (.int (1 : Int32)), .val (.int (0 : Int32)), .val (.int (1 : Int32)), .val (.long k1), .second] [(.int (1 : Int32)), (.int (1 : Int32))])
  refine own_go (fun _ => XS.iadd X0.here hx rfl (hb hby d9_71) rfl) ?_
  show own_G p e below Φ s₁ (mkF m 72 #[.val (.ref xa), .val (.int (0 : Int32)), .val (.int (2 : Int32)), .val (.long x), .second, .val (.int (1 : Int32)), .val (.int (0 : Int32)), .val (.int (1 : Int32)), .val (.long k1), .second] [(.int (2 : Int32))])
  refine own_go (fun _ => XS.ineg X0.here hx rfl (hb hby d9_72) rfl) ?_
  show own_G p e below Φ s₁ (mkF m 73 #[.val (.ref xa), .val (.int (0 : Int32)), .val (.int (2 : Int32)), .val (.long x), .second, .val (.int (1 : Int32)), .val (.int (0 : Int32)), .val (.int (1 : Int32)), .val (.long k1), .second] [(.int (-2 : Int32))])
  rw [hΦ]
  refine own_ret X0 (v := some (.int (-2 : Int32))) (fun h => by rw [Bd.returns] at h; cases h) (BodyLoose.notSynchronized Bd) (fun fs hr => retOut X0 hx Bd.returns rfl (Or.inl ⟨rfl, Or.inl rfl, _, rfl⟩) (hb hby d9_73) hr) ?_ (by decide) (by decide)
  rw [e0]
  exact ⟨rfl, N0, rfl⟩
theorem ef_rmB1_2ins1 (m : MethodId) (xa : Addr) (x : Int64) : entryFrame m #[(.ref xa), (.int (0 : Int32)), (.int (2 : Int32)), (.long x)] 5 = mkF m 0 #[.val (.ref xa), .val (.int (0 : Int32)), .val (.int (2 : Int32)), .val (.long x), .second] [] := by first | (simp [entryFrame, mkF, argsToLocals, Value.category]; done) | rfl
def Q_rmB1_2ins1 (Z : State) (xa : Addr) (kk : ClassId) (x : Int64) (k0 : Int64) (k1 : Int64) (h0 : Heap) (n0 : Nat) (v : Option Value) (h : Heap) (L : List Loc) : Prop := v = some (.int (-2 : Int32)) ∧ Fr n0 L ∧ h = h0
set_option maxRecDepth 65536 in
set_option maxHeartbeats 40000000 in
theorem rmB1_2ins1 (l : Launch) (Z : State) (a0 : Array Value) (hw : ∀ d ∈ tables_1, d.before a0 Z = true) (ws : List Jvm.Cond) (xa : Addr) (kk : ClassId) (x : Int64) (k0 : Int64) (k1 : Int64) (h0 : Heap) (n0 : Nat) (Z0 : n0 ≤ h0.size) (V_xa : Arv Z h0 xa kk .long (64 : Int32) [(.long k0), (.long k1)] (.long (0 : Int64))) (r0 : k0 < x) (r1 : x < k1) :
    MetFree l (⟨"java/util/Arrays", "binarySearch", "([JIIJ)I"⟩ : MethodName) (head1 (Jvm.Cond.code (⟨"java/util/Arrays", "binarySearch", "([JIIJ)I"⟩ : MethodName) jdk_65_method_55_code 5 (some .int) :: ws) ({ frames := 1, cells := 0, slots := 0, locals := 21 } : Room)) (fun a U => a = #[(.ref xa), (.int (0 : Int32)), (.int (2 : Int32)), (.long x)] ∧ Z.Warmed39 U.vm ∧ U.heap = h0) (fun _ _ _ _ _ => True) (fun _ U o U' => ∃ v L, o = .returned v ∧ Q_rmB1_2ins1 Z xa kk x k0 k1 h0 n0 v U'.heap L ∧ FrameEnd U o U' L ({ frames := 1, cells := 0, slots := 0, locals := 21 } : Room).cells ({ frames := 1, cells := 0, slots := 0, locals := 21 } : Room).slots) := by
  refine MetFree.of_bodySF (plainFor_of_name pn_3) hisR ?_
  intro p e s m args below meth c s₁ Bd hml0 hP hK
  obtain ⟨rfl, hZ, hh⟩ := hP
  have hx := Bd.exec
  have hby := Bd.bytes
  have hml : c.maxLocals = 5 := hml0
  have hown : s.vm.findClass "java/util/Arrays" = some m.cls := findClass_of_methodNamed Bd.named
  have hnm := (name_of_methodNamed Bd.named Bd.method).1
  have X0 : Stand p l e ({ frames := 1, cells := 0, slots := 0, locals := 21 } : Room) s m #[(.ref xa), (.int (0 : Int32)), (.int (2 : Int32)), (.long x)] below meth c s₁ [] 0 0 := Stand.of_body Bd
  have e0 : s₁.heap = h0 := by rw [← hh, Bd.state]; rfl
  have N0 := Fr.nil n0
  suffices G0 : own_G p e below (own_E s below (Q_rmB1_2ins1 Z xa kk x k0 k1 h0 n0) ({ frames := 1, cells := 0, slots := 0, locals := 21 } : Room).cells ({ frames := 1, cells := 0, slots := 0, locals := 21 } : Room).slots) s₁ (mkF m 0 #[.val (.ref xa), .val (.int (0 : Int32)), .val (.int (2 : Int32)), .val (.long x), .second] []) by
    obtain ⟨zt, zst, zo, zq1, zq2, zq3⟩ := G0
    exact ⟨zt, zo, castTop (ef_rmB1_2ins1 m xa x) zst, zq1, zq2, zq3⟩
  obtain ⟨Φ, hΦ⟩ : ∃ Φ, Φ = own_E s below (Q_rmB1_2ins1 Z xa kk x k0 k1 h0 n0) ({ frames := 1, cells := 0, slots := 0, locals := 21 } : Room).cells ({ frames := 1, cells := 0, slots := 0, locals := 21 } : Room).slots := ⟨_, rfl⟩
  rw [← hΦ]
  show own_G p e below Φ s₁ (mkF m 0 #[.val (.ref xa), .val (.int (0 : Int32)), .val (.int (2 : Int32)), .val (.long x), .second] [])
  refine own_go (fun _ => XS.aloadN X0.here hx rfl (hb hby d7_0) rfl rfl) ?_
  show own_G p e below Φ s₁ (mkF m 1 #[.val (.ref xa), .val (.int (0 : Int32)), .val (.int (2 : Int32)), .val (.long x), .second] [(.ref xa)])
  obtain ⟨cl1, Ar1, zq1, S1, M1, H1, G1⟩ := id V_xa
  refine own_go (fun _ => X0.arraylength hx (by rw [e0]; exact Ar1.1) (State.isArrayOf_alike hZ.alike Ar1.2.1) (g := (mkF m 1 #[.val (.ref xa), .val (.int (0 : Int32)), .val (.int (2 : Int32)), .val (.long x), .second] [(.ref xa)])) rfl rfl (hb hby d7_1) _) ?_
  rw [len_of S1 M1]
  refine own_go (fun _ => XS.iloadN X0.here hx rfl (hb hby d7_2) rfl) ?_
  refine own_go (fun _ => XS.iloadN X0.here hx rfl (hb hby d7_3) rfl) ?_
  show own_G p e below Φ s₁ (mkF m 4 #[.val (.ref xa), .val (.int (0 : Int32)), .val (.int (2 : Int32)), .val (.long x), .second] [(.int (2 : Int32)), (.int (0 : Int32)), (.int (64 : Int32))])
  obtain ⟨_, _, ⟨T2, zL2, zk2, zn2⟩, -, X2, ⟨Lc2, hQ2, zl2, zy2, zz2⟩, st2⟩ := Jvm.LawKit.callS X0 hx (y := (⟨"java/util/Arrays", "rangeCheck", "(III)V"⟩ : MethodName)) hown (mvT hZ (wd_47 hw)) (mvT hZ (wd_48 hw)) (mvT hZ (wd_45 hw)) (mvT hZ (wd_49 hw)) (by decide) (backOf (W := 0) (rmR2 l Z a0 hw []  h0 n0 Z0 ) hZ (wd_49 hw) (wd_45 hw) (by decide) (by decide)) (g := (mkF m 4 #[.val (.ref xa), .val (.int (0 : Int32)), .val (.int (2 : Int32)), .val (.long x), .second] [(.int (2 : Int32)), (.int (0 : Int32)), (.int (64 : Int32))])) rfl (by rw [hml]; rfl) (argsL := [(.int (64 : Int32)), (.int (0 : Int32)), (.int (2 : Int32))]) (rest := []) (lenOf pd_0 rfl) rfl (by show 2 * 0 + _ ≤ _; exact Nat.le_of_eq rfl) (hb hby d7_4) (fun _ _ => ⟨rfl, e0, (by decide : 0 + 0 ≤ _), (by decide : 0 + 0 ≤ _)⟩)
  dsimp only [Pt.U, Pt.locs, Pt.cells, Pt.slots] at X2 zl2 zy2 zz2 st2 hQ2
  subst zl2 zy2 zz2
  obtain ⟨rfl, N2q, hs2⟩ := hQ2
  have N2 := Fr.app N0 N2q
  refine own_go st2 ?_
  refine own_go (fun _ => XS.aloadN X2.here hx rfl (hb hby d7_7) rfl rfl) ?_
  refine own_go (fun _ => XS.iloadN X2.here hx rfl (hb hby d7_8) rfl) ?_
  show own_G p e below Φ T2 (mkF m 9 #[.val (.ref xa), .val (.int (0 : Int32)), .val (.int (2 : Int32)), .val (.long x), .second] [(.int (0 : Int32)), (.ref xa)])
  refine own_go (fun _ => XS.iloadN X2.here hx rfl (hb hby d7_9) rfl) ?_
  refine own_go (fun _ => XS.lloadN X2.here hx rfl (hb hby d7_10) rfl) ?_
  show own_G p e below Φ T2 (mkF m 11 #[.val (.ref xa), .val (.int (0 : Int32)), .val (.int (2 : Int32)), .val (.long x), .second] [(.long x), (.int (2 : Int32)), (.int (0 : Int32)), (.ref xa)])
  obtain ⟨_, _, ⟨T3, zL3, zk3, zn3⟩, -, X3, ⟨Lc3, hQ3, zl3, zy3, zz3⟩, st3⟩ := Jvm.LawKit.callS X2 hx (y := (⟨"java/util/Arrays", "binarySearch0", "([JIIJ)I"⟩ : MethodName)) hown (mvT hZ (wd_50 hw)) (mvT hZ (wd_51 hw)) (mvT hZ (wd_45 hw)) (mvT hZ (wd_52 hw)) (by decide) (backOf (W := 0) (rmB0_2ins1 l Z a0 hw [] xa kk x k0 k1 h0 n0 Z0 V_xa r0 r1) hZ (wd_52 hw) (wd_45 hw) (by decide) (by decide)) (g := (mkF m 11 #[.val (.ref xa), .val (.int (0 : Int32)), .val (.int (2 : Int32)), .val (.long x), .second] [(.long x), (.int (2 : Int32)), (.int (0 : Int32)), (.ref xa)])) rfl (by rw [hml]; rfl) (argsL := [(.ref xa), (.int (0 : Int32)), (.int (2 : Int32)), (.long x)]) (rest := []) (lenOf pd_1 rfl) rfl (by show 2 * 0 + _ ≤ _; exact Nat.le_of_eq rfl) (hb hby d7_11) (fun _ _ => ⟨rfl, hs2, (by decide : 0 + 0 ≤ _), (by decide : 0 + 0 ≤ _)⟩)
  dsimp only [Pt.U, Pt.locs, Pt.cells, Pt.slots] at X3 zl3 zy3 zz3 st3 hQ3
  subst zl3 zy3 zz3
  obtain ⟨rfl, N3q, hs3⟩ := hQ3
  have N3 := Fr.app N2 N3q
  refine own_go st3 ?_
  show own_G p e below Φ T3 (mkF m 14 #[.val (.ref xa), .val (.int (0 : Int32)), .val (.int (2 : Int32)), .val (.long x), .second] [(.int (-2 : Int32))])
  rw [hΦ]
  refine own_ret X3 (v := some (.int (-2 : Int32))) (fun h => by rw [Bd.returns] at h; cases h) (BodyLoose.notSynchronized Bd) (fun fs hr => retOut X3 hx Bd.returns rfl (Or.inl ⟨rfl, Or.inl rfl, _, rfl⟩) (hb hby d7_14) hr) ?_ (by decide) (by decide)
  rw [hs3]
  exact ⟨rfl, N3, rfl⟩
theorem ef_rmS_2ins1 (m : MethodId) (a1 : Addr) (q1 : Int64) : entryFrame m #[(.ref a1), (.long q1)] 3 = mkF m 0 #[.val (.ref a1), .val (.long q1), .second] [] := by first | (simp [entryFrame, mkF, argsToLocals, Value.category]; done) | rfl
def Q_rmS_2ins1 (Z : State) (a1 : Addr) (q1 : Int64) (hf : Int32) (xa : Addr) (kk : ClassId) (k0 : Int64) (k1 : Int64) (h0 : Heap) (n0 : Nat) (v : Option Value) (h : Heap) (L : List Loc) : Prop := v = some (.int (-2 : Int32)) ∧ Fr n0 L ∧ h = h0
set_option maxRecDepth 65536 in
set_option maxHeartbeats 40000000 in
theorem rmS_2ins1 (l : Launch) (Z : State) (a0 : Array Value) (hw : ∀ d ∈ tables_1, d.before a0 Z = true) (ws : List Jvm.Cond) (a1 : Addr) (q1 : Int64) (hf : Int32) (xa : Addr) (kk : ClassId) (k0 : Int64) (k1 : Int64) (h0 : Heap) (n0 : Nat) (Z0 : n0 ≤ h0.size) (E_a1 : Exa Z h0 a1 "corro/core/LimitLevels") (F_keys_a1 : Fld Z h0 a1 "corro/core/LimitLevels" "keys" "[J" (.ref xa)) (F_size_a1 : Fld Z h0 a1 "corro/core/LimitLevels" "size" "I" (.int (2 : Int32))) (F_highestFirst_a1 : Fld Z h0 a1 "corro/core/LimitLevels" "highestFirst" "Z" (.int hf)) (V_xa : Arv Z h0 xa kk .long (64 : Int32) [(.long k0), (.long k1)] (.long (0 : Int64))) (r0 : k0 < (own_key hf q1)) (r1 : (own_key hf q1) < k1) :
    MetFree l (⟨"corro/core/LimitLevels", "search", "(J)I"⟩ : MethodName) (head1 (Jvm.Cond.code (⟨"corro/core/LimitLevels", "search", "(J)I"⟩ : MethodName) prog_14_method_10_code 3 (some .int) :: ws) ({ frames := 2, cells := 0, slots := 0, locals := 37 } : Room)) (fun a U => a = #[(.ref a1), (.long q1)] ∧ Z.Warmed39 U.vm ∧ U.heap = h0) (fun _ _ _ _ _ => True) (fun _ U o U' => ∃ v L, o = .returned v ∧ Q_rmS_2ins1 Z a1 q1 hf xa kk k0 k1 h0 n0 v U'.heap L ∧ FrameEnd U o U' L ({ frames := 2, cells := 0, slots := 0, locals := 37 } : Room).cells ({ frames := 2, cells := 0, slots := 0, locals := 37 } : Room).slots) := by
  refine MetFree.of_bodySF (plainFor_of_name pn_1) hisR ?_
  intro p e s m args below meth c s₁ Bd hml0 hP hK
  obtain ⟨rfl, hZ, hh⟩ := hP
  have hx := Bd.exec
  have hby := Bd.bytes
  have hml : c.maxLocals = 3 := hml0
  have hown : s.vm.findClass "corro/core/LimitLevels" = some m.cls := findClass_of_methodNamed Bd.named
  have hnm := (name_of_methodNamed Bd.named Bd.method).1
  have X0 : Stand p l e ({ frames := 2, cells := 0, slots := 0, locals := 37 } : Room) s m #[(.ref a1), (.long q1)] below meth c s₁ [] 0 0 := Stand.of_body Bd
  have e0 : s₁.heap = h0 := by rw [← hh, Bd.state]; rfl
  have N0 := Fr.nil n0
  suffices G0 : own_G p e below (own_E s below (Q_rmS_2ins1 Z a1 q1 hf xa kk k0 k1 h0 n0) ({ frames := 2, cells := 0, slots := 0, locals := 37 } : Room).cells ({ frames := 2, cells := 0, slots := 0, locals := 37 } : Room).slots) s₁ (mkF m 0 #[.val (.ref a1), .val (.long q1), .second] []) by
    obtain ⟨zt, zst, zo, zq1, zq2, zq3⟩ := G0
    exact ⟨zt, zo, castTop (ef_rmS_2ins1 m a1 q1) zst, zq1, zq2, zq3⟩
  obtain ⟨Φ, hΦ⟩ : ∃ Φ, Φ = own_E s below (Q_rmS_2ins1 Z a1 q1 hf xa kk k0 k1 h0 n0) ({ frames := 2, cells := 0, slots := 0, locals := 37 } : Room).cells ({ frames := 2, cells := 0, slots := 0, locals := 37 } : Room).slots := ⟨_, rfl⟩
  rw [← hΦ]
  show own_G p e below Φ s₁ (mkF m 0 #[.val (.ref a1), .val (.long q1), .second] [])
  refine own_go (fun _ => XS.aloadN X0.here hx rfl (hb hby d5_0) rfl rfl) ?_
  show own_G p e below Φ s₁ (mkF m 1 #[.val (.ref a1), .val (.long q1), .second] [(.ref a1)])
  obtain ⟨T1, X1, e1, st1⟩ := getF X0 hx hZ hown (host := "") (Or.inl (wd_18 hw)) Via.refl e0 F_keys_a1 (g := (mkF m 1 #[.val (.ref a1), .val (.long q1), .second] [(.ref a1)])) rfl rfl (hb hby d5_1)
  refine own_go st1 ?_
  refine own_go (fun _ => XS.iconst X1.here hx rfl (hb hby d5_4)) ?_
  refine own_go (fun _ => XS.aloadN X1.here hx rfl (hb hby d5_5) rfl rfl) ?_
  show own_G p e below Φ T1 (mkF m 6 #[.val (.ref a1), .val (.long q1), .second] [(.ref a1), (.int (0 : Int32)), (.ref xa)])
  obtain ⟨T2, X2, e2, st2⟩ := getF X1 hx hZ hown (host := "") (Or.inl (wd_37 hw)) Via.refl e1 F_size_a1 (g := (mkF m 6 #[.val (.ref a1), .val (.long q1), .second] [(.ref a1), (.int (0 : Int32)), (.ref xa)])) rfl rfl (hb hby d5_6)
  refine own_go st2 ?_
  refine own_go (fun _ => XS.aloadN X2.here hx rfl (hb hby d5_9) rfl rfl) ?_
  refine own_go (fun _ => XS.lloadN X2.here hx rfl (hb hby d5_10) rfl) ?_
  show own_G p e below Φ T2 (mkF m 11 #[.val (.ref a1), .val (.long q1), .second] [(.long q1), (.ref a1), (.int (2 : Int32)), (.int (0 : Int32)), (.ref xa)])
  obtain ⟨cq3, zc3, zc3z⟩ := E_a1.cell
  obtain ⟨_, _, ⟨T3, zL3, zk3, zn3⟩, -, X3, ⟨Lc3, hQ3, zl3, zy3, zz3⟩, st3⟩ := X2.privateBack hx (y := (⟨"corro/core/LimitLevels", "key", "(J)J"⟩ : MethodName)) hown (mvT hZ (wd_39 hw)) (mvT hZ (wd_40 hw)) (own_selp (x := (⟨"corro/core/LimitLevels", "getOrAdd", "(J)Lcorro/core/Level;"⟩ : MethodName)) rfl (mvT hZ (wd_30 hw)) (notFace_of_selects (args := #[]) (mvT hZ (wd_31 hw))) (Cond.privateMethod_at (mvP hZ (wd_41 hw) (args := #[]))) (mvT hZ (wd_40 hw)) (by decide)) (Cond.privateMethod_at (mvP hZ (wd_41 hw) (args := #[]))) (mvT hZ (wd_42 hw)) (by decide) (backOf (W := 3) (rmK l Z a0 hw [] a1 q1 hf h0 n0 Z0 F_highestFirst_a1) hZ (wd_42 hw) (wd_7 hw) (by decide) (by decide)) (g := (mkF m 11 #[.val (.ref a1), .val (.long q1), .second] [(.long q1), (.ref a1), (.int (2 : Int32)), (.int (0 : Int32)), (.ref xa)])) rfl (by rw [hml]; rfl) (Steps.refl _) (a := a1) (by rw [e2]; exact zc3) zc3z (argsL := [(.long q1)]) (rest := [(.int (2 : Int32)), (.int (0 : Int32)), (.ref xa)]) (lenOf pd_2 rfl) rfl (by show 2 * 0 + _ ≤ _; exact Nat.le_of_eq rfl) (hb hby d5_11) (fun _ _ => ⟨rfl, e2, (by decide : 0 + 0 ≤ _), (by decide : 0 + 0 ≤ _)⟩)
  dsimp only [Pt.U, Pt.locs, Pt.cells, Pt.slots] at X3 zl3 zy3 zz3 st3 hQ3
  subst zl3 zy3 zz3
  obtain ⟨rfl, N3q, hs3⟩ := hQ3
  have N3 := Fr.app N0 N3q
  refine own_on st3 ?_
  show own_G p e below Φ T3 (mkF m 14 #[.val (.ref a1), .val (.long q1), .second] [(.long (own_key hf q1)), (.int (2 : Int32)), (.int (0 : Int32)), (.ref xa)])
  obtain ⟨_, _, ⟨T4, zL4, zk4, zn4⟩, -, X4, ⟨Lc4, hQ4, zl4, zy4, zz4⟩, st4⟩ := Jvm.LawKit.callS X3 hx (y := (⟨"java/util/Arrays", "binarySearch", "([JIIJ)I"⟩ : MethodName)) hown (mvT hZ (wd_43 hw)) (mvT hZ (wd_44 hw)) (mvT hZ (wd_45 hw)) (mvT hZ (wd_46 hw)) (by decide) (backOf (W := 0) (rmB1_2ins1 l Z a0 hw [] xa kk (own_key hf q1) k0 k1 h0 n0 Z0 V_xa r0 r1) hZ (wd_46 hw) (wd_45 hw) (by decide) (by decide)) (g := (mkF m 14 #[.val (.ref a1), .val (.long q1), .second] [(.long (own_key hf q1)), (.int (2 : Int32)), (.int (0 : Int32)), (.ref xa)])) rfl (by rw [hml]; rfl) (argsL := [(.ref xa), (.int (0 : Int32)), (.int (2 : Int32)), (.long (own_key hf q1))]) (rest := []) (lenOf pd_1 rfl) rfl (by show 2 * 0 + _ ≤ _; exact Nat.le_of_eq rfl) (hb hby d5_14) (fun _ _ => ⟨rfl, hs3, (by decide : 0 + 0 ≤ _), (by decide : 0 + 0 ≤ _)⟩)
  dsimp only [Pt.U, Pt.locs, Pt.cells, Pt.slots] at X4 zl4 zy4 zz4 st4 hQ4
  subst zl4 zy4 zz4
  obtain ⟨rfl, N4q, hs4⟩ := hQ4
  have N4 := Fr.app N3 N4q
  refine own_go st4 ?_
  show own_G p e below Φ T4 (mkF m 17 #[.val (.ref a1), .val (.long q1), .second] [(.int (-2 : Int32))])
  rw [hΦ]
  refine own_ret X4 (v := some (.int (-2 : Int32))) (fun h => by rw [Bd.returns] at h; cases h) (BodyLoose.notSynchronized Bd) (fun fs hr => retOut X4 hx Bd.returns rfl (Or.inl ⟨rfl, Or.inl rfl, _, rfl⟩) (hb hby d5_17) hr) ?_ (by decide) (by decide)
  rw [hs4]
  exact ⟨rfl, N4, rfl⟩
theorem ef_rmB0_2fnd1 (m : MethodId) (xa : Addr) (x : Int64) : entryFrame m #[(.ref xa), (.int (0 : Int32)), (.int (2 : Int32)), (.long x)] 10 = mkF m 0 #[.val (.ref xa), .val (.int (0 : Int32)), .val (.int (2 : Int32)), .val (.long x), .second, .unset, .unset, .unset, .unset, .unset] [] := by first | (simp [entryFrame, mkF, argsToLocals, Value.category]; done) | rfl
def Q_rmB0_2fnd1 (Z : State) (xa : Addr) (kk : ClassId) (x : Int64) (k0 : Int64) (k1 : Int64) (h0 : Heap) (n0 : Nat) (v : Option Value) (h : Heap) (L : List Loc) : Prop := v = some (.int (1 : Int32)) ∧ Fr n0 L ∧ h = h0
set_option maxRecDepth 65536 in
set_option maxHeartbeats 40000000 in
theorem rmB0_2fnd1 (l : Launch) (Z : State) (a0 : Array Value) (hw : ∀ d ∈ tables_1, d.before a0 Z = true) (ws : List Jvm.Cond) (xa : Addr) (kk : ClassId) (x : Int64) (k0 : Int64) (k1 : Int64) (h0 : Heap) (n0 : Nat) (Z0 : n0 ≤ h0.size) (V_xa : Arv Z h0 xa kk .long (64 : Int32) [(.long k0), (.long k1)] (.long (0 : Int64))) (r0 : k0 < x) (r1 : k1 = x) :
    MetFree l (⟨"java/util/Arrays", "binarySearch0", "([JIIJ)I"⟩ : MethodName) (head1 (Jvm.Cond.code (⟨"java/util/Arrays", "binarySearch0", "([JIIJ)I"⟩ : MethodName) jdk_65_method_56_code 10 (some .int) :: ws) ({ frames := 0, cells := 0, slots := 0, locals := 0 } : Room)) (fun a U => a = #[(.ref xa), (.int (0 : Int32)), (.int (2 : Int32)), (.long x)] ∧ Z.Warmed39 U.vm ∧ U.heap = h0) (fun _ _ _ _ _ => True) (fun _ U o U' => ∃ v L, o = .returned v ∧ Q_rmB0_2fnd1 Z xa kk x k0 k1 h0 n0 v U'.heap L ∧ FrameEnd U o U' L ({ frames := 0, cells := 0, slots := 0, locals := 0 } : Room).cells ({ frames := 0, cells := 0, slots := 0, locals := 0 } : Room).slots) := by
  refine MetFree.of_bodySF (plainFor_of_name pn_3) hisR ?_
  intro p e s m args below meth c s₁ Bd hml0 hP hK
  obtain ⟨rfl, hZ, hh⟩ := hP
  have hx := Bd.exec
  have hby := Bd.bytes
  have hml : c.maxLocals = 10 := hml0
  have hown : s.vm.findClass "java/util/Arrays" = some m.cls := findClass_of_methodNamed Bd.named
  have hnm := (name_of_methodNamed Bd.named Bd.method).1
  have X0 : Stand p l e ({ frames := 0, cells := 0, slots := 0, locals := 0 } : Room) s m #[(.ref xa), (.int (0 : Int32)), (.int (2 : Int32)), (.long x)] below meth c s₁ [] 0 0 := Stand.of_body Bd
  have e0 : s₁.heap = h0 := by rw [← hh, Bd.state]; rfl
  have N0 := Fr.nil n0
  suffices G0 : own_G p e below (own_E s below (Q_rmB0_2fnd1 Z xa kk x k0 k1 h0 n0) ({ frames := 0, cells := 0, slots := 0, locals := 0 } : Room).cells ({ frames := 0, cells := 0, slots := 0, locals := 0 } : Room).slots) s₁ (mkF m 0 #[.val (.ref xa), .val (.int (0 : Int32)), .val (.int (2 : Int32)), .val (.long x), .second, .unset, .unset, .unset, .unset, .unset] []) by
    obtain ⟨zt, zst, zo, zq1, zq2, zq3⟩ := G0
    exact ⟨zt, zo, castTop (ef_rmB0_2fnd1 m xa x) zst, zq1, zq2, zq3⟩
  obtain ⟨Φ, hΦ⟩ : ∃ Φ, Φ = own_E s below (Q_rmB0_2fnd1 Z xa kk x k0 k1 h0 n0) ({ frames := 0, cells := 0, slots := 0, locals := 0 } : Room).cells ({ frames := 0, cells := 0, slots := 0, locals := 0 } : Room).slots := ⟨_, rfl⟩
  rw [← hΦ]
  show own_G p e below Φ s₁ (mkF m 0 #[.val (.ref xa), .val (.int (0 : Int32)), .val (.int (2 : Int32)), .val (.long x), .second, .unset, .unset, .unset, .unset, .unset] [])
  refine own_go (fun _ => XS.iloadN X0.here hx rfl (hb hby d9_0) rfl) ?_
  refine own_go (fun _ => XS.istore X0.here hx rfl (hb hby d9_1) rfl (l' := #[.val (.ref xa), .val (.int (0 : Int32)), .val (.int (2 : Int32)), .val (.long x), .second, .val (.int (0 : Int32)), .unset, .unset, .unset, .unset]) rfl) ?_
  refine own_go (fun _ => XS.iloadN X0.here hx rfl (hb hby d9_3) rfl) ?_
  show own_G p e below Φ s₁ (mkF m 4 #[.val (.ref xa), .val (.int (0 : Int32)), .val (.int (2 : Int32)), .val (.long x), .second, .val (.int (0 : Int32)), .unset, .unset, .unset, .unset] [(.int (2 : Int32))])
  refine own_go (fun _ => XS.iconst X0.here hx rfl (hb hby d9_4)) ?_
  show own_G p e below Φ s₁ (mkF m 5 #[.val (.ref xa), .val (.int (0 : Int32)), .val (.int (2 : Int32)), .val (.long x), .second, .val (.int (0 : Int32)), .unset, .unset, .unset, .unset] [(.int (1 : Int32)), (.int (2 : Int32))])
  refine own_go (fun _ => XS.isub X0.here hx rfl (hb hby d9_5) rfl) ?_
  refine own_go (fun _ => XS.istore X0.here hx rfl (hb hby d9_6) rfl (l' := #[.val (.ref xa), .val (.int (0 : Int32)), .val (.int (2 : Int32)), .val (.long x), .second, .val (.int (0 : Int32)), .val (.int (1 : Int32)), .unset, .unset, .unset]) rfl) ?_
  refine own_go (fun _ => XS.iload X0.here hx rfl (hb hby d9_8) rfl) ?_
  show own_G p e below Φ s₁ (mkF m 10 #[.val (.ref xa), .val (.int (0 : Int32)), .val (.int (2 : Int32)), .val (.long x), .second, .val (.int (0 : Int32)), .val (.int (1 : Int32)), .unset, .unset, .unset] [(.int (0 : Int32))])
  refine own_go (fun _ => XS.iload X0.here hx rfl (hb hby d9_10) rfl) ?_
  show own_G p e below Φ s₁ (mkF m 12 #[.val (.ref xa), .val (.int (0 : Int32)), .val (.int (2 : Int32)), .val (.long x), .second, .val (.int (0 : Int32)), .val (.int (1 : Int32)), .unset, .unset, .unset] [(.int (1 : Int32)), (.int (0 : Int32))])
  refine own_go (fun _ => XS.icmpNo X0.here hx rfl (hb hby d9_12) rfl (Jvm.Free.XT.ii_gt_f (by decide : ¬ ((1 : Int32) < (0 : Int32))))) ?_
  refine own_go (fun _ => XS.iload X0.here hx rfl (hb hby d9_15) rfl) ?_
  refine own_go (fun _ => XS.iload X0.here hx rfl (hb hby d9_17) rfl) ?_
  show own_G p e below Φ s₁ (mkF m 19 #[.val (.ref xa), .val (.int (0 : Int32)), .val (.int (2 : Int32)), .val (.long x), .second, .val (.int (0 : Int32)), .val (.int (1 : Int32)), .unset, .unset, .unset] [(.int (1 : Int32)), (.int (0 : Int32))])
  refine own_go (fun _ => XS.iadd X0.here hx rfl (hb hby d9_19) rfl) ?_
  refine own_go (fun _ => XS.iconst X0.here hx rfl (hb hby d9_20)) ?_
  show own_G p e below Φ s₁ (mkF m 21 #[.val (.ref xa), .val (.int (0 : Int32)), .val (.int (2 : Int32)), .val (.long x), .second, .val (.int (0 : Int32)), .val (.int (1 : Int32)), .unset, .unset, .unset] [(.int (1 : Int32)), (.int (1 : Int32))])
  refine own_go (fun _ => XS.iushr X0.here hx rfl (hb hby d9_21) rfl) ?_
  refine own_go (fun _ => XS.istore X0.here hx rfl (hb hby d9_22) rfl (l' := #[.val (.ref xa), .val (.int (0 : Int32)), .val (.int (2 : Int32)), .val (.long x), .second, .val (.int (0 : Int32)), .val (.int (1 : Int32)), .val (.int (0 : Int32)), .unset, .unset]) rfl) ?_
  refine own_go (fun _ => XS.aloadN X0.here hx rfl (hb hby d9_24) rfl rfl) ?_
  show own_G p e below Φ s₁ (mkF m 25 #[.val (.ref xa), .val (.int (0 : Int32)), .val (.int (2 : Int32)), .val (.long x), .second, .val (.int (0 : Int32)), .val (.int (1 : Int32)), .val (.int (0 : Int32)), .unset, .unset] [(.ref xa)])
  refine own_go (fun _ => XS.iload X0.here hx rfl (hb hby d9_25) rfl) ?_
  show own_G p e below Φ s₁ (mkF m 27 #[.val (.ref xa), .val (.int (0 : Int32)), .val (.int (2 : Int32)), .val (.long x), .second, .val (.int (0 : Int32)), .val (.int (1 : Int32)), .val (.int (0 : Int32)), .unset, .unset] [(.int (0 : Int32)), (.ref xa)])
  obtain ⟨cl1, Ar1, zq1, S1, M1, H1, G1⟩ := id V_xa
  have hin1 : ¬ ((0 : Int32) < 0 ∨ cl1.slots.size ≤ ((0 : Int32)).toNatClampNeg) := inb_of S1 ⟨by decide, by decide⟩
  refine own_go (fun _ => X0.laload hx (j := (0 : Int32)) (v := (.long k0)) (by rw [e0]; exact Ar1.1) (State.isArrayOf_alike hZ.alike Ar1.2.1) Ar1.2.2 hin1 (H1.at hin1 rfl) (g := (mkF m 27 #[.val (.ref xa), .val (.int (0 : Int32)), .val (.int (2 : Int32)), .val (.long x), .second, .val (.int (0 : Int32)), .val (.int (1 : Int32)), .val (.int (0 : Int32)), .unset, .unset] [(.int (0 : Int32)), (.ref xa)])) rfl rfl (hb hby d9_27) _) ?_
  refine own_go (fun _ => XS.lstore X0.here hx rfl (hb hby d9_28) rfl (l' := #[.val (.ref xa), .val (.int (0 : Int32)), .val (.int (2 : Int32)), .val (.long x), .second, .val (.int (0 : Int32)), .val (.int (1 : Int32)), .val (.int (0 : Int32)), .val (.long k0), .second]) rfl) ?_
  refine own_go (fun _ => XS.lload X0.here hx rfl (hb hby d9_30) rfl) ?_
  show own_G p e below Φ s₁ (mkF m 32 #[.val (.ref xa), .val (.int (0 : Int32)), .val (.int (2 : Int32)), .val (.long x), .second, .val (.int (0 : Int32)), .val (.int (1 : Int32)), .val (.int (0 : Int32)), .val (.long k0), .second] [(.long k0)])
  refine own_go (fun _ => XS.lloadN X0.here hx rfl (hb hby d9_32) rfl) ?_
  show own_G p e below Φ s₁ (mkF m 33 #[.val (.ref xa), .val (.int (0 : Int32)), .val (.int (2 : Int32)), .val (.long x), .second, .val (.int (0 : Int32)), .val (.int (1 : Int32)), .val (.int (0 : Int32)), .val (.long k0), .second] [(.long x), (.long k0)])
  refine own_go (fun _ => XS.lcmp X0.here hx rfl (hb hby d9_33) rfl) ?_
  show own_G p e below Φ s₁ (mkF m 34 #[.val (.ref xa), .val (.int (0 : Int32)), .val (.int (2 : Int32)), .val (.long x), .second, .val (.int (0 : Int32)), .val (.int (1 : Int32)), .val (.int (0 : Int32)), .val (.long k0), .second] [(.int (lcmpW k0 x))])
  refine own_go (fun _ => XS.ifNo X0.here hx rfl (hb hby d9_34) rfl (Jvm.Free.XT.ll_ge_f r0)) ?_
  refine own_go (fun _ => XS.iload X0.here hx rfl (hb hby d9_37) rfl) ?_
  refine own_go (fun _ => XS.iconst X0.here hx rfl (hb hby d9_39)) ?_
  show own_G p e below Φ s₁ (mkF m 40 #[.val (.ref xa), .val (.int (0 : Int32)), .val (.int (2 : Int32)), .val (.long x), .second, .val (.int (0 : Int32)), .val (.int (1 : Int32)), .val (.int (0 : Int32)), .val (.long k0), .second] [(.int (1 : Int32)), (.int (0 : Int32))])
  refine own_go (fun _ => XS.iadd X0.here hx rfl (hb hby d9_40) rfl) ?_
  refine own_go (fun _ => XS.istore X0.here hx rfl (hb hby d9_41) rfl (l' := #[.val (.ref xa), .val (.int (0 : Int32)), .val (.int (2 : Int32)), .val (.long x), .second, .val (.int (1 : Int32)), .val (.int (1 : Int32)), .val (.int (0 : Int32)), .val (.long k0), .second]) rfl) ?_
  refine own_go (fun _ => XS.goto X0.here hx rfl (pc0 := 43) (pc' := 65) rfl (hb hby d9_43) (by decide) (by decide)) ?_
  show own_G p e below Φ s₁ (mkF m 65 #[.val (.ref xa), .val (.int (0 : Int32)), .val (.int (2 : Int32)), .val (.long x), .second, .val (.int (1 : Int32)), .val (.int (1 : Int32)), .val (.int (0 : Int32)), .val (.long k0), .second] [])
  refine own_go (fun _ => XS.goto X0.here hx rfl (pc0 := 65) (pc' := 8) rfl (hb hby d9_65) (by decide) (by decide)) ?_
  refine own_go (fun _ => XS.iload X0.here hx rfl (hb hby d9_8) rfl) ?_
  refine own_go (fun _ => XS.iload X0.here hx rfl (hb hby d9_10) rfl) ?_
  show own_G p e below Φ s₁ (mkF m 12 #[.val (.ref xa), .val (.int (0 : Int32)), .val (.int (2 : Int32)), .val (.long x), .second, .val (.int (1 : Int32)), .val (.int (1 : Int32)), .val (.int (0 : Int32)), .val (.long k0), .second] [(.int (1 : Int32)), (.int (1 : Int32))])
  refine own_go (fun _ => XS.icmpNo X0.here hx rfl (hb hby d9_12) rfl (Jvm.Free.XT.ii_gt_f (by decide : ¬ ((1 : Int32) < (1 : Int32))))) ?_
  refine own_go (fun _ => XS.iload X0.here hx rfl (hb hby d9_15) rfl) ?_
  refine own_go (fun _ => XS.iload X0.here hx rfl (hb hby d9_17) rfl) ?_
  show own_G p e below Φ s₁ (mkF m 19 #[.val (.ref xa), .val (.int (0 : Int32)), .val (.int (2 : Int32)), .val (.long x), .second, .val (.int (1 : Int32)), .val (.int (1 : Int32)), .val (.int (0 : Int32)), .val (.long k0), .second] [(.int (1 : Int32)), (.int (1 : Int32))])
  refine own_go (fun _ => XS.iadd X0.here hx rfl (hb hby d9_19) rfl) ?_
  refine own_go (fun _ => XS.iconst X0.here hx rfl (hb hby d9_20)) ?_
  show own_G p e below Φ s₁ (mkF m 21 #[.val (.ref xa), .val (.int (0 : Int32)), .val (.int (2 : Int32)), .val (.long x), .second, .val (.int (1 : Int32)), .val (.int (1 : Int32)), .val (.int (0 : Int32)), .val (.long k0), .second] [(.int (1 : Int32)), (.int (2 : Int32))])
  refine own_go (fun _ => XS.iushr X0.here hx rfl (hb hby d9_21) rfl) ?_
  refine own_go (fun _ => XS.istore X0.here hx rfl (hb hby d9_22) rfl (l' := #[.val (.ref xa), .val (.int (0 : Int32)), .val (.int (2 : Int32)), .val (.long x), .second, .val (.int (1 : Int32)), .val (.int (1 : Int32)), .val (.int (1 : Int32)), .val (.long k0), .second]) rfl) ?_
  refine own_go (fun _ => XS.aloadN X0.here hx rfl (hb hby d9_24) rfl rfl) ?_
  show own_G p e below Φ s₁ (mkF m 25 #[.val (.ref xa), .val (.int (0 : Int32)), .val (.int (2 : Int32)), .val (.long x), .second, .val (.int (1 : Int32)), .val (.int (1 : Int32)), .val (.int (1 : Int32)), .val (.long k0), .second] [(.ref xa)])
  refine own_go (fun _ => XS.iload X0.here hx rfl (hb hby d9_25) rfl) ?_
  show own_G p e below Φ s₁ (mkF m 27 #[.val (.ref xa), .val (.int (0 : Int32)), .val (.int (2 : Int32)), .val (.long x), .second, .val (.int (1 : Int32)), .val (.int (1 : Int32)), .val (.int (1 : Int32)), .val (.long k0), .second] [(.int (1 : Int32)), (.ref xa)])
  obtain ⟨cl2, Ar2, zq2, S2, M2, H2, G2⟩ := id V_xa
  have hin2 : ¬ ((1 : Int32) < 0 ∨ cl2.slots.size ≤ ((1 : Int32)).toNatClampNeg) := inb_of S2 ⟨by decide, by decide⟩
  refine own_go (fun _ => X0.laload hx (j := (1 : Int32)) (v := (.long k1)) (by rw [e0]; exact Ar2.1) (State.isArrayOf_alike hZ.alike Ar2.2.1) Ar2.2.2 hin2 (H2.at hin2 rfl) (g := (mkF m 27 #[.val (.ref xa), .val (.int (0 : Int32)), .val (.int (2 : Int32)), .val (.long x), .second, .val (.int (1 : Int32)), .val (.int (1 : Int32)), .val (.int (1 : Int32)), .val (.long k0), .second] [(.int (1 : Int32)), (.ref xa)])) rfl rfl (hb hby d9_27) _) ?_
  refine own_go (fun _ => XS.lstore X0.here hx rfl (hb hby d9_28) rfl (l' := #[.val (.ref xa), .val (.int (0 : Int32)), .val (.int (2 : Int32)), .val (.long x), .second, .val (.int (1 : Int32)), .val (.int (1 : Int32)), .val (.int (1 : Int32)), .val (.long k1), .second]) rfl) ?_
  refine own_go (fun _ => XS.lload X0.here hx rfl (hb hby d9_30) rfl) ?_
  show own_G p e below Φ s₁ (mkF m 32 #[.val (.ref xa), .val (.int (0 : Int32)), .val (.int (2 : Int32)), .val (.long x), .second, .val (.int (1 : Int32)), .val (.int (1 : Int32)), .val (.int (1 : Int32)), .val (.long k1), .second] [(.long k1)])
  refine own_go (fun _ => XS.lloadN X0.here hx rfl (hb hby d9_32) rfl) ?_
  show own_G p e below Φ s₁ (mkF m 33 #[.val (.ref xa), .val (.int (0 : Int32)), .val (.int (2 : Int32)), .val (.long x), .second, .val (.int (1 : Int32)), .val (.int (1 : Int32)), .val (.int (1 : Int32)), .val (.long k1), .second] [(.long x), (.long k1)])
  refine own_go (fun _ => XS.lcmp X0.here hx rfl (hb hby d9_33) rfl) ?_
  show own_G p e below Φ s₁ (mkF m 34 #[.val (.ref xa), .val (.int (0 : Int32)), .val (.int (2 : Int32)), .val (.long x), .second, .val (.int (1 : Int32)), .val (.int (1 : Int32)), .val (.int (1 : Int32)), .val (.long k1), .second] [(.int (lcmpW k1 x))])
  refine own_go (fun _ => XS.ifYes X0.here hx rfl (pc0 := 34) (pc' := 46) rfl (hb hby d9_34) rfl (Jvm.Free.XT.ll_ge_t (own_irl r1)) (by decide) (by decide)) ?_
  refine own_go (fun _ => XS.lload X0.here hx rfl (hb hby d9_46) rfl) ?_
  refine own_go (fun _ => XS.lloadN X0.here hx rfl (hb hby d9_48) rfl) ?_
  show own_G p e below Φ s₁ (mkF m 49 #[.val (.ref xa), .val (.int (0 : Int32)), .val (.int (2 : Int32)), .val (.long x), .second, .val (.int (1 : Int32)), .val (.int (1 : Int32)), .val (.int (1 : Int32)), .val (.long k1), .second] [(.long x), (.long k1)])
  refine own_go (fun _ => XS.lcmp X0.here hx rfl (hb hby d9_49) rfl) ?_
  show own_G p e below Φ s₁ (mkF m 50 #[.val (.ref xa), .val (.int (0 : Int32)), .val (.int (2 : Int32)), .val (.long x), .second, .val (.int (1 : Int32)), .val (.int (1 : Int32)), .val (.int (1 : Int32)), .val (.long k1), .second] [(.int (lcmpW k1 x))])
  refine own_go (fun _ => XS.ifYes X0.here hx rfl (pc0 := 50) (pc' := 62) rfl (hb hby d9_50) rfl (Jvm.Free.XT.ll_le_t (own_irr r1)) (by decide) (by decide)) ?_
  refine own_go (fun _ => XS.iload X0.here hx rfl (hb hby d9_62) rfl) ?_
  show own_G p e below Φ s₁ (mkF m 64 #[.val (.ref xa), .val (.int (0 : Int32)), .val (.int (2 : Int32)), .val (.long x), .second, .val (.int (1 : Int32)), .val (.int (1 : Int32)), .val (.int (1 : Int32)), .val (.long k1), .second] [(.int (1 : Int32))])
  rw [hΦ]
  refine own_ret X0 (v := some (.int (1 : Int32))) (fun h => by rw [Bd.returns] at h; cases h) (BodyLoose.notSynchronized Bd) (fun fs hr => retOut X0 hx Bd.returns rfl (Or.inl ⟨rfl, Or.inl rfl, _, rfl⟩) (hb hby d9_64) hr) ?_ (by decide) (by decide)
  rw [e0]
  exact ⟨rfl, N0, rfl⟩
theorem ef_rmB1_2fnd1 (m : MethodId) (xa : Addr) (x : Int64) : entryFrame m #[(.ref xa), (.int (0 : Int32)), (.int (2 : Int32)), (.long x)] 5 = mkF m 0 #[.val (.ref xa), .val (.int (0 : Int32)), .val (.int (2 : Int32)), .val (.long x), .second] [] := by first | (simp [entryFrame, mkF, argsToLocals, Value.category]; done) | rfl
def Q_rmB1_2fnd1 (Z : State) (xa : Addr) (kk : ClassId) (x : Int64) (k0 : Int64) (k1 : Int64) (h0 : Heap) (n0 : Nat) (v : Option Value) (h : Heap) (L : List Loc) : Prop := v = some (.int (1 : Int32)) ∧ Fr n0 L ∧ h = h0
set_option maxRecDepth 65536 in
set_option maxHeartbeats 40000000 in
theorem rmB1_2fnd1 (l : Launch) (Z : State) (a0 : Array Value) (hw : ∀ d ∈ tables_1, d.before a0 Z = true) (ws : List Jvm.Cond) (xa : Addr) (kk : ClassId) (x : Int64) (k0 : Int64) (k1 : Int64) (h0 : Heap) (n0 : Nat) (Z0 : n0 ≤ h0.size) (V_xa : Arv Z h0 xa kk .long (64 : Int32) [(.long k0), (.long k1)] (.long (0 : Int64))) (r0 : k0 < x) (r1 : k1 = x) :
    MetFree l (⟨"java/util/Arrays", "binarySearch", "([JIIJ)I"⟩ : MethodName) (head1 (Jvm.Cond.code (⟨"java/util/Arrays", "binarySearch", "([JIIJ)I"⟩ : MethodName) jdk_65_method_55_code 5 (some .int) :: ws) ({ frames := 1, cells := 0, slots := 0, locals := 21 } : Room)) (fun a U => a = #[(.ref xa), (.int (0 : Int32)), (.int (2 : Int32)), (.long x)] ∧ Z.Warmed39 U.vm ∧ U.heap = h0) (fun _ _ _ _ _ => True) (fun _ U o U' => ∃ v L, o = .returned v ∧ Q_rmB1_2fnd1 Z xa kk x k0 k1 h0 n0 v U'.heap L ∧ FrameEnd U o U' L ({ frames := 1, cells := 0, slots := 0, locals := 21 } : Room).cells ({ frames := 1, cells := 0, slots := 0, locals := 21 } : Room).slots) := by
  refine MetFree.of_bodySF (plainFor_of_name pn_3) hisR ?_
  intro p e s m args below meth c s₁ Bd hml0 hP hK
  obtain ⟨rfl, hZ, hh⟩ := hP
  have hx := Bd.exec
  have hby := Bd.bytes
  have hml : c.maxLocals = 5 := hml0
  have hown : s.vm.findClass "java/util/Arrays" = some m.cls := findClass_of_methodNamed Bd.named
  have hnm := (name_of_methodNamed Bd.named Bd.method).1
  have X0 : Stand p l e ({ frames := 1, cells := 0, slots := 0, locals := 21 } : Room) s m #[(.ref xa), (.int (0 : Int32)), (.int (2 : Int32)), (.long x)] below meth c s₁ [] 0 0 := Stand.of_body Bd
  have e0 : s₁.heap = h0 := by rw [← hh, Bd.state]; rfl
  have N0 := Fr.nil n0
  suffices G0 : own_G p e below (own_E s below (Q_rmB1_2fnd1 Z xa kk x k0 k1 h0 n0) ({ frames := 1, cells := 0, slots := 0, locals := 21 } : Room).cells ({ frames := 1, cells := 0, slots := 0, locals := 21 } : Room).slots) s₁ (mkF m 0 #[.val (.ref xa), .val (.int (0 : Int32)), .val (.int (2 : Int32)), .val (.long x), .second] []) by
    obtain ⟨zt, zst, zo, zq1, zq2, zq3⟩ := G0
    exact ⟨zt, zo, castTop (ef_rmB1_2fnd1 m xa x) zst, zq1, zq2, zq3⟩
  obtain ⟨Φ, hΦ⟩ : ∃ Φ, Φ = own_E s below (Q_rmB1_2fnd1 Z xa kk x k0 k1 h0 n0) ({ frames := 1, cells := 0, slots := 0, locals := 21 } : Room).cells ({ frames := 1, cells := 0, slots := 0, locals := 21 } : Room).slots := ⟨_, rfl⟩
  rw [← hΦ]
  show own_G p e below Φ s₁ (mkF m 0 #[.val (.ref xa), .val (.int (0 : Int32)), .val (.int (2 : Int32)), .val (.long x), .second] [])
  refine own_go (fun _ => XS.aloadN X0.here hx rfl (hb hby d7_0) rfl rfl) ?_
  show own_G p e below Φ s₁ (mkF m 1 #[.val (.ref xa), .val (.int (0 : Int32)), .val (.int (2 : Int32)), .val (.long x), .second] [(.ref xa)])
  obtain ⟨cl1, Ar1, zq1, S1, M1, H1, G1⟩ := id V_xa
  refine own_go (fun _ => X0.arraylength hx (by rw [e0]; exact Ar1.1) (State.isArrayOf_alike hZ.alike Ar1.2.1) (g := (mkF m 1 #[.val (.ref xa), .val (.int (0 : Int32)), .val (.int (2 : Int32)), .val (.long x), .second] [(.ref xa)])) rfl rfl (hb hby d7_1) _) ?_
  rw [len_of S1 M1]
  refine own_go (fun _ => XS.iloadN X0.here hx rfl (hb hby d7_2) rfl) ?_
  refine own_go (fun _ => XS.iloadN X0.here hx rfl (hb hby d7_3) rfl) ?_
  show own_G p e below Φ s₁ (mkF m 4 #[.val (.ref xa), .val (.int (0 : Int32)), .val (.int (2 : Int32)), .val (.long x), .second] [(.int (2 : Int32)), (.int (0 : Int32)), (.int (64 : Int32))])
  obtain ⟨_, _, ⟨T2, zL2, zk2, zn2⟩, -, X2, ⟨Lc2, hQ2, zl2, zy2, zz2⟩, st2⟩ := Jvm.LawKit.callS X0 hx (y := (⟨"java/util/Arrays", "rangeCheck", "(III)V"⟩ : MethodName)) hown (mvT hZ (wd_47 hw)) (mvT hZ (wd_48 hw)) (mvT hZ (wd_45 hw)) (mvT hZ (wd_49 hw)) (by decide) (backOf (W := 0) (rmR2 l Z a0 hw []  h0 n0 Z0 ) hZ (wd_49 hw) (wd_45 hw) (by decide) (by decide)) (g := (mkF m 4 #[.val (.ref xa), .val (.int (0 : Int32)), .val (.int (2 : Int32)), .val (.long x), .second] [(.int (2 : Int32)), (.int (0 : Int32)), (.int (64 : Int32))])) rfl (by rw [hml]; rfl) (argsL := [(.int (64 : Int32)), (.int (0 : Int32)), (.int (2 : Int32))]) (rest := []) (lenOf pd_0 rfl) rfl (by show 2 * 0 + _ ≤ _; exact Nat.le_of_eq rfl) (hb hby d7_4) (fun _ _ => ⟨rfl, e0, (by decide : 0 + 0 ≤ _), (by decide : 0 + 0 ≤ _)⟩)
  dsimp only [Pt.U, Pt.locs, Pt.cells, Pt.slots] at X2 zl2 zy2 zz2 st2 hQ2
  subst zl2 zy2 zz2
  obtain ⟨rfl, N2q, hs2⟩ := hQ2
  have N2 := Fr.app N0 N2q
  refine own_go st2 ?_
  refine own_go (fun _ => XS.aloadN X2.here hx rfl (hb hby d7_7) rfl rfl) ?_
  refine own_go (fun _ => XS.iloadN X2.here hx rfl (hb hby d7_8) rfl) ?_
  show own_G p e below Φ T2 (mkF m 9 #[.val (.ref xa), .val (.int (0 : Int32)), .val (.int (2 : Int32)), .val (.long x), .second] [(.int (0 : Int32)), (.ref xa)])
  refine own_go (fun _ => XS.iloadN X2.here hx rfl (hb hby d7_9) rfl) ?_
  refine own_go (fun _ => XS.lloadN X2.here hx rfl (hb hby d7_10) rfl) ?_
  show own_G p e below Φ T2 (mkF m 11 #[.val (.ref xa), .val (.int (0 : Int32)), .val (.int (2 : Int32)), .val (.long x), .second] [(.long x), (.int (2 : Int32)), (.int (0 : Int32)), (.ref xa)])
  obtain ⟨_, _, ⟨T3, zL3, zk3, zn3⟩, -, X3, ⟨Lc3, hQ3, zl3, zy3, zz3⟩, st3⟩ := Jvm.LawKit.callS X2 hx (y := (⟨"java/util/Arrays", "binarySearch0", "([JIIJ)I"⟩ : MethodName)) hown (mvT hZ (wd_50 hw)) (mvT hZ (wd_51 hw)) (mvT hZ (wd_45 hw)) (mvT hZ (wd_52 hw)) (by decide) (backOf (W := 0) (rmB0_2fnd1 l Z a0 hw [] xa kk x k0 k1 h0 n0 Z0 V_xa r0 r1) hZ (wd_52 hw) (wd_45 hw) (by decide) (by decide)) (g := (mkF m 11 #[.val (.ref xa), .val (.int (0 : Int32)), .val (.int (2 : Int32)), .val (.long x), .second] [(.long x), (.int (2 : Int32)), (.int (0 : Int32)), (.ref xa)])) rfl (by rw [hml]; rfl) (argsL := [(.ref xa), (.int (0 : Int32)), (.int (2 : Int32)), (.long x)]) (rest := []) (lenOf pd_1 rfl) rfl (by show 2 * 0 + _ ≤ _; exact Nat.le_of_eq rfl) (hb hby d7_11) (fun _ _ => ⟨rfl, hs2, (by decide : 0 + 0 ≤ _), (by decide : 0 + 0 ≤ _)⟩)
  dsimp only [Pt.U, Pt.locs, Pt.cells, Pt.slots] at X3 zl3 zy3 zz3 st3 hQ3
  subst zl3 zy3 zz3
  obtain ⟨rfl, N3q, hs3⟩ := hQ3
  have N3 := Fr.app N2 N3q
  refine own_go st3 ?_
  show own_G p e below Φ T3 (mkF m 14 #[.val (.ref xa), .val (.int (0 : Int32)), .val (.int (2 : Int32)), .val (.long x), .second] [(.int (1 : Int32))])
  rw [hΦ]
  refine own_ret X3 (v := some (.int (1 : Int32))) (fun h => by rw [Bd.returns] at h; cases h) (BodyLoose.notSynchronized Bd) (fun fs hr => retOut X3 hx Bd.returns rfl (Or.inl ⟨rfl, Or.inl rfl, _, rfl⟩) (hb hby d7_14) hr) ?_ (by decide) (by decide)
  rw [hs3]
  exact ⟨rfl, N3, rfl⟩
theorem ef_rmS_2fnd1 (m : MethodId) (a1 : Addr) (q1 : Int64) : entryFrame m #[(.ref a1), (.long q1)] 3 = mkF m 0 #[.val (.ref a1), .val (.long q1), .second] [] := by first | (simp [entryFrame, mkF, argsToLocals, Value.category]; done) | rfl
def Q_rmS_2fnd1 (Z : State) (a1 : Addr) (q1 : Int64) (hf : Int32) (xa : Addr) (kk : ClassId) (k0 : Int64) (k1 : Int64) (h0 : Heap) (n0 : Nat) (v : Option Value) (h : Heap) (L : List Loc) : Prop := v = some (.int (1 : Int32)) ∧ Fr n0 L ∧ h = h0
set_option maxRecDepth 65536 in
set_option maxHeartbeats 40000000 in
theorem rmS_2fnd1 (l : Launch) (Z : State) (a0 : Array Value) (hw : ∀ d ∈ tables_1, d.before a0 Z = true) (ws : List Jvm.Cond) (a1 : Addr) (q1 : Int64) (hf : Int32) (xa : Addr) (kk : ClassId) (k0 : Int64) (k1 : Int64) (h0 : Heap) (n0 : Nat) (Z0 : n0 ≤ h0.size) (E_a1 : Exa Z h0 a1 "corro/core/LimitLevels") (F_keys_a1 : Fld Z h0 a1 "corro/core/LimitLevels" "keys" "[J" (.ref xa)) (F_size_a1 : Fld Z h0 a1 "corro/core/LimitLevels" "size" "I" (.int (2 : Int32))) (F_highestFirst_a1 : Fld Z h0 a1 "corro/core/LimitLevels" "highestFirst" "Z" (.int hf)) (V_xa : Arv Z h0 xa kk .long (64 : Int32) [(.long k0), (.long k1)] (.long (0 : Int64))) (r0 : k0 < (own_key hf q1)) (r1 : k1 = (own_key hf q1)) :
    MetFree l (⟨"corro/core/LimitLevels", "search", "(J)I"⟩ : MethodName) (head1 (Jvm.Cond.code (⟨"corro/core/LimitLevels", "search", "(J)I"⟩ : MethodName) prog_14_method_10_code 3 (some .int) :: ws) ({ frames := 2, cells := 0, slots := 0, locals := 37 } : Room)) (fun a U => a = #[(.ref a1), (.long q1)] ∧ Z.Warmed39 U.vm ∧ U.heap = h0) (fun _ _ _ _ _ => True) (fun _ U o U' => ∃ v L, o = .returned v ∧ Q_rmS_2fnd1 Z a1 q1 hf xa kk k0 k1 h0 n0 v U'.heap L ∧ FrameEnd U o U' L ({ frames := 2, cells := 0, slots := 0, locals := 37 } : Room).cells ({ frames := 2, cells := 0, slots := 0, locals := 37 } : Room).slots) := by
  refine MetFree.of_bodySF (plainFor_of_name pn_1) hisR ?_
  intro p e s m args below meth c s₁ Bd hml0 hP hK
  obtain ⟨rfl, hZ, hh⟩ := hP
  have hx := Bd.exec
  have hby := Bd.bytes
  have hml : c.maxLocals = 3 := hml0
  have hown : s.vm.findClass "corro/core/LimitLevels" = some m.cls := findClass_of_methodNamed Bd.named
  have hnm := (name_of_methodNamed Bd.named Bd.method).1
  have X0 : Stand p l e ({ frames := 2, cells := 0, slots := 0, locals := 37 } : Room) s m #[(.ref a1), (.long q1)] below meth c s₁ [] 0 0 := Stand.of_body Bd
  have e0 : s₁.heap = h0 := by rw [← hh, Bd.state]; rfl
  have N0 := Fr.nil n0
  suffices G0 : own_G p e below (own_E s below (Q_rmS_2fnd1 Z a1 q1 hf xa kk k0 k1 h0 n0) ({ frames := 2, cells := 0, slots := 0, locals := 37 } : Room).cells ({ frames := 2, cells := 0, slots := 0, locals := 37 } : Room).slots) s₁ (mkF m 0 #[.val (.ref a1), .val (.long q1), .second] []) by
    obtain ⟨zt, zst, zo, zq1, zq2, zq3⟩ := G0
    exact ⟨zt, zo, castTop (ef_rmS_2fnd1 m a1 q1) zst, zq1, zq2, zq3⟩
  obtain ⟨Φ, hΦ⟩ : ∃ Φ, Φ = own_E s below (Q_rmS_2fnd1 Z a1 q1 hf xa kk k0 k1 h0 n0) ({ frames := 2, cells := 0, slots := 0, locals := 37 } : Room).cells ({ frames := 2, cells := 0, slots := 0, locals := 37 } : Room).slots := ⟨_, rfl⟩
  rw [← hΦ]
  show own_G p e below Φ s₁ (mkF m 0 #[.val (.ref a1), .val (.long q1), .second] [])
  refine own_go (fun _ => XS.aloadN X0.here hx rfl (hb hby d5_0) rfl rfl) ?_
  show own_G p e below Φ s₁ (mkF m 1 #[.val (.ref a1), .val (.long q1), .second] [(.ref a1)])
  obtain ⟨T1, X1, e1, st1⟩ := getF X0 hx hZ hown (host := "") (Or.inl (wd_18 hw)) Via.refl e0 F_keys_a1 (g := (mkF m 1 #[.val (.ref a1), .val (.long q1), .second] [(.ref a1)])) rfl rfl (hb hby d5_1)
  refine own_go st1 ?_
  refine own_go (fun _ => XS.iconst X1.here hx rfl (hb hby d5_4)) ?_
  refine own_go (fun _ => XS.aloadN X1.here hx rfl (hb hby d5_5) rfl rfl) ?_
  show own_G p e below Φ T1 (mkF m 6 #[.val (.ref a1), .val (.long q1), .second] [(.ref a1), (.int (0 : Int32)), (.ref xa)])
  obtain ⟨T2, X2, e2, st2⟩ := getF X1 hx hZ hown (host := "") (Or.inl (wd_37 hw)) Via.refl e1 F_size_a1 (g := (mkF m 6 #[.val (.ref a1), .val (.long q1), .second] [(.ref a1), (.int (0 : Int32)), (.ref xa)])) rfl rfl (hb hby d5_6)
  refine own_go st2 ?_
  refine own_go (fun _ => XS.aloadN X2.here hx rfl (hb hby d5_9) rfl rfl) ?_
  refine own_go (fun _ => XS.lloadN X2.here hx rfl (hb hby d5_10) rfl) ?_
  show own_G p e below Φ T2 (mkF m 11 #[.val (.ref a1), .val (.long q1), .second] [(.long q1), (.ref a1), (.int (2 : Int32)), (.int (0 : Int32)), (.ref xa)])
  obtain ⟨cq3, zc3, zc3z⟩ := E_a1.cell
  obtain ⟨_, _, ⟨T3, zL3, zk3, zn3⟩, -, X3, ⟨Lc3, hQ3, zl3, zy3, zz3⟩, st3⟩ := X2.privateBack hx (y := (⟨"corro/core/LimitLevels", "key", "(J)J"⟩ : MethodName)) hown (mvT hZ (wd_39 hw)) (mvT hZ (wd_40 hw)) (own_selp (x := (⟨"corro/core/LimitLevels", "getOrAdd", "(J)Lcorro/core/Level;"⟩ : MethodName)) rfl (mvT hZ (wd_30 hw)) (notFace_of_selects (args := #[]) (mvT hZ (wd_31 hw))) (Cond.privateMethod_at (mvP hZ (wd_41 hw) (args := #[]))) (mvT hZ (wd_40 hw)) (by decide)) (Cond.privateMethod_at (mvP hZ (wd_41 hw) (args := #[]))) (mvT hZ (wd_42 hw)) (by decide) (backOf (W := 3) (rmK l Z a0 hw [] a1 q1 hf h0 n0 Z0 F_highestFirst_a1) hZ (wd_42 hw) (wd_7 hw) (by decide) (by decide)) (g := (mkF m 11 #[.val (.ref a1), .val (.long q1), .second] [(.long q1), (.ref a1), (.int (2 : Int32)), (.int (0 : Int32)), (.ref xa)])) rfl (by rw [hml]; rfl) (Steps.refl _) (a := a1) (by rw [e2]; exact zc3) zc3z (argsL := [(.long q1)]) (rest := [(.int (2 : Int32)), (.int (0 : Int32)), (.ref xa)]) (lenOf pd_2 rfl) rfl (by show 2 * 0 + _ ≤ _; exact Nat.le_of_eq rfl) (hb hby d5_11) (fun _ _ => ⟨rfl, e2, (by decide : 0 + 0 ≤ _), (by decide : 0 + 0 ≤ _)⟩)
  dsimp only [Pt.U, Pt.locs, Pt.cells, Pt.slots] at X3 zl3 zy3 zz3 st3 hQ3
  subst zl3 zy3 zz3
  obtain ⟨rfl, N3q, hs3⟩ := hQ3
  have N3 := Fr.app N0 N3q
  refine own_on st3 ?_
  show own_G p e below Φ T3 (mkF m 14 #[.val (.ref a1), .val (.long q1), .second] [(.long (own_key hf q1)), (.int (2 : Int32)), (.int (0 : Int32)), (.ref xa)])
  obtain ⟨_, _, ⟨T4, zL4, zk4, zn4⟩, -, X4, ⟨Lc4, hQ4, zl4, zy4, zz4⟩, st4⟩ := Jvm.LawKit.callS X3 hx (y := (⟨"java/util/Arrays", "binarySearch", "([JIIJ)I"⟩ : MethodName)) hown (mvT hZ (wd_43 hw)) (mvT hZ (wd_44 hw)) (mvT hZ (wd_45 hw)) (mvT hZ (wd_46 hw)) (by decide) (backOf (W := 0) (rmB1_2fnd1 l Z a0 hw [] xa kk (own_key hf q1) k0 k1 h0 n0 Z0 V_xa r0 r1) hZ (wd_46 hw) (wd_45 hw) (by decide) (by decide)) (g := (mkF m 14 #[.val (.ref a1), .val (.long q1), .second] [(.long (own_key hf q1)), (.int (2 : Int32)), (.int (0 : Int32)), (.ref xa)])) rfl (by rw [hml]; rfl) (argsL := [(.ref xa), (.int (0 : Int32)), (.int (2 : Int32)), (.long (own_key hf q1))]) (rest := []) (lenOf pd_1 rfl) rfl (by show 2 * 0 + _ ≤ _; exact Nat.le_of_eq rfl) (hb hby d5_14) (fun _ _ => ⟨rfl, hs3, (by decide : 0 + 0 ≤ _), (by decide : 0 + 0 ≤ _)⟩)
  dsimp only [Pt.U, Pt.locs, Pt.cells, Pt.slots] at X4 zl4 zy4 zz4 st4 hQ4
  subst zl4 zy4 zz4
  obtain ⟨rfl, N4q, hs4⟩ := hQ4
  have N4 := Fr.app N3 N4q
  refine own_go st4 ?_
  show own_G p e below Φ T4 (mkF m 17 #[.val (.ref a1), .val (.long q1), .second] [(.int (1 : Int32))])
  rw [hΦ]
  refine own_ret X4 (v := some (.int (1 : Int32))) (fun h => by rw [Bd.returns] at h; cases h) (BodyLoose.notSynchronized Bd) (fun fs hr => retOut X4 hx Bd.returns rfl (Or.inl ⟨rfl, Or.inl rfl, _, rfl⟩) (hb hby d5_17) hr) ?_ (by decide) (by decide)
  rw [hs4]
  exact ⟨rfl, N4, rfl⟩
theorem ef_rmB0_2ins2 (m : MethodId) (xa : Addr) (x : Int64) : entryFrame m #[(.ref xa), (.int (0 : Int32)), (.int (2 : Int32)), (.long x)] 10 = mkF m 0 #[.val (.ref xa), .val (.int (0 : Int32)), .val (.int (2 : Int32)), .val (.long x), .second, .unset, .unset, .unset, .unset, .unset] [] := by first | (simp [entryFrame, mkF, argsToLocals, Value.category]; done) | rfl
def Q_rmB0_2ins2 (Z : State) (xa : Addr) (kk : ClassId) (x : Int64) (k0 : Int64) (k1 : Int64) (h0 : Heap) (n0 : Nat) (v : Option Value) (h : Heap) (L : List Loc) : Prop := v = some (.int (-3 : Int32)) ∧ Fr n0 L ∧ h = h0
set_option maxRecDepth 65536 in
set_option maxHeartbeats 40000000 in
theorem rmB0_2ins2 (l : Launch) (Z : State) (a0 : Array Value) (hw : ∀ d ∈ tables_1, d.before a0 Z = true) (ws : List Jvm.Cond) (xa : Addr) (kk : ClassId) (x : Int64) (k0 : Int64) (k1 : Int64) (h0 : Heap) (n0 : Nat) (Z0 : n0 ≤ h0.size) (V_xa : Arv Z h0 xa kk .long (64 : Int32) [(.long k0), (.long k1)] (.long (0 : Int64))) (r0 : k0 < x) (r1 : k1 < x) :
    MetFree l (⟨"java/util/Arrays", "binarySearch0", "([JIIJ)I"⟩ : MethodName) (head1 (Jvm.Cond.code (⟨"java/util/Arrays", "binarySearch0", "([JIIJ)I"⟩ : MethodName) jdk_65_method_56_code 10 (some .int) :: ws) ({ frames := 0, cells := 0, slots := 0, locals := 0 } : Room)) (fun a U => a = #[(.ref xa), (.int (0 : Int32)), (.int (2 : Int32)), (.long x)] ∧ Z.Warmed39 U.vm ∧ U.heap = h0) (fun _ _ _ _ _ => True) (fun _ U o U' => ∃ v L, o = .returned v ∧ Q_rmB0_2ins2 Z xa kk x k0 k1 h0 n0 v U'.heap L ∧ FrameEnd U o U' L ({ frames := 0, cells := 0, slots := 0, locals := 0 } : Room).cells ({ frames := 0, cells := 0, slots := 0, locals := 0 } : Room).slots) := by
  refine MetFree.of_bodySF (plainFor_of_name pn_3) hisR ?_
  intro p e s m args below meth c s₁ Bd hml0 hP hK
  obtain ⟨rfl, hZ, hh⟩ := hP
  have hx := Bd.exec
  have hby := Bd.bytes
  have hml : c.maxLocals = 10 := hml0
  have hown : s.vm.findClass "java/util/Arrays" = some m.cls := findClass_of_methodNamed Bd.named
  have hnm := (name_of_methodNamed Bd.named Bd.method).1
  have X0 : Stand p l e ({ frames := 0, cells := 0, slots := 0, locals := 0 } : Room) s m #[(.ref xa), (.int (0 : Int32)), (.int (2 : Int32)), (.long x)] below meth c s₁ [] 0 0 := Stand.of_body Bd
  have e0 : s₁.heap = h0 := by rw [← hh, Bd.state]; rfl
  have N0 := Fr.nil n0
  suffices G0 : own_G p e below (own_E s below (Q_rmB0_2ins2 Z xa kk x k0 k1 h0 n0) ({ frames := 0, cells := 0, slots := 0, locals := 0 } : Room).cells ({ frames := 0, cells := 0, slots := 0, locals := 0 } : Room).slots) s₁ (mkF m 0 #[.val (.ref xa), .val (.int (0 : Int32)), .val (.int (2 : Int32)), .val (.long x), .second, .unset, .unset, .unset, .unset, .unset] []) by
    obtain ⟨zt, zst, zo, zq1, zq2, zq3⟩ := G0
    exact ⟨zt, zo, castTop (ef_rmB0_2ins2 m xa x) zst, zq1, zq2, zq3⟩
  obtain ⟨Φ, hΦ⟩ : ∃ Φ, Φ = own_E s below (Q_rmB0_2ins2 Z xa kk x k0 k1 h0 n0) ({ frames := 0, cells := 0, slots := 0, locals := 0 } : Room).cells ({ frames := 0, cells := 0, slots := 0, locals := 0 } : Room).slots := ⟨_, rfl⟩
  rw [← hΦ]
  show own_G p e below Φ s₁ (mkF m 0 #[.val (.ref xa), .val (.int (0 : Int32)), .val (.int (2 : Int32)), .val (.long x), .second, .unset, .unset, .unset, .unset, .unset] [])
  refine own_go (fun _ => XS.iloadN X0.here hx rfl (hb hby d9_0) rfl) ?_
  refine own_go (fun _ => XS.istore X0.here hx rfl (hb hby d9_1) rfl (l' := #[.val (.ref xa), .val (.int (0 : Int32)), .val (.int (2 : Int32)), .val (.long x), .second, .val (.int (0 : Int32)), .unset, .unset, .unset, .unset]) rfl) ?_
  refine own_go (fun _ => XS.iloadN X0.here hx rfl (hb hby d9_3) rfl) ?_
  show own_G p e below Φ s₁ (mkF m 4 #[.val (.ref xa), .val (.int (0 : Int32)), .val (.int (2 : Int32)), .val (.long x), .second, .val (.int (0 : Int32)), .unset, .unset, .unset, .unset] [(.int (2 : Int32))])
  refine own_go (fun _ => XS.iconst X0.here hx rfl (hb hby d9_4)) ?_
  show own_G p e below Φ s₁ (mkF m 5 #[.val (.ref xa), .val (.int (0 : Int32)), .val (.int (2 : Int32)), .val (.long x), .second, .val (.int (0 : Int32)), .unset, .unset, .unset, .unset] [(.int (1 : Int32)), (.int (2 : Int32))])
  refine own_go (fun _ => XS.isub X0.here hx rfl (hb hby d9_5) rfl) ?_
  refine own_go (fun _ => XS.istore X0.here hx rfl (hb hby d9_6) rfl (l' := #[.val (.ref xa), .val (.int (0 : Int32)), .val (.int (2 : Int32)), .val (.long x), .second, .val (.int (0 : Int32)), .val (.int (1 : Int32)), .unset, .unset, .unset]) rfl) ?_
  refine own_go (fun _ => XS.iload X0.here hx rfl (hb hby d9_8) rfl) ?_
  show own_G p e below Φ s₁ (mkF m 10 #[.val (.ref xa), .val (.int (0 : Int32)), .val (.int (2 : Int32)), .val (.long x), .second, .val (.int (0 : Int32)), .val (.int (1 : Int32)), .unset, .unset, .unset] [(.int (0 : Int32))])
  refine own_go (fun _ => XS.iload X0.here hx rfl (hb hby d9_10) rfl) ?_
  show own_G p e below Φ s₁ (mkF m 12 #[.val (.ref xa), .val (.int (0 : Int32)), .val (.int (2 : Int32)), .val (.long x), .second, .val (.int (0 : Int32)), .val (.int (1 : Int32)), .unset, .unset, .unset] [(.int (1 : Int32)), (.int (0 : Int32))])
  refine own_go (fun _ => XS.icmpNo X0.here hx rfl (hb hby d9_12) rfl (Jvm.Free.XT.ii_gt_f (by decide : ¬ ((1 : Int32) < (0 : Int32))))) ?_
  refine own_go (fun _ => XS.iload X0.here hx rfl (hb hby d9_15) rfl) ?_
  refine own_go (fun _ => XS.iload X0.here hx rfl (hb hby d9_17) rfl) ?_
  show own_G p e below Φ s₁ (mkF m 19 #[.val (.ref xa), .val (.int (0 : Int32)), .val (.int (2 : Int32)), .val (.long x), .second, .val (.int (0 : Int32)), .val (.int (1 : Int32)), .unset, .unset, .unset] [(.int (1 : Int32)), (.int (0 : Int32))])
  refine own_go (fun _ => XS.iadd X0.here hx rfl (hb hby d9_19) rfl) ?_
  refine own_go (fun _ => XS.iconst X0.here hx rfl (hb hby d9_20)) ?_
  show own_G p e below Φ s₁ (mkF m 21 #[.val (.ref xa), .val (.int (0 : Int32)), .val (.int (2 : Int32)), .val (.long x), .second, .val (.int (0 : Int32)), .val (.int (1 : Int32)), .unset, .unset, .unset] [(.int (1 : Int32)), (.int (1 : Int32))])
  refine own_go (fun _ => XS.iushr X0.here hx rfl (hb hby d9_21) rfl) ?_
  refine own_go (fun _ => XS.istore X0.here hx rfl (hb hby d9_22) rfl (l' := #[.val (.ref xa), .val (.int (0 : Int32)), .val (.int (2 : Int32)), .val (.long x), .second, .val (.int (0 : Int32)), .val (.int (1 : Int32)), .val (.int (0 : Int32)), .unset, .unset]) rfl) ?_
  refine own_go (fun _ => XS.aloadN X0.here hx rfl (hb hby d9_24) rfl rfl) ?_
  show own_G p e below Φ s₁ (mkF m 25 #[.val (.ref xa), .val (.int (0 : Int32)), .val (.int (2 : Int32)), .val (.long x), .second, .val (.int (0 : Int32)), .val (.int (1 : Int32)), .val (.int (0 : Int32)), .unset, .unset] [(.ref xa)])
  refine own_go (fun _ => XS.iload X0.here hx rfl (hb hby d9_25) rfl) ?_
  show own_G p e below Φ s₁ (mkF m 27 #[.val (.ref xa), .val (.int (0 : Int32)), .val (.int (2 : Int32)), .val (.long x), .second, .val (.int (0 : Int32)), .val (.int (1 : Int32)), .val (.int (0 : Int32)), .unset, .unset] [(.int (0 : Int32)), (.ref xa)])
  obtain ⟨cl1, Ar1, zq1, S1, M1, H1, G1⟩ := id V_xa
  have hin1 : ¬ ((0 : Int32) < 0 ∨ cl1.slots.size ≤ ((0 : Int32)).toNatClampNeg) := inb_of S1 ⟨by decide, by decide⟩
  refine own_go (fun _ => X0.laload hx (j := (0 : Int32)) (v := (.long k0)) (by rw [e0]; exact Ar1.1) (State.isArrayOf_alike hZ.alike Ar1.2.1) Ar1.2.2 hin1 (H1.at hin1 rfl) (g := (mkF m 27 #[.val (.ref xa), .val (.int (0 : Int32)), .val (.int (2 : Int32)), .val (.long x), .second, .val (.int (0 : Int32)), .val (.int (1 : Int32)), .val (.int (0 : Int32)), .unset, .unset] [(.int (0 : Int32)), (.ref xa)])) rfl rfl (hb hby d9_27) _) ?_
  refine own_go (fun _ => XS.lstore X0.here hx rfl (hb hby d9_28) rfl (l' := #[.val (.ref xa), .val (.int (0 : Int32)), .val (.int (2 : Int32)), .val (.long x), .second, .val (.int (0 : Int32)), .val (.int (1 : Int32)), .val (.int (0 : Int32)), .val (.long k0), .second]) rfl) ?_
  refine own_go (fun _ => XS.lload X0.here hx rfl (hb hby d9_30) rfl) ?_
  show own_G p e below Φ s₁ (mkF m 32 #[.val (.ref xa), .val (.int (0 : Int32)), .val (.int (2 : Int32)), .val (.long x), .second, .val (.int (0 : Int32)), .val (.int (1 : Int32)), .val (.int (0 : Int32)), .val (.long k0), .second] [(.long k0)])
  refine own_go (fun _ => XS.lloadN X0.here hx rfl (hb hby d9_32) rfl) ?_
  show own_G p e below Φ s₁ (mkF m 33 #[.val (.ref xa), .val (.int (0 : Int32)), .val (.int (2 : Int32)), .val (.long x), .second, .val (.int (0 : Int32)), .val (.int (1 : Int32)), .val (.int (0 : Int32)), .val (.long k0), .second] [(.long x), (.long k0)])
  refine own_go (fun _ => XS.lcmp X0.here hx rfl (hb hby d9_33) rfl) ?_
  show own_G p e below Φ s₁ (mkF m 34 #[.val (.ref xa), .val (.int (0 : Int32)), .val (.int (2 : Int32)), .val (.long x), .second, .val (.int (0 : Int32)), .val (.int (1 : Int32)), .val (.int (0 : Int32)), .val (.long k0), .second] [(.int (lcmpW k0 x))])
  refine own_go (fun _ => XS.ifNo X0.here hx rfl (hb hby d9_34) rfl (Jvm.Free.XT.ll_ge_f r0)) ?_
  refine own_go (fun _ => XS.iload X0.here hx rfl (hb hby d9_37) rfl) ?_
  refine own_go (fun _ => XS.iconst X0.here hx rfl (hb hby d9_39)) ?_
  show own_G p e below Φ s₁ (mkF m 40 #[.val (.ref xa), .val (.int (0 : Int32)), .val (.int (2 : Int32)), .val (.long x), .second, .val (.int (0 : Int32)), .val (.int (1 : Int32)), .val (.int (0 : Int32)), .val (.long k0), .second] [(.int (1 : Int32)), (.int (0 : Int32))])
  refine own_go (fun _ => XS.iadd X0.here hx rfl (hb hby d9_40) rfl) ?_
  refine own_go (fun _ => XS.istore X0.here hx rfl (hb hby d9_41) rfl (l' := #[.val (.ref xa), .val (.int (0 : Int32)), .val (.int (2 : Int32)), .val (.long x), .second, .val (.int (1 : Int32)), .val (.int (1 : Int32)), .val (.int (0 : Int32)), .val (.long k0), .second]) rfl) ?_
  refine own_go (fun _ => XS.goto X0.here hx rfl (pc0 := 43) (pc' := 65) rfl (hb hby d9_43) (by decide) (by decide)) ?_
  show own_G p e below Φ s₁ (mkF m 65 #[.val (.ref xa), .val (.int (0 : Int32)), .val (.int (2 : Int32)), .val (.long x), .second, .val (.int (1 : Int32)), .val (.int (1 : Int32)), .val (.int (0 : Int32)), .val (.long k0), .second] [])
  refine own_go (fun _ => XS.goto X0.here hx rfl (pc0 := 65) (pc' := 8) rfl (hb hby d9_65) (by decide) (by decide)) ?_
  refine own_go (fun _ => XS.iload X0.here hx rfl (hb hby d9_8) rfl) ?_
  refine own_go (fun _ => XS.iload X0.here hx rfl (hb hby d9_10) rfl) ?_
  show own_G p e below Φ s₁ (mkF m 12 #[.val (.ref xa), .val (.int (0 : Int32)), .val (.int (2 : Int32)), .val (.long x), .second, .val (.int (1 : Int32)), .val (.int (1 : Int32)), .val (.int (0 : Int32)), .val (.long k0), .second] [(.int (1 : Int32)), (.int (1 : Int32))])
  refine own_go (fun _ => XS.icmpNo X0.here hx rfl (hb hby d9_12) rfl (Jvm.Free.XT.ii_gt_f (by decide : ¬ ((1 : Int32) < (1 : Int32))))) ?_
  refine own_go (fun _ => XS.iload X0.here hx rfl (hb hby d9_15) rfl) ?_
  refine own_go (fun _ => XS.iload X0.here hx rfl (hb hby d9_17) rfl) ?_
  show own_G p e below Φ s₁ (mkF m 19 #[.val (.ref xa), .val (.int (0 : Int32)), .val (.int (2 : Int32)), .val (.long x), .second, .val (.int (1 : Int32)), .val (.int (1 : Int32)), .val (.int (0 : Int32)), .val (.long k0), .second] [(.int (1 : Int32)), (.int (1 : Int32))])
  refine own_go (fun _ => XS.iadd X0.here hx rfl (hb hby d9_19) rfl) ?_
  refine own_go (fun _ => XS.iconst X0.here hx rfl (hb hby d9_20)) ?_
  show own_G p e below Φ s₁ (mkF m 21 #[.val (.ref xa), .val (.int (0 : Int32)), .val (.int (2 : Int32)), .val (.long x), .second, .val (.int (1 : Int32)), .val (.int (1 : Int32)), .val (.int (0 : Int32)), .val (.long k0), .second] [(.int (1 : Int32)), (.int (2 : Int32))])
  refine own_go (fun _ => XS.iushr X0.here hx rfl (hb hby d9_21) rfl) ?_
  refine own_go (fun _ => XS.istore X0.here hx rfl (hb hby d9_22) rfl (l' := #[.val (.ref xa), .val (.int (0 : Int32)), .val (.int (2 : Int32)), .val (.long x), .second, .val (.int (1 : Int32)), .val (.int (1 : Int32)), .val (.int (1 : Int32)), .val (.long k0), .second]) rfl) ?_
  refine own_go (fun _ => XS.aloadN X0.here hx rfl (hb hby d9_24) rfl rfl) ?_
  show own_G p e below Φ s₁ (mkF m 25 #[.val (.ref xa), .val (.int (0 : Int32)), .val (.int (2 : Int32)), .val (.long x), .second, .val (.int (1 : Int32)), .val (.int (1 : Int32)), .val (.int (1 : Int32)), .val (.long k0), .second] [(.ref xa)])
  refine own_go (fun _ => XS.iload X0.here hx rfl (hb hby d9_25) rfl) ?_
  show own_G p e below Φ s₁ (mkF m 27 #[.val (.ref xa), .val (.int (0 : Int32)), .val (.int (2 : Int32)), .val (.long x), .second, .val (.int (1 : Int32)), .val (.int (1 : Int32)), .val (.int (1 : Int32)), .val (.long k0), .second] [(.int (1 : Int32)), (.ref xa)])
  obtain ⟨cl2, Ar2, zq2, S2, M2, H2, G2⟩ := id V_xa
  have hin2 : ¬ ((1 : Int32) < 0 ∨ cl2.slots.size ≤ ((1 : Int32)).toNatClampNeg) := inb_of S2 ⟨by decide, by decide⟩
  refine own_go (fun _ => X0.laload hx (j := (1 : Int32)) (v := (.long k1)) (by rw [e0]; exact Ar2.1) (State.isArrayOf_alike hZ.alike Ar2.2.1) Ar2.2.2 hin2 (H2.at hin2 rfl) (g := (mkF m 27 #[.val (.ref xa), .val (.int (0 : Int32)), .val (.int (2 : Int32)), .val (.long x), .second, .val (.int (1 : Int32)), .val (.int (1 : Int32)), .val (.int (1 : Int32)), .val (.long k0), .second] [(.int (1 : Int32)), (.ref xa)])) rfl rfl (hb hby d9_27) _) ?_
  refine own_go (fun _ => XS.lstore X0.here hx rfl (hb hby d9_28) rfl (l' := #[.val (.ref xa), .val (.int (0 : Int32)), .val (.int (2 : Int32)), .val (.long x), .second, .val (.int (1 : Int32)), .val (.int (1 : Int32)), .val (.int (1 : Int32)), .val (.long k1), .second]) rfl) ?_
  refine own_go (fun _ => XS.lload X0.here hx rfl (hb hby d9_30) rfl) ?_
  show own_G p e below Φ s₁ (mkF m 32 #[.val (.ref xa), .val (.int (0 : Int32)), .val (.int (2 : Int32)), .val (.long x), .second, .val (.int (1 : Int32)), .val (.int (1 : Int32)), .val (.int (1 : Int32)), .val (.long k1), .second] [(.long k1)])
  refine own_go (fun _ => XS.lloadN X0.here hx rfl (hb hby d9_32) rfl) ?_
  show own_G p e below Φ s₁ (mkF m 33 #[.val (.ref xa), .val (.int (0 : Int32)), .val (.int (2 : Int32)), .val (.long x), .second, .val (.int (1 : Int32)), .val (.int (1 : Int32)), .val (.int (1 : Int32)), .val (.long k1), .second] [(.long x), (.long k1)])
  refine own_go (fun _ => XS.lcmp X0.here hx rfl (hb hby d9_33) rfl) ?_
  show own_G p e below Φ s₁ (mkF m 34 #[.val (.ref xa), .val (.int (0 : Int32)), .val (.int (2 : Int32)), .val (.long x), .second, .val (.int (1 : Int32)), .val (.int (1 : Int32)), .val (.int (1 : Int32)), .val (.long k1), .second] [(.int (lcmpW k1 x))])
  refine own_go (fun _ => XS.ifNo X0.here hx rfl (hb hby d9_34) rfl (Jvm.Free.XT.ll_ge_f r1)) ?_
  refine own_go (fun _ => XS.iload X0.here hx rfl (hb hby d9_37) rfl) ?_
  refine own_go (fun _ => XS.iconst X0.here hx rfl (hb hby d9_39)) ?_
  show own_G p e below Φ s₁ (mkF m 40 #[.val (.ref xa), .val (.int (0 : Int32)), .val (.int (2 : Int32)), .val (.long x), .second, .val (.int (1 : Int32)), .val (.int (1 : Int32)), .val (.int (1 : Int32)), .val (.long k1), .second] [(.int (1 : Int32)), (.int (1 : Int32))])
  refine own_go (fun _ => XS.iadd X0.here hx rfl (hb hby d9_40) rfl) ?_
  refine own_go (fun _ => XS.istore X0.here hx rfl (hb hby d9_41) rfl (l' := #[.val (.ref xa), .val (.int (0 : Int32)), .val (.int (2 : Int32)), .val (.long x), .second, .val (.int (2 : Int32)), .val (.int (1 : Int32)), .val (.int (1 : Int32)), .val (.long k1), .second]) rfl) ?_
  refine own_go (fun _ => XS.goto X0.here hx rfl (pc0 := 43) (pc' := 65) rfl (hb hby d9_43) (by decide) (by decide)) ?_
  show own_G p e below Φ s₁ (mkF m 65 #[.val (.ref xa), .val (.int (0 : Int32)), .val (.int (2 : Int32)), .val (.long x), .second, .val (.int (2 : Int32)), .val (.int (1 : Int32)), .val (.int (1 : Int32)), .val (.long k1), .second] [])
  refine own_go (fun _ => XS.goto X0.here hx rfl (pc0 := 65) (pc' := 8) rfl (hb hby d9_65) (by decide) (by decide)) ?_
  refine own_go (fun _ => XS.iload X0.here hx rfl (hb hby d9_8) rfl) ?_
  refine own_go (fun _ => XS.iload X0.here hx rfl (hb hby d9_10) rfl) ?_
  show own_G p e below Φ s₁ (mkF m 12 #[.val (.ref xa), .val (.int (0 : Int32)), .val (.int (2 : Int32)), .val (.long x), .second, .val (.int (2 : Int32)), .val (.int (1 : Int32)), .val (.int (1 : Int32)), .val (.long k1), .second] [(.int (1 : Int32)), (.int (2 : Int32))])
  refine own_go (fun _ => XS.icmpYes X0.here hx rfl (pc0 := 12) (pc' := 68) rfl (hb hby d9_12) rfl (Jvm.Free.XT.ii_gt_t (by decide : ((1 : Int32) < (2 : Int32)))) (by decide) (by decide)) ?_
  refine own_go (fun _ => XS.iload X0.here hx rfl (hb hby d9_68) rfl) ?_
  refine own_go (fun _ => XS.iconst X0.here hx rfl (hb hby d9_70)) ?_
  show own_G p e below Φ s₁ (mkF m 71 #[.val (.ref xa), .val (.int (0 : Int32)), .val (.int (2 : Int32)), .val (.long x), .second, .val (.int (2 : Int32)), .val (.int (1 : Int32)), .val (.int (1 : Int32)), .val (.long k1), .second] [(.int (1 : Int32)), (.int (2 : Int32))])
  refine own_go (fun _ => XS.iadd X0.here hx rfl (hb hby d9_71) rfl) ?_
  show own_G p e below Φ s₁ (mkF m 72 #[.val (.ref xa), .val (.int (0 : Int32)), .val (.int (2 : Int32)), .val (.long x), .second, .val (.int (2 : Int32)), .val (.int (1 : Int32)), .val (.int (1 : Int32)), .val (.long k1), .second] [(.int (3 : Int32))])
  refine own_go (fun _ => XS.ineg X0.here hx rfl (hb hby d9_72) rfl) ?_
  show own_G p e below Φ s₁ (mkF m 73 #[.val (.ref xa), .val (.int (0 : Int32)), .val (.int (2 : Int32)), .val (.long x), .second, .val (.int (2 : Int32)), .val (.int (1 : Int32)), .val (.int (1 : Int32)), .val (.long k1), .second] [(.int (-3 : Int32))])
  rw [hΦ]
  refine own_ret X0 (v := some (.int (-3 : Int32))) (fun h => by rw [Bd.returns] at h; cases h) (BodyLoose.notSynchronized Bd) (fun fs hr => retOut X0 hx Bd.returns rfl (Or.inl ⟨rfl, Or.inl rfl, _, rfl⟩) (hb hby d9_73) hr) ?_ (by decide) (by decide)
  rw [e0]
  exact ⟨rfl, N0, rfl⟩
theorem ef_rmB1_2ins2 (m : MethodId) (xa : Addr) (x : Int64) : entryFrame m #[(.ref xa), (.int (0 : Int32)), (.int (2 : Int32)), (.long x)] 5 = mkF m 0 #[.val (.ref xa), .val (.int (0 : Int32)), .val (.int (2 : Int32)), .val (.long x), .second] [] := by first | (simp [entryFrame, mkF, argsToLocals, Value.category]; done) | rfl
def Q_rmB1_2ins2 (Z : State) (xa : Addr) (kk : ClassId) (x : Int64) (k0 : Int64) (k1 : Int64) (h0 : Heap) (n0 : Nat) (v : Option Value) (h : Heap) (L : List Loc) : Prop := v = some (.int (-3 : Int32)) ∧ Fr n0 L ∧ h = h0
set_option maxRecDepth 65536 in
set_option maxHeartbeats 40000000 in
theorem rmB1_2ins2 (l : Launch) (Z : State) (a0 : Array Value) (hw : ∀ d ∈ tables_1, d.before a0 Z = true) (ws : List Jvm.Cond) (xa : Addr) (kk : ClassId) (x : Int64) (k0 : Int64) (k1 : Int64) (h0 : Heap) (n0 : Nat) (Z0 : n0 ≤ h0.size) (V_xa : Arv Z h0 xa kk .long (64 : Int32) [(.long k0), (.long k1)] (.long (0 : Int64))) (r0 : k0 < x) (r1 : k1 < x) :
    MetFree l (⟨"java/util/Arrays", "binarySearch", "([JIIJ)I"⟩ : MethodName) (head1 (Jvm.Cond.code (⟨"java/util/Arrays", "binarySearch", "([JIIJ)I"⟩ : MethodName) jdk_65_method_55_code 5 (some .int) :: ws) ({ frames := 1, cells := 0, slots := 0, locals := 21 } : Room)) (fun a U => a = #[(.ref xa), (.int (0 : Int32)), (.int (2 : Int32)), (.long x)] ∧ Z.Warmed39 U.vm ∧ U.heap = h0) (fun _ _ _ _ _ => True) (fun _ U o U' => ∃ v L, o = .returned v ∧ Q_rmB1_2ins2 Z xa kk x k0 k1 h0 n0 v U'.heap L ∧ FrameEnd U o U' L ({ frames := 1, cells := 0, slots := 0, locals := 21 } : Room).cells ({ frames := 1, cells := 0, slots := 0, locals := 21 } : Room).slots) := by
  refine MetFree.of_bodySF (plainFor_of_name pn_3) hisR ?_
  intro p e s m args below meth c s₁ Bd hml0 hP hK
  obtain ⟨rfl, hZ, hh⟩ := hP
  have hx := Bd.exec
  have hby := Bd.bytes
  have hml : c.maxLocals = 5 := hml0
  have hown : s.vm.findClass "java/util/Arrays" = some m.cls := findClass_of_methodNamed Bd.named
  have hnm := (name_of_methodNamed Bd.named Bd.method).1
  have X0 : Stand p l e ({ frames := 1, cells := 0, slots := 0, locals := 21 } : Room) s m #[(.ref xa), (.int (0 : Int32)), (.int (2 : Int32)), (.long x)] below meth c s₁ [] 0 0 := Stand.of_body Bd
  have e0 : s₁.heap = h0 := by rw [← hh, Bd.state]; rfl
  have N0 := Fr.nil n0
  suffices G0 : own_G p e below (own_E s below (Q_rmB1_2ins2 Z xa kk x k0 k1 h0 n0) ({ frames := 1, cells := 0, slots := 0, locals := 21 } : Room).cells ({ frames := 1, cells := 0, slots := 0, locals := 21 } : Room).slots) s₁ (mkF m 0 #[.val (.ref xa), .val (.int (0 : Int32)), .val (.int (2 : Int32)), .val (.long x), .second] []) by
    obtain ⟨zt, zst, zo, zq1, zq2, zq3⟩ := G0
    exact ⟨zt, zo, castTop (ef_rmB1_2ins2 m xa x) zst, zq1, zq2, zq3⟩
  obtain ⟨Φ, hΦ⟩ : ∃ Φ, Φ = own_E s below (Q_rmB1_2ins2 Z xa kk x k0 k1 h0 n0) ({ frames := 1, cells := 0, slots := 0, locals := 21 } : Room).cells ({ frames := 1, cells := 0, slots := 0, locals := 21 } : Room).slots := ⟨_, rfl⟩
  rw [← hΦ]
  show own_G p e below Φ s₁ (mkF m 0 #[.val (.ref xa), .val (.int (0 : Int32)), .val (.int (2 : Int32)), .val (.long x), .second] [])
  refine own_go (fun _ => XS.aloadN X0.here hx rfl (hb hby d7_0) rfl rfl) ?_
  show own_G p e below Φ s₁ (mkF m 1 #[.val (.ref xa), .val (.int (0 : Int32)), .val (.int (2 : Int32)), .val (.long x), .second] [(.ref xa)])
  obtain ⟨cl1, Ar1, zq1, S1, M1, H1, G1⟩ := id V_xa
  refine own_go (fun _ => X0.arraylength hx (by rw [e0]; exact Ar1.1) (State.isArrayOf_alike hZ.alike Ar1.2.1) (g := (mkF m 1 #[.val (.ref xa), .val (.int (0 : Int32)), .val (.int (2 : Int32)), .val (.long x), .second] [(.ref xa)])) rfl rfl (hb hby d7_1) _) ?_
  rw [len_of S1 M1]
  refine own_go (fun _ => XS.iloadN X0.here hx rfl (hb hby d7_2) rfl) ?_
  refine own_go (fun _ => XS.iloadN X0.here hx rfl (hb hby d7_3) rfl) ?_
  show own_G p e below Φ s₁ (mkF m 4 #[.val (.ref xa), .val (.int (0 : Int32)), .val (.int (2 : Int32)), .val (.long x), .second] [(.int (2 : Int32)), (.int (0 : Int32)), (.int (64 : Int32))])
  obtain ⟨_, _, ⟨T2, zL2, zk2, zn2⟩, -, X2, ⟨Lc2, hQ2, zl2, zy2, zz2⟩, st2⟩ := Jvm.LawKit.callS X0 hx (y := (⟨"java/util/Arrays", "rangeCheck", "(III)V"⟩ : MethodName)) hown (mvT hZ (wd_47 hw)) (mvT hZ (wd_48 hw)) (mvT hZ (wd_45 hw)) (mvT hZ (wd_49 hw)) (by decide) (backOf (W := 0) (rmR2 l Z a0 hw []  h0 n0 Z0 ) hZ (wd_49 hw) (wd_45 hw) (by decide) (by decide)) (g := (mkF m 4 #[.val (.ref xa), .val (.int (0 : Int32)), .val (.int (2 : Int32)), .val (.long x), .second] [(.int (2 : Int32)), (.int (0 : Int32)), (.int (64 : Int32))])) rfl (by rw [hml]; rfl) (argsL := [(.int (64 : Int32)), (.int (0 : Int32)), (.int (2 : Int32))]) (rest := []) (lenOf pd_0 rfl) rfl (by show 2 * 0 + _ ≤ _; exact Nat.le_of_eq rfl) (hb hby d7_4) (fun _ _ => ⟨rfl, e0, (by decide : 0 + 0 ≤ _), (by decide : 0 + 0 ≤ _)⟩)
  dsimp only [Pt.U, Pt.locs, Pt.cells, Pt.slots] at X2 zl2 zy2 zz2 st2 hQ2
  subst zl2 zy2 zz2
  obtain ⟨rfl, N2q, hs2⟩ := hQ2
  have N2 := Fr.app N0 N2q
  refine own_go st2 ?_
  refine own_go (fun _ => XS.aloadN X2.here hx rfl (hb hby d7_7) rfl rfl) ?_
  refine own_go (fun _ => XS.iloadN X2.here hx rfl (hb hby d7_8) rfl) ?_
  show own_G p e below Φ T2 (mkF m 9 #[.val (.ref xa), .val (.int (0 : Int32)), .val (.int (2 : Int32)), .val (.long x), .second] [(.int (0 : Int32)), (.ref xa)])
  refine own_go (fun _ => XS.iloadN X2.here hx rfl (hb hby d7_9) rfl) ?_
  refine own_go (fun _ => XS.lloadN X2.here hx rfl (hb hby d7_10) rfl) ?_
  show own_G p e below Φ T2 (mkF m 11 #[.val (.ref xa), .val (.int (0 : Int32)), .val (.int (2 : Int32)), .val (.long x), .second] [(.long x), (.int (2 : Int32)), (.int (0 : Int32)), (.ref xa)])
  obtain ⟨_, _, ⟨T3, zL3, zk3, zn3⟩, -, X3, ⟨Lc3, hQ3, zl3, zy3, zz3⟩, st3⟩ := Jvm.LawKit.callS X2 hx (y := (⟨"java/util/Arrays", "binarySearch0", "([JIIJ)I"⟩ : MethodName)) hown (mvT hZ (wd_50 hw)) (mvT hZ (wd_51 hw)) (mvT hZ (wd_45 hw)) (mvT hZ (wd_52 hw)) (by decide) (backOf (W := 0) (rmB0_2ins2 l Z a0 hw [] xa kk x k0 k1 h0 n0 Z0 V_xa r0 r1) hZ (wd_52 hw) (wd_45 hw) (by decide) (by decide)) (g := (mkF m 11 #[.val (.ref xa), .val (.int (0 : Int32)), .val (.int (2 : Int32)), .val (.long x), .second] [(.long x), (.int (2 : Int32)), (.int (0 : Int32)), (.ref xa)])) rfl (by rw [hml]; rfl) (argsL := [(.ref xa), (.int (0 : Int32)), (.int (2 : Int32)), (.long x)]) (rest := []) (lenOf pd_1 rfl) rfl (by show 2 * 0 + _ ≤ _; exact Nat.le_of_eq rfl) (hb hby d7_11) (fun _ _ => ⟨rfl, hs2, (by decide : 0 + 0 ≤ _), (by decide : 0 + 0 ≤ _)⟩)
  dsimp only [Pt.U, Pt.locs, Pt.cells, Pt.slots] at X3 zl3 zy3 zz3 st3 hQ3
  subst zl3 zy3 zz3
  obtain ⟨rfl, N3q, hs3⟩ := hQ3
  have N3 := Fr.app N2 N3q
  refine own_go st3 ?_
  show own_G p e below Φ T3 (mkF m 14 #[.val (.ref xa), .val (.int (0 : Int32)), .val (.int (2 : Int32)), .val (.long x), .second] [(.int (-3 : Int32))])
  rw [hΦ]
  refine own_ret X3 (v := some (.int (-3 : Int32))) (fun h => by rw [Bd.returns] at h; cases h) (BodyLoose.notSynchronized Bd) (fun fs hr => retOut X3 hx Bd.returns rfl (Or.inl ⟨rfl, Or.inl rfl, _, rfl⟩) (hb hby d7_14) hr) ?_ (by decide) (by decide)
  rw [hs3]
  exact ⟨rfl, N3, rfl⟩
theorem ef_rmS_2ins2 (m : MethodId) (a1 : Addr) (q1 : Int64) : entryFrame m #[(.ref a1), (.long q1)] 3 = mkF m 0 #[.val (.ref a1), .val (.long q1), .second] [] := by first | (simp [entryFrame, mkF, argsToLocals, Value.category]; done) | rfl
def Q_rmS_2ins2 (Z : State) (a1 : Addr) (q1 : Int64) (hf : Int32) (xa : Addr) (kk : ClassId) (k0 : Int64) (k1 : Int64) (h0 : Heap) (n0 : Nat) (v : Option Value) (h : Heap) (L : List Loc) : Prop := v = some (.int (-3 : Int32)) ∧ Fr n0 L ∧ h = h0
set_option maxRecDepth 65536 in
set_option maxHeartbeats 40000000 in
theorem rmS_2ins2 (l : Launch) (Z : State) (a0 : Array Value) (hw : ∀ d ∈ tables_1, d.before a0 Z = true) (ws : List Jvm.Cond) (a1 : Addr) (q1 : Int64) (hf : Int32) (xa : Addr) (kk : ClassId) (k0 : Int64) (k1 : Int64) (h0 : Heap) (n0 : Nat) (Z0 : n0 ≤ h0.size) (E_a1 : Exa Z h0 a1 "corro/core/LimitLevels") (F_keys_a1 : Fld Z h0 a1 "corro/core/LimitLevels" "keys" "[J" (.ref xa)) (F_size_a1 : Fld Z h0 a1 "corro/core/LimitLevels" "size" "I" (.int (2 : Int32))) (F_highestFirst_a1 : Fld Z h0 a1 "corro/core/LimitLevels" "highestFirst" "Z" (.int hf)) (V_xa : Arv Z h0 xa kk .long (64 : Int32) [(.long k0), (.long k1)] (.long (0 : Int64))) (r0 : k0 < (own_key hf q1)) (r1 : k1 < (own_key hf q1)) :
    MetFree l (⟨"corro/core/LimitLevels", "search", "(J)I"⟩ : MethodName) (head1 (Jvm.Cond.code (⟨"corro/core/LimitLevels", "search", "(J)I"⟩ : MethodName) prog_14_method_10_code 3 (some .int) :: ws) ({ frames := 2, cells := 0, slots := 0, locals := 37 } : Room)) (fun a U => a = #[(.ref a1), (.long q1)] ∧ Z.Warmed39 U.vm ∧ U.heap = h0) (fun _ _ _ _ _ => True) (fun _ U o U' => ∃ v L, o = .returned v ∧ Q_rmS_2ins2 Z a1 q1 hf xa kk k0 k1 h0 n0 v U'.heap L ∧ FrameEnd U o U' L ({ frames := 2, cells := 0, slots := 0, locals := 37 } : Room).cells ({ frames := 2, cells := 0, slots := 0, locals := 37 } : Room).slots) := by
  refine MetFree.of_bodySF (plainFor_of_name pn_1) hisR ?_
  intro p e s m args below meth c s₁ Bd hml0 hP hK
  obtain ⟨rfl, hZ, hh⟩ := hP
  have hx := Bd.exec
  have hby := Bd.bytes
  have hml : c.maxLocals = 3 := hml0
  have hown : s.vm.findClass "corro/core/LimitLevels" = some m.cls := findClass_of_methodNamed Bd.named
  have hnm := (name_of_methodNamed Bd.named Bd.method).1
  have X0 : Stand p l e ({ frames := 2, cells := 0, slots := 0, locals := 37 } : Room) s m #[(.ref a1), (.long q1)] below meth c s₁ [] 0 0 := Stand.of_body Bd
  have e0 : s₁.heap = h0 := by rw [← hh, Bd.state]; rfl
  have N0 := Fr.nil n0
  suffices G0 : own_G p e below (own_E s below (Q_rmS_2ins2 Z a1 q1 hf xa kk k0 k1 h0 n0) ({ frames := 2, cells := 0, slots := 0, locals := 37 } : Room).cells ({ frames := 2, cells := 0, slots := 0, locals := 37 } : Room).slots) s₁ (mkF m 0 #[.val (.ref a1), .val (.long q1), .second] []) by
    obtain ⟨zt, zst, zo, zq1, zq2, zq3⟩ := G0
    exact ⟨zt, zo, castTop (ef_rmS_2ins2 m a1 q1) zst, zq1, zq2, zq3⟩
  obtain ⟨Φ, hΦ⟩ : ∃ Φ, Φ = own_E s below (Q_rmS_2ins2 Z a1 q1 hf xa kk k0 k1 h0 n0) ({ frames := 2, cells := 0, slots := 0, locals := 37 } : Room).cells ({ frames := 2, cells := 0, slots := 0, locals := 37 } : Room).slots := ⟨_, rfl⟩
  rw [← hΦ]
  show own_G p e below Φ s₁ (mkF m 0 #[.val (.ref a1), .val (.long q1), .second] [])
  refine own_go (fun _ => XS.aloadN X0.here hx rfl (hb hby d5_0) rfl rfl) ?_
  show own_G p e below Φ s₁ (mkF m 1 #[.val (.ref a1), .val (.long q1), .second] [(.ref a1)])
  obtain ⟨T1, X1, e1, st1⟩ := getF X0 hx hZ hown (host := "") (Or.inl (wd_18 hw)) Via.refl e0 F_keys_a1 (g := (mkF m 1 #[.val (.ref a1), .val (.long q1), .second] [(.ref a1)])) rfl rfl (hb hby d5_1)
  refine own_go st1 ?_
  refine own_go (fun _ => XS.iconst X1.here hx rfl (hb hby d5_4)) ?_
  refine own_go (fun _ => XS.aloadN X1.here hx rfl (hb hby d5_5) rfl rfl) ?_
  show own_G p e below Φ T1 (mkF m 6 #[.val (.ref a1), .val (.long q1), .second] [(.ref a1), (.int (0 : Int32)), (.ref xa)])
  obtain ⟨T2, X2, e2, st2⟩ := getF X1 hx hZ hown (host := "") (Or.inl (wd_37 hw)) Via.refl e1 F_size_a1 (g := (mkF m 6 #[.val (.ref a1), .val (.long q1), .second] [(.ref a1), (.int (0 : Int32)), (.ref xa)])) rfl rfl (hb hby d5_6)
  refine own_go st2 ?_
  refine own_go (fun _ => XS.aloadN X2.here hx rfl (hb hby d5_9) rfl rfl) ?_
  refine own_go (fun _ => XS.lloadN X2.here hx rfl (hb hby d5_10) rfl) ?_
  show own_G p e below Φ T2 (mkF m 11 #[.val (.ref a1), .val (.long q1), .second] [(.long q1), (.ref a1), (.int (2 : Int32)), (.int (0 : Int32)), (.ref xa)])
  obtain ⟨cq3, zc3, zc3z⟩ := E_a1.cell
  obtain ⟨_, _, ⟨T3, zL3, zk3, zn3⟩, -, X3, ⟨Lc3, hQ3, zl3, zy3, zz3⟩, st3⟩ := X2.privateBack hx (y := (⟨"corro/core/LimitLevels", "key", "(J)J"⟩ : MethodName)) hown (mvT hZ (wd_39 hw)) (mvT hZ (wd_40 hw)) (own_selp (x := (⟨"corro/core/LimitLevels", "getOrAdd", "(J)Lcorro/core/Level;"⟩ : MethodName)) rfl (mvT hZ (wd_30 hw)) (notFace_of_selects (args := #[]) (mvT hZ (wd_31 hw))) (Cond.privateMethod_at (mvP hZ (wd_41 hw) (args := #[]))) (mvT hZ (wd_40 hw)) (by decide)) (Cond.privateMethod_at (mvP hZ (wd_41 hw) (args := #[]))) (mvT hZ (wd_42 hw)) (by decide) (backOf (W := 3) (rmK l Z a0 hw [] a1 q1 hf h0 n0 Z0 F_highestFirst_a1) hZ (wd_42 hw) (wd_7 hw) (by decide) (by decide)) (g := (mkF m 11 #[.val (.ref a1), .val (.long q1), .second] [(.long q1), (.ref a1), (.int (2 : Int32)), (.int (0 : Int32)), (.ref xa)])) rfl (by rw [hml]; rfl) (Steps.refl _) (a := a1) (by rw [e2]; exact zc3) zc3z (argsL := [(.long q1)]) (rest := [(.int (2 : Int32)), (.int (0 : Int32)), (.ref xa)]) (lenOf pd_2 rfl) rfl (by show 2 * 0 + _ ≤ _; exact Nat.le_of_eq rfl) (hb hby d5_11) (fun _ _ => ⟨rfl, e2, (by decide : 0 + 0 ≤ _), (by decide : 0 + 0 ≤ _)⟩)
  dsimp only [Pt.U, Pt.locs, Pt.cells, Pt.slots] at X3 zl3 zy3 zz3 st3 hQ3
  subst zl3 zy3 zz3
  obtain ⟨rfl, N3q, hs3⟩ := hQ3
  have N3 := Fr.app N0 N3q
  refine own_on st3 ?_
  show own_G p e below Φ T3 (mkF m 14 #[.val (.ref a1), .val (.long q1), .second] [(.long (own_key hf q1)), (.int (2 : Int32)), (.int (0 : Int32)), (.ref xa)])
  obtain ⟨_, _, ⟨T4, zL4, zk4, zn4⟩, -, X4, ⟨Lc4, hQ4, zl4, zy4, zz4⟩, st4⟩ := Jvm.LawKit.callS X3 hx (y := (⟨"java/util/Arrays", "binarySearch", "([JIIJ)I"⟩ : MethodName)) hown (mvT hZ (wd_43 hw)) (mvT hZ (wd_44 hw)) (mvT hZ (wd_45 hw)) (mvT hZ (wd_46 hw)) (by decide) (backOf (W := 0) (rmB1_2ins2 l Z a0 hw [] xa kk (own_key hf q1) k0 k1 h0 n0 Z0 V_xa r0 r1) hZ (wd_46 hw) (wd_45 hw) (by decide) (by decide)) (g := (mkF m 14 #[.val (.ref a1), .val (.long q1), .second] [(.long (own_key hf q1)), (.int (2 : Int32)), (.int (0 : Int32)), (.ref xa)])) rfl (by rw [hml]; rfl) (argsL := [(.ref xa), (.int (0 : Int32)), (.int (2 : Int32)), (.long (own_key hf q1))]) (rest := []) (lenOf pd_1 rfl) rfl (by show 2 * 0 + _ ≤ _; exact Nat.le_of_eq rfl) (hb hby d5_14) (fun _ _ => ⟨rfl, hs3, (by decide : 0 + 0 ≤ _), (by decide : 0 + 0 ≤ _)⟩)
  dsimp only [Pt.U, Pt.locs, Pt.cells, Pt.slots] at X4 zl4 zy4 zz4 st4 hQ4
  subst zl4 zy4 zz4
  obtain ⟨rfl, N4q, hs4⟩ := hQ4
  have N4 := Fr.app N3 N4q
  refine own_go st4 ?_
  show own_G p e below Φ T4 (mkF m 17 #[.val (.ref a1), .val (.long q1), .second] [(.int (-3 : Int32))])
  rw [hΦ]
  refine own_ret X4 (v := some (.int (-3 : Int32))) (fun h => by rw [Bd.returns] at h; cases h) (BodyLoose.notSynchronized Bd) (fun fs hr => retOut X4 hx Bd.returns rfl (Or.inl ⟨rfl, Or.inl rfl, _, rfl⟩) (hb hby d5_17) hr) ?_ (by decide) (by decide)
  rw [hs4]
  exact ⟨rfl, N4, rfl⟩
theorem d4_0 : decode prog_14_method_7_code 0 = .ok (.aload_n 0, 1) := by decide +kernel
theorem d4_1 : decode prog_14_method_7_code 1 = .ok (.lload_n 1, 1) := by decide +kernel
theorem d4_2 : decode prog_14_method_7_code 2 = .ok (.invokevirtual 33, 3) := by decide +kernel
theorem wd_33 {Z : State} {a0 : Array Value} (hw : ∀ d ∈ tables_1, d.before a0 Z = true) : ((Jvm.Cond.methodLink "corro/core/LimitLevels" (33 : Nat) ({ cls := "corro/core/LimitLevels", name := "search", desc := "(J)I" } : Jvm.MethodName)) : Jvm.Cond).before a0 Z = true := hw _ (List.mem_of_getElem? (i := 33) rfl)
theorem wd_36 {Z : State} {a0 : Array Value} (hw : ∀ d ∈ tables_1, d.before a0 Z = true) : ((Jvm.Cond.code ({ cls := "corro/core/LimitLevels", name := "search", desc := "(J)I" } : Jvm.MethodName) prog_14_method_10_code (3 : Nat) (Option.some Jvm.ClassFile.FieldType.int)) : Jvm.Cond).before a0 Z = true := hw _ (List.mem_of_getElem? (i := 36) rfl)
theorem pd_3 : parseMethodDescriptor "(J)I" = some ⟨[.long], some .int⟩ := by decide +kernel
theorem wd_35 {Z : State} {a0 : Array Value} (hw : ∀ d ∈ tables_1, d.before a0 Z = true) : ((Jvm.Cond.privateMethod ({ cls := "corro/core/LimitLevels", name := "search", desc := "(J)I" } : Jvm.MethodName)) : Jvm.Cond).before a0 Z = true := hw _ (List.mem_of_getElem? (i := 35) rfl)
theorem wd_34 {Z : State} {a0 : Array Value} (hw : ∀ d ∈ tables_1, d.before a0 Z = true) : ((Jvm.Cond.instanceMethod ({ cls := "corro/core/LimitLevels", name := "search", desc := "(J)I" } : Jvm.MethodName)) : Jvm.Cond).before a0 Z = true := hw _ (List.mem_of_getElem? (i := 34) rfl)
theorem d4_5 : decode prog_14_method_7_code 5 = .ok (.istore_n 3, 1) := by decide +kernel
theorem d4_6 : decode prog_14_method_7_code 6 = .ok (.iload_n 3, 1) := by decide +kernel
theorem d4_7 : decode prog_14_method_7_code 7 = .ok (.ifCond .lt 10, 3) := by decide +kernel
theorem d4_17 : decode prog_14_method_7_code 17 = .ok (.iload_n 3, 1) := by decide +kernel
theorem d4_18 : decode prog_14_method_7_code 18 = .ok (.ineg, 1) := by decide +kernel
theorem d4_19 : decode prog_14_method_7_code 19 = .ok (.iconst 1, 1) := by decide +kernel
theorem d4_20 : decode prog_14_method_7_code 20 = .ok (.isub, 1) := by decide +kernel
theorem d4_21 : decode prog_14_method_7_code 21 = .ok (.istore_n 3, 1) := by decide +kernel
theorem d4_22 : decode prog_14_method_7_code 22 = .ok (.aload_n 0, 1) := by decide +kernel
theorem d4_23 : decode prog_14_method_7_code 23 = .ok (.getfield 29, 3) := by decide +kernel
theorem d4_26 : decode prog_14_method_7_code 26 = .ok (.aload_n 0, 1) := by decide +kernel
theorem d4_27 : decode prog_14_method_7_code 27 = .ok (.getfield 9, 3) := by decide +kernel
theorem d4_30 : decode prog_14_method_7_code 30 = .ok (.arraylength, 1) := by decide +kernel
theorem d4_31 : decode prog_14_method_7_code 31 = .ok (.if_icmp .ne 40, 3) := by decide +kernel
theorem d4_71 : decode prog_14_method_7_code 71 = .ok (.aload_n 0, 1) := by decide +kernel
theorem d4_72 : decode prog_14_method_7_code 72 = .ok (.getfield 9, 3) := by decide +kernel
theorem d4_75 : decode prog_14_method_7_code 75 = .ok (.iload_n 3, 1) := by decide +kernel
theorem d4_76 : decode prog_14_method_7_code 76 = .ok (.aload_n 0, 1) := by decide +kernel
theorem d4_77 : decode prog_14_method_7_code 77 = .ok (.getfield 9, 3) := by decide +kernel
theorem d4_80 : decode prog_14_method_7_code 80 = .ok (.iload_n 3, 1) := by decide +kernel
theorem d4_81 : decode prog_14_method_7_code 81 = .ok (.iconst 1, 1) := by decide +kernel
theorem d4_82 : decode prog_14_method_7_code 82 = .ok (.iadd, 1) := by decide +kernel
theorem d4_83 : decode prog_14_method_7_code 83 = .ok (.aload_n 0, 1) := by decide +kernel
theorem d4_84 : decode prog_14_method_7_code 84 = .ok (.getfield 29, 3) := by decide +kernel
theorem d4_87 : decode prog_14_method_7_code 87 = .ok (.iload_n 3, 1) := by decide +kernel
theorem d4_88 : decode prog_14_method_7_code 88 = .ok (.isub, 1) := by decide +kernel
theorem d4_89 : decode prog_14_method_7_code 89 = .ok (.invokestatic 47, 3) := by decide +kernel
theorem wd_53 {Z : State} {a0 : Array Value} (hw : ∀ d ∈ tables_1, d.before a0 Z = true) : ((Jvm.Cond.methodLink "corro/core/LimitLevels" (47 : Nat) ({ cls := "java/lang/System", name := "arraycopy", desc := "(Ljava/lang/Object;ILjava/lang/Object;II)V" } : Jvm.MethodName)) : Jvm.Cond).before a0 Z = true := hw _ (List.mem_of_getElem? (i := 53) rfl)
theorem wd_56 {Z : State} {a0 : Array Value} (hw : ∀ d ∈ tables_1, d.before a0 Z = true) : ((Jvm.Cond.native ({ cls := "java/lang/System", name := "arraycopy", desc := "(Ljava/lang/Object;ILjava/lang/Object;II)V" } : Jvm.MethodName)) : Jvm.Cond).before a0 Z = true := hw _ (List.mem_of_getElem? (i := 56) rfl)
theorem wd_54 {Z : State} {a0 : Array Value} (hw : ∀ d ∈ tables_1, d.before a0 Z = true) : ((Jvm.Cond.static ({ cls := "java/lang/System", name := "arraycopy", desc := "(Ljava/lang/Object;ILjava/lang/Object;II)V" } : Jvm.MethodName)) : Jvm.Cond).before a0 Z = true := hw _ (List.mem_of_getElem? (i := 54) rfl)
theorem wd_55 {Z : State} {a0 : Array Value} (hw : ∀ d ∈ tables_1, d.before a0 Z = true) : ((Jvm.Cond.initialized "java/lang/System") : Jvm.Cond).before a0 Z = true := hw _ (List.mem_of_getElem? (i := 55) rfl)
theorem d4_92 : decode prog_14_method_7_code 92 = .ok (.aload_n 0, 1) := by decide +kernel
theorem d4_93 : decode prog_14_method_7_code 93 = .ok (.getfield 15, 3) := by decide +kernel
theorem d4_96 : decode prog_14_method_7_code 96 = .ok (.iload_n 3, 1) := by decide +kernel
theorem d4_97 : decode prog_14_method_7_code 97 = .ok (.aload_n 0, 1) := by decide +kernel
theorem d4_98 : decode prog_14_method_7_code 98 = .ok (.getfield 15, 3) := by decide +kernel
theorem d4_101 : decode prog_14_method_7_code 101 = .ok (.iload_n 3, 1) := by decide +kernel
theorem d4_102 : decode prog_14_method_7_code 102 = .ok (.iconst 1, 1) := by decide +kernel
theorem d4_103 : decode prog_14_method_7_code 103 = .ok (.iadd, 1) := by decide +kernel
theorem d4_104 : decode prog_14_method_7_code 104 = .ok (.aload_n 0, 1) := by decide +kernel
theorem d4_105 : decode prog_14_method_7_code 105 = .ok (.getfield 29, 3) := by decide +kernel
theorem d4_108 : decode prog_14_method_7_code 108 = .ok (.iload_n 3, 1) := by decide +kernel
theorem d4_109 : decode prog_14_method_7_code 109 = .ok (.isub, 1) := by decide +kernel
theorem d4_110 : decode prog_14_method_7_code 110 = .ok (.invokestatic 47, 3) := by decide +kernel
theorem d4_113 : decode prog_14_method_7_code 113 = .ok (.new 13, 3) := by decide +kernel
theorem wd_57 {Z : State} {a0 : Array Value} (hw : ∀ d ∈ tables_1, d.before a0 Z = true) : ((Jvm.Cond.instantiable "corro/core/Level" (2 : Nat)) : Jvm.Cond).before a0 Z = true := hw _ (List.mem_of_getElem? (i := 57) rfl)
theorem wd_58 {Z : State} {a0 : Array Value} (hw : ∀ d ∈ tables_1, d.before a0 Z = true) : ((Jvm.Cond.initialized "corro/core/Level") : Jvm.Cond).before a0 Z = true := hw _ (List.mem_of_getElem? (i := 58) rfl)
theorem d4_116 : decode prog_14_method_7_code 116 = .ok (.dup, 1) := by decide +kernel
theorem d4_117 : decode prog_14_method_7_code 117 = .ok (.invokespecial 53, 3) := by decide +kernel
theorem wd_59 {Z : State} {a0 : Array Value} (hw : ∀ d ∈ tables_1, d.before a0 Z = true) : ((Jvm.Cond.methodLink "corro/core/LimitLevels" (53 : Nat) ({ cls := "corro/core/Level", name := "<init>", desc := "()V" } : Jvm.MethodName)) : Jvm.Cond).before a0 Z = true := hw _ (List.mem_of_getElem? (i := 59) rfl)
theorem wd_61 {Z : State} {a0 : Array Value} (hw : ∀ d ∈ tables_1, d.before a0 Z = true) : ((Jvm.Cond.code ({ cls := "corro/core/Level", name := "<init>", desc := "()V" } : Jvm.MethodName) prog_13_method_1_code (1 : Nat) (Option.none : Option Jvm.ClassFile.FieldType)) : Jvm.Cond).before a0 Z = true := hw _ (List.mem_of_getElem? (i := 61) rfl)
theorem pd_4 : parseMethodDescriptor "()V" = some ⟨[], none⟩ := by decide +kernel
theorem wd_60 {Z : State} {a0 : Array Value} (hw : ∀ d ∈ tables_1, d.before a0 Z = true) : ((Jvm.Cond.instanceMethod ({ cls := "corro/core/Level", name := "<init>", desc := "()V" } : Jvm.MethodName)) : Jvm.Cond).before a0 Z = true := hw _ (List.mem_of_getElem? (i := 60) rfl)
theorem d4_120 : decode prog_14_method_7_code 120 = .ok (.astore 4, 2) := by decide +kernel
theorem d4_122 : decode prog_14_method_7_code 122 = .ok (.aload_n 0, 1) := by decide +kernel
theorem d4_123 : decode prog_14_method_7_code 123 = .ok (.getfield 9, 3) := by decide +kernel
theorem d4_126 : decode prog_14_method_7_code 126 = .ok (.iload_n 3, 1) := by decide +kernel
theorem d4_127 : decode prog_14_method_7_code 127 = .ok (.aload_n 0, 1) := by decide +kernel
theorem d4_128 : decode prog_14_method_7_code 128 = .ok (.lload_n 1, 1) := by decide +kernel
theorem d4_129 : decode prog_14_method_7_code 129 = .ok (.invokevirtual 54, 3) := by decide +kernel
theorem d4_132 : decode prog_14_method_7_code 132 = .ok (.lastore, 1) := by decide +kernel
theorem d4_133 : decode prog_14_method_7_code 133 = .ok (.aload_n 0, 1) := by decide +kernel
theorem d4_134 : decode prog_14_method_7_code 134 = .ok (.getfield 15, 3) := by decide +kernel
theorem d4_137 : decode prog_14_method_7_code 137 = .ok (.iload_n 3, 1) := by decide +kernel
theorem d4_138 : decode prog_14_method_7_code 138 = .ok (.aload 4, 2) := by decide +kernel
theorem d4_140 : decode prog_14_method_7_code 140 = .ok (.aastore, 1) := by decide +kernel
theorem d4_141 : decode prog_14_method_7_code 141 = .ok (.aload_n 0, 1) := by decide +kernel
theorem d4_142 : decode prog_14_method_7_code 142 = .ok (.dup, 1) := by decide +kernel
theorem d4_143 : decode prog_14_method_7_code 143 = .ok (.getfield 29, 3) := by decide +kernel
theorem d4_146 : decode prog_14_method_7_code 146 = .ok (.iconst 1, 1) := by decide +kernel
theorem d4_147 : decode prog_14_method_7_code 147 = .ok (.iadd, 1) := by decide +kernel
theorem d4_148 : decode prog_14_method_7_code 148 = .ok (.putfield 29, 3) := by decide +kernel
theorem d4_151 : decode prog_14_method_7_code 151 = .ok (.aload 4, 2) := by decide +kernel
theorem d4_153 : decode prog_14_method_7_code 153 = .ok (.areturn, 1) := by decide +kernel
theorem sl_9 {Z : State} {a0 : Array Value} (hw : ∀ d ∈ tables_1, d.before a0 Z = true) : Jvm.RoadKit.slotOf Z "corro/core/LimitLevels" "keys" "[J" ≠ Jvm.RoadKit.slotOf Z "corro/core/LimitLevels" "size" "I" := slot_ne (C := "corro/core/LimitLevels") (Or.inl (wd_19 hw)) (Or.inl (wd_38 hw)) (by decide) (t := (.array .long)) (t' := .int) (by decide) (by decide)
theorem sl_10 {Z : State} {a0 : Array Value} (hw : ∀ d ∈ tables_1, d.before a0 Z = true) : Jvm.RoadKit.slotOf Z "corro/core/LimitLevels" "levels" "[Lcorro/core/Level;" ≠ Jvm.RoadKit.slotOf Z "corro/core/LimitLevels" "size" "I" := slot_ne (C := "corro/core/LimitLevels") (Or.inl (wd_23 hw)) (Or.inl (wd_38 hw)) (by decide) (t := (.array (.object "corro/core/Level"))) (t' := .int) (by decide) (by decide)
theorem sl_11 {Z : State} {a0 : Array Value} (hw : ∀ d ∈ tables_1, d.before a0 Z = true) : Jvm.RoadKit.slotOf Z "corro/core/LimitLevels" "highestFirst" "Z" ≠ Jvm.RoadKit.slotOf Z "corro/core/LimitLevels" "size" "I" := slot_ne (C := "corro/core/LimitLevels") (Or.inr (wd_27 hw)) (Or.inl (wd_38 hw)) (by decide) (t := .boolean) (t' := .int) (by decide) (by decide)
theorem ef_rmG_0ins0 (m : MethodId) (a1 : Addr) (q1 : Int64) : entryFrame m #[(.ref a1), (.long q1)] 5 = mkF m 0 #[.val (.ref a1), .val (.long q1), .second, .unset, .unset] [] := by first | (simp [entryFrame, mkF, argsToLocals, Value.category]; done) | rfl
def Q_rmG_0ins0 (Z : State) (a1 : Addr) (q1 : Int64) (hf : Int32) (xa : Addr) (xl : Addr) (kk : ClassId) (kl : ClassId) (h0 : Heap) (n0 : Nat) (v : Option Value) (h : Heap) (L : List Loc) : Prop := ∃ lv : Addr, h0.size ≤ lv ∧ v = some (.ref lv) ∧ Fr n0 L ∧ Keep h0 h [a1, xa, xl] ∧ Exa Z h a1 "corro/core/LimitLevels" ∧ Fld Z h a1 "corro/core/LimitLevels" "keys" "[J" (.ref xa) ∧ Fld Z h a1 "corro/core/LimitLevels" "levels" "[Lcorro/core/Level;" (.ref xl) ∧ Fld Z h a1 "corro/core/LimitLevels" "size" "I" (.int (1 : Int32)) ∧ Fld Z h a1 "corro/core/LimitLevels" "highestFirst" "Z" (.int hf) ∧ Arv Z h xa kk .long (64 : Int32) [(.long (own_key hf q1))] (.long (0 : Int64)) ∧ Arv Z h xl kl (.object "corro/core/Level") (64 : Int32) [(.ref lv)] .null ∧ Exa Z h lv "corro/core/Level"
set_option maxRecDepth 65536 in
set_option maxHeartbeats 40000000 in
theorem rmG_0ins0 (l : Launch) (Z : State) (a0 : Array Value) (hw : ∀ d ∈ tables_1, d.before a0 Z = true) (ws : List Jvm.Cond) (a1 : Addr) (q1 : Int64) (hf : Int32) (xa : Addr) (xl : Addr) (kk : ClassId) (kl : ClassId) (h0 : Heap) (n0 : Nat) (Z0 : n0 ≤ h0.size) (E_a1 : Exa Z h0 a1 "corro/core/LimitLevels") (F_keys_a1 : Fld Z h0 a1 "corro/core/LimitLevels" "keys" "[J" (.ref xa)) (F_levels_a1 : Fld Z h0 a1 "corro/core/LimitLevels" "levels" "[Lcorro/core/Level;" (.ref xl)) (F_size_a1 : Fld Z h0 a1 "corro/core/LimitLevels" "size" "I" (.int (0 : Int32))) (F_highestFirst_a1 : Fld Z h0 a1 "corro/core/LimitLevels" "highestFirst" "Z" (.int hf)) (V_xa : Arv Z h0 xa kk .long (64 : Int32) [] (.long (0 : Int64))) (V_xl : Arv Z h0 xl kl (.object "corro/core/Level") (64 : Int32) [] .null) (g_a1 : n0 ≤ a1) (g_xa : n0 ≤ xa) (g_xl : n0 ≤ xl) (ne_a1_xa : a1 ≠ xa) (ne_a1_xl : a1 ≠ xl) (ne_xa_xl : xa ≠ xl) (hO : Ovr Z kl "corro/core/Level") :
    MetFree l (⟨"corro/core/LimitLevels", "getOrAdd", "(J)Lcorro/core/Level;"⟩ : MethodName) (head1 (Jvm.Cond.code (⟨"corro/core/LimitLevels", "getOrAdd", "(J)Lcorro/core/Level;"⟩ : MethodName) prog_14_method_7_code 5 (some (.object "corro/core/Level")) :: ws) ({ frames := 3, cells := 1, slots := 2, locals := 51 } : Room)) (fun a U => a = #[(.ref a1), (.long q1)] ∧ Z.Warmed39 U.vm ∧ U.heap = h0) (fun _ _ _ _ _ => True) (fun _ U o U' => ∃ v L, o = .returned v ∧ Q_rmG_0ins0 Z a1 q1 hf xa xl kk kl h0 n0 v U'.heap L ∧ FrameEnd U o U' L ({ frames := 3, cells := 1, slots := 2, locals := 51 } : Room).cells ({ frames := 3, cells := 1, slots := 2, locals := 51 } : Room).slots) := by
  refine MetFree.of_bodySF (plainFor_of_name pn_1) hisR ?_
  intro p e s m args below meth c s₁ Bd hml0 hP hK
  obtain ⟨rfl, hZ, hh⟩ := hP
  have hx := Bd.exec
  have hby := Bd.bytes
  have hml : c.maxLocals = 5 := hml0
  have hown : s.vm.findClass "corro/core/LimitLevels" = some m.cls := findClass_of_methodNamed Bd.named
  have hnm := (name_of_methodNamed Bd.named Bd.method).1
  have X0 : Stand p l e ({ frames := 3, cells := 1, slots := 2, locals := 51 } : Room) s m #[(.ref a1), (.long q1)] below meth c s₁ [] 0 0 := Stand.of_body Bd
  have e0 : s₁.heap = h0 := by rw [← hh, Bd.state]; rfl
  have N0 := Fr.nil n0
  have K0 : Keep h0 h0 [a1, xa, xl] := Keep.refl _ _
  suffices G0 : own_G p e below (own_E s below (Q_rmG_0ins0 Z a1 q1 hf xa xl kk kl h0 n0) ({ frames := 3, cells := 1, slots := 2, locals := 51 } : Room).cells ({ frames := 3, cells := 1, slots := 2, locals := 51 } : Room).slots) s₁ (mkF m 0 #[.val (.ref a1), .val (.long q1), .second, .unset, .unset] []) by
    obtain ⟨zt, zst, zo, zq1, zq2, zq3⟩ := G0
    exact ⟨zt, zo, castTop (ef_rmG_0ins0 m a1 q1) zst, zq1, zq2, zq3⟩
  obtain ⟨Φ, hΦ⟩ : ∃ Φ, Φ = own_E s below (Q_rmG_0ins0 Z a1 q1 hf xa xl kk kl h0 n0) ({ frames := 3, cells := 1, slots := 2, locals := 51 } : Room).cells ({ frames := 3, cells := 1, slots := 2, locals := 51 } : Room).slots := ⟨_, rfl⟩
  rw [← hΦ]
  show own_G p e below Φ s₁ (mkF m 0 #[.val (.ref a1), .val (.long q1), .second, .unset, .unset] [])
  refine own_go (fun _ => XS.aloadN X0.here hx rfl (hb hby d4_0) rfl rfl) ?_
  refine own_go (fun _ => XS.lloadN X0.here hx rfl (hb hby d4_1) rfl) ?_
  show own_G p e below Φ s₁ (mkF m 2 #[.val (.ref a1), .val (.long q1), .second, .unset, .unset] [(.long q1), (.ref a1)])
  obtain ⟨cq1, zc1, zc1z⟩ := E_a1.cell
  obtain ⟨_, _, ⟨T1, zL1, zk1, zn1⟩, -, X1, ⟨Lc1, hQ1, zl1, zy1, zz1⟩, st1⟩ := X0.privateBack hx (y := (⟨"corro/core/LimitLevels", "search", "(J)I"⟩ : MethodName)) hown (mvT hZ (wd_33 hw)) (mvT hZ (wd_34 hw)) (own_selp (x := (⟨"corro/core/LimitLevels", "getOrAdd", "(J)Lcorro/core/Level;"⟩ : MethodName)) rfl (mvT hZ (wd_30 hw)) (notFace_of_selects (args := #[]) (mvT hZ (wd_31 hw))) (Cond.privateMethod_at (mvP hZ (wd_35 hw) (args := #[]))) (mvT hZ (wd_34 hw)) (by decide)) (Cond.privateMethod_at (mvP hZ (wd_35 hw) (args := #[]))) (mvT hZ (wd_36 hw)) (by decide) (backOf (W := 0) (rmS_0ins0 l Z a0 hw [] a1 q1 hf xa kk h0 n0 Z0 E_a1 F_keys_a1 F_size_a1 F_highestFirst_a1 V_xa) hZ (wd_36 hw) (wd_7 hw) (by decide) (by decide)) (g := (mkF m 2 #[.val (.ref a1), .val (.long q1), .second, .unset, .unset] [(.long q1), (.ref a1)])) rfl (by rw [hml]; rfl) (Steps.refl _) (a := a1) (by rw [e0]; exact zc1) zc1z (argsL := [(.long q1)]) (rest := []) (lenOf pd_3 rfl) rfl (by show 2 * 0 + _ ≤ _; exact Nat.le_of_eq rfl) (hb hby d4_2) (fun _ _ => ⟨rfl, e0, (by decide : 0 + 0 ≤ _), (by decide : 0 + 0 ≤ _)⟩)
  dsimp only [Pt.U, Pt.locs, Pt.cells, Pt.slots] at X1 zl1 zy1 zz1 st1 hQ1
  subst zl1 zy1 zz1
  obtain ⟨rfl, N1q, hs1⟩ := hQ1
  have N1 := Fr.app N0 N1q
  refine own_on st1 ?_
  refine own_go (fun _ => XS.istoreN X1.here hx rfl (hb hby d4_5) rfl (l' := #[.val (.ref a1), .val (.long q1), .second, .val (.int (-1 : Int32)), .unset]) rfl) ?_
  refine own_go (fun _ => XS.iloadN X1.here hx rfl (hb hby d4_6) rfl) ?_
  show own_G p e below Φ T1 (mkF m 7 #[.val (.ref a1), .val (.long q1), .second, .val (.int (-1 : Int32)), .unset] [(.int (-1 : Int32))])
  refine own_go (fun _ => XS.ifYes X1.here hx rfl (pc0 := 7) (pc' := 17) rfl (hb hby d4_7) rfl (Jvm.Free.XT.i0_lt_t (by decide : ((-1 : Int32) < (0 : Int32)))) (by decide) (by decide)) ?_
  refine own_go (fun _ => XS.iloadN X1.here hx rfl (hb hby d4_17) rfl) ?_
  show own_G p e below Φ T1 (mkF m 18 #[.val (.ref a1), .val (.long q1), .second, .val (.int (-1 : Int32)), .unset] [(.int (-1 : Int32))])
  refine own_go (fun _ => XS.ineg X1.here hx rfl (hb hby d4_18) rfl) ?_
  refine own_go (fun _ => XS.iconst X1.here hx rfl (hb hby d4_19)) ?_
  show own_G p e below Φ T1 (mkF m 20 #[.val (.ref a1), .val (.long q1), .second, .val (.int (-1 : Int32)), .unset] [(.int (1 : Int32)), (.int (1 : Int32))])
  refine own_go (fun _ => XS.isub X1.here hx rfl (hb hby d4_20) rfl) ?_
  refine own_go (fun _ => XS.istoreN X1.here hx rfl (hb hby d4_21) rfl (l' := #[.val (.ref a1), .val (.long q1), .second, .val (.int (0 : Int32)), .unset]) rfl) ?_
  refine own_go (fun _ => XS.aloadN X1.here hx rfl (hb hby d4_22) rfl rfl) ?_
  show own_G p e below Φ T1 (mkF m 23 #[.val (.ref a1), .val (.long q1), .second, .val (.int (0 : Int32)), .unset] [(.ref a1)])
  obtain ⟨T2, X2, e2, st2⟩ := getF X1 hx hZ hown (host := "") (Or.inl (wd_37 hw)) Via.refl hs1 F_size_a1 (g := (mkF m 23 #[.val (.ref a1), .val (.long q1), .second, .val (.int (0 : Int32)), .unset] [(.ref a1)])) rfl rfl (hb hby d4_23)
  refine own_go st2 ?_
  refine own_go (fun _ => XS.aloadN X2.here hx rfl (hb hby d4_26) rfl rfl) ?_
  show own_G p e below Φ T2 (mkF m 27 #[.val (.ref a1), .val (.long q1), .second, .val (.int (0 : Int32)), .unset] [(.ref a1), (.int (0 : Int32))])
  obtain ⟨T3, X3, e3, st3⟩ := getF X2 hx hZ hown (host := "") (Or.inl (wd_18 hw)) Via.refl e2 F_keys_a1 (g := (mkF m 27 #[.val (.ref a1), .val (.long q1), .second, .val (.int (0 : Int32)), .unset] [(.ref a1), (.int (0 : Int32))])) rfl rfl (hb hby d4_27)
  refine own_go st3 ?_
  show own_G p e below Φ T3 (mkF m 30 #[.val (.ref a1), .val (.long q1), .second, .val (.int (0 : Int32)), .unset] [(.ref xa), (.int (0 : Int32))])
  obtain ⟨cl4, Ar4, zq4, S4, M4, H4, G4⟩ := id V_xa
  refine own_go (fun _ => X3.arraylength hx (by rw [e3]; exact Ar4.1) (State.isArrayOf_alike hZ.alike Ar4.2.1) (g := (mkF m 30 #[.val (.ref a1), .val (.long q1), .second, .val (.int (0 : Int32)), .unset] [(.ref xa), (.int (0 : Int32))])) rfl rfl (hb hby d4_30) _) ?_
  rw [len_of S4 M4]
  show own_G p e below Φ T3 (mkF m 31 #[.val (.ref a1), .val (.long q1), .second, .val (.int (0 : Int32)), .unset] [(.int (64 : Int32)), (.int (0 : Int32))])
  refine own_go (fun _ => XS.icmpYes X3.here hx rfl (pc0 := 31) (pc' := 71) rfl (hb hby d4_31) rfl (Jvm.Free.XT.ii_ne_t (by decide : ¬ ((0 : Int32) = (64 : Int32)))) (by decide) (by decide)) ?_
  refine own_go (fun _ => XS.aloadN X3.here hx rfl (hb hby d4_71) rfl rfl) ?_
  show own_G p e below Φ T3 (mkF m 72 #[.val (.ref a1), .val (.long q1), .second, .val (.int (0 : Int32)), .unset] [(.ref a1)])
  obtain ⟨T5, X5, e5, st5⟩ := getF X3 hx hZ hown (host := "") (Or.inl (wd_18 hw)) Via.refl e3 F_keys_a1 (g := (mkF m 72 #[.val (.ref a1), .val (.long q1), .second, .val (.int (0 : Int32)), .unset] [(.ref a1)])) rfl rfl (hb hby d4_72)
  refine own_go st5 ?_
  refine own_go (fun _ => XS.iloadN X5.here hx rfl (hb hby d4_75) rfl) ?_
  refine own_go (fun _ => XS.aloadN X5.here hx rfl (hb hby d4_76) rfl rfl) ?_
  show own_G p e below Φ T5 (mkF m 77 #[.val (.ref a1), .val (.long q1), .second, .val (.int (0 : Int32)), .unset] [(.ref a1), (.int (0 : Int32)), (.ref xa)])
  obtain ⟨T6, X6, e6, st6⟩ := getF X5 hx hZ hown (host := "") (Or.inl (wd_18 hw)) Via.refl e5 F_keys_a1 (g := (mkF m 77 #[.val (.ref a1), .val (.long q1), .second, .val (.int (0 : Int32)), .unset] [(.ref a1), (.int (0 : Int32)), (.ref xa)])) rfl rfl (hb hby d4_77)
  refine own_go st6 ?_
  refine own_go (fun _ => XS.iloadN X6.here hx rfl (hb hby d4_80) rfl) ?_
  refine own_go (fun _ => XS.iconst X6.here hx rfl (hb hby d4_81)) ?_
  show own_G p e below Φ T6 (mkF m 82 #[.val (.ref a1), .val (.long q1), .second, .val (.int (0 : Int32)), .unset] [(.int (1 : Int32)), (.int (0 : Int32)), (.ref xa), (.int (0 : Int32)), (.ref xa)])
  refine own_go (fun _ => XS.iadd X6.here hx rfl (hb hby d4_82) rfl) ?_
  refine own_go (fun _ => XS.aloadN X6.here hx rfl (hb hby d4_83) rfl rfl) ?_
  show own_G p e below Φ T6 (mkF m 84 #[.val (.ref a1), .val (.long q1), .second, .val (.int (0 : Int32)), .unset] [(.ref a1), (.int (1 : Int32)), (.ref xa), (.int (0 : Int32)), (.ref xa)])
  obtain ⟨T7, X7, e7, st7⟩ := getF X6 hx hZ hown (host := "") (Or.inl (wd_37 hw)) Via.refl e6 F_size_a1 (g := (mkF m 84 #[.val (.ref a1), .val (.long q1), .second, .val (.int (0 : Int32)), .unset] [(.ref a1), (.int (1 : Int32)), (.ref xa), (.int (0 : Int32)), (.ref xa)])) rfl rfl (hb hby d4_84)
  refine own_go st7 ?_
  refine own_go (fun _ => XS.iloadN X7.here hx rfl (hb hby d4_87) rfl) ?_
  show own_G p e below Φ T7 (mkF m 88 #[.val (.ref a1), .val (.long q1), .second, .val (.int (0 : Int32)), .unset] [(.int (0 : Int32)), (.int (0 : Int32)), (.int (1 : Int32)), (.ref xa), (.int (0 : Int32)), (.ref xa)])
  refine own_go (fun _ => XS.isub X7.here hx rfl (hb hby d4_88) rfl) ?_
  show own_G p e below Φ T7 (mkF m 89 #[.val (.ref a1), .val (.long q1), .second, .val (.int (0 : Int32)), .unset] [(.int (0 : Int32)), (.int (1 : Int32)), (.ref xa), (.int (0 : Int32)), (.ref xa)])
  have V8p : Arv Z h0 xa kk .long (64 : Int32) [(.long (0 : Int64))] (.long (0 : Int64)) := V_xa.pad (pad_rep [] (.long (0 : Int64)) 1)
  obtain ⟨T8, h8, L8, X8, e8, N8, Kq8, V8q, st8⟩ := cpA X7 hx hZ hown (wd_53 hw) (wd_56 hw) (wd_54 hw) (wd_55 hw) e7 V8p V8p (us := []) (Or.inl ⟨rfl, rfl⟩) (sp := (0 : Int32)) (dp := (1 : Int32)) (nn := (0 : Int32)) (by decide) (by decide) (by decide) (by decide) (by decide) rfl (Nat.le_of_ble_eq_true rfl) N1 g_xa (g := (mkF m 89 #[.val (.ref a1), .val (.long q1), .second, .val (.int (0 : Int32)), .unset] [(.int (0 : Int32)), (.int (1 : Int32)), (.ref xa), (.int (0 : Int32)), (.ref xa)])) rfl (by rw [hml]; rfl) rfl (hb hby d4_89) (by decide) (W := 0) (by show 2 * 0 + _ ≤ _; exact Nat.le_of_eq rfl) (by decide)
  refine own_go st8 ?_
  have V8 : Arv Z h8 xa kk .long (64 : Int32) [(.long (0 : Int64))] (.long (0 : Int64)) := V8q
  have K8 := K0.trans Kq8 (allS (Or.inl (List.mem_of_getElem? (i := 1) rfl)) all0)
  have Zp8 : n0 ≤ h8.size := Nat.le_trans Z0 Kq8.1
  refine own_go (fun _ => XS.aloadN X8.here hx rfl (hb hby d4_92) rfl rfl) ?_
  show own_G p e below Φ T8 (mkF m 93 #[.val (.ref a1), .val (.long q1), .second, .val (.int (0 : Int32)), .unset] [(.ref a1)])
  have f9 : Fld Z h8 a1 "corro/core/LimitLevels" "levels" "[Lcorro/core/Level;" (.ref xl) := F_levels_a1.keep Kq8 (ninS ne_a1_xa nin0)
  obtain ⟨T10, X10, e10, st10⟩ := getF X8 hx hZ hown (host := "") (Or.inl (wd_22 hw)) Via.refl e8 f9 (g := (mkF m 93 #[.val (.ref a1), .val (.long q1), .second, .val (.int (0 : Int32)), .unset] [(.ref a1)])) rfl rfl (hb hby d4_93)
  refine own_go st10 ?_
  refine own_go (fun _ => XS.iloadN X10.here hx rfl (hb hby d4_96) rfl) ?_
  refine own_go (fun _ => XS.aloadN X10.here hx rfl (hb hby d4_97) rfl rfl) ?_
  show own_G p e below Φ T10 (mkF m 98 #[.val (.ref a1), .val (.long q1), .second, .val (.int (0 : Int32)), .unset] [(.ref a1), (.int (0 : Int32)), (.ref xl)])
  obtain ⟨T11, X11, e11, st11⟩ := getF X10 hx hZ hown (host := "") (Or.inl (wd_22 hw)) Via.refl e10 f9 (g := (mkF m 98 #[.val (.ref a1), .val (.long q1), .second, .val (.int (0 : Int32)), .unset] [(.ref a1), (.int (0 : Int32)), (.ref xl)])) rfl rfl (hb hby d4_98)
  refine own_go st11 ?_
  refine own_go (fun _ => XS.iloadN X11.here hx rfl (hb hby d4_101) rfl) ?_
  refine own_go (fun _ => XS.iconst X11.here hx rfl (hb hby d4_102)) ?_
  show own_G p e below Φ T11 (mkF m 103 #[.val (.ref a1), .val (.long q1), .second, .val (.int (0 : Int32)), .unset] [(.int (1 : Int32)), (.int (0 : Int32)), (.ref xl), (.int (0 : Int32)), (.ref xl)])
  refine own_go (fun _ => XS.iadd X11.here hx rfl (hb hby d4_103) rfl) ?_
  refine own_go (fun _ => XS.aloadN X11.here hx rfl (hb hby d4_104) rfl rfl) ?_
  show own_G p e below Φ T11 (mkF m 105 #[.val (.ref a1), .val (.long q1), .second, .val (.int (0 : Int32)), .unset] [(.ref a1), (.int (1 : Int32)), (.ref xl), (.int (0 : Int32)), (.ref xl)])
  have f12 : Fld Z h8 a1 "corro/core/LimitLevels" "size" "I" (.int (0 : Int32)) := F_size_a1.keep Kq8 (ninS ne_a1_xa nin0)
  obtain ⟨T13, X13, e13, st13⟩ := getF X11 hx hZ hown (host := "") (Or.inl (wd_37 hw)) Via.refl e11 f12 (g := (mkF m 105 #[.val (.ref a1), .val (.long q1), .second, .val (.int (0 : Int32)), .unset] [(.ref a1), (.int (1 : Int32)), (.ref xl), (.int (0 : Int32)), (.ref xl)])) rfl rfl (hb hby d4_105)
  refine own_go st13 ?_
  refine own_go (fun _ => XS.iloadN X13.here hx rfl (hb hby d4_108) rfl) ?_
  show own_G p e below Φ T13 (mkF m 109 #[.val (.ref a1), .val (.long q1), .second, .val (.int (0 : Int32)), .unset] [(.int (0 : Int32)), (.int (0 : Int32)), (.int (1 : Int32)), (.ref xl), (.int (0 : Int32)), (.ref xl)])
  refine own_go (fun _ => XS.isub X13.here hx rfl (hb hby d4_109) rfl) ?_
  show own_G p e below Φ T13 (mkF m 110 #[.val (.ref a1), .val (.long q1), .second, .val (.int (0 : Int32)), .unset] [(.int (0 : Int32)), (.int (1 : Int32)), (.ref xl), (.int (0 : Int32)), (.ref xl)])
  have f15 : Arv Z h8 xl kl (.object "corro/core/Level") (64 : Int32) [] .null := V_xl.keep Kq8 (ninS (Ne.symm ne_xa_xl) nin0)
  have V14p : Arv Z h8 xl kl (.object "corro/core/Level") (64 : Int32) [.null] .null := f15.pad (pad_rep [] .null 1)
  obtain ⟨cl14, Ar14, zq14, -⟩ := id V14p
  obtain ⟨T14, h14, L14, X14, e14, N14, Kq14, V14q, st14⟩ := cpA X13 hx hZ hown (wd_53 hw) (wd_56 hw) (wd_54 hw) (wd_55 hw) e13 V14p V14p (us := []) (Or.inr ⟨rfl, rfl, trivial⟩) (sp := (0 : Int32)) (dp := (1 : Int32)) (nn := (0 : Int32)) (by decide) (by decide) (by decide) (by decide) (by decide) rfl (Nat.le_of_ble_eq_true rfl) N8 g_xl (g := (mkF m 110 #[.val (.ref a1), .val (.long q1), .second, .val (.int (0 : Int32)), .unset] [(.int (0 : Int32)), (.int (1 : Int32)), (.ref xl), (.int (0 : Int32)), (.ref xl)])) rfl (by rw [hml]; rfl) rfl (hb hby d4_110) (by decide) (W := 0) (by show 2 * 0 + _ ≤ _; exact Nat.le_of_eq rfl) (by decide)
  refine own_go st14 ?_
  have V14 : Arv Z h14 xl kl (.object "corro/core/Level") (64 : Int32) [.null] .null := V14q
  have K14 := K8.trans Kq14 (allS (Or.inl (List.mem_of_getElem? (i := 2) rfl)) all0)
  have Zp14 : n0 ≤ h14.size := Nat.le_trans Zp8 Kq14.1
  show own_G p e below Φ T14 (mkF m 113 #[.val (.ref a1), .val (.long q1), .second, .val (.int (0 : Int32)), .unset] [])
  obtain ⟨T16, h16, X16, e16, E16, A16, D16, -, st16⟩ := newO X14 hx hZ hown (wd_20 hw) (wd_57 hw) (wd_58 hw) e14 (g := (mkF m 113 #[.val (.ref a1), .val (.long q1), .second, .val (.int (0 : Int32)), .unset] [])) rfl (hb hby d4_113) (by decide) (by decide)
  obtain ⟨ob16, g16⟩ : ∃ z, z = h14.size := ⟨_, rfl⟩
  rw [← g16] at A16 D16 st16
  have f17 : Exa Z h8 a1 "corro/core/LimitLevels" := E_a1.keep Kq8
  have f18 : Exa Z h14 a1 "corro/core/LimitLevels" := f17.keep Kq14
  have ne_a1_ob16 : a1 ≠ ob16 := Nat.ne_of_lt (Nat.lt_of_lt_of_le f18.lt (Nat.le_of_eq g16.symm))
  have f19 : Arv Z h14 xa kk .long (64 : Int32) [(.long (0 : Int64))] (.long (0 : Int64)) := V8.keep Kq14 (ninS ne_xa_xl nin0)
  have ne_xa_ob16 : xa ≠ ob16 := Nat.ne_of_lt (Nat.lt_of_lt_of_le f19.lt (Nat.le_of_eq g16.symm))
  have ne_xl_ob16 : xl ≠ ob16 := Nat.ne_of_lt (Nat.lt_of_lt_of_le V14.lt (Nat.le_of_eq g16.symm))
  have g_ob16 : n0 ≤ ob16 := Nat.le_trans Zp14 (Nat.le_of_eq g16.symm)
  have sz_ob16 : h0.size ≤ ob16 := Nat.le_trans K14.1 (Nat.le_of_eq g16.symm)
  have K16 := K14.ext E16
  have Zp16 : n0 ≤ h16.size := Nat.le_trans Zp14 E16.1
  refine own_go st16 ?_
  refine own_go (fun _ => XS.dup X16.here hx rfl (hb hby d4_116) rfl rfl) ?_
  show own_G p e below Φ T16 (mkF m 117 #[.val (.ref a1), .val (.long q1), .second, .val (.int (0 : Int32)), .unset] [(.ref ob16), (.ref ob16)])
  obtain ⟨_, _, ⟨T20, zL20, zk20, zn20⟩, -, X20, ⟨Lc20, hQ20, zl20, zy20, zz20⟩, st20⟩ := X16.specialBack hx (y := (⟨"corro/core/Level", "<init>", "()V"⟩ : MethodName)) rfl hown (mvT hZ (wd_59 hw)) (mvT hZ (wd_60 hw)) (mvT hZ (wd_61 hw)) (by decide) (backOf (W := 1) (rmL l Z a0 hw [] ob16 h16 n0 Zp16 ) hZ (wd_61 hw) (wd_58 hw) (by decide) (by decide)) (g := (mkF m 117 #[.val (.ref a1), .val (.long q1), .second, .val (.int (0 : Int32)), .unset] [(.ref ob16), (.ref ob16)])) rfl (by rw [hml]; rfl) (Steps.refl _) (a := ob16) (argsL := []) (rest := [(.ref ob16)]) (lenOf pd_4 rfl) rfl (by show 2 * 0 + _ ≤ _; exact Nat.le_of_eq rfl) (hb hby d4_117) (fun _ _ => ⟨rfl, e16, (by decide : 1 + 0 ≤ _), (by decide : 2 + 0 ≤ _)⟩)
  dsimp only [Pt.U, Pt.locs, Pt.cells, Pt.slots] at X20 zl20 zy20 zz20 st20 hQ20
  subst zl20 zy20 zz20
  obtain ⟨rfl, N20q, hs20⟩ := hQ20
  have N20 := Fr.app N14 N20q
  refine own_on st20 ?_
  refine own_go (fun _ => XS.astore X20.here hx rfl (hb hby d4_120) rfl rfl (l' := #[.val (.ref a1), .val (.long q1), .second, .val (.int (0 : Int32)), .val (.ref ob16)]) rfl) ?_
  refine own_go (fun _ => XS.aloadN X20.here hx rfl (hb hby d4_122) rfl rfl) ?_
  show own_G p e below Φ T20 (mkF m 123 #[.val (.ref a1), .val (.long q1), .second, .val (.int (0 : Int32)), .val (.ref ob16)] [(.ref a1)])
  have f21 : Fld Z h8 a1 "corro/core/LimitLevels" "keys" "[J" (.ref xa) := F_keys_a1.keep Kq8 (ninS ne_a1_xa nin0)
  have f22 : Fld Z h14 a1 "corro/core/LimitLevels" "keys" "[J" (.ref xa) := f21.keep Kq14 (ninS ne_a1_xl nin0)
  have f23 : Fld Z h16 a1 "corro/core/LimitLevels" "keys" "[J" (.ref xa) := f22.ext E16
  obtain ⟨T24, X24, e24, st24⟩ := getF X20 hx hZ hown (host := "") (Or.inl (wd_18 hw)) Via.refl hs20 f23 (g := (mkF m 123 #[.val (.ref a1), .val (.long q1), .second, .val (.int (0 : Int32)), .val (.ref ob16)] [(.ref a1)])) rfl rfl (hb hby d4_123)
  refine own_go st24 ?_
  refine own_go (fun _ => XS.iloadN X24.here hx rfl (hb hby d4_126) rfl) ?_
  refine own_go (fun _ => XS.aloadN X24.here hx rfl (hb hby d4_127) rfl rfl) ?_
  show own_G p e below Φ T24 (mkF m 128 #[.val (.ref a1), .val (.long q1), .second, .val (.int (0 : Int32)), .val (.ref ob16)] [(.ref a1), (.int (0 : Int32)), (.ref xa)])
  refine own_go (fun _ => XS.lloadN X24.here hx rfl (hb hby d4_128) rfl) ?_
  show own_G p e below Φ T24 (mkF m 129 #[.val (.ref a1), .val (.long q1), .second, .val (.int (0 : Int32)), .val (.ref ob16)] [(.long q1), (.ref a1), (.int (0 : Int32)), (.ref xa)])
  have f25 : Fld Z h8 a1 "corro/core/LimitLevels" "highestFirst" "Z" (.int hf) := F_highestFirst_a1.keep Kq8 (ninS ne_a1_xa nin0)
  have f26 : Fld Z h14 a1 "corro/core/LimitLevels" "highestFirst" "Z" (.int hf) := f25.keep Kq14 (ninS ne_a1_xl nin0)
  have f27 : Fld Z h16 a1 "corro/core/LimitLevels" "highestFirst" "Z" (.int hf) := f26.ext E16
  have f29 : Exa Z h16 a1 "corro/core/LimitLevels" := f18.ext E16
  obtain ⟨cq28, zc28, zc28z⟩ := f29.cell
  obtain ⟨_, _, ⟨T28, zL28, zk28, zn28⟩, -, X28, ⟨Lc28, hQ28, zl28, zy28, zz28⟩, st28⟩ := X24.privateBack hx (y := (⟨"corro/core/LimitLevels", "key", "(J)J"⟩ : MethodName)) hown (mvT hZ (wd_39 hw)) (mvT hZ (wd_40 hw)) (own_selp (x := (⟨"corro/core/LimitLevels", "getOrAdd", "(J)Lcorro/core/Level;"⟩ : MethodName)) rfl (mvT hZ (wd_30 hw)) (notFace_of_selects (args := #[]) (mvT hZ (wd_31 hw))) (Cond.privateMethod_at (mvP hZ (wd_41 hw) (args := #[]))) (mvT hZ (wd_40 hw)) (by decide)) (Cond.privateMethod_at (mvP hZ (wd_41 hw) (args := #[]))) (mvT hZ (wd_42 hw)) (by decide) (backOf (W := 2) (rmK l Z a0 hw [] a1 q1 hf h16 n0 Zp16 f27) hZ (wd_42 hw) (wd_7 hw) (by decide) (by decide)) (g := (mkF m 129 #[.val (.ref a1), .val (.long q1), .second, .val (.int (0 : Int32)), .val (.ref ob16)] [(.long q1), (.ref a1), (.int (0 : Int32)), (.ref xa)])) rfl (by rw [hml]; rfl) (Steps.refl _) (a := a1) (by rw [e24]; exact zc28) zc28z (argsL := [(.long q1)]) (rest := [(.int (0 : Int32)), (.ref xa)]) (lenOf pd_2 rfl) rfl (by show 2 * 0 + _ ≤ _; exact Nat.le_of_eq rfl) (hb hby d4_129) (fun _ _ => ⟨rfl, e24, (by decide : 1 + 0 ≤ _), (by decide : 2 + 0 ≤ _)⟩)
  dsimp only [Pt.U, Pt.locs, Pt.cells, Pt.slots] at X28 zl28 zy28 zz28 st28 hQ28
  subst zl28 zy28 zz28
  obtain ⟨rfl, N28q, hs28⟩ := hQ28
  have N28 := Fr.app N20 N28q
  refine own_on st28 ?_
  show own_G p e below Φ T28 (mkF m 132 #[.val (.ref a1), .val (.long q1), .second, .val (.int (0 : Int32)), .val (.ref ob16)] [(.long (own_key hf q1)), (.int (0 : Int32)), (.ref xa)])
  have f30 : Arv Z h16 xa kk .long (64 : Int32) [(.long (0 : Int64))] (.long (0 : Int64)) := f19.ext E16
  obtain ⟨cl31, Ar31, zq31, S31, M31, H31, G31⟩ := id f30
  have hin31 : ¬ ((0 : Int32) < 0 ∨ cl31.slots.size ≤ ((0 : Int32)).toNatClampNeg) := inb_of S31 ⟨by decide, by decide⟩
  obtain ⟨T31, h31, X31, e31, W31, st31⟩ := stJ X28 hx hZ hs28 Ar31 (j := (0 : Int32)) hin31 (g := (mkF m 132 #[.val (.ref a1), .val (.long q1), .second, .val (.int (0 : Int32)), .val (.ref ob16)] [(.long (own_key hf q1)), (.int (0 : Int32)), (.ref xa)])) rfl rfl (hb hby d4_132)
  refine own_go st31 ?_
  have V31 : Arv Z h31 xa kk .long (64 : Int32) [(.long (own_key hf q1))] (.long (0 : Int64)) := Arv.set Ar31 zq31 S31 M31 H31 G31 rfl W31 0 rfl (Nat.le_of_ble_eq_true rfl)
  have N31 := Fr.snoc X31 N28 g_xa
  have K31 := K16.wr W31 (Or.inl (List.mem_of_getElem? (i := 1) rfl))
  have Zp31 : n0 ≤ h31.size := Nat.le_trans Zp16 (Keep.of_wr W31).1
  refine own_go (fun _ => XS.aloadN X31.here hx rfl (hb hby d4_133) rfl rfl) ?_
  show own_G p e below Φ T31 (mkF m 134 #[.val (.ref a1), .val (.long q1), .second, .val (.int (0 : Int32)), .val (.ref ob16)] [(.ref a1)])
  have f32 : Fld Z h14 a1 "corro/core/LimitLevels" "levels" "[Lcorro/core/Level;" (.ref xl) := f9.keep Kq14 (ninS ne_a1_xl nin0)
  have f33 : Fld Z h16 a1 "corro/core/LimitLevels" "levels" "[Lcorro/core/Level;" (.ref xl) := f32.ext E16
  have f34 : Fld Z h31 a1 "corro/core/LimitLevels" "levels" "[Lcorro/core/Level;" (.ref xl) := f33.other W31 (Or.inl ne_a1_xa)
  obtain ⟨T35, X35, e35, st35⟩ := getF X31 hx hZ hown (host := "") (Or.inl (wd_22 hw)) Via.refl e31 f34 (g := (mkF m 134 #[.val (.ref a1), .val (.long q1), .second, .val (.int (0 : Int32)), .val (.ref ob16)] [(.ref a1)])) rfl rfl (hb hby d4_134)
  refine own_go st35 ?_
  refine own_go (fun _ => XS.iloadN X35.here hx rfl (hb hby d4_137) rfl) ?_
  refine own_go (fun _ => XS.aload X35.here hx rfl (hb hby d4_138) rfl rfl) ?_
  show own_G p e below Φ T35 (mkF m 140 #[.val (.ref a1), .val (.long q1), .second, .val (.int (0 : Int32)), .val (.ref ob16)] [(.ref ob16), (.int (0 : Int32)), (.ref xl)])
  have f36 : Arv Z h16 xl kl (.object "corro/core/Level") (64 : Int32) [.null] .null := V14.ext E16
  have f37 : Arv Z h31 xl kl (.object "corro/core/Level") (64 : Int32) [.null] .null := f36.other W31 (Ne.symm ne_xa_xl)
  obtain ⟨cl38, Ar38, zq38, S38, M38, H38, G38⟩ := id f37
  have hin38 : ¬ ((0 : Int32) < 0 ∨ cl38.slots.size ≤ ((0 : Int32)).toNatClampNeg) := inb_of S38 ⟨by decide, by decide⟩
  have f39 : Exa Z h31 ob16 "corro/core/Level" := A16.wr W31
  obtain ⟨T38, h38, X38, e38, W38, st38⟩ := stR X35 hx hZ e35 Ar38 (j := (0 : Int32)) hin38 rfl (Sto.ofV Ar38 zq38 hO (Ins.self f39)) (g := (mkF m 140 #[.val (.ref a1), .val (.long q1), .second, .val (.int (0 : Int32)), .val (.ref ob16)] [(.ref ob16), (.int (0 : Int32)), (.ref xl)])) rfl rfl (hb hby d4_140)
  refine own_go st38 ?_
  have V38 : Arv Z h38 xl kl (.object "corro/core/Level") (64 : Int32) [(.ref ob16)] .null := Arv.set Ar38 zq38 S38 M38 H38 G38 rfl W38 0 rfl (Nat.le_of_ble_eq_true rfl)
  have N38 := Fr.snoc X38 N31 g_xl
  have K38 := K31.wr W38 (Or.inl (List.mem_of_getElem? (i := 2) rfl))
  have Zp38 : n0 ≤ h38.size := Nat.le_trans Zp31 (Keep.of_wr W38).1
  refine own_go (fun _ => XS.aloadN X38.here hx rfl (hb hby d4_141) rfl rfl) ?_
  refine own_go (fun _ => XS.dup X38.here hx rfl (hb hby d4_142) rfl rfl) ?_
  show own_G p e below Φ T38 (mkF m 143 #[.val (.ref a1), .val (.long q1), .second, .val (.int (0 : Int32)), .val (.ref ob16)] [(.ref a1), (.ref a1)])
  have f40 : Fld Z h14 a1 "corro/core/LimitLevels" "size" "I" (.int (0 : Int32)) := f12.keep Kq14 (ninS ne_a1_xl nin0)
  have f41 : Fld Z h16 a1 "corro/core/LimitLevels" "size" "I" (.int (0 : Int32)) := f40.ext E16
  have f42 : Fld Z h31 a1 "corro/core/LimitLevels" "size" "I" (.int (0 : Int32)) := f41.other W31 (Or.inl ne_a1_xa)
  have f43 : Fld Z h38 a1 "corro/core/LimitLevels" "size" "I" (.int (0 : Int32)) := f42.other W38 (Or.inl ne_a1_xl)
  obtain ⟨T44, X44, e44, st44⟩ := getF X38 hx hZ hown (host := "") (Or.inl (wd_37 hw)) Via.refl e38 f43 (g := (mkF m 143 #[.val (.ref a1), .val (.long q1), .second, .val (.int (0 : Int32)), .val (.ref ob16)] [(.ref a1), (.ref a1)])) rfl rfl (hb hby d4_143)
  refine own_go st44 ?_
  refine own_go (fun _ => XS.iconst X44.here hx rfl (hb hby d4_146)) ?_
  show own_G p e below Φ T44 (mkF m 147 #[.val (.ref a1), .val (.long q1), .second, .val (.int (0 : Int32)), .val (.ref ob16)] [(.int (1 : Int32)), (.int (0 : Int32)), (.ref a1)])
  refine own_go (fun _ => XS.iadd X44.here hx rfl (hb hby d4_147) rfl) ?_
  show own_G p e below Φ T44 (mkF m 148 #[.val (.ref a1), .val (.long q1), .second, .val (.int (0 : Int32)), .val (.ref ob16)] [(.int (1 : Int32)), (.ref a1)])
  have f45 : Exa Z h31 a1 "corro/core/LimitLevels" := f29.wr W31
  have f46 : Exa Z h38 a1 "corro/core/LimitLevels" := f45.wr W38
  obtain ⟨T47, h47, X47, e47, W47, st47⟩ := putF X44 hx hZ hown (host := "") (Or.inl (wd_37 hw)) Via.refl e44 f43 f46 (Or.inl (wd_38 hw)) (wd_6 hw) (ty := .int) (by decide) rfl rfl (g := (mkF m 148 #[.val (.ref a1), .val (.long q1), .second, .val (.int (0 : Int32)), .val (.ref ob16)] [(.int (1 : Int32)), (.ref a1)])) rfl rfl (hb hby d4_148)
  refine own_go st47 ?_
  have N47 := Fr.snoc X47 N38 g_a1
  have K47 := K38.wr W47 (Or.inl (List.mem_of_getElem? (i := 0) rfl))
  have Zp47 : n0 ≤ h47.size := Nat.le_trans Zp38 (Keep.of_wr W47).1
  have f47w := f43.same W47
  refine own_go (fun _ => XS.aload X47.here hx rfl (hb hby d4_151) rfl rfl) ?_
  show own_G p e below Φ T47 (mkF m 153 #[.val (.ref a1), .val (.long q1), .second, .val (.int (0 : Int32)), .val (.ref ob16)] [(.ref ob16)])
  have f48 : Exa Z h47 a1 "corro/core/LimitLevels" := f46.wr W47
  have f49 : Fld Z h31 a1 "corro/core/LimitLevels" "keys" "[J" (.ref xa) := f23.other W31 (Or.inl ne_a1_xa)
  have f50 : Fld Z h38 a1 "corro/core/LimitLevels" "keys" "[J" (.ref xa) := f49.other W38 (Or.inl ne_a1_xl)
  have f51 : Fld Z h47 a1 "corro/core/LimitLevels" "keys" "[J" (.ref xa) := f50.other W47 (Or.inr (sl_9 hw))
  have f52 : Fld Z h38 a1 "corro/core/LimitLevels" "levels" "[Lcorro/core/Level;" (.ref xl) := f34.other W38 (Or.inl ne_a1_xl)
  have f53 : Fld Z h47 a1 "corro/core/LimitLevels" "levels" "[Lcorro/core/Level;" (.ref xl) := f52.other W47 (Or.inr (sl_10 hw))
  have f54 : Fld Z h31 a1 "corro/core/LimitLevels" "highestFirst" "Z" (.int hf) := f27.other W31 (Or.inl ne_a1_xa)
  have f55 : Fld Z h38 a1 "corro/core/LimitLevels" "highestFirst" "Z" (.int hf) := f54.other W38 (Or.inl ne_a1_xl)
  have f56 : Fld Z h47 a1 "corro/core/LimitLevels" "highestFirst" "Z" (.int hf) := f55.other W47 (Or.inr (sl_11 hw))
  have f57 : Arv Z h38 xa kk .long (64 : Int32) [(.long (own_key hf q1))] (.long (0 : Int64)) := V31.other W38 ne_xa_xl
  have f58 : Arv Z h47 xa kk .long (64 : Int32) [(.long (own_key hf q1))] (.long (0 : Int64)) := f57.other W47 (Ne.symm ne_a1_xa)
  have f59 : Arv Z h47 xl kl (.object "corro/core/Level") (64 : Int32) [(.ref ob16)] .null := V38.other W47 (Ne.symm ne_a1_xl)
  have f60 : Exa Z h38 ob16 "corro/core/Level" := f39.wr W38
  have f61 : Exa Z h47 ob16 "corro/core/Level" := f60.wr W47
  rw [hΦ]
  refine own_ret X47 (v := some (.ref ob16)) (fun h => by rw [Bd.returns] at h; cases h) (BodyLoose.notSynchronized Bd) (fun fs hr => retOut X47 hx Bd.returns rfl (Or.inr (Or.inr (Or.inr (Or.inr ⟨rfl, rfl, rfl⟩)))) (hb hby d4_153) hr) ?_ (by decide) (by decide)
  rw [e47]
  exact ⟨ob16, sz_ob16, rfl, N47, K47, f48, f51, f53, f47w, f56, f58, f59, f61⟩
theorem ef_rmG_1ins0 (m : MethodId) (a1 : Addr) (q1 : Int64) : entryFrame m #[(.ref a1), (.long q1)] 5 = mkF m 0 #[.val (.ref a1), .val (.long q1), .second, .unset, .unset] [] := by first | (simp [entryFrame, mkF, argsToLocals, Value.category]; done) | rfl
def Q_rmG_1ins0 (Z : State) (a1 : Addr) (q1 : Int64) (hf : Int32) (xa : Addr) (xl : Addr) (kk : ClassId) (kl : ClassId) (k0 : Int64) (l0 : Addr) (h0 : Heap) (n0 : Nat) (v : Option Value) (h : Heap) (L : List Loc) : Prop := ∃ lv : Addr, h0.size ≤ lv ∧ v = some (.ref lv) ∧ Fr n0 L ∧ Keep h0 h [a1, xa, xl] ∧ Exa Z h a1 "corro/core/LimitLevels" ∧ Fld Z h a1 "corro/core/LimitLevels" "keys" "[J" (.ref xa) ∧ Fld Z h a1 "corro/core/LimitLevels" "levels" "[Lcorro/core/Level;" (.ref xl) ∧ Fld Z h a1 "corro/core/LimitLevels" "size" "I" (.int (2 : Int32)) ∧ Fld Z h a1 "corro/core/LimitLevels" "highestFirst" "Z" (.int hf) ∧ Arv Z h xa kk .long (64 : Int32) [(.long (own_key hf q1)), (.long k0)] (.long (0 : Int64)) ∧ Arv Z h xl kl (.object "corro/core/Level") (64 : Int32) [(.ref lv), (.ref l0)] .null ∧ Exa Z h lv "corro/core/Level"
set_option maxRecDepth 65536 in
set_option maxHeartbeats 40000000 in
theorem rmG_1ins0 (l : Launch) (Z : State) (a0 : Array Value) (hw : ∀ d ∈ tables_1, d.before a0 Z = true) (ws : List Jvm.Cond) (a1 : Addr) (q1 : Int64) (hf : Int32) (xa : Addr) (xl : Addr) (kk : ClassId) (kl : ClassId) (k0 : Int64) (l0 : Addr) (h0 : Heap) (n0 : Nat) (Z0 : n0 ≤ h0.size) (E_a1 : Exa Z h0 a1 "corro/core/LimitLevels") (F_keys_a1 : Fld Z h0 a1 "corro/core/LimitLevels" "keys" "[J" (.ref xa)) (F_levels_a1 : Fld Z h0 a1 "corro/core/LimitLevels" "levels" "[Lcorro/core/Level;" (.ref xl)) (F_size_a1 : Fld Z h0 a1 "corro/core/LimitLevels" "size" "I" (.int (1 : Int32))) (F_highestFirst_a1 : Fld Z h0 a1 "corro/core/LimitLevels" "highestFirst" "Z" (.int hf)) (V_xa : Arv Z h0 xa kk .long (64 : Int32) [(.long k0)] (.long (0 : Int64))) (V_xl : Arv Z h0 xl kl (.object "corro/core/Level") (64 : Int32) [(.ref l0)] .null) (E_l0 : Exa Z h0 l0 "corro/core/Level") (g_a1 : n0 ≤ a1) (g_xa : n0 ≤ xa) (g_xl : n0 ≤ xl) (ne_a1_xa : a1 ≠ xa) (ne_a1_xl : a1 ≠ xl) (ne_xa_xl : xa ≠ xl) (hO : Ovr Z kl "corro/core/Level") (r0 : (own_key hf q1) < k0) :
    MetFree l (⟨"corro/core/LimitLevels", "getOrAdd", "(J)Lcorro/core/Level;"⟩ : MethodName) (head1 (Jvm.Cond.code (⟨"corro/core/LimitLevels", "getOrAdd", "(J)Lcorro/core/Level;"⟩ : MethodName) prog_14_method_7_code 5 (some (.object "corro/core/Level")) :: ws) ({ frames := 3, cells := 1, slots := 2, locals := 51 } : Room)) (fun a U => a = #[(.ref a1), (.long q1)] ∧ Z.Warmed39 U.vm ∧ U.heap = h0) (fun _ _ _ _ _ => True) (fun _ U o U' => ∃ v L, o = .returned v ∧ Q_rmG_1ins0 Z a1 q1 hf xa xl kk kl k0 l0 h0 n0 v U'.heap L ∧ FrameEnd U o U' L ({ frames := 3, cells := 1, slots := 2, locals := 51 } : Room).cells ({ frames := 3, cells := 1, slots := 2, locals := 51 } : Room).slots) := by
  refine MetFree.of_bodySF (plainFor_of_name pn_1) hisR ?_
  intro p e s m args below meth c s₁ Bd hml0 hP hK
  obtain ⟨rfl, hZ, hh⟩ := hP
  have hx := Bd.exec
  have hby := Bd.bytes
  have hml : c.maxLocals = 5 := hml0
  have hown : s.vm.findClass "corro/core/LimitLevels" = some m.cls := findClass_of_methodNamed Bd.named
  have hnm := (name_of_methodNamed Bd.named Bd.method).1
  have X0 : Stand p l e ({ frames := 3, cells := 1, slots := 2, locals := 51 } : Room) s m #[(.ref a1), (.long q1)] below meth c s₁ [] 0 0 := Stand.of_body Bd
  have e0 : s₁.heap = h0 := by rw [← hh, Bd.state]; rfl
  have N0 := Fr.nil n0
  have K0 : Keep h0 h0 [a1, xa, xl] := Keep.refl _ _
  suffices G0 : own_G p e below (own_E s below (Q_rmG_1ins0 Z a1 q1 hf xa xl kk kl k0 l0 h0 n0) ({ frames := 3, cells := 1, slots := 2, locals := 51 } : Room).cells ({ frames := 3, cells := 1, slots := 2, locals := 51 } : Room).slots) s₁ (mkF m 0 #[.val (.ref a1), .val (.long q1), .second, .unset, .unset] []) by
    obtain ⟨zt, zst, zo, zq1, zq2, zq3⟩ := G0
    exact ⟨zt, zo, castTop (ef_rmG_1ins0 m a1 q1) zst, zq1, zq2, zq3⟩
  obtain ⟨Φ, hΦ⟩ : ∃ Φ, Φ = own_E s below (Q_rmG_1ins0 Z a1 q1 hf xa xl kk kl k0 l0 h0 n0) ({ frames := 3, cells := 1, slots := 2, locals := 51 } : Room).cells ({ frames := 3, cells := 1, slots := 2, locals := 51 } : Room).slots := ⟨_, rfl⟩
  rw [← hΦ]
  show own_G p e below Φ s₁ (mkF m 0 #[.val (.ref a1), .val (.long q1), .second, .unset, .unset] [])
  refine own_go (fun _ => XS.aloadN X0.here hx rfl (hb hby d4_0) rfl rfl) ?_
  refine own_go (fun _ => XS.lloadN X0.here hx rfl (hb hby d4_1) rfl) ?_
  show own_G p e below Φ s₁ (mkF m 2 #[.val (.ref a1), .val (.long q1), .second, .unset, .unset] [(.long q1), (.ref a1)])
  obtain ⟨cq1, zc1, zc1z⟩ := E_a1.cell
  obtain ⟨_, _, ⟨T1, zL1, zk1, zn1⟩, -, X1, ⟨Lc1, hQ1, zl1, zy1, zz1⟩, st1⟩ := X0.privateBack hx (y := (⟨"corro/core/LimitLevels", "search", "(J)I"⟩ : MethodName)) hown (mvT hZ (wd_33 hw)) (mvT hZ (wd_34 hw)) (own_selp (x := (⟨"corro/core/LimitLevels", "getOrAdd", "(J)Lcorro/core/Level;"⟩ : MethodName)) rfl (mvT hZ (wd_30 hw)) (notFace_of_selects (args := #[]) (mvT hZ (wd_31 hw))) (Cond.privateMethod_at (mvP hZ (wd_35 hw) (args := #[]))) (mvT hZ (wd_34 hw)) (by decide)) (Cond.privateMethod_at (mvP hZ (wd_35 hw) (args := #[]))) (mvT hZ (wd_36 hw)) (by decide) (backOf (W := 0) (rmS_1ins0 l Z a0 hw [] a1 q1 hf xa kk k0 h0 n0 Z0 E_a1 F_keys_a1 F_size_a1 F_highestFirst_a1 V_xa r0) hZ (wd_36 hw) (wd_7 hw) (by decide) (by decide)) (g := (mkF m 2 #[.val (.ref a1), .val (.long q1), .second, .unset, .unset] [(.long q1), (.ref a1)])) rfl (by rw [hml]; rfl) (Steps.refl _) (a := a1) (by rw [e0]; exact zc1) zc1z (argsL := [(.long q1)]) (rest := []) (lenOf pd_3 rfl) rfl (by show 2 * 0 + _ ≤ _; exact Nat.le_of_eq rfl) (hb hby d4_2) (fun _ _ => ⟨rfl, e0, (by decide : 0 + 0 ≤ _), (by decide : 0 + 0 ≤ _)⟩)
  dsimp only [Pt.U, Pt.locs, Pt.cells, Pt.slots] at X1 zl1 zy1 zz1 st1 hQ1
  subst zl1 zy1 zz1
  obtain ⟨rfl, N1q, hs1⟩ := hQ1
  have N1 := Fr.app N0 N1q
  refine own_on st1 ?_
  refine own_go (fun _ => XS.istoreN X1.here hx rfl (hb hby d4_5) rfl (l' := #[.val (.ref a1), .val (.long q1), .second, .val (.int (-1 : Int32)), .unset]) rfl) ?_
  refine own_go (fun _ => XS.iloadN X1.here hx rfl (hb hby d4_6) rfl) ?_
  show own_G p e below Φ T1 (mkF m 7 #[.val (.ref a1), .val (.long q1), .second, .val (.int (-1 : Int32)), .unset] [(.int (-1 : Int32))])
  refine own_go (fun _ => XS.ifYes X1.here hx rfl (pc0 := 7) (pc' := 17) rfl (hb hby d4_7) rfl (Jvm.Free.XT.i0_lt_t (by decide : ((-1 : Int32) < (0 : Int32)))) (by decide) (by decide)) ?_
  refine own_go (fun _ => XS.iloadN X1.here hx rfl (hb hby d4_17) rfl) ?_
  show own_G p e below Φ T1 (mkF m 18 #[.val (.ref a1), .val (.long q1), .second, .val (.int (-1 : Int32)), .unset] [(.int (-1 : Int32))])
  refine own_go (fun _ => XS.ineg X1.here hx rfl (hb hby d4_18) rfl) ?_
  refine own_go (fun _ => XS.iconst X1.here hx rfl (hb hby d4_19)) ?_
  show own_G p e below Φ T1 (mkF m 20 #[.val (.ref a1), .val (.long q1), .second, .val (.int (-1 : Int32)), .unset] [(.int (1 : Int32)), (.int (1 : Int32))])
  refine own_go (fun _ => XS.isub X1.here hx rfl (hb hby d4_20) rfl) ?_
  refine own_go (fun _ => XS.istoreN X1.here hx rfl (hb hby d4_21) rfl (l' := #[.val (.ref a1), .val (.long q1), .second, .val (.int (0 : Int32)), .unset]) rfl) ?_
  refine own_go (fun _ => XS.aloadN X1.here hx rfl (hb hby d4_22) rfl rfl) ?_
  show own_G p e below Φ T1 (mkF m 23 #[.val (.ref a1), .val (.long q1), .second, .val (.int (0 : Int32)), .unset] [(.ref a1)])
  obtain ⟨T2, X2, e2, st2⟩ := getF X1 hx hZ hown (host := "") (Or.inl (wd_37 hw)) Via.refl hs1 F_size_a1 (g := (mkF m 23 #[.val (.ref a1), .val (.long q1), .second, .val (.int (0 : Int32)), .unset] [(.ref a1)])) rfl rfl (hb hby d4_23)
  refine own_go st2 ?_
  refine own_go (fun _ => XS.aloadN X2.here hx rfl (hb hby d4_26) rfl rfl) ?_
  show own_G p e below Φ T2 (mkF m 27 #[.val (.ref a1), .val (.long q1), .second, .val (.int (0 : Int32)), .unset] [(.ref a1), (.int (1 : Int32))])
  obtain ⟨T3, X3, e3, st3⟩ := getF X2 hx hZ hown (host := "") (Or.inl (wd_18 hw)) Via.refl e2 F_keys_a1 (g := (mkF m 27 #[.val (.ref a1), .val (.long q1), .second, .val (.int (0 : Int32)), .unset] [(.ref a1), (.int (1 : Int32))])) rfl rfl (hb hby d4_27)
  refine own_go st3 ?_
  show own_G p e below Φ T3 (mkF m 30 #[.val (.ref a1), .val (.long q1), .second, .val (.int (0 : Int32)), .unset] [(.ref xa), (.int (1 : Int32))])
  obtain ⟨cl4, Ar4, zq4, S4, M4, H4, G4⟩ := id V_xa
  refine own_go (fun _ => X3.arraylength hx (by rw [e3]; exact Ar4.1) (State.isArrayOf_alike hZ.alike Ar4.2.1) (g := (mkF m 30 #[.val (.ref a1), .val (.long q1), .second, .val (.int (0 : Int32)), .unset] [(.ref xa), (.int (1 : Int32))])) rfl rfl (hb hby d4_30) _) ?_
  rw [len_of S4 M4]
  show own_G p e below Φ T3 (mkF m 31 #[.val (.ref a1), .val (.long q1), .second, .val (.int (0 : Int32)), .unset] [(.int (64 : Int32)), (.int (1 : Int32))])
  refine own_go (fun _ => XS.icmpYes X3.here hx rfl (pc0 := 31) (pc' := 71) rfl (hb hby d4_31) rfl (Jvm.Free.XT.ii_ne_t (by decide : ¬ ((1 : Int32) = (64 : Int32)))) (by decide) (by decide)) ?_
  refine own_go (fun _ => XS.aloadN X3.here hx rfl (hb hby d4_71) rfl rfl) ?_
  show own_G p e below Φ T3 (mkF m 72 #[.val (.ref a1), .val (.long q1), .second, .val (.int (0 : Int32)), .unset] [(.ref a1)])
  obtain ⟨T5, X5, e5, st5⟩ := getF X3 hx hZ hown (host := "") (Or.inl (wd_18 hw)) Via.refl e3 F_keys_a1 (g := (mkF m 72 #[.val (.ref a1), .val (.long q1), .second, .val (.int (0 : Int32)), .unset] [(.ref a1)])) rfl rfl (hb hby d4_72)
  refine own_go st5 ?_
  refine own_go (fun _ => XS.iloadN X5.here hx rfl (hb hby d4_75) rfl) ?_
  refine own_go (fun _ => XS.aloadN X5.here hx rfl (hb hby d4_76) rfl rfl) ?_
  show own_G p e below Φ T5 (mkF m 77 #[.val (.ref a1), .val (.long q1), .second, .val (.int (0 : Int32)), .unset] [(.ref a1), (.int (0 : Int32)), (.ref xa)])
  obtain ⟨T6, X6, e6, st6⟩ := getF X5 hx hZ hown (host := "") (Or.inl (wd_18 hw)) Via.refl e5 F_keys_a1 (g := (mkF m 77 #[.val (.ref a1), .val (.long q1), .second, .val (.int (0 : Int32)), .unset] [(.ref a1), (.int (0 : Int32)), (.ref xa)])) rfl rfl (hb hby d4_77)
  refine own_go st6 ?_
  refine own_go (fun _ => XS.iloadN X6.here hx rfl (hb hby d4_80) rfl) ?_
  refine own_go (fun _ => XS.iconst X6.here hx rfl (hb hby d4_81)) ?_
  show own_G p e below Φ T6 (mkF m 82 #[.val (.ref a1), .val (.long q1), .second, .val (.int (0 : Int32)), .unset] [(.int (1 : Int32)), (.int (0 : Int32)), (.ref xa), (.int (0 : Int32)), (.ref xa)])
  refine own_go (fun _ => XS.iadd X6.here hx rfl (hb hby d4_82) rfl) ?_
  refine own_go (fun _ => XS.aloadN X6.here hx rfl (hb hby d4_83) rfl rfl) ?_
  show own_G p e below Φ T6 (mkF m 84 #[.val (.ref a1), .val (.long q1), .second, .val (.int (0 : Int32)), .unset] [(.ref a1), (.int (1 : Int32)), (.ref xa), (.int (0 : Int32)), (.ref xa)])
  obtain ⟨T7, X7, e7, st7⟩ := getF X6 hx hZ hown (host := "") (Or.inl (wd_37 hw)) Via.refl e6 F_size_a1 (g := (mkF m 84 #[.val (.ref a1), .val (.long q1), .second, .val (.int (0 : Int32)), .unset] [(.ref a1), (.int (1 : Int32)), (.ref xa), (.int (0 : Int32)), (.ref xa)])) rfl rfl (hb hby d4_84)
  refine own_go st7 ?_
  refine own_go (fun _ => XS.iloadN X7.here hx rfl (hb hby d4_87) rfl) ?_
  show own_G p e below Φ T7 (mkF m 88 #[.val (.ref a1), .val (.long q1), .second, .val (.int (0 : Int32)), .unset] [(.int (0 : Int32)), (.int (1 : Int32)), (.int (1 : Int32)), (.ref xa), (.int (0 : Int32)), (.ref xa)])
  refine own_go (fun _ => XS.isub X7.here hx rfl (hb hby d4_88) rfl) ?_
  show own_G p e below Φ T7 (mkF m 89 #[.val (.ref a1), .val (.long q1), .second, .val (.int (0 : Int32)), .unset] [(.int (1 : Int32)), (.int (1 : Int32)), (.ref xa), (.int (0 : Int32)), (.ref xa)])
  have V8p : Arv Z h0 xa kk .long (64 : Int32) [(.long k0), (.long (0 : Int64))] (.long (0 : Int64)) := V_xa.pad (pad_rep [(.long k0)] (.long (0 : Int64)) 1)
  obtain ⟨T8, h8, L8, X8, e8, N8, Kq8, V8q, st8⟩ := cpA X7 hx hZ hown (wd_53 hw) (wd_56 hw) (wd_54 hw) (wd_55 hw) e7 V8p V8p (us := [(.long k0)]) (Or.inl ⟨rfl, rfl⟩) (sp := (0 : Int32)) (dp := (1 : Int32)) (nn := (1 : Int32)) (by decide) (by decide) (by decide) (by decide) (by decide) rfl (Nat.le_of_ble_eq_true rfl) N1 g_xa (g := (mkF m 89 #[.val (.ref a1), .val (.long q1), .second, .val (.int (0 : Int32)), .unset] [(.int (1 : Int32)), (.int (1 : Int32)), (.ref xa), (.int (0 : Int32)), (.ref xa)])) rfl (by rw [hml]; rfl) rfl (hb hby d4_89) (by decide) (W := 0) (by show 2 * 0 + _ ≤ _; exact Nat.le_of_eq rfl) (by decide)
  refine own_go st8 ?_
  have V8 : Arv Z h8 xa kk .long (64 : Int32) [(.long k0), (.long k0)] (.long (0 : Int64)) := V8q
  have K8 := K0.trans Kq8 (allS (Or.inl (List.mem_of_getElem? (i := 1) rfl)) all0)
  have Zp8 : n0 ≤ h8.size := Nat.le_trans Z0 Kq8.1
  refine own_go (fun _ => XS.aloadN X8.here hx rfl (hb hby d4_92) rfl rfl) ?_
  show own_G p e below Φ T8 (mkF m 93 #[.val (.ref a1), .val (.long q1), .second, .val (.int (0 : Int32)), .unset] [(.ref a1)])
  have f9 : Fld Z h8 a1 "corro/core/LimitLevels" "levels" "[Lcorro/core/Level;" (.ref xl) := F_levels_a1.keep Kq8 (ninS ne_a1_xa nin0)
  obtain ⟨T10, X10, e10, st10⟩ := getF X8 hx hZ hown (host := "") (Or.inl (wd_22 hw)) Via.refl e8 f9 (g := (mkF m 93 #[.val (.ref a1), .val (.long q1), .second, .val (.int (0 : Int32)), .unset] [(.ref a1)])) rfl rfl (hb hby d4_93)
  refine own_go st10 ?_
  refine own_go (fun _ => XS.iloadN X10.here hx rfl (hb hby d4_96) rfl) ?_
  refine own_go (fun _ => XS.aloadN X10.here hx rfl (hb hby d4_97) rfl rfl) ?_
  show own_G p e below Φ T10 (mkF m 98 #[.val (.ref a1), .val (.long q1), .second, .val (.int (0 : Int32)), .unset] [(.ref a1), (.int (0 : Int32)), (.ref xl)])
  obtain ⟨T11, X11, e11, st11⟩ := getF X10 hx hZ hown (host := "") (Or.inl (wd_22 hw)) Via.refl e10 f9 (g := (mkF m 98 #[.val (.ref a1), .val (.long q1), .second, .val (.int (0 : Int32)), .unset] [(.ref a1), (.int (0 : Int32)), (.ref xl)])) rfl rfl (hb hby d4_98)
  refine own_go st11 ?_
  refine own_go (fun _ => XS.iloadN X11.here hx rfl (hb hby d4_101) rfl) ?_
  refine own_go (fun _ => XS.iconst X11.here hx rfl (hb hby d4_102)) ?_
  show own_G p e below Φ T11 (mkF m 103 #[.val (.ref a1), .val (.long q1), .second, .val (.int (0 : Int32)), .unset] [(.int (1 : Int32)), (.int (0 : Int32)), (.ref xl), (.int (0 : Int32)), (.ref xl)])
  refine own_go (fun _ => XS.iadd X11.here hx rfl (hb hby d4_103) rfl) ?_
  refine own_go (fun _ => XS.aloadN X11.here hx rfl (hb hby d4_104) rfl rfl) ?_
  show own_G p e below Φ T11 (mkF m 105 #[.val (.ref a1), .val (.long q1), .second, .val (.int (0 : Int32)), .unset] [(.ref a1), (.int (1 : Int32)), (.ref xl), (.int (0 : Int32)), (.ref xl)])
  have f12 : Fld Z h8 a1 "corro/core/LimitLevels" "size" "I" (.int (1 : Int32)) := F_size_a1.keep Kq8 (ninS ne_a1_xa nin0)
  obtain ⟨T13, X13, e13, st13⟩ := getF X11 hx hZ hown (host := "") (Or.inl (wd_37 hw)) Via.refl e11 f12 (g := (mkF m 105 #[.val (.ref a1), .val (.long q1), .second, .val (.int (0 : Int32)), .unset] [(.ref a1), (.int (1 : Int32)), (.ref xl), (.int (0 : Int32)), (.ref xl)])) rfl rfl (hb hby d4_105)
  refine own_go st13 ?_
  refine own_go (fun _ => XS.iloadN X13.here hx rfl (hb hby d4_108) rfl) ?_
  show own_G p e below Φ T13 (mkF m 109 #[.val (.ref a1), .val (.long q1), .second, .val (.int (0 : Int32)), .unset] [(.int (0 : Int32)), (.int (1 : Int32)), (.int (1 : Int32)), (.ref xl), (.int (0 : Int32)), (.ref xl)])
  refine own_go (fun _ => XS.isub X13.here hx rfl (hb hby d4_109) rfl) ?_
  show own_G p e below Φ T13 (mkF m 110 #[.val (.ref a1), .val (.long q1), .second, .val (.int (0 : Int32)), .unset] [(.int (1 : Int32)), (.int (1 : Int32)), (.ref xl), (.int (0 : Int32)), (.ref xl)])
  have f15 : Arv Z h8 xl kl (.object "corro/core/Level") (64 : Int32) [(.ref l0)] .null := V_xl.keep Kq8 (ninS (Ne.symm ne_xa_xl) nin0)
  have V14p : Arv Z h8 xl kl (.object "corro/core/Level") (64 : Int32) [(.ref l0), .null] .null := f15.pad (pad_rep [(.ref l0)] .null 1)
  obtain ⟨cl14, Ar14, zq14, -⟩ := id V14p
  have f16 : Exa Z h8 l0 "corro/core/Level" := E_l0.keep Kq8
  obtain ⟨T14, h14, L14, X14, e14, N14, Kq14, V14q, st14⟩ := cpA X13 hx hZ hown (wd_53 hw) (wd_56 hw) (wd_54 hw) (wd_55 hw) e13 V14p V14p (us := [(.ref l0)]) (Or.inr ⟨rfl, rfl, ⟨Sto.ofV Ar14 zq14 hO (Ins.self f16), trivial⟩⟩) (sp := (0 : Int32)) (dp := (1 : Int32)) (nn := (1 : Int32)) (by decide) (by decide) (by decide) (by decide) (by decide) rfl (Nat.le_of_ble_eq_true rfl) N8 g_xl (g := (mkF m 110 #[.val (.ref a1), .val (.long q1), .second, .val (.int (0 : Int32)), .unset] [(.int (1 : Int32)), (.int (1 : Int32)), (.ref xl), (.int (0 : Int32)), (.ref xl)])) rfl (by rw [hml]; rfl) rfl (hb hby d4_110) (by decide) (W := 0) (by show 2 * 0 + _ ≤ _; exact Nat.le_of_eq rfl) (by decide)
  refine own_go st14 ?_
  have V14 : Arv Z h14 xl kl (.object "corro/core/Level") (64 : Int32) [(.ref l0), (.ref l0)] .null := V14q
  have K14 := K8.trans Kq14 (allS (Or.inl (List.mem_of_getElem? (i := 2) rfl)) all0)
  have Zp14 : n0 ≤ h14.size := Nat.le_trans Zp8 Kq14.1
  show own_G p e below Φ T14 (mkF m 113 #[.val (.ref a1), .val (.long q1), .second, .val (.int (0 : Int32)), .unset] [])
  obtain ⟨T17, h17, X17, e17, E17, A17, D17, -, st17⟩ := newO X14 hx hZ hown (wd_20 hw) (wd_57 hw) (wd_58 hw) e14 (g := (mkF m 113 #[.val (.ref a1), .val (.long q1), .second, .val (.int (0 : Int32)), .unset] [])) rfl (hb hby d4_113) (by decide) (by decide)
  obtain ⟨ob17, g17⟩ : ∃ z, z = h14.size := ⟨_, rfl⟩
  rw [← g17] at A17 D17 st17
  have f18 : Exa Z h8 a1 "corro/core/LimitLevels" := E_a1.keep Kq8
  have f19 : Exa Z h14 a1 "corro/core/LimitLevels" := f18.keep Kq14
  have ne_a1_ob17 : a1 ≠ ob17 := Nat.ne_of_lt (Nat.lt_of_lt_of_le f19.lt (Nat.le_of_eq g17.symm))
  have f20 : Arv Z h14 xa kk .long (64 : Int32) [(.long k0), (.long k0)] (.long (0 : Int64)) := V8.keep Kq14 (ninS ne_xa_xl nin0)
  have ne_xa_ob17 : xa ≠ ob17 := Nat.ne_of_lt (Nat.lt_of_lt_of_le f20.lt (Nat.le_of_eq g17.symm))
  have ne_xl_ob17 : xl ≠ ob17 := Nat.ne_of_lt (Nat.lt_of_lt_of_le V14.lt (Nat.le_of_eq g17.symm))
  have f21 : Exa Z h14 l0 "corro/core/Level" := f16.keep Kq14
  have ne_l0_ob17 : l0 ≠ ob17 := Nat.ne_of_lt (Nat.lt_of_lt_of_le f21.lt (Nat.le_of_eq g17.symm))
  have g_ob17 : n0 ≤ ob17 := Nat.le_trans Zp14 (Nat.le_of_eq g17.symm)
  have sz_ob17 : h0.size ≤ ob17 := Nat.le_trans K14.1 (Nat.le_of_eq g17.symm)
  have K17 := K14.ext E17
  have Zp17 : n0 ≤ h17.size := Nat.le_trans Zp14 E17.1
  refine own_go st17 ?_
  refine own_go (fun _ => XS.dup X17.here hx rfl (hb hby d4_116) rfl rfl) ?_
  show own_G p e below Φ T17 (mkF m 117 #[.val (.ref a1), .val (.long q1), .second, .val (.int (0 : Int32)), .unset] [(.ref ob17), (.ref ob17)])
  obtain ⟨_, _, ⟨T22, zL22, zk22, zn22⟩, -, X22, ⟨Lc22, hQ22, zl22, zy22, zz22⟩, st22⟩ := X17.specialBack hx (y := (⟨"corro/core/Level", "<init>", "()V"⟩ : MethodName)) rfl hown (mvT hZ (wd_59 hw)) (mvT hZ (wd_60 hw)) (mvT hZ (wd_61 hw)) (by decide) (backOf (W := 1) (rmL l Z a0 hw [] ob17 h17 n0 Zp17 ) hZ (wd_61 hw) (wd_58 hw) (by decide) (by decide)) (g := (mkF m 117 #[.val (.ref a1), .val (.long q1), .second, .val (.int (0 : Int32)), .unset] [(.ref ob17), (.ref ob17)])) rfl (by rw [hml]; rfl) (Steps.refl _) (a := ob17) (argsL := []) (rest := [(.ref ob17)]) (lenOf pd_4 rfl) rfl (by show 2 * 0 + _ ≤ _; exact Nat.le_of_eq rfl) (hb hby d4_117) (fun _ _ => ⟨rfl, e17, (by decide : 1 + 0 ≤ _), (by decide : 2 + 0 ≤ _)⟩)
  dsimp only [Pt.U, Pt.locs, Pt.cells, Pt.slots] at X22 zl22 zy22 zz22 st22 hQ22
  subst zl22 zy22 zz22
  obtain ⟨rfl, N22q, hs22⟩ := hQ22
  have N22 := Fr.app N14 N22q
  refine own_on st22 ?_
  refine own_go (fun _ => XS.astore X22.here hx rfl (hb hby d4_120) rfl rfl (l' := #[.val (.ref a1), .val (.long q1), .second, .val (.int (0 : Int32)), .val (.ref ob17)]) rfl) ?_
  refine own_go (fun _ => XS.aloadN X22.here hx rfl (hb hby d4_122) rfl rfl) ?_
  show own_G p e below Φ T22 (mkF m 123 #[.val (.ref a1), .val (.long q1), .second, .val (.int (0 : Int32)), .val (.ref ob17)] [(.ref a1)])
  have f23 : Fld Z h8 a1 "corro/core/LimitLevels" "keys" "[J" (.ref xa) := F_keys_a1.keep Kq8 (ninS ne_a1_xa nin0)
  have f24 : Fld Z h14 a1 "corro/core/LimitLevels" "keys" "[J" (.ref xa) := f23.keep Kq14 (ninS ne_a1_xl nin0)
  have f25 : Fld Z h17 a1 "corro/core/LimitLevels" "keys" "[J" (.ref xa) := f24.ext E17
  obtain ⟨T26, X26, e26, st26⟩ := getF X22 hx hZ hown (host := "") (Or.inl (wd_18 hw)) Via.refl hs22 f25 (g := (mkF m 123 #[.val (.ref a1), .val (.long q1), .second, .val (.int (0 : Int32)), .val (.ref ob17)] [(.ref a1)])) rfl rfl (hb hby d4_123)
  refine own_go st26 ?_
  refine own_go (fun _ => XS.iloadN X26.here hx rfl (hb hby d4_126) rfl) ?_
  refine own_go (fun _ => XS.aloadN X26.here hx rfl (hb hby d4_127) rfl rfl) ?_
  show own_G p e below Φ T26 (mkF m 128 #[.val (.ref a1), .val (.long q1), .second, .val (.int (0 : Int32)), .val (.ref ob17)] [(.ref a1), (.int (0 : Int32)), (.ref xa)])
  refine own_go (fun _ => XS.lloadN X26.here hx rfl (hb hby d4_128) rfl) ?_
  show own_G p e below Φ T26 (mkF m 129 #[.val (.ref a1), .val (.long q1), .second, .val (.int (0 : Int32)), .val (.ref ob17)] [(.long q1), (.ref a1), (.int (0 : Int32)), (.ref xa)])
  have f27 : Fld Z h8 a1 "corro/core/LimitLevels" "highestFirst" "Z" (.int hf) := F_highestFirst_a1.keep Kq8 (ninS ne_a1_xa nin0)
  have f28 : Fld Z h14 a1 "corro/core/LimitLevels" "highestFirst" "Z" (.int hf) := f27.keep Kq14 (ninS ne_a1_xl nin0)
  have f29 : Fld Z h17 a1 "corro/core/LimitLevels" "highestFirst" "Z" (.int hf) := f28.ext E17
  have f31 : Exa Z h17 a1 "corro/core/LimitLevels" := f19.ext E17
  obtain ⟨cq30, zc30, zc30z⟩ := f31.cell
  obtain ⟨_, _, ⟨T30, zL30, zk30, zn30⟩, -, X30, ⟨Lc30, hQ30, zl30, zy30, zz30⟩, st30⟩ := X26.privateBack hx (y := (⟨"corro/core/LimitLevels", "key", "(J)J"⟩ : MethodName)) hown (mvT hZ (wd_39 hw)) (mvT hZ (wd_40 hw)) (own_selp (x := (⟨"corro/core/LimitLevels", "getOrAdd", "(J)Lcorro/core/Level;"⟩ : MethodName)) rfl (mvT hZ (wd_30 hw)) (notFace_of_selects (args := #[]) (mvT hZ (wd_31 hw))) (Cond.privateMethod_at (mvP hZ (wd_41 hw) (args := #[]))) (mvT hZ (wd_40 hw)) (by decide)) (Cond.privateMethod_at (mvP hZ (wd_41 hw) (args := #[]))) (mvT hZ (wd_42 hw)) (by decide) (backOf (W := 2) (rmK l Z a0 hw [] a1 q1 hf h17 n0 Zp17 f29) hZ (wd_42 hw) (wd_7 hw) (by decide) (by decide)) (g := (mkF m 129 #[.val (.ref a1), .val (.long q1), .second, .val (.int (0 : Int32)), .val (.ref ob17)] [(.long q1), (.ref a1), (.int (0 : Int32)), (.ref xa)])) rfl (by rw [hml]; rfl) (Steps.refl _) (a := a1) (by rw [e26]; exact zc30) zc30z (argsL := [(.long q1)]) (rest := [(.int (0 : Int32)), (.ref xa)]) (lenOf pd_2 rfl) rfl (by show 2 * 0 + _ ≤ _; exact Nat.le_of_eq rfl) (hb hby d4_129) (fun _ _ => ⟨rfl, e26, (by decide : 1 + 0 ≤ _), (by decide : 2 + 0 ≤ _)⟩)
  dsimp only [Pt.U, Pt.locs, Pt.cells, Pt.slots] at X30 zl30 zy30 zz30 st30 hQ30
  subst zl30 zy30 zz30
  obtain ⟨rfl, N30q, hs30⟩ := hQ30
  have N30 := Fr.app N22 N30q
  refine own_on st30 ?_
  show own_G p e below Φ T30 (mkF m 132 #[.val (.ref a1), .val (.long q1), .second, .val (.int (0 : Int32)), .val (.ref ob17)] [(.long (own_key hf q1)), (.int (0 : Int32)), (.ref xa)])
  have f32 : Arv Z h17 xa kk .long (64 : Int32) [(.long k0), (.long k0)] (.long (0 : Int64)) := f20.ext E17
  obtain ⟨cl33, Ar33, zq33, S33, M33, H33, G33⟩ := id f32
  have hin33 : ¬ ((0 : Int32) < 0 ∨ cl33.slots.size ≤ ((0 : Int32)).toNatClampNeg) := inb_of S33 ⟨by decide, by decide⟩
  obtain ⟨T33, h33, X33, e33, W33, st33⟩ := stJ X30 hx hZ hs30 Ar33 (j := (0 : Int32)) hin33 (g := (mkF m 132 #[.val (.ref a1), .val (.long q1), .second, .val (.int (0 : Int32)), .val (.ref ob17)] [(.long (own_key hf q1)), (.int (0 : Int32)), (.ref xa)])) rfl rfl (hb hby d4_132)
  refine own_go st33 ?_
  have V33 : Arv Z h33 xa kk .long (64 : Int32) [(.long (own_key hf q1)), (.long k0)] (.long (0 : Int64)) := Arv.set Ar33 zq33 S33 M33 H33 G33 rfl W33 0 rfl (Nat.le_of_ble_eq_true rfl)
  have N33 := Fr.snoc X33 N30 g_xa
  have K33 := K17.wr W33 (Or.inl (List.mem_of_getElem? (i := 1) rfl))
  have Zp33 : n0 ≤ h33.size := Nat.le_trans Zp17 (Keep.of_wr W33).1
  refine own_go (fun _ => XS.aloadN X33.here hx rfl (hb hby d4_133) rfl rfl) ?_
  show own_G p e below Φ T33 (mkF m 134 #[.val (.ref a1), .val (.long q1), .second, .val (.int (0 : Int32)), .val (.ref ob17)] [(.ref a1)])
  have f34 : Fld Z h14 a1 "corro/core/LimitLevels" "levels" "[Lcorro/core/Level;" (.ref xl) := f9.keep Kq14 (ninS ne_a1_xl nin0)
  have f35 : Fld Z h17 a1 "corro/core/LimitLevels" "levels" "[Lcorro/core/Level;" (.ref xl) := f34.ext E17
  have f36 : Fld Z h33 a1 "corro/core/LimitLevels" "levels" "[Lcorro/core/Level;" (.ref xl) := f35.other W33 (Or.inl ne_a1_xa)
  obtain ⟨T37, X37, e37, st37⟩ := getF X33 hx hZ hown (host := "") (Or.inl (wd_22 hw)) Via.refl e33 f36 (g := (mkF m 134 #[.val (.ref a1), .val (.long q1), .second, .val (.int (0 : Int32)), .val (.ref ob17)] [(.ref a1)])) rfl rfl (hb hby d4_134)
  refine own_go st37 ?_
  refine own_go (fun _ => XS.iloadN X37.here hx rfl (hb hby d4_137) rfl) ?_
  refine own_go (fun _ => XS.aload X37.here hx rfl (hb hby d4_138) rfl rfl) ?_
  show own_G p e below Φ T37 (mkF m 140 #[.val (.ref a1), .val (.long q1), .second, .val (.int (0 : Int32)), .val (.ref ob17)] [(.ref ob17), (.int (0 : Int32)), (.ref xl)])
  have f38 : Arv Z h17 xl kl (.object "corro/core/Level") (64 : Int32) [(.ref l0), (.ref l0)] .null := V14.ext E17
  have f39 : Arv Z h33 xl kl (.object "corro/core/Level") (64 : Int32) [(.ref l0), (.ref l0)] .null := f38.other W33 (Ne.symm ne_xa_xl)
  obtain ⟨cl40, Ar40, zq40, S40, M40, H40, G40⟩ := id f39
  have hin40 : ¬ ((0 : Int32) < 0 ∨ cl40.slots.size ≤ ((0 : Int32)).toNatClampNeg) := inb_of S40 ⟨by decide, by decide⟩
  have f41 : Exa Z h33 ob17 "corro/core/Level" := A17.wr W33
  obtain ⟨T40, h40, X40, e40, W40, st40⟩ := stR X37 hx hZ e37 Ar40 (j := (0 : Int32)) hin40 rfl (Sto.ofV Ar40 zq40 hO (Ins.self f41)) (g := (mkF m 140 #[.val (.ref a1), .val (.long q1), .second, .val (.int (0 : Int32)), .val (.ref ob17)] [(.ref ob17), (.int (0 : Int32)), (.ref xl)])) rfl rfl (hb hby d4_140)
  refine own_go st40 ?_
  have V40 : Arv Z h40 xl kl (.object "corro/core/Level") (64 : Int32) [(.ref ob17), (.ref l0)] .null := Arv.set Ar40 zq40 S40 M40 H40 G40 rfl W40 0 rfl (Nat.le_of_ble_eq_true rfl)
  have N40 := Fr.snoc X40 N33 g_xl
  have K40 := K33.wr W40 (Or.inl (List.mem_of_getElem? (i := 2) rfl))
  have Zp40 : n0 ≤ h40.size := Nat.le_trans Zp33 (Keep.of_wr W40).1
  refine own_go (fun _ => XS.aloadN X40.here hx rfl (hb hby d4_141) rfl rfl) ?_
  refine own_go (fun _ => XS.dup X40.here hx rfl (hb hby d4_142) rfl rfl) ?_
  show own_G p e below Φ T40 (mkF m 143 #[.val (.ref a1), .val (.long q1), .second, .val (.int (0 : Int32)), .val (.ref ob17)] [(.ref a1), (.ref a1)])
  have f42 : Fld Z h14 a1 "corro/core/LimitLevels" "size" "I" (.int (1 : Int32)) := f12.keep Kq14 (ninS ne_a1_xl nin0)
  have f43 : Fld Z h17 a1 "corro/core/LimitLevels" "size" "I" (.int (1 : Int32)) := f42.ext E17
  have f44 : Fld Z h33 a1 "corro/core/LimitLevels" "size" "I" (.int (1 : Int32)) := f43.other W33 (Or.inl ne_a1_xa)
  have f45 : Fld Z h40 a1 "corro/core/LimitLevels" "size" "I" (.int (1 : Int32)) := f44.other W40 (Or.inl ne_a1_xl)
  obtain ⟨T46, X46, e46, st46⟩ := getF X40 hx hZ hown (host := "") (Or.inl (wd_37 hw)) Via.refl e40 f45 (g := (mkF m 143 #[.val (.ref a1), .val (.long q1), .second, .val (.int (0 : Int32)), .val (.ref ob17)] [(.ref a1), (.ref a1)])) rfl rfl (hb hby d4_143)
  refine own_go st46 ?_
  refine own_go (fun _ => XS.iconst X46.here hx rfl (hb hby d4_146)) ?_
  show own_G p e below Φ T46 (mkF m 147 #[.val (.ref a1), .val (.long q1), .second, .val (.int (0 : Int32)), .val (.ref ob17)] [(.int (1 : Int32)), (.int (1 : Int32)), (.ref a1)])
  refine own_go (fun _ => XS.iadd X46.here hx rfl (hb hby d4_147) rfl) ?_
  show own_G p e below Φ T46 (mkF m 148 #[.val (.ref a1), .val (.long q1), .second, .val (.int (0 : Int32)), .val (.ref ob17)] [(.int (2 : Int32)), (.ref a1)])
  have f47 : Exa Z h33 a1 "corro/core/LimitLevels" := f31.wr W33
  have f48 : Exa Z h40 a1 "corro/core/LimitLevels" := f47.wr W40
  obtain ⟨T49, h49, X49, e49, W49, st49⟩ := putF X46 hx hZ hown (host := "") (Or.inl (wd_37 hw)) Via.refl e46 f45 f48 (Or.inl (wd_38 hw)) (wd_6 hw) (ty := .int) (by decide) rfl rfl (g := (mkF m 148 #[.val (.ref a1), .val (.long q1), .second, .val (.int (0 : Int32)), .val (.ref ob17)] [(.int (2 : Int32)), (.ref a1)])) rfl rfl (hb hby d4_148)
  refine own_go st49 ?_
  have N49 := Fr.snoc X49 N40 g_a1
  have K49 := K40.wr W49 (Or.inl (List.mem_of_getElem? (i := 0) rfl))
  have Zp49 : n0 ≤ h49.size := Nat.le_trans Zp40 (Keep.of_wr W49).1
  have f49w := f45.same W49
  refine own_go (fun _ => XS.aload X49.here hx rfl (hb hby d4_151) rfl rfl) ?_
  show own_G p e below Φ T49 (mkF m 153 #[.val (.ref a1), .val (.long q1), .second, .val (.int (0 : Int32)), .val (.ref ob17)] [(.ref ob17)])
  have f50 : Exa Z h49 a1 "corro/core/LimitLevels" := f48.wr W49
  have f51 : Fld Z h33 a1 "corro/core/LimitLevels" "keys" "[J" (.ref xa) := f25.other W33 (Or.inl ne_a1_xa)
  have f52 : Fld Z h40 a1 "corro/core/LimitLevels" "keys" "[J" (.ref xa) := f51.other W40 (Or.inl ne_a1_xl)
  have f53 : Fld Z h49 a1 "corro/core/LimitLevels" "keys" "[J" (.ref xa) := f52.other W49 (Or.inr (sl_9 hw))
  have f54 : Fld Z h40 a1 "corro/core/LimitLevels" "levels" "[Lcorro/core/Level;" (.ref xl) := f36.other W40 (Or.inl ne_a1_xl)
  have f55 : Fld Z h49 a1 "corro/core/LimitLevels" "levels" "[Lcorro/core/Level;" (.ref xl) := f54.other W49 (Or.inr (sl_10 hw))
  have f56 : Fld Z h33 a1 "corro/core/LimitLevels" "highestFirst" "Z" (.int hf) := f29.other W33 (Or.inl ne_a1_xa)
  have f57 : Fld Z h40 a1 "corro/core/LimitLevels" "highestFirst" "Z" (.int hf) := f56.other W40 (Or.inl ne_a1_xl)
  have f58 : Fld Z h49 a1 "corro/core/LimitLevels" "highestFirst" "Z" (.int hf) := f57.other W49 (Or.inr (sl_11 hw))
  have f59 : Arv Z h40 xa kk .long (64 : Int32) [(.long (own_key hf q1)), (.long k0)] (.long (0 : Int64)) := V33.other W40 ne_xa_xl
  have f60 : Arv Z h49 xa kk .long (64 : Int32) [(.long (own_key hf q1)), (.long k0)] (.long (0 : Int64)) := f59.other W49 (Ne.symm ne_a1_xa)
  have f61 : Arv Z h49 xl kl (.object "corro/core/Level") (64 : Int32) [(.ref ob17), (.ref l0)] .null := V40.other W49 (Ne.symm ne_a1_xl)
  have f62 : Exa Z h40 ob17 "corro/core/Level" := f41.wr W40
  have f63 : Exa Z h49 ob17 "corro/core/Level" := f62.wr W49
  rw [hΦ]
  refine own_ret X49 (v := some (.ref ob17)) (fun h => by rw [Bd.returns] at h; cases h) (BodyLoose.notSynchronized Bd) (fun fs hr => retOut X49 hx Bd.returns rfl (Or.inr (Or.inr (Or.inr (Or.inr ⟨rfl, rfl, rfl⟩)))) (hb hby d4_153) hr) ?_ (by decide) (by decide)
  rw [e49]
  exact ⟨ob17, sz_ob17, rfl, N49, K49, f50, f53, f55, f49w, f58, f60, f61, f63⟩
theorem d4_10 : decode prog_14_method_7_code 10 = .ok (.aload_n 0, 1) := by decide +kernel
theorem d4_11 : decode prog_14_method_7_code 11 = .ok (.getfield 15, 3) := by decide +kernel
theorem d4_14 : decode prog_14_method_7_code 14 = .ok (.iload_n 3, 1) := by decide +kernel
theorem d4_15 : decode prog_14_method_7_code 15 = .ok (.aaload, 1) := by decide +kernel
theorem d4_16 : decode prog_14_method_7_code 16 = .ok (.areturn, 1) := by decide +kernel
theorem ef_rmG_1fnd0 (m : MethodId) (a1 : Addr) (q1 : Int64) : entryFrame m #[(.ref a1), (.long q1)] 5 = mkF m 0 #[.val (.ref a1), .val (.long q1), .second, .unset, .unset] [] := by first | (simp [entryFrame, mkF, argsToLocals, Value.category]; done) | rfl
def Q_rmG_1fnd0 (Z : State) (a1 : Addr) (q1 : Int64) (hf : Int32) (xa : Addr) (xl : Addr) (kk : ClassId) (kl : ClassId) (k0 : Int64) (l0 : Addr) (h0 : Heap) (n0 : Nat) (v : Option Value) (h : Heap) (L : List Loc) : Prop := v = some (.ref l0) ∧ Fr n0 L ∧ h = h0
set_option maxRecDepth 65536 in
set_option maxHeartbeats 40000000 in
theorem rmG_1fnd0 (l : Launch) (Z : State) (a0 : Array Value) (hw : ∀ d ∈ tables_1, d.before a0 Z = true) (ws : List Jvm.Cond) (a1 : Addr) (q1 : Int64) (hf : Int32) (xa : Addr) (xl : Addr) (kk : ClassId) (kl : ClassId) (k0 : Int64) (l0 : Addr) (h0 : Heap) (n0 : Nat) (Z0 : n0 ≤ h0.size) (E_a1 : Exa Z h0 a1 "corro/core/LimitLevels") (F_keys_a1 : Fld Z h0 a1 "corro/core/LimitLevels" "keys" "[J" (.ref xa)) (F_levels_a1 : Fld Z h0 a1 "corro/core/LimitLevels" "levels" "[Lcorro/core/Level;" (.ref xl)) (F_size_a1 : Fld Z h0 a1 "corro/core/LimitLevels" "size" "I" (.int (1 : Int32))) (F_highestFirst_a1 : Fld Z h0 a1 "corro/core/LimitLevels" "highestFirst" "Z" (.int hf)) (V_xa : Arv Z h0 xa kk .long (64 : Int32) [(.long k0)] (.long (0 : Int64))) (V_xl : Arv Z h0 xl kl (.object "corro/core/Level") (64 : Int32) [(.ref l0)] .null) (E_l0 : Exa Z h0 l0 "corro/core/Level") (g_a1 : n0 ≤ a1) (g_xa : n0 ≤ xa) (g_xl : n0 ≤ xl) (ne_a1_xa : a1 ≠ xa) (ne_a1_xl : a1 ≠ xl) (ne_xa_xl : xa ≠ xl) (hO : Ovr Z kl "corro/core/Level") (r0 : k0 = (own_key hf q1)) :
    MetFree l (⟨"corro/core/LimitLevels", "getOrAdd", "(J)Lcorro/core/Level;"⟩ : MethodName) (head1 (Jvm.Cond.code (⟨"corro/core/LimitLevels", "getOrAdd", "(J)Lcorro/core/Level;"⟩ : MethodName) prog_14_method_7_code 5 (some (.object "corro/core/Level")) :: ws) ({ frames := 3, cells := 0, slots := 0, locals := 51 } : Room)) (fun a U => a = #[(.ref a1), (.long q1)] ∧ Z.Warmed39 U.vm ∧ U.heap = h0) (fun _ _ _ _ _ => True) (fun _ U o U' => ∃ v L, o = .returned v ∧ Q_rmG_1fnd0 Z a1 q1 hf xa xl kk kl k0 l0 h0 n0 v U'.heap L ∧ FrameEnd U o U' L ({ frames := 3, cells := 0, slots := 0, locals := 51 } : Room).cells ({ frames := 3, cells := 0, slots := 0, locals := 51 } : Room).slots) := by
  refine MetFree.of_bodySF (plainFor_of_name pn_1) hisR ?_
  intro p e s m args below meth c s₁ Bd hml0 hP hK
  obtain ⟨rfl, hZ, hh⟩ := hP
  have hx := Bd.exec
  have hby := Bd.bytes
  have hml : c.maxLocals = 5 := hml0
  have hown : s.vm.findClass "corro/core/LimitLevels" = some m.cls := findClass_of_methodNamed Bd.named
  have hnm := (name_of_methodNamed Bd.named Bd.method).1
  have X0 : Stand p l e ({ frames := 3, cells := 0, slots := 0, locals := 51 } : Room) s m #[(.ref a1), (.long q1)] below meth c s₁ [] 0 0 := Stand.of_body Bd
  have e0 : s₁.heap = h0 := by rw [← hh, Bd.state]; rfl
  have N0 := Fr.nil n0
  suffices G0 : own_G p e below (own_E s below (Q_rmG_1fnd0 Z a1 q1 hf xa xl kk kl k0 l0 h0 n0) ({ frames := 3, cells := 0, slots := 0, locals := 51 } : Room).cells ({ frames := 3, cells := 0, slots := 0, locals := 51 } : Room).slots) s₁ (mkF m 0 #[.val (.ref a1), .val (.long q1), .second, .unset, .unset] []) by
    obtain ⟨zt, zst, zo, zq1, zq2, zq3⟩ := G0
    exact ⟨zt, zo, castTop (ef_rmG_1fnd0 m a1 q1) zst, zq1, zq2, zq3⟩
  obtain ⟨Φ, hΦ⟩ : ∃ Φ, Φ = own_E s below (Q_rmG_1fnd0 Z a1 q1 hf xa xl kk kl k0 l0 h0 n0) ({ frames := 3, cells := 0, slots := 0, locals := 51 } : Room).cells ({ frames := 3, cells := 0, slots := 0, locals := 51 } : Room).slots := ⟨_, rfl⟩
  rw [← hΦ]
  show own_G p e below Φ s₁ (mkF m 0 #[.val (.ref a1), .val (.long q1), .second, .unset, .unset] [])
  refine own_go (fun _ => XS.aloadN X0.here hx rfl (hb hby d4_0) rfl rfl) ?_
  refine own_go (fun _ => XS.lloadN X0.here hx rfl (hb hby d4_1) rfl) ?_
  show own_G p e below Φ s₁ (mkF m 2 #[.val (.ref a1), .val (.long q1), .second, .unset, .unset] [(.long q1), (.ref a1)])
  obtain ⟨cq1, zc1, zc1z⟩ := E_a1.cell
  obtain ⟨_, _, ⟨T1, zL1, zk1, zn1⟩, -, X1, ⟨Lc1, hQ1, zl1, zy1, zz1⟩, st1⟩ := X0.privateBack hx (y := (⟨"corro/core/LimitLevels", "search", "(J)I"⟩ : MethodName)) hown (mvT hZ (wd_33 hw)) (mvT hZ (wd_34 hw)) (own_selp (x := (⟨"corro/core/LimitLevels", "getOrAdd", "(J)Lcorro/core/Level;"⟩ : MethodName)) rfl (mvT hZ (wd_30 hw)) (notFace_of_selects (args := #[]) (mvT hZ (wd_31 hw))) (Cond.privateMethod_at (mvP hZ (wd_35 hw) (args := #[]))) (mvT hZ (wd_34 hw)) (by decide)) (Cond.privateMethod_at (mvP hZ (wd_35 hw) (args := #[]))) (mvT hZ (wd_36 hw)) (by decide) (backOf (W := 0) (rmS_1fnd0 l Z a0 hw [] a1 q1 hf xa kk k0 h0 n0 Z0 E_a1 F_keys_a1 F_size_a1 F_highestFirst_a1 V_xa r0) hZ (wd_36 hw) (wd_7 hw) (by decide) (by decide)) (g := (mkF m 2 #[.val (.ref a1), .val (.long q1), .second, .unset, .unset] [(.long q1), (.ref a1)])) rfl (by rw [hml]; rfl) (Steps.refl _) (a := a1) (by rw [e0]; exact zc1) zc1z (argsL := [(.long q1)]) (rest := []) (lenOf pd_3 rfl) rfl (by show 2 * 0 + _ ≤ _; exact Nat.le_of_eq rfl) (hb hby d4_2) (fun _ _ => ⟨rfl, e0, (by decide : 0 + 0 ≤ _), (by decide : 0 + 0 ≤ _)⟩)
  dsimp only [Pt.U, Pt.locs, Pt.cells, Pt.slots] at X1 zl1 zy1 zz1 st1 hQ1
  subst zl1 zy1 zz1
  obtain ⟨rfl, N1q, hs1⟩ := hQ1
  have N1 := Fr.app N0 N1q
  refine own_on st1 ?_
  refine own_go (fun _ => XS.istoreN X1.here hx rfl (hb hby d4_5) rfl (l' := #[.val (.ref a1), .val (.long q1), .second, .val (.int (0 : Int32)), .unset]) rfl) ?_
  refine own_go (fun _ => XS.iloadN X1.here hx rfl (hb hby d4_6) rfl) ?_
  show own_G p e below Φ T1 (mkF m 7 #[.val (.ref a1), .val (.long q1), .second, .val (.int (0 : Int32)), .unset] [(.int (0 : Int32))])
  refine own_go (fun _ => XS.ifNo X1.here hx rfl (hb hby d4_7) rfl (Jvm.Free.XT.i0_lt_f (by decide : ¬ ((0 : Int32) < (0 : Int32))))) ?_
  refine own_go (fun _ => XS.aloadN X1.here hx rfl (hb hby d4_10) rfl rfl) ?_
  show own_G p e below Φ T1 (mkF m 11 #[.val (.ref a1), .val (.long q1), .second, .val (.int (0 : Int32)), .unset] [(.ref a1)])
  obtain ⟨T2, X2, e2, st2⟩ := getF X1 hx hZ hown (host := "") (Or.inl (wd_22 hw)) Via.refl hs1 F_levels_a1 (g := (mkF m 11 #[.val (.ref a1), .val (.long q1), .second, .val (.int (0 : Int32)), .unset] [(.ref a1)])) rfl rfl (hb hby d4_11)
  refine own_go st2 ?_
  refine own_go (fun _ => XS.iloadN X2.here hx rfl (hb hby d4_14) rfl) ?_
  show own_G p e below Φ T2 (mkF m 15 #[.val (.ref a1), .val (.long q1), .second, .val (.int (0 : Int32)), .unset] [(.int (0 : Int32)), (.ref xl)])
  obtain ⟨cl3, Ar3, zq3, S3, M3, H3, G3⟩ := id V_xl
  have hin3 : ¬ ((0 : Int32) < 0 ∨ cl3.slots.size ≤ ((0 : Int32)).toNatClampNeg) := inb_of S3 ⟨by decide, by decide⟩
  refine own_go (fun _ => X2.aaload hx (j := (0 : Int32)) (v := (.ref l0)) (by rw [e2]; exact Ar3.1) (State.isArrayOf_alike hZ.alike Ar3.2.1) rfl Ar3.2.2 hin3 (H3.at hin3 rfl) (g := (mkF m 15 #[.val (.ref a1), .val (.long q1), .second, .val (.int (0 : Int32)), .unset] [(.int (0 : Int32)), (.ref xl)])) rfl rfl (hb hby d4_15) _) ?_
  show own_G p e below Φ T2 (mkF m 16 #[.val (.ref a1), .val (.long q1), .second, .val (.int (0 : Int32)), .unset] [(.ref l0)])
  rw [hΦ]
  refine own_ret X2 (v := some (.ref l0)) (fun h => by rw [Bd.returns] at h; cases h) (BodyLoose.notSynchronized Bd) (fun fs hr => retOut X2 hx Bd.returns rfl (Or.inr (Or.inr (Or.inr (Or.inr ⟨rfl, rfl, rfl⟩)))) (hb hby d4_16) hr) ?_ (by decide) (by decide)
  rw [e2]
  exact ⟨rfl, N1, rfl⟩
theorem ef_rmG_1ins1 (m : MethodId) (a1 : Addr) (q1 : Int64) : entryFrame m #[(.ref a1), (.long q1)] 5 = mkF m 0 #[.val (.ref a1), .val (.long q1), .second, .unset, .unset] [] := by first | (simp [entryFrame, mkF, argsToLocals, Value.category]; done) | rfl
def Q_rmG_1ins1 (Z : State) (a1 : Addr) (q1 : Int64) (hf : Int32) (xa : Addr) (xl : Addr) (kk : ClassId) (kl : ClassId) (k0 : Int64) (l0 : Addr) (h0 : Heap) (n0 : Nat) (v : Option Value) (h : Heap) (L : List Loc) : Prop := ∃ lv : Addr, h0.size ≤ lv ∧ v = some (.ref lv) ∧ Fr n0 L ∧ Keep h0 h [a1, xa, xl] ∧ Exa Z h a1 "corro/core/LimitLevels" ∧ Fld Z h a1 "corro/core/LimitLevels" "keys" "[J" (.ref xa) ∧ Fld Z h a1 "corro/core/LimitLevels" "levels" "[Lcorro/core/Level;" (.ref xl) ∧ Fld Z h a1 "corro/core/LimitLevels" "size" "I" (.int (2 : Int32)) ∧ Fld Z h a1 "corro/core/LimitLevels" "highestFirst" "Z" (.int hf) ∧ Arv Z h xa kk .long (64 : Int32) [(.long k0), (.long (own_key hf q1))] (.long (0 : Int64)) ∧ Arv Z h xl kl (.object "corro/core/Level") (64 : Int32) [(.ref l0), (.ref lv)] .null ∧ Exa Z h lv "corro/core/Level"
set_option maxRecDepth 65536 in
set_option maxHeartbeats 40000000 in
theorem rmG_1ins1 (l : Launch) (Z : State) (a0 : Array Value) (hw : ∀ d ∈ tables_1, d.before a0 Z = true) (ws : List Jvm.Cond) (a1 : Addr) (q1 : Int64) (hf : Int32) (xa : Addr) (xl : Addr) (kk : ClassId) (kl : ClassId) (k0 : Int64) (l0 : Addr) (h0 : Heap) (n0 : Nat) (Z0 : n0 ≤ h0.size) (E_a1 : Exa Z h0 a1 "corro/core/LimitLevels") (F_keys_a1 : Fld Z h0 a1 "corro/core/LimitLevels" "keys" "[J" (.ref xa)) (F_levels_a1 : Fld Z h0 a1 "corro/core/LimitLevels" "levels" "[Lcorro/core/Level;" (.ref xl)) (F_size_a1 : Fld Z h0 a1 "corro/core/LimitLevels" "size" "I" (.int (1 : Int32))) (F_highestFirst_a1 : Fld Z h0 a1 "corro/core/LimitLevels" "highestFirst" "Z" (.int hf)) (V_xa : Arv Z h0 xa kk .long (64 : Int32) [(.long k0)] (.long (0 : Int64))) (V_xl : Arv Z h0 xl kl (.object "corro/core/Level") (64 : Int32) [(.ref l0)] .null) (E_l0 : Exa Z h0 l0 "corro/core/Level") (g_a1 : n0 ≤ a1) (g_xa : n0 ≤ xa) (g_xl : n0 ≤ xl) (ne_a1_xa : a1 ≠ xa) (ne_a1_xl : a1 ≠ xl) (ne_xa_xl : xa ≠ xl) (hO : Ovr Z kl "corro/core/Level") (r0 : k0 < (own_key hf q1)) :
    MetFree l (⟨"corro/core/LimitLevels", "getOrAdd", "(J)Lcorro/core/Level;"⟩ : MethodName) (head1 (Jvm.Cond.code (⟨"corro/core/LimitLevels", "getOrAdd", "(J)Lcorro/core/Level;"⟩ : MethodName) prog_14_method_7_code 5 (some (.object "corro/core/Level")) :: ws) ({ frames := 3, cells := 1, slots := 2, locals := 51 } : Room)) (fun a U => a = #[(.ref a1), (.long q1)] ∧ Z.Warmed39 U.vm ∧ U.heap = h0) (fun _ _ _ _ _ => True) (fun _ U o U' => ∃ v L, o = .returned v ∧ Q_rmG_1ins1 Z a1 q1 hf xa xl kk kl k0 l0 h0 n0 v U'.heap L ∧ FrameEnd U o U' L ({ frames := 3, cells := 1, slots := 2, locals := 51 } : Room).cells ({ frames := 3, cells := 1, slots := 2, locals := 51 } : Room).slots) := by
  refine MetFree.of_bodySF (plainFor_of_name pn_1) hisR ?_
  intro p e s m args below meth c s₁ Bd hml0 hP hK
  obtain ⟨rfl, hZ, hh⟩ := hP
  have hx := Bd.exec
  have hby := Bd.bytes
  have hml : c.maxLocals = 5 := hml0
  have hown : s.vm.findClass "corro/core/LimitLevels" = some m.cls := findClass_of_methodNamed Bd.named
  have hnm := (name_of_methodNamed Bd.named Bd.method).1
  have X0 : Stand p l e ({ frames := 3, cells := 1, slots := 2, locals := 51 } : Room) s m #[(.ref a1), (.long q1)] below meth c s₁ [] 0 0 := Stand.of_body Bd
  have e0 : s₁.heap = h0 := by rw [← hh, Bd.state]; rfl
  have N0 := Fr.nil n0
  have K0 : Keep h0 h0 [a1, xa, xl] := Keep.refl _ _
  suffices G0 : own_G p e below (own_E s below (Q_rmG_1ins1 Z a1 q1 hf xa xl kk kl k0 l0 h0 n0) ({ frames := 3, cells := 1, slots := 2, locals := 51 } : Room).cells ({ frames := 3, cells := 1, slots := 2, locals := 51 } : Room).slots) s₁ (mkF m 0 #[.val (.ref a1), .val (.long q1), .second, .unset, .unset] []) by
    obtain ⟨zt, zst, zo, zq1, zq2, zq3⟩ := G0
    exact ⟨zt, zo, castTop (ef_rmG_1ins1 m a1 q1) zst, zq1, zq2, zq3⟩
  obtain ⟨Φ, hΦ⟩ : ∃ Φ, Φ = own_E s below (Q_rmG_1ins1 Z a1 q1 hf xa xl kk kl k0 l0 h0 n0) ({ frames := 3, cells := 1, slots := 2, locals := 51 } : Room).cells ({ frames := 3, cells := 1, slots := 2, locals := 51 } : Room).slots := ⟨_, rfl⟩
  rw [← hΦ]
  show own_G p e below Φ s₁ (mkF m 0 #[.val (.ref a1), .val (.long q1), .second, .unset, .unset] [])
  refine own_go (fun _ => XS.aloadN X0.here hx rfl (hb hby d4_0) rfl rfl) ?_
  refine own_go (fun _ => XS.lloadN X0.here hx rfl (hb hby d4_1) rfl) ?_
  show own_G p e below Φ s₁ (mkF m 2 #[.val (.ref a1), .val (.long q1), .second, .unset, .unset] [(.long q1), (.ref a1)])
  obtain ⟨cq1, zc1, zc1z⟩ := E_a1.cell
  obtain ⟨_, _, ⟨T1, zL1, zk1, zn1⟩, -, X1, ⟨Lc1, hQ1, zl1, zy1, zz1⟩, st1⟩ := X0.privateBack hx (y := (⟨"corro/core/LimitLevels", "search", "(J)I"⟩ : MethodName)) hown (mvT hZ (wd_33 hw)) (mvT hZ (wd_34 hw)) (own_selp (x := (⟨"corro/core/LimitLevels", "getOrAdd", "(J)Lcorro/core/Level;"⟩ : MethodName)) rfl (mvT hZ (wd_30 hw)) (notFace_of_selects (args := #[]) (mvT hZ (wd_31 hw))) (Cond.privateMethod_at (mvP hZ (wd_35 hw) (args := #[]))) (mvT hZ (wd_34 hw)) (by decide)) (Cond.privateMethod_at (mvP hZ (wd_35 hw) (args := #[]))) (mvT hZ (wd_36 hw)) (by decide) (backOf (W := 0) (rmS_1ins1 l Z a0 hw [] a1 q1 hf xa kk k0 h0 n0 Z0 E_a1 F_keys_a1 F_size_a1 F_highestFirst_a1 V_xa r0) hZ (wd_36 hw) (wd_7 hw) (by decide) (by decide)) (g := (mkF m 2 #[.val (.ref a1), .val (.long q1), .second, .unset, .unset] [(.long q1), (.ref a1)])) rfl (by rw [hml]; rfl) (Steps.refl _) (a := a1) (by rw [e0]; exact zc1) zc1z (argsL := [(.long q1)]) (rest := []) (lenOf pd_3 rfl) rfl (by show 2 * 0 + _ ≤ _; exact Nat.le_of_eq rfl) (hb hby d4_2) (fun _ _ => ⟨rfl, e0, (by decide : 0 + 0 ≤ _), (by decide : 0 + 0 ≤ _)⟩)
  dsimp only [Pt.U, Pt.locs, Pt.cells, Pt.slots] at X1 zl1 zy1 zz1 st1 hQ1
  subst zl1 zy1 zz1
  obtain ⟨rfl, N1q, hs1⟩ := hQ1
  have N1 := Fr.app N0 N1q
  refine own_on st1 ?_
  refine own_go (fun _ => XS.istoreN X1.here hx rfl (hb hby d4_5) rfl (l' := #[.val (.ref a1), .val (.long q1), .second, .val (.int (-2 : Int32)), .unset]) rfl) ?_
  refine own_go (fun _ => XS.iloadN X1.here hx rfl (hb hby d4_6) rfl) ?_
  show own_G p e below Φ T1 (mkF m 7 #[.val (.ref a1), .val (.long q1), .second, .val (.int (-2 : Int32)), .unset] [(.int (-2 : Int32))])
  refine own_go (fun _ => XS.ifYes X1.here hx rfl (pc0 := 7) (pc' := 17) rfl (hb hby d4_7) rfl (Jvm.Free.XT.i0_lt_t (by decide : ((-2 : Int32) < (0 : Int32)))) (by decide) (by decide)) ?_
  refine own_go (fun _ => XS.iloadN X1.here hx rfl (hb hby d4_17) rfl) ?_
  show own_G p e below Φ T1 (mkF m 18 #[.val (.ref a1), .val (.long q1), .second, .val (.int (-2 : Int32)), .unset] [(.int (-2 : Int32))])
  refine own_go (fun _ => XS.ineg X1.here hx rfl (hb hby d4_18) rfl) ?_
  refine own_go (fun _ => XS.iconst X1.here hx rfl (hb hby d4_19)) ?_
  show own_G p e below Φ T1 (mkF m 20 #[.val (.ref a1), .val (.long q1), .second, .val (.int (-2 : Int32)), .unset] [(.int (1 : Int32)), (.int (2 : Int32))])
  refine own_go (fun _ => XS.isub X1.here hx rfl (hb hby d4_20) rfl) ?_
  refine own_go (fun _ => XS.istoreN X1.here hx rfl (hb hby d4_21) rfl (l' := #[.val (.ref a1), .val (.long q1), .second, .val (.int (1 : Int32)), .unset]) rfl) ?_
  refine own_go (fun _ => XS.aloadN X1.here hx rfl (hb hby d4_22) rfl rfl) ?_
  show own_G p e below Φ T1 (mkF m 23 #[.val (.ref a1), .val (.long q1), .second, .val (.int (1 : Int32)), .unset] [(.ref a1)])
  obtain ⟨T2, X2, e2, st2⟩ := getF X1 hx hZ hown (host := "") (Or.inl (wd_37 hw)) Via.refl hs1 F_size_a1 (g := (mkF m 23 #[.val (.ref a1), .val (.long q1), .second, .val (.int (1 : Int32)), .unset] [(.ref a1)])) rfl rfl (hb hby d4_23)
  refine own_go st2 ?_
  refine own_go (fun _ => XS.aloadN X2.here hx rfl (hb hby d4_26) rfl rfl) ?_
  show own_G p e below Φ T2 (mkF m 27 #[.val (.ref a1), .val (.long q1), .second, .val (.int (1 : Int32)), .unset] [(.ref a1), (.int (1 : Int32))])
  obtain ⟨T3, X3, e3, st3⟩ := getF X2 hx hZ hown (host := "") (Or.inl (wd_18 hw)) Via.refl e2 F_keys_a1 (g := (mkF m 27 #[.val (.ref a1), .val (.long q1), .second, .val (.int (1 : Int32)), .unset] [(.ref a1), (.int (1 : Int32))])) rfl rfl (hb hby d4_27)
  refine own_go st3 ?_
  show own_G p e below Φ T3 (mkF m 30 #[.val (.ref a1), .val (.long q1), .second, .val (.int (1 : Int32)), .unset] [(.ref xa), (.int (1 : Int32))])
  obtain ⟨cl4, Ar4, zq4, S4, M4, H4, G4⟩ := id V_xa
  refine own_go (fun _ => X3.arraylength hx (by rw [e3]; exact Ar4.1) (State.isArrayOf_alike hZ.alike Ar4.2.1) (g := (mkF m 30 #[.val (.ref a1), .val (.long q1), .second, .val (.int (1 : Int32)), .unset] [(.ref xa), (.int (1 : Int32))])) rfl rfl (hb hby d4_30) _) ?_
  rw [len_of S4 M4]
  show own_G p e below Φ T3 (mkF m 31 #[.val (.ref a1), .val (.long q1), .second, .val (.int (1 : Int32)), .unset] [(.int (64 : Int32)), (.int (1 : Int32))])
  refine own_go (fun _ => XS.icmpYes X3.here hx rfl (pc0 := 31) (pc' := 71) rfl (hb hby d4_31) rfl (Jvm.Free.XT.ii_ne_t (by decide : ¬ ((1 : Int32) = (64 : Int32)))) (by decide) (by decide)) ?_
  refine own_go (fun _ => XS.aloadN X3.here hx rfl (hb hby d4_71) rfl rfl) ?_
  show own_G p e below Φ T3 (mkF m 72 #[.val (.ref a1), .val (.long q1), .second, .val (.int (1 : Int32)), .unset] [(.ref a1)])
  obtain ⟨T5, X5, e5, st5⟩ := getF X3 hx hZ hown (host := "") (Or.inl (wd_18 hw)) Via.refl e3 F_keys_a1 (g := (mkF m 72 #[.val (.ref a1), .val (.long q1), .second, .val (.int (1 : Int32)), .unset] [(.ref a1)])) rfl rfl (hb hby d4_72)
  refine own_go st5 ?_
  refine own_go (fun _ => XS.iloadN X5.here hx rfl (hb hby d4_75) rfl) ?_
  refine own_go (fun _ => XS.aloadN X5.here hx rfl (hb hby d4_76) rfl rfl) ?_
  show own_G p e below Φ T5 (mkF m 77 #[.val (.ref a1), .val (.long q1), .second, .val (.int (1 : Int32)), .unset] [(.ref a1), (.int (1 : Int32)), (.ref xa)])
  obtain ⟨T6, X6, e6, st6⟩ := getF X5 hx hZ hown (host := "") (Or.inl (wd_18 hw)) Via.refl e5 F_keys_a1 (g := (mkF m 77 #[.val (.ref a1), .val (.long q1), .second, .val (.int (1 : Int32)), .unset] [(.ref a1), (.int (1 : Int32)), (.ref xa)])) rfl rfl (hb hby d4_77)
  refine own_go st6 ?_
  refine own_go (fun _ => XS.iloadN X6.here hx rfl (hb hby d4_80) rfl) ?_
  refine own_go (fun _ => XS.iconst X6.here hx rfl (hb hby d4_81)) ?_
  show own_G p e below Φ T6 (mkF m 82 #[.val (.ref a1), .val (.long q1), .second, .val (.int (1 : Int32)), .unset] [(.int (1 : Int32)), (.int (1 : Int32)), (.ref xa), (.int (1 : Int32)), (.ref xa)])
  refine own_go (fun _ => XS.iadd X6.here hx rfl (hb hby d4_82) rfl) ?_
  refine own_go (fun _ => XS.aloadN X6.here hx rfl (hb hby d4_83) rfl rfl) ?_
  show own_G p e below Φ T6 (mkF m 84 #[.val (.ref a1), .val (.long q1), .second, .val (.int (1 : Int32)), .unset] [(.ref a1), (.int (2 : Int32)), (.ref xa), (.int (1 : Int32)), (.ref xa)])
  obtain ⟨T7, X7, e7, st7⟩ := getF X6 hx hZ hown (host := "") (Or.inl (wd_37 hw)) Via.refl e6 F_size_a1 (g := (mkF m 84 #[.val (.ref a1), .val (.long q1), .second, .val (.int (1 : Int32)), .unset] [(.ref a1), (.int (2 : Int32)), (.ref xa), (.int (1 : Int32)), (.ref xa)])) rfl rfl (hb hby d4_84)
  refine own_go st7 ?_
  refine own_go (fun _ => XS.iloadN X7.here hx rfl (hb hby d4_87) rfl) ?_
  show own_G p e below Φ T7 (mkF m 88 #[.val (.ref a1), .val (.long q1), .second, .val (.int (1 : Int32)), .unset] [(.int (1 : Int32)), (.int (1 : Int32)), (.int (2 : Int32)), (.ref xa), (.int (1 : Int32)), (.ref xa)])
  refine own_go (fun _ => XS.isub X7.here hx rfl (hb hby d4_88) rfl) ?_
  show own_G p e below Φ T7 (mkF m 89 #[.val (.ref a1), .val (.long q1), .second, .val (.int (1 : Int32)), .unset] [(.int (0 : Int32)), (.int (2 : Int32)), (.ref xa), (.int (1 : Int32)), (.ref xa)])
  have V8p : Arv Z h0 xa kk .long (64 : Int32) [(.long k0), (.long (0 : Int64))] (.long (0 : Int64)) := V_xa.pad (pad_rep [(.long k0)] (.long (0 : Int64)) 1)
  obtain ⟨T8, h8, L8, X8, e8, N8, Kq8, V8q, st8⟩ := cpA X7 hx hZ hown (wd_53 hw) (wd_56 hw) (wd_54 hw) (wd_55 hw) e7 V8p V8p (us := []) (Or.inl ⟨rfl, rfl⟩) (sp := (1 : Int32)) (dp := (2 : Int32)) (nn := (0 : Int32)) (by decide) (by decide) (by decide) (by decide) (by decide) rfl (Nat.le_of_ble_eq_true rfl) N1 g_xa (g := (mkF m 89 #[.val (.ref a1), .val (.long q1), .second, .val (.int (1 : Int32)), .unset] [(.int (0 : Int32)), (.int (2 : Int32)), (.ref xa), (.int (1 : Int32)), (.ref xa)])) rfl (by rw [hml]; rfl) rfl (hb hby d4_89) (by decide) (W := 0) (by show 2 * 0 + _ ≤ _; exact Nat.le_of_eq rfl) (by decide)
  refine own_go st8 ?_
  have V8 : Arv Z h8 xa kk .long (64 : Int32) [(.long k0), (.long (0 : Int64))] (.long (0 : Int64)) := V8q
  have K8 := K0.trans Kq8 (allS (Or.inl (List.mem_of_getElem? (i := 1) rfl)) all0)
  have Zp8 : n0 ≤ h8.size := Nat.le_trans Z0 Kq8.1
  refine own_go (fun _ => XS.aloadN X8.here hx rfl (hb hby d4_92) rfl rfl) ?_
  show own_G p e below Φ T8 (mkF m 93 #[.val (.ref a1), .val (.long q1), .second, .val (.int (1 : Int32)), .unset] [(.ref a1)])
  have f9 : Fld Z h8 a1 "corro/core/LimitLevels" "levels" "[Lcorro/core/Level;" (.ref xl) := F_levels_a1.keep Kq8 (ninS ne_a1_xa nin0)
  obtain ⟨T10, X10, e10, st10⟩ := getF X8 hx hZ hown (host := "") (Or.inl (wd_22 hw)) Via.refl e8 f9 (g := (mkF m 93 #[.val (.ref a1), .val (.long q1), .second, .val (.int (1 : Int32)), .unset] [(.ref a1)])) rfl rfl (hb hby d4_93)
  refine own_go st10 ?_
  refine own_go (fun _ => XS.iloadN X10.here hx rfl (hb hby d4_96) rfl) ?_
  refine own_go (fun _ => XS.aloadN X10.here hx rfl (hb hby d4_97) rfl rfl) ?_
  show own_G p e below Φ T10 (mkF m 98 #[.val (.ref a1), .val (.long q1), .second, .val (.int (1 : Int32)), .unset] [(.ref a1), (.int (1 : Int32)), (.ref xl)])
  obtain ⟨T11, X11, e11, st11⟩ := getF X10 hx hZ hown (host := "") (Or.inl (wd_22 hw)) Via.refl e10 f9 (g := (mkF m 98 #[.val (.ref a1), .val (.long q1), .second, .val (.int (1 : Int32)), .unset] [(.ref a1), (.int (1 : Int32)), (.ref xl)])) rfl rfl (hb hby d4_98)
  refine own_go st11 ?_
  refine own_go (fun _ => XS.iloadN X11.here hx rfl (hb hby d4_101) rfl) ?_
  refine own_go (fun _ => XS.iconst X11.here hx rfl (hb hby d4_102)) ?_
  show own_G p e below Φ T11 (mkF m 103 #[.val (.ref a1), .val (.long q1), .second, .val (.int (1 : Int32)), .unset] [(.int (1 : Int32)), (.int (1 : Int32)), (.ref xl), (.int (1 : Int32)), (.ref xl)])
  refine own_go (fun _ => XS.iadd X11.here hx rfl (hb hby d4_103) rfl) ?_
  refine own_go (fun _ => XS.aloadN X11.here hx rfl (hb hby d4_104) rfl rfl) ?_
  show own_G p e below Φ T11 (mkF m 105 #[.val (.ref a1), .val (.long q1), .second, .val (.int (1 : Int32)), .unset] [(.ref a1), (.int (2 : Int32)), (.ref xl), (.int (1 : Int32)), (.ref xl)])
  have f12 : Fld Z h8 a1 "corro/core/LimitLevels" "size" "I" (.int (1 : Int32)) := F_size_a1.keep Kq8 (ninS ne_a1_xa nin0)
  obtain ⟨T13, X13, e13, st13⟩ := getF X11 hx hZ hown (host := "") (Or.inl (wd_37 hw)) Via.refl e11 f12 (g := (mkF m 105 #[.val (.ref a1), .val (.long q1), .second, .val (.int (1 : Int32)), .unset] [(.ref a1), (.int (2 : Int32)), (.ref xl), (.int (1 : Int32)), (.ref xl)])) rfl rfl (hb hby d4_105)
  refine own_go st13 ?_
  refine own_go (fun _ => XS.iloadN X13.here hx rfl (hb hby d4_108) rfl) ?_
  show own_G p e below Φ T13 (mkF m 109 #[.val (.ref a1), .val (.long q1), .second, .val (.int (1 : Int32)), .unset] [(.int (1 : Int32)), (.int (1 : Int32)), (.int (2 : Int32)), (.ref xl), (.int (1 : Int32)), (.ref xl)])
  refine own_go (fun _ => XS.isub X13.here hx rfl (hb hby d4_109) rfl) ?_
  show own_G p e below Φ T13 (mkF m 110 #[.val (.ref a1), .val (.long q1), .second, .val (.int (1 : Int32)), .unset] [(.int (0 : Int32)), (.int (2 : Int32)), (.ref xl), (.int (1 : Int32)), (.ref xl)])
  have f15 : Arv Z h8 xl kl (.object "corro/core/Level") (64 : Int32) [(.ref l0)] .null := V_xl.keep Kq8 (ninS (Ne.symm ne_xa_xl) nin0)
  have V14p : Arv Z h8 xl kl (.object "corro/core/Level") (64 : Int32) [(.ref l0), .null] .null := f15.pad (pad_rep [(.ref l0)] .null 1)
  obtain ⟨cl14, Ar14, zq14, -⟩ := id V14p
  obtain ⟨T14, h14, L14, X14, e14, N14, Kq14, V14q, st14⟩ := cpA X13 hx hZ hown (wd_53 hw) (wd_56 hw) (wd_54 hw) (wd_55 hw) e13 V14p V14p (us := []) (Or.inr ⟨rfl, rfl, trivial⟩) (sp := (1 : Int32)) (dp := (2 : Int32)) (nn := (0 : Int32)) (by decide) (by decide) (by decide) (by decide) (by decide) rfl (Nat.le_of_ble_eq_true rfl) N8 g_xl (g := (mkF m 110 #[.val (.ref a1), .val (.long q1), .second, .val (.int (1 : Int32)), .unset] [(.int (0 : Int32)), (.int (2 : Int32)), (.ref xl), (.int (1 : Int32)), (.ref xl)])) rfl (by rw [hml]; rfl) rfl (hb hby d4_110) (by decide) (W := 0) (by show 2 * 0 + _ ≤ _; exact Nat.le_of_eq rfl) (by decide)
  refine own_go st14 ?_
  have V14 : Arv Z h14 xl kl (.object "corro/core/Level") (64 : Int32) [(.ref l0), .null] .null := V14q
  have K14 := K8.trans Kq14 (allS (Or.inl (List.mem_of_getElem? (i := 2) rfl)) all0)
  have Zp14 : n0 ≤ h14.size := Nat.le_trans Zp8 Kq14.1
  show own_G p e below Φ T14 (mkF m 113 #[.val (.ref a1), .val (.long q1), .second, .val (.int (1 : Int32)), .unset] [])
  obtain ⟨T16, h16, X16, e16, E16, A16, D16, -, st16⟩ := newO X14 hx hZ hown (wd_20 hw) (wd_57 hw) (wd_58 hw) e14 (g := (mkF m 113 #[.val (.ref a1), .val (.long q1), .second, .val (.int (1 : Int32)), .unset] [])) rfl (hb hby d4_113) (by decide) (by decide)
  obtain ⟨ob16, g16⟩ : ∃ z, z = h14.size := ⟨_, rfl⟩
  rw [← g16] at A16 D16 st16
  have f17 : Exa Z h8 a1 "corro/core/LimitLevels" := E_a1.keep Kq8
  have f18 : Exa Z h14 a1 "corro/core/LimitLevels" := f17.keep Kq14
  have ne_a1_ob16 : a1 ≠ ob16 := Nat.ne_of_lt (Nat.lt_of_lt_of_le f18.lt (Nat.le_of_eq g16.symm))
  have f19 : Arv Z h14 xa kk .long (64 : Int32) [(.long k0), (.long (0 : Int64))] (.long (0 : Int64)) := V8.keep Kq14 (ninS ne_xa_xl nin0)
  have ne_xa_ob16 : xa ≠ ob16 := Nat.ne_of_lt (Nat.lt_of_lt_of_le f19.lt (Nat.le_of_eq g16.symm))
  have ne_xl_ob16 : xl ≠ ob16 := Nat.ne_of_lt (Nat.lt_of_lt_of_le V14.lt (Nat.le_of_eq g16.symm))
  have f20 : Exa Z h8 l0 "corro/core/Level" := E_l0.keep Kq8
  have f21 : Exa Z h14 l0 "corro/core/Level" := f20.keep Kq14
  have ne_l0_ob16 : l0 ≠ ob16 := Nat.ne_of_lt (Nat.lt_of_lt_of_le f21.lt (Nat.le_of_eq g16.symm))
  have g_ob16 : n0 ≤ ob16 := Nat.le_trans Zp14 (Nat.le_of_eq g16.symm)
  have sz_ob16 : h0.size ≤ ob16 := Nat.le_trans K14.1 (Nat.le_of_eq g16.symm)
  have K16 := K14.ext E16
  have Zp16 : n0 ≤ h16.size := Nat.le_trans Zp14 E16.1
  refine own_go st16 ?_
  refine own_go (fun _ => XS.dup X16.here hx rfl (hb hby d4_116) rfl rfl) ?_
  show own_G p e below Φ T16 (mkF m 117 #[.val (.ref a1), .val (.long q1), .second, .val (.int (1 : Int32)), .unset] [(.ref ob16), (.ref ob16)])
  obtain ⟨_, _, ⟨T22, zL22, zk22, zn22⟩, -, X22, ⟨Lc22, hQ22, zl22, zy22, zz22⟩, st22⟩ := X16.specialBack hx (y := (⟨"corro/core/Level", "<init>", "()V"⟩ : MethodName)) rfl hown (mvT hZ (wd_59 hw)) (mvT hZ (wd_60 hw)) (mvT hZ (wd_61 hw)) (by decide) (backOf (W := 1) (rmL l Z a0 hw [] ob16 h16 n0 Zp16 ) hZ (wd_61 hw) (wd_58 hw) (by decide) (by decide)) (g := (mkF m 117 #[.val (.ref a1), .val (.long q1), .second, .val (.int (1 : Int32)), .unset] [(.ref ob16), (.ref ob16)])) rfl (by rw [hml]; rfl) (Steps.refl _) (a := ob16) (argsL := []) (rest := [(.ref ob16)]) (lenOf pd_4 rfl) rfl (by show 2 * 0 + _ ≤ _; exact Nat.le_of_eq rfl) (hb hby d4_117) (fun _ _ => ⟨rfl, e16, (by decide : 1 + 0 ≤ _), (by decide : 2 + 0 ≤ _)⟩)
  dsimp only [Pt.U, Pt.locs, Pt.cells, Pt.slots] at X22 zl22 zy22 zz22 st22 hQ22
  subst zl22 zy22 zz22
  obtain ⟨rfl, N22q, hs22⟩ := hQ22
  have N22 := Fr.app N14 N22q
  refine own_on st22 ?_
  refine own_go (fun _ => XS.astore X22.here hx rfl (hb hby d4_120) rfl rfl (l' := #[.val (.ref a1), .val (.long q1), .second, .val (.int (1 : Int32)), .val (.ref ob16)]) rfl) ?_
  refine own_go (fun _ => XS.aloadN X22.here hx rfl (hb hby d4_122) rfl rfl) ?_
  show own_G p e below Φ T22 (mkF m 123 #[.val (.ref a1), .val (.long q1), .second, .val (.int (1 : Int32)), .val (.ref ob16)] [(.ref a1)])
  have f23 : Fld Z h8 a1 "corro/core/LimitLevels" "keys" "[J" (.ref xa) := F_keys_a1.keep Kq8 (ninS ne_a1_xa nin0)
  have f24 : Fld Z h14 a1 "corro/core/LimitLevels" "keys" "[J" (.ref xa) := f23.keep Kq14 (ninS ne_a1_xl nin0)
  have f25 : Fld Z h16 a1 "corro/core/LimitLevels" "keys" "[J" (.ref xa) := f24.ext E16
  obtain ⟨T26, X26, e26, st26⟩ := getF X22 hx hZ hown (host := "") (Or.inl (wd_18 hw)) Via.refl hs22 f25 (g := (mkF m 123 #[.val (.ref a1), .val (.long q1), .second, .val (.int (1 : Int32)), .val (.ref ob16)] [(.ref a1)])) rfl rfl (hb hby d4_123)
  refine own_go st26 ?_
  refine own_go (fun _ => XS.iloadN X26.here hx rfl (hb hby d4_126) rfl) ?_
  refine own_go (fun _ => XS.aloadN X26.here hx rfl (hb hby d4_127) rfl rfl) ?_
  show own_G p e below Φ T26 (mkF m 128 #[.val (.ref a1), .val (.long q1), .second, .val (.int (1 : Int32)), .val (.ref ob16)] [(.ref a1), (.int (1 : Int32)), (.ref xa)])
  refine own_go (fun _ => XS.lloadN X26.here hx rfl (hb hby d4_128) rfl) ?_
  show own_G p e below Φ T26 (mkF m 129 #[.val (.ref a1), .val (.long q1), .second, .val (.int (1 : Int32)), .val (.ref ob16)] [(.long q1), (.ref a1), (.int (1 : Int32)), (.ref xa)])
  have f27 : Fld Z h8 a1 "corro/core/LimitLevels" "highestFirst" "Z" (.int hf) := F_highestFirst_a1.keep Kq8 (ninS ne_a1_xa nin0)
  have f28 : Fld Z h14 a1 "corro/core/LimitLevels" "highestFirst" "Z" (.int hf) := f27.keep Kq14 (ninS ne_a1_xl nin0)
  have f29 : Fld Z h16 a1 "corro/core/LimitLevels" "highestFirst" "Z" (.int hf) := f28.ext E16
  have f31 : Exa Z h16 a1 "corro/core/LimitLevels" := f18.ext E16
  obtain ⟨cq30, zc30, zc30z⟩ := f31.cell
  obtain ⟨_, _, ⟨T30, zL30, zk30, zn30⟩, -, X30, ⟨Lc30, hQ30, zl30, zy30, zz30⟩, st30⟩ := X26.privateBack hx (y := (⟨"corro/core/LimitLevels", "key", "(J)J"⟩ : MethodName)) hown (mvT hZ (wd_39 hw)) (mvT hZ (wd_40 hw)) (own_selp (x := (⟨"corro/core/LimitLevels", "getOrAdd", "(J)Lcorro/core/Level;"⟩ : MethodName)) rfl (mvT hZ (wd_30 hw)) (notFace_of_selects (args := #[]) (mvT hZ (wd_31 hw))) (Cond.privateMethod_at (mvP hZ (wd_41 hw) (args := #[]))) (mvT hZ (wd_40 hw)) (by decide)) (Cond.privateMethod_at (mvP hZ (wd_41 hw) (args := #[]))) (mvT hZ (wd_42 hw)) (by decide) (backOf (W := 2) (rmK l Z a0 hw [] a1 q1 hf h16 n0 Zp16 f29) hZ (wd_42 hw) (wd_7 hw) (by decide) (by decide)) (g := (mkF m 129 #[.val (.ref a1), .val (.long q1), .second, .val (.int (1 : Int32)), .val (.ref ob16)] [(.long q1), (.ref a1), (.int (1 : Int32)), (.ref xa)])) rfl (by rw [hml]; rfl) (Steps.refl _) (a := a1) (by rw [e26]; exact zc30) zc30z (argsL := [(.long q1)]) (rest := [(.int (1 : Int32)), (.ref xa)]) (lenOf pd_2 rfl) rfl (by show 2 * 0 + _ ≤ _; exact Nat.le_of_eq rfl) (hb hby d4_129) (fun _ _ => ⟨rfl, e26, (by decide : 1 + 0 ≤ _), (by decide : 2 + 0 ≤ _)⟩)
  dsimp only [Pt.U, Pt.locs, Pt.cells, Pt.slots] at X30 zl30 zy30 zz30 st30 hQ30
  subst zl30 zy30 zz30
  obtain ⟨rfl, N30q, hs30⟩ := hQ30
  have N30 := Fr.app N22 N30q
  refine own_on st30 ?_
  show own_G p e below Φ T30 (mkF m 132 #[.val (.ref a1), .val (.long q1), .second, .val (.int (1 : Int32)), .val (.ref ob16)] [(.long (own_key hf q1)), (.int (1 : Int32)), (.ref xa)])
  have f32 : Arv Z h16 xa kk .long (64 : Int32) [(.long k0), (.long (0 : Int64))] (.long (0 : Int64)) := f19.ext E16
  obtain ⟨cl33, Ar33, zq33, S33, M33, H33, G33⟩ := id f32
  have hin33 : ¬ ((1 : Int32) < 0 ∨ cl33.slots.size ≤ ((1 : Int32)).toNatClampNeg) := inb_of S33 ⟨by decide, by decide⟩
  obtain ⟨T33, h33, X33, e33, W33, st33⟩ := stJ X30 hx hZ hs30 Ar33 (j := (1 : Int32)) hin33 (g := (mkF m 132 #[.val (.ref a1), .val (.long q1), .second, .val (.int (1 : Int32)), .val (.ref ob16)] [(.long (own_key hf q1)), (.int (1 : Int32)), (.ref xa)])) rfl rfl (hb hby d4_132)
  refine own_go st33 ?_
  have V33 : Arv Z h33 xa kk .long (64 : Int32) [(.long k0), (.long (own_key hf q1))] (.long (0 : Int64)) := Arv.set Ar33 zq33 S33 M33 H33 G33 rfl W33 1 rfl (Nat.le_of_ble_eq_true rfl)
  have N33 := Fr.snoc X33 N30 g_xa
  have K33 := K16.wr W33 (Or.inl (List.mem_of_getElem? (i := 1) rfl))
  have Zp33 : n0 ≤ h33.size := Nat.le_trans Zp16 (Keep.of_wr W33).1
  refine own_go (fun _ => XS.aloadN X33.here hx rfl (hb hby d4_133) rfl rfl) ?_
  show own_G p e below Φ T33 (mkF m 134 #[.val (.ref a1), .val (.long q1), .second, .val (.int (1 : Int32)), .val (.ref ob16)] [(.ref a1)])
  have f34 : Fld Z h14 a1 "corro/core/LimitLevels" "levels" "[Lcorro/core/Level;" (.ref xl) := f9.keep Kq14 (ninS ne_a1_xl nin0)
  have f35 : Fld Z h16 a1 "corro/core/LimitLevels" "levels" "[Lcorro/core/Level;" (.ref xl) := f34.ext E16
  have f36 : Fld Z h33 a1 "corro/core/LimitLevels" "levels" "[Lcorro/core/Level;" (.ref xl) := f35.other W33 (Or.inl ne_a1_xa)
  obtain ⟨T37, X37, e37, st37⟩ := getF X33 hx hZ hown (host := "") (Or.inl (wd_22 hw)) Via.refl e33 f36 (g := (mkF m 134 #[.val (.ref a1), .val (.long q1), .second, .val (.int (1 : Int32)), .val (.ref ob16)] [(.ref a1)])) rfl rfl (hb hby d4_134)
  refine own_go st37 ?_
  refine own_go (fun _ => XS.iloadN X37.here hx rfl (hb hby d4_137) rfl) ?_
  refine own_go (fun _ => XS.aload X37.here hx rfl (hb hby d4_138) rfl rfl) ?_
  show own_G p e below Φ T37 (mkF m 140 #[.val (.ref a1), .val (.long q1), .second, .val (.int (1 : Int32)), .val (.ref ob16)] [(.ref ob16), (.int (1 : Int32)), (.ref xl)])
  have f38 : Arv Z h16 xl kl (.object "corro/core/Level") (64 : Int32) [(.ref l0), .null] .null := V14.ext E16
  have f39 : Arv Z h33 xl kl (.object "corro/core/Level") (64 : Int32) [(.ref l0), .null] .null := f38.other W33 (Ne.symm ne_xa_xl)
  obtain ⟨cl40, Ar40, zq40, S40, M40, H40, G40⟩ := id f39
  have hin40 : ¬ ((1 : Int32) < 0 ∨ cl40.slots.size ≤ ((1 : Int32)).toNatClampNeg) := inb_of S40 ⟨by decide, by decide⟩
  have f41 : Exa Z h33 ob16 "corro/core/Level" := A16.wr W33
  obtain ⟨T40, h40, X40, e40, W40, st40⟩ := stR X37 hx hZ e37 Ar40 (j := (1 : Int32)) hin40 rfl (Sto.ofV Ar40 zq40 hO (Ins.self f41)) (g := (mkF m 140 #[.val (.ref a1), .val (.long q1), .second, .val (.int (1 : Int32)), .val (.ref ob16)] [(.ref ob16), (.int (1 : Int32)), (.ref xl)])) rfl rfl (hb hby d4_140)
  refine own_go st40 ?_
  have V40 : Arv Z h40 xl kl (.object "corro/core/Level") (64 : Int32) [(.ref l0), (.ref ob16)] .null := Arv.set Ar40 zq40 S40 M40 H40 G40 rfl W40 1 rfl (Nat.le_of_ble_eq_true rfl)
  have N40 := Fr.snoc X40 N33 g_xl
  have K40 := K33.wr W40 (Or.inl (List.mem_of_getElem? (i := 2) rfl))
  have Zp40 : n0 ≤ h40.size := Nat.le_trans Zp33 (Keep.of_wr W40).1
  refine own_go (fun _ => XS.aloadN X40.here hx rfl (hb hby d4_141) rfl rfl) ?_
  refine own_go (fun _ => XS.dup X40.here hx rfl (hb hby d4_142) rfl rfl) ?_
  show own_G p e below Φ T40 (mkF m 143 #[.val (.ref a1), .val (.long q1), .second, .val (.int (1 : Int32)), .val (.ref ob16)] [(.ref a1), (.ref a1)])
  have f42 : Fld Z h14 a1 "corro/core/LimitLevels" "size" "I" (.int (1 : Int32)) := f12.keep Kq14 (ninS ne_a1_xl nin0)
  have f43 : Fld Z h16 a1 "corro/core/LimitLevels" "size" "I" (.int (1 : Int32)) := f42.ext E16
  have f44 : Fld Z h33 a1 "corro/core/LimitLevels" "size" "I" (.int (1 : Int32)) := f43.other W33 (Or.inl ne_a1_xa)
  have f45 : Fld Z h40 a1 "corro/core/LimitLevels" "size" "I" (.int (1 : Int32)) := f44.other W40 (Or.inl ne_a1_xl)
  obtain ⟨T46, X46, e46, st46⟩ := getF X40 hx hZ hown (host := "") (Or.inl (wd_37 hw)) Via.refl e40 f45 (g := (mkF m 143 #[.val (.ref a1), .val (.long q1), .second, .val (.int (1 : Int32)), .val (.ref ob16)] [(.ref a1), (.ref a1)])) rfl rfl (hb hby d4_143)
  refine own_go st46 ?_
  refine own_go (fun _ => XS.iconst X46.here hx rfl (hb hby d4_146)) ?_
  show own_G p e below Φ T46 (mkF m 147 #[.val (.ref a1), .val (.long q1), .second, .val (.int (1 : Int32)), .val (.ref ob16)] [(.int (1 : Int32)), (.int (1 : Int32)), (.ref a1)])
  refine own_go (fun _ => XS.iadd X46.here hx rfl (hb hby d4_147) rfl) ?_
  show own_G p e below Φ T46 (mkF m 148 #[.val (.ref a1), .val (.long q1), .second, .val (.int (1 : Int32)), .val (.ref ob16)] [(.int (2 : Int32)), (.ref a1)])
  have f47 : Exa Z h33 a1 "corro/core/LimitLevels" := f31.wr W33
  have f48 : Exa Z h40 a1 "corro/core/LimitLevels" := f47.wr W40
  obtain ⟨T49, h49, X49, e49, W49, st49⟩ := putF X46 hx hZ hown (host := "") (Or.inl (wd_37 hw)) Via.refl e46 f45 f48 (Or.inl (wd_38 hw)) (wd_6 hw) (ty := .int) (by decide) rfl rfl (g := (mkF m 148 #[.val (.ref a1), .val (.long q1), .second, .val (.int (1 : Int32)), .val (.ref ob16)] [(.int (2 : Int32)), (.ref a1)])) rfl rfl (hb hby d4_148)
  refine own_go st49 ?_
  have N49 := Fr.snoc X49 N40 g_a1
  have K49 := K40.wr W49 (Or.inl (List.mem_of_getElem? (i := 0) rfl))
  have Zp49 : n0 ≤ h49.size := Nat.le_trans Zp40 (Keep.of_wr W49).1
  have f49w := f45.same W49
  refine own_go (fun _ => XS.aload X49.here hx rfl (hb hby d4_151) rfl rfl) ?_
  show own_G p e below Φ T49 (mkF m 153 #[.val (.ref a1), .val (.long q1), .second, .val (.int (1 : Int32)), .val (.ref ob16)] [(.ref ob16)])
  have f50 : Exa Z h49 a1 "corro/core/LimitLevels" := f48.wr W49
  have f51 : Fld Z h33 a1 "corro/core/LimitLevels" "keys" "[J" (.ref xa) := f25.other W33 (Or.inl ne_a1_xa)
  have f52 : Fld Z h40 a1 "corro/core/LimitLevels" "keys" "[J" (.ref xa) := f51.other W40 (Or.inl ne_a1_xl)
  have f53 : Fld Z h49 a1 "corro/core/LimitLevels" "keys" "[J" (.ref xa) := f52.other W49 (Or.inr (sl_9 hw))
  have f54 : Fld Z h40 a1 "corro/core/LimitLevels" "levels" "[Lcorro/core/Level;" (.ref xl) := f36.other W40 (Or.inl ne_a1_xl)
  have f55 : Fld Z h49 a1 "corro/core/LimitLevels" "levels" "[Lcorro/core/Level;" (.ref xl) := f54.other W49 (Or.inr (sl_10 hw))
  have f56 : Fld Z h33 a1 "corro/core/LimitLevels" "highestFirst" "Z" (.int hf) := f29.other W33 (Or.inl ne_a1_xa)
  have f57 : Fld Z h40 a1 "corro/core/LimitLevels" "highestFirst" "Z" (.int hf) := f56.other W40 (Or.inl ne_a1_xl)
  have f58 : Fld Z h49 a1 "corro/core/LimitLevels" "highestFirst" "Z" (.int hf) := f57.other W49 (Or.inr (sl_11 hw))
  have f59 : Arv Z h40 xa kk .long (64 : Int32) [(.long k0), (.long (own_key hf q1))] (.long (0 : Int64)) := V33.other W40 ne_xa_xl
  have f60 : Arv Z h49 xa kk .long (64 : Int32) [(.long k0), (.long (own_key hf q1))] (.long (0 : Int64)) := f59.other W49 (Ne.symm ne_a1_xa)
  have f61 : Arv Z h49 xl kl (.object "corro/core/Level") (64 : Int32) [(.ref l0), (.ref ob16)] .null := V40.other W49 (Ne.symm ne_a1_xl)
  have f62 : Exa Z h40 ob16 "corro/core/Level" := f41.wr W40
  have f63 : Exa Z h49 ob16 "corro/core/Level" := f62.wr W49
  rw [hΦ]
  refine own_ret X49 (v := some (.ref ob16)) (fun h => by rw [Bd.returns] at h; cases h) (BodyLoose.notSynchronized Bd) (fun fs hr => retOut X49 hx Bd.returns rfl (Or.inr (Or.inr (Or.inr (Or.inr ⟨rfl, rfl, rfl⟩)))) (hb hby d4_153) hr) ?_ (by decide) (by decide)
  rw [e49]
  exact ⟨ob16, sz_ob16, rfl, N49, K49, f50, f53, f55, f49w, f58, f60, f61, f63⟩
theorem ef_rmG_2ins0 (m : MethodId) (a1 : Addr) (q1 : Int64) : entryFrame m #[(.ref a1), (.long q1)] 5 = mkF m 0 #[.val (.ref a1), .val (.long q1), .second, .unset, .unset] [] := by first | (simp [entryFrame, mkF, argsToLocals, Value.category]; done) | rfl
def Q_rmG_2ins0 (Z : State) (a1 : Addr) (q1 : Int64) (hf : Int32) (xa : Addr) (xl : Addr) (kk : ClassId) (kl : ClassId) (k0 : Int64) (k1 : Int64) (l0 : Addr) (l1 : Addr) (h0 : Heap) (n0 : Nat) (v : Option Value) (h : Heap) (L : List Loc) : Prop := ∃ lv : Addr, h0.size ≤ lv ∧ v = some (.ref lv) ∧ Fr n0 L ∧ Keep h0 h [a1, xa, xl] ∧ Exa Z h a1 "corro/core/LimitLevels" ∧ Fld Z h a1 "corro/core/LimitLevels" "keys" "[J" (.ref xa) ∧ Fld Z h a1 "corro/core/LimitLevels" "levels" "[Lcorro/core/Level;" (.ref xl) ∧ Fld Z h a1 "corro/core/LimitLevels" "size" "I" (.int (3 : Int32)) ∧ Fld Z h a1 "corro/core/LimitLevels" "highestFirst" "Z" (.int hf) ∧ Arv Z h xa kk .long (64 : Int32) [(.long (own_key hf q1)), (.long k0), (.long k1)] (.long (0 : Int64)) ∧ Arv Z h xl kl (.object "corro/core/Level") (64 : Int32) [(.ref lv), (.ref l0), (.ref l1)] .null ∧ Exa Z h lv "corro/core/Level"
set_option maxRecDepth 65536 in
set_option maxHeartbeats 40000000 in
theorem rmG_2ins0 (l : Launch) (Z : State) (a0 : Array Value) (hw : ∀ d ∈ tables_1, d.before a0 Z = true) (ws : List Jvm.Cond) (a1 : Addr) (q1 : Int64) (hf : Int32) (xa : Addr) (xl : Addr) (kk : ClassId) (kl : ClassId) (k0 : Int64) (k1 : Int64) (l0 : Addr) (l1 : Addr) (h0 : Heap) (n0 : Nat) (Z0 : n0 ≤ h0.size) (E_a1 : Exa Z h0 a1 "corro/core/LimitLevels") (F_keys_a1 : Fld Z h0 a1 "corro/core/LimitLevels" "keys" "[J" (.ref xa)) (F_levels_a1 : Fld Z h0 a1 "corro/core/LimitLevels" "levels" "[Lcorro/core/Level;" (.ref xl)) (F_size_a1 : Fld Z h0 a1 "corro/core/LimitLevels" "size" "I" (.int (2 : Int32))) (F_highestFirst_a1 : Fld Z h0 a1 "corro/core/LimitLevels" "highestFirst" "Z" (.int hf)) (V_xa : Arv Z h0 xa kk .long (64 : Int32) [(.long k0), (.long k1)] (.long (0 : Int64))) (V_xl : Arv Z h0 xl kl (.object "corro/core/Level") (64 : Int32) [(.ref l0), (.ref l1)] .null) (E_l0 : Exa Z h0 l0 "corro/core/Level") (E_l1 : Exa Z h0 l1 "corro/core/Level") (g_a1 : n0 ≤ a1) (g_xa : n0 ≤ xa) (g_xl : n0 ≤ xl) (ne_a1_xa : a1 ≠ xa) (ne_a1_xl : a1 ≠ xl) (ne_xa_xl : xa ≠ xl) (hO : Ovr Z kl "corro/core/Level") (r0 : (own_key hf q1) < k0) :
    MetFree l (⟨"corro/core/LimitLevels", "getOrAdd", "(J)Lcorro/core/Level;"⟩ : MethodName) (head1 (Jvm.Cond.code (⟨"corro/core/LimitLevels", "getOrAdd", "(J)Lcorro/core/Level;"⟩ : MethodName) prog_14_method_7_code 5 (some (.object "corro/core/Level")) :: ws) ({ frames := 3, cells := 1, slots := 2, locals := 51 } : Room)) (fun a U => a = #[(.ref a1), (.long q1)] ∧ Z.Warmed39 U.vm ∧ U.heap = h0) (fun _ _ _ _ _ => True) (fun _ U o U' => ∃ v L, o = .returned v ∧ Q_rmG_2ins0 Z a1 q1 hf xa xl kk kl k0 k1 l0 l1 h0 n0 v U'.heap L ∧ FrameEnd U o U' L ({ frames := 3, cells := 1, slots := 2, locals := 51 } : Room).cells ({ frames := 3, cells := 1, slots := 2, locals := 51 } : Room).slots) := by
  refine MetFree.of_bodySF (plainFor_of_name pn_1) hisR ?_
  intro p e s m args below meth c s₁ Bd hml0 hP hK
  obtain ⟨rfl, hZ, hh⟩ := hP
  have hx := Bd.exec
  have hby := Bd.bytes
  have hml : c.maxLocals = 5 := hml0
  have hown : s.vm.findClass "corro/core/LimitLevels" = some m.cls := findClass_of_methodNamed Bd.named
  have hnm := (name_of_methodNamed Bd.named Bd.method).1
  have X0 : Stand p l e ({ frames := 3, cells := 1, slots := 2, locals := 51 } : Room) s m #[(.ref a1), (.long q1)] below meth c s₁ [] 0 0 := Stand.of_body Bd
  have e0 : s₁.heap = h0 := by rw [← hh, Bd.state]; rfl
  have N0 := Fr.nil n0
  have K0 : Keep h0 h0 [a1, xa, xl] := Keep.refl _ _
  suffices G0 : own_G p e below (own_E s below (Q_rmG_2ins0 Z a1 q1 hf xa xl kk kl k0 k1 l0 l1 h0 n0) ({ frames := 3, cells := 1, slots := 2, locals := 51 } : Room).cells ({ frames := 3, cells := 1, slots := 2, locals := 51 } : Room).slots) s₁ (mkF m 0 #[.val (.ref a1), .val (.long q1), .second, .unset, .unset] []) by
    obtain ⟨zt, zst, zo, zq1, zq2, zq3⟩ := G0
    exact ⟨zt, zo, castTop (ef_rmG_2ins0 m a1 q1) zst, zq1, zq2, zq3⟩
  obtain ⟨Φ, hΦ⟩ : ∃ Φ, Φ = own_E s below (Q_rmG_2ins0 Z a1 q1 hf xa xl kk kl k0 k1 l0 l1 h0 n0) ({ frames := 3, cells := 1, slots := 2, locals := 51 } : Room).cells ({ frames := 3, cells := 1, slots := 2, locals := 51 } : Room).slots := ⟨_, rfl⟩
  rw [← hΦ]
  show own_G p e below Φ s₁ (mkF m 0 #[.val (.ref a1), .val (.long q1), .second, .unset, .unset] [])
  refine own_go (fun _ => XS.aloadN X0.here hx rfl (hb hby d4_0) rfl rfl) ?_
  refine own_go (fun _ => XS.lloadN X0.here hx rfl (hb hby d4_1) rfl) ?_
  show own_G p e below Φ s₁ (mkF m 2 #[.val (.ref a1), .val (.long q1), .second, .unset, .unset] [(.long q1), (.ref a1)])
  obtain ⟨cq1, zc1, zc1z⟩ := E_a1.cell
  obtain ⟨_, _, ⟨T1, zL1, zk1, zn1⟩, -, X1, ⟨Lc1, hQ1, zl1, zy1, zz1⟩, st1⟩ := X0.privateBack hx (y := (⟨"corro/core/LimitLevels", "search", "(J)I"⟩ : MethodName)) hown (mvT hZ (wd_33 hw)) (mvT hZ (wd_34 hw)) (own_selp (x := (⟨"corro/core/LimitLevels", "getOrAdd", "(J)Lcorro/core/Level;"⟩ : MethodName)) rfl (mvT hZ (wd_30 hw)) (notFace_of_selects (args := #[]) (mvT hZ (wd_31 hw))) (Cond.privateMethod_at (mvP hZ (wd_35 hw) (args := #[]))) (mvT hZ (wd_34 hw)) (by decide)) (Cond.privateMethod_at (mvP hZ (wd_35 hw) (args := #[]))) (mvT hZ (wd_36 hw)) (by decide) (backOf (W := 0) (rmS_2ins0 l Z a0 hw [] a1 q1 hf xa kk k0 k1 h0 n0 Z0 E_a1 F_keys_a1 F_size_a1 F_highestFirst_a1 V_xa r0) hZ (wd_36 hw) (wd_7 hw) (by decide) (by decide)) (g := (mkF m 2 #[.val (.ref a1), .val (.long q1), .second, .unset, .unset] [(.long q1), (.ref a1)])) rfl (by rw [hml]; rfl) (Steps.refl _) (a := a1) (by rw [e0]; exact zc1) zc1z (argsL := [(.long q1)]) (rest := []) (lenOf pd_3 rfl) rfl (by show 2 * 0 + _ ≤ _; exact Nat.le_of_eq rfl) (hb hby d4_2) (fun _ _ => ⟨rfl, e0, (by decide : 0 + 0 ≤ _), (by decide : 0 + 0 ≤ _)⟩)
  dsimp only [Pt.U, Pt.locs, Pt.cells, Pt.slots] at X1 zl1 zy1 zz1 st1 hQ1
  subst zl1 zy1 zz1
  obtain ⟨rfl, N1q, hs1⟩ := hQ1
  have N1 := Fr.app N0 N1q
  refine own_on st1 ?_
  refine own_go (fun _ => XS.istoreN X1.here hx rfl (hb hby d4_5) rfl (l' := #[.val (.ref a1), .val (.long q1), .second, .val (.int (-1 : Int32)), .unset]) rfl) ?_
  refine own_go (fun _ => XS.iloadN X1.here hx rfl (hb hby d4_6) rfl) ?_
  show own_G p e below Φ T1 (mkF m 7 #[.val (.ref a1), .val (.long q1), .second, .val (.int (-1 : Int32)), .unset] [(.int (-1 : Int32))])
  refine own_go (fun _ => XS.ifYes X1.here hx rfl (pc0 := 7) (pc' := 17) rfl (hb hby d4_7) rfl (Jvm.Free.XT.i0_lt_t (by decide : ((-1 : Int32) < (0 : Int32)))) (by decide) (by decide)) ?_
  refine own_go (fun _ => XS.iloadN X1.here hx rfl (hb hby d4_17) rfl) ?_
  show own_G p e below Φ T1 (mkF m 18 #[.val (.ref a1), .val (.long q1), .second, .val (.int (-1 : Int32)), .unset] [(.int (-1 : Int32))])
  refine own_go (fun _ => XS.ineg X1.here hx rfl (hb hby d4_18) rfl) ?_
  refine own_go (fun _ => XS.iconst X1.here hx rfl (hb hby d4_19)) ?_
  show own_G p e below Φ T1 (mkF m 20 #[.val (.ref a1), .val (.long q1), .second, .val (.int (-1 : Int32)), .unset] [(.int (1 : Int32)), (.int (1 : Int32))])
  refine own_go (fun _ => XS.isub X1.here hx rfl (hb hby d4_20) rfl) ?_
  refine own_go (fun _ => XS.istoreN X1.here hx rfl (hb hby d4_21) rfl (l' := #[.val (.ref a1), .val (.long q1), .second, .val (.int (0 : Int32)), .unset]) rfl) ?_
  refine own_go (fun _ => XS.aloadN X1.here hx rfl (hb hby d4_22) rfl rfl) ?_
  show own_G p e below Φ T1 (mkF m 23 #[.val (.ref a1), .val (.long q1), .second, .val (.int (0 : Int32)), .unset] [(.ref a1)])
  obtain ⟨T2, X2, e2, st2⟩ := getF X1 hx hZ hown (host := "") (Or.inl (wd_37 hw)) Via.refl hs1 F_size_a1 (g := (mkF m 23 #[.val (.ref a1), .val (.long q1), .second, .val (.int (0 : Int32)), .unset] [(.ref a1)])) rfl rfl (hb hby d4_23)
  refine own_go st2 ?_
  refine own_go (fun _ => XS.aloadN X2.here hx rfl (hb hby d4_26) rfl rfl) ?_
  show own_G p e below Φ T2 (mkF m 27 #[.val (.ref a1), .val (.long q1), .second, .val (.int (0 : Int32)), .unset] [(.ref a1), (.int (2 : Int32))])
  obtain ⟨T3, X3, e3, st3⟩ := getF X2 hx hZ hown (host := "") (Or.inl (wd_18 hw)) Via.refl e2 F_keys_a1 (g := (mkF m 27 #[.val (.ref a1), .val (.long q1), .second, .val (.int (0 : Int32)), .unset] [(.ref a1), (.int (2 : Int32))])) rfl rfl (hb hby d4_27)
  refine own_go st3 ?_
  show own_G p e below Φ T3 (mkF m 30 #[.val (.ref a1), .val (.long q1), .second, .val (.int (0 : Int32)), .unset] [(.ref xa), (.int (2 : Int32))])
  obtain ⟨cl4, Ar4, zq4, S4, M4, H4, G4⟩ := id V_xa
  refine own_go (fun _ => X3.arraylength hx (by rw [e3]; exact Ar4.1) (State.isArrayOf_alike hZ.alike Ar4.2.1) (g := (mkF m 30 #[.val (.ref a1), .val (.long q1), .second, .val (.int (0 : Int32)), .unset] [(.ref xa), (.int (2 : Int32))])) rfl rfl (hb hby d4_30) _) ?_
  rw [len_of S4 M4]
  show own_G p e below Φ T3 (mkF m 31 #[.val (.ref a1), .val (.long q1), .second, .val (.int (0 : Int32)), .unset] [(.int (64 : Int32)), (.int (2 : Int32))])
  refine own_go (fun _ => XS.icmpYes X3.here hx rfl (pc0 := 31) (pc' := 71) rfl (hb hby d4_31) rfl (Jvm.Free.XT.ii_ne_t (by decide : ¬ ((2 : Int32) = (64 : Int32)))) (by decide) (by decide)) ?_
  refine own_go (fun _ => XS.aloadN X3.here hx rfl (hb hby d4_71) rfl rfl) ?_
  show own_G p e below Φ T3 (mkF m 72 #[.val (.ref a1), .val (.long q1), .second, .val (.int (0 : Int32)), .unset] [(.ref a1)])
  obtain ⟨T5, X5, e5, st5⟩ := getF X3 hx hZ hown (host := "") (Or.inl (wd_18 hw)) Via.refl e3 F_keys_a1 (g := (mkF m 72 #[.val (.ref a1), .val (.long q1), .second, .val (.int (0 : Int32)), .unset] [(.ref a1)])) rfl rfl (hb hby d4_72)
  refine own_go st5 ?_
  refine own_go (fun _ => XS.iloadN X5.here hx rfl (hb hby d4_75) rfl) ?_
  refine own_go (fun _ => XS.aloadN X5.here hx rfl (hb hby d4_76) rfl rfl) ?_
  show own_G p e below Φ T5 (mkF m 77 #[.val (.ref a1), .val (.long q1), .second, .val (.int (0 : Int32)), .unset] [(.ref a1), (.int (0 : Int32)), (.ref xa)])
  obtain ⟨T6, X6, e6, st6⟩ := getF X5 hx hZ hown (host := "") (Or.inl (wd_18 hw)) Via.refl e5 F_keys_a1 (g := (mkF m 77 #[.val (.ref a1), .val (.long q1), .second, .val (.int (0 : Int32)), .unset] [(.ref a1), (.int (0 : Int32)), (.ref xa)])) rfl rfl (hb hby d4_77)
  refine own_go st6 ?_
  refine own_go (fun _ => XS.iloadN X6.here hx rfl (hb hby d4_80) rfl) ?_
  refine own_go (fun _ => XS.iconst X6.here hx rfl (hb hby d4_81)) ?_
  show own_G p e below Φ T6 (mkF m 82 #[.val (.ref a1), .val (.long q1), .second, .val (.int (0 : Int32)), .unset] [(.int (1 : Int32)), (.int (0 : Int32)), (.ref xa), (.int (0 : Int32)), (.ref xa)])
  refine own_go (fun _ => XS.iadd X6.here hx rfl (hb hby d4_82) rfl) ?_
  refine own_go (fun _ => XS.aloadN X6.here hx rfl (hb hby d4_83) rfl rfl) ?_
  show own_G p e below Φ T6 (mkF m 84 #[.val (.ref a1), .val (.long q1), .second, .val (.int (0 : Int32)), .unset] [(.ref a1), (.int (1 : Int32)), (.ref xa), (.int (0 : Int32)), (.ref xa)])
  obtain ⟨T7, X7, e7, st7⟩ := getF X6 hx hZ hown (host := "") (Or.inl (wd_37 hw)) Via.refl e6 F_size_a1 (g := (mkF m 84 #[.val (.ref a1), .val (.long q1), .second, .val (.int (0 : Int32)), .unset] [(.ref a1), (.int (1 : Int32)), (.ref xa), (.int (0 : Int32)), (.ref xa)])) rfl rfl (hb hby d4_84)
  refine own_go st7 ?_
  refine own_go (fun _ => XS.iloadN X7.here hx rfl (hb hby d4_87) rfl) ?_
  show own_G p e below Φ T7 (mkF m 88 #[.val (.ref a1), .val (.long q1), .second, .val (.int (0 : Int32)), .unset] [(.int (0 : Int32)), (.int (2 : Int32)), (.int (1 : Int32)), (.ref xa), (.int (0 : Int32)), (.ref xa)])
  refine own_go (fun _ => XS.isub X7.here hx rfl (hb hby d4_88) rfl) ?_
  show own_G p e below Φ T7 (mkF m 89 #[.val (.ref a1), .val (.long q1), .second, .val (.int (0 : Int32)), .unset] [(.int (2 : Int32)), (.int (1 : Int32)), (.ref xa), (.int (0 : Int32)), (.ref xa)])
  have V8p : Arv Z h0 xa kk .long (64 : Int32) [(.long k0), (.long k1), (.long (0 : Int64))] (.long (0 : Int64)) := V_xa.pad (pad_rep [(.long k0), (.long k1)] (.long (0 : Int64)) 1)
  obtain ⟨T8, h8, L8, X8, e8, N8, Kq8, V8q, st8⟩ := cpA X7 hx hZ hown (wd_53 hw) (wd_56 hw) (wd_54 hw) (wd_55 hw) e7 V8p V8p (us := [(.long k0), (.long k1)]) (Or.inl ⟨rfl, rfl⟩) (sp := (0 : Int32)) (dp := (1 : Int32)) (nn := (2 : Int32)) (by decide) (by decide) (by decide) (by decide) (by decide) rfl (Nat.le_of_ble_eq_true rfl) N1 g_xa (g := (mkF m 89 #[.val (.ref a1), .val (.long q1), .second, .val (.int (0 : Int32)), .unset] [(.int (2 : Int32)), (.int (1 : Int32)), (.ref xa), (.int (0 : Int32)), (.ref xa)])) rfl (by rw [hml]; rfl) rfl (hb hby d4_89) (by decide) (W := 0) (by show 2 * 0 + _ ≤ _; exact Nat.le_of_eq rfl) (by decide)
  refine own_go st8 ?_
  have V8 : Arv Z h8 xa kk .long (64 : Int32) [(.long k0), (.long k0), (.long k1)] (.long (0 : Int64)) := V8q
  have K8 := K0.trans Kq8 (allS (Or.inl (List.mem_of_getElem? (i := 1) rfl)) all0)
  have Zp8 : n0 ≤ h8.size := Nat.le_trans Z0 Kq8.1
  refine own_go (fun _ => XS.aloadN X8.here hx rfl (hb hby d4_92) rfl rfl) ?_
  show own_G p e below Φ T8 (mkF m 93 #[.val (.ref a1), .val (.long q1), .second, .val (.int (0 : Int32)), .unset] [(.ref a1)])
  have f9 : Fld Z h8 a1 "corro/core/LimitLevels" "levels" "[Lcorro/core/Level;" (.ref xl) := F_levels_a1.keep Kq8 (ninS ne_a1_xa nin0)
  obtain ⟨T10, X10, e10, st10⟩ := getF X8 hx hZ hown (host := "") (Or.inl (wd_22 hw)) Via.refl e8 f9 (g := (mkF m 93 #[.val (.ref a1), .val (.long q1), .second, .val (.int (0 : Int32)), .unset] [(.ref a1)])) rfl rfl (hb hby d4_93)
  refine own_go st10 ?_
  refine own_go (fun _ => XS.iloadN X10.here hx rfl (hb hby d4_96) rfl) ?_
  refine own_go (fun _ => XS.aloadN X10.here hx rfl (hb hby d4_97) rfl rfl) ?_
  show own_G p e below Φ T10 (mkF m 98 #[.val (.ref a1), .val (.long q1), .second, .val (.int (0 : Int32)), .unset] [(.ref a1), (.int (0 : Int32)), (.ref xl)])
  obtain ⟨T11, X11, e11, st11⟩ := getF X10 hx hZ hown (host := "") (Or.inl (wd_22 hw)) Via.refl e10 f9 (g := (mkF m 98 #[.val (.ref a1), .val (.long q1), .second, .val (.int (0 : Int32)), .unset] [(.ref a1), (.int (0 : Int32)), (.ref xl)])) rfl rfl (hb hby d4_98)
  refine own_go st11 ?_
  refine own_go (fun _ => XS.iloadN X11.here hx rfl (hb hby d4_101) rfl) ?_
  refine own_go (fun _ => XS.iconst X11.here hx rfl (hb hby d4_102)) ?_
  show own_G p e below Φ T11 (mkF m 103 #[.val (.ref a1), .val (.long q1), .second, .val (.int (0 : Int32)), .unset] [(.int (1 : Int32)), (.int (0 : Int32)), (.ref xl), (.int (0 : Int32)), (.ref xl)])
  refine own_go (fun _ => XS.iadd X11.here hx rfl (hb hby d4_103) rfl) ?_
  refine own_go (fun _ => XS.aloadN X11.here hx rfl (hb hby d4_104) rfl rfl) ?_
  show own_G p e below Φ T11 (mkF m 105 #[.val (.ref a1), .val (.long q1), .second, .val (.int (0 : Int32)), .unset] [(.ref a1), (.int (1 : Int32)), (.ref xl), (.int (0 : Int32)), (.ref xl)])
  have f12 : Fld Z h8 a1 "corro/core/LimitLevels" "size" "I" (.int (2 : Int32)) := F_size_a1.keep Kq8 (ninS ne_a1_xa nin0)
  obtain ⟨T13, X13, e13, st13⟩ := getF X11 hx hZ hown (host := "") (Or.inl (wd_37 hw)) Via.refl e11 f12 (g := (mkF m 105 #[.val (.ref a1), .val (.long q1), .second, .val (.int (0 : Int32)), .unset] [(.ref a1), (.int (1 : Int32)), (.ref xl), (.int (0 : Int32)), (.ref xl)])) rfl rfl (hb hby d4_105)
  refine own_go st13 ?_
  refine own_go (fun _ => XS.iloadN X13.here hx rfl (hb hby d4_108) rfl) ?_
  show own_G p e below Φ T13 (mkF m 109 #[.val (.ref a1), .val (.long q1), .second, .val (.int (0 : Int32)), .unset] [(.int (0 : Int32)), (.int (2 : Int32)), (.int (1 : Int32)), (.ref xl), (.int (0 : Int32)), (.ref xl)])
  refine own_go (fun _ => XS.isub X13.here hx rfl (hb hby d4_109) rfl) ?_
  show own_G p e below Φ T13 (mkF m 110 #[.val (.ref a1), .val (.long q1), .second, .val (.int (0 : Int32)), .unset] [(.int (2 : Int32)), (.int (1 : Int32)), (.ref xl), (.int (0 : Int32)), (.ref xl)])
  have f15 : Arv Z h8 xl kl (.object "corro/core/Level") (64 : Int32) [(.ref l0), (.ref l1)] .null := V_xl.keep Kq8 (ninS (Ne.symm ne_xa_xl) nin0)
  have V14p : Arv Z h8 xl kl (.object "corro/core/Level") (64 : Int32) [(.ref l0), (.ref l1), .null] .null := f15.pad (pad_rep [(.ref l0), (.ref l1)] .null 1)
  obtain ⟨cl14, Ar14, zq14, -⟩ := id V14p
  have f16 : Exa Z h8 l1 "corro/core/Level" := E_l1.keep Kq8
  have f17 : Exa Z h8 l0 "corro/core/Level" := E_l0.keep Kq8
  obtain ⟨T14, h14, L14, X14, e14, N14, Kq14, V14q, st14⟩ := cpA X13 hx hZ hown (wd_53 hw) (wd_56 hw) (wd_54 hw) (wd_55 hw) e13 V14p V14p (us := [(.ref l0), (.ref l1)]) (Or.inr ⟨rfl, rfl, ⟨Sto.ofV Ar14 zq14 hO (Ins.self f17), ⟨Sto.ofV Ar14 zq14 hO (Ins.self f16), trivial⟩⟩⟩) (sp := (0 : Int32)) (dp := (1 : Int32)) (nn := (2 : Int32)) (by decide) (by decide) (by decide) (by decide) (by decide) rfl (Nat.le_of_ble_eq_true rfl) N8 g_xl (g := (mkF m 110 #[.val (.ref a1), .val (.long q1), .second, .val (.int (0 : Int32)), .unset] [(.int (2 : Int32)), (.int (1 : Int32)), (.ref xl), (.int (0 : Int32)), (.ref xl)])) rfl (by rw [hml]; rfl) rfl (hb hby d4_110) (by decide) (W := 0) (by show 2 * 0 + _ ≤ _; exact Nat.le_of_eq rfl) (by decide)
  refine own_go st14 ?_
  have V14 : Arv Z h14 xl kl (.object "corro/core/Level") (64 : Int32) [(.ref l0), (.ref l0), (.ref l1)] .null := V14q
  have K14 := K8.trans Kq14 (allS (Or.inl (List.mem_of_getElem? (i := 2) rfl)) all0)
  have Zp14 : n0 ≤ h14.size := Nat.le_trans Zp8 Kq14.1
  show own_G p e below Φ T14 (mkF m 113 #[.val (.ref a1), .val (.long q1), .second, .val (.int (0 : Int32)), .unset] [])
  obtain ⟨T18, h18, X18, e18, E18, A18, D18, -, st18⟩ := newO X14 hx hZ hown (wd_20 hw) (wd_57 hw) (wd_58 hw) e14 (g := (mkF m 113 #[.val (.ref a1), .val (.long q1), .second, .val (.int (0 : Int32)), .unset] [])) rfl (hb hby d4_113) (by decide) (by decide)
  obtain ⟨ob18, g18⟩ : ∃ z, z = h14.size := ⟨_, rfl⟩
  rw [← g18] at A18 D18 st18
  have f19 : Exa Z h8 a1 "corro/core/LimitLevels" := E_a1.keep Kq8
  have f20 : Exa Z h14 a1 "corro/core/LimitLevels" := f19.keep Kq14
  have ne_a1_ob18 : a1 ≠ ob18 := Nat.ne_of_lt (Nat.lt_of_lt_of_le f20.lt (Nat.le_of_eq g18.symm))
  have f21 : Arv Z h14 xa kk .long (64 : Int32) [(.long k0), (.long k0), (.long k1)] (.long (0 : Int64)) := V8.keep Kq14 (ninS ne_xa_xl nin0)
  have ne_xa_ob18 : xa ≠ ob18 := Nat.ne_of_lt (Nat.lt_of_lt_of_le f21.lt (Nat.le_of_eq g18.symm))
  have ne_xl_ob18 : xl ≠ ob18 := Nat.ne_of_lt (Nat.lt_of_lt_of_le V14.lt (Nat.le_of_eq g18.symm))
  have f22 : Exa Z h14 l0 "corro/core/Level" := f17.keep Kq14
  have ne_l0_ob18 : l0 ≠ ob18 := Nat.ne_of_lt (Nat.lt_of_lt_of_le f22.lt (Nat.le_of_eq g18.symm))
  have f23 : Exa Z h14 l1 "corro/core/Level" := f16.keep Kq14
  have ne_l1_ob18 : l1 ≠ ob18 := Nat.ne_of_lt (Nat.lt_of_lt_of_le f23.lt (Nat.le_of_eq g18.symm))
  have g_ob18 : n0 ≤ ob18 := Nat.le_trans Zp14 (Nat.le_of_eq g18.symm)
  have sz_ob18 : h0.size ≤ ob18 := Nat.le_trans K14.1 (Nat.le_of_eq g18.symm)
  have K18 := K14.ext E18
  have Zp18 : n0 ≤ h18.size := Nat.le_trans Zp14 E18.1
  refine own_go st18 ?_
  refine own_go (fun _ => XS.dup X18.here hx rfl (hb hby d4_116) rfl rfl) ?_
  show own_G p e below Φ T18 (mkF m 117 #[.val (.ref a1), .val (.long q1), .second, .val (.int (0 : Int32)), .unset] [(.ref ob18), (.ref ob18)])
  obtain ⟨_, _, ⟨T24, zL24, zk24, zn24⟩, -, X24, ⟨Lc24, hQ24, zl24, zy24, zz24⟩, st24⟩ := X18.specialBack hx (y := (⟨"corro/core/Level", "<init>", "()V"⟩ : MethodName)) rfl hown (mvT hZ (wd_59 hw)) (mvT hZ (wd_60 hw)) (mvT hZ (wd_61 hw)) (by decide) (backOf (W := 1) (rmL l Z a0 hw [] ob18 h18 n0 Zp18 ) hZ (wd_61 hw) (wd_58 hw) (by decide) (by decide)) (g := (mkF m 117 #[.val (.ref a1), .val (.long q1), .second, .val (.int (0 : Int32)), .unset] [(.ref ob18), (.ref ob18)])) rfl (by rw [hml]; rfl) (Steps.refl _) (a := ob18) (argsL := []) (rest := [(.ref ob18)]) (lenOf pd_4 rfl) rfl (by show 2 * 0 + _ ≤ _; exact Nat.le_of_eq rfl) (hb hby d4_117) (fun _ _ => ⟨rfl, e18, (by decide : 1 + 0 ≤ _), (by decide : 2 + 0 ≤ _)⟩)
  dsimp only [Pt.U, Pt.locs, Pt.cells, Pt.slots] at X24 zl24 zy24 zz24 st24 hQ24
  subst zl24 zy24 zz24
  obtain ⟨rfl, N24q, hs24⟩ := hQ24
  have N24 := Fr.app N14 N24q
  refine own_on st24 ?_
  refine own_go (fun _ => XS.astore X24.here hx rfl (hb hby d4_120) rfl rfl (l' := #[.val (.ref a1), .val (.long q1), .second, .val (.int (0 : Int32)), .val (.ref ob18)]) rfl) ?_
  refine own_go (fun _ => XS.aloadN X24.here hx rfl (hb hby d4_122) rfl rfl) ?_
  show own_G p e below Φ T24 (mkF m 123 #[.val (.ref a1), .val (.long q1), .second, .val (.int (0 : Int32)), .val (.ref ob18)] [(.ref a1)])
  have f25 : Fld Z h8 a1 "corro/core/LimitLevels" "keys" "[J" (.ref xa) := F_keys_a1.keep Kq8 (ninS ne_a1_xa nin0)
  have f26 : Fld Z h14 a1 "corro/core/LimitLevels" "keys" "[J" (.ref xa) := f25.keep Kq14 (ninS ne_a1_xl nin0)
  have f27 : Fld Z h18 a1 "corro/core/LimitLevels" "keys" "[J" (.ref xa) := f26.ext E18
  obtain ⟨T28, X28, e28, st28⟩ := getF X24 hx hZ hown (host := "") (Or.inl (wd_18 hw)) Via.refl hs24 f27 (g := (mkF m 123 #[.val (.ref a1), .val (.long q1), .second, .val (.int (0 : Int32)), .val (.ref ob18)] [(.ref a1)])) rfl rfl (hb hby d4_123)
  refine own_go st28 ?_
  refine own_go (fun _ => XS.iloadN X28.here hx rfl (hb hby d4_126) rfl) ?_
  refine own_go (fun _ => XS.aloadN X28.here hx rfl (hb hby d4_127) rfl rfl) ?_
  show own_G p e below Φ T28 (mkF m 128 #[.val (.ref a1), .val (.long q1), .second, .val (.int (0 : Int32)), .val (.ref ob18)] [(.ref a1), (.int (0 : Int32)), (.ref xa)])
  refine own_go (fun _ => XS.lloadN X28.here hx rfl (hb hby d4_128) rfl) ?_
  show own_G p e below Φ T28 (mkF m 129 #[.val (.ref a1), .val (.long q1), .second, .val (.int (0 : Int32)), .val (.ref ob18)] [(.long q1), (.ref a1), (.int (0 : Int32)), (.ref xa)])
  have f29 : Fld Z h8 a1 "corro/core/LimitLevels" "highestFirst" "Z" (.int hf) := F_highestFirst_a1.keep Kq8 (ninS ne_a1_xa nin0)
  have f30 : Fld Z h14 a1 "corro/core/LimitLevels" "highestFirst" "Z" (.int hf) := f29.keep Kq14 (ninS ne_a1_xl nin0)
  have f31 : Fld Z h18 a1 "corro/core/LimitLevels" "highestFirst" "Z" (.int hf) := f30.ext E18
  have f33 : Exa Z h18 a1 "corro/core/LimitLevels" := f20.ext E18
  obtain ⟨cq32, zc32, zc32z⟩ := f33.cell
  obtain ⟨_, _, ⟨T32, zL32, zk32, zn32⟩, -, X32, ⟨Lc32, hQ32, zl32, zy32, zz32⟩, st32⟩ := X28.privateBack hx (y := (⟨"corro/core/LimitLevels", "key", "(J)J"⟩ : MethodName)) hown (mvT hZ (wd_39 hw)) (mvT hZ (wd_40 hw)) (own_selp (x := (⟨"corro/core/LimitLevels", "getOrAdd", "(J)Lcorro/core/Level;"⟩ : MethodName)) rfl (mvT hZ (wd_30 hw)) (notFace_of_selects (args := #[]) (mvT hZ (wd_31 hw))) (Cond.privateMethod_at (mvP hZ (wd_41 hw) (args := #[]))) (mvT hZ (wd_40 hw)) (by decide)) (Cond.privateMethod_at (mvP hZ (wd_41 hw) (args := #[]))) (mvT hZ (wd_42 hw)) (by decide) (backOf (W := 2) (rmK l Z a0 hw [] a1 q1 hf h18 n0 Zp18 f31) hZ (wd_42 hw) (wd_7 hw) (by decide) (by decide)) (g := (mkF m 129 #[.val (.ref a1), .val (.long q1), .second, .val (.int (0 : Int32)), .val (.ref ob18)] [(.long q1), (.ref a1), (.int (0 : Int32)), (.ref xa)])) rfl (by rw [hml]; rfl) (Steps.refl _) (a := a1) (by rw [e28]; exact zc32) zc32z (argsL := [(.long q1)]) (rest := [(.int (0 : Int32)), (.ref xa)]) (lenOf pd_2 rfl) rfl (by show 2 * 0 + _ ≤ _; exact Nat.le_of_eq rfl) (hb hby d4_129) (fun _ _ => ⟨rfl, e28, (by decide : 1 + 0 ≤ _), (by decide : 2 + 0 ≤ _)⟩)
  dsimp only [Pt.U, Pt.locs, Pt.cells, Pt.slots] at X32 zl32 zy32 zz32 st32 hQ32
  subst zl32 zy32 zz32
  obtain ⟨rfl, N32q, hs32⟩ := hQ32
  have N32 := Fr.app N24 N32q
  refine own_on st32 ?_
  show own_G p e below Φ T32 (mkF m 132 #[.val (.ref a1), .val (.long q1), .second, .val (.int (0 : Int32)), .val (.ref ob18)] [(.long (own_key hf q1)), (.int (0 : Int32)), (.ref xa)])
  have f34 : Arv Z h18 xa kk .long (64 : Int32) [(.long k0), (.long k0), (.long k1)] (.long (0 : Int64)) := f21.ext E18
  obtain ⟨cl35, Ar35, zq35, S35, M35, H35, G35⟩ := id f34
  have hin35 : ¬ ((0 : Int32) < 0 ∨ cl35.slots.size ≤ ((0 : Int32)).toNatClampNeg) := inb_of S35 ⟨by decide, by decide⟩
  obtain ⟨T35, h35, X35, e35, W35, st35⟩ := stJ X32 hx hZ hs32 Ar35 (j := (0 : Int32)) hin35 (g := (mkF m 132 #[.val (.ref a1), .val (.long q1), .second, .val (.int (0 : Int32)), .val (.ref ob18)] [(.long (own_key hf q1)), (.int (0 : Int32)), (.ref xa)])) rfl rfl (hb hby d4_132)
  refine own_go st35 ?_
  have V35 : Arv Z h35 xa kk .long (64 : Int32) [(.long (own_key hf q1)), (.long k0), (.long k1)] (.long (0 : Int64)) := Arv.set Ar35 zq35 S35 M35 H35 G35 rfl W35 0 rfl (Nat.le_of_ble_eq_true rfl)
  have N35 := Fr.snoc X35 N32 g_xa
  have K35 := K18.wr W35 (Or.inl (List.mem_of_getElem? (i := 1) rfl))
  have Zp35 : n0 ≤ h35.size := Nat.le_trans Zp18 (Keep.of_wr W35).1
  refine own_go (fun _ => XS.aloadN X35.here hx rfl (hb hby d4_133) rfl rfl) ?_
  show own_G p e below Φ T35 (mkF m 134 #[.val (.ref a1), .val (.long q1), .second, .val (.int (0 : Int32)), .val (.ref ob18)] [(.ref a1)])
  have f36 : Fld Z h14 a1 "corro/core/LimitLevels" "levels" "[Lcorro/core/Level;" (.ref xl) := f9.keep Kq14 (ninS ne_a1_xl nin0)
  have f37 : Fld Z h18 a1 "corro/core/LimitLevels" "levels" "[Lcorro/core/Level;" (.ref xl) := f36.ext E18
  have f38 : Fld Z h35 a1 "corro/core/LimitLevels" "levels" "[Lcorro/core/Level;" (.ref xl) := f37.other W35 (Or.inl ne_a1_xa)
  obtain ⟨T39, X39, e39, st39⟩ := getF X35 hx hZ hown (host := "") (Or.inl (wd_22 hw)) Via.refl e35 f38 (g := (mkF m 134 #[.val (.ref a1), .val (.long q1), .second, .val (.int (0 : Int32)), .val (.ref ob18)] [(.ref a1)])) rfl rfl (hb hby d4_134)
  refine own_go st39 ?_
  refine own_go (fun _ => XS.iloadN X39.here hx rfl (hb hby d4_137) rfl) ?_
  refine own_go (fun _ => XS.aload X39.here hx rfl (hb hby d4_138) rfl rfl) ?_
  show own_G p e below Φ T39 (mkF m 140 #[.val (.ref a1), .val (.long q1), .second, .val (.int (0 : Int32)), .val (.ref ob18)] [(.ref ob18), (.int (0 : Int32)), (.ref xl)])
  have f40 : Arv Z h18 xl kl (.object "corro/core/Level") (64 : Int32) [(.ref l0), (.ref l0), (.ref l1)] .null := V14.ext E18
  have f41 : Arv Z h35 xl kl (.object "corro/core/Level") (64 : Int32) [(.ref l0), (.ref l0), (.ref l1)] .null := f40.other W35 (Ne.symm ne_xa_xl)
  obtain ⟨cl42, Ar42, zq42, S42, M42, H42, G42⟩ := id f41
  have hin42 : ¬ ((0 : Int32) < 0 ∨ cl42.slots.size ≤ ((0 : Int32)).toNatClampNeg) := inb_of S42 ⟨by decide, by decide⟩
  have f43 : Exa Z h35 ob18 "corro/core/Level" := A18.wr W35
  obtain ⟨T42, h42, X42, e42, W42, st42⟩ := stR X39 hx hZ e39 Ar42 (j := (0 : Int32)) hin42 rfl (Sto.ofV Ar42 zq42 hO (Ins.self f43)) (g := (mkF m 140 #[.val (.ref a1), .val (.long q1), .second, .val (.int (0 : Int32)), .val (.ref ob18)] [(.ref ob18), (.int (0 : Int32)), (.ref xl)])) rfl rfl (hb hby d4_140)
  refine own_go st42 ?_
  have V42 : Arv Z h42 xl kl (.object "corro/core/Level") (64 : Int32) [(.ref ob18), (.ref l0), (.ref l1)] .null := Arv.set Ar42 zq42 S42 M42 H42 G42 rfl W42 0 rfl (Nat.le_of_ble_eq_true rfl)
  have N42 := Fr.snoc X42 N35 g_xl
  have K42 := K35.wr W42 (Or.inl (List.mem_of_getElem? (i := 2) rfl))
  have Zp42 : n0 ≤ h42.size := Nat.le_trans Zp35 (Keep.of_wr W42).1
  refine own_go (fun _ => XS.aloadN X42.here hx rfl (hb hby d4_141) rfl rfl) ?_
  refine own_go (fun _ => XS.dup X42.here hx rfl (hb hby d4_142) rfl rfl) ?_
  show own_G p e below Φ T42 (mkF m 143 #[.val (.ref a1), .val (.long q1), .second, .val (.int (0 : Int32)), .val (.ref ob18)] [(.ref a1), (.ref a1)])
  have f44 : Fld Z h14 a1 "corro/core/LimitLevels" "size" "I" (.int (2 : Int32)) := f12.keep Kq14 (ninS ne_a1_xl nin0)
  have f45 : Fld Z h18 a1 "corro/core/LimitLevels" "size" "I" (.int (2 : Int32)) := f44.ext E18
  have f46 : Fld Z h35 a1 "corro/core/LimitLevels" "size" "I" (.int (2 : Int32)) := f45.other W35 (Or.inl ne_a1_xa)
  have f47 : Fld Z h42 a1 "corro/core/LimitLevels" "size" "I" (.int (2 : Int32)) := f46.other W42 (Or.inl ne_a1_xl)
  obtain ⟨T48, X48, e48, st48⟩ := getF X42 hx hZ hown (host := "") (Or.inl (wd_37 hw)) Via.refl e42 f47 (g := (mkF m 143 #[.val (.ref a1), .val (.long q1), .second, .val (.int (0 : Int32)), .val (.ref ob18)] [(.ref a1), (.ref a1)])) rfl rfl (hb hby d4_143)
  refine own_go st48 ?_
  refine own_go (fun _ => XS.iconst X48.here hx rfl (hb hby d4_146)) ?_
  show own_G p e below Φ T48 (mkF m 147 #[.val (.ref a1), .val (.long q1), .second, .val (.int (0 : Int32)), .val (.ref ob18)] [(.int (1 : Int32)), (.int (2 : Int32)), (.ref a1)])
  refine own_go (fun _ => XS.iadd X48.here hx rfl (hb hby d4_147) rfl) ?_
  show own_G p e below Φ T48 (mkF m 148 #[.val (.ref a1), .val (.long q1), .second, .val (.int (0 : Int32)), .val (.ref ob18)] [(.int (3 : Int32)), (.ref a1)])
  have f49 : Exa Z h35 a1 "corro/core/LimitLevels" := f33.wr W35
  have f50 : Exa Z h42 a1 "corro/core/LimitLevels" := f49.wr W42
  obtain ⟨T51, h51, X51, e51, W51, st51⟩ := putF X48 hx hZ hown (host := "") (Or.inl (wd_37 hw)) Via.refl e48 f47 f50 (Or.inl (wd_38 hw)) (wd_6 hw) (ty := .int) (by decide) rfl rfl (g := (mkF m 148 #[.val (.ref a1), .val (.long q1), .second, .val (.int (0 : Int32)), .val (.ref ob18)] [(.int (3 : Int32)), (.ref a1)])) rfl rfl (hb hby d4_148)
  refine own_go st51 ?_
  have N51 := Fr.snoc X51 N42 g_a1
  have K51 := K42.wr W51 (Or.inl (List.mem_of_getElem? (i := 0) rfl))
  have Zp51 : n0 ≤ h51.size := Nat.le_trans Zp42 (Keep.of_wr W51).1
  have f51w := f47.same W51
  refine own_go (fun _ => XS.aload X51.here hx rfl (hb hby d4_151) rfl rfl) ?_
  show own_G p e below Φ T51 (mkF m 153 #[.val (.ref a1), .val (.long q1), .second, .val (.int (0 : Int32)), .val (.ref ob18)] [(.ref ob18)])
  have f52 : Exa Z h51 a1 "corro/core/LimitLevels" := f50.wr W51
  have f53 : Fld Z h35 a1 "corro/core/LimitLevels" "keys" "[J" (.ref xa) := f27.other W35 (Or.inl ne_a1_xa)
  have f54 : Fld Z h42 a1 "corro/core/LimitLevels" "keys" "[J" (.ref xa) := f53.other W42 (Or.inl ne_a1_xl)
  have f55 : Fld Z h51 a1 "corro/core/LimitLevels" "keys" "[J" (.ref xa) := f54.other W51 (Or.inr (sl_9 hw))
  have f56 : Fld Z h42 a1 "corro/core/LimitLevels" "levels" "[Lcorro/core/Level;" (.ref xl) := f38.other W42 (Or.inl ne_a1_xl)
  have f57 : Fld Z h51 a1 "corro/core/LimitLevels" "levels" "[Lcorro/core/Level;" (.ref xl) := f56.other W51 (Or.inr (sl_10 hw))
  have f58 : Fld Z h35 a1 "corro/core/LimitLevels" "highestFirst" "Z" (.int hf) := f31.other W35 (Or.inl ne_a1_xa)
  have f59 : Fld Z h42 a1 "corro/core/LimitLevels" "highestFirst" "Z" (.int hf) := f58.other W42 (Or.inl ne_a1_xl)
  have f60 : Fld Z h51 a1 "corro/core/LimitLevels" "highestFirst" "Z" (.int hf) := f59.other W51 (Or.inr (sl_11 hw))
  have f61 : Arv Z h42 xa kk .long (64 : Int32) [(.long (own_key hf q1)), (.long k0), (.long k1)] (.long (0 : Int64)) := V35.other W42 ne_xa_xl
  have f62 : Arv Z h51 xa kk .long (64 : Int32) [(.long (own_key hf q1)), (.long k0), (.long k1)] (.long (0 : Int64)) := f61.other W51 (Ne.symm ne_a1_xa)
  have f63 : Arv Z h51 xl kl (.object "corro/core/Level") (64 : Int32) [(.ref ob18), (.ref l0), (.ref l1)] .null := V42.other W51 (Ne.symm ne_a1_xl)
  have f64 : Exa Z h42 ob18 "corro/core/Level" := f43.wr W42
  have f65 : Exa Z h51 ob18 "corro/core/Level" := f64.wr W51
  rw [hΦ]
  refine own_ret X51 (v := some (.ref ob18)) (fun h => by rw [Bd.returns] at h; cases h) (BodyLoose.notSynchronized Bd) (fun fs hr => retOut X51 hx Bd.returns rfl (Or.inr (Or.inr (Or.inr (Or.inr ⟨rfl, rfl, rfl⟩)))) (hb hby d4_153) hr) ?_ (by decide) (by decide)
  rw [e51]
  exact ⟨ob18, sz_ob18, rfl, N51, K51, f52, f55, f57, f51w, f60, f62, f63, f65⟩
theorem ef_rmG_2fnd0 (m : MethodId) (a1 : Addr) (q1 : Int64) : entryFrame m #[(.ref a1), (.long q1)] 5 = mkF m 0 #[.val (.ref a1), .val (.long q1), .second, .unset, .unset] [] := by first | (simp [entryFrame, mkF, argsToLocals, Value.category]; done) | rfl
def Q_rmG_2fnd0 (Z : State) (a1 : Addr) (q1 : Int64) (hf : Int32) (xa : Addr) (xl : Addr) (kk : ClassId) (kl : ClassId) (k0 : Int64) (k1 : Int64) (l0 : Addr) (l1 : Addr) (h0 : Heap) (n0 : Nat) (v : Option Value) (h : Heap) (L : List Loc) : Prop := v = some (.ref l0) ∧ Fr n0 L ∧ h = h0
set_option maxRecDepth 65536 in
set_option maxHeartbeats 40000000 in
theorem rmG_2fnd0 (l : Launch) (Z : State) (a0 : Array Value) (hw : ∀ d ∈ tables_1, d.before a0 Z = true) (ws : List Jvm.Cond) (a1 : Addr) (q1 : Int64) (hf : Int32) (xa : Addr) (xl : Addr) (kk : ClassId) (kl : ClassId) (k0 : Int64) (k1 : Int64) (l0 : Addr) (l1 : Addr) (h0 : Heap) (n0 : Nat) (Z0 : n0 ≤ h0.size) (E_a1 : Exa Z h0 a1 "corro/core/LimitLevels") (F_keys_a1 : Fld Z h0 a1 "corro/core/LimitLevels" "keys" "[J" (.ref xa)) (F_levels_a1 : Fld Z h0 a1 "corro/core/LimitLevels" "levels" "[Lcorro/core/Level;" (.ref xl)) (F_size_a1 : Fld Z h0 a1 "corro/core/LimitLevels" "size" "I" (.int (2 : Int32))) (F_highestFirst_a1 : Fld Z h0 a1 "corro/core/LimitLevels" "highestFirst" "Z" (.int hf)) (V_xa : Arv Z h0 xa kk .long (64 : Int32) [(.long k0), (.long k1)] (.long (0 : Int64))) (V_xl : Arv Z h0 xl kl (.object "corro/core/Level") (64 : Int32) [(.ref l0), (.ref l1)] .null) (E_l0 : Exa Z h0 l0 "corro/core/Level") (E_l1 : Exa Z h0 l1 "corro/core/Level") (g_a1 : n0 ≤ a1) (g_xa : n0 ≤ xa) (g_xl : n0 ≤ xl) (ne_a1_xa : a1 ≠ xa) (ne_a1_xl : a1 ≠ xl) (ne_xa_xl : xa ≠ xl) (hO : Ovr Z kl "corro/core/Level") (r0 : k0 = (own_key hf q1)) :
    MetFree l (⟨"corro/core/LimitLevels", "getOrAdd", "(J)Lcorro/core/Level;"⟩ : MethodName) (head1 (Jvm.Cond.code (⟨"corro/core/LimitLevels", "getOrAdd", "(J)Lcorro/core/Level;"⟩ : MethodName) prog_14_method_7_code 5 (some (.object "corro/core/Level")) :: ws) ({ frames := 3, cells := 0, slots := 0, locals := 51 } : Room)) (fun a U => a = #[(.ref a1), (.long q1)] ∧ Z.Warmed39 U.vm ∧ U.heap = h0) (fun _ _ _ _ _ => True) (fun _ U o U' => ∃ v L, o = .returned v ∧ Q_rmG_2fnd0 Z a1 q1 hf xa xl kk kl k0 k1 l0 l1 h0 n0 v U'.heap L ∧ FrameEnd U o U' L ({ frames := 3, cells := 0, slots := 0, locals := 51 } : Room).cells ({ frames := 3, cells := 0, slots := 0, locals := 51 } : Room).slots) := by
  refine MetFree.of_bodySF (plainFor_of_name pn_1) hisR ?_
  intro p e s m args below meth c s₁ Bd hml0 hP hK
  obtain ⟨rfl, hZ, hh⟩ := hP
  have hx := Bd.exec
  have hby := Bd.bytes
  have hml : c.maxLocals = 5 := hml0
  have hown : s.vm.findClass "corro/core/LimitLevels" = some m.cls := findClass_of_methodNamed Bd.named
  have hnm := (name_of_methodNamed Bd.named Bd.method).1
  have X0 : Stand p l e ({ frames := 3, cells := 0, slots := 0, locals := 51 } : Room) s m #[(.ref a1), (.long q1)] below meth c s₁ [] 0 0 := Stand.of_body Bd
  have e0 : s₁.heap = h0 := by rw [← hh, Bd.state]; rfl
  have N0 := Fr.nil n0
  suffices G0 : own_G p e below (own_E s below (Q_rmG_2fnd0 Z a1 q1 hf xa xl kk kl k0 k1 l0 l1 h0 n0) ({ frames := 3, cells := 0, slots := 0, locals := 51 } : Room).cells ({ frames := 3, cells := 0, slots := 0, locals := 51 } : Room).slots) s₁ (mkF m 0 #[.val (.ref a1), .val (.long q1), .second, .unset, .unset] []) by
    obtain ⟨zt, zst, zo, zq1, zq2, zq3⟩ := G0
    exact ⟨zt, zo, castTop (ef_rmG_2fnd0 m a1 q1) zst, zq1, zq2, zq3⟩
  obtain ⟨Φ, hΦ⟩ : ∃ Φ, Φ = own_E s below (Q_rmG_2fnd0 Z a1 q1 hf xa xl kk kl k0 k1 l0 l1 h0 n0) ({ frames := 3, cells := 0, slots := 0, locals := 51 } : Room).cells ({ frames := 3, cells := 0, slots := 0, locals := 51 } : Room).slots := ⟨_, rfl⟩
  rw [← hΦ]
  show own_G p e below Φ s₁ (mkF m 0 #[.val (.ref a1), .val (.long q1), .second, .unset, .unset] [])
  refine own_go (fun _ => XS.aloadN X0.here hx rfl (hb hby d4_0) rfl rfl) ?_
  refine own_go (fun _ => XS.lloadN X0.here hx rfl (hb hby d4_1) rfl) ?_
  show own_G p e below Φ s₁ (mkF m 2 #[.val (.ref a1), .val (.long q1), .second, .unset, .unset] [(.long q1), (.ref a1)])
  obtain ⟨cq1, zc1, zc1z⟩ := E_a1.cell
  obtain ⟨_, _, ⟨T1, zL1, zk1, zn1⟩, -, X1, ⟨Lc1, hQ1, zl1, zy1, zz1⟩, st1⟩ := X0.privateBack hx (y := (⟨"corro/core/LimitLevels", "search", "(J)I"⟩ : MethodName)) hown (mvT hZ (wd_33 hw)) (mvT hZ (wd_34 hw)) (own_selp (x := (⟨"corro/core/LimitLevels", "getOrAdd", "(J)Lcorro/core/Level;"⟩ : MethodName)) rfl (mvT hZ (wd_30 hw)) (notFace_of_selects (args := #[]) (mvT hZ (wd_31 hw))) (Cond.privateMethod_at (mvP hZ (wd_35 hw) (args := #[]))) (mvT hZ (wd_34 hw)) (by decide)) (Cond.privateMethod_at (mvP hZ (wd_35 hw) (args := #[]))) (mvT hZ (wd_36 hw)) (by decide) (backOf (W := 0) (rmS_2fnd0 l Z a0 hw [] a1 q1 hf xa kk k0 k1 h0 n0 Z0 E_a1 F_keys_a1 F_size_a1 F_highestFirst_a1 V_xa r0) hZ (wd_36 hw) (wd_7 hw) (by decide) (by decide)) (g := (mkF m 2 #[.val (.ref a1), .val (.long q1), .second, .unset, .unset] [(.long q1), (.ref a1)])) rfl (by rw [hml]; rfl) (Steps.refl _) (a := a1) (by rw [e0]; exact zc1) zc1z (argsL := [(.long q1)]) (rest := []) (lenOf pd_3 rfl) rfl (by show 2 * 0 + _ ≤ _; exact Nat.le_of_eq rfl) (hb hby d4_2) (fun _ _ => ⟨rfl, e0, (by decide : 0 + 0 ≤ _), (by decide : 0 + 0 ≤ _)⟩)
  dsimp only [Pt.U, Pt.locs, Pt.cells, Pt.slots] at X1 zl1 zy1 zz1 st1 hQ1
  subst zl1 zy1 zz1
  obtain ⟨rfl, N1q, hs1⟩ := hQ1
  have N1 := Fr.app N0 N1q
  refine own_on st1 ?_
  refine own_go (fun _ => XS.istoreN X1.here hx rfl (hb hby d4_5) rfl (l' := #[.val (.ref a1), .val (.long q1), .second, .val (.int (0 : Int32)), .unset]) rfl) ?_
  refine own_go (fun _ => XS.iloadN X1.here hx rfl (hb hby d4_6) rfl) ?_
  show own_G p e below Φ T1 (mkF m 7 #[.val (.ref a1), .val (.long q1), .second, .val (.int (0 : Int32)), .unset] [(.int (0 : Int32))])
  refine own_go (fun _ => XS.ifNo X1.here hx rfl (hb hby d4_7) rfl (Jvm.Free.XT.i0_lt_f (by decide : ¬ ((0 : Int32) < (0 : Int32))))) ?_
  refine own_go (fun _ => XS.aloadN X1.here hx rfl (hb hby d4_10) rfl rfl) ?_
  show own_G p e below Φ T1 (mkF m 11 #[.val (.ref a1), .val (.long q1), .second, .val (.int (0 : Int32)), .unset] [(.ref a1)])
  obtain ⟨T2, X2, e2, st2⟩ := getF X1 hx hZ hown (host := "") (Or.inl (wd_22 hw)) Via.refl hs1 F_levels_a1 (g := (mkF m 11 #[.val (.ref a1), .val (.long q1), .second, .val (.int (0 : Int32)), .unset] [(.ref a1)])) rfl rfl (hb hby d4_11)
  refine own_go st2 ?_
  refine own_go (fun _ => XS.iloadN X2.here hx rfl (hb hby d4_14) rfl) ?_
  show own_G p e below Φ T2 (mkF m 15 #[.val (.ref a1), .val (.long q1), .second, .val (.int (0 : Int32)), .unset] [(.int (0 : Int32)), (.ref xl)])
  obtain ⟨cl3, Ar3, zq3, S3, M3, H3, G3⟩ := id V_xl
  have hin3 : ¬ ((0 : Int32) < 0 ∨ cl3.slots.size ≤ ((0 : Int32)).toNatClampNeg) := inb_of S3 ⟨by decide, by decide⟩
  refine own_go (fun _ => X2.aaload hx (j := (0 : Int32)) (v := (.ref l0)) (by rw [e2]; exact Ar3.1) (State.isArrayOf_alike hZ.alike Ar3.2.1) rfl Ar3.2.2 hin3 (H3.at hin3 rfl) (g := (mkF m 15 #[.val (.ref a1), .val (.long q1), .second, .val (.int (0 : Int32)), .unset] [(.int (0 : Int32)), (.ref xl)])) rfl rfl (hb hby d4_15) _) ?_
  show own_G p e below Φ T2 (mkF m 16 #[.val (.ref a1), .val (.long q1), .second, .val (.int (0 : Int32)), .unset] [(.ref l0)])
  rw [hΦ]
  refine own_ret X2 (v := some (.ref l0)) (fun h => by rw [Bd.returns] at h; cases h) (BodyLoose.notSynchronized Bd) (fun fs hr => retOut X2 hx Bd.returns rfl (Or.inr (Or.inr (Or.inr (Or.inr ⟨rfl, rfl, rfl⟩)))) (hb hby d4_16) hr) ?_ (by decide) (by decide)
  rw [e2]
  exact ⟨rfl, N1, rfl⟩
theorem ef_rmG_2ins1 (m : MethodId) (a1 : Addr) (q1 : Int64) : entryFrame m #[(.ref a1), (.long q1)] 5 = mkF m 0 #[.val (.ref a1), .val (.long q1), .second, .unset, .unset] [] := by first | (simp [entryFrame, mkF, argsToLocals, Value.category]; done) | rfl
def Q_rmG_2ins1 (Z : State) (a1 : Addr) (q1 : Int64) (hf : Int32) (xa : Addr) (xl : Addr) (kk : ClassId) (kl : ClassId) (k0 : Int64) (k1 : Int64) (l0 : Addr) (l1 : Addr) (h0 : Heap) (n0 : Nat) (v : Option Value) (h : Heap) (L : List Loc) : Prop := ∃ lv : Addr, h0.size ≤ lv ∧ v = some (.ref lv) ∧ Fr n0 L ∧ Keep h0 h [a1, xa, xl] ∧ Exa Z h a1 "corro/core/LimitLevels" ∧ Fld Z h a1 "corro/core/LimitLevels" "keys" "[J" (.ref xa) ∧ Fld Z h a1 "corro/core/LimitLevels" "levels" "[Lcorro/core/Level;" (.ref xl) ∧ Fld Z h a1 "corro/core/LimitLevels" "size" "I" (.int (3 : Int32)) ∧ Fld Z h a1 "corro/core/LimitLevels" "highestFirst" "Z" (.int hf) ∧ Arv Z h xa kk .long (64 : Int32) [(.long k0), (.long (own_key hf q1)), (.long k1)] (.long (0 : Int64)) ∧ Arv Z h xl kl (.object "corro/core/Level") (64 : Int32) [(.ref l0), (.ref lv), (.ref l1)] .null ∧ Exa Z h lv "corro/core/Level"
set_option maxRecDepth 65536 in
set_option maxHeartbeats 40000000 in
theorem rmG_2ins1 (l : Launch) (Z : State) (a0 : Array Value) (hw : ∀ d ∈ tables_1, d.before a0 Z = true) (ws : List Jvm.Cond) (a1 : Addr) (q1 : Int64) (hf : Int32) (xa : Addr) (xl : Addr) (kk : ClassId) (kl : ClassId) (k0 : Int64) (k1 : Int64) (l0 : Addr) (l1 : Addr) (h0 : Heap) (n0 : Nat) (Z0 : n0 ≤ h0.size) (E_a1 : Exa Z h0 a1 "corro/core/LimitLevels") (F_keys_a1 : Fld Z h0 a1 "corro/core/LimitLevels" "keys" "[J" (.ref xa)) (F_levels_a1 : Fld Z h0 a1 "corro/core/LimitLevels" "levels" "[Lcorro/core/Level;" (.ref xl)) (F_size_a1 : Fld Z h0 a1 "corro/core/LimitLevels" "size" "I" (.int (2 : Int32))) (F_highestFirst_a1 : Fld Z h0 a1 "corro/core/LimitLevels" "highestFirst" "Z" (.int hf)) (V_xa : Arv Z h0 xa kk .long (64 : Int32) [(.long k0), (.long k1)] (.long (0 : Int64))) (V_xl : Arv Z h0 xl kl (.object "corro/core/Level") (64 : Int32) [(.ref l0), (.ref l1)] .null) (E_l0 : Exa Z h0 l0 "corro/core/Level") (E_l1 : Exa Z h0 l1 "corro/core/Level") (g_a1 : n0 ≤ a1) (g_xa : n0 ≤ xa) (g_xl : n0 ≤ xl) (ne_a1_xa : a1 ≠ xa) (ne_a1_xl : a1 ≠ xl) (ne_xa_xl : xa ≠ xl) (hO : Ovr Z kl "corro/core/Level") (r0 : k0 < (own_key hf q1)) (r1 : (own_key hf q1) < k1) :
    MetFree l (⟨"corro/core/LimitLevels", "getOrAdd", "(J)Lcorro/core/Level;"⟩ : MethodName) (head1 (Jvm.Cond.code (⟨"corro/core/LimitLevels", "getOrAdd", "(J)Lcorro/core/Level;"⟩ : MethodName) prog_14_method_7_code 5 (some (.object "corro/core/Level")) :: ws) ({ frames := 3, cells := 1, slots := 2, locals := 51 } : Room)) (fun a U => a = #[(.ref a1), (.long q1)] ∧ Z.Warmed39 U.vm ∧ U.heap = h0) (fun _ _ _ _ _ => True) (fun _ U o U' => ∃ v L, o = .returned v ∧ Q_rmG_2ins1 Z a1 q1 hf xa xl kk kl k0 k1 l0 l1 h0 n0 v U'.heap L ∧ FrameEnd U o U' L ({ frames := 3, cells := 1, slots := 2, locals := 51 } : Room).cells ({ frames := 3, cells := 1, slots := 2, locals := 51 } : Room).slots) := by
  refine MetFree.of_bodySF (plainFor_of_name pn_1) hisR ?_
  intro p e s m args below meth c s₁ Bd hml0 hP hK
  obtain ⟨rfl, hZ, hh⟩ := hP
  have hx := Bd.exec
  have hby := Bd.bytes
  have hml : c.maxLocals = 5 := hml0
  have hown : s.vm.findClass "corro/core/LimitLevels" = some m.cls := findClass_of_methodNamed Bd.named
  have hnm := (name_of_methodNamed Bd.named Bd.method).1
  have X0 : Stand p l e ({ frames := 3, cells := 1, slots := 2, locals := 51 } : Room) s m #[(.ref a1), (.long q1)] below meth c s₁ [] 0 0 := Stand.of_body Bd
  have e0 : s₁.heap = h0 := by rw [← hh, Bd.state]; rfl
  have N0 := Fr.nil n0
  have K0 : Keep h0 h0 [a1, xa, xl] := Keep.refl _ _
  suffices G0 : own_G p e below (own_E s below (Q_rmG_2ins1 Z a1 q1 hf xa xl kk kl k0 k1 l0 l1 h0 n0) ({ frames := 3, cells := 1, slots := 2, locals := 51 } : Room).cells ({ frames := 3, cells := 1, slots := 2, locals := 51 } : Room).slots) s₁ (mkF m 0 #[.val (.ref a1), .val (.long q1), .second, .unset, .unset] []) by
    obtain ⟨zt, zst, zo, zq1, zq2, zq3⟩ := G0
    exact ⟨zt, zo, castTop (ef_rmG_2ins1 m a1 q1) zst, zq1, zq2, zq3⟩
  obtain ⟨Φ, hΦ⟩ : ∃ Φ, Φ = own_E s below (Q_rmG_2ins1 Z a1 q1 hf xa xl kk kl k0 k1 l0 l1 h0 n0) ({ frames := 3, cells := 1, slots := 2, locals := 51 } : Room).cells ({ frames := 3, cells := 1, slots := 2, locals := 51 } : Room).slots := ⟨_, rfl⟩
  rw [← hΦ]
  show own_G p e below Φ s₁ (mkF m 0 #[.val (.ref a1), .val (.long q1), .second, .unset, .unset] [])
  refine own_go (fun _ => XS.aloadN X0.here hx rfl (hb hby d4_0) rfl rfl) ?_
  refine own_go (fun _ => XS.lloadN X0.here hx rfl (hb hby d4_1) rfl) ?_
  show own_G p e below Φ s₁ (mkF m 2 #[.val (.ref a1), .val (.long q1), .second, .unset, .unset] [(.long q1), (.ref a1)])
  obtain ⟨cq1, zc1, zc1z⟩ := E_a1.cell
  obtain ⟨_, _, ⟨T1, zL1, zk1, zn1⟩, -, X1, ⟨Lc1, hQ1, zl1, zy1, zz1⟩, st1⟩ := X0.privateBack hx (y := (⟨"corro/core/LimitLevels", "search", "(J)I"⟩ : MethodName)) hown (mvT hZ (wd_33 hw)) (mvT hZ (wd_34 hw)) (own_selp (x := (⟨"corro/core/LimitLevels", "getOrAdd", "(J)Lcorro/core/Level;"⟩ : MethodName)) rfl (mvT hZ (wd_30 hw)) (notFace_of_selects (args := #[]) (mvT hZ (wd_31 hw))) (Cond.privateMethod_at (mvP hZ (wd_35 hw) (args := #[]))) (mvT hZ (wd_34 hw)) (by decide)) (Cond.privateMethod_at (mvP hZ (wd_35 hw) (args := #[]))) (mvT hZ (wd_36 hw)) (by decide) (backOf (W := 0) (rmS_2ins1 l Z a0 hw [] a1 q1 hf xa kk k0 k1 h0 n0 Z0 E_a1 F_keys_a1 F_size_a1 F_highestFirst_a1 V_xa r0 r1) hZ (wd_36 hw) (wd_7 hw) (by decide) (by decide)) (g := (mkF m 2 #[.val (.ref a1), .val (.long q1), .second, .unset, .unset] [(.long q1), (.ref a1)])) rfl (by rw [hml]; rfl) (Steps.refl _) (a := a1) (by rw [e0]; exact zc1) zc1z (argsL := [(.long q1)]) (rest := []) (lenOf pd_3 rfl) rfl (by show 2 * 0 + _ ≤ _; exact Nat.le_of_eq rfl) (hb hby d4_2) (fun _ _ => ⟨rfl, e0, (by decide : 0 + 0 ≤ _), (by decide : 0 + 0 ≤ _)⟩)
  dsimp only [Pt.U, Pt.locs, Pt.cells, Pt.slots] at X1 zl1 zy1 zz1 st1 hQ1
  subst zl1 zy1 zz1
  obtain ⟨rfl, N1q, hs1⟩ := hQ1
  have N1 := Fr.app N0 N1q
  refine own_on st1 ?_
  refine own_go (fun _ => XS.istoreN X1.here hx rfl (hb hby d4_5) rfl (l' := #[.val (.ref a1), .val (.long q1), .second, .val (.int (-2 : Int32)), .unset]) rfl) ?_
  refine own_go (fun _ => XS.iloadN X1.here hx rfl (hb hby d4_6) rfl) ?_
  show own_G p e below Φ T1 (mkF m 7 #[.val (.ref a1), .val (.long q1), .second, .val (.int (-2 : Int32)), .unset] [(.int (-2 : Int32))])
  refine own_go (fun _ => XS.ifYes X1.here hx rfl (pc0 := 7) (pc' := 17) rfl (hb hby d4_7) rfl (Jvm.Free.XT.i0_lt_t (by decide : ((-2 : Int32) < (0 : Int32)))) (by decide) (by decide)) ?_
  refine own_go (fun _ => XS.iloadN X1.here hx rfl (hb hby d4_17) rfl) ?_
  show own_G p e below Φ T1 (mkF m 18 #[.val (.ref a1), .val (.long q1), .second, .val (.int (-2 : Int32)), .unset] [(.int (-2 : Int32))])
  refine own_go (fun _ => XS.ineg X1.here hx rfl (hb hby d4_18) rfl) ?_
  refine own_go (fun _ => XS.iconst X1.here hx rfl (hb hby d4_19)) ?_
  show own_G p e below Φ T1 (mkF m 20 #[.val (.ref a1), .val (.long q1), .second, .val (.int (-2 : Int32)), .unset] [(.int (1 : Int32)), (.int (2 : Int32))])
  refine own_go (fun _ => XS.isub X1.here hx rfl (hb hby d4_20) rfl) ?_
  refine own_go (fun _ => XS.istoreN X1.here hx rfl (hb hby d4_21) rfl (l' := #[.val (.ref a1), .val (.long q1), .second, .val (.int (1 : Int32)), .unset]) rfl) ?_
  refine own_go (fun _ => XS.aloadN X1.here hx rfl (hb hby d4_22) rfl rfl) ?_
  show own_G p e below Φ T1 (mkF m 23 #[.val (.ref a1), .val (.long q1), .second, .val (.int (1 : Int32)), .unset] [(.ref a1)])
  obtain ⟨T2, X2, e2, st2⟩ := getF X1 hx hZ hown (host := "") (Or.inl (wd_37 hw)) Via.refl hs1 F_size_a1 (g := (mkF m 23 #[.val (.ref a1), .val (.long q1), .second, .val (.int (1 : Int32)), .unset] [(.ref a1)])) rfl rfl (hb hby d4_23)
  refine own_go st2 ?_
  refine own_go (fun _ => XS.aloadN X2.here hx rfl (hb hby d4_26) rfl rfl) ?_
  show own_G p e below Φ T2 (mkF m 27 #[.val (.ref a1), .val (.long q1), .second, .val (.int (1 : Int32)), .unset] [(.ref a1), (.int (2 : Int32))])
  obtain ⟨T3, X3, e3, st3⟩ := getF X2 hx hZ hown (host := "") (Or.inl (wd_18 hw)) Via.refl e2 F_keys_a1 (g := (mkF m 27 #[.val (.ref a1), .val (.long q1), .second, .val (.int (1 : Int32)), .unset] [(.ref a1), (.int (2 : Int32))])) rfl rfl (hb hby d4_27)
  refine own_go st3 ?_
  show own_G p e below Φ T3 (mkF m 30 #[.val (.ref a1), .val (.long q1), .second, .val (.int (1 : Int32)), .unset] [(.ref xa), (.int (2 : Int32))])
  obtain ⟨cl4, Ar4, zq4, S4, M4, H4, G4⟩ := id V_xa
  refine own_go (fun _ => X3.arraylength hx (by rw [e3]; exact Ar4.1) (State.isArrayOf_alike hZ.alike Ar4.2.1) (g := (mkF m 30 #[.val (.ref a1), .val (.long q1), .second, .val (.int (1 : Int32)), .unset] [(.ref xa), (.int (2 : Int32))])) rfl rfl (hb hby d4_30) _) ?_
  rw [len_of S4 M4]
  show own_G p e below Φ T3 (mkF m 31 #[.val (.ref a1), .val (.long q1), .second, .val (.int (1 : Int32)), .unset] [(.int (64 : Int32)), (.int (2 : Int32))])
  refine own_go (fun _ => XS.icmpYes X3.here hx rfl (pc0 := 31) (pc' := 71) rfl (hb hby d4_31) rfl (Jvm.Free.XT.ii_ne_t (by decide : ¬ ((2 : Int32) = (64 : Int32)))) (by decide) (by decide)) ?_
  refine own_go (fun _ => XS.aloadN X3.here hx rfl (hb hby d4_71) rfl rfl) ?_
  show own_G p e below Φ T3 (mkF m 72 #[.val (.ref a1), .val (.long q1), .second, .val (.int (1 : Int32)), .unset] [(.ref a1)])
  obtain ⟨T5, X5, e5, st5⟩ := getF X3 hx hZ hown (host := "") (Or.inl (wd_18 hw)) Via.refl e3 F_keys_a1 (g := (mkF m 72 #[.val (.ref a1), .val (.long q1), .second, .val (.int (1 : Int32)), .unset] [(.ref a1)])) rfl rfl (hb hby d4_72)
  refine own_go st5 ?_
  refine own_go (fun _ => XS.iloadN X5.here hx rfl (hb hby d4_75) rfl) ?_
  refine own_go (fun _ => XS.aloadN X5.here hx rfl (hb hby d4_76) rfl rfl) ?_
  show own_G p e below Φ T5 (mkF m 77 #[.val (.ref a1), .val (.long q1), .second, .val (.int (1 : Int32)), .unset] [(.ref a1), (.int (1 : Int32)), (.ref xa)])
  obtain ⟨T6, X6, e6, st6⟩ := getF X5 hx hZ hown (host := "") (Or.inl (wd_18 hw)) Via.refl e5 F_keys_a1 (g := (mkF m 77 #[.val (.ref a1), .val (.long q1), .second, .val (.int (1 : Int32)), .unset] [(.ref a1), (.int (1 : Int32)), (.ref xa)])) rfl rfl (hb hby d4_77)
  refine own_go st6 ?_
  refine own_go (fun _ => XS.iloadN X6.here hx rfl (hb hby d4_80) rfl) ?_
  refine own_go (fun _ => XS.iconst X6.here hx rfl (hb hby d4_81)) ?_
  show own_G p e below Φ T6 (mkF m 82 #[.val (.ref a1), .val (.long q1), .second, .val (.int (1 : Int32)), .unset] [(.int (1 : Int32)), (.int (1 : Int32)), (.ref xa), (.int (1 : Int32)), (.ref xa)])
  refine own_go (fun _ => XS.iadd X6.here hx rfl (hb hby d4_82) rfl) ?_
  refine own_go (fun _ => XS.aloadN X6.here hx rfl (hb hby d4_83) rfl rfl) ?_
  show own_G p e below Φ T6 (mkF m 84 #[.val (.ref a1), .val (.long q1), .second, .val (.int (1 : Int32)), .unset] [(.ref a1), (.int (2 : Int32)), (.ref xa), (.int (1 : Int32)), (.ref xa)])
  obtain ⟨T7, X7, e7, st7⟩ := getF X6 hx hZ hown (host := "") (Or.inl (wd_37 hw)) Via.refl e6 F_size_a1 (g := (mkF m 84 #[.val (.ref a1), .val (.long q1), .second, .val (.int (1 : Int32)), .unset] [(.ref a1), (.int (2 : Int32)), (.ref xa), (.int (1 : Int32)), (.ref xa)])) rfl rfl (hb hby d4_84)
  refine own_go st7 ?_
  refine own_go (fun _ => XS.iloadN X7.here hx rfl (hb hby d4_87) rfl) ?_
  show own_G p e below Φ T7 (mkF m 88 #[.val (.ref a1), .val (.long q1), .second, .val (.int (1 : Int32)), .unset] [(.int (1 : Int32)), (.int (2 : Int32)), (.int (2 : Int32)), (.ref xa), (.int (1 : Int32)), (.ref xa)])
  refine own_go (fun _ => XS.isub X7.here hx rfl (hb hby d4_88) rfl) ?_
  show own_G p e below Φ T7 (mkF m 89 #[.val (.ref a1), .val (.long q1), .second, .val (.int (1 : Int32)), .unset] [(.int (1 : Int32)), (.int (2 : Int32)), (.ref xa), (.int (1 : Int32)), (.ref xa)])
  have V8p : Arv Z h0 xa kk .long (64 : Int32) [(.long k0), (.long k1), (.long (0 : Int64))] (.long (0 : Int64)) := V_xa.pad (pad_rep [(.long k0), (.long k1)] (.long (0 : Int64)) 1)
  obtain ⟨T8, h8, L8, X8, e8, N8, Kq8, V8q, st8⟩ := cpA X7 hx hZ hown (wd_53 hw) (wd_56 hw) (wd_54 hw) (wd_55 hw) e7 V8p V8p (us := [(.long k1)]) (Or.inl ⟨rfl, rfl⟩) (sp := (1 : Int32)) (dp := (2 : Int32)) (nn := (1 : Int32)) (by decide) (by decide) (by decide) (by decide) (by decide) rfl (Nat.le_of_ble_eq_true rfl) N1 g_xa (g := (mkF m 89 #[.val (.ref a1), .val (.long q1), .second, .val (.int (1 : Int32)), .unset] [(.int (1 : Int32)), (.int (2 : Int32)), (.ref xa), (.int (1 : Int32)), (.ref xa)])) rfl (by rw [hml]; rfl) rfl (hb hby d4_89) (by decide) (W := 0) (by show 2 * 0 + _ ≤ _; exact Nat.le_of_eq rfl) (by decide)
  refine own_go st8 ?_
  have V8 : Arv Z h8 xa kk .long (64 : Int32) [(.long k0), (.long k1), (.long k1)] (.long (0 : Int64)) := V8q
  have K8 := K0.trans Kq8 (allS (Or.inl (List.mem_of_getElem? (i := 1) rfl)) all0)
  have Zp8 : n0 ≤ h8.size := Nat.le_trans Z0 Kq8.1
  refine own_go (fun _ => XS.aloadN X8.here hx rfl (hb hby d4_92) rfl rfl) ?_
  show own_G p e below Φ T8 (mkF m 93 #[.val (.ref a1), .val (.long q1), .second, .val (.int (1 : Int32)), .unset] [(.ref a1)])
  have f9 : Fld Z h8 a1 "corro/core/LimitLevels" "levels" "[Lcorro/core/Level;" (.ref xl) := F_levels_a1.keep Kq8 (ninS ne_a1_xa nin0)
  obtain ⟨T10, X10, e10, st10⟩ := getF X8 hx hZ hown (host := "") (Or.inl (wd_22 hw)) Via.refl e8 f9 (g := (mkF m 93 #[.val (.ref a1), .val (.long q1), .second, .val (.int (1 : Int32)), .unset] [(.ref a1)])) rfl rfl (hb hby d4_93)
  refine own_go st10 ?_
  refine own_go (fun _ => XS.iloadN X10.here hx rfl (hb hby d4_96) rfl) ?_
  refine own_go (fun _ => XS.aloadN X10.here hx rfl (hb hby d4_97) rfl rfl) ?_
  show own_G p e below Φ T10 (mkF m 98 #[.val (.ref a1), .val (.long q1), .second, .val (.int (1 : Int32)), .unset] [(.ref a1), (.int (1 : Int32)), (.ref xl)])
  obtain ⟨T11, X11, e11, st11⟩ := getF X10 hx hZ hown (host := "") (Or.inl (wd_22 hw)) Via.refl e10 f9 (g := (mkF m 98 #[.val (.ref a1), .val (.long q1), .second, .val (.int (1 : Int32)), .unset] [(.ref a1), (.int (1 : Int32)), (.ref xl)])) rfl rfl (hb hby d4_98)
  refine own_go st11 ?_
  refine own_go (fun _ => XS.iloadN X11.here hx rfl (hb hby d4_101) rfl) ?_
  refine own_go (fun _ => XS.iconst X11.here hx rfl (hb hby d4_102)) ?_
  show own_G p e below Φ T11 (mkF m 103 #[.val (.ref a1), .val (.long q1), .second, .val (.int (1 : Int32)), .unset] [(.int (1 : Int32)), (.int (1 : Int32)), (.ref xl), (.int (1 : Int32)), (.ref xl)])
  refine own_go (fun _ => XS.iadd X11.here hx rfl (hb hby d4_103) rfl) ?_
  refine own_go (fun _ => XS.aloadN X11.here hx rfl (hb hby d4_104) rfl rfl) ?_
  show own_G p e below Φ T11 (mkF m 105 #[.val (.ref a1), .val (.long q1), .second, .val (.int (1 : Int32)), .unset] [(.ref a1), (.int (2 : Int32)), (.ref xl), (.int (1 : Int32)), (.ref xl)])
  have f12 : Fld Z h8 a1 "corro/core/LimitLevels" "size" "I" (.int (2 : Int32)) := F_size_a1.keep Kq8 (ninS ne_a1_xa nin0)
  obtain ⟨T13, X13, e13, st13⟩ := getF X11 hx hZ hown (host := "") (Or.inl (wd_37 hw)) Via.refl e11 f12 (g := (mkF m 105 #[.val (.ref a1), .val (.long q1), .second, .val (.int (1 : Int32)), .unset] [(.ref a1), (.int (2 : Int32)), (.ref xl), (.int (1 : Int32)), (.ref xl)])) rfl rfl (hb hby d4_105)
  refine own_go st13 ?_
  refine own_go (fun _ => XS.iloadN X13.here hx rfl (hb hby d4_108) rfl) ?_
  show own_G p e below Φ T13 (mkF m 109 #[.val (.ref a1), .val (.long q1), .second, .val (.int (1 : Int32)), .unset] [(.int (1 : Int32)), (.int (2 : Int32)), (.int (2 : Int32)), (.ref xl), (.int (1 : Int32)), (.ref xl)])
  refine own_go (fun _ => XS.isub X13.here hx rfl (hb hby d4_109) rfl) ?_
  show own_G p e below Φ T13 (mkF m 110 #[.val (.ref a1), .val (.long q1), .second, .val (.int (1 : Int32)), .unset] [(.int (1 : Int32)), (.int (2 : Int32)), (.ref xl), (.int (1 : Int32)), (.ref xl)])
  have f15 : Arv Z h8 xl kl (.object "corro/core/Level") (64 : Int32) [(.ref l0), (.ref l1)] .null := V_xl.keep Kq8 (ninS (Ne.symm ne_xa_xl) nin0)
  have V14p : Arv Z h8 xl kl (.object "corro/core/Level") (64 : Int32) [(.ref l0), (.ref l1), .null] .null := f15.pad (pad_rep [(.ref l0), (.ref l1)] .null 1)
  obtain ⟨cl14, Ar14, zq14, -⟩ := id V14p
  have f16 : Exa Z h8 l1 "corro/core/Level" := E_l1.keep Kq8
  obtain ⟨T14, h14, L14, X14, e14, N14, Kq14, V14q, st14⟩ := cpA X13 hx hZ hown (wd_53 hw) (wd_56 hw) (wd_54 hw) (wd_55 hw) e13 V14p V14p (us := [(.ref l1)]) (Or.inr ⟨rfl, rfl, ⟨Sto.ofV Ar14 zq14 hO (Ins.self f16), trivial⟩⟩) (sp := (1 : Int32)) (dp := (2 : Int32)) (nn := (1 : Int32)) (by decide) (by decide) (by decide) (by decide) (by decide) rfl (Nat.le_of_ble_eq_true rfl) N8 g_xl (g := (mkF m 110 #[.val (.ref a1), .val (.long q1), .second, .val (.int (1 : Int32)), .unset] [(.int (1 : Int32)), (.int (2 : Int32)), (.ref xl), (.int (1 : Int32)), (.ref xl)])) rfl (by rw [hml]; rfl) rfl (hb hby d4_110) (by decide) (W := 0) (by show 2 * 0 + _ ≤ _; exact Nat.le_of_eq rfl) (by decide)
  refine own_go st14 ?_
  have V14 : Arv Z h14 xl kl (.object "corro/core/Level") (64 : Int32) [(.ref l0), (.ref l1), (.ref l1)] .null := V14q
  have K14 := K8.trans Kq14 (allS (Or.inl (List.mem_of_getElem? (i := 2) rfl)) all0)
  have Zp14 : n0 ≤ h14.size := Nat.le_trans Zp8 Kq14.1
  show own_G p e below Φ T14 (mkF m 113 #[.val (.ref a1), .val (.long q1), .second, .val (.int (1 : Int32)), .unset] [])
  obtain ⟨T17, h17, X17, e17, E17, A17, D17, -, st17⟩ := newO X14 hx hZ hown (wd_20 hw) (wd_57 hw) (wd_58 hw) e14 (g := (mkF m 113 #[.val (.ref a1), .val (.long q1), .second, .val (.int (1 : Int32)), .unset] [])) rfl (hb hby d4_113) (by decide) (by decide)
  obtain ⟨ob17, g17⟩ : ∃ z, z = h14.size := ⟨_, rfl⟩
  rw [← g17] at A17 D17 st17
  have f18 : Exa Z h8 a1 "corro/core/LimitLevels" := E_a1.keep Kq8
  have f19 : Exa Z h14 a1 "corro/core/LimitLevels" := f18.keep Kq14
  have ne_a1_ob17 : a1 ≠ ob17 := Nat.ne_of_lt (Nat.lt_of_lt_of_le f19.lt (Nat.le_of_eq g17.symm))
  have f20 : Arv Z h14 xa kk .long (64 : Int32) [(.long k0), (.long k1), (.long k1)] (.long (0 : Int64)) := V8.keep Kq14 (ninS ne_xa_xl nin0)
  have ne_xa_ob17 : xa ≠ ob17 := Nat.ne_of_lt (Nat.lt_of_lt_of_le f20.lt (Nat.le_of_eq g17.symm))
  have ne_xl_ob17 : xl ≠ ob17 := Nat.ne_of_lt (Nat.lt_of_lt_of_le V14.lt (Nat.le_of_eq g17.symm))
  have f21 : Exa Z h8 l0 "corro/core/Level" := E_l0.keep Kq8
  have f22 : Exa Z h14 l0 "corro/core/Level" := f21.keep Kq14
  have ne_l0_ob17 : l0 ≠ ob17 := Nat.ne_of_lt (Nat.lt_of_lt_of_le f22.lt (Nat.le_of_eq g17.symm))
  have f23 : Exa Z h14 l1 "corro/core/Level" := f16.keep Kq14
  have ne_l1_ob17 : l1 ≠ ob17 := Nat.ne_of_lt (Nat.lt_of_lt_of_le f23.lt (Nat.le_of_eq g17.symm))
  have g_ob17 : n0 ≤ ob17 := Nat.le_trans Zp14 (Nat.le_of_eq g17.symm)
  have sz_ob17 : h0.size ≤ ob17 := Nat.le_trans K14.1 (Nat.le_of_eq g17.symm)
  have K17 := K14.ext E17
  have Zp17 : n0 ≤ h17.size := Nat.le_trans Zp14 E17.1
  refine own_go st17 ?_
  refine own_go (fun _ => XS.dup X17.here hx rfl (hb hby d4_116) rfl rfl) ?_
  show own_G p e below Φ T17 (mkF m 117 #[.val (.ref a1), .val (.long q1), .second, .val (.int (1 : Int32)), .unset] [(.ref ob17), (.ref ob17)])
  obtain ⟨_, _, ⟨T24, zL24, zk24, zn24⟩, -, X24, ⟨Lc24, hQ24, zl24, zy24, zz24⟩, st24⟩ := X17.specialBack hx (y := (⟨"corro/core/Level", "<init>", "()V"⟩ : MethodName)) rfl hown (mvT hZ (wd_59 hw)) (mvT hZ (wd_60 hw)) (mvT hZ (wd_61 hw)) (by decide) (backOf (W := 1) (rmL l Z a0 hw [] ob17 h17 n0 Zp17 ) hZ (wd_61 hw) (wd_58 hw) (by decide) (by decide)) (g := (mkF m 117 #[.val (.ref a1), .val (.long q1), .second, .val (.int (1 : Int32)), .unset] [(.ref ob17), (.ref ob17)])) rfl (by rw [hml]; rfl) (Steps.refl _) (a := ob17) (argsL := []) (rest := [(.ref ob17)]) (lenOf pd_4 rfl) rfl (by show 2 * 0 + _ ≤ _; exact Nat.le_of_eq rfl) (hb hby d4_117) (fun _ _ => ⟨rfl, e17, (by decide : 1 + 0 ≤ _), (by decide : 2 + 0 ≤ _)⟩)
  dsimp only [Pt.U, Pt.locs, Pt.cells, Pt.slots] at X24 zl24 zy24 zz24 st24 hQ24
  subst zl24 zy24 zz24
  obtain ⟨rfl, N24q, hs24⟩ := hQ24
  have N24 := Fr.app N14 N24q
  refine own_on st24 ?_
  refine own_go (fun _ => XS.astore X24.here hx rfl (hb hby d4_120) rfl rfl (l' := #[.val (.ref a1), .val (.long q1), .second, .val (.int (1 : Int32)), .val (.ref ob17)]) rfl) ?_
  refine own_go (fun _ => XS.aloadN X24.here hx rfl (hb hby d4_122) rfl rfl) ?_
  show own_G p e below Φ T24 (mkF m 123 #[.val (.ref a1), .val (.long q1), .second, .val (.int (1 : Int32)), .val (.ref ob17)] [(.ref a1)])
  have f25 : Fld Z h8 a1 "corro/core/LimitLevels" "keys" "[J" (.ref xa) := F_keys_a1.keep Kq8 (ninS ne_a1_xa nin0)
  have f26 : Fld Z h14 a1 "corro/core/LimitLevels" "keys" "[J" (.ref xa) := f25.keep Kq14 (ninS ne_a1_xl nin0)
  have f27 : Fld Z h17 a1 "corro/core/LimitLevels" "keys" "[J" (.ref xa) := f26.ext E17
  obtain ⟨T28, X28, e28, st28⟩ := getF X24 hx hZ hown (host := "") (Or.inl (wd_18 hw)) Via.refl hs24 f27 (g := (mkF m 123 #[.val (.ref a1), .val (.long q1), .second, .val (.int (1 : Int32)), .val (.ref ob17)] [(.ref a1)])) rfl rfl (hb hby d4_123)
  refine own_go st28 ?_
  refine own_go (fun _ => XS.iloadN X28.here hx rfl (hb hby d4_126) rfl) ?_
  refine own_go (fun _ => XS.aloadN X28.here hx rfl (hb hby d4_127) rfl rfl) ?_
  show own_G p e below Φ T28 (mkF m 128 #[.val (.ref a1), .val (.long q1), .second, .val (.int (1 : Int32)), .val (.ref ob17)] [(.ref a1), (.int (1 : Int32)), (.ref xa)])
  refine own_go (fun _ => XS.lloadN X28.here hx rfl (hb hby d4_128) rfl) ?_
  show own_G p e below Φ T28 (mkF m 129 #[.val (.ref a1), .val (.long q1), .second, .val (.int (1 : Int32)), .val (.ref ob17)] [(.long q1), (.ref a1), (.int (1 : Int32)), (.ref xa)])
  have f29 : Fld Z h8 a1 "corro/core/LimitLevels" "highestFirst" "Z" (.int hf) := F_highestFirst_a1.keep Kq8 (ninS ne_a1_xa nin0)
  have f30 : Fld Z h14 a1 "corro/core/LimitLevels" "highestFirst" "Z" (.int hf) := f29.keep Kq14 (ninS ne_a1_xl nin0)
  have f31 : Fld Z h17 a1 "corro/core/LimitLevels" "highestFirst" "Z" (.int hf) := f30.ext E17
  have f33 : Exa Z h17 a1 "corro/core/LimitLevels" := f19.ext E17
  obtain ⟨cq32, zc32, zc32z⟩ := f33.cell
  obtain ⟨_, _, ⟨T32, zL32, zk32, zn32⟩, -, X32, ⟨Lc32, hQ32, zl32, zy32, zz32⟩, st32⟩ := X28.privateBack hx (y := (⟨"corro/core/LimitLevels", "key", "(J)J"⟩ : MethodName)) hown (mvT hZ (wd_39 hw)) (mvT hZ (wd_40 hw)) (own_selp (x := (⟨"corro/core/LimitLevels", "getOrAdd", "(J)Lcorro/core/Level;"⟩ : MethodName)) rfl (mvT hZ (wd_30 hw)) (notFace_of_selects (args := #[]) (mvT hZ (wd_31 hw))) (Cond.privateMethod_at (mvP hZ (wd_41 hw) (args := #[]))) (mvT hZ (wd_40 hw)) (by decide)) (Cond.privateMethod_at (mvP hZ (wd_41 hw) (args := #[]))) (mvT hZ (wd_42 hw)) (by decide) (backOf (W := 2) (rmK l Z a0 hw [] a1 q1 hf h17 n0 Zp17 f31) hZ (wd_42 hw) (wd_7 hw) (by decide) (by decide)) (g := (mkF m 129 #[.val (.ref a1), .val (.long q1), .second, .val (.int (1 : Int32)), .val (.ref ob17)] [(.long q1), (.ref a1), (.int (1 : Int32)), (.ref xa)])) rfl (by rw [hml]; rfl) (Steps.refl _) (a := a1) (by rw [e28]; exact zc32) zc32z (argsL := [(.long q1)]) (rest := [(.int (1 : Int32)), (.ref xa)]) (lenOf pd_2 rfl) rfl (by show 2 * 0 + _ ≤ _; exact Nat.le_of_eq rfl) (hb hby d4_129) (fun _ _ => ⟨rfl, e28, (by decide : 1 + 0 ≤ _), (by decide : 2 + 0 ≤ _)⟩)
  dsimp only [Pt.U, Pt.locs, Pt.cells, Pt.slots] at X32 zl32 zy32 zz32 st32 hQ32
  subst zl32 zy32 zz32
  obtain ⟨rfl, N32q, hs32⟩ := hQ32
  have N32 := Fr.app N24 N32q
  refine own_on st32 ?_
  show own_G p e below Φ T32 (mkF m 132 #[.val (.ref a1), .val (.long q1), .second, .val (.int (1 : Int32)), .val (.ref ob17)] [(.long (own_key hf q1)), (.int (1 : Int32)), (.ref xa)])
  have f34 : Arv Z h17 xa kk .long (64 : Int32) [(.long k0), (.long k1), (.long k1)] (.long (0 : Int64)) := f20.ext E17
  obtain ⟨cl35, Ar35, zq35, S35, M35, H35, G35⟩ := id f34
  have hin35 : ¬ ((1 : Int32) < 0 ∨ cl35.slots.size ≤ ((1 : Int32)).toNatClampNeg) := inb_of S35 ⟨by decide, by decide⟩
  obtain ⟨T35, h35, X35, e35, W35, st35⟩ := stJ X32 hx hZ hs32 Ar35 (j := (1 : Int32)) hin35 (g := (mkF m 132 #[.val (.ref a1), .val (.long q1), .second, .val (.int (1 : Int32)), .val (.ref ob17)] [(.long (own_key hf q1)), (.int (1 : Int32)), (.ref xa)])) rfl rfl (hb hby d4_132)
  refine own_go st35 ?_
  have V35 : Arv Z h35 xa kk .long (64 : Int32) [(.long k0), (.long (own_key hf q1)), (.long k1)] (.long (0 : Int64)) := Arv.set Ar35 zq35 S35 M35 H35 G35 rfl W35 1 rfl (Nat.le_of_ble_eq_true rfl)
  have N35 := Fr.snoc X35 N32 g_xa
  have K35 := K17.wr W35 (Or.inl (List.mem_of_getElem? (i := 1) rfl))
  have Zp35 : n0 ≤ h35.size := Nat.le_trans Zp17 (Keep.of_wr W35).1
  refine own_go (fun _ => XS.aloadN X35.here hx rfl (hb hby d4_133) rfl rfl) ?_
  show own_G p e below Φ T35 (mkF m 134 #[.val (.ref a1), .val (.long q1), .second, .val (.int (1 : Int32)), .val (.ref ob17)] [(.ref a1)])
  have f36 : Fld Z h14 a1 "corro/core/LimitLevels" "levels" "[Lcorro/core/Level;" (.ref xl) := f9.keep Kq14 (ninS ne_a1_xl nin0)
  have f37 : Fld Z h17 a1 "corro/core/LimitLevels" "levels" "[Lcorro/core/Level;" (.ref xl) := f36.ext E17
  have f38 : Fld Z h35 a1 "corro/core/LimitLevels" "levels" "[Lcorro/core/Level;" (.ref xl) := f37.other W35 (Or.inl ne_a1_xa)
  obtain ⟨T39, X39, e39, st39⟩ := getF X35 hx hZ hown (host := "") (Or.inl (wd_22 hw)) Via.refl e35 f38 (g := (mkF m 134 #[.val (.ref a1), .val (.long q1), .second, .val (.int (1 : Int32)), .val (.ref ob17)] [(.ref a1)])) rfl rfl (hb hby d4_134)
  refine own_go st39 ?_
  refine own_go (fun _ => XS.iloadN X39.here hx rfl (hb hby d4_137) rfl) ?_
  refine own_go (fun _ => XS.aload X39.here hx rfl (hb hby d4_138) rfl rfl) ?_
  show own_G p e below Φ T39 (mkF m 140 #[.val (.ref a1), .val (.long q1), .second, .val (.int (1 : Int32)), .val (.ref ob17)] [(.ref ob17), (.int (1 : Int32)), (.ref xl)])
  have f40 : Arv Z h17 xl kl (.object "corro/core/Level") (64 : Int32) [(.ref l0), (.ref l1), (.ref l1)] .null := V14.ext E17
  have f41 : Arv Z h35 xl kl (.object "corro/core/Level") (64 : Int32) [(.ref l0), (.ref l1), (.ref l1)] .null := f40.other W35 (Ne.symm ne_xa_xl)
  obtain ⟨cl42, Ar42, zq42, S42, M42, H42, G42⟩ := id f41
  have hin42 : ¬ ((1 : Int32) < 0 ∨ cl42.slots.size ≤ ((1 : Int32)).toNatClampNeg) := inb_of S42 ⟨by decide, by decide⟩
  have f43 : Exa Z h35 ob17 "corro/core/Level" := A17.wr W35
  obtain ⟨T42, h42, X42, e42, W42, st42⟩ := stR X39 hx hZ e39 Ar42 (j := (1 : Int32)) hin42 rfl (Sto.ofV Ar42 zq42 hO (Ins.self f43)) (g := (mkF m 140 #[.val (.ref a1), .val (.long q1), .second, .val (.int (1 : Int32)), .val (.ref ob17)] [(.ref ob17), (.int (1 : Int32)), (.ref xl)])) rfl rfl (hb hby d4_140)
  refine own_go st42 ?_
  have V42 : Arv Z h42 xl kl (.object "corro/core/Level") (64 : Int32) [(.ref l0), (.ref ob17), (.ref l1)] .null := Arv.set Ar42 zq42 S42 M42 H42 G42 rfl W42 1 rfl (Nat.le_of_ble_eq_true rfl)
  have N42 := Fr.snoc X42 N35 g_xl
  have K42 := K35.wr W42 (Or.inl (List.mem_of_getElem? (i := 2) rfl))
  have Zp42 : n0 ≤ h42.size := Nat.le_trans Zp35 (Keep.of_wr W42).1
  refine own_go (fun _ => XS.aloadN X42.here hx rfl (hb hby d4_141) rfl rfl) ?_
  refine own_go (fun _ => XS.dup X42.here hx rfl (hb hby d4_142) rfl rfl) ?_
  show own_G p e below Φ T42 (mkF m 143 #[.val (.ref a1), .val (.long q1), .second, .val (.int (1 : Int32)), .val (.ref ob17)] [(.ref a1), (.ref a1)])
  have f44 : Fld Z h14 a1 "corro/core/LimitLevels" "size" "I" (.int (2 : Int32)) := f12.keep Kq14 (ninS ne_a1_xl nin0)
  have f45 : Fld Z h17 a1 "corro/core/LimitLevels" "size" "I" (.int (2 : Int32)) := f44.ext E17
  have f46 : Fld Z h35 a1 "corro/core/LimitLevels" "size" "I" (.int (2 : Int32)) := f45.other W35 (Or.inl ne_a1_xa)
  have f47 : Fld Z h42 a1 "corro/core/LimitLevels" "size" "I" (.int (2 : Int32)) := f46.other W42 (Or.inl ne_a1_xl)
  obtain ⟨T48, X48, e48, st48⟩ := getF X42 hx hZ hown (host := "") (Or.inl (wd_37 hw)) Via.refl e42 f47 (g := (mkF m 143 #[.val (.ref a1), .val (.long q1), .second, .val (.int (1 : Int32)), .val (.ref ob17)] [(.ref a1), (.ref a1)])) rfl rfl (hb hby d4_143)
  refine own_go st48 ?_
  refine own_go (fun _ => XS.iconst X48.here hx rfl (hb hby d4_146)) ?_
  show own_G p e below Φ T48 (mkF m 147 #[.val (.ref a1), .val (.long q1), .second, .val (.int (1 : Int32)), .val (.ref ob17)] [(.int (1 : Int32)), (.int (2 : Int32)), (.ref a1)])
  refine own_go (fun _ => XS.iadd X48.here hx rfl (hb hby d4_147) rfl) ?_
  show own_G p e below Φ T48 (mkF m 148 #[.val (.ref a1), .val (.long q1), .second, .val (.int (1 : Int32)), .val (.ref ob17)] [(.int (3 : Int32)), (.ref a1)])
  have f49 : Exa Z h35 a1 "corro/core/LimitLevels" := f33.wr W35
  have f50 : Exa Z h42 a1 "corro/core/LimitLevels" := f49.wr W42
  obtain ⟨T51, h51, X51, e51, W51, st51⟩ := putF X48 hx hZ hown (host := "") (Or.inl (wd_37 hw)) Via.refl e48 f47 f50 (Or.inl (wd_38 hw)) (wd_6 hw) (ty := .int) (by decide) rfl rfl (g := (mkF m 148 #[.val (.ref a1), .val (.long q1), .second, .val (.int (1 : Int32)), .val (.ref ob17)] [(.int (3 : Int32)), (.ref a1)])) rfl rfl (hb hby d4_148)
  refine own_go st51 ?_
  have N51 := Fr.snoc X51 N42 g_a1
  have K51 := K42.wr W51 (Or.inl (List.mem_of_getElem? (i := 0) rfl))
  have Zp51 : n0 ≤ h51.size := Nat.le_trans Zp42 (Keep.of_wr W51).1
  have f51w := f47.same W51
  refine own_go (fun _ => XS.aload X51.here hx rfl (hb hby d4_151) rfl rfl) ?_
  show own_G p e below Φ T51 (mkF m 153 #[.val (.ref a1), .val (.long q1), .second, .val (.int (1 : Int32)), .val (.ref ob17)] [(.ref ob17)])
  have f52 : Exa Z h51 a1 "corro/core/LimitLevels" := f50.wr W51
  have f53 : Fld Z h35 a1 "corro/core/LimitLevels" "keys" "[J" (.ref xa) := f27.other W35 (Or.inl ne_a1_xa)
  have f54 : Fld Z h42 a1 "corro/core/LimitLevels" "keys" "[J" (.ref xa) := f53.other W42 (Or.inl ne_a1_xl)
  have f55 : Fld Z h51 a1 "corro/core/LimitLevels" "keys" "[J" (.ref xa) := f54.other W51 (Or.inr (sl_9 hw))
  have f56 : Fld Z h42 a1 "corro/core/LimitLevels" "levels" "[Lcorro/core/Level;" (.ref xl) := f38.other W42 (Or.inl ne_a1_xl)
  have f57 : Fld Z h51 a1 "corro/core/LimitLevels" "levels" "[Lcorro/core/Level;" (.ref xl) := f56.other W51 (Or.inr (sl_10 hw))
  have f58 : Fld Z h35 a1 "corro/core/LimitLevels" "highestFirst" "Z" (.int hf) := f31.other W35 (Or.inl ne_a1_xa)
  have f59 : Fld Z h42 a1 "corro/core/LimitLevels" "highestFirst" "Z" (.int hf) := f58.other W42 (Or.inl ne_a1_xl)
  have f60 : Fld Z h51 a1 "corro/core/LimitLevels" "highestFirst" "Z" (.int hf) := f59.other W51 (Or.inr (sl_11 hw))
  have f61 : Arv Z h42 xa kk .long (64 : Int32) [(.long k0), (.long (own_key hf q1)), (.long k1)] (.long (0 : Int64)) := V35.other W42 ne_xa_xl
  have f62 : Arv Z h51 xa kk .long (64 : Int32) [(.long k0), (.long (own_key hf q1)), (.long k1)] (.long (0 : Int64)) := f61.other W51 (Ne.symm ne_a1_xa)
  have f63 : Arv Z h51 xl kl (.object "corro/core/Level") (64 : Int32) [(.ref l0), (.ref ob17), (.ref l1)] .null := V42.other W51 (Ne.symm ne_a1_xl)
  have f64 : Exa Z h42 ob17 "corro/core/Level" := f43.wr W42
  have f65 : Exa Z h51 ob17 "corro/core/Level" := f64.wr W51
  rw [hΦ]
  refine own_ret X51 (v := some (.ref ob17)) (fun h => by rw [Bd.returns] at h; cases h) (BodyLoose.notSynchronized Bd) (fun fs hr => retOut X51 hx Bd.returns rfl (Or.inr (Or.inr (Or.inr (Or.inr ⟨rfl, rfl, rfl⟩)))) (hb hby d4_153) hr) ?_ (by decide) (by decide)
  rw [e51]
  exact ⟨ob17, sz_ob17, rfl, N51, K51, f52, f55, f57, f51w, f60, f62, f63, f65⟩
theorem ef_rmG_2fnd1 (m : MethodId) (a1 : Addr) (q1 : Int64) : entryFrame m #[(.ref a1), (.long q1)] 5 = mkF m 0 #[.val (.ref a1), .val (.long q1), .second, .unset, .unset] [] := by first | (simp [entryFrame, mkF, argsToLocals, Value.category]; done) | rfl
def Q_rmG_2fnd1 (Z : State) (a1 : Addr) (q1 : Int64) (hf : Int32) (xa : Addr) (xl : Addr) (kk : ClassId) (kl : ClassId) (k0 : Int64) (k1 : Int64) (l0 : Addr) (l1 : Addr) (h0 : Heap) (n0 : Nat) (v : Option Value) (h : Heap) (L : List Loc) : Prop := v = some (.ref l1) ∧ Fr n0 L ∧ h = h0
set_option maxRecDepth 65536 in
set_option maxHeartbeats 40000000 in
theorem rmG_2fnd1 (l : Launch) (Z : State) (a0 : Array Value) (hw : ∀ d ∈ tables_1, d.before a0 Z = true) (ws : List Jvm.Cond) (a1 : Addr) (q1 : Int64) (hf : Int32) (xa : Addr) (xl : Addr) (kk : ClassId) (kl : ClassId) (k0 : Int64) (k1 : Int64) (l0 : Addr) (l1 : Addr) (h0 : Heap) (n0 : Nat) (Z0 : n0 ≤ h0.size) (E_a1 : Exa Z h0 a1 "corro/core/LimitLevels") (F_keys_a1 : Fld Z h0 a1 "corro/core/LimitLevels" "keys" "[J" (.ref xa)) (F_levels_a1 : Fld Z h0 a1 "corro/core/LimitLevels" "levels" "[Lcorro/core/Level;" (.ref xl)) (F_size_a1 : Fld Z h0 a1 "corro/core/LimitLevels" "size" "I" (.int (2 : Int32))) (F_highestFirst_a1 : Fld Z h0 a1 "corro/core/LimitLevels" "highestFirst" "Z" (.int hf)) (V_xa : Arv Z h0 xa kk .long (64 : Int32) [(.long k0), (.long k1)] (.long (0 : Int64))) (V_xl : Arv Z h0 xl kl (.object "corro/core/Level") (64 : Int32) [(.ref l0), (.ref l1)] .null) (E_l0 : Exa Z h0 l0 "corro/core/Level") (E_l1 : Exa Z h0 l1 "corro/core/Level") (g_a1 : n0 ≤ a1) (g_xa : n0 ≤ xa) (g_xl : n0 ≤ xl) (ne_a1_xa : a1 ≠ xa) (ne_a1_xl : a1 ≠ xl) (ne_xa_xl : xa ≠ xl) (hO : Ovr Z kl "corro/core/Level") (r0 : k0 < (own_key hf q1)) (r1 : k1 = (own_key hf q1)) :
    MetFree l (⟨"corro/core/LimitLevels", "getOrAdd", "(J)Lcorro/core/Level;"⟩ : MethodName) (head1 (Jvm.Cond.code (⟨"corro/core/LimitLevels", "getOrAdd", "(J)Lcorro/core/Level;"⟩ : MethodName) prog_14_method_7_code 5 (some (.object "corro/core/Level")) :: ws) ({ frames := 3, cells := 0, slots := 0, locals := 51 } : Room)) (fun a U => a = #[(.ref a1), (.long q1)] ∧ Z.Warmed39 U.vm ∧ U.heap = h0) (fun _ _ _ _ _ => True) (fun _ U o U' => ∃ v L, o = .returned v ∧ Q_rmG_2fnd1 Z a1 q1 hf xa xl kk kl k0 k1 l0 l1 h0 n0 v U'.heap L ∧ FrameEnd U o U' L ({ frames := 3, cells := 0, slots := 0, locals := 51 } : Room).cells ({ frames := 3, cells := 0, slots := 0, locals := 51 } : Room).slots) := by
  refine MetFree.of_bodySF (plainFor_of_name pn_1) hisR ?_
  intro p e s m args below meth c s₁ Bd hml0 hP hK
  obtain ⟨rfl, hZ, hh⟩ := hP
  have hx := Bd.exec
  have hby := Bd.bytes
  have hml : c.maxLocals = 5 := hml0
  have hown : s.vm.findClass "corro/core/LimitLevels" = some m.cls := findClass_of_methodNamed Bd.named
  have hnm := (name_of_methodNamed Bd.named Bd.method).1
  have X0 : Stand p l e ({ frames := 3, cells := 0, slots := 0, locals := 51 } : Room) s m #[(.ref a1), (.long q1)] below meth c s₁ [] 0 0 := Stand.of_body Bd
  have e0 : s₁.heap = h0 := by rw [← hh, Bd.state]; rfl
  have N0 := Fr.nil n0
  suffices G0 : own_G p e below (own_E s below (Q_rmG_2fnd1 Z a1 q1 hf xa xl kk kl k0 k1 l0 l1 h0 n0) ({ frames := 3, cells := 0, slots := 0, locals := 51 } : Room).cells ({ frames := 3, cells := 0, slots := 0, locals := 51 } : Room).slots) s₁ (mkF m 0 #[.val (.ref a1), .val (.long q1), .second, .unset, .unset] []) by
    obtain ⟨zt, zst, zo, zq1, zq2, zq3⟩ := G0
    exact ⟨zt, zo, castTop (ef_rmG_2fnd1 m a1 q1) zst, zq1, zq2, zq3⟩
  obtain ⟨Φ, hΦ⟩ : ∃ Φ, Φ = own_E s below (Q_rmG_2fnd1 Z a1 q1 hf xa xl kk kl k0 k1 l0 l1 h0 n0) ({ frames := 3, cells := 0, slots := 0, locals := 51 } : Room).cells ({ frames := 3, cells := 0, slots := 0, locals := 51 } : Room).slots := ⟨_, rfl⟩
  rw [← hΦ]
  show own_G p e below Φ s₁ (mkF m 0 #[.val (.ref a1), .val (.long q1), .second, .unset, .unset] [])
  refine own_go (fun _ => XS.aloadN X0.here hx rfl (hb hby d4_0) rfl rfl) ?_
  refine own_go (fun _ => XS.lloadN X0.here hx rfl (hb hby d4_1) rfl) ?_
  show own_G p e below Φ s₁ (mkF m 2 #[.val (.ref a1), .val (.long q1), .second, .unset, .unset] [(.long q1), (.ref a1)])
  obtain ⟨cq1, zc1, zc1z⟩ := E_a1.cell
  obtain ⟨_, _, ⟨T1, zL1, zk1, zn1⟩, -, X1, ⟨Lc1, hQ1, zl1, zy1, zz1⟩, st1⟩ := X0.privateBack hx (y := (⟨"corro/core/LimitLevels", "search", "(J)I"⟩ : MethodName)) hown (mvT hZ (wd_33 hw)) (mvT hZ (wd_34 hw)) (own_selp (x := (⟨"corro/core/LimitLevels", "getOrAdd", "(J)Lcorro/core/Level;"⟩ : MethodName)) rfl (mvT hZ (wd_30 hw)) (notFace_of_selects (args := #[]) (mvT hZ (wd_31 hw))) (Cond.privateMethod_at (mvP hZ (wd_35 hw) (args := #[]))) (mvT hZ (wd_34 hw)) (by decide)) (Cond.privateMethod_at (mvP hZ (wd_35 hw) (args := #[]))) (mvT hZ (wd_36 hw)) (by decide) (backOf (W := 0) (rmS_2fnd1 l Z a0 hw [] a1 q1 hf xa kk k0 k1 h0 n0 Z0 E_a1 F_keys_a1 F_size_a1 F_highestFirst_a1 V_xa r0 r1) hZ (wd_36 hw) (wd_7 hw) (by decide) (by decide)) (g := (mkF m 2 #[.val (.ref a1), .val (.long q1), .second, .unset, .unset] [(.long q1), (.ref a1)])) rfl (by rw [hml]; rfl) (Steps.refl _) (a := a1) (by rw [e0]; exact zc1) zc1z (argsL := [(.long q1)]) (rest := []) (lenOf pd_3 rfl) rfl (by show 2 * 0 + _ ≤ _; exact Nat.le_of_eq rfl) (hb hby d4_2) (fun _ _ => ⟨rfl, e0, (by decide : 0 + 0 ≤ _), (by decide : 0 + 0 ≤ _)⟩)
  dsimp only [Pt.U, Pt.locs, Pt.cells, Pt.slots] at X1 zl1 zy1 zz1 st1 hQ1
  subst zl1 zy1 zz1
  obtain ⟨rfl, N1q, hs1⟩ := hQ1
  have N1 := Fr.app N0 N1q
  refine own_on st1 ?_
  refine own_go (fun _ => XS.istoreN X1.here hx rfl (hb hby d4_5) rfl (l' := #[.val (.ref a1), .val (.long q1), .second, .val (.int (1 : Int32)), .unset]) rfl) ?_
  refine own_go (fun _ => XS.iloadN X1.here hx rfl (hb hby d4_6) rfl) ?_
  show own_G p e below Φ T1 (mkF m 7 #[.val (.ref a1), .val (.long q1), .second, .val (.int (1 : Int32)), .unset] [(.int (1 : Int32))])
  refine own_go (fun _ => XS.ifNo X1.here hx rfl (hb hby d4_7) rfl (Jvm.Free.XT.i0_lt_f (by decide : ¬ ((1 : Int32) < (0 : Int32))))) ?_
  refine own_go (fun _ => XS.aloadN X1.here hx rfl (hb hby d4_10) rfl rfl) ?_
  show own_G p e below Φ T1 (mkF m 11 #[.val (.ref a1), .val (.long q1), .second, .val (.int (1 : Int32)), .unset] [(.ref a1)])
  obtain ⟨T2, X2, e2, st2⟩ := getF X1 hx hZ hown (host := "") (Or.inl (wd_22 hw)) Via.refl hs1 F_levels_a1 (g := (mkF m 11 #[.val (.ref a1), .val (.long q1), .second, .val (.int (1 : Int32)), .unset] [(.ref a1)])) rfl rfl (hb hby d4_11)
  refine own_go st2 ?_
  refine own_go (fun _ => XS.iloadN X2.here hx rfl (hb hby d4_14) rfl) ?_
  show own_G p e below Φ T2 (mkF m 15 #[.val (.ref a1), .val (.long q1), .second, .val (.int (1 : Int32)), .unset] [(.int (1 : Int32)), (.ref xl)])
  obtain ⟨cl3, Ar3, zq3, S3, M3, H3, G3⟩ := id V_xl
  have hin3 : ¬ ((1 : Int32) < 0 ∨ cl3.slots.size ≤ ((1 : Int32)).toNatClampNeg) := inb_of S3 ⟨by decide, by decide⟩
  refine own_go (fun _ => X2.aaload hx (j := (1 : Int32)) (v := (.ref l1)) (by rw [e2]; exact Ar3.1) (State.isArrayOf_alike hZ.alike Ar3.2.1) rfl Ar3.2.2 hin3 (H3.at hin3 rfl) (g := (mkF m 15 #[.val (.ref a1), .val (.long q1), .second, .val (.int (1 : Int32)), .unset] [(.int (1 : Int32)), (.ref xl)])) rfl rfl (hb hby d4_15) _) ?_
  show own_G p e below Φ T2 (mkF m 16 #[.val (.ref a1), .val (.long q1), .second, .val (.int (1 : Int32)), .unset] [(.ref l1)])
  rw [hΦ]
  refine own_ret X2 (v := some (.ref l1)) (fun h => by rw [Bd.returns] at h; cases h) (BodyLoose.notSynchronized Bd) (fun fs hr => retOut X2 hx Bd.returns rfl (Or.inr (Or.inr (Or.inr (Or.inr ⟨rfl, rfl, rfl⟩)))) (hb hby d4_16) hr) ?_ (by decide) (by decide)
  rw [e2]
  exact ⟨rfl, N1, rfl⟩
theorem ef_rmG_2ins2 (m : MethodId) (a1 : Addr) (q1 : Int64) : entryFrame m #[(.ref a1), (.long q1)] 5 = mkF m 0 #[.val (.ref a1), .val (.long q1), .second, .unset, .unset] [] := by first | (simp [entryFrame, mkF, argsToLocals, Value.category]; done) | rfl
def Q_rmG_2ins2 (Z : State) (a1 : Addr) (q1 : Int64) (hf : Int32) (xa : Addr) (xl : Addr) (kk : ClassId) (kl : ClassId) (k0 : Int64) (k1 : Int64) (l0 : Addr) (l1 : Addr) (h0 : Heap) (n0 : Nat) (v : Option Value) (h : Heap) (L : List Loc) : Prop := ∃ lv : Addr, h0.size ≤ lv ∧ v = some (.ref lv) ∧ Fr n0 L ∧ Keep h0 h [a1, xa, xl] ∧ Exa Z h a1 "corro/core/LimitLevels" ∧ Fld Z h a1 "corro/core/LimitLevels" "keys" "[J" (.ref xa) ∧ Fld Z h a1 "corro/core/LimitLevels" "levels" "[Lcorro/core/Level;" (.ref xl) ∧ Fld Z h a1 "corro/core/LimitLevels" "size" "I" (.int (3 : Int32)) ∧ Fld Z h a1 "corro/core/LimitLevels" "highestFirst" "Z" (.int hf) ∧ Arv Z h xa kk .long (64 : Int32) [(.long k0), (.long k1), (.long (own_key hf q1))] (.long (0 : Int64)) ∧ Arv Z h xl kl (.object "corro/core/Level") (64 : Int32) [(.ref l0), (.ref l1), (.ref lv)] .null ∧ Exa Z h lv "corro/core/Level"
set_option maxRecDepth 65536 in
set_option maxHeartbeats 40000000 in
theorem rmG_2ins2 (l : Launch) (Z : State) (a0 : Array Value) (hw : ∀ d ∈ tables_1, d.before a0 Z = true) (ws : List Jvm.Cond) (a1 : Addr) (q1 : Int64) (hf : Int32) (xa : Addr) (xl : Addr) (kk : ClassId) (kl : ClassId) (k0 : Int64) (k1 : Int64) (l0 : Addr) (l1 : Addr) (h0 : Heap) (n0 : Nat) (Z0 : n0 ≤ h0.size) (E_a1 : Exa Z h0 a1 "corro/core/LimitLevels") (F_keys_a1 : Fld Z h0 a1 "corro/core/LimitLevels" "keys" "[J" (.ref xa)) (F_levels_a1 : Fld Z h0 a1 "corro/core/LimitLevels" "levels" "[Lcorro/core/Level;" (.ref xl)) (F_size_a1 : Fld Z h0 a1 "corro/core/LimitLevels" "size" "I" (.int (2 : Int32))) (F_highestFirst_a1 : Fld Z h0 a1 "corro/core/LimitLevels" "highestFirst" "Z" (.int hf)) (V_xa : Arv Z h0 xa kk .long (64 : Int32) [(.long k0), (.long k1)] (.long (0 : Int64))) (V_xl : Arv Z h0 xl kl (.object "corro/core/Level") (64 : Int32) [(.ref l0), (.ref l1)] .null) (E_l0 : Exa Z h0 l0 "corro/core/Level") (E_l1 : Exa Z h0 l1 "corro/core/Level") (g_a1 : n0 ≤ a1) (g_xa : n0 ≤ xa) (g_xl : n0 ≤ xl) (ne_a1_xa : a1 ≠ xa) (ne_a1_xl : a1 ≠ xl) (ne_xa_xl : xa ≠ xl) (hO : Ovr Z kl "corro/core/Level") (r0 : k0 < (own_key hf q1)) (r1 : k1 < (own_key hf q1)) :
    MetFree l (⟨"corro/core/LimitLevels", "getOrAdd", "(J)Lcorro/core/Level;"⟩ : MethodName) (head1 (Jvm.Cond.code (⟨"corro/core/LimitLevels", "getOrAdd", "(J)Lcorro/core/Level;"⟩ : MethodName) prog_14_method_7_code 5 (some (.object "corro/core/Level")) :: ws) ({ frames := 3, cells := 1, slots := 2, locals := 51 } : Room)) (fun a U => a = #[(.ref a1), (.long q1)] ∧ Z.Warmed39 U.vm ∧ U.heap = h0) (fun _ _ _ _ _ => True) (fun _ U o U' => ∃ v L, o = .returned v ∧ Q_rmG_2ins2 Z a1 q1 hf xa xl kk kl k0 k1 l0 l1 h0 n0 v U'.heap L ∧ FrameEnd U o U' L ({ frames := 3, cells := 1, slots := 2, locals := 51 } : Room).cells ({ frames := 3, cells := 1, slots := 2, locals := 51 } : Room).slots) := by
  refine MetFree.of_bodySF (plainFor_of_name pn_1) hisR ?_
  intro p e s m args below meth c s₁ Bd hml0 hP hK
  obtain ⟨rfl, hZ, hh⟩ := hP
  have hx := Bd.exec
  have hby := Bd.bytes
  have hml : c.maxLocals = 5 := hml0
  have hown : s.vm.findClass "corro/core/LimitLevels" = some m.cls := findClass_of_methodNamed Bd.named
  have hnm := (name_of_methodNamed Bd.named Bd.method).1
  have X0 : Stand p l e ({ frames := 3, cells := 1, slots := 2, locals := 51 } : Room) s m #[(.ref a1), (.long q1)] below meth c s₁ [] 0 0 := Stand.of_body Bd
  have e0 : s₁.heap = h0 := by rw [← hh, Bd.state]; rfl
  have N0 := Fr.nil n0
  have K0 : Keep h0 h0 [a1, xa, xl] := Keep.refl _ _
  suffices G0 : own_G p e below (own_E s below (Q_rmG_2ins2 Z a1 q1 hf xa xl kk kl k0 k1 l0 l1 h0 n0) ({ frames := 3, cells := 1, slots := 2, locals := 51 } : Room).cells ({ frames := 3, cells := 1, slots := 2, locals := 51 } : Room).slots) s₁ (mkF m 0 #[.val (.ref a1), .val (.long q1), .second, .unset, .unset] []) by
    obtain ⟨zt, zst, zo, zq1, zq2, zq3⟩ := G0
    exact ⟨zt, zo, castTop (ef_rmG_2ins2 m a1 q1) zst, zq1, zq2, zq3⟩
  obtain ⟨Φ, hΦ⟩ : ∃ Φ, Φ = own_E s below (Q_rmG_2ins2 Z a1 q1 hf xa xl kk kl k0 k1 l0 l1 h0 n0) ({ frames := 3, cells := 1, slots := 2, locals := 51 } : Room).cells ({ frames := 3, cells := 1, slots := 2, locals := 51 } : Room).slots := ⟨_, rfl⟩
  rw [← hΦ]
  show own_G p e below Φ s₁ (mkF m 0 #[.val (.ref a1), .val (.long q1), .second, .unset, .unset] [])
  refine own_go (fun _ => XS.aloadN X0.here hx rfl (hb hby d4_0) rfl rfl) ?_
  refine own_go (fun _ => XS.lloadN X0.here hx rfl (hb hby d4_1) rfl) ?_
  show own_G p e below Φ s₁ (mkF m 2 #[.val (.ref a1), .val (.long q1), .second, .unset, .unset] [(.long q1), (.ref a1)])
  obtain ⟨cq1, zc1, zc1z⟩ := E_a1.cell
  obtain ⟨_, _, ⟨T1, zL1, zk1, zn1⟩, -, X1, ⟨Lc1, hQ1, zl1, zy1, zz1⟩, st1⟩ := X0.privateBack hx (y := (⟨"corro/core/LimitLevels", "search", "(J)I"⟩ : MethodName)) hown (mvT hZ (wd_33 hw)) (mvT hZ (wd_34 hw)) (own_selp (x := (⟨"corro/core/LimitLevels", "getOrAdd", "(J)Lcorro/core/Level;"⟩ : MethodName)) rfl (mvT hZ (wd_30 hw)) (notFace_of_selects (args := #[]) (mvT hZ (wd_31 hw))) (Cond.privateMethod_at (mvP hZ (wd_35 hw) (args := #[]))) (mvT hZ (wd_34 hw)) (by decide)) (Cond.privateMethod_at (mvP hZ (wd_35 hw) (args := #[]))) (mvT hZ (wd_36 hw)) (by decide) (backOf (W := 0) (rmS_2ins2 l Z a0 hw [] a1 q1 hf xa kk k0 k1 h0 n0 Z0 E_a1 F_keys_a1 F_size_a1 F_highestFirst_a1 V_xa r0 r1) hZ (wd_36 hw) (wd_7 hw) (by decide) (by decide)) (g := (mkF m 2 #[.val (.ref a1), .val (.long q1), .second, .unset, .unset] [(.long q1), (.ref a1)])) rfl (by rw [hml]; rfl) (Steps.refl _) (a := a1) (by rw [e0]; exact zc1) zc1z (argsL := [(.long q1)]) (rest := []) (lenOf pd_3 rfl) rfl (by show 2 * 0 + _ ≤ _; exact Nat.le_of_eq rfl) (hb hby d4_2) (fun _ _ => ⟨rfl, e0, (by decide : 0 + 0 ≤ _), (by decide : 0 + 0 ≤ _)⟩)
  dsimp only [Pt.U, Pt.locs, Pt.cells, Pt.slots] at X1 zl1 zy1 zz1 st1 hQ1
  subst zl1 zy1 zz1
  obtain ⟨rfl, N1q, hs1⟩ := hQ1
  have N1 := Fr.app N0 N1q
  refine own_on st1 ?_
  refine own_go (fun _ => XS.istoreN X1.here hx rfl (hb hby d4_5) rfl (l' := #[.val (.ref a1), .val (.long q1), .second, .val (.int (-3 : Int32)), .unset]) rfl) ?_
  refine own_go (fun _ => XS.iloadN X1.here hx rfl (hb hby d4_6) rfl) ?_
  show own_G p e below Φ T1 (mkF m 7 #[.val (.ref a1), .val (.long q1), .second, .val (.int (-3 : Int32)), .unset] [(.int (-3 : Int32))])
  refine own_go (fun _ => XS.ifYes X1.here hx rfl (pc0 := 7) (pc' := 17) rfl (hb hby d4_7) rfl (Jvm.Free.XT.i0_lt_t (by decide : ((-3 : Int32) < (0 : Int32)))) (by decide) (by decide)) ?_
  refine own_go (fun _ => XS.iloadN X1.here hx rfl (hb hby d4_17) rfl) ?_
  show own_G p e below Φ T1 (mkF m 18 #[.val (.ref a1), .val (.long q1), .second, .val (.int (-3 : Int32)), .unset] [(.int (-3 : Int32))])
  refine own_go (fun _ => XS.ineg X1.here hx rfl (hb hby d4_18) rfl) ?_
  refine own_go (fun _ => XS.iconst X1.here hx rfl (hb hby d4_19)) ?_
  show own_G p e below Φ T1 (mkF m 20 #[.val (.ref a1), .val (.long q1), .second, .val (.int (-3 : Int32)), .unset] [(.int (1 : Int32)), (.int (3 : Int32))])
  refine own_go (fun _ => XS.isub X1.here hx rfl (hb hby d4_20) rfl) ?_
  refine own_go (fun _ => XS.istoreN X1.here hx rfl (hb hby d4_21) rfl (l' := #[.val (.ref a1), .val (.long q1), .second, .val (.int (2 : Int32)), .unset]) rfl) ?_
  refine own_go (fun _ => XS.aloadN X1.here hx rfl (hb hby d4_22) rfl rfl) ?_
  show own_G p e below Φ T1 (mkF m 23 #[.val (.ref a1), .val (.long q1), .second, .val (.int (2 : Int32)), .unset] [(.ref a1)])
  obtain ⟨T2, X2, e2, st2⟩ := getF X1 hx hZ hown (host := "") (Or.inl (wd_37 hw)) Via.refl hs1 F_size_a1 (g := (mkF m 23 #[.val (.ref a1), .val (.long q1), .second, .val (.int (2 : Int32)), .unset] [(.ref a1)])) rfl rfl (hb hby d4_23)
  refine own_go st2 ?_
  refine own_go (fun _ => XS.aloadN X2.here hx rfl (hb hby d4_26) rfl rfl) ?_
  show own_G p e below Φ T2 (mkF m 27 #[.val (.ref a1), .val (.long q1), .second, .val (.int (2 : Int32)), .unset] [(.ref a1), (.int (2 : Int32))])
  obtain ⟨T3, X3, e3, st3⟩ := getF X2 hx hZ hown (host := "") (Or.inl (wd_18 hw)) Via.refl e2 F_keys_a1 (g := (mkF m 27 #[.val (.ref a1), .val (.long q1), .second, .val (.int (2 : Int32)), .unset] [(.ref a1), (.int (2 : Int32))])) rfl rfl (hb hby d4_27)
  refine own_go st3 ?_
  show own_G p e below Φ T3 (mkF m 30 #[.val (.ref a1), .val (.long q1), .second, .val (.int (2 : Int32)), .unset] [(.ref xa), (.int (2 : Int32))])
  obtain ⟨cl4, Ar4, zq4, S4, M4, H4, G4⟩ := id V_xa
  refine own_go (fun _ => X3.arraylength hx (by rw [e3]; exact Ar4.1) (State.isArrayOf_alike hZ.alike Ar4.2.1) (g := (mkF m 30 #[.val (.ref a1), .val (.long q1), .second, .val (.int (2 : Int32)), .unset] [(.ref xa), (.int (2 : Int32))])) rfl rfl (hb hby d4_30) _) ?_
  rw [len_of S4 M4]
  show own_G p e below Φ T3 (mkF m 31 #[.val (.ref a1), .val (.long q1), .second, .val (.int (2 : Int32)), .unset] [(.int (64 : Int32)), (.int (2 : Int32))])
  refine own_go (fun _ => XS.icmpYes X3.here hx rfl (pc0 := 31) (pc' := 71) rfl (hb hby d4_31) rfl (Jvm.Free.XT.ii_ne_t (by decide : ¬ ((2 : Int32) = (64 : Int32)))) (by decide) (by decide)) ?_
  refine own_go (fun _ => XS.aloadN X3.here hx rfl (hb hby d4_71) rfl rfl) ?_
  show own_G p e below Φ T3 (mkF m 72 #[.val (.ref a1), .val (.long q1), .second, .val (.int (2 : Int32)), .unset] [(.ref a1)])
  obtain ⟨T5, X5, e5, st5⟩ := getF X3 hx hZ hown (host := "") (Or.inl (wd_18 hw)) Via.refl e3 F_keys_a1 (g := (mkF m 72 #[.val (.ref a1), .val (.long q1), .second, .val (.int (2 : Int32)), .unset] [(.ref a1)])) rfl rfl (hb hby d4_72)
  refine own_go st5 ?_
  refine own_go (fun _ => XS.iloadN X5.here hx rfl (hb hby d4_75) rfl) ?_
  refine own_go (fun _ => XS.aloadN X5.here hx rfl (hb hby d4_76) rfl rfl) ?_
  show own_G p e below Φ T5 (mkF m 77 #[.val (.ref a1), .val (.long q1), .second, .val (.int (2 : Int32)), .unset] [(.ref a1), (.int (2 : Int32)), (.ref xa)])
  obtain ⟨T6, X6, e6, st6⟩ := getF X5 hx hZ hown (host := "") (Or.inl (wd_18 hw)) Via.refl e5 F_keys_a1 (g := (mkF m 77 #[.val (.ref a1), .val (.long q1), .second, .val (.int (2 : Int32)), .unset] [(.ref a1), (.int (2 : Int32)), (.ref xa)])) rfl rfl (hb hby d4_77)
  refine own_go st6 ?_
  refine own_go (fun _ => XS.iloadN X6.here hx rfl (hb hby d4_80) rfl) ?_
  refine own_go (fun _ => XS.iconst X6.here hx rfl (hb hby d4_81)) ?_
  show own_G p e below Φ T6 (mkF m 82 #[.val (.ref a1), .val (.long q1), .second, .val (.int (2 : Int32)), .unset] [(.int (1 : Int32)), (.int (2 : Int32)), (.ref xa), (.int (2 : Int32)), (.ref xa)])
  refine own_go (fun _ => XS.iadd X6.here hx rfl (hb hby d4_82) rfl) ?_
  refine own_go (fun _ => XS.aloadN X6.here hx rfl (hb hby d4_83) rfl rfl) ?_
  show own_G p e below Φ T6 (mkF m 84 #[.val (.ref a1), .val (.long q1), .second, .val (.int (2 : Int32)), .unset] [(.ref a1), (.int (3 : Int32)), (.ref xa), (.int (2 : Int32)), (.ref xa)])
  obtain ⟨T7, X7, e7, st7⟩ := getF X6 hx hZ hown (host := "") (Or.inl (wd_37 hw)) Via.refl e6 F_size_a1 (g := (mkF m 84 #[.val (.ref a1), .val (.long q1), .second, .val (.int (2 : Int32)), .unset] [(.ref a1), (.int (3 : Int32)), (.ref xa), (.int (2 : Int32)), (.ref xa)])) rfl rfl (hb hby d4_84)
  refine own_go st7 ?_
  refine own_go (fun _ => XS.iloadN X7.here hx rfl (hb hby d4_87) rfl) ?_
  show own_G p e below Φ T7 (mkF m 88 #[.val (.ref a1), .val (.long q1), .second, .val (.int (2 : Int32)), .unset] [(.int (2 : Int32)), (.int (2 : Int32)), (.int (3 : Int32)), (.ref xa), (.int (2 : Int32)), (.ref xa)])
  refine own_go (fun _ => XS.isub X7.here hx rfl (hb hby d4_88) rfl) ?_
  show own_G p e below Φ T7 (mkF m 89 #[.val (.ref a1), .val (.long q1), .second, .val (.int (2 : Int32)), .unset] [(.int (0 : Int32)), (.int (3 : Int32)), (.ref xa), (.int (2 : Int32)), (.ref xa)])
  have V8p : Arv Z h0 xa kk .long (64 : Int32) [(.long k0), (.long k1), (.long (0 : Int64))] (.long (0 : Int64)) := V_xa.pad (pad_rep [(.long k0), (.long k1)] (.long (0 : Int64)) 1)
  obtain ⟨T8, h8, L8, X8, e8, N8, Kq8, V8q, st8⟩ := cpA X7 hx hZ hown (wd_53 hw) (wd_56 hw) (wd_54 hw) (wd_55 hw) e7 V8p V8p (us := []) (Or.inl ⟨rfl, rfl⟩) (sp := (2 : Int32)) (dp := (3 : Int32)) (nn := (0 : Int32)) (by decide) (by decide) (by decide) (by decide) (by decide) rfl (Nat.le_of_ble_eq_true rfl) N1 g_xa (g := (mkF m 89 #[.val (.ref a1), .val (.long q1), .second, .val (.int (2 : Int32)), .unset] [(.int (0 : Int32)), (.int (3 : Int32)), (.ref xa), (.int (2 : Int32)), (.ref xa)])) rfl (by rw [hml]; rfl) rfl (hb hby d4_89) (by decide) (W := 0) (by show 2 * 0 + _ ≤ _; exact Nat.le_of_eq rfl) (by decide)
  refine own_go st8 ?_
  have V8 : Arv Z h8 xa kk .long (64 : Int32) [(.long k0), (.long k1), (.long (0 : Int64))] (.long (0 : Int64)) := V8q
  have K8 := K0.trans Kq8 (allS (Or.inl (List.mem_of_getElem? (i := 1) rfl)) all0)
  have Zp8 : n0 ≤ h8.size := Nat.le_trans Z0 Kq8.1
  refine own_go (fun _ => XS.aloadN X8.here hx rfl (hb hby d4_92) rfl rfl) ?_
  show own_G p e below Φ T8 (mkF m 93 #[.val (.ref a1), .val (.long q1), .second, .val (.int (2 : Int32)), .unset] [(.ref a1)])
  have f9 : Fld Z h8 a1 "corro/core/LimitLevels" "levels" "[Lcorro/core/Level;" (.ref xl) := F_levels_a1.keep Kq8 (ninS ne_a1_xa nin0)
  obtain ⟨T10, X10, e10, st10⟩ := getF X8 hx hZ hown (host := "") (Or.inl (wd_22 hw)) Via.refl e8 f9 (g := (mkF m 93 #[.val (.ref a1), .val (.long q1), .second, .val (.int (2 : Int32)), .unset] [(.ref a1)])) rfl rfl (hb hby d4_93)
  refine own_go st10 ?_
  refine own_go (fun _ => XS.iloadN X10.here hx rfl (hb hby d4_96) rfl) ?_
  refine own_go (fun _ => XS.aloadN X10.here hx rfl (hb hby d4_97) rfl rfl) ?_
  show own_G p e below Φ T10 (mkF m 98 #[.val (.ref a1), .val (.long q1), .second, .val (.int (2 : Int32)), .unset] [(.ref a1), (.int (2 : Int32)), (.ref xl)])
  obtain ⟨T11, X11, e11, st11⟩ := getF X10 hx hZ hown (host := "") (Or.inl (wd_22 hw)) Via.refl e10 f9 (g := (mkF m 98 #[.val (.ref a1), .val (.long q1), .second, .val (.int (2 : Int32)), .unset] [(.ref a1), (.int (2 : Int32)), (.ref xl)])) rfl rfl (hb hby d4_98)
  refine own_go st11 ?_
  refine own_go (fun _ => XS.iloadN X11.here hx rfl (hb hby d4_101) rfl) ?_
  refine own_go (fun _ => XS.iconst X11.here hx rfl (hb hby d4_102)) ?_
  show own_G p e below Φ T11 (mkF m 103 #[.val (.ref a1), .val (.long q1), .second, .val (.int (2 : Int32)), .unset] [(.int (1 : Int32)), (.int (2 : Int32)), (.ref xl), (.int (2 : Int32)), (.ref xl)])
  refine own_go (fun _ => XS.iadd X11.here hx rfl (hb hby d4_103) rfl) ?_
  refine own_go (fun _ => XS.aloadN X11.here hx rfl (hb hby d4_104) rfl rfl) ?_
  show own_G p e below Φ T11 (mkF m 105 #[.val (.ref a1), .val (.long q1), .second, .val (.int (2 : Int32)), .unset] [(.ref a1), (.int (3 : Int32)), (.ref xl), (.int (2 : Int32)), (.ref xl)])
  have f12 : Fld Z h8 a1 "corro/core/LimitLevels" "size" "I" (.int (2 : Int32)) := F_size_a1.keep Kq8 (ninS ne_a1_xa nin0)
  obtain ⟨T13, X13, e13, st13⟩ := getF X11 hx hZ hown (host := "") (Or.inl (wd_37 hw)) Via.refl e11 f12 (g := (mkF m 105 #[.val (.ref a1), .val (.long q1), .second, .val (.int (2 : Int32)), .unset] [(.ref a1), (.int (3 : Int32)), (.ref xl), (.int (2 : Int32)), (.ref xl)])) rfl rfl (hb hby d4_105)
  refine own_go st13 ?_
  refine own_go (fun _ => XS.iloadN X13.here hx rfl (hb hby d4_108) rfl) ?_
  show own_G p e below Φ T13 (mkF m 109 #[.val (.ref a1), .val (.long q1), .second, .val (.int (2 : Int32)), .unset] [(.int (2 : Int32)), (.int (2 : Int32)), (.int (3 : Int32)), (.ref xl), (.int (2 : Int32)), (.ref xl)])
  refine own_go (fun _ => XS.isub X13.here hx rfl (hb hby d4_109) rfl) ?_
  show own_G p e below Φ T13 (mkF m 110 #[.val (.ref a1), .val (.long q1), .second, .val (.int (2 : Int32)), .unset] [(.int (0 : Int32)), (.int (3 : Int32)), (.ref xl), (.int (2 : Int32)), (.ref xl)])
  have f15 : Arv Z h8 xl kl (.object "corro/core/Level") (64 : Int32) [(.ref l0), (.ref l1)] .null := V_xl.keep Kq8 (ninS (Ne.symm ne_xa_xl) nin0)
  have V14p : Arv Z h8 xl kl (.object "corro/core/Level") (64 : Int32) [(.ref l0), (.ref l1), .null] .null := f15.pad (pad_rep [(.ref l0), (.ref l1)] .null 1)
  obtain ⟨cl14, Ar14, zq14, -⟩ := id V14p
  obtain ⟨T14, h14, L14, X14, e14, N14, Kq14, V14q, st14⟩ := cpA X13 hx hZ hown (wd_53 hw) (wd_56 hw) (wd_54 hw) (wd_55 hw) e13 V14p V14p (us := []) (Or.inr ⟨rfl, rfl, trivial⟩) (sp := (2 : Int32)) (dp := (3 : Int32)) (nn := (0 : Int32)) (by decide) (by decide) (by decide) (by decide) (by decide) rfl (Nat.le_of_ble_eq_true rfl) N8 g_xl (g := (mkF m 110 #[.val (.ref a1), .val (.long q1), .second, .val (.int (2 : Int32)), .unset] [(.int (0 : Int32)), (.int (3 : Int32)), (.ref xl), (.int (2 : Int32)), (.ref xl)])) rfl (by rw [hml]; rfl) rfl (hb hby d4_110) (by decide) (W := 0) (by show 2 * 0 + _ ≤ _; exact Nat.le_of_eq rfl) (by decide)
  refine own_go st14 ?_
  have V14 : Arv Z h14 xl kl (.object "corro/core/Level") (64 : Int32) [(.ref l0), (.ref l1), .null] .null := V14q
  have K14 := K8.trans Kq14 (allS (Or.inl (List.mem_of_getElem? (i := 2) rfl)) all0)
  have Zp14 : n0 ≤ h14.size := Nat.le_trans Zp8 Kq14.1
  show own_G p e below Φ T14 (mkF m 113 #[.val (.ref a1), .val (.long q1), .second, .val (.int (2 : Int32)), .unset] [])
  obtain ⟨T16, h16, X16, e16, E16, A16, D16, -, st16⟩ := newO X14 hx hZ hown (wd_20 hw) (wd_57 hw) (wd_58 hw) e14 (g := (mkF m 113 #[.val (.ref a1), .val (.long q1), .second, .val (.int (2 : Int32)), .unset] [])) rfl (hb hby d4_113) (by decide) (by decide)
  obtain ⟨ob16, g16⟩ : ∃ z, z = h14.size := ⟨_, rfl⟩
  rw [← g16] at A16 D16 st16
  have f17 : Exa Z h8 a1 "corro/core/LimitLevels" := E_a1.keep Kq8
  have f18 : Exa Z h14 a1 "corro/core/LimitLevels" := f17.keep Kq14
  have ne_a1_ob16 : a1 ≠ ob16 := Nat.ne_of_lt (Nat.lt_of_lt_of_le f18.lt (Nat.le_of_eq g16.symm))
  have f19 : Arv Z h14 xa kk .long (64 : Int32) [(.long k0), (.long k1), (.long (0 : Int64))] (.long (0 : Int64)) := V8.keep Kq14 (ninS ne_xa_xl nin0)
  have ne_xa_ob16 : xa ≠ ob16 := Nat.ne_of_lt (Nat.lt_of_lt_of_le f19.lt (Nat.le_of_eq g16.symm))
  have ne_xl_ob16 : xl ≠ ob16 := Nat.ne_of_lt (Nat.lt_of_lt_of_le V14.lt (Nat.le_of_eq g16.symm))
  have f20 : Exa Z h8 l0 "corro/core/Level" := E_l0.keep Kq8
  have f21 : Exa Z h14 l0 "corro/core/Level" := f20.keep Kq14
  have ne_l0_ob16 : l0 ≠ ob16 := Nat.ne_of_lt (Nat.lt_of_lt_of_le f21.lt (Nat.le_of_eq g16.symm))
  have f22 : Exa Z h8 l1 "corro/core/Level" := E_l1.keep Kq8
  have f23 : Exa Z h14 l1 "corro/core/Level" := f22.keep Kq14
  have ne_l1_ob16 : l1 ≠ ob16 := Nat.ne_of_lt (Nat.lt_of_lt_of_le f23.lt (Nat.le_of_eq g16.symm))
  have g_ob16 : n0 ≤ ob16 := Nat.le_trans Zp14 (Nat.le_of_eq g16.symm)
  have sz_ob16 : h0.size ≤ ob16 := Nat.le_trans K14.1 (Nat.le_of_eq g16.symm)
  have K16 := K14.ext E16
  have Zp16 : n0 ≤ h16.size := Nat.le_trans Zp14 E16.1
  refine own_go st16 ?_
  refine own_go (fun _ => XS.dup X16.here hx rfl (hb hby d4_116) rfl rfl) ?_
  show own_G p e below Φ T16 (mkF m 117 #[.val (.ref a1), .val (.long q1), .second, .val (.int (2 : Int32)), .unset] [(.ref ob16), (.ref ob16)])
  obtain ⟨_, _, ⟨T24, zL24, zk24, zn24⟩, -, X24, ⟨Lc24, hQ24, zl24, zy24, zz24⟩, st24⟩ := X16.specialBack hx (y := (⟨"corro/core/Level", "<init>", "()V"⟩ : MethodName)) rfl hown (mvT hZ (wd_59 hw)) (mvT hZ (wd_60 hw)) (mvT hZ (wd_61 hw)) (by decide) (backOf (W := 1) (rmL l Z a0 hw [] ob16 h16 n0 Zp16 ) hZ (wd_61 hw) (wd_58 hw) (by decide) (by decide)) (g := (mkF m 117 #[.val (.ref a1), .val (.long q1), .second, .val (.int (2 : Int32)), .unset] [(.ref ob16), (.ref ob16)])) rfl (by rw [hml]; rfl) (Steps.refl _) (a := ob16) (argsL := []) (rest := [(.ref ob16)]) (lenOf pd_4 rfl) rfl (by show 2 * 0 + _ ≤ _; exact Nat.le_of_eq rfl) (hb hby d4_117) (fun _ _ => ⟨rfl, e16, (by decide : 1 + 0 ≤ _), (by decide : 2 + 0 ≤ _)⟩)
  dsimp only [Pt.U, Pt.locs, Pt.cells, Pt.slots] at X24 zl24 zy24 zz24 st24 hQ24
  subst zl24 zy24 zz24
  obtain ⟨rfl, N24q, hs24⟩ := hQ24
  have N24 := Fr.app N14 N24q
  refine own_on st24 ?_
  refine own_go (fun _ => XS.astore X24.here hx rfl (hb hby d4_120) rfl rfl (l' := #[.val (.ref a1), .val (.long q1), .second, .val (.int (2 : Int32)), .val (.ref ob16)]) rfl) ?_
  refine own_go (fun _ => XS.aloadN X24.here hx rfl (hb hby d4_122) rfl rfl) ?_
  show own_G p e below Φ T24 (mkF m 123 #[.val (.ref a1), .val (.long q1), .second, .val (.int (2 : Int32)), .val (.ref ob16)] [(.ref a1)])
  have f25 : Fld Z h8 a1 "corro/core/LimitLevels" "keys" "[J" (.ref xa) := F_keys_a1.keep Kq8 (ninS ne_a1_xa nin0)
  have f26 : Fld Z h14 a1 "corro/core/LimitLevels" "keys" "[J" (.ref xa) := f25.keep Kq14 (ninS ne_a1_xl nin0)
  have f27 : Fld Z h16 a1 "corro/core/LimitLevels" "keys" "[J" (.ref xa) := f26.ext E16
  obtain ⟨T28, X28, e28, st28⟩ := getF X24 hx hZ hown (host := "") (Or.inl (wd_18 hw)) Via.refl hs24 f27 (g := (mkF m 123 #[.val (.ref a1), .val (.long q1), .second, .val (.int (2 : Int32)), .val (.ref ob16)] [(.ref a1)])) rfl rfl (hb hby d4_123)
  refine own_go st28 ?_
  refine own_go (fun _ => XS.iloadN X28.here hx rfl (hb hby d4_126) rfl) ?_
  refine own_go (fun _ => XS.aloadN X28.here hx rfl (hb hby d4_127) rfl rfl) ?_
  show own_G p e below Φ T28 (mkF m 128 #[.val (.ref a1), .val (.long q1), .second, .val (.int (2 : Int32)), .val (.ref ob16)] [(.ref a1), (.int (2 : Int32)), (.ref xa)])
  refine own_go (fun _ => XS.lloadN X28.here hx rfl (hb hby d4_128) rfl) ?_
  show own_G p e below Φ T28 (mkF m 129 #[.val (.ref a1), .val (.long q1), .second, .val (.int (2 : Int32)), .val (.ref ob16)] [(.long q1), (.ref a1), (.int (2 : Int32)), (.ref xa)])
  have f29 : Fld Z h8 a1 "corro/core/LimitLevels" "highestFirst" "Z" (.int hf) := F_highestFirst_a1.keep Kq8 (ninS ne_a1_xa nin0)
  have f30 : Fld Z h14 a1 "corro/core/LimitLevels" "highestFirst" "Z" (.int hf) := f29.keep Kq14 (ninS ne_a1_xl nin0)
  have f31 : Fld Z h16 a1 "corro/core/LimitLevels" "highestFirst" "Z" (.int hf) := f30.ext E16
  have f33 : Exa Z h16 a1 "corro/core/LimitLevels" := f18.ext E16
  obtain ⟨cq32, zc32, zc32z⟩ := f33.cell
  obtain ⟨_, _, ⟨T32, zL32, zk32, zn32⟩, -, X32, ⟨Lc32, hQ32, zl32, zy32, zz32⟩, st32⟩ := X28.privateBack hx (y := (⟨"corro/core/LimitLevels", "key", "(J)J"⟩ : MethodName)) hown (mvT hZ (wd_39 hw)) (mvT hZ (wd_40 hw)) (own_selp (x := (⟨"corro/core/LimitLevels", "getOrAdd", "(J)Lcorro/core/Level;"⟩ : MethodName)) rfl (mvT hZ (wd_30 hw)) (notFace_of_selects (args := #[]) (mvT hZ (wd_31 hw))) (Cond.privateMethod_at (mvP hZ (wd_41 hw) (args := #[]))) (mvT hZ (wd_40 hw)) (by decide)) (Cond.privateMethod_at (mvP hZ (wd_41 hw) (args := #[]))) (mvT hZ (wd_42 hw)) (by decide) (backOf (W := 2) (rmK l Z a0 hw [] a1 q1 hf h16 n0 Zp16 f31) hZ (wd_42 hw) (wd_7 hw) (by decide) (by decide)) (g := (mkF m 129 #[.val (.ref a1), .val (.long q1), .second, .val (.int (2 : Int32)), .val (.ref ob16)] [(.long q1), (.ref a1), (.int (2 : Int32)), (.ref xa)])) rfl (by rw [hml]; rfl) (Steps.refl _) (a := a1) (by rw [e28]; exact zc32) zc32z (argsL := [(.long q1)]) (rest := [(.int (2 : Int32)), (.ref xa)]) (lenOf pd_2 rfl) rfl (by show 2 * 0 + _ ≤ _; exact Nat.le_of_eq rfl) (hb hby d4_129) (fun _ _ => ⟨rfl, e28, (by decide : 1 + 0 ≤ _), (by decide : 2 + 0 ≤ _)⟩)
  dsimp only [Pt.U, Pt.locs, Pt.cells, Pt.slots] at X32 zl32 zy32 zz32 st32 hQ32
  subst zl32 zy32 zz32
  obtain ⟨rfl, N32q, hs32⟩ := hQ32
  have N32 := Fr.app N24 N32q
  refine own_on st32 ?_
  show own_G p e below Φ T32 (mkF m 132 #[.val (.ref a1), .val (.long q1), .second, .val (.int (2 : Int32)), .val (.ref ob16)] [(.long (own_key hf q1)), (.int (2 : Int32)), (.ref xa)])
  have f34 : Arv Z h16 xa kk .long (64 : Int32) [(.long k0), (.long k1), (.long (0 : Int64))] (.long (0 : Int64)) := f19.ext E16
  obtain ⟨cl35, Ar35, zq35, S35, M35, H35, G35⟩ := id f34
  have hin35 : ¬ ((2 : Int32) < 0 ∨ cl35.slots.size ≤ ((2 : Int32)).toNatClampNeg) := inb_of S35 ⟨by decide, by decide⟩
  obtain ⟨T35, h35, X35, e35, W35, st35⟩ := stJ X32 hx hZ hs32 Ar35 (j := (2 : Int32)) hin35 (g := (mkF m 132 #[.val (.ref a1), .val (.long q1), .second, .val (.int (2 : Int32)), .val (.ref ob16)] [(.long (own_key hf q1)), (.int (2 : Int32)), (.ref xa)])) rfl rfl (hb hby d4_132)
  refine own_go st35 ?_
  have V35 : Arv Z h35 xa kk .long (64 : Int32) [(.long k0), (.long k1), (.long (own_key hf q1))] (.long (0 : Int64)) := Arv.set Ar35 zq35 S35 M35 H35 G35 rfl W35 2 rfl (Nat.le_of_ble_eq_true rfl)
  have N35 := Fr.snoc X35 N32 g_xa
  have K35 := K16.wr W35 (Or.inl (List.mem_of_getElem? (i := 1) rfl))
  have Zp35 : n0 ≤ h35.size := Nat.le_trans Zp16 (Keep.of_wr W35).1
  refine own_go (fun _ => XS.aloadN X35.here hx rfl (hb hby d4_133) rfl rfl) ?_
  show own_G p e below Φ T35 (mkF m 134 #[.val (.ref a1), .val (.long q1), .second, .val (.int (2 : Int32)), .val (.ref ob16)] [(.ref a1)])
  have f36 : Fld Z h14 a1 "corro/core/LimitLevels" "levels" "[Lcorro/core/Level;" (.ref xl) := f9.keep Kq14 (ninS ne_a1_xl nin0)
  have f37 : Fld Z h16 a1 "corro/core/LimitLevels" "levels" "[Lcorro/core/Level;" (.ref xl) := f36.ext E16
  have f38 : Fld Z h35 a1 "corro/core/LimitLevels" "levels" "[Lcorro/core/Level;" (.ref xl) := f37.other W35 (Or.inl ne_a1_xa)
  obtain ⟨T39, X39, e39, st39⟩ := getF X35 hx hZ hown (host := "") (Or.inl (wd_22 hw)) Via.refl e35 f38 (g := (mkF m 134 #[.val (.ref a1), .val (.long q1), .second, .val (.int (2 : Int32)), .val (.ref ob16)] [(.ref a1)])) rfl rfl (hb hby d4_134)
  refine own_go st39 ?_
  refine own_go (fun _ => XS.iloadN X39.here hx rfl (hb hby d4_137) rfl) ?_
  refine own_go (fun _ => XS.aload X39.here hx rfl (hb hby d4_138) rfl rfl) ?_
  show own_G p e below Φ T39 (mkF m 140 #[.val (.ref a1), .val (.long q1), .second, .val (.int (2 : Int32)), .val (.ref ob16)] [(.ref ob16), (.int (2 : Int32)), (.ref xl)])
  have f40 : Arv Z h16 xl kl (.object "corro/core/Level") (64 : Int32) [(.ref l0), (.ref l1), .null] .null := V14.ext E16
  have f41 : Arv Z h35 xl kl (.object "corro/core/Level") (64 : Int32) [(.ref l0), (.ref l1), .null] .null := f40.other W35 (Ne.symm ne_xa_xl)
  obtain ⟨cl42, Ar42, zq42, S42, M42, H42, G42⟩ := id f41
  have hin42 : ¬ ((2 : Int32) < 0 ∨ cl42.slots.size ≤ ((2 : Int32)).toNatClampNeg) := inb_of S42 ⟨by decide, by decide⟩
  have f43 : Exa Z h35 ob16 "corro/core/Level" := A16.wr W35
  obtain ⟨T42, h42, X42, e42, W42, st42⟩ := stR X39 hx hZ e39 Ar42 (j := (2 : Int32)) hin42 rfl (Sto.ofV Ar42 zq42 hO (Ins.self f43)) (g := (mkF m 140 #[.val (.ref a1), .val (.long q1), .second, .val (.int (2 : Int32)), .val (.ref ob16)] [(.ref ob16), (.int (2 : Int32)), (.ref xl)])) rfl rfl (hb hby d4_140)
  refine own_go st42 ?_
  have V42 : Arv Z h42 xl kl (.object "corro/core/Level") (64 : Int32) [(.ref l0), (.ref l1), (.ref ob16)] .null := Arv.set Ar42 zq42 S42 M42 H42 G42 rfl W42 2 rfl (Nat.le_of_ble_eq_true rfl)
  have N42 := Fr.snoc X42 N35 g_xl
  have K42 := K35.wr W42 (Or.inl (List.mem_of_getElem? (i := 2) rfl))
  have Zp42 : n0 ≤ h42.size := Nat.le_trans Zp35 (Keep.of_wr W42).1
  refine own_go (fun _ => XS.aloadN X42.here hx rfl (hb hby d4_141) rfl rfl) ?_
  refine own_go (fun _ => XS.dup X42.here hx rfl (hb hby d4_142) rfl rfl) ?_
  show own_G p e below Φ T42 (mkF m 143 #[.val (.ref a1), .val (.long q1), .second, .val (.int (2 : Int32)), .val (.ref ob16)] [(.ref a1), (.ref a1)])
  have f44 : Fld Z h14 a1 "corro/core/LimitLevels" "size" "I" (.int (2 : Int32)) := f12.keep Kq14 (ninS ne_a1_xl nin0)
  have f45 : Fld Z h16 a1 "corro/core/LimitLevels" "size" "I" (.int (2 : Int32)) := f44.ext E16
  have f46 : Fld Z h35 a1 "corro/core/LimitLevels" "size" "I" (.int (2 : Int32)) := f45.other W35 (Or.inl ne_a1_xa)
  have f47 : Fld Z h42 a1 "corro/core/LimitLevels" "size" "I" (.int (2 : Int32)) := f46.other W42 (Or.inl ne_a1_xl)
  obtain ⟨T48, X48, e48, st48⟩ := getF X42 hx hZ hown (host := "") (Or.inl (wd_37 hw)) Via.refl e42 f47 (g := (mkF m 143 #[.val (.ref a1), .val (.long q1), .second, .val (.int (2 : Int32)), .val (.ref ob16)] [(.ref a1), (.ref a1)])) rfl rfl (hb hby d4_143)
  refine own_go st48 ?_
  refine own_go (fun _ => XS.iconst X48.here hx rfl (hb hby d4_146)) ?_
  show own_G p e below Φ T48 (mkF m 147 #[.val (.ref a1), .val (.long q1), .second, .val (.int (2 : Int32)), .val (.ref ob16)] [(.int (1 : Int32)), (.int (2 : Int32)), (.ref a1)])
  refine own_go (fun _ => XS.iadd X48.here hx rfl (hb hby d4_147) rfl) ?_
  show own_G p e below Φ T48 (mkF m 148 #[.val (.ref a1), .val (.long q1), .second, .val (.int (2 : Int32)), .val (.ref ob16)] [(.int (3 : Int32)), (.ref a1)])
  have f49 : Exa Z h35 a1 "corro/core/LimitLevels" := f33.wr W35
  have f50 : Exa Z h42 a1 "corro/core/LimitLevels" := f49.wr W42
  obtain ⟨T51, h51, X51, e51, W51, st51⟩ := putF X48 hx hZ hown (host := "") (Or.inl (wd_37 hw)) Via.refl e48 f47 f50 (Or.inl (wd_38 hw)) (wd_6 hw) (ty := .int) (by decide) rfl rfl (g := (mkF m 148 #[.val (.ref a1), .val (.long q1), .second, .val (.int (2 : Int32)), .val (.ref ob16)] [(.int (3 : Int32)), (.ref a1)])) rfl rfl (hb hby d4_148)
  refine own_go st51 ?_
  have N51 := Fr.snoc X51 N42 g_a1
  have K51 := K42.wr W51 (Or.inl (List.mem_of_getElem? (i := 0) rfl))
  have Zp51 : n0 ≤ h51.size := Nat.le_trans Zp42 (Keep.of_wr W51).1
  have f51w := f47.same W51
  refine own_go (fun _ => XS.aload X51.here hx rfl (hb hby d4_151) rfl rfl) ?_
  show own_G p e below Φ T51 (mkF m 153 #[.val (.ref a1), .val (.long q1), .second, .val (.int (2 : Int32)), .val (.ref ob16)] [(.ref ob16)])
  have f52 : Exa Z h51 a1 "corro/core/LimitLevels" := f50.wr W51
  have f53 : Fld Z h35 a1 "corro/core/LimitLevels" "keys" "[J" (.ref xa) := f27.other W35 (Or.inl ne_a1_xa)
  have f54 : Fld Z h42 a1 "corro/core/LimitLevels" "keys" "[J" (.ref xa) := f53.other W42 (Or.inl ne_a1_xl)
  have f55 : Fld Z h51 a1 "corro/core/LimitLevels" "keys" "[J" (.ref xa) := f54.other W51 (Or.inr (sl_9 hw))
  have f56 : Fld Z h42 a1 "corro/core/LimitLevels" "levels" "[Lcorro/core/Level;" (.ref xl) := f38.other W42 (Or.inl ne_a1_xl)
  have f57 : Fld Z h51 a1 "corro/core/LimitLevels" "levels" "[Lcorro/core/Level;" (.ref xl) := f56.other W51 (Or.inr (sl_10 hw))
  have f58 : Fld Z h35 a1 "corro/core/LimitLevels" "highestFirst" "Z" (.int hf) := f31.other W35 (Or.inl ne_a1_xa)
  have f59 : Fld Z h42 a1 "corro/core/LimitLevels" "highestFirst" "Z" (.int hf) := f58.other W42 (Or.inl ne_a1_xl)
  have f60 : Fld Z h51 a1 "corro/core/LimitLevels" "highestFirst" "Z" (.int hf) := f59.other W51 (Or.inr (sl_11 hw))
  have f61 : Arv Z h42 xa kk .long (64 : Int32) [(.long k0), (.long k1), (.long (own_key hf q1))] (.long (0 : Int64)) := V35.other W42 ne_xa_xl
  have f62 : Arv Z h51 xa kk .long (64 : Int32) [(.long k0), (.long k1), (.long (own_key hf q1))] (.long (0 : Int64)) := f61.other W51 (Ne.symm ne_a1_xa)
  have f63 : Arv Z h51 xl kl (.object "corro/core/Level") (64 : Int32) [(.ref l0), (.ref l1), (.ref ob16)] .null := V42.other W51 (Ne.symm ne_a1_xl)
  have f64 : Exa Z h42 ob16 "corro/core/Level" := f43.wr W42
  have f65 : Exa Z h51 ob16 "corro/core/Level" := f64.wr W51
  rw [hΦ]
  refine own_ret X51 (v := some (.ref ob16)) (fun h => by rw [Bd.returns] at h; cases h) (BodyLoose.notSynchronized Bd) (fun fs hr => retOut X51 hx Bd.returns rfl (Or.inr (Or.inr (Or.inr (Or.inr ⟨rfl, rfl, rfl⟩)))) (hb hby d4_153) hr) ?_ (by decide) (by decide)
  rw [e51]
  exact ⟨ob16, sz_ob16, rfl, N51, K51, f52, f55, f57, f51w, f60, f62, f63, f65⟩
theorem d13_0 : decode prog_14_method_2_code 0 = .ok (.aload_n 0, 1) := by decide +kernel
theorem d13_1 : decode prog_14_method_2_code 1 = .ok (.getfield 29, 3) := by decide +kernel
theorem d13_4 : decode prog_14_method_2_code 4 = .ok (.ireturn, 1) := by decide +kernel
theorem ef_rmZ1 (m : MethodId) (a1 : Addr) : entryFrame m #[(.ref a1)] 1 = mkF m 0 #[.val (.ref a1)] [] := by first | (simp [entryFrame, mkF, argsToLocals, Value.category]; done) | rfl
def Q_rmZ1 (Z : State) (a1 : Addr) (h0 : Heap) (n0 : Nat) (v : Option Value) (h : Heap) (L : List Loc) : Prop := v = some (.int (1 : Int32)) ∧ Fr n0 L ∧ h = h0
set_option maxRecDepth 65536 in
set_option maxHeartbeats 40000000 in
theorem rmZ1 (l : Launch) (Z : State) (a0 : Array Value) (hw : ∀ d ∈ tables_1, d.before a0 Z = true) (ws : List Jvm.Cond) (a1 : Addr) (h0 : Heap) (n0 : Nat) (Z0 : n0 ≤ h0.size) (F_size_a1 : Fld Z h0 a1 "corro/core/LimitLevels" "size" "I" (.int (1 : Int32))) :
    MetFree l (⟨"corro/core/LimitLevels", "size", "()I"⟩ : MethodName) (head1 (Jvm.Cond.code (⟨"corro/core/LimitLevels", "size", "()I"⟩ : MethodName) prog_14_method_2_code 1 (some .int) :: ws) ({ frames := 0, cells := 0, slots := 0, locals := 0 } : Room)) (fun a U => a = #[(.ref a1)] ∧ Z.Warmed39 U.vm ∧ U.heap = h0) (fun _ _ _ _ _ => True) (fun _ U o U' => ∃ v L, o = .returned v ∧ Q_rmZ1 Z a1 h0 n0 v U'.heap L ∧ FrameEnd U o U' L ({ frames := 0, cells := 0, slots := 0, locals := 0 } : Room).cells ({ frames := 0, cells := 0, slots := 0, locals := 0 } : Room).slots) := by
  refine MetFree.of_bodySF (plainFor_of_name pn_1) hisR ?_
  intro p e s m args below meth c s₁ Bd hml0 hP hK
  obtain ⟨rfl, hZ, hh⟩ := hP
  have hx := Bd.exec
  have hby := Bd.bytes
  have hml : c.maxLocals = 1 := hml0
  have hown : s.vm.findClass "corro/core/LimitLevels" = some m.cls := findClass_of_methodNamed Bd.named
  have hnm := (name_of_methodNamed Bd.named Bd.method).1
  have X0 : Stand p l e ({ frames := 0, cells := 0, slots := 0, locals := 0 } : Room) s m #[(.ref a1)] below meth c s₁ [] 0 0 := Stand.of_body Bd
  have e0 : s₁.heap = h0 := by rw [← hh, Bd.state]; rfl
  have N0 := Fr.nil n0
  suffices G0 : own_G p e below (own_E s below (Q_rmZ1 Z a1 h0 n0) ({ frames := 0, cells := 0, slots := 0, locals := 0 } : Room).cells ({ frames := 0, cells := 0, slots := 0, locals := 0 } : Room).slots) s₁ (mkF m 0 #[.val (.ref a1)] []) by
    obtain ⟨zt, zst, zo, zq1, zq2, zq3⟩ := G0
    exact ⟨zt, zo, castTop (ef_rmZ1 m a1) zst, zq1, zq2, zq3⟩
  obtain ⟨Φ, hΦ⟩ : ∃ Φ, Φ = own_E s below (Q_rmZ1 Z a1 h0 n0) ({ frames := 0, cells := 0, slots := 0, locals := 0 } : Room).cells ({ frames := 0, cells := 0, slots := 0, locals := 0 } : Room).slots := ⟨_, rfl⟩
  rw [← hΦ]
  show own_G p e below Φ s₁ (mkF m 0 #[.val (.ref a1)] [])
  refine own_go (fun _ => XS.aloadN X0.here hx rfl (hb hby d13_0) rfl rfl) ?_
  show own_G p e below Φ s₁ (mkF m 1 #[.val (.ref a1)] [(.ref a1)])
  obtain ⟨T1, X1, e1, st1⟩ := getF X0 hx hZ hown (host := "") (Or.inl (wd_37 hw)) Via.refl e0 F_size_a1 (g := (mkF m 1 #[.val (.ref a1)] [(.ref a1)])) rfl rfl (hb hby d13_1)
  refine own_go st1 ?_
  show own_G p e below Φ T1 (mkF m 4 #[.val (.ref a1)] [(.int (1 : Int32))])
  rw [hΦ]
  refine own_ret X1 (v := some (.int (1 : Int32))) (fun h => by rw [Bd.returns] at h; cases h) (BodyLoose.notSynchronized Bd) (fun fs hr => retOut X1 hx Bd.returns rfl (Or.inl ⟨rfl, Or.inl rfl, _, rfl⟩) (hb hby d13_4) hr) ?_ (by decide) (by decide)
  rw [e1]
  exact ⟨rfl, N0, rfl⟩
theorem d14_0 : decode prog_14_method_3_code 0 = .ok (.aload_n 0, 1) := by decide +kernel
theorem d14_1 : decode prog_14_method_3_code 1 = .ok (.getfield 9, 3) := by decide +kernel
theorem d14_4 : decode prog_14_method_3_code 4 = .ok (.aload_n 0, 1) := by decide +kernel
theorem d14_5 : decode prog_14_method_3_code 5 = .ok (.getfield 29, 3) := by decide +kernel
theorem d14_8 : decode prog_14_method_3_code 8 = .ok (.iconst 1, 1) := by decide +kernel
theorem d14_9 : decode prog_14_method_3_code 9 = .ok (.isub, 1) := by decide +kernel
theorem d14_10 : decode prog_14_method_3_code 10 = .ok (.iload_n 1, 1) := by decide +kernel
theorem d14_11 : decode prog_14_method_3_code 11 = .ok (.isub, 1) := by decide +kernel
theorem d14_12 : decode prog_14_method_3_code 12 = .ok (.laload, 1) := by decide +kernel
theorem d14_13 : decode prog_14_method_3_code 13 = .ok (.lstore_n 2, 1) := by decide +kernel
theorem d14_14 : decode prog_14_method_3_code 14 = .ok (.aload_n 0, 1) := by decide +kernel
theorem d14_15 : decode prog_14_method_3_code 15 = .ok (.getfield 25, 3) := by decide +kernel
theorem d14_18 : decode prog_14_method_3_code 18 = .ok (.ifCond .eq 7, 3) := by decide +kernel
theorem d14_25 : decode prog_14_method_3_code 25 = .ok (.lload_n 2, 1) := by decide +kernel
theorem d14_26 : decode prog_14_method_3_code 26 = .ok (.lneg, 1) := by decide +kernel
theorem d14_27 : decode prog_14_method_3_code 27 = .ok (.lreturn, 1) := by decide +kernel
theorem d14_21 : decode prog_14_method_3_code 21 = .ok (.lload_n 2, 1) := by decide +kernel
theorem d14_22 : decode prog_14_method_3_code 22 = .ok (.goto 5, 3) := by decide +kernel
theorem ef_rmQ1_0 (m : MethodId) (a1 : Addr) : entryFrame m #[(.ref a1), (.int (0 : Int32))] 4 = mkF m 0 #[.val (.ref a1), .val (.int (0 : Int32)), .unset, .unset] [] := by first | (simp [entryFrame, mkF, argsToLocals, Value.category]; done) | rfl
def Q_rmQ1_0 (Z : State) (a1 : Addr) (hf : Int32) (xa : Addr) (kk : ClassId) (k0 : Int64) (h0 : Heap) (n0 : Nat) (v : Option Value) (h : Heap) (L : List Loc) : Prop := v = some (.long (own_key hf k0)) ∧ Fr n0 L ∧ h = h0
set_option maxRecDepth 65536 in
set_option maxHeartbeats 40000000 in
theorem rmQ1_0 (l : Launch) (Z : State) (a0 : Array Value) (hw : ∀ d ∈ tables_1, d.before a0 Z = true) (ws : List Jvm.Cond) (a1 : Addr) (hf : Int32) (xa : Addr) (kk : ClassId) (k0 : Int64) (h0 : Heap) (n0 : Nat) (Z0 : n0 ≤ h0.size) (F_keys_a1 : Fld Z h0 a1 "corro/core/LimitLevels" "keys" "[J" (.ref xa)) (F_size_a1 : Fld Z h0 a1 "corro/core/LimitLevels" "size" "I" (.int (1 : Int32))) (F_highestFirst_a1 : Fld Z h0 a1 "corro/core/LimitLevels" "highestFirst" "Z" (.int hf)) (V_xa : Arv Z h0 xa kk .long (64 : Int32) [(.long k0)] (.long (0 : Int64))) :
    MetFree l (⟨"corro/core/LimitLevels", "price", "(I)J"⟩ : MethodName) (head1 (Jvm.Cond.code (⟨"corro/core/LimitLevels", "price", "(I)J"⟩ : MethodName) prog_14_method_3_code 4 (some .long) :: ws) ({ frames := 0, cells := 0, slots := 0, locals := 0 } : Room)) (fun a U => a = #[(.ref a1), (.int (0 : Int32))] ∧ Z.Warmed39 U.vm ∧ U.heap = h0) (fun _ _ _ _ _ => True) (fun _ U o U' => ∃ v L, o = .returned v ∧ Q_rmQ1_0 Z a1 hf xa kk k0 h0 n0 v U'.heap L ∧ FrameEnd U o U' L ({ frames := 0, cells := 0, slots := 0, locals := 0 } : Room).cells ({ frames := 0, cells := 0, slots := 0, locals := 0 } : Room).slots) := by
  refine MetFree.of_bodySF (plainFor_of_name pn_1) hisR ?_
  intro p e s m args below meth c s₁ Bd hml0 hP hK
  obtain ⟨rfl, hZ, hh⟩ := hP
  have hx := Bd.exec
  have hby := Bd.bytes
  have hml : c.maxLocals = 4 := hml0
  have hown : s.vm.findClass "corro/core/LimitLevels" = some m.cls := findClass_of_methodNamed Bd.named
  have hnm := (name_of_methodNamed Bd.named Bd.method).1
  have X0 : Stand p l e ({ frames := 0, cells := 0, slots := 0, locals := 0 } : Room) s m #[(.ref a1), (.int (0 : Int32))] below meth c s₁ [] 0 0 := Stand.of_body Bd
  have e0 : s₁.heap = h0 := by rw [← hh, Bd.state]; rfl
  have N0 := Fr.nil n0
  suffices G0 : own_G p e below (own_E s below (Q_rmQ1_0 Z a1 hf xa kk k0 h0 n0) ({ frames := 0, cells := 0, slots := 0, locals := 0 } : Room).cells ({ frames := 0, cells := 0, slots := 0, locals := 0 } : Room).slots) s₁ (mkF m 0 #[.val (.ref a1), .val (.int (0 : Int32)), .unset, .unset] []) by
    obtain ⟨zt, zst, zo, zq1, zq2, zq3⟩ := G0
    exact ⟨zt, zo, castTop (ef_rmQ1_0 m a1) zst, zq1, zq2, zq3⟩
  obtain ⟨Φ, hΦ⟩ : ∃ Φ, Φ = own_E s below (Q_rmQ1_0 Z a1 hf xa kk k0 h0 n0) ({ frames := 0, cells := 0, slots := 0, locals := 0 } : Room).cells ({ frames := 0, cells := 0, slots := 0, locals := 0 } : Room).slots := ⟨_, rfl⟩
  rw [← hΦ]
  show own_G p e below Φ s₁ (mkF m 0 #[.val (.ref a1), .val (.int (0 : Int32)), .unset, .unset] [])
  refine own_go (fun _ => XS.aloadN X0.here hx rfl (hb hby d14_0) rfl rfl) ?_
  show own_G p e below Φ s₁ (mkF m 1 #[.val (.ref a1), .val (.int (0 : Int32)), .unset, .unset] [(.ref a1)])
  obtain ⟨T1, X1, e1, st1⟩ := getF X0 hx hZ hown (host := "") (Or.inl (wd_18 hw)) Via.refl e0 F_keys_a1 (g := (mkF m 1 #[.val (.ref a1), .val (.int (0 : Int32)), .unset, .unset] [(.ref a1)])) rfl rfl (hb hby d14_1)
  refine own_go st1 ?_
  refine own_go (fun _ => XS.aloadN X1.here hx rfl (hb hby d14_4) rfl rfl) ?_
  show own_G p e below Φ T1 (mkF m 5 #[.val (.ref a1), .val (.int (0 : Int32)), .unset, .unset] [(.ref a1), (.ref xa)])
  obtain ⟨T2, X2, e2, st2⟩ := getF X1 hx hZ hown (host := "") (Or.inl (wd_37 hw)) Via.refl e1 F_size_a1 (g := (mkF m 5 #[.val (.ref a1), .val (.int (0 : Int32)), .unset, .unset] [(.ref a1), (.ref xa)])) rfl rfl (hb hby d14_5)
  refine own_go st2 ?_
  refine own_go (fun _ => XS.iconst X2.here hx rfl (hb hby d14_8)) ?_
  show own_G p e below Φ T2 (mkF m 9 #[.val (.ref a1), .val (.int (0 : Int32)), .unset, .unset] [(.int (1 : Int32)), (.int (1 : Int32)), (.ref xa)])
  refine own_go (fun _ => XS.isub X2.here hx rfl (hb hby d14_9) rfl) ?_
  refine own_go (fun _ => XS.iloadN X2.here hx rfl (hb hby d14_10) rfl) ?_
  show own_G p e below Φ T2 (mkF m 11 #[.val (.ref a1), .val (.int (0 : Int32)), .unset, .unset] [(.int (0 : Int32)), (.int (0 : Int32)), (.ref xa)])
  refine own_go (fun _ => XS.isub X2.here hx rfl (hb hby d14_11) rfl) ?_
  show own_G p e below Φ T2 (mkF m 12 #[.val (.ref a1), .val (.int (0 : Int32)), .unset, .unset] [(.int (0 : Int32)), (.ref xa)])
  obtain ⟨cl3, Ar3, zq3, S3, M3, H3, G3⟩ := id V_xa
  have hin3 : ¬ ((0 : Int32) < 0 ∨ cl3.slots.size ≤ ((0 : Int32)).toNatClampNeg) := inb_of S3 ⟨by decide, by decide⟩
  refine own_go (fun _ => X2.laload hx (j := (0 : Int32)) (v := (.long k0)) (by rw [e2]; exact Ar3.1) (State.isArrayOf_alike hZ.alike Ar3.2.1) Ar3.2.2 hin3 (H3.at hin3 rfl) (g := (mkF m 12 #[.val (.ref a1), .val (.int (0 : Int32)), .unset, .unset] [(.int (0 : Int32)), (.ref xa)])) rfl rfl (hb hby d14_12) _) ?_
  refine own_go (fun _ => XS.lstoreN X2.here hx rfl (hb hby d14_13) rfl (l' := #[.val (.ref a1), .val (.int (0 : Int32)), .val (.long k0), .second]) rfl) ?_
  refine own_go (fun _ => XS.aloadN X2.here hx rfl (hb hby d14_14) rfl rfl) ?_
  show own_G p e below Φ T2 (mkF m 15 #[.val (.ref a1), .val (.int (0 : Int32)), .val (.long k0), .second] [(.ref a1)])
  obtain ⟨T4, X4, e4, st4⟩ := getF X2 hx hZ hown (host := "") (Or.inl (wd_26 hw)) Via.refl e2 F_highestFirst_a1 (g := (mkF m 15 #[.val (.ref a1), .val (.int (0 : Int32)), .val (.long k0), .second] [(.ref a1)])) rfl rfl (hb hby d14_15)
  refine own_go st4 ?_
  show own_G p e below Φ T4 (mkF m 18 #[.val (.ref a1), .val (.int (0 : Int32)), .val (.long k0), .second] [(.int hf)])
  by_cases hc18 : hf = (0 : Int32)
  · refine own_go (fun _ => XS.ifYes X4.here hx rfl (pc0 := 18) (pc' := 25) rfl (hb hby d14_18) rfl (Jvm.Free.XT.i0_eq_t hc18) (by decide) (by decide)) ?_
    refine own_go (fun _ => XS.lloadN X4.here hx rfl (hb hby d14_25) rfl) ?_
    show own_G p e below Φ T4 (mkF m 26 #[.val (.ref a1), .val (.int (0 : Int32)), .val (.long k0), .second] [(.long k0)])
    refine own_go (fun _ => XS.lneg X4.here hx rfl (hb hby d14_26) rfl) ?_
    show own_G p e below Φ T4 (mkF m 27 #[.val (.ref a1), .val (.int (0 : Int32)), .val (.long k0), .second] [(.long ((-k0)))])
    rw [hΦ]
    refine own_ret X4 (v := some (.long ((-k0)))) (fun h => by rw [Bd.returns] at h; cases h) (BodyLoose.notSynchronized Bd) (fun fs hr => retOut X4 hx Bd.returns rfl (Or.inr (Or.inl ⟨rfl, rfl, _, rfl⟩)) (hb hby d14_27) hr) ?_ (by decide) (by decide)
    rw [e4]
    exact ⟨(by simp [own_key, hc18]), N0, rfl⟩
  · refine own_go (fun _ => XS.ifNo X4.here hx rfl (hb hby d14_18) rfl (Jvm.Free.XT.i0_eq_f hc18)) ?_
    refine own_go (fun _ => XS.lloadN X4.here hx rfl (hb hby d14_21) rfl) ?_
    refine own_go (fun _ => XS.goto X4.here hx rfl (pc0 := 22) (pc' := 27) rfl (hb hby d14_22) (by decide) (by decide)) ?_
    show own_G p e below Φ T4 (mkF m 27 #[.val (.ref a1), .val (.int (0 : Int32)), .val (.long k0), .second] [(.long k0)])
    rw [hΦ]
    refine own_ret X4 (v := some (.long k0)) (fun h => by rw [Bd.returns] at h; cases h) (BodyLoose.notSynchronized Bd) (fun fs hr => retOut X4 hx Bd.returns rfl (Or.inr (Or.inl ⟨rfl, rfl, _, rfl⟩)) (hb hby d14_27) hr) ?_ (by decide) (by decide)
    rw [e4]
    exact ⟨(by simp [own_key, hc18]), N0, rfl⟩
theorem ef_rmZ2 (m : MethodId) (a1 : Addr) : entryFrame m #[(.ref a1)] 1 = mkF m 0 #[.val (.ref a1)] [] := by first | (simp [entryFrame, mkF, argsToLocals, Value.category]; done) | rfl
def Q_rmZ2 (Z : State) (a1 : Addr) (h0 : Heap) (n0 : Nat) (v : Option Value) (h : Heap) (L : List Loc) : Prop := v = some (.int (2 : Int32)) ∧ Fr n0 L ∧ h = h0
set_option maxRecDepth 65536 in
set_option maxHeartbeats 40000000 in
theorem rmZ2 (l : Launch) (Z : State) (a0 : Array Value) (hw : ∀ d ∈ tables_1, d.before a0 Z = true) (ws : List Jvm.Cond) (a1 : Addr) (h0 : Heap) (n0 : Nat) (Z0 : n0 ≤ h0.size) (F_size_a1 : Fld Z h0 a1 "corro/core/LimitLevels" "size" "I" (.int (2 : Int32))) :
    MetFree l (⟨"corro/core/LimitLevels", "size", "()I"⟩ : MethodName) (head1 (Jvm.Cond.code (⟨"corro/core/LimitLevels", "size", "()I"⟩ : MethodName) prog_14_method_2_code 1 (some .int) :: ws) ({ frames := 0, cells := 0, slots := 0, locals := 0 } : Room)) (fun a U => a = #[(.ref a1)] ∧ Z.Warmed39 U.vm ∧ U.heap = h0) (fun _ _ _ _ _ => True) (fun _ U o U' => ∃ v L, o = .returned v ∧ Q_rmZ2 Z a1 h0 n0 v U'.heap L ∧ FrameEnd U o U' L ({ frames := 0, cells := 0, slots := 0, locals := 0 } : Room).cells ({ frames := 0, cells := 0, slots := 0, locals := 0 } : Room).slots) := by
  refine MetFree.of_bodySF (plainFor_of_name pn_1) hisR ?_
  intro p e s m args below meth c s₁ Bd hml0 hP hK
  obtain ⟨rfl, hZ, hh⟩ := hP
  have hx := Bd.exec
  have hby := Bd.bytes
  have hml : c.maxLocals = 1 := hml0
  have hown : s.vm.findClass "corro/core/LimitLevels" = some m.cls := findClass_of_methodNamed Bd.named
  have hnm := (name_of_methodNamed Bd.named Bd.method).1
  have X0 : Stand p l e ({ frames := 0, cells := 0, slots := 0, locals := 0 } : Room) s m #[(.ref a1)] below meth c s₁ [] 0 0 := Stand.of_body Bd
  have e0 : s₁.heap = h0 := by rw [← hh, Bd.state]; rfl
  have N0 := Fr.nil n0
  suffices G0 : own_G p e below (own_E s below (Q_rmZ2 Z a1 h0 n0) ({ frames := 0, cells := 0, slots := 0, locals := 0 } : Room).cells ({ frames := 0, cells := 0, slots := 0, locals := 0 } : Room).slots) s₁ (mkF m 0 #[.val (.ref a1)] []) by
    obtain ⟨zt, zst, zo, zq1, zq2, zq3⟩ := G0
    exact ⟨zt, zo, castTop (ef_rmZ2 m a1) zst, zq1, zq2, zq3⟩
  obtain ⟨Φ, hΦ⟩ : ∃ Φ, Φ = own_E s below (Q_rmZ2 Z a1 h0 n0) ({ frames := 0, cells := 0, slots := 0, locals := 0 } : Room).cells ({ frames := 0, cells := 0, slots := 0, locals := 0 } : Room).slots := ⟨_, rfl⟩
  rw [← hΦ]
  show own_G p e below Φ s₁ (mkF m 0 #[.val (.ref a1)] [])
  refine own_go (fun _ => XS.aloadN X0.here hx rfl (hb hby d13_0) rfl rfl) ?_
  show own_G p e below Φ s₁ (mkF m 1 #[.val (.ref a1)] [(.ref a1)])
  obtain ⟨T1, X1, e1, st1⟩ := getF X0 hx hZ hown (host := "") (Or.inl (wd_37 hw)) Via.refl e0 F_size_a1 (g := (mkF m 1 #[.val (.ref a1)] [(.ref a1)])) rfl rfl (hb hby d13_1)
  refine own_go st1 ?_
  show own_G p e below Φ T1 (mkF m 4 #[.val (.ref a1)] [(.int (2 : Int32))])
  rw [hΦ]
  refine own_ret X1 (v := some (.int (2 : Int32))) (fun h => by rw [Bd.returns] at h; cases h) (BodyLoose.notSynchronized Bd) (fun fs hr => retOut X1 hx Bd.returns rfl (Or.inl ⟨rfl, Or.inl rfl, _, rfl⟩) (hb hby d13_4) hr) ?_ (by decide) (by decide)
  rw [e1]
  exact ⟨rfl, N0, rfl⟩
theorem ef_rmQ2_0 (m : MethodId) (a1 : Addr) : entryFrame m #[(.ref a1), (.int (0 : Int32))] 4 = mkF m 0 #[.val (.ref a1), .val (.int (0 : Int32)), .unset, .unset] [] := by first | (simp [entryFrame, mkF, argsToLocals, Value.category]; done) | rfl
def Q_rmQ2_0 (Z : State) (a1 : Addr) (hf : Int32) (xa : Addr) (kk : ClassId) (k0 : Int64) (k1 : Int64) (h0 : Heap) (n0 : Nat) (v : Option Value) (h : Heap) (L : List Loc) : Prop := v = some (.long (own_key hf k1)) ∧ Fr n0 L ∧ h = h0
set_option maxRecDepth 65536 in
set_option maxHeartbeats 40000000 in
theorem rmQ2_0 (l : Launch) (Z : State) (a0 : Array Value) (hw : ∀ d ∈ tables_1, d.before a0 Z = true) (ws : List Jvm.Cond) (a1 : Addr) (hf : Int32) (xa : Addr) (kk : ClassId) (k0 : Int64) (k1 : Int64) (h0 : Heap) (n0 : Nat) (Z0 : n0 ≤ h0.size) (F_keys_a1 : Fld Z h0 a1 "corro/core/LimitLevels" "keys" "[J" (.ref xa)) (F_size_a1 : Fld Z h0 a1 "corro/core/LimitLevels" "size" "I" (.int (2 : Int32))) (F_highestFirst_a1 : Fld Z h0 a1 "corro/core/LimitLevels" "highestFirst" "Z" (.int hf)) (V_xa : Arv Z h0 xa kk .long (64 : Int32) [(.long k0), (.long k1)] (.long (0 : Int64))) :
    MetFree l (⟨"corro/core/LimitLevels", "price", "(I)J"⟩ : MethodName) (head1 (Jvm.Cond.code (⟨"corro/core/LimitLevels", "price", "(I)J"⟩ : MethodName) prog_14_method_3_code 4 (some .long) :: ws) ({ frames := 0, cells := 0, slots := 0, locals := 0 } : Room)) (fun a U => a = #[(.ref a1), (.int (0 : Int32))] ∧ Z.Warmed39 U.vm ∧ U.heap = h0) (fun _ _ _ _ _ => True) (fun _ U o U' => ∃ v L, o = .returned v ∧ Q_rmQ2_0 Z a1 hf xa kk k0 k1 h0 n0 v U'.heap L ∧ FrameEnd U o U' L ({ frames := 0, cells := 0, slots := 0, locals := 0 } : Room).cells ({ frames := 0, cells := 0, slots := 0, locals := 0 } : Room).slots) := by
  refine MetFree.of_bodySF (plainFor_of_name pn_1) hisR ?_
  intro p e s m args below meth c s₁ Bd hml0 hP hK
  obtain ⟨rfl, hZ, hh⟩ := hP
  have hx := Bd.exec
  have hby := Bd.bytes
  have hml : c.maxLocals = 4 := hml0
  have hown : s.vm.findClass "corro/core/LimitLevels" = some m.cls := findClass_of_methodNamed Bd.named
  have hnm := (name_of_methodNamed Bd.named Bd.method).1
  have X0 : Stand p l e ({ frames := 0, cells := 0, slots := 0, locals := 0 } : Room) s m #[(.ref a1), (.int (0 : Int32))] below meth c s₁ [] 0 0 := Stand.of_body Bd
  have e0 : s₁.heap = h0 := by rw [← hh, Bd.state]; rfl
  have N0 := Fr.nil n0
  suffices G0 : own_G p e below (own_E s below (Q_rmQ2_0 Z a1 hf xa kk k0 k1 h0 n0) ({ frames := 0, cells := 0, slots := 0, locals := 0 } : Room).cells ({ frames := 0, cells := 0, slots := 0, locals := 0 } : Room).slots) s₁ (mkF m 0 #[.val (.ref a1), .val (.int (0 : Int32)), .unset, .unset] []) by
    obtain ⟨zt, zst, zo, zq1, zq2, zq3⟩ := G0
    exact ⟨zt, zo, castTop (ef_rmQ2_0 m a1) zst, zq1, zq2, zq3⟩
  obtain ⟨Φ, hΦ⟩ : ∃ Φ, Φ = own_E s below (Q_rmQ2_0 Z a1 hf xa kk k0 k1 h0 n0) ({ frames := 0, cells := 0, slots := 0, locals := 0 } : Room).cells ({ frames := 0, cells := 0, slots := 0, locals := 0 } : Room).slots := ⟨_, rfl⟩
  rw [← hΦ]
  show own_G p e below Φ s₁ (mkF m 0 #[.val (.ref a1), .val (.int (0 : Int32)), .unset, .unset] [])
  refine own_go (fun _ => XS.aloadN X0.here hx rfl (hb hby d14_0) rfl rfl) ?_
  show own_G p e below Φ s₁ (mkF m 1 #[.val (.ref a1), .val (.int (0 : Int32)), .unset, .unset] [(.ref a1)])
  obtain ⟨T1, X1, e1, st1⟩ := getF X0 hx hZ hown (host := "") (Or.inl (wd_18 hw)) Via.refl e0 F_keys_a1 (g := (mkF m 1 #[.val (.ref a1), .val (.int (0 : Int32)), .unset, .unset] [(.ref a1)])) rfl rfl (hb hby d14_1)
  refine own_go st1 ?_
  refine own_go (fun _ => XS.aloadN X1.here hx rfl (hb hby d14_4) rfl rfl) ?_
  show own_G p e below Φ T1 (mkF m 5 #[.val (.ref a1), .val (.int (0 : Int32)), .unset, .unset] [(.ref a1), (.ref xa)])
  obtain ⟨T2, X2, e2, st2⟩ := getF X1 hx hZ hown (host := "") (Or.inl (wd_37 hw)) Via.refl e1 F_size_a1 (g := (mkF m 5 #[.val (.ref a1), .val (.int (0 : Int32)), .unset, .unset] [(.ref a1), (.ref xa)])) rfl rfl (hb hby d14_5)
  refine own_go st2 ?_
  refine own_go (fun _ => XS.iconst X2.here hx rfl (hb hby d14_8)) ?_
  show own_G p e below Φ T2 (mkF m 9 #[.val (.ref a1), .val (.int (0 : Int32)), .unset, .unset] [(.int (1 : Int32)), (.int (2 : Int32)), (.ref xa)])
  refine own_go (fun _ => XS.isub X2.here hx rfl (hb hby d14_9) rfl) ?_
  refine own_go (fun _ => XS.iloadN X2.here hx rfl (hb hby d14_10) rfl) ?_
  show own_G p e below Φ T2 (mkF m 11 #[.val (.ref a1), .val (.int (0 : Int32)), .unset, .unset] [(.int (0 : Int32)), (.int (1 : Int32)), (.ref xa)])
  refine own_go (fun _ => XS.isub X2.here hx rfl (hb hby d14_11) rfl) ?_
  show own_G p e below Φ T2 (mkF m 12 #[.val (.ref a1), .val (.int (0 : Int32)), .unset, .unset] [(.int (1 : Int32)), (.ref xa)])
  obtain ⟨cl3, Ar3, zq3, S3, M3, H3, G3⟩ := id V_xa
  have hin3 : ¬ ((1 : Int32) < 0 ∨ cl3.slots.size ≤ ((1 : Int32)).toNatClampNeg) := inb_of S3 ⟨by decide, by decide⟩
  refine own_go (fun _ => X2.laload hx (j := (1 : Int32)) (v := (.long k1)) (by rw [e2]; exact Ar3.1) (State.isArrayOf_alike hZ.alike Ar3.2.1) Ar3.2.2 hin3 (H3.at hin3 rfl) (g := (mkF m 12 #[.val (.ref a1), .val (.int (0 : Int32)), .unset, .unset] [(.int (1 : Int32)), (.ref xa)])) rfl rfl (hb hby d14_12) _) ?_
  refine own_go (fun _ => XS.lstoreN X2.here hx rfl (hb hby d14_13) rfl (l' := #[.val (.ref a1), .val (.int (0 : Int32)), .val (.long k1), .second]) rfl) ?_
  refine own_go (fun _ => XS.aloadN X2.here hx rfl (hb hby d14_14) rfl rfl) ?_
  show own_G p e below Φ T2 (mkF m 15 #[.val (.ref a1), .val (.int (0 : Int32)), .val (.long k1), .second] [(.ref a1)])
  obtain ⟨T4, X4, e4, st4⟩ := getF X2 hx hZ hown (host := "") (Or.inl (wd_26 hw)) Via.refl e2 F_highestFirst_a1 (g := (mkF m 15 #[.val (.ref a1), .val (.int (0 : Int32)), .val (.long k1), .second] [(.ref a1)])) rfl rfl (hb hby d14_15)
  refine own_go st4 ?_
  show own_G p e below Φ T4 (mkF m 18 #[.val (.ref a1), .val (.int (0 : Int32)), .val (.long k1), .second] [(.int hf)])
  by_cases hc18 : hf = (0 : Int32)
  · refine own_go (fun _ => XS.ifYes X4.here hx rfl (pc0 := 18) (pc' := 25) rfl (hb hby d14_18) rfl (Jvm.Free.XT.i0_eq_t hc18) (by decide) (by decide)) ?_
    refine own_go (fun _ => XS.lloadN X4.here hx rfl (hb hby d14_25) rfl) ?_
    show own_G p e below Φ T4 (mkF m 26 #[.val (.ref a1), .val (.int (0 : Int32)), .val (.long k1), .second] [(.long k1)])
    refine own_go (fun _ => XS.lneg X4.here hx rfl (hb hby d14_26) rfl) ?_
    show own_G p e below Φ T4 (mkF m 27 #[.val (.ref a1), .val (.int (0 : Int32)), .val (.long k1), .second] [(.long ((-k1)))])
    rw [hΦ]
    refine own_ret X4 (v := some (.long ((-k1)))) (fun h => by rw [Bd.returns] at h; cases h) (BodyLoose.notSynchronized Bd) (fun fs hr => retOut X4 hx Bd.returns rfl (Or.inr (Or.inl ⟨rfl, rfl, _, rfl⟩)) (hb hby d14_27) hr) ?_ (by decide) (by decide)
    rw [e4]
    exact ⟨(by simp [own_key, hc18]), N0, rfl⟩
  · refine own_go (fun _ => XS.ifNo X4.here hx rfl (hb hby d14_18) rfl (Jvm.Free.XT.i0_eq_f hc18)) ?_
    refine own_go (fun _ => XS.lloadN X4.here hx rfl (hb hby d14_21) rfl) ?_
    refine own_go (fun _ => XS.goto X4.here hx rfl (pc0 := 22) (pc' := 27) rfl (hb hby d14_22) (by decide) (by decide)) ?_
    show own_G p e below Φ T4 (mkF m 27 #[.val (.ref a1), .val (.int (0 : Int32)), .val (.long k1), .second] [(.long k1)])
    rw [hΦ]
    refine own_ret X4 (v := some (.long k1)) (fun h => by rw [Bd.returns] at h; cases h) (BodyLoose.notSynchronized Bd) (fun fs hr => retOut X4 hx Bd.returns rfl (Or.inr (Or.inl ⟨rfl, rfl, _, rfl⟩)) (hb hby d14_27) hr) ?_ (by decide) (by decide)
    rw [e4]
    exact ⟨(by simp [own_key, hc18]), N0, rfl⟩
theorem ef_rmQ2_1 (m : MethodId) (a1 : Addr) : entryFrame m #[(.ref a1), (.int (1 : Int32))] 4 = mkF m 0 #[.val (.ref a1), .val (.int (1 : Int32)), .unset, .unset] [] := by first | (simp [entryFrame, mkF, argsToLocals, Value.category]; done) | rfl
def Q_rmQ2_1 (Z : State) (a1 : Addr) (hf : Int32) (xa : Addr) (kk : ClassId) (k0 : Int64) (k1 : Int64) (h0 : Heap) (n0 : Nat) (v : Option Value) (h : Heap) (L : List Loc) : Prop := v = some (.long (own_key hf k0)) ∧ Fr n0 L ∧ h = h0
set_option maxRecDepth 65536 in
set_option maxHeartbeats 40000000 in
theorem rmQ2_1 (l : Launch) (Z : State) (a0 : Array Value) (hw : ∀ d ∈ tables_1, d.before a0 Z = true) (ws : List Jvm.Cond) (a1 : Addr) (hf : Int32) (xa : Addr) (kk : ClassId) (k0 : Int64) (k1 : Int64) (h0 : Heap) (n0 : Nat) (Z0 : n0 ≤ h0.size) (F_keys_a1 : Fld Z h0 a1 "corro/core/LimitLevels" "keys" "[J" (.ref xa)) (F_size_a1 : Fld Z h0 a1 "corro/core/LimitLevels" "size" "I" (.int (2 : Int32))) (F_highestFirst_a1 : Fld Z h0 a1 "corro/core/LimitLevels" "highestFirst" "Z" (.int hf)) (V_xa : Arv Z h0 xa kk .long (64 : Int32) [(.long k0), (.long k1)] (.long (0 : Int64))) :
    MetFree l (⟨"corro/core/LimitLevels", "price", "(I)J"⟩ : MethodName) (head1 (Jvm.Cond.code (⟨"corro/core/LimitLevels", "price", "(I)J"⟩ : MethodName) prog_14_method_3_code 4 (some .long) :: ws) ({ frames := 0, cells := 0, slots := 0, locals := 0 } : Room)) (fun a U => a = #[(.ref a1), (.int (1 : Int32))] ∧ Z.Warmed39 U.vm ∧ U.heap = h0) (fun _ _ _ _ _ => True) (fun _ U o U' => ∃ v L, o = .returned v ∧ Q_rmQ2_1 Z a1 hf xa kk k0 k1 h0 n0 v U'.heap L ∧ FrameEnd U o U' L ({ frames := 0, cells := 0, slots := 0, locals := 0 } : Room).cells ({ frames := 0, cells := 0, slots := 0, locals := 0 } : Room).slots) := by
  refine MetFree.of_bodySF (plainFor_of_name pn_1) hisR ?_
  intro p e s m args below meth c s₁ Bd hml0 hP hK
  obtain ⟨rfl, hZ, hh⟩ := hP
  have hx := Bd.exec
  have hby := Bd.bytes
  have hml : c.maxLocals = 4 := hml0
  have hown : s.vm.findClass "corro/core/LimitLevels" = some m.cls := findClass_of_methodNamed Bd.named
  have hnm := (name_of_methodNamed Bd.named Bd.method).1
  have X0 : Stand p l e ({ frames := 0, cells := 0, slots := 0, locals := 0 } : Room) s m #[(.ref a1), (.int (1 : Int32))] below meth c s₁ [] 0 0 := Stand.of_body Bd
  have e0 : s₁.heap = h0 := by rw [← hh, Bd.state]; rfl
  have N0 := Fr.nil n0
  suffices G0 : own_G p e below (own_E s below (Q_rmQ2_1 Z a1 hf xa kk k0 k1 h0 n0) ({ frames := 0, cells := 0, slots := 0, locals := 0 } : Room).cells ({ frames := 0, cells := 0, slots := 0, locals := 0 } : Room).slots) s₁ (mkF m 0 #[.val (.ref a1), .val (.int (1 : Int32)), .unset, .unset] []) by
    obtain ⟨zt, zst, zo, zq1, zq2, zq3⟩ := G0
    exact ⟨zt, zo, castTop (ef_rmQ2_1 m a1) zst, zq1, zq2, zq3⟩
  obtain ⟨Φ, hΦ⟩ : ∃ Φ, Φ = own_E s below (Q_rmQ2_1 Z a1 hf xa kk k0 k1 h0 n0) ({ frames := 0, cells := 0, slots := 0, locals := 0 } : Room).cells ({ frames := 0, cells := 0, slots := 0, locals := 0 } : Room).slots := ⟨_, rfl⟩
  rw [← hΦ]
  show own_G p e below Φ s₁ (mkF m 0 #[.val (.ref a1), .val (.int (1 : Int32)), .unset, .unset] [])
  refine own_go (fun _ => XS.aloadN X0.here hx rfl (hb hby d14_0) rfl rfl) ?_
  show own_G p e below Φ s₁ (mkF m 1 #[.val (.ref a1), .val (.int (1 : Int32)), .unset, .unset] [(.ref a1)])
  obtain ⟨T1, X1, e1, st1⟩ := getF X0 hx hZ hown (host := "") (Or.inl (wd_18 hw)) Via.refl e0 F_keys_a1 (g := (mkF m 1 #[.val (.ref a1), .val (.int (1 : Int32)), .unset, .unset] [(.ref a1)])) rfl rfl (hb hby d14_1)
  refine own_go st1 ?_
  refine own_go (fun _ => XS.aloadN X1.here hx rfl (hb hby d14_4) rfl rfl) ?_
  show own_G p e below Φ T1 (mkF m 5 #[.val (.ref a1), .val (.int (1 : Int32)), .unset, .unset] [(.ref a1), (.ref xa)])
  obtain ⟨T2, X2, e2, st2⟩ := getF X1 hx hZ hown (host := "") (Or.inl (wd_37 hw)) Via.refl e1 F_size_a1 (g := (mkF m 5 #[.val (.ref a1), .val (.int (1 : Int32)), .unset, .unset] [(.ref a1), (.ref xa)])) rfl rfl (hb hby d14_5)
  refine own_go st2 ?_
  refine own_go (fun _ => XS.iconst X2.here hx rfl (hb hby d14_8)) ?_
  show own_G p e below Φ T2 (mkF m 9 #[.val (.ref a1), .val (.int (1 : Int32)), .unset, .unset] [(.int (1 : Int32)), (.int (2 : Int32)), (.ref xa)])
  refine own_go (fun _ => XS.isub X2.here hx rfl (hb hby d14_9) rfl) ?_
  refine own_go (fun _ => XS.iloadN X2.here hx rfl (hb hby d14_10) rfl) ?_
  show own_G p e below Φ T2 (mkF m 11 #[.val (.ref a1), .val (.int (1 : Int32)), .unset, .unset] [(.int (1 : Int32)), (.int (1 : Int32)), (.ref xa)])
  refine own_go (fun _ => XS.isub X2.here hx rfl (hb hby d14_11) rfl) ?_
  show own_G p e below Φ T2 (mkF m 12 #[.val (.ref a1), .val (.int (1 : Int32)), .unset, .unset] [(.int (0 : Int32)), (.ref xa)])
  obtain ⟨cl3, Ar3, zq3, S3, M3, H3, G3⟩ := id V_xa
  have hin3 : ¬ ((0 : Int32) < 0 ∨ cl3.slots.size ≤ ((0 : Int32)).toNatClampNeg) := inb_of S3 ⟨by decide, by decide⟩
  refine own_go (fun _ => X2.laload hx (j := (0 : Int32)) (v := (.long k0)) (by rw [e2]; exact Ar3.1) (State.isArrayOf_alike hZ.alike Ar3.2.1) Ar3.2.2 hin3 (H3.at hin3 rfl) (g := (mkF m 12 #[.val (.ref a1), .val (.int (1 : Int32)), .unset, .unset] [(.int (0 : Int32)), (.ref xa)])) rfl rfl (hb hby d14_12) _) ?_
  refine own_go (fun _ => XS.lstoreN X2.here hx rfl (hb hby d14_13) rfl (l' := #[.val (.ref a1), .val (.int (1 : Int32)), .val (.long k0), .second]) rfl) ?_
  refine own_go (fun _ => XS.aloadN X2.here hx rfl (hb hby d14_14) rfl rfl) ?_
  show own_G p e below Φ T2 (mkF m 15 #[.val (.ref a1), .val (.int (1 : Int32)), .val (.long k0), .second] [(.ref a1)])
  obtain ⟨T4, X4, e4, st4⟩ := getF X2 hx hZ hown (host := "") (Or.inl (wd_26 hw)) Via.refl e2 F_highestFirst_a1 (g := (mkF m 15 #[.val (.ref a1), .val (.int (1 : Int32)), .val (.long k0), .second] [(.ref a1)])) rfl rfl (hb hby d14_15)
  refine own_go st4 ?_
  show own_G p e below Φ T4 (mkF m 18 #[.val (.ref a1), .val (.int (1 : Int32)), .val (.long k0), .second] [(.int hf)])
  by_cases hc18 : hf = (0 : Int32)
  · refine own_go (fun _ => XS.ifYes X4.here hx rfl (pc0 := 18) (pc' := 25) rfl (hb hby d14_18) rfl (Jvm.Free.XT.i0_eq_t hc18) (by decide) (by decide)) ?_
    refine own_go (fun _ => XS.lloadN X4.here hx rfl (hb hby d14_25) rfl) ?_
    show own_G p e below Φ T4 (mkF m 26 #[.val (.ref a1), .val (.int (1 : Int32)), .val (.long k0), .second] [(.long k0)])
    refine own_go (fun _ => XS.lneg X4.here hx rfl (hb hby d14_26) rfl) ?_
    show own_G p e below Φ T4 (mkF m 27 #[.val (.ref a1), .val (.int (1 : Int32)), .val (.long k0), .second] [(.long ((-k0)))])
    rw [hΦ]
    refine own_ret X4 (v := some (.long ((-k0)))) (fun h => by rw [Bd.returns] at h; cases h) (BodyLoose.notSynchronized Bd) (fun fs hr => retOut X4 hx Bd.returns rfl (Or.inr (Or.inl ⟨rfl, rfl, _, rfl⟩)) (hb hby d14_27) hr) ?_ (by decide) (by decide)
    rw [e4]
    exact ⟨(by simp [own_key, hc18]), N0, rfl⟩
  · refine own_go (fun _ => XS.ifNo X4.here hx rfl (hb hby d14_18) rfl (Jvm.Free.XT.i0_eq_f hc18)) ?_
    refine own_go (fun _ => XS.lloadN X4.here hx rfl (hb hby d14_21) rfl) ?_
    refine own_go (fun _ => XS.goto X4.here hx rfl (pc0 := 22) (pc' := 27) rfl (hb hby d14_22) (by decide) (by decide)) ?_
    show own_G p e below Φ T4 (mkF m 27 #[.val (.ref a1), .val (.int (1 : Int32)), .val (.long k0), .second] [(.long k0)])
    rw [hΦ]
    refine own_ret X4 (v := some (.long k0)) (fun h => by rw [Bd.returns] at h; cases h) (BodyLoose.notSynchronized Bd) (fun fs hr => retOut X4 hx Bd.returns rfl (Or.inr (Or.inl ⟨rfl, rfl, _, rfl⟩)) (hb hby d14_27) hr) ?_ (by decide) (by decide)
    rw [e4]
    exact ⟨(by simp [own_key, hc18]), N0, rfl⟩
theorem ef_rmZ3 (m : MethodId) (a1 : Addr) : entryFrame m #[(.ref a1)] 1 = mkF m 0 #[.val (.ref a1)] [] := by first | (simp [entryFrame, mkF, argsToLocals, Value.category]; done) | rfl
def Q_rmZ3 (Z : State) (a1 : Addr) (h0 : Heap) (n0 : Nat) (v : Option Value) (h : Heap) (L : List Loc) : Prop := v = some (.int (3 : Int32)) ∧ Fr n0 L ∧ h = h0
set_option maxRecDepth 65536 in
set_option maxHeartbeats 40000000 in
theorem rmZ3 (l : Launch) (Z : State) (a0 : Array Value) (hw : ∀ d ∈ tables_1, d.before a0 Z = true) (ws : List Jvm.Cond) (a1 : Addr) (h0 : Heap) (n0 : Nat) (Z0 : n0 ≤ h0.size) (F_size_a1 : Fld Z h0 a1 "corro/core/LimitLevels" "size" "I" (.int (3 : Int32))) :
    MetFree l (⟨"corro/core/LimitLevels", "size", "()I"⟩ : MethodName) (head1 (Jvm.Cond.code (⟨"corro/core/LimitLevels", "size", "()I"⟩ : MethodName) prog_14_method_2_code 1 (some .int) :: ws) ({ frames := 0, cells := 0, slots := 0, locals := 0 } : Room)) (fun a U => a = #[(.ref a1)] ∧ Z.Warmed39 U.vm ∧ U.heap = h0) (fun _ _ _ _ _ => True) (fun _ U o U' => ∃ v L, o = .returned v ∧ Q_rmZ3 Z a1 h0 n0 v U'.heap L ∧ FrameEnd U o U' L ({ frames := 0, cells := 0, slots := 0, locals := 0 } : Room).cells ({ frames := 0, cells := 0, slots := 0, locals := 0 } : Room).slots) := by
  refine MetFree.of_bodySF (plainFor_of_name pn_1) hisR ?_
  intro p e s m args below meth c s₁ Bd hml0 hP hK
  obtain ⟨rfl, hZ, hh⟩ := hP
  have hx := Bd.exec
  have hby := Bd.bytes
  have hml : c.maxLocals = 1 := hml0
  have hown : s.vm.findClass "corro/core/LimitLevels" = some m.cls := findClass_of_methodNamed Bd.named
  have hnm := (name_of_methodNamed Bd.named Bd.method).1
  have X0 : Stand p l e ({ frames := 0, cells := 0, slots := 0, locals := 0 } : Room) s m #[(.ref a1)] below meth c s₁ [] 0 0 := Stand.of_body Bd
  have e0 : s₁.heap = h0 := by rw [← hh, Bd.state]; rfl
  have N0 := Fr.nil n0
  suffices G0 : own_G p e below (own_E s below (Q_rmZ3 Z a1 h0 n0) ({ frames := 0, cells := 0, slots := 0, locals := 0 } : Room).cells ({ frames := 0, cells := 0, slots := 0, locals := 0 } : Room).slots) s₁ (mkF m 0 #[.val (.ref a1)] []) by
    obtain ⟨zt, zst, zo, zq1, zq2, zq3⟩ := G0
    exact ⟨zt, zo, castTop (ef_rmZ3 m a1) zst, zq1, zq2, zq3⟩
  obtain ⟨Φ, hΦ⟩ : ∃ Φ, Φ = own_E s below (Q_rmZ3 Z a1 h0 n0) ({ frames := 0, cells := 0, slots := 0, locals := 0 } : Room).cells ({ frames := 0, cells := 0, slots := 0, locals := 0 } : Room).slots := ⟨_, rfl⟩
  rw [← hΦ]
  show own_G p e below Φ s₁ (mkF m 0 #[.val (.ref a1)] [])
  refine own_go (fun _ => XS.aloadN X0.here hx rfl (hb hby d13_0) rfl rfl) ?_
  show own_G p e below Φ s₁ (mkF m 1 #[.val (.ref a1)] [(.ref a1)])
  obtain ⟨T1, X1, e1, st1⟩ := getF X0 hx hZ hown (host := "") (Or.inl (wd_37 hw)) Via.refl e0 F_size_a1 (g := (mkF m 1 #[.val (.ref a1)] [(.ref a1)])) rfl rfl (hb hby d13_1)
  refine own_go st1 ?_
  show own_G p e below Φ T1 (mkF m 4 #[.val (.ref a1)] [(.int (3 : Int32))])
  rw [hΦ]
  refine own_ret X1 (v := some (.int (3 : Int32))) (fun h => by rw [Bd.returns] at h; cases h) (BodyLoose.notSynchronized Bd) (fun fs hr => retOut X1 hx Bd.returns rfl (Or.inl ⟨rfl, Or.inl rfl, _, rfl⟩) (hb hby d13_4) hr) ?_ (by decide) (by decide)
  rw [e1]
  exact ⟨rfl, N0, rfl⟩
theorem ef_rmQ3_0 (m : MethodId) (a1 : Addr) : entryFrame m #[(.ref a1), (.int (0 : Int32))] 4 = mkF m 0 #[.val (.ref a1), .val (.int (0 : Int32)), .unset, .unset] [] := by first | (simp [entryFrame, mkF, argsToLocals, Value.category]; done) | rfl
def Q_rmQ3_0 (Z : State) (a1 : Addr) (hf : Int32) (xa : Addr) (kk : ClassId) (k0 : Int64) (k1 : Int64) (k2 : Int64) (h0 : Heap) (n0 : Nat) (v : Option Value) (h : Heap) (L : List Loc) : Prop := v = some (.long (own_key hf k2)) ∧ Fr n0 L ∧ h = h0
set_option maxRecDepth 65536 in
set_option maxHeartbeats 40000000 in
theorem rmQ3_0 (l : Launch) (Z : State) (a0 : Array Value) (hw : ∀ d ∈ tables_1, d.before a0 Z = true) (ws : List Jvm.Cond) (a1 : Addr) (hf : Int32) (xa : Addr) (kk : ClassId) (k0 : Int64) (k1 : Int64) (k2 : Int64) (h0 : Heap) (n0 : Nat) (Z0 : n0 ≤ h0.size) (F_keys_a1 : Fld Z h0 a1 "corro/core/LimitLevels" "keys" "[J" (.ref xa)) (F_size_a1 : Fld Z h0 a1 "corro/core/LimitLevels" "size" "I" (.int (3 : Int32))) (F_highestFirst_a1 : Fld Z h0 a1 "corro/core/LimitLevels" "highestFirst" "Z" (.int hf)) (V_xa : Arv Z h0 xa kk .long (64 : Int32) [(.long k0), (.long k1), (.long k2)] (.long (0 : Int64))) :
    MetFree l (⟨"corro/core/LimitLevels", "price", "(I)J"⟩ : MethodName) (head1 (Jvm.Cond.code (⟨"corro/core/LimitLevels", "price", "(I)J"⟩ : MethodName) prog_14_method_3_code 4 (some .long) :: ws) ({ frames := 0, cells := 0, slots := 0, locals := 0 } : Room)) (fun a U => a = #[(.ref a1), (.int (0 : Int32))] ∧ Z.Warmed39 U.vm ∧ U.heap = h0) (fun _ _ _ _ _ => True) (fun _ U o U' => ∃ v L, o = .returned v ∧ Q_rmQ3_0 Z a1 hf xa kk k0 k1 k2 h0 n0 v U'.heap L ∧ FrameEnd U o U' L ({ frames := 0, cells := 0, slots := 0, locals := 0 } : Room).cells ({ frames := 0, cells := 0, slots := 0, locals := 0 } : Room).slots) := by
  refine MetFree.of_bodySF (plainFor_of_name pn_1) hisR ?_
  intro p e s m args below meth c s₁ Bd hml0 hP hK
  obtain ⟨rfl, hZ, hh⟩ := hP
  have hx := Bd.exec
  have hby := Bd.bytes
  have hml : c.maxLocals = 4 := hml0
  have hown : s.vm.findClass "corro/core/LimitLevels" = some m.cls := findClass_of_methodNamed Bd.named
  have hnm := (name_of_methodNamed Bd.named Bd.method).1
  have X0 : Stand p l e ({ frames := 0, cells := 0, slots := 0, locals := 0 } : Room) s m #[(.ref a1), (.int (0 : Int32))] below meth c s₁ [] 0 0 := Stand.of_body Bd
  have e0 : s₁.heap = h0 := by rw [← hh, Bd.state]; rfl
  have N0 := Fr.nil n0
  suffices G0 : own_G p e below (own_E s below (Q_rmQ3_0 Z a1 hf xa kk k0 k1 k2 h0 n0) ({ frames := 0, cells := 0, slots := 0, locals := 0 } : Room).cells ({ frames := 0, cells := 0, slots := 0, locals := 0 } : Room).slots) s₁ (mkF m 0 #[.val (.ref a1), .val (.int (0 : Int32)), .unset, .unset] []) by
    obtain ⟨zt, zst, zo, zq1, zq2, zq3⟩ := G0
    exact ⟨zt, zo, castTop (ef_rmQ3_0 m a1) zst, zq1, zq2, zq3⟩
  obtain ⟨Φ, hΦ⟩ : ∃ Φ, Φ = own_E s below (Q_rmQ3_0 Z a1 hf xa kk k0 k1 k2 h0 n0) ({ frames := 0, cells := 0, slots := 0, locals := 0 } : Room).cells ({ frames := 0, cells := 0, slots := 0, locals := 0 } : Room).slots := ⟨_, rfl⟩
  rw [← hΦ]
  show own_G p e below Φ s₁ (mkF m 0 #[.val (.ref a1), .val (.int (0 : Int32)), .unset, .unset] [])
  refine own_go (fun _ => XS.aloadN X0.here hx rfl (hb hby d14_0) rfl rfl) ?_
  show own_G p e below Φ s₁ (mkF m 1 #[.val (.ref a1), .val (.int (0 : Int32)), .unset, .unset] [(.ref a1)])
  obtain ⟨T1, X1, e1, st1⟩ := getF X0 hx hZ hown (host := "") (Or.inl (wd_18 hw)) Via.refl e0 F_keys_a1 (g := (mkF m 1 #[.val (.ref a1), .val (.int (0 : Int32)), .unset, .unset] [(.ref a1)])) rfl rfl (hb hby d14_1)
  refine own_go st1 ?_
  refine own_go (fun _ => XS.aloadN X1.here hx rfl (hb hby d14_4) rfl rfl) ?_
  show own_G p e below Φ T1 (mkF m 5 #[.val (.ref a1), .val (.int (0 : Int32)), .unset, .unset] [(.ref a1), (.ref xa)])
  obtain ⟨T2, X2, e2, st2⟩ := getF X1 hx hZ hown (host := "") (Or.inl (wd_37 hw)) Via.refl e1 F_size_a1 (g := (mkF m 5 #[.val (.ref a1), .val (.int (0 : Int32)), .unset, .unset] [(.ref a1), (.ref xa)])) rfl rfl (hb hby d14_5)
  refine own_go st2 ?_
  refine own_go (fun _ => XS.iconst X2.here hx rfl (hb hby d14_8)) ?_
  show own_G p e below Φ T2 (mkF m 9 #[.val (.ref a1), .val (.int (0 : Int32)), .unset, .unset] [(.int (1 : Int32)), (.int (3 : Int32)), (.ref xa)])
  refine own_go (fun _ => XS.isub X2.here hx rfl (hb hby d14_9) rfl) ?_
  refine own_go (fun _ => XS.iloadN X2.here hx rfl (hb hby d14_10) rfl) ?_
  show own_G p e below Φ T2 (mkF m 11 #[.val (.ref a1), .val (.int (0 : Int32)), .unset, .unset] [(.int (0 : Int32)), (.int (2 : Int32)), (.ref xa)])
  refine own_go (fun _ => XS.isub X2.here hx rfl (hb hby d14_11) rfl) ?_
  show own_G p e below Φ T2 (mkF m 12 #[.val (.ref a1), .val (.int (0 : Int32)), .unset, .unset] [(.int (2 : Int32)), (.ref xa)])
  obtain ⟨cl3, Ar3, zq3, S3, M3, H3, G3⟩ := id V_xa
  have hin3 : ¬ ((2 : Int32) < 0 ∨ cl3.slots.size ≤ ((2 : Int32)).toNatClampNeg) := inb_of S3 ⟨by decide, by decide⟩
  refine own_go (fun _ => X2.laload hx (j := (2 : Int32)) (v := (.long k2)) (by rw [e2]; exact Ar3.1) (State.isArrayOf_alike hZ.alike Ar3.2.1) Ar3.2.2 hin3 (H3.at hin3 rfl) (g := (mkF m 12 #[.val (.ref a1), .val (.int (0 : Int32)), .unset, .unset] [(.int (2 : Int32)), (.ref xa)])) rfl rfl (hb hby d14_12) _) ?_
  refine own_go (fun _ => XS.lstoreN X2.here hx rfl (hb hby d14_13) rfl (l' := #[.val (.ref a1), .val (.int (0 : Int32)), .val (.long k2), .second]) rfl) ?_
  refine own_go (fun _ => XS.aloadN X2.here hx rfl (hb hby d14_14) rfl rfl) ?_
  show own_G p e below Φ T2 (mkF m 15 #[.val (.ref a1), .val (.int (0 : Int32)), .val (.long k2), .second] [(.ref a1)])
  obtain ⟨T4, X4, e4, st4⟩ := getF X2 hx hZ hown (host := "") (Or.inl (wd_26 hw)) Via.refl e2 F_highestFirst_a1 (g := (mkF m 15 #[.val (.ref a1), .val (.int (0 : Int32)), .val (.long k2), .second] [(.ref a1)])) rfl rfl (hb hby d14_15)
  refine own_go st4 ?_
  show own_G p e below Φ T4 (mkF m 18 #[.val (.ref a1), .val (.int (0 : Int32)), .val (.long k2), .second] [(.int hf)])
  by_cases hc18 : hf = (0 : Int32)
  · refine own_go (fun _ => XS.ifYes X4.here hx rfl (pc0 := 18) (pc' := 25) rfl (hb hby d14_18) rfl (Jvm.Free.XT.i0_eq_t hc18) (by decide) (by decide)) ?_
    refine own_go (fun _ => XS.lloadN X4.here hx rfl (hb hby d14_25) rfl) ?_
    show own_G p e below Φ T4 (mkF m 26 #[.val (.ref a1), .val (.int (0 : Int32)), .val (.long k2), .second] [(.long k2)])
    refine own_go (fun _ => XS.lneg X4.here hx rfl (hb hby d14_26) rfl) ?_
    show own_G p e below Φ T4 (mkF m 27 #[.val (.ref a1), .val (.int (0 : Int32)), .val (.long k2), .second] [(.long ((-k2)))])
    rw [hΦ]
    refine own_ret X4 (v := some (.long ((-k2)))) (fun h => by rw [Bd.returns] at h; cases h) (BodyLoose.notSynchronized Bd) (fun fs hr => retOut X4 hx Bd.returns rfl (Or.inr (Or.inl ⟨rfl, rfl, _, rfl⟩)) (hb hby d14_27) hr) ?_ (by decide) (by decide)
    rw [e4]
    exact ⟨(by simp [own_key, hc18]), N0, rfl⟩
  · refine own_go (fun _ => XS.ifNo X4.here hx rfl (hb hby d14_18) rfl (Jvm.Free.XT.i0_eq_f hc18)) ?_
    refine own_go (fun _ => XS.lloadN X4.here hx rfl (hb hby d14_21) rfl) ?_
    refine own_go (fun _ => XS.goto X4.here hx rfl (pc0 := 22) (pc' := 27) rfl (hb hby d14_22) (by decide) (by decide)) ?_
    show own_G p e below Φ T4 (mkF m 27 #[.val (.ref a1), .val (.int (0 : Int32)), .val (.long k2), .second] [(.long k2)])
    rw [hΦ]
    refine own_ret X4 (v := some (.long k2)) (fun h => by rw [Bd.returns] at h; cases h) (BodyLoose.notSynchronized Bd) (fun fs hr => retOut X4 hx Bd.returns rfl (Or.inr (Or.inl ⟨rfl, rfl, _, rfl⟩)) (hb hby d14_27) hr) ?_ (by decide) (by decide)
    rw [e4]
    exact ⟨(by simp [own_key, hc18]), N0, rfl⟩
theorem ef_rmQ3_1 (m : MethodId) (a1 : Addr) : entryFrame m #[(.ref a1), (.int (1 : Int32))] 4 = mkF m 0 #[.val (.ref a1), .val (.int (1 : Int32)), .unset, .unset] [] := by first | (simp [entryFrame, mkF, argsToLocals, Value.category]; done) | rfl
def Q_rmQ3_1 (Z : State) (a1 : Addr) (hf : Int32) (xa : Addr) (kk : ClassId) (k0 : Int64) (k1 : Int64) (k2 : Int64) (h0 : Heap) (n0 : Nat) (v : Option Value) (h : Heap) (L : List Loc) : Prop := v = some (.long (own_key hf k1)) ∧ Fr n0 L ∧ h = h0
set_option maxRecDepth 65536 in
set_option maxHeartbeats 40000000 in
theorem rmQ3_1 (l : Launch) (Z : State) (a0 : Array Value) (hw : ∀ d ∈ tables_1, d.before a0 Z = true) (ws : List Jvm.Cond) (a1 : Addr) (hf : Int32) (xa : Addr) (kk : ClassId) (k0 : Int64) (k1 : Int64) (k2 : Int64) (h0 : Heap) (n0 : Nat) (Z0 : n0 ≤ h0.size) (F_keys_a1 : Fld Z h0 a1 "corro/core/LimitLevels" "keys" "[J" (.ref xa)) (F_size_a1 : Fld Z h0 a1 "corro/core/LimitLevels" "size" "I" (.int (3 : Int32))) (F_highestFirst_a1 : Fld Z h0 a1 "corro/core/LimitLevels" "highestFirst" "Z" (.int hf)) (V_xa : Arv Z h0 xa kk .long (64 : Int32) [(.long k0), (.long k1), (.long k2)] (.long (0 : Int64))) :
    MetFree l (⟨"corro/core/LimitLevels", "price", "(I)J"⟩ : MethodName) (head1 (Jvm.Cond.code (⟨"corro/core/LimitLevels", "price", "(I)J"⟩ : MethodName) prog_14_method_3_code 4 (some .long) :: ws) ({ frames := 0, cells := 0, slots := 0, locals := 0 } : Room)) (fun a U => a = #[(.ref a1), (.int (1 : Int32))] ∧ Z.Warmed39 U.vm ∧ U.heap = h0) (fun _ _ _ _ _ => True) (fun _ U o U' => ∃ v L, o = .returned v ∧ Q_rmQ3_1 Z a1 hf xa kk k0 k1 k2 h0 n0 v U'.heap L ∧ FrameEnd U o U' L ({ frames := 0, cells := 0, slots := 0, locals := 0 } : Room).cells ({ frames := 0, cells := 0, slots := 0, locals := 0 } : Room).slots) := by
  refine MetFree.of_bodySF (plainFor_of_name pn_1) hisR ?_
  intro p e s m args below meth c s₁ Bd hml0 hP hK
  obtain ⟨rfl, hZ, hh⟩ := hP
  have hx := Bd.exec
  have hby := Bd.bytes
  have hml : c.maxLocals = 4 := hml0
  have hown : s.vm.findClass "corro/core/LimitLevels" = some m.cls := findClass_of_methodNamed Bd.named
  have hnm := (name_of_methodNamed Bd.named Bd.method).1
  have X0 : Stand p l e ({ frames := 0, cells := 0, slots := 0, locals := 0 } : Room) s m #[(.ref a1), (.int (1 : Int32))] below meth c s₁ [] 0 0 := Stand.of_body Bd
  have e0 : s₁.heap = h0 := by rw [← hh, Bd.state]; rfl
  have N0 := Fr.nil n0
  suffices G0 : own_G p e below (own_E s below (Q_rmQ3_1 Z a1 hf xa kk k0 k1 k2 h0 n0) ({ frames := 0, cells := 0, slots := 0, locals := 0 } : Room).cells ({ frames := 0, cells := 0, slots := 0, locals := 0 } : Room).slots) s₁ (mkF m 0 #[.val (.ref a1), .val (.int (1 : Int32)), .unset, .unset] []) by
    obtain ⟨zt, zst, zo, zq1, zq2, zq3⟩ := G0
    exact ⟨zt, zo, castTop (ef_rmQ3_1 m a1) zst, zq1, zq2, zq3⟩
  obtain ⟨Φ, hΦ⟩ : ∃ Φ, Φ = own_E s below (Q_rmQ3_1 Z a1 hf xa kk k0 k1 k2 h0 n0) ({ frames := 0, cells := 0, slots := 0, locals := 0 } : Room).cells ({ frames := 0, cells := 0, slots := 0, locals := 0 } : Room).slots := ⟨_, rfl⟩
  rw [← hΦ]
  show own_G p e below Φ s₁ (mkF m 0 #[.val (.ref a1), .val (.int (1 : Int32)), .unset, .unset] [])
  refine own_go (fun _ => XS.aloadN X0.here hx rfl (hb hby d14_0) rfl rfl) ?_
  show own_G p e below Φ s₁ (mkF m 1 #[.val (.ref a1), .val (.int (1 : Int32)), .unset, .unset] [(.ref a1)])
  obtain ⟨T1, X1, e1, st1⟩ := getF X0 hx hZ hown (host := "") (Or.inl (wd_18 hw)) Via.refl e0 F_keys_a1 (g := (mkF m 1 #[.val (.ref a1), .val (.int (1 : Int32)), .unset, .unset] [(.ref a1)])) rfl rfl (hb hby d14_1)
  refine own_go st1 ?_
  refine own_go (fun _ => XS.aloadN X1.here hx rfl (hb hby d14_4) rfl rfl) ?_
  show own_G p e below Φ T1 (mkF m 5 #[.val (.ref a1), .val (.int (1 : Int32)), .unset, .unset] [(.ref a1), (.ref xa)])
  obtain ⟨T2, X2, e2, st2⟩ := getF X1 hx hZ hown (host := "") (Or.inl (wd_37 hw)) Via.refl e1 F_size_a1 (g := (mkF m 5 #[.val (.ref a1), .val (.int (1 : Int32)), .unset, .unset] [(.ref a1), (.ref xa)])) rfl rfl (hb hby d14_5)
  refine own_go st2 ?_
  refine own_go (fun _ => XS.iconst X2.here hx rfl (hb hby d14_8)) ?_
  show own_G p e below Φ T2 (mkF m 9 #[.val (.ref a1), .val (.int (1 : Int32)), .unset, .unset] [(.int (1 : Int32)), (.int (3 : Int32)), (.ref xa)])
  refine own_go (fun _ => XS.isub X2.here hx rfl (hb hby d14_9) rfl) ?_
  refine own_go (fun _ => XS.iloadN X2.here hx rfl (hb hby d14_10) rfl) ?_
  show own_G p e below Φ T2 (mkF m 11 #[.val (.ref a1), .val (.int (1 : Int32)), .unset, .unset] [(.int (1 : Int32)), (.int (2 : Int32)), (.ref xa)])
  refine own_go (fun _ => XS.isub X2.here hx rfl (hb hby d14_11) rfl) ?_
  show own_G p e below Φ T2 (mkF m 12 #[.val (.ref a1), .val (.int (1 : Int32)), .unset, .unset] [(.int (1 : Int32)), (.ref xa)])
  obtain ⟨cl3, Ar3, zq3, S3, M3, H3, G3⟩ := id V_xa
  have hin3 : ¬ ((1 : Int32) < 0 ∨ cl3.slots.size ≤ ((1 : Int32)).toNatClampNeg) := inb_of S3 ⟨by decide, by decide⟩
  refine own_go (fun _ => X2.laload hx (j := (1 : Int32)) (v := (.long k1)) (by rw [e2]; exact Ar3.1) (State.isArrayOf_alike hZ.alike Ar3.2.1) Ar3.2.2 hin3 (H3.at hin3 rfl) (g := (mkF m 12 #[.val (.ref a1), .val (.int (1 : Int32)), .unset, .unset] [(.int (1 : Int32)), (.ref xa)])) rfl rfl (hb hby d14_12) _) ?_
  refine own_go (fun _ => XS.lstoreN X2.here hx rfl (hb hby d14_13) rfl (l' := #[.val (.ref a1), .val (.int (1 : Int32)), .val (.long k1), .second]) rfl) ?_
  refine own_go (fun _ => XS.aloadN X2.here hx rfl (hb hby d14_14) rfl rfl) ?_
  show own_G p e below Φ T2 (mkF m 15 #[.val (.ref a1), .val (.int (1 : Int32)), .val (.long k1), .second] [(.ref a1)])
  obtain ⟨T4, X4, e4, st4⟩ := getF X2 hx hZ hown (host := "") (Or.inl (wd_26 hw)) Via.refl e2 F_highestFirst_a1 (g := (mkF m 15 #[.val (.ref a1), .val (.int (1 : Int32)), .val (.long k1), .second] [(.ref a1)])) rfl rfl (hb hby d14_15)
  refine own_go st4 ?_
  show own_G p e below Φ T4 (mkF m 18 #[.val (.ref a1), .val (.int (1 : Int32)), .val (.long k1), .second] [(.int hf)])
  by_cases hc18 : hf = (0 : Int32)
  · refine own_go (fun _ => XS.ifYes X4.here hx rfl (pc0 := 18) (pc' := 25) rfl (hb hby d14_18) rfl (Jvm.Free.XT.i0_eq_t hc18) (by decide) (by decide)) ?_
    refine own_go (fun _ => XS.lloadN X4.here hx rfl (hb hby d14_25) rfl) ?_
    show own_G p e below Φ T4 (mkF m 26 #[.val (.ref a1), .val (.int (1 : Int32)), .val (.long k1), .second] [(.long k1)])
    refine own_go (fun _ => XS.lneg X4.here hx rfl (hb hby d14_26) rfl) ?_
    show own_G p e below Φ T4 (mkF m 27 #[.val (.ref a1), .val (.int (1 : Int32)), .val (.long k1), .second] [(.long ((-k1)))])
    rw [hΦ]
    refine own_ret X4 (v := some (.long ((-k1)))) (fun h => by rw [Bd.returns] at h; cases h) (BodyLoose.notSynchronized Bd) (fun fs hr => retOut X4 hx Bd.returns rfl (Or.inr (Or.inl ⟨rfl, rfl, _, rfl⟩)) (hb hby d14_27) hr) ?_ (by decide) (by decide)
    rw [e4]
    exact ⟨(by simp [own_key, hc18]), N0, rfl⟩
  · refine own_go (fun _ => XS.ifNo X4.here hx rfl (hb hby d14_18) rfl (Jvm.Free.XT.i0_eq_f hc18)) ?_
    refine own_go (fun _ => XS.lloadN X4.here hx rfl (hb hby d14_21) rfl) ?_
    refine own_go (fun _ => XS.goto X4.here hx rfl (pc0 := 22) (pc' := 27) rfl (hb hby d14_22) (by decide) (by decide)) ?_
    show own_G p e below Φ T4 (mkF m 27 #[.val (.ref a1), .val (.int (1 : Int32)), .val (.long k1), .second] [(.long k1)])
    rw [hΦ]
    refine own_ret X4 (v := some (.long k1)) (fun h => by rw [Bd.returns] at h; cases h) (BodyLoose.notSynchronized Bd) (fun fs hr => retOut X4 hx Bd.returns rfl (Or.inr (Or.inl ⟨rfl, rfl, _, rfl⟩)) (hb hby d14_27) hr) ?_ (by decide) (by decide)
    rw [e4]
    exact ⟨(by simp [own_key, hc18]), N0, rfl⟩
theorem ef_rmQ3_2 (m : MethodId) (a1 : Addr) : entryFrame m #[(.ref a1), (.int (2 : Int32))] 4 = mkF m 0 #[.val (.ref a1), .val (.int (2 : Int32)), .unset, .unset] [] := by first | (simp [entryFrame, mkF, argsToLocals, Value.category]; done) | rfl
def Q_rmQ3_2 (Z : State) (a1 : Addr) (hf : Int32) (xa : Addr) (kk : ClassId) (k0 : Int64) (k1 : Int64) (k2 : Int64) (h0 : Heap) (n0 : Nat) (v : Option Value) (h : Heap) (L : List Loc) : Prop := v = some (.long (own_key hf k0)) ∧ Fr n0 L ∧ h = h0
set_option maxRecDepth 65536 in
set_option maxHeartbeats 40000000 in
theorem rmQ3_2 (l : Launch) (Z : State) (a0 : Array Value) (hw : ∀ d ∈ tables_1, d.before a0 Z = true) (ws : List Jvm.Cond) (a1 : Addr) (hf : Int32) (xa : Addr) (kk : ClassId) (k0 : Int64) (k1 : Int64) (k2 : Int64) (h0 : Heap) (n0 : Nat) (Z0 : n0 ≤ h0.size) (F_keys_a1 : Fld Z h0 a1 "corro/core/LimitLevels" "keys" "[J" (.ref xa)) (F_size_a1 : Fld Z h0 a1 "corro/core/LimitLevels" "size" "I" (.int (3 : Int32))) (F_highestFirst_a1 : Fld Z h0 a1 "corro/core/LimitLevels" "highestFirst" "Z" (.int hf)) (V_xa : Arv Z h0 xa kk .long (64 : Int32) [(.long k0), (.long k1), (.long k2)] (.long (0 : Int64))) :
    MetFree l (⟨"corro/core/LimitLevels", "price", "(I)J"⟩ : MethodName) (head1 (Jvm.Cond.code (⟨"corro/core/LimitLevels", "price", "(I)J"⟩ : MethodName) prog_14_method_3_code 4 (some .long) :: ws) ({ frames := 0, cells := 0, slots := 0, locals := 0 } : Room)) (fun a U => a = #[(.ref a1), (.int (2 : Int32))] ∧ Z.Warmed39 U.vm ∧ U.heap = h0) (fun _ _ _ _ _ => True) (fun _ U o U' => ∃ v L, o = .returned v ∧ Q_rmQ3_2 Z a1 hf xa kk k0 k1 k2 h0 n0 v U'.heap L ∧ FrameEnd U o U' L ({ frames := 0, cells := 0, slots := 0, locals := 0 } : Room).cells ({ frames := 0, cells := 0, slots := 0, locals := 0 } : Room).slots) := by
  refine MetFree.of_bodySF (plainFor_of_name pn_1) hisR ?_
  intro p e s m args below meth c s₁ Bd hml0 hP hK
  obtain ⟨rfl, hZ, hh⟩ := hP
  have hx := Bd.exec
  have hby := Bd.bytes
  have hml : c.maxLocals = 4 := hml0
  have hown : s.vm.findClass "corro/core/LimitLevels" = some m.cls := findClass_of_methodNamed Bd.named
  have hnm := (name_of_methodNamed Bd.named Bd.method).1
  have X0 : Stand p l e ({ frames := 0, cells := 0, slots := 0, locals := 0 } : Room) s m #[(.ref a1), (.int (2 : Int32))] below meth c s₁ [] 0 0 := Stand.of_body Bd
  have e0 : s₁.heap = h0 := by rw [← hh, Bd.state]; rfl
  have N0 := Fr.nil n0
  suffices G0 : own_G p e below (own_E s below (Q_rmQ3_2 Z a1 hf xa kk k0 k1 k2 h0 n0) ({ frames := 0, cells := 0, slots := 0, locals := 0 } : Room).cells ({ frames := 0, cells := 0, slots := 0, locals := 0 } : Room).slots) s₁ (mkF m 0 #[.val (.ref a1), .val (.int (2 : Int32)), .unset, .unset] []) by
    obtain ⟨zt, zst, zo, zq1, zq2, zq3⟩ := G0
    exact ⟨zt, zo, castTop (ef_rmQ3_2 m a1) zst, zq1, zq2, zq3⟩
  obtain ⟨Φ, hΦ⟩ : ∃ Φ, Φ = own_E s below (Q_rmQ3_2 Z a1 hf xa kk k0 k1 k2 h0 n0) ({ frames := 0, cells := 0, slots := 0, locals := 0 } : Room).cells ({ frames := 0, cells := 0, slots := 0, locals := 0 } : Room).slots := ⟨_, rfl⟩
  rw [← hΦ]
  show own_G p e below Φ s₁ (mkF m 0 #[.val (.ref a1), .val (.int (2 : Int32)), .unset, .unset] [])
  refine own_go (fun _ => XS.aloadN X0.here hx rfl (hb hby d14_0) rfl rfl) ?_
  show own_G p e below Φ s₁ (mkF m 1 #[.val (.ref a1), .val (.int (2 : Int32)), .unset, .unset] [(.ref a1)])
  obtain ⟨T1, X1, e1, st1⟩ := getF X0 hx hZ hown (host := "") (Or.inl (wd_18 hw)) Via.refl e0 F_keys_a1 (g := (mkF m 1 #[.val (.ref a1), .val (.int (2 : Int32)), .unset, .unset] [(.ref a1)])) rfl rfl (hb hby d14_1)
  refine own_go st1 ?_
  refine own_go (fun _ => XS.aloadN X1.here hx rfl (hb hby d14_4) rfl rfl) ?_
  show own_G p e below Φ T1 (mkF m 5 #[.val (.ref a1), .val (.int (2 : Int32)), .unset, .unset] [(.ref a1), (.ref xa)])
  obtain ⟨T2, X2, e2, st2⟩ := getF X1 hx hZ hown (host := "") (Or.inl (wd_37 hw)) Via.refl e1 F_size_a1 (g := (mkF m 5 #[.val (.ref a1), .val (.int (2 : Int32)), .unset, .unset] [(.ref a1), (.ref xa)])) rfl rfl (hb hby d14_5)
  refine own_go st2 ?_
  refine own_go (fun _ => XS.iconst X2.here hx rfl (hb hby d14_8)) ?_
  show own_G p e below Φ T2 (mkF m 9 #[.val (.ref a1), .val (.int (2 : Int32)), .unset, .unset] [(.int (1 : Int32)), (.int (3 : Int32)), (.ref xa)])
  refine own_go (fun _ => XS.isub X2.here hx rfl (hb hby d14_9) rfl) ?_
  refine own_go (fun _ => XS.iloadN X2.here hx rfl (hb hby d14_10) rfl) ?_
  show own_G p e below Φ T2 (mkF m 11 #[.val (.ref a1), .val (.int (2 : Int32)), .unset, .unset] [(.int (2 : Int32)), (.int (2 : Int32)), (.ref xa)])
  refine own_go (fun _ => XS.isub X2.here hx rfl (hb hby d14_11) rfl) ?_
  show own_G p e below Φ T2 (mkF m 12 #[.val (.ref a1), .val (.int (2 : Int32)), .unset, .unset] [(.int (0 : Int32)), (.ref xa)])
  obtain ⟨cl3, Ar3, zq3, S3, M3, H3, G3⟩ := id V_xa
  have hin3 : ¬ ((0 : Int32) < 0 ∨ cl3.slots.size ≤ ((0 : Int32)).toNatClampNeg) := inb_of S3 ⟨by decide, by decide⟩
  refine own_go (fun _ => X2.laload hx (j := (0 : Int32)) (v := (.long k0)) (by rw [e2]; exact Ar3.1) (State.isArrayOf_alike hZ.alike Ar3.2.1) Ar3.2.2 hin3 (H3.at hin3 rfl) (g := (mkF m 12 #[.val (.ref a1), .val (.int (2 : Int32)), .unset, .unset] [(.int (0 : Int32)), (.ref xa)])) rfl rfl (hb hby d14_12) _) ?_
  refine own_go (fun _ => XS.lstoreN X2.here hx rfl (hb hby d14_13) rfl (l' := #[.val (.ref a1), .val (.int (2 : Int32)), .val (.long k0), .second]) rfl) ?_
  refine own_go (fun _ => XS.aloadN X2.here hx rfl (hb hby d14_14) rfl rfl) ?_
  show own_G p e below Φ T2 (mkF m 15 #[.val (.ref a1), .val (.int (2 : Int32)), .val (.long k0), .second] [(.ref a1)])
  obtain ⟨T4, X4, e4, st4⟩ := getF X2 hx hZ hown (host := "") (Or.inl (wd_26 hw)) Via.refl e2 F_highestFirst_a1 (g := (mkF m 15 #[.val (.ref a1), .val (.int (2 : Int32)), .val (.long k0), .second] [(.ref a1)])) rfl rfl (hb hby d14_15)
  refine own_go st4 ?_
  show own_G p e below Φ T4 (mkF m 18 #[.val (.ref a1), .val (.int (2 : Int32)), .val (.long k0), .second] [(.int hf)])
  by_cases hc18 : hf = (0 : Int32)
  · refine own_go (fun _ => XS.ifYes X4.here hx rfl (pc0 := 18) (pc' := 25) rfl (hb hby d14_18) rfl (Jvm.Free.XT.i0_eq_t hc18) (by decide) (by decide)) ?_
    refine own_go (fun _ => XS.lloadN X4.here hx rfl (hb hby d14_25) rfl) ?_
    show own_G p e below Φ T4 (mkF m 26 #[.val (.ref a1), .val (.int (2 : Int32)), .val (.long k0), .second] [(.long k0)])
    refine own_go (fun _ => XS.lneg X4.here hx rfl (hb hby d14_26) rfl) ?_
    show own_G p e below Φ T4 (mkF m 27 #[.val (.ref a1), .val (.int (2 : Int32)), .val (.long k0), .second] [(.long ((-k0)))])
    rw [hΦ]
    refine own_ret X4 (v := some (.long ((-k0)))) (fun h => by rw [Bd.returns] at h; cases h) (BodyLoose.notSynchronized Bd) (fun fs hr => retOut X4 hx Bd.returns rfl (Or.inr (Or.inl ⟨rfl, rfl, _, rfl⟩)) (hb hby d14_27) hr) ?_ (by decide) (by decide)
    rw [e4]
    exact ⟨(by simp [own_key, hc18]), N0, rfl⟩
  · refine own_go (fun _ => XS.ifNo X4.here hx rfl (hb hby d14_18) rfl (Jvm.Free.XT.i0_eq_f hc18)) ?_
    refine own_go (fun _ => XS.lloadN X4.here hx rfl (hb hby d14_21) rfl) ?_
    refine own_go (fun _ => XS.goto X4.here hx rfl (pc0 := 22) (pc' := 27) rfl (hb hby d14_22) (by decide) (by decide)) ?_
    show own_G p e below Φ T4 (mkF m 27 #[.val (.ref a1), .val (.int (2 : Int32)), .val (.long k0), .second] [(.long k0)])
    rw [hΦ]
    refine own_ret X4 (v := some (.long k0)) (fun h => by rw [Bd.returns] at h; cases h) (BodyLoose.notSynchronized Bd) (fun fs hr => retOut X4 hx Bd.returns rfl (Or.inr (Or.inl ⟨rfl, rfl, _, rfl⟩)) (hb hby d14_27) hr) ?_ (by decide) (by decide)
    rw [e4]
    exact ⟨(by simp [own_key, hc18]), N0, rfl⟩
theorem wd_0 {Z : State} {a0 : Array Value} (hw : ∀ d ∈ tables_1, d.before a0 Z = true) : ((Jvm.Cond.methodLink "corro/core/LimitLevelsPricePinLaw" (7 : Nat) ({ cls := "corro/core/LimitLevelsPricePinLaw", name := "positive", desc := "(J)J" } : Jvm.MethodName)) : Jvm.Cond).before a0 Z = true := hw _ (List.mem_of_getElem? (i := 0) rfl)
theorem wd_3 {Z : State} {a0 : Array Value} (hw : ∀ d ∈ tables_1, d.before a0 Z = true) : ((Jvm.Cond.code ({ cls := "corro/core/LimitLevelsPricePinLaw", name := "positive", desc := "(J)J" } : Jvm.MethodName) method_3_code (4 : Nat) (Option.some Jvm.ClassFile.FieldType.long)) : Jvm.Cond).before a0 Z = true := hw _ (List.mem_of_getElem? (i := 3) rfl)
theorem wd_2 {Z : State} {a0 : Array Value} (hw : ∀ d ∈ tables_1, d.before a0 Z = true) : ((Jvm.Cond.initialized "corro/core/LimitLevelsPricePinLaw") : Jvm.Cond).before a0 Z = true := hw _ (List.mem_of_getElem? (i := 2) rfl)
theorem wd_1 {Z : State} {a0 : Array Value} (hw : ∀ d ∈ tables_1, d.before a0 Z = true) : ((Jvm.Cond.static ({ cls := "corro/core/LimitLevelsPricePinLaw", name := "positive", desc := "(J)J" } : Jvm.MethodName)) : Jvm.Cond).before a0 Z = true := hw _ (List.mem_of_getElem? (i := 1) rfl)
theorem wd_64 {Z : State} {a0 : Array Value} (hw : ∀ d ∈ tables_1, d.before a0 Z = true) : ((Jvm.Cond.methodLink "corro/core/LimitLevelsPricePinLaw" (31 : Nat) ({ cls := "java/lang/Math", name := "max", desc := "(JJ)J" } : Jvm.MethodName)) : Jvm.Cond).before a0 Z = true := hw _ (List.mem_of_getElem? (i := 64) rfl)
theorem wd_67 {Z : State} {a0 : Array Value} (hw : ∀ d ∈ tables_1, d.before a0 Z = true) : ((Jvm.Cond.code ({ cls := "java/lang/Math", name := "max", desc := "(JJ)J" } : Jvm.MethodName) jdk_29_method_66_code (4 : Nat) (Option.some Jvm.ClassFile.FieldType.long)) : Jvm.Cond).before a0 Z = true := hw _ (List.mem_of_getElem? (i := 67) rfl)
theorem wd_66 {Z : State} {a0 : Array Value} (hw : ∀ d ∈ tables_1, d.before a0 Z = true) : ((Jvm.Cond.initialized "java/lang/Math") : Jvm.Cond).before a0 Z = true := hw _ (List.mem_of_getElem? (i := 66) rfl)
theorem pd_5 : parseMethodDescriptor "(JJ)J" = some ⟨[.long, .long], some .long⟩ := by decide +kernel
theorem wd_65 {Z : State} {a0 : Array Value} (hw : ∀ d ∈ tables_1, d.before a0 Z = true) : ((Jvm.Cond.static ({ cls := "java/lang/Math", name := "max", desc := "(JJ)J" } : Jvm.MethodName)) : Jvm.Cond).before a0 Z = true := hw _ (List.mem_of_getElem? (i := 65) rfl)
theorem wd_68 {Z : State} {a0 : Array Value} (hw : ∀ d ∈ tables_1, d.before a0 Z = true) : ((Jvm.Cond.methodLink "corro/core/LimitLevelsPricePinLaw" (37 : Nat) ({ cls := "java/lang/Math", name := "min", desc := "(JJ)J" } : Jvm.MethodName)) : Jvm.Cond).before a0 Z = true := hw _ (List.mem_of_getElem? (i := 68) rfl)
theorem wd_70 {Z : State} {a0 : Array Value} (hw : ∀ d ∈ tables_1, d.before a0 Z = true) : ((Jvm.Cond.code ({ cls := "java/lang/Math", name := "min", desc := "(JJ)J" } : Jvm.MethodName) jdk_29_method_70_code (4 : Nat) (Option.some Jvm.ClassFile.FieldType.long)) : Jvm.Cond).before a0 Z = true := hw _ (List.mem_of_getElem? (i := 70) rfl)
theorem wd_69 {Z : State} {a0 : Array Value} (hw : ∀ d ∈ tables_1, d.before a0 Z = true) : ((Jvm.Cond.static ({ cls := "java/lang/Math", name := "min", desc := "(JJ)J" } : Jvm.MethodName)) : Jvm.Cond).before a0 Z = true := hw _ (List.mem_of_getElem? (i := 69) rfl)
theorem wd_71 {Z : State} {a0 : Array Value} (hw : ∀ d ∈ tables_1, d.before a0 Z = true) : ((Jvm.Cond.methodLink "corro/core/LimitLevelsPricePinLaw" (40 : Nat) ({ cls := "corro/core/LimitLevels", name := "size", desc := "()I" } : Jvm.MethodName)) : Jvm.Cond).before a0 Z = true := hw _ (List.mem_of_getElem? (i := 71) rfl)
theorem wd_75 {Z : State} {a0 : Array Value} (hw : ∀ d ∈ tables_1, d.before a0 Z = true) : ((Jvm.Cond.code ({ cls := "corro/core/LimitLevels", name := "size", desc := "()I" } : Jvm.MethodName) prog_14_method_2_code (1 : Nat) (Option.some Jvm.ClassFile.FieldType.int)) : Jvm.Cond).before a0 Z = true := hw _ (List.mem_of_getElem? (i := 75) rfl)
theorem pd_6 : parseMethodDescriptor "()I" = some ⟨[], some .int⟩ := by decide +kernel
theorem wd_74 {Z : State} {a0 : Array Value} (hw : ∀ d ∈ tables_1, d.before a0 Z = true) : ((Jvm.Cond.selects "corro/core/LimitLevels" ({ cls := "corro/core/LimitLevels", name := "size", desc := "()I" } : Jvm.MethodName) ({ cls := "corro/core/LimitLevels", name := "size", desc := "()I" } : Jvm.MethodName)) : Jvm.Cond).before a0 Z = true := hw _ (List.mem_of_getElem? (i := 74) rfl)
theorem wd_72 {Z : State} {a0 : Array Value} (hw : ∀ d ∈ tables_1, d.before a0 Z = true) : ((Jvm.Cond.declares ({ cls := "corro/core/LimitLevels", name := "size", desc := "()I" } : Jvm.MethodName)) : Jvm.Cond).before a0 Z = true := hw _ (List.mem_of_getElem? (i := 72) rfl)
theorem wd_73 {Z : State} {a0 : Array Value} (hw : ∀ d ∈ tables_1, d.before a0 Z = true) : ((Jvm.Cond.instanceMethod ({ cls := "corro/core/LimitLevels", name := "size", desc := "()I" } : Jvm.MethodName)) : Jvm.Cond).before a0 Z = true := hw _ (List.mem_of_getElem? (i := 73) rfl)
theorem wd_76 {Z : State} {a0 : Array Value} (hw : ∀ d ∈ tables_1, d.before a0 Z = true) : ((Jvm.Cond.methodLink "corro/core/LimitLevelsPricePinLaw" (44 : Nat) ({ cls := "corro/core/LimitLevels", name := "price", desc := "(I)J" } : Jvm.MethodName)) : Jvm.Cond).before a0 Z = true := hw _ (List.mem_of_getElem? (i := 76) rfl)
theorem wd_80 {Z : State} {a0 : Array Value} (hw : ∀ d ∈ tables_1, d.before a0 Z = true) : ((Jvm.Cond.code ({ cls := "corro/core/LimitLevels", name := "price", desc := "(I)J" } : Jvm.MethodName) prog_14_method_3_code (4 : Nat) (Option.some Jvm.ClassFile.FieldType.long)) : Jvm.Cond).before a0 Z = true := hw _ (List.mem_of_getElem? (i := 80) rfl)
theorem pd_7 : parseMethodDescriptor "(I)J" = some ⟨[.int], some .long⟩ := by decide +kernel
theorem wd_79 {Z : State} {a0 : Array Value} (hw : ∀ d ∈ tables_1, d.before a0 Z = true) : ((Jvm.Cond.selects "corro/core/LimitLevels" ({ cls := "corro/core/LimitLevels", name := "price", desc := "(I)J" } : Jvm.MethodName) ({ cls := "corro/core/LimitLevels", name := "price", desc := "(I)J" } : Jvm.MethodName)) : Jvm.Cond).before a0 Z = true := hw _ (List.mem_of_getElem? (i := 79) rfl)
theorem wd_77 {Z : State} {a0 : Array Value} (hw : ∀ d ∈ tables_1, d.before a0 Z = true) : ((Jvm.Cond.declares ({ cls := "corro/core/LimitLevels", name := "price", desc := "(I)J" } : Jvm.MethodName)) : Jvm.Cond).before a0 Z = true := hw _ (List.mem_of_getElem? (i := 77) rfl)
theorem wd_78 {Z : State} {a0 : Array Value} (hw : ∀ d ∈ tables_1, d.before a0 Z = true) : ((Jvm.Cond.instanceMethod ({ cls := "corro/core/LimitLevels", name := "price", desc := "(I)J" } : Jvm.MethodName)) : Jvm.Cond).before a0 Z = true := hw _ (List.mem_of_getElem? (i := 78) rfl)
theorem wd_28 {Z : State} {a0 : Array Value} (hw : ∀ d ∈ tables_1, d.before a0 Z = true) : ((Jvm.Cond.methodLink "corro/core/LimitLevelsPricePinLaw" (27 : Nat) ({ cls := "corro/core/LimitLevels", name := "getOrAdd", desc := "(J)Lcorro/core/Level;" } : Jvm.MethodName)) : Jvm.Cond).before a0 Z = true := hw _ (List.mem_of_getElem? (i := 28) rfl)
theorem wd_32 {Z : State} {a0 : Array Value} (hw : ∀ d ∈ tables_1, d.before a0 Z = true) : ((Jvm.Cond.code ({ cls := "corro/core/LimitLevels", name := "getOrAdd", desc := "(J)Lcorro/core/Level;" } : Jvm.MethodName) prog_14_method_7_code (5 : Nat) (Option.some (Jvm.ClassFile.FieldType.object "corro/core/Level"))) : Jvm.Cond).before a0 Z = true := hw _ (List.mem_of_getElem? (i := 32) rfl)
theorem pd_8 : parseMethodDescriptor "(J)Lcorro/core/Level;" = some ⟨[.long], some (.object "corro/core/Level")⟩ := by decide +kernel
theorem wd_29 {Z : State} {a0 : Array Value} (hw : ∀ d ∈ tables_1, d.before a0 Z = true) : ((Jvm.Cond.declares ({ cls := "corro/core/LimitLevels", name := "getOrAdd", desc := "(J)Lcorro/core/Level;" } : Jvm.MethodName)) : Jvm.Cond).before a0 Z = true := hw _ (List.mem_of_getElem? (i := 29) rfl)
theorem wd_5 {Z : State} {a0 : Array Value} (hw : ∀ d ∈ tables_1, d.before a0 Z = true) : ((Jvm.Cond.classLink "corro/core/LimitLevelsPricePinLaw" (13 : Nat) "corro/core/LimitLevels") : Jvm.Cond).before a0 Z = true := hw _ (List.mem_of_getElem? (i := 5) rfl)
theorem wd_8 {Z : State} {a0 : Array Value} (hw : ∀ d ∈ tables_1, d.before a0 Z = true) : ((Jvm.Cond.fieldLink "corro/core/LimitLevelsPricePinLaw" (21 : Nat) "corro/core/Side" "SELL" "Lcorro/core/Side;") : Jvm.Cond).before a0 Z = true := hw _ (List.mem_of_getElem? (i := 8) rfl)
theorem wd_11 {Z : State} {a0 : Array Value} (hw : ∀ d ∈ tables_1, d.before a0 Z = true) : ((Jvm.Cond.methodLink "corro/core/LimitLevelsPricePinLaw" (24 : Nat) ({ cls := "corro/core/LimitLevels", name := "<init>", desc := "(Lcorro/core/Side;)V" } : Jvm.MethodName)) : Jvm.Cond).before a0 Z = true := hw _ (List.mem_of_getElem? (i := 11) rfl)
theorem wd_13 {Z : State} {a0 : Array Value} (hw : ∀ d ∈ tables_1, d.before a0 Z = true) : ((Jvm.Cond.code ({ cls := "corro/core/LimitLevels", name := "<init>", desc := "(Lcorro/core/Side;)V" } : Jvm.MethodName) prog_14_method_1_code (2 : Nat) (Option.none : Option Jvm.ClassFile.FieldType)) : Jvm.Cond).before a0 Z = true := hw _ (List.mem_of_getElem? (i := 13) rfl)
theorem pd_9 : parseMethodDescriptor "(Lcorro/core/Side;)V" = some ⟨[(.object "corro/core/Side")], none⟩ := by decide +kernel
theorem wd_12 {Z : State} {a0 : Array Value} (hw : ∀ d ∈ tables_1, d.before a0 Z = true) : ((Jvm.Cond.instanceMethod ({ cls := "corro/core/LimitLevels", name := "<init>", desc := "(Lcorro/core/Side;)V" } : Jvm.MethodName)) : Jvm.Cond).before a0 Z = true := hw _ (List.mem_of_getElem? (i := 12) rfl)
theorem wd_81 {Z : State} {a0 : Array Value} (hw : ∀ d ∈ tables_1, d.before a0 Z = true) : ((Jvm.Cond.fieldLink "corro/core/LimitLevelsPricePinLaw" (15 : Nat) "corro/core/Side" "BUY" "Lcorro/core/Side;") : Jvm.Cond).before a0 Z = true := hw _ (List.mem_of_getElem? (i := 81) rfl)
theorem ef_rm0 (m : MethodId) (p0 : Int32) (qx : Int64) (qy : Int64) (qz : Int64) : entryFrame m #[(.int p0), (.long qx), (.long qy), (.long qz)] maxLocals = mkF m 0 #[.val (.int p0), .val (.long qx), .second, .val (.long qy), .second, .val (.long qz), .second, .unset, .unset, .unset, .unset, .unset, .unset, .unset, .unset, .unset, .unset, .unset, .unset, .unset, .unset, .unset, .unset, .unset, .unset, .unset, .unset, .unset, .unset, .unset, .unset, .unset] [] := by first | (simp [entryFrame, mkF, argsToLocals, Value.category, maxLocals]; done) | rfl
def Q_rm0 (Z : State) (p0 : Int32) (qx : Int64) (qy : Int64) (qz : Int64) (sb : Addr) (ss : Addr) (h0 : Heap) (n0 : Nat) (v : Option Value) (h : Heap) (L : List Loc) : Prop := v = some (.int (1 : Int32)) ∧ Fr n0 L
set_option maxRecDepth 65536 in
set_option maxHeartbeats 40000000 in
theorem rm0 (l : Launch) (Z : State) (a0 : Array Value) (hw : ∀ d ∈ tables_1, d.before a0 Z = true) (ws : List Jvm.Cond) (p0 : Int32) (qx : Int64) (qy : Int64) (qz : Int64) (sb : Addr) (ss : Addr) (h0 : Heap) (n0 : Nat) (Z0 : n0 ≤ h0.size) (O0 : Old Z n0 h0) (S_BUY : Sta Z Z.heap "corro/core/Side" "BUY" "Lcorro/core/Side;" (.ref sb)) (S_SELL : Sta Z Z.heap "corro/core/Side" "SELL" "Lcorro/core/Side;" (.ref ss)) (ne_ss_sb : ss ≠ sb) :
    MetFree l x (head1 (Jvm.Cond.code x code maxLocals ret :: ws) room_1) (fun a U => a = #[(.int p0), (.long qx), (.long qy), (.long qz)] ∧ Z.Warmed39 U.vm ∧ U.heap = h0) (fun _ _ _ _ _ => True) (fun _ U o U' => ∃ v L, o = .returned v ∧ Q_rm0 Z p0 qx qy qz sb ss h0 n0 v U'.heap L ∧ FrameEnd U o U' L room_1.cells room_1.slots) := by
  refine MetFree.of_bodySF (plainFor_of_name pn_0) hisR ?_
  intro p e s m args below meth c s₁ Bd hml0 hP hK
  obtain ⟨rfl, hZ, hh⟩ := hP
  have hx := Bd.exec
  have hby := Bd.bytes
  have hml : c.maxLocals = 32 := hml0
  have hown : s.vm.findClass "corro/core/LimitLevelsPricePinLaw" = some m.cls := findClass_of_methodNamed Bd.named
  have hnm := (name_of_methodNamed Bd.named Bd.method).1
  have X0 : Stand p l e room_1 s m #[(.int p0), (.long qx), (.long qy), (.long qz)] below meth c s₁ [] 0 0 := Stand.of_body Bd
  have e0 : s₁.heap = h0 := by rw [← hh, Bd.state]; rfl
  have N0 := Fr.nil n0
  suffices G0 : own_G p e below (own_E s below (Q_rm0 Z p0 qx qy qz sb ss h0 n0) room_1.cells room_1.slots) s₁ (mkF m 0 #[.val (.int p0), .val (.long qx), .second, .val (.long qy), .second, .val (.long qz), .second, .unset, .unset, .unset, .unset, .unset, .unset, .unset, .unset, .unset, .unset, .unset, .unset, .unset, .unset, .unset, .unset, .unset, .unset, .unset, .unset, .unset, .unset, .unset, .unset, .unset] []) by
    obtain ⟨zt, zst, zo, zq1, zq2, zq3⟩ := G0
    exact ⟨zt, zo, castTop (ef_rm0 m p0 qx qy qz) zst, zq1, zq2, zq3⟩
  obtain ⟨Φ, hΦ⟩ : ∃ Φ, Φ = own_E s below (Q_rm0 Z p0 qx qy qz sb ss h0 n0) room_1.cells room_1.slots := ⟨_, rfl⟩
  rw [← hΦ]
  show own_G p e below Φ s₁ (mkF m 0 #[.val (.int p0), .val (.long qx), .second, .val (.long qy), .second, .val (.long qz), .second, .unset, .unset, .unset, .unset, .unset, .unset, .unset, .unset, .unset, .unset, .unset, .unset, .unset, .unset, .unset, .unset, .unset, .unset, .unset, .unset, .unset, .unset, .unset, .unset, .unset] [])
  refine own_go (fun _ => XS.iloadN X0.here hx rfl (hb hby at_0) rfl) ?_
  refine own_go (fun _ => XS.iconst X0.here hx rfl (hb hby at_1)) ?_
  show own_G p e below Φ s₁ (mkF m 2 #[.val (.int p0), .val (.long qx), .second, .val (.long qy), .second, .val (.long qz), .second, .unset, .unset, .unset, .unset, .unset, .unset, .unset, .unset, .unset, .unset, .unset, .unset, .unset, .unset, .unset, .unset, .unset, .unset, .unset, .unset, .unset, .unset, .unset, .unset, .unset] [(.int (1 : Int32)), (.int p0)])
  refine own_go (fun _ => XS.iand X0.here hx rfl (hb hby at_2) rfl) ?_
  show own_G p e below Φ s₁ (mkF m 3 #[.val (.int p0), .val (.long qx), .second, .val (.long qy), .second, .val (.long qz), .second, .unset, .unset, .unset, .unset, .unset, .unset, .unset, .unset, .unset, .unset, .unset, .unset, .unset, .unset, .unset, .unset, .unset, .unset, .unset, .unset, .unset, .unset, .unset, .unset, .unset] [(.int (p0 &&& (1 : Int32)))])
  have hJ11_1 : ∀ (T' : State) (l' : List Loc), own_AlL X0 T' l' 0 0 → Fr n0 l' → T'.heap = h0 → ∀ (z7 : Int32), (z7 = 0 ∨ z7 = 1) → own_G p e below Φ T' (mkF m 11 #[.val (.int p0), .val (.long qx), .second, .val (.long qy), .second, .val (.long qz), .second, .unset, .unset, .unset, .unset, .unset, .unset, .unset, .unset, .unset, .unset, .unset, .unset, .unset, .unset, .unset, .unset, .unset, .unset, .unset, .unset, .unset, .unset, .unset, .unset, .unset] [(.int z7)]) := by
    intro T1 l1 X1' N1 e1 z7 h_z7
    have X1 : Stand _ _ _ _ _ _ _ _ _ _ T1 _ _ _ := X1'
    refine own_go (fun _ => XS.istore X1.here hx rfl (hb hby at_11) rfl (l' := #[.val (.int p0), .val (.long qx), .second, .val (.long qy), .second, .val (.long qz), .second, .val (.int z7), .unset, .unset, .unset, .unset, .unset, .unset, .unset, .unset, .unset, .unset, .unset, .unset, .unset, .unset, .unset, .unset, .unset, .unset, .unset, .unset, .unset, .unset, .unset, .unset]) rfl) ?_
    refine own_go (fun _ => XS.lloadN X1.here hx rfl (hb hby at_13) rfl) ?_
    show own_G p e below Φ T1 (mkF m 14 #[.val (.int p0), .val (.long qx), .second, .val (.long qy), .second, .val (.long qz), .second, .val (.int z7), .unset, .unset, .unset, .unset, .unset, .unset, .unset, .unset, .unset, .unset, .unset, .unset, .unset, .unset, .unset, .unset, .unset, .unset, .unset, .unset, .unset, .unset, .unset, .unset] [(.long qx)])
    obtain ⟨_, _, ⟨T2, zL2, zk2, zn2⟩, -, X2, ⟨Lc2, hQ2, zl2, zy2, zz2⟩, st2⟩ := Jvm.LawKit.callS X1 hx (y := (⟨"corro/core/LimitLevelsPricePinLaw", "positive", "(J)J"⟩ : MethodName)) hown (mvT hZ (wd_0 hw)) (mvT hZ (wd_1 hw)) (mvT hZ (wd_2 hw)) (mvT hZ (wd_3 hw)) (by decide) (backOf (W := 0) (rmP l Z a0 hw [] qx h0 n0 Z0 ) hZ (wd_3 hw) (wd_2 hw) (by decide) (by decide)) (g := (mkF m 14 #[.val (.int p0), .val (.long qx), .second, .val (.long qy), .second, .val (.long qz), .second, .val (.int z7), .unset, .unset, .unset, .unset, .unset, .unset, .unset, .unset, .unset, .unset, .unset, .unset, .unset, .unset, .unset, .unset, .unset, .unset, .unset, .unset, .unset, .unset, .unset, .unset] [(.long qx)])) rfl (by rw [hml]; rfl) (argsL := [(.long qx)]) (rest := []) (lenOf pd_2 rfl) rfl (by show 2 * 0 + _ ≤ _; exact Nat.le_of_eq rfl) (hb hby at_14) (fun _ _ => ⟨rfl, e1, (by decide : 0 + 0 ≤ _), (by decide : 0 + 0 ≤ _)⟩)
    dsimp only [Pt.U, Pt.locs, Pt.cells, Pt.slots] at X2 zl2 zy2 zz2 st2 hQ2
    subst zl2 zy2 zz2
    obtain ⟨rfl, N2q, hs2⟩ := hQ2
    have N2 := Fr.app N1 N2q
    refine own_go st2 ?_
    refine own_go (fun _ => XS.lstore X2.here hx rfl (hb hby at_17) rfl (l' := #[.val (.int p0), .val (.long qx), .second, .val (.long qy), .second, .val (.long qz), .second, .val (.int z7), .val (.long (own_pos qx)), .second, .unset, .unset, .unset, .unset, .unset, .unset, .unset, .unset, .unset, .unset, .unset, .unset, .unset, .unset, .unset, .unset, .unset, .unset, .unset, .unset, .unset, .unset]) rfl) ?_
    show own_G p e below Φ T2 (mkF m 19 #[.val (.int p0), .val (.long qx), .second, .val (.long qy), .second, .val (.long qz), .second, .val (.int z7), .val (.long (own_pos qx)), .second, .unset, .unset, .unset, .unset, .unset, .unset, .unset, .unset, .unset, .unset, .unset, .unset, .unset, .unset, .unset, .unset, .unset, .unset, .unset, .unset, .unset, .unset] [])
    generalize hx8_17 : (own_pos qx) = x8_17
    have hp8 : 0 < x8_17 := hx8_17 ▸ own_posP _
    refine own_go (fun _ => XS.iloadN X2.here hx rfl (hb hby at_19) rfl) ?_
    show own_G p e below Φ T2 (mkF m 20 #[.val (.int p0), .val (.long qx), .second, .val (.long qy), .second, .val (.long qz), .second, .val (.int z7), .val (.long x8_17), .second, .unset, .unset, .unset, .unset, .unset, .unset, .unset, .unset, .unset, .unset, .unset, .unset, .unset, .unset, .unset, .unset, .unset, .unset, .unset, .unset, .unset, .unset] [(.int p0)])
    refine own_go (fun _ => XS.iconst X2.here hx rfl (hb hby at_20)) ?_
    show own_G p e below Φ T2 (mkF m 21 #[.val (.int p0), .val (.long qx), .second, .val (.long qy), .second, .val (.long qz), .second, .val (.int z7), .val (.long x8_17), .second, .unset, .unset, .unset, .unset, .unset, .unset, .unset, .unset, .unset, .unset, .unset, .unset, .unset, .unset, .unset, .unset, .unset, .unset, .unset, .unset, .unset, .unset] [(.int (2 : Int32)), (.int p0)])
    refine own_go (fun _ => XS.iand X2.here hx rfl (hb hby at_21) rfl) ?_
    show own_G p e below Φ T2 (mkF m 22 #[.val (.int p0), .val (.long qx), .second, .val (.long qy), .second, .val (.long qz), .second, .val (.int z7), .val (.long x8_17), .second, .unset, .unset, .unset, .unset, .unset, .unset, .unset, .unset, .unset, .unset, .unset, .unset, .unset, .unset, .unset, .unset, .unset, .unset, .unset, .unset, .unset, .unset] [(.int (p0 &&& (2 : Int32)))])
    have hJ34_3 : ∀ (T' : State) (l' : List Loc), own_AlL X2 T' l' 0 0 → Fr n0 l' → T'.heap = h0 → ∀ (zb : Int64), (0 < zb) → own_G p e below Φ T' (mkF m 34 #[.val (.int p0), .val (.long qx), .second, .val (.long qy), .second, .val (.long qz), .second, .val (.int z7), .val (.long x8_17), .second, .unset, .unset, .unset, .unset, .unset, .unset, .unset, .unset, .unset, .unset, .unset, .unset, .unset, .unset, .unset, .unset, .unset, .unset, .unset, .unset, .unset, .unset] [(.long zb)]) := by
      intro T3 l3 X3' N3 e3 zb h_zb
      have X3 : Stand _ _ _ _ _ _ _ _ _ _ T3 _ _ _ := X3'
      refine own_go (fun _ => XS.lstore X3.here hx rfl (hb hby at_34) rfl (l' := #[.val (.int p0), .val (.long qx), .second, .val (.long qy), .second, .val (.long qz), .second, .val (.int z7), .val (.long x8_17), .second, .val (.long zb), .second, .unset, .unset, .unset, .unset, .unset, .unset, .unset, .unset, .unset, .unset, .unset, .unset, .unset, .unset, .unset, .unset, .unset, .unset, .unset, .unset]) rfl) ?_
      refine own_go (fun _ => XS.iloadN X3.here hx rfl (hb hby at_36) rfl) ?_
      show own_G p e below Φ T3 (mkF m 37 #[.val (.int p0), .val (.long qx), .second, .val (.long qy), .second, .val (.long qz), .second, .val (.int z7), .val (.long x8_17), .second, .val (.long zb), .second, .unset, .unset, .unset, .unset, .unset, .unset, .unset, .unset, .unset, .unset, .unset, .unset, .unset, .unset, .unset, .unset, .unset, .unset, .unset, .unset] [(.int p0)])
      refine own_go (fun _ => XS.iconst X3.here hx rfl (hb hby at_37)) ?_
      show own_G p e below Φ T3 (mkF m 38 #[.val (.int p0), .val (.long qx), .second, .val (.long qy), .second, .val (.long qz), .second, .val (.int z7), .val (.long x8_17), .second, .val (.long zb), .second, .unset, .unset, .unset, .unset, .unset, .unset, .unset, .unset, .unset, .unset, .unset, .unset, .unset, .unset, .unset, .unset, .unset, .unset, .unset, .unset] [(.int (4 : Int32)), (.int p0)])
      refine own_go (fun _ => XS.iand X3.here hx rfl (hb hby at_38) rfl) ?_
      show own_G p e below Φ T3 (mkF m 39 #[.val (.int p0), .val (.long qx), .second, .val (.long qy), .second, .val (.long qz), .second, .val (.int z7), .val (.long x8_17), .second, .val (.long zb), .second, .unset, .unset, .unset, .unset, .unset, .unset, .unset, .unset, .unset, .unset, .unset, .unset, .unset, .unset, .unset, .unset, .unset, .unset, .unset, .unset] [(.int (p0 &&& (4 : Int32)))])
      have hJ64_4 : ∀ (T' : State) (l' : List Loc), own_AlL X3 T' l' 0 0 → Fr n0 l' → T'.heap = h0 → ∀ (zc : Int64), (0 < zc) → own_G p e below Φ T' (mkF m 64 #[.val (.int p0), .val (.long qx), .second, .val (.long qy), .second, .val (.long qz), .second, .val (.int z7), .val (.long x8_17), .second, .val (.long zb), .second, .unset, .unset, .unset, .unset, .unset, .unset, .unset, .unset, .unset, .unset, .unset, .unset, .unset, .unset, .unset, .unset, .unset, .unset, .unset, .unset] [(.long zc)]) := by
        intro T4 l4 X4' N4 e4 zc h_zc
        have X4 : Stand _ _ _ _ _ _ _ _ _ _ T4 _ _ _ := X4'
        refine own_go (fun _ => XS.lstore X4.here hx rfl (hb hby at_64) rfl (l' := #[.val (.int p0), .val (.long qx), .second, .val (.long qy), .second, .val (.long qz), .second, .val (.int z7), .val (.long x8_17), .second, .val (.long zb), .second, .val (.long zc), .second, .unset, .unset, .unset, .unset, .unset, .unset, .unset, .unset, .unset, .unset, .unset, .unset, .unset, .unset, .unset, .unset, .unset, .unset]) rfl) ?_
        have hH89 : ∀ (T' : State) (h' : Heap) (l' : List Loc), own_AlL X4 T' l' 3 132 → T'.heap = h' → Fr n0 l' → n0 ≤ h'.size → Old Z n0 h' → ∀ (oL : Addr) (xa : Addr) (xl : Addr) (kk : ClassId) (kl : ClassId), (Exa Z h' oL "corro/core/LimitLevels") → (Fld Z h' oL "corro/core/LimitLevels" "keys" "[J" (.ref xa)) → (Fld Z h' oL "corro/core/LimitLevels" "levels" "[Lcorro/core/Level;" (.ref xl)) → (Fld Z h' oL "corro/core/LimitLevels" "highestFirst" "Z" (.int z7)) → (Fld Z h' oL "corro/core/LimitLevels" "size" "I" (.int (0 : Int32))) → (Arv Z h' xa kk .long (64 : Int32) [] (.long (0 : Int64))) → (Arv Z h' xl kl (.object "corro/core/Level") (64 : Int32) [] .null) → (n0 ≤ oL) → (n0 ≤ xa) → (n0 ≤ xl) → (oL ≠ xa) → (oL ≠ xl) → (xa ≠ xl) → (Ovr Z kl "corro/core/Level") → own_G p e below Φ T' (mkF m 89 #[.val (.int p0), .val (.long qx), .second, .val (.long qy), .second, .val (.long qz), .second, .val (.int z7), .val (.long x8_17), .second, .val (.long zb), .second, .val (.long zc), .second, .val (.ref oL), .unset, .unset, .unset, .unset, .unset, .unset, .unset, .unset, .unset, .unset, .unset, .unset, .unset, .unset, .unset, .unset, .unset] []) := by
          intro T5 h5 l5 X5' e5 N5 Zp5 O5 oL xa xl kk kl F5_0 F5_1 F5_2 F5_3 F5_4 F5_5 F5_6 F5_7 F5_8 F5_9 F5_10 F5_11 F5_12 F5_13 
          have X5 : Stand _ _ _ _ _ _ _ _ _ _ T5 _ _ _ := X5'
          have hH113_1 : ∀ (T' : State) (h' : Heap) (l' : List Loc), own_AlL X5 T' l' 6 138 → T'.heap = h' → Fr n0 l' → n0 ≤ h'.size → Old Z n0 h' → ∀ (k0 : Int64), (Exa Z h' oL "corro/core/LimitLevels") → (Fld Z h' oL "corro/core/LimitLevels" "keys" "[J" (.ref xa)) → (Fld Z h' oL "corro/core/LimitLevels" "size" "I" (.int (1 : Int32))) → (Fld Z h' oL "corro/core/LimitLevels" "highestFirst" "Z" (.int z7)) → (Arv Z h' xa kk .long (64 : Int32) [(.long k0)] (.long (0 : Int64))) → (own_set1 k0 (own_key z7 x8_17) (own_key z7 zb) (own_key z7 zc)) → own_G p e below Φ T' (mkF m 113 #[.val (.int p0), .val (.long qx), .second, .val (.long qy), .second, .val (.long qz), .second, .val (.int z7), .val (.long x8_17), .second, .val (.long zb), .second, .val (.long zc), .second, .val (.ref oL), .unset, .unset, .unset, .unset, .unset, .unset, .unset, .unset, .unset, .unset, .unset, .unset, .unset, .unset, .unset, .unset, .unset] []) := by
            intro T6 h6 l6 X6' e6 N6 Zp6 O6 k0 F6_0 F6_1 F6_2 F6_3 F6_4 hset
            have X6 : Stand _ _ _ _ _ _ _ _ _ _ T6 _ _ _ := X6'
            refine own_go (fun _ => XS.lload X6.here hx rfl (hb hby at_113) rfl) ?_
            show own_G p e below Φ T6 (mkF m 115 #[.val (.int p0), .val (.long qx), .second, .val (.long qy), .second, .val (.long qz), .second, .val (.int z7), .val (.long x8_17), .second, .val (.long zb), .second, .val (.long zc), .second, .val (.ref oL), .unset, .unset, .unset, .unset, .unset, .unset, .unset, .unset, .unset, .unset, .unset, .unset, .unset, .unset, .unset, .unset, .unset] [(.long x8_17)])
            refine own_go (fun _ => XS.lload X6.here hx rfl (hb hby at_115) rfl) ?_
            show own_G p e below Φ T6 (mkF m 117 #[.val (.int p0), .val (.long qx), .second, .val (.long qy), .second, .val (.long qz), .second, .val (.int z7), .val (.long x8_17), .second, .val (.long zb), .second, .val (.long zc), .second, .val (.ref oL), .unset, .unset, .unset, .unset, .unset, .unset, .unset, .unset, .unset, .unset, .unset, .unset, .unset, .unset, .unset, .unset, .unset] [(.long zb), (.long x8_17)])
            obtain ⟨_, _, ⟨T7, zL7, zk7, zn7⟩, -, X7, ⟨Lc7, hQ7, zl7, zy7, zz7⟩, st7⟩ := Jvm.LawKit.callS X6 hx (y := (⟨"java/lang/Math", "max", "(JJ)J"⟩ : MethodName)) hown (mvT hZ (wd_64 hw)) (mvT hZ (wd_65 hw)) (mvT hZ (wd_66 hw)) (mvT hZ (wd_67 hw)) (by decide) (backOf (W := 0) (rmMX l Z a0 hw [] x8_17 zb h6 n0 Zp6 ) hZ (wd_67 hw) (wd_66 hw) (by decide) (by decide)) (g := (mkF m 117 #[.val (.int p0), .val (.long qx), .second, .val (.long qy), .second, .val (.long qz), .second, .val (.int z7), .val (.long x8_17), .second, .val (.long zb), .second, .val (.long zc), .second, .val (.ref oL), .unset, .unset, .unset, .unset, .unset, .unset, .unset, .unset, .unset, .unset, .unset, .unset, .unset, .unset, .unset, .unset, .unset] [(.long zb), (.long x8_17)])) rfl (by rw [hml]; rfl) (argsL := [(.long x8_17), (.long zb)]) (rest := []) (lenOf pd_5 rfl) rfl (by show 2 * 0 + _ ≤ _; exact Nat.le_of_eq rfl) (hb hby at_117) (fun _ _ => ⟨rfl, e6, (by decide : 6 + 0 ≤ _), (by decide : 138 + 0 ≤ _)⟩)
            dsimp only [Pt.U, Pt.locs, Pt.cells, Pt.slots] at X7 zl7 zy7 zz7 st7 hQ7
            subst zl7 zy7 zz7
            obtain ⟨rfl, N7q, hs7⟩ := hQ7
            have N7 := Fr.app N6 N7q
            refine own_go st7 ?_
            refine own_go (fun _ => XS.lload X7.here hx rfl (hb hby at_120) rfl) ?_
            show own_G p e below Φ T7 (mkF m 122 #[.val (.int p0), .val (.long qx), .second, .val (.long qy), .second, .val (.long qz), .second, .val (.int z7), .val (.long x8_17), .second, .val (.long zb), .second, .val (.long zc), .second, .val (.ref oL), .unset, .unset, .unset, .unset, .unset, .unset, .unset, .unset, .unset, .unset, .unset, .unset, .unset, .unset, .unset, .unset, .unset] [(.long zc), (.long (own_maxL x8_17 zb))])
            obtain ⟨_, _, ⟨T8, zL8, zk8, zn8⟩, -, X8, ⟨Lc8, hQ8, zl8, zy8, zz8⟩, st8⟩ := Jvm.LawKit.callS X7 hx (y := (⟨"java/lang/Math", "max", "(JJ)J"⟩ : MethodName)) hown (mvT hZ (wd_64 hw)) (mvT hZ (wd_65 hw)) (mvT hZ (wd_66 hw)) (mvT hZ (wd_67 hw)) (by decide) (backOf (W := 0) (rmMX l Z a0 hw [] (own_maxL x8_17 zb) zc h6 n0 Zp6 ) hZ (wd_67 hw) (wd_66 hw) (by decide) (by decide)) (g := (mkF m 122 #[.val (.int p0), .val (.long qx), .second, .val (.long qy), .second, .val (.long qz), .second, .val (.int z7), .val (.long x8_17), .second, .val (.long zb), .second, .val (.long zc), .second, .val (.ref oL), .unset, .unset, .unset, .unset, .unset, .unset, .unset, .unset, .unset, .unset, .unset, .unset, .unset, .unset, .unset, .unset, .unset] [(.long zc), (.long (own_maxL x8_17 zb))])) rfl (by rw [hml]; rfl) (argsL := [(.long (own_maxL x8_17 zb)), (.long zc)]) (rest := []) (lenOf pd_5 rfl) rfl (by show 2 * 0 + _ ≤ _; exact Nat.le_of_eq rfl) (hb hby at_122) (fun _ _ => ⟨rfl, hs7, (by decide : 6 + 0 ≤ _), (by decide : 138 + 0 ≤ _)⟩)
            dsimp only [Pt.U, Pt.locs, Pt.cells, Pt.slots] at X8 zl8 zy8 zz8 st8 hQ8
            subst zl8 zy8 zz8
            obtain ⟨rfl, N8q, hs8⟩ := hQ8
            have N8 := Fr.app N7 N8q
            refine own_go st8 ?_
            refine own_go (fun _ => XS.lstore X8.here hx rfl (hb hby at_125) rfl (l' := #[.val (.int p0), .val (.long qx), .second, .val (.long qy), .second, .val (.long qz), .second, .val (.int z7), .val (.long x8_17), .second, .val (.long zb), .second, .val (.long zc), .second, .val (.ref oL), .val (.long (own_maxL (own_maxL x8_17 zb) zc)), .second, .unset, .unset, .unset, .unset, .unset, .unset, .unset, .unset, .unset, .unset, .unset, .unset, .unset, .unset, .unset]) rfl) ?_
            show own_G p e below Φ T8 (mkF m 127 #[.val (.int p0), .val (.long qx), .second, .val (.long qy), .second, .val (.long qz), .second, .val (.int z7), .val (.long x8_17), .second, .val (.long zb), .second, .val (.long zc), .second, .val (.ref oL), .val (.long (own_maxL (own_maxL x8_17 zb) zc)), .second, .unset, .unset, .unset, .unset, .unset, .unset, .unset, .unset, .unset, .unset, .unset, .unset, .unset, .unset, .unset] [])
            generalize hx15_125 : (own_maxL (own_maxL x8_17 zb) zc) = x15_125
            refine own_go (fun _ => XS.lload X8.here hx rfl (hb hby at_127) rfl) ?_
            show own_G p e below Φ T8 (mkF m 129 #[.val (.int p0), .val (.long qx), .second, .val (.long qy), .second, .val (.long qz), .second, .val (.int z7), .val (.long x8_17), .second, .val (.long zb), .second, .val (.long zc), .second, .val (.ref oL), .val (.long x15_125), .second, .unset, .unset, .unset, .unset, .unset, .unset, .unset, .unset, .unset, .unset, .unset, .unset, .unset, .unset, .unset] [(.long x8_17)])
            refine own_go (fun _ => XS.lload X8.here hx rfl (hb hby at_129) rfl) ?_
            show own_G p e below Φ T8 (mkF m 131 #[.val (.int p0), .val (.long qx), .second, .val (.long qy), .second, .val (.long qz), .second, .val (.int z7), .val (.long x8_17), .second, .val (.long zb), .second, .val (.long zc), .second, .val (.ref oL), .val (.long x15_125), .second, .unset, .unset, .unset, .unset, .unset, .unset, .unset, .unset, .unset, .unset, .unset, .unset, .unset, .unset, .unset] [(.long zb), (.long x8_17)])
            obtain ⟨_, _, ⟨T9, zL9, zk9, zn9⟩, -, X9, ⟨Lc9, hQ9, zl9, zy9, zz9⟩, st9⟩ := Jvm.LawKit.callS X8 hx (y := (⟨"java/lang/Math", "min", "(JJ)J"⟩ : MethodName)) hown (mvT hZ (wd_68 hw)) (mvT hZ (wd_69 hw)) (mvT hZ (wd_66 hw)) (mvT hZ (wd_70 hw)) (by decide) (backOf (W := 0) (rmMN l Z a0 hw [] x8_17 zb h6 n0 Zp6 ) hZ (wd_70 hw) (wd_66 hw) (by decide) (by decide)) (g := (mkF m 131 #[.val (.int p0), .val (.long qx), .second, .val (.long qy), .second, .val (.long qz), .second, .val (.int z7), .val (.long x8_17), .second, .val (.long zb), .second, .val (.long zc), .second, .val (.ref oL), .val (.long x15_125), .second, .unset, .unset, .unset, .unset, .unset, .unset, .unset, .unset, .unset, .unset, .unset, .unset, .unset, .unset, .unset] [(.long zb), (.long x8_17)])) rfl (by rw [hml]; rfl) (argsL := [(.long x8_17), (.long zb)]) (rest := []) (lenOf pd_5 rfl) rfl (by show 2 * 0 + _ ≤ _; exact Nat.le_of_eq rfl) (hb hby at_131) (fun _ _ => ⟨rfl, hs8, (by decide : 6 + 0 ≤ _), (by decide : 138 + 0 ≤ _)⟩)
            dsimp only [Pt.U, Pt.locs, Pt.cells, Pt.slots] at X9 zl9 zy9 zz9 st9 hQ9
            subst zl9 zy9 zz9
            obtain ⟨rfl, N9q, hs9⟩ := hQ9
            have N9 := Fr.app N8 N9q
            refine own_go st9 ?_
            refine own_go (fun _ => XS.lload X9.here hx rfl (hb hby at_134) rfl) ?_
            show own_G p e below Φ T9 (mkF m 136 #[.val (.int p0), .val (.long qx), .second, .val (.long qy), .second, .val (.long qz), .second, .val (.int z7), .val (.long x8_17), .second, .val (.long zb), .second, .val (.long zc), .second, .val (.ref oL), .val (.long x15_125), .second, .unset, .unset, .unset, .unset, .unset, .unset, .unset, .unset, .unset, .unset, .unset, .unset, .unset, .unset, .unset] [(.long zc), (.long (own_minL x8_17 zb))])
            obtain ⟨_, _, ⟨T10, zL10, zk10, zn10⟩, -, X10, ⟨Lc10, hQ10, zl10, zy10, zz10⟩, st10⟩ := Jvm.LawKit.callS X9 hx (y := (⟨"java/lang/Math", "min", "(JJ)J"⟩ : MethodName)) hown (mvT hZ (wd_68 hw)) (mvT hZ (wd_69 hw)) (mvT hZ (wd_66 hw)) (mvT hZ (wd_70 hw)) (by decide) (backOf (W := 0) (rmMN l Z a0 hw [] (own_minL x8_17 zb) zc h6 n0 Zp6 ) hZ (wd_70 hw) (wd_66 hw) (by decide) (by decide)) (g := (mkF m 136 #[.val (.int p0), .val (.long qx), .second, .val (.long qy), .second, .val (.long qz), .second, .val (.int z7), .val (.long x8_17), .second, .val (.long zb), .second, .val (.long zc), .second, .val (.ref oL), .val (.long x15_125), .second, .unset, .unset, .unset, .unset, .unset, .unset, .unset, .unset, .unset, .unset, .unset, .unset, .unset, .unset, .unset] [(.long zc), (.long (own_minL x8_17 zb))])) rfl (by rw [hml]; rfl) (argsL := [(.long (own_minL x8_17 zb)), (.long zc)]) (rest := []) (lenOf pd_5 rfl) rfl (by show 2 * 0 + _ ≤ _; exact Nat.le_of_eq rfl) (hb hby at_136) (fun _ _ => ⟨rfl, hs9, (by decide : 6 + 0 ≤ _), (by decide : 138 + 0 ≤ _)⟩)
            dsimp only [Pt.U, Pt.locs, Pt.cells, Pt.slots] at X10 zl10 zy10 zz10 st10 hQ10
            subst zl10 zy10 zz10
            obtain ⟨rfl, N10q, hs10⟩ := hQ10
            have N10 := Fr.app N9 N10q
            refine own_go st10 ?_
            refine own_go (fun _ => XS.lstore X10.here hx rfl (hb hby at_139) rfl (l' := #[.val (.int p0), .val (.long qx), .second, .val (.long qy), .second, .val (.long qz), .second, .val (.int z7), .val (.long x8_17), .second, .val (.long zb), .second, .val (.long zc), .second, .val (.ref oL), .val (.long x15_125), .second, .val (.long (own_minL (own_minL x8_17 zb) zc)), .second, .unset, .unset, .unset, .unset, .unset, .unset, .unset, .unset, .unset, .unset, .unset, .unset, .unset]) rfl) ?_
            show own_G p e below Φ T10 (mkF m 141 #[.val (.int p0), .val (.long qx), .second, .val (.long qy), .second, .val (.long qz), .second, .val (.int z7), .val (.long x8_17), .second, .val (.long zb), .second, .val (.long zc), .second, .val (.ref oL), .val (.long x15_125), .second, .val (.long (own_minL (own_minL x8_17 zb) zc)), .second, .unset, .unset, .unset, .unset, .unset, .unset, .unset, .unset, .unset, .unset, .unset, .unset, .unset] [])
            generalize hx17_139 : (own_minL (own_minL x8_17 zb) zc) = x17_139
            refine own_go (fun _ => XS.lload X10.here hx rfl (hb hby at_141) rfl) ?_
            show own_G p e below Φ T10 (mkF m 143 #[.val (.int p0), .val (.long qx), .second, .val (.long qy), .second, .val (.long qz), .second, .val (.int z7), .val (.long x8_17), .second, .val (.long zb), .second, .val (.long zc), .second, .val (.ref oL), .val (.long x15_125), .second, .val (.long x17_139), .second, .unset, .unset, .unset, .unset, .unset, .unset, .unset, .unset, .unset, .unset, .unset, .unset, .unset] [(.long x8_17)])
            refine own_go (fun _ => XS.lload X10.here hx rfl (hb hby at_143) rfl) ?_
            show own_G p e below Φ T10 (mkF m 145 #[.val (.int p0), .val (.long qx), .second, .val (.long qy), .second, .val (.long qz), .second, .val (.int z7), .val (.long x8_17), .second, .val (.long zb), .second, .val (.long zc), .second, .val (.ref oL), .val (.long x15_125), .second, .val (.long x17_139), .second, .unset, .unset, .unset, .unset, .unset, .unset, .unset, .unset, .unset, .unset, .unset, .unset, .unset] [(.long zb), (.long x8_17)])
            obtain ⟨_, _, ⟨T11, zL11, zk11, zn11⟩, -, X11, ⟨Lc11, hQ11, zl11, zy11, zz11⟩, st11⟩ := Jvm.LawKit.callS X10 hx (y := (⟨"java/lang/Math", "min", "(JJ)J"⟩ : MethodName)) hown (mvT hZ (wd_68 hw)) (mvT hZ (wd_69 hw)) (mvT hZ (wd_66 hw)) (mvT hZ (wd_70 hw)) (by decide) (backOf (W := 0) (rmMN l Z a0 hw [] x8_17 zb h6 n0 Zp6 ) hZ (wd_70 hw) (wd_66 hw) (by decide) (by decide)) (g := (mkF m 145 #[.val (.int p0), .val (.long qx), .second, .val (.long qy), .second, .val (.long qz), .second, .val (.int z7), .val (.long x8_17), .second, .val (.long zb), .second, .val (.long zc), .second, .val (.ref oL), .val (.long x15_125), .second, .val (.long x17_139), .second, .unset, .unset, .unset, .unset, .unset, .unset, .unset, .unset, .unset, .unset, .unset, .unset, .unset] [(.long zb), (.long x8_17)])) rfl (by rw [hml]; rfl) (argsL := [(.long x8_17), (.long zb)]) (rest := []) (lenOf pd_5 rfl) rfl (by show 2 * 0 + _ ≤ _; exact Nat.le_of_eq rfl) (hb hby at_145) (fun _ _ => ⟨rfl, hs10, (by decide : 6 + 0 ≤ _), (by decide : 138 + 0 ≤ _)⟩)
            dsimp only [Pt.U, Pt.locs, Pt.cells, Pt.slots] at X11 zl11 zy11 zz11 st11 hQ11
            subst zl11 zy11 zz11
            obtain ⟨rfl, N11q, hs11⟩ := hQ11
            have N11 := Fr.app N10 N11q
            refine own_go st11 ?_
            refine own_go (fun _ => XS.lload X11.here hx rfl (hb hby at_148) rfl) ?_
            refine own_go (fun _ => XS.lload X11.here hx rfl (hb hby at_150) rfl) ?_
            show own_G p e below Φ T11 (mkF m 152 #[.val (.int p0), .val (.long qx), .second, .val (.long qy), .second, .val (.long qz), .second, .val (.int z7), .val (.long x8_17), .second, .val (.long zb), .second, .val (.long zc), .second, .val (.ref oL), .val (.long x15_125), .second, .val (.long x17_139), .second, .unset, .unset, .unset, .unset, .unset, .unset, .unset, .unset, .unset, .unset, .unset, .unset, .unset] [(.long zb), (.long x8_17), (.long (own_minL x8_17 zb))])
            obtain ⟨_, _, ⟨T12, zL12, zk12, zn12⟩, -, X12, ⟨Lc12, hQ12, zl12, zy12, zz12⟩, st12⟩ := Jvm.LawKit.callS X11 hx (y := (⟨"java/lang/Math", "max", "(JJ)J"⟩ : MethodName)) hown (mvT hZ (wd_64 hw)) (mvT hZ (wd_65 hw)) (mvT hZ (wd_66 hw)) (mvT hZ (wd_67 hw)) (by decide) (backOf (W := 2) (rmMX l Z a0 hw [] x8_17 zb h6 n0 Zp6 ) hZ (wd_67 hw) (wd_66 hw) (by decide) (by decide)) (g := (mkF m 152 #[.val (.int p0), .val (.long qx), .second, .val (.long qy), .second, .val (.long qz), .second, .val (.int z7), .val (.long x8_17), .second, .val (.long zb), .second, .val (.long zc), .second, .val (.ref oL), .val (.long x15_125), .second, .val (.long x17_139), .second, .unset, .unset, .unset, .unset, .unset, .unset, .unset, .unset, .unset, .unset, .unset, .unset, .unset] [(.long zb), (.long x8_17), (.long (own_minL x8_17 zb))])) rfl (by rw [hml]; rfl) (argsL := [(.long x8_17), (.long zb)]) (rest := [(.long (own_minL x8_17 zb))]) (lenOf pd_5 rfl) rfl (by show 2 * 0 + _ ≤ _; exact Nat.le_of_eq rfl) (hb hby at_152) (fun _ _ => ⟨rfl, hs11, (by decide : 6 + 0 ≤ _), (by decide : 138 + 0 ≤ _)⟩)
            dsimp only [Pt.U, Pt.locs, Pt.cells, Pt.slots] at X12 zl12 zy12 zz12 st12 hQ12
            subst zl12 zy12 zz12
            obtain ⟨rfl, N12q, hs12⟩ := hQ12
            have N12 := Fr.app N11 N12q
            refine own_go st12 ?_
            refine own_go (fun _ => XS.lload X12.here hx rfl (hb hby at_155) rfl) ?_
            show own_G p e below Φ T12 (mkF m 157 #[.val (.int p0), .val (.long qx), .second, .val (.long qy), .second, .val (.long qz), .second, .val (.int z7), .val (.long x8_17), .second, .val (.long zb), .second, .val (.long zc), .second, .val (.ref oL), .val (.long x15_125), .second, .val (.long x17_139), .second, .unset, .unset, .unset, .unset, .unset, .unset, .unset, .unset, .unset, .unset, .unset, .unset, .unset] [(.long zc), (.long (own_maxL x8_17 zb)), (.long (own_minL x8_17 zb))])
            obtain ⟨_, _, ⟨T13, zL13, zk13, zn13⟩, -, X13, ⟨Lc13, hQ13, zl13, zy13, zz13⟩, st13⟩ := Jvm.LawKit.callS X12 hx (y := (⟨"java/lang/Math", "min", "(JJ)J"⟩ : MethodName)) hown (mvT hZ (wd_68 hw)) (mvT hZ (wd_69 hw)) (mvT hZ (wd_66 hw)) (mvT hZ (wd_70 hw)) (by decide) (backOf (W := 2) (rmMN l Z a0 hw [] (own_maxL x8_17 zb) zc h6 n0 Zp6 ) hZ (wd_70 hw) (wd_66 hw) (by decide) (by decide)) (g := (mkF m 157 #[.val (.int p0), .val (.long qx), .second, .val (.long qy), .second, .val (.long qz), .second, .val (.int z7), .val (.long x8_17), .second, .val (.long zb), .second, .val (.long zc), .second, .val (.ref oL), .val (.long x15_125), .second, .val (.long x17_139), .second, .unset, .unset, .unset, .unset, .unset, .unset, .unset, .unset, .unset, .unset, .unset, .unset, .unset] [(.long zc), (.long (own_maxL x8_17 zb)), (.long (own_minL x8_17 zb))])) rfl (by rw [hml]; rfl) (argsL := [(.long (own_maxL x8_17 zb)), (.long zc)]) (rest := [(.long (own_minL x8_17 zb))]) (lenOf pd_5 rfl) rfl (by show 2 * 0 + _ ≤ _; exact Nat.le_of_eq rfl) (hb hby at_157) (fun _ _ => ⟨rfl, hs12, (by decide : 6 + 0 ≤ _), (by decide : 138 + 0 ≤ _)⟩)
            dsimp only [Pt.U, Pt.locs, Pt.cells, Pt.slots] at X13 zl13 zy13 zz13 st13 hQ13
            subst zl13 zy13 zz13
            obtain ⟨rfl, N13q, hs13⟩ := hQ13
            have N13 := Fr.app N12 N13q
            refine own_go st13 ?_
            show own_G p e below Φ T13 (mkF m 160 #[.val (.int p0), .val (.long qx), .second, .val (.long qy), .second, .val (.long qz), .second, .val (.int z7), .val (.long x8_17), .second, .val (.long zb), .second, .val (.long zc), .second, .val (.ref oL), .val (.long x15_125), .second, .val (.long x17_139), .second, .unset, .unset, .unset, .unset, .unset, .unset, .unset, .unset, .unset, .unset, .unset, .unset, .unset] [(.long (own_minL (own_maxL x8_17 zb) zc)), (.long (own_minL x8_17 zb))])
            obtain ⟨_, _, ⟨T14, zL14, zk14, zn14⟩, -, X14, ⟨Lc14, hQ14, zl14, zy14, zz14⟩, st14⟩ := Jvm.LawKit.callS X13 hx (y := (⟨"java/lang/Math", "max", "(JJ)J"⟩ : MethodName)) hown (mvT hZ (wd_64 hw)) (mvT hZ (wd_65 hw)) (mvT hZ (wd_66 hw)) (mvT hZ (wd_67 hw)) (by decide) (backOf (W := 0) (rmMX l Z a0 hw [] (own_minL x8_17 zb) (own_minL (own_maxL x8_17 zb) zc) h6 n0 Zp6 ) hZ (wd_67 hw) (wd_66 hw) (by decide) (by decide)) (g := (mkF m 160 #[.val (.int p0), .val (.long qx), .second, .val (.long qy), .second, .val (.long qz), .second, .val (.int z7), .val (.long x8_17), .second, .val (.long zb), .second, .val (.long zc), .second, .val (.ref oL), .val (.long x15_125), .second, .val (.long x17_139), .second, .unset, .unset, .unset, .unset, .unset, .unset, .unset, .unset, .unset, .unset, .unset, .unset, .unset] [(.long (own_minL (own_maxL x8_17 zb) zc)), (.long (own_minL x8_17 zb))])) rfl (by rw [hml]; rfl) (argsL := [(.long (own_minL x8_17 zb)), (.long (own_minL (own_maxL x8_17 zb) zc))]) (rest := []) (lenOf pd_5 rfl) rfl (by show 2 * 0 + _ ≤ _; exact Nat.le_of_eq rfl) (hb hby at_160) (fun _ _ => ⟨rfl, hs13, (by decide : 6 + 0 ≤ _), (by decide : 138 + 0 ≤ _)⟩)
            dsimp only [Pt.U, Pt.locs, Pt.cells, Pt.slots] at X14 zl14 zy14 zz14 st14 hQ14
            subst zl14 zy14 zz14
            obtain ⟨rfl, N14q, hs14⟩ := hQ14
            have N14 := Fr.app N13 N14q
            refine own_go st14 ?_
            refine own_go (fun _ => XS.lstore X14.here hx rfl (hb hby at_163) rfl (l' := #[.val (.int p0), .val (.long qx), .second, .val (.long qy), .second, .val (.long qz), .second, .val (.int z7), .val (.long x8_17), .second, .val (.long zb), .second, .val (.long zc), .second, .val (.ref oL), .val (.long x15_125), .second, .val (.long x17_139), .second, .val (.long (own_maxL (own_minL x8_17 zb) (own_minL (own_maxL x8_17 zb) zc))), .second, .unset, .unset, .unset, .unset, .unset, .unset, .unset, .unset, .unset, .unset, .unset]) rfl) ?_
            show own_G p e below Φ T14 (mkF m 165 #[.val (.int p0), .val (.long qx), .second, .val (.long qy), .second, .val (.long qz), .second, .val (.int z7), .val (.long x8_17), .second, .val (.long zb), .second, .val (.long zc), .second, .val (.ref oL), .val (.long x15_125), .second, .val (.long x17_139), .second, .val (.long (own_maxL (own_minL x8_17 zb) (own_minL (own_maxL x8_17 zb) zc))), .second, .unset, .unset, .unset, .unset, .unset, .unset, .unset, .unset, .unset, .unset, .unset] [])
            generalize hx19_163 : (own_maxL (own_minL x8_17 zb) (own_minL (own_maxL x8_17 zb) zc)) = x19_163
            refine own_go (fun _ => XS.iload X14.here hx rfl (hb hby at_165) rfl) ?_
            show own_G p e below Φ T14 (mkF m 167 #[.val (.int p0), .val (.long qx), .second, .val (.long qy), .second, .val (.long qz), .second, .val (.int z7), .val (.long x8_17), .second, .val (.long zb), .second, .val (.long zc), .second, .val (.ref oL), .val (.long x15_125), .second, .val (.long x17_139), .second, .val (.long x19_163), .second, .unset, .unset, .unset, .unset, .unset, .unset, .unset, .unset, .unset, .unset, .unset] [(.int z7)])
            have hJ177_15 : ∀ (T' : State) (l' : List Loc), own_AlL X14 T' l' 6 138 → Fr n0 l' → T'.heap = h6 → ∀ (zs0 : Int64), (zs0 = if z7 = 0 then x17_139 else x15_125) → own_G p e below Φ T' (mkF m 177 #[.val (.int p0), .val (.long qx), .second, .val (.long qy), .second, .val (.long qz), .second, .val (.int z7), .val (.long x8_17), .second, .val (.long zb), .second, .val (.long zc), .second, .val (.ref oL), .val (.long x15_125), .second, .val (.long x17_139), .second, .val (.long x19_163), .second, .unset, .unset, .unset, .unset, .unset, .unset, .unset, .unset, .unset, .unset, .unset] [(.long zs0)]) := by
              intro T15 l15 X15' N15 e15 zs0 h_zs0
              have X15 : Stand _ _ _ _ _ _ _ _ _ _ T15 _ _ _ := X15'
              refine own_go (fun _ => XS.lstore X15.here hx rfl (hb hby at_177) rfl (l' := #[.val (.int p0), .val (.long qx), .second, .val (.long qy), .second, .val (.long qz), .second, .val (.int z7), .val (.long x8_17), .second, .val (.long zb), .second, .val (.long zc), .second, .val (.ref oL), .val (.long x15_125), .second, .val (.long x17_139), .second, .val (.long x19_163), .second, .val (.long zs0), .second, .unset, .unset, .unset, .unset, .unset, .unset, .unset, .unset, .unset]) rfl) ?_
              refine own_go (fun _ => XS.lload X15.here hx rfl (hb hby at_179) rfl) ?_
              show own_G p e below Φ T15 (mkF m 181 #[.val (.int p0), .val (.long qx), .second, .val (.long qy), .second, .val (.long qz), .second, .val (.int z7), .val (.long x8_17), .second, .val (.long zb), .second, .val (.long zc), .second, .val (.ref oL), .val (.long x15_125), .second, .val (.long x17_139), .second, .val (.long x19_163), .second, .val (.long zs0), .second, .unset, .unset, .unset, .unset, .unset, .unset, .unset, .unset, .unset] [(.long x19_163)])
              refine own_go (fun _ => XS.lstore X15.here hx rfl (hb hby at_181) rfl (l' := #[.val (.int p0), .val (.long qx), .second, .val (.long qy), .second, .val (.long qz), .second, .val (.int z7), .val (.long x8_17), .second, .val (.long zb), .second, .val (.long zc), .second, .val (.ref oL), .val (.long x15_125), .second, .val (.long x17_139), .second, .val (.long x19_163), .second, .val (.long zs0), .second, .val (.long x19_163), .second, .unset, .unset, .unset, .unset, .unset, .unset, .unset]) rfl) ?_
              refine own_go (fun _ => XS.iload X15.here hx rfl (hb hby at_183) rfl) ?_
              show own_G p e below Φ T15 (mkF m 185 #[.val (.int p0), .val (.long qx), .second, .val (.long qy), .second, .val (.long qz), .second, .val (.int z7), .val (.long x8_17), .second, .val (.long zb), .second, .val (.long zc), .second, .val (.ref oL), .val (.long x15_125), .second, .val (.long x17_139), .second, .val (.long x19_163), .second, .val (.long zs0), .second, .val (.long x19_163), .second, .unset, .unset, .unset, .unset, .unset, .unset, .unset] [(.int z7)])
              have hJ195_16 : ∀ (T' : State) (l' : List Loc), own_AlL X15 T' l' 6 138 → Fr n0 l' → T'.heap = h6 → ∀ (zs2 : Int64), (zs2 = if z7 = 0 then x15_125 else x17_139) → own_G p e below Φ T' (mkF m 195 #[.val (.int p0), .val (.long qx), .second, .val (.long qy), .second, .val (.long qz), .second, .val (.int z7), .val (.long x8_17), .second, .val (.long zb), .second, .val (.long zc), .second, .val (.ref oL), .val (.long x15_125), .second, .val (.long x17_139), .second, .val (.long x19_163), .second, .val (.long zs0), .second, .val (.long x19_163), .second, .unset, .unset, .unset, .unset, .unset, .unset, .unset] [(.long zs2)]) := by
                intro T16 l16 X16' N16 e16 zs2 h_zs2
                have X16 : Stand _ _ _ _ _ _ _ _ _ _ T16 _ _ _ := X16'
                refine own_go (fun _ => XS.lstore X16.here hx rfl (hb hby at_195) rfl (l' := #[.val (.int p0), .val (.long qx), .second, .val (.long qy), .second, .val (.long qz), .second, .val (.int z7), .val (.long x8_17), .second, .val (.long zb), .second, .val (.long zc), .second, .val (.ref oL), .val (.long x15_125), .second, .val (.long x17_139), .second, .val (.long x19_163), .second, .val (.long zs0), .second, .val (.long x19_163), .second, .val (.long zs2), .second, .unset, .unset, .unset, .unset, .unset]) rfl) ?_
                refine own_go (fun _ => XS.lconst X16.here hx rfl (hb hby at_197)) ?_
                show own_G p e below Φ T16 (mkF m 198 #[.val (.int p0), .val (.long qx), .second, .val (.long qy), .second, .val (.long qz), .second, .val (.int z7), .val (.long x8_17), .second, .val (.long zb), .second, .val (.long zc), .second, .val (.ref oL), .val (.long x15_125), .second, .val (.long x17_139), .second, .val (.long x19_163), .second, .val (.long zs0), .second, .val (.long x19_163), .second, .val (.long zs2), .second, .unset, .unset, .unset, .unset, .unset] [(.long (0 : Int64))])
                refine own_go (fun _ => XS.lstore X16.here hx rfl (hb hby at_198) rfl (l' := #[.val (.int p0), .val (.long qx), .second, .val (.long qy), .second, .val (.long qz), .second, .val (.int z7), .val (.long x8_17), .second, .val (.long zb), .second, .val (.long zc), .second, .val (.ref oL), .val (.long x15_125), .second, .val (.long x17_139), .second, .val (.long x19_163), .second, .val (.long zs0), .second, .val (.long x19_163), .second, .val (.long zs2), .second, .unset, .val (.long (0 : Int64)), .second, .unset, .unset]) rfl) ?_
                refine own_go (fun _ => XS.lconst X16.here hx rfl (hb hby at_200)) ?_
                refine own_go (fun _ => XS.lstore X16.here hx rfl (hb hby at_201) rfl (l' := #[.val (.int p0), .val (.long qx), .second, .val (.long qy), .second, .val (.long qz), .second, .val (.int z7), .val (.long x8_17), .second, .val (.long zb), .second, .val (.long zc), .second, .val (.ref oL), .val (.long x15_125), .second, .val (.long x17_139), .second, .val (.long x19_163), .second, .val (.long zs0), .second, .val (.long x19_163), .second, .val (.long zs2), .second, .unset, .val (.long (0 : Int64)), .second, .val (.long (0 : Int64)), .second]) rfl) ?_
                have hfin := (own_fin1 hx15_125 hx17_139 hx19_163 h_zs0 h_zs2 hset)
                show own_G p e below Φ T16 (mkF m 203 #[.val (.int p0), .val (.long qx), .second, .val (.long qy), .second, .val (.long qz), .second, .val (.int z7), .val (.long x8_17), .second, .val (.long zb), .second, .val (.long zc), .second, .val (.ref oL), .val (.long x15_125), .second, .val (.long x17_139), .second, .val (.long x19_163), .second, .val (.long zs0), .second, .val (.long x19_163), .second, .val (.long zs2), .second, .unset, .val (.long (0 : Int64)), .second, .val (.long (0 : Int64)), .second] [])
                refine own_go (fun _ => XS.lload X16.here hx rfl (hb hby at_203) rfl) ?_
                refine own_go (fun _ => XS.lload X16.here hx rfl (hb hby at_205) rfl) ?_
                show own_G p e below Φ T16 (mkF m 207 #[.val (.int p0), .val (.long qx), .second, .val (.long qy), .second, .val (.long qz), .second, .val (.int z7), .val (.long x8_17), .second, .val (.long zb), .second, .val (.long zc), .second, .val (.ref oL), .val (.long x15_125), .second, .val (.long x17_139), .second, .val (.long x19_163), .second, .val (.long zs0), .second, .val (.long x19_163), .second, .val (.long zs2), .second, .unset, .val (.long (0 : Int64)), .second, .val (.long (0 : Int64)), .second] [(.long zs0), (.long x19_163)])
                refine own_go (fun _ => XS.lcmp X16.here hx rfl (hb hby at_207) rfl) ?_
                show own_G p e below Φ T16 (mkF m 208 #[.val (.int p0), .val (.long qx), .second, .val (.long qy), .second, .val (.long qz), .second, .val (.int z7), .val (.long x8_17), .second, .val (.long zb), .second, .val (.long zc), .second, .val (.ref oL), .val (.long x15_125), .second, .val (.long x17_139), .second, .val (.long x19_163), .second, .val (.long zs0), .second, .val (.long x19_163), .second, .val (.long zs2), .second, .unset, .val (.long (0 : Int64)), .second, .val (.long (0 : Int64)), .second] [(.int (lcmpW x19_163 zs0))])
                refine own_go (fun _ => XS.ifYes X16.here hx rfl (pc0 := 208) (pc' := 239) rfl (hb hby at_208) rfl (Jvm.Free.XT.ll_eq_t hfin.1) (by decide) (by decide)) ?_
                refine own_go (fun _ => XS.lload X16.here hx rfl (hb hby at_239) rfl) ?_
                refine own_go (fun _ => XS.lload X16.here hx rfl (hb hby at_241) rfl) ?_
                show own_G p e below Φ T16 (mkF m 243 #[.val (.int p0), .val (.long qx), .second, .val (.long qy), .second, .val (.long qz), .second, .val (.int z7), .val (.long x8_17), .second, .val (.long zb), .second, .val (.long zc), .second, .val (.ref oL), .val (.long x15_125), .second, .val (.long x17_139), .second, .val (.long x19_163), .second, .val (.long zs0), .second, .val (.long x19_163), .second, .val (.long zs2), .second, .unset, .val (.long (0 : Int64)), .second, .val (.long (0 : Int64)), .second] [(.long zs0), (.long zs2)])
                refine own_go (fun _ => XS.lcmp X16.here hx rfl (hb hby at_243) rfl) ?_
                show own_G p e below Φ T16 (mkF m 244 #[.val (.int p0), .val (.long qx), .second, .val (.long qy), .second, .val (.long qz), .second, .val (.int z7), .val (.long x8_17), .second, .val (.long zb), .second, .val (.long zc), .second, .val (.ref oL), .val (.long x15_125), .second, .val (.long x17_139), .second, .val (.long x19_163), .second, .val (.long zs0), .second, .val (.long x19_163), .second, .val (.long zs2), .second, .unset, .val (.long (0 : Int64)), .second, .val (.long (0 : Int64)), .second] [(.int (lcmpW zs2 zs0))])
                refine own_go (fun _ => XS.ifYes X16.here hx rfl (pc0 := 244) (pc' := 257) rfl (hb hby at_244) rfl (Jvm.Free.XT.ll_eq_t hfin.2.1) (by decide) (by decide)) ?_
                refine own_go (fun _ => XS.iconst X16.here hx rfl (hb hby at_257)) ?_
                refine own_go (fun _ => XS.istore X16.here hx rfl (hb hby at_258) rfl (l' := #[.val (.int p0), .val (.long qx), .second, .val (.long qy), .second, .val (.long qz), .second, .val (.int z7), .val (.long x8_17), .second, .val (.long zb), .second, .val (.long zc), .second, .val (.ref oL), .val (.long x15_125), .second, .val (.long x17_139), .second, .val (.long x19_163), .second, .val (.long zs0), .second, .val (.long x19_163), .second, .val (.long zs2), .second, .val (.int (1 : Int32)), .val (.long (0 : Int64)), .second, .val (.long (0 : Int64)), .second]) rfl) ?_
                show own_G p e below Φ T16 (mkF m 260 #[.val (.int p0), .val (.long qx), .second, .val (.long qy), .second, .val (.long qz), .second, .val (.int z7), .val (.long x8_17), .second, .val (.long zb), .second, .val (.long zc), .second, .val (.ref oL), .val (.long x15_125), .second, .val (.long x17_139), .second, .val (.long x19_163), .second, .val (.long zs0), .second, .val (.long x19_163), .second, .val (.long zs2), .second, .val (.int (1 : Int32)), .val (.long (0 : Int64)), .second, .val (.long (0 : Int64)), .second] [])
                refine own_go (fun _ => XS.aload X16.here hx rfl (hb hby at_260) rfl rfl) ?_
                show own_G p e below Φ T16 (mkF m 262 #[.val (.int p0), .val (.long qx), .second, .val (.long qy), .second, .val (.long qz), .second, .val (.int z7), .val (.long x8_17), .second, .val (.long zb), .second, .val (.long zc), .second, .val (.ref oL), .val (.long x15_125), .second, .val (.long x17_139), .second, .val (.long x19_163), .second, .val (.long zs0), .second, .val (.long x19_163), .second, .val (.long zs2), .second, .val (.int (1 : Int32)), .val (.long (0 : Int64)), .second, .val (.long (0 : Int64)), .second] [(.ref oL)])
                obtain ⟨cq17, kq17, q17a, q17b, q17c⟩ := isOf hZ e16 F6_0
                obtain ⟨_, _, ⟨T17, zL17, zk17, zn17⟩, -, X17, ⟨Lc17, hQ17, zl17, zy17, zz17⟩, st17⟩ := X16.virtualBack hx (y := (⟨"corro/core/LimitLevels", "size", "()I"⟩ : MethodName)) (z := (⟨"corro/core/LimitLevels", "size", "()I"⟩ : MethodName)) hown (mvT hZ (wd_71 hw)) (mvT hZ (wd_72 hw)) (notFace_of_selects (args := #[]) (mvT hZ (wd_74 hw))) (mvT hZ (wd_74 hw)) (mvT hZ (wd_73 hw)) (by decide) (backOf (W := 0) (rmZ1 l Z a0 hw [] oL h6 n0 Zp6 F6_2) hZ (wd_75 hw) (wd_7 hw) (by decide) (by decide)) q17a q17c (g := (mkF m 262 #[.val (.int p0), .val (.long qx), .second, .val (.long qy), .second, .val (.long qz), .second, .val (.int z7), .val (.long x8_17), .second, .val (.long zb), .second, .val (.long zc), .second, .val (.ref oL), .val (.long x15_125), .second, .val (.long x17_139), .second, .val (.long x19_163), .second, .val (.long zs0), .second, .val (.long x19_163), .second, .val (.long zs2), .second, .val (.int (1 : Int32)), .val (.long (0 : Int64)), .second, .val (.long (0 : Int64)), .second] [(.ref oL)])) rfl (by rw [hml]; rfl) (Steps.refl _) (argsL := []) (rest := []) (lenOf pd_6 rfl) rfl (by show 2 * 0 + _ ≤ _; exact Nat.le_of_eq rfl) (hb hby at_262) (fun _ _ => ⟨rfl, e16, (by decide : 6 + 0 ≤ _), (by decide : 138 + 0 ≤ _)⟩)
                dsimp only [Pt.U, Pt.locs, Pt.cells, Pt.slots] at X17 zl17 zy17 zz17 st17 hQ17
                subst zl17 zy17 zz17
                obtain ⟨rfl, N17q, hs17⟩ := hQ17
                have N17 := Fr.app N16 N17q
                refine own_on st17 ?_
                refine own_go (fun _ => XS.iload X17.here hx rfl (hb hby at_265) rfl) ?_
                show own_G p e below Φ T17 (mkF m 267 #[.val (.int p0), .val (.long qx), .second, .val (.long qy), .second, .val (.long qz), .second, .val (.int z7), .val (.long x8_17), .second, .val (.long zb), .second, .val (.long zc), .second, .val (.ref oL), .val (.long x15_125), .second, .val (.long x17_139), .second, .val (.long x19_163), .second, .val (.long zs0), .second, .val (.long x19_163), .second, .val (.long zs2), .second, .val (.int (1 : Int32)), .val (.long (0 : Int64)), .second, .val (.long (0 : Int64)), .second] [(.int (1 : Int32)), (.int (1 : Int32))])
                refine own_go (fun _ => XS.icmpYes X17.here hx rfl (pc0 := 267) (pc' := 272) rfl (hb hby at_267) rfl (Jvm.Free.XT.ii_eq_t (by decide : ((1 : Int32) = (1 : Int32)))) (by decide) (by decide)) ?_
                refine own_go (fun _ => XS.aload X17.here hx rfl (hb hby at_272) rfl rfl) ?_
                refine own_go (fun _ => XS.iconst X17.here hx rfl (hb hby at_274)) ?_
                show own_G p e below Φ T17 (mkF m 275 #[.val (.int p0), .val (.long qx), .second, .val (.long qy), .second, .val (.long qz), .second, .val (.int z7), .val (.long x8_17), .second, .val (.long zb), .second, .val (.long zc), .second, .val (.ref oL), .val (.long x15_125), .second, .val (.long x17_139), .second, .val (.long x19_163), .second, .val (.long zs0), .second, .val (.long x19_163), .second, .val (.long zs2), .second, .val (.int (1 : Int32)), .val (.long (0 : Int64)), .second, .val (.long (0 : Int64)), .second] [(.int (0 : Int32)), (.ref oL)])
                obtain ⟨cq18, kq18, q18a, q18b, q18c⟩ := isOf hZ hs17 F6_0
                obtain ⟨_, _, ⟨T18, zL18, zk18, zn18⟩, -, X18, ⟨Lc18, hQ18, zl18, zy18, zz18⟩, st18⟩ := X17.virtualBack hx (y := (⟨"corro/core/LimitLevels", "price", "(I)J"⟩ : MethodName)) (z := (⟨"corro/core/LimitLevels", "price", "(I)J"⟩ : MethodName)) hown (mvT hZ (wd_76 hw)) (mvT hZ (wd_77 hw)) (notFace_of_selects (args := #[]) (mvT hZ (wd_79 hw))) (mvT hZ (wd_79 hw)) (mvT hZ (wd_78 hw)) (by decide) (backOf (W := 0) (rmQ1_0 l Z a0 hw [] oL z7 xa kk k0 h6 n0 Zp6 F6_1 F6_2 F6_3 F6_4) hZ (wd_80 hw) (wd_7 hw) (by decide) (by decide)) q18a q18c (g := (mkF m 275 #[.val (.int p0), .val (.long qx), .second, .val (.long qy), .second, .val (.long qz), .second, .val (.int z7), .val (.long x8_17), .second, .val (.long zb), .second, .val (.long zc), .second, .val (.ref oL), .val (.long x15_125), .second, .val (.long x17_139), .second, .val (.long x19_163), .second, .val (.long zs0), .second, .val (.long x19_163), .second, .val (.long zs2), .second, .val (.int (1 : Int32)), .val (.long (0 : Int64)), .second, .val (.long (0 : Int64)), .second] [(.int (0 : Int32)), (.ref oL)])) rfl (by rw [hml]; rfl) (Steps.refl _) (argsL := [(.int (0 : Int32))]) (rest := []) (lenOf pd_7 rfl) rfl (by show 2 * 0 + _ ≤ _; exact Nat.le_of_eq rfl) (hb hby at_275) (fun _ _ => ⟨rfl, hs17, (by decide : 6 + 0 ≤ _), (by decide : 138 + 0 ≤ _)⟩)
                dsimp only [Pt.U, Pt.locs, Pt.cells, Pt.slots] at X18 zl18 zy18 zz18 st18 hQ18
                subst zl18 zy18 zz18
                obtain ⟨rfl, N18q, hs18⟩ := hQ18
                have N18 := Fr.app N17 N18q
                refine own_on st18 ?_
                refine own_go (fun _ => XS.lload X18.here hx rfl (hb hby at_278) rfl) ?_
                show own_G p e below Φ T18 (mkF m 280 #[.val (.int p0), .val (.long qx), .second, .val (.long qy), .second, .val (.long qz), .second, .val (.int z7), .val (.long x8_17), .second, .val (.long zb), .second, .val (.long zc), .second, .val (.ref oL), .val (.long x15_125), .second, .val (.long x17_139), .second, .val (.long x19_163), .second, .val (.long zs0), .second, .val (.long x19_163), .second, .val (.long zs2), .second, .val (.int (1 : Int32)), .val (.long (0 : Int64)), .second, .val (.long (0 : Int64)), .second] [(.long zs0), (.long (own_key z7 k0))])
                refine own_go (fun _ => XS.lcmp X18.here hx rfl (hb hby at_280) rfl) ?_
                show own_G p e below Φ T18 (mkF m 281 #[.val (.int p0), .val (.long qx), .second, .val (.long qy), .second, .val (.long qz), .second, .val (.int z7), .val (.long x8_17), .second, .val (.long zb), .second, .val (.long zc), .second, .val (.ref oL), .val (.long x15_125), .second, .val (.long x17_139), .second, .val (.long x19_163), .second, .val (.long zs0), .second, .val (.long x19_163), .second, .val (.long zs2), .second, .val (.int (1 : Int32)), .val (.long (0 : Int64)), .second, .val (.long (0 : Int64)), .second] [(.int (lcmpW (own_key z7 k0) zs0))])
                refine own_go (fun _ => XS.ifYes X18.here hx rfl (pc0 := 281) (pc' := 286) rfl (hb hby at_281) rfl (Jvm.Free.XT.ll_eq_t hfin.2.2) (by decide) (by decide)) ?_
                refine own_go (fun _ => XS.iload X18.here hx rfl (hb hby at_286) rfl) ?_
                refine own_go (fun _ => XS.iconst X18.here hx rfl (hb hby at_288)) ?_
                show own_G p e below Φ T18 (mkF m 289 #[.val (.int p0), .val (.long qx), .second, .val (.long qy), .second, .val (.long qz), .second, .val (.int z7), .val (.long x8_17), .second, .val (.long zb), .second, .val (.long zc), .second, .val (.ref oL), .val (.long x15_125), .second, .val (.long x17_139), .second, .val (.long x19_163), .second, .val (.long zs0), .second, .val (.long x19_163), .second, .val (.long zs2), .second, .val (.int (1 : Int32)), .val (.long (0 : Int64)), .second, .val (.long (0 : Int64)), .second] [(.int (2 : Int32)), (.int (1 : Int32))])
                refine own_go (fun _ => XS.icmpYes X18.here hx rfl (pc0 := 289) (pc' := 306) rfl (hb hby at_289) rfl (Jvm.Free.XT.ii_lt_t (by decide : ((1 : Int32) < (2 : Int32)))) (by decide) (by decide)) ?_
                refine own_go (fun _ => XS.iload X18.here hx rfl (hb hby at_306) rfl) ?_
                refine own_go (fun _ => XS.iconst X18.here hx rfl (hb hby at_308)) ?_
                show own_G p e below Φ T18 (mkF m 309 #[.val (.int p0), .val (.long qx), .second, .val (.long qy), .second, .val (.long qz), .second, .val (.int z7), .val (.long x8_17), .second, .val (.long zb), .second, .val (.long zc), .second, .val (.ref oL), .val (.long x15_125), .second, .val (.long x17_139), .second, .val (.long x19_163), .second, .val (.long zs0), .second, .val (.long x19_163), .second, .val (.long zs2), .second, .val (.int (1 : Int32)), .val (.long (0 : Int64)), .second, .val (.long (0 : Int64)), .second] [(.int (3 : Int32)), (.int (1 : Int32))])
                refine own_go (fun _ => XS.icmpYes X18.here hx rfl (pc0 := 309) (pc' := 326) rfl (hb hby at_309) rfl (Jvm.Free.XT.ii_lt_t (by decide : ((1 : Int32) < (3 : Int32)))) (by decide) (by decide)) ?_
                refine own_go (fun _ => XS.iconst X18.here hx rfl (hb hby at_326)) ?_
                show own_G p e below Φ T18 (mkF m 327 #[.val (.int p0), .val (.long qx), .second, .val (.long qy), .second, .val (.long qz), .second, .val (.int z7), .val (.long x8_17), .second, .val (.long zb), .second, .val (.long zc), .second, .val (.ref oL), .val (.long x15_125), .second, .val (.long x17_139), .second, .val (.long x19_163), .second, .val (.long zs0), .second, .val (.long x19_163), .second, .val (.long zs2), .second, .val (.int (1 : Int32)), .val (.long (0 : Int64)), .second, .val (.long (0 : Int64)), .second] [(.int (1 : Int32))])
                rw [hΦ]
                refine own_ret X18 (v := some (.int (1 : Int32))) (fun h => by rw [Bd.returns] at h; cases h) (BodyLoose.notSynchronized Bd) (fun fs hr => retN X18 hx (t := .boolean) Bd.returns (by simp) (hb hby at_327) hr) ?_ (by decide) (by decide)
                rw [hs18]
                exact ⟨rfl, N18⟩
              by_cases hc185 : z7 = (0 : Int32)
              · refine own_go (fun _ => XS.ifYes X15.here hx rfl (pc0 := 185) (pc' := 193) rfl (hb hby at_185) rfl (Jvm.Free.XT.i0_eq_t hc185) (by decide) (by decide)) ?_
                refine own_go (fun _ => XS.lload X15.here hx rfl (hb hby at_193) rfl) ?_
                exact hJ195_16 _ _ X15 N15 e15 _ (by simp [hc185])
              · refine own_go (fun _ => XS.ifNo X15.here hx rfl (hb hby at_185) rfl (Jvm.Free.XT.i0_eq_f hc185)) ?_
                refine own_go (fun _ => XS.lload X15.here hx rfl (hb hby at_188) rfl) ?_
                refine own_go (fun _ => XS.goto X15.here hx rfl (pc0 := 190) (pc' := 195) rfl (hb hby at_190) (by decide) (by decide)) ?_
                exact hJ195_16 _ _ X15 N15 e15 _ (by simp [hc185])
            by_cases hc167 : z7 = (0 : Int32)
            · refine own_go (fun _ => XS.ifYes X14.here hx rfl (pc0 := 167) (pc' := 175) rfl (hb hby at_167) rfl (Jvm.Free.XT.i0_eq_t hc167) (by decide) (by decide)) ?_
              refine own_go (fun _ => XS.lload X14.here hx rfl (hb hby at_175) rfl) ?_
              exact hJ177_15 _ _ X14 N14 hs14 _ (by simp [hc167])
            · refine own_go (fun _ => XS.ifNo X14.here hx rfl (hb hby at_167) rfl (Jvm.Free.XT.i0_eq_f hc167)) ?_
              refine own_go (fun _ => XS.lload X14.here hx rfl (hb hby at_170) rfl) ?_
              refine own_go (fun _ => XS.goto X14.here hx rfl (pc0 := 172) (pc' := 177) rfl (hb hby at_172) (by decide) (by decide)) ?_
              exact hJ177_15 _ _ X14 N14 hs14 _ (by simp [hc167])
          have hH113_2 : ∀ (T' : State) (h' : Heap) (l' : List Loc), own_AlL X5 T' l' 6 138 → T'.heap = h' → Fr n0 l' → n0 ≤ h'.size → Old Z n0 h' → ∀ (k0 : Int64) (k1 : Int64), (Exa Z h' oL "corro/core/LimitLevels") → (Fld Z h' oL "corro/core/LimitLevels" "keys" "[J" (.ref xa)) → (Fld Z h' oL "corro/core/LimitLevels" "size" "I" (.int (2 : Int32))) → (Fld Z h' oL "corro/core/LimitLevels" "highestFirst" "Z" (.int z7)) → (Arv Z h' xa kk .long (64 : Int32) [(.long k0), (.long k1)] (.long (0 : Int64))) → (own_set2 k0 k1 (own_key z7 x8_17) (own_key z7 zb) (own_key z7 zc)) → own_G p e below Φ T' (mkF m 113 #[.val (.int p0), .val (.long qx), .second, .val (.long qy), .second, .val (.long qz), .second, .val (.int z7), .val (.long x8_17), .second, .val (.long zb), .second, .val (.long zc), .second, .val (.ref oL), .unset, .unset, .unset, .unset, .unset, .unset, .unset, .unset, .unset, .unset, .unset, .unset, .unset, .unset, .unset, .unset, .unset] []) := by
            intro T19 h19 l19 X19' e19 N19 Zp19 O19 k0 k1 F19_0 F19_1 F19_2 F19_3 F19_4 hset
            have X19 : Stand _ _ _ _ _ _ _ _ _ _ T19 _ _ _ := X19'
            refine own_go (fun _ => XS.lload X19.here hx rfl (hb hby at_113) rfl) ?_
            show own_G p e below Φ T19 (mkF m 115 #[.val (.int p0), .val (.long qx), .second, .val (.long qy), .second, .val (.long qz), .second, .val (.int z7), .val (.long x8_17), .second, .val (.long zb), .second, .val (.long zc), .second, .val (.ref oL), .unset, .unset, .unset, .unset, .unset, .unset, .unset, .unset, .unset, .unset, .unset, .unset, .unset, .unset, .unset, .unset, .unset] [(.long x8_17)])
            refine own_go (fun _ => XS.lload X19.here hx rfl (hb hby at_115) rfl) ?_
            show own_G p e below Φ T19 (mkF m 117 #[.val (.int p0), .val (.long qx), .second, .val (.long qy), .second, .val (.long qz), .second, .val (.int z7), .val (.long x8_17), .second, .val (.long zb), .second, .val (.long zc), .second, .val (.ref oL), .unset, .unset, .unset, .unset, .unset, .unset, .unset, .unset, .unset, .unset, .unset, .unset, .unset, .unset, .unset, .unset, .unset] [(.long zb), (.long x8_17)])
            obtain ⟨_, _, ⟨T20, zL20, zk20, zn20⟩, -, X20, ⟨Lc20, hQ20, zl20, zy20, zz20⟩, st20⟩ := Jvm.LawKit.callS X19 hx (y := (⟨"java/lang/Math", "max", "(JJ)J"⟩ : MethodName)) hown (mvT hZ (wd_64 hw)) (mvT hZ (wd_65 hw)) (mvT hZ (wd_66 hw)) (mvT hZ (wd_67 hw)) (by decide) (backOf (W := 0) (rmMX l Z a0 hw [] x8_17 zb h19 n0 Zp19 ) hZ (wd_67 hw) (wd_66 hw) (by decide) (by decide)) (g := (mkF m 117 #[.val (.int p0), .val (.long qx), .second, .val (.long qy), .second, .val (.long qz), .second, .val (.int z7), .val (.long x8_17), .second, .val (.long zb), .second, .val (.long zc), .second, .val (.ref oL), .unset, .unset, .unset, .unset, .unset, .unset, .unset, .unset, .unset, .unset, .unset, .unset, .unset, .unset, .unset, .unset, .unset] [(.long zb), (.long x8_17)])) rfl (by rw [hml]; rfl) (argsL := [(.long x8_17), (.long zb)]) (rest := []) (lenOf pd_5 rfl) rfl (by show 2 * 0 + _ ≤ _; exact Nat.le_of_eq rfl) (hb hby at_117) (fun _ _ => ⟨rfl, e19, (by decide : 6 + 0 ≤ _), (by decide : 138 + 0 ≤ _)⟩)
            dsimp only [Pt.U, Pt.locs, Pt.cells, Pt.slots] at X20 zl20 zy20 zz20 st20 hQ20
            subst zl20 zy20 zz20
            obtain ⟨rfl, N20q, hs20⟩ := hQ20
            have N20 := Fr.app N19 N20q
            refine own_go st20 ?_
            refine own_go (fun _ => XS.lload X20.here hx rfl (hb hby at_120) rfl) ?_
            show own_G p e below Φ T20 (mkF m 122 #[.val (.int p0), .val (.long qx), .second, .val (.long qy), .second, .val (.long qz), .second, .val (.int z7), .val (.long x8_17), .second, .val (.long zb), .second, .val (.long zc), .second, .val (.ref oL), .unset, .unset, .unset, .unset, .unset, .unset, .unset, .unset, .unset, .unset, .unset, .unset, .unset, .unset, .unset, .unset, .unset] [(.long zc), (.long (own_maxL x8_17 zb))])
            obtain ⟨_, _, ⟨T21, zL21, zk21, zn21⟩, -, X21, ⟨Lc21, hQ21, zl21, zy21, zz21⟩, st21⟩ := Jvm.LawKit.callS X20 hx (y := (⟨"java/lang/Math", "max", "(JJ)J"⟩ : MethodName)) hown (mvT hZ (wd_64 hw)) (mvT hZ (wd_65 hw)) (mvT hZ (wd_66 hw)) (mvT hZ (wd_67 hw)) (by decide) (backOf (W := 0) (rmMX l Z a0 hw [] (own_maxL x8_17 zb) zc h19 n0 Zp19 ) hZ (wd_67 hw) (wd_66 hw) (by decide) (by decide)) (g := (mkF m 122 #[.val (.int p0), .val (.long qx), .second, .val (.long qy), .second, .val (.long qz), .second, .val (.int z7), .val (.long x8_17), .second, .val (.long zb), .second, .val (.long zc), .second, .val (.ref oL), .unset, .unset, .unset, .unset, .unset, .unset, .unset, .unset, .unset, .unset, .unset, .unset, .unset, .unset, .unset, .unset, .unset] [(.long zc), (.long (own_maxL x8_17 zb))])) rfl (by rw [hml]; rfl) (argsL := [(.long (own_maxL x8_17 zb)), (.long zc)]) (rest := []) (lenOf pd_5 rfl) rfl (by show 2 * 0 + _ ≤ _; exact Nat.le_of_eq rfl) (hb hby at_122) (fun _ _ => ⟨rfl, hs20, (by decide : 6 + 0 ≤ _), (by decide : 138 + 0 ≤ _)⟩)
            dsimp only [Pt.U, Pt.locs, Pt.cells, Pt.slots] at X21 zl21 zy21 zz21 st21 hQ21
            subst zl21 zy21 zz21
            obtain ⟨rfl, N21q, hs21⟩ := hQ21
            have N21 := Fr.app N20 N21q
            refine own_go st21 ?_
            refine own_go (fun _ => XS.lstore X21.here hx rfl (hb hby at_125) rfl (l' := #[.val (.int p0), .val (.long qx), .second, .val (.long qy), .second, .val (.long qz), .second, .val (.int z7), .val (.long x8_17), .second, .val (.long zb), .second, .val (.long zc), .second, .val (.ref oL), .val (.long (own_maxL (own_maxL x8_17 zb) zc)), .second, .unset, .unset, .unset, .unset, .unset, .unset, .unset, .unset, .unset, .unset, .unset, .unset, .unset, .unset, .unset]) rfl) ?_
            show own_G p e below Φ T21 (mkF m 127 #[.val (.int p0), .val (.long qx), .second, .val (.long qy), .second, .val (.long qz), .second, .val (.int z7), .val (.long x8_17), .second, .val (.long zb), .second, .val (.long zc), .second, .val (.ref oL), .val (.long (own_maxL (own_maxL x8_17 zb) zc)), .second, .unset, .unset, .unset, .unset, .unset, .unset, .unset, .unset, .unset, .unset, .unset, .unset, .unset, .unset, .unset] [])
            generalize hx15_125 : (own_maxL (own_maxL x8_17 zb) zc) = x15_125
            refine own_go (fun _ => XS.lload X21.here hx rfl (hb hby at_127) rfl) ?_
            show own_G p e below Φ T21 (mkF m 129 #[.val (.int p0), .val (.long qx), .second, .val (.long qy), .second, .val (.long qz), .second, .val (.int z7), .val (.long x8_17), .second, .val (.long zb), .second, .val (.long zc), .second, .val (.ref oL), .val (.long x15_125), .second, .unset, .unset, .unset, .unset, .unset, .unset, .unset, .unset, .unset, .unset, .unset, .unset, .unset, .unset, .unset] [(.long x8_17)])
            refine own_go (fun _ => XS.lload X21.here hx rfl (hb hby at_129) rfl) ?_
            show own_G p e below Φ T21 (mkF m 131 #[.val (.int p0), .val (.long qx), .second, .val (.long qy), .second, .val (.long qz), .second, .val (.int z7), .val (.long x8_17), .second, .val (.long zb), .second, .val (.long zc), .second, .val (.ref oL), .val (.long x15_125), .second, .unset, .unset, .unset, .unset, .unset, .unset, .unset, .unset, .unset, .unset, .unset, .unset, .unset, .unset, .unset] [(.long zb), (.long x8_17)])
            obtain ⟨_, _, ⟨T22, zL22, zk22, zn22⟩, -, X22, ⟨Lc22, hQ22, zl22, zy22, zz22⟩, st22⟩ := Jvm.LawKit.callS X21 hx (y := (⟨"java/lang/Math", "min", "(JJ)J"⟩ : MethodName)) hown (mvT hZ (wd_68 hw)) (mvT hZ (wd_69 hw)) (mvT hZ (wd_66 hw)) (mvT hZ (wd_70 hw)) (by decide) (backOf (W := 0) (rmMN l Z a0 hw [] x8_17 zb h19 n0 Zp19 ) hZ (wd_70 hw) (wd_66 hw) (by decide) (by decide)) (g := (mkF m 131 #[.val (.int p0), .val (.long qx), .second, .val (.long qy), .second, .val (.long qz), .second, .val (.int z7), .val (.long x8_17), .second, .val (.long zb), .second, .val (.long zc), .second, .val (.ref oL), .val (.long x15_125), .second, .unset, .unset, .unset, .unset, .unset, .unset, .unset, .unset, .unset, .unset, .unset, .unset, .unset, .unset, .unset] [(.long zb), (.long x8_17)])) rfl (by rw [hml]; rfl) (argsL := [(.long x8_17), (.long zb)]) (rest := []) (lenOf pd_5 rfl) rfl (by show 2 * 0 + _ ≤ _; exact Nat.le_of_eq rfl) (hb hby at_131) (fun _ _ => ⟨rfl, hs21, (by decide : 6 + 0 ≤ _), (by decide : 138 + 0 ≤ _)⟩)
            dsimp only [Pt.U, Pt.locs, Pt.cells, Pt.slots] at X22 zl22 zy22 zz22 st22 hQ22
            subst zl22 zy22 zz22
            obtain ⟨rfl, N22q, hs22⟩ := hQ22
            have N22 := Fr.app N21 N22q
            refine own_go st22 ?_
            refine own_go (fun _ => XS.lload X22.here hx rfl (hb hby at_134) rfl) ?_
            show own_G p e below Φ T22 (mkF m 136 #[.val (.int p0), .val (.long qx), .second, .val (.long qy), .second, .val (.long qz), .second, .val (.int z7), .val (.long x8_17), .second, .val (.long zb), .second, .val (.long zc), .second, .val (.ref oL), .val (.long x15_125), .second, .unset, .unset, .unset, .unset, .unset, .unset, .unset, .unset, .unset, .unset, .unset, .unset, .unset, .unset, .unset] [(.long zc), (.long (own_minL x8_17 zb))])
            obtain ⟨_, _, ⟨T23, zL23, zk23, zn23⟩, -, X23, ⟨Lc23, hQ23, zl23, zy23, zz23⟩, st23⟩ := Jvm.LawKit.callS X22 hx (y := (⟨"java/lang/Math", "min", "(JJ)J"⟩ : MethodName)) hown (mvT hZ (wd_68 hw)) (mvT hZ (wd_69 hw)) (mvT hZ (wd_66 hw)) (mvT hZ (wd_70 hw)) (by decide) (backOf (W := 0) (rmMN l Z a0 hw [] (own_minL x8_17 zb) zc h19 n0 Zp19 ) hZ (wd_70 hw) (wd_66 hw) (by decide) (by decide)) (g := (mkF m 136 #[.val (.int p0), .val (.long qx), .second, .val (.long qy), .second, .val (.long qz), .second, .val (.int z7), .val (.long x8_17), .second, .val (.long zb), .second, .val (.long zc), .second, .val (.ref oL), .val (.long x15_125), .second, .unset, .unset, .unset, .unset, .unset, .unset, .unset, .unset, .unset, .unset, .unset, .unset, .unset, .unset, .unset] [(.long zc), (.long (own_minL x8_17 zb))])) rfl (by rw [hml]; rfl) (argsL := [(.long (own_minL x8_17 zb)), (.long zc)]) (rest := []) (lenOf pd_5 rfl) rfl (by show 2 * 0 + _ ≤ _; exact Nat.le_of_eq rfl) (hb hby at_136) (fun _ _ => ⟨rfl, hs22, (by decide : 6 + 0 ≤ _), (by decide : 138 + 0 ≤ _)⟩)
            dsimp only [Pt.U, Pt.locs, Pt.cells, Pt.slots] at X23 zl23 zy23 zz23 st23 hQ23
            subst zl23 zy23 zz23
            obtain ⟨rfl, N23q, hs23⟩ := hQ23
            have N23 := Fr.app N22 N23q
            refine own_go st23 ?_
            refine own_go (fun _ => XS.lstore X23.here hx rfl (hb hby at_139) rfl (l' := #[.val (.int p0), .val (.long qx), .second, .val (.long qy), .second, .val (.long qz), .second, .val (.int z7), .val (.long x8_17), .second, .val (.long zb), .second, .val (.long zc), .second, .val (.ref oL), .val (.long x15_125), .second, .val (.long (own_minL (own_minL x8_17 zb) zc)), .second, .unset, .unset, .unset, .unset, .unset, .unset, .unset, .unset, .unset, .unset, .unset, .unset, .unset]) rfl) ?_
            show own_G p e below Φ T23 (mkF m 141 #[.val (.int p0), .val (.long qx), .second, .val (.long qy), .second, .val (.long qz), .second, .val (.int z7), .val (.long x8_17), .second, .val (.long zb), .second, .val (.long zc), .second, .val (.ref oL), .val (.long x15_125), .second, .val (.long (own_minL (own_minL x8_17 zb) zc)), .second, .unset, .unset, .unset, .unset, .unset, .unset, .unset, .unset, .unset, .unset, .unset, .unset, .unset] [])
            generalize hx17_139 : (own_minL (own_minL x8_17 zb) zc) = x17_139
            refine own_go (fun _ => XS.lload X23.here hx rfl (hb hby at_141) rfl) ?_
            show own_G p e below Φ T23 (mkF m 143 #[.val (.int p0), .val (.long qx), .second, .val (.long qy), .second, .val (.long qz), .second, .val (.int z7), .val (.long x8_17), .second, .val (.long zb), .second, .val (.long zc), .second, .val (.ref oL), .val (.long x15_125), .second, .val (.long x17_139), .second, .unset, .unset, .unset, .unset, .unset, .unset, .unset, .unset, .unset, .unset, .unset, .unset, .unset] [(.long x8_17)])
            refine own_go (fun _ => XS.lload X23.here hx rfl (hb hby at_143) rfl) ?_
            show own_G p e below Φ T23 (mkF m 145 #[.val (.int p0), .val (.long qx), .second, .val (.long qy), .second, .val (.long qz), .second, .val (.int z7), .val (.long x8_17), .second, .val (.long zb), .second, .val (.long zc), .second, .val (.ref oL), .val (.long x15_125), .second, .val (.long x17_139), .second, .unset, .unset, .unset, .unset, .unset, .unset, .unset, .unset, .unset, .unset, .unset, .unset, .unset] [(.long zb), (.long x8_17)])
            obtain ⟨_, _, ⟨T24, zL24, zk24, zn24⟩, -, X24, ⟨Lc24, hQ24, zl24, zy24, zz24⟩, st24⟩ := Jvm.LawKit.callS X23 hx (y := (⟨"java/lang/Math", "min", "(JJ)J"⟩ : MethodName)) hown (mvT hZ (wd_68 hw)) (mvT hZ (wd_69 hw)) (mvT hZ (wd_66 hw)) (mvT hZ (wd_70 hw)) (by decide) (backOf (W := 0) (rmMN l Z a0 hw [] x8_17 zb h19 n0 Zp19 ) hZ (wd_70 hw) (wd_66 hw) (by decide) (by decide)) (g := (mkF m 145 #[.val (.int p0), .val (.long qx), .second, .val (.long qy), .second, .val (.long qz), .second, .val (.int z7), .val (.long x8_17), .second, .val (.long zb), .second, .val (.long zc), .second, .val (.ref oL), .val (.long x15_125), .second, .val (.long x17_139), .second, .unset, .unset, .unset, .unset, .unset, .unset, .unset, .unset, .unset, .unset, .unset, .unset, .unset] [(.long zb), (.long x8_17)])) rfl (by rw [hml]; rfl) (argsL := [(.long x8_17), (.long zb)]) (rest := []) (lenOf pd_5 rfl) rfl (by show 2 * 0 + _ ≤ _; exact Nat.le_of_eq rfl) (hb hby at_145) (fun _ _ => ⟨rfl, hs23, (by decide : 6 + 0 ≤ _), (by decide : 138 + 0 ≤ _)⟩)
            dsimp only [Pt.U, Pt.locs, Pt.cells, Pt.slots] at X24 zl24 zy24 zz24 st24 hQ24
            subst zl24 zy24 zz24
            obtain ⟨rfl, N24q, hs24⟩ := hQ24
            have N24 := Fr.app N23 N24q
            refine own_go st24 ?_
            refine own_go (fun _ => XS.lload X24.here hx rfl (hb hby at_148) rfl) ?_
            refine own_go (fun _ => XS.lload X24.here hx rfl (hb hby at_150) rfl) ?_
            show own_G p e below Φ T24 (mkF m 152 #[.val (.int p0), .val (.long qx), .second, .val (.long qy), .second, .val (.long qz), .second, .val (.int z7), .val (.long x8_17), .second, .val (.long zb), .second, .val (.long zc), .second, .val (.ref oL), .val (.long x15_125), .second, .val (.long x17_139), .second, .unset, .unset, .unset, .unset, .unset, .unset, .unset, .unset, .unset, .unset, .unset, .unset, .unset] [(.long zb), (.long x8_17), (.long (own_minL x8_17 zb))])
            obtain ⟨_, _, ⟨T25, zL25, zk25, zn25⟩, -, X25, ⟨Lc25, hQ25, zl25, zy25, zz25⟩, st25⟩ := Jvm.LawKit.callS X24 hx (y := (⟨"java/lang/Math", "max", "(JJ)J"⟩ : MethodName)) hown (mvT hZ (wd_64 hw)) (mvT hZ (wd_65 hw)) (mvT hZ (wd_66 hw)) (mvT hZ (wd_67 hw)) (by decide) (backOf (W := 2) (rmMX l Z a0 hw [] x8_17 zb h19 n0 Zp19 ) hZ (wd_67 hw) (wd_66 hw) (by decide) (by decide)) (g := (mkF m 152 #[.val (.int p0), .val (.long qx), .second, .val (.long qy), .second, .val (.long qz), .second, .val (.int z7), .val (.long x8_17), .second, .val (.long zb), .second, .val (.long zc), .second, .val (.ref oL), .val (.long x15_125), .second, .val (.long x17_139), .second, .unset, .unset, .unset, .unset, .unset, .unset, .unset, .unset, .unset, .unset, .unset, .unset, .unset] [(.long zb), (.long x8_17), (.long (own_minL x8_17 zb))])) rfl (by rw [hml]; rfl) (argsL := [(.long x8_17), (.long zb)]) (rest := [(.long (own_minL x8_17 zb))]) (lenOf pd_5 rfl) rfl (by show 2 * 0 + _ ≤ _; exact Nat.le_of_eq rfl) (hb hby at_152) (fun _ _ => ⟨rfl, hs24, (by decide : 6 + 0 ≤ _), (by decide : 138 + 0 ≤ _)⟩)
            dsimp only [Pt.U, Pt.locs, Pt.cells, Pt.slots] at X25 zl25 zy25 zz25 st25 hQ25
            subst zl25 zy25 zz25
            obtain ⟨rfl, N25q, hs25⟩ := hQ25
            have N25 := Fr.app N24 N25q
            refine own_go st25 ?_
            refine own_go (fun _ => XS.lload X25.here hx rfl (hb hby at_155) rfl) ?_
            show own_G p e below Φ T25 (mkF m 157 #[.val (.int p0), .val (.long qx), .second, .val (.long qy), .second, .val (.long qz), .second, .val (.int z7), .val (.long x8_17), .second, .val (.long zb), .second, .val (.long zc), .second, .val (.ref oL), .val (.long x15_125), .second, .val (.long x17_139), .second, .unset, .unset, .unset, .unset, .unset, .unset, .unset, .unset, .unset, .unset, .unset, .unset, .unset] [(.long zc), (.long (own_maxL x8_17 zb)), (.long (own_minL x8_17 zb))])
            obtain ⟨_, _, ⟨T26, zL26, zk26, zn26⟩, -, X26, ⟨Lc26, hQ26, zl26, zy26, zz26⟩, st26⟩ := Jvm.LawKit.callS X25 hx (y := (⟨"java/lang/Math", "min", "(JJ)J"⟩ : MethodName)) hown (mvT hZ (wd_68 hw)) (mvT hZ (wd_69 hw)) (mvT hZ (wd_66 hw)) (mvT hZ (wd_70 hw)) (by decide) (backOf (W := 2) (rmMN l Z a0 hw [] (own_maxL x8_17 zb) zc h19 n0 Zp19 ) hZ (wd_70 hw) (wd_66 hw) (by decide) (by decide)) (g := (mkF m 157 #[.val (.int p0), .val (.long qx), .second, .val (.long qy), .second, .val (.long qz), .second, .val (.int z7), .val (.long x8_17), .second, .val (.long zb), .second, .val (.long zc), .second, .val (.ref oL), .val (.long x15_125), .second, .val (.long x17_139), .second, .unset, .unset, .unset, .unset, .unset, .unset, .unset, .unset, .unset, .unset, .unset, .unset, .unset] [(.long zc), (.long (own_maxL x8_17 zb)), (.long (own_minL x8_17 zb))])) rfl (by rw [hml]; rfl) (argsL := [(.long (own_maxL x8_17 zb)), (.long zc)]) (rest := [(.long (own_minL x8_17 zb))]) (lenOf pd_5 rfl) rfl (by show 2 * 0 + _ ≤ _; exact Nat.le_of_eq rfl) (hb hby at_157) (fun _ _ => ⟨rfl, hs25, (by decide : 6 + 0 ≤ _), (by decide : 138 + 0 ≤ _)⟩)
            dsimp only [Pt.U, Pt.locs, Pt.cells, Pt.slots] at X26 zl26 zy26 zz26 st26 hQ26
            subst zl26 zy26 zz26
            obtain ⟨rfl, N26q, hs26⟩ := hQ26
            have N26 := Fr.app N25 N26q
            refine own_go st26 ?_
            show own_G p e below Φ T26 (mkF m 160 #[.val (.int p0), .val (.long qx), .second, .val (.long qy), .second, .val (.long qz), .second, .val (.int z7), .val (.long x8_17), .second, .val (.long zb), .second, .val (.long zc), .second, .val (.ref oL), .val (.long x15_125), .second, .val (.long x17_139), .second, .unset, .unset, .unset, .unset, .unset, .unset, .unset, .unset, .unset, .unset, .unset, .unset, .unset] [(.long (own_minL (own_maxL x8_17 zb) zc)), (.long (own_minL x8_17 zb))])
            obtain ⟨_, _, ⟨T27, zL27, zk27, zn27⟩, -, X27, ⟨Lc27, hQ27, zl27, zy27, zz27⟩, st27⟩ := Jvm.LawKit.callS X26 hx (y := (⟨"java/lang/Math", "max", "(JJ)J"⟩ : MethodName)) hown (mvT hZ (wd_64 hw)) (mvT hZ (wd_65 hw)) (mvT hZ (wd_66 hw)) (mvT hZ (wd_67 hw)) (by decide) (backOf (W := 0) (rmMX l Z a0 hw [] (own_minL x8_17 zb) (own_minL (own_maxL x8_17 zb) zc) h19 n0 Zp19 ) hZ (wd_67 hw) (wd_66 hw) (by decide) (by decide)) (g := (mkF m 160 #[.val (.int p0), .val (.long qx), .second, .val (.long qy), .second, .val (.long qz), .second, .val (.int z7), .val (.long x8_17), .second, .val (.long zb), .second, .val (.long zc), .second, .val (.ref oL), .val (.long x15_125), .second, .val (.long x17_139), .second, .unset, .unset, .unset, .unset, .unset, .unset, .unset, .unset, .unset, .unset, .unset, .unset, .unset] [(.long (own_minL (own_maxL x8_17 zb) zc)), (.long (own_minL x8_17 zb))])) rfl (by rw [hml]; rfl) (argsL := [(.long (own_minL x8_17 zb)), (.long (own_minL (own_maxL x8_17 zb) zc))]) (rest := []) (lenOf pd_5 rfl) rfl (by show 2 * 0 + _ ≤ _; exact Nat.le_of_eq rfl) (hb hby at_160) (fun _ _ => ⟨rfl, hs26, (by decide : 6 + 0 ≤ _), (by decide : 138 + 0 ≤ _)⟩)
            dsimp only [Pt.U, Pt.locs, Pt.cells, Pt.slots] at X27 zl27 zy27 zz27 st27 hQ27
            subst zl27 zy27 zz27
            obtain ⟨rfl, N27q, hs27⟩ := hQ27
            have N27 := Fr.app N26 N27q
            refine own_go st27 ?_
            refine own_go (fun _ => XS.lstore X27.here hx rfl (hb hby at_163) rfl (l' := #[.val (.int p0), .val (.long qx), .second, .val (.long qy), .second, .val (.long qz), .second, .val (.int z7), .val (.long x8_17), .second, .val (.long zb), .second, .val (.long zc), .second, .val (.ref oL), .val (.long x15_125), .second, .val (.long x17_139), .second, .val (.long (own_maxL (own_minL x8_17 zb) (own_minL (own_maxL x8_17 zb) zc))), .second, .unset, .unset, .unset, .unset, .unset, .unset, .unset, .unset, .unset, .unset, .unset]) rfl) ?_
            show own_G p e below Φ T27 (mkF m 165 #[.val (.int p0), .val (.long qx), .second, .val (.long qy), .second, .val (.long qz), .second, .val (.int z7), .val (.long x8_17), .second, .val (.long zb), .second, .val (.long zc), .second, .val (.ref oL), .val (.long x15_125), .second, .val (.long x17_139), .second, .val (.long (own_maxL (own_minL x8_17 zb) (own_minL (own_maxL x8_17 zb) zc))), .second, .unset, .unset, .unset, .unset, .unset, .unset, .unset, .unset, .unset, .unset, .unset] [])
            generalize hx19_163 : (own_maxL (own_minL x8_17 zb) (own_minL (own_maxL x8_17 zb) zc)) = x19_163
            refine own_go (fun _ => XS.iload X27.here hx rfl (hb hby at_165) rfl) ?_
            show own_G p e below Φ T27 (mkF m 167 #[.val (.int p0), .val (.long qx), .second, .val (.long qy), .second, .val (.long qz), .second, .val (.int z7), .val (.long x8_17), .second, .val (.long zb), .second, .val (.long zc), .second, .val (.ref oL), .val (.long x15_125), .second, .val (.long x17_139), .second, .val (.long x19_163), .second, .unset, .unset, .unset, .unset, .unset, .unset, .unset, .unset, .unset, .unset, .unset] [(.int z7)])
            have hJ177_28 : ∀ (T' : State) (l' : List Loc), own_AlL X27 T' l' 6 138 → Fr n0 l' → T'.heap = h19 → ∀ (zs0 : Int64), (zs0 = if z7 = 0 then x17_139 else x15_125) → own_G p e below Φ T' (mkF m 177 #[.val (.int p0), .val (.long qx), .second, .val (.long qy), .second, .val (.long qz), .second, .val (.int z7), .val (.long x8_17), .second, .val (.long zb), .second, .val (.long zc), .second, .val (.ref oL), .val (.long x15_125), .second, .val (.long x17_139), .second, .val (.long x19_163), .second, .unset, .unset, .unset, .unset, .unset, .unset, .unset, .unset, .unset, .unset, .unset] [(.long zs0)]) := by
              intro T28 l28 X28' N28 e28 zs0 h_zs0
              have X28 : Stand _ _ _ _ _ _ _ _ _ _ T28 _ _ _ := X28'
              refine own_go (fun _ => XS.lstore X28.here hx rfl (hb hby at_177) rfl (l' := #[.val (.int p0), .val (.long qx), .second, .val (.long qy), .second, .val (.long qz), .second, .val (.int z7), .val (.long x8_17), .second, .val (.long zb), .second, .val (.long zc), .second, .val (.ref oL), .val (.long x15_125), .second, .val (.long x17_139), .second, .val (.long x19_163), .second, .val (.long zs0), .second, .unset, .unset, .unset, .unset, .unset, .unset, .unset, .unset, .unset]) rfl) ?_
              refine own_go (fun _ => XS.lload X28.here hx rfl (hb hby at_179) rfl) ?_
              show own_G p e below Φ T28 (mkF m 181 #[.val (.int p0), .val (.long qx), .second, .val (.long qy), .second, .val (.long qz), .second, .val (.int z7), .val (.long x8_17), .second, .val (.long zb), .second, .val (.long zc), .second, .val (.ref oL), .val (.long x15_125), .second, .val (.long x17_139), .second, .val (.long x19_163), .second, .val (.long zs0), .second, .unset, .unset, .unset, .unset, .unset, .unset, .unset, .unset, .unset] [(.long x19_163)])
              refine own_go (fun _ => XS.lstore X28.here hx rfl (hb hby at_181) rfl (l' := #[.val (.int p0), .val (.long qx), .second, .val (.long qy), .second, .val (.long qz), .second, .val (.int z7), .val (.long x8_17), .second, .val (.long zb), .second, .val (.long zc), .second, .val (.ref oL), .val (.long x15_125), .second, .val (.long x17_139), .second, .val (.long x19_163), .second, .val (.long zs0), .second, .val (.long x19_163), .second, .unset, .unset, .unset, .unset, .unset, .unset, .unset]) rfl) ?_
              refine own_go (fun _ => XS.iload X28.here hx rfl (hb hby at_183) rfl) ?_
              show own_G p e below Φ T28 (mkF m 185 #[.val (.int p0), .val (.long qx), .second, .val (.long qy), .second, .val (.long qz), .second, .val (.int z7), .val (.long x8_17), .second, .val (.long zb), .second, .val (.long zc), .second, .val (.ref oL), .val (.long x15_125), .second, .val (.long x17_139), .second, .val (.long x19_163), .second, .val (.long zs0), .second, .val (.long x19_163), .second, .unset, .unset, .unset, .unset, .unset, .unset, .unset] [(.int z7)])
              have hJ195_29 : ∀ (T' : State) (l' : List Loc), own_AlL X28 T' l' 6 138 → Fr n0 l' → T'.heap = h19 → ∀ (zs2 : Int64), (zs2 = if z7 = 0 then x15_125 else x17_139) → own_G p e below Φ T' (mkF m 195 #[.val (.int p0), .val (.long qx), .second, .val (.long qy), .second, .val (.long qz), .second, .val (.int z7), .val (.long x8_17), .second, .val (.long zb), .second, .val (.long zc), .second, .val (.ref oL), .val (.long x15_125), .second, .val (.long x17_139), .second, .val (.long x19_163), .second, .val (.long zs0), .second, .val (.long x19_163), .second, .unset, .unset, .unset, .unset, .unset, .unset, .unset] [(.long zs2)]) := by
                intro T29 l29 X29' N29 e29 zs2 h_zs2
                have X29 : Stand _ _ _ _ _ _ _ _ _ _ T29 _ _ _ := X29'
                refine own_go (fun _ => XS.lstore X29.here hx rfl (hb hby at_195) rfl (l' := #[.val (.int p0), .val (.long qx), .second, .val (.long qy), .second, .val (.long qz), .second, .val (.int z7), .val (.long x8_17), .second, .val (.long zb), .second, .val (.long zc), .second, .val (.ref oL), .val (.long x15_125), .second, .val (.long x17_139), .second, .val (.long x19_163), .second, .val (.long zs0), .second, .val (.long x19_163), .second, .val (.long zs2), .second, .unset, .unset, .unset, .unset, .unset]) rfl) ?_
                refine own_go (fun _ => XS.lconst X29.here hx rfl (hb hby at_197)) ?_
                show own_G p e below Φ T29 (mkF m 198 #[.val (.int p0), .val (.long qx), .second, .val (.long qy), .second, .val (.long qz), .second, .val (.int z7), .val (.long x8_17), .second, .val (.long zb), .second, .val (.long zc), .second, .val (.ref oL), .val (.long x15_125), .second, .val (.long x17_139), .second, .val (.long x19_163), .second, .val (.long zs0), .second, .val (.long x19_163), .second, .val (.long zs2), .second, .unset, .unset, .unset, .unset, .unset] [(.long (0 : Int64))])
                refine own_go (fun _ => XS.lstore X29.here hx rfl (hb hby at_198) rfl (l' := #[.val (.int p0), .val (.long qx), .second, .val (.long qy), .second, .val (.long qz), .second, .val (.int z7), .val (.long x8_17), .second, .val (.long zb), .second, .val (.long zc), .second, .val (.ref oL), .val (.long x15_125), .second, .val (.long x17_139), .second, .val (.long x19_163), .second, .val (.long zs0), .second, .val (.long x19_163), .second, .val (.long zs2), .second, .unset, .val (.long (0 : Int64)), .second, .unset, .unset]) rfl) ?_
                refine own_go (fun _ => XS.lconst X29.here hx rfl (hb hby at_200)) ?_
                refine own_go (fun _ => XS.lstore X29.here hx rfl (hb hby at_201) rfl (l' := #[.val (.int p0), .val (.long qx), .second, .val (.long qy), .second, .val (.long qz), .second, .val (.int z7), .val (.long x8_17), .second, .val (.long zb), .second, .val (.long zc), .second, .val (.ref oL), .val (.long x15_125), .second, .val (.long x17_139), .second, .val (.long x19_163), .second, .val (.long zs0), .second, .val (.long x19_163), .second, .val (.long zs2), .second, .unset, .val (.long (0 : Int64)), .second, .val (.long (0 : Int64)), .second]) rfl) ?_
                have hfin := (own_fin2 h_z7 hp8 h_zb h_zc hx15_125 hx17_139 hx19_163 h_zs0 h_zs2 hset)
                show own_G p e below Φ T29 (mkF m 203 #[.val (.int p0), .val (.long qx), .second, .val (.long qy), .second, .val (.long qz), .second, .val (.int z7), .val (.long x8_17), .second, .val (.long zb), .second, .val (.long zc), .second, .val (.ref oL), .val (.long x15_125), .second, .val (.long x17_139), .second, .val (.long x19_163), .second, .val (.long zs0), .second, .val (.long x19_163), .second, .val (.long zs2), .second, .unset, .val (.long (0 : Int64)), .second, .val (.long (0 : Int64)), .second] [])
                refine own_go (fun _ => XS.lload X29.here hx rfl (hb hby at_203) rfl) ?_
                refine own_go (fun _ => XS.lload X29.here hx rfl (hb hby at_205) rfl) ?_
                show own_G p e below Φ T29 (mkF m 207 #[.val (.int p0), .val (.long qx), .second, .val (.long qy), .second, .val (.long qz), .second, .val (.int z7), .val (.long x8_17), .second, .val (.long zb), .second, .val (.long zc), .second, .val (.ref oL), .val (.long x15_125), .second, .val (.long x17_139), .second, .val (.long x19_163), .second, .val (.long zs0), .second, .val (.long x19_163), .second, .val (.long zs2), .second, .unset, .val (.long (0 : Int64)), .second, .val (.long (0 : Int64)), .second] [(.long zs0), (.long x19_163)])
                refine own_go (fun _ => XS.lcmp X29.here hx rfl (hb hby at_207) rfl) ?_
                show own_G p e below Φ T29 (mkF m 208 #[.val (.int p0), .val (.long qx), .second, .val (.long qy), .second, .val (.long qz), .second, .val (.int z7), .val (.long x8_17), .second, .val (.long zb), .second, .val (.long zc), .second, .val (.ref oL), .val (.long x15_125), .second, .val (.long x17_139), .second, .val (.long x19_163), .second, .val (.long zs0), .second, .val (.long x19_163), .second, .val (.long zs2), .second, .unset, .val (.long (0 : Int64)), .second, .val (.long (0 : Int64)), .second] [(.int (lcmpW x19_163 zs0))])
                by_cases hc208 : x19_163 = zs0
                · refine own_go (fun _ => XS.ifYes X29.here hx rfl (pc0 := 208) (pc' := 239) rfl (hb hby at_208) rfl (Jvm.Free.XT.ll_eq_t hc208) (by decide) (by decide)) ?_
                  refine own_go (fun _ => XS.lload X29.here hx rfl (hb hby at_239) rfl) ?_
                  refine own_go (fun _ => XS.lload X29.here hx rfl (hb hby at_241) rfl) ?_
                  show own_G p e below Φ T29 (mkF m 243 #[.val (.int p0), .val (.long qx), .second, .val (.long qy), .second, .val (.long qz), .second, .val (.int z7), .val (.long x8_17), .second, .val (.long zb), .second, .val (.long zc), .second, .val (.ref oL), .val (.long x15_125), .second, .val (.long x17_139), .second, .val (.long x19_163), .second, .val (.long zs0), .second, .val (.long x19_163), .second, .val (.long zs2), .second, .unset, .val (.long (0 : Int64)), .second, .val (.long (0 : Int64)), .second] [(.long zs0), (.long zs2)])
                  refine own_go (fun _ => XS.lcmp X29.here hx rfl (hb hby at_243) rfl) ?_
                  show own_G p e below Φ T29 (mkF m 244 #[.val (.int p0), .val (.long qx), .second, .val (.long qy), .second, .val (.long qz), .second, .val (.int z7), .val (.long x8_17), .second, .val (.long zb), .second, .val (.long zc), .second, .val (.ref oL), .val (.long x15_125), .second, .val (.long x17_139), .second, .val (.long x19_163), .second, .val (.long zs0), .second, .val (.long x19_163), .second, .val (.long zs2), .second, .unset, .val (.long (0 : Int64)), .second, .val (.long (0 : Int64)), .second] [(.int (lcmpW zs2 zs0))])
                  refine own_go (fun _ => XS.ifNo X29.here hx rfl (hb hby at_244) rfl (Jvm.Free.XT.ll_eq_f hfin.2.2.1)) ?_
                  refine own_go (fun _ => XS.lload X29.here hx rfl (hb hby at_247) rfl) ?_
                  refine own_go (fun _ => XS.lstore X29.here hx rfl (hb hby at_249) rfl (l' := #[.val (.int p0), .val (.long qx), .second, .val (.long qy), .second, .val (.long qz), .second, .val (.int z7), .val (.long x8_17), .second, .val (.long zb), .second, .val (.long zc), .second, .val (.ref oL), .val (.long x15_125), .second, .val (.long x17_139), .second, .val (.long x19_163), .second, .val (.long zs0), .second, .val (.long x19_163), .second, .val (.long zs2), .second, .unset, .val (.long zs2), .second, .val (.long (0 : Int64)), .second]) rfl) ?_
                  show own_G p e below Φ T29 (mkF m 251 #[.val (.int p0), .val (.long qx), .second, .val (.long qy), .second, .val (.long qz), .second, .val (.int z7), .val (.long x8_17), .second, .val (.long zb), .second, .val (.long zc), .second, .val (.ref oL), .val (.long x15_125), .second, .val (.long x17_139), .second, .val (.long x19_163), .second, .val (.long zs0), .second, .val (.long x19_163), .second, .val (.long zs2), .second, .unset, .val (.long zs2), .second, .val (.long (0 : Int64)), .second] [])
                  refine own_go (fun _ => XS.iconst X29.here hx rfl (hb hby at_251)) ?_
                  refine own_go (fun _ => XS.istore X29.here hx rfl (hb hby at_252) rfl (l' := #[.val (.int p0), .val (.long qx), .second, .val (.long qy), .second, .val (.long qz), .second, .val (.int z7), .val (.long x8_17), .second, .val (.long zb), .second, .val (.long zc), .second, .val (.ref oL), .val (.long x15_125), .second, .val (.long x17_139), .second, .val (.long x19_163), .second, .val (.long zs0), .second, .val (.long x19_163), .second, .val (.long zs2), .second, .val (.int (2 : Int32)), .val (.long zs2), .second, .val (.long (0 : Int64)), .second]) rfl) ?_
                  refine own_go (fun _ => XS.goto X29.here hx rfl (pc0 := 254) (pc' := 260) rfl (hb hby at_254) (by decide) (by decide)) ?_
                  show own_G p e below Φ T29 (mkF m 260 #[.val (.int p0), .val (.long qx), .second, .val (.long qy), .second, .val (.long qz), .second, .val (.int z7), .val (.long x8_17), .second, .val (.long zb), .second, .val (.long zc), .second, .val (.ref oL), .val (.long x15_125), .second, .val (.long x17_139), .second, .val (.long x19_163), .second, .val (.long zs0), .second, .val (.long x19_163), .second, .val (.long zs2), .second, .val (.int (2 : Int32)), .val (.long zs2), .second, .val (.long (0 : Int64)), .second] [])
                  refine own_go (fun _ => XS.aload X29.here hx rfl (hb hby at_260) rfl rfl) ?_
                  show own_G p e below Φ T29 (mkF m 262 #[.val (.int p0), .val (.long qx), .second, .val (.long qy), .second, .val (.long qz), .second, .val (.int z7), .val (.long x8_17), .second, .val (.long zb), .second, .val (.long zc), .second, .val (.ref oL), .val (.long x15_125), .second, .val (.long x17_139), .second, .val (.long x19_163), .second, .val (.long zs0), .second, .val (.long x19_163), .second, .val (.long zs2), .second, .val (.int (2 : Int32)), .val (.long zs2), .second, .val (.long (0 : Int64)), .second] [(.ref oL)])
                  obtain ⟨cq30, kq30, q30a, q30b, q30c⟩ := isOf hZ e29 F19_0
                  obtain ⟨_, _, ⟨T30, zL30, zk30, zn30⟩, -, X30, ⟨Lc30, hQ30, zl30, zy30, zz30⟩, st30⟩ := X29.virtualBack hx (y := (⟨"corro/core/LimitLevels", "size", "()I"⟩ : MethodName)) (z := (⟨"corro/core/LimitLevels", "size", "()I"⟩ : MethodName)) hown (mvT hZ (wd_71 hw)) (mvT hZ (wd_72 hw)) (notFace_of_selects (args := #[]) (mvT hZ (wd_74 hw))) (mvT hZ (wd_74 hw)) (mvT hZ (wd_73 hw)) (by decide) (backOf (W := 0) (rmZ2 l Z a0 hw [] oL h19 n0 Zp19 F19_2) hZ (wd_75 hw) (wd_7 hw) (by decide) (by decide)) q30a q30c (g := (mkF m 262 #[.val (.int p0), .val (.long qx), .second, .val (.long qy), .second, .val (.long qz), .second, .val (.int z7), .val (.long x8_17), .second, .val (.long zb), .second, .val (.long zc), .second, .val (.ref oL), .val (.long x15_125), .second, .val (.long x17_139), .second, .val (.long x19_163), .second, .val (.long zs0), .second, .val (.long x19_163), .second, .val (.long zs2), .second, .val (.int (2 : Int32)), .val (.long zs2), .second, .val (.long (0 : Int64)), .second] [(.ref oL)])) rfl (by rw [hml]; rfl) (Steps.refl _) (argsL := []) (rest := []) (lenOf pd_6 rfl) rfl (by show 2 * 0 + _ ≤ _; exact Nat.le_of_eq rfl) (hb hby at_262) (fun _ _ => ⟨rfl, e29, (by decide : 6 + 0 ≤ _), (by decide : 138 + 0 ≤ _)⟩)
                  dsimp only [Pt.U, Pt.locs, Pt.cells, Pt.slots] at X30 zl30 zy30 zz30 st30 hQ30
                  subst zl30 zy30 zz30
                  obtain ⟨rfl, N30q, hs30⟩ := hQ30
                  have N30 := Fr.app N29 N30q
                  refine own_on st30 ?_
                  refine own_go (fun _ => XS.iload X30.here hx rfl (hb hby at_265) rfl) ?_
                  show own_G p e below Φ T30 (mkF m 267 #[.val (.int p0), .val (.long qx), .second, .val (.long qy), .second, .val (.long qz), .second, .val (.int z7), .val (.long x8_17), .second, .val (.long zb), .second, .val (.long zc), .second, .val (.ref oL), .val (.long x15_125), .second, .val (.long x17_139), .second, .val (.long x19_163), .second, .val (.long zs0), .second, .val (.long x19_163), .second, .val (.long zs2), .second, .val (.int (2 : Int32)), .val (.long zs2), .second, .val (.long (0 : Int64)), .second] [(.int (2 : Int32)), (.int (2 : Int32))])
                  refine own_go (fun _ => XS.icmpYes X30.here hx rfl (pc0 := 267) (pc' := 272) rfl (hb hby at_267) rfl (Jvm.Free.XT.ii_eq_t (by decide : ((2 : Int32) = (2 : Int32)))) (by decide) (by decide)) ?_
                  refine own_go (fun _ => XS.aload X30.here hx rfl (hb hby at_272) rfl rfl) ?_
                  refine own_go (fun _ => XS.iconst X30.here hx rfl (hb hby at_274)) ?_
                  show own_G p e below Φ T30 (mkF m 275 #[.val (.int p0), .val (.long qx), .second, .val (.long qy), .second, .val (.long qz), .second, .val (.int z7), .val (.long x8_17), .second, .val (.long zb), .second, .val (.long zc), .second, .val (.ref oL), .val (.long x15_125), .second, .val (.long x17_139), .second, .val (.long x19_163), .second, .val (.long zs0), .second, .val (.long x19_163), .second, .val (.long zs2), .second, .val (.int (2 : Int32)), .val (.long zs2), .second, .val (.long (0 : Int64)), .second] [(.int (0 : Int32)), (.ref oL)])
                  obtain ⟨cq31, kq31, q31a, q31b, q31c⟩ := isOf hZ hs30 F19_0
                  obtain ⟨_, _, ⟨T31, zL31, zk31, zn31⟩, -, X31, ⟨Lc31, hQ31, zl31, zy31, zz31⟩, st31⟩ := X30.virtualBack hx (y := (⟨"corro/core/LimitLevels", "price", "(I)J"⟩ : MethodName)) (z := (⟨"corro/core/LimitLevels", "price", "(I)J"⟩ : MethodName)) hown (mvT hZ (wd_76 hw)) (mvT hZ (wd_77 hw)) (notFace_of_selects (args := #[]) (mvT hZ (wd_79 hw))) (mvT hZ (wd_79 hw)) (mvT hZ (wd_78 hw)) (by decide) (backOf (W := 0) (rmQ2_0 l Z a0 hw [] oL z7 xa kk k0 k1 h19 n0 Zp19 F19_1 F19_2 F19_3 F19_4) hZ (wd_80 hw) (wd_7 hw) (by decide) (by decide)) q31a q31c (g := (mkF m 275 #[.val (.int p0), .val (.long qx), .second, .val (.long qy), .second, .val (.long qz), .second, .val (.int z7), .val (.long x8_17), .second, .val (.long zb), .second, .val (.long zc), .second, .val (.ref oL), .val (.long x15_125), .second, .val (.long x17_139), .second, .val (.long x19_163), .second, .val (.long zs0), .second, .val (.long x19_163), .second, .val (.long zs2), .second, .val (.int (2 : Int32)), .val (.long zs2), .second, .val (.long (0 : Int64)), .second] [(.int (0 : Int32)), (.ref oL)])) rfl (by rw [hml]; rfl) (Steps.refl _) (argsL := [(.int (0 : Int32))]) (rest := []) (lenOf pd_7 rfl) rfl (by show 2 * 0 + _ ≤ _; exact Nat.le_of_eq rfl) (hb hby at_275) (fun _ _ => ⟨rfl, hs30, (by decide : 6 + 0 ≤ _), (by decide : 138 + 0 ≤ _)⟩)
                  dsimp only [Pt.U, Pt.locs, Pt.cells, Pt.slots] at X31 zl31 zy31 zz31 st31 hQ31
                  subst zl31 zy31 zz31
                  obtain ⟨rfl, N31q, hs31⟩ := hQ31
                  have N31 := Fr.app N30 N31q
                  refine own_on st31 ?_
                  refine own_go (fun _ => XS.lload X31.here hx rfl (hb hby at_278) rfl) ?_
                  show own_G p e below Φ T31 (mkF m 280 #[.val (.int p0), .val (.long qx), .second, .val (.long qy), .second, .val (.long qz), .second, .val (.int z7), .val (.long x8_17), .second, .val (.long zb), .second, .val (.long zc), .second, .val (.ref oL), .val (.long x15_125), .second, .val (.long x17_139), .second, .val (.long x19_163), .second, .val (.long zs0), .second, .val (.long x19_163), .second, .val (.long zs2), .second, .val (.int (2 : Int32)), .val (.long zs2), .second, .val (.long (0 : Int64)), .second] [(.long zs0), (.long (own_key z7 k1))])
                  refine own_go (fun _ => XS.lcmp X31.here hx rfl (hb hby at_280) rfl) ?_
                  show own_G p e below Φ T31 (mkF m 281 #[.val (.int p0), .val (.long qx), .second, .val (.long qy), .second, .val (.long qz), .second, .val (.int z7), .val (.long x8_17), .second, .val (.long zb), .second, .val (.long zc), .second, .val (.ref oL), .val (.long x15_125), .second, .val (.long x17_139), .second, .val (.long x19_163), .second, .val (.long zs0), .second, .val (.long x19_163), .second, .val (.long zs2), .second, .val (.int (2 : Int32)), .val (.long zs2), .second, .val (.long (0 : Int64)), .second] [(.int (lcmpW (own_key z7 k1) zs0))])
                  refine own_go (fun _ => XS.ifYes X31.here hx rfl (pc0 := 281) (pc' := 286) rfl (hb hby at_281) rfl (Jvm.Free.XT.ll_eq_t hfin.1) (by decide) (by decide)) ?_
                  refine own_go (fun _ => XS.iload X31.here hx rfl (hb hby at_286) rfl) ?_
                  refine own_go (fun _ => XS.iconst X31.here hx rfl (hb hby at_288)) ?_
                  show own_G p e below Φ T31 (mkF m 289 #[.val (.int p0), .val (.long qx), .second, .val (.long qy), .second, .val (.long qz), .second, .val (.int z7), .val (.long x8_17), .second, .val (.long zb), .second, .val (.long zc), .second, .val (.ref oL), .val (.long x15_125), .second, .val (.long x17_139), .second, .val (.long x19_163), .second, .val (.long zs0), .second, .val (.long x19_163), .second, .val (.long zs2), .second, .val (.int (2 : Int32)), .val (.long zs2), .second, .val (.long (0 : Int64)), .second] [(.int (2 : Int32)), (.int (2 : Int32))])
                  refine own_go (fun _ => XS.icmpNo X31.here hx rfl (hb hby at_289) rfl (Jvm.Free.XT.ii_lt_f (by decide : ¬ ((2 : Int32) < (2 : Int32))))) ?_
                  refine own_go (fun _ => XS.aload X31.here hx rfl (hb hby at_292) rfl rfl) ?_
                  refine own_go (fun _ => XS.iconst X31.here hx rfl (hb hby at_294)) ?_
                  show own_G p e below Φ T31 (mkF m 295 #[.val (.int p0), .val (.long qx), .second, .val (.long qy), .second, .val (.long qz), .second, .val (.int z7), .val (.long x8_17), .second, .val (.long zb), .second, .val (.long zc), .second, .val (.ref oL), .val (.long x15_125), .second, .val (.long x17_139), .second, .val (.long x19_163), .second, .val (.long zs0), .second, .val (.long x19_163), .second, .val (.long zs2), .second, .val (.int (2 : Int32)), .val (.long zs2), .second, .val (.long (0 : Int64)), .second] [(.int (1 : Int32)), (.ref oL)])
                  obtain ⟨cq32, kq32, q32a, q32b, q32c⟩ := isOf hZ hs31 F19_0
                  obtain ⟨_, _, ⟨T32, zL32, zk32, zn32⟩, -, X32, ⟨Lc32, hQ32, zl32, zy32, zz32⟩, st32⟩ := X31.virtualBack hx (y := (⟨"corro/core/LimitLevels", "price", "(I)J"⟩ : MethodName)) (z := (⟨"corro/core/LimitLevels", "price", "(I)J"⟩ : MethodName)) hown (mvT hZ (wd_76 hw)) (mvT hZ (wd_77 hw)) (notFace_of_selects (args := #[]) (mvT hZ (wd_79 hw))) (mvT hZ (wd_79 hw)) (mvT hZ (wd_78 hw)) (by decide) (backOf (W := 0) (rmQ2_1 l Z a0 hw [] oL z7 xa kk k0 k1 h19 n0 Zp19 F19_1 F19_2 F19_3 F19_4) hZ (wd_80 hw) (wd_7 hw) (by decide) (by decide)) q32a q32c (g := (mkF m 295 #[.val (.int p0), .val (.long qx), .second, .val (.long qy), .second, .val (.long qz), .second, .val (.int z7), .val (.long x8_17), .second, .val (.long zb), .second, .val (.long zc), .second, .val (.ref oL), .val (.long x15_125), .second, .val (.long x17_139), .second, .val (.long x19_163), .second, .val (.long zs0), .second, .val (.long x19_163), .second, .val (.long zs2), .second, .val (.int (2 : Int32)), .val (.long zs2), .second, .val (.long (0 : Int64)), .second] [(.int (1 : Int32)), (.ref oL)])) rfl (by rw [hml]; rfl) (Steps.refl _) (argsL := [(.int (1 : Int32))]) (rest := []) (lenOf pd_7 rfl) rfl (by show 2 * 0 + _ ≤ _; exact Nat.le_of_eq rfl) (hb hby at_295) (fun _ _ => ⟨rfl, hs31, (by decide : 6 + 0 ≤ _), (by decide : 138 + 0 ≤ _)⟩)
                  dsimp only [Pt.U, Pt.locs, Pt.cells, Pt.slots] at X32 zl32 zy32 zz32 st32 hQ32
                  subst zl32 zy32 zz32
                  obtain ⟨rfl, N32q, hs32⟩ := hQ32
                  have N32 := Fr.app N31 N32q
                  refine own_on st32 ?_
                  refine own_go (fun _ => XS.lload X32.here hx rfl (hb hby at_298) rfl) ?_
                  show own_G p e below Φ T32 (mkF m 300 #[.val (.int p0), .val (.long qx), .second, .val (.long qy), .second, .val (.long qz), .second, .val (.int z7), .val (.long x8_17), .second, .val (.long zb), .second, .val (.long zc), .second, .val (.ref oL), .val (.long x15_125), .second, .val (.long x17_139), .second, .val (.long x19_163), .second, .val (.long zs0), .second, .val (.long x19_163), .second, .val (.long zs2), .second, .val (.int (2 : Int32)), .val (.long zs2), .second, .val (.long (0 : Int64)), .second] [(.long zs2), (.long (own_key z7 k0))])
                  refine own_go (fun _ => XS.lcmp X32.here hx rfl (hb hby at_300) rfl) ?_
                  show own_G p e below Φ T32 (mkF m 301 #[.val (.int p0), .val (.long qx), .second, .val (.long qy), .second, .val (.long qz), .second, .val (.int z7), .val (.long x8_17), .second, .val (.long zb), .second, .val (.long zc), .second, .val (.ref oL), .val (.long x15_125), .second, .val (.long x17_139), .second, .val (.long x19_163), .second, .val (.long zs0), .second, .val (.long x19_163), .second, .val (.long zs2), .second, .val (.int (2 : Int32)), .val (.long zs2), .second, .val (.long (0 : Int64)), .second] [(.int (lcmpW (own_key z7 k0) zs2))])
                  refine own_go (fun _ => XS.ifYes X32.here hx rfl (pc0 := 301) (pc' := 306) rfl (hb hby at_301) rfl (Jvm.Free.XT.ll_eq_t hfin.2.1) (by decide) (by decide)) ?_
                  refine own_go (fun _ => XS.iload X32.here hx rfl (hb hby at_306) rfl) ?_
                  refine own_go (fun _ => XS.iconst X32.here hx rfl (hb hby at_308)) ?_
                  show own_G p e below Φ T32 (mkF m 309 #[.val (.int p0), .val (.long qx), .second, .val (.long qy), .second, .val (.long qz), .second, .val (.int z7), .val (.long x8_17), .second, .val (.long zb), .second, .val (.long zc), .second, .val (.ref oL), .val (.long x15_125), .second, .val (.long x17_139), .second, .val (.long x19_163), .second, .val (.long zs0), .second, .val (.long x19_163), .second, .val (.long zs2), .second, .val (.int (2 : Int32)), .val (.long zs2), .second, .val (.long (0 : Int64)), .second] [(.int (3 : Int32)), (.int (2 : Int32))])
                  refine own_go (fun _ => XS.icmpYes X32.here hx rfl (pc0 := 309) (pc' := 326) rfl (hb hby at_309) rfl (Jvm.Free.XT.ii_lt_t (by decide : ((2 : Int32) < (3 : Int32)))) (by decide) (by decide)) ?_
                  refine own_go (fun _ => XS.iconst X32.here hx rfl (hb hby at_326)) ?_
                  show own_G p e below Φ T32 (mkF m 327 #[.val (.int p0), .val (.long qx), .second, .val (.long qy), .second, .val (.long qz), .second, .val (.int z7), .val (.long x8_17), .second, .val (.long zb), .second, .val (.long zc), .second, .val (.ref oL), .val (.long x15_125), .second, .val (.long x17_139), .second, .val (.long x19_163), .second, .val (.long zs0), .second, .val (.long x19_163), .second, .val (.long zs2), .second, .val (.int (2 : Int32)), .val (.long zs2), .second, .val (.long (0 : Int64)), .second] [(.int (1 : Int32))])
                  rw [hΦ]
                  refine own_ret X32 (v := some (.int (1 : Int32))) (fun h => by rw [Bd.returns] at h; cases h) (BodyLoose.notSynchronized Bd) (fun fs hr => retN X32 hx (t := .boolean) Bd.returns (by simp) (hb hby at_327) hr) ?_ (by decide) (by decide)
                  rw [hs32]
                  exact ⟨rfl, N32⟩
                · refine own_go (fun _ => XS.ifNo X29.here hx rfl (hb hby at_208) rfl (Jvm.Free.XT.ll_eq_f hc208)) ?_
                  refine own_go (fun _ => XS.lload X29.here hx rfl (hb hby at_211) rfl) ?_
                  refine own_go (fun _ => XS.lstore X29.here hx rfl (hb hby at_213) rfl (l' := #[.val (.int p0), .val (.long qx), .second, .val (.long qy), .second, .val (.long qz), .second, .val (.int z7), .val (.long x8_17), .second, .val (.long zb), .second, .val (.long zc), .second, .val (.ref oL), .val (.long x15_125), .second, .val (.long x17_139), .second, .val (.long x19_163), .second, .val (.long zs0), .second, .val (.long x19_163), .second, .val (.long zs2), .second, .unset, .val (.long x19_163), .second, .val (.long (0 : Int64)), .second]) rfl) ?_
                  show own_G p e below Φ T29 (mkF m 215 #[.val (.int p0), .val (.long qx), .second, .val (.long qy), .second, .val (.long qz), .second, .val (.int z7), .val (.long x8_17), .second, .val (.long zb), .second, .val (.long zc), .second, .val (.ref oL), .val (.long x15_125), .second, .val (.long x17_139), .second, .val (.long x19_163), .second, .val (.long zs0), .second, .val (.long x19_163), .second, .val (.long zs2), .second, .unset, .val (.long x19_163), .second, .val (.long (0 : Int64)), .second] [])
                  refine own_go (fun _ => XS.lload X29.here hx rfl (hb hby at_215) rfl) ?_
                  refine own_go (fun _ => XS.lload X29.here hx rfl (hb hby at_217) rfl) ?_
                  show own_G p e below Φ T29 (mkF m 219 #[.val (.int p0), .val (.long qx), .second, .val (.long qy), .second, .val (.long qz), .second, .val (.int z7), .val (.long x8_17), .second, .val (.long zb), .second, .val (.long zc), .second, .val (.ref oL), .val (.long x15_125), .second, .val (.long x17_139), .second, .val (.long x19_163), .second, .val (.long zs0), .second, .val (.long x19_163), .second, .val (.long zs2), .second, .unset, .val (.long x19_163), .second, .val (.long (0 : Int64)), .second] [(.long x19_163), (.long zs2)])
                  refine own_go (fun _ => XS.lcmp X29.here hx rfl (hb hby at_219) rfl) ?_
                  show own_G p e below Φ T29 (mkF m 220 #[.val (.int p0), .val (.long qx), .second, .val (.long qy), .second, .val (.long qz), .second, .val (.int z7), .val (.long x8_17), .second, .val (.long zb), .second, .val (.long zc), .second, .val (.ref oL), .val (.long x15_125), .second, .val (.long x17_139), .second, .val (.long x19_163), .second, .val (.long zs0), .second, .val (.long x19_163), .second, .val (.long zs2), .second, .unset, .val (.long x19_163), .second, .val (.long (0 : Int64)), .second] [(.int (lcmpW zs2 x19_163))])
                  refine own_go (fun _ => XS.ifYes X29.here hx rfl (pc0 := 220) (pc' := 233) rfl (hb hby at_220) rfl (Jvm.Free.XT.ll_eq_t (hfin.2.2.2.elim (fun q => absurd q hc208) Eq.symm)) (by decide) (by decide)) ?_
                  refine own_go (fun _ => XS.iconst X29.here hx rfl (hb hby at_233)) ?_
                  refine own_go (fun _ => XS.istore X29.here hx rfl (hb hby at_234) rfl (l' := #[.val (.int p0), .val (.long qx), .second, .val (.long qy), .second, .val (.long qz), .second, .val (.int z7), .val (.long x8_17), .second, .val (.long zb), .second, .val (.long zc), .second, .val (.ref oL), .val (.long x15_125), .second, .val (.long x17_139), .second, .val (.long x19_163), .second, .val (.long zs0), .second, .val (.long x19_163), .second, .val (.long zs2), .second, .val (.int (2 : Int32)), .val (.long x19_163), .second, .val (.long (0 : Int64)), .second]) rfl) ?_
                  show own_G p e below Φ T29 (mkF m 236 #[.val (.int p0), .val (.long qx), .second, .val (.long qy), .second, .val (.long qz), .second, .val (.int z7), .val (.long x8_17), .second, .val (.long zb), .second, .val (.long zc), .second, .val (.ref oL), .val (.long x15_125), .second, .val (.long x17_139), .second, .val (.long x19_163), .second, .val (.long zs0), .second, .val (.long x19_163), .second, .val (.long zs2), .second, .val (.int (2 : Int32)), .val (.long x19_163), .second, .val (.long (0 : Int64)), .second] [])
                  refine own_go (fun _ => XS.goto X29.here hx rfl (pc0 := 236) (pc' := 260) rfl (hb hby at_236) (by decide) (by decide)) ?_
                  refine own_go (fun _ => XS.aload X29.here hx rfl (hb hby at_260) rfl rfl) ?_
                  show own_G p e below Φ T29 (mkF m 262 #[.val (.int p0), .val (.long qx), .second, .val (.long qy), .second, .val (.long qz), .second, .val (.int z7), .val (.long x8_17), .second, .val (.long zb), .second, .val (.long zc), .second, .val (.ref oL), .val (.long x15_125), .second, .val (.long x17_139), .second, .val (.long x19_163), .second, .val (.long zs0), .second, .val (.long x19_163), .second, .val (.long zs2), .second, .val (.int (2 : Int32)), .val (.long x19_163), .second, .val (.long (0 : Int64)), .second] [(.ref oL)])
                  obtain ⟨cq33, kq33, q33a, q33b, q33c⟩ := isOf hZ e29 F19_0
                  obtain ⟨_, _, ⟨T33, zL33, zk33, zn33⟩, -, X33, ⟨Lc33, hQ33, zl33, zy33, zz33⟩, st33⟩ := X29.virtualBack hx (y := (⟨"corro/core/LimitLevels", "size", "()I"⟩ : MethodName)) (z := (⟨"corro/core/LimitLevels", "size", "()I"⟩ : MethodName)) hown (mvT hZ (wd_71 hw)) (mvT hZ (wd_72 hw)) (notFace_of_selects (args := #[]) (mvT hZ (wd_74 hw))) (mvT hZ (wd_74 hw)) (mvT hZ (wd_73 hw)) (by decide) (backOf (W := 0) (rmZ2 l Z a0 hw [] oL h19 n0 Zp19 F19_2) hZ (wd_75 hw) (wd_7 hw) (by decide) (by decide)) q33a q33c (g := (mkF m 262 #[.val (.int p0), .val (.long qx), .second, .val (.long qy), .second, .val (.long qz), .second, .val (.int z7), .val (.long x8_17), .second, .val (.long zb), .second, .val (.long zc), .second, .val (.ref oL), .val (.long x15_125), .second, .val (.long x17_139), .second, .val (.long x19_163), .second, .val (.long zs0), .second, .val (.long x19_163), .second, .val (.long zs2), .second, .val (.int (2 : Int32)), .val (.long x19_163), .second, .val (.long (0 : Int64)), .second] [(.ref oL)])) rfl (by rw [hml]; rfl) (Steps.refl _) (argsL := []) (rest := []) (lenOf pd_6 rfl) rfl (by show 2 * 0 + _ ≤ _; exact Nat.le_of_eq rfl) (hb hby at_262) (fun _ _ => ⟨rfl, e29, (by decide : 6 + 0 ≤ _), (by decide : 138 + 0 ≤ _)⟩)
                  dsimp only [Pt.U, Pt.locs, Pt.cells, Pt.slots] at X33 zl33 zy33 zz33 st33 hQ33
                  subst zl33 zy33 zz33
                  obtain ⟨rfl, N33q, hs33⟩ := hQ33
                  have N33 := Fr.app N29 N33q
                  refine own_on st33 ?_
                  refine own_go (fun _ => XS.iload X33.here hx rfl (hb hby at_265) rfl) ?_
                  show own_G p e below Φ T33 (mkF m 267 #[.val (.int p0), .val (.long qx), .second, .val (.long qy), .second, .val (.long qz), .second, .val (.int z7), .val (.long x8_17), .second, .val (.long zb), .second, .val (.long zc), .second, .val (.ref oL), .val (.long x15_125), .second, .val (.long x17_139), .second, .val (.long x19_163), .second, .val (.long zs0), .second, .val (.long x19_163), .second, .val (.long zs2), .second, .val (.int (2 : Int32)), .val (.long x19_163), .second, .val (.long (0 : Int64)), .second] [(.int (2 : Int32)), (.int (2 : Int32))])
                  refine own_go (fun _ => XS.icmpYes X33.here hx rfl (pc0 := 267) (pc' := 272) rfl (hb hby at_267) rfl (Jvm.Free.XT.ii_eq_t (by decide : ((2 : Int32) = (2 : Int32)))) (by decide) (by decide)) ?_
                  refine own_go (fun _ => XS.aload X33.here hx rfl (hb hby at_272) rfl rfl) ?_
                  refine own_go (fun _ => XS.iconst X33.here hx rfl (hb hby at_274)) ?_
                  show own_G p e below Φ T33 (mkF m 275 #[.val (.int p0), .val (.long qx), .second, .val (.long qy), .second, .val (.long qz), .second, .val (.int z7), .val (.long x8_17), .second, .val (.long zb), .second, .val (.long zc), .second, .val (.ref oL), .val (.long x15_125), .second, .val (.long x17_139), .second, .val (.long x19_163), .second, .val (.long zs0), .second, .val (.long x19_163), .second, .val (.long zs2), .second, .val (.int (2 : Int32)), .val (.long x19_163), .second, .val (.long (0 : Int64)), .second] [(.int (0 : Int32)), (.ref oL)])
                  obtain ⟨cq34, kq34, q34a, q34b, q34c⟩ := isOf hZ hs33 F19_0
                  obtain ⟨_, _, ⟨T34, zL34, zk34, zn34⟩, -, X34, ⟨Lc34, hQ34, zl34, zy34, zz34⟩, st34⟩ := X33.virtualBack hx (y := (⟨"corro/core/LimitLevels", "price", "(I)J"⟩ : MethodName)) (z := (⟨"corro/core/LimitLevels", "price", "(I)J"⟩ : MethodName)) hown (mvT hZ (wd_76 hw)) (mvT hZ (wd_77 hw)) (notFace_of_selects (args := #[]) (mvT hZ (wd_79 hw))) (mvT hZ (wd_79 hw)) (mvT hZ (wd_78 hw)) (by decide) (backOf (W := 0) (rmQ2_0 l Z a0 hw [] oL z7 xa kk k0 k1 h19 n0 Zp19 F19_1 F19_2 F19_3 F19_4) hZ (wd_80 hw) (wd_7 hw) (by decide) (by decide)) q34a q34c (g := (mkF m 275 #[.val (.int p0), .val (.long qx), .second, .val (.long qy), .second, .val (.long qz), .second, .val (.int z7), .val (.long x8_17), .second, .val (.long zb), .second, .val (.long zc), .second, .val (.ref oL), .val (.long x15_125), .second, .val (.long x17_139), .second, .val (.long x19_163), .second, .val (.long zs0), .second, .val (.long x19_163), .second, .val (.long zs2), .second, .val (.int (2 : Int32)), .val (.long x19_163), .second, .val (.long (0 : Int64)), .second] [(.int (0 : Int32)), (.ref oL)])) rfl (by rw [hml]; rfl) (Steps.refl _) (argsL := [(.int (0 : Int32))]) (rest := []) (lenOf pd_7 rfl) rfl (by show 2 * 0 + _ ≤ _; exact Nat.le_of_eq rfl) (hb hby at_275) (fun _ _ => ⟨rfl, hs33, (by decide : 6 + 0 ≤ _), (by decide : 138 + 0 ≤ _)⟩)
                  dsimp only [Pt.U, Pt.locs, Pt.cells, Pt.slots] at X34 zl34 zy34 zz34 st34 hQ34
                  subst zl34 zy34 zz34
                  obtain ⟨rfl, N34q, hs34⟩ := hQ34
                  have N34 := Fr.app N33 N34q
                  refine own_on st34 ?_
                  refine own_go (fun _ => XS.lload X34.here hx rfl (hb hby at_278) rfl) ?_
                  show own_G p e below Φ T34 (mkF m 280 #[.val (.int p0), .val (.long qx), .second, .val (.long qy), .second, .val (.long qz), .second, .val (.int z7), .val (.long x8_17), .second, .val (.long zb), .second, .val (.long zc), .second, .val (.ref oL), .val (.long x15_125), .second, .val (.long x17_139), .second, .val (.long x19_163), .second, .val (.long zs0), .second, .val (.long x19_163), .second, .val (.long zs2), .second, .val (.int (2 : Int32)), .val (.long x19_163), .second, .val (.long (0 : Int64)), .second] [(.long zs0), (.long (own_key z7 k1))])
                  refine own_go (fun _ => XS.lcmp X34.here hx rfl (hb hby at_280) rfl) ?_
                  show own_G p e below Φ T34 (mkF m 281 #[.val (.int p0), .val (.long qx), .second, .val (.long qy), .second, .val (.long qz), .second, .val (.int z7), .val (.long x8_17), .second, .val (.long zb), .second, .val (.long zc), .second, .val (.ref oL), .val (.long x15_125), .second, .val (.long x17_139), .second, .val (.long x19_163), .second, .val (.long zs0), .second, .val (.long x19_163), .second, .val (.long zs2), .second, .val (.int (2 : Int32)), .val (.long x19_163), .second, .val (.long (0 : Int64)), .second] [(.int (lcmpW (own_key z7 k1) zs0))])
                  refine own_go (fun _ => XS.ifYes X34.here hx rfl (pc0 := 281) (pc' := 286) rfl (hb hby at_281) rfl (Jvm.Free.XT.ll_eq_t hfin.1) (by decide) (by decide)) ?_
                  refine own_go (fun _ => XS.iload X34.here hx rfl (hb hby at_286) rfl) ?_
                  refine own_go (fun _ => XS.iconst X34.here hx rfl (hb hby at_288)) ?_
                  show own_G p e below Φ T34 (mkF m 289 #[.val (.int p0), .val (.long qx), .second, .val (.long qy), .second, .val (.long qz), .second, .val (.int z7), .val (.long x8_17), .second, .val (.long zb), .second, .val (.long zc), .second, .val (.ref oL), .val (.long x15_125), .second, .val (.long x17_139), .second, .val (.long x19_163), .second, .val (.long zs0), .second, .val (.long x19_163), .second, .val (.long zs2), .second, .val (.int (2 : Int32)), .val (.long x19_163), .second, .val (.long (0 : Int64)), .second] [(.int (2 : Int32)), (.int (2 : Int32))])
                  refine own_go (fun _ => XS.icmpNo X34.here hx rfl (hb hby at_289) rfl (Jvm.Free.XT.ii_lt_f (by decide : ¬ ((2 : Int32) < (2 : Int32))))) ?_
                  refine own_go (fun _ => XS.aload X34.here hx rfl (hb hby at_292) rfl rfl) ?_
                  refine own_go (fun _ => XS.iconst X34.here hx rfl (hb hby at_294)) ?_
                  show own_G p e below Φ T34 (mkF m 295 #[.val (.int p0), .val (.long qx), .second, .val (.long qy), .second, .val (.long qz), .second, .val (.int z7), .val (.long x8_17), .second, .val (.long zb), .second, .val (.long zc), .second, .val (.ref oL), .val (.long x15_125), .second, .val (.long x17_139), .second, .val (.long x19_163), .second, .val (.long zs0), .second, .val (.long x19_163), .second, .val (.long zs2), .second, .val (.int (2 : Int32)), .val (.long x19_163), .second, .val (.long (0 : Int64)), .second] [(.int (1 : Int32)), (.ref oL)])
                  obtain ⟨cq35, kq35, q35a, q35b, q35c⟩ := isOf hZ hs34 F19_0
                  obtain ⟨_, _, ⟨T35, zL35, zk35, zn35⟩, -, X35, ⟨Lc35, hQ35, zl35, zy35, zz35⟩, st35⟩ := X34.virtualBack hx (y := (⟨"corro/core/LimitLevels", "price", "(I)J"⟩ : MethodName)) (z := (⟨"corro/core/LimitLevels", "price", "(I)J"⟩ : MethodName)) hown (mvT hZ (wd_76 hw)) (mvT hZ (wd_77 hw)) (notFace_of_selects (args := #[]) (mvT hZ (wd_79 hw))) (mvT hZ (wd_79 hw)) (mvT hZ (wd_78 hw)) (by decide) (backOf (W := 0) (rmQ2_1 l Z a0 hw [] oL z7 xa kk k0 k1 h19 n0 Zp19 F19_1 F19_2 F19_3 F19_4) hZ (wd_80 hw) (wd_7 hw) (by decide) (by decide)) q35a q35c (g := (mkF m 295 #[.val (.int p0), .val (.long qx), .second, .val (.long qy), .second, .val (.long qz), .second, .val (.int z7), .val (.long x8_17), .second, .val (.long zb), .second, .val (.long zc), .second, .val (.ref oL), .val (.long x15_125), .second, .val (.long x17_139), .second, .val (.long x19_163), .second, .val (.long zs0), .second, .val (.long x19_163), .second, .val (.long zs2), .second, .val (.int (2 : Int32)), .val (.long x19_163), .second, .val (.long (0 : Int64)), .second] [(.int (1 : Int32)), (.ref oL)])) rfl (by rw [hml]; rfl) (Steps.refl _) (argsL := [(.int (1 : Int32))]) (rest := []) (lenOf pd_7 rfl) rfl (by show 2 * 0 + _ ≤ _; exact Nat.le_of_eq rfl) (hb hby at_295) (fun _ _ => ⟨rfl, hs34, (by decide : 6 + 0 ≤ _), (by decide : 138 + 0 ≤ _)⟩)
                  dsimp only [Pt.U, Pt.locs, Pt.cells, Pt.slots] at X35 zl35 zy35 zz35 st35 hQ35
                  subst zl35 zy35 zz35
                  obtain ⟨rfl, N35q, hs35⟩ := hQ35
                  have N35 := Fr.app N34 N35q
                  refine own_on st35 ?_
                  refine own_go (fun _ => XS.lload X35.here hx rfl (hb hby at_298) rfl) ?_
                  show own_G p e below Φ T35 (mkF m 300 #[.val (.int p0), .val (.long qx), .second, .val (.long qy), .second, .val (.long qz), .second, .val (.int z7), .val (.long x8_17), .second, .val (.long zb), .second, .val (.long zc), .second, .val (.ref oL), .val (.long x15_125), .second, .val (.long x17_139), .second, .val (.long x19_163), .second, .val (.long zs0), .second, .val (.long x19_163), .second, .val (.long zs2), .second, .val (.int (2 : Int32)), .val (.long x19_163), .second, .val (.long (0 : Int64)), .second] [(.long x19_163), (.long (own_key z7 k0))])
                  refine own_go (fun _ => XS.lcmp X35.here hx rfl (hb hby at_300) rfl) ?_
                  show own_G p e below Φ T35 (mkF m 301 #[.val (.int p0), .val (.long qx), .second, .val (.long qy), .second, .val (.long qz), .second, .val (.int z7), .val (.long x8_17), .second, .val (.long zb), .second, .val (.long zc), .second, .val (.ref oL), .val (.long x15_125), .second, .val (.long x17_139), .second, .val (.long x19_163), .second, .val (.long zs0), .second, .val (.long x19_163), .second, .val (.long zs2), .second, .val (.int (2 : Int32)), .val (.long x19_163), .second, .val (.long (0 : Int64)), .second] [(.int (lcmpW (own_key z7 k0) x19_163))])
                  refine own_go (fun _ => XS.ifYes X35.here hx rfl (pc0 := 301) (pc' := 306) rfl (hb hby at_301) rfl (Jvm.Free.XT.ll_eq_t (hfin.2.1.trans (hfin.2.2.2.elim (fun q => absurd q hc208) Eq.symm))) (by decide) (by decide)) ?_
                  refine own_go (fun _ => XS.iload X35.here hx rfl (hb hby at_306) rfl) ?_
                  refine own_go (fun _ => XS.iconst X35.here hx rfl (hb hby at_308)) ?_
                  show own_G p e below Φ T35 (mkF m 309 #[.val (.int p0), .val (.long qx), .second, .val (.long qy), .second, .val (.long qz), .second, .val (.int z7), .val (.long x8_17), .second, .val (.long zb), .second, .val (.long zc), .second, .val (.ref oL), .val (.long x15_125), .second, .val (.long x17_139), .second, .val (.long x19_163), .second, .val (.long zs0), .second, .val (.long x19_163), .second, .val (.long zs2), .second, .val (.int (2 : Int32)), .val (.long x19_163), .second, .val (.long (0 : Int64)), .second] [(.int (3 : Int32)), (.int (2 : Int32))])
                  refine own_go (fun _ => XS.icmpYes X35.here hx rfl (pc0 := 309) (pc' := 326) rfl (hb hby at_309) rfl (Jvm.Free.XT.ii_lt_t (by decide : ((2 : Int32) < (3 : Int32)))) (by decide) (by decide)) ?_
                  refine own_go (fun _ => XS.iconst X35.here hx rfl (hb hby at_326)) ?_
                  show own_G p e below Φ T35 (mkF m 327 #[.val (.int p0), .val (.long qx), .second, .val (.long qy), .second, .val (.long qz), .second, .val (.int z7), .val (.long x8_17), .second, .val (.long zb), .second, .val (.long zc), .second, .val (.ref oL), .val (.long x15_125), .second, .val (.long x17_139), .second, .val (.long x19_163), .second, .val (.long zs0), .second, .val (.long x19_163), .second, .val (.long zs2), .second, .val (.int (2 : Int32)), .val (.long x19_163), .second, .val (.long (0 : Int64)), .second] [(.int (1 : Int32))])
                  rw [hΦ]
                  refine own_ret X35 (v := some (.int (1 : Int32))) (fun h => by rw [Bd.returns] at h; cases h) (BodyLoose.notSynchronized Bd) (fun fs hr => retN X35 hx (t := .boolean) Bd.returns (by simp) (hb hby at_327) hr) ?_ (by decide) (by decide)
                  rw [hs35]
                  exact ⟨rfl, N35⟩
              by_cases hc185 : z7 = (0 : Int32)
              · refine own_go (fun _ => XS.ifYes X28.here hx rfl (pc0 := 185) (pc' := 193) rfl (hb hby at_185) rfl (Jvm.Free.XT.i0_eq_t hc185) (by decide) (by decide)) ?_
                refine own_go (fun _ => XS.lload X28.here hx rfl (hb hby at_193) rfl) ?_
                exact hJ195_29 _ _ X28 N28 e28 _ (by simp [hc185])
              · refine own_go (fun _ => XS.ifNo X28.here hx rfl (hb hby at_185) rfl (Jvm.Free.XT.i0_eq_f hc185)) ?_
                refine own_go (fun _ => XS.lload X28.here hx rfl (hb hby at_188) rfl) ?_
                refine own_go (fun _ => XS.goto X28.here hx rfl (pc0 := 190) (pc' := 195) rfl (hb hby at_190) (by decide) (by decide)) ?_
                exact hJ195_29 _ _ X28 N28 e28 _ (by simp [hc185])
            by_cases hc167 : z7 = (0 : Int32)
            · refine own_go (fun _ => XS.ifYes X27.here hx rfl (pc0 := 167) (pc' := 175) rfl (hb hby at_167) rfl (Jvm.Free.XT.i0_eq_t hc167) (by decide) (by decide)) ?_
              refine own_go (fun _ => XS.lload X27.here hx rfl (hb hby at_175) rfl) ?_
              exact hJ177_28 _ _ X27 N27 hs27 _ (by simp [hc167])
            · refine own_go (fun _ => XS.ifNo X27.here hx rfl (hb hby at_167) rfl (Jvm.Free.XT.i0_eq_f hc167)) ?_
              refine own_go (fun _ => XS.lload X27.here hx rfl (hb hby at_170) rfl) ?_
              refine own_go (fun _ => XS.goto X27.here hx rfl (pc0 := 172) (pc' := 177) rfl (hb hby at_172) (by decide) (by decide)) ?_
              exact hJ177_28 _ _ X27 N27 hs27 _ (by simp [hc167])
          have hH113_3 : ∀ (T' : State) (h' : Heap) (l' : List Loc), own_AlL X5 T' l' 6 138 → T'.heap = h' → Fr n0 l' → n0 ≤ h'.size → Old Z n0 h' → ∀ (k0 : Int64) (k1 : Int64) (k2 : Int64), (Exa Z h' oL "corro/core/LimitLevels") → (Fld Z h' oL "corro/core/LimitLevels" "keys" "[J" (.ref xa)) → (Fld Z h' oL "corro/core/LimitLevels" "size" "I" (.int (3 : Int32))) → (Fld Z h' oL "corro/core/LimitLevels" "highestFirst" "Z" (.int z7)) → (Arv Z h' xa kk .long (64 : Int32) [(.long k0), (.long k1), (.long k2)] (.long (0 : Int64))) → (own_set3 k0 k1 k2 (own_key z7 x8_17) (own_key z7 zb) (own_key z7 zc)) → own_G p e below Φ T' (mkF m 113 #[.val (.int p0), .val (.long qx), .second, .val (.long qy), .second, .val (.long qz), .second, .val (.int z7), .val (.long x8_17), .second, .val (.long zb), .second, .val (.long zc), .second, .val (.ref oL), .unset, .unset, .unset, .unset, .unset, .unset, .unset, .unset, .unset, .unset, .unset, .unset, .unset, .unset, .unset, .unset, .unset] []) := by
            intro T36 h36 l36 X36' e36 N36 Zp36 O36 k0 k1 k2 F36_0 F36_1 F36_2 F36_3 F36_4 hset
            have X36 : Stand _ _ _ _ _ _ _ _ _ _ T36 _ _ _ := X36'
            refine own_go (fun _ => XS.lload X36.here hx rfl (hb hby at_113) rfl) ?_
            show own_G p e below Φ T36 (mkF m 115 #[.val (.int p0), .val (.long qx), .second, .val (.long qy), .second, .val (.long qz), .second, .val (.int z7), .val (.long x8_17), .second, .val (.long zb), .second, .val (.long zc), .second, .val (.ref oL), .unset, .unset, .unset, .unset, .unset, .unset, .unset, .unset, .unset, .unset, .unset, .unset, .unset, .unset, .unset, .unset, .unset] [(.long x8_17)])
            refine own_go (fun _ => XS.lload X36.here hx rfl (hb hby at_115) rfl) ?_
            show own_G p e below Φ T36 (mkF m 117 #[.val (.int p0), .val (.long qx), .second, .val (.long qy), .second, .val (.long qz), .second, .val (.int z7), .val (.long x8_17), .second, .val (.long zb), .second, .val (.long zc), .second, .val (.ref oL), .unset, .unset, .unset, .unset, .unset, .unset, .unset, .unset, .unset, .unset, .unset, .unset, .unset, .unset, .unset, .unset, .unset] [(.long zb), (.long x8_17)])
            obtain ⟨_, _, ⟨T37, zL37, zk37, zn37⟩, -, X37, ⟨Lc37, hQ37, zl37, zy37, zz37⟩, st37⟩ := Jvm.LawKit.callS X36 hx (y := (⟨"java/lang/Math", "max", "(JJ)J"⟩ : MethodName)) hown (mvT hZ (wd_64 hw)) (mvT hZ (wd_65 hw)) (mvT hZ (wd_66 hw)) (mvT hZ (wd_67 hw)) (by decide) (backOf (W := 0) (rmMX l Z a0 hw [] x8_17 zb h36 n0 Zp36 ) hZ (wd_67 hw) (wd_66 hw) (by decide) (by decide)) (g := (mkF m 117 #[.val (.int p0), .val (.long qx), .second, .val (.long qy), .second, .val (.long qz), .second, .val (.int z7), .val (.long x8_17), .second, .val (.long zb), .second, .val (.long zc), .second, .val (.ref oL), .unset, .unset, .unset, .unset, .unset, .unset, .unset, .unset, .unset, .unset, .unset, .unset, .unset, .unset, .unset, .unset, .unset] [(.long zb), (.long x8_17)])) rfl (by rw [hml]; rfl) (argsL := [(.long x8_17), (.long zb)]) (rest := []) (lenOf pd_5 rfl) rfl (by show 2 * 0 + _ ≤ _; exact Nat.le_of_eq rfl) (hb hby at_117) (fun _ _ => ⟨rfl, e36, (by decide : 6 + 0 ≤ _), (by decide : 138 + 0 ≤ _)⟩)
            dsimp only [Pt.U, Pt.locs, Pt.cells, Pt.slots] at X37 zl37 zy37 zz37 st37 hQ37
            subst zl37 zy37 zz37
            obtain ⟨rfl, N37q, hs37⟩ := hQ37
            have N37 := Fr.app N36 N37q
            refine own_go st37 ?_
            refine own_go (fun _ => XS.lload X37.here hx rfl (hb hby at_120) rfl) ?_
            show own_G p e below Φ T37 (mkF m 122 #[.val (.int p0), .val (.long qx), .second, .val (.long qy), .second, .val (.long qz), .second, .val (.int z7), .val (.long x8_17), .second, .val (.long zb), .second, .val (.long zc), .second, .val (.ref oL), .unset, .unset, .unset, .unset, .unset, .unset, .unset, .unset, .unset, .unset, .unset, .unset, .unset, .unset, .unset, .unset, .unset] [(.long zc), (.long (own_maxL x8_17 zb))])
            obtain ⟨_, _, ⟨T38, zL38, zk38, zn38⟩, -, X38, ⟨Lc38, hQ38, zl38, zy38, zz38⟩, st38⟩ := Jvm.LawKit.callS X37 hx (y := (⟨"java/lang/Math", "max", "(JJ)J"⟩ : MethodName)) hown (mvT hZ (wd_64 hw)) (mvT hZ (wd_65 hw)) (mvT hZ (wd_66 hw)) (mvT hZ (wd_67 hw)) (by decide) (backOf (W := 0) (rmMX l Z a0 hw [] (own_maxL x8_17 zb) zc h36 n0 Zp36 ) hZ (wd_67 hw) (wd_66 hw) (by decide) (by decide)) (g := (mkF m 122 #[.val (.int p0), .val (.long qx), .second, .val (.long qy), .second, .val (.long qz), .second, .val (.int z7), .val (.long x8_17), .second, .val (.long zb), .second, .val (.long zc), .second, .val (.ref oL), .unset, .unset, .unset, .unset, .unset, .unset, .unset, .unset, .unset, .unset, .unset, .unset, .unset, .unset, .unset, .unset, .unset] [(.long zc), (.long (own_maxL x8_17 zb))])) rfl (by rw [hml]; rfl) (argsL := [(.long (own_maxL x8_17 zb)), (.long zc)]) (rest := []) (lenOf pd_5 rfl) rfl (by show 2 * 0 + _ ≤ _; exact Nat.le_of_eq rfl) (hb hby at_122) (fun _ _ => ⟨rfl, hs37, (by decide : 6 + 0 ≤ _), (by decide : 138 + 0 ≤ _)⟩)
            dsimp only [Pt.U, Pt.locs, Pt.cells, Pt.slots] at X38 zl38 zy38 zz38 st38 hQ38
            subst zl38 zy38 zz38
            obtain ⟨rfl, N38q, hs38⟩ := hQ38
            have N38 := Fr.app N37 N38q
            refine own_go st38 ?_
            refine own_go (fun _ => XS.lstore X38.here hx rfl (hb hby at_125) rfl (l' := #[.val (.int p0), .val (.long qx), .second, .val (.long qy), .second, .val (.long qz), .second, .val (.int z7), .val (.long x8_17), .second, .val (.long zb), .second, .val (.long zc), .second, .val (.ref oL), .val (.long (own_maxL (own_maxL x8_17 zb) zc)), .second, .unset, .unset, .unset, .unset, .unset, .unset, .unset, .unset, .unset, .unset, .unset, .unset, .unset, .unset, .unset]) rfl) ?_
            show own_G p e below Φ T38 (mkF m 127 #[.val (.int p0), .val (.long qx), .second, .val (.long qy), .second, .val (.long qz), .second, .val (.int z7), .val (.long x8_17), .second, .val (.long zb), .second, .val (.long zc), .second, .val (.ref oL), .val (.long (own_maxL (own_maxL x8_17 zb) zc)), .second, .unset, .unset, .unset, .unset, .unset, .unset, .unset, .unset, .unset, .unset, .unset, .unset, .unset, .unset, .unset] [])
            generalize hx15_125 : (own_maxL (own_maxL x8_17 zb) zc) = x15_125
            refine own_go (fun _ => XS.lload X38.here hx rfl (hb hby at_127) rfl) ?_
            show own_G p e below Φ T38 (mkF m 129 #[.val (.int p0), .val (.long qx), .second, .val (.long qy), .second, .val (.long qz), .second, .val (.int z7), .val (.long x8_17), .second, .val (.long zb), .second, .val (.long zc), .second, .val (.ref oL), .val (.long x15_125), .second, .unset, .unset, .unset, .unset, .unset, .unset, .unset, .unset, .unset, .unset, .unset, .unset, .unset, .unset, .unset] [(.long x8_17)])
            refine own_go (fun _ => XS.lload X38.here hx rfl (hb hby at_129) rfl) ?_
            show own_G p e below Φ T38 (mkF m 131 #[.val (.int p0), .val (.long qx), .second, .val (.long qy), .second, .val (.long qz), .second, .val (.int z7), .val (.long x8_17), .second, .val (.long zb), .second, .val (.long zc), .second, .val (.ref oL), .val (.long x15_125), .second, .unset, .unset, .unset, .unset, .unset, .unset, .unset, .unset, .unset, .unset, .unset, .unset, .unset, .unset, .unset] [(.long zb), (.long x8_17)])
            obtain ⟨_, _, ⟨T39, zL39, zk39, zn39⟩, -, X39, ⟨Lc39, hQ39, zl39, zy39, zz39⟩, st39⟩ := Jvm.LawKit.callS X38 hx (y := (⟨"java/lang/Math", "min", "(JJ)J"⟩ : MethodName)) hown (mvT hZ (wd_68 hw)) (mvT hZ (wd_69 hw)) (mvT hZ (wd_66 hw)) (mvT hZ (wd_70 hw)) (by decide) (backOf (W := 0) (rmMN l Z a0 hw [] x8_17 zb h36 n0 Zp36 ) hZ (wd_70 hw) (wd_66 hw) (by decide) (by decide)) (g := (mkF m 131 #[.val (.int p0), .val (.long qx), .second, .val (.long qy), .second, .val (.long qz), .second, .val (.int z7), .val (.long x8_17), .second, .val (.long zb), .second, .val (.long zc), .second, .val (.ref oL), .val (.long x15_125), .second, .unset, .unset, .unset, .unset, .unset, .unset, .unset, .unset, .unset, .unset, .unset, .unset, .unset, .unset, .unset] [(.long zb), (.long x8_17)])) rfl (by rw [hml]; rfl) (argsL := [(.long x8_17), (.long zb)]) (rest := []) (lenOf pd_5 rfl) rfl (by show 2 * 0 + _ ≤ _; exact Nat.le_of_eq rfl) (hb hby at_131) (fun _ _ => ⟨rfl, hs38, (by decide : 6 + 0 ≤ _), (by decide : 138 + 0 ≤ _)⟩)
            dsimp only [Pt.U, Pt.locs, Pt.cells, Pt.slots] at X39 zl39 zy39 zz39 st39 hQ39
            subst zl39 zy39 zz39
            obtain ⟨rfl, N39q, hs39⟩ := hQ39
            have N39 := Fr.app N38 N39q
            refine own_go st39 ?_
            refine own_go (fun _ => XS.lload X39.here hx rfl (hb hby at_134) rfl) ?_
            show own_G p e below Φ T39 (mkF m 136 #[.val (.int p0), .val (.long qx), .second, .val (.long qy), .second, .val (.long qz), .second, .val (.int z7), .val (.long x8_17), .second, .val (.long zb), .second, .val (.long zc), .second, .val (.ref oL), .val (.long x15_125), .second, .unset, .unset, .unset, .unset, .unset, .unset, .unset, .unset, .unset, .unset, .unset, .unset, .unset, .unset, .unset] [(.long zc), (.long (own_minL x8_17 zb))])
            obtain ⟨_, _, ⟨T40, zL40, zk40, zn40⟩, -, X40, ⟨Lc40, hQ40, zl40, zy40, zz40⟩, st40⟩ := Jvm.LawKit.callS X39 hx (y := (⟨"java/lang/Math", "min", "(JJ)J"⟩ : MethodName)) hown (mvT hZ (wd_68 hw)) (mvT hZ (wd_69 hw)) (mvT hZ (wd_66 hw)) (mvT hZ (wd_70 hw)) (by decide) (backOf (W := 0) (rmMN l Z a0 hw [] (own_minL x8_17 zb) zc h36 n0 Zp36 ) hZ (wd_70 hw) (wd_66 hw) (by decide) (by decide)) (g := (mkF m 136 #[.val (.int p0), .val (.long qx), .second, .val (.long qy), .second, .val (.long qz), .second, .val (.int z7), .val (.long x8_17), .second, .val (.long zb), .second, .val (.long zc), .second, .val (.ref oL), .val (.long x15_125), .second, .unset, .unset, .unset, .unset, .unset, .unset, .unset, .unset, .unset, .unset, .unset, .unset, .unset, .unset, .unset] [(.long zc), (.long (own_minL x8_17 zb))])) rfl (by rw [hml]; rfl) (argsL := [(.long (own_minL x8_17 zb)), (.long zc)]) (rest := []) (lenOf pd_5 rfl) rfl (by show 2 * 0 + _ ≤ _; exact Nat.le_of_eq rfl) (hb hby at_136) (fun _ _ => ⟨rfl, hs39, (by decide : 6 + 0 ≤ _), (by decide : 138 + 0 ≤ _)⟩)
            dsimp only [Pt.U, Pt.locs, Pt.cells, Pt.slots] at X40 zl40 zy40 zz40 st40 hQ40
            subst zl40 zy40 zz40
            obtain ⟨rfl, N40q, hs40⟩ := hQ40
            have N40 := Fr.app N39 N40q
            refine own_go st40 ?_
            refine own_go (fun _ => XS.lstore X40.here hx rfl (hb hby at_139) rfl (l' := #[.val (.int p0), .val (.long qx), .second, .val (.long qy), .second, .val (.long qz), .second, .val (.int z7), .val (.long x8_17), .second, .val (.long zb), .second, .val (.long zc), .second, .val (.ref oL), .val (.long x15_125), .second, .val (.long (own_minL (own_minL x8_17 zb) zc)), .second, .unset, .unset, .unset, .unset, .unset, .unset, .unset, .unset, .unset, .unset, .unset, .unset, .unset]) rfl) ?_
            show own_G p e below Φ T40 (mkF m 141 #[.val (.int p0), .val (.long qx), .second, .val (.long qy), .second, .val (.long qz), .second, .val (.int z7), .val (.long x8_17), .second, .val (.long zb), .second, .val (.long zc), .second, .val (.ref oL), .val (.long x15_125), .second, .val (.long (own_minL (own_minL x8_17 zb) zc)), .second, .unset, .unset, .unset, .unset, .unset, .unset, .unset, .unset, .unset, .unset, .unset, .unset, .unset] [])
            generalize hx17_139 : (own_minL (own_minL x8_17 zb) zc) = x17_139
            refine own_go (fun _ => XS.lload X40.here hx rfl (hb hby at_141) rfl) ?_
            show own_G p e below Φ T40 (mkF m 143 #[.val (.int p0), .val (.long qx), .second, .val (.long qy), .second, .val (.long qz), .second, .val (.int z7), .val (.long x8_17), .second, .val (.long zb), .second, .val (.long zc), .second, .val (.ref oL), .val (.long x15_125), .second, .val (.long x17_139), .second, .unset, .unset, .unset, .unset, .unset, .unset, .unset, .unset, .unset, .unset, .unset, .unset, .unset] [(.long x8_17)])
            refine own_go (fun _ => XS.lload X40.here hx rfl (hb hby at_143) rfl) ?_
            show own_G p e below Φ T40 (mkF m 145 #[.val (.int p0), .val (.long qx), .second, .val (.long qy), .second, .val (.long qz), .second, .val (.int z7), .val (.long x8_17), .second, .val (.long zb), .second, .val (.long zc), .second, .val (.ref oL), .val (.long x15_125), .second, .val (.long x17_139), .second, .unset, .unset, .unset, .unset, .unset, .unset, .unset, .unset, .unset, .unset, .unset, .unset, .unset] [(.long zb), (.long x8_17)])
            obtain ⟨_, _, ⟨T41, zL41, zk41, zn41⟩, -, X41, ⟨Lc41, hQ41, zl41, zy41, zz41⟩, st41⟩ := Jvm.LawKit.callS X40 hx (y := (⟨"java/lang/Math", "min", "(JJ)J"⟩ : MethodName)) hown (mvT hZ (wd_68 hw)) (mvT hZ (wd_69 hw)) (mvT hZ (wd_66 hw)) (mvT hZ (wd_70 hw)) (by decide) (backOf (W := 0) (rmMN l Z a0 hw [] x8_17 zb h36 n0 Zp36 ) hZ (wd_70 hw) (wd_66 hw) (by decide) (by decide)) (g := (mkF m 145 #[.val (.int p0), .val (.long qx), .second, .val (.long qy), .second, .val (.long qz), .second, .val (.int z7), .val (.long x8_17), .second, .val (.long zb), .second, .val (.long zc), .second, .val (.ref oL), .val (.long x15_125), .second, .val (.long x17_139), .second, .unset, .unset, .unset, .unset, .unset, .unset, .unset, .unset, .unset, .unset, .unset, .unset, .unset] [(.long zb), (.long x8_17)])) rfl (by rw [hml]; rfl) (argsL := [(.long x8_17), (.long zb)]) (rest := []) (lenOf pd_5 rfl) rfl (by show 2 * 0 + _ ≤ _; exact Nat.le_of_eq rfl) (hb hby at_145) (fun _ _ => ⟨rfl, hs40, (by decide : 6 + 0 ≤ _), (by decide : 138 + 0 ≤ _)⟩)
            dsimp only [Pt.U, Pt.locs, Pt.cells, Pt.slots] at X41 zl41 zy41 zz41 st41 hQ41
            subst zl41 zy41 zz41
            obtain ⟨rfl, N41q, hs41⟩ := hQ41
            have N41 := Fr.app N40 N41q
            refine own_go st41 ?_
            refine own_go (fun _ => XS.lload X41.here hx rfl (hb hby at_148) rfl) ?_
            refine own_go (fun _ => XS.lload X41.here hx rfl (hb hby at_150) rfl) ?_
            show own_G p e below Φ T41 (mkF m 152 #[.val (.int p0), .val (.long qx), .second, .val (.long qy), .second, .val (.long qz), .second, .val (.int z7), .val (.long x8_17), .second, .val (.long zb), .second, .val (.long zc), .second, .val (.ref oL), .val (.long x15_125), .second, .val (.long x17_139), .second, .unset, .unset, .unset, .unset, .unset, .unset, .unset, .unset, .unset, .unset, .unset, .unset, .unset] [(.long zb), (.long x8_17), (.long (own_minL x8_17 zb))])
            obtain ⟨_, _, ⟨T42, zL42, zk42, zn42⟩, -, X42, ⟨Lc42, hQ42, zl42, zy42, zz42⟩, st42⟩ := Jvm.LawKit.callS X41 hx (y := (⟨"java/lang/Math", "max", "(JJ)J"⟩ : MethodName)) hown (mvT hZ (wd_64 hw)) (mvT hZ (wd_65 hw)) (mvT hZ (wd_66 hw)) (mvT hZ (wd_67 hw)) (by decide) (backOf (W := 2) (rmMX l Z a0 hw [] x8_17 zb h36 n0 Zp36 ) hZ (wd_67 hw) (wd_66 hw) (by decide) (by decide)) (g := (mkF m 152 #[.val (.int p0), .val (.long qx), .second, .val (.long qy), .second, .val (.long qz), .second, .val (.int z7), .val (.long x8_17), .second, .val (.long zb), .second, .val (.long zc), .second, .val (.ref oL), .val (.long x15_125), .second, .val (.long x17_139), .second, .unset, .unset, .unset, .unset, .unset, .unset, .unset, .unset, .unset, .unset, .unset, .unset, .unset] [(.long zb), (.long x8_17), (.long (own_minL x8_17 zb))])) rfl (by rw [hml]; rfl) (argsL := [(.long x8_17), (.long zb)]) (rest := [(.long (own_minL x8_17 zb))]) (lenOf pd_5 rfl) rfl (by show 2 * 0 + _ ≤ _; exact Nat.le_of_eq rfl) (hb hby at_152) (fun _ _ => ⟨rfl, hs41, (by decide : 6 + 0 ≤ _), (by decide : 138 + 0 ≤ _)⟩)
            dsimp only [Pt.U, Pt.locs, Pt.cells, Pt.slots] at X42 zl42 zy42 zz42 st42 hQ42
            subst zl42 zy42 zz42
            obtain ⟨rfl, N42q, hs42⟩ := hQ42
            have N42 := Fr.app N41 N42q
            refine own_go st42 ?_
            refine own_go (fun _ => XS.lload X42.here hx rfl (hb hby at_155) rfl) ?_
            show own_G p e below Φ T42 (mkF m 157 #[.val (.int p0), .val (.long qx), .second, .val (.long qy), .second, .val (.long qz), .second, .val (.int z7), .val (.long x8_17), .second, .val (.long zb), .second, .val (.long zc), .second, .val (.ref oL), .val (.long x15_125), .second, .val (.long x17_139), .second, .unset, .unset, .unset, .unset, .unset, .unset, .unset, .unset, .unset, .unset, .unset, .unset, .unset] [(.long zc), (.long (own_maxL x8_17 zb)), (.long (own_minL x8_17 zb))])
            obtain ⟨_, _, ⟨T43, zL43, zk43, zn43⟩, -, X43, ⟨Lc43, hQ43, zl43, zy43, zz43⟩, st43⟩ := Jvm.LawKit.callS X42 hx (y := (⟨"java/lang/Math", "min", "(JJ)J"⟩ : MethodName)) hown (mvT hZ (wd_68 hw)) (mvT hZ (wd_69 hw)) (mvT hZ (wd_66 hw)) (mvT hZ (wd_70 hw)) (by decide) (backOf (W := 2) (rmMN l Z a0 hw [] (own_maxL x8_17 zb) zc h36 n0 Zp36 ) hZ (wd_70 hw) (wd_66 hw) (by decide) (by decide)) (g := (mkF m 157 #[.val (.int p0), .val (.long qx), .second, .val (.long qy), .second, .val (.long qz), .second, .val (.int z7), .val (.long x8_17), .second, .val (.long zb), .second, .val (.long zc), .second, .val (.ref oL), .val (.long x15_125), .second, .val (.long x17_139), .second, .unset, .unset, .unset, .unset, .unset, .unset, .unset, .unset, .unset, .unset, .unset, .unset, .unset] [(.long zc), (.long (own_maxL x8_17 zb)), (.long (own_minL x8_17 zb))])) rfl (by rw [hml]; rfl) (argsL := [(.long (own_maxL x8_17 zb)), (.long zc)]) (rest := [(.long (own_minL x8_17 zb))]) (lenOf pd_5 rfl) rfl (by show 2 * 0 + _ ≤ _; exact Nat.le_of_eq rfl) (hb hby at_157) (fun _ _ => ⟨rfl, hs42, (by decide : 6 + 0 ≤ _), (by decide : 138 + 0 ≤ _)⟩)
            dsimp only [Pt.U, Pt.locs, Pt.cells, Pt.slots] at X43 zl43 zy43 zz43 st43 hQ43
            subst zl43 zy43 zz43
            obtain ⟨rfl, N43q, hs43⟩ := hQ43
            have N43 := Fr.app N42 N43q
            refine own_go st43 ?_
            show own_G p e below Φ T43 (mkF m 160 #[.val (.int p0), .val (.long qx), .second, .val (.long qy), .second, .val (.long qz), .second, .val (.int z7), .val (.long x8_17), .second, .val (.long zb), .second, .val (.long zc), .second, .val (.ref oL), .val (.long x15_125), .second, .val (.long x17_139), .second, .unset, .unset, .unset, .unset, .unset, .unset, .unset, .unset, .unset, .unset, .unset, .unset, .unset] [(.long (own_minL (own_maxL x8_17 zb) zc)), (.long (own_minL x8_17 zb))])
            obtain ⟨_, _, ⟨T44, zL44, zk44, zn44⟩, -, X44, ⟨Lc44, hQ44, zl44, zy44, zz44⟩, st44⟩ := Jvm.LawKit.callS X43 hx (y := (⟨"java/lang/Math", "max", "(JJ)J"⟩ : MethodName)) hown (mvT hZ (wd_64 hw)) (mvT hZ (wd_65 hw)) (mvT hZ (wd_66 hw)) (mvT hZ (wd_67 hw)) (by decide) (backOf (W := 0) (rmMX l Z a0 hw [] (own_minL x8_17 zb) (own_minL (own_maxL x8_17 zb) zc) h36 n0 Zp36 ) hZ (wd_67 hw) (wd_66 hw) (by decide) (by decide)) (g := (mkF m 160 #[.val (.int p0), .val (.long qx), .second, .val (.long qy), .second, .val (.long qz), .second, .val (.int z7), .val (.long x8_17), .second, .val (.long zb), .second, .val (.long zc), .second, .val (.ref oL), .val (.long x15_125), .second, .val (.long x17_139), .second, .unset, .unset, .unset, .unset, .unset, .unset, .unset, .unset, .unset, .unset, .unset, .unset, .unset] [(.long (own_minL (own_maxL x8_17 zb) zc)), (.long (own_minL x8_17 zb))])) rfl (by rw [hml]; rfl) (argsL := [(.long (own_minL x8_17 zb)), (.long (own_minL (own_maxL x8_17 zb) zc))]) (rest := []) (lenOf pd_5 rfl) rfl (by show 2 * 0 + _ ≤ _; exact Nat.le_of_eq rfl) (hb hby at_160) (fun _ _ => ⟨rfl, hs43, (by decide : 6 + 0 ≤ _), (by decide : 138 + 0 ≤ _)⟩)
            dsimp only [Pt.U, Pt.locs, Pt.cells, Pt.slots] at X44 zl44 zy44 zz44 st44 hQ44
            subst zl44 zy44 zz44
            obtain ⟨rfl, N44q, hs44⟩ := hQ44
            have N44 := Fr.app N43 N44q
            refine own_go st44 ?_
            refine own_go (fun _ => XS.lstore X44.here hx rfl (hb hby at_163) rfl (l' := #[.val (.int p0), .val (.long qx), .second, .val (.long qy), .second, .val (.long qz), .second, .val (.int z7), .val (.long x8_17), .second, .val (.long zb), .second, .val (.long zc), .second, .val (.ref oL), .val (.long x15_125), .second, .val (.long x17_139), .second, .val (.long (own_maxL (own_minL x8_17 zb) (own_minL (own_maxL x8_17 zb) zc))), .second, .unset, .unset, .unset, .unset, .unset, .unset, .unset, .unset, .unset, .unset, .unset]) rfl) ?_
            show own_G p e below Φ T44 (mkF m 165 #[.val (.int p0), .val (.long qx), .second, .val (.long qy), .second, .val (.long qz), .second, .val (.int z7), .val (.long x8_17), .second, .val (.long zb), .second, .val (.long zc), .second, .val (.ref oL), .val (.long x15_125), .second, .val (.long x17_139), .second, .val (.long (own_maxL (own_minL x8_17 zb) (own_minL (own_maxL x8_17 zb) zc))), .second, .unset, .unset, .unset, .unset, .unset, .unset, .unset, .unset, .unset, .unset, .unset] [])
            generalize hx19_163 : (own_maxL (own_minL x8_17 zb) (own_minL (own_maxL x8_17 zb) zc)) = x19_163
            refine own_go (fun _ => XS.iload X44.here hx rfl (hb hby at_165) rfl) ?_
            show own_G p e below Φ T44 (mkF m 167 #[.val (.int p0), .val (.long qx), .second, .val (.long qy), .second, .val (.long qz), .second, .val (.int z7), .val (.long x8_17), .second, .val (.long zb), .second, .val (.long zc), .second, .val (.ref oL), .val (.long x15_125), .second, .val (.long x17_139), .second, .val (.long x19_163), .second, .unset, .unset, .unset, .unset, .unset, .unset, .unset, .unset, .unset, .unset, .unset] [(.int z7)])
            have hJ177_45 : ∀ (T' : State) (l' : List Loc), own_AlL X44 T' l' 6 138 → Fr n0 l' → T'.heap = h36 → ∀ (zs0 : Int64), (zs0 = if z7 = 0 then x17_139 else x15_125) → own_G p e below Φ T' (mkF m 177 #[.val (.int p0), .val (.long qx), .second, .val (.long qy), .second, .val (.long qz), .second, .val (.int z7), .val (.long x8_17), .second, .val (.long zb), .second, .val (.long zc), .second, .val (.ref oL), .val (.long x15_125), .second, .val (.long x17_139), .second, .val (.long x19_163), .second, .unset, .unset, .unset, .unset, .unset, .unset, .unset, .unset, .unset, .unset, .unset] [(.long zs0)]) := by
              intro T45 l45 X45' N45 e45 zs0 h_zs0
              have X45 : Stand _ _ _ _ _ _ _ _ _ _ T45 _ _ _ := X45'
              refine own_go (fun _ => XS.lstore X45.here hx rfl (hb hby at_177) rfl (l' := #[.val (.int p0), .val (.long qx), .second, .val (.long qy), .second, .val (.long qz), .second, .val (.int z7), .val (.long x8_17), .second, .val (.long zb), .second, .val (.long zc), .second, .val (.ref oL), .val (.long x15_125), .second, .val (.long x17_139), .second, .val (.long x19_163), .second, .val (.long zs0), .second, .unset, .unset, .unset, .unset, .unset, .unset, .unset, .unset, .unset]) rfl) ?_
              refine own_go (fun _ => XS.lload X45.here hx rfl (hb hby at_179) rfl) ?_
              show own_G p e below Φ T45 (mkF m 181 #[.val (.int p0), .val (.long qx), .second, .val (.long qy), .second, .val (.long qz), .second, .val (.int z7), .val (.long x8_17), .second, .val (.long zb), .second, .val (.long zc), .second, .val (.ref oL), .val (.long x15_125), .second, .val (.long x17_139), .second, .val (.long x19_163), .second, .val (.long zs0), .second, .unset, .unset, .unset, .unset, .unset, .unset, .unset, .unset, .unset] [(.long x19_163)])
              refine own_go (fun _ => XS.lstore X45.here hx rfl (hb hby at_181) rfl (l' := #[.val (.int p0), .val (.long qx), .second, .val (.long qy), .second, .val (.long qz), .second, .val (.int z7), .val (.long x8_17), .second, .val (.long zb), .second, .val (.long zc), .second, .val (.ref oL), .val (.long x15_125), .second, .val (.long x17_139), .second, .val (.long x19_163), .second, .val (.long zs0), .second, .val (.long x19_163), .second, .unset, .unset, .unset, .unset, .unset, .unset, .unset]) rfl) ?_
              refine own_go (fun _ => XS.iload X45.here hx rfl (hb hby at_183) rfl) ?_
              show own_G p e below Φ T45 (mkF m 185 #[.val (.int p0), .val (.long qx), .second, .val (.long qy), .second, .val (.long qz), .second, .val (.int z7), .val (.long x8_17), .second, .val (.long zb), .second, .val (.long zc), .second, .val (.ref oL), .val (.long x15_125), .second, .val (.long x17_139), .second, .val (.long x19_163), .second, .val (.long zs0), .second, .val (.long x19_163), .second, .unset, .unset, .unset, .unset, .unset, .unset, .unset] [(.int z7)])
              have hJ195_46 : ∀ (T' : State) (l' : List Loc), own_AlL X45 T' l' 6 138 → Fr n0 l' → T'.heap = h36 → ∀ (zs2 : Int64), (zs2 = if z7 = 0 then x15_125 else x17_139) → own_G p e below Φ T' (mkF m 195 #[.val (.int p0), .val (.long qx), .second, .val (.long qy), .second, .val (.long qz), .second, .val (.int z7), .val (.long x8_17), .second, .val (.long zb), .second, .val (.long zc), .second, .val (.ref oL), .val (.long x15_125), .second, .val (.long x17_139), .second, .val (.long x19_163), .second, .val (.long zs0), .second, .val (.long x19_163), .second, .unset, .unset, .unset, .unset, .unset, .unset, .unset] [(.long zs2)]) := by
                intro T46 l46 X46' N46 e46 zs2 h_zs2
                have X46 : Stand _ _ _ _ _ _ _ _ _ _ T46 _ _ _ := X46'
                refine own_go (fun _ => XS.lstore X46.here hx rfl (hb hby at_195) rfl (l' := #[.val (.int p0), .val (.long qx), .second, .val (.long qy), .second, .val (.long qz), .second, .val (.int z7), .val (.long x8_17), .second, .val (.long zb), .second, .val (.long zc), .second, .val (.ref oL), .val (.long x15_125), .second, .val (.long x17_139), .second, .val (.long x19_163), .second, .val (.long zs0), .second, .val (.long x19_163), .second, .val (.long zs2), .second, .unset, .unset, .unset, .unset, .unset]) rfl) ?_
                refine own_go (fun _ => XS.lconst X46.here hx rfl (hb hby at_197)) ?_
                show own_G p e below Φ T46 (mkF m 198 #[.val (.int p0), .val (.long qx), .second, .val (.long qy), .second, .val (.long qz), .second, .val (.int z7), .val (.long x8_17), .second, .val (.long zb), .second, .val (.long zc), .second, .val (.ref oL), .val (.long x15_125), .second, .val (.long x17_139), .second, .val (.long x19_163), .second, .val (.long zs0), .second, .val (.long x19_163), .second, .val (.long zs2), .second, .unset, .unset, .unset, .unset, .unset] [(.long (0 : Int64))])
                refine own_go (fun _ => XS.lstore X46.here hx rfl (hb hby at_198) rfl (l' := #[.val (.int p0), .val (.long qx), .second, .val (.long qy), .second, .val (.long qz), .second, .val (.int z7), .val (.long x8_17), .second, .val (.long zb), .second, .val (.long zc), .second, .val (.ref oL), .val (.long x15_125), .second, .val (.long x17_139), .second, .val (.long x19_163), .second, .val (.long zs0), .second, .val (.long x19_163), .second, .val (.long zs2), .second, .unset, .val (.long (0 : Int64)), .second, .unset, .unset]) rfl) ?_
                refine own_go (fun _ => XS.lconst X46.here hx rfl (hb hby at_200)) ?_
                refine own_go (fun _ => XS.lstore X46.here hx rfl (hb hby at_201) rfl (l' := #[.val (.int p0), .val (.long qx), .second, .val (.long qy), .second, .val (.long qz), .second, .val (.int z7), .val (.long x8_17), .second, .val (.long zb), .second, .val (.long zc), .second, .val (.ref oL), .val (.long x15_125), .second, .val (.long x17_139), .second, .val (.long x19_163), .second, .val (.long zs0), .second, .val (.long x19_163), .second, .val (.long zs2), .second, .unset, .val (.long (0 : Int64)), .second, .val (.long (0 : Int64)), .second]) rfl) ?_
                have hfin := (own_fin3 h_z7 hp8 h_zb h_zc hx15_125 hx17_139 hx19_163 h_zs0 h_zs2 hset)
                show own_G p e below Φ T46 (mkF m 203 #[.val (.int p0), .val (.long qx), .second, .val (.long qy), .second, .val (.long qz), .second, .val (.int z7), .val (.long x8_17), .second, .val (.long zb), .second, .val (.long zc), .second, .val (.ref oL), .val (.long x15_125), .second, .val (.long x17_139), .second, .val (.long x19_163), .second, .val (.long zs0), .second, .val (.long x19_163), .second, .val (.long zs2), .second, .unset, .val (.long (0 : Int64)), .second, .val (.long (0 : Int64)), .second] [])
                refine own_go (fun _ => XS.lload X46.here hx rfl (hb hby at_203) rfl) ?_
                refine own_go (fun _ => XS.lload X46.here hx rfl (hb hby at_205) rfl) ?_
                show own_G p e below Φ T46 (mkF m 207 #[.val (.int p0), .val (.long qx), .second, .val (.long qy), .second, .val (.long qz), .second, .val (.int z7), .val (.long x8_17), .second, .val (.long zb), .second, .val (.long zc), .second, .val (.ref oL), .val (.long x15_125), .second, .val (.long x17_139), .second, .val (.long x19_163), .second, .val (.long zs0), .second, .val (.long x19_163), .second, .val (.long zs2), .second, .unset, .val (.long (0 : Int64)), .second, .val (.long (0 : Int64)), .second] [(.long zs0), (.long x19_163)])
                refine own_go (fun _ => XS.lcmp X46.here hx rfl (hb hby at_207) rfl) ?_
                show own_G p e below Φ T46 (mkF m 208 #[.val (.int p0), .val (.long qx), .second, .val (.long qy), .second, .val (.long qz), .second, .val (.int z7), .val (.long x8_17), .second, .val (.long zb), .second, .val (.long zc), .second, .val (.ref oL), .val (.long x15_125), .second, .val (.long x17_139), .second, .val (.long x19_163), .second, .val (.long zs0), .second, .val (.long x19_163), .second, .val (.long zs2), .second, .unset, .val (.long (0 : Int64)), .second, .val (.long (0 : Int64)), .second] [(.int (lcmpW x19_163 zs0))])
                refine own_go (fun _ => XS.ifNo X46.here hx rfl (hb hby at_208) rfl (Jvm.Free.XT.ll_eq_f hfin.1)) ?_
                refine own_go (fun _ => XS.lload X46.here hx rfl (hb hby at_211) rfl) ?_
                refine own_go (fun _ => XS.lstore X46.here hx rfl (hb hby at_213) rfl (l' := #[.val (.int p0), .val (.long qx), .second, .val (.long qy), .second, .val (.long qz), .second, .val (.int z7), .val (.long x8_17), .second, .val (.long zb), .second, .val (.long zc), .second, .val (.ref oL), .val (.long x15_125), .second, .val (.long x17_139), .second, .val (.long x19_163), .second, .val (.long zs0), .second, .val (.long x19_163), .second, .val (.long zs2), .second, .unset, .val (.long x19_163), .second, .val (.long (0 : Int64)), .second]) rfl) ?_
                show own_G p e below Φ T46 (mkF m 215 #[.val (.int p0), .val (.long qx), .second, .val (.long qy), .second, .val (.long qz), .second, .val (.int z7), .val (.long x8_17), .second, .val (.long zb), .second, .val (.long zc), .second, .val (.ref oL), .val (.long x15_125), .second, .val (.long x17_139), .second, .val (.long x19_163), .second, .val (.long zs0), .second, .val (.long x19_163), .second, .val (.long zs2), .second, .unset, .val (.long x19_163), .second, .val (.long (0 : Int64)), .second] [])
                refine own_go (fun _ => XS.lload X46.here hx rfl (hb hby at_215) rfl) ?_
                refine own_go (fun _ => XS.lload X46.here hx rfl (hb hby at_217) rfl) ?_
                show own_G p e below Φ T46 (mkF m 219 #[.val (.int p0), .val (.long qx), .second, .val (.long qy), .second, .val (.long qz), .second, .val (.int z7), .val (.long x8_17), .second, .val (.long zb), .second, .val (.long zc), .second, .val (.ref oL), .val (.long x15_125), .second, .val (.long x17_139), .second, .val (.long x19_163), .second, .val (.long zs0), .second, .val (.long x19_163), .second, .val (.long zs2), .second, .unset, .val (.long x19_163), .second, .val (.long (0 : Int64)), .second] [(.long x19_163), (.long zs2)])
                refine own_go (fun _ => XS.lcmp X46.here hx rfl (hb hby at_219) rfl) ?_
                show own_G p e below Φ T46 (mkF m 220 #[.val (.int p0), .val (.long qx), .second, .val (.long qy), .second, .val (.long qz), .second, .val (.int z7), .val (.long x8_17), .second, .val (.long zb), .second, .val (.long zc), .second, .val (.ref oL), .val (.long x15_125), .second, .val (.long x17_139), .second, .val (.long x19_163), .second, .val (.long zs0), .second, .val (.long x19_163), .second, .val (.long zs2), .second, .unset, .val (.long x19_163), .second, .val (.long (0 : Int64)), .second] [(.int (lcmpW zs2 x19_163))])
                refine own_go (fun _ => XS.ifNo X46.here hx rfl (hb hby at_220) rfl (Jvm.Free.XT.ll_eq_f hfin.2.1)) ?_
                refine own_go (fun _ => XS.lload X46.here hx rfl (hb hby at_223) rfl) ?_
                refine own_go (fun _ => XS.lstore X46.here hx rfl (hb hby at_225) rfl (l' := #[.val (.int p0), .val (.long qx), .second, .val (.long qy), .second, .val (.long qz), .second, .val (.int z7), .val (.long x8_17), .second, .val (.long zb), .second, .val (.long zc), .second, .val (.ref oL), .val (.long x15_125), .second, .val (.long x17_139), .second, .val (.long x19_163), .second, .val (.long zs0), .second, .val (.long x19_163), .second, .val (.long zs2), .second, .unset, .val (.long x19_163), .second, .val (.long zs2), .second]) rfl) ?_
                show own_G p e below Φ T46 (mkF m 227 #[.val (.int p0), .val (.long qx), .second, .val (.long qy), .second, .val (.long qz), .second, .val (.int z7), .val (.long x8_17), .second, .val (.long zb), .second, .val (.long zc), .second, .val (.ref oL), .val (.long x15_125), .second, .val (.long x17_139), .second, .val (.long x19_163), .second, .val (.long zs0), .second, .val (.long x19_163), .second, .val (.long zs2), .second, .unset, .val (.long x19_163), .second, .val (.long zs2), .second] [])
                refine own_go (fun _ => XS.iconst X46.here hx rfl (hb hby at_227)) ?_
                refine own_go (fun _ => XS.istore X46.here hx rfl (hb hby at_228) rfl (l' := #[.val (.int p0), .val (.long qx), .second, .val (.long qy), .second, .val (.long qz), .second, .val (.int z7), .val (.long x8_17), .second, .val (.long zb), .second, .val (.long zc), .second, .val (.ref oL), .val (.long x15_125), .second, .val (.long x17_139), .second, .val (.long x19_163), .second, .val (.long zs0), .second, .val (.long x19_163), .second, .val (.long zs2), .second, .val (.int (3 : Int32)), .val (.long x19_163), .second, .val (.long zs2), .second]) rfl) ?_
                refine own_go (fun _ => XS.goto X46.here hx rfl (pc0 := 230) (pc' := 260) rfl (hb hby at_230) (by decide) (by decide)) ?_
                show own_G p e below Φ T46 (mkF m 260 #[.val (.int p0), .val (.long qx), .second, .val (.long qy), .second, .val (.long qz), .second, .val (.int z7), .val (.long x8_17), .second, .val (.long zb), .second, .val (.long zc), .second, .val (.ref oL), .val (.long x15_125), .second, .val (.long x17_139), .second, .val (.long x19_163), .second, .val (.long zs0), .second, .val (.long x19_163), .second, .val (.long zs2), .second, .val (.int (3 : Int32)), .val (.long x19_163), .second, .val (.long zs2), .second] [])
                refine own_go (fun _ => XS.aload X46.here hx rfl (hb hby at_260) rfl rfl) ?_
                show own_G p e below Φ T46 (mkF m 262 #[.val (.int p0), .val (.long qx), .second, .val (.long qy), .second, .val (.long qz), .second, .val (.int z7), .val (.long x8_17), .second, .val (.long zb), .second, .val (.long zc), .second, .val (.ref oL), .val (.long x15_125), .second, .val (.long x17_139), .second, .val (.long x19_163), .second, .val (.long zs0), .second, .val (.long x19_163), .second, .val (.long zs2), .second, .val (.int (3 : Int32)), .val (.long x19_163), .second, .val (.long zs2), .second] [(.ref oL)])
                obtain ⟨cq47, kq47, q47a, q47b, q47c⟩ := isOf hZ e46 F36_0
                obtain ⟨_, _, ⟨T47, zL47, zk47, zn47⟩, -, X47, ⟨Lc47, hQ47, zl47, zy47, zz47⟩, st47⟩ := X46.virtualBack hx (y := (⟨"corro/core/LimitLevels", "size", "()I"⟩ : MethodName)) (z := (⟨"corro/core/LimitLevels", "size", "()I"⟩ : MethodName)) hown (mvT hZ (wd_71 hw)) (mvT hZ (wd_72 hw)) (notFace_of_selects (args := #[]) (mvT hZ (wd_74 hw))) (mvT hZ (wd_74 hw)) (mvT hZ (wd_73 hw)) (by decide) (backOf (W := 0) (rmZ3 l Z a0 hw [] oL h36 n0 Zp36 F36_2) hZ (wd_75 hw) (wd_7 hw) (by decide) (by decide)) q47a q47c (g := (mkF m 262 #[.val (.int p0), .val (.long qx), .second, .val (.long qy), .second, .val (.long qz), .second, .val (.int z7), .val (.long x8_17), .second, .val (.long zb), .second, .val (.long zc), .second, .val (.ref oL), .val (.long x15_125), .second, .val (.long x17_139), .second, .val (.long x19_163), .second, .val (.long zs0), .second, .val (.long x19_163), .second, .val (.long zs2), .second, .val (.int (3 : Int32)), .val (.long x19_163), .second, .val (.long zs2), .second] [(.ref oL)])) rfl (by rw [hml]; rfl) (Steps.refl _) (argsL := []) (rest := []) (lenOf pd_6 rfl) rfl (by show 2 * 0 + _ ≤ _; exact Nat.le_of_eq rfl) (hb hby at_262) (fun _ _ => ⟨rfl, e46, (by decide : 6 + 0 ≤ _), (by decide : 138 + 0 ≤ _)⟩)
                dsimp only [Pt.U, Pt.locs, Pt.cells, Pt.slots] at X47 zl47 zy47 zz47 st47 hQ47
                subst zl47 zy47 zz47
                obtain ⟨rfl, N47q, hs47⟩ := hQ47
                have N47 := Fr.app N46 N47q
                refine own_on st47 ?_
                refine own_go (fun _ => XS.iload X47.here hx rfl (hb hby at_265) rfl) ?_
                show own_G p e below Φ T47 (mkF m 267 #[.val (.int p0), .val (.long qx), .second, .val (.long qy), .second, .val (.long qz), .second, .val (.int z7), .val (.long x8_17), .second, .val (.long zb), .second, .val (.long zc), .second, .val (.ref oL), .val (.long x15_125), .second, .val (.long x17_139), .second, .val (.long x19_163), .second, .val (.long zs0), .second, .val (.long x19_163), .second, .val (.long zs2), .second, .val (.int (3 : Int32)), .val (.long x19_163), .second, .val (.long zs2), .second] [(.int (3 : Int32)), (.int (3 : Int32))])
                refine own_go (fun _ => XS.icmpYes X47.here hx rfl (pc0 := 267) (pc' := 272) rfl (hb hby at_267) rfl (Jvm.Free.XT.ii_eq_t (by decide : ((3 : Int32) = (3 : Int32)))) (by decide) (by decide)) ?_
                refine own_go (fun _ => XS.aload X47.here hx rfl (hb hby at_272) rfl rfl) ?_
                refine own_go (fun _ => XS.iconst X47.here hx rfl (hb hby at_274)) ?_
                show own_G p e below Φ T47 (mkF m 275 #[.val (.int p0), .val (.long qx), .second, .val (.long qy), .second, .val (.long qz), .second, .val (.int z7), .val (.long x8_17), .second, .val (.long zb), .second, .val (.long zc), .second, .val (.ref oL), .val (.long x15_125), .second, .val (.long x17_139), .second, .val (.long x19_163), .second, .val (.long zs0), .second, .val (.long x19_163), .second, .val (.long zs2), .second, .val (.int (3 : Int32)), .val (.long x19_163), .second, .val (.long zs2), .second] [(.int (0 : Int32)), (.ref oL)])
                obtain ⟨cq48, kq48, q48a, q48b, q48c⟩ := isOf hZ hs47 F36_0
                obtain ⟨_, _, ⟨T48, zL48, zk48, zn48⟩, -, X48, ⟨Lc48, hQ48, zl48, zy48, zz48⟩, st48⟩ := X47.virtualBack hx (y := (⟨"corro/core/LimitLevels", "price", "(I)J"⟩ : MethodName)) (z := (⟨"corro/core/LimitLevels", "price", "(I)J"⟩ : MethodName)) hown (mvT hZ (wd_76 hw)) (mvT hZ (wd_77 hw)) (notFace_of_selects (args := #[]) (mvT hZ (wd_79 hw))) (mvT hZ (wd_79 hw)) (mvT hZ (wd_78 hw)) (by decide) (backOf (W := 0) (rmQ3_0 l Z a0 hw [] oL z7 xa kk k0 k1 k2 h36 n0 Zp36 F36_1 F36_2 F36_3 F36_4) hZ (wd_80 hw) (wd_7 hw) (by decide) (by decide)) q48a q48c (g := (mkF m 275 #[.val (.int p0), .val (.long qx), .second, .val (.long qy), .second, .val (.long qz), .second, .val (.int z7), .val (.long x8_17), .second, .val (.long zb), .second, .val (.long zc), .second, .val (.ref oL), .val (.long x15_125), .second, .val (.long x17_139), .second, .val (.long x19_163), .second, .val (.long zs0), .second, .val (.long x19_163), .second, .val (.long zs2), .second, .val (.int (3 : Int32)), .val (.long x19_163), .second, .val (.long zs2), .second] [(.int (0 : Int32)), (.ref oL)])) rfl (by rw [hml]; rfl) (Steps.refl _) (argsL := [(.int (0 : Int32))]) (rest := []) (lenOf pd_7 rfl) rfl (by show 2 * 0 + _ ≤ _; exact Nat.le_of_eq rfl) (hb hby at_275) (fun _ _ => ⟨rfl, hs47, (by decide : 6 + 0 ≤ _), (by decide : 138 + 0 ≤ _)⟩)
                dsimp only [Pt.U, Pt.locs, Pt.cells, Pt.slots] at X48 zl48 zy48 zz48 st48 hQ48
                subst zl48 zy48 zz48
                obtain ⟨rfl, N48q, hs48⟩ := hQ48
                have N48 := Fr.app N47 N48q
                refine own_on st48 ?_
                refine own_go (fun _ => XS.lload X48.here hx rfl (hb hby at_278) rfl) ?_
                show own_G p e below Φ T48 (mkF m 280 #[.val (.int p0), .val (.long qx), .second, .val (.long qy), .second, .val (.long qz), .second, .val (.int z7), .val (.long x8_17), .second, .val (.long zb), .second, .val (.long zc), .second, .val (.ref oL), .val (.long x15_125), .second, .val (.long x17_139), .second, .val (.long x19_163), .second, .val (.long zs0), .second, .val (.long x19_163), .second, .val (.long zs2), .second, .val (.int (3 : Int32)), .val (.long x19_163), .second, .val (.long zs2), .second] [(.long zs0), (.long (own_key z7 k2))])
                refine own_go (fun _ => XS.lcmp X48.here hx rfl (hb hby at_280) rfl) ?_
                show own_G p e below Φ T48 (mkF m 281 #[.val (.int p0), .val (.long qx), .second, .val (.long qy), .second, .val (.long qz), .second, .val (.int z7), .val (.long x8_17), .second, .val (.long zb), .second, .val (.long zc), .second, .val (.ref oL), .val (.long x15_125), .second, .val (.long x17_139), .second, .val (.long x19_163), .second, .val (.long zs0), .second, .val (.long x19_163), .second, .val (.long zs2), .second, .val (.int (3 : Int32)), .val (.long x19_163), .second, .val (.long zs2), .second] [(.int (lcmpW (own_key z7 k2) zs0))])
                refine own_go (fun _ => XS.ifYes X48.here hx rfl (pc0 := 281) (pc' := 286) rfl (hb hby at_281) rfl (Jvm.Free.XT.ll_eq_t hfin.2.2.1) (by decide) (by decide)) ?_
                refine own_go (fun _ => XS.iload X48.here hx rfl (hb hby at_286) rfl) ?_
                refine own_go (fun _ => XS.iconst X48.here hx rfl (hb hby at_288)) ?_
                show own_G p e below Φ T48 (mkF m 289 #[.val (.int p0), .val (.long qx), .second, .val (.long qy), .second, .val (.long qz), .second, .val (.int z7), .val (.long x8_17), .second, .val (.long zb), .second, .val (.long zc), .second, .val (.ref oL), .val (.long x15_125), .second, .val (.long x17_139), .second, .val (.long x19_163), .second, .val (.long zs0), .second, .val (.long x19_163), .second, .val (.long zs2), .second, .val (.int (3 : Int32)), .val (.long x19_163), .second, .val (.long zs2), .second] [(.int (2 : Int32)), (.int (3 : Int32))])
                refine own_go (fun _ => XS.icmpNo X48.here hx rfl (hb hby at_289) rfl (Jvm.Free.XT.ii_lt_f (by decide : ¬ ((3 : Int32) < (2 : Int32))))) ?_
                refine own_go (fun _ => XS.aload X48.here hx rfl (hb hby at_292) rfl rfl) ?_
                refine own_go (fun _ => XS.iconst X48.here hx rfl (hb hby at_294)) ?_
                show own_G p e below Φ T48 (mkF m 295 #[.val (.int p0), .val (.long qx), .second, .val (.long qy), .second, .val (.long qz), .second, .val (.int z7), .val (.long x8_17), .second, .val (.long zb), .second, .val (.long zc), .second, .val (.ref oL), .val (.long x15_125), .second, .val (.long x17_139), .second, .val (.long x19_163), .second, .val (.long zs0), .second, .val (.long x19_163), .second, .val (.long zs2), .second, .val (.int (3 : Int32)), .val (.long x19_163), .second, .val (.long zs2), .second] [(.int (1 : Int32)), (.ref oL)])
                obtain ⟨cq49, kq49, q49a, q49b, q49c⟩ := isOf hZ hs48 F36_0
                obtain ⟨_, _, ⟨T49, zL49, zk49, zn49⟩, -, X49, ⟨Lc49, hQ49, zl49, zy49, zz49⟩, st49⟩ := X48.virtualBack hx (y := (⟨"corro/core/LimitLevels", "price", "(I)J"⟩ : MethodName)) (z := (⟨"corro/core/LimitLevels", "price", "(I)J"⟩ : MethodName)) hown (mvT hZ (wd_76 hw)) (mvT hZ (wd_77 hw)) (notFace_of_selects (args := #[]) (mvT hZ (wd_79 hw))) (mvT hZ (wd_79 hw)) (mvT hZ (wd_78 hw)) (by decide) (backOf (W := 0) (rmQ3_1 l Z a0 hw [] oL z7 xa kk k0 k1 k2 h36 n0 Zp36 F36_1 F36_2 F36_3 F36_4) hZ (wd_80 hw) (wd_7 hw) (by decide) (by decide)) q49a q49c (g := (mkF m 295 #[.val (.int p0), .val (.long qx), .second, .val (.long qy), .second, .val (.long qz), .second, .val (.int z7), .val (.long x8_17), .second, .val (.long zb), .second, .val (.long zc), .second, .val (.ref oL), .val (.long x15_125), .second, .val (.long x17_139), .second, .val (.long x19_163), .second, .val (.long zs0), .second, .val (.long x19_163), .second, .val (.long zs2), .second, .val (.int (3 : Int32)), .val (.long x19_163), .second, .val (.long zs2), .second] [(.int (1 : Int32)), (.ref oL)])) rfl (by rw [hml]; rfl) (Steps.refl _) (argsL := [(.int (1 : Int32))]) (rest := []) (lenOf pd_7 rfl) rfl (by show 2 * 0 + _ ≤ _; exact Nat.le_of_eq rfl) (hb hby at_295) (fun _ _ => ⟨rfl, hs48, (by decide : 6 + 0 ≤ _), (by decide : 138 + 0 ≤ _)⟩)
                dsimp only [Pt.U, Pt.locs, Pt.cells, Pt.slots] at X49 zl49 zy49 zz49 st49 hQ49
                subst zl49 zy49 zz49
                obtain ⟨rfl, N49q, hs49⟩ := hQ49
                have N49 := Fr.app N48 N49q
                refine own_on st49 ?_
                refine own_go (fun _ => XS.lload X49.here hx rfl (hb hby at_298) rfl) ?_
                show own_G p e below Φ T49 (mkF m 300 #[.val (.int p0), .val (.long qx), .second, .val (.long qy), .second, .val (.long qz), .second, .val (.int z7), .val (.long x8_17), .second, .val (.long zb), .second, .val (.long zc), .second, .val (.ref oL), .val (.long x15_125), .second, .val (.long x17_139), .second, .val (.long x19_163), .second, .val (.long zs0), .second, .val (.long x19_163), .second, .val (.long zs2), .second, .val (.int (3 : Int32)), .val (.long x19_163), .second, .val (.long zs2), .second] [(.long x19_163), (.long (own_key z7 k1))])
                refine own_go (fun _ => XS.lcmp X49.here hx rfl (hb hby at_300) rfl) ?_
                show own_G p e below Φ T49 (mkF m 301 #[.val (.int p0), .val (.long qx), .second, .val (.long qy), .second, .val (.long qz), .second, .val (.int z7), .val (.long x8_17), .second, .val (.long zb), .second, .val (.long zc), .second, .val (.ref oL), .val (.long x15_125), .second, .val (.long x17_139), .second, .val (.long x19_163), .second, .val (.long zs0), .second, .val (.long x19_163), .second, .val (.long zs2), .second, .val (.int (3 : Int32)), .val (.long x19_163), .second, .val (.long zs2), .second] [(.int (lcmpW (own_key z7 k1) x19_163))])
                refine own_go (fun _ => XS.ifYes X49.here hx rfl (pc0 := 301) (pc' := 306) rfl (hb hby at_301) rfl (Jvm.Free.XT.ll_eq_t hfin.2.2.2.1) (by decide) (by decide)) ?_
                refine own_go (fun _ => XS.iload X49.here hx rfl (hb hby at_306) rfl) ?_
                refine own_go (fun _ => XS.iconst X49.here hx rfl (hb hby at_308)) ?_
                show own_G p e below Φ T49 (mkF m 309 #[.val (.int p0), .val (.long qx), .second, .val (.long qy), .second, .val (.long qz), .second, .val (.int z7), .val (.long x8_17), .second, .val (.long zb), .second, .val (.long zc), .second, .val (.ref oL), .val (.long x15_125), .second, .val (.long x17_139), .second, .val (.long x19_163), .second, .val (.long zs0), .second, .val (.long x19_163), .second, .val (.long zs2), .second, .val (.int (3 : Int32)), .val (.long x19_163), .second, .val (.long zs2), .second] [(.int (3 : Int32)), (.int (3 : Int32))])
                refine own_go (fun _ => XS.icmpNo X49.here hx rfl (hb hby at_309) rfl (Jvm.Free.XT.ii_lt_f (by decide : ¬ ((3 : Int32) < (3 : Int32))))) ?_
                refine own_go (fun _ => XS.aload X49.here hx rfl (hb hby at_312) rfl rfl) ?_
                refine own_go (fun _ => XS.iconst X49.here hx rfl (hb hby at_314)) ?_
                show own_G p e below Φ T49 (mkF m 315 #[.val (.int p0), .val (.long qx), .second, .val (.long qy), .second, .val (.long qz), .second, .val (.int z7), .val (.long x8_17), .second, .val (.long zb), .second, .val (.long zc), .second, .val (.ref oL), .val (.long x15_125), .second, .val (.long x17_139), .second, .val (.long x19_163), .second, .val (.long zs0), .second, .val (.long x19_163), .second, .val (.long zs2), .second, .val (.int (3 : Int32)), .val (.long x19_163), .second, .val (.long zs2), .second] [(.int (2 : Int32)), (.ref oL)])
                obtain ⟨cq50, kq50, q50a, q50b, q50c⟩ := isOf hZ hs49 F36_0
                obtain ⟨_, _, ⟨T50, zL50, zk50, zn50⟩, -, X50, ⟨Lc50, hQ50, zl50, zy50, zz50⟩, st50⟩ := X49.virtualBack hx (y := (⟨"corro/core/LimitLevels", "price", "(I)J"⟩ : MethodName)) (z := (⟨"corro/core/LimitLevels", "price", "(I)J"⟩ : MethodName)) hown (mvT hZ (wd_76 hw)) (mvT hZ (wd_77 hw)) (notFace_of_selects (args := #[]) (mvT hZ (wd_79 hw))) (mvT hZ (wd_79 hw)) (mvT hZ (wd_78 hw)) (by decide) (backOf (W := 0) (rmQ3_2 l Z a0 hw [] oL z7 xa kk k0 k1 k2 h36 n0 Zp36 F36_1 F36_2 F36_3 F36_4) hZ (wd_80 hw) (wd_7 hw) (by decide) (by decide)) q50a q50c (g := (mkF m 315 #[.val (.int p0), .val (.long qx), .second, .val (.long qy), .second, .val (.long qz), .second, .val (.int z7), .val (.long x8_17), .second, .val (.long zb), .second, .val (.long zc), .second, .val (.ref oL), .val (.long x15_125), .second, .val (.long x17_139), .second, .val (.long x19_163), .second, .val (.long zs0), .second, .val (.long x19_163), .second, .val (.long zs2), .second, .val (.int (3 : Int32)), .val (.long x19_163), .second, .val (.long zs2), .second] [(.int (2 : Int32)), (.ref oL)])) rfl (by rw [hml]; rfl) (Steps.refl _) (argsL := [(.int (2 : Int32))]) (rest := []) (lenOf pd_7 rfl) rfl (by show 2 * 0 + _ ≤ _; exact Nat.le_of_eq rfl) (hb hby at_315) (fun _ _ => ⟨rfl, hs49, (by decide : 6 + 0 ≤ _), (by decide : 138 + 0 ≤ _)⟩)
                dsimp only [Pt.U, Pt.locs, Pt.cells, Pt.slots] at X50 zl50 zy50 zz50 st50 hQ50
                subst zl50 zy50 zz50
                obtain ⟨rfl, N50q, hs50⟩ := hQ50
                have N50 := Fr.app N49 N50q
                refine own_on st50 ?_
                refine own_go (fun _ => XS.lload X50.here hx rfl (hb hby at_318) rfl) ?_
                show own_G p e below Φ T50 (mkF m 320 #[.val (.int p0), .val (.long qx), .second, .val (.long qy), .second, .val (.long qz), .second, .val (.int z7), .val (.long x8_17), .second, .val (.long zb), .second, .val (.long zc), .second, .val (.ref oL), .val (.long x15_125), .second, .val (.long x17_139), .second, .val (.long x19_163), .second, .val (.long zs0), .second, .val (.long x19_163), .second, .val (.long zs2), .second, .val (.int (3 : Int32)), .val (.long x19_163), .second, .val (.long zs2), .second] [(.long zs2), (.long (own_key z7 k0))])
                refine own_go (fun _ => XS.lcmp X50.here hx rfl (hb hby at_320) rfl) ?_
                show own_G p e below Φ T50 (mkF m 321 #[.val (.int p0), .val (.long qx), .second, .val (.long qy), .second, .val (.long qz), .second, .val (.int z7), .val (.long x8_17), .second, .val (.long zb), .second, .val (.long zc), .second, .val (.ref oL), .val (.long x15_125), .second, .val (.long x17_139), .second, .val (.long x19_163), .second, .val (.long zs0), .second, .val (.long x19_163), .second, .val (.long zs2), .second, .val (.int (3 : Int32)), .val (.long x19_163), .second, .val (.long zs2), .second] [(.int (lcmpW (own_key z7 k0) zs2))])
                refine own_go (fun _ => XS.ifYes X50.here hx rfl (pc0 := 321) (pc' := 326) rfl (hb hby at_321) rfl (Jvm.Free.XT.ll_eq_t hfin.2.2.2.2) (by decide) (by decide)) ?_
                refine own_go (fun _ => XS.iconst X50.here hx rfl (hb hby at_326)) ?_
                show own_G p e below Φ T50 (mkF m 327 #[.val (.int p0), .val (.long qx), .second, .val (.long qy), .second, .val (.long qz), .second, .val (.int z7), .val (.long x8_17), .second, .val (.long zb), .second, .val (.long zc), .second, .val (.ref oL), .val (.long x15_125), .second, .val (.long x17_139), .second, .val (.long x19_163), .second, .val (.long zs0), .second, .val (.long x19_163), .second, .val (.long zs2), .second, .val (.int (3 : Int32)), .val (.long x19_163), .second, .val (.long zs2), .second] [(.int (1 : Int32))])
                rw [hΦ]
                refine own_ret X50 (v := some (.int (1 : Int32))) (fun h => by rw [Bd.returns] at h; cases h) (BodyLoose.notSynchronized Bd) (fun fs hr => retN X50 hx (t := .boolean) Bd.returns (by simp) (hb hby at_327) hr) ?_ (by decide) (by decide)
                rw [hs50]
                exact ⟨rfl, N50⟩
              by_cases hc185 : z7 = (0 : Int32)
              · refine own_go (fun _ => XS.ifYes X45.here hx rfl (pc0 := 185) (pc' := 193) rfl (hb hby at_185) rfl (Jvm.Free.XT.i0_eq_t hc185) (by decide) (by decide)) ?_
                refine own_go (fun _ => XS.lload X45.here hx rfl (hb hby at_193) rfl) ?_
                exact hJ195_46 _ _ X45 N45 e45 _ (by simp [hc185])
              · refine own_go (fun _ => XS.ifNo X45.here hx rfl (hb hby at_185) rfl (Jvm.Free.XT.i0_eq_f hc185)) ?_
                refine own_go (fun _ => XS.lload X45.here hx rfl (hb hby at_188) rfl) ?_
                refine own_go (fun _ => XS.goto X45.here hx rfl (pc0 := 190) (pc' := 195) rfl (hb hby at_190) (by decide) (by decide)) ?_
                exact hJ195_46 _ _ X45 N45 e45 _ (by simp [hc185])
            by_cases hc167 : z7 = (0 : Int32)
            · refine own_go (fun _ => XS.ifYes X44.here hx rfl (pc0 := 167) (pc' := 175) rfl (hb hby at_167) rfl (Jvm.Free.XT.i0_eq_t hc167) (by decide) (by decide)) ?_
              refine own_go (fun _ => XS.lload X44.here hx rfl (hb hby at_175) rfl) ?_
              exact hJ177_45 _ _ X44 N44 hs44 _ (by simp [hc167])
            · refine own_go (fun _ => XS.ifNo X44.here hx rfl (hb hby at_167) rfl (Jvm.Free.XT.i0_eq_f hc167)) ?_
              refine own_go (fun _ => XS.lload X44.here hx rfl (hb hby at_170) rfl) ?_
              refine own_go (fun _ => XS.goto X44.here hx rfl (pc0 := 172) (pc' := 177) rfl (hb hby at_172) (by decide) (by decide)) ?_
              exact hJ177_45 _ _ X44 N44 hs44 _ (by simp [hc167])
          refine own_go (fun _ => XS.aload X5.here hx rfl (hb hby at_89) rfl rfl) ?_
          show own_G p e below Φ T5 (mkF m 91 #[.val (.int p0), .val (.long qx), .second, .val (.long qy), .second, .val (.long qz), .second, .val (.int z7), .val (.long x8_17), .second, .val (.long zb), .second, .val (.long zc), .second, .val (.ref oL), .unset, .unset, .unset, .unset, .unset, .unset, .unset, .unset, .unset, .unset, .unset, .unset, .unset, .unset, .unset, .unset, .unset] [(.ref oL)])
          refine own_go (fun _ => XS.lload X5.here hx rfl (hb hby at_91) rfl) ?_
          show own_G p e below Φ T5 (mkF m 93 #[.val (.int p0), .val (.long qx), .second, .val (.long qy), .second, .val (.long qz), .second, .val (.int z7), .val (.long x8_17), .second, .val (.long zb), .second, .val (.long zc), .second, .val (.ref oL), .unset, .unset, .unset, .unset, .unset, .unset, .unset, .unset, .unset, .unset, .unset, .unset, .unset, .unset, .unset, .unset, .unset] [(.long x8_17), (.ref oL)])
          obtain ⟨cq51, kq51, q51a, q51b, q51c⟩ := isOf hZ e5 F5_0
          obtain ⟨_, _, ⟨T51, zL51, zk51, zn51⟩, -, X51, ⟨Lc51, hQ51, zl51, zy51, zz51⟩, st51⟩ := X5.virtualBack hx (y := (⟨"corro/core/LimitLevels", "getOrAdd", "(J)Lcorro/core/Level;"⟩ : MethodName)) (z := (⟨"corro/core/LimitLevels", "getOrAdd", "(J)Lcorro/core/Level;"⟩ : MethodName)) hown (mvT hZ (wd_28 hw)) (mvT hZ (wd_29 hw)) (notFace_of_selects (args := #[]) (mvT hZ (wd_31 hw))) (mvT hZ (wd_31 hw)) (mvT hZ (wd_30 hw)) (by decide) (backOf (W := 0) (rmG_0ins0 l Z a0 hw [] oL x8_17 z7 xa xl kk kl h5 n0 Zp5 F5_0 F5_1 F5_2 F5_4 F5_3 F5_5 F5_6 F5_7 F5_8 F5_9 F5_10 F5_11 F5_12 F5_13) hZ (wd_32 hw) (wd_7 hw) (by decide) (by decide)) q51a q51c (g := (mkF m 93 #[.val (.int p0), .val (.long qx), .second, .val (.long qy), .second, .val (.long qz), .second, .val (.int z7), .val (.long x8_17), .second, .val (.long zb), .second, .val (.long zc), .second, .val (.ref oL), .unset, .unset, .unset, .unset, .unset, .unset, .unset, .unset, .unset, .unset, .unset, .unset, .unset, .unset, .unset, .unset, .unset] [(.long x8_17), (.ref oL)])) rfl (by rw [hml]; rfl) (Steps.refl _) (argsL := [(.long x8_17)]) (rest := []) (lenOf pd_8 rfl) rfl (by show 2 * 0 + _ ≤ _; exact Nat.le_of_eq rfl) (hb hby at_93) (fun _ _ => ⟨rfl, e5, (by decide : 3 + 1 ≤ _), (by decide : 132 + 2 ≤ _)⟩)
          dsimp only [Pt.U, Pt.locs, Pt.cells, Pt.slots] at X51 zl51 zy51 zz51 st51 hQ51
          subst zl51 zy51 zz51
          obtain ⟨lv_51, ns_lv_51, rfl, N51q, Kq51, p51_0, p51_1, p51_2, p51_3, p51_4, p51_5, p51_6, p51_7⟩ := hQ51
          have N51 := Fr.app N5 N51q
          refine own_on st51 ?_
          have ne_oL_lv_51 : oL ≠ lv_51 := Nat.ne_of_lt (Nat.lt_of_lt_of_le F5_0.lt ns_lv_51)
          have ne_xa_lv_51 : xa ≠ lv_51 := Nat.ne_of_lt (Nat.lt_of_lt_of_le F5_5.lt ns_lv_51)
          have ne_xl_lv_51 : xl ≠ lv_51 := Nat.ne_of_lt (Nat.lt_of_lt_of_le F5_6.lt ns_lv_51)
          have g_lv_51 : n0 ≤ lv_51 := Nat.le_trans Zp5 ns_lv_51
          have Zp51 : n0 ≤ T51.heap.size := Nat.le_trans Zp5 Kq51.1
          have O52 := O5.keep Kq51 (allS F5_7 (allS F5_8 (allS F5_9 all0)))
          show own_G p e below Φ T51 (mkF m 96 #[.val (.int p0), .val (.long qx), .second, .val (.long qy), .second, .val (.long qz), .second, .val (.int z7), .val (.long x8_17), .second, .val (.long zb), .second, .val (.long zc), .second, .val (.ref oL), .unset, .unset, .unset, .unset, .unset, .unset, .unset, .unset, .unset, .unset, .unset, .unset, .unset, .unset, .unset, .unset, .unset] [(.ref lv_51)])
          refine own_go (fun _ => XS.pop X51.here hx rfl (hb hby at_96) rfl rfl) ?_
          show own_G p e below Φ T51 (mkF m 97 #[.val (.int p0), .val (.long qx), .second, .val (.long qy), .second, .val (.long qz), .second, .val (.int z7), .val (.long x8_17), .second, .val (.long zb), .second, .val (.long zc), .second, .val (.ref oL), .unset, .unset, .unset, .unset, .unset, .unset, .unset, .unset, .unset, .unset, .unset, .unset, .unset, .unset, .unset, .unset, .unset] [])
          rcases own_tri (own_key z7 x8_17) (own_key z7 zb) with htB0 | htB0 | htB0
          · refine own_go (fun _ => XS.aload X51.here hx rfl (hb hby at_97) rfl rfl) ?_
            refine own_go (fun _ => XS.lload X51.here hx rfl (hb hby at_99) rfl) ?_
            show own_G p e below Φ T51 (mkF m 101 #[.val (.int p0), .val (.long qx), .second, .val (.long qy), .second, .val (.long qz), .second, .val (.int z7), .val (.long x8_17), .second, .val (.long zb), .second, .val (.long zc), .second, .val (.ref oL), .unset, .unset, .unset, .unset, .unset, .unset, .unset, .unset, .unset, .unset, .unset, .unset, .unset, .unset, .unset, .unset, .unset] [(.long zb), (.ref oL)])
            obtain ⟨cq53, kq53, q53a, q53b, q53c⟩ := isOf hZ rfl p51_0
            obtain ⟨_, _, ⟨T53, zL53, zk53, zn53⟩, -, X53, ⟨Lc53, hQ53, zl53, zy53, zz53⟩, st53⟩ := X51.virtualBack hx (y := (⟨"corro/core/LimitLevels", "getOrAdd", "(J)Lcorro/core/Level;"⟩ : MethodName)) (z := (⟨"corro/core/LimitLevels", "getOrAdd", "(J)Lcorro/core/Level;"⟩ : MethodName)) hown (mvT hZ (wd_28 hw)) (mvT hZ (wd_29 hw)) (notFace_of_selects (args := #[]) (mvT hZ (wd_31 hw))) (mvT hZ (wd_31 hw)) (mvT hZ (wd_30 hw)) (by decide) (backOf (W := 0) (rmG_1ins0 l Z a0 hw [] oL zb z7 xa xl kk kl (own_key z7 x8_17) lv_51 T51.heap n0 Zp51 p51_0 p51_1 p51_2 p51_3 p51_4 p51_5 p51_6 p51_7 F5_7 F5_8 F5_9 F5_10 F5_11 F5_12 F5_13 htB0) hZ (wd_32 hw) (wd_7 hw) (by decide) (by decide)) q53a q53c (g := (mkF m 101 #[.val (.int p0), .val (.long qx), .second, .val (.long qy), .second, .val (.long qz), .second, .val (.int z7), .val (.long x8_17), .second, .val (.long zb), .second, .val (.long zc), .second, .val (.ref oL), .unset, .unset, .unset, .unset, .unset, .unset, .unset, .unset, .unset, .unset, .unset, .unset, .unset, .unset, .unset, .unset, .unset] [(.long zb), (.ref oL)])) rfl (by rw [hml]; rfl) (Steps.refl _) (argsL := [(.long zb)]) (rest := []) (lenOf pd_8 rfl) rfl (by show 2 * 0 + _ ≤ _; exact Nat.le_of_eq rfl) (hb hby at_101) (fun _ _ => ⟨rfl, rfl, (by decide : 4 + 1 ≤ _), (by decide : 134 + 2 ≤ _)⟩)
            dsimp only [Pt.U, Pt.locs, Pt.cells, Pt.slots] at X53 zl53 zy53 zz53 st53 hQ53
            subst zl53 zy53 zz53
            obtain ⟨lv_53, ns_lv_53, rfl, N53q, Kq53, p53_0, p53_1, p53_2, p53_3, p53_4, p53_5, p53_6, p53_7⟩ := hQ53
            have N53 := Fr.app N51 N53q
            refine own_on st53 ?_
            have ne_oL_lv_53 : oL ≠ lv_53 := Nat.ne_of_lt (Nat.lt_of_lt_of_le p51_0.lt ns_lv_53)
            have ne_xa_lv_53 : xa ≠ lv_53 := Nat.ne_of_lt (Nat.lt_of_lt_of_le p51_5.lt ns_lv_53)
            have ne_xl_lv_53 : xl ≠ lv_53 := Nat.ne_of_lt (Nat.lt_of_lt_of_le p51_6.lt ns_lv_53)
            have ne_lv_51_lv_53 : lv_51 ≠ lv_53 := Nat.ne_of_lt (Nat.lt_of_lt_of_le p51_7.lt ns_lv_53)
            have g_lv_53 : n0 ≤ lv_53 := Nat.le_trans Zp51 ns_lv_53
            have Zp53 : n0 ≤ T53.heap.size := Nat.le_trans Zp51 Kq53.1
            have O54 := O52.keep Kq53 (allS F5_7 (allS F5_8 (allS F5_9 all0)))
            show own_G p e below Φ T53 (mkF m 104 #[.val (.int p0), .val (.long qx), .second, .val (.long qy), .second, .val (.long qz), .second, .val (.int z7), .val (.long x8_17), .second, .val (.long zb), .second, .val (.long zc), .second, .val (.ref oL), .unset, .unset, .unset, .unset, .unset, .unset, .unset, .unset, .unset, .unset, .unset, .unset, .unset, .unset, .unset, .unset, .unset] [(.ref lv_53)])
            refine own_go (fun _ => XS.pop X53.here hx rfl (hb hby at_104) rfl rfl) ?_
            show own_G p e below Φ T53 (mkF m 105 #[.val (.int p0), .val (.long qx), .second, .val (.long qy), .second, .val (.long qz), .second, .val (.int z7), .val (.long x8_17), .second, .val (.long zb), .second, .val (.long zc), .second, .val (.ref oL), .unset, .unset, .unset, .unset, .unset, .unset, .unset, .unset, .unset, .unset, .unset, .unset, .unset, .unset, .unset, .unset, .unset] [])
            rcases own_tri (own_key z7 zb) (own_key z7 zc) with htC0 | htC0 | htC0
            · refine own_go (fun _ => XS.aload X53.here hx rfl (hb hby at_105) rfl rfl) ?_
              refine own_go (fun _ => XS.lload X53.here hx rfl (hb hby at_107) rfl) ?_
              show own_G p e below Φ T53 (mkF m 109 #[.val (.int p0), .val (.long qx), .second, .val (.long qy), .second, .val (.long qz), .second, .val (.int z7), .val (.long x8_17), .second, .val (.long zb), .second, .val (.long zc), .second, .val (.ref oL), .unset, .unset, .unset, .unset, .unset, .unset, .unset, .unset, .unset, .unset, .unset, .unset, .unset, .unset, .unset, .unset, .unset] [(.long zc), (.ref oL)])
              have f55 : Exa Z T53.heap lv_51 "corro/core/Level" := p51_7.keep Kq53
              obtain ⟨cq56, kq56, q56a, q56b, q56c⟩ := isOf hZ rfl p53_0
              obtain ⟨_, _, ⟨T56, zL56, zk56, zn56⟩, -, X56, ⟨Lc56, hQ56, zl56, zy56, zz56⟩, st56⟩ := X53.virtualBack hx (y := (⟨"corro/core/LimitLevels", "getOrAdd", "(J)Lcorro/core/Level;"⟩ : MethodName)) (z := (⟨"corro/core/LimitLevels", "getOrAdd", "(J)Lcorro/core/Level;"⟩ : MethodName)) hown (mvT hZ (wd_28 hw)) (mvT hZ (wd_29 hw)) (notFace_of_selects (args := #[]) (mvT hZ (wd_31 hw))) (mvT hZ (wd_31 hw)) (mvT hZ (wd_30 hw)) (by decide) (backOf (W := 0) (rmG_2ins0 l Z a0 hw [] oL zc z7 xa xl kk kl (own_key z7 zb) (own_key z7 x8_17) lv_53 lv_51 T53.heap n0 Zp53 p53_0 p53_1 p53_2 p53_3 p53_4 p53_5 p53_6 p53_7 f55 F5_7 F5_8 F5_9 F5_10 F5_11 F5_12 F5_13 htC0) hZ (wd_32 hw) (wd_7 hw) (by decide) (by decide)) q56a q56c (g := (mkF m 109 #[.val (.int p0), .val (.long qx), .second, .val (.long qy), .second, .val (.long qz), .second, .val (.int z7), .val (.long x8_17), .second, .val (.long zb), .second, .val (.long zc), .second, .val (.ref oL), .unset, .unset, .unset, .unset, .unset, .unset, .unset, .unset, .unset, .unset, .unset, .unset, .unset, .unset, .unset, .unset, .unset] [(.long zc), (.ref oL)])) rfl (by rw [hml]; rfl) (Steps.refl _) (argsL := [(.long zc)]) (rest := []) (lenOf pd_8 rfl) rfl (by show 2 * 0 + _ ≤ _; exact Nat.le_of_eq rfl) (hb hby at_109) (fun _ _ => ⟨rfl, rfl, (by decide : 5 + 1 ≤ _), (by decide : 136 + 2 ≤ _)⟩)
              dsimp only [Pt.U, Pt.locs, Pt.cells, Pt.slots] at X56 zl56 zy56 zz56 st56 hQ56
              subst zl56 zy56 zz56
              obtain ⟨lv_56, ns_lv_56, rfl, N56q, Kq56, p56_0, p56_1, p56_2, p56_3, p56_4, p56_5, p56_6, p56_7⟩ := hQ56
              have N56 := Fr.app N53 N56q
              refine own_on st56 ?_
              have ne_oL_lv_56 : oL ≠ lv_56 := Nat.ne_of_lt (Nat.lt_of_lt_of_le p53_0.lt ns_lv_56)
              have ne_xa_lv_56 : xa ≠ lv_56 := Nat.ne_of_lt (Nat.lt_of_lt_of_le p53_5.lt ns_lv_56)
              have ne_xl_lv_56 : xl ≠ lv_56 := Nat.ne_of_lt (Nat.lt_of_lt_of_le p53_6.lt ns_lv_56)
              have ne_lv_51_lv_56 : lv_51 ≠ lv_56 := Nat.ne_of_lt (Nat.lt_of_lt_of_le f55.lt ns_lv_56)
              have ne_lv_53_lv_56 : lv_53 ≠ lv_56 := Nat.ne_of_lt (Nat.lt_of_lt_of_le p53_7.lt ns_lv_56)
              have g_lv_56 : n0 ≤ lv_56 := Nat.le_trans Zp53 ns_lv_56
              have Zp56 : n0 ≤ T56.heap.size := Nat.le_trans Zp53 Kq56.1
              have O57 := O54.keep Kq56 (allS F5_7 (allS F5_8 (allS F5_9 all0)))
              show own_G p e below Φ T56 (mkF m 112 #[.val (.int p0), .val (.long qx), .second, .val (.long qy), .second, .val (.long qz), .second, .val (.int z7), .val (.long x8_17), .second, .val (.long zb), .second, .val (.long zc), .second, .val (.ref oL), .unset, .unset, .unset, .unset, .unset, .unset, .unset, .unset, .unset, .unset, .unset, .unset, .unset, .unset, .unset, .unset, .unset] [(.ref lv_56)])
              refine own_go (fun _ => XS.pop X56.here hx rfl (hb hby at_112) rfl rfl) ?_
              exact hH113_3 _ _ _ (X56.mono (by decide : 6 ≤ 6) (by decide : 138 ≤ 138)) rfl N56 Zp56 O57 (own_key z7 zc) (own_key z7 zb) (own_key z7 x8_17) p56_0 p56_1 p56_3 p56_4 p56_5 ⟨htC0, htB0, (Or.inr (Or.inr (rfl))), (Or.inr (Or.inl rfl)), (Or.inl rfl), (Or.inr (Or.inr (rfl))), (Or.inr (Or.inl rfl)), (Or.inl rfl)⟩
            · refine own_go (fun _ => XS.aload X53.here hx rfl (hb hby at_105) rfl rfl) ?_
              refine own_go (fun _ => XS.lload X53.here hx rfl (hb hby at_107) rfl) ?_
              show own_G p e below Φ T53 (mkF m 109 #[.val (.int p0), .val (.long qx), .second, .val (.long qy), .second, .val (.long qz), .second, .val (.int z7), .val (.long x8_17), .second, .val (.long zb), .second, .val (.long zc), .second, .val (.ref oL), .unset, .unset, .unset, .unset, .unset, .unset, .unset, .unset, .unset, .unset, .unset, .unset, .unset, .unset, .unset, .unset, .unset] [(.long zc), (.ref oL)])
              have f58 : Exa Z T53.heap lv_51 "corro/core/Level" := p51_7.keep Kq53
              obtain ⟨cq59, kq59, q59a, q59b, q59c⟩ := isOf hZ rfl p53_0
              obtain ⟨_, _, ⟨T59, zL59, zk59, zn59⟩, -, X59, ⟨Lc59, hQ59, zl59, zy59, zz59⟩, st59⟩ := X53.virtualBack hx (y := (⟨"corro/core/LimitLevels", "getOrAdd", "(J)Lcorro/core/Level;"⟩ : MethodName)) (z := (⟨"corro/core/LimitLevels", "getOrAdd", "(J)Lcorro/core/Level;"⟩ : MethodName)) hown (mvT hZ (wd_28 hw)) (mvT hZ (wd_29 hw)) (notFace_of_selects (args := #[]) (mvT hZ (wd_31 hw))) (mvT hZ (wd_31 hw)) (mvT hZ (wd_30 hw)) (by decide) (backOf (W := 0) (rmG_2fnd0 l Z a0 hw [] oL zc z7 xa xl kk kl (own_key z7 zb) (own_key z7 x8_17) lv_53 lv_51 T53.heap n0 Zp53 p53_0 p53_1 p53_2 p53_3 p53_4 p53_5 p53_6 p53_7 f58 F5_7 F5_8 F5_9 F5_10 F5_11 F5_12 F5_13 htC0) hZ (wd_32 hw) (wd_7 hw) (by decide) (by decide)) q59a q59c (g := (mkF m 109 #[.val (.int p0), .val (.long qx), .second, .val (.long qy), .second, .val (.long qz), .second, .val (.int z7), .val (.long x8_17), .second, .val (.long zb), .second, .val (.long zc), .second, .val (.ref oL), .unset, .unset, .unset, .unset, .unset, .unset, .unset, .unset, .unset, .unset, .unset, .unset, .unset, .unset, .unset, .unset, .unset] [(.long zc), (.ref oL)])) rfl (by rw [hml]; rfl) (Steps.refl _) (argsL := [(.long zc)]) (rest := []) (lenOf pd_8 rfl) rfl (by show 2 * 0 + _ ≤ _; exact Nat.le_of_eq rfl) (hb hby at_109) (fun _ _ => ⟨rfl, rfl, (by decide : 5 + 0 ≤ _), (by decide : 136 + 0 ≤ _)⟩)
              dsimp only [Pt.U, Pt.locs, Pt.cells, Pt.slots] at X59 zl59 zy59 zz59 st59 hQ59
              subst zl59 zy59 zz59
              obtain ⟨rfl, N59q, hs59⟩ := hQ59
              have N59 := Fr.app N53 N59q
              refine own_on st59 ?_
              show own_G p e below Φ T59 (mkF m 112 #[.val (.int p0), .val (.long qx), .second, .val (.long qy), .second, .val (.long qz), .second, .val (.int z7), .val (.long x8_17), .second, .val (.long zb), .second, .val (.long zc), .second, .val (.ref oL), .unset, .unset, .unset, .unset, .unset, .unset, .unset, .unset, .unset, .unset, .unset, .unset, .unset, .unset, .unset, .unset, .unset] [(.ref lv_53)])
              refine own_go (fun _ => XS.pop X59.here hx rfl (hb hby at_112) rfl rfl) ?_
              exact hH113_2 _ _ _ (X59.mono (by decide : 5 ≤ 6) (by decide : 136 ≤ 138)) hs59 N59 Zp53 O54 (own_key z7 zb) (own_key z7 x8_17) p53_0 p53_1 p53_3 p53_4 p53_5 ⟨htB0, (Or.inr (rfl)), (Or.inl rfl), (Or.inl (htC0.symm)), (Or.inr (Or.inl rfl)), (Or.inl rfl)⟩
            · rcases own_tri (own_key z7 x8_17) (own_key z7 zc) with htC1 | htC1 | htC1
              · refine own_go (fun _ => XS.aload X53.here hx rfl (hb hby at_105) rfl rfl) ?_
                refine own_go (fun _ => XS.lload X53.here hx rfl (hb hby at_107) rfl) ?_
                show own_G p e below Φ T53 (mkF m 109 #[.val (.int p0), .val (.long qx), .second, .val (.long qy), .second, .val (.long qz), .second, .val (.int z7), .val (.long x8_17), .second, .val (.long zb), .second, .val (.long zc), .second, .val (.ref oL), .unset, .unset, .unset, .unset, .unset, .unset, .unset, .unset, .unset, .unset, .unset, .unset, .unset, .unset, .unset, .unset, .unset] [(.long zc), (.ref oL)])
                have f60 : Exa Z T53.heap lv_51 "corro/core/Level" := p51_7.keep Kq53
                obtain ⟨cq61, kq61, q61a, q61b, q61c⟩ := isOf hZ rfl p53_0
                obtain ⟨_, _, ⟨T61, zL61, zk61, zn61⟩, -, X61, ⟨Lc61, hQ61, zl61, zy61, zz61⟩, st61⟩ := X53.virtualBack hx (y := (⟨"corro/core/LimitLevels", "getOrAdd", "(J)Lcorro/core/Level;"⟩ : MethodName)) (z := (⟨"corro/core/LimitLevels", "getOrAdd", "(J)Lcorro/core/Level;"⟩ : MethodName)) hown (mvT hZ (wd_28 hw)) (mvT hZ (wd_29 hw)) (notFace_of_selects (args := #[]) (mvT hZ (wd_31 hw))) (mvT hZ (wd_31 hw)) (mvT hZ (wd_30 hw)) (by decide) (backOf (W := 0) (rmG_2ins1 l Z a0 hw [] oL zc z7 xa xl kk kl (own_key z7 zb) (own_key z7 x8_17) lv_53 lv_51 T53.heap n0 Zp53 p53_0 p53_1 p53_2 p53_3 p53_4 p53_5 p53_6 p53_7 f60 F5_7 F5_8 F5_9 F5_10 F5_11 F5_12 F5_13 htC0 htC1) hZ (wd_32 hw) (wd_7 hw) (by decide) (by decide)) q61a q61c (g := (mkF m 109 #[.val (.int p0), .val (.long qx), .second, .val (.long qy), .second, .val (.long qz), .second, .val (.int z7), .val (.long x8_17), .second, .val (.long zb), .second, .val (.long zc), .second, .val (.ref oL), .unset, .unset, .unset, .unset, .unset, .unset, .unset, .unset, .unset, .unset, .unset, .unset, .unset, .unset, .unset, .unset, .unset] [(.long zc), (.ref oL)])) rfl (by rw [hml]; rfl) (Steps.refl _) (argsL := [(.long zc)]) (rest := []) (lenOf pd_8 rfl) rfl (by show 2 * 0 + _ ≤ _; exact Nat.le_of_eq rfl) (hb hby at_109) (fun _ _ => ⟨rfl, rfl, (by decide : 5 + 1 ≤ _), (by decide : 136 + 2 ≤ _)⟩)
                dsimp only [Pt.U, Pt.locs, Pt.cells, Pt.slots] at X61 zl61 zy61 zz61 st61 hQ61
                subst zl61 zy61 zz61
                obtain ⟨lv_61, ns_lv_61, rfl, N61q, Kq61, p61_0, p61_1, p61_2, p61_3, p61_4, p61_5, p61_6, p61_7⟩ := hQ61
                have N61 := Fr.app N53 N61q
                refine own_on st61 ?_
                have ne_oL_lv_61 : oL ≠ lv_61 := Nat.ne_of_lt (Nat.lt_of_lt_of_le p53_0.lt ns_lv_61)
                have ne_xa_lv_61 : xa ≠ lv_61 := Nat.ne_of_lt (Nat.lt_of_lt_of_le p53_5.lt ns_lv_61)
                have ne_xl_lv_61 : xl ≠ lv_61 := Nat.ne_of_lt (Nat.lt_of_lt_of_le p53_6.lt ns_lv_61)
                have ne_lv_51_lv_61 : lv_51 ≠ lv_61 := Nat.ne_of_lt (Nat.lt_of_lt_of_le f60.lt ns_lv_61)
                have ne_lv_53_lv_61 : lv_53 ≠ lv_61 := Nat.ne_of_lt (Nat.lt_of_lt_of_le p53_7.lt ns_lv_61)
                have g_lv_61 : n0 ≤ lv_61 := Nat.le_trans Zp53 ns_lv_61
                have Zp61 : n0 ≤ T61.heap.size := Nat.le_trans Zp53 Kq61.1
                have O62 := O54.keep Kq61 (allS F5_7 (allS F5_8 (allS F5_9 all0)))
                show own_G p e below Φ T61 (mkF m 112 #[.val (.int p0), .val (.long qx), .second, .val (.long qy), .second, .val (.long qz), .second, .val (.int z7), .val (.long x8_17), .second, .val (.long zb), .second, .val (.long zc), .second, .val (.ref oL), .unset, .unset, .unset, .unset, .unset, .unset, .unset, .unset, .unset, .unset, .unset, .unset, .unset, .unset, .unset, .unset, .unset] [(.ref lv_61)])
                refine own_go (fun _ => XS.pop X61.here hx rfl (hb hby at_112) rfl rfl) ?_
                exact hH113_3 _ _ _ (X61.mono (by decide : 6 ≤ 6) (by decide : 138 ≤ 138)) rfl N61 Zp61 O62 (own_key z7 zb) (own_key z7 zc) (own_key z7 x8_17) p61_0 p61_1 p61_3 p61_4 p61_5 ⟨htC0, htC1, (Or.inr (Or.inr (rfl))), (Or.inl rfl), (Or.inr (Or.inl rfl)), (Or.inr (Or.inl rfl)), (Or.inr (Or.inr (rfl))), (Or.inl rfl)⟩
              · refine own_go (fun _ => XS.aload X53.here hx rfl (hb hby at_105) rfl rfl) ?_
                refine own_go (fun _ => XS.lload X53.here hx rfl (hb hby at_107) rfl) ?_
                show own_G p e below Φ T53 (mkF m 109 #[.val (.int p0), .val (.long qx), .second, .val (.long qy), .second, .val (.long qz), .second, .val (.int z7), .val (.long x8_17), .second, .val (.long zb), .second, .val (.long zc), .second, .val (.ref oL), .unset, .unset, .unset, .unset, .unset, .unset, .unset, .unset, .unset, .unset, .unset, .unset, .unset, .unset, .unset, .unset, .unset] [(.long zc), (.ref oL)])
                have f63 : Exa Z T53.heap lv_51 "corro/core/Level" := p51_7.keep Kq53
                obtain ⟨cq64, kq64, q64a, q64b, q64c⟩ := isOf hZ rfl p53_0
                obtain ⟨_, _, ⟨T64, zL64, zk64, zn64⟩, -, X64, ⟨Lc64, hQ64, zl64, zy64, zz64⟩, st64⟩ := X53.virtualBack hx (y := (⟨"corro/core/LimitLevels", "getOrAdd", "(J)Lcorro/core/Level;"⟩ : MethodName)) (z := (⟨"corro/core/LimitLevels", "getOrAdd", "(J)Lcorro/core/Level;"⟩ : MethodName)) hown (mvT hZ (wd_28 hw)) (mvT hZ (wd_29 hw)) (notFace_of_selects (args := #[]) (mvT hZ (wd_31 hw))) (mvT hZ (wd_31 hw)) (mvT hZ (wd_30 hw)) (by decide) (backOf (W := 0) (rmG_2fnd1 l Z a0 hw [] oL zc z7 xa xl kk kl (own_key z7 zb) (own_key z7 x8_17) lv_53 lv_51 T53.heap n0 Zp53 p53_0 p53_1 p53_2 p53_3 p53_4 p53_5 p53_6 p53_7 f63 F5_7 F5_8 F5_9 F5_10 F5_11 F5_12 F5_13 htC0 htC1) hZ (wd_32 hw) (wd_7 hw) (by decide) (by decide)) q64a q64c (g := (mkF m 109 #[.val (.int p0), .val (.long qx), .second, .val (.long qy), .second, .val (.long qz), .second, .val (.int z7), .val (.long x8_17), .second, .val (.long zb), .second, .val (.long zc), .second, .val (.ref oL), .unset, .unset, .unset, .unset, .unset, .unset, .unset, .unset, .unset, .unset, .unset, .unset, .unset, .unset, .unset, .unset, .unset] [(.long zc), (.ref oL)])) rfl (by rw [hml]; rfl) (Steps.refl _) (argsL := [(.long zc)]) (rest := []) (lenOf pd_8 rfl) rfl (by show 2 * 0 + _ ≤ _; exact Nat.le_of_eq rfl) (hb hby at_109) (fun _ _ => ⟨rfl, rfl, (by decide : 5 + 0 ≤ _), (by decide : 136 + 0 ≤ _)⟩)
                dsimp only [Pt.U, Pt.locs, Pt.cells, Pt.slots] at X64 zl64 zy64 zz64 st64 hQ64
                subst zl64 zy64 zz64
                obtain ⟨rfl, N64q, hs64⟩ := hQ64
                have N64 := Fr.app N53 N64q
                refine own_on st64 ?_
                show own_G p e below Φ T64 (mkF m 112 #[.val (.int p0), .val (.long qx), .second, .val (.long qy), .second, .val (.long qz), .second, .val (.int z7), .val (.long x8_17), .second, .val (.long zb), .second, .val (.long zc), .second, .val (.ref oL), .unset, .unset, .unset, .unset, .unset, .unset, .unset, .unset, .unset, .unset, .unset, .unset, .unset, .unset, .unset, .unset, .unset] [(.ref lv_51)])
                refine own_go (fun _ => XS.pop X64.here hx rfl (hb hby at_112) rfl rfl) ?_
                exact hH113_2 _ _ _ (X64.mono (by decide : 5 ≤ 6) (by decide : 136 ≤ 138)) hs64 N64 Zp53 O54 (own_key z7 zb) (own_key z7 x8_17) p53_0 p53_1 p53_3 p53_4 p53_5 ⟨htB0, (Or.inr (rfl)), (Or.inl rfl), (Or.inr ((htC1.symm))), (Or.inr (Or.inl rfl)), (Or.inl rfl)⟩
              · refine own_go (fun _ => XS.aload X53.here hx rfl (hb hby at_105) rfl rfl) ?_
                refine own_go (fun _ => XS.lload X53.here hx rfl (hb hby at_107) rfl) ?_
                show own_G p e below Φ T53 (mkF m 109 #[.val (.int p0), .val (.long qx), .second, .val (.long qy), .second, .val (.long qz), .second, .val (.int z7), .val (.long x8_17), .second, .val (.long zb), .second, .val (.long zc), .second, .val (.ref oL), .unset, .unset, .unset, .unset, .unset, .unset, .unset, .unset, .unset, .unset, .unset, .unset, .unset, .unset, .unset, .unset, .unset] [(.long zc), (.ref oL)])
                have f65 : Exa Z T53.heap lv_51 "corro/core/Level" := p51_7.keep Kq53
                obtain ⟨cq66, kq66, q66a, q66b, q66c⟩ := isOf hZ rfl p53_0
                obtain ⟨_, _, ⟨T66, zL66, zk66, zn66⟩, -, X66, ⟨Lc66, hQ66, zl66, zy66, zz66⟩, st66⟩ := X53.virtualBack hx (y := (⟨"corro/core/LimitLevels", "getOrAdd", "(J)Lcorro/core/Level;"⟩ : MethodName)) (z := (⟨"corro/core/LimitLevels", "getOrAdd", "(J)Lcorro/core/Level;"⟩ : MethodName)) hown (mvT hZ (wd_28 hw)) (mvT hZ (wd_29 hw)) (notFace_of_selects (args := #[]) (mvT hZ (wd_31 hw))) (mvT hZ (wd_31 hw)) (mvT hZ (wd_30 hw)) (by decide) (backOf (W := 0) (rmG_2ins2 l Z a0 hw [] oL zc z7 xa xl kk kl (own_key z7 zb) (own_key z7 x8_17) lv_53 lv_51 T53.heap n0 Zp53 p53_0 p53_1 p53_2 p53_3 p53_4 p53_5 p53_6 p53_7 f65 F5_7 F5_8 F5_9 F5_10 F5_11 F5_12 F5_13 htC0 htC1) hZ (wd_32 hw) (wd_7 hw) (by decide) (by decide)) q66a q66c (g := (mkF m 109 #[.val (.int p0), .val (.long qx), .second, .val (.long qy), .second, .val (.long qz), .second, .val (.int z7), .val (.long x8_17), .second, .val (.long zb), .second, .val (.long zc), .second, .val (.ref oL), .unset, .unset, .unset, .unset, .unset, .unset, .unset, .unset, .unset, .unset, .unset, .unset, .unset, .unset, .unset, .unset, .unset] [(.long zc), (.ref oL)])) rfl (by rw [hml]; rfl) (Steps.refl _) (argsL := [(.long zc)]) (rest := []) (lenOf pd_8 rfl) rfl (by show 2 * 0 + _ ≤ _; exact Nat.le_of_eq rfl) (hb hby at_109) (fun _ _ => ⟨rfl, rfl, (by decide : 5 + 1 ≤ _), (by decide : 136 + 2 ≤ _)⟩)
                dsimp only [Pt.U, Pt.locs, Pt.cells, Pt.slots] at X66 zl66 zy66 zz66 st66 hQ66
                subst zl66 zy66 zz66
                obtain ⟨lv_66, ns_lv_66, rfl, N66q, Kq66, p66_0, p66_1, p66_2, p66_3, p66_4, p66_5, p66_6, p66_7⟩ := hQ66
                have N66 := Fr.app N53 N66q
                refine own_on st66 ?_
                have ne_oL_lv_66 : oL ≠ lv_66 := Nat.ne_of_lt (Nat.lt_of_lt_of_le p53_0.lt ns_lv_66)
                have ne_xa_lv_66 : xa ≠ lv_66 := Nat.ne_of_lt (Nat.lt_of_lt_of_le p53_5.lt ns_lv_66)
                have ne_xl_lv_66 : xl ≠ lv_66 := Nat.ne_of_lt (Nat.lt_of_lt_of_le p53_6.lt ns_lv_66)
                have ne_lv_51_lv_66 : lv_51 ≠ lv_66 := Nat.ne_of_lt (Nat.lt_of_lt_of_le f65.lt ns_lv_66)
                have ne_lv_53_lv_66 : lv_53 ≠ lv_66 := Nat.ne_of_lt (Nat.lt_of_lt_of_le p53_7.lt ns_lv_66)
                have g_lv_66 : n0 ≤ lv_66 := Nat.le_trans Zp53 ns_lv_66
                have Zp66 : n0 ≤ T66.heap.size := Nat.le_trans Zp53 Kq66.1
                have O67 := O54.keep Kq66 (allS F5_7 (allS F5_8 (allS F5_9 all0)))
                show own_G p e below Φ T66 (mkF m 112 #[.val (.int p0), .val (.long qx), .second, .val (.long qy), .second, .val (.long qz), .second, .val (.int z7), .val (.long x8_17), .second, .val (.long zb), .second, .val (.long zc), .second, .val (.ref oL), .unset, .unset, .unset, .unset, .unset, .unset, .unset, .unset, .unset, .unset, .unset, .unset, .unset, .unset, .unset, .unset, .unset] [(.ref lv_66)])
                refine own_go (fun _ => XS.pop X66.here hx rfl (hb hby at_112) rfl rfl) ?_
                exact hH113_3 _ _ _ (X66.mono (by decide : 6 ≤ 6) (by decide : 138 ≤ 138)) rfl N66 Zp66 O67 (own_key z7 zb) (own_key z7 x8_17) (own_key z7 zc) p66_0 p66_1 p66_3 p66_4 p66_5 ⟨htB0, htC1, (Or.inr (Or.inl rfl)), (Or.inl rfl), (Or.inr (Or.inr (rfl))), (Or.inr (Or.inl rfl)), (Or.inl rfl), (Or.inr (Or.inr (rfl)))⟩
          · refine own_go (fun _ => XS.aload X51.here hx rfl (hb hby at_97) rfl rfl) ?_
            refine own_go (fun _ => XS.lload X51.here hx rfl (hb hby at_99) rfl) ?_
            show own_G p e below Φ T51 (mkF m 101 #[.val (.int p0), .val (.long qx), .second, .val (.long qy), .second, .val (.long qz), .second, .val (.int z7), .val (.long x8_17), .second, .val (.long zb), .second, .val (.long zc), .second, .val (.ref oL), .unset, .unset, .unset, .unset, .unset, .unset, .unset, .unset, .unset, .unset, .unset, .unset, .unset, .unset, .unset, .unset, .unset] [(.long zb), (.ref oL)])
            obtain ⟨cq68, kq68, q68a, q68b, q68c⟩ := isOf hZ rfl p51_0
            obtain ⟨_, _, ⟨T68, zL68, zk68, zn68⟩, -, X68, ⟨Lc68, hQ68, zl68, zy68, zz68⟩, st68⟩ := X51.virtualBack hx (y := (⟨"corro/core/LimitLevels", "getOrAdd", "(J)Lcorro/core/Level;"⟩ : MethodName)) (z := (⟨"corro/core/LimitLevels", "getOrAdd", "(J)Lcorro/core/Level;"⟩ : MethodName)) hown (mvT hZ (wd_28 hw)) (mvT hZ (wd_29 hw)) (notFace_of_selects (args := #[]) (mvT hZ (wd_31 hw))) (mvT hZ (wd_31 hw)) (mvT hZ (wd_30 hw)) (by decide) (backOf (W := 0) (rmG_1fnd0 l Z a0 hw [] oL zb z7 xa xl kk kl (own_key z7 x8_17) lv_51 T51.heap n0 Zp51 p51_0 p51_1 p51_2 p51_3 p51_4 p51_5 p51_6 p51_7 F5_7 F5_8 F5_9 F5_10 F5_11 F5_12 F5_13 htB0) hZ (wd_32 hw) (wd_7 hw) (by decide) (by decide)) q68a q68c (g := (mkF m 101 #[.val (.int p0), .val (.long qx), .second, .val (.long qy), .second, .val (.long qz), .second, .val (.int z7), .val (.long x8_17), .second, .val (.long zb), .second, .val (.long zc), .second, .val (.ref oL), .unset, .unset, .unset, .unset, .unset, .unset, .unset, .unset, .unset, .unset, .unset, .unset, .unset, .unset, .unset, .unset, .unset] [(.long zb), (.ref oL)])) rfl (by rw [hml]; rfl) (Steps.refl _) (argsL := [(.long zb)]) (rest := []) (lenOf pd_8 rfl) rfl (by show 2 * 0 + _ ≤ _; exact Nat.le_of_eq rfl) (hb hby at_101) (fun _ _ => ⟨rfl, rfl, (by decide : 4 + 0 ≤ _), (by decide : 134 + 0 ≤ _)⟩)
            dsimp only [Pt.U, Pt.locs, Pt.cells, Pt.slots] at X68 zl68 zy68 zz68 st68 hQ68
            subst zl68 zy68 zz68
            obtain ⟨rfl, N68q, hs68⟩ := hQ68
            have N68 := Fr.app N51 N68q
            refine own_on st68 ?_
            show own_G p e below Φ T68 (mkF m 104 #[.val (.int p0), .val (.long qx), .second, .val (.long qy), .second, .val (.long qz), .second, .val (.int z7), .val (.long x8_17), .second, .val (.long zb), .second, .val (.long zc), .second, .val (.ref oL), .unset, .unset, .unset, .unset, .unset, .unset, .unset, .unset, .unset, .unset, .unset, .unset, .unset, .unset, .unset, .unset, .unset] [(.ref lv_51)])
            refine own_go (fun _ => XS.pop X68.here hx rfl (hb hby at_104) rfl rfl) ?_
            show own_G p e below Φ T68 (mkF m 105 #[.val (.int p0), .val (.long qx), .second, .val (.long qy), .second, .val (.long qz), .second, .val (.int z7), .val (.long x8_17), .second, .val (.long zb), .second, .val (.long zc), .second, .val (.ref oL), .unset, .unset, .unset, .unset, .unset, .unset, .unset, .unset, .unset, .unset, .unset, .unset, .unset, .unset, .unset, .unset, .unset] [])
            rcases own_tri (own_key z7 x8_17) (own_key z7 zc) with htC0 | htC0 | htC0
            · refine own_go (fun _ => XS.aload X68.here hx rfl (hb hby at_105) rfl rfl) ?_
              refine own_go (fun _ => XS.lload X68.here hx rfl (hb hby at_107) rfl) ?_
              show own_G p e below Φ T68 (mkF m 109 #[.val (.int p0), .val (.long qx), .second, .val (.long qy), .second, .val (.long qz), .second, .val (.int z7), .val (.long x8_17), .second, .val (.long zb), .second, .val (.long zc), .second, .val (.ref oL), .unset, .unset, .unset, .unset, .unset, .unset, .unset, .unset, .unset, .unset, .unset, .unset, .unset, .unset, .unset, .unset, .unset] [(.long zc), (.ref oL)])
              obtain ⟨cq69, kq69, q69a, q69b, q69c⟩ := isOf hZ hs68 p51_0
              obtain ⟨_, _, ⟨T69, zL69, zk69, zn69⟩, -, X69, ⟨Lc69, hQ69, zl69, zy69, zz69⟩, st69⟩ := X68.virtualBack hx (y := (⟨"corro/core/LimitLevels", "getOrAdd", "(J)Lcorro/core/Level;"⟩ : MethodName)) (z := (⟨"corro/core/LimitLevels", "getOrAdd", "(J)Lcorro/core/Level;"⟩ : MethodName)) hown (mvT hZ (wd_28 hw)) (mvT hZ (wd_29 hw)) (notFace_of_selects (args := #[]) (mvT hZ (wd_31 hw))) (mvT hZ (wd_31 hw)) (mvT hZ (wd_30 hw)) (by decide) (backOf (W := 0) (rmG_1ins0 l Z a0 hw [] oL zc z7 xa xl kk kl (own_key z7 x8_17) lv_51 T51.heap n0 Zp51 p51_0 p51_1 p51_2 p51_3 p51_4 p51_5 p51_6 p51_7 F5_7 F5_8 F5_9 F5_10 F5_11 F5_12 F5_13 htC0) hZ (wd_32 hw) (wd_7 hw) (by decide) (by decide)) q69a q69c (g := (mkF m 109 #[.val (.int p0), .val (.long qx), .second, .val (.long qy), .second, .val (.long qz), .second, .val (.int z7), .val (.long x8_17), .second, .val (.long zb), .second, .val (.long zc), .second, .val (.ref oL), .unset, .unset, .unset, .unset, .unset, .unset, .unset, .unset, .unset, .unset, .unset, .unset, .unset, .unset, .unset, .unset, .unset] [(.long zc), (.ref oL)])) rfl (by rw [hml]; rfl) (Steps.refl _) (argsL := [(.long zc)]) (rest := []) (lenOf pd_8 rfl) rfl (by show 2 * 0 + _ ≤ _; exact Nat.le_of_eq rfl) (hb hby at_109) (fun _ _ => ⟨rfl, hs68, (by decide : 4 + 1 ≤ _), (by decide : 134 + 2 ≤ _)⟩)
              dsimp only [Pt.U, Pt.locs, Pt.cells, Pt.slots] at X69 zl69 zy69 zz69 st69 hQ69
              subst zl69 zy69 zz69
              obtain ⟨lv_69, ns_lv_69, rfl, N69q, Kq69, p69_0, p69_1, p69_2, p69_3, p69_4, p69_5, p69_6, p69_7⟩ := hQ69
              have N69 := Fr.app N68 N69q
              refine own_on st69 ?_
              have ne_oL_lv_69 : oL ≠ lv_69 := Nat.ne_of_lt (Nat.lt_of_lt_of_le p51_0.lt ns_lv_69)
              have ne_xa_lv_69 : xa ≠ lv_69 := Nat.ne_of_lt (Nat.lt_of_lt_of_le p51_5.lt ns_lv_69)
              have ne_xl_lv_69 : xl ≠ lv_69 := Nat.ne_of_lt (Nat.lt_of_lt_of_le p51_6.lt ns_lv_69)
              have ne_lv_51_lv_69 : lv_51 ≠ lv_69 := Nat.ne_of_lt (Nat.lt_of_lt_of_le p51_7.lt ns_lv_69)
              have g_lv_69 : n0 ≤ lv_69 := Nat.le_trans Zp51 ns_lv_69
              have Zp69 : n0 ≤ T69.heap.size := Nat.le_trans Zp51 Kq69.1
              have O70 := O52.keep Kq69 (allS F5_7 (allS F5_8 (allS F5_9 all0)))
              show own_G p e below Φ T69 (mkF m 112 #[.val (.int p0), .val (.long qx), .second, .val (.long qy), .second, .val (.long qz), .second, .val (.int z7), .val (.long x8_17), .second, .val (.long zb), .second, .val (.long zc), .second, .val (.ref oL), .unset, .unset, .unset, .unset, .unset, .unset, .unset, .unset, .unset, .unset, .unset, .unset, .unset, .unset, .unset, .unset, .unset] [(.ref lv_69)])
              refine own_go (fun _ => XS.pop X69.here hx rfl (hb hby at_112) rfl rfl) ?_
              exact hH113_2 _ _ _ (X69.mono (by decide : 5 ≤ 6) (by decide : 136 ≤ 138)) rfl N69 Zp69 O70 (own_key z7 zc) (own_key z7 x8_17) p69_0 p69_1 p69_3 p69_4 p69_5 ⟨htC0, (Or.inr (rfl)), (Or.inr ((htB0.symm))), (Or.inl rfl), (Or.inr (Or.inr (rfl))), (Or.inl rfl)⟩
            · refine own_go (fun _ => XS.aload X68.here hx rfl (hb hby at_105) rfl rfl) ?_
              refine own_go (fun _ => XS.lload X68.here hx rfl (hb hby at_107) rfl) ?_
              show own_G p e below Φ T68 (mkF m 109 #[.val (.int p0), .val (.long qx), .second, .val (.long qy), .second, .val (.long qz), .second, .val (.int z7), .val (.long x8_17), .second, .val (.long zb), .second, .val (.long zc), .second, .val (.ref oL), .unset, .unset, .unset, .unset, .unset, .unset, .unset, .unset, .unset, .unset, .unset, .unset, .unset, .unset, .unset, .unset, .unset] [(.long zc), (.ref oL)])
              obtain ⟨cq71, kq71, q71a, q71b, q71c⟩ := isOf hZ hs68 p51_0
              obtain ⟨_, _, ⟨T71, zL71, zk71, zn71⟩, -, X71, ⟨Lc71, hQ71, zl71, zy71, zz71⟩, st71⟩ := X68.virtualBack hx (y := (⟨"corro/core/LimitLevels", "getOrAdd", "(J)Lcorro/core/Level;"⟩ : MethodName)) (z := (⟨"corro/core/LimitLevels", "getOrAdd", "(J)Lcorro/core/Level;"⟩ : MethodName)) hown (mvT hZ (wd_28 hw)) (mvT hZ (wd_29 hw)) (notFace_of_selects (args := #[]) (mvT hZ (wd_31 hw))) (mvT hZ (wd_31 hw)) (mvT hZ (wd_30 hw)) (by decide) (backOf (W := 0) (rmG_1fnd0 l Z a0 hw [] oL zc z7 xa xl kk kl (own_key z7 x8_17) lv_51 T51.heap n0 Zp51 p51_0 p51_1 p51_2 p51_3 p51_4 p51_5 p51_6 p51_7 F5_7 F5_8 F5_9 F5_10 F5_11 F5_12 F5_13 htC0) hZ (wd_32 hw) (wd_7 hw) (by decide) (by decide)) q71a q71c (g := (mkF m 109 #[.val (.int p0), .val (.long qx), .second, .val (.long qy), .second, .val (.long qz), .second, .val (.int z7), .val (.long x8_17), .second, .val (.long zb), .second, .val (.long zc), .second, .val (.ref oL), .unset, .unset, .unset, .unset, .unset, .unset, .unset, .unset, .unset, .unset, .unset, .unset, .unset, .unset, .unset, .unset, .unset] [(.long zc), (.ref oL)])) rfl (by rw [hml]; rfl) (Steps.refl _) (argsL := [(.long zc)]) (rest := []) (lenOf pd_8 rfl) rfl (by show 2 * 0 + _ ≤ _; exact Nat.le_of_eq rfl) (hb hby at_109) (fun _ _ => ⟨rfl, hs68, (by decide : 4 + 0 ≤ _), (by decide : 134 + 0 ≤ _)⟩)
              dsimp only [Pt.U, Pt.locs, Pt.cells, Pt.slots] at X71 zl71 zy71 zz71 st71 hQ71
              subst zl71 zy71 zz71
              obtain ⟨rfl, N71q, hs71⟩ := hQ71
              have N71 := Fr.app N68 N71q
              refine own_on st71 ?_
              show own_G p e below Φ T71 (mkF m 112 #[.val (.int p0), .val (.long qx), .second, .val (.long qy), .second, .val (.long qz), .second, .val (.int z7), .val (.long x8_17), .second, .val (.long zb), .second, .val (.long zc), .second, .val (.ref oL), .unset, .unset, .unset, .unset, .unset, .unset, .unset, .unset, .unset, .unset, .unset, .unset, .unset, .unset, .unset, .unset, .unset] [(.ref lv_51)])
              refine own_go (fun _ => XS.pop X71.here hx rfl (hb hby at_112) rfl rfl) ?_
              exact hH113_1 _ _ _ (X71.mono (by decide : 4 ≤ 6) (by decide : 134 ≤ 138)) hs71 N71 Zp51 O52 (own_key z7 x8_17) p51_0 p51_1 p51_3 p51_4 p51_5 ⟨rfl, htB0.symm, htC0.symm⟩
            · refine own_go (fun _ => XS.aload X68.here hx rfl (hb hby at_105) rfl rfl) ?_
              refine own_go (fun _ => XS.lload X68.here hx rfl (hb hby at_107) rfl) ?_
              show own_G p e below Φ T68 (mkF m 109 #[.val (.int p0), .val (.long qx), .second, .val (.long qy), .second, .val (.long qz), .second, .val (.int z7), .val (.long x8_17), .second, .val (.long zb), .second, .val (.long zc), .second, .val (.ref oL), .unset, .unset, .unset, .unset, .unset, .unset, .unset, .unset, .unset, .unset, .unset, .unset, .unset, .unset, .unset, .unset, .unset] [(.long zc), (.ref oL)])
              obtain ⟨cq72, kq72, q72a, q72b, q72c⟩ := isOf hZ hs68 p51_0
              obtain ⟨_, _, ⟨T72, zL72, zk72, zn72⟩, -, X72, ⟨Lc72, hQ72, zl72, zy72, zz72⟩, st72⟩ := X68.virtualBack hx (y := (⟨"corro/core/LimitLevels", "getOrAdd", "(J)Lcorro/core/Level;"⟩ : MethodName)) (z := (⟨"corro/core/LimitLevels", "getOrAdd", "(J)Lcorro/core/Level;"⟩ : MethodName)) hown (mvT hZ (wd_28 hw)) (mvT hZ (wd_29 hw)) (notFace_of_selects (args := #[]) (mvT hZ (wd_31 hw))) (mvT hZ (wd_31 hw)) (mvT hZ (wd_30 hw)) (by decide) (backOf (W := 0) (rmG_1ins1 l Z a0 hw [] oL zc z7 xa xl kk kl (own_key z7 x8_17) lv_51 T51.heap n0 Zp51 p51_0 p51_1 p51_2 p51_3 p51_4 p51_5 p51_6 p51_7 F5_7 F5_8 F5_9 F5_10 F5_11 F5_12 F5_13 htC0) hZ (wd_32 hw) (wd_7 hw) (by decide) (by decide)) q72a q72c (g := (mkF m 109 #[.val (.int p0), .val (.long qx), .second, .val (.long qy), .second, .val (.long qz), .second, .val (.int z7), .val (.long x8_17), .second, .val (.long zb), .second, .val (.long zc), .second, .val (.ref oL), .unset, .unset, .unset, .unset, .unset, .unset, .unset, .unset, .unset, .unset, .unset, .unset, .unset, .unset, .unset, .unset, .unset] [(.long zc), (.ref oL)])) rfl (by rw [hml]; rfl) (Steps.refl _) (argsL := [(.long zc)]) (rest := []) (lenOf pd_8 rfl) rfl (by show 2 * 0 + _ ≤ _; exact Nat.le_of_eq rfl) (hb hby at_109) (fun _ _ => ⟨rfl, hs68, (by decide : 4 + 1 ≤ _), (by decide : 134 + 2 ≤ _)⟩)
              dsimp only [Pt.U, Pt.locs, Pt.cells, Pt.slots] at X72 zl72 zy72 zz72 st72 hQ72
              subst zl72 zy72 zz72
              obtain ⟨lv_72, ns_lv_72, rfl, N72q, Kq72, p72_0, p72_1, p72_2, p72_3, p72_4, p72_5, p72_6, p72_7⟩ := hQ72
              have N72 := Fr.app N68 N72q
              refine own_on st72 ?_
              have ne_oL_lv_72 : oL ≠ lv_72 := Nat.ne_of_lt (Nat.lt_of_lt_of_le p51_0.lt ns_lv_72)
              have ne_xa_lv_72 : xa ≠ lv_72 := Nat.ne_of_lt (Nat.lt_of_lt_of_le p51_5.lt ns_lv_72)
              have ne_xl_lv_72 : xl ≠ lv_72 := Nat.ne_of_lt (Nat.lt_of_lt_of_le p51_6.lt ns_lv_72)
              have ne_lv_51_lv_72 : lv_51 ≠ lv_72 := Nat.ne_of_lt (Nat.lt_of_lt_of_le p51_7.lt ns_lv_72)
              have g_lv_72 : n0 ≤ lv_72 := Nat.le_trans Zp51 ns_lv_72
              have Zp72 : n0 ≤ T72.heap.size := Nat.le_trans Zp51 Kq72.1
              have O73 := O52.keep Kq72 (allS F5_7 (allS F5_8 (allS F5_9 all0)))
              show own_G p e below Φ T72 (mkF m 112 #[.val (.int p0), .val (.long qx), .second, .val (.long qy), .second, .val (.long qz), .second, .val (.int z7), .val (.long x8_17), .second, .val (.long zb), .second, .val (.long zc), .second, .val (.ref oL), .unset, .unset, .unset, .unset, .unset, .unset, .unset, .unset, .unset, .unset, .unset, .unset, .unset, .unset, .unset, .unset, .unset] [(.ref lv_72)])
              refine own_go (fun _ => XS.pop X72.here hx rfl (hb hby at_112) rfl rfl) ?_
              exact hH113_2 _ _ _ (X72.mono (by decide : 5 ≤ 6) (by decide : 136 ≤ 138)) rfl N72 Zp72 O73 (own_key z7 x8_17) (own_key z7 zc) p72_0 p72_1 p72_3 p72_4 p72_5 ⟨htC0, (Or.inl rfl), (Or.inl (htB0.symm)), (Or.inr (rfl)), (Or.inl rfl), (Or.inr (Or.inr (rfl)))⟩
          · refine own_go (fun _ => XS.aload X51.here hx rfl (hb hby at_97) rfl rfl) ?_
            refine own_go (fun _ => XS.lload X51.here hx rfl (hb hby at_99) rfl) ?_
            show own_G p e below Φ T51 (mkF m 101 #[.val (.int p0), .val (.long qx), .second, .val (.long qy), .second, .val (.long qz), .second, .val (.int z7), .val (.long x8_17), .second, .val (.long zb), .second, .val (.long zc), .second, .val (.ref oL), .unset, .unset, .unset, .unset, .unset, .unset, .unset, .unset, .unset, .unset, .unset, .unset, .unset, .unset, .unset, .unset, .unset] [(.long zb), (.ref oL)])
            obtain ⟨cq74, kq74, q74a, q74b, q74c⟩ := isOf hZ rfl p51_0
            obtain ⟨_, _, ⟨T74, zL74, zk74, zn74⟩, -, X74, ⟨Lc74, hQ74, zl74, zy74, zz74⟩, st74⟩ := X51.virtualBack hx (y := (⟨"corro/core/LimitLevels", "getOrAdd", "(J)Lcorro/core/Level;"⟩ : MethodName)) (z := (⟨"corro/core/LimitLevels", "getOrAdd", "(J)Lcorro/core/Level;"⟩ : MethodName)) hown (mvT hZ (wd_28 hw)) (mvT hZ (wd_29 hw)) (notFace_of_selects (args := #[]) (mvT hZ (wd_31 hw))) (mvT hZ (wd_31 hw)) (mvT hZ (wd_30 hw)) (by decide) (backOf (W := 0) (rmG_1ins1 l Z a0 hw [] oL zb z7 xa xl kk kl (own_key z7 x8_17) lv_51 T51.heap n0 Zp51 p51_0 p51_1 p51_2 p51_3 p51_4 p51_5 p51_6 p51_7 F5_7 F5_8 F5_9 F5_10 F5_11 F5_12 F5_13 htB0) hZ (wd_32 hw) (wd_7 hw) (by decide) (by decide)) q74a q74c (g := (mkF m 101 #[.val (.int p0), .val (.long qx), .second, .val (.long qy), .second, .val (.long qz), .second, .val (.int z7), .val (.long x8_17), .second, .val (.long zb), .second, .val (.long zc), .second, .val (.ref oL), .unset, .unset, .unset, .unset, .unset, .unset, .unset, .unset, .unset, .unset, .unset, .unset, .unset, .unset, .unset, .unset, .unset] [(.long zb), (.ref oL)])) rfl (by rw [hml]; rfl) (Steps.refl _) (argsL := [(.long zb)]) (rest := []) (lenOf pd_8 rfl) rfl (by show 2 * 0 + _ ≤ _; exact Nat.le_of_eq rfl) (hb hby at_101) (fun _ _ => ⟨rfl, rfl, (by decide : 4 + 1 ≤ _), (by decide : 134 + 2 ≤ _)⟩)
            dsimp only [Pt.U, Pt.locs, Pt.cells, Pt.slots] at X74 zl74 zy74 zz74 st74 hQ74
            subst zl74 zy74 zz74
            obtain ⟨lv_74, ns_lv_74, rfl, N74q, Kq74, p74_0, p74_1, p74_2, p74_3, p74_4, p74_5, p74_6, p74_7⟩ := hQ74
            have N74 := Fr.app N51 N74q
            refine own_on st74 ?_
            have ne_oL_lv_74 : oL ≠ lv_74 := Nat.ne_of_lt (Nat.lt_of_lt_of_le p51_0.lt ns_lv_74)
            have ne_xa_lv_74 : xa ≠ lv_74 := Nat.ne_of_lt (Nat.lt_of_lt_of_le p51_5.lt ns_lv_74)
            have ne_xl_lv_74 : xl ≠ lv_74 := Nat.ne_of_lt (Nat.lt_of_lt_of_le p51_6.lt ns_lv_74)
            have ne_lv_51_lv_74 : lv_51 ≠ lv_74 := Nat.ne_of_lt (Nat.lt_of_lt_of_le p51_7.lt ns_lv_74)
            have g_lv_74 : n0 ≤ lv_74 := Nat.le_trans Zp51 ns_lv_74
            have Zp74 : n0 ≤ T74.heap.size := Nat.le_trans Zp51 Kq74.1
            have O75 := O52.keep Kq74 (allS F5_7 (allS F5_8 (allS F5_9 all0)))
            show own_G p e below Φ T74 (mkF m 104 #[.val (.int p0), .val (.long qx), .second, .val (.long qy), .second, .val (.long qz), .second, .val (.int z7), .val (.long x8_17), .second, .val (.long zb), .second, .val (.long zc), .second, .val (.ref oL), .unset, .unset, .unset, .unset, .unset, .unset, .unset, .unset, .unset, .unset, .unset, .unset, .unset, .unset, .unset, .unset, .unset] [(.ref lv_74)])
            refine own_go (fun _ => XS.pop X74.here hx rfl (hb hby at_104) rfl rfl) ?_
            show own_G p e below Φ T74 (mkF m 105 #[.val (.int p0), .val (.long qx), .second, .val (.long qy), .second, .val (.long qz), .second, .val (.int z7), .val (.long x8_17), .second, .val (.long zb), .second, .val (.long zc), .second, .val (.ref oL), .unset, .unset, .unset, .unset, .unset, .unset, .unset, .unset, .unset, .unset, .unset, .unset, .unset, .unset, .unset, .unset, .unset] [])
            rcases own_tri (own_key z7 x8_17) (own_key z7 zc) with htC0 | htC0 | htC0
            · refine own_go (fun _ => XS.aload X74.here hx rfl (hb hby at_105) rfl rfl) ?_
              refine own_go (fun _ => XS.lload X74.here hx rfl (hb hby at_107) rfl) ?_
              show own_G p e below Φ T74 (mkF m 109 #[.val (.int p0), .val (.long qx), .second, .val (.long qy), .second, .val (.long qz), .second, .val (.int z7), .val (.long x8_17), .second, .val (.long zb), .second, .val (.long zc), .second, .val (.ref oL), .unset, .unset, .unset, .unset, .unset, .unset, .unset, .unset, .unset, .unset, .unset, .unset, .unset, .unset, .unset, .unset, .unset] [(.long zc), (.ref oL)])
              have f76 : Exa Z T74.heap lv_51 "corro/core/Level" := p51_7.keep Kq74
              obtain ⟨cq77, kq77, q77a, q77b, q77c⟩ := isOf hZ rfl p74_0
              obtain ⟨_, _, ⟨T77, zL77, zk77, zn77⟩, -, X77, ⟨Lc77, hQ77, zl77, zy77, zz77⟩, st77⟩ := X74.virtualBack hx (y := (⟨"corro/core/LimitLevels", "getOrAdd", "(J)Lcorro/core/Level;"⟩ : MethodName)) (z := (⟨"corro/core/LimitLevels", "getOrAdd", "(J)Lcorro/core/Level;"⟩ : MethodName)) hown (mvT hZ (wd_28 hw)) (mvT hZ (wd_29 hw)) (notFace_of_selects (args := #[]) (mvT hZ (wd_31 hw))) (mvT hZ (wd_31 hw)) (mvT hZ (wd_30 hw)) (by decide) (backOf (W := 0) (rmG_2ins0 l Z a0 hw [] oL zc z7 xa xl kk kl (own_key z7 x8_17) (own_key z7 zb) lv_51 lv_74 T74.heap n0 Zp74 p74_0 p74_1 p74_2 p74_3 p74_4 p74_5 p74_6 f76 p74_7 F5_7 F5_8 F5_9 F5_10 F5_11 F5_12 F5_13 htC0) hZ (wd_32 hw) (wd_7 hw) (by decide) (by decide)) q77a q77c (g := (mkF m 109 #[.val (.int p0), .val (.long qx), .second, .val (.long qy), .second, .val (.long qz), .second, .val (.int z7), .val (.long x8_17), .second, .val (.long zb), .second, .val (.long zc), .second, .val (.ref oL), .unset, .unset, .unset, .unset, .unset, .unset, .unset, .unset, .unset, .unset, .unset, .unset, .unset, .unset, .unset, .unset, .unset] [(.long zc), (.ref oL)])) rfl (by rw [hml]; rfl) (Steps.refl _) (argsL := [(.long zc)]) (rest := []) (lenOf pd_8 rfl) rfl (by show 2 * 0 + _ ≤ _; exact Nat.le_of_eq rfl) (hb hby at_109) (fun _ _ => ⟨rfl, rfl, (by decide : 5 + 1 ≤ _), (by decide : 136 + 2 ≤ _)⟩)
              dsimp only [Pt.U, Pt.locs, Pt.cells, Pt.slots] at X77 zl77 zy77 zz77 st77 hQ77
              subst zl77 zy77 zz77
              obtain ⟨lv_77, ns_lv_77, rfl, N77q, Kq77, p77_0, p77_1, p77_2, p77_3, p77_4, p77_5, p77_6, p77_7⟩ := hQ77
              have N77 := Fr.app N74 N77q
              refine own_on st77 ?_
              have ne_oL_lv_77 : oL ≠ lv_77 := Nat.ne_of_lt (Nat.lt_of_lt_of_le p74_0.lt ns_lv_77)
              have ne_xa_lv_77 : xa ≠ lv_77 := Nat.ne_of_lt (Nat.lt_of_lt_of_le p74_5.lt ns_lv_77)
              have ne_xl_lv_77 : xl ≠ lv_77 := Nat.ne_of_lt (Nat.lt_of_lt_of_le p74_6.lt ns_lv_77)
              have ne_lv_51_lv_77 : lv_51 ≠ lv_77 := Nat.ne_of_lt (Nat.lt_of_lt_of_le f76.lt ns_lv_77)
              have ne_lv_74_lv_77 : lv_74 ≠ lv_77 := Nat.ne_of_lt (Nat.lt_of_lt_of_le p74_7.lt ns_lv_77)
              have g_lv_77 : n0 ≤ lv_77 := Nat.le_trans Zp74 ns_lv_77
              have Zp77 : n0 ≤ T77.heap.size := Nat.le_trans Zp74 Kq77.1
              have O78 := O75.keep Kq77 (allS F5_7 (allS F5_8 (allS F5_9 all0)))
              show own_G p e below Φ T77 (mkF m 112 #[.val (.int p0), .val (.long qx), .second, .val (.long qy), .second, .val (.long qz), .second, .val (.int z7), .val (.long x8_17), .second, .val (.long zb), .second, .val (.long zc), .second, .val (.ref oL), .unset, .unset, .unset, .unset, .unset, .unset, .unset, .unset, .unset, .unset, .unset, .unset, .unset, .unset, .unset, .unset, .unset] [(.ref lv_77)])
              refine own_go (fun _ => XS.pop X77.here hx rfl (hb hby at_112) rfl rfl) ?_
              exact hH113_3 _ _ _ (X77.mono (by decide : 6 ≤ 6) (by decide : 138 ≤ 138)) rfl N77 Zp77 O78 (own_key z7 zc) (own_key z7 x8_17) (own_key z7 zb) p77_0 p77_1 p77_3 p77_4 p77_5 ⟨htC0, htB0, (Or.inr (Or.inl rfl)), (Or.inr (Or.inr (rfl))), (Or.inl rfl), (Or.inr (Or.inr (rfl))), (Or.inl rfl), (Or.inr (Or.inl rfl))⟩
            · refine own_go (fun _ => XS.aload X74.here hx rfl (hb hby at_105) rfl rfl) ?_
              refine own_go (fun _ => XS.lload X74.here hx rfl (hb hby at_107) rfl) ?_
              show own_G p e below Φ T74 (mkF m 109 #[.val (.int p0), .val (.long qx), .second, .val (.long qy), .second, .val (.long qz), .second, .val (.int z7), .val (.long x8_17), .second, .val (.long zb), .second, .val (.long zc), .second, .val (.ref oL), .unset, .unset, .unset, .unset, .unset, .unset, .unset, .unset, .unset, .unset, .unset, .unset, .unset, .unset, .unset, .unset, .unset] [(.long zc), (.ref oL)])
              have f79 : Exa Z T74.heap lv_51 "corro/core/Level" := p51_7.keep Kq74
              obtain ⟨cq80, kq80, q80a, q80b, q80c⟩ := isOf hZ rfl p74_0
              obtain ⟨_, _, ⟨T80, zL80, zk80, zn80⟩, -, X80, ⟨Lc80, hQ80, zl80, zy80, zz80⟩, st80⟩ := X74.virtualBack hx (y := (⟨"corro/core/LimitLevels", "getOrAdd", "(J)Lcorro/core/Level;"⟩ : MethodName)) (z := (⟨"corro/core/LimitLevels", "getOrAdd", "(J)Lcorro/core/Level;"⟩ : MethodName)) hown (mvT hZ (wd_28 hw)) (mvT hZ (wd_29 hw)) (notFace_of_selects (args := #[]) (mvT hZ (wd_31 hw))) (mvT hZ (wd_31 hw)) (mvT hZ (wd_30 hw)) (by decide) (backOf (W := 0) (rmG_2fnd0 l Z a0 hw [] oL zc z7 xa xl kk kl (own_key z7 x8_17) (own_key z7 zb) lv_51 lv_74 T74.heap n0 Zp74 p74_0 p74_1 p74_2 p74_3 p74_4 p74_5 p74_6 f79 p74_7 F5_7 F5_8 F5_9 F5_10 F5_11 F5_12 F5_13 htC0) hZ (wd_32 hw) (wd_7 hw) (by decide) (by decide)) q80a q80c (g := (mkF m 109 #[.val (.int p0), .val (.long qx), .second, .val (.long qy), .second, .val (.long qz), .second, .val (.int z7), .val (.long x8_17), .second, .val (.long zb), .second, .val (.long zc), .second, .val (.ref oL), .unset, .unset, .unset, .unset, .unset, .unset, .unset, .unset, .unset, .unset, .unset, .unset, .unset, .unset, .unset, .unset, .unset] [(.long zc), (.ref oL)])) rfl (by rw [hml]; rfl) (Steps.refl _) (argsL := [(.long zc)]) (rest := []) (lenOf pd_8 rfl) rfl (by show 2 * 0 + _ ≤ _; exact Nat.le_of_eq rfl) (hb hby at_109) (fun _ _ => ⟨rfl, rfl, (by decide : 5 + 0 ≤ _), (by decide : 136 + 0 ≤ _)⟩)
              dsimp only [Pt.U, Pt.locs, Pt.cells, Pt.slots] at X80 zl80 zy80 zz80 st80 hQ80
              subst zl80 zy80 zz80
              obtain ⟨rfl, N80q, hs80⟩ := hQ80
              have N80 := Fr.app N74 N80q
              refine own_on st80 ?_
              show own_G p e below Φ T80 (mkF m 112 #[.val (.int p0), .val (.long qx), .second, .val (.long qy), .second, .val (.long qz), .second, .val (.int z7), .val (.long x8_17), .second, .val (.long zb), .second, .val (.long zc), .second, .val (.ref oL), .unset, .unset, .unset, .unset, .unset, .unset, .unset, .unset, .unset, .unset, .unset, .unset, .unset, .unset, .unset, .unset, .unset] [(.ref lv_51)])
              refine own_go (fun _ => XS.pop X80.here hx rfl (hb hby at_112) rfl rfl) ?_
              exact hH113_2 _ _ _ (X80.mono (by decide : 5 ≤ 6) (by decide : 136 ≤ 138)) hs80 N80 Zp74 O75 (own_key z7 x8_17) (own_key z7 zb) p74_0 p74_1 p74_3 p74_4 p74_5 ⟨htB0, (Or.inl rfl), (Or.inr (rfl)), (Or.inl (htC0.symm)), (Or.inl rfl), (Or.inr (Or.inl rfl))⟩
            · rcases own_tri (own_key z7 zb) (own_key z7 zc) with htC1 | htC1 | htC1
              · refine own_go (fun _ => XS.aload X74.here hx rfl (hb hby at_105) rfl rfl) ?_
                refine own_go (fun _ => XS.lload X74.here hx rfl (hb hby at_107) rfl) ?_
                show own_G p e below Φ T74 (mkF m 109 #[.val (.int p0), .val (.long qx), .second, .val (.long qy), .second, .val (.long qz), .second, .val (.int z7), .val (.long x8_17), .second, .val (.long zb), .second, .val (.long zc), .second, .val (.ref oL), .unset, .unset, .unset, .unset, .unset, .unset, .unset, .unset, .unset, .unset, .unset, .unset, .unset, .unset, .unset, .unset, .unset] [(.long zc), (.ref oL)])
                have f81 : Exa Z T74.heap lv_51 "corro/core/Level" := p51_7.keep Kq74
                obtain ⟨cq82, kq82, q82a, q82b, q82c⟩ := isOf hZ rfl p74_0
                obtain ⟨_, _, ⟨T82, zL82, zk82, zn82⟩, -, X82, ⟨Lc82, hQ82, zl82, zy82, zz82⟩, st82⟩ := X74.virtualBack hx (y := (⟨"corro/core/LimitLevels", "getOrAdd", "(J)Lcorro/core/Level;"⟩ : MethodName)) (z := (⟨"corro/core/LimitLevels", "getOrAdd", "(J)Lcorro/core/Level;"⟩ : MethodName)) hown (mvT hZ (wd_28 hw)) (mvT hZ (wd_29 hw)) (notFace_of_selects (args := #[]) (mvT hZ (wd_31 hw))) (mvT hZ (wd_31 hw)) (mvT hZ (wd_30 hw)) (by decide) (backOf (W := 0) (rmG_2ins1 l Z a0 hw [] oL zc z7 xa xl kk kl (own_key z7 x8_17) (own_key z7 zb) lv_51 lv_74 T74.heap n0 Zp74 p74_0 p74_1 p74_2 p74_3 p74_4 p74_5 p74_6 f81 p74_7 F5_7 F5_8 F5_9 F5_10 F5_11 F5_12 F5_13 htC0 htC1) hZ (wd_32 hw) (wd_7 hw) (by decide) (by decide)) q82a q82c (g := (mkF m 109 #[.val (.int p0), .val (.long qx), .second, .val (.long qy), .second, .val (.long qz), .second, .val (.int z7), .val (.long x8_17), .second, .val (.long zb), .second, .val (.long zc), .second, .val (.ref oL), .unset, .unset, .unset, .unset, .unset, .unset, .unset, .unset, .unset, .unset, .unset, .unset, .unset, .unset, .unset, .unset, .unset] [(.long zc), (.ref oL)])) rfl (by rw [hml]; rfl) (Steps.refl _) (argsL := [(.long zc)]) (rest := []) (lenOf pd_8 rfl) rfl (by show 2 * 0 + _ ≤ _; exact Nat.le_of_eq rfl) (hb hby at_109) (fun _ _ => ⟨rfl, rfl, (by decide : 5 + 1 ≤ _), (by decide : 136 + 2 ≤ _)⟩)
                dsimp only [Pt.U, Pt.locs, Pt.cells, Pt.slots] at X82 zl82 zy82 zz82 st82 hQ82
                subst zl82 zy82 zz82
                obtain ⟨lv_82, ns_lv_82, rfl, N82q, Kq82, p82_0, p82_1, p82_2, p82_3, p82_4, p82_5, p82_6, p82_7⟩ := hQ82
                have N82 := Fr.app N74 N82q
                refine own_on st82 ?_
                have ne_oL_lv_82 : oL ≠ lv_82 := Nat.ne_of_lt (Nat.lt_of_lt_of_le p74_0.lt ns_lv_82)
                have ne_xa_lv_82 : xa ≠ lv_82 := Nat.ne_of_lt (Nat.lt_of_lt_of_le p74_5.lt ns_lv_82)
                have ne_xl_lv_82 : xl ≠ lv_82 := Nat.ne_of_lt (Nat.lt_of_lt_of_le p74_6.lt ns_lv_82)
                have ne_lv_51_lv_82 : lv_51 ≠ lv_82 := Nat.ne_of_lt (Nat.lt_of_lt_of_le f81.lt ns_lv_82)
                have ne_lv_74_lv_82 : lv_74 ≠ lv_82 := Nat.ne_of_lt (Nat.lt_of_lt_of_le p74_7.lt ns_lv_82)
                have g_lv_82 : n0 ≤ lv_82 := Nat.le_trans Zp74 ns_lv_82
                have Zp82 : n0 ≤ T82.heap.size := Nat.le_trans Zp74 Kq82.1
                have O83 := O75.keep Kq82 (allS F5_7 (allS F5_8 (allS F5_9 all0)))
                show own_G p e below Φ T82 (mkF m 112 #[.val (.int p0), .val (.long qx), .second, .val (.long qy), .second, .val (.long qz), .second, .val (.int z7), .val (.long x8_17), .second, .val (.long zb), .second, .val (.long zc), .second, .val (.ref oL), .unset, .unset, .unset, .unset, .unset, .unset, .unset, .unset, .unset, .unset, .unset, .unset, .unset, .unset, .unset, .unset, .unset] [(.ref lv_82)])
                refine own_go (fun _ => XS.pop X82.here hx rfl (hb hby at_112) rfl rfl) ?_
                exact hH113_3 _ _ _ (X82.mono (by decide : 6 ≤ 6) (by decide : 138 ≤ 138)) rfl N82 Zp82 O83 (own_key z7 x8_17) (own_key z7 zc) (own_key z7 zb) p82_0 p82_1 p82_3 p82_4 p82_5 ⟨htC0, htC1, (Or.inl rfl), (Or.inr (Or.inr (rfl))), (Or.inr (Or.inl rfl)), (Or.inl rfl), (Or.inr (Or.inr (rfl))), (Or.inr (Or.inl rfl))⟩
              · refine own_go (fun _ => XS.aload X74.here hx rfl (hb hby at_105) rfl rfl) ?_
                refine own_go (fun _ => XS.lload X74.here hx rfl (hb hby at_107) rfl) ?_
                show own_G p e below Φ T74 (mkF m 109 #[.val (.int p0), .val (.long qx), .second, .val (.long qy), .second, .val (.long qz), .second, .val (.int z7), .val (.long x8_17), .second, .val (.long zb), .second, .val (.long zc), .second, .val (.ref oL), .unset, .unset, .unset, .unset, .unset, .unset, .unset, .unset, .unset, .unset, .unset, .unset, .unset, .unset, .unset, .unset, .unset] [(.long zc), (.ref oL)])
                have f84 : Exa Z T74.heap lv_51 "corro/core/Level" := p51_7.keep Kq74
                obtain ⟨cq85, kq85, q85a, q85b, q85c⟩ := isOf hZ rfl p74_0
                obtain ⟨_, _, ⟨T85, zL85, zk85, zn85⟩, -, X85, ⟨Lc85, hQ85, zl85, zy85, zz85⟩, st85⟩ := X74.virtualBack hx (y := (⟨"corro/core/LimitLevels", "getOrAdd", "(J)Lcorro/core/Level;"⟩ : MethodName)) (z := (⟨"corro/core/LimitLevels", "getOrAdd", "(J)Lcorro/core/Level;"⟩ : MethodName)) hown (mvT hZ (wd_28 hw)) (mvT hZ (wd_29 hw)) (notFace_of_selects (args := #[]) (mvT hZ (wd_31 hw))) (mvT hZ (wd_31 hw)) (mvT hZ (wd_30 hw)) (by decide) (backOf (W := 0) (rmG_2fnd1 l Z a0 hw [] oL zc z7 xa xl kk kl (own_key z7 x8_17) (own_key z7 zb) lv_51 lv_74 T74.heap n0 Zp74 p74_0 p74_1 p74_2 p74_3 p74_4 p74_5 p74_6 f84 p74_7 F5_7 F5_8 F5_9 F5_10 F5_11 F5_12 F5_13 htC0 htC1) hZ (wd_32 hw) (wd_7 hw) (by decide) (by decide)) q85a q85c (g := (mkF m 109 #[.val (.int p0), .val (.long qx), .second, .val (.long qy), .second, .val (.long qz), .second, .val (.int z7), .val (.long x8_17), .second, .val (.long zb), .second, .val (.long zc), .second, .val (.ref oL), .unset, .unset, .unset, .unset, .unset, .unset, .unset, .unset, .unset, .unset, .unset, .unset, .unset, .unset, .unset, .unset, .unset] [(.long zc), (.ref oL)])) rfl (by rw [hml]; rfl) (Steps.refl _) (argsL := [(.long zc)]) (rest := []) (lenOf pd_8 rfl) rfl (by show 2 * 0 + _ ≤ _; exact Nat.le_of_eq rfl) (hb hby at_109) (fun _ _ => ⟨rfl, rfl, (by decide : 5 + 0 ≤ _), (by decide : 136 + 0 ≤ _)⟩)
                dsimp only [Pt.U, Pt.locs, Pt.cells, Pt.slots] at X85 zl85 zy85 zz85 st85 hQ85
                subst zl85 zy85 zz85
                obtain ⟨rfl, N85q, hs85⟩ := hQ85
                have N85 := Fr.app N74 N85q
                refine own_on st85 ?_
                show own_G p e below Φ T85 (mkF m 112 #[.val (.int p0), .val (.long qx), .second, .val (.long qy), .second, .val (.long qz), .second, .val (.int z7), .val (.long x8_17), .second, .val (.long zb), .second, .val (.long zc), .second, .val (.ref oL), .unset, .unset, .unset, .unset, .unset, .unset, .unset, .unset, .unset, .unset, .unset, .unset, .unset, .unset, .unset, .unset, .unset] [(.ref lv_74)])
                refine own_go (fun _ => XS.pop X85.here hx rfl (hb hby at_112) rfl rfl) ?_
                exact hH113_2 _ _ _ (X85.mono (by decide : 5 ≤ 6) (by decide : 136 ≤ 138)) hs85 N85 Zp74 O75 (own_key z7 x8_17) (own_key z7 zb) p74_0 p74_1 p74_3 p74_4 p74_5 ⟨htB0, (Or.inl rfl), (Or.inr (rfl)), (Or.inr ((htC1.symm))), (Or.inl rfl), (Or.inr (Or.inl rfl))⟩
              · refine own_go (fun _ => XS.aload X74.here hx rfl (hb hby at_105) rfl rfl) ?_
                refine own_go (fun _ => XS.lload X74.here hx rfl (hb hby at_107) rfl) ?_
                show own_G p e below Φ T74 (mkF m 109 #[.val (.int p0), .val (.long qx), .second, .val (.long qy), .second, .val (.long qz), .second, .val (.int z7), .val (.long x8_17), .second, .val (.long zb), .second, .val (.long zc), .second, .val (.ref oL), .unset, .unset, .unset, .unset, .unset, .unset, .unset, .unset, .unset, .unset, .unset, .unset, .unset, .unset, .unset, .unset, .unset] [(.long zc), (.ref oL)])
                have f86 : Exa Z T74.heap lv_51 "corro/core/Level" := p51_7.keep Kq74
                obtain ⟨cq87, kq87, q87a, q87b, q87c⟩ := isOf hZ rfl p74_0
                obtain ⟨_, _, ⟨T87, zL87, zk87, zn87⟩, -, X87, ⟨Lc87, hQ87, zl87, zy87, zz87⟩, st87⟩ := X74.virtualBack hx (y := (⟨"corro/core/LimitLevels", "getOrAdd", "(J)Lcorro/core/Level;"⟩ : MethodName)) (z := (⟨"corro/core/LimitLevels", "getOrAdd", "(J)Lcorro/core/Level;"⟩ : MethodName)) hown (mvT hZ (wd_28 hw)) (mvT hZ (wd_29 hw)) (notFace_of_selects (args := #[]) (mvT hZ (wd_31 hw))) (mvT hZ (wd_31 hw)) (mvT hZ (wd_30 hw)) (by decide) (backOf (W := 0) (rmG_2ins2 l Z a0 hw [] oL zc z7 xa xl kk kl (own_key z7 x8_17) (own_key z7 zb) lv_51 lv_74 T74.heap n0 Zp74 p74_0 p74_1 p74_2 p74_3 p74_4 p74_5 p74_6 f86 p74_7 F5_7 F5_8 F5_9 F5_10 F5_11 F5_12 F5_13 htC0 htC1) hZ (wd_32 hw) (wd_7 hw) (by decide) (by decide)) q87a q87c (g := (mkF m 109 #[.val (.int p0), .val (.long qx), .second, .val (.long qy), .second, .val (.long qz), .second, .val (.int z7), .val (.long x8_17), .second, .val (.long zb), .second, .val (.long zc), .second, .val (.ref oL), .unset, .unset, .unset, .unset, .unset, .unset, .unset, .unset, .unset, .unset, .unset, .unset, .unset, .unset, .unset, .unset, .unset] [(.long zc), (.ref oL)])) rfl (by rw [hml]; rfl) (Steps.refl _) (argsL := [(.long zc)]) (rest := []) (lenOf pd_8 rfl) rfl (by show 2 * 0 + _ ≤ _; exact Nat.le_of_eq rfl) (hb hby at_109) (fun _ _ => ⟨rfl, rfl, (by decide : 5 + 1 ≤ _), (by decide : 136 + 2 ≤ _)⟩)
                dsimp only [Pt.U, Pt.locs, Pt.cells, Pt.slots] at X87 zl87 zy87 zz87 st87 hQ87
                subst zl87 zy87 zz87
                obtain ⟨lv_87, ns_lv_87, rfl, N87q, Kq87, p87_0, p87_1, p87_2, p87_3, p87_4, p87_5, p87_6, p87_7⟩ := hQ87
                have N87 := Fr.app N74 N87q
                refine own_on st87 ?_
                have ne_oL_lv_87 : oL ≠ lv_87 := Nat.ne_of_lt (Nat.lt_of_lt_of_le p74_0.lt ns_lv_87)
                have ne_xa_lv_87 : xa ≠ lv_87 := Nat.ne_of_lt (Nat.lt_of_lt_of_le p74_5.lt ns_lv_87)
                have ne_xl_lv_87 : xl ≠ lv_87 := Nat.ne_of_lt (Nat.lt_of_lt_of_le p74_6.lt ns_lv_87)
                have ne_lv_51_lv_87 : lv_51 ≠ lv_87 := Nat.ne_of_lt (Nat.lt_of_lt_of_le f86.lt ns_lv_87)
                have ne_lv_74_lv_87 : lv_74 ≠ lv_87 := Nat.ne_of_lt (Nat.lt_of_lt_of_le p74_7.lt ns_lv_87)
                have g_lv_87 : n0 ≤ lv_87 := Nat.le_trans Zp74 ns_lv_87
                have Zp87 : n0 ≤ T87.heap.size := Nat.le_trans Zp74 Kq87.1
                have O88 := O75.keep Kq87 (allS F5_7 (allS F5_8 (allS F5_9 all0)))
                show own_G p e below Φ T87 (mkF m 112 #[.val (.int p0), .val (.long qx), .second, .val (.long qy), .second, .val (.long qz), .second, .val (.int z7), .val (.long x8_17), .second, .val (.long zb), .second, .val (.long zc), .second, .val (.ref oL), .unset, .unset, .unset, .unset, .unset, .unset, .unset, .unset, .unset, .unset, .unset, .unset, .unset, .unset, .unset, .unset, .unset] [(.ref lv_87)])
                refine own_go (fun _ => XS.pop X87.here hx rfl (hb hby at_112) rfl rfl) ?_
                exact hH113_3 _ _ _ (X87.mono (by decide : 6 ≤ 6) (by decide : 138 ≤ 138)) rfl N87 Zp87 O88 (own_key z7 x8_17) (own_key z7 zb) (own_key z7 zc) p87_0 p87_1 p87_3 p87_4 p87_5 ⟨htB0, htC1, (Or.inl rfl), (Or.inr (Or.inl rfl)), (Or.inr (Or.inr (rfl))), (Or.inl rfl), (Or.inr (Or.inl rfl)), (Or.inr (Or.inr (rfl)))⟩
        show own_G p e below Φ T4 (mkF m 66 #[.val (.int p0), .val (.long qx), .second, .val (.long qy), .second, .val (.long qz), .second, .val (.int z7), .val (.long x8_17), .second, .val (.long zb), .second, .val (.long zc), .second, .unset, .unset, .unset, .unset, .unset, .unset, .unset, .unset, .unset, .unset, .unset, .unset, .unset, .unset, .unset, .unset, .unset, .unset] [])
        rcases h_z7 with rfl | rfl
        · show own_G p e below Φ T4 (mkF m 66 #[.val (.int p0), .val (.long qx), .second, .val (.long qy), .second, .val (.long qz), .second, .val (.int (0 : Int32)), .val (.long x8_17), .second, .val (.long zb), .second, .val (.long zc), .second, .unset, .unset, .unset, .unset, .unset, .unset, .unset, .unset, .unset, .unset, .unset, .unset, .unset, .unset, .unset, .unset, .unset, .unset] [])
          obtain ⟨T89, h89, X89, e89, E89, A89, D89, -, st89⟩ := newO X4 hx hZ hown (wd_5 hw) (wd_6 hw) (wd_7 hw) e4 (g := (mkF m 66 #[.val (.int p0), .val (.long qx), .second, .val (.long qy), .second, .val (.long qz), .second, .val (.int (0 : Int32)), .val (.long x8_17), .second, .val (.long zb), .second, .val (.long zc), .second, .unset, .unset, .unset, .unset, .unset, .unset, .unset, .unset, .unset, .unset, .unset, .unset, .unset, .unset, .unset, .unset, .unset, .unset] [])) rfl (hb hby at_66) (by decide) (by decide)
          obtain ⟨ob89, g89⟩ : ∃ z, z = h0.size := ⟨_, rfl⟩
          rw [← g89] at A89 D89 st89
          have g_ob89 : n0 ≤ ob89 := Nat.le_trans Z0 (Nat.le_of_eq g89.symm)
          have Zp89 : n0 ≤ h89.size := Nat.le_trans Z0 E89.1
          refine own_go st89 ?_
          have O90 := O0.ext E89
          have F_keys_ob89 : Fld Z h89 ob89 "corro/core/LimitLevels" "keys" "[J" .null := D89 (Or.inl (wd_19 hw)) (ty := (.array .long)) (by decide)
          have F_levels_ob89 : Fld Z h89 ob89 "corro/core/LimitLevels" "levels" "[Lcorro/core/Level;" .null := D89 (Or.inl (wd_23 hw)) (ty := (.array (.object "corro/core/Level"))) (by decide)
          have F_highestFirst_ob89 : Fld Z h89 ob89 "corro/core/LimitLevels" "highestFirst" "Z" (.int (0 : Int32)) := D89 (Or.inr (wd_27 hw)) (ty := .boolean) (by decide)
          have F_size_ob89 : Fld Z h89 ob89 "corro/core/LimitLevels" "size" "I" (.int (0 : Int32)) := D89 (Or.inl (wd_38 hw)) (ty := .int) (by decide)
          refine own_go (fun _ => XS.dup X89.here hx rfl (hb hby at_69) rfl rfl) ?_
          refine own_go (fun _ => XS.iload X89.here hx rfl (hb hby at_70) rfl) ?_
          show own_G p e below Φ T89 (mkF m 72 #[.val (.int p0), .val (.long qx), .second, .val (.long qy), .second, .val (.long qz), .second, .val (.int (0 : Int32)), .val (.long x8_17), .second, .val (.long zb), .second, .val (.long zc), .second, .unset, .unset, .unset, .unset, .unset, .unset, .unset, .unset, .unset, .unset, .unset, .unset, .unset, .unset, .unset, .unset, .unset, .unset] [(.int (0 : Int32)), (.ref ob89), (.ref ob89)])
          refine own_go (fun _ => XS.ifYes X89.here hx rfl (pc0 := 72) (pc' := 81) rfl (hb hby at_72) rfl (Jvm.Free.XT.i0_eq_t (by decide : ((0 : Int32) = (0 : Int32)))) (by decide) (by decide)) ?_
          show own_G p e below Φ T89 (mkF m 81 #[.val (.int p0), .val (.long qx), .second, .val (.long qy), .second, .val (.long qz), .second, .val (.int (0 : Int32)), .val (.long x8_17), .second, .val (.long zb), .second, .val (.long zc), .second, .unset, .unset, .unset, .unset, .unset, .unset, .unset, .unset, .unset, .unset, .unset, .unset, .unset, .unset, .unset, .unset, .unset, .unset] [(.ref ob89), (.ref ob89)])
          obtain ⟨T91, X91, e91, st91⟩ := getS2 X89 hx hZ hown (host := "") (Or.inl (wd_8 hw)) Via.refl e89 (S_SELL.ext O90.2) (g := (mkF m 81 #[.val (.int p0), .val (.long qx), .second, .val (.long qy), .second, .val (.long qz), .second, .val (.int (0 : Int32)), .val (.long x8_17), .second, .val (.long zb), .second, .val (.long zc), .second, .unset, .unset, .unset, .unset, .unset, .unset, .unset, .unset, .unset, .unset, .unset, .unset, .unset, .unset, .unset, .unset, .unset, .unset] [(.ref ob89), (.ref ob89)])) rfl (hb hby at_81)
          refine own_go st91 ?_
          show own_G p e below Φ T91 (mkF m 84 #[.val (.int p0), .val (.long qx), .second, .val (.long qy), .second, .val (.long qz), .second, .val (.int (0 : Int32)), .val (.long x8_17), .second, .val (.long zb), .second, .val (.long zc), .second, .unset, .unset, .unset, .unset, .unset, .unset, .unset, .unset, .unset, .unset, .unset, .unset, .unset, .unset, .unset, .unset, .unset, .unset] [(.ref ss), (.ref ob89), (.ref ob89)])
          obtain ⟨_, _, ⟨T92, zL92, zk92, zn92⟩, -, X92, ⟨Lc92, hQ92, zl92, zy92, zz92⟩, st92⟩ := X91.specialBack hx (y := (⟨"corro/core/LimitLevels", "<init>", "(Lcorro/core/Side;)V"⟩ : MethodName)) rfl hown (mvT hZ (wd_11 hw)) (mvT hZ (wd_12 hw)) (mvT hZ (wd_13 hw)) (by decide) (backOf (W := 1) (rmCS l Z a0 hw [] ob89 sb ss .null .null (.int (0 : Int32)) h89 n0 Zp89 O90 S_BUY A89 F_keys_ob89 F_levels_ob89 F_highestFirst_ob89 F_size_ob89 g_ob89 ne_ss_sb) hZ (wd_13 hw) (wd_7 hw) (by decide) (by decide)) (g := (mkF m 84 #[.val (.int p0), .val (.long qx), .second, .val (.long qy), .second, .val (.long qz), .second, .val (.int (0 : Int32)), .val (.long x8_17), .second, .val (.long zb), .second, .val (.long zc), .second, .unset, .unset, .unset, .unset, .unset, .unset, .unset, .unset, .unset, .unset, .unset, .unset, .unset, .unset, .unset, .unset, .unset, .unset] [(.ref ss), (.ref ob89), (.ref ob89)])) rfl (by rw [hml]; rfl) (Steps.refl _) (a := ob89) (argsL := [(.ref ss)]) (rest := [(.ref ob89)]) (lenOf pd_9 rfl) rfl (by show 2 * 0 + _ ≤ _; exact Nat.le_of_eq rfl) (hb hby at_84) (fun _ _ => ⟨rfl, e91, (by decide : 1 + 2 ≤ _), (by decide : 4 + 128 ≤ _)⟩)
          dsimp only [Pt.U, Pt.locs, Pt.cells, Pt.slots] at X92 zl92 zy92 zz92 st92 hQ92
          subst zl92 zy92 zz92
          obtain ⟨xk_92, ns_xk_92, xl_92, ns_xl_92, kk_92, kl_92, rfl, N92q, Kq92, p92_0, p92_1, p92_2, p92_3, p92_4, p92_5, p92_6, p92_7, p92_8⟩ := hQ92
          have N92 := Fr.app N4 N92q
          refine own_on st92 ?_
          have ne_ob89_xk_92 : ob89 ≠ xk_92 := Nat.ne_of_lt (Nat.lt_of_lt_of_le A89.lt ns_xk_92)
          have ne_ob89_xl_92 : ob89 ≠ xl_92 := Nat.ne_of_lt (Nat.lt_of_lt_of_le A89.lt ns_xl_92)
          have g_xk_92 : n0 ≤ xk_92 := Nat.le_trans Zp89 ns_xk_92
          have g_xl_92 : n0 ≤ xl_92 := Nat.le_trans Zp89 ns_xl_92
          have Zp92 : n0 ≤ T92.heap.size := Nat.le_trans Zp89 Kq92.1
          have O93 := O90.keep Kq92 (allS g_ob89 all0)
          refine own_go (fun _ => XS.astore X92.here hx rfl (hb hby at_87) rfl rfl (l' := #[.val (.int p0), .val (.long qx), .second, .val (.long qy), .second, .val (.long qz), .second, .val (.int (0 : Int32)), .val (.long x8_17), .second, .val (.long zb), .second, .val (.long zc), .second, .val (.ref ob89), .unset, .unset, .unset, .unset, .unset, .unset, .unset, .unset, .unset, .unset, .unset, .unset, .unset, .unset, .unset, .unset, .unset]) rfl) ?_
          exact hH89 _ _ _ (X92.mono (by decide : 3 ≤ 3) (by decide : 132 ≤ 132)) rfl N92 Zp92 O93 ob89 xk_92 xl_92 kk_92 kl_92 p92_0 p92_1 p92_2 p92_3 p92_4 p92_5 p92_6 g_ob89 g_xk_92 g_xl_92 ne_ob89_xk_92 ne_ob89_xl_92 p92_7 p92_8 
        · show own_G p e below Φ T4 (mkF m 66 #[.val (.int p0), .val (.long qx), .second, .val (.long qy), .second, .val (.long qz), .second, .val (.int (1 : Int32)), .val (.long x8_17), .second, .val (.long zb), .second, .val (.long zc), .second, .unset, .unset, .unset, .unset, .unset, .unset, .unset, .unset, .unset, .unset, .unset, .unset, .unset, .unset, .unset, .unset, .unset, .unset] [])
          obtain ⟨T94, h94, X94, e94, E94, A94, D94, -, st94⟩ := newO X4 hx hZ hown (wd_5 hw) (wd_6 hw) (wd_7 hw) e4 (g := (mkF m 66 #[.val (.int p0), .val (.long qx), .second, .val (.long qy), .second, .val (.long qz), .second, .val (.int (1 : Int32)), .val (.long x8_17), .second, .val (.long zb), .second, .val (.long zc), .second, .unset, .unset, .unset, .unset, .unset, .unset, .unset, .unset, .unset, .unset, .unset, .unset, .unset, .unset, .unset, .unset, .unset, .unset] [])) rfl (hb hby at_66) (by decide) (by decide)
          obtain ⟨ob94, g94⟩ : ∃ z, z = h0.size := ⟨_, rfl⟩
          rw [← g94] at A94 D94 st94
          have g_ob94 : n0 ≤ ob94 := Nat.le_trans Z0 (Nat.le_of_eq g94.symm)
          have Zp94 : n0 ≤ h94.size := Nat.le_trans Z0 E94.1
          refine own_go st94 ?_
          have O95 := O0.ext E94
          have F_keys_ob94 : Fld Z h94 ob94 "corro/core/LimitLevels" "keys" "[J" .null := D94 (Or.inl (wd_19 hw)) (ty := (.array .long)) (by decide)
          have F_levels_ob94 : Fld Z h94 ob94 "corro/core/LimitLevels" "levels" "[Lcorro/core/Level;" .null := D94 (Or.inl (wd_23 hw)) (ty := (.array (.object "corro/core/Level"))) (by decide)
          have F_highestFirst_ob94 : Fld Z h94 ob94 "corro/core/LimitLevels" "highestFirst" "Z" (.int (0 : Int32)) := D94 (Or.inr (wd_27 hw)) (ty := .boolean) (by decide)
          have F_size_ob94 : Fld Z h94 ob94 "corro/core/LimitLevels" "size" "I" (.int (0 : Int32)) := D94 (Or.inl (wd_38 hw)) (ty := .int) (by decide)
          refine own_go (fun _ => XS.dup X94.here hx rfl (hb hby at_69) rfl rfl) ?_
          refine own_go (fun _ => XS.iload X94.here hx rfl (hb hby at_70) rfl) ?_
          show own_G p e below Φ T94 (mkF m 72 #[.val (.int p0), .val (.long qx), .second, .val (.long qy), .second, .val (.long qz), .second, .val (.int (1 : Int32)), .val (.long x8_17), .second, .val (.long zb), .second, .val (.long zc), .second, .unset, .unset, .unset, .unset, .unset, .unset, .unset, .unset, .unset, .unset, .unset, .unset, .unset, .unset, .unset, .unset, .unset, .unset] [(.int (1 : Int32)), (.ref ob94), (.ref ob94)])
          refine own_go (fun _ => XS.ifNo X94.here hx rfl (hb hby at_72) rfl (Jvm.Free.XT.i0_eq_f (by decide : ¬ ((1 : Int32) = (0 : Int32))))) ?_
          show own_G p e below Φ T94 (mkF m 75 #[.val (.int p0), .val (.long qx), .second, .val (.long qy), .second, .val (.long qz), .second, .val (.int (1 : Int32)), .val (.long x8_17), .second, .val (.long zb), .second, .val (.long zc), .second, .unset, .unset, .unset, .unset, .unset, .unset, .unset, .unset, .unset, .unset, .unset, .unset, .unset, .unset, .unset, .unset, .unset, .unset] [(.ref ob94), (.ref ob94)])
          obtain ⟨T96, X96, e96, st96⟩ := getS2 X94 hx hZ hown (host := "") (Or.inl (wd_81 hw)) Via.refl e94 (S_BUY.ext O95.2) (g := (mkF m 75 #[.val (.int p0), .val (.long qx), .second, .val (.long qy), .second, .val (.long qz), .second, .val (.int (1 : Int32)), .val (.long x8_17), .second, .val (.long zb), .second, .val (.long zc), .second, .unset, .unset, .unset, .unset, .unset, .unset, .unset, .unset, .unset, .unset, .unset, .unset, .unset, .unset, .unset, .unset, .unset, .unset] [(.ref ob94), (.ref ob94)])) rfl (hb hby at_75)
          refine own_go st96 ?_
          refine own_go (fun _ => XS.goto X96.here hx rfl (pc0 := 78) (pc' := 84) rfl (hb hby at_78) (by decide) (by decide)) ?_
          show own_G p e below Φ T96 (mkF m 84 #[.val (.int p0), .val (.long qx), .second, .val (.long qy), .second, .val (.long qz), .second, .val (.int (1 : Int32)), .val (.long x8_17), .second, .val (.long zb), .second, .val (.long zc), .second, .unset, .unset, .unset, .unset, .unset, .unset, .unset, .unset, .unset, .unset, .unset, .unset, .unset, .unset, .unset, .unset, .unset, .unset] [(.ref sb), (.ref ob94), (.ref ob94)])
          obtain ⟨_, _, ⟨T97, zL97, zk97, zn97⟩, -, X97, ⟨Lc97, hQ97, zl97, zy97, zz97⟩, st97⟩ := X96.specialBack hx (y := (⟨"corro/core/LimitLevels", "<init>", "(Lcorro/core/Side;)V"⟩ : MethodName)) rfl hown (mvT hZ (wd_11 hw)) (mvT hZ (wd_12 hw)) (mvT hZ (wd_13 hw)) (by decide) (backOf (W := 1) (rmCB l Z a0 hw [] ob94 sb .null .null (.int (0 : Int32)) h94 n0 Zp94 O95 S_BUY A94 F_keys_ob94 F_levels_ob94 F_highestFirst_ob94 F_size_ob94 g_ob94) hZ (wd_13 hw) (wd_7 hw) (by decide) (by decide)) (g := (mkF m 84 #[.val (.int p0), .val (.long qx), .second, .val (.long qy), .second, .val (.long qz), .second, .val (.int (1 : Int32)), .val (.long x8_17), .second, .val (.long zb), .second, .val (.long zc), .second, .unset, .unset, .unset, .unset, .unset, .unset, .unset, .unset, .unset, .unset, .unset, .unset, .unset, .unset, .unset, .unset, .unset, .unset] [(.ref sb), (.ref ob94), (.ref ob94)])) rfl (by rw [hml]; rfl) (Steps.refl _) (a := ob94) (argsL := [(.ref sb)]) (rest := [(.ref ob94)]) (lenOf pd_9 rfl) rfl (by show 2 * 0 + _ ≤ _; exact Nat.le_of_eq rfl) (hb hby at_84) (fun _ _ => ⟨rfl, e96, (by decide : 1 + 2 ≤ _), (by decide : 4 + 128 ≤ _)⟩)
          dsimp only [Pt.U, Pt.locs, Pt.cells, Pt.slots] at X97 zl97 zy97 zz97 st97 hQ97
          subst zl97 zy97 zz97
          obtain ⟨xk_97, ns_xk_97, xl_97, ns_xl_97, kk_97, kl_97, rfl, N97q, Kq97, p97_0, p97_1, p97_2, p97_3, p97_4, p97_5, p97_6, p97_7, p97_8⟩ := hQ97
          have N97 := Fr.app N4 N97q
          refine own_on st97 ?_
          have ne_ob94_xk_97 : ob94 ≠ xk_97 := Nat.ne_of_lt (Nat.lt_of_lt_of_le A94.lt ns_xk_97)
          have ne_ob94_xl_97 : ob94 ≠ xl_97 := Nat.ne_of_lt (Nat.lt_of_lt_of_le A94.lt ns_xl_97)
          have g_xk_97 : n0 ≤ xk_97 := Nat.le_trans Zp94 ns_xk_97
          have g_xl_97 : n0 ≤ xl_97 := Nat.le_trans Zp94 ns_xl_97
          have Zp97 : n0 ≤ T97.heap.size := Nat.le_trans Zp94 Kq97.1
          have O98 := O95.keep Kq97 (allS g_ob94 all0)
          refine own_go (fun _ => XS.astore X97.here hx rfl (hb hby at_87) rfl rfl (l' := #[.val (.int p0), .val (.long qx), .second, .val (.long qy), .second, .val (.long qz), .second, .val (.int (1 : Int32)), .val (.long x8_17), .second, .val (.long zb), .second, .val (.long zc), .second, .val (.ref ob94), .unset, .unset, .unset, .unset, .unset, .unset, .unset, .unset, .unset, .unset, .unset, .unset, .unset, .unset, .unset, .unset, .unset]) rfl) ?_
          exact hH89 _ _ _ (X97.mono (by decide : 3 ≤ 3) (by decide : 132 ≤ 132)) rfl N97 Zp97 O98 ob94 xk_97 xl_97 kk_97 kl_97 p97_0 p97_1 p97_2 p97_3 p97_4 p97_5 p97_6 g_ob94 g_xk_97 g_xl_97 ne_ob94_xk_97 ne_ob94_xl_97 p97_7 p97_8 
      by_cases hc39 : (p0 &&& (4 : Int32)) = (0 : Int32)
      · refine own_go (fun _ => XS.ifYes X3.here hx rfl (pc0 := 39) (pc' := 47) rfl (hb hby at_39) rfl (Jvm.Free.XT.i0_eq_t hc39) (by decide) (by decide)) ?_
        refine own_go (fun _ => XS.iloadN X3.here hx rfl (hb hby at_47) rfl) ?_
        refine own_go (fun _ => XS.bipush X3.here hx rfl (hb hby at_48)) ?_
        show own_G p e below Φ T3 (mkF m 50 #[.val (.int p0), .val (.long qx), .second, .val (.long qy), .second, .val (.long qz), .second, .val (.int z7), .val (.long x8_17), .second, .val (.long zb), .second, .unset, .unset, .unset, .unset, .unset, .unset, .unset, .unset, .unset, .unset, .unset, .unset, .unset, .unset, .unset, .unset, .unset, .unset, .unset, .unset] [(.int (8 : Int32)), (.int p0)])
        refine own_go (fun _ => XS.iand X3.here hx rfl (hb hby at_50) rfl) ?_
        show own_G p e below Φ T3 (mkF m 51 #[.val (.int p0), .val (.long qx), .second, .val (.long qy), .second, .val (.long qz), .second, .val (.int z7), .val (.long x8_17), .second, .val (.long zb), .second, .unset, .unset, .unset, .unset, .unset, .unset, .unset, .unset, .unset, .unset, .unset, .unset, .unset, .unset, .unset, .unset, .unset, .unset, .unset, .unset] [(.int (p0 &&& (8 : Int32)))])
        by_cases hc51 : (p0 &&& (8 : Int32)) = (0 : Int32)
        · refine own_go (fun _ => XS.ifYes X3.here hx rfl (pc0 := 51) (pc' := 59) rfl (hb hby at_51) rfl (Jvm.Free.XT.i0_eq_t hc51) (by decide) (by decide)) ?_
          refine own_go (fun _ => XS.lload X3.here hx rfl (hb hby at_59) rfl) ?_
          show own_G p e below Φ T3 (mkF m 61 #[.val (.int p0), .val (.long qx), .second, .val (.long qy), .second, .val (.long qz), .second, .val (.int z7), .val (.long x8_17), .second, .val (.long zb), .second, .unset, .unset, .unset, .unset, .unset, .unset, .unset, .unset, .unset, .unset, .unset, .unset, .unset, .unset, .unset, .unset, .unset, .unset, .unset, .unset] [(.long qz)])
          obtain ⟨_, _, ⟨T99, zL99, zk99, zn99⟩, -, X99, ⟨Lc99, hQ99, zl99, zy99, zz99⟩, st99⟩ := Jvm.LawKit.callS X3 hx (y := (⟨"corro/core/LimitLevelsPricePinLaw", "positive", "(J)J"⟩ : MethodName)) hown (mvT hZ (wd_0 hw)) (mvT hZ (wd_1 hw)) (mvT hZ (wd_2 hw)) (mvT hZ (wd_3 hw)) (by decide) (backOf (W := 0) (rmP l Z a0 hw [] qz h0 n0 Z0 ) hZ (wd_3 hw) (wd_2 hw) (by decide) (by decide)) (g := (mkF m 61 #[.val (.int p0), .val (.long qx), .second, .val (.long qy), .second, .val (.long qz), .second, .val (.int z7), .val (.long x8_17), .second, .val (.long zb), .second, .unset, .unset, .unset, .unset, .unset, .unset, .unset, .unset, .unset, .unset, .unset, .unset, .unset, .unset, .unset, .unset, .unset, .unset, .unset, .unset] [(.long qz)])) rfl (by rw [hml]; rfl) (argsL := [(.long qz)]) (rest := []) (lenOf pd_2 rfl) rfl (by show 2 * 0 + _ ≤ _; exact Nat.le_of_eq rfl) (hb hby at_61) (fun _ _ => ⟨rfl, e3, (by decide : 0 + 0 ≤ _), (by decide : 0 + 0 ≤ _)⟩)
          dsimp only [Pt.U, Pt.locs, Pt.cells, Pt.slots] at X99 zl99 zy99 zz99 st99 hQ99
          subst zl99 zy99 zz99
          obtain ⟨rfl, N99q, hs99⟩ := hQ99
          have N99 := Fr.app N3 N99q
          refine own_go st99 ?_
          exact hJ64_4 _ _ X99 N99 hs99 _ (by first | exact hp8 | exact h_zb | exact own_posP _)
        · refine own_go (fun _ => XS.ifNo X3.here hx rfl (hb hby at_51) rfl (Jvm.Free.XT.i0_eq_f hc51)) ?_
          refine own_go (fun _ => XS.lload X3.here hx rfl (hb hby at_54) rfl) ?_
          refine own_go (fun _ => XS.goto X3.here hx rfl (pc0 := 56) (pc' := 64) rfl (hb hby at_56) (by decide) (by decide)) ?_
          exact hJ64_4 _ _ X3 N3 e3 _ (by first | exact hp8 | exact h_zb | exact own_posP _)
      · refine own_go (fun _ => XS.ifNo X3.here hx rfl (hb hby at_39) rfl (Jvm.Free.XT.i0_eq_f hc39)) ?_
        refine own_go (fun _ => XS.lload X3.here hx rfl (hb hby at_42) rfl) ?_
        refine own_go (fun _ => XS.goto X3.here hx rfl (pc0 := 44) (pc' := 64) rfl (hb hby at_44) (by decide) (by decide)) ?_
        exact hJ64_4 _ _ X3 N3 e3 _ (by first | exact hp8 | exact h_zb | exact own_posP _)
    by_cases hc22 : (p0 &&& (2 : Int32)) = (0 : Int32)
    · refine own_go (fun _ => XS.ifYes X2.here hx rfl (pc0 := 22) (pc' := 30) rfl (hb hby at_22) rfl (Jvm.Free.XT.i0_eq_t hc22) (by decide) (by decide)) ?_
      refine own_go (fun _ => XS.lloadN X2.here hx rfl (hb hby at_30) rfl) ?_
      show own_G p e below Φ T2 (mkF m 31 #[.val (.int p0), .val (.long qx), .second, .val (.long qy), .second, .val (.long qz), .second, .val (.int z7), .val (.long x8_17), .second, .unset, .unset, .unset, .unset, .unset, .unset, .unset, .unset, .unset, .unset, .unset, .unset, .unset, .unset, .unset, .unset, .unset, .unset, .unset, .unset, .unset, .unset] [(.long qy)])
      obtain ⟨_, _, ⟨T100, zL100, zk100, zn100⟩, -, X100, ⟨Lc100, hQ100, zl100, zy100, zz100⟩, st100⟩ := Jvm.LawKit.callS X2 hx (y := (⟨"corro/core/LimitLevelsPricePinLaw", "positive", "(J)J"⟩ : MethodName)) hown (mvT hZ (wd_0 hw)) (mvT hZ (wd_1 hw)) (mvT hZ (wd_2 hw)) (mvT hZ (wd_3 hw)) (by decide) (backOf (W := 0) (rmP l Z a0 hw [] qy h0 n0 Z0 ) hZ (wd_3 hw) (wd_2 hw) (by decide) (by decide)) (g := (mkF m 31 #[.val (.int p0), .val (.long qx), .second, .val (.long qy), .second, .val (.long qz), .second, .val (.int z7), .val (.long x8_17), .second, .unset, .unset, .unset, .unset, .unset, .unset, .unset, .unset, .unset, .unset, .unset, .unset, .unset, .unset, .unset, .unset, .unset, .unset, .unset, .unset, .unset, .unset] [(.long qy)])) rfl (by rw [hml]; rfl) (argsL := [(.long qy)]) (rest := []) (lenOf pd_2 rfl) rfl (by show 2 * 0 + _ ≤ _; exact Nat.le_of_eq rfl) (hb hby at_31) (fun _ _ => ⟨rfl, hs2, (by decide : 0 + 0 ≤ _), (by decide : 0 + 0 ≤ _)⟩)
      dsimp only [Pt.U, Pt.locs, Pt.cells, Pt.slots] at X100 zl100 zy100 zz100 st100 hQ100
      subst zl100 zy100 zz100
      obtain ⟨rfl, N100q, hs100⟩ := hQ100
      have N100 := Fr.app N2 N100q
      refine own_go st100 ?_
      exact hJ34_3 _ _ X100 N100 hs100 _ (by first | exact hp8 | exact own_posP _)
    · refine own_go (fun _ => XS.ifNo X2.here hx rfl (hb hby at_22) rfl (Jvm.Free.XT.i0_eq_f hc22)) ?_
      refine own_go (fun _ => XS.lload X2.here hx rfl (hb hby at_25) rfl) ?_
      refine own_go (fun _ => XS.goto X2.here hx rfl (pc0 := 27) (pc' := 34) rfl (hb hby at_27) (by decide) (by decide)) ?_
      exact hJ34_3 _ _ X2 N2 hs2 _ (by first | exact hp8 | exact own_posP _)
  by_cases hc3 : (p0 &&& (1 : Int32)) = (0 : Int32)
  · refine own_go (fun _ => XS.ifYes X0.here hx rfl (pc0 := 3) (pc' := 10) rfl (hb hby at_3) rfl (Jvm.Free.XT.i0_eq_t hc3) (by decide) (by decide)) ?_
    refine own_go (fun _ => XS.iconst X0.here hx rfl (hb hby at_10)) ?_
    exact hJ11_1 _ _ X0 N0 e0 _ (by first | exact Or.inr rfl | exact Or.inl rfl)
  · refine own_go (fun _ => XS.ifNo X0.here hx rfl (hb hby at_3) rfl (Jvm.Free.XT.i0_eq_f hc3)) ?_
    refine own_go (fun _ => XS.iconst X0.here hx rfl (hb hby at_6)) ?_
    refine own_go (fun _ => XS.goto X0.here hx rfl (pc0 := 7) (pc' := 11) rfl (hb hby at_7) (by decide) (by decide)) ?_
    exact hJ11_1 _ _ X0 N0 e0 _ (by first | exact Or.inr rfl | exact Or.inl rfl)
theorem wd_9 {Z : State} {a0 : Array Value} (hw : ∀ d ∈ tables_1, d.before a0 Z = true) : ((Jvm.Cond.initialized "corro/core/Side") : Jvm.Cond).before a0 Z = true := hw _ (List.mem_of_getElem? (i := 9) rfl)
theorem wd_10 {Z : State} {a0 : Array Value} (hw : ∀ d ∈ tables_1, d.before a0 Z = true) : ((Jvm.Cond.laysStatic "corro/core/Side" "SELL" "Lcorro/core/Side;") : Jvm.Cond).before a0 Z = true := hw _ (List.mem_of_getElem? (i := 10) rfl)
theorem wd_25 {Z : State} {a0 : Array Value} (hw : ∀ d ∈ tables_1, d.before a0 Z = true) : ((Jvm.Cond.laysStatic "corro/core/Side" "BUY" "Lcorro/core/Side;") : Jvm.Cond).before a0 Z = true := hw _ (List.mem_of_getElem? (i := 25) rfl)
theorem own_fe {args : Array Value} {s : State} {t u : Term} {C n d : String} (h : t.eval args s none [] s = u.eval args s none [] s) : (Term.field t C n d).eval args s none [] s = (Term.field u C n d).eval args s none [] s := by simp only [Term.eval, h]
theorem own_eqw {args : Array Value} {s : State} {t u : Term} (h : (Jvm.Cond.eq t u).value args s none s [] = some true) : ∃ y, t.eval args s none [] s = some y ∧ u.eval args s none [] s = some y := Cond.eq_worth h
theorem own_sides {args : Array Value} {s : State} (h1 : (Jvm.Cond.exactly (Jvm.Term.static "corro/core/Side" "SELL" "Lcorro/core/Side;") "corro/core/Side").value args s none s [] = some true) (h2 : (Jvm.Cond.exactly (Jvm.Term.static "corro/core/Side" "BUY" "Lcorro/core/Side;") "corro/core/Side").value args s none s [] = some true)
    (h3 : (Jvm.Cond.eq (Jvm.Term.field (Jvm.Term.static "corro/core/Side" "SELL" "Lcorro/core/Side;") "java/lang/Enum" "ordinal" "I") (Jvm.Term.int (1 : Int32))).value args s none s [] = some true) (h4 : (Jvm.Cond.eq (Jvm.Term.field (Jvm.Term.static "corro/core/Side" "BUY" "Lcorro/core/Side;") "java/lang/Enum" "ordinal" "I") (Jvm.Term.int (0 : Int32))).value args s none s [] = some true) :
    ∃ ss sb : Addr, (Jvm.Term.static "corro/core/Side" "SELL" "Lcorro/core/Side;").eval args s none [] s = some (.ref ss) ∧ (Jvm.Term.static "corro/core/Side" "BUY" "Lcorro/core/Side;").eval args s none [] s = some (.ref sb) ∧ ss ≠ sb := by
  obtain ⟨ss, _, _, _, e1, -⟩ := Cond.exactly_spec (Cond.before_iff.mpr h1)
  obtain ⟨sb, _, _, _, e2, -⟩ := Cond.exactly_spec (Cond.before_iff.mpr h2)
  refine ⟨ss, sb, e1, e2, fun q => ?_⟩
  subst q
  obtain ⟨y, a1, a2⟩ := own_eqw h3
  obtain ⟨z, b1, b2⟩ := own_eqw h4
  rw [own_fe (e1.trans e2.symm)] at a1
  cases a1.symm.trans b1
  have q : (some (Value.int 1) : Option Value) = some (Value.int 0) := (Term.int_eval (1)).symm.trans (a2.trans (b2.symm.trans (Term.int_eval (0))))
  exact absurd (Value.int.inj (Option.some.inj q)) (by decide)
set_option maxRecDepth 65536 in
set_option maxHeartbeats 40000000 in
theorem comes_1 {Post : Tables → Env → Array Value → State → Outcome → State → Prop} (hpost : ∀ tb e args s v u, (limb_1_1.after args s (.returned v) u = true ∧ limb_1_2.after args s (.returned v) u = true ∧ True) → FrameEnd s (.returned v) u (Jvm.fieldLocs frame_1_writes args s ++ Jvm.arrayLocs frame_1_arrays args s ++ Jvm.staticLocs frame_1_statics s) 24 384 → Post tb e args s (.returned v) u) :
    ArmFor flags0 classFile x code maxLocals ret World_1 tables_1 room_1 Calls_1 rest_1 Pre_1 Post := by
  intro l hfl _ _ p e ha hc hk s m args below hf hA hF happ hP
  obtain ⟨hcalls, hrest, hpre⟩ := hP
  obtain ⟨-, -, -, hnamed, -, -, -, hat⟩ := (Spec.applies_iff hf).mp happ
  obtain ⟨hg, hn⟩ := and_e (Cond.before_iff.mp (show (Jvm.Cond.and given_1 narrow_1).before args s = true from hpre))
  obtain ⟨g1, g2⟩ := and_e hg
  obtain ⟨g3, g4⟩ := and_e g2
  obtain ⟨g5, g6⟩ := and_e g4
  obtain ⟨g7, g8⟩ := and_e g6
  obtain ⟨w0, w1, w2, w3, rfl⟩ : ∃ w0 w1 w2 w3 : Value, args = #[w0, w1, w2, w3] := by
    have hs : args.size = 4 := by simpa [Cond.value, given_1] using g1
    obtain ⟨L⟩ := args
    match L, hs with
    | [w0, w1, w2, w3], _ => exact ⟨w0, w1, w2, w3, rfl⟩
  have hw := fun d (hd : d ∈ tables_1) => atoms_spec (ws := Jvm.Cond.code x code maxLocals ret :: tables_1) hat d (List.mem_cons_of_mem _ hd)
  obtain ⟨i0, ei0⟩ := is_v g3
  obtain rfl : w0 = (.int i0) := Option.some.inj ei0
  obtain ⟨i1, ei1⟩ := isL_v g5
  obtain rfl : w1 = (.long i1) := Option.some.inj ei1
  obtain ⟨i2, ei2⟩ := isL_v g7
  obtain rfl : w2 = (.long i2) := Option.some.inj ei2
  obtain ⟨i3, ei3⟩ := isL_v g8
  obtain rfl : w3 = (.long i3) := Option.some.inj ei3
  obtain ⟨u1, u2⟩ := and_e hn
  obtain ⟨u3, u4⟩ := and_e u2
  obtain ⟨u5, u6⟩ := and_e u4
  obtain ⟨ss, sb, hss, hsb, hne⟩ := own_sides u1 u3 u5 u6
  have S1 : Sta s s.heap "corro/core/Side" "BUY" "Lcorro/core/Side;" (.ref sb) := Sta.start hsb (Or.inr ⟨wd_9 hw, wd_25 hw⟩)
  have S2 : Sta s s.heap "corro/core/Side" "SELL" "Lcorro/core/Side;" (.ref ss) := Sta.start hss (Or.inr ⟨wd_9 hw, wd_10 hw⟩)
  obtain ⟨n, o, h1, h2, h3, _, L, rfl, ⟨rfl, N⟩, hq⟩ := rm0 l s _ hw tables_1 i0 i1 i2 i3 sb ss s.heap s.heap.size (Nat.le_refl _) (Old.start s) S1 S2 hne p e ha hc hk s m _ below hf ((Spec.applies_iff_loose hf).mp happ).1 ⟨rfl, State.Warmed39.refl s, rfl⟩ trivial
  refine ⟨n, _, h1, h2, h3, hpost _ _ _ _ _ _ ⟨Cond.after_iff.mpr rfl, Cond.after_iff.mpr (eq_i res_at (Term.int_eval (1)) rfl), trivial⟩ ⟨hq.1, hq.2.1, (hq.2.2.sift fun y hy => Or.inr (N y hy)).mono (by decide) (by decide)⟩⟩
theorem main_1_1 : Claimed_1_1 := comes_1 fun _ _ _ _ _ _ h hF => ⟨h.1, hF⟩
theorem main_1_2 : Claimed_1_2 := comes_1 fun _ _ _ _ _ _ h hF => ⟨h.2.1, hF⟩
end Jvm.Pilot.@@N@@
namespace Jvm.Pilot.@@N@@
open Jvm Jvm.ClassFile Sem Op Lib Jvm.Free Jvm.Stand Jvm.Pilot.@@N@@.Jvm.D
/-! MADE BY PROGRAM (witnessworld.py) out of the Statement's table words and the real class files: 20 classes; the members and pool entries that the words name. The judged class is class 1, her method 1. -/
namespace start1
open Jvm.ClassFile
def u (s : String) : CpInfo := .utf8 (stringToUtf16 s)
/-- a pool by its gaps: so many unusable entries, then the entry; so many at the end -/
def gap : Nat → List CpInfo → List CpInfo
  | 0, r => r
  | n + 1, r => .unusable :: gap n r
def poolList (es : List (Nat × CpInfo)) (last : Nat) : List CpInfo := es.foldr (fun e r => gap e.1 (e.2 :: r)) (gap last [])
def pool (es : List (Nat × CpInfo)) (last : Nat) : Array CpInfo := ⟨poolList es last⟩
def fileOf (pool : Array CpInfo) (this : Nat) (attrs : Array Attribute := #[]) (ms : Array MethodInfo := #[]) (fl : Nat := 33) (sup : Nat := 0) (ifs : Array Nat := #[]) (fds : Array FieldInfo := #[]) : ClassFile where
  minorVersion := 0
  majorVersion := 65
  constantPool := pool
  accessFlags := fl
  thisClass := this
  superClass := sup
  interfaces := ifs
  fields := fds
  methods := ms
  attributes := attrs
def plain (name : String) (sup : Option ClassId) : Class where
  name := name
  kind := .ordinary
  loader := none
  accessFlags := 33
  super := sup
  interfaces := #[]
  cf := none
  fields := #[]
  methods := #[]
  instanceTypes := #[]
  staticTypes := #[]
  resolved := #[]
  callSites := []
  init := .initialized
  statics := none
  mirror := none

def pool0 : Array CpInfo := pool [(5, u "<init>"), (0, u "()V"), (1, .class_ 10), (1, u "java/lang/Object")] 113

def k0c0 : Code := { maxStack := 0, maxLocals := 1, code := object_method_1_code, exceptionTable := #[], attributes := #[] }
def k0m0 : Method := { name := "<init>", desc := "()V", sig := { parameters := [], returnType := none }, accessFlags := 1, code := some k0c0 }
/-- java/lang/Object -/
def k0 : Class := { plain "java/lang/Object" none with
  accessFlags := 33
  interfaces := #[]
  cf := some (fileOf pool0 8 #[] #[{ accessFlags := 1, nameIndex := 5, descriptorIndex := 6, attributes := #[] }] 33 0 #[] #[])
  fields := #[]
  methods := #[k0m0]
  instanceTypes := #[]
  staticTypes := #[]
  resolved := Array.replicate 124 none
  statics := none }

def pool1 : Array CpInfo := pool [(2, .class_ 4), (1, u "java/lang/Object"), (0, u "<init>"), (0, u "()V"), (0, .methodref 8 9), (0, .class_ 10), (0, .nameAndType 11 12), (0, u "corro/core/LimitLevelsPricePinLaw"), (0, u "positive"), (0, u "(J)J"), (0, .class_ 14), (0, u "corro/core/LimitLevels"), (0, .fieldref 16 17), (0, .class_ 18), (0, .nameAndType 19 20), (0, u "corro/core/Side"), (0, u "BUY"), (0, u "Lcorro/core/Side;"), (0, .fieldref 16 22), (0, .nameAndType 23 20), (0, u "SELL"), (0, .methodref 13 25), (0, .nameAndType 5 26), (0, u "(Lcorro/core/Side;)V"), (0, .methodref 13 28), (0, .nameAndType 29 30), (0, u "getOrAdd"), (0, u "(J)Lcorro/core/Level;"), (0, .methodref 32 33), (0, .class_ 34), (0, .nameAndType 35 36), (0, u "java/lang/Math"), (0, u "max"), (0, u "(JJ)J"), (0, .methodref 32 38), (0, .nameAndType 39 36), (0, u "min"), (0, .methodref 13 41), (0, .nameAndType 42 43), (0, u "size"), (0, u "()I"), (0, .methodref 13 45), (0, .nameAndType 46 47), (0, u "price"), (0, u "(I)J"), (2, .long 9223372036854775807), (3, u "law"), (0, u "(IJJJ)Z")] 3

def k1m0 : Method := { name := "<init>", desc := "()V", sig := { parameters := [], returnType := none }, accessFlags := 1, code := none }
def k1c1 : Code := { maxStack := 6, maxLocals := 32, code := code, exceptionTable := #[], attributes := #[] }
def k1m1 : Method := { name := "law", desc := "(IJJJ)Z", sig := { parameters := [.int, .long, .long, .long], returnType := some .boolean }, accessFlags := 9, code := some k1c1 }
def k1c2 : Code := { maxStack := 4, maxLocals := 4, code := method_3_code, exceptionTable := #[], attributes := #[] }
def k1m2 : Method := { name := "positive", desc := "(J)J", sig := { parameters := [.long], returnType := some .long }, accessFlags := 10, code := some k1c2 }
/-- corro/core/LimitLevelsPricePinLaw -/
def k1 : Class := { plain "corro/core/LimitLevelsPricePinLaw" (some 0) with
  accessFlags := 49
  interfaces := #[]
  cf := some (fileOf pool1 8 #[] #[{ accessFlags := 1, nameIndex := 5, descriptorIndex := 6, attributes := #[] }, { accessFlags := 9, nameIndex := 54, descriptorIndex := 55, attributes := #[] }, { accessFlags := 10, nameIndex := 11, descriptorIndex := 12, attributes := #[] }] 49 2 #[] #[])
  fields := #[]
  methods := #[k1m0, k1m1, k1m2]
  instanceTypes := #[]
  staticTypes := #[]
  resolved := Array.replicate 59 none
  statics := none }

def pool2 : Array CpInfo := pool [(1, .methodref 2 3), (0, .class_ 4), (0, .nameAndType 5 6), (0, u "java/lang/Object"), (0, u "<init>"), (0, u "()V"), (0, .class_ 8), (0, u "corro/core/LimitLevels"), (0, .fieldref 7 10), (0, .nameAndType 11 12), (0, u "keys"), (0, u "[J"), (0, .class_ 14), (0, u "corro/core/Level"), (0, .fieldref 7 16), (0, .nameAndType 17 18), (0, u "levels"), (0, u "[Lcorro/core/Level;"), (0, .fieldref 20 21), (0, .class_ 22), (0, .nameAndType 23 24), (0, u "corro/core/Side"), (0, u "BUY"), (0, u "Lcorro/core/Side;"), (0, .fieldref 7 26), (0, .nameAndType 27 28), (0, u "highestFirst"), (0, u "Z"), (0, .fieldref 7 30), (0, .nameAndType 31 32), (0, u "size"), (0, u "I"), (0, .methodref 7 34), (0, .nameAndType 35 36), (0, u "search"), (0, u "(J)I"), (1, .class_ 40), (1, u "java/util/Arrays"), (6, .methodref 48 49), (0, .class_ 50), (0, .nameAndType 51 52), (0, u "java/lang/System"), (0, u "arraycopy"), (0, u "(Ljava/lang/Object;ILjava/lang/Object;II)V"), (0, .methodref 13 3), (0, .methodref 7 55), (0, .nameAndType 56 57), (0, u "key"), (0, u "(J)J"), (0, .methodref 38 59), (0, .nameAndType 60 61), (0, u "binarySearch"), (0, u "([JIIJ)I"), (0, u "INITIAL_CAPACITY"), (2, u "(Lcorro/core/Side;)V"), (3, u "()I"), (0, u "price"), (0, u "(I)J"), (5, u "(J)Lcorro/core/Level;"), (0, u "getOrAdd")] 5

def k2c0 : Code := { maxStack := 3, maxLocals := 2, code := prog_14_method_1_code, exceptionTable := #[], attributes := #[] }
def k2m0 : Method := { name := "<init>", desc := "(Lcorro/core/Side;)V", sig := { parameters := [(.object "corro/core/Side")], returnType := none }, accessFlags := 0, code := some k2c0 }
def k2c1 : Code := { maxStack := 1, maxLocals := 1, code := prog_14_method_2_code, exceptionTable := #[], attributes := #[] }
def k2m1 : Method := { name := "size", desc := "()I", sig := { parameters := [], returnType := some .int }, accessFlags := 0, code := some k2c1 }
def k2c2 : Code := { maxStack := 3, maxLocals := 4, code := prog_14_method_3_code, exceptionTable := #[], attributes := #[] }
def k2m2 : Method := { name := "price", desc := "(I)J", sig := { parameters := [.int], returnType := some .long }, accessFlags := 0, code := some k2c2 }
def k2c3 : Code := { maxStack := 6, maxLocals := 5, code := prog_14_method_7_code, exceptionTable := #[], attributes := #[] }
def k2m3 : Method := { name := "getOrAdd", desc := "(J)Lcorro/core/Level;", sig := { parameters := [.long], returnType := some (.object "corro/core/Level") }, accessFlags := 0, code := some k2c3 }
def k2c4 : Code := { maxStack := 6, maxLocals := 3, code := prog_14_method_10_code, exceptionTable := #[], attributes := #[] }
def k2m4 : Method := { name := "search", desc := "(J)I", sig := { parameters := [.long], returnType := some .int }, accessFlags := 2, code := some k2c4 }
def k2c5 : Code := { maxStack := 2, maxLocals := 3, code := prog_14_method_11_code, exceptionTable := #[], attributes := #[] }
def k2m5 : Method := { name := "key", desc := "(J)J", sig := { parameters := [.long], returnType := some .long }, accessFlags := 2, code := some k2c5 }
/-- corro/core/LimitLevels -/
def k2 : Class := { plain "corro/core/LimitLevels" (some 0) with
  accessFlags := 48
  interfaces := #[]
  cf := some (fileOf pool2 7 #[] #[{ accessFlags := 0, nameIndex := 5, descriptorIndex := 65, attributes := #[] }, { accessFlags := 0, nameIndex := 31, descriptorIndex := 69, attributes := #[] }, { accessFlags := 0, nameIndex := 70, descriptorIndex := 71, attributes := #[] }, { accessFlags := 0, nameIndex := 78, descriptorIndex := 77, attributes := #[] }, { accessFlags := 2, nameIndex := 35, descriptorIndex := 36, attributes := #[] }, { accessFlags := 2, nameIndex := 56, descriptorIndex := 57, attributes := #[] }] 48 2 #[] #[{ accessFlags := 26, nameIndex := 62, descriptorIndex := 32, attributes := #[] }, { accessFlags := 18, nameIndex := 27, descriptorIndex := 28, attributes := #[] }, { accessFlags := 2, nameIndex := 11, descriptorIndex := 12, attributes := #[] }, { accessFlags := 2, nameIndex := 17, descriptorIndex := 18, attributes := #[] }, { accessFlags := 2, nameIndex := 31, descriptorIndex := 32, attributes := #[] }])
  fields := #[{ name := "INITIAL_CAPACITY", type := .int, accessFlags := 26, slot := 0, constantValue := 0 }, { name := "highestFirst", type := .boolean, accessFlags := 18, slot := 0, constantValue := 0 }, { name := "keys", type := (.array .long), accessFlags := 2, slot := 1, constantValue := 0 }, { name := "levels", type := (.array (.object "corro/core/Level")), accessFlags := 2, slot := 2, constantValue := 0 }, { name := "size", type := .int, accessFlags := 2, slot := 3, constantValue := 0 }]
  methods := #[k2m0, k2m1, k2m2, k2m3, k2m4, k2m5]
  instanceTypes := #[.boolean, (.array .long), (.array (.object "corro/core/Level")), .int]
  staticTypes := #[.int]
  resolved := Array.replicate 84 none
  statics := none }

def pool3 : Array CpInfo := pool [(1, .class_ 2), (0, u "java/lang/constant/Constable"), (0, .class_ 4), (0, u "java/lang/Object")] 6

/-- java/lang/constant/Constable -/
def k3 : Class := { plain "java/lang/constant/Constable" (some 0) with
  accessFlags := 1537
  interfaces := #[]
  cf := some (fileOf pool3 1 #[] #[] 1537 3 #[] #[])
  fields := #[]
  methods := #[]
  instanceTypes := #[]
  staticTypes := #[]
  resolved := Array.replicate 11 none
  statics := none }

def pool4 : Array CpInfo := pool [(1, .class_ 2), (0, u "java/lang/Comparable"), (0, .class_ 4), (0, u "java/lang/Object")] 7

/-- java/lang/Comparable -/
def k4 : Class := { plain "java/lang/Comparable" (some 0) with
  accessFlags := 1537
  interfaces := #[]
  cf := some (fileOf pool4 1 #[] #[] 1537 3 #[] #[])
  fields := #[]
  methods := #[]
  instanceTypes := #[]
  staticTypes := #[]
  resolved := Array.replicate 12 none
  statics := none }

def pool5 : Array CpInfo := pool [(1, .class_ 2), (0, u "java/io/Serializable"), (0, .class_ 4), (0, u "java/lang/Object")] 2

/-- java/io/Serializable -/
def k5 : Class := { plain "java/io/Serializable" (some 0) with
  accessFlags := 1537
  interfaces := #[]
  cf := some (fileOf pool5 1 #[] #[] 1537 3 #[] #[])
  fields := #[]
  methods := #[]
  instanceTypes := #[]
  staticTypes := #[]
  resolved := Array.replicate 7 none
  statics := none }

def pool6 : Array CpInfo := pool [(2, .class_ 4), (1, u "java/lang/Enum"), (0, u "name"), (0, u "Ljava/lang/String;"), (2, u "ordinal"), (0, u "I"), (1, .class_ 14), (1, u "java/lang/Object"), (4, u "hash"), (86, .class_ 108), (1, u "java/lang/Enum$EnumDesc"), (2, .class_ 112), (0, u "java/lang/constant/Constable"), (0, .class_ 114), (0, u "java/lang/Comparable"), (0, .class_ 116), (0, u "java/io/Serializable")] 87

/-- java/lang/Enum -/
def k6 : Class := { plain "java/lang/Enum" (some 0) with
  accessFlags := 1057
  interfaces := #[3, 4, 5]
  cf := some (fileOf pool6 2 #[.nestMembers #[106]] #[] 1057 12 #[111, 113, 115] #[{ accessFlags := 18, nameIndex := 5, descriptorIndex := 6, attributes := #[] }, { accessFlags := 18, nameIndex := 9, descriptorIndex := 10, attributes := #[] }, { accessFlags := 2, nameIndex := 19, descriptorIndex := 10, attributes := #[] }])
  fields := #[{ name := "name", type := (.object "java/lang/String"), accessFlags := 18, slot := 0, constantValue := 0 }, { name := "ordinal", type := .int, accessFlags := 18, slot := 1, constantValue := 0 }, { name := "hash", type := .int, accessFlags := 2, slot := 2, constantValue := 0 }]
  methods := #[]
  instanceTypes := #[(.object "java/lang/String"), .int, .int]
  staticTypes := #[]
  resolved := Array.replicate 204 none
  statics := none }

def pool7 : Array CpInfo := pool [(1, .class_ 2), (0, u "corro/core/Side"), (2, u "BUY"), (0, u "Lcorro/core/Side;"), (2, u "SELL"), (2, u "$VALUES"), (0, u "[Lcorro/core/Side;"), (6, .class_ 22), (1, u "java/lang/Enum")] 27

/-- corro/core/Side -/
def k7 : Class := { plain "corro/core/Side" (some 6) with
  accessFlags := 16433
  interfaces := #[]
  cf := some (fileOf pool7 1 #[] #[] 16433 20 #[] #[{ accessFlags := 16409, nameIndex := 5, descriptorIndex := 6, attributes := #[] }, { accessFlags := 16409, nameIndex := 9, descriptorIndex := 6, attributes := #[] }, { accessFlags := 4122, nameIndex := 12, descriptorIndex := 13, attributes := #[] }])
  fields := #[{ name := "BUY", type := (.object "corro/core/Side"), accessFlags := 16409, slot := 0, constantValue := 0 }, { name := "SELL", type := (.object "corro/core/Side"), accessFlags := 16409, slot := 1, constantValue := 0 }, { name := "$VALUES", type := (.array (.object "corro/core/Side")), accessFlags := 4122, slot := 2, constantValue := 0 }]
  methods := #[]
  instanceTypes := #[(.object "java/lang/String"), .int, .int]
  staticTypes := #[(.object "corro/core/Side"), (.object "corro/core/Side"), (.array (.object "corro/core/Side"))]
  resolved := Array.replicate 50 none
  statics := some 0 }

def pool8 : Array CpInfo := pool [(1, .methodref 2 3), (0, .class_ 4), (0, .nameAndType 5 6), (0, u "java/lang/Object"), (0, u "<init>"), (0, u "()V"), (1, .class_ 10), (1, u "corro/core/Level"), (0, u "first"), (0, u "Lcorro/core/Order;"), (18, u "last")] 20

def k8c0 : Code := { maxStack := 1, maxLocals := 1, code := prog_13_method_1_code, exceptionTable := #[], attributes := #[] }
def k8m0 : Method := { name := "<init>", desc := "()V", sig := { parameters := [], returnType := none }, accessFlags := 0, code := some k8c0 }
/-- corro/core/Level -/
def k8 : Class := { plain "corro/core/Level" (some 0) with
  accessFlags := 48
  interfaces := #[]
  cf := some (fileOf pool8 8 #[] #[{ accessFlags := 0, nameIndex := 5, descriptorIndex := 6, attributes := #[] }] 48 2 #[] #[{ accessFlags := 2, nameIndex := 11, descriptorIndex := 12, attributes := #[] }, { accessFlags := 2, nameIndex := 31, descriptorIndex := 12, attributes := #[] }])
  fields := #[{ name := "first", type := (.object "corro/core/Order"), accessFlags := 2, slot := 0, constantValue := 0 }, { name := "last", type := (.object "corro/core/Order"), accessFlags := 2, slot := 1, constantValue := 0 }]
  methods := #[k8m0]
  instanceTypes := #[(.object "corro/core/Order"), (.object "corro/core/Order")]
  staticTypes := #[]
  resolved := Array.replicate 52 none
  statics := none }

def pool9 : Array CpInfo := pool [(2, .class_ 4), (1, u "java/lang/Object"), (0, u "<init>"), (0, u "()V"), (6, .methodref 14 15), (0, .class_ 16), (0, .nameAndType 17 18), (0, u "java/util/Arrays"), (0, u "rangeCheck"), (0, u "(III)V"), (55, .class_ 76), (1, u "java/util/Arrays$NaturalOrder"), (36, .class_ 115), (1, u "java/util/Arrays$LegacyMergeSort"), (1, u "Z"), (87, .methodref 14 206), (0, .nameAndType 207 208), (0, u "binarySearch0"), (0, u "([JIIJ)I"), (166, .class_ 376), (0, u "java/util/Arrays$ArrayList"), (68, u "$assertionsDisabled"), (269, u "MIN_ARRAY_SORT_GRAN"), (0, u "I"), (2, u "INSERTIONSORT_THRESHOLD"), (74, u "binarySearch"), (180, .class_ 976), (0, u "java/util/Arrays$ArrayItr")] 52

def k9m0 : Method := { name := "<init>", desc := "()V", sig := { parameters := [], returnType := none }, accessFlags := 2, code := none }
def k9c1 : Code := { maxStack := 4, maxLocals := 3, code := jdk_65_method_30_code, exceptionTable := #[], attributes := #[] }
def k9m1 : Method := { name := "rangeCheck", desc := "(III)V", sig := { parameters := [.int, .int, .int], returnType := none }, accessFlags := 8, code := some k9c1 }
def k9c2 : Code := { maxStack := 5, maxLocals := 5, code := jdk_65_method_55_code, exceptionTable := #[], attributes := #[] }
def k9m2 : Method := { name := "binarySearch", desc := "([JIIJ)I", sig := { parameters := [(.array .long), .int, .int, .long], returnType := some .int }, accessFlags := 9, code := some k9c2 }
def k9c3 : Code := { maxStack := 4, maxLocals := 10, code := jdk_65_method_56_code, exceptionTable := #[], attributes := #[] }
def k9m3 : Method := { name := "binarySearch0", desc := "([JIIJ)I", sig := { parameters := [(.array .long), .int, .int, .long], returnType := some .int }, accessFlags := 10, code := some k9c3 }
/-- java/util/Arrays -/
def k9 : Class := { plain "java/util/Arrays" (some 0) with
  accessFlags := 49
  interfaces := #[]
  cf := some (fileOf pool9 14 #[.nestMembers #[975, 375, 113, 74]] #[{ accessFlags := 2, nameIndex := 5, descriptorIndex := 6, attributes := #[] }, { accessFlags := 8, nameIndex := 17, descriptorIndex := 18, attributes := #[] }, { accessFlags := 9, nameIndex := 794, descriptorIndex := 208, attributes := #[] }, { accessFlags := 10, nameIndex := 207, descriptorIndex := 208, attributes := #[] }] 49 2 #[] #[{ accessFlags := 26, nameIndex := 715, descriptorIndex := 716, attributes := #[] }, { accessFlags := 26, nameIndex := 719, descriptorIndex := 716, attributes := #[] }, { accessFlags := 4120, nameIndex := 445, descriptorIndex := 117, attributes := #[] }])
  fields := #[{ name := "MIN_ARRAY_SORT_GRAN", type := .int, accessFlags := 26, slot := 0, constantValue := 0 }, { name := "INSERTIONSORT_THRESHOLD", type := .int, accessFlags := 26, slot := 1, constantValue := 0 }, { name := "$assertionsDisabled", type := .boolean, accessFlags := 4120, slot := 2, constantValue := 0 }]
  methods := #[k9m0, k9m1, k9m2, k9m3]
  instanceTypes := #[]
  staticTypes := #[.int, .int, .boolean]
  resolved := Array.replicate 1029 none
  statics := none }

def pool10 : Array CpInfo := pool [(2, .class_ 4), (1, u "java/lang/Object"), (0, u "<init>"), (0, u "()V"), (1, .class_ 10), (1, u "java/lang/System"), (0, u "allowSecurityManager"), (0, u "I"), (16, u "cons"), (0, u "Ljava/io/Console;"), (77, .class_ 110), (1, u "java/lang/System$CallersHolder"), (43, u "initialErrStream"), (0, u "Ljava/io/PrintStream;"), (19, u "security"), (0, u "Ljava/lang/SecurityManager;"), (31, .class_ 209), (0, u "java/lang/System$1"), (7, u "props"), (0, u "Ljava/util/Properties;"), (2, u "lineSeparator"), (0, u "Ljava/lang/String;"), (96, .class_ 321), (1, u "java/lang/System$LoggerFinder"), (5, .class_ 328), (0, u "java/lang/System$Logger"), (67, u "err"), (2, u "out"), (91, u "notSupportedJnuEncoding"), (15, u "in"), (17, u "initialIn"), (0, u "Ljava/io/InputStream;"), (35, u "bootLayer"), (0, u "Ljava/lang/ModuleLayer;"), (99, .class_ 664), (0, u "java/lang/System$2"), (9, u "NEVER"), (2, u "MAYBE"), (49, u "arraycopy"), (0, u "(Ljava/lang/Object;ILjava/lang/Object;II)V"), (72, .class_ 802), (0, u "java/lang/System$Logger$Level")] 31

def k10m0 : Method := { name := "<init>", desc := "()V", sig := { parameters := [], returnType := none }, accessFlags := 2, code := none }
def k10m1 : Method := { name := "arraycopy", desc := "(Ljava/lang/Object;ILjava/lang/Object;II)V", sig := { parameters := [(.object "java/lang/Object"), .int, (.object "java/lang/Object"), .int, .int], returnType := none }, accessFlags := 265, code := none }
/-- java/lang/System -/
def k10 : Class := { plain "java/lang/System" (some 0) with
  accessFlags := 49
  interfaces := #[]
  cf := some (fileOf pool10 8 #[.nestMembers #[319, 327, 801, 108, 663, 208]] #[{ accessFlags := 2, nameIndex := 5, descriptorIndex := 6, attributes := #[] }, { accessFlags := 265, nameIndex := 727, descriptorIndex := 728, attributes := #[] }] 49 2 #[] #[{ accessFlags := 25, nameIndex := 507, descriptorIndex := 526, attributes := #[] }, { accessFlags := 25, nameIndex := 399, descriptorIndex := 155, attributes := #[] }, { accessFlags := 25, nameIndex := 396, descriptorIndex := 155, attributes := #[] }, { accessFlags := 10, nameIndex := 525, descriptorIndex := 526, attributes := #[] }, { accessFlags := 26, nameIndex := 674, descriptorIndex := 12, attributes := #[] }, { accessFlags := 26, nameIndex := 677, descriptorIndex := 12, attributes := #[] }, { accessFlags := 10, nameIndex := 11, descriptorIndex := 12, attributes := #[] }, { accessFlags := 74, nameIndex := 175, descriptorIndex := 176, attributes := #[] }, { accessFlags := 10, nameIndex := 491, descriptorIndex := 222, attributes := #[] }, { accessFlags := 74, nameIndex := 29, descriptorIndex := 30, attributes := #[] }, { accessFlags := 74, nameIndex := 154, descriptorIndex := 155, attributes := #[] }, { accessFlags := 10, nameIndex := 217, descriptorIndex := 218, attributes := #[] }, { accessFlags := 10, nameIndex := 221, descriptorIndex := 222, attributes := #[] }, { accessFlags := 8, nameIndex := 562, descriptorIndex := 563, attributes := #[] }])
  fields := #[{ name := "in", type := (.object "java/io/InputStream"), accessFlags := 25, slot := 0, constantValue := 0 }, { name := "out", type := (.object "java/io/PrintStream"), accessFlags := 25, slot := 1, constantValue := 0 }, { name := "err", type := (.object "java/io/PrintStream"), accessFlags := 25, slot := 2, constantValue := 0 }, { name := "initialIn", type := (.object "java/io/InputStream"), accessFlags := 10, slot := 3, constantValue := 0 }, { name := "NEVER", type := .int, accessFlags := 26, slot := 4, constantValue := 0 }, { name := "MAYBE", type := .int, accessFlags := 26, slot := 5, constantValue := 0 }, { name := "allowSecurityManager", type := .int, accessFlags := 10, slot := 6, constantValue := 0 }, { name := "security", type := (.object "java/lang/SecurityManager"), accessFlags := 74, slot := 7, constantValue := 0 }, { name := "notSupportedJnuEncoding", type := (.object "java/lang/String"), accessFlags := 10, slot := 8, constantValue := 0 }, { name := "cons", type := (.object "java/io/Console"), accessFlags := 74, slot := 9, constantValue := 0 }, { name := "initialErrStream", type := (.object "java/io/PrintStream"), accessFlags := 74, slot := 10, constantValue := 0 }, { name := "props", type := (.object "java/util/Properties"), accessFlags := 10, slot := 11, constantValue := 0 }, { name := "lineSeparator", type := (.object "java/lang/String"), accessFlags := 10, slot := 12, constantValue := 0 }, { name := "bootLayer", type := (.object "java/lang/ModuleLayer"), accessFlags := 8, slot := 13, constantValue := 0 }]
  methods := #[k10m0, k10m1]
  instanceTypes := #[]
  staticTypes := #[(.object "java/io/InputStream"), (.object "java/io/PrintStream"), (.object "java/io/PrintStream"), (.object "java/io/InputStream"), .int, .int, .int, (.object "java/lang/SecurityManager"), (.object "java/lang/String"), (.object "java/io/Console"), (.object "java/io/PrintStream"), (.object "java/util/Properties"), (.object "java/lang/String"), (.object "java/lang/ModuleLayer")]
  resolved := Array.replicate 834 none
  statics := none }

def pool11 : Array CpInfo := pool [(1, .class_ 2), (0, u "java/lang/Math"), (1, .class_ 6), (1, u "java/lang/Object"), (0, u "<init>"), (0, u "()V"), (89, .class_ 100), (1, u "java/lang/Math$RandomNumberGeneratorHolder"), (20, u "(JJ)J"), (50, u "negativeZeroFloatBits"), (0, u "J"), (2, u "negativeZeroDoubleBits"), (21, u "max"), (2, u "min"), (43, u "$assertionsDisabled"), (0, u "Z"), (91, u "twoToTheDoubleScaleDown"), (0, u "D"), (4, u "twoToTheDoubleScaleUp"), (9, u "E"), (3, u "PI"), (2, u "TAU"), (2, u "DEGREES_TO_RADIANS"), (0, u "RADIANS_TO_DEGREES")] 94

def k11m0 : Method := { name := "<init>", desc := "()V", sig := { parameters := [], returnType := none }, accessFlags := 2, code := none }
def k11c1 : Code := { maxStack := 4, maxLocals := 4, code := jdk_29_method_66_code, exceptionTable := #[], attributes := #[] }
def k11m1 : Method := { name := "max", desc := "(JJ)J", sig := { parameters := [.long, .long], returnType := some .long }, accessFlags := 9, code := some k11c1 }
def k11c2 : Code := { maxStack := 4, maxLocals := 4, code := jdk_29_method_70_code, exceptionTable := #[], attributes := #[] }
def k11m2 : Method := { name := "min", desc := "(JJ)J", sig := { parameters := [.long, .long], returnType := some .long }, accessFlags := 9, code := some k11c2 }
/-- java/lang/Math -/
def k11 : Class := { plain "java/lang/Math" (some 0) with
  accessFlags := 49
  interfaces := #[]
  cf := some (fileOf pool11 1 #[.nestMembers #[98]] #[{ accessFlags := 2, nameIndex := 7, descriptorIndex := 8, attributes := #[] }, { accessFlags := 9, nameIndex := 198, descriptorIndex := 121, attributes := #[] }, { accessFlags := 9, nameIndex := 201, descriptorIndex := 121, attributes := #[] }] 49 4 #[] #[{ accessFlags := 25, nameIndex := 354, descriptorIndex := 339, attributes := #[] }, { accessFlags := 25, nameIndex := 358, descriptorIndex := 339, attributes := #[] }, { accessFlags := 25, nameIndex := 361, descriptorIndex := 339, attributes := #[] }, { accessFlags := 26, nameIndex := 364, descriptorIndex := 339, attributes := #[] }, { accessFlags := 26, nameIndex := 365, descriptorIndex := 339, attributes := #[] }, { accessFlags := 26, nameIndex := 172, descriptorIndex := 173, attributes := #[] }, { accessFlags := 26, nameIndex := 176, descriptorIndex := 173, attributes := #[] }, { accessFlags := 8, nameIndex := 344, descriptorIndex := 339, attributes := #[] }, { accessFlags := 8, nameIndex := 338, descriptorIndex := 339, attributes := #[] }, { accessFlags := 4120, nameIndex := 245, descriptorIndex := 246, attributes := #[] }])
  fields := #[{ name := "E", type := .double, accessFlags := 25, slot := 0, constantValue := 0 }, { name := "PI", type := .double, accessFlags := 25, slot := 1, constantValue := 0 }, { name := "TAU", type := .double, accessFlags := 25, slot := 2, constantValue := 0 }, { name := "DEGREES_TO_RADIANS", type := .double, accessFlags := 26, slot := 3, constantValue := 0 }, { name := "RADIANS_TO_DEGREES", type := .double, accessFlags := 26, slot := 4, constantValue := 0 }, { name := "negativeZeroFloatBits", type := .long, accessFlags := 26, slot := 5, constantValue := 0 }, { name := "negativeZeroDoubleBits", type := .long, accessFlags := 26, slot := 6, constantValue := 0 }, { name := "twoToTheDoubleScaleUp", type := .double, accessFlags := 8, slot := 7, constantValue := 0 }, { name := "twoToTheDoubleScaleDown", type := .double, accessFlags := 8, slot := 8, constantValue := 0 }, { name := "$assertionsDisabled", type := .boolean, accessFlags := 4120, slot := 9, constantValue := 0 }]
  methods := #[k11m0, k11m1, k11m2]
  instanceTypes := #[]
  staticTypes := #[.double, .double, .double, .double, .double, .long, .long, .double, .double, .boolean]
  resolved := Array.replicate 460 none
  statics := none }

def pool12 : Array CpInfo := pool [(1, u "java/lang/Cloneable"), (0, .class_ 1), (0, u "java/lang/Object"), (0, .class_ 3)] 3

/-- java/lang/Cloneable -/
def k12 : Class := { plain "java/lang/Cloneable" (some 0) with
  accessFlags := 1537
  interfaces := #[]
  cf := some (fileOf pool12 2 #[] #[] 1537 4 #[] #[])
  fields := #[]
  methods := #[]
  instanceTypes := #[]
  staticTypes := #[]
  resolved := Array.replicate 8 none
  statics := none }

/-- the primitive byte -/
def k13 : Class := { plain "byte" none with kind := .primitive 'B', accessFlags := 0x411 }
/-- [B -/
def k14 : Class := { plain "[B" (some 0) with kind := .array 13 .byte, interfaces := #[12, 5], accessFlags := 1041 }

/-- the primitive int -/
def k15 : Class := { plain "int" none with kind := .primitive 'I', accessFlags := 0x411 }
/-- [I -/
def k16 : Class := { plain "[I" (some 0) with kind := .array 15 .int, interfaces := #[12, 5], accessFlags := 1041 }

/-- the primitive long -/
def k17 : Class := { plain "long" none with kind := .primitive 'J', accessFlags := 0x411 }
/-- [J -/
def k18 : Class := { plain "[J" (some 0) with kind := .array 17 .long, interfaces := #[12, 5], accessFlags := 1041 }

/-- [Lcorro/core/Level; -/
def k19 : Class := { plain "[Lcorro/core/Level;" (some 0) with kind := .array 8 (.object "corro/core/Level"), interfaces := #[12, 5], accessFlags := 1041 }

def heap : Heap := #[{ cls := 7, slots := #[.ref 2, .ref 1, .null], vm := .statics 7 },
  { cls := 7, slots := #[.null, .int 1, .int 0], vm := .none },
  { cls := 7, slots := #[.null, .int 0, .int 0], vm := .none }]
def classes : Array Class := #[k0, k1, k2, k3, k4, k5, k6, k7, k8, k9, k10, k11, k12, k13, k14, k15, k16, k17, k18, k19]
def interned : List (Array UInt16 × Addr) := []
def slotsUsed : Nat := 9
def theMethod : MethodId := ⟨1, 1⟩
def args0 : Array Value := #[.int 5, .long 5, .long 5, .long 5]
def aboutOver (below : List Frame) : State where
  vm := { classes := classes, interned := interned.toArray }
  heap := heap
  slotsUsed := slotsUsed
  threads := #[{ frames := .invoking theMethod args0 :: below }]
def below0 : List Frame := [.native { method := ⟨0, 0⟩, args := #[] }]
def about1 : State := aboutOver below0
def p0 : Program := .bare "" "" ""
def e0 : Env := launch0.env 0 0 0
theorem w_frames : about1.frames = Frame.invoking theMethod args0 :: below0 := rfl
set_option maxRecDepth 65536 in
theorem w_args : argsFit about1.vm theMethod args0 = true := by decide +kernel
set_option maxRecDepth 65536 in
theorem w_heap : heapFits about1 = true := by decide +kernel
set_option maxRecDepth 65536 in
theorem w_runnable : about1.curStatus? = some .runnable := by decide +kernel
set_option maxRecDepth 65536 in
theorem w_alone : about1.alone = true := by decide +kernel
set_option maxRecDepth 65536 in
theorem w_named : about1.methodNamed? x = some theMethod := by decide +kernel
set_option maxRecDepth 65536 in
theorem w_hears : about1.hears theMethod below0 = true := by decide +kernel
set_option maxRecDepth 65536 in
theorem w_ripe : about1.ripe theMethod args0 below0 = true := by decide +kernel
theorem w_running : about1.status = .running := rfl
set_option maxRecDepth 65536 in
theorem w_room : about1.hasRoom e0.platform room_1 = true :=
  launch0.hasRoom_least _ room_1 (by decide +kernel) (by decide +kernel) (by decide +kernel) (by decide +kernel) (by decide +kernel) (by decide +kernel)
theorem allAtoms_all (ts : List Jvm.Cond) (a : Array Jvm.Value) (st : Jvm.State) : (allAtoms ts).before a st = ts.all (fun c => c.before a st) := by
  induction ts with
  | nil => rfl
  | cons c t ih =>
    show (Jvm.Cond.and c (allAtoms t)).before a st = _
    rw [Jvm.Cond.before_and, ih, List.all_cons]
def words1 : List Jvm.Cond := Jvm.Cond.code x code maxLocals ret :: tables_1
/-- a 'code' word, met by the world's own term for the bytes: nothing is compared byte by byte -/
theorem code_word {y : MethodName} {bytes : ByteArray} {mx : Nat} {rt : Option FieldType} {a : Array Value} {s : State} {m : MethodId} {meth : Method} {c : Code} (h1 : s.methodNamed? y = some m) (h2 : s.vm.method? m = some meth) (h3 : meth.code = some c) (h4 : c.code = bytes)
    (h5 : (c.maxLocals == mx && c.exceptionTable.isEmpty && decide (c.maxStack ≤ mostOperands) && decide (meth.sig.returnType = rt) && !meth.locks && decide (parseMethodDescriptor y.desc = some meth.sig)) = true) : (Jvm.Cond.code y bytes mx rt).before a s = true := by
  simp only [Bool.and_eq_true, beq_iff_eq, Bool.not_eq_true', decide_eq_true_eq] at h5
  obtain ⟨⟨⟨⟨⟨g1, g2⟩, g3⟩, g4⟩, g5⟩, g6⟩ := h5
  simp [Cond.before, Cond.holds, Cond.value, h1, h2, h3, h4, g1, g2, g3, g4, g5, g6]
def isCode : Jvm.Cond → Bool
  | .code _ _ _ _ => true
  | _ => false
theorem all_split {L : List Jvm.Cond} {P : Jvm.Cond → Bool} (h1 : L.all (fun c => isCode c || P c) = true) (h2 : ∀ c ∈ L.filter isCode, P c = true) : L.all P = true := by
  refine List.all_eq_true.mpr fun c hc => ?_
  have h := List.all_eq_true.mp h1 c hc
  rcases Bool.eq_false_or_eq_true (isCode c) with hi | hi
  · exact h2 c (List.mem_filter.mpr ⟨hc, hi⟩)
  · simpa [hi] using h
set_option maxRecDepth 65536 in
theorem w_c0 : (Jvm.Cond.code x code maxLocals ret).before args0 about1 = true := code_word (m := ⟨1, 1⟩) (meth := k1m1) (c := k1c1) (by decide +kernel) rfl rfl rfl (by decide +kernel)
set_option maxRecDepth 65536 in
theorem w_c1 : (Jvm.Cond.code ({ cls := "corro/core/LimitLevelsPricePinLaw", name := "positive", desc := "(J)J" } : Jvm.MethodName) method_3_code (4 : Nat) (Option.some Jvm.ClassFile.FieldType.long)).before args0 about1 = true := code_word (m := ⟨1, 2⟩) (meth := k1m2) (c := k1c2) (by decide +kernel) rfl rfl rfl (by decide +kernel)
set_option maxRecDepth 65536 in
theorem w_c2 : (Jvm.Cond.code ({ cls := "corro/core/LimitLevels", name := "<init>", desc := "(Lcorro/core/Side;)V" } : Jvm.MethodName) prog_14_method_1_code (2 : Nat) (Option.none : Option Jvm.ClassFile.FieldType)).before args0 about1 = true := code_word (m := ⟨2, 0⟩) (meth := k2m0) (c := k2c0) (by decide +kernel) rfl rfl rfl (by decide +kernel)
set_option maxRecDepth 65536 in
theorem w_c3 : (Jvm.Cond.code ({ cls := "java/lang/Object", name := "<init>", desc := "()V" } : Jvm.MethodName) object_method_1_code (1 : Nat) (Option.none : Option Jvm.ClassFile.FieldType)).before args0 about1 = true := code_word (m := ⟨0, 0⟩) (meth := k0m0) (c := k0c0) (by decide +kernel) rfl rfl rfl (by decide +kernel)
set_option maxRecDepth 65536 in
theorem w_c4 : (Jvm.Cond.code ({ cls := "corro/core/LimitLevels", name := "getOrAdd", desc := "(J)Lcorro/core/Level;" } : Jvm.MethodName) prog_14_method_7_code (5 : Nat) (Option.some (Jvm.ClassFile.FieldType.object "corro/core/Level"))).before args0 about1 = true := code_word (m := ⟨2, 3⟩) (meth := k2m3) (c := k2c3) (by decide +kernel) rfl rfl rfl (by decide +kernel)
set_option maxRecDepth 65536 in
theorem w_c5 : (Jvm.Cond.code ({ cls := "corro/core/LimitLevels", name := "search", desc := "(J)I" } : Jvm.MethodName) prog_14_method_10_code (3 : Nat) (Option.some Jvm.ClassFile.FieldType.int)).before args0 about1 = true := code_word (m := ⟨2, 4⟩) (meth := k2m4) (c := k2c4) (by decide +kernel) rfl rfl rfl (by decide +kernel)
set_option maxRecDepth 65536 in
theorem w_c6 : (Jvm.Cond.code ({ cls := "corro/core/LimitLevels", name := "key", desc := "(J)J" } : Jvm.MethodName) prog_14_method_11_code (3 : Nat) (Option.some Jvm.ClassFile.FieldType.long)).before args0 about1 = true := code_word (m := ⟨2, 5⟩) (meth := k2m5) (c := k2c5) (by decide +kernel) rfl rfl rfl (by decide +kernel)
set_option maxRecDepth 65536 in
theorem w_c7 : (Jvm.Cond.code ({ cls := "java/util/Arrays", name := "binarySearch", desc := "([JIIJ)I" } : Jvm.MethodName) jdk_65_method_55_code (5 : Nat) (Option.some Jvm.ClassFile.FieldType.int)).before args0 about1 = true := code_word (m := ⟨9, 2⟩) (meth := k9m2) (c := k9c2) (by decide +kernel) rfl rfl rfl (by decide +kernel)
set_option maxRecDepth 65536 in
theorem w_c8 : (Jvm.Cond.code ({ cls := "java/util/Arrays", name := "rangeCheck", desc := "(III)V" } : Jvm.MethodName) jdk_65_method_30_code (3 : Nat) (Option.none : Option Jvm.ClassFile.FieldType)).before args0 about1 = true := code_word (m := ⟨9, 1⟩) (meth := k9m1) (c := k9c1) (by decide +kernel) rfl rfl rfl (by decide +kernel)
set_option maxRecDepth 65536 in
theorem w_c9 : (Jvm.Cond.code ({ cls := "java/util/Arrays", name := "binarySearch0", desc := "([JIIJ)I" } : Jvm.MethodName) jdk_65_method_56_code (10 : Nat) (Option.some Jvm.ClassFile.FieldType.int)).before args0 about1 = true := code_word (m := ⟨9, 3⟩) (meth := k9m3) (c := k9c3) (by decide +kernel) rfl rfl rfl (by decide +kernel)
set_option maxRecDepth 65536 in
theorem w_c10 : (Jvm.Cond.code ({ cls := "corro/core/Level", name := "<init>", desc := "()V" } : Jvm.MethodName) prog_13_method_1_code (1 : Nat) (Option.none : Option Jvm.ClassFile.FieldType)).before args0 about1 = true := code_word (m := ⟨8, 0⟩) (meth := k8m0) (c := k8c0) (by decide +kernel) rfl rfl rfl (by decide +kernel)
set_option maxRecDepth 65536 in
theorem w_c11 : (Jvm.Cond.code ({ cls := "java/lang/Math", name := "max", desc := "(JJ)J" } : Jvm.MethodName) jdk_29_method_66_code (4 : Nat) (Option.some Jvm.ClassFile.FieldType.long)).before args0 about1 = true := code_word (m := ⟨11, 1⟩) (meth := k11m1) (c := k11c1) (by decide +kernel) rfl rfl rfl (by decide +kernel)
set_option maxRecDepth 65536 in
theorem w_c12 : (Jvm.Cond.code ({ cls := "java/lang/Math", name := "min", desc := "(JJ)J" } : Jvm.MethodName) jdk_29_method_70_code (4 : Nat) (Option.some Jvm.ClassFile.FieldType.long)).before args0 about1 = true := code_word (m := ⟨11, 2⟩) (meth := k11m2) (c := k11c2) (by decide +kernel) rfl rfl rfl (by decide +kernel)
set_option maxRecDepth 65536 in
theorem w_c13 : (Jvm.Cond.code ({ cls := "corro/core/LimitLevels", name := "size", desc := "()I" } : Jvm.MethodName) prog_14_method_2_code (1 : Nat) (Option.some Jvm.ClassFile.FieldType.int)).before args0 about1 = true := code_word (m := ⟨2, 1⟩) (meth := k2m1) (c := k2c1) (by decide +kernel) rfl rfl rfl (by decide +kernel)
set_option maxRecDepth 65536 in
theorem w_c14 : (Jvm.Cond.code ({ cls := "corro/core/LimitLevels", name := "price", desc := "(I)J" } : Jvm.MethodName) prog_14_method_3_code (4 : Nat) (Option.some Jvm.ClassFile.FieldType.long)).before args0 about1 = true := code_word (m := ⟨2, 2⟩) (meth := k2m2) (c := k2c2) (by decide +kernel) rfl rfl rfl (by decide +kernel)
def codes1 : List Jvm.Cond := [Jvm.Cond.code x code maxLocals ret, Jvm.Cond.code ({ cls := "corro/core/LimitLevelsPricePinLaw", name := "positive", desc := "(J)J" } : Jvm.MethodName) method_3_code (4 : Nat) (Option.some Jvm.ClassFile.FieldType.long), Jvm.Cond.code ({ cls := "corro/core/LimitLevels", name := "<init>", desc := "(Lcorro/core/Side;)V" } : Jvm.MethodName) prog_14_method_1_code (2 : Nat) (Option.none : Option Jvm.ClassFile.FieldType), Jvm.Cond.code ({ cls := "java/lang/Object", name := "<init>", desc := "()V" } : Jvm.MethodName) object_method_1_code (1 : Nat) (Option.none : Option Jvm.ClassFile.FieldType), Jvm.Cond.code ({ cls := "corro/core/LimitLevels", name := "getOrAdd", desc := "(J)Lcorro/core/Level;" } : Jvm.MethodName) prog_14_method_7_code (5 : Nat) (Option.some (Jvm.ClassFile.FieldType.object "corro/core/Level")), Jvm.Cond.code ({ cls := "corro/core/LimitLevels", name := "search", desc := "(J)I" } : Jvm.MethodName) prog_14_method_10_code (3 : Nat) (Option.some Jvm.ClassFile.FieldType.int), Jvm.Cond.code ({ cls := "corro/core/LimitLevels", name := "key", desc := "(J)J" } : Jvm.MethodName) prog_14_method_11_code (3 : Nat) (Option.some Jvm.ClassFile.FieldType.long), Jvm.Cond.code ({ cls := "java/util/Arrays", name := "binarySearch", desc := "([JIIJ)I" } : Jvm.MethodName) jdk_65_method_55_code (5 : Nat) (Option.some Jvm.ClassFile.FieldType.int), Jvm.Cond.code ({ cls := "java/util/Arrays", name := "rangeCheck", desc := "(III)V" } : Jvm.MethodName) jdk_65_method_30_code (3 : Nat) (Option.none : Option Jvm.ClassFile.FieldType), Jvm.Cond.code ({ cls := "java/util/Arrays", name := "binarySearch0", desc := "([JIIJ)I" } : Jvm.MethodName) jdk_65_method_56_code (10 : Nat) (Option.some Jvm.ClassFile.FieldType.int), Jvm.Cond.code ({ cls := "corro/core/Level", name := "<init>", desc := "()V" } : Jvm.MethodName) prog_13_method_1_code (1 : Nat) (Option.none : Option Jvm.ClassFile.FieldType), Jvm.Cond.code ({ cls := "java/lang/Math", name := "max", desc := "(JJ)J" } : Jvm.MethodName) jdk_29_method_66_code (4 : Nat) (Option.some Jvm.ClassFile.FieldType.long), Jvm.Cond.code ({ cls := "java/lang/Math", name := "min", desc := "(JJ)J" } : Jvm.MethodName) jdk_29_method_70_code (4 : Nat) (Option.some Jvm.ClassFile.FieldType.long), Jvm.Cond.code ({ cls := "corro/core/LimitLevels", name := "size", desc := "()I" } : Jvm.MethodName) prog_14_method_2_code (1 : Nat) (Option.some Jvm.ClassFile.FieldType.int), Jvm.Cond.code ({ cls := "corro/core/LimitLevels", name := "price", desc := "(I)J" } : Jvm.MethodName) prog_14_method_3_code (4 : Nat) (Option.some Jvm.ClassFile.FieldType.long)]
set_option maxRecDepth 65536 in
theorem codes_eq : words1.filter isCode = codes1 := rfl
theorem w_codes : ∀ c ∈ words1.filter isCode, c.before args0 about1 = true := by
  rw [codes_eq]
  intro c hc
  simp only [codes1, List.mem_cons, List.not_mem_nil, or_false] at hc
  rcases hc with rfl | rfl | rfl | rfl | rfl | rfl | rfl | rfl | rfl | rfl | rfl | rfl | rfl | rfl | rfl
  · exact w_c0
  · exact w_c1
  · exact w_c2
  · exact w_c3
  · exact w_c4
  · exact w_c5
  · exact w_c6
  · exact w_c7
  · exact w_c8
  · exact w_c9
  · exact w_c10
  · exact w_c11
  · exact w_c12
  · exact w_c13
  · exact w_c14
set_option maxRecDepth 65536 in
theorem w_t1 : (words1.take 24).all (fun c => isCode c || c.before args0 about1) = true := by decide +kernel
set_option maxRecDepth 65536 in
theorem w_t2 : ((words1.drop 24).take 24).all (fun c => isCode c || c.before args0 about1) = true := by decide +kernel
set_option maxRecDepth 65536 in
theorem w_t3 : (((words1.drop 24).drop 24).take 24).all (fun c => isCode c || c.before args0 about1) = true := by decide +kernel
set_option maxRecDepth 65536 in
theorem w_t4 : (((words1.drop 24).drop 24).drop 24).all (fun c => isCode c || c.before args0 about1) = true := by decide +kernel
theorem w_tables : (allAtoms (Jvm.Cond.code x code maxLocals ret :: tables_1)).before args0 about1 = true := by
  rw [allAtoms_all]
  show words1.all (fun c => c.before args0 about1) = true
  refine all_split ?_ w_codes
  rw [← List.take_append_drop 24 words1, List.all_append, w_t1, ← List.take_append_drop 24 (words1.drop 24), List.all_append, w_t2, ← List.take_append_drop 24 ((words1.drop 24).drop 24), List.all_append, w_t3, w_t4]
  rfl
set_option maxRecDepth 65536 in
theorem w_case : (Jvm.Cond.and given_1 narrow_1).before args0 about1 = true := by decide +kernel
theorem w_applies : (headSpec (Jvm.Cond.code x code maxLocals ret :: tables_1) room_1).applies x e0.platform about1 = true :=
  (Spec.applies_iff w_frames).mpr ⟨w_running, w_runnable, w_alone, w_named, w_hears, w_ripe, w_room, w_tables⟩
theorem atStart : AtStart classFile x code maxLocals ret World_1 tables_1 room_1 Calls_1 rest_1 Pre_1 launch0 p0 e0 about1 theMethod args0 below0 :=
  ⟨lists_1, trivial, launch0.admits_env _ _ _, launch0.least_env, fairChoices_fair.cas, fairChoices_fair.clock, w_frames, w_args, w_heap, w_applies, trivial, trivial, w_case⟩
end start1
theorem witness_1 : WitnessClaimed_1 := ⟨start1.p0, start1.e0, start1.about1, start1.theMethod, start1.args0, start1.below0, start1.atStart⟩
end Jvm.Pilot.@@N@@
